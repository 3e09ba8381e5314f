import PyProof.Rows.All
import Wide.All
import OpenK.AllK
import Wide.FinOn
import Lean
import PySem.Challenge.RW_te0043_03
set_option linter.all false
set_option maxRecDepth 1000000
set_option maxHeartbeats 0
set_option Elab.async false
namespace Mine
open PySem PySem.W PySem.W.X PySem.Spec PySem.Calls PyProof.Rows
instance : Nonempty World := ⟨⟨fun _ _ => 0, ⟨fun _ => 0, fun _ => 0, id, fun _ => 0, fun _ _ => 0, fun _ => false, fun _ => 0, .refcount, .text, fun _ => 0, fun _ => none, fun _ => false, fun _ _ _ => true, fun _ _ _ => false, true, fun _ => false, fun _ => none, fun _ => none, fun _ _ _ => 0, fun _ _ => none, fun _ => none, fun _ => (0, false, default), fun _ => none, id, fun _ => false⟩⟩⟩
instance : Nonempty Around := ⟨{}⟩
instance : Nonempty Shared := ⟨{}⟩
instance : Nonempty Params := ⟨(Classical.choice (inferInstance : Nonempty World)).params⟩
instance : Nonempty Setting := ⟨⟨default, Classical.choice inferInstance⟩⟩
instance : Nonempty Model := ⟨⟨denote table, default, Classical.choice inferInstance⟩⟩
noncomputable def ec {α : Type} [Nonempty α] (P : α → Prop) : α := Classical.epsilon fun a => ¬ P a
theorem ee1 {α : Type} [Nonempty α] {P : α → Prop} (h : P (ec P)) (a : α) : P a := Classical.byContradiction fun n => Classical.epsilon_spec (p := fun a => ¬ P a) ⟨a, n⟩ h
section
variable {a1 a2 a3 a4 a5 a6 a7 a8 a9 a10 a11 a12 a13 a14 a15 a16 a17 a18 a19 a20 a21 a22 a23 a24 a25 a26 a27 a28 : Type} [Nonempty a1] [Nonempty a2] [Nonempty a3] [Nonempty a4] [Nonempty a5] [Nonempty a6] [Nonempty a7] [Nonempty a8] [Nonempty a9] [Nonempty a10] [Nonempty a11] [Nonempty a12] [Nonempty a13] [Nonempty a14] [Nonempty a15] [Nonempty a16] [Nonempty a17] [Nonempty a18] [Nonempty a19] [Nonempty a20] [Nonempty a21] [Nonempty a22] [Nonempty a23] [Nonempty a24] [Nonempty a25] [Nonempty a26] [Nonempty a27] [Nonempty a28]
def et2 (P : a1 → a2 → Prop) (p : a1 × a2) : Prop := P p.1 p.2
theorem ee2 {P : a1 → a2 → Prop} (hh : et2 P (ec (et2 P))) : ∀ a b, P a b := fun a b => ee1 hh (a, b)
def et4 (P : a1 → a2 → a3 → a4 → Prop) (p : a1 × a2 × a3 × a4) : Prop := P p.1 p.2.1 p.2.2.1 p.2.2.2
theorem ee4 {P : a1 → a2 → a3 → a4 → Prop} (hh : et4 P (ec (et4 P))) : ∀ a b c d, P a b c d := fun a b c d => ee1 hh (a, b, c, d)
def et5 (P : a1 → a2 → a3 → a4 → a5 → Prop) (p : a1 × a2 × a3 × a4 × a5) : Prop := P p.1 p.2.1 p.2.2.1 p.2.2.2.1 p.2.2.2.2
theorem ee5 {P : a1 → a2 → a3 → a4 → a5 → Prop} (hh : et5 P (ec (et5 P))) : ∀ a b c d e, P a b c d e := fun a b c d e => ee1 hh (a, b, c, d, e)
def et6 (P : a1 → a2 → a3 → a4 → a5 → a6 → Prop) (p : a1 × a2 × a3 × a4 × a5 × a6) : Prop := P p.1 p.2.1 p.2.2.1 p.2.2.2.1 p.2.2.2.2.1 p.2.2.2.2.2
theorem ee6 {P : a1 → a2 → a3 → a4 → a5 → a6 → Prop} (hh : et6 P (ec (et6 P))) : ∀ a b c d e f, P a b c d e f := fun a b c d e f => ee1 hh (a, b, c, d, e, f)
def et7 (P : a1 → a2 → a3 → a4 → a5 → a6 → a7 → Prop) (p : a1 × a2 × a3 × a4 × a5 × a6 × a7) : Prop := P p.1 p.2.1 p.2.2.1 p.2.2.2.1 p.2.2.2.2.1 p.2.2.2.2.2.1 p.2.2.2.2.2.2
theorem ee7 {P : a1 → a2 → a3 → a4 → a5 → a6 → a7 → Prop} (hh : et7 P (ec (et7 P))) : ∀ a b c d e f g, P a b c d e f g := fun a b c d e f g => ee1 hh (a, b, c, d, e, f, g)
def et8 (P : a1 → a2 → a3 → a4 → a5 → a6 → a7 → a8 → Prop) (p : a1 × a2 × a3 × a4 × a5 × a6 × a7 × a8) : Prop := P p.1 p.2.1 p.2.2.1 p.2.2.2.1 p.2.2.2.2.1 p.2.2.2.2.2.1 p.2.2.2.2.2.2.1 p.2.2.2.2.2.2.2
theorem ee8 {P : a1 → a2 → a3 → a4 → a5 → a6 → a7 → a8 → Prop} (hh : et8 P (ec (et8 P))) : ∀ a b c d e f g h, P a b c d e f g h := fun a b c d e f g h => ee1 hh (a, b, c, d, e, f, g, h)
def et9 (P : a1 → a2 → a3 → a4 → a5 → a6 → a7 → a8 → a9 → Prop) (p : a1 × a2 × a3 × a4 × a5 × a6 × a7 × a8 × a9) : Prop := P p.1 p.2.1 p.2.2.1 p.2.2.2.1 p.2.2.2.2.1 p.2.2.2.2.2.1 p.2.2.2.2.2.2.1 p.2.2.2.2.2.2.2.1 p.2.2.2.2.2.2.2.2
theorem ee9 {P : a1 → a2 → a3 → a4 → a5 → a6 → a7 → a8 → a9 → Prop} (hh : et9 P (ec (et9 P))) : ∀ a b c d e f g h i, P a b c d e f g h i := fun a b c d e f g h i => ee1 hh (a, b, c, d, e, f, g, h, i)
def et10 (P : a1 → a2 → a3 → a4 → a5 → a6 → a7 → a8 → a9 → a10 → Prop) (p : a1 × a2 × a3 × a4 × a5 × a6 × a7 × a8 × a9 × a10) : Prop := P p.1 p.2.1 p.2.2.1 p.2.2.2.1 p.2.2.2.2.1 p.2.2.2.2.2.1 p.2.2.2.2.2.2.1 p.2.2.2.2.2.2.2.1 p.2.2.2.2.2.2.2.2.1 p.2.2.2.2.2.2.2.2.2
theorem ee10 {P : a1 → a2 → a3 → a4 → a5 → a6 → a7 → a8 → a9 → a10 → Prop} (hh : et10 P (ec (et10 P))) : ∀ a b c d e f g h i j, P a b c d e f g h i j := fun a b c d e f g h i j => ee1 hh (a, b, c, d, e, f, g, h, i, j)
def et11 (P : a1 → a2 → a3 → a4 → a5 → a6 → a7 → a8 → a9 → a10 → a11 → Prop) (p : a1 × a2 × a3 × a4 × a5 × a6 × a7 × a8 × a9 × a10 × a11) : Prop := P p.1 p.2.1 p.2.2.1 p.2.2.2.1 p.2.2.2.2.1 p.2.2.2.2.2.1 p.2.2.2.2.2.2.1 p.2.2.2.2.2.2.2.1 p.2.2.2.2.2.2.2.2.1 p.2.2.2.2.2.2.2.2.2.1 p.2.2.2.2.2.2.2.2.2.2
theorem ee11 {P : a1 → a2 → a3 → a4 → a5 → a6 → a7 → a8 → a9 → a10 → a11 → Prop} (hh : et11 P (ec (et11 P))) : ∀ a b c d e f g h i j k, P a b c d e f g h i j k := fun a b c d e f g h i j k => ee1 hh (a, b, c, d, e, f, g, h, i, j, k)
def et12 (P : a1 → a2 → a3 → a4 → a5 → a6 → a7 → a8 → a9 → a10 → a11 → a12 → Prop) (p : a1 × a2 × a3 × a4 × a5 × a6 × a7 × a8 × a9 × a10 × a11 × a12) : Prop := P p.1 p.2.1 p.2.2.1 p.2.2.2.1 p.2.2.2.2.1 p.2.2.2.2.2.1 p.2.2.2.2.2.2.1 p.2.2.2.2.2.2.2.1 p.2.2.2.2.2.2.2.2.1 p.2.2.2.2.2.2.2.2.2.1 p.2.2.2.2.2.2.2.2.2.2.1 p.2.2.2.2.2.2.2.2.2.2.2
theorem ee12 {P : a1 → a2 → a3 → a4 → a5 → a6 → a7 → a8 → a9 → a10 → a11 → a12 → Prop} (hh : et12 P (ec (et12 P))) : ∀ a b c d e f g h i j k l, P a b c d e f g h i j k l := fun a b c d e f g h i j k l => ee1 hh (a, b, c, d, e, f, g, h, i, j, k, l)
def et13 (P : a1 → a2 → a3 → a4 → a5 → a6 → a7 → a8 → a9 → a10 → a11 → a12 → a13 → Prop) (p : a1 × a2 × a3 × a4 × a5 × a6 × a7 × a8 × a9 × a10 × a11 × a12 × a13) : Prop := P p.1 p.2.1 p.2.2.1 p.2.2.2.1 p.2.2.2.2.1 p.2.2.2.2.2.1 p.2.2.2.2.2.2.1 p.2.2.2.2.2.2.2.1 p.2.2.2.2.2.2.2.2.1 p.2.2.2.2.2.2.2.2.2.1 p.2.2.2.2.2.2.2.2.2.2.1 p.2.2.2.2.2.2.2.2.2.2.2.1 p.2.2.2.2.2.2.2.2.2.2.2.2
theorem ee13 {P : a1 → a2 → a3 → a4 → a5 → a6 → a7 → a8 → a9 → a10 → a11 → a12 → a13 → Prop} (hh : et13 P (ec (et13 P))) : ∀ a b c d e f g h i j k l m, P a b c d e f g h i j k l m := fun a b c d e f g h i j k l m => ee1 hh (a, b, c, d, e, f, g, h, i, j, k, l, m)
def et14 (P : a1 → a2 → a3 → a4 → a5 → a6 → a7 → a8 → a9 → a10 → a11 → a12 → a13 → a14 → Prop) (p : a1 × a2 × a3 × a4 × a5 × a6 × a7 × a8 × a9 × a10 × a11 × a12 × a13 × a14) : Prop := P p.1 p.2.1 p.2.2.1 p.2.2.2.1 p.2.2.2.2.1 p.2.2.2.2.2.1 p.2.2.2.2.2.2.1 p.2.2.2.2.2.2.2.1 p.2.2.2.2.2.2.2.2.1 p.2.2.2.2.2.2.2.2.2.1 p.2.2.2.2.2.2.2.2.2.2.1 p.2.2.2.2.2.2.2.2.2.2.2.1 p.2.2.2.2.2.2.2.2.2.2.2.2.1 p.2.2.2.2.2.2.2.2.2.2.2.2.2
theorem ee14 {P : a1 → a2 → a3 → a4 → a5 → a6 → a7 → a8 → a9 → a10 → a11 → a12 → a13 → a14 → Prop} (hh : et14 P (ec (et14 P))) : ∀ a b c d e f g h i j k l m n, P a b c d e f g h i j k l m n := fun a b c d e f g h i j k l m n => ee1 hh (a, b, c, d, e, f, g, h, i, j, k, l, m, n)
def et15 (P : a1 → a2 → a3 → a4 → a5 → a6 → a7 → a8 → a9 → a10 → a11 → a12 → a13 → a14 → a15 → Prop) (p : a1 × a2 × a3 × a4 × a5 × a6 × a7 × a8 × a9 × a10 × a11 × a12 × a13 × a14 × a15) : Prop := P p.1 p.2.1 p.2.2.1 p.2.2.2.1 p.2.2.2.2.1 p.2.2.2.2.2.1 p.2.2.2.2.2.2.1 p.2.2.2.2.2.2.2.1 p.2.2.2.2.2.2.2.2.1 p.2.2.2.2.2.2.2.2.2.1 p.2.2.2.2.2.2.2.2.2.2.1 p.2.2.2.2.2.2.2.2.2.2.2.1 p.2.2.2.2.2.2.2.2.2.2.2.2.1 p.2.2.2.2.2.2.2.2.2.2.2.2.2.1 p.2.2.2.2.2.2.2.2.2.2.2.2.2.2
theorem ee15 {P : a1 → a2 → a3 → a4 → a5 → a6 → a7 → a8 → a9 → a10 → a11 → a12 → a13 → a14 → a15 → Prop} (hh : et15 P (ec (et15 P))) : ∀ a b c d e f g h i j k l m n o, P a b c d e f g h i j k l m n o := fun a b c d e f g h i j k l m n o => ee1 hh (a, b, c, d, e, f, g, h, i, j, k, l, m, n, o)
def et16 (P : a1 → a2 → a3 → a4 → a5 → a6 → a7 → a8 → a9 → a10 → a11 → a12 → a13 → a14 → a15 → a16 → Prop) (p : a1 × a2 × a3 × a4 × a5 × a6 × a7 × a8 × a9 × a10 × a11 × a12 × a13 × a14 × a15 × a16) : Prop := P p.1 p.2.1 p.2.2.1 p.2.2.2.1 p.2.2.2.2.1 p.2.2.2.2.2.1 p.2.2.2.2.2.2.1 p.2.2.2.2.2.2.2.1 p.2.2.2.2.2.2.2.2.1 p.2.2.2.2.2.2.2.2.2.1 p.2.2.2.2.2.2.2.2.2.2.1 p.2.2.2.2.2.2.2.2.2.2.2.1 p.2.2.2.2.2.2.2.2.2.2.2.2.1 p.2.2.2.2.2.2.2.2.2.2.2.2.2.1 p.2.2.2.2.2.2.2.2.2.2.2.2.2.2.1 p.2.2.2.2.2.2.2.2.2.2.2.2.2.2.2
theorem ee16 {P : a1 → a2 → a3 → a4 → a5 → a6 → a7 → a8 → a9 → a10 → a11 → a12 → a13 → a14 → a15 → a16 → Prop} (hh : et16 P (ec (et16 P))) : ∀ a b c d e f g h i j k l m n o p, P a b c d e f g h i j k l m n o p := fun a b c d e f g h i j k l m n o p => ee1 hh (a, b, c, d, e, f, g, h, i, j, k, l, m, n, o, p)
def et17 (P : a1 → a2 → a3 → a4 → a5 → a6 → a7 → a8 → a9 → a10 → a11 → a12 → a13 → a14 → a15 → a16 → a17 → Prop) (p : a1 × a2 × a3 × a4 × a5 × a6 × a7 × a8 × a9 × a10 × a11 × a12 × a13 × a14 × a15 × a16 × a17) : Prop := P p.1 p.2.1 p.2.2.1 p.2.2.2.1 p.2.2.2.2.1 p.2.2.2.2.2.1 p.2.2.2.2.2.2.1 p.2.2.2.2.2.2.2.1 p.2.2.2.2.2.2.2.2.1 p.2.2.2.2.2.2.2.2.2.1 p.2.2.2.2.2.2.2.2.2.2.1 p.2.2.2.2.2.2.2.2.2.2.2.1 p.2.2.2.2.2.2.2.2.2.2.2.2.1 p.2.2.2.2.2.2.2.2.2.2.2.2.2.1 p.2.2.2.2.2.2.2.2.2.2.2.2.2.2.1 p.2.2.2.2.2.2.2.2.2.2.2.2.2.2.2.1 p.2.2.2.2.2.2.2.2.2.2.2.2.2.2.2.2
theorem ee17 {P : a1 → a2 → a3 → a4 → a5 → a6 → a7 → a8 → a9 → a10 → a11 → a12 → a13 → a14 → a15 → a16 → a17 → Prop} (hh : et17 P (ec (et17 P))) : ∀ a b c d e f g h i j k l m n o p q, P a b c d e f g h i j k l m n o p q := fun a b c d e f g h i j k l m n o p q => ee1 hh (a, b, c, d, e, f, g, h, i, j, k, l, m, n, o, p, q)
def et18 (P : a1 → a2 → a3 → a4 → a5 → a6 → a7 → a8 → a9 → a10 → a11 → a12 → a13 → a14 → a15 → a16 → a17 → a18 → Prop) (p : a1 × a2 × a3 × a4 × a5 × a6 × a7 × a8 × a9 × a10 × a11 × a12 × a13 × a14 × a15 × a16 × a17 × a18) : Prop := P p.1 p.2.1 p.2.2.1 p.2.2.2.1 p.2.2.2.2.1 p.2.2.2.2.2.1 p.2.2.2.2.2.2.1 p.2.2.2.2.2.2.2.1 p.2.2.2.2.2.2.2.2.1 p.2.2.2.2.2.2.2.2.2.1 p.2.2.2.2.2.2.2.2.2.2.1 p.2.2.2.2.2.2.2.2.2.2.2.1 p.2.2.2.2.2.2.2.2.2.2.2.2.1 p.2.2.2.2.2.2.2.2.2.2.2.2.2.1 p.2.2.2.2.2.2.2.2.2.2.2.2.2.2.1 p.2.2.2.2.2.2.2.2.2.2.2.2.2.2.2.1 p.2.2.2.2.2.2.2.2.2.2.2.2.2.2.2.2.1 p.2.2.2.2.2.2.2.2.2.2.2.2.2.2.2.2.2
theorem ee18 {P : a1 → a2 → a3 → a4 → a5 → a6 → a7 → a8 → a9 → a10 → a11 → a12 → a13 → a14 → a15 → a16 → a17 → a18 → Prop} (hh : et18 P (ec (et18 P))) : ∀ a b c d e f g h i j k l m n o p q r, P a b c d e f g h i j k l m n o p q r := fun a b c d e f g h i j k l m n o p q r => ee1 hh (a, b, c, d, e, f, g, h, i, j, k, l, m, n, o, p, q, r)
def et19 (P : a1 → a2 → a3 → a4 → a5 → a6 → a7 → a8 → a9 → a10 → a11 → a12 → a13 → a14 → a15 → a16 → a17 → a18 → a19 → Prop) (p : a1 × a2 × a3 × a4 × a5 × a6 × a7 × a8 × a9 × a10 × a11 × a12 × a13 × a14 × a15 × a16 × a17 × a18 × a19) : Prop := P p.1 p.2.1 p.2.2.1 p.2.2.2.1 p.2.2.2.2.1 p.2.2.2.2.2.1 p.2.2.2.2.2.2.1 p.2.2.2.2.2.2.2.1 p.2.2.2.2.2.2.2.2.1 p.2.2.2.2.2.2.2.2.2.1 p.2.2.2.2.2.2.2.2.2.2.1 p.2.2.2.2.2.2.2.2.2.2.2.1 p.2.2.2.2.2.2.2.2.2.2.2.2.1 p.2.2.2.2.2.2.2.2.2.2.2.2.2.1 p.2.2.2.2.2.2.2.2.2.2.2.2.2.2.1 p.2.2.2.2.2.2.2.2.2.2.2.2.2.2.2.1 p.2.2.2.2.2.2.2.2.2.2.2.2.2.2.2.2.1 p.2.2.2.2.2.2.2.2.2.2.2.2.2.2.2.2.2.1 p.2.2.2.2.2.2.2.2.2.2.2.2.2.2.2.2.2.2
theorem ee19 {P : a1 → a2 → a3 → a4 → a5 → a6 → a7 → a8 → a9 → a10 → a11 → a12 → a13 → a14 → a15 → a16 → a17 → a18 → a19 → Prop} (hh : et19 P (ec (et19 P))) : ∀ a b c d e f g h i j k l m n o p q r s, P a b c d e f g h i j k l m n o p q r s := fun a b c d e f g h i j k l m n o p q r s => ee1 hh (a, b, c, d, e, f, g, h, i, j, k, l, m, n, o, p, q, r, s)
def et20 (P : a1 → a2 → a3 → a4 → a5 → a6 → a7 → a8 → a9 → a10 → a11 → a12 → a13 → a14 → a15 → a16 → a17 → a18 → a19 → a20 → Prop) (p : a1 × a2 × a3 × a4 × a5 × a6 × a7 × a8 × a9 × a10 × a11 × a12 × a13 × a14 × a15 × a16 × a17 × a18 × a19 × a20) : Prop := P p.1 p.2.1 p.2.2.1 p.2.2.2.1 p.2.2.2.2.1 p.2.2.2.2.2.1 p.2.2.2.2.2.2.1 p.2.2.2.2.2.2.2.1 p.2.2.2.2.2.2.2.2.1 p.2.2.2.2.2.2.2.2.2.1 p.2.2.2.2.2.2.2.2.2.2.1 p.2.2.2.2.2.2.2.2.2.2.2.1 p.2.2.2.2.2.2.2.2.2.2.2.2.1 p.2.2.2.2.2.2.2.2.2.2.2.2.2.1 p.2.2.2.2.2.2.2.2.2.2.2.2.2.2.1 p.2.2.2.2.2.2.2.2.2.2.2.2.2.2.2.1 p.2.2.2.2.2.2.2.2.2.2.2.2.2.2.2.2.1 p.2.2.2.2.2.2.2.2.2.2.2.2.2.2.2.2.2.1 p.2.2.2.2.2.2.2.2.2.2.2.2.2.2.2.2.2.2.1 p.2.2.2.2.2.2.2.2.2.2.2.2.2.2.2.2.2.2.2
theorem ee20 {P : a1 → a2 → a3 → a4 → a5 → a6 → a7 → a8 → a9 → a10 → a11 → a12 → a13 → a14 → a15 → a16 → a17 → a18 → a19 → a20 → Prop} (hh : et20 P (ec (et20 P))) : ∀ a b c d e f g h i j k l m n o p q r s t, P a b c d e f g h i j k l m n o p q r s t := fun a b c d e f g h i j k l m n o p q r s t => ee1 hh (a, b, c, d, e, f, g, h, i, j, k, l, m, n, o, p, q, r, s, t)
def et21 (P : a1 → a2 → a3 → a4 → a5 → a6 → a7 → a8 → a9 → a10 → a11 → a12 → a13 → a14 → a15 → a16 → a17 → a18 → a19 → a20 → a21 → Prop) (p : a1 × a2 × a3 × a4 × a5 × a6 × a7 × a8 × a9 × a10 × a11 × a12 × a13 × a14 × a15 × a16 × a17 × a18 × a19 × a20 × a21) : Prop := P p.1 p.2.1 p.2.2.1 p.2.2.2.1 p.2.2.2.2.1 p.2.2.2.2.2.1 p.2.2.2.2.2.2.1 p.2.2.2.2.2.2.2.1 p.2.2.2.2.2.2.2.2.1 p.2.2.2.2.2.2.2.2.2.1 p.2.2.2.2.2.2.2.2.2.2.1 p.2.2.2.2.2.2.2.2.2.2.2.1 p.2.2.2.2.2.2.2.2.2.2.2.2.1 p.2.2.2.2.2.2.2.2.2.2.2.2.2.1 p.2.2.2.2.2.2.2.2.2.2.2.2.2.2.1 p.2.2.2.2.2.2.2.2.2.2.2.2.2.2.2.1 p.2.2.2.2.2.2.2.2.2.2.2.2.2.2.2.2.1 p.2.2.2.2.2.2.2.2.2.2.2.2.2.2.2.2.2.1 p.2.2.2.2.2.2.2.2.2.2.2.2.2.2.2.2.2.2.1 p.2.2.2.2.2.2.2.2.2.2.2.2.2.2.2.2.2.2.2.1 p.2.2.2.2.2.2.2.2.2.2.2.2.2.2.2.2.2.2.2.2
theorem ee21 {P : a1 → a2 → a3 → a4 → a5 → a6 → a7 → a8 → a9 → a10 → a11 → a12 → a13 → a14 → a15 → a16 → a17 → a18 → a19 → a20 → a21 → Prop} (hh : et21 P (ec (et21 P))) : ∀ a b c d e f g h i j k l m n o p q r s t u, P a b c d e f g h i j k l m n o p q r s t u := fun a b c d e f g h i j k l m n o p q r s t u => ee1 hh (a, b, c, d, e, f, g, h, i, j, k, l, m, n, o, p, q, r, s, t, u)
def et22 (P : a1 → a2 → a3 → a4 → a5 → a6 → a7 → a8 → a9 → a10 → a11 → a12 → a13 → a14 → a15 → a16 → a17 → a18 → a19 → a20 → a21 → a22 → Prop) (p : a1 × a2 × a3 × a4 × a5 × a6 × a7 × a8 × a9 × a10 × a11 × a12 × a13 × a14 × a15 × a16 × a17 × a18 × a19 × a20 × a21 × a22) : Prop := P p.1 p.2.1 p.2.2.1 p.2.2.2.1 p.2.2.2.2.1 p.2.2.2.2.2.1 p.2.2.2.2.2.2.1 p.2.2.2.2.2.2.2.1 p.2.2.2.2.2.2.2.2.1 p.2.2.2.2.2.2.2.2.2.1 p.2.2.2.2.2.2.2.2.2.2.1 p.2.2.2.2.2.2.2.2.2.2.2.1 p.2.2.2.2.2.2.2.2.2.2.2.2.1 p.2.2.2.2.2.2.2.2.2.2.2.2.2.1 p.2.2.2.2.2.2.2.2.2.2.2.2.2.2.1 p.2.2.2.2.2.2.2.2.2.2.2.2.2.2.2.1 p.2.2.2.2.2.2.2.2.2.2.2.2.2.2.2.2.1 p.2.2.2.2.2.2.2.2.2.2.2.2.2.2.2.2.2.1 p.2.2.2.2.2.2.2.2.2.2.2.2.2.2.2.2.2.2.1 p.2.2.2.2.2.2.2.2.2.2.2.2.2.2.2.2.2.2.2.1 p.2.2.2.2.2.2.2.2.2.2.2.2.2.2.2.2.2.2.2.2.1 p.2.2.2.2.2.2.2.2.2.2.2.2.2.2.2.2.2.2.2.2.2
theorem ee22 {P : a1 → a2 → a3 → a4 → a5 → a6 → a7 → a8 → a9 → a10 → a11 → a12 → a13 → a14 → a15 → a16 → a17 → a18 → a19 → a20 → a21 → a22 → Prop} (hh : et22 P (ec (et22 P))) : ∀ a b c d e f g h i j k l m n o p q r s t u v, P a b c d e f g h i j k l m n o p q r s t u v := fun a b c d e f g h i j k l m n o p q r s t u v => ee1 hh (a, b, c, d, e, f, g, h, i, j, k, l, m, n, o, p, q, r, s, t, u, v)
def et24 (P : a1 → a2 → a3 → a4 → a5 → a6 → a7 → a8 → a9 → a10 → a11 → a12 → a13 → a14 → a15 → a16 → a17 → a18 → a19 → a20 → a21 → a22 → a23 → a24 → Prop) (p : a1 × a2 × a3 × a4 × a5 × a6 × a7 × a8 × a9 × a10 × a11 × a12 × a13 × a14 × a15 × a16 × a17 × a18 × a19 × a20 × a21 × a22 × a23 × a24) : Prop := P p.1 p.2.1 p.2.2.1 p.2.2.2.1 p.2.2.2.2.1 p.2.2.2.2.2.1 p.2.2.2.2.2.2.1 p.2.2.2.2.2.2.2.1 p.2.2.2.2.2.2.2.2.1 p.2.2.2.2.2.2.2.2.2.1 p.2.2.2.2.2.2.2.2.2.2.1 p.2.2.2.2.2.2.2.2.2.2.2.1 p.2.2.2.2.2.2.2.2.2.2.2.2.1 p.2.2.2.2.2.2.2.2.2.2.2.2.2.1 p.2.2.2.2.2.2.2.2.2.2.2.2.2.2.1 p.2.2.2.2.2.2.2.2.2.2.2.2.2.2.2.1 p.2.2.2.2.2.2.2.2.2.2.2.2.2.2.2.2.1 p.2.2.2.2.2.2.2.2.2.2.2.2.2.2.2.2.2.1 p.2.2.2.2.2.2.2.2.2.2.2.2.2.2.2.2.2.2.1 p.2.2.2.2.2.2.2.2.2.2.2.2.2.2.2.2.2.2.2.1 p.2.2.2.2.2.2.2.2.2.2.2.2.2.2.2.2.2.2.2.2.1 p.2.2.2.2.2.2.2.2.2.2.2.2.2.2.2.2.2.2.2.2.2.1 p.2.2.2.2.2.2.2.2.2.2.2.2.2.2.2.2.2.2.2.2.2.2.1 p.2.2.2.2.2.2.2.2.2.2.2.2.2.2.2.2.2.2.2.2.2.2.2
theorem ee24 {P : a1 → a2 → a3 → a4 → a5 → a6 → a7 → a8 → a9 → a10 → a11 → a12 → a13 → a14 → a15 → a16 → a17 → a18 → a19 → a20 → a21 → a22 → a23 → a24 → Prop} (hh : et24 P (ec (et24 P))) : ∀ a b c d e f g h i j k l m n o p q r s t u v w x, P a b c d e f g h i j k l m n o p q r s t u v w x := fun a b c d e f g h i j k l m n o p q r s t u v w x => ee1 hh (a, b, c, d, e, f, g, h, i, j, k, l, m, n, o, p, q, r, s, t, u, v, w, x)
end
section
variable {α β γ δ : Type}
@[reducible] def Eqf1 (f g : α → δ) (x : α) : Prop := f x = g x
@[reducible] def Eqf2 (f g : α → β → δ) (x : α) (y : β) : Prop := f x y = g x y
@[reducible] def Eqf3 (f g : α → β → γ → δ) (x : α) (y : β) (z : γ) : Prop := f x y z = g x y z
theorem rR1 {f g : α → δ} (h : ∀ x, Eqf1 f g x) : ∀ x, f x = g x := h
theorem rR2 {f g : α → β → δ} (h : ∀ x y, Eqf2 f g x y) : ∀ x y, f x y = g x y := h
theorem rR3 {f g : α → β → γ → δ} (h : ∀ x y z, Eqf3 f g x y z) : ∀ x y z, f x y z = g x y z := h
end
open Lean in
local macro_rules
  | `(tactic| delta zz $xs:ident*) => do
    let e := mkIdent (Name.mkSimple s!"ee{xs.size}")
    let P := mkIdent `P
    let hs : Array Term ← xs.mapM fun _ => `(_)
    `(tactic| (revert $xs*; apply $e:ident; refine (?m : ∀ $xs*, ?$P $xs*) $hs*; unhygienic intros))
  | `(tactic| delta zz $xs:ident* at $hs*) => do
    let hs : TSyntaxArray `term := hs.raw.map fun x => ⟨x⟩
    `(tactic| (revert $hs*; delta zz $xs*))
  | `(tactic| delta zy $xs:ident*) => do
    let e := mkIdent (Name.mkSimple s!"ee{xs.size}")
    let P := mkIdent `P
    let hs : Array Term ← xs.mapM fun _ => `(_)
    `(tactic| (revert $xs*; apply $e:ident; refine (?m : ∀ $xs*, ?$P $xs*) $hs*; intro $xs*))
  | `(tactic| delta zy $xs:ident* at $hs*) => do
    let hs : TSyntaxArray `term := hs.raw.map fun x => ⟨x⟩
    `(tactic| (revert $hs*; delta zy $xs*; intro $hs*))
open Lean in
local macro_rules
  | `(tactic| delta za $e:ident) => `(tactic| (apply $e:ident <;> intros <;> kernel_rfl))
  | `(tactic| delta zb $e:ident $b:ident) => `(tactic| (generalize $b:ident = x; revert x; refine $(mkIdent `rR1) ?_; apply $e:ident <;> intros <;> kernel_rfl))
  | `(tactic| delta zb $e:ident $a:ident $b:ident) => `(tactic| (generalize $b:ident = y; generalize $a:ident = x; revert y; revert x; refine $(mkIdent `rR2) ?_; apply $e:ident <;> intros <;> kernel_rfl))
  | `(tactic| delta zb $e:ident $a:ident $b:ident $c:ident) => `(tactic| (generalize $c:ident = z; generalize $b:ident = y; generalize $a:ident = x; revert z; revert y; revert x; refine $(mkIdent `rR3) ?_; apply $e:ident <;> intros <;> kernel_rfl))
  | `(tactic| delta zn) => `(tactic| refine Classical.byContradiction fun $(mkIdent `hN) => ?_)
  | `(tactic| delta zm) => `(tactic| (refine $(mkIdent `hN) ?_; clear $(mkIdent `hN)))
open Lean in
local macro_rules
  | `(s!$x) => do
    let some s := x.raw[0].isInterpolatedStrLit? | Macro.throwUnsupported
    let l : Array Term := (s.toList.map fun c => quote c.toNat).toArray
    `(⟨⟨[$l,*]⟩⟩)
  | `(!(s!$s, $n, $v)) => `(⟨$(mkIdent `PyData.keyHash) $(mkIdent `P) (s!$s), (.str (s!$s) $n), $v⟩)
  | `(![$s:str, $v]) => `($(mkIdent `ent) ($(mkIdent `pr) $(mkIdent `w) $(mkIdent `b)) $s $v)
noncomputable abbrev pg:Program:=PySem.Challenge.pw_te0043_03
structure SP where
 e:PySem.Expr:=.Name "" default
 b:List Stmt:=[]
 l:List Stmt:=[]
 p:Pos:=default
 s:Scope:=default
noncomputable def Ho (s:Stmt):SP:=match s with
 | .FunctionDef _ _ b _ _ _ s _ _ p=>{b,s,p}
 | .ClassDef _ _ _ b _ _ s _ _ _ p=>{b,s,p}
 | .While e b l p=>{e,b,l,p}
 | .If e b l p=>{e,b,l,p}
 | .For e _ b l p=>{e,b,l,p}
 | .Return (some e) p=>{e,p}
 | .Expr e p=>{e,p}
 | .Assign _ e p=>{e,p}
 | _=>{}
noncomputable def sE (s:Stmt):PySem.Expr:=(Ho s).e
noncomputable def sB (s:Stmt):List Stmt:=(Ho s).b
noncomputable def sL (s:Stmt):List Stmt:=(Ho s).l
noncomputable def sP (s:Stmt):Pos:=(Ho s).p
noncomputable def sS (s:Stmt):Scope:=(Ho s).s
structure XP where
 e:PySem.Expr:=.Name "" default
 a:List PySem.Expr:=[]
 p:Pos:=default
 s:Scope:=default
 g:List Comprehension:=[]
noncomputable def Hp (e:PySem.Expr):XP:=match e with
 | .Yield (some e) p=>{e,p}
 | .BoolOp _ a p=>{a,p}
 | .Compare e _ a p=>{e,a,p}
 | .Tuple a _ p=>{a,p}
 | .Call _ a _ p=>{a,p}
 | .ListComp e g s p=>{e,g,s,p}
 | .BinOp e _ _ p=>{e,p}
 | _=>{}
noncomputable def xE (e:PySem.Expr):PySem.Expr:=(Hp e).e
noncomputable def xA (e:PySem.Expr):List PySem.Expr:=(Hp e).a
noncomputable def xP (e:PySem.Expr):Pos:=(Hp e).p
noncomputable def xS (e:PySem.Expr):Scope:=(Hp e).s
noncomputable def xG (e:PySem.Expr):List Comprehension:=(Hp e).g
noncomputable def bo (i:Nat) (j:Option Nat):Stmt:=match j with
 | none=>pg.main.body.getD i (.Pass default)
 | some j=>(sB (pg.main.body.getD i (.Pass default))).getD j (.Pass default)
noncomputable def gw (st:Stmt) (name qual:Str) (globals:Addr) (closure:List (Str×Addr)) (d D z G:Value) (B:Option Addr) (code clo:Value) (H:Addr):Data:=match st with
 | .FunctionDef _ u body _ _ _ sc _ _ _=>.func ⟨name,qual,u,.stmts body,sc,globals,closure,d,D,z,G,B,code,clo,H⟩
 | _=>.plain
noncomputable def Lp (P:Params):Obj:=⟨(.type "dict"),none,(.dict ⟨[!(s!"__name__",1,.str s!"builtins" 160),!(s!"__doc__",2,.builtin "builtins.__doc__:str#opaque"),!(s!"__package__",3,.builtin "builtins.__package__:str#opaque"),!(s!"__loader__",4,.builtin "builtins.__loader__:shared#opaque"),!(s!"__spec__",5,.builtin "builtins.__spec__#opaque"),!(s!"__build_class__",6,.builtin "__build_class__"),!(s!"__import__",7,.builtin "__import__"),!(s!"abs",8,.builtin "abs"),!(s!"all",9,.builtin "all"),!(s!"any",10,.builtin "any"),!(s!"ascii",11,.builtin "ascii"),!(s!"bin",12,.builtin "bin"),!(s!"breakpoint",13,.builtin "breakpoint"),!(s!"callable",14,.builtin "callable"),!(s!"chr",15,.builtin "chr"),!(s!"compile",16,.builtin "compile"),!(s!"delattr",17,.builtin "delattr"),!(s!"dir",18,.builtin "dir"),!(s!"divmod",19,.builtin "divmod"),!(s!"eval",20,.builtin "eval"),!(s!"exec",21,.builtin "exec"),!(s!"format",22,.builtin "format"),!(s!"getattr",23,.builtin "getattr"),!(s!"globals",24,.builtin "globals"),!(s!"hasattr",25,.builtin "hasattr"),!(s!"hash",26,.builtin "hash"),!(s!"hex",27,.builtin "hex"),!(s!"id",28,.builtin "id"),!(s!"input",29,.builtin "input"),!(s!"isinstance",30,.builtin "isinstance"),!(s!"issubclass",31,.builtin "issubclass"),!(s!"iter",32,.builtin "iter"),!(s!"aiter",33,.builtin "aiter"),!(s!"len",34,.builtin "len"),!(s!"locals",35,.builtin "locals"),!(s!"max",36,.builtin "max"),!(s!"min",37,.builtin "min"),!(s!"next",38,.builtin "next"),!(s!"anext",39,.builtin "anext"),!(s!"oct",40,.builtin "oct"),!(s!"ord",41,.builtin "ord"),!(s!"pow",42,.builtin "pow"),!(s!"print",43,.builtin "print"),!(s!"repr",44,.builtin "repr"),!(s!"round",45,.builtin "round"),!(s!"setattr",46,.builtin "setattr"),!(s!"sorted",47,.builtin "sorted"),!(s!"sum",48,.builtin "sum"),!(s!"vars",49,.builtin "vars"),!(s!"None",50,.none),!(s!"Ellipsis",51,.ellipsis),!(s!"NotImplemented",52,.notImplemented),!(s!"False",53,.bool false),!(s!"True",54,.bool true),!(s!"bool",55,.type "bool"),!(s!"memoryview",56,.type "memoryview"),!(s!"bytearray",57,.type "bytearray"),!(s!"bytes",58,.type "bytes"),!(s!"classmethod",59,.type "classmethod"),!(s!"complex",60,.type "complex"),!(s!"dict",61,.type "dict"),!(s!"enumerate",62,.type "enumerate"),!(s!"filter",63,.type "filter"),!(s!"float",64,.type "float"),!(s!"frozenset",65,.type "frozenset"),!(s!"property",66,.type "property"),!(s!"int",67,.type "int"),!(s!"list",68,.type "list"),!(s!"map",69,.type "map"),!(s!"object",70,.type "object"),!(s!"range",71,.type "range"),!(s!"reversed",72,.type "reversed"),!(s!"set",73,.type "set"),!(s!"slice",74,.type "slice"),!(s!"staticmethod",75,.type "staticmethod"),!(s!"str",76,.type "str"),!(s!"super",77,.type "super"),!(s!"tuple",78,.type "tuple"),!(s!"type",79,.type "type"),!(s!"zip",80,.type "zip"),!(s!"__debug__",81,.bool true),!(s!"BaseException",82,.type "BaseException"),!(s!"BaseExceptionGroup",83,.type "BaseExceptionGroup"),!(s!"Exception",84,.type "Exception"),!(s!"GeneratorExit",85,.type "GeneratorExit"),!(s!"KeyboardInterrupt",86,.type "KeyboardInterrupt"),!(s!"SystemExit",87,.type "SystemExit"),!(s!"ArithmeticError",88,.type "ArithmeticError"),!(s!"AssertionError",89,.type "AssertionError"),!(s!"AttributeError",90,.type "AttributeError"),!(s!"BufferError",91,.type "BufferError"),!(s!"EOFError",92,.type "EOFError"),!(s!"ImportError",93,.type "ImportError"),!(s!"LookupError",94,.type "LookupError"),!(s!"MemoryError",95,.type "MemoryError"),!(s!"NameError",96,.type "NameError"),!(s!"OSError",97,.type "OSError"),!(s!"ReferenceError",98,.type "ReferenceError"),!(s!"RuntimeError",99,.type "RuntimeError"),!(s!"StopAsyncIteration",100,.type "StopAsyncIteration"),!(s!"StopIteration",101,.type "StopIteration"),!(s!"SyntaxError",102,.type "SyntaxError"),!(s!"SystemError",103,.type "SystemError"),!(s!"TypeError",104,.type "TypeError"),!(s!"ValueError",105,.type "ValueError"),!(s!"Warning",106,.type "Warning"),!(s!"FloatingPointError",107,.type "FloatingPointError"),!(s!"OverflowError",108,.type "OverflowError"),!(s!"ZeroDivisionError",109,.type "ZeroDivisionError"),!(s!"BytesWarning",110,.type "BytesWarning"),!(s!"DeprecationWarning",111,.type "DeprecationWarning"),!(s!"EncodingWarning",112,.type "EncodingWarning"),!(s!"FutureWarning",113,.type "FutureWarning"),!(s!"ImportWarning",114,.type "ImportWarning"),!(s!"PendingDeprecationWarning",115,.type "PendingDeprecationWarning"),!(s!"ResourceWarning",116,.type "ResourceWarning"),!(s!"RuntimeWarning",117,.type "RuntimeWarning"),!(s!"SyntaxWarning",118,.type "SyntaxWarning"),!(s!"UnicodeWarning",119,.type "UnicodeWarning"),!(s!"UserWarning",120,.type "UserWarning"),!(s!"BlockingIOError",121,.type "BlockingIOError"),!(s!"ChildProcessError",122,.type "ChildProcessError"),!(s!"ConnectionError",123,.type "ConnectionError"),!(s!"FileExistsError",124,.type "FileExistsError"),!(s!"FileNotFoundError",125,.type "FileNotFoundError"),!(s!"InterruptedError",126,.type "InterruptedError"),!(s!"IsADirectoryError",127,.type "IsADirectoryError"),!(s!"NotADirectoryError",128,.type "NotADirectoryError"),!(s!"PermissionError",129,.type "PermissionError"),!(s!"ProcessLookupError",130,.type "ProcessLookupError"),!(s!"TimeoutError",131,.type "TimeoutError"),!(s!"IndentationError",132,.type "IndentationError"),!(s!"_IncompleteInputError",133,.type "_IncompleteInputError"),!(s!"IndexError",134,.type "IndexError"),!(s!"KeyError",135,.type "KeyError"),!(s!"ModuleNotFoundError",136,.type "ModuleNotFoundError"),!(s!"NotImplementedError",137,.type "NotImplementedError"),!(s!"PythonFinalizationError",138,.type "PythonFinalizationError"),!(s!"RecursionError",139,.type "RecursionError"),!(s!"UnboundLocalError",140,.type "UnboundLocalError"),!(s!"UnicodeError",141,.type "UnicodeError"),!(s!"BrokenPipeError",142,.type "BrokenPipeError"),!(s!"ConnectionAbortedError",143,.type "ConnectionAbortedError"),!(s!"ConnectionRefusedError",144,.type "ConnectionRefusedError"),!(s!"ConnectionResetError",145,.type "ConnectionResetError"),!(s!"TabError",146,.type "TabError"),!(s!"UnicodeDecodeError",147,.type "UnicodeDecodeError"),!(s!"UnicodeEncodeError",148,.type "UnicodeEncodeError"),!(s!"UnicodeTranslateError",149,.type "UnicodeTranslateError"),!(s!"ExceptionGroup",150,.type "ExceptionGroup"),!(s!"EnvironmentError",151,.type "OSError"),!(s!"IOError",152,.type "OSError"),!(s!"open",153,.builtin "open"),!(s!"quit",154,.builtin "builtins.quit#opaque"),!(s!"exit",155,.builtin "builtins.exit#opaque"),!(s!"copyright",156,.builtin "builtins.copyright#opaque"),!(s!"credits",157,.builtin "builtins.credits#opaque"),!(s!"license",158,.builtin "builtins.license#opaque"),!(s!"help",159,.builtin "builtins.help#opaque")]⟩ 159),⟨[]⟩⟩
noncomputable def JU (P:Params):Obj:=⟨.none,none,(.dict ⟨[]⟩ 0),⟨[]⟩⟩
noncomputable def Hq (P:Params):Obj:=⟨(.type "dict"),none,(.dict ⟨[!(s!"__name__",165,.str s!"law_te0043_03" 1442),!(s!"__doc__",166,.none),!(s!"__package__",167,.none),!(s!"__loader__",168,.builtin "__main__.__loader__#opaque"),!(s!"__spec__",169,.none),!(s!"__annotations__",170,.ref 6),!(s!"__builtins__",171,.ref 4),!(s!"__file__",173,.str s!"/claim/cut.py" 172),!(s!"__cached__",174,.none),!(s!"_wall",193,.ref 21),!(s!"EOF",196,.none),!(s!"spaceCharacters",202,.ref 22),!(s!"asciiLetters",256,.ref 27),!(s!"digits",268,.ref 32),!(s!"hexDigits",292,.ref 37),!(s!"asciiLower",298,.ref 42),!(s!"entities",428,.ref 43),!(s!"replacementCharacters",531,.ref 46),!(s!"tokenTypes",556,.ref 48),!(s!"tagTokenTypes",563,.ref 49),!(s!"Text",604,.ref 73),!(s!"_is_invalid",611,.ref 84),!(s!"HTMLUnicodeInputStream",735,.ref 166),!(s!"bisect_left",749,.ref 178),!(s!"Trie",824,.ref 230),!(s!"entitiesTrie",841,.ref 236),!(s!"HTMLTokenizer",1441,.ref 762),!(s!"_law_PARTS",1457,.ref 767),!(s!"_law_comment",1471,.ref 774),!(s!"_law_bogus",1477,.ref 779),!(s!"_law_bracket",1483,.ref 784),!(s!"law",1489,.ref 789)]⟩ 32),⟨[]⟩⟩
noncomputable def Di (P:Params):Obj:=⟨(.type "tuple"),none,(.seq ⟨[(.str ⟨⟨[9]⟩⟩ 197),(.str ⟨⟨[10]⟩⟩ 198),(.str ⟨⟨[12]⟩⟩ 199),(.str s!" " 200),(.str ⟨⟨[13]⟩⟩ 201)]⟩ 0),⟨[]⟩⟩
noncomputable def Dj (P:Params):Obj:=⟨(.type "tuple"),none,(.seq ⟨[(.str s!"a" 204),(.str s!"b" 205),(.str s!"c" 206),(.str s!"d" 207),(.str s!"e" 208),(.str s!"f" 209),(.str s!"g" 210),(.str s!"h" 211),(.str s!"i" 212),(.str s!"j" 213),(.str s!"k" 214),(.str s!"l" 215),(.str s!"m" 216),(.str s!"n" 217),(.str s!"o" 218),(.str s!"p" 219),(.str s!"q" 220),(.str s!"r" 221),(.str s!"s" 222),(.str s!"t" 223),(.str s!"u" 224),(.str s!"v" 225),(.str s!"w" 226),(.str s!"x" 227),(.str s!"y" 228),(.str s!"z" 229),(.str s!"A" 230),(.str s!"B" 231),(.str s!"C" 232),(.str s!"D" 233),(.str s!"E" 234),(.str s!"F" 235),(.str s!"G" 236),(.str s!"H" 237),(.str s!"I" 238),(.str s!"J" 239),(.str s!"K" 240),(.str s!"L" 241),(.str s!"M" 242),(.str s!"N" 243),(.str s!"O" 244),(.str s!"P" 245),(.str s!"Q" 246),(.str s!"R" 247),(.str s!"S" 248),(.str s!"T" 249),(.str s!"U" 250),(.str s!"V" 251),(.str s!"W" 252),(.str s!"X" 253),(.str s!"Y" 254),(.str s!"Z" 255)]⟩ 0),⟨[]⟩⟩
noncomputable def Dk (P:Params):Obj:=⟨(.type "dict"),none,(.dict ⟨[!(s!"Doctype",532,.int 0 533),!(s!"Characters",534,.int 1 535),!(s!"SpaceCharacters",536,.int 2 537),!(s!"StartTag",538,.int 3 539),!(s!"EndTag",540,.int 4 541),!(s!"EmptyTag",542,.int 5 543),!(s!"Comment",544,.int 6 545),!(s!"ParseError",546,.int 7 547)]⟩ 8),⟨[]⟩⟩
noncomputable def Hr (P:Params):Obj:=⟨(.type "code"),none,(.fields ⟨[(.str s!"__init__" 578),(.str s!"Text.__init__" 579),(.str s!"/claim/cut.py" 580),(.int 19 0),(.int 2 0),(.int 0 0),(.int 0 0),(.int 3 0),(.ref 57),(.bool true),(.int 181 0),(.ref 58),.none,(.ref 59),(.ref 60),(.ref 61),(.int 583 0),(.int 19 0),(.str s!"/claim/cut.py" 584)]⟩),⟨[]⟩⟩
noncomputable def Hs (P:Params):Obj:=⟨(.type "function"),none,(gw (bo 13 (some 0)) s!"__init__" s!"Text.__init__" 3 [] .none .none .none (.str s!"html5lib._inputstream" 564) none (.ref 62) .none 0),⟨[]⟩⟩
noncomputable def Ht (P:Params):Obj:=⟨(.type "code"),none,(.fields ⟨[(.str s!"read" 586),(.str s!"Text.read" 587),(.str s!"/claim/cut.py" 588),(.int 23 0),(.int 2 0),(.int 0 0),(.int 0 0),(.int 3 0),(.ref 64),(.bool true),(.int 181 0),(.ref 65),.none,(.ref 66),(.ref 67),(.ref 68),(.int 592 0),(.int 23 0),(.str s!"/claim/cut.py" 593)]⟩),⟨[]⟩⟩
noncomputable def Hu (P:Params):Obj:=⟨(.type "function"),none,(gw (bo 13 (some 1)) s!"read" s!"Text.read" 3 [] .none .none .none (.str s!"html5lib._inputstream" 564) none (.ref 69) .none 0),⟨[]⟩⟩
noncomputable def Hv (P:Params):Obj:=⟨(.type "dict"),none,(.dict ⟨[!(s!"__module__",573,.str s!"html5lib._inputstream" 564),!(s!"__firstlineno__",577,.int 17 576),!(s!"__init__",585,.ref 63),!(s!"read",594,.ref 70),!(s!"__static_attributes__",597,.ref 71),!(s!"__dict__",599,.ref 74),!(s!"__weakref__",601,.ref 75),!(s!"__doc__",602,.none)]⟩ 4),⟨[]⟩⟩
noncomputable def Hw (P:Params):Obj:=⟨(.type "type"),none,(.cls ⟨s!"Text",[(.type "object")],[(.ref 73),(.type "object")],72,s!"Text",true,[],[],false,none,false⟩),⟨[(some (.ref 50)),none,(some (.str s!"Text" 566)),(some (.str s!"Text" 574)),(some (.builtin "object.__new__")),(some (.bool true))]⟩⟩
noncomputable def Hx (P:Params):Obj:=⟨(.type "code"),none,(.fields ⟨[(.str s!"_is_invalid" 605),(.str s!"_is_invalid" 606),(.str s!"/claim/cut.py" 607),(.int 27 0),(.int 1 0),(.int 0 0),(.int 0 0),(.int 3 0),(.ref 78),(.bool true),(.int 181 0),(.ref 79),.none,(.ref 80),(.ref 81),(.ref 82),(.int 609 0),(.int 27 0),(.str s!"/claim/cut.py" 610)]⟩),⟨[]⟩⟩
noncomputable def Hy (P:Params):Obj:=⟨(.type "function"),none,(gw (bo 14 none) s!"_is_invalid" s!"_is_invalid" 3 [] .none .none .none (.str s!"html5lib._inputstream" 564) none (.ref 83) .none 0),⟨[]⟩⟩
noncomputable def Hz (P:Params):Obj:=⟨(.type "code"),none,(.fields ⟨[(.str s!"__init__" 626),(.str s!"HTMLUnicodeInputStream.__init__" 627),(.str s!"/claim/cut.py" 628),(.int 32 0),(.int 2 0),(.int 0 0),(.int 0 0),(.int 3 0),(.ref 92),(.bool true),(.int 181 0),(.ref 93),.none,(.ref 94),(.ref 95),(.ref 96),(.int 631 0),(.int 32 0),(.str s!"/claim/cut.py" 632)]⟩),⟨[]⟩⟩
noncomputable def HA (P:Params):Obj:=⟨(.type "function"),none,(gw (bo 15 (some 1)) s!"__init__" s!"HTMLUnicodeInputStream.__init__" 3 [] .none .none .none (.str s!"html5lib._inputstream" 564) none (.ref 97) .none 0),⟨[]⟩⟩
noncomputable def By (P:Params):Obj:=⟨(.type "code"),none,(.fields ⟨[(.str s!"reset" 634),(.str s!"HTMLUnicodeInputStream.reset" 635),(.str s!"/claim/cut.py" 636),(.int 38 0),(.int 1 0),(.int 0 0),(.int 0 0),(.int 3 0),(.ref 99),(.bool true),(.int 181 0),(.ref 100),.none,(.ref 101),(.ref 102),(.ref 103),(.int 638 0),(.int 38 0),(.str s!"/claim/cut.py" 639)]⟩),⟨[]⟩⟩
noncomputable def Bz (P:Params):Obj:=⟨(.type "function"),none,(gw (bo 15 (some 2)) s!"reset" s!"HTMLUnicodeInputStream.reset" 3 [] .none .none .none (.str s!"html5lib._inputstream" 564) none (.ref 104) .none 0),⟨[]⟩⟩
noncomputable def BA (P:Params):Obj:=⟨(.type "code"),none,(.fields ⟨[(.str s!"openStream" 641),(.str s!"HTMLUnicodeInputStream.openStream" 642),(.str s!"/claim/cut.py" 643),(.int 47 0),(.int 2 0),(.int 0 0),(.int 0 0),(.int 3 0),(.ref 106),(.bool true),(.int 181 0),(.ref 107),.none,(.ref 108),(.ref 109),(.ref 110),(.int 647 0),(.int 47 0),(.str s!"/claim/cut.py" 648)]⟩),⟨[]⟩⟩
noncomputable def BB (P:Params):Obj:=⟨(.type "function"),none,(gw (bo 15 (some 3)) s!"openStream" s!"HTMLUnicodeInputStream.openStream" 3 [] .none .none .none (.str s!"html5lib._inputstream" 564) none (.ref 111) .none 0),⟨[]⟩⟩
noncomputable def BC (P:Params):Obj:=⟨(.type "code"),none,(.fields ⟨[(.str s!"_position" 650),(.str s!"HTMLUnicodeInputStream._position" 651),(.str s!"/claim/cut.py" 652),(.int 51 0),(.int 2 0),(.int 0 0),(.int 0 0),(.int 3 0),(.ref 113),(.bool true),(.int 181 0),(.ref 114),.none,(.ref 115),(.ref 116),(.ref 117),(.int 660 0),(.int 51 0),(.str s!"/claim/cut.py" 661)]⟩),⟨[]⟩⟩
noncomputable def BD (P:Params):Obj:=⟨(.type "function"),none,(gw (bo 15 (some 4)) s!"_position" s!"HTMLUnicodeInputStream._position" 3 [] .none .none .none (.str s!"html5lib._inputstream" 564) none (.ref 118) .none 0),⟨[]⟩⟩
noncomputable def BE (P:Params):Obj:=⟨(.type "code"),none,(.fields ⟨[(.str s!"char" 670),(.str s!"HTMLUnicodeInputStream.char" 671),(.str s!"/claim/cut.py" 672),(.int 65 0),(.int 1 0),(.int 0 0),(.int 0 0),(.int 3 0),(.ref 127),(.bool true),(.int 181 0),(.ref 128),.none,(.ref 129),(.ref 130),(.ref 131),(.int 676 0),(.int 65 0),(.str s!"/claim/cut.py" 677)]⟩),⟨[]⟩⟩
noncomputable def BF (P:Params):Obj:=⟨(.type "function"),none,(gw (bo 15 (some 6)) s!"char" s!"HTMLUnicodeInputStream.char" 3 [] .none .none .none (.str s!"html5lib._inputstream" 564) none (.ref 132) .none 0),⟨[]⟩⟩
noncomputable def BG (P:Params):Obj:=⟨(.type "tuple"),none,(.seq ⟨[.none]⟩ 0),⟨[]⟩⟩
noncomputable def BH (P:Params):Obj:=⟨(.type "code"),none,(.fields ⟨[(.str s!"readChunk" 679),(.str s!"HTMLUnicodeInputStream.readChunk" 680),(.str s!"/claim/cut.py" 681),(.int 74 0),(.int 2 0),(.int 0 0),(.int 0 0),(.int 3 0),(.ref 135),(.bool true),(.int 181 0),(.ref 136),.none,(.ref 137),(.ref 138),(.ref 139),(.int 686 0),(.int 74 0),(.str s!"/claim/cut.py" 687)]⟩),⟨[]⟩⟩
noncomputable def BI (P:Params):Obj:=⟨(.type "function"),none,(gw (bo 15 (some 7)) s!"readChunk" s!"HTMLUnicodeInputStream.readChunk" 3 [] (.ref 134) .none .none (.str s!"html5lib._inputstream" 564) none (.ref 140) .none 0),⟨[]⟩⟩
noncomputable def BJ (P:Params):Obj:=⟨(.type "code"),none,(.fields ⟨[(.str s!"characterErrorsUCS4" 689),(.str s!"HTMLUnicodeInputStream.characterErrorsUCS4" 690),(.str s!"/claim/cut.py" 691),(.int 100 0),(.int 2 0),(.int 0 0),(.int 0 0),(.int 3 0),(.ref 142),(.bool true),(.int 181 0),(.ref 143),.none,(.ref 144),(.ref 145),(.ref 146),(.int 695 0),(.int 100 0),(.str s!"/claim/cut.py" 696)]⟩),⟨[]⟩⟩
noncomputable def BK (P:Params):Obj:=⟨(.type "function"),none,(gw (bo 15 (some 8)) s!"characterErrorsUCS4" s!"HTMLUnicodeInputStream.characterErrorsUCS4" 3 [] .none .none .none (.str s!"html5lib._inputstream" 564) none (.ref 147) .none 0),⟨[]⟩⟩
noncomputable def BL (P:Params):Obj:=⟨(.type "tuple"),none,(.seq ⟨[(.bool false)]⟩ 0),⟨[]⟩⟩
noncomputable def BM (P:Params):Obj:=⟨(.type "code"),none,(.fields ⟨[(.str s!"charsUntil" 698),(.str s!"HTMLUnicodeInputStream.charsUntil" 699),(.str s!"/claim/cut.py" 700),(.int 105 0),(.int 3 0),(.int 0 0),(.int 0 0),(.int 3 0),(.ref 150),(.bool true),(.int 181 0),(.ref 151),.none,(.ref 152),(.ref 153),(.ref 154),(.int 707 0),(.int 105 0),(.str s!"/claim/cut.py" 708)]⟩),⟨[]⟩⟩
noncomputable def BN (P:Params):Obj:=⟨(.type "function"),none,(gw (bo 15 (some 9)) s!"charsUntil" s!"HTMLUnicodeInputStream.charsUntil" 3 [] (.ref 149) .none .none (.str s!"html5lib._inputstream" 564) none (.ref 155) .none 0),⟨[]⟩⟩
noncomputable def BO (P:Params):Obj:=⟨(.type "code"),none,(.fields ⟨[(.str s!"unget" 710),(.str s!"HTMLUnicodeInputStream.unget" 711),(.str s!"/claim/cut.py" 712),(.int 124 0),(.int 2 0),(.int 0 0),(.int 0 0),(.int 3 0),(.ref 157),(.bool true),(.int 181 0),(.ref 158),.none,(.ref 159),(.ref 160),(.ref 161),(.int 715 0),(.int 124 0),(.str s!"/claim/cut.py" 716)]⟩),⟨[]⟩⟩
noncomputable def BP (P:Params):Obj:=⟨(.type "function"),none,(gw (bo 15 (some 10)) s!"unget" s!"HTMLUnicodeInputStream.unget" 3 [] .none .none .none (.str s!"html5lib._inputstream" 564) none (.ref 162) .none 0),⟨[]⟩⟩
noncomputable def BQ (P:Params):Obj:=⟨(.type "dict"),none,(.dict ⟨[!(s!"__module__",619,.str s!"html5lib._inputstream" 564),!(s!"__firstlineno__",623,.int 29 622),!(s!"_defaultChunkSize",625,.int 10240 624),!(s!"__init__",633,.ref 98),!(s!"reset",640,.ref 105),!(s!"openStream",649,.ref 112),!(s!"_position",662,.ref 119),!(s!"position",669,.ref 126),!(s!"char",678,.ref 133),!(s!"readChunk",688,.ref 141),!(s!"characterErrorsUCS4",697,.ref 148),!(s!"charsUntil",709,.ref 156),!(s!"unget",717,.ref 163),!(s!"__static_attributes__",728,.ref 164),!(s!"__dict__",730,.ref 167),!(s!"__weakref__",732,.ref 168),!(s!"__doc__",733,.none)]⟩ 4),⟨[]⟩⟩
noncomputable def BS (P:Params):Obj:=⟨(.type "type"),none,(.cls ⟨s!"HTMLUnicodeInputStream",[(.type "object")],[(.ref 166),(.type "object")],165,s!"HTMLUnicodeInputStream",true,[],[],false,none,false⟩),⟨[(some (.ref 85)),none,(some (.str s!"HTMLUnicodeInputStream" 612)),(some (.str s!"HTMLUnicodeInputStream" 620)),(some (.builtin "object.__new__")),(some (.bool true))]⟩⟩
noncomputable def BU (P:Params):Obj:=⟨(.type "tuple"),none,(.seq ⟨[.none]⟩ 0),⟨[]⟩⟩
noncomputable def BW (P:Params):Obj:=⟨(.type "code"),none,(.fields ⟨[(.str s!"__init__" 854),(.str s!"HTMLTokenizer.__init__" 855),(.str s!"/claim/cut.py" 856),(.int 183 0),(.int 3 0),(.int 0 0),(.int 0 0),(.int 3 0),(.ref 255),(.bool true),(.int 181 0),(.ref 256),.none,(.ref 257),(.ref 258),(.ref 259),(.int 860 0),(.int 183 0),(.str s!"/claim/cut.py" 861)]⟩),⟨[]⟩⟩
noncomputable def BX (P:Params):Obj:=⟨(.type "function"),none,(gw (bo 21 (some 0)) s!"__init__" s!"HTMLTokenizer.__init__" 3 [] (.ref 254) .none .none (.str s!"html5lib._tokenizer" 825) none (.ref 260) .none 0),⟨[]⟩⟩
noncomputable def sO (P:Params):Obj:=⟨(.type "code"),none,(.fields ⟨[(.str s!"__iter__" 863),(.str s!"HTMLTokenizer.__iter__" 864),(.str s!"/claim/cut.py" 865),(.int 192 0),(.int 1 0),(.int 0 0),(.int 0 0),(.int 35 0),(.ref 262),(.bool true),(.int 181 0),(.ref 263),.none,(.ref 264),(.ref 265),(.ref 266),(.int 867 0),(.int 192 0),(.str s!"/claim/cut.py" 868)]⟩),⟨[]⟩⟩
noncomputable def lb (P:Params):Obj:=⟨(.type "function"),none,(gw (bo 21 (some 1)) s!"__iter__" s!"HTMLTokenizer.__iter__" 3 [] .none .none .none (.str s!"html5lib._tokenizer" 825) none (.ref 267) .none 0),⟨[]⟩⟩
noncomputable def BY (P:Params):Obj:=⟨(.type "code"),none,(.fields ⟨[(.str s!"dataState" 918),(.str s!"HTMLTokenizer.dataState" 919),(.str s!"/claim/cut.py" 920),(.int 303 0),(.int 1 0),(.int 0 0),(.int 0 0),(.int 3 0),(.ref 298),(.bool true),(.int 181 0),(.ref 299),.none,(.ref 300),(.ref 301),(.ref 302),(.int 924 0),(.int 303 0),(.str s!"/claim/cut.py" 925)]⟩),⟨[]⟩⟩
noncomputable def BZ (P:Params):Obj:=⟨(.type "function"),none,(gw (bo 21 (some 6)) s!"dataState" s!"HTMLTokenizer.dataState" 3 [] .none .none .none (.str s!"html5lib._tokenizer" 825) none (.ref 303) .none 0),⟨[]⟩⟩
noncomputable def B3 (P:Params):Obj:=⟨(.type "code"),none,(.fields ⟨[(.str s!"tagOpenState" 969),(.str s!"HTMLTokenizer.tagOpenState" 970),(.str s!"/claim/cut.py" 971),(.int 341 0),(.int 1 0),(.int 0 0),(.int 0 0),(.int 3 0),(.ref 347),(.bool true),(.int 181 0),(.ref 348),.none,(.ref 349),(.ref 350),(.ref 351),(.int 974 0),(.int 341 0),(.str s!"/claim/cut.py" 975)]⟩),⟨[]⟩⟩
noncomputable def B4 (P:Params):Obj:=⟨(.type "function"),none,(gw (bo 21 (some 13)) s!"tagOpenState" s!"HTMLTokenizer.tagOpenState" 3 [] .none .none .none (.str s!"html5lib._tokenizer" 825) none (.ref 352) .none 0),⟨[]⟩⟩
noncomputable def B5 (P:Params):Obj:=⟨(.type "code"),none,(.fields ⟨[(.str s!"closeTagOpenState" 977),(.str s!"HTMLTokenizer.closeTagOpenState" 978),(.str s!"/claim/cut.py" 979),(.int 365 0),(.int 1 0),(.int 0 0),(.int 0 0),(.int 3 0),(.ref 354),(.bool true),(.int 181 0),(.ref 355),.none,(.ref 356),(.ref 357),(.ref 358),(.int 982 0),(.int 365 0),(.str s!"/claim/cut.py" 983)]⟩),⟨[]⟩⟩
noncomputable def B6 (P:Params):Obj:=⟨(.type "function"),none,(gw (bo 21 (some 14)) s!"closeTagOpenState" s!"HTMLTokenizer.closeTagOpenState" 3 [] .none .none .none (.str s!"html5lib._tokenizer" 825) none (.ref 359) .none 0),⟨[]⟩⟩
noncomputable def B7 (P:Params):Obj:=⟨(.type "code"),none,(.fields ⟨[(.str s!"bogusCommentState" 1230),(.str s!"HTMLTokenizer.bogusCommentState" 1231),(.str s!"/claim/cut.py" 1232),(.int 681 0),(.int 1 0),(.int 0 0),(.int 0 0),(.int 3 0),(.ref 592),(.bool true),(.int 181 0),(.ref 593),.none,(.ref 594),(.ref 595),(.ref 596),(.int 1235 0),(.int 681 0),(.str s!"/claim/cut.py" 1236)]⟩),⟨[]⟩⟩
noncomputable def B8 (P:Params):Obj:=⟨(.type "function"),none,(gw (bo 21 (some 48)) s!"bogusCommentState" s!"HTMLTokenizer.bogusCommentState" 3 [] .none .none .none (.str s!"html5lib._tokenizer" 825) none (.ref 597) .none 0),⟨[]⟩⟩
noncomputable def B9 (P:Params):Obj:=⟨(.type "code"),none,(.fields ⟨[(.str s!"markupDeclarationOpenState" 1238),(.str s!"HTMLTokenizer.markupDeclarationOpenState" 1239),(.str s!"/claim/cut.py" 1240),(.int 689 0),(.int 1 0),(.int 0 0),(.int 0 0),(.int 3 0),(.ref 599),(.bool true),(.int 181 0),(.ref 600),.none,(.ref 601),(.ref 602),(.ref 603),(.int 1245 0),(.int 689 0),(.str s!"/claim/cut.py" 1246)]⟩),⟨[]⟩⟩
noncomputable def B' (P:Params):Obj:=⟨(.type "function"),none,(gw (bo 21 (some 49)) s!"markupDeclarationOpenState" s!"HTMLTokenizer.markupDeclarationOpenState" 3 [] .none .none .none (.str s!"html5lib._tokenizer" 825) none (.ref 604) .none 0),⟨[]⟩⟩
noncomputable def Ca (P:Params):Obj:=⟨(.type "code"),none,(.fields ⟨[(.str s!"commentStartState" 1248),(.str s!"HTMLTokenizer.commentStartState" 1249),(.str s!"/claim/cut.py" 1250),(.int 714 0),(.int 1 0),(.int 0 0),(.int 0 0),(.int 3 0),(.ref 606),(.bool true),(.int 181 0),(.ref 607),.none,(.ref 608),(.ref 609),(.ref 610),(.int 1253 0),(.int 714 0),(.str s!"/claim/cut.py" 1254)]⟩),⟨[]⟩⟩
noncomputable def Cb (P:Params):Obj:=⟨(.type "function"),none,(gw (bo 21 (some 50)) s!"commentStartState" s!"HTMLTokenizer.commentStartState" 3 [] .none .none .none (.str s!"html5lib._tokenizer" 825) none (.ref 611) .none 0),⟨[]⟩⟩
noncomputable def Cc (P:Params):Obj:=⟨(.type "code"),none,(.fields ⟨[(.str s!"commentStartDashState" 1256),(.str s!"HTMLTokenizer.commentStartDashState" 1257),(.str s!"/claim/cut.py" 1258),(.int 734 0),(.int 1 0),(.int 0 0),(.int 0 0),(.int 3 0),(.ref 613),(.bool true),(.int 181 0),(.ref 614),.none,(.ref 615),(.ref 616),(.ref 617),(.int 1261 0),(.int 734 0),(.str s!"/claim/cut.py" 1262)]⟩),⟨[]⟩⟩
noncomputable def Cd (P:Params):Obj:=⟨(.type "function"),none,(gw (bo 21 (some 51)) s!"commentStartDashState" s!"HTMLTokenizer.commentStartDashState" 3 [] .none .none .none (.str s!"html5lib._tokenizer" 825) none (.ref 618) .none 0),⟨[]⟩⟩
noncomputable def Ce (P:Params):Obj:=⟨(.type "code"),none,(.fields ⟨[(.str s!"commentState" 1264),(.str s!"HTMLTokenizer.commentState" 1265),(.str s!"/claim/cut.py" 1266),(.int 754 0),(.int 1 0),(.int 0 0),(.int 0 0),(.int 3 0),(.ref 620),(.bool true),(.int 181 0),(.ref 621),.none,(.ref 622),(.ref 623),(.ref 624),(.int 1269 0),(.int 754 0),(.str s!"/claim/cut.py" 1270)]⟩),⟨[]⟩⟩
noncomputable def Cf (P:Params):Obj:=⟨(.type "function"),none,(gw (bo 21 (some 52)) s!"commentState" s!"HTMLTokenizer.commentState" 3 [] .none .none .none (.str s!"html5lib._tokenizer" 825) none (.ref 625) .none 0),⟨[]⟩⟩
noncomputable def Cg (P:Params):Obj:=⟨(.type "code"),none,(.fields ⟨[(.str s!"commentEndDashState" 1272),(.str s!"HTMLTokenizer.commentEndDashState" 1273),(.str s!"/claim/cut.py" 1274),(.int 769 0),(.int 1 0),(.int 0 0),(.int 0 0),(.int 3 0),(.ref 627),(.bool true),(.int 181 0),(.ref 628),.none,(.ref 629),(.ref 630),(.ref 631),(.int 1277 0),(.int 769 0),(.str s!"/claim/cut.py" 1278)]⟩),⟨[]⟩⟩
noncomputable def Ch (P:Params):Obj:=⟨(.type "function"),none,(gw (bo 21 (some 53)) s!"commentEndDashState" s!"HTMLTokenizer.commentEndDashState" 3 [] .none .none .none (.str s!"html5lib._tokenizer" 825) none (.ref 632) .none 0),⟨[]⟩⟩
noncomputable def Ci (P:Params):Obj:=⟨(.type "code"),none,(.fields ⟨[(.str s!"commentEndState" 1280),(.str s!"HTMLTokenizer.commentEndState" 1281),(.str s!"/claim/cut.py" 1282),(.int 786 0),(.int 1 0),(.int 0 0),(.int 0 0),(.int 3 0),(.ref 634),(.bool true),(.int 181 0),(.ref 635),.none,(.ref 636),(.ref 637),(.ref 638),(.int 1285 0),(.int 786 0),(.str s!"/claim/cut.py" 1286)]⟩),⟨[]⟩⟩
noncomputable def Cj (P:Params):Obj:=⟨(.type "function"),none,(gw (bo 21 (some 54)) s!"commentEndState" s!"HTMLTokenizer.commentEndState" 3 [] .none .none .none (.str s!"html5lib._tokenizer" 825) none (.ref 639) .none 0),⟨[]⟩⟩
noncomputable def Ck (P:Params):Obj:=⟨(.type "code"),none,(.fields ⟨[(.str s!"commentEndBangState" 1288),(.str s!"HTMLTokenizer.commentEndBangState" 1289),(.str s!"/claim/cut.py" 1290),(.int 811 0),(.int 1 0),(.int 0 0),(.int 0 0),(.int 3 0),(.ref 641),(.bool true),(.int 181 0),(.ref 642),.none,(.ref 643),(.ref 644),(.ref 645),(.int 1293 0),(.int 811 0),(.str s!"/claim/cut.py" 1294)]⟩),⟨[]⟩⟩
noncomputable def Cl (P:Params):Obj:=⟨(.type "function"),none,(gw (bo 21 (some 55)) s!"commentEndBangState" s!"HTMLTokenizer.commentEndBangState" 3 [] .none .none .none (.str s!"html5lib._tokenizer" 825) none (.ref 646) .none 0),⟨[]⟩⟩
noncomputable def Cm (P:Params):Obj:=⟨(.type "dict"),none,(.dict ⟨[!(s!"__module__",849,.str s!"html5lib._tokenizer" 825),!(s!"__firstlineno__",853,.int 181 852),!(s!"__init__",862,.ref 261),!(s!"__iter__",869,.ref 268),!(s!"consumeNumberEntity",884,.ref 275),!(s!"consumeEntity",899,.ref 283),!(s!"processEntityInAttribute",907,.ref 290),!(s!"emitCurrentToken",917,.ref 297),!(s!"dataState",926,.ref 304),!(s!"entityDataState",933,.ref 311),!(s!"rcdataState",940,.ref 318),!(s!"characterReferenceInRcdata",947,.ref 325),!(s!"rawtextState",954,.ref 332),!(s!"scriptDataState",961,.ref 339),!(s!"plaintextState",968,.ref 346),!(s!"tagOpenState",976,.ref 353),!(s!"closeTagOpenState",984,.ref 360),!(s!"tagNameState",992,.ref 367),!(s!"rcdataLessThanSignState",999,.ref 374),!(s!"rcdataEndTagOpenState",1006,.ref 381),!(s!"rcdataEndTagNameState",1013,.ref 388),!(s!"rawtextLessThanSignState",1020,.ref 395),!(s!"rawtextEndTagOpenState",1027,.ref 402),!(s!"rawtextEndTagNameState",1034,.ref 409),!(s!"scriptDataLessThanSignState",1041,.ref 416),!(s!"scriptDataEndTagOpenState",1048,.ref 423),!(s!"scriptDataEndTagNameState",1055,.ref 430),!(s!"scriptDataEscapeStartState",1062,.ref 437),!(s!"scriptDataEscapeStartDashState",1069,.ref 444),!(s!"scriptDataEscapedState",1076,.ref 451),!(s!"scriptDataEscapedDashState",1083,.ref 458),!(s!"scriptDataEscapedDashDashState",1090,.ref 465),!(s!"scriptDataEscapedLessThanSignState",1097,.ref 472),!(s!"scriptDataEscapedEndTagOpenState",1104,.ref 479),!(s!"scriptDataEscapedEndTagNameState",1111,.ref 486),!(s!"scriptDataDoubleEscapeStartState",1118,.ref 493),!(s!"scriptDataDoubleEscapedState",1125,.ref 500),!(s!"scriptDataDoubleEscapedDashState",1132,.ref 507),!(s!"scriptDataDoubleEscapedDashDashState",1139,.ref 514),!(s!"scriptDataDoubleEscapedLessThanSignState",1146,.ref 521),!(s!"scriptDataDoubleEscapeEndState",1153,.ref 528),!(s!"beforeAttributeNameState",1161,.ref 535),!(s!"attributeNameState",1173,.ref 542),!(s!"afterAttributeNameState",1181,.ref 549),!(s!"beforeAttributeValueState",1189,.ref 556),!(s!"attributeValueDoubleQuotedState",1197,.ref 563),!(s!"attributeValueSingleQuotedState",1205,.ref 570),!(s!"attributeValueUnQuotedState",1213,.ref 577),!(s!"afterAttributeValueState",1221,.ref 584),!(s!"selfClosingStartTagState",1229,.ref 591),!(s!"bogusCommentState",1237,.ref 598),!(s!"markupDeclarationOpenState",1247,.ref 605),!(s!"commentStartState",1255,.ref 612),!(s!"commentStartDashState",1263,.ref 619),!(s!"commentState",1271,.ref 626),!(s!"commentEndDashState",1279,.ref 633),!(s!"commentEndState",1287,.ref 640),!(s!"commentEndBangState",1295,.ref 647),!(s!"doctypeState",1303,.ref 654),!(s!"beforeDoctypeNameState",1311,.ref 661),!(s!"doctypeNameState",1319,.ref 668),!(s!"afterDoctypeNameState",1329,.ref 675),!(s!"afterDoctypePublicKeywordState",1337,.ref 682),!(s!"beforeDoctypePublicIdentifierState",1345,.ref 689),!(s!"doctypePublicIdentifierDoubleQuotedState",1353,.ref 696),!(s!"doctypePublicIdentifierSingleQuotedState",1361,.ref 703),!(s!"afterDoctypePublicIdentifierState",1369,.ref 710),!(s!"betweenDoctypePublicAndSystemIdentifiersState",1377,.ref 717),!(s!"afterDoctypeSystemKeywordState",1385,.ref 724),!(s!"beforeDoctypeSystemIdentifierState",1393,.ref 731),!(s!"doctypeSystemIdentifierDoubleQuotedState",1401,.ref 738),!(s!"doctypeSystemIdentifierSingleQuotedState",1409,.ref 745),!(s!"afterDoctypeSystemIdentifierState",1417,.ref 752),!(s!"bogusDoctypeState",1425,.ref 759),!(s!"__static_attributes__",1434,.ref 760),!(s!"__dict__",1436,.ref 763),!(s!"__weakref__",1438,.ref 764),!(s!"__doc__",1439,.none)]⟩ 4),⟨[]⟩⟩
noncomputable def Cn (P:Params):Obj:=⟨(.type "type"),none,(.cls ⟨s!"HTMLTokenizer",[(.type "object")],[(.ref 762),(.type "object")],761,s!"HTMLTokenizer",true,[],[],false,none,false⟩),⟨[(some (.ref 247)),none,(some (.str s!"HTMLTokenizer" 842)),(some (.str s!"HTMLTokenizer" 850)),(some (.builtin "object.__new__")),(some (.bool true))]⟩⟩
noncomputable def ig (P:Params):Obj:=⟨(.type "list"),none,(.seq ⟨[(.str s!"-" 1444),(.str s!"<!--" 1445),(.str s!">" 1446),(.str s!"!" 1447),(.str s!"1" 1448),(.str s!"--" 1449),(.str s!"-->" 1450),(.str ⟨⟨[0]⟩⟩ 1451),(.str s!"<" 1452),(.str s!" " 1453),(.str s!"</" 1454),(.str s!"<?" 1455),(.str s!"--!>" 1456)]⟩ 0),⟨[]⟩⟩
noncomputable def sQ (P:Params):Obj:=⟨(.type "code"),none,(.fields ⟨[(.str s!"_law_comment" 1458),(.str s!"_law_comment" 1459),(.str s!"/claim/cut.py" 1460),(.int 1186 0),(.int 2 0),(.int 0 0),(.int 0 0),(.int 3 0),(.ref 768),(.bool true),(.int 181 0),(.ref 769),.none,(.ref 770),(.ref 771),(.ref 772),(.int 1469 0),(.int 1186 0),(.str s!"/claim/cut.py" 1470)]⟩),⟨[]⟩⟩
noncomputable def jM (P:Params):Obj:=⟨(.type "function"),none,(gw (bo 24 none) s!"_law_comment" s!"_law_comment" 3 [] .none .none .none (.str s!"law_te0043_03" 1442) none (.ref 773) .none 0),⟨[]⟩⟩
noncomputable def sR (P:Params):Obj:=⟨(.type "code"),none,(.fields ⟨[(.str s!"_law_bogus" 1472),(.str s!"_law_bogus" 1473),(.str s!"/claim/cut.py" 1474),(.int 1230 0),(.int 2 0),(.int 0 0),(.int 0 0),(.int 3 0),(.ref 775),(.bool true),(.int 181 0),(.ref 776),.none,.none,.none,(.ref 777),(.int 1475 0),(.int 1230 0),(.str s!"/claim/cut.py" 1476)]⟩),⟨[]⟩⟩
noncomputable def jN (P:Params):Obj:=⟨(.type "function"),none,(gw (bo 25 none) s!"_law_bogus" s!"_law_bogus" 3 [] .none .none .none (.str s!"law_te0043_03" 1442) none (.ref 778) .none 0),⟨[]⟩⟩
noncomputable def sU (P:Params):Obj:=⟨(.type "code"),none,(.fields ⟨[(.str s!"_law_bracket" 1478),(.str s!"_law_bracket" 1479),(.str s!"/claim/cut.py" 1480),(.int 1235 0),(.int 2 0),(.int 0 0),(.int 0 0),(.int 3 0),(.ref 780),(.bool true),(.int 181 0),(.ref 781),.none,.none,.none,(.ref 782),(.int 1481 0),(.int 1235 0),(.str s!"/claim/cut.py" 1482)]⟩),⟨[]⟩⟩
noncomputable def jO (P:Params):Obj:=⟨(.type "function"),none,(gw (bo 26 none) s!"_law_bracket" s!"_law_bracket" 3 [] .none .none .none (.str s!"law_te0043_03" 1442) none (.ref 783) .none 0),⟨[]⟩⟩
noncomputable def oY (P:Params):Obj:=⟨(.type "code"),none,(.fields ⟨[(.str s!"law" 1484),(.str s!"law" 1485),(.str s!"/claim/cut.py" 1486),(.int 1252 0),(.int 1 0),(.int 0 0),(.int 0 0),(.int 3 0),(.ref 785),(.bool true),(.int 181 0),(.ref 786),.none,.none,.none,(.ref 787),(.int 1487 0),(.int 1252 0),(.str s!"/claim/cut.py" 1488)]⟩),⟨[]⟩⟩
noncomputable def lc (P:Params):Obj:=⟨(.type "function"),none,(gw (bo 27 none) s!"law" s!"law" 3 [] .none .none .none (.str s!"law_te0043_03" 1442) none (.ref 788) .none 0),⟨[]⟩⟩
noncomputable def JV (P:Params):KT:=(.node (some (Lp P)) (.node none (.node (some (Hq P)) (.node none (.node none (.node none (.node (some (Hs P)) (.node none (.node none .nil (.node (some (ig P)) .nil .nil)) (.node none (.node (some (Ci P)) .nil .nil) .nil)) .nil) .nil) (.node none (.node none (.node none (.node none .nil (.node (some (sU P)) .nil .nil)) .nil) .nil) (.node (some (BA P)) (.node none (.node (some (BY P)) .nil .nil) .nil) .nil))) (.node none (.node none (.node none (.node none .nil (.node none (.node (some (Cl P)) .nil .nil) .nil)) .nil) (.node none .nil (.node none (.node (some (B5 P)) .nil .nil) .nil))) (.node none .nil (.node (some (BD P)) .nil .nil)))) (.node none (.node none (.node none .nil (.node none (.node (some (BP P)) .nil .nil) (.node none (.node none (.node (some (Ca P)) .nil .nil) .nil) .nil))) (.node none (.node (some (Hx P)) (.node (some (BJ P)) .nil .nil) .nil) .nil)) (.node (some (Dj P)) (.node none (.node none (.node none (.node (some (sO P)) .nil (.node (some (jN P)) .nil .nil)) .nil) .nil) (.node none .nil (.node none (.node none (.node (some (Cd P)) .nil .nil) .nil) .nil))) (.node none (.node none (.node (some (BM P)) .nil .nil) .nil) .nil)))) (.node none (.node none (.node none (.node none .nil (.node (some (Hz P)) .nil (.node none (.node (some (B4 P)) .nil .nil) .nil))) (.node none .nil (.node none .nil (.node none (.node none (.node (some (Ce P)) .nil .nil) .nil) .nil)))) (.node none (.node none (.node (some (Hw P)) .nil .nil) (.node (some (Bz P)) .nil .nil)) (.node none .nil (.node none .nil (.node none (.node none (.node (some (Ch P)) .nil .nil) .nil) (.node none (.node (some (Cm P)) .nil .nil) .nil)))))) (.node none (.node none (.node none (.node (some (Ht P)) (.node (some (BF P)) (.node (some (BX P)) .nil (.node (some (sQ P)) .nil .nil)) .nil) .nil) (.node none (.node (some (BQ P)) .nil .nil) .nil)) (.node none (.node none (.node (some (BL P)) (.node none .nil (.node (some (lc P)) .nil .nil)) .nil) (.node none (.node none (.node (some (B7 P)) .nil .nil) .nil) .nil)) .nil)) (.node none (.node none (.node none (.node (some (BI P)) .nil .nil) .nil) .nil) (.node none (.node none .nil (.node none (.node none (.node (some (B' P)) .nil .nil) .nil) .nil)) .nil))))) (.node (some (JU P)) (.node none (.node none (.node none (.node none (.node none (.node none .nil (.node none (.node (some (Cj P)) .nil .nil) .nil)) .nil) (.node none .nil (.node none (.node (some (B3 P)) .nil .nil) .nil))) (.node (some (Dk P)) (.node none (.node none (.node none .nil (.node (some (jO P)) .nil .nil)) .nil) .nil) (.node (some (BB P)) (.node none (.node (some (BZ P)) .nil .nil) .nil) .nil))) (.node none (.node none (.node (some (Hv P)) .nil .nil) (.node (some (By P)) .nil (.node none (.node (some (B6 P)) .nil .nil) .nil))) (.node none .nil (.node none .nil (.node none (.node none (.node (some (Cg P)) .nil .nil) .nil) .nil))))) (.node none (.node none (.node none (.node none (.node (some (BE P)) (.node (some (BW P)) .nil .nil) .nil) .nil) (.node none .nil (.node none (.node none (.node (some (Cb P)) .nil .nil) .nil) .nil))) (.node none (.node (some (Hy P)) (.node (some (BK P)) (.node none .nil (.node (some (oY P)) .nil .nil)) .nil) .nil) .nil)) (.node none (.node none (.node none (.node (some (BH P)) (.node (some (lb P)) .nil .nil) .nil) .nil) .nil) (.node none (.node none (.node (some (BN P)) .nil .nil) (.node none (.node none (.node (some (B9 P)) .nil .nil) .nil) .nil)) .nil)))) (.node none (.node none (.node none (.node none .nil (.node (some (HA P)) (.node (some (BO P)) .nil .nil) .nil)) (.node none .nil (.node none .nil (.node none (.node none (.node (some (Cf P)) .nil .nil) .nil) .nil)))) (.node none (.node none (.node none (.node none (.node none .nil (.node (some (sR P)) .nil .nil)) .nil) .nil) (.node none .nil (.node none (.node none (.node (some (Cc P)) .nil .nil) .nil) .nil))) (.node none .nil (.node none .nil (.node none .nil (.node none (.node (some (Cn P)) .nil .nil) .nil)))))) (.node none (.node (some (Di P)) (.node none (.node (some (Hu P)) (.node (some (BG P)) (.node none .nil (.node (some (jM P)) .nil .nil)) (.node none (.node (some (Ck P)) .nil .nil) .nil)) .nil) (.node none (.node (some (BS P)) .nil .nil) .nil)) (.node none (.node none .nil (.node none (.node none (.node (some (B8 P)) .nil .nil) .nil) .nil)) (.node (some (BC P)) .nil .nil))) (.node none .nil (.node (some (Hr P)) .nil (.node none .nil (.node (some (BU P)) .nil .nil))))))))
noncomputable def Kf (P:Params):Frag:=[(0,Lp P),(2,JU P),(3,Hq P),(22,Di P),(27,Dj P),(48,Dk P),(62,Hr P),(63,Hs P),(69,Ht P),(70,Hu P),(72,Hv P),(73,Hw P),(83,Hx P),(84,Hy P),(97,Hz P),(98,HA P),(104,By P),(105,Bz P),(111,BA P),(112,BB P),(118,BC P),(119,BD P),(132,BE P),(133,BF P),(134,BG P),(140,BH P),(141,BI P),(147,BJ P),(148,BK P),(149,BL P),(155,BM P),(156,BN P),(162,BO P),(163,BP P),(165,BQ P),(166,BS P),(254,BU P),(260,BW P),(261,BX P),(267,sO P),(268,lb P),(303,BY P),(304,BZ P),(352,B3 P),(353,B4 P),(359,B5 P),(360,B6 P),(597,B7 P),(598,B8 P),(604,B9 P),(605,B' P),(611,Ca P),(612,Cb P),(618,Cc P),(619,Cd P),(625,Ce P),(626,Cf P),(632,Cg P),(633,Ch P),(639,Ci P),(640,Cj P),(646,Ck P),(647,Cl P),(761,Cm P),(762,Cn P),(767,ig P),(773,sQ P),(774,jM P),(778,sR P),(779,jN P),(783,sU P),(784,jO P),(788,oY P),(789,lc P)]
noncomputable def JJ:List Addr:=[0,2,3,22,27,48,62,63,69,70,72,73,83,84,97,98,104,105,111,112,118,119,132,133,134,140,141,147,148,149,155,156,162,163,165,166,254,260,261,267,268,303,304,352,353,359,360,597,598,604,605,611,612,618,619,625,626,632,633,639,640,646,647,761,762,767,773,774,778,779,783,784,788,789]
noncomputable abbrev Dl:Code→Sem PySem.Fin:=PySem.W.Fast.tw11892475500146522536 PySem.W.Fast.tw14364793385576792824
theorem xQ:denote treeTable=Dl:=by
 show denote treeTable=PySem.W.Fast.tw11892475500146522536 PySem.W.Fast.tw14364793385576792824
 rw [←PySem.W.Fast.te11892475500146522536,←PySem.W.Fast.te14364793385576792824]
noncomputable abbrev Co:=PySem.W.Fast.tw10156331382660048174
noncomputable abbrev Cp:=PySem.W.Fast.tw6613529449190102663
noncomputable def sV (p:Program) (w:World) (d:Nat) (u:Option Value):Nat→SharedT→Thread→Option SharedT
 | 0,s,t=>none
 | n + 1,s,t=>match through t with
  | true=>some s
  | false=>match Cp d u t with
   | false=>none
   | true=>match Co Dl p w s t with
    | some (s',z)=>sV p w d u n s' z
    | none=>none
theorem iZ {p:Program} {w:World} {d:Nat} {u:Option Value}:∀{n:Nat} {s s':SharedT} {t:Thread},sV p w d u n s t=some s'→topRun treeTable p w d u n s.abs t=some s'.abs
 | 0,_,_,_,h=>by cases h
 | n + 1,s,s',t,h=>by
  unfold sV at h
  unfold topRun
  cases z:through t with
  | true=>rw [z] at h; cases h; rfl
  | false=>
   rw [z] at h
   have D:Cp d u t=stepOk d u t:=by rw [PySem.W.Fast.te6613529449190102663]
   rw [D] at h
   cases hk:stepOk d u t with
   | false=>rw [hk] at h; cases h
   | true=>
    rw [hk] at h
    have G:Co Dl p w s t=stepT (denote treeTable) p w s t:=by rw [PySem.W.Fast.te10156331382660048174,xQ]
    rw [G] at h
    cases hs:stepT (denote treeTable) p w s t with
    | none=>rw [hs] at h; cases h
    | some r=>
     obtain ⟨s₂,B⟩:=r
     rw [hs] at h
     rw [stepT_spec hs]
     exact iZ h
noncomputable def sW:BT→Nat→List Obj→BT
 | t,_,[]=>t
 | t,i,o::l=>sW (t.ins i o) (i + 1) l
noncomputable def sX (P:Params):List Obj:=[boot_o_0 P,boot_o_1 P,boot_o_2 P,boot_o_3 P,boot_o_4 P,boot_o_5 P,boot_o_6 P,boot_o_7 P,boot_o_8 P,boot_o_9 P,boot_o_10 P]
noncomputable def sY (P:Params) (os:OsState):SharedT:=⟨sW .nil 0 (sX P),11,(boot_heap P).life,⟨[]⟩,boot_drawn,boot_toks,os⟩
theorem qj (P:Params) (os:OsState):(sY P os).abs=⟨boot_heap P,⟨[]⟩,boot_drawn,boot_toks,os⟩:=by
 kernel_rfl
theorem xR (P:Params):((boot_heap P).isNs mainGlobals && (Array.mk ([]:List GenState)).size == 0)=true:=by kernel_rfl
theorem qk (P:Params):(boot_heap P).objs.size=11:=by kernel_rfl
theorem xT {p q:Program} {loose:List Str} {Xt:Shared→Bool} {z:Type} {Yf:Shared→z} {Ya:World→z} {N M:Nat}
  (e:opening p=plainProg p.main.scope.names) (hN:Nat.ble 600 N=true) (f:∀s,fenceModules? p s=some s) (le:Nat.ble M N=true)
  (run:∀(w:World) (os:OsState),(sV p w 11 ((boot_heap w.params).nsMap mainGlobals "__annotations__") M (sY w.params os) (topStub p)).map (fun s=>
    (staticsOk (importedModules p.main.body) (boot_heap w.params) s.abs.heap && namesBound p s.abs.heap && gensDone s.abs && laidKept (boot_heap w.params) s.abs.heap,
     PySem.W.Fast.tw4187177175401517315 q loose (importedModules p.main.body) Xt true s.abs,Yf s.abs))=some (true,openGood q loose,Ya w)):
  LeftO p q loose Xt Yf Ya N:=fun w=>by
 obtain ⟨⟨h,gs,d,k,os⟩,e1,B⟩:=Option.map_eq_some_iff.mp (boot_open e hN f w)
 obtain ⟨rfl,rfl,rfl,rfl⟩:h=boot_heap w.params∧gs=⟨[]⟩∧d=boot_drawn∧k=boot_toks:=by simpa using B
 obtain ⟨u,D,G⟩:=Option.map_eq_some_iff.mp (run w os)
 obtain ⟨l1,l2,H⟩:_∧_∧_:=by simpa only [Prod.mk.injEq] using G
 have r:=iZ D
 rw [qj] at r
 have r:=topRun_mono (N - M) _ _ _ _ r
 rw [show M + (N - M)=N by have:=Nat.le_of_ble_eq_true le; omega] at r
 have t:topFrom treeTable p w N ⟨boot_heap w.params,⟨[]⟩,boot_drawn,boot_toks,os⟩=some u.abs:=by
  unfold topFrom
  dsimp only
  rw [xR,qk,r]
  show(match staticsOk (importedModules p.main.body) (boot_heap w.params) u.abs.heap && namesBound p u.abs.heap && gensDone u.abs && laidKept (boot_heap w.params) u.abs.heap with | true=>_ | false=>_)=_
  rw [l1]
 unfold openEnds
 rw [e1]
 show(topFrom treeTable p w N _).map _=_
 rw [t]
 rw [←PySem.W.Fast.te4187177175401517315] at l2
 exact congrArg some (Prod.ext l2 H)
noncomputable abbrev dz:Code→Sem PySem.Fin:=PySem.W.ZFast.zw11892475500146522536 PySem.W.ZFast.tableZ
theorem sZ:denote table=dz:=by
 show denote table=PySem.W.ZFast.zw11892475500146522536 PySem.W.ZFast.tableZ
 rw [←PySem.W.ZFast.ze11892475500146522536,←PySem.W.ZFast.tableZ_eq]
noncomputable abbrev mJ:Code→Bool:=PySem.W.ZFast.zw17772548960776305114
theorem ql:Code.quiet=mJ:=PySem.W.ZFast.ze17772548960776305114
noncomputable abbrev iO:Code→Bool:=PySem.W.ZFast.zw2167841511373827401
theorem mL:Code.isCaller=iO:=PySem.W.ZFast.ze2167841511373827401
noncomputable def ai:Value→Value
 | .int i _=>.int i 0
 | .float b _=>.float b 0
 | .str s _=>.str s 0
 | .bytes b _=>.bytes b 0
 | .none=>.none
 | .ellipsis=>.ellipsis
 | .notImplemented=>.notImplemented
 | .bool b=>.bool b
 | .type n=>.type n
 | .builtin n=>.builtin n
 | .ref a=>.ref a
noncomputable def bT (t:Tok):Value→Value
 | .int i _=>.int i t
 | .float b _=>.float b t
 | .str s _=>.str s t
 | .bytes b _=>.bytes b t
 | .none=>.none
 | .ellipsis=>.ellipsis
 | .notImplemented=>.notImplemented
 | .bool b=>.bool b
 | .type n=>.type n
 | .builtin n=>.builtin n
 | .ref a=>.ref a
noncomputable def tokOf:Value→Tok
 | .int _ t=>t
 | .float _ t=>t
 | .str _ t=>t
 | .bytes _ t=>t
 | _=>0
theorem fy (v:Value):bT (tokOf v) (ai v)=v:=by cases v <;> rfl
noncomputable def ae:List Value→List Value
 | []=>[]
 | v::r=>ai v::ae r
noncomputable def cR (y:Nat→Tok):Nat→List Value→List Value
 | _,[]=>[]
 | k,v::r=>bT (y k) v::cR y (k + 1) r
noncomputable def bD:List DictEntry→List DictEntry
 | []=>[]
 | e::r=>⟨e.hash,ai e.key,ai e.val⟩::bD r
noncomputable def dN (y:Nat→Tok):Nat→List DictEntry→List DictEntry
 | _,[]=>[]
 | k,e::r=>⟨e.hash,bT (y k) e.key,bT (y (k + 1)) e.val⟩::dN y (k + 2) r
noncomputable def eR:Data→Data
 | .seq xs _=>.seq ⟨ae xs.toList⟩ 0
 | .dict u _=>.dict ⟨bD u.toList⟩ 0
 | d=>d
noncomputable def HB (y:Nat→Tok):Data→Data
 | .seq xs _=>.seq ⟨cR y 1 xs.toList⟩ (y 0)
 | .dict u _=>.dict ⟨dN y 1 u.toList⟩ (y 0)
 | d=>d
noncomputable def aI:Obj→Obj
 | ⟨c,d,u,sl⟩=>⟨c,d,eR u,sl⟩
noncomputable def fG (y:Nat→Tok):Obj→Obj
 | ⟨c,d,u,sl⟩=>⟨c,d,HB y u,sl⟩
noncomputable def cK:Obj→Obj
 | ⟨c,d,u,sl⟩=>⟨c,d,match u with
  | .seq xs _=>.seq ⟨ae xs.toList⟩ 0
  | .dict z _=>.dict ⟨bD z.toList⟩ 0
  | .fields vs=>.fields ⟨ae vs.toList⟩
  | d=>d,sl⟩
theorem gx:∀(l:List Value) (n:Nat),∃y:Nat→Tok,cR y n (ae l)=l
 | [],n=>⟨fun _=>0,rfl⟩
 | v::l,n=>by
  obtain ⟨y,h⟩:=gx l (n + 1)
  refine⟨fun k=>if k=n then tokOf v else y k,?_⟩
  have e:∀(m:Nat) (d:List Value),n < m→cR (fun k=>if k=n then tokOf v else y k) m d=cR y m d:=by
   intro m d
   induction d generalizing m with
   | nil=>intro _; rfl
   | cons w d u=>
    intro z
    show bT _ w::_=bT _ w::_
    rw [u (m + 1) (by omega)]
    simp only [if_neg (Nat.ne_of_gt z)]
  show bT _ (ai v)::cR _ (n + 1) (ae l)=v::l
  rw [e (n + 1) _ (Nat.lt_succ_self n),h]
  simp only [if_true]
  rw [fy]
theorem lg:∀(l:List DictEntry) (n:Nat),∃y:Nat→Tok,dN y n (bD l)=l
 | [],n=>⟨fun _=>0,rfl⟩
 | v::l,n=>by
  obtain ⟨y,h⟩:=lg l (n + 2)
  refine⟨fun k=>if k=n then tokOf v.key else if k=n + 1 then tokOf v.val else y k,?_⟩
  have e:∀(m:Nat) (d:List DictEntry),n + 1 < m→dN (fun k=>if k=n then tokOf v.key else if k=n + 1 then tokOf v.val else y k) m d=dN y m d:=by
   intro m d
   induction d generalizing m with
   | nil=>intro _; rfl
   | cons w d u=>
    intro I
    show DictEntry.mk _ _ _::_=DictEntry.mk _ _ _::_
    rw [u (m + 2) (by omega)]
    have z:m≠n:=by omega
    have B:m≠n + 1:=by omega
    have D:m + 1≠n:=by omega
    have G:m + 1≠n + 1:=by omega
    simp only [if_neg z,if_neg B,if_neg D,if_neg G]
  show DictEntry.mk _ _ _::dN _ (n + 2) (bD l)=v::l
  rw [e (n + 2) _ (by exact Nat.le_refl _),h]
  have H:n + 1≠n:=by omega
  simp only [if_true,if_neg H]
  rw [fy,fy]
theorem ii (y:Nat→Tok) (t:Tok):∀(l:List Value) (n:Nat),cR (fun k=>if k=0 then t else y k) (n + 1) l=cR y (n + 1) l
 | [],_=>rfl
 | v::l,n=>by
  show bT _ v::_=bT _ v::_
  rw [ii y t l (n + 1)]
  simp
theorem ij (y:Nat→Tok) (t:Tok):∀(l:List DictEntry) (n:Nat),dN (fun k=>if k=0 then t else y k) (n + 1) l=dN y (n + 1) l
 | [],_=>rfl
 | v::l,n=>by
  show DictEntry.mk _ _ _::_=DictEntry.mk _ _ _::_
  rw [show n + 1 + 2=(n + 2) + 1 by rfl,ij y t l (n + 2)]
  simp
theorem gy (o:Obj):∃y:Nat→Tok,o=fG y (aI o):=by
 obtain ⟨c,d,z,sl⟩:=o
 cases z with
 | seq xs n=>
  obtain ⟨y,h⟩:=gx xs.toList 1
  refine⟨fun k=>if k=0 then n else y k,?_⟩
  show _=(⟨c,d,.seq ⟨cR _ 1 (ae xs.toList)⟩ _,sl⟩:Obj)
  rw [ii,h]
  simp
 | dict u n=>
  obtain ⟨y,h⟩:=lg u.toList 1
  refine⟨fun k=>if k=0 then n else y k,?_⟩
  show _=(⟨c,d,.dict ⟨dN _ 1 (bD u.toList)⟩ _,sl⟩:Obj)
  rw [ij,h]
  simp
 | _=>exact⟨fun _=>0,rfl⟩
noncomputable def ao:Code→Code
 | .call f ⟨pos,d⟩=>.call f ⟨ae pos,d⟩
 | .builtin id ⟨pos,d⟩=>.builtin id ⟨ae pos,d⟩
 | c=>c
noncomputable def ba:Result→Result
 | .ok (.ret v)=>.ok (.ret (ai v))
 | r=>r
noncomputable def aA (t:Tok):Result→Result
 | .ok (.ret v)=>.ok (.ret (bT t v))
 | r=>r
theorem eS (r:Result):∃t,r=aA t (ba r):=by
 cases r with
 | error e=>exact⟨0,rfl⟩
 | ok f=>cases f with
  | ret v=>exact⟨tokOf v,by show _=Except.ok (Flow.ret (bT _ (ai v))); rw [fy]⟩
  | _=>exact⟨0,rfl⟩
abbrev aw:=Addr×Obj
noncomputable def jP (L:List aw) (i:Nat):Option aw:=match L with
 | []=>none
 | p::r=>match i with
  | 0=>some p
  | i + 1=>jP r i
noncomputable def put (L:List aw) (i:Nat) (o:Obj):List aw:=match L with
 | []=>[]
 | p::r=>match i with
  | 0=>(p.1,o)::r
  | i + 1=>p::put r i o
noncomputable def gz (L:List aw):List Addr:=match L with
 | []=>[]
 | p::r=>p.1::gz r
noncomputable def snoc (L:List aw) (p:aw):List aw:=match L with
 | []=>[p]
 | q::r=>q::snoc r p
structure bF where
 i:Nat
 pre:Obj
 post:Option Obj
structure Sum where
 code:Code
 ents:List bF
 res:Result
 room:Nat
 ex:Bool:=false
noncomputable def Sum.seen (S:Sum) (c:Code):Code:=match S.ex with
 | true=>c
 | false=>ao c
inductive an
 | top
 | own (i:Nat)
 | fn
 | cut
 | sum (F:List Addr→Sum)
 | pass
 | ext (rm:Nat)
inductive Claim
 | v (x y:Value)
 | o (x y:Obj)
 | c (x y:Code)
noncomputable def Claim.ok:Claim→Prop
 | .v x y=>x=y
 | .o x y=>x=y
 | .c x y=>x=y
inductive az
 | more (g:Addr→az)
 | sum (S:Sum) (as:List Addr) (g:(Nat→Nat→Tok)→az)
 | done (cs:List Claim) (r:Result) (L:List aw)
 | cut (cs:List Claim) (c:Code) (L:List aw)
 | call (rm:Nat) (cs:List Claim) (c:Code) (L:List aw) (g:Result→List aw→Nat→az)
 | fail (n:Nat) (a:Value)
 | failW (w:String)
inductive Kt
 | root
 | top (hd:Option Value) (k:Result→Sem PySem.Fin)
 | ret (c:Code) (hd:Option Value) (k:Result→Sem PySem.Fin) (κ:Kt)
inductive eC
 | out
 | inn (c:Code) (κ:Kt)
instance:Nonempty an:=⟨.top⟩
instance:Nonempty Kt:=⟨.root⟩
instance:Nonempty eC:=⟨.out⟩
instance:Nonempty az:=⟨.failW ""⟩
instance:Nonempty Sum:=⟨⟨default,[],.ok .next,0,false⟩⟩
noncomputable def Lq (a b:Option Value):Option Value:=match a with
 | some v=>some v
 | none=>b
noncomputable def Kt.handled:Kt→Option Value
 | .root=>none
 | .top hd _=>hd
 | .ret _ hd _ d=>Lq hd d.handled
noncomputable def Kt.deep:Kt→Nat
 | .root=>0
 | .top _ _=>1
 | .ret _ _ _ d=>d.deep + 1
noncomputable def eC.handled:eC→Option Value
 | .out=>none
 | .inn _ d=>d.handled
noncomputable def eC.deep:eC→Nat
 | .out=>0
 | .inn _ d=>d.deep
noncomputable def eC.push (d:eC) (hd:Option Value) (k:Result→Sem PySem.Fin):Kt:=match d with
 | .out=>.top hd k
 | .inn c u=>.ret c hd k u
noncomputable def eC.caller (d:eC) (f:Code→Bool):Bool:=match d with
 | .out=>false
 | .inn c _=>f c
structure Vs where
 S:Setting
 kt:KT
 n₁:Nat
 room:Nat
instance:Nonempty Vs:=⟨⟨Classical.choice inferInstance,KT.of [],0,0⟩⟩
noncomputable def i4 (a:Addr) (B:Args):Sem PySem.Fin:=
 .load a none fun o=>match o.data with
  | .func u=>match u.scope.isGenerator with
   | true=>.unsupported "callY"
   | false=>match u.scope.isCoroutine with
    | true=>.unsupported "callY"
    | false=>match u.body with
     | .expr _=>.unsupported "callY"
     | .stmts b=>
      PySem.W.R.bindR (match u.code with
       | .none=>.pure u.qualname
       | c=>PySem.W.R.bindR (PySem.W.ZFast.zw6609576154772507232 c 1) fun v=>match v with
        | .str q _=>.pure q
        | _=>.pure u.qualname) fun d=>
      PySem.W.R.bindR (PySem.W.ZFast.zw9782568553167038054 u B) fun z=>
      PySem.W.R.bindR (PySem.W.ZFast.zw11113344188204177931 u.scope u.globals u.closure z (d++Str.mk ⟨[46,60,108,111,99,97,108,115,62,46]⟩) (some a) u.code none u.builtins) fun env=>
      PySem.W.R.bindR (PySem.W.ZFast.zw13143150168775219229 cStatics (Str.ofString "sys.recursionlimit")) fun r=>match r with
       | none=>.pure (.again (.func b env))
       | some _=>.unsupported "callY"
  | _=>.unsupported "callY"
abbrev St:=List an→List aw→Nat→Nat→List Claim→az
noncomputable def putAll (y:Nat→Nat→Tok):Nat→List bF→List aw→List aw
 | _,[],L=>L
 | n,e::r,L=>match e.post with
  | none=>putAll y (n + 1) r L
  | some O=>putAll y (n + 1) r (put L e.i (fG (y n) O))
noncomputable def dO:List bF→List aw→List Claim→List Addr→Option (List Claim×List Addr)
 | [],_,cs,as=>some (cs,as)
 | e::r,L,cs,as=>match jP L e.i with
  | some p=>match dO r L cs as with
   | some q=>some (.o (cK p.2) e.pre::q.1,p.1::q.2)
   | none=>none
  | none=>none
noncomputable def oZ (i:Nat):List bF→Bool
 | []=>true
 | e::r=>match Nat.beq e.i i with
  | true=>false
  | false=>oZ i r
noncomputable def kq:List bF→Bool
 | []=>true
 | e::r=>match oZ e.i r with
  | true=>kq r
  | false=>false
noncomputable def fail (n:Nat) (v:Value):St:=fun _ _ _ _ _=>.fail n v
noncomputable def JW (u:eC→Sem PySem.Fin→St) (r:Result) (d:Kt):St:=match d with
 | .root=>fun _ L _ _ cs=>.done cs r L
 | .top _ k=>u .out (k r)
 | .ret c _ k d=>u (.inn c d) (k r)
noncomputable def xU (u:eC→Sem PySem.Fin→St) (r:Result) (d:eC):St:=match d with
 | .out=>fun _ L _ _ cs=>.done cs r L
 | .inn _ z=>JW u r z
noncomputable def Dm (c:Code):Bool:=match c with
 | .call f _=>match f with
  | .builtin _=>true
  | .ref _=>true
  | _=>false
 | .whileLoop ..=>true
 | .forLoop ..=>true
 | .compLoop ..=>true
 | .compStart ..=>true
 | .builtin ..=>true
 | _=>false
noncomputable def eT (V:Vs) (u:eC→Sem PySem.Fin→St) (d:eC) (t:Sem PySem.Fin):St:=match t with
 | .pure G=>match G with
  | .done f=>xU u (.ok f) d
  | .again z=>match d with
   | .out=>fail 41 .none
   | .inn c D=>match mJ z with
    | false=>fail 4 .none
    | true=>fun orc L tb i cs=>match orc with
     | []=>u (.inn z D) (dz z) orc L tb i cs
     | o::r=>match o with
      | .fn=>match z with
       | .call f B=>match f with
        | .ref a=>match Nat.ble D.deep 40 with
         | true=>u (.inn z D) (i4 a B) r L tb i cs
         | false=>.fail 42 .none
        | _=>.fail 43 .none
       | _=>.fail 43 .none
      | .cut=>match D with
       | .root=>.cut cs z L
       | _=>.fail 44 .none
      | _=>u (.inn z D) (dz z) orc L tb i cs
 | .raise e=>xU u (.error e) d
 | .rule _ k=>u d (k ())
 | .at _ k=>u d (k ())
 | .point _ k=>u d (k ())
 | .ask k=>u d (k V.S)
 | .load a _ k=>fun orc L tb i cs=>match orc with
  | []=>.fail 10 (.ref a)
  | o::r=>match o with
   | .top=>match Nat.blt a V.n₁ with
    | true=>match V.kt.get a with
     | some H=>u d (k H) r L tb i cs
     | none=>.fail 6 (.ref a)
    | false=>.fail 7 (.ref a)
   | .own j=>match jP L j with
    | some p=>u d (k p.2) r L tb i (.v (.ref a) (.ref p.1)::cs)
    | none=>.fail 8 (.ref a)
   | _=>.fail 9 (.ref a)
 | .loadIfAlive a k=>fun orc L tb i cs=>match orc with
  | []=>.fail 10 (.ref a)
  | o::r=>match o with
   | .top=>match Nat.blt a V.n₁ with
    | true=>match V.kt.get a with
     | some H=>u d (k (some H)) r L tb i cs
     | none=>.fail 6 (.ref a)
    | false=>.fail 7 (.ref a)
   | .own j=>match jP L j with
    | some p=>u d (k (some p.2)) r L tb i (.v (.ref a) (.ref p.1)::cs)
    | none=>.fail 8 (.ref a)
   | _=>.fail 9 (.ref a)
 | .update a _ f k=>fun orc L tb i cs=>match orc with
  | []=>.fail 13 (.ref a)
  | o::r=>match o with
   | .own j=>match jP L j with
    | some p=>match (f p.2).isFreed with
     | false=>u d (k ()) r (put L j (f p.2)) tb i (.v (.ref a) (.ref p.1)::cs)
     | true=>.fail 11 (.ref a)
    | none=>.fail 12 (.ref a)
   | _=>.fail 13 (.ref a)
 | .alloc o k=>fun orc L tb i cs=>match o.isFreed with
  | false=>.more fun a=>u d (k a) orc (snoc L (a,o)) tb i cs
  | true=>.fail 14 .none
 | .fresh k=>fun orc L tb i cs=>u d (k (tb + i)) orc L tb (i + 1) cs
 | .handled own k=>match own with
  | false=>u d (k d.handled)
  | true=>fail 15 .none
 | .call z hd g l k=>match okMark hd with
  | false=>fail 16 .none
  | true=>match d.caller iO with
   | true=>fail 17 .none
   | false=>fun orc L tb i cs=>match orc with
    | []=>u (.inn z (d.push hd k)) (dz z) orc L tb i cs
    | o::r=>match Dm z with
     | false=>u (.inn z (d.push hd k)) (dz z) orc L tb i cs
     | true=>match o with
      | .fn=>match z with
       | .call f B=>match f with
        | .ref a=>match Nat.ble (d.push hd k).deep 40 with
         | true=>u (.inn z (d.push hd k)) (i4 a B) r L tb i cs
         | false=>.fail 42 .none
        | _=>.fail 43 .none
       | _=>.fail 43 .none
      | .sum F=>match (d.push hd k).handled with
       | some _=>.fail 45 .none
       | none=>match Nat.ble (V.room + 20 * (d.push hd k).deep) (F (gz L)).room with
        | false=>.fail 46 .none
        | true=>match dO (F (gz L)).ents L (.c ((F (gz L)).seen z) (F (gz L)).code::cs) [] with
         | none=>.fail 47 .none
         | some q=>match kq (F (gz L)).ents with
          | true=>.sum (F (gz L)) q.2 fun y=>u d (k (aA (y 0 0) (F (gz L)).res)) r (putAll y 1 (F (gz L)).ents L) (y 0 1) 0 q.1
          | false=>.fail 52 .none
      | .pass=>u (.inn z (d.push hd k)) (dz z) r L tb i cs
      | .ext rm=>match (d.push hd k).handled with
       | some _=>.fail 45 .none
       | none=>match Nat.ble (V.room + 20 * (d.push hd k).deep) rm with
        | false=>.fail 46 .none
        | true=>.call rm cs z L fun r' L' I=>u d (k r') r L' I 0 []
      | _=>u (.inn z (d.push hd k)) (dz z) orc L tb i cs
 | .unsupported w=>fun _ _ _ _ _=>.failW w
 | .stack ..=>fail 32 .none
 | .finish _=>fail 33 .none
 | .register ..=>fail 34 .none
 | .choose ..=>fail 35 .none
 | .os ..=>fail 36 .none
 | .genState ..=>fail 37 .none
 | .newGen ..=>fail 38 .none
 | .resume ..=>fail 39 .none
 | .yield ..=>fail 48 .none
 | .fork ..=>fail 49 .none
 | .thread _=>fail 50 .none
 | .await ..=>fail 51 .none
@[irreducible] noncomputable def aN (V:Vs):Nat→eC→Sem PySem.Fin→St
 | 0=>fun _ _=>fail 40 .none
 | n + 1=>eT V (aN V n)
theorem qm (V:Vs) (n:Nat):aN V (n + 1)=eT V (aN V n):=by kernel_rfl
theorem qo (V:Vs):aN V 0=fun _ _=>fail 40 .none:=by kernel_rfl
noncomputable def au (n:Nat) (A:Around):Prop:=A.depth≤350 + n∧A.units≤350 + n∧A.handled=none
noncomputable def keys (L:List aw):List Addr:=L.map Prod.fst
structure Cx where
 prog:Program
 w:World
 A₀:Around
 R₀:Result→Shared→Prop
 s₀:Shared
 K₀:List Addr
instance:Nonempty Cx:=⟨⟨default,Classical.choice inferInstance,{},fun _ _=>True,{},[]⟩⟩
structure Inv (V:Vs) (h₀:Heap) (K₀:List Addr) (h:Heap) (L:List aw):Prop where
 at_:∀p∈L,h.get? p.1=some p.2
 nodup:(keys L).Nodup
 top:∀a o,a < V.n₁→V.kt.get a=some o→h.get? a=some o
 hi:∀p∈L,V.n₁≤p.1
 frame:∀b o,h₀.get? b=some o→b∉K₀→h.get? b=some o
 own:∀p∈L,p.1∈K₀∨h₀.get? p.1=none
 size:V.n₁≤h.objs.size
 grow:h₀.objs.size≤h.objs.size
structure fX (V:Vs) (X:Cx) (s:Shared) (L:List aw):Prop where
 inv:Inv V X.s₀.heap X.K₀ s.heap L
 gens:s.gens=X.s₀.gens
 os:s.os=X.s₀.os
 tok:X.s₀.toks≤s.toks
noncomputable def cw (h:Heap):List Addr→List bF→Prop
 | a::as,e::d=>(∃o,h.get? a=some o∧cK o=e.pre)∧cw h as d
 | [],[]=>True
 | _,_=>False
noncomputable def ca (h:Heap):List Addr→List bF→Prop
 | a::as,e::d=>(∀O,e.post=some O→∃o,h.get? a=some o∧aI o=aI O)∧ca h as d
 | _,_=>True
noncomputable def be:List Addr→List bF→List Addr
 | a::as,e::d=>match e.post with
  | none=>be as d
  | some _=>a::be as d
 | _,_=>[]
noncomputable def aC (V:Vs) (h:Heap):Prop:=(∀a o,a < V.n₁→V.kt.get a=some o→h.get? a=some o)∧V.n₁≤h.objs.size
noncomputable def aj (V:Vs) (prog:Program) (w:World) (S:Sum) (as:List Addr):Prop:=
 ∀(A:Around) (s:Shared) (c:Code),au S.room A→S.seen c=S.code→aC V s.heap→cw s.heap as S.ents→(∀a∈as,V.n₁≤a)→as.Nodup→
  codeAny (model prog w) A c (fun r s'=>ba r=ba S.res∧s'.gens=s.gens∧s'.os=s.os∧ca s'.heap as S.ents∧
   (∀b o,s.heap.get? b=some o→b∉be as S.ents→s'.heap.get? b=some o)∧s.heap.objs.size≤s'.heap.objs.size) s
noncomputable def Cx.re (X:Cx) (s:Shared) (K:List Addr):Cx:=⟨X.prog,X.w,X.A₀,X.R₀,s,K⟩
noncomputable def bU (V:Vs) (X:Cx) (o:az):Prop:=match o with
 | .more g=>∀a,bU V X (g a)
 | .sum S as g=>aj V X.prog X.w S as∧∀y,X.s₀.toks≤y 0 1→bU V X (g y)
 | .done cs r L=>(∀c∈cs,c.ok)∧∀s,fX V X s L→X.R₀ r s
 | .cut cs c L=>(∀c∈cs,c.ok)∧∀s,fX V X s L→codeAny (model X.prog X.w) X.A₀ c X.R₀ s
 | .call rm cs c L g=>(∀c∈cs,c.ok)∧∀A s,au rm A→fX V X s L→codeAny (model X.prog X.w) A c (fun r s'=>X.s₀.toks≤s'.toks→∃L',fX V (X.re s' (keys L')) s' L'∧bU V (X.re s' (keys L')) (g r L' s'.toks)) s
 | .fail _ _=>False
 | .failW _=>False
section
variable {V:Vs} {X:Cx}
inductive eJ (V:Vs) (X:Cx) (lev:eC) (t:Sem PySem.Fin) (L:List aw) (tb:Nat):Prop
 | mk (n:Nat) (orc:List an) (h:bU V X (aN V n lev t orc L tb 0 []))
theorem HC {d:eC} {t:Sem PySem.Fin} {orc:List an} {L:List aw} {tb i:Nat} {cs:List Claim} {P:Prop} (H:bU V X (aN V 0 d t orc L tb i cs)):P:=by rw [qo] at H; exact H.elim
end
theorem jQ {c:Code} (h:c.isCaller=false):c.frames≤3:=by
 unfold Code.frames
 split <;> first | omega | (split <;> omega)
theorem gT {c:Code} (h:c.isCaller=false):c.weight≤5:=by
 have:=jQ h
 unfold Code.weight
 rw [h]
 simp only [Bool.false_eq_true,if_false]
 split <;> split <;> omega
theorem i5 {c:Code} (h:c.isCaller=false):c.cUnits≤10:=by
 have:=jQ h
 unfold Code.cUnits
 split <;> omega
noncomputable def tc (a:Addr) (B:Args):Sem PySem.Fin:=
 .load a none fun o=>match o.data with
  | .func u=>match u.scope.isGenerator with
   | true=>.unsupported "callY"
   | false=>match u.scope.isCoroutine with
    | true=>.unsupported "callY"
    | false=>match u.body with
     | .expr _=>.unsupported "callY"
     | .stmts b=>
      Sem.bind (match u.code with
       | .none=>.pure u.qualname
       | c=>Sem.bind (field c 1) fun v=>match v with
        | .str q _=>.pure q
        | _=>.pure u.qualname) fun d=>
      Sem.bind (bindArgs u B) fun z=>
      Sem.bind (newFunctionEnv u.scope u.globals u.closure z (d++Str.mk ⟨[46,60,108,111,99,97,108,115,62,46]⟩) (some a) u.code none u.builtins) fun env=>
      Sem.bind (nsGet cStatics (Str.ofString "sys.recursionlimit")) fun r=>match r with
       | none=>.pure (.again (.func b env))
       | some _=>.unsupported "callY"
  | _=>.unsupported "callY"
theorem te (a:Addr) (d:Args):i4 a d=tc a d:=by
 unfold i4 tc
 rw [←PySem.W.R.bindR_eq,←PySem.W.ZFast.ze6609576154772507232,←PySem.W.ZFast.ze9782568553167038054,←PySem.W.ZFast.ze11113344188204177931,←PySem.W.ZFast.ze13143150168775219229]
 try rfl
theorem mM:(Str.ofString ".<locals>.")=Str.mk ⟨[46,60,108,111,99,97,108,115,62,46]⟩:=by decide +kernel
section
variable {prog:Program} {w:World} {A:Around}
open Sem (wp)
theorem tf {d:PySem.Ctx} {p:Pos} {s:Shared} {Q:Unit→Pos→Shared→Prop} {E:Value→Pos→Shared→Prop} (u:d.In A) (hd:A.depth < recursionLimit)
  (h:wp (model prog w) d (nsGet cStatics (Str.ofString "sys.recursionlimit")) (fun r z s'=>r=none∧Q () z s') E p s):wp (model prog w) d enterFrame Q E p s:=by
 simp only [enterFrame,currentRecursionLimit,Sem.wp_bind']
 show wp (model prog w) d (nsGet cStatics (Str.ofString "sys.recursionlimit")) _ _ p s
 refine Sem.wp_mono _ _ _ ?_ (fun _ _ _ h=>h) p s h
 rintro r z s' ⟨rfl,I⟩
 have H:((((d.code,p)::d.below).map (·.1)).map (·.frames)).sum + ((((d.code,p)::d.below).map (·.1)).filter Code.isCreation).length < recursionLimit:=by
  have D:=frameCount_ge ((d.code,p)::d.below)
  rw [frameCount_cons] at D
  have:=u.2.1
  omega
 have G:¬((((d.code,p)::d.below).map (·.1)).map (·.frames)).sum≥recursionLimit:=by omega
 have B:¬((((d.code,p)::d.below).map (·.1)).map (·.frames)).sum + ((((d.code,p)::d.below).map (·.1)).filter Code.isCreation).length≥recursionLimit:=by omega
 show wp (model prog w) d (if nearTheLimitUnderAClaim (((d.code,p)::d.below).map (·.1)) (((((d.code,p)::d.below).map (·.1)).map (·.frames)).sum + ((((d.code,p)::d.below).map (·.1)).filter Code.isCreation).length) recursionLimit=true then _ else _) _ _ z s'
 rw [if_neg (by rw [not_nearTheLimit u hd]; exact Bool.false_ne_true)]
 show wp (model prog w) d (if ((((d.code,p)::d.below).map (·.1)).map (·.frames)).sum≥recursionLimit then _ else _) _ _ z s'
 rw [if_neg G]
 show wp (model prog w) d (if ((((d.code,p)::d.below).map (·.1)).map (·.frames)).sum + ((((d.code,p)::d.below).map (·.1)).filter Code.isCreation).length≥recursionLimit then _ else _) _ _ z s'
 rw [if_neg B]; exact I
theorem HD {d:PySem.Ctx} {p:Pos} {s:Shared} {z:Type} {Q:z→Pos→Shared→Prop} {E:Value→Pos→Shared→Prop} {c:Value} {u:Str} {K K':Str→Sem z}
  (hk:∀x p s,wp (model prog w) d (K x) Q E p s→wp (model prog w) d (do let y ←(pure x:Sem Str); K' y) Q E p s)
  (H:wp (model prog w) d (Sem.bind (match c with | .none=>.pure u | c=>Sem.bind (field c 1) fun v=>match v with | .str q _=>.pure q | _=>.pure u) K) Q E p s):
  wp (model prog w) d (match c with | .none=>(do let y ←(pure u:Sem Str); K' y) | c=>do
   let v ←field c 1
   match v with
   | .str q _=>(do let y ←(pure q:Sem Str); K' y)
   | _=>(do let y ←(pure u:Sem Str); K' y)) Q E p s:=by
 rw [Sem.wp_bind] at H
 have go:∀c:Value,wp (model prog w) d (Sem.bind (field c 1) fun v=>match v with | .str q _=>.pure q | _=>.pure u) (fun x p s=>wp (model prog w) d (K x) Q E p s) E p s→
   wp (model prog w) d (do
   let v ←field c 1
   match v with
   | .str q _=>(do let y ←(pure q:Sem Str); K' y)
   | _=>(do let y ←(pure u:Sem Str); K' y)) Q E p s:=fun c H=>by
  rw [Sem.wp_bind] at H
  rw [Sem.wp_bind']
  refine Sem.wp_mono _ _ _ (fun v p s H=>?_) (fun _ _ _ h=>h) p s H
  cases v <;> exact hk _ p s H
 cases c with
 | none=>exact hk _ p s H
 | _=>exact go _ H
theorem lh {a:Addr} {u:Args} {s:Shared} {Q:PySem.Fin→Shared→Prop} {E:Value→Shared→Prop} (hd:A.depth < recursionLimit)
  (h:wpOwn (model prog w) A (.call (.ref a) u) (i4 a u) Q E s):wpOwn (model prog w) A (.call (.ref a) u) (denote table (.call (.ref a) u)) Q E s:=by
 delta zz prog w A a u s Q E
 rw [te] at h
 intro G p hc J
 have H:=h G p hc J
 have U:G.In A.in1:=by
  have z:=J.in
  rw [hc] at z
  have e:A.under (.call (.ref a) u)=A.in1:=Around.under_plain rfl rfl
  rw [e] at z
  exact z
 unfold tc at H
 rw [Sem.wp_load] at H
 obtain ⟨o,ho,H⟩:=H
 show wp (model prog w) G (callAny (.ref a) u) _ _ p s
 unfold callAny
 rw [Sem.wp_bind']
 show wp (model prog w) G (.load a none .pure) _ _ p s
 rw [Sem.wp_load]
 refine⟨o,ho,?_⟩
 rw [Sem.wp_pure]
 split at H
 ·rename_i B hfd
  rw [hfd]
  show wp (model prog w) G (callFunction a B u) _ _ p s
  split at H
  ·exact H.elim
  ·rename_i hg
   split at H
   ·exact H.elim
   ·rename_i hco
    split at H
    ·exact H.elim
    ·rename_i b hb
     have tail:∀(d:Str) (p:Pos) (s:Shared),wp (model prog w) G (Sem.bind (bindArgs B u) fun D=>
       Sem.bind (newFunctionEnv B.scope B.globals B.closure D (d++Str.mk ⟨[46,60,108,111,99,97,108,115,62,46]⟩) (some a) B.code none B.builtins) fun env=>
       Sem.bind (nsGet cStatics (Str.ofString "sys.recursionlimit")) fun r=>match r with
        | none=>.pure (.again (.func b env))
        | some _=>.unsupported "callY") (fun a _ s'=>Q a s') (fun e _ s'=>E e s') p s→
       wp (model prog w) G (do
        let env ←newFunctionEnv B.scope B.globals B.closure (←bindArgs B u) (d++".<locals>.") (some a) B.code none B.builtins
        enterFrame
        again (.func b env)) (fun a _ s'=>Q a s') (fun e _ s'=>E e s') p s:=by
      intro d p s H
      rw [Sem.wp_bind] at H
      rw [Sem.wp_bind']
      refine Sem.wp_mono _ _ _ (fun D p s H=>?_) (fun _ _ _ h=>h) p s H
      rw [Sem.wp_bind] at H
      rw [Sem.wp_bind',mM]
      refine Sem.wp_mono _ _ _ (fun env p s H=>?_) (fun _ _ _ h=>h) p s H
      rw [Sem.wp_bind']
      refine tf U hd ?_
      rw [Sem.wp_bind] at H
      refine Sem.wp_mono _ _ _ (fun r p s H=>?_) (fun _ _ _ h=>h) p s H
      cases r with
      | none=>exact⟨rfl,H⟩
      | some v=>exact H.elim
     unfold callFunction
     simp only [hg,hco,hb]
     have I:∀(d:Str) (p:Pos) (s:Shared),wp (model prog w) G (Sem.bind (bindArgs B u) fun D=>
       Sem.bind (newFunctionEnv B.scope B.globals B.closure D (d++Str.mk ⟨[46,60,108,111,99,97,108,115,62,46]⟩) (some a) B.code none B.builtins) fun env=>
       Sem.bind (nsGet cStatics (Str.ofString "sys.recursionlimit")) fun r=>match r with
        | none=>.pure (.again (.func b env))
        | some _=>.unsupported "callY") (fun a _ s'=>Q a s') (fun e _ s'=>E e s') p s→
       wp (model prog w) G (do
        let d ←(pure d:Sem Str)
        let env ←newFunctionEnv B.scope B.globals B.closure (←bindArgs B u) (d++".<locals>.") (some a) B.code none B.builtins
        enterFrame
        again (.func b env)) (fun a _ s'=>Q a s') (fun e _ s'=>E e s') p s:=by
      intro d p s H
      rw [Sem.wp_bind',Sem.wp_pure']
      exact tail d p s H
     exact HD I H
 ·exact H.elim
end
noncomputable def dZ (A₀:Around):Kt→Around
 | .root=>A₀
 | .top hd _=>A₀.mark hd
 | .ret c hd _ d=>((dZ A₀ d).under c).mark hd
noncomputable def Cx.Q₀ (X:Cx):PySem.Fin→Shared→Prop:=fun d s=>match d with
 | .done f=>X.R₀ (.ok f) s
 | .again _=>False
noncomputable def Cx.E₀ (X:Cx):Value→Shared→Prop:=fun e s=>X.R₀ (.error e) s
noncomputable def gA (X:Cx):Kt→Result→Shared→Prop
 | .root=>X.R₀
 | .top _ k=>postA X.prog X.w X.A₀ X.Q₀ X.E₀ k
 | .ret c _ k d=>postR X.prog X.w (dZ X.A₀ d) c (postC X.prog X.w (dZ X.A₀ d) (gA X d)) (postE (gA X d)) k
noncomputable def Means (X:Cx) (z:eC) (t:Sem PySem.Fin) (s:Shared):Prop:=match z with
 | .out=>wpAny (model X.prog X.w) X.A₀ t X.Q₀ X.E₀ s
 | .inn c d=>wpOwn (model X.prog X.w) (dZ X.A₀ d) c t (postC X.prog X.w (dZ X.A₀ d) (gA X d)) (postE (gA X d)) s
noncomputable def th:Kt→Prop
 | .root=>True
 | .top _ _=>True
 | .ret c _ _ d=>c.isCaller=false∧th d
noncomputable def jR:eC→Prop
 | .out=>True
 | .inn _ d=>th d
theorem dK {n:Nat} {A₀:Around} (h:au n A₀):∀d,th d→(dZ A₀ d).depth≤350 + n + 5 * d.deep∧(dZ A₀ d).units≤350 + n + 10 * d.deep∧(dZ A₀ d).handled=d.handled
 | .root,_=>⟨by have:=h.1; show A₀.depth≤_; simp only [Kt.deep]; omega,by have:=h.2.1; show A₀.units≤_; simp only [Kt.deep]; omega,h.2.2⟩
 | .top hd k,_=>⟨by have:=h.1; show A₀.depth≤_; simp only [Kt.deep]; omega,by have:=h.2.1; show A₀.units≤_; simp only [Kt.deep]; omega,by
   show hd.or A₀.handled=hd
   rw [h.2.2]; cases hd <;> rfl⟩
 | .ret c hd k d,ok=>by
  obtain ⟨B,D,z⟩:=dK h d ok.2
  have G:=gT ok.1
  have H:=i5 ok.1
  refine⟨?_,?_,?_⟩
  ·show(dZ A₀ d).depth + c.weight≤_
   simp only [Kt.deep]; omega
  ·show(dZ A₀ d).units + c.cUnits≤_
   simp only [Kt.deep]; omega
  ·show hd.or (dZ A₀ d).handled=Lq hd d.handled
   rw [z]; cases hd <;> rfl
theorem bp:∀{L:List aw} {i:Nat} {p:aw},jP L i=some p→p∈L
 | [],_,_,h=>by cases h
 | q::r,0,_,h=>by cases h; exact .head _
 | q::r,i + 1,p,h=>.tail _ (bp (L:=r) h)
theorem gB:∀(L:List aw) (i:Nat) (o:Obj),keys (put L i o)=keys L
 | [],_,_=>rfl
 | q::r,0,_=>rfl
 | q::r,i + 1,o=>by
  show q.1::keys (put r i o)=q.1::keys r
  rw [gB r i o]
theorem ku:∀{L:List aw} {i:Nat} {o:Obj} {p q:aw},jP L i=some p→q∈put L i o→q=(p.1,o)∨(q∈L∧(keys L).Nodup→q∈L∧q.1≠p.1)
 | [],_,_,_,_,h,_=>by cases h
 | x::r,0,o,p,q,h,d=>by
  cases h
  rcases List.mem_cons.mp d with rfl | d
  ·exact .inl rfl
  ·refine .inr fun⟨_,nd⟩=>⟨.tail _ d,?_⟩
   have:=(List.nodup_cons.mp nd).1
   rintro e
   exact this (by rw [←e]; exact List.mem_map_of_mem d)
 | x::r,i + 1,o,p,q,h,d=>by
  rcases List.mem_cons.mp d with rfl | d
  ·refine .inr fun⟨_,nd⟩=>⟨.head _,?_⟩
   have:=(List.nodup_cons.mp nd).1
   rintro e
   exact this (by rw [e]; exact List.mem_map_of_mem (bp (L:=r) h))
  ·rcases ku (L:=r) h d with e | e
   ·exact .inl e
   ·by_cases D:q∈r
    ·refine .inr fun⟨_,nd⟩=>?_
     have z:=e ⟨D,(List.nodup_cons.mp nd).2⟩
     exact⟨.tail _ z.1,z.2⟩
    ·refine .inr fun⟨B,nd⟩=>?_
     rcases List.mem_cons.mp B with rfl | B
     ·refine⟨.head _,fun e=>?_⟩
      exact(List.nodup_cons.mp nd).1 (by rw [e]; exact List.mem_map_of_mem (bp (L:=r) h))
     ·exact absurd B D
theorem gC:∀{L:List aw} {i:Nat} {o:Obj} {p q:aw},jP L i=some p→q∈put L i o→q=(p.1,o)∨q∈L
 | [],_,_,_,_,h,_=>by cases h
 | x::r,0,o,p,q,h,d=>by
  cases h
  rcases List.mem_cons.mp d with rfl | d
  ·exact .inl rfl
  ·exact .inr (.tail _ d)
 | x::r,i + 1,o,p,q,h,d=>by
  rcases List.mem_cons.mp d with rfl | d
  ·exact .inr (.head _)
  ·rcases gC (L:=r) h d with e | e
   ·exact .inl e
   ·exact .inr (.tail _ e)
theorem o4:∀(L:List aw) (p:aw),snoc L p=L++[p]
 | [],_=>rfl
 | q::r,p=>by show q::snoc r p=q::(r++[p]); rw [o4 r p]
section
variable {V:Vs} {u h:Heap} {K₀:List Addr} {L:List aw}
theorem Inv.alloc (I:Inv V u K₀ h L) {o:Obj} (z:o.isFreed=false):Inv V u K₀ (h.push o) (snoc L (h.objs.size,o)):=by
 have new:∀p∈L,p.1 < h.objs.size:=fun p hp=>Heap.lt_size (I.at_ p hp)
 rw [o4]
 refine⟨fun p hp=>?_,?_,fun a d ha e=>Heap.get?_push_of_some _ (I.top a d ha e),fun p hp=>?_,fun b d e hb=>Heap.get?_push_of_some _ (I.frame b d e hb),fun p hp=>?_,?_,?_⟩
 ·rcases List.mem_append.mp hp with hp | hp
  ·exact Heap.get?_push_of_some _ (I.at_ p hp)
  ·cases List.mem_singleton.mp hp
   exact Heap.get?_push_size _ z
 ·show(List.map Prod.fst (L++[(h.objs.size,o)])).Nodup
  rw [List.map_append]
  refine List.nodup_append.mpr ⟨I.nodup,by simp,fun a ha b hb=>?_⟩
  obtain ⟨p,hp,rfl⟩:=List.mem_map.mp ha
  have:=new p hp
  have hb:b=h.objs.size:=by simpa using hb
  exact fun e=>absurd (Eq.trans e hb) (Nat.ne_of_lt this)
 ·rcases List.mem_append.mp hp with hp | hp
  ·exact I.hi p hp
  ·cases List.mem_singleton.mp hp
   exact I.size
 ·rcases List.mem_append.mp hp with hp | hp
  ·exact I.own p hp
  ·cases List.mem_singleton.mp hp
   refine .inr ?_
   have:=I.grow
   exact Heap.get?_none_of_le this
 ·rw [Heap.size_push]; have:=I.size; omega
 ·rw [Heap.size_push]; have:=I.grow; omega
theorem Inv.update (I:Inv V u K₀ h L) {i:Nat} {p:aw} {f:Obj→Obj} (hi:jP L i=some p) (D:(f p.2).isFreed=false):Inv V u K₀ (h.update p.1 f) (put L i (f p.2)):=by
 have hp:=bp hi
 have hs:Heap.SameBut p.1 h (h.update p.1 f):=Heap.SameBut.update ..
 have G:(h.update p.1 f).get? p.1=some (f p.2):=by
  first | exact Heap.get?_update_self f (I.at_ p hp) D | exact Heap.get?_update_self _ (I.at_ p hp) D
 have ne:∀b o,h.get? b=some o→b≠p.1→(h.update p.1 f).get? b=some o:=fun b o e hb=>(hs.2 b hb).trans e
 refine⟨fun q B=>?_,by rw [gB]; exact I.nodup,fun a o ha e=>ne a o (I.top a o ha e) (fun z=>?_),fun q B=>?_,fun b o e hb=>ne b o (I.frame b o e hb) (fun z=>?_),fun q B=>?_,by rw [hs.1]; exact I.size,by rw [hs.1]; exact I.grow⟩
 ·rcases ku hi B with rfl | w
  ·exact G
  ·rcases gC hi B with rfl | d
   ·exact G
   ·have z:=w ⟨d,I.nodup⟩
    exact ne q.1 q.2 (I.at_ q z.1) z.2
 ·have:=I.hi p hp; have J:a=p.1:=z; have H:a < V.n₁:=ha; omega
 ·rcases gC hi B with rfl | d
  ·exact I.hi p hp
  ·exact I.hi q d
 ·rcases I.own p hp with k | k
  ·exact hb (z▸k)
  ·rw [z,k] at e; cases e
 ·rcases gC hi B with rfl | d
  ·exact I.own p hp
  ·exact I.own q d
theorem cw.of (I:Inv V u K₀ h L):∀{z:List bF} {cs:List Claim} {as:List Addr} {q:List Claim×List Addr},dO z L cs []=some q→(∀c∈q.1,c.ok)→cw h q.2 z
 | [],_,_,_,e,_=>by cases e; exact trivial
 | e::z,cs,as,q,d,D=>by
  simp only [dO] at d
  split at d
  ·rename_i p hp
   split at d
   ·rename_i q' B
    cases d
    refine⟨⟨p.2,I.at_ p (bp hp),D _ (.head _)⟩,cw.of I (as:=as) B fun c h=>D c (.tail _ h)⟩
   ·cases d
  ·cases d
theorem o7 (I:Inv V u K₀ h L):∀{B:List bF} {cs:List Claim} {q:List Claim×List Addr},dO B L cs []=some q→∀a∈q.2,V.n₁≤a
 | [],_,_,e=>by cases e; intro a h; cases h
 | e::B,cs,q,d=>by
  simp only [dO] at d
  split at d
  ·rename_i p hp
   split at d
   ·rename_i q' z
    cases d
    intro a ha
    rcases List.mem_cons.mp ha with rfl | ha
    ·exact I.hi p (bp hp)
    ·exact o7 I z a ha
   ·cases d
  ·cases d
end
theorem dG (t:Tok) (v:Value):bT t (ai v)=bT t v:=by cases v <;> rfl
theorem ik (y:Nat→Tok):∀(l:List Value) (n:Nat),cR y n (ae l)=cR y n l
 | [],_=>rfl
 | v::l,n=>by
  show bT _ (ai v)::cR y (n + 1) (ae l)=bT _ v::cR y (n + 1) l
  rw [dG,ik y l]
theorem il (y:Nat→Tok):∀(l:List DictEntry) (n:Nat),dN y n (bD l)=dN y n l
 | [],_=>rfl
 | v::l,n=>by
  show DictEntry.mk _ (bT _ (ai v.key)) (bT _ (ai v.val))::dN y (n + 2) (bD l)=DictEntry.mk _ (bT _ v.key) (bT _ v.val)::dN y (n + 2) l
  rw [dG,dG,il y l]
theorem lj (y:Nat→Tok) (o:Obj):fG y (aI o)=fG y o:=by
 obtain ⟨c,d,B,sl⟩:=o
 cases B with
 | seq xs n=>show(⟨c,d,.seq ⟨cR y 1 (ae xs.toList)⟩ _,sl⟩:Obj)=⟨c,d,.seq ⟨cR y 1 xs.toList⟩ _,sl⟩; rw [ik]
 | dict z n=>show(⟨c,d,.dict ⟨dN y 1 (bD z.toList)⟩ _,sl⟩:Obj)=⟨c,d,.dict ⟨dN y 1 z.toList⟩ _,sl⟩; rw [il]
 | _=>rfl
noncomputable def i6 (L:List aw) (i:Nat) (a:Addr):Prop:=∃o,jP L i=some (a,o)
theorem i6.put:∀{L:List aw} {i j:Nat} {a:Addr} {o:Obj},i6 L i a→i6 (put L j o) i a
 | [],_,_,_,_,⟨_,h⟩=>by cases h
 | x::r,0,0,a,o,⟨d,h⟩=>by cases h; exact⟨o,rfl⟩
 | x::r,i + 1,0,a,o,⟨d,h⟩=>⟨d,h⟩
 | x::r,0,j + 1,a,o,⟨d,h⟩=>⟨d,h⟩
 | x::r,i + 1,j + 1,a,o,⟨d,h⟩=>i6.put (L:=r) (i:=i) (j:=j) ⟨d,h⟩
noncomputable def d4 (L:List aw):List Addr→List bF→Prop
 | a::as,e::d=>i6 L e.i a∧d4 L as d
 | [],[]=>True
 | _,_=>False
theorem d4.put {L:List aw} {j:Nat} {o:Obj}:∀{as:List Addr} {d:List bF},d4 L as d→d4 (put L j o) as d
 | [],[],_=>trivial
 | a::as,e::d,h=>⟨h.1.put,d4.put h.2⟩
 | [],_::_,h=>h.elim
 | _::_,[],h=>h.elim
theorem fz {L:List aw}:∀{z:List bF} {cs:List Claim} {q:List Claim×List Addr},dO z L cs []=some q→d4 L q.2 z
 | [],_,_,e=>by cases e; exact trivial
 | e::z,cs,q,d=>by
  simp only [dO] at d
  split at d
  ·rename_i p hp
   split at d
   ·rename_i q' B
    cases d
    exact⟨⟨p.2,hp⟩,fz B⟩
   ·cases d
  ·cases d
theorem kx:∀{L:List aw} {i j:Nat} {a:Addr} {o B:Obj},(keys L).Nodup→jP L i=some (a,o)→jP L j=some (a,B)→i=j
 | [],_,_,_,_,_,_,h,_=>by cases h
 | x::r,0,0,_,_,_,_,_,_=>rfl
 | x::r,0,j + 1,a,o,B,nd,d,z=>by
  cases d
  exact absurd (List.mem_map.mpr ⟨_,bp (L:=r) z,rfl⟩) (List.nodup_cons.mp nd).1
 | x::r,i + 1,0,a,o,B,nd,d,z=>by
  cases z
  exact absurd (List.mem_map.mpr ⟨_,bp (L:=r) d,rfl⟩) (List.nodup_cons.mp nd).1
 | x::r,i + 1,j + 1,a,o,B,nd,d,z=>by rw [kx (L:=r) (i:=i) (j:=j) (List.nodup_cons.mp nd).2 d z]
theorem lk {L:List aw} {i:Nat} {a:Addr} (nd:(keys L).Nodup) (hi:i6 L i a):∀{as:List Addr} {z:List bF},d4 L as z→oZ i z=true→a∉as
 | [],[],_,_=>by intro h; cases h
 | [],_::_,h,_=>h.elim
 | _::_,[],h,_=>h.elim
 | b::as,e::z,hk,d=>by
  unfold oZ at d
  split at d
  ·cases d
  ·rename_i hb
   intro B
   rcases List.mem_cons.mp B with rfl | B
   ·obtain ⟨o,G⟩:=hi
    obtain ⟨H,D⟩:=hk.1
    have:=kx nd D G
    rw [this] at hb
    rw [Nat.beq_refl] at hb
    cases hb
   ·exact lk nd hi hk.2 d B
theorem im {L:List aw} (nd:(keys L).Nodup):∀{as:List Addr} {z:List bF},d4 L as z→kq z=true→as.Nodup
 | [],[],_,_=>List.nodup_nil
 | [],_::_,h,_=>h.elim
 | _::_,[],h,_=>h.elim
 | a::as,e::z,hk,d=>by
  unfold kq at d
  split at d
  ·rename_i B
   exact List.nodup_cons.mpr ⟨lk nd hk.1 hk.2 B,im nd hk.2 d⟩
  ·cases d
noncomputable def eU (h:Heap) (y:Nat→Nat→Tok):Nat→List Addr→List bF→Prop
 | n,a::as,e::d=>(∀O,e.post=some O→h.get? a=some (fG (y n) O))∧eU h y (n + 1) as d
 | _,_,_=>True
theorem eU.congr {h:Heap} {y z:Nat→Nat→Tok}:∀{as:List Addr} {d:List bF} {n:Nat},(∀k,n≤k→y k=z k)→eU h y n as d→eU h z n as d
 | a::as,e::d,n,B,hp=>⟨fun O D=>by rw [←B n (Nat.le_refl _)]; exact hp.1 O D,eU.congr (fun k hk=>B k (Nat.le_of_succ_le hk)) hp.2⟩
 | [],_,_,_,_=>trivial
 | _::_,[],_,_,_=>trivial
theorem jS {h:Heap}:∀(as:List Addr) (d:List bF) (n:Nat),ca h as d→∃y,eU h y n as d
 | [],_,_,_=>⟨fun _ _=>0,trivial⟩
 | _::_,[],_,_=>⟨fun _ _=>0,trivial⟩
 | a::as,e::d,n,hp=>by
  obtain ⟨y,D⟩:=jS as d (n + 1) hp.2
  cases B:e.post with
  | none=>exact⟨y,fun O h=>(by rw [B] at h; cases h),D⟩
  | some O=>
   obtain ⟨o,H,I⟩:=hp.1 O B
   obtain ⟨z,J⟩:=gy o
   refine⟨fun k=>if k=n then z else y k,fun O' G=>?_,D.congr fun k hk=>?_⟩
   ·rw [B] at G; cases G
    simp only [if_true]
    rw [H,J,I,lj]
   ·have:k≠n:=by omega
    simp only [if_neg this]
theorem eV (y:Nat→Nat→Tok):∀(d:List bF) (n:Nat) (L:List aw),keys (putAll y n d L)=keys L
 | [],_,_=>rfl
 | e::d,n,L=>by
  unfold putAll
  split
  ·exact eV y d _ _
  ·rw [eV y d,gB]
theorem gU {h:Heap} {y:Nat→Nat→Tok}:∀(d:List bF) (as:List Addr) (n:Nat) (L:List aw),eU h y n as d→d4 L as d→(keys L).Nodup→
  (∀p∈L,p.1∉be as d→h.get? p.1=some p.2)→∀p∈putAll y n d L,h.get? p.1=some p.2
 | [],[],_,_,_,_,_,H=>fun p hp=>H p hp (by intro h; cases h)
 | [],_::_,_,_,_,hk,_,_=>hk.elim
 | _::_,[],_,_,_,hk,_,_=>hk.elim
 | e::d,a::as,n,L,hp,hk,nd,H=>by
  unfold putAll
  cases G:e.post with
  | none=>
   have I:be (a::as) (e::d)=be as d:=by simp only [be,G]
   rw [I] at H
   exact gU d as (n + 1) L hp.2 hk.2 nd H
  | some O=>
   have I:be (a::as) (e::d)=a::be as d:=by simp only [be,G]
   rw [I] at H
   obtain ⟨o,U⟩:=hk.1
   refine gU d as (n + 1) _ hp.2 hk.2.put (by rw [gB]; exact nd) fun p B J=>?_
   rcases gC U B with rfl | D
   ·exact hp.1 O G
   ·rcases ku U B with rfl | w
    ·exact hp.1 O G
    ·have z:=w ⟨D,nd⟩
     exact H p D fun hm=>by
      rcases List.mem_cons.mp hm with q | q
      ·exact z.2 q
      ·exact J q
theorem eW:∀{as:List Addr} {d:List bF} {a:Addr},a∈be as d→a∈as
 | [],_,_,h=>by cases h
 | _::_,[],_,h=>by cases h
 | b::as,e::d,a,h=>by
  unfold be at h
  split at h
  ·exact .tail _ (eW h)
  ·rcases List.mem_cons.mp h with rfl | h
   ·exact .head _
   ·exact .tail _ (eW h)
theorem qp {L:List aw} {i:Nat} {a:Addr} (h:i6 L i a):a∈keys L:=by
 obtain ⟨o,h⟩:=h
 exact List.mem_map.mpr ⟨_,bp h,rfl⟩
theorem i7 {L:List aw}:∀{as:List Addr} {d:List bF},d4 L as d→∀a∈as,a∈keys L
 | [],_,_,a,h=>by cases h
 | b::as,[],hk,_,_=>hk.elim
 | b::as,e::d,hk,a,h=>by
  rcases List.mem_cons.mp h with rfl | h
  ·exact qp hk.1
  ·exact i7 hk.2 a h
theorem Inv.summed {V:Vs} {u h z:Heap} {K₀:List Addr} {L:List aw} (I:Inv V u K₀ h L) {d:List bF} {cs:List Claim} {q:List Claim×List Addr} (he:dO d L cs []=some q)
  (post:ca z q.2 d) (fr:∀b o,h.get? b=some o→b∉be q.2 d→z.get? b=some o) (gr:h.objs.size≤z.objs.size) (n:Nat):
  ∃y,Inv V u K₀ z (putAll y n d L)∧∀H,(∀k,n≤k→y k=H k)→Inv V u K₀ z (putAll H n d L):=by
 obtain ⟨y,J⟩:=jS q.2 d n post
 have key:∀y,eU z y n q.2 d→Inv V u K₀ z (putAll y n d L):=fun y J=>by
  have ks:keys (putAll y n d L)=keys L:=eV y d n L
  have D:∀p∈putAll y n d L,∃G∈L,G.1=p.1:=fun p hp=>by
   have:p.1∈keys (putAll y n d L):=List.mem_map_of_mem hp
   rw [ks] at this
   exact List.mem_map.mp this
  have tk:∀b,b∈be q.2 d→∃p∈L,p.1=b:=fun b hb=>List.mem_map.mp (i7 (fz he) b (eW hb))
  refine⟨gU d q.2 n L J (fz he) I.nodup fun p hp hn=>fr _ _ (I.at_ p hp) hn,by rw [ks]; exact I.nodup,fun a o ha e=>fr _ _ (I.top a o ha e) fun U=>?_,fun p hp=>?_,
   fun b o e hb=>fr _ _ (I.frame b o e hb) fun U=>?_,fun p hp=>?_,Nat.le_trans I.size gr,Nat.le_trans I.grow gr⟩
  ·obtain ⟨p,hp,rfl⟩:=tk a U
   exact absurd (I.hi p hp) (Nat.not_le.mpr ha)
  ·obtain ⟨G,B,e⟩:=D p hp
   rw [←e]; exact I.hi G B
  ·obtain ⟨p,hp,rfl⟩:=tk b U
   rcases I.own p hp with k | k
   ·exact hb k
   ·rw [k] at e; cases e
  ·obtain ⟨G,B,e⟩:=D p hp
   rw [←e]; exact I.own G B
 exact⟨y,key y J,fun H h=>key H (J.congr h)⟩
theorem qr {hd:Option Value} (h:okMark hd=true):hd≠some byPass:=by
 intro e
 subst e
 simp [okMark] at h
theorem di (t:Tok) (r:Result):aA t (ba r)=aA t r:=by
 cases r with
 | error e=>rfl
 | ok f=>cases f <;> first | rfl | (rename_i v; show Except.ok (Flow.ret (bT t (ai v)))=_; rw [dG]; rfl)
structure jB (V:Vs) (X:Cx):Prop where
 S:V.S=⟨X.prog,X.w.params⟩
 room:au V.room X.A₀
 le:V.room≤440
section
variable {V:Vs} {X:Cx} (F:jB V X)
abbrev Ih (V:Vs) (X:Cx) (n:Nat):Prop:=∀(d:eC) (t:Sem PySem.Fin) (orc:List an) (L:List aw) (tb i:Nat) (cs:List Claim) (s:Shared),jR d→s.toks=tb + i→fX V X s L→bU V X (aN V n d t orc L tb i cs)→Means X d t s
theorem qt {n:Nat} (B:Ih V X n) {r:Result} {d:eC} {orc:List an} {L:List aw} {tb i:Nat} {cs:List Claim} {s:Shared} (ok:jR d) (D:s.toks=tb + i) (I:fX V X s L)
  (H:bU V X (xU (aN V n) r d orc L tb i cs)):Means X d (leafOf r) s:=by
 cases d with
 | out=>
  have z:=H.2 s I
  cases r with
  | ok f=>exact wpAny_pure (a:=PySem.Fin.done f) (Q:=X.Q₀) z
  | error e=>exact wpAny_throw (e:=e) (E:=X.E₀) z
 | inn c u=>
  have key:gA X u r s:=by
   cases u with
   | root=>exact H.2 s I
   | top hd k=>exact B .out _ _ _ _ _ _ s trivial D I H
   | ret c hd k u=>exact B (.inn c u) _ _ _ _ _ _ s ok.2 D I H
  cases r with
  | ok f=>exact y_pure _ _ _ _ _ _ _ _ _ (y_done _ _ _ _ _ _ key)
  | error e=>exact y_raise _ _ _ _ _ _ _ _ _ (y_err _ _ _ key)
theorem eD {A:Around} {a:Addr} {d:Args} {s:Shared} {Q:PySem.Fin→Shared→Prop} {E:Value→Shared→Prop} (hd:A.depth < 1000)
  (h:wpOwn (model X.prog X.w) A (.call (.ref a) d) (i4 a d) Q E s):wpOwn (model X.prog X.w) A (.call (.ref a) d) (denote table (.call (.ref a) d)) Q E s:=lh hd h
theorem jT {s:Shared} {L L':List aw} (I:fX V X s L) {h:Heap} (J:Inv V X.s₀.heap X.K₀ h L'):fX V X {s with heap:=h} L':=⟨J,I.gens,I.os,I.tok⟩
theorem ti {d:eC} {a:Addr} {q:Option Value} {k:Obj→Sem PySem.Fin} {o:Obj} {s:Shared} (u:s.heap.get? a=some o) (h:Means X d (k o) s):Means X d (.load a q k) s:=by
 cases d with
 | out=>exact wpAny_bind (m:=loadPart a q) (f:=k) (wpAny_loadPart u h)
 | inn c z=>exact wpOwn_bind (m:=loadPart a q) (f:=k) (wpOwn_of_wpAny (wpAny_loadPart u h))
theorem o8 {d:eC} {a:Addr} {k:Option Obj→Sem PySem.Fin} {o:Obj} {s:Shared} (B:s.heap.get? a=some o) (h:Means X d (k (some o)) s):Means X d (.loadIfAlive a k) s:=by
 cases d with
 | out=>intro z p u; rw [Sem.wp_loadIfAlive,B]; exact h z p u
 | inn c G=>intro z p D u; rw [Sem.wp_loadIfAlive,B]; exact h z p D u
theorem tj {d:eC} {a:Addr} {q:Option Value} {f:Obj→Obj} {k:Unit→Sem PySem.Fin} {o:Obj} {s:Shared} (u:s.heap.get? a=some o) (h:Means X d (k ()) {s with heap:=s.heap.update a f}):Means X d (.update a q f k) s:=by
 cases d with
 | out=>exact wpAny_bind (m:=updatePart a q f) (f:=k) (wpAny_updatePart u h)
 | inn c z=>exact wpOwn_bind (m:=updatePart a q f) (f:=k) (wpOwn_of_wpAny (wpAny_updatePart u h))
theorem xV {d:eC} {o:Obj} {k:Addr→Sem PySem.Fin} {s:Shared} (h:Means X d (k s.heap.objs.size) {s with heap:=s.heap.push o}):Means X d (.alloc o k) s:=by
 cases d with
 | out=>exact wpAny_bind (m:=PySem.alloc o) (f:=k) (wpAny_alloc h)
 | inn c u=>exact wpOwn_bind (m:=PySem.alloc o) (f:=k) (wpOwn_of_wpAny (wpAny_alloc h))
theorem xW {d:eC} {k:Tok→Sem PySem.Fin} {s:Shared} (h:Means X d (k s.toks) {s with toks:=s.toks + 1}):Means X d (.fresh k) s:=by
 cases d with
 | out=>exact fun z p u=>h z p u
 | inn c D=>exact fun z p B u=>h z p B u
theorem HE {d:eC} {k:Setting→Sem PySem.Fin} {s:Shared} (h:Means X d (k ⟨X.prog,X.w.params⟩) s):Means X d (.ask k) s:=by
 cases d with
 | out=>exact fun z p u=>h z p u
 | inn c D=>exact fun z p B u=>h z p B u
theorem Dn {d:eC} {t:String} {k:Unit→Sem PySem.Fin} {s:Shared} (h:Means X d (k ()) s):Means X d (.rule t k) s:=by
 cases d with
 | out=>exact fun z p u=>h z p u
 | inn c D=>exact fun z p B u=>h z p B u
theorem JX {d:eC} {q:Pos} {k:Unit→Sem PySem.Fin} {s:Shared} (h:Means X d (k ()) s):Means X d (.at q k) s:=by
 cases d with
 | out=>exact fun z p u=>h z q u
 | inn c D=>exact fun z p B u=>h z q B u
theorem xX {d:eC} {l:List Value} {k:Unit→Sem PySem.Fin} {s:Shared} (h:Means X d (k ()) s):Means X d (.point l k) s:=by
 cases d with
 | out=>exact fun z p u=>h z p u
 | inn c D=>exact fun z p B u=>h z p B u
include F in
theorem qu {d:eC} {k:Option Value→Sem PySem.Fin} {s:Shared} (ok:jR d) (h:Means X d (k d.handled) s):Means X d (.handled false k) s:=by
 cases d with
 | out=>exact wpAny_bind (m:=handled) (f:=k) (wpAny_handled (by rw [F.room.2.2]; exact h))
 | inn c u=>
  refine y_handled _ _ _ _ _ _ _ _ _ ?_
  rw [(dK F.room u ok).2.2]
  exact h
theorem ky {d:eC} {z:Code} {hd:Option Value} {g:Bool} {l:List Value} {k:Result→Sem PySem.Fin} {s:Shared} (u:hd≠some byPass)
  (h:codeAny (model X.prog X.w) (dZ X.A₀ (d.push hd k)) z (gA X (d.push hd k)) s):Means X d (.call z hd g l k) s:=by
 cases d with
 | out=>exact y_start _ _ _ _ _ _ _ _ _ _ _ _ u h
 | inn c B=>exact y_call _ _ _ _ _ _ _ _ _ _ _ _ _ u h
theorem jU {d:eC} {hd:Option Value} {k:Result→Sem PySem.Fin} {r:Result} {s:Shared} (h:Means X d (k r) s):gA X (d.push hd k) r s:=by
 cases d with
 | out=>exact h
 | inn c u=>exact h
theorem xY {d:eC} {hd:Option Value} {k:Result→Sem PySem.Fin} (ok:jR d) (u:d.caller iO=false):th (d.push hd k):=by
 cases d with
 | out=>trivial
 | inn c z=>exact⟨by rw [mL]; exact u,ok⟩
theorem o9 (s:Shared) (K:List Addr):∀d,gA (X.re s K) d=gA X d
 | .root=>rfl
 | .top _ _=>rfl
 | .ret c hd k d=>by
  show postR X.prog X.w (dZ X.A₀ d) c (postC X.prog X.w (dZ X.A₀ d) (gA (X.re s K) d)) (postE (gA (X.re s K) d)) k=_
  rw [o9 s K d]
  rfl
theorem tn {s₀:Shared} {K:List Addr} {d:eC} {t:Sem PySem.Fin} {s:Shared} (h:Means (X.re s₀ K) d t s):Means X d t s:=by
 cases d with
 | out=>exact h
 | inn c u=>
  have h:wpOwn (model X.prog X.w) (dZ X.A₀ u) c t (postC X.prog X.w (dZ X.A₀ u) (gA (X.re s₀ K) u)) (postE (gA (X.re s₀ K) u)) s:=h
  rw [o9] at h
  exact h
abbrev Bo (V:Vs) (X:Cx) (d:eC) (t:Sem PySem.Fin) (L:List aw) (tb i:Nat) (cs:List Claim):Prop:=(∀c∈cs,c.ok)∧∀s,jR d→s.toks=tb + i→fX V X s L→Means X d t s
abbrev HF (V:Vs) (X:Cx) (n:Nat):Prop:=∀{d:eC} {t:Sem PySem.Fin} {orc:List an} {L:List aw} {tb i:Nat} {cs:List Claim},bU V X (aN V n d t orc L tb i cs)→Bo V X d t L tb i cs
theorem HG {n:Nat} (d:HF V X n):Ih V X n:=fun _ _ _ _ _ _ _ s ok u I H=>(d H).2 s ok u I
theorem lr {n:Nat} (u:HF V X n) {r:Result} {d:eC} {orc:List an} {L:List aw} {tb i:Nat} {cs:List Claim} (H:bU V X (xU (aN V n) r d orc L tb i cs)):Bo V X d (leafOf r) L tb i cs:=
 ⟨by
  cases d with
  | out=>exact H.1
  | inn c z=>cases z with
   | root=>exact H.1
   | top hd k=>exact(u H).1
   | ret c hd k z=>exact(u H).1,fun _ ok B I=>qt (HG u) ok B I H⟩
theorem io {L:List aw}:∀(u:List bF) (cs:List Claim) (as:List Addr) (q:List Claim×List Addr),dO u L cs as=some q→∀x∈cs,x∈q.1
 | [],_,_,_,e,_,z=>by cases e; exact z
 | e::u,cs,as,q,d,x,z=>by
  simp only [dO] at d
  split at d
  ·split at d
   ·rename_i q' B
    cases d
    exact .tail _ (io u _ _ _ B x z)
   ·cases d
  ·cases d
theorem qw {n:Nat} (F:jB V X) (ihA:∀{X:Cx},jB V X→HF V X n) {B:eC} {t:Sem PySem.Fin} {orc:List an} {L:List aw} {tb i:Nat} {cs:List Claim} (H:bU V X (aN V (n + 1) B t orc L tb i cs)):Bo V X B t L tb i cs:=by
 delta zz V X n B orc L tb i cs at F ihA t
 have d:HF V X n:=ihA F
 have tl:∀{x:Claim} {cs:List Claim},(∀c∈x::cs,c.ok)→∀c∈cs,c.ok:=fun h c hc=>h c (List.mem_cons_of_mem _ hc)
 rw [qm] at H
 cases t with
 | pure G=>
  cases G with
  | done f=>exact lr d (r:=.ok f) H
  | again D=>
   cases B with
   | out=>exact H.elim
   | inn c κ=>
    cases hq:mJ D with
    | false=>simp only [eT,hq] at H; exact H.elim
    | true=>
     have hqt:D.quiet=true:=by rw [ql]; exact hq
     have G:∀{s:Shared},codeAny (model X.prog X.w) (dZ X.A₀ κ) D (gA X κ) s→Means X (.inn c κ) (.pure (.again D)) s:=fun z=>y_pure _ _ _ _ _ _ _ _ _ (y_again _ _ _ _ _ _ hqt z)
     have go:∀{orc:List an},bU V X (aN V n (.inn D κ) (dz D) orc L tb i cs)→Bo V X (.inn c κ) (.pure (.again D)) L tb i cs:=fun H=>by
      have z:=d H
      rw [←sZ] at z
      exact⟨z.1,fun s ok u I=>G (y_code _ _ _ _ _ _ (z.2 s ok u I))⟩
     simp only [eT,hq] at H
     split at H
     ·exact go H
     ·split at H
      ·split at H
       ·split at H
        ·split at H
         ·rename_i a hb
          have z:=d H
          refine⟨z.1,fun s ok u I=>G (y_code _ _ _ _ _ _ (eD ?_ (z.2 s ok u I)))⟩
          have dl:=(dK F.room κ ok).1
          have hb:=Nat.le_of_ble_eq_true hb
          have fl:=F.le
          show(dZ X.A₀ κ).depth < 1000
          omega
         ·exact H.elim
        ·exact H.elim
       ·exact H.elim
      ·split at H
       ·exact⟨H.1,fun s ok u I=>G (H.2 s I)⟩
       ·exact H.elim
      ·exact go H
 | raise e=>exact lr d (r:=.error e) H
 | rule tag k=>exact⟨(d H).1,fun s ok u I=>Dn ((d H).2 s ok u I)⟩
 | «at» q k=>exact⟨(d H).1,fun s ok u I=>JX ((d H).2 s ok u I)⟩
 | point l k=>exact⟨(d H).1,fun s ok u I=>xX ((d H).2 s ok u I)⟩
 | ask k=>exact⟨(d H).1,fun s ok u I=>HE (by rw [←F.S]; exact(d H).2 s ok u I)⟩
 | load a q k=>
  simp only [eT] at H
  split at H
  ·exact H.elim
  ·split at H
   ·split at H
    ·rename_i hb
     split at H
     ·rename_i ob hk
      exact⟨(d H).1,fun s ok u I=>ti (I.inv.top _ _ (Nat.le_of_ble_eq_true hb) hk) ((d H).2 s ok u I)⟩
     ·exact H.elim
    ·exact H.elim
   ·split at H
    ·rename_i p hp
     exact⟨tl (d H).1,fun s ok u I=>ti (by rw [show a=p.1 from Value.ref.inj ((d H).1 _ (.head _))]; exact I.inv.at_ p (bp hp)) ((d H).2 s ok u I)⟩
    ·exact H.elim
   ·exact H.elim
 | loadIfAlive a k=>
  simp only [eT] at H
  split at H
  ·exact H.elim
  ·split at H
   ·split at H
    ·rename_i hb
     split at H
     ·rename_i ob hk
      exact⟨(d H).1,fun s ok u I=>o8 (I.inv.top _ _ (Nat.le_of_ble_eq_true hb) hk) ((d H).2 s ok u I)⟩
     ·exact H.elim
    ·exact H.elim
   ·split at H
    ·rename_i p hp
     exact⟨tl (d H).1,fun s ok u I=>o8 (by rw [show a=p.1 from Value.ref.inj ((d H).1 _ (.head _))]; exact I.inv.at_ p (bp hp)) ((d H).2 s ok u I)⟩
    ·exact H.elim
   ·exact H.elim
 | update a q f k=>
  simp only [eT] at H
  split at H
  ·exact H.elim
  ·split at H
   ·split at H
    ·rename_i p hp
     split at H
     ·rename_i hf
      exact⟨tl (d H).1,fun s ok u I=>by
       rw [show a=p.1 from Value.ref.inj ((d H).1 _ (.head _))]
       exact tj (I.inv.at_ p (bp hp)) ((d H).2 _ ok u (jT I (I.inv.update hp hf)))⟩
     ·exact H.elim
    ·exact H.elim
   ·exact H.elim
 | alloc o k=>
  simp only [eT] at H
  split at H
  ·rename_i hf
   exact⟨(d (H 0)).1,fun s ok u I=>xV ((d (H _)).2 _ ok u (jT I (I.inv.alloc hf)))⟩
  ·exact H.elim
 | fresh k=>exact⟨(d H).1,fun s ok u I=>xW (by rw [u]; exact(d H).2 _ ok (by show tb + i + 1=tb + (i + 1); omega) ⟨I.inv,I.gens,I.os,by have z:=I.tok; rw [u] at z; exact Nat.le_succ_of_le z⟩)⟩
 | handled own k=>
  cases own with
  | true=>exact H.elim
  | false=>exact⟨(d H).1,fun s ok u I=>qu F ok ((d H).2 s ok u I)⟩
 | call D hd g l k=>
  cases hk:okMark hd with
  | false=>simp only [eT,hk] at H; exact H.elim
  | true=>
   have hnb:=qr hk
   cases hc:B.caller iO with
   | true=>simp only [eT,hk,hc] at H; exact H.elim
   | false=>
    have U:jR B→th (B.push hd k):=fun ok=>xY (hd:=hd) (k:=k) ok hc
    have go:∀{orc:List an},bU V X (aN V n (.inn D (B.push hd k)) (dz D) orc L tb i cs)→Bo V X B (.call D hd g l k) L tb i cs:=fun H=>by
     have z:=d H
     rw [←sZ] at z
     exact⟨z.1,fun s ok u I=>ky hnb (y_code _ _ _ _ _ _ (z.2 s (U ok) u I))⟩
    simp only [eT,hk,hc] at H
    split at H
    ·exact go H
    ·split at H
     ·exact go H
     ·split at H
      ·split at H
       ·split at H
        ·split at H
         ·rename_i hb
          have z:=d H
          exact⟨z.1,fun s ok u I=>ky hnb (y_code _ _ _ _ _ _ (eD (by
           have dl:=(dK F.room _ (U ok)).1
           have hb:=Nat.le_of_ble_eq_true hb
           have fl:=F.le
           show(dZ X.A₀ (B.push hd k)).depth < 1000
           omega) (z.2 s (U ok) u I)))⟩
         ·exact H.elim
        ·exact H.elim
       ·exact H.elim
      ·split at H
       ·exact H.elim
       ·rename_i hh
        split at H
        ·exact H.elim
        ·rename_i hb
         split at H
         ·exact H.elim
         ·rename_i q he
          split at H
          case h_2=>exact H.elim
          rename_i hap
          have cl:=(d (H.2 (fun _ _=>X.s₀.toks) (Nat.le_refl _))).1
          have hin:=io _ _ _ _ he
          refine⟨fun c hc=>cl c (hin c (.tail _ hc)),fun s ok u I=>?_⟩
          have hb:=Nat.le_of_ble_eq_true hb
          obtain ⟨d1,d2,d3⟩:=dK F.room _ (U ok)
          have ents:=cw.of I.inv (as:=[]) he cl
          refine ky hnb (codeAny_with_toks (n:=X.s₀.toks) I.tok (codeAny_mono (H.1 (dZ X.A₀ (B.push hd k)) s D ⟨by omega,by omega,by rw [d3]; exact hh⟩ (cl _ (hin _ (.head _))) ⟨I.inv.top,I.inv.size⟩ ents (o7 I.inv he) (im I.inv.nodup (fz he) hap)) ?_))
          rintro r s' ⟨er,eg,eo,ep,ef,es⟩ htk
          refine jU ?_
          obtain ⟨t,et⟩:=eS r
          obtain ⟨y,_,hy⟩:=I.inv.summed he ep ef es 1
          have J:=hy (fun k=>if k=0 then(fun j=>if j=0 then t else s'.toks) else y k) fun k hk=>(if_neg (Nat.ne_of_gt hk)).symm
          have z:=(d (H.2 (fun k=>if k=0 then(fun j=>if j=0 then t else s'.toks) else y k) htk)).2 s' ok rfl ⟨J,eg.trans I.gens,eo.trans I.os,htk⟩
          rw [et,er,di]
          exact z
      ·exact go H
      ·split at H
       ·exact H.elim
       ·rename_i hh
        split at H
        ·exact H.elim
        ·rename_i hb
         refine⟨H.1,fun s ok u I=>?_⟩
         have hb:=Nat.le_of_ble_eq_true hb
         obtain ⟨d1,d2,d3⟩:=dK F.room _ (U ok)
         refine ky hnb (codeAny_with_toks (n:=X.s₀.toks) I.tok (codeAny_mono (H.2 (dZ X.A₀ (B.push hd k)) s ⟨by omega,by omega,by rw [d3]; exact hh⟩ I) ?_))
         rintro r s' hh' htk
         obtain ⟨L',I',H'⟩:=hh' htk
         exact jU (tn (s₀:=s') (K:=keys L') ((ihA (X:=X.re s' (keys L')) ⟨F.S,F.room,F.le⟩ H').2 s' ok rfl I'))
      ·exact go H
 | unsupported=>exact H.elim
 | finish=>exact H.elim
 | register=>exact H.elim
 | choose=>exact H.elim
 | os=>exact H.elim
 | genState=>exact H.elim
 | newGen=>exact H.elim
 | resume=>exact H.elim
 | yield=>exact H.elim
 | stack=>exact H.elim
 | fork=>exact H.elim
 | thread=>exact H.elim
 | await=>exact H.elim
theorem jV:∀(n:Nat) {X:Cx},jB V X→HF V X n
 | 0,_,_=>fun H=>HC H
 | n + 1,_,F=>fun H=>qw F (fun {_} F=>jV n F) H
theorem dP (n:Nat) {X:Cx} (F:jB V X):Ih V X n:=HG (jV n F)
end
noncomputable def gD:List Nat→List aw→List aw
 | [],_=>[]
 | i::r,L=>match jP L i with
  | some p=>(p.1,aI p.2)::gD r L
  | none=>gD r L
noncomputable def az.norm (sel:List Nat):az→az
 | .more g=>.more fun a=>(g a).norm sel
 | .sum S as g=>.sum S as fun y=>(g y).norm sel
 | .done cs r L=>.done cs (ba r) (gD sel L)
 | .cut cs c L=>.cut cs (ao c) (gD sel L)
 | .call rm cs c L _=>.call rm cs (match Nat.blt rm 1000 with | true=>ao c | false=>c) (gD sel L) fun _ _ _=>.failW ""
 | .fail n a=>.fail n a
 | .failW w=>.failW w
noncomputable def dv (a:Addr):Claim:=.v (.ref a) (.ref a)
noncomputable def dL (ks:List Addr) (i:Nat):Addr:=match ks with
 | []=>0
 | a::r=>match i with
  | 0=>a
  | i + 1=>dL r i
noncomputable def Do:List bF→List Claim→List Claim
 | [],acc=>acc
 | e::d,acc=>.o e.pre e.pre::Do d acc
noncomputable def bc (ks:List Addr):List an→List Claim→List Claim
 | [],acc=>acc
 | o::r,acc=>match o with
  | .own j=>bc ks r (dv (dL ks j)::acc)
  | .sum F=>bc ks r (Do (F ks).ents (.c (F ks).code (F ks).code::acc))
  | .top=>bc ks r acc
  | .fn=>bc ks r acc
  | .cut=>bc ks r acc
  | .pass=>bc ks r acc
  | .ext _=>bc ks r acc
theorem pb:∀(d:List bF) (acc:List Claim),(∀c∈acc,c.ok)→∀c∈Do d acc,c.ok
 | [],_,h=>h
 | e::d,acc,h=>fun c u=>by
  rcases List.mem_cons.mp u with rfl | u
  ·exact rfl
  ·exact pb d acc h c u
theorem bP (ks:List Addr):∀(orc:List an) (acc:List Claim),(∀c∈acc,c.ok)→∀c∈bc ks orc acc,c.ok
 | [],_,h=>h
 | .own j::r,acc,h=>bP ks r _ fun c d=>by
   rcases List.mem_cons.mp d with rfl | d
   ·exact rfl
   ·exact h c d
 | .sum S::r,acc,h=>bP ks r _ (pb _ _ fun c d=>by
   rcases List.mem_cons.mp d with rfl | d
   ·exact rfl
   ·exact h c d)
 | .top::r,acc,h=>bP ks r acc h
 | .fn::r,acc,h=>bP ks r acc h
 | .cut::r,acc,h=>bP ks r acc h
 | .pass::r,acc,h=>bP ks r acc h
 | .ext _::r,acc,h=>bP ks r acc h
inductive qx (h:Heap) (a:Addr) (e:Obj):Prop
 | mk (o:Obj) (g:h.get? a=some o) (er:aI o=e)
noncomputable def aJ (h:Heap) (L:List aw):Prop:=∀p∈L,qx h p.1 p.2
structure aD (V:Vs) (s₀:Shared) (K₀:List Addr) (s:Shared) (L:List aw):Prop where
 at_:aJ s.heap L
 top:aC V s.heap
 frame:∀b o,s₀.heap.get? b=some o→b∉K₀→s.heap.get? b=some o
 own:∀p∈L,p.1∈K₀∨s₀.heap.get? p.1=none
 hi:∀p∈L,V.n₁≤p.1
 grow:s₀.heap.objs.size≤s.heap.objs.size
 gens:s.gens=s₀.gens
 os:s.os=s₀.os
 nd:(keys L).Nodup
 toks:s₀.toks≤s.toks
theorem aD.get {V:Vs} {s₀ s:Shared} {K:List Addr} {L:List aw} (P:aD V s₀ K s L) (i:Nat) {a:Addr} {o:Obj} (h:jP L i=some (a,o)):qx s.heap a o:=P.at_ (a,o) (bp h)
theorem aD.hi' {V:Vs} {s₀ s:Shared} {K:List Addr} {L:List aw} (P:aD V s₀ K s L) (i:Nat) {a:Addr} {o:Obj} (h:jP L i=some (a,o)):V.n₁≤a:=P.hi (a,o) (bp h)
noncomputable def kz (i:Nat):List Nat→Bool
 | []=>true
 | j::r=>match Nat.beq i j with
  | true=>false
  | false=>kz i r
noncomputable def bO:List Nat→Bool
 | []=>true
 | i::r=>match kz i r with
  | true=>bO r
  | false=>false
theorem jW {i:Nat}:∀{l:List Nat},kz i l=true→i∉l
 | [],_=>by exact List.not_mem_nil
 | j::r,h=>by
  unfold kz at h
  split at h
  ·cases h
  ·rename_i e
   intro m
   rcases List.mem_cons.mp m with rfl | m
   ·exact absurd (Nat.beq_refl i) (by rw [e]; decide)
   ·exact jW h m
theorem tv {L:List aw} (nd:(keys L).Nodup) {i j:Nat} {p q:aw} (hp:jP L i=some p) (d:jP L j=some q) (e:p.1=q.1):i=j:=by
 obtain ⟨a,o⟩:=p
 obtain ⟨b,u⟩:=q
 cases (show a=b from e)
 exact kx nd hp d
theorem i8 {L:List aw}:∀{sel:List Nat} {a:Addr},a∈keys (gD sel L)→∃i∈sel,∃p,jP L i=some p∧p.1=a
 | [],a,h=>by cases h
 | i::r,a,h=>by
  unfold gD at h
  split at h
  ·rename_i p hp
   rcases List.mem_cons.mp h with rfl | h
   ·exact⟨i,.head _,p,hp,rfl⟩
   ·obtain ⟨j,d,q,u⟩:=i8 h
    exact⟨j,.tail _ d,q,u⟩
  ·obtain ⟨j,d,q,u⟩:=i8 h
   exact⟨j,.tail _ d,q,u⟩
theorem c8 {L:List aw} (nd:(keys L).Nodup):∀{sel:List Nat},bO sel=true→(keys (gD sel L)).Nodup
 | [],_=>List.nodup_nil
 | i::r,h=>by
  unfold bO at h
  split at h
  case h_2=>cases h
  rename_i d
  unfold gD
  split
  ·rename_i p hp
   refine List.nodup_cons.mpr ⟨fun m=>?_,c8 nd h⟩
   obtain ⟨j,u,q,z,e⟩:=i8 m
   have:=tv nd hp z e.symm
   subst this
   exact jW d u
  ·exact c8 nd h
theorem eX:∀{sel:List Nat} {L:List aw} {q:aw},q∈gD sel L→∃p∈L,q=(p.1,aI p.2)
 | [],_,_,h=>by cases h
 | i::r,L,q,h=>by
  unfold gD at h
  split at h
  ·rename_i p hp
   rcases List.mem_cons.mp h with rfl | h
   ·exact⟨p,bp hp,rfl⟩
   ·exact eX h
  ·exact eX h
theorem fX.post {V:Vs} {X:Cx} {s:Shared} {L:List aw} (I:fX V X s L) (sel:List Nat) (hs:bO sel=true):aD V X.s₀ X.K₀ s (gD sel L):=by
 refine⟨fun q d=>?_,⟨I.inv.top,I.inv.size⟩,I.inv.frame,fun q d=>?_,fun q d=>?_,I.inv.grow,I.gens,I.os,c8 I.inv.nodup hs,I.tok⟩
 ·obtain ⟨p,hp,rfl⟩:=eX d
  exact⟨p.2,I.inv.at_ p hp,rfl⟩
 ·obtain ⟨p,hp,rfl⟩:=eX d
  exact I.inv.own p hp
 ·obtain ⟨p,hp,rfl⟩:=eX d
  exact I.inv.hi p hp
noncomputable def bG (V:Vs) (X:Cx):az→Prop
 | .more g=>∀a,bG V X (g a)
 | .sum S as g=>aj V X.prog X.w S as∧∀y,X.s₀.toks≤y 0 1→bG V X (g y)
 | .done cs r L=>(∀c∈cs,c.ok)∧∀r' s,ba r'=r→aD V X.s₀ X.K₀ s L→X.R₀ r' s
 | .cut cs c L=>(∀c∈cs,c.ok)∧∀d,ao d=c→∀s,aD V X.s₀ X.K₀ s L→codeAny (model X.prog X.w) X.A₀ d X.R₀ s
 | .call _ _ _ _ _=>False
 | .fail _ _=>False
 | .failW _=>False
theorem bG.of {V:Vs} {X:Cx} {sel:List Nat} (hs:bO sel=true):∀{o:az},bG V X (o.norm sel)→bU V X o
 | .more g,h=>fun a=>bG.of hs (h a)
 | .sum S as g,h=>⟨h.1,fun y d=>bG.of hs (h.2 y d)⟩
 | .done cs r L,h=>⟨h.1,fun s I=>h.2 r s rfl (I.post sel hs)⟩
 | .cut cs c L,h=>⟨h.1,fun s I=>h.2 c rfl s (I.post sel hs)⟩
 | .call _ _ _ _ _,h=>h.elim
 | .fail _ _,h=>h
 | .failW _,h=>h
noncomputable def az.nm (o:az) (a:Addr):az:=match o with
 | .more g=>g a
 | _=>.failW ""
noncomputable def az.ns (o:az) (y:Nat→Nat→Tok):az:=match o with
 | .sum _ _ g=>g y
 | _=>.failW ""
noncomputable def az.nc (o:az) (r:Result) (L:List aw) (tb:Nat):az:=match o with
 | .call _ _ _ _ g=>g r L tb
 | _=>.failW ""
structure Good (V:Vs) (s:Shared) (L:List aw):Prop where
 at_:∀p∈L,s.heap.get? p.1=some p.2
 nd:(keys L).Nodup
 top:aC V s.heap
 hi:∀p∈L,V.n₁≤p.1
theorem Good.fits {V:Vs} {X:Cx} {s:Shared} {L:List aw} (G:Good V s L):fX V (X.re s (keys L)) s L:=
 ⟨⟨G.at_,G.nd,G.top.1,G.hi,fun _ _ e _=>e,fun p hp=>.inl (List.mem_map_of_mem hp),G.top.2,Nat.le_refl _⟩,rfl,rfl,Nat.le_refl _⟩
noncomputable def bH (V:Vs) (X:Cx) (n:az) (o:az):Prop:=match n with
 | .more f=>∀a,bH V X (f a) (o.nm a)
 | .sum S as f=>aj V X.prog X.w S as∧∀y,X.s₀.toks≤y 0 1→bH V X (f y) (o.ns y)
 | .done cs r L=>(∀c∈cs,c.ok)∧∀r' s,ba r'=r→aD V X.s₀ X.K₀ s L→X.R₀ r' s
 | .cut cs c L=>(∀c∈cs,c.ok)∧∀d,ao d=c→∀s,aD V X.s₀ X.K₀ s L→codeAny (model X.prog X.w) X.A₀ d X.R₀ s
 | .call rm cs c L _=>(∀c∈cs,c.ok)∧∀A s d,(match Nat.blt rm 1000 with | true=>ao d=c | false=>d=c)→au rm A→aD V X.s₀ X.K₀ s L→
   codeAny (model X.prog X.w) A d (fun r s'=>X.s₀.toks≤s'.toks→∃L',Good V s' L'∧bU V (X.re s' (keys L')) (o.nc r L' s'.toks)) s
 | .fail _ _=>False
 | .failW _=>False
theorem bH.of {V:Vs} {sel:List Nat} (hs:bO sel=true):∀{o:az} {X:Cx},bH V X (o.norm sel) o→bU V X o
 | .more g,_,h=>fun a=>bH.of hs (h a)
 | .sum S as g,_,h=>⟨h.1,fun y d=>bH.of hs (h.2 y d)⟩
 | .done cs r L,_,h=>⟨h.1,fun s I=>h.2 r s rfl (I.post sel hs)⟩
 | .cut cs c L,_,h=>⟨h.1,fun s I=>h.2 c rfl s (I.post sel hs)⟩
 | .call rm cs c L g,_,h=>⟨h.1,fun A s rm I=>codeAny_mono (h.2 A s c (by split <;> rfl) rm (I.post sel hs)) fun r s' u z=>by
  obtain ⟨L',G,H⟩:=u z
  exact⟨L',G.fits,H⟩⟩
 | .fail _ _,_,h=>h
 | .failW _,_,h=>h
theorem aW {v:Value} {x:Int} (h:ai v=.int x 0):∃t,v=.int x t:=by cases v <;> simp [ai] at h <;> exact⟨_,by rw [h]⟩
theorem aL {v:Value} {x:Str} (h:ai v=.str x 0):∃t,v=.str x t:=by cases v <;> simp [ai] at h <;> exact⟨_,by rw [h]⟩
theorem bb {v:Value} {a:Addr} (h:ai v=.ref a):v=.ref a:=by cases v <;> simp [ai] at h <;> rw [h]
theorem pd {v:Value} (h:ai v=.none):v=.none:=by cases v <;> simp [ai] at h <;> rfl
theorem mN {l:List Value} {a:Value} (h:ae l=[a]):∃u,l=[u]∧ai u=a:=by
 cases l with
 | nil=>cases h
 | cons u l=>cases l with
  | nil=>injection h with d z; exact⟨u,rfl,d⟩
  | cons=>simp [ae] at h
theorem eA {l:List Value} {a b:Value} (h:ae l=[a,b]):∃u v,l=[u,v]∧ai u=a∧ai v=b:=by
 cases l with
 | nil=>cases h
 | cons u l=>
  injection h with d z
  obtain ⟨v,rfl,B⟩:=mN z
  exact⟨u,v,rfl,d,B⟩
theorem JK {l:List Value} {a b c:Value} (h:ae l=[a,b,c]):∃u v x,l=[u,v,x]∧ai u=a∧ai v=b∧ai x=c:=by
 cases l with
 | nil=>cases h
 | cons u l=>
  injection h with d z
  obtain ⟨v,x,rfl,B,D⟩:=eA z
  exact⟨u,v,x,rfl,d,B,D⟩
theorem Lr {l:List Value} {a b c d:Value} (h:ae l=[a,b,c,d]):∃u v x z,l=[u,v,x,z]∧ai u=a∧ai v=b∧ai x=c∧ai z=d:=by
 cases l with
 | nil=>cases h
 | cons u l=>
  injection h with B D
  obtain ⟨v,x,z,rfl,G,H,I⟩:=JK D
  exact⟨u,v,x,z,rfl,B,G,H,I⟩
theorem av {c:Code} {f:Value} {d:List Value} (h:ao c=.call f ⟨d,[]⟩):∃pos,c=.call f ⟨pos,[]⟩∧ae pos=d:=by
 cases c with
 | call g a=>
  obtain ⟨pos,u⟩:=a
  simp only [ao,Code.call.injEq,Args.mk.injEq] at h
  obtain ⟨rfl,z,rfl⟩:=h
  exact⟨pos,rfl,z⟩
 | builtin id a=>obtain ⟨pos,u⟩:=a; simp [ao] at h
 | _=>simp [ao] at h
theorem lx {c:Code} {id:String} {d:List Value} (h:ao c=.builtin id ⟨d,[]⟩):∃pos,c=.builtin id ⟨pos,[]⟩∧ae pos=d:=by
 cases c with
 | builtin g a=>
  obtain ⟨pos,u⟩:=a
  simp only [ao,Code.builtin.injEq,Args.mk.injEq] at h
  obtain ⟨rfl,z,rfl⟩:=h
  exact⟨pos,rfl,z⟩
 | call g a=>obtain ⟨pos,u⟩:=a; simp [ao] at h
 | _=>simp [ao] at h
noncomputable def bi (id:String) (d:List Value) (v:Value):Sum:=⟨.call (.builtin id) ⟨d,[]⟩,[],.ok (.ret v),500,false⟩
abbrev fH (s s':Shared):Prop:=s'.heap=s.heap∧s'.gens=s.gens∧s'.os=s.os
theorem fH.refl (s:Shared):fH s s:=⟨rfl,rfl,rfl⟩
section
variable {V:Vs} {prog:Program} {w:World}
noncomputable def gV:Made→Value→Prop
 | .val u,v=>ai u=ai v
 | .int i,v=>ai v=.int i 0
 | .str x,v=>ai v=.str x 0∧x.length≤sizeLine
 | _,_=>False
theorem gV.post {m:Made} {v:Value} (h:gV m v) {Q:Value→Shared→Prop} {s:Shared} (d:∀v' s',ai v'=ai v→fH s s'→Q v' s'):m.post Q s:=by
 cases m with
 | val u=>exact d u s h (fH.refl s)
 | int i=>exact d _ _ (show Value.int i 0=_ from h.symm) ⟨rfl,rfl,rfl⟩
 | str x=>exact⟨h.2,d _ _ (show Value.str x 0=_ from h.1.symm) ⟨rfl,rfl,rfl⟩⟩
 | _=>exact h.elim
theorem aZ {T id:String} {name:Str} {b:Builtin} {u:List Value} {v:Value} (h:Slot T name id) (hb:entryFor table id=some b)
  (H:∀pos,ae pos=u→∃d rest m,pos=d::rest∧(∀s:Shared,s.TypeIs d T)∧argsOk id ⟨d::rest,[]⟩∧Gives (b ⟨d::rest,[]⟩) m∧gV m v):aj V prog w (bi id u v) []:=by
 intro A s c rm B tp en hi nd
 obtain ⟨pos,rfl,hp⟩:=av (show ao c=.call (.builtin id) ⟨u,[]⟩ from B)
 obtain ⟨d,rest,m,rfl,D,ha,hg,z⟩:=H pos hp
 have hR:∀(R:Result→Shared→Prop),m.post (fun v s'=>R (.ok (.ret v)) s') s→codeAny (model prog w) A (.call (.builtin id) ⟨d::rest,[]⟩) R s:=fun R z=>
  codeAny_call_builtin h.plain hb (h.check _ _ _ _ _ _ _ _ (D s) ha (hg prog w _ R s z))
 refine hR _ (z.post fun v' s' G st=>?_)
 obtain ⟨e1,I,J⟩:=st
 refine⟨?_,I,J,trivial,fun b o e _=>by rw [e1]; exact e,by rw [e1]; exact Nat.le_refl _⟩
 show Except.ok (Flow.ret (ai v'))=Except.ok (Flow.ret (ai v))
 rw [G]
theorem d5 (x:Int) (t:Tok) (s:Shared):s.TypeIs (.int x t) "int":=rfl
theorem cD (x:Str) (t:Tok) (s:Shared):s.TypeIs (.str x t) "str":=rfl
theorem jX {x:Str} (h:(x.length == 0)=true):x=⟨⟨[]⟩⟩:=by
 obtain ⟨⟨l⟩⟩:=x
 have:l.length=0:=by simpa [Str.length] using h
 rw [List.length_eq_zero_iff.mp this]
theorem kA (x:Str):(⟨⟨[]⟩⟩:Str)++x=x:=by
 obtain ⟨⟨l⟩⟩:=x
 show Str.mk (_++_)=_
 simp
theorem jC (x:Str):x++(⟨⟨[]⟩⟩:Str)=x:=by
 obtain ⟨⟨l⟩⟩:=x
 show Str.mk (_++_)=_
 simp
theorem tw (x y:Int) (r:Bool) (d:decide (x≥y)=r):aj V prog w (bi "int.__ge__" [.int x 0,.int y 0] (.bool r)) []:=
 aZ F.slot_int_ge F.entry_int_ge fun pos hp=>by
  obtain ⟨u,v,rfl,z,B⟩:=eA hp
  obtain ⟨t,rfl⟩:=aW z
  obtain ⟨D,rfl⟩:=aW B
  exact⟨_,_,_,rfl,d5 x t,F.args_int_ge_2 _ _,gives_int_ge _ _ _ _,by rw [d]; rfl⟩
theorem eY (x y:Int) (r:Bool) (d:decide (x < y)=r):aj V prog w (bi "int.__lt__" [.int x 0,.int y 0] (.bool r)) []:=
 aZ F.slot_int_lt F.entry_int_lt fun pos hp=>by
  obtain ⟨u,v,rfl,z,B⟩:=eA hp
  obtain ⟨t,rfl⟩:=aW z
  obtain ⟨D,rfl⟩:=aW B
  exact⟨_,_,_,rfl,d5 x t,F.args_int_lt_2 _ _,gives_int_lt _ _ _ _,by rw [d]; rfl⟩
theorem dW (x y:Int) (r:Bool) (d:decide (x≤y)=r):aj V prog w (bi "int.__le__" [.int x 0,.int y 0] (.bool r)) []:=
 aZ F.slot_int_le F.entry_int_le fun pos hp=>by
  obtain ⟨u,v,rfl,z,B⟩:=eA hp
  obtain ⟨t,rfl⟩:=aW z
  obtain ⟨D,rfl⟩:=aW B
  exact⟨_,_,_,rfl,d5 x t,F.args_int_le_2 _ _,gives_int_le _ _ _ _,by rw [d]; rfl⟩
theorem Cq (x y:Int) (r:Bool) (d:decide (x > y)=r):aj V prog w (bi "int.__gt__" [.int x 0,.int y 0] (.bool r)) []:=
 aZ F.slot_int_gt F.entry_int_gt fun pos hp=>by
  obtain ⟨u,v,rfl,z,B⟩:=eA hp
  obtain ⟨t,rfl⟩:=aW z
  obtain ⟨D,rfl⟩:=aW B
  exact⟨_,_,_,rfl,d5 x t,F.args_int_gt_2 _ _,gives_int_gt _ _ _ _,by rw [d]; rfl⟩
theorem eK (x y:Int) (r:Bool) (d:(x == y)=r):aj V prog w (bi "int.__eq__" [.int x 0,.int y 0] (.bool r)) []:=
 aZ F.slot_int_eq F.entry_int_eq fun pos hp=>by
  obtain ⟨u,v,rfl,z,B⟩:=eA hp
  obtain ⟨t,rfl⟩:=aW z
  obtain ⟨D,rfl⟩:=aW B
  exact⟨_,_,_,rfl,d5 x t,F.args_int_eq_2 _ _,gives_int_eq _ _ _ _,by rw [d]; rfl⟩
theorem i9 (x y:Int) (r:Bool) (d:(x != y)=r):aj V prog w (bi "int.__ne__" [.int x 0,.int y 0] (.bool r)) []:=
 aZ F.slot_int_ne F.entry_int_ne fun pos hp=>by
  obtain ⟨u,v,rfl,z,B⟩:=eA hp
  obtain ⟨t,rfl⟩:=aW z
  obtain ⟨D,rfl⟩:=aW B
  exact⟨_,_,_,rfl,d5 x t,F.args_int_ne_2 _ _,gives_int_ne _ _ _ _,by rw [d]; rfl⟩
theorem aE (x y r:Int) (d:x + y=r):aj V prog w (bi "int.__add__" [.int x 0,.int y 0] (.int r 0)) []:=
 aZ F.slot_int_add F.entry_int_add fun pos hp=>by
  obtain ⟨u,v,rfl,z,B⟩:=eA hp
  obtain ⟨t,rfl⟩:=aW z
  obtain ⟨D,rfl⟩:=aW B
  exact⟨_,_,_,rfl,d5 x t,F.args_int_add_2 _ _,gives_int_add _ _ _ _,by rw [d]; rfl⟩
theorem mO (x y r:Int) (d:x - y=r):aj V prog w (bi "int.__sub__" [.int x 0,.int y 0] (.int r 0)) []:=
 aZ F.slot_int_sub F.entry_int_sub fun pos hp=>by
  obtain ⟨u,v,rfl,z,B⟩:=eA hp
  obtain ⟨t,rfl⟩:=aW z
  obtain ⟨D,rfl⟩:=aW B
  exact⟨_,_,_,rfl,d5 x t,F.args_int_sub_2 _ _,gives_int_sub _ _ _ _,by rw [d]; rfl⟩
theorem gW (x y:Str) (r:Bool) (d:(x.cps.toList == y.cps.toList)=r):aj V prog w (bi "str.__eq__" [.str x 0,.str y 0] (.bool r)) []:=
 aZ F.slot_str_eq F.entry_str_eq fun pos hp=>by
  obtain ⟨u,v,rfl,z,B⟩:=eA hp
  obtain ⟨t,rfl⟩:=aL z
  obtain ⟨D,rfl⟩:=aL B
  exact⟨_,_,_,rfl,cD x t,F.args_str_eq_2 _ _,gives_str_eq _ _ _ _,by rw [d]; rfl⟩
theorem mP (x y:Str) (r:Bool) (d:(x.cps.toList != y.cps.toList)=r):aj V prog w (bi "str.__ne__" [.str x 0,.str y 0] (.bool r)) []:=
 aZ F.slot_str_ne F.entry_str_ne fun pos hp=>by
  obtain ⟨u,v,rfl,z,B⟩:=eA hp
  obtain ⟨t,rfl⟩:=aL z
  obtain ⟨D,rfl⟩:=aL B
  exact⟨_,_,_,rfl,cD x t,F.args_str_ne_2 _ _,gives_str_ne _ _ _ _,by rw [d]; rfl⟩
theorem ci (x:Str) (i:Int) (c:Nat) (r:Str) (h0:0≤i) (H:i < 2 ^ 63) (d:x.cps[i.toNat]?=some c) (z:Str.mk ⟨[c]⟩=r):aj V prog w (bi "str.__getitem__" [.str x 0,.int i 0] (.str r 0)) []:=
 aZ F.slot_str_getitem F.entry_str_getitem fun pos hp=>by
  obtain ⟨u,v,rfl,e1,B⟩:=eA hp
  obtain ⟨t,rfl⟩:=aL e1
  obtain ⟨I,rfl⟩:=aW B
  refine⟨_,_,_,rfl,cD x t,F.args_str_getitem_2 _ _,gives_str_getitem _ _ _ _ c ?_ ?_,?_⟩
  ·rw [decide_eq_false (by omega),decide_eq_false (by omega)]; rfl
  ·have lt:i.toNat < x.cps.size:=by
    rcases Nat.lt_or_ge i.toNat x.cps.size with q | q
    ·exact q
    ·rw [Array.getElem?_eq_none q] at d; cases d
   have hs:seqIndex? i x.length=some i.toNat:=by
    have:(x.length:Int)=(x.cps.size:Int):=rfl
    have D:¬i < 0:=by omega
    have G:i < (x.length:Int):=by rw [this]; omega
    simp [seqIndex?,D,h0,G]
   rw [hs]
   exact d
  ·rw [←z]; exact⟨rfl,(show 1≤sizeLine by decide)⟩
theorem bf (x y r:Str) (d:x++y=r) (z:r.length≤sizeLine):aj V prog w (bi "str.__add__" [.str x 0,.str y 0] (.str r 0)) []:=
 aZ F.slot_str_add F.entry_str_add fun pos hp=>by
  obtain ⟨u,v,rfl,e1,B⟩:=eA hp
  obtain ⟨t,rfl⟩:=aL e1
  obtain ⟨D,rfl⟩:=aL B
  refine⟨_,_,_,rfl,cD x t,F.args_str_add_2 _ _,gives_str_add _ _ _ _,?_⟩
  split
  ·rename_i h
   show Value.str y 0=Value.str r 0
   rw [←d,jX h,kA]
  ·split
   ·rename_i h
    show Value.str x 0=Value.str r 0
    rw [←d,jX h,jC]
   ·rw [d]; exact⟨rfl,z⟩
end
noncomputable def fld (c:Value) (l:List Value):Obj:={cls:=c,data:=.fields ⟨l⟩}
noncomputable def ly:Option Int→Value
 | none=>.none
 | some i=>.int i 0
theorem ph {v:Value}:∀{l:Option Int},ai v=ly l→∃d:Option (Int×Tok),v=partValue d∧d.map (·.1)=l
 | none,h=>⟨none,pd h,rfl⟩
 | some i,h=>by obtain ⟨t,rfl⟩:=aW h; exact⟨some (i,t),rfl,rfl⟩
theorem qy {o:Obj} {c:Value} {l:List Value} (h:cK o=fld c l):∃vs,o.cls=c∧o.data=.fields vs∧ae vs.toList=l:=by
 delta zn
 obtain ⟨B,d,u,sl⟩:=o
 delta zm
 cases u <;> simp [cK,fld] at h
 delta zn
 obtain ⟨rfl,_,z,_⟩:=h
 delta zm
 exact⟨_,rfl,rfl,z⟩
noncomputable def aX (X:Str) (l u:Option Int):Str:=
 if ((Builtin.Str.strSliceIndices l u 1 X.length).length == X.length)=true then X else⟨((Builtin.Str.strSliceIndices l u 1 X.length).filterMap (X.cps[·]?)).toArray⟩
noncomputable def bs (a:Addr) (ix:Nat) (X:Str) (l u:Value) (R:Str):Sum:=
 ⟨.call (.builtin "str.__getitem__") ⟨[.str X 0,.ref a],[]⟩,[⟨ix,fld (.type "slice") [l,u,.none],none⟩],.ok (.ret (.str R 0)),500,false⟩
section
variable {V:Vs} {prog:Program} {w:World}
theorem bR {S:Sum} {as:List Addr} {s s':Shared} {v v':Value} (d:S.res=.ok (.ret v)) (D:be as S.ents=[]) (hp:ca s'.heap as S.ents) (u:ai v'=ai v) (st:fH s s'):
  ba (.ok (.ret v'))=ba S.res∧s'.gens=s.gens∧s'.os=s.os∧ca s'.heap as S.ents∧
   (∀b o,s.heap.get? b=some o→b∉be as S.ents→s'.heap.get? b=some o)∧s.heap.objs.size≤s'.heap.objs.size:=by
 delta zn
 obtain ⟨e1,z,B⟩:=st
 delta zm
 refine⟨?_,z,B,hp,fun b o e _=>by rw [e1]; exact e,by rw [e1]; exact Nat.le_refl _⟩
 rw [d]
 show Except.ok (Flow.ret (ai v'))=Except.ok (Flow.ret (ai v))
 rw [u]
theorem bu (a:Addr) (ix:Nat) (X:Str) (l u:Option Int) (R:Str) (hR:aX X l u=R) (G:R.length≤sizeLine):aj V prog w (bs a ix X (ly l) (ly u) R) [a]:=by
 delta zz V prog w a ix X l u R
 intro A s c rm H tp en hi nd
 delta zn
 obtain ⟨pos,rfl,hp⟩:=av (show ao c=.call (.builtin "str.__getitem__") ⟨[.str X 0,.ref a],[]⟩ from H)
 obtain ⟨x,y,rfl,I,J⟩:=eA hp
 obtain ⟨t,rfl⟩:=aL I
 cases bb J
 obtain ⟨⟨o,U,eo⟩,-⟩:=en
 obtain ⟨vs,c1,c2,c3⟩:=qy eo
 obtain ⟨v1,v2,v3,hv,e1,e2,e3⟩:=JK c3
 obtain ⟨d,rfl,rfl⟩:=ph e1
 obtain ⟨z,rfl,rfl⟩:=ph e2
 cases pd e3
 delta zm
 have hs:s.heap.IsSlice a d z none:=⟨o,U,c1,by rw [c2]; show Data.fields vs=Data.fields ⟨[partValue d,partValue z,partValue none]⟩; rw [←show vs.toList=[partValue d,partValue z,partValue none] from hv]⟩
 have D:gV (sliceMade X t d z none) (.str R 0):=by
  unfold sliceMade
  have e:(slicePicked X d z none)=Builtin.Str.strSliceIndices (d.map (·.1)) (z.map (·.1)) 1 X.length:=rfl
  rw [e]
  unfold aX at hR
  by_cases B:((Builtin.Str.strSliceIndices (d.map (·.1)) (z.map (·.1)) 1 X.length).length == X.length)=true
  ·rw [if_pos B] at hR
   rw [if_pos (by simpa using B)]
   rw [←hR]; rfl
  ·rw [if_neg B] at hR
   rw [if_neg (by simpa using B)]
   rw [hR]; exact⟨rfl,G⟩
 have key:∀(R:Result→Shared→Prop),(sliceMade X t d z none).post (fun v s'=>R (.ok (.ret v)) s') s→codeAny (model prog w) A (.call (.builtin "str.__getitem__") ⟨[.str X t,.ref a],[]⟩) R s:=fun R D=>
  codeAny_call_builtin F.slot_str_getitem.plain F.entry_str_getitem (F.slot_str_getitem.check _ _ _ _ _ _ _ _ (cD X t s) (F.args_str_getitem_2 _ _) (meets_str_getitem_slice X t a d z none rfl prog w _ R s ⟨hs,D⟩))
 exact key _ (D.post fun v' s' ev st=>bR (S:=bs a ix X (ly (d.map (·.1))) (ly (z.map (·.1))) R) (as:=[a]) rfl rfl ⟨fun O h=>(by cases h),trivial⟩ ev st)
end
noncomputable def kh (P:Params) (s:Str):Int:=condFn Int s.cps.isEmpty 0 (PySem.W.ZFast.zw12210062019545310541 (P.strHash s.cps))
noncomputable def ent (P:Params) (s:Str) (v:Value):DictEntry:=⟨kh P s,.str s 0,v⟩
noncomputable def fI (l:List DictEntry):Obj:={cls:=.type "dict",data:=.dict ⟨l⟩ 0}
theorem Cr (w:World) (s:Str):kh w.params s=hashStr w s:=by
 unfold kh hashStr
 rw [←PySem.W.ZFast.ze12210062019545310541]
 cases s.cps.isEmpty <;> rfl
noncomputable def kv (P:Params):List (Str×Value)→List DictEntry
 | []=>[]
 | p::r=>ent P p.1 p.2::kv P r
noncomputable def Hg (k:Str):List (Str×Value)→Option Nat
 | []=>none
 | p::r=>if p.1 == k then some 0 else(Hg k r).map (·+ 1)
noncomputable def ty:List (Str×Value)→Nat→Option Value
 | [],_=>none
 | p::_,0=>some p.2
 | _::r,i + 1=>ty r i
noncomputable def tz:List (Str×Value)→Nat→Value→List (Str×Value)
 | [],_,_=>[]
 | p::r,0,v=>(p.1,v)::r
 | p::r,i + 1,v=>p::tz r i v
theorem ip (v:Value):ai (ai v)=ai v:=by cases v <;> rfl
theorem iq:∀l:List DictEntry,bD (bD l)=bD l
 | []=>rfl
 | e::l=>by show DictEntry.mk _ (ai (ai e.key)) (ai (ai e.val))::bD (bD l)=_; rw [ip,ip,iq l]; rfl
theorem tA {o:Obj} {L:List DictEntry} (h:cK o=fI L):∃u z,o={cls:=.type "dict",data:=.dict u z}∧bD u.toList=L:=by
 obtain ⟨G,d,B,sl⟩:=o
 cases B <;> simp [cK,fI] at h
 obtain ⟨rfl,rfl,D,rfl⟩:=h
 exact⟨_,_,rfl,D⟩
theorem xZ {v:Value} {x:Str} (h:ai v=.str x 0) (k:Str):Value.isStrOf k v=(x == k):=by
 obtain ⟨t,rfl⟩:=aL h; rfl
section
variable {prog:Program} {w:World}
theorem iP:∀{l:List DictEntry} {d:List (Str×Value)},bD l=kv w.params d→∀e∈l,∃k,(strKind prog w).is k e.key=true∧e.hash=(strKind prog w).hash k
 | [],_,_,e,u=>by cases u
 | e::l,[],h,_,_=>by cases h
 | e::l,p::d,h,z,u=>by
  injection h with B D
  rcases List.mem_cons.mp u with rfl | u
  ·injection B with a1 G I
   obtain ⟨t,H⟩:=aL G
   refine⟨p.1,?_,?_⟩
   ·show Value.isStrOf p.1 z.key=true
    rw [H]; show(p.1 == p.1)=true
    exact beq_self_eq_true _
   ·rw [show z.hash=kh w.params p.1 from a1,Cr]; rfl
  ·exact iP D z u
theorem iQ:∀{l:List DictEntry} {d:List (Str×Value)} (k:Str),bD l=kv w.params d→l.findIdx? (fun e=>Value.isStrOf k e.key)=Hg k d
 | [],[],_,_=>rfl
 | [],_::_,_,h=>by cases h
 | e::l,[],_,h=>by cases h
 | e::l,p::d,k,h=>by
  injection h with u z
  injection u with a1 B D
  rw [List.findIdx?_cons,xZ B k,iQ k z]
  rfl
theorem mQ:∀{l:List DictEntry} {d:List (Str×Value)} {i:Nat} {v:Value},bD l=kv w.params d→ty d i=some v→∃e,l[i]?=some e∧ai e.val=v
 | [],[],_,_,_,h=>by cases h
 | [],_::_,_,_,h,_=>by cases h
 | e::l,[],_,_,h,_=>by cases h
 | e::l,p::d,0,v,h,u=>by
  injection h with z B
  injection z with a1 G D
  cases u
  exact⟨e,rfl,D⟩
 | e::l,p::d,i + 1,v,h,u=>by
  injection h with z B
  exact mQ (i:=i) B u
theorem tB:∀{l:List DictEntry} {d:List (Str×Value)} {i:Nat} (v:Value),bD l=kv w.params d→bD (l.modify i fun e=>{e with val:=v})=kv w.params (tz d i (ai v))
 | [],[],i,_,_=>by cases i <;> rfl
 | [],_::_,_,_,h=>by cases h
 | e::l,[],_,_,h=>by cases h
 | e::l,p::d,0,v,h=>by
  injection h with u z
  injection u with a1 B D
  show DictEntry.mk e.hash (ai e.key) (ai v)::bD l=ent w.params p.1 (ai v)::kv w.params d
  rw [z,show e.hash=_ from a1,show ai e.key=_ from B]; rfl
 | e::l,p::d,i + 1,v,h=>by
  injection h with u z
  show DictEntry.mk e.hash (ai e.key) (ai e.val)::bD (l.modify i _)=ent w.params p.1 p.2::kv w.params (tz d i _)
  rw [tB v z,u]
end
noncomputable def eZ (a:Addr) (ix:Nat) (D:List DictEntry) (k:Str) (v:Value):Sum:=
 ⟨.call (.builtin "dict.__getitem__") ⟨[.ref a,.str k 0],[]⟩,[⟨ix,fI D,none⟩],.ok (.ret v),500,false⟩
noncomputable def Cs (a:Addr) (ix:Nat) (D D':List DictEntry) (k:Str) (v:Value):Sum:=
 ⟨.call (.builtin "dict.__setitem__") ⟨[.ref a,.str k 0,v],[]⟩,[⟨ix,fI D,some (fI D')⟩],.ok (.ret .none),500,false⟩
section
variable {V:Vs} {prog:Program} {w:World}
theorem iR {s:Shared} {a:Addr} {d:Array DictEntry} {u:Nat} (h:s.heap.get? a=some {cls:=.type "dict",data:=.dict d u}):s.TypeIs (.ref a) "dict":=⟨_,h,rfl⟩
theorem cq (a:Addr) (ix:Nat) (d:List (Str×Value)) (k:Str) (i:Nat) (v:Value) (H:Hg k d=some i) (I:ty d i=some v) (hb:ai v=v):aj V prog w (eZ a ix (kv w.params d) k v) [a]:=by
 delta zz V prog w a ix d k i v
 intro A s c rm J tp en hi nd
 obtain ⟨pos,rfl,hp⟩:=av (show ao c=.call (.builtin "dict.__getitem__") ⟨[.ref a,.str k 0],[]⟩ from J)
 obtain ⟨x,y,rfl,U,h2⟩:=eA hp
 obtain ⟨t,rfl⟩:=aL h2
 cases bb U
 obtain ⟨⟨o,G,eo⟩,-⟩:=en
 obtain ⟨u,ep,rfl,z⟩:=tA eo
 obtain ⟨e,h3,h4⟩:=mQ z I
 have B:findBy (strKind prog w).is u k=some e.val:=by
  rw [findBy_of_findIdx?]
  have:u.findIdx? (fun e=>(strKind prog w).is k e.key)=some i:=by
   obtain ⟨l⟩:=u
   rw [List.findIdx?_toArray]
   exact(iQ k z).trans H
  rw [this]
  obtain ⟨l⟩:=u
  show Option.map (fun x:DictEntry=>x.val) ((⟨l⟩:Array DictEntry)[i]?)=_
  rw [List.getElem?_toArray,h3]; rfl
 have mo:s.heap.MapOf (strKind prog w) a (fun k=>findBy (strKind prog w).is u k):=⟨_,u,ep,G,⟨rfl,rfl,rfl⟩,rfl,fun e D=>iP z e (by obtain ⟨l⟩:=u; simpa using D),fun _=>rfl⟩
 have key:=meets_dict_getitem (prog:=prog) (w:=w) (knd:=strKind prog w) (k:=k) (key:=.str k t) a (show Value.isStrOf k (.str k t)=true from beq_self_eq_true k)
 have run:∀(R:Result→Shared→Prop),R (.ok (.ret e.val)) {s with toks:=s.toks + 1}→codeAny (model prog w) A (.call (.builtin "dict.__getitem__") ⟨[.ref a,.str k t],[]⟩) R s:=fun R hR=>
  codeAny_call_builtin F.slot_dict_getitem.plain F.entry_dict_getitem (F.slot_dict_getitem.check _ _ _ _ _ _ _ _ (iR G) (F.args_dict_getitem_2 _ _) (key _ R s ⟨_,e.val,mo,B,hR⟩))
 exact run _ (bR (S:=eZ a ix (kv w.params d) k v) (as:=[a]) rfl rfl ⟨fun O h=>(by cases h),trivial⟩ (by rw [h4,hb]) ⟨rfl,rfl,rfl⟩)
theorem x3 (a:Addr) (ix:Nat) (d:List (Str×Value)) (k:Str) (i:Nat) (v:Value) (J:Hg k d=some i):aj V prog w (Cs a ix (kv w.params d) (kv w.params (tz d i v)) k v) [a]:=by
 delta zz V prog w a ix d k i v
 intro A s c rm U tp en hi nd
 obtain ⟨pos,rfl,hp⟩:=av (show ao c=.call (.builtin "dict.__setitem__") ⟨[.ref a,.str k 0,v],[]⟩ from U)
 obtain ⟨x,y,v',rfl,h1,h2,h3⟩:=JK hp
 obtain ⟨t,rfl⟩:=aL h2
 cases bb h1
 subst h3
 obtain ⟨⟨o,B,eo⟩,-⟩:=en
 obtain ⟨z,ep,rfl,D⟩:=tA eo
 have u:(strKind prog w).is k (.str k t)=true:=beq_self_eq_true k
 have G:z.findIdx? (fun e=>(strKind prog w).is k e.key)=some i:=by
  obtain ⟨l⟩:=z
  rw [List.findIdx?_toArray]
  exact(iQ k D).trans J
 have run:∀(R:Result→Shared→Prop),R (.ok (.ret .none)) {s with heap:=s.heap.update a (Obj.mapDict fun z=>z.modify i fun e=>{e with val:=v'}),toks:=s.toks + 1}→codeAny (model prog w) A (.call (.builtin "dict.__setitem__") ⟨[.ref a,.str k t,v'],[]⟩) R s:=fun R hR=>by
  refine codeAny_call_builtin F.slot_dict_setitem.plain F.entry_dict_setitem (F.slot_dict_setitem.check _ _ _ _ _ _ _ _ (iR B) (F.args_dict_setitem_3 _ _ _) ?_)
  show wpAny _ _ (Builtin.Dict.notOrdered "__setitem__" ⟨[.ref a,.str k t,v'],[]⟩ >>=_) _ _ s
  refine wpAny_bind (wpAny_notOrdered_dict (iR B) ?_)
  show wpAny _ _ (dictSet a (.str k t) v' >>=_) _ _ s
  refine wpAny_bind ?_
  unfold dictSet
  try with_reducible refine wpAny_holding ?_
  refine wpAny_bind ((strKind prog w).pyHash u ?_)
  unfold dictSetHashed
  try with_reducible refine wpAny_holding ?_
  refine wpAny_bind (wpAny_dictFind_of (knd:=strKind prog w) (s:={s with toks:=s.toks + 1}) u B rfl (fun e H=>iP D e (by obtain ⟨l⟩:=z; simpa using H)) ?_)
  rw [G]
  exact wpAny_bind (wpAny_rule (wpAny_bind (wpAny_updateDict (s:={s with toks:=s.toks + 1}) B rfl (wpAny_point (wpAny_pure hR)))))
 refine run _ ⟨rfl,rfl,rfl,⟨fun O hO=>?_,trivial⟩,fun b o hb ht=>?_,?_⟩
 ·cases hO
  refine⟨_,Heap.get?_update_self _ B rfl,?_⟩
  obtain ⟨l⟩:=z
  show Obj.mk (.type "dict") none (.dict ⟨bD (Array.modify ⟨l⟩ i _).toList⟩ 0) _=Obj.mk (.type "dict") none (.dict ⟨bD (kv w.params (tz d i (ai v')))⟩ 0) _
  rw [Array.toList_modify,←tB v' D,iq]
 ·have I:b≠a:=fun e=>ht (by rw [e]; exact .head _)
  exact(Heap.get?_update_ne _ _ _ _ I).trans hb
 ·show s.heap.objs.size≤(s.heap.update a _).objs.size
  exact Nat.le_of_eq (Heap.size_update _ _ _).symm
theorem tC (a:Addr) (u:List DictEntry) (B:Nat) (d:List (Str×Value)) (k:Str) (i:Nat) (v:Value) (ha:a < V.n₁) (hg:V.kt.get a=some {cls:=.type "dict",data:=.dict ⟨u⟩ B}) (z:bD u=kv w.params d)
  (I:Hg k d=some i) (J:ty d i=some v) (hb:ai v=v):aj V prog w (bi "dict.__getitem__" [.ref a,.str k 0] v) []:=by
 delta zz V prog w a u B d k i v
 intro A s c rm U tp en hi nd
 obtain ⟨pos,rfl,hp⟩:=av (show ao c=.call (.builtin "dict.__getitem__") ⟨[.ref a,.str k 0],[]⟩ from U)
 obtain ⟨x,y,rfl,h1,h2⟩:=eA hp
 obtain ⟨t,rfl⟩:=aL h2
 cases bb h1
 have H:=tp.1 a _ ha hg
 obtain ⟨e,h3,h4⟩:=mQ z J
 have D:findBy (strKind prog w).is ⟨u⟩ k=some e.val:=by
  rw [findBy_of_findIdx?]
  have:(⟨u⟩:Array DictEntry).findIdx? (fun e=>(strKind prog w).is k e.key)=some i:=by
   rw [List.findIdx?_toArray]
   exact(iQ k z).trans I
  rw [this]
  show Option.map (fun x:DictEntry=>x.val) ((⟨u⟩:Array DictEntry)[i]?)=_
  rw [List.getElem?_toArray,h3]; rfl
 have mo:s.heap.MapOf (strKind prog w) a (fun k=>findBy (strKind prog w).is ⟨u⟩ k):=⟨_,⟨u⟩,B,H,⟨rfl,rfl,rfl⟩,rfl,fun e G=>iP z e (by simpa using G),fun _=>rfl⟩
 have key:=meets_dict_getitem (prog:=prog) (w:=w) (knd:=strKind prog w) (k:=k) (key:=.str k t) a (show Value.isStrOf k (.str k t)=true from beq_self_eq_true k)
 have run:∀(R:Result→Shared→Prop),R (.ok (.ret e.val)) {s with toks:=s.toks + 1}→codeAny (model prog w) A (.call (.builtin "dict.__getitem__") ⟨[.ref a,.str k t],[]⟩) R s:=fun R hR=>
  codeAny_call_builtin F.slot_dict_getitem.plain F.entry_dict_getitem (F.slot_dict_getitem.check _ _ _ _ _ _ _ _ (iR H) (F.args_dict_getitem_2 _ _) (key _ R s ⟨_,e.val,mo,D,hR⟩))
 exact run _ (bR (S:=bi "dict.__getitem__" [.ref a,.str k 0] v) (as:=[]) rfl rfl trivial (by rw [h4,hb]) ⟨rfl,rfl,rfl⟩)
end
noncomputable def br (l:List Value):Obj:={cls:=.type "tuple",data:=.seq ⟨l⟩ 0}
noncomputable def aV (l:List Value):Obj:={cls:=.type "list",data:=.seq ⟨l⟩ 0}
noncomputable def aR:List Str→List Value
 | []=>[]
 | y::r=>.str y 0::aR r
theorem lz:∀{l:List Value} {ys:List Str},ae l=aR ys→StrsAre l ys
 | [],[],_=>.nil
 | [],_::_,h=>by cases h
 | _::_,[],h=>by cases h
 | v::l,y::ys,h=>by
  injection h with d u
  obtain ⟨t,rfl⟩:=aL d
  exact .cons y t (lz u)
theorem mR {o:Obj} {c:String} {l:List Value} (h:cK o={cls:=.type c,data:=.seq ⟨l⟩ 0}):∃xs n,o={cls:=.type c,data:=.seq xs n}∧ae xs.toList=l:=by
 obtain ⟨B,d,u,sl⟩:=o
 cases u <;> simp [cK] at h
 obtain ⟨rfl,rfl,z,rfl⟩:=h
 exact⟨_,_,rfl,z⟩
noncomputable def x4 (a:Addr) (ix:Nat) (ys:List Value) (x:Str) (r:Bool):Sum:=
 ⟨.call (.builtin "tuple.__contains__") ⟨[.ref a,.str x 0],[]⟩,[⟨ix,br ys,none⟩],.ok (.ret (.bool r)),500,false⟩
section
variable {V:Vs} {prog:Program} {w:World}
theorem tD {A:Around} {s:Shared} {a:Addr} {xs:Array Value} {n:Nat} {ys:List Str} {x:Str} {t:Tok} (d:s.heap.get? a=some {cls:=.type "tuple",data:=.seq xs n}) (u:ae xs.toList=aR ys)
  {R:Result→Shared→Prop} (hR:R (.ok (.ret (.bool (ys.any (·== x))))) s):codeAny (model prog w) A (.call (.builtin "tuple.__contains__") ⟨[.ref a,.str x t],[]⟩) R s:=
 codeAny_call_builtin slot_tuple_contains.plain entry_tuple_contains (slot_tuple_contains.check _ _ _ _ _ _ _ _ ⟨_,d,rfl⟩ (args_tuple_contains _ _)
  (tuple_contains_strs (ys:=ys) ⟨_,d,rfl,_,rfl⟩ (lz u) hR))
theorem i' (a:Addr) (ix:Nat) (ys:List Str) (x:Str) (r:Bool) (d:ys.any (·== x)=r):aj V prog w (x4 a ix (aR ys) x r) [a]:=by
 delta zz V prog w a ix ys x r
 intro A s c rm z tp en hi nd
 obtain ⟨pos,rfl,hp⟩:=av (show ao c=.call (.builtin "tuple.__contains__") ⟨[.ref a,.str x 0],[]⟩ from z)
 obtain ⟨u,v,rfl,B,D⟩:=eA hp
 obtain ⟨t,rfl⟩:=aL D
 cases bb B
 obtain ⟨⟨o,G,H⟩,-⟩:=en
 obtain ⟨xs,n,rfl,I⟩:=mR H
 refine tD G I ?_
 rw [d]
 exact bR (S:=x4 a ix (aR ys) x r) (as:=[a]) rfl rfl ⟨fun O h=>(by cases h),trivial⟩ rfl ⟨rfl,rfl,rfl⟩
theorem tE (a:Addr) (xs:List Value) (n:Nat) (ys:List Str) (x:Str) (r:Bool) (ha:a < V.n₁) (hg:V.kt.get a=some {cls:=.type "tuple",data:=.seq ⟨xs⟩ n}) (d:ae xs=aR ys) (z:ys.any (·== x)=r):
  aj V prog w (bi "tuple.__contains__" [.ref a,.str x 0] (.bool r)) []:=by
 delta zz V prog w a xs n ys x r
 intro A s c rm B tp en hi nd
 obtain ⟨pos,rfl,hp⟩:=av (show ao c=.call (.builtin "tuple.__contains__") ⟨[.ref a,.str x 0],[]⟩ from B)
 obtain ⟨u,v,rfl,D,G⟩:=eA hp
 obtain ⟨t,rfl⟩:=aL G
 cases bb D
 refine tD (tp.1 a _ ha hg) d ?_
 rw [z]
 exact bR (S:=bi "tuple.__contains__" [.ref a,.str x 0] (.bool r)) (as:=[]) rfl rfl trivial rfl ⟨rfl,rfl,rfl⟩
theorem JY (c:Nat):(!(Builtin.Str.occurrences s!">" ⟨⟨[c]⟩⟩ 0 (Str.length s!">") 1).isEmpty)=(c == 62):=by
 by_cases h:c=62
 ·subst h; kernel_rfl
 ·have d:(c == 62)=false:=by simpa using h
  have hs:∀i,Builtin.Str.subAt s!">" ⟨⟨[c]⟩⟩ i=false:=by
   intro i
   cases hb:Builtin.Str.subAt s!">" ⟨⟨[c]⟩⟩ i with
   | false=>rfl
   | true=>
    exfalso
    unfold Builtin.Str.subAt at hb
    have e:=eq_of_beq hb
    have m:c∈(⟨[c]⟩:Array Nat).toList:=by simp
    rw [←show _=(⟨[c]⟩:Array Nat) from e,Array.toList_extract] at m
    have u:c∈[62]:=List.mem_of_mem_drop (List.mem_of_mem_take (by simpa [List.extract_eq_drop_take] using m))
    exact h (by simpa using u)
  rw [d]
  simp [Builtin.Str.occurrences,hs,Id.run,Str.length,List.range']
  rfl
theorem tG (c:Nat) (r:Bool) (h:(c == 62)=r):aj V prog w (bi "str.__contains__" [.str s!">" 0,.str ⟨⟨[c]⟩⟩ 0] (.bool r)) []:=by
 delta zz V prog w c r
 exact
 aZ F.slot_str_contains F.entry_str_contains fun pos hp=>by
  obtain ⟨u,v,rfl,d,z⟩:=eA hp
  obtain ⟨t,rfl⟩:=aL d
  obtain ⟨B,rfl⟩:=aL z
  exact⟨_,_,_,rfl,cD _ t,F.args_str_contains_2 _ _,gives_str_contains _ _ _ _,by rw [JY,h]; rfl⟩
end
section
open Builtin.Str
theorem ja {d u z:Type}:∀(l:List d) (x:u×z),List.foldl (fun b _=>(b.1,b.2)) x l=x
 | [],_=>rfl
 | _::l,x=>ja l x
theorem ir {d u:Type}:∀(l:List d) (x:u),List.foldl (fun b _=>b) x l=x
 | [],_=>rfl
 | _::l,x=>ir l x
theorem tH {x:Str} {c:Nat} (h:c∉x.cps.toList) (i:Nat):subAt x ⟨⟨[c]⟩⟩ i=false:=by
 cases hb:subAt x ⟨⟨[c]⟩⟩ i with
 | false=>rfl
 | true=>
  exfalso
  unfold subAt at hb
  have e:=eq_of_beq hb
  have m:c∈(⟨[c]⟩:Array Nat).toList:=by simp
  rw [←show _=(⟨[c]⟩:Array Nat) from e,Array.toList_extract] at m
  exact h (List.mem_of_mem_drop (List.mem_of_mem_take (by simpa [List.extract_eq_drop_take] using m)))
theorem tI {x y:Str} (hs:∀i,subAt x y i=false) (lo hi d:Nat):occurrences x y lo hi d=[]:=by
 simp [occurrences,hs,Id.run,ja]
 rfl
theorem x5 {x y:Str} (hs:∀i,subAt x y i=false) (lo hi:Nat):lastOccurrence x y lo hi=none:=by
 simp [lastOccurrence,hs,Id.run,ir]
 rfl
theorem kB (x y:Str) (i j:Int) (t u v v':Tok):Gives (Builtin.«str.count» ⟨[.str x t,.str y u,.int i v,.int j v'],[]⟩) (.int (occurrences x y (fromIndex x.length i) (min (fromIndex x.length j) x.length) (x.length + 1)).length):=.of_eq rfl
theorem kC (x y:Str) (i j:Int) (t u v v':Tok):Gives (Builtin.«str.rfind» ⟨[.str x t,.str y u,.int i v,.int j v'],[]⟩) (.int (match lastOccurrence x y (fromIndex x.length i) (min (fromIndex x.length j) x.length) with | some i=>(i:Int) | none=>-1)):=by
 show Gives (match lastOccurrence x y (fromIndex x.length i) (min (fromIndex x.length j) x.length) with | some i=>retInt i | none=>(do rule "str.rfind.not-found"; retInt (-1))) _
 cases lastOccurrence x y (fromIndex x.length i) (min (fromIndex x.length j) x.length) with
 | none=>exact .rule (.of_eq rfl)
 | some i=>exact .of_eq rfl
section
variable {V:Vs} {prog:Program} {w:World}
theorem kD (a b c d:Value):argsOk "str.count" ⟨[a,b,c,d],[]⟩:=by unfold argsOk; kernel_rfl
theorem kE (a b c d:Value):argsOk "str.rfind" ⟨[a,b,c,d],[]⟩:=by unfold argsOk; kernel_rfl
theorem gX (x:Str) (c:Nat) (i j:Int) (h:c∉x.cps.toList):aj V prog w (bi "str.count" [.str x 0,.str ⟨⟨[c]⟩⟩ 0,.int i 0,.int j 0] (.int 0 0)) []:=by
 delta zz V prog w x c i j
 exact
 aZ F.slot_str_count F.entry_str_count fun pos hp=>by
  obtain ⟨u,v,p,q,rfl,d,z,B,D⟩:=Lr hp
  obtain ⟨t,rfl⟩:=aL d
  obtain ⟨G,rfl⟩:=aL z
  obtain ⟨H,rfl⟩:=aW B
  obtain ⟨I,rfl⟩:=aW D
  exact⟨_,_,_,rfl,cD _ t,kD _ _ _ _,kB _ _ _ _ _ _ _ _,by rw [tI (tH h)]; rfl⟩
theorem gY (x:Str) (c:Nat) (i j:Int) (h:c∉x.cps.toList):aj V prog w (bi "str.rfind" [.str x 0,.str ⟨⟨[c]⟩⟩ 0,.int i 0,.int j 0] (.int (-1) 0)) []:=by
 delta zz V prog w x c i j
 exact
 aZ F.slot_str_rfind F.entry_str_rfind fun pos hp=>by
  obtain ⟨u,v,p,q,rfl,d,z,B,D⟩:=Lr hp
  obtain ⟨t,rfl⟩:=aL d
  obtain ⟨G,rfl⟩:=aL z
  obtain ⟨H,rfl⟩:=aW B
  obtain ⟨I,rfl⟩:=aW D
  exact⟨_,_,_,rfl,cD _ t,kE _ _ _ _,kC _ _ _ _ _ _ _ _,by rw [x5 (tH h)]; rfl⟩
theorem gZ (x y z:Str) (t u v:Tok) (h:occurrences x y 0 x.length (x.length + 1)=[]):Gives (Builtin.«str.replace» ⟨[.str x t,.str y u,.str z v],[]⟩) (.val (.str x t)):=by
 have g:=gives_str_replace x y z t u v (by rw [h]; intro q; cases q)
 rw [h] at g
 exact g
theorem dg (x y z:Str) (h:∀i,subAt x y i=false):aj V prog w (bi "str.replace" [.str x 0,.str y 0,.str z 0] (.str x 0)) []:=
 aZ F.slot_str_replace F.entry_str_replace fun pos hp=>by
  obtain ⟨u,v,p,rfl,d,B,D⟩:=JK hp
  obtain ⟨t,rfl⟩:=aL d
  obtain ⟨G,rfl⟩:=aL B
  obtain ⟨H,rfl⟩:=aL D
  exact⟨_,_,_,rfl,cD _ t,F.args_str_replace_3 _ _ _,gZ _ _ _ _ _ _ (tI h _ _ _),rfl⟩
theorem jY:∀{xs:List Value} {ys:List Str},ae xs=aR ys→∃l:List (Str×Tok),xs=strValues l∧l.map (·.1)=ys
 | [],[],_=>⟨[],rfl,rfl⟩
 | [],_::_,h=>by cases h
 | _::_,[],h=>by cases h
 | v::xs,y::ys,h=>by
  injection h with d u
  obtain ⟨t,rfl⟩:=aL d
  obtain ⟨l,rfl,rfl⟩:=jY u
  exact⟨(y,t)::l,rfl,rfl⟩
noncomputable def Ct (d:Str) (ys:List Str):Str:=match ys with
 | [y]=>y
 | l=>glued d l
noncomputable def fJ (d:Str) (a:Addr) (ix:Nat) (ys:List Value) (r:Str):Sum:=
 ⟨.call (.builtin "str.join") ⟨[.str d 0,.ref a],[]⟩,[⟨ix,aV ys,none⟩],.ok (.ret (.str r 0)),500,false⟩
theorem kF (d:Str) (a:Addr) (ix:Nat) (ys:List Str) (r:Str) (B:Ct d ys=r) (I:tooLong (ys.toArray.foldl (·+ ·.length + d.length) 0)=false) (H:r.length≤sizeLine):aj V prog w (fJ d a ix (aR ys) r) [a]:=by
 delta zz V prog w d a ix ys r
 intro A s c rm J tp en hi nd
 obtain ⟨pos,rfl,hp⟩:=av (show ao c=.call (.builtin "str.join") ⟨[.str d 0,.ref a],[]⟩ from J)
 obtain ⟨u,v,rfl,U,h2⟩:=eA hp
 obtain ⟨t,rfl⟩:=aL U
 cases bb h2
 obtain ⟨⟨o,ho,eo⟩,-⟩:=en
 obtain ⟨xs,n,rfl,he⟩:=mR eo
 obtain ⟨l,D,z⟩:=jY he
 have key:∀(R:Result→Shared→Prop),(joinMade d l).post (fun v s'=>R (.ok (.ret v)) s') s→codeAny (model prog w) A (.call (.builtin "str.join") ⟨[.str d t,.ref a],[]⟩) R s:=fun R G=>
  codeAny_call_builtin F.slot_str_join.plain F.entry_str_join (F.slot_str_join.check _ _ _ _ _ _ _ _ (cD d t s) (F.args_str_join_2 _ _) (meets_str_join_list d t a l (by rw [z]; exact I) prog w _ R s ⟨⟨_,ho,rfl,n,by obtain ⟨x⟩:=xs; rw [←D]⟩,G⟩))
 have G:gV (joinMade d l) (.str r 0):=by
  subst z
  cases l with
  | nil=>subst B; exact⟨rfl,H⟩
  | cons p q=>cases q with
   | nil=>show Value.str p.1 0=Value.str r 0; rw [←B]; rfl
   | cons p2 q=>subst B; exact⟨rfl,H⟩
 exact key _ (G.post fun v' s' ev st=>bR (S:=fJ d a ix (aR ys) r) (as:=[a]) rfl rfl ⟨fun O h=>(by cases h),trivial⟩ ev st)
theorem jb (a:Addr) (ix:Nat) (R:Str) (d:R.length≤sizeLine):aj V prog w (fJ ⟨⟨[]⟩⟩ a ix (aR [R]) R) [a]:=
 kF _ a ix [R] R rfl (show decide (0 + R.length + 0 > sizeLine)=false from decide_eq_false (by omega)) d
theorem qz {id:String} {B:Builtin} {A:Around} {d:List Value} {S:PySem.Spec} {R:Result→Shared→Prop} {s:Shared} (kind:builtinKind id=none) (plain:plainId id=true)
  (z:entryFor table id=some B) (ok:argsOk id ⟨d,[]⟩) (g:Meets (B ⟨d,[]⟩) S) (h:S A R s):codeAny (model prog w) A (.call (.builtin id) ⟨d,[]⟩) R s:=by
 refine codeAny_call_builtin plain z ?_
 have u:=g prog w A R s h
 simp only [checkBuiltinCall,kind]
 cases D:Manifest.signature? id with
 | none=>exact wpAny_pure u
 | some G=>
  simp only [argsOk,D] at ok
  have H:Bind.checkArgs id G ⟨d,[]⟩=pure ():=ok
  show wpAny _ _ (Bind.checkArgs id G ⟨d,[]⟩) _ _ s
  rw [H]
  exact wpAny_pure u
theorem mS (c:Nat) (r:Int) (d:(c:Int)=r):aj V prog w (bi "ord" [.str ⟨⟨[c]⟩⟩ 0] (.int r 0)) []:=by
 delta zz V prog w c r
 intro A s z rm B tp en hi nd
 obtain ⟨pos,rfl,hp⟩:=av (show ao z=.call (.builtin "ord") ⟨[.str ⟨⟨[c]⟩⟩ 0],[]⟩ from B)
 obtain ⟨u,rfl,D⟩:=mN hp
 obtain ⟨t,rfl⟩:=aL D
 subst d
 exact qz F.kind_ord F.plain_ord F.entry_ord (F.args_ord1 _) (gives_ord c t).meets
  (show(Made.int (c:Int)).post _ s from bR (S:=bi "ord" [.str ⟨⟨[c]⟩⟩ 0] (.int c 0)) (as:=[]) rfl rfl trivial rfl ⟨rfl,rfl,rfl⟩)
theorem x6 (x:Str) (i:Int) (k c:Nat) (r:Str) (h0:-(2 ^ 63)≤i) (D:i < 2 ^ 63) (hk:seqIndex? i x.length=some k) (d:x.cps[k]?=some c) (z:Str.mk ⟨[c]⟩=r):aj V prog w (bi "str.__getitem__" [.str x 0,.int i 0] (.str r 0)) []:=
 aZ F.slot_str_getitem F.entry_str_getitem fun pos hp=>by
  obtain ⟨u,v,rfl,e1,B⟩:=eA hp
  obtain ⟨t,rfl⟩:=aL e1
  obtain ⟨G,rfl⟩:=aW B
  refine⟨_,_,_,rfl,cD x t,F.args_str_getitem_2 _ _,gives_str_getitem _ _ _ _ c ?_ ?_,?_⟩
  ·rw [decide_eq_false (by omega),decide_eq_false (by omega)]; rfl
  ·rw [hk]; exact d
  ·rw [←z]; exact⟨rfl,(show 1≤sizeLine by decide)⟩
end
end
section
open Builtin.Str
section
variable {V:Vs} {prog:Program} {w:World}
theorem x7 {id:String} {b:Builtin} {A:Around} {d:List Value} {R:Result→Shared→Prop} {s:Shared} (hk:builtinKind id=none) (hp:plainId id=true)
  (hb:entryFor table id=some b) (ha:argsOk id ⟨d,[]⟩)
  (I:wpAny (model prog w) A.in1 (b ⟨d,[]⟩) (fun u s'=>∃v,u=.done (.ret v)∧R (.ok (.ret v)) s') (fun _ _=>False) s):codeAny (model prog w) A (.call (.builtin id) ⟨d,[]⟩) R s:=by
 refine codeAny_call_builtin hp hb ?_
 have z:=wpAny_mono I (Q':=fun u s'=>match u with
   | .done f=>R (.ok f) s'
   | .again H=>H.quiet=true∧codeAny (model prog w) A H R s')
  (fun u s' G=>by obtain ⟨v,rfl,J⟩:=G; exact J) (fun e s' G=>(G.elim:R (.error e) s'))
 simp only [checkBuiltinCall,hk]
 cases B:Manifest.signature? id with
 | none=>exact wpAny_pure z
 | some D=>
  simp only [argsOk,B] at ha
  have U:Bind.checkArgs id D ⟨d,[]⟩=pure ():=ha
  show wpAny _ _ (Bind.checkArgs id D ⟨d,[]⟩) _ _ s
  rw [U]; exact wpAny_pure z
theorem tJ {A:Around} {s:Shared} {Q:PySem.Fin→Shared→Prop} {E:Value→Shared→Prop} (x:Str) (t:Tok) (d:(x.length:Int) < 2 ^ 63) (h:∀v s',ai v=.int x.length 0→fH s s'→Q (.done (.ret v)) s'):
  wpAny (model prog w) A (Builtin.«len» ⟨[.str x t],[]⟩) Q E s:=by
 unfold Builtin.«len»
 refine wpAny_bind (m:=oneArg "len" _) (wpAny_pure ?_)
 refine wpAny_bind (m:=callSpecial? (.str x t) (Str.ofString "__len__")) (wpAny_callSpecial?_slot (name:=Str.ofString "__len__") (cD x t s) F.slot_str_len (call_gives F.slot_str_len (cD x t s) F.entry_str_len (F.args_str_len_1 _) (gives_str_len x t) ?_))
 show wpAny _ _ _ _ _ {s with toks:=s.toks + 1}
 refine wpAny_bind (wpAny_holding (wpAny_pure ?_))
 refine wpAny_bind (wpAny_letGo ?_)
 show wpAny _ _ (if (x.length:Int) < 0 then _ else _) _ _ _
 rw [if_neg (by omega)]
 show wpAny _ _ (if (x.length:Int)≥2 ^ 63 then _ else _) _ _ _
 rw [if_neg (by omega)]
 exact wpAny_bind (wpAny_mkInt (wpAny_pure (h _ _ rfl ⟨rfl,rfl,rfl⟩)))
theorem cj (x:Str) (r:Int) (d:(x.length:Int)=r) (H:r < 2 ^ 63):aj V prog w (bi "len" [.str x 0] (.int r 0)) []:=by
 delta zz V prog w x r
 intro A s z rm B tp en hi nd
 obtain ⟨pos,rfl,hp⟩:=av (show ao z=.call (.builtin "len") ⟨[.str x 0],[]⟩ from B)
 obtain ⟨u,rfl,D⟩:=mN hp
 obtain ⟨t,rfl⟩:=aL D
 refine x7 kind_len plain_len entry_len (args_len1 _) ?_
 exact tJ x t (by omega) fun v s' G st=>⟨v,rfl,bR (S:=bi "len" [.str x 0] (.int r 0)) (as:=[]) rfl rfl trivial (by rw [G,←d]; rfl) st⟩
noncomputable def jZ (x:Str) (n:Int):Sum:=⟨.builtin "len" ⟨[.str x 0],[]⟩,[],.ok (.ret (.int n 0)),500,false⟩
theorem pi (x:Str) (r:Int) (d:(x.length:Int)=r) (H:r < 2 ^ 63):aj V prog w (jZ x r) []:=by
 delta zz V prog w x r
 intro A s z rm B tp en hi nd
 obtain ⟨pos,rfl,hp⟩:=lx (show ao z=.builtin "len" ⟨[.str x 0],[]⟩ from B)
 obtain ⟨u,rfl,D⟩:=mN hp
 obtain ⟨t,rfl⟩:=aL D
 refine codeAny_builtin entry_len (tJ x t (by omega) fun v s' G st=>?_)
 exact bR (S:=jZ x r) (as:=[]) rfl rfl trivial (by rw [G,←d]; rfl) st
theorem jD (a b:Int) (t u:Tok) (h:(b == 0)=false):Gives (Builtin.«int.__mod__» ⟨[.int a t,.int b u],[]⟩) (.int (a.fmod b)):=by
 refine .of_eq ?_
 show(if (b == 0)=true then _ else _ >>=_:Sem Fin)=_
 rw [h]
 rfl
theorem kG (x y r:Int) (h:(y == 0)=false) (d:x.fmod y=r):aj V prog w (bi "int.__mod__" [.int x 0,.int y 0] (.int r 0)) []:=
 aZ PySem.slot_int_mod PySem.entry_int_mod fun pos hp=>by
  obtain ⟨u,v,rfl,z,B⟩:=eA hp
  obtain ⟨t,rfl⟩:=aW z
  obtain ⟨D,rfl⟩:=aW B
  exact⟨_,_,_,rfl,d5 x t,PySem.args_int_mod _ _,jD _ _ _ _ h,by rw [d]; rfl⟩
noncomputable def fL:List Int→List Value
 | []=>[]
 | y::r=>.int y 0::fL r
theorem lA:∀{l:List Value} {ys:List Int},ae l=fL ys→IntsAre l ys
 | [],[],_=>.nil
 | [],_::_,h=>by cases h
 | _::_,[],h=>by cases h
 | v::l,y::ys,h=>by
  injection h with d u
  obtain ⟨t,rfl⟩:=aW d
  exact .cons y t (lA u)
noncomputable def lB (a:Addr) (ix:Nat) (ys:List Value) (x:Int) (r:Bool):Sum:=
 ⟨.call (.builtin "tuple.__contains__") ⟨[.ref a,.int x 0],[]⟩,[⟨ix,br ys,none⟩],.ok (.ret (.bool r)),500,false⟩
theorem mT (a:Addr) (ix:Nat) (ys:List Int) (x:Int) (r:Bool) (z:ys.any (·== x)=r):aj V prog w (lB a ix (fL ys) x r) [a]:=by
 delta zz V prog w a ix ys x r
 intro A s c rm B tp en hi nd
 obtain ⟨pos,rfl,hp⟩:=av (show ao c=.call (.builtin "tuple.__contains__") ⟨[.ref a,.int x 0],[]⟩ from B)
 obtain ⟨u,v,rfl,D,G⟩:=eA hp
 obtain ⟨t,rfl⟩:=aW G
 cases bb D
 obtain ⟨⟨o,d,H⟩,-⟩:=en
 obtain ⟨xs,n,rfl,I⟩:=mR H
 refine codeAny_call_builtin slot_tuple_contains.plain entry_tuple_contains (slot_tuple_contains.check _ _ _ _ _ _ _ _ ⟨_,d,rfl⟩ (args_tuple_contains _ _)
  (tuple_contains_tree (ns:=ys) ⟨_,d,rfl,_,rfl⟩ (lA I) ?_))
 rw [z]
 exact bR (S:=lB a ix (fL ys) x r) (as:=[a]) rfl rfl ⟨fun O h=>(by cases h),trivial⟩ rfl ⟨rfl,rfl,rfl⟩
end
end
theorem ag {d:Type} {p:d→Prop} {a:d} {l:List d} (h:p a) (H:∀x∈l,p x):∀x∈a::l,p x:=List.forall_mem_cons.mpr ⟨h,H⟩
theorem ak {d:Type} {P:d→Prop} {a:d} (h:P a):∀x∈[a],P x:=List.forall_mem_singleton.mpr h
noncomputable def jE {d:Type}:List Nat→List d→List d
 | [],_=>[]
 | i::r,L=>match L[i]? with
  | some a=>a::jE r L
  | none=>jE r L
theorem e7 {d:Type} {L:List d}:∀(l:List Nat),∀x∈jE l L,x∈L
 | [],_,h=>by cases h
 | i::r,x,h=>by
  unfold jE at h
  split at h
  ·rename_i e
   exact(List.mem_cons.mp h).elim (fun z=>z▸List.mem_of_getElem? e) (e7 r x)
  ·exact e7 r x h
theorem jc {d:Type} {S L:List d} (l:List Nat) (h:jE l L=S):∀x∈S,x∈L:=h▸e7 l
theorem Ls {d:Type} {x a:d} {l:List d} (h:x≠a) (H:x∉l):x∉a::l:=fun z=>(List.mem_cons.mp z).elim h H
theorem Lt {d:Type} {x a:d} (h:x≠a):x∉[a]:=fun z=>h (List.mem_singleton.mp z)
theorem Lu {d:Type} {a:d} {l:List d} (h:a∉l) (H:l.Nodup):(a::l).Nodup:=List.nodup_cons.mpr ⟨h,H⟩
theorem LN {d:Type} (a:d):[a].Nodup:=List.nodup_cons.mpr ⟨List.not_mem_nil,List.nodup_nil⟩
theorem lC {d:Type} {a b:d} (h:a≠b):[a,b].Nodup:=Lu (Lt h) (LN b)
theorem c9 {d:Type} {x a b:d} (h:x∈[a,b]):x=a∨x=b:=by simpa using h
theorem iG {d:Type} {x a b c:d} (h:x∈[a,b,c]):x=a∨x=b∨x=c:=by simpa using h
theorem x8 {u:Type} {x a b c d:u} (h:x∈[a,b,c,d]):x=a∨x=b∨x=c∨x=d:=by simpa using h
theorem JZ {u:Type} {x a b c d e:u} (h:x∈[a,b,c,d,e]):x=a∨x=b∨x=c∨x=d∨x=e:=by simpa using h
theorem LO {u:Type} {x a b c d e f:u} (h:x∈[a,b,c,d,e,f]):x=a∨x=b∨x=c∨x=d∨x=e∨x=f:=by simpa using h
theorem LP {d:Type} {x a b:d} (h:¬x=a∧¬x=b):x∉[a,b]:=by simpa using h
theorem qA {d:Type} {x a b c:d} (h:¬x=a∧¬x=b∧¬x=c):x∉[a,b,c]:=by simpa using h
theorem LQ {u:Type} {x a b c d:u} (h:¬x=a∧¬x=b∧¬x=c∧¬x=d):x∉[a,b,c,d]:=by simpa using h
theorem x9 {d:Type} {a b c:d} (h:(¬a=b∧¬a=c)∧¬b=c):[a,b,c].Nodup:=by simpa [and_assoc] using h
theorem Lw {u:Type} {a b c d:u} (h:(¬a=b∧¬a=c∧¬a=d)∧(¬b=c∧¬b=d)∧¬c=d):[a,b,c,d].Nodup:=by simpa [and_assoc] using h
theorem MH {d:Type} {a b:d} (h:[a,b].Nodup):¬a=b∧True:=by simpa [and_assoc] using h
theorem LR {d:Type} {a b c:d} (h:[a,b,c].Nodup):(¬a=b∧¬a=c)∧¬b=c∧True:=by simpa [and_assoc] using h
theorem LS {u:Type} {a b c d:u} (h:[a,b,c,d].Nodup):(¬a=b∧¬a=c∧¬a=d)∧(¬b=c∧¬b=d)∧¬c=d∧True:=by simpa [and_assoc] using h
theorem LT {u:Type} {a b c d e:u} (h:[a,b,c,d,e].Nodup):(¬a=b∧¬a=c∧¬a=d∧¬a=e)∧(¬b=c∧¬b=d∧¬b=e)∧(¬c=d∧¬c=e)∧¬d=e∧True:=by simpa [and_assoc] using h
theorem MI {u:Type} {a b c d e f:u} (h:[a,b,c,d,e,f].Nodup):(¬a=b∧¬a=c∧¬a=d∧¬a=e∧¬a=f)∧(¬b=c∧¬b=d∧¬b=e∧¬b=f)∧(¬c=d∧¬c=e∧¬c=f)∧(¬d=e∧¬d=f)∧¬e=f∧True:=by simpa [and_assoc] using h
theorem ya {u:Type}:∀{l:List u} {x y:u},l.Nodup→∀i j:Nat,l[i]?=some x→l[j]?=some y→i≠j→x≠y
 | [],_,_,_,_,_,hi,_,_=>by cases hi
 | _::_,_,_,_,0,0,_,_,ne=>absurd rfl ne
 | a::l,_,_,h,0,j + 1,hi,d,_=>fun e=>by
  cases hi
  exact(List.nodup_cons.mp h).1 (e▸List.mem_of_getElem? (show l[j]?=_ from d))
 | a::l,_,_,h,i + 1,0,hi,d,_=>fun e=>by
  cases d
  exact(List.nodup_cons.mp h).1 (e▸List.mem_of_getElem? (show l[i]?=_ from hi))
 | _::l,_,_,h,i + 1,j + 1,hi,d,ne=>ya (l:=l) (List.nodup_cons.mp h).2 i j hi d fun e=>ne (by rw [e])
noncomputable def tK:Value→Bool
 | .int _ _=>false
 | .float _ _=>false
 | .str _ _=>false
 | .bytes _ _=>false
 | _=>true
noncomputable def iu:List Value→Bool
 | []=>true
 | v::r=>match tK v with
  | true=>iu r
  | false=>false
theorem tL {v u:Value} (h:tK v=true) (e:ai u=v):u=v:=by cases u <;> simp [ai] at e <;> subst e <;> first | rfl | (simp [tK] at h)
theorem gF:∀{l k:List Value},iu l=true→ae k=l→k=l
 | [],[],_,_=>rfl
 | [],_::_,_,e=>by cases e
 | _::_,[],_,e=>by cases e
 | v::l,u::k,h,e=>by
  injection e with e1 d
  unfold iu at h
  split at h
  ·rename_i z; rw [tL z e1,gF h d]
  ·cases h
noncomputable def Lx (o:Obj):Bool:=match o.data with
 | .fields vs=>iu vs.toList
 | _=>true
noncomputable def j1 (o:Obj):Bool:=match o.data with
 | .fields vs=>iu vs.toList
 | .seq _ _=>false
 | .dict _ _=>false
 | _=>true
theorem Dp {o O:Obj} (h:Lx O=true) (e:cK o=O):∃y,o=fG y O:=by
 obtain ⟨c,d,z,sl⟩:=o
 cases z with
 | seq xs n=>
  obtain ⟨y,u⟩:=gy ⟨c,d,.seq xs n,sl⟩
  exact⟨y,by rw [u,←e]; rfl⟩
 | dict D n=>
  obtain ⟨y,u⟩:=gy ⟨c,d,.dict D n,sl⟩
  exact⟨y,by rw [u,←e]; rfl⟩
 | fields vs=>
  refine⟨fun _=>0,?_⟩
  subst e
  have hb:iu (ae vs.toList)=true:=h
  have:=gF hb rfl
  show _=(⟨c,d,.fields ⟨ae vs.toList⟩,sl⟩:Obj)
  rw [←this]
 | _=>exact⟨fun _=>0,by rw [←e]; rfl⟩
theorem jd {o O:Obj} (h:j1 O=true) (e:aI o=O):o=O:=by
 obtain ⟨c,d,u,sl⟩:=o
 cases u <;> first | exact e | (subst e; cases h)
theorem g7 {o O:Obj} (h:j1 O=true) (e:cK o=O):o=O:=by
 obtain ⟨c,d,u,sl⟩:=o
 cases u with
 | seq=>subst e; cases h
 | dict=>subst e; cases h
 | fields vs=>
  subst e
  have hb:iu (ae vs.toList)=true:=h
  have:=gF hb rfl
  show _=(⟨c,d,.fields ⟨ae vs.toList⟩,sl⟩:Obj)
  rw [←this]
 | _=>exact e
noncomputable def dj (y:Nat→Nat→Tok):Nat→List Addr→List bF→List aw
 | n,a::as,e::d=>(a,fG (y n) e.pre)::dj y (n + 1) as d
 | _,_,_=>[]
noncomputable def gG:List bF→Bool
 | []=>true
 | e::d=>match Lx e.pre with
  | true=>gG d
  | false=>false
theorem dj.congr {y u:Nat→Nat→Tok}:∀{as:List Addr} {d:List bF} {n:Nat},(∀k,n≤k→y k=u k)→dj y n as d=dj u n as d
 | a::as,e::d,n,h=>by
  show _::_=_::_
  rw [h n (Nat.le_refl _),dj.congr fun k hk=>h k (Nat.le_of_succ_le hk)]
 | [],_,_,_=>by cases ‹List bF› <;> rfl
 | _::_,[],_,_=>rfl
theorem lE {h:Heap}:∀(as:List Addr) (d:List bF) (n:Nat),cw h as d→gG d=true→∃y,(∀p∈dj y n as d,h.get? p.1=some p.2)∧keys (dj y n as d)=as
 | [],[],_,_,_=>⟨fun _ _=>0,fun _ hp=>(by cases hp),rfl⟩
 | [],_::_,_,h,_=>h.elim
 | _::_,[],_,h,_=>h.elim
 | a::as,e::d,n,⟨⟨o,D,G⟩,H⟩,ok=>by
  unfold gG at ok
  split at ok
  case h_2=>cases ok
  rename_i I
  obtain ⟨y,J,hk⟩:=lE as d (n + 1) H ok
  obtain ⟨z,U⟩:=Dp I G
  have u:dj (fun k=>if k=n then z else y k) (n + 1) as d=dj y (n + 1) as d:=dj.congr fun k hk=>by
   have:k≠n:=by omega
   simp only [if_neg this]
  refine⟨fun k=>if k=n then z else y k,fun p hp=>?_,?_⟩
  ·rcases List.mem_cons.mp hp with rfl | hp
   ·show h.get? a=some (fG (if n=n then z else y n) e.pre)
    rw [if_pos rfl,←U]; exact D
   ·rw [u] at hp; exact J p hp
  ·show a::keys (dj _ (n + 1) as d)=a::as
   rw [u,hk]
noncomputable def ay (z:Nat→Tok):Code→Code
 | .call f ⟨pos,d⟩=>.call f ⟨cR z 0 pos,d⟩
 | .builtin id ⟨pos,d⟩=>.builtin id ⟨cR z 0 pos,d⟩
 | c=>c
theorem je (c:Code):∃z,c=ay z (ao c):=by
 cases c with
 | call f a=>
  obtain ⟨pos,d⟩:=a
  obtain ⟨z,u⟩:=gx pos 0
  exact⟨z,by show _=Code.call f ⟨cR z 0 (ae pos),d⟩; rw [u]⟩
 | builtin f a=>
  obtain ⟨pos,d⟩:=a
  obtain ⟨z,u⟩:=gx pos 0
  exact⟨z,by show _=Code.builtin f ⟨cR z 0 (ae pos),d⟩; rw [u]⟩
 | _=>exact⟨fun _=>0,rfl⟩
noncomputable def jf:List Addr→List bF→List aw→Prop
 | a::as,e::d,p::L=>(match e.post with
   | some O=>p=(a,aI O)
   | none=>p=(a,e.pre)∧j1 e.pre=true)∧jf as d L
 | [],[],_=>True
 | _,_,_=>False
theorem jf.post {h:Heap}:∀{as:List Addr} {d:List bF} {L:List aw},jf as d L→aJ h L→ca h as d
 | a::as,e::d,p::L,u,z=>by
  refine⟨fun O I=>?_,jf.post u.2 fun q J=>z q (.tail _ J)⟩
  have D:=u.1
  rw [I] at D
  obtain ⟨o,G,H⟩:=z p (.head _)
  rw [D] at G H
  exact⟨o,G,H⟩
 | [],_,_,_,_=>trivial
 | _::_,[],_,h,_=>h.elim
 | _::_,_::_,[],h,_=>h.elim
theorem jf.frame {d h:Heap}:∀{as:List Addr} {D:List bF} {L:List aw},jf as D L→aJ h L→cw d as D→∀b o,d.get? b=some o→b∈as→b∉be as D→h.get? b=some o
 | a::as,e::D,p::L,G,H,I,b,o,hb,u,z=>by
  unfold be at z
  cases J:e.post with
  | some O=>
   rw [J] at z
   rcases List.mem_cons.mp u with rfl | u
   ·exact absurd (.head _) z
   ·exact jf.frame G.2 (fun q U=>H q (.tail _ U)) I.2 b o hb u fun q=>z (.tail _ q)
  | none=>
   rw [J] at z
   rcases List.mem_cons.mp u with rfl | u
   ·have h1:=G.1
    rw [J] at h1
    obtain ⟨rfl,hs⟩:=h1
    obtain ⟨B,h2,h3⟩:=H _ (.head _)
    obtain ⟨o₁,h4,h5⟩:=I.1
    rw [h4] at hb; cases hb
    have e1:=g7 hs h5
    have e2:=jd hs h3
    rw [e1,←e2]; exact h2
   ·exact jf.frame G.2 (fun q U=>H q (.tail _ U)) I.2 b o hb u z
 | [],_,_,_,_,_,_,_,_,u,_=>by cases u
 | _::_,[],_,h,_,_,_,_,_,_,_=>h.elim
 | _::_,_::_,[],h,_,_,_,_,_,_,_=>h.elim
noncomputable def jF (S:Sum) (as:List Addr) (s:Shared):Result→Shared→Prop:=fun r s'=>ba r=ba S.res∧s'.gens=s.gens∧s'.os=s.os∧ca s'.heap as S.ents∧
 (∀b o,s.heap.get? b=some o→b∉be as S.ents→s'.heap.get? b=some o)∧s.heap.objs.size≤s'.heap.objs.size
theorem Dq {V:Vs} {S:Sum} {as:List Addr} {s s':Shared} {L:List aw} {r r':Result} (d:jf as S.ents L) (z:r=ba S.res) (D:cw s.heap as S.ents) (er:ba r'=r) (P:aD V s as s' L):jF S as s r' s':=by
 refine⟨er.trans z,P.gens,P.os,d.post P.at_,fun b o hb G=>?_,P.grow⟩
 by_cases u:b∈as
 ·exact d.frame P.at_ D b o hb u G
 ·exact P.frame b o hb u
noncomputable def tM (fn:Bool) (c:Code):Sem PySem.Fin:=match fn with
 | false=>dz c
 | true=>match c with
  | .call f d=>match f with
   | .ref a=>i4 a d
   | _=>dz c
  | _=>dz c
@[irreducible] noncomputable def start (fn:Bool) (c:Code):Sem PySem.Fin:=tM fn c
theorem tN (fn:Bool) (c:Code):start fn c=tM fn c:=by kernel_rfl
theorem e8 {V:Vs} {X:Cx} {fn:Bool} {c:Code} {s:Shared} (rm:X.A₀.depth < 1000) (m:Means X (.inn c .root) (start fn c) s):codeAny (model X.prog X.w) X.A₀ c X.R₀ s:=by
 have z:Means X (.inn c .root) (dz c) s→codeAny (model X.prog X.w) X.A₀ c X.R₀ s:=fun m=>by
  rw [←sZ] at m
  exact y_code _ _ _ _ _ _ m
 rw [tN] at m
 cases fn with
 | false=>exact z m
 | true=>
  cases c with
  | call f d=>cases f with
   | ref a=>exact y_code _ _ _ _ _ _ (eD (X:=X) rm m)
   | _=>exact z m
  | _=>exact z m
theorem jg (fn:Bool) {V V':Vs} {prog:Program} {w:World} {S:Sum} {as:List Addr} (hS:V.S=⟨prog,w.params⟩) (hk:V.kt=V'.kt) (D:V.n₁=V'.n₁) (hr:V.room=S.room) (U:Nat.ble V.room 440=true) (hf:gG S.ents=true) (G:S.ex=false)
  (H:∀(A:Around) (s:Shared) (y:Nat→Nat→Tok) (z:Nat→Tok) (tb:Nat),cw s.heap as S.ents→au S.room A∧(∀a∈as,V.n₁≤a)∧as.Nodup→eJ V ⟨prog,w,A,jF S as s,s,as⟩ (.inn (ay z S.code) .root) (start fn (ay z S.code)) (dj y 0 as S.ents) tb):aj V' prog w S as:=by
 intro A s c rm J tp en hi nd
 obtain ⟨z,hz⟩:=je c
 have J:ao c=S.code:=by rw [←J,Sum.seen,G]
 rw [J] at hz
 obtain ⟨y,hy,u⟩:=lE as S.ents 0 en hf
 obtain ⟨n,orc,ok⟩:=H A s y z s.toks en ⟨rm,fun a ha=>by rw [D]; exact hi a ha,nd⟩
 have F:jB V ⟨prog,w,A,jF S as s,s,as⟩:=⟨hS,by rw [hr]; exact rm,Nat.le_of_ble_eq_true U⟩
 have mem:∀p∈dj y 0 as S.ents,p.1∈as:=fun p hp=>by rw [←u]; exact List.mem_map_of_mem hp
 have I:fX V ⟨prog,w,A,jF S as s,s,as⟩ s (dj y 0 as S.ents):=⟨⟨hy,by rw [u]; exact nd,fun a o ha e=>tp.1 a o (by rw [←D]; exact ha) (by rw [←hk]; exact e),fun p hp=>by rw [D]; exact hi _ (mem p hp),fun _ _ e _=>e,fun p hp=>.inl (mem p hp),by rw [D]; exact tp.2,Nat.le_refl _⟩,rfl,rfl,Nat.le_refl _⟩
 have m:=dP n F (.inn (ay z S.code) .root) _ _ _ _ 0 [] s trivial rfl I ok
 rw [hz]
 have d:=rm.1
 have v4:=Nat.le_of_ble_eq_true U
 exact e8 (V:=V) (X:=⟨prog,w,A,jF S as s,s,as⟩) (show A.depth < 1000 by omega) m
theorem cA (fn:Bool) {V V':Vs} {prog:Program} {w:World} {S:Sum} {as:List Addr} (u:V.S=⟨prog,w.params⟩) (hk:V.kt=V'.kt) (D:V.n₁=V'.n₁) (G:V.room=S.room) (I:Nat.ble V.room 440=true) (J:gG S.ents=true) (d:S.ex=false)
  (H:∀(A:Around) (s:Shared) (y:Nat→Nat→Tok) (z:Nat→Tok) (tb:Nat),cw s.heap as S.ents→au S.room A∧(∀a∈as,V.n₁≤a)∧as.Nodup→∃n orc sel,bO sel=true∧bG V ⟨prog,w,A,jF S as s,s,as⟩
   ((aN V n (.inn (ay z S.code) .root) (start fn (ay z S.code)) orc (dj y 0 as S.ents) tb 0 []).norm sel)):aj V' prog w S as:=
 jg fn u hk D G I J d fun A s y z tb en U=>by
  obtain ⟨n,orc,sel,hs,ho⟩:=H A s y z tb en U
  exact⟨n,orc,bG.of hs ho⟩
noncomputable def fillAll (y:Nat→Nat→Tok):Nat→List aw→List aw
 | _,[]=>[]
 | n,p::r=>(p.1,fG (y n) p.2)::fillAll y (n + 1) r
theorem fillAll.congr {y d:Nat→Nat→Tok}:∀{L:List aw} {n:Nat},(∀k,n≤k→y k=d k)→fillAll y n L=fillAll d n L
 | p::L,n,h=>by
  show _::_=_::_
  rw [h n (Nat.le_refl _),fillAll.congr fun k hk=>h k (Nat.le_of_succ_le hk)]
 | [],_,_=>rfl
theorem dQ {h:Heap}:∀(L:List aw) (n:Nat),aJ h L→∃y,∀p∈fillAll y n L,h.get? p.1=some p.2
 | [],n,_=>⟨fun _ _=>0,fun _ hp=>(by cases hp)⟩
 | q::L,n,H=>by
  obtain ⟨o,u,D⟩:=H q (.head _)
  obtain ⟨y,G⟩:=dQ L (n + 1) fun p hp=>H p (.tail _ hp)
  obtain ⟨z,d⟩:=gy o
  rw [D] at d
  have I:fillAll (fun k=>if k=n then z else y k) (n + 1) L=fillAll y (n + 1) L:=fillAll.congr fun k hk=>by
   have:k≠n:=by omega
   simp only [if_neg this]
  refine⟨fun k=>if k=n then z else y k,fun p hp=>?_⟩
  rcases List.mem_cons.mp hp with rfl | hp
  ·show h.get? q.1=some (fG (if n=n then z else y n) q.2)
   rw [if_pos rfl,←d]; exact u
  ·rw [I] at hp; exact G p hp
theorem bx (y:Nat→Nat→Tok):∀(L:List aw) (n:Nat),keys (fillAll y n L)=keys L
 | [],_=>rfl
 | p::L,n=>by show p.1::keys (fillAll y (n + 1) L)=p.1::keys L; rw [bx y L]
theorem dM (fn:Bool) {V:Vs} {prog:Program} {w:World} {A:Around} {s:Shared} {R:Result→Shared→Prop} {c u:Code} {P0:List aw} (U:V.S=⟨prog,w.params⟩) (G:Nat.ble V.room 440=true) (rm:au V.room A)
  (hc:ao c=u) (tp:aC V s.heap) (at_:aJ s.heap P0) (hi:∀p∈P0,V.n₁≤p.1) (nd:(keys P0).Nodup)
  (H:∀(y:Nat→Nat→Tok) (z:Nat→Tok),eJ V ⟨prog,w,A,R,s,keys P0⟩ (.inn (ay z u) .root) (start fn (ay z u)) (fillAll y 0 P0) s.toks):codeAny (model prog w) A c R s:=by
 obtain ⟨z,J⟩:=je c
 rw [hc] at J
 obtain ⟨y,hy⟩:=dQ P0 0 at_
 obtain ⟨n,orc,ok⟩:=H y z
 have F:jB V ⟨prog,w,A,R,s,keys P0⟩:=⟨U,rm,Nat.le_of_ble_eq_true G⟩
 have mem:∀p∈fillAll y 0 P0,p.1∈keys P0:=fun p hp=>by rw [←bx y P0 0]; exact List.mem_map_of_mem hp
 have D:∀a∈keys P0,V.n₁≤a:=fun a ha=>by obtain ⟨p,hp,rfl⟩:=List.mem_map.mp ha; exact hi p hp
 have I:fX V ⟨prog,w,A,R,s,keys P0⟩ s (fillAll y 0 P0):=⟨⟨hy,by rw [bx]; exact nd,fun a o ha e=>tp.1 a o ha e,fun p hp=>D _ (mem p hp),fun _ _ e _=>e,fun p hp=>.inl (mem p hp),tp.2,Nat.le_refl _⟩,rfl,rfl,Nat.le_refl _⟩
 have m:=dP n F (.inn (ay z u) .root) _ _ _ _ 0 [] s trivial rfl I ok
 rw [J]
 have d:=rm.1
 have v4:=Nat.le_of_ble_eq_true G
 exact e8 (V:=V) (X:=⟨prog,w,A,R,s,keys P0⟩) (show A.depth < 1000 by omega) m
theorem aU {V:Vs} {X:Cx} {g:Addr→az} (h:∀a,bG V X (g a)):bG V X (.more g):=h
theorem ar {V:Vs} {X:Cx} {S:Sum} {as:List Addr} {g:(Nat→Nat→Tok)→az} (d:aj V X.prog X.w S as) (u:∀y,bG V X (g y)):bG V X (.sum S as g):=⟨d,fun y _=>u y⟩
theorem Dr {V:Vs} {X:Cx} {ks:List Addr} {orc:List an} {r:Result} {L:List aw} (h:∀r' s,ba r'=r→aD V X.s₀ X.K₀ s L→X.R₀ r' s):bG V X (.done (bc ks orc []) r L):=⟨bP ks orc [] fun _ h=>(by cases h),h⟩
noncomputable def pj:Code→Bool
 | .call ..=>false
 | .builtin ..=>false
 | _=>true
theorem tO {c d:Code} (u:pj c=true) (h:ao d=c):d=c:=by
 subst h
 cases d <;> first | rfl | (simp [ao,pj] at u)
theorem e9:∀l:List Value,ae (ae l)=ae l
 | []=>rfl
 | v::l=>by
  show ai (ai v)::ae (ae l)=_
  rw [e9 l]
  cases v <;> rfl
theorem lF (c:Code):ao (ao c)=ao c:=by
 cases c with
 | call f a=>obtain ⟨pos,d⟩:=a; show Code.call f ⟨ae (ae pos),d⟩=Code.call f ⟨ae pos,d⟩; rw [e9]
 | builtin f a=>obtain ⟨pos,d⟩:=a; show Code.builtin f ⟨ae (ae pos),d⟩=Code.builtin f ⟨ae pos,d⟩; rw [e9]
 | _=>rfl
theorem Ds {V:Vs} {X:Cx} {ks:List Addr} {orc:List an} {c:Code} {L:List aw} (h:∀d,ao d=c→∀s,aD V X.s₀ X.K₀ s L→codeAny (model X.prog X.w) X.A₀ d X.R₀ s):bG V X (.cut (bc ks orc []) c L):=⟨bP ks orc [] fun _ h=>(by cases h),h⟩
theorem d7 {V:Vs} {prog:Program} {w:World} {A:Around} {S:Sum} {as:List Addr} {s:Shared} {ks:List Addr} {orc:List an} {r:Result} {L:List aw} (d:cw s.heap as S.ents) (u:r=ba S.res) (z:jf as S.ents L):
  bG V ⟨prog,w,A,jF S as s,s,as⟩ (.done (bc ks orc []) r L):=Dr fun r' s' er P=>Dq z u d er P
theorem g8 {V:Vs} {X:Cx} {o B:az} (h:o=B) (k:bG V X B):bG V X o:=h▸k
noncomputable def tP:List Addr→List bF→List aw→Prop
 | a::as,e::d,p::L=>(∀o,aI o=p.2→cK o=e.pre)∧p.1=a∧tP as d L
 | [],[],_=>True
 | _,_,_=>False
theorem tP.at {h:Heap}:∀{as:List Addr} {d:List bF} {L:List aw},tP as d L→aJ h L→cw h as d
 | a::as,e::d,p::L,⟨z,D,G⟩,u=>by
  obtain ⟨o,H,I⟩:=u p (.head _)
  exact⟨⟨o,by rw [←D]; exact H,z o I⟩,G.at fun q J=>u q (.tail _ J)⟩
 | [],[],_,_,_=>trivial
 | [],_::_,_,h,_=>h.elim
 | _::_,[],_,h,_=>h.elim
 | _::_,_::_,[],h,_=>h.elim
theorem cS {o:Obj} {c:Value} {d:Option Addr} {l:List DictEntry} {sl:Array (Option Value)} (h:aI o=⟨c,d,.dict ⟨l⟩ 0,sl⟩):cK o=⟨c,d,.dict ⟨l⟩ 0,sl⟩:=by
 obtain ⟨D,G,u,z⟩:=o
 cases u <;> first | exact h | (simp [aI,eR] at h)
theorem jG {o:Obj} {c:Value} {d:Option Addr} {l:List Value} {sl:Array (Option Value)} (h:aI o=⟨c,d,.seq ⟨l⟩ 0,sl⟩):cK o=⟨c,d,.seq ⟨l⟩ 0,sl⟩:=by
 obtain ⟨D,G,u,z⟩:=o
 cases u <;> first | exact h | (simp [aI,eR] at h)
theorem eL {o O:Obj} (hs:j1 O=true) (h:aI o=O):cK o=cK O:=by rw [jd hs h]
theorem ca.same {h:Heap}:∀{as:List Addr} {u d:List bF},u.map bF.post=d.map bF.post→ca h as d→ca h as u
 | [],[],_,_,_=>trivial
 | [],_::_,_,_,_=>trivial
 | _::_,[],_,_,_=>trivial
 | _::_,_::_,[],e,_=>by cases e
 | a::as,x::u,I::d,e,⟨z,D⟩=>by
  injection e with e1 G
  exact⟨fun O H=>z O (by rw [←e1]; exact H),ca.same G D⟩
theorem gH:∀{as:List Addr} {u d:List bF},u.map bF.post=d.map bF.post→be as u=be as d
 | [],[],[],_=>rfl
 | [],[],_::_,e=>by cases e
 | [],_::_,[],e=>by cases e
 | [],_::_,_::_,_=>rfl
 | _::_,[],[],_=>rfl
 | _::_,[],_::_,e=>by cases e
 | _::_,_::_,[],e=>by cases e
 | a::as,x::u,D::d,e=>by
  injection e with e1 z
  unfold be
  rw [e1,gH z]
noncomputable def jh:List Addr→List bF→List aw→Prop
 | a::as,e::d,p::L=>(e.post=none→p=(a,e.pre)∧j1 e.pre=true)∧jh as d L
 | [],[],_=>True
 | _,_,_=>False
theorem jh.frame {d h:Heap}:∀{as:List Addr} {D:List bF} {L:List aw},jh as D L→aJ h L→cw d as D→∀b o,d.get? b=some o→b∈as→b∉be as D→h.get? b=some o
 | a::as,e::D,p::L,G,H,I,b,o,hb,u,z=>by
  unfold be at z
  cases J:e.post with
  | some O=>
   rw [J] at z
   rcases List.mem_cons.mp u with rfl | u
   ·exact absurd (.head _) z
   ·exact jh.frame G.2 (fun q U=>H q (.tail _ U)) I.2 b o hb u fun q=>z (.tail _ q)
  | none=>
   rw [J] at z
   rcases List.mem_cons.mp u with rfl | u
   ·obtain ⟨rfl,hs⟩:=G.1 J
    obtain ⟨B,h2,h3⟩:=H _ (.head _)
    obtain ⟨o₁,h4,h5⟩:=I.1
    rw [h4] at hb; cases hb
    have e1:=g7 hs h5
    have e2:=jd hs h3
    rw [e1,←e2]; exact h2
   ·exact jh.frame G.2 (fun q U=>H q (.tail _ U)) I.2 b o hb u z
 | [],_,_,_,_,_,_,_,_,u,_=>by cases u
 | _::_,[],_,h,_,_,_,_,_,_,_=>h.elim
 | _::_,_::_,[],h,_,_,_,_,_,_,_=>h.elim
theorem yb {V V':Vs} {prog:Program} {w:World} {A:Around} {S d:Sum} {as:List Addr} {s:Shared} {ks:List Addr} {orc:List an} {c:Code} {L:List aw} (ih:aj V' prog w d as) (hk:V.kt=V'.kt) (u:V.n₁=V'.n₁)
  (hE:cw s.heap as S.ents) (z:au S.room A∧(∀a∈as,V.n₁≤a)∧as.Nodup) (hr:d.room=S.room) (hc:d.seen c=d.code) (hb:tP as d.ents L) (hp:S.ents.map bF.post=d.ents.map bF.post) (hs:S.res=d.res) (D:jh as S.ents L) (G:d.ex=false:=by rfl):
  bG V ⟨prog,w,A,jF S as s,s,as⟩ (.cut (bc ks orc []) c L):=Ds fun H I s' P=>by
 have J:d.seen H=d.code:=by
  rw [←hc]
  unfold Sum.seen
  rw [G]
  show ao H=ao c
  rw [←I,lF]
 have tp:aC V' s'.heap:=⟨fun a o ha e=>P.top.1 a o (by rw [u]; exact ha) (by rw [hk]; exact e),by rw [←u]; exact P.top.2⟩
 refine codeAny_mono (ih A s' H (by rw [hr]; exact z.1) J tp (hb.at P.at_) (fun a ha=>by rw [←u]; exact z.2.1 a ha) z.2.2) ?_
 rintro r s'' ⟨er,eg,eo,ep,ef,es⟩
 refine⟨by rw [er,hs],eg.trans P.gens,eo.trans P.os,ep.same hp,fun b o e ht=>?_,Nat.le_trans P.grow es⟩
 have U:b∉be as d.ents:=by rw [←gH hp]; exact ht
 refine ef b o ?_ U
 by_cases hm:b∈as
 ·exact D.frame P.at_ hE b o e hm ht
 ·exact P.frame b o e hm
theorem iH {V:Vs} {X:Cx} {o N:az} {sel:List Nat} (hs:bO sel=true) (h:o.norm sel=N) (k:bH V X N o):bU V X o:=bH.of hs (by rw [h]; exact k)
theorem bE {V:Vs} {X:Cx} {g:Addr→az} {o:az} (h:∀a,bH V X (g a) (o.nm a)):bH V X (.more g) o:=h
theorem ji {V:Vs} {X:Cx} {S:Sum} {as:List Addr} {g:(Nat→Nat→Tok)→az} {o:az} (d:aj V X.prog X.w S as) (u:∀y,bH V X (g y) (o.ns y)):bH V X (.sum S as g) o:=⟨d,fun y _=>u y⟩
theorem Dt {V:Vs} {X:Cx} {S:Sum} {as:List Addr} {g:(Nat→Nat→Tok)→az} {o:az} (d:aj V X.prog X.w S as) (u:∀y,X.s₀.toks≤y 0 1→bH V X (g y) (o.ns y)):bH V X (.sum S as g) o:=⟨d,u⟩
theorem g9 {V:Vs} {X:Cx} {ks:List Addr} {orc:List an} {r:Result} {L:List aw} {o:az} (h:∀r' s,ba r'=r→aD V X.s₀ X.K₀ s L→X.R₀ r' s):bH V X (.done (bc ks orc []) r L) o:=⟨bP ks orc [] fun _ h=>(by cases h),h⟩
theorem HH {V:Vs} {X:Cx} {ks:List Addr} {orc:List an} {c:Code} {L:List aw} {o:az} (h:∀s,aD V X.s₀ X.K₀ s L→codeAny (model X.prog X.w) X.A₀ c X.R₀ s) (d:pj c=true:=by kernel_rfl):bH V X (.cut (bc ks orc []) c L) o:=⟨bP ks orc [] fun _ h=>(by cases h),fun z u s P=>by rw [tO d u]; exact h s P⟩
theorem Du {V:Vs} {X:Cx} {ks:List Addr} {orc:List an} {c:Code} {L:List aw} {o:az} (h:∀d,ao d=c→∀s,aD V X.s₀ X.K₀ s L→codeAny (model X.prog X.w) X.A₀ d X.R₀ s):bH V X (.cut (bc ks orc []) c L) o:=⟨bP ks orc [] fun _ h=>(by cases h),h⟩
theorem pk {V:Vs} {s:Shared} {L:List aw} (at_:aJ s.heap L) (tp:aC V s.heap) (hi:∀p∈L,V.n₁≤p.1) (nd:(keys L).Nodup):∃y,Good V s (fillAll y 0 L):=by
 obtain ⟨y,d⟩:=dQ L 0 at_
 refine⟨y,d,by rw [bx]; exact nd,tp,fun p hp=>?_⟩
 have:p.1∈keys L:=by rw [←bx y L 0]; exact List.mem_map_of_mem hp
 obtain ⟨q,u,e⟩:=List.mem_map.mp this
 rw [←e]; exact hi q u
structure Back (V:Vs) (s':Shared) (r:Result) (r0:Result) (L0:List aw):Prop where
 e:ba r=ba r0
 at_:aJ s'.heap L0
 top:aC V s'.heap
 hi:∀p∈L0,V.n₁≤p.1
 nd:(keys L0).Nodup
inductive Lv (V:Vs) (G:Result→List aw→Shared→Prop) (r:Result) (s':Shared):Prop
 | mk (r0:Result) (L0:List aw) (h:Back V s' r r0 L0) (g:G r0 L0 s')
noncomputable def Ly (V:Vs) (s:Shared) (G:Result→List aw→Shared→Prop) (r:Result) (s':Shared):Prop:=s.toks≤s'.toks→Lv V G r s'
noncomputable def JL (V:Vs) (prog:Program) (w:World) (A:Around) (R:Result→Shared→Prop) (o:az) (d:Result) (L0:List aw) (s':Shared):Prop:=∀y t,bU V ⟨prog,w,A,R,s',keys L0⟩ (o.nc (aA t d) (fillAll y 0 L0) s'.toks)
section
variable {V:Vs} {prog:Program} {w:World} {A₀:Around} {R₀:Result→Shared→Prop} {s₀:Shared} {K₀:List Addr} {o B N:az} {sel:List Nat}
theorem pn {rm:Nat} {ks:List Addr} {orc:List an} {c:Code} {L:List aw} {g:Result→List aw→Nat→az}
  (h:∀A s,au rm A→aD V s₀ K₀ s L→codeAny (model prog w) A c (Ly V s₀ (JL V prog w A₀ R₀ o)) s)
  (u:Nat.blt rm 1000=false:=by rfl):bH V ⟨prog,w,A₀,R₀,s₀,K₀⟩ (.call rm (bc ks orc []) c L g) o:=by
 refine⟨bP ks orc [] fun _ h=>(by cases h),fun A s D d rm P=>?_⟩
 rw [u] at d
 have d:D=c:=d
 subst d
 refine codeAny_mono (h A s rm P) ?_
 intro r s' I J
 obtain ⟨r0,L0,⟨e1,U,e3,e4,e5⟩,H⟩:=I J
 obtain ⟨y,G⟩:=pk U e3 e4 e5
 obtain ⟨t,et⟩:=eS r
 refine⟨_,G,?_⟩
 have z:=H y t
 rw [et,e1,di]
 rw [bx]
 exact z
theorem Dv {rm:Nat} {ks:List Addr} {orc:List an} {c:Code} {L:List aw} {g:Result→List aw→Nat→az}
  (h:∀A s d,ao d=c→au rm A→aD V s₀ K₀ s L→codeAny (model prog w) A d (Lv V (JL V prog w A₀ R₀ o)) s)
  (D:Nat.blt rm 1000=true:=by rfl):bH V ⟨prog,w,A₀,R₀,s₀,K₀⟩ (.call rm (bc ks orc []) c L g) o:=by
 refine⟨bP ks orc [] fun _ h=>(by cases h),fun A s d u rm P=>?_⟩
 rw [D] at u
 refine codeAny_mono (h A s d u rm P) ?_
 intro r s' I ht
 obtain ⟨r0,L0,⟨e1,J,U,e4,e5⟩,H⟩:=I
 obtain ⟨y,G⟩:=pk J U e4 e5
 obtain ⟨t,et⟩:=eS r
 refine⟨_,G,?_⟩
 have z:=H y t
 rw [et,e1,di]
 rw [bx]
 exact z
noncomputable def Cu (V:Vs) (prog:Program) (w:World) (d:az→(az→az)→Prop):Prop:=∀{S:Sum} {as:List Addr} {g:(Nat→Nat→Tok)→az} {f:az→az},aj V prog w S as→(∀y,d (g y) fun o=>(f o).ns y)→d (.sum S as g) f
noncomputable def Cv (d:az→(az→az)→Prop):Prop:=∀{g:Addr→az} {f:az→az},(∀a,d (g a) fun o=>(f o).nm a)→d (.more g) f
noncomputable def LU (V:Vs) (s₀:Shared) (K₀:List Addr) (R₀:Result→Shared→Prop) (d:az→(az→az)→Prop):Prop:=∀{ks:List Addr} {orc:List an} {r:Result} {L:List aw} {f:az→az},(∀r' s,ba r'=r→aD V s₀ K₀ s L→R₀ r' s)→d (.done (bc ks orc []) r L) f
noncomputable def LV (V:Vs) (prog:Program) (w:World) (A₀:Around) (s₀:Shared) (K₀:List Addr) (R₀:Result→Shared→Prop) (d:az→(az→az)→Prop):Prop:=∀{ks:List Addr} {orc:List an} {c:Code} {L:List aw} {f:az→az},pj c=true→(∀s,aD V s₀ K₀ s L→codeAny (model prog w) A₀ c R₀ s)→d (.cut (bc ks orc []) c L) f
noncomputable def LW (V:Vs) (prog:Program) (w:World) (A₀:Around) (s₀:Shared) (K₀:List Addr) (R₀:Result→Shared→Prop) (o:az) (z:az→(az→az)→Prop):Prop:=∀{rm:Nat} {ks:List Addr} {orc:List an} {c:Code} {L:List aw} {g:Result→List aw→Nat→az} {f:az→az},Nat.blt rm 1000=true→
 (∀A s d (G:Result→List aw→Shared→Prop),(∀{u L0 s'},JL V prog w A₀ R₀ (f o) u L0 s'→G u L0 s')→ao d=c→au rm A→aD V s₀ K₀ s L→codeAny (model prog w) A d (Lv V G) s)→z (.call rm (bc ks orc []) c L g) f
noncomputable def LX (V:Vs) (prog:Program) (w:World) (A₀:Around) (s₀:Shared) (K₀:List Addr) (R₀:Result→Shared→Prop) (o:az) (u:az→(az→az)→Prop):Prop:=∀{rm:Nat} {ks:List Addr} {orc:List an} {c:Code} {L:List aw} {g:Result→List aw→Nat→az} {f:az→az},Nat.blt rm 1000=false→
 (∀A s (G:Result→List aw→Shared→Prop),(∀{d L0 s'},JL V prog w A₀ R₀ (f o) d L0 s'→G d L0 s')→au rm A→aD V s₀ K₀ s L→codeAny (model prog w) A c (Ly V s₀ G) s)→u (.call rm (bc ks orc []) c L g) f
theorem bB (hs:bO sel=true) (h:o.norm sel=N) (k:∀d:az→(az→az)→Prop,Cu V prog w d→Cv d→LU V s₀ K₀ R₀ d→d N id) (u:o=B:=by exact rfl):bU V ⟨prog,w,A₀,R₀,s₀,K₀⟩ B:=by
 subst u
 exact iH hs h (k (fun n f=>bH V ⟨prog,w,A₀,R₀,s₀,K₀⟩ n (f o)) (fun z D=>ji z D) (fun h=>bE h) fun h=>g9 h)
theorem lG (hs:bO sel=true) (h:o.norm sel=N) (k:∀d:az→(az→az)→Prop,Cu V prog w d→Cv d→LV V prog w A₀ s₀ K₀ R₀ d→d N id) (u:o=B:=by exact rfl):bU V ⟨prog,w,A₀,R₀,s₀,K₀⟩ B:=by
 subst u
 exact iH hs h (k (fun n f=>bH V ⟨prog,w,A₀,R₀,s₀,K₀⟩ n (f o)) (fun z D=>ji z D) (fun h=>bE h) fun G h=>HH h G)
theorem dk (hs:bO sel=true) (h:o.norm sel=N) (k:∀d:az→(az→az)→Prop,Cu V prog w d→Cv d→LW V prog w A₀ s₀ K₀ R₀ o d→d N id) (u:o=B:=by exact rfl):bU V ⟨prog,w,A₀,R₀,s₀,K₀⟩ B:=by
 subst u
 exact iH hs h (k (fun n f=>bH V ⟨prog,w,A₀,R₀,s₀,K₀⟩ n (f o)) (fun D G=>ji D G) (fun h=>bE h) fun H h=>Dv (fun A s I=>h A s I _ fun z=>z) H)
theorem Cw (hs:bO sel=true) (h:o.norm sel=N) (k:∀d:az→(az→az)→Prop,Cu V prog w d→Cv d→LX V prog w A₀ s₀ K₀ R₀ o d→d N id) (u:o=B:=by exact rfl):bU V ⟨prog,w,A₀,R₀,s₀,K₀⟩ B:=by
 subst u
 exact iH hs h (k (fun n f=>bH V ⟨prog,w,A₀,R₀,s₀,K₀⟩ n (f o)) (fun D G=>ji D G) (fun h=>bE h) fun H h=>pn (fun A s=>h A s _ fun z=>z) H)
end
theorem aD.trans {V:Vs} {s₀ s₁ s' s₂:Shared} {K₀:List Addr} {z L' D:List aw} (u:aD V s₀ K₀ s₁ z) (fr:∀b o,s₁.heap.get? b=some o→b∉keys z→s'.heap.get? b=some o)
  (H:s'.gens=s₁.gens) (I:s'.os=s₁.os) (gr:s₁.heap.objs.size≤s'.heap.objs.size) (gt:s₀.toks≤s'.toks) (hk:∀a∈keys L',a∈keys z∨s₁.heap.get? a=none) (d:aD V s' (keys L') s₂ D):aD V s₀ K₀ s₂ D:=by
 have out:∀b o,s₀.heap.get? b=some o→b∉K₀→b∉keys z:=fun b o e hb G=>by
  obtain ⟨p,hp,rfl⟩:=List.mem_map.mp G
  rcases u.own p hp with k | k
  ·exact hb k
  ·rw [k] at e; cases e
 refine⟨d.at_,d.top,fun b o e hb=>?_,fun p hp=>?_,d.hi,Nat.le_trans u.grow (Nat.le_trans gr d.grow),d.gens.trans (H.trans u.gens),d.os.trans (I.trans u.os),d.nd,Nat.le_trans gt d.toks⟩
 ·have e1:=u.frame b o e hb
  have n1:=out b o e hb
  refine d.frame b o (fr b o e1 n1) fun G=>?_
  rcases hk b G with k | k
  ·exact n1 k
  ·rw [k] at e1; cases e1
 ·by_cases hb:p.1∈K₀
  ·exact .inl hb
  ·right
   cases e:s₀.heap.get? p.1 with
   | none=>rfl
   | some o=>
    exfalso
    have e1:=u.frame p.1 o e hb
    have n1:=out p.1 o e hb
    rcases d.own p hp with k | k
    ·rcases hk _ k with k | k
     ·exact n1 k
     ·rw [k] at e1; cases e1
    ·rw [fr p.1 o e1 n1] at k; cases k
noncomputable def aO (b:List Stmt) (env:Env):Sem PySem.Fin:=PySem.W.R.bindR (PySem.W.ZFast.zw12563942051412417395 b env) fun f=>.pure (.done f)
noncomputable def eF (e:Expr) (env:Env):Sem PySem.Fin:=PySem.W.R.bindR (PySem.W.ZFast.zw14044960220447912780 e env) fun v=>.pure (.done (.ret v))
noncomputable def fe (e:Expr) (env:Env):Sem PySem.Fin:=PySem.W.R.bindR (PySem.W.ZFast.zw15418851999007992765 e env (PySem.W.ZFast.zw14044960220447912780 e env)) fun v=>.pure (.done (.ret (.bool v)))
theorem mU (b:List Stmt) (env:Env):aO b env=(execs b env).bind fun f=>.pure (.done f):=by
 unfold aO
 rw [←PySem.W.R.bindR_eq,←PySem.W.ZFast.ze12563942051412417395]
theorem qB (e:Expr) (env:Env):eF e env=(eval e env).bind fun v=>.pure (.done (.ret v)):=by
 unfold eF
 rw [←PySem.W.R.bindR_eq,←PySem.W.ZFast.ze14044960220447912780]
theorem qC (e:Expr) (env:Env):fe e env=(isTrue e env (eval e env)).bind fun v=>.pure (.done (.ret (.bool v))):=by
 unfold fe
 rw [←PySem.W.R.bindR_eq,←PySem.W.ZFast.ze15418851999007992765,←PySem.W.ZFast.ze14044960220447912780]
theorem cT {M:Model} {A:Around} {u D:Type} {m:Sem u} {k:u→D} {Q:D→Shared→Prop} {E:Value→Shared→Prop} {s:Shared} (h:wpAny M A (m.bind fun a=>.pure (k a)) Q E s):wpAny M A m (fun a s'=>Q (k a) s') E s:=fun G p d=>by
 have z:=h G p d
 rw [Sem.wp_bind] at z
 exact z
noncomputable def RQ (R:Result→Shared→Prop):PySem.Fin→Shared→Prop:=fun d s'=>match d with
 | .done f=>R (.ok f) s'
 | .again _=>False
theorem aM {V:Vs} {prog:Program} {w:World} {A:Around} {s:Shared} {R:Result→Shared→Prop} {t:Sem PySem.Fin} {P0:List aw} (u:V.S=⟨prog,w.params⟩) (z:Nat.ble V.room 440=true) (rm:au V.room A)
  (tp:aC V s.heap) (at_:aJ s.heap P0) (hi:∀p∈P0,V.n₁≤p.1) (nd:(keys P0).Nodup)
  (H:∀y,eJ V ⟨prog,w,A,R,s,keys P0⟩ .out t (fillAll y 0 P0) s.toks):wpAny (model prog w) A t (RQ R) (fun e s'=>R (.error e) s') s:=by
 obtain ⟨y,D⟩:=dQ P0 0 at_
 obtain ⟨n,orc,ok⟩:=H y
 have F:jB V ⟨prog,w,A,R,s,keys P0⟩:=⟨u,rm,Nat.le_of_ble_eq_true z⟩
 have mem:∀p∈fillAll y 0 P0,p.1∈keys P0:=fun p hp=>by rw [←bx y P0 0]; exact List.mem_map_of_mem hp
 have d:∀a∈keys P0,V.n₁≤a:=fun a ha=>by obtain ⟨p,hp,rfl⟩:=List.mem_map.mp ha; exact hi p hp
 have I:fX V ⟨prog,w,A,R,s,keys P0⟩ s (fillAll y 0 P0):=⟨⟨D,by rw [bx]; exact nd,fun a o ha e=>tp.1 a o ha e,fun p hp=>d _ (mem p hp),fun _ _ e _=>e,fun p hp=>.inl (mem p hp),tp.2,Nat.le_refl _⟩,rfl,rfl,Nat.le_refl _⟩
 exact dP n F .out _ _ _ _ 0 [] s trivial rfl I ok
theorem aP {M:Model} {A:Around} {s:Shared} {R:Result→Shared→Prop} {b:List Stmt} {env:Env} (h:wpAny M A (aO b env) (RQ R) (fun e s'=>R (.error e) s') s):
  wpAny M A (execs b env) (fun f s'=>R (.ok f) s') (fun e s'=>R (.error e) s') s:=by
 rw [mU] at h
 exact cT (k:=fun f=>PySem.Fin.done f) h
theorem gI {M:Model} {A:Around} {s:Shared} {R:Result→Shared→Prop} {b:Expr} {env:Env} (h:wpAny M A (eF b env) (RQ R) (fun e s'=>R (.error e) s') s):
  wpAny M A (eval b env) (fun v s'=>R (.ok (.ret v)) s') (fun e s'=>R (.error e) s') s:=by
 rw [qB] at h
 exact cT (k:=fun v=>PySem.Fin.done (.ret v)) h
theorem d8 {M:Model} {A:Around} {s:Shared} {R:Result→Shared→Prop} {b:Expr} {env:Env} (h:wpAny M A (fe b env) (RQ R) (fun e s'=>R (.error e) s') s):
  wpAny M A (isTrue b env (eval b env)) (fun v s'=>R (.ok (.ret (.bool v))) s') (fun e s'=>R (.error e) s') s:=by
 rw [qC] at h
 exact cT (k:=fun v=>PySem.Fin.done (.ret (.bool v))) h
noncomputable def Cy (V:Vs) (prog:Program) (w:World) (d:az→Prop):Prop:=∀{S:Sum} {as:List Addr} {g:(Nat→Nat→Tok)→az},aj V prog w S as→(∀y,d (g y))→d (.sum S as g)
noncomputable def Cz (d:az→Prop):Prop:=∀{g:Addr→az},(∀a,d (g a))→d (.more g)
noncomputable def J0 (lhs:(Nat→Nat→Tok)→(Nat→Tok)→Nat→az) (d:az→Prop) (Fin:Prop):Prop:=∀{N:az},d N→(∀y z tb,lhs y z tb=N)→Fin
theorem J1 {V:Vs} {prog:Program} {w:World} {A:Around} {s:Shared} {R:Result→Shared→Prop} {c d:Code} {P0:List aw} (fn:Bool) (sel:List Nat) (orc:List an) (hs:bO sel=true) (u:V.S=⟨prog,w.params⟩) (D:Nat.ble V.room 440=true) (rm:au V.room A)
  (G:ao c=d) (tp:aC V s.heap) (at_:aJ s.heap P0) (hi:∀p∈P0,V.n₁≤p.1) (nd:(keys P0).Nodup)
  (k:∃N,bG V ⟨prog,w,A,R,s,keys P0⟩ N∧∀y z tb,(aN V 4000 (.inn (ay z d) .root) (start fn (ay z d)) orc (fillAll y 0 P0) tb 0 []).norm sel=N):codeAny (model prog w) A c R s:=by
 obtain ⟨N,hN,h⟩:=k
 exact dM fn u D rm G tp at_ hi nd fun y z=>⟨4000,orc,bG.of hs (by rw [h]; exact hN)⟩
noncomputable def Dw (as:List Addr) (d:List bF):List aw:=as.zipWith (fun a e=>(a,(e.post.map aI).getD e.pre)) d
noncomputable def tQ (as:List Addr) (d:List bF):Bool:=Nat.beq as.length d.length && d.all fun e=>e.post.isSome || j1 e.pre
theorem po:∀{as:List Addr} {d:List bF},tQ as d=true→jf as d (Dw as d)
 | a::as,⟨i,o,p⟩::d,h=>by
  obtain ⟨u,z⟩:=(Bool.and_eq_true _ _).mp h
  obtain ⟨B,D⟩:=(Bool.and_eq_true _ _).mp z
  refine⟨?_,po ((Bool.and_eq_true _ _).mpr ⟨u,D⟩)⟩
  cases p with
  | none=>exact⟨rfl,B⟩
  | some O=>rfl
 | [],[],_=>trivial
 | [],_::_,h=>by cases h
 | _::_,[],h=>by cases h
section
variable {V':Vs} {prog:Program} {w:World} {S:Sum} {as:List Addr}
theorem HI (fn:Bool) (V:Vs) (sel:List Nat) (orc:List an)
  (k:∀(u:az→Prop) (Fin:Prop),Cy V prog w u→Cz u→(∀ks,u (.done (bc ks orc []) (ba S.res) (Dw as S.ents)))→(∀{N},(∀A s,cw s.heap as S.ents→(au S.room A∧(∀a∈as,V.n₁≤a)∧as.Nodup)→bG V ⟨prog,w,A,jF S as s,s,as⟩ N)→u N)→
   J0 (fun y z tb=>(aN V 4000 (.inn (ay z S.code) .root) (start fn (ay z S.code)) orc (dj y 0 as S.ents) tb 0 []).norm sel) u Fin→Fin)
  (D:gG S.ents=true:=by rfl) (G:tQ as S.ents=true:=by rfl) (hs:bO sel=true:=by rfl) (H:V.S=⟨prog,w.params⟩:=by rfl) (hk:V.kt=V'.kt:=by rfl) (I:V.n₁=V'.n₁:=by rfl) (J:V.room=S.room:=by rfl) (U:Nat.ble V.room 440=true:=by rfl) (B:S.ex=false:=by rfl):aj V' prog w S as:=by
 refine cA fn H hk I J U D B fun A s y z tb en d=>⟨4000,orc,sel,hs,?_⟩
 refine k (fun N=>∀A s,cw s.heap as S.ents→(au S.room A∧(∀a∈as,V.n₁≤a)∧as.Nodup)→bG V ⟨prog,w,A,jF S as s,s,as⟩ N) _ ?_ ?_ ?_ (fun h=>h) (fun hN h=>g8 (h y z tb) (hN A s en d))
 ·exact fun h1 h2 A s en d=>ar h1 fun y=>h2 y A s en d
 ·exact fun h A s en d=>aU fun a=>h a A s en d
 ·exact fun ks A s en d=>d7 en rfl (po G)
theorem qD (fn:Bool) (V:Vs) (sel:List Nat) (orc:List an)
  (k:∀(d:az→Prop) (Fin:Prop),Cy V prog w d→Cz d→(∀ks,d (.done (bc ks orc []) (ba S.res) (Dw as S.ents)))→J0 (fun y z tb=>(aN V 4000 (.inn (ay z S.code) .root) (start fn (ay z S.code)) orc (dj y 0 as S.ents) tb 0 []).norm sel) d Fin→Fin)
  (B:gG S.ents=true:=by rfl) (D:tQ as S.ents=true:=by rfl) (hs:bO sel=true:=by rfl) (G:V.S=⟨prog,w.params⟩:=by rfl) (hk:V.kt=V'.kt:=by rfl) (H:V.n₁=V'.n₁:=by rfl) (I:V.room=S.room:=by rfl) (J:Nat.ble V.room 440=true:=by rfl) (u:S.ex=false:=by rfl):aj V' prog w S as:=
 HI fn V sel orc (fun d Fin U mo dn _ cn=>k d Fin U mo dn cn) B D hs G hk H I J u
end
section
open Builtin.Str
noncomputable def aT (D:Str) (t:Tok) (i:Int):Obj:=fld (.type "str_ascii_iterator") [.str D t,.int i 0]
structure aH (V:Vs) (K:List Addr) (s s':Shared):Prop where
 frame:∀b o,s.heap.get? b=some o→b∉K→s'.heap.get? b=some o
 gens:s'.gens=s.gens
 os:s'.os=s.os
 grow:s.heap.objs.size≤s'.heap.objs.size
 top:aC V s'.heap
theorem aD.far {V:Vs} {s₀ s:Shared} {K:List Addr} {L:List aw} (P:aD V s₀ K s L):aH V K s₀ s:=⟨P.frame,P.gens,P.os,P.grow,P.top⟩
theorem aH.trans {V:Vs} {K K':List Addr} {s s₁ s₂:Shared} (a:aH V K s s₁) (c:aH V K' s₁ s₂) (h:∀x∈K',x∈K∨s.heap.get? x=none):aH V K s s₂:=
 ⟨fun b o e hb=>c.frame b o (a.frame b o e hb) fun d=>by
   rcases h b d with k | k
   ·exact hb k
   ·rw [k] at e; exact absurd e (by simp),c.gens.trans a.gens,c.os.trans a.os,Nat.le_trans a.grow c.grow,c.top⟩
theorem aD.own' {V:Vs} {s₀ s:Shared} {K:List Addr} {L:List aw} (P:aD V s₀ K s L):∀a∈keys L,a∈K∨s₀.heap.get? a=none:=fun a ha=>by
 obtain ⟨p,hp,rfl⟩:=List.mem_map.mp ha
 exact P.own p hp
theorem aH.old {V:Vs} {K:List Addr} {s s':Shared} (a:aH V K s s') {x:Addr} (h:s'.heap.get? x=none):x∈K∨s.heap.get? x=none:=by
 by_cases d:x∈K
 ·exact .inl d
 ·cases e:s.heap.get? x with
  | none=>exact .inr rfl
  | some o=>rw [a.frame x o e d] at h; cases h
theorem dA {o:Obj} {c:Value} {l:List Value} (h:aI o=fld c l):o=fld c l:=by
 obtain ⟨z,d,u,sl⟩:=o
 cases u <;> first | exact h | (simp [aI,eR,fld] at h)
theorem bm {r:Result} (h:ba r=.ok .next):r=.ok .next:=by
 cases r with
 | error e=>cases h
 | ok f=>cases f <;> first | rfl | cases h
theorem aC.push {V:Vs} {h:Heap} (t:aC V h) (o:Obj):aC V (h.push o):=⟨fun a B ha e=>Heap.get?_push_of_some _ (t.1 a B ha e),by rw [Heap.size_push]; exact Nat.le_succ_of_le t.2⟩
theorem aC.same {V:Vs} {h d:Heap} {a:Addr} (t:aC V h) (s:Heap.SameBut a h d) (ha:V.n₁≤a):aC V d:=
 ⟨fun b o hb e=>(s.2 b (fun z=>by rw [z] at hb; omega)).trans (t.1 b o hb e),by rw [s.1]; exact t.2⟩
section
variable {V:Vs} {prog:Program} {w:World}
theorem cx {T id:String} {name:Str} {b:Builtin} {d:Value} {rest:List Value} {A:Around} {s:Shared} {R:Result→Shared→Prop} (h:Slot T name id) (D:s.TypeIs d T) (hb:entryFor table id=some b)
  (ha:argsOk id ⟨d::rest,[]⟩) (G:wpAny (model prog w) A.in1 (b ⟨d::rest,[]⟩) (fun u s'=>∃v,u=.done (.ret v)∧R (.ok (.ret v)) s') (fun e s'=>R (.error e) s') s):
  codeAny (model prog w) A (.call (.builtin id) ⟨d::rest,[]⟩) R s:=by
 refine codeAny_call_builtin h.plain hb (h.check _ _ _ _ _ _ _ _ D ha (wpAny_mono G (fun u s' z=>?_) fun _ _ z=>z))
 obtain ⟨v,rfl,H⟩:=z; exact H
theorem Dx {A:Around} {s:Shared} {D:Str} {t:Tok} {R:Result→Shared→Prop} (ha:D.cps.all (·< 128)=true) (h:R (.ok (.ret (.ref s.heap.objs.size))) {s with heap:=s.heap.push (aT D t 0)}):
  codeAny (model prog w) A (.call (.builtin "str.__iter__") ⟨[.str D t],[]⟩) R s:=by
 refine cx F.slot_str_iter (cD D t s) F.entry_str_iter (F.args_str_iter_1 _) ?_
 show wpAny _ _ (do ret (←newFields (if (true && D.cps.all (·< 128))=true then "str_ascii_iterator" else "str_iterator") [.str D t,rawInt 0])) _ _ s
 rw [ha]
 exact wpAny_bind (wpAny_newObj_type (wpAny_pure ⟨_,rfl,h⟩))
theorem pq {A:Around} {s:Shared} {it:Addr} {D:Str} {t:Tok} {i c:Nat} {R:Result→Shared→Prop} (d:s.heap.get? it=some (aT D t i)) (z:D.cps[i]?=some c)
  (h:∀u:Heap,u.get? it=some (aT D t ((i + 1:Nat):Int))→Heap.SameBut it s.heap u→R (.ok (.ret (.str ⟨⟨[c]⟩⟩ s.toks))) {s with heap:=u,toks:=s.toks + 1}):
  codeAny (model prog w) A (.call (.builtin "str_ascii_iterator.__next__") ⟨[.ref it],[]⟩) R s:=by
 have hd:(aT D t i).data=.fields #[.str D t,.int i 0]:=rfl
 refine cx F.slot_str_ascii_iterator_next ⟨_,d,rfl⟩ F.entry_str_ascii_iterator_next (F.args_str_ascii_iterator_next_1 _) ?_
 show wpAny _ _ (field (.ref it) 0 >>=_) _ _ s
 refine wpAny_bind (wpAny_field d hd (x:=.str D t) rfl ?_)
 show wpAny _ _ (field (.ref it) 1 >>=_) _ _ s
 refine wpAny_bind (wpAny_field d hd (x:=.int i 0) rfl ?_)
 simp only [Int.toNat_natCast,z]
 refine wpAny_bind (wpAny_setField d hd (by simp) (wpAny_bind (wpAny_mkStr (wpAny_pure ⟨_,rfl,h _ ?_ (Heap.SameBut.update ..)⟩) (by show 1≤sizeLine; decide))))
 have e:=Heap.get?_update_self (fun o=>Obj.mapFields (fun vs=>vs.setIfInBounds 1 (rawInt ((i:Int) + 1))) o) d (Obj.isFreed_of_fields (Obj.data_mapFields hd _))
 first
  | exact e
  | (rw [e]; simp [aT,fld,Obj.mapFields,rawInt])
theorem tR {A:Around} {s:Shared} {it:Addr} {D:Str} {t:Tok} {i:Nat} {R:Result→Shared→Prop} (z:A.handled=none) (d:s.heap.get? it=some (aT D t i)) (G:D.cps[i]?=none)
  (h:∀(u:Heap),u.get? it=some (fld (.type "str_ascii_iterator") [.none,.int i 0])→Heap.SameBut it s.heap u→
   R (.error (.ref (u.push (br [])).objs.size)) {s with heap:=(u.push (br [])).push (fld (.type "StopIteration") [.ref u.objs.size,.none,.none,.none,.bool false,.none])}):
  codeAny (model prog w) A (.call (.builtin "str_ascii_iterator.__next__") ⟨[.ref it],[]⟩) R s:=by
 have hd:(aT D t i).data=.fields #[.str D t,.int i 0]:=rfl
 refine cx F.slot_str_ascii_iterator_next ⟨_,d,rfl⟩ F.entry_str_ascii_iterator_next (F.args_str_ascii_iterator_next_1 _) ?_
 show wpAny _ _ (field (.ref it) 0 >>=_) _ _ s
 refine wpAny_bind (wpAny_field d hd (x:=.str D t) rfl ?_)
 show wpAny _ _ (field (.ref it) 1 >>=_) _ _ s
 refine wpAny_bind (wpAny_field d hd (x:=.int i 0) rfl ?_)
 simp only [Int.toNat_natCast,G]
 refine wpAny_bind (wpAny_rule (wpAny_bind (wpAny_setField d hd (by simp) (wpAny_bind (wpAny_letGo ?_)))))
 show wpAny _ _ (newExc (.type "StopIteration") [] >>=_) _ _ _
 refine wpAny_bind ?_
 simp only [newExc,newTuple]
 refine wpAny_bind (wpAny_newObj_type ?_ (by size_fits))
 refine wpAny_bind (m:=firstArgMember _ _) (wpAny_of_eq (a:=Value.none) (by first | rfl | (simp only [firstArgMember]; rfl)) ?_)
 refine wpAny_newObj_type ?_ (by size_fits)
 simp only [raiseNew]
 refine wpAny_bind (wpAny_handled ?_)
 rw [show A.in1.handled=none from z]
 refine wpAny_bind (wpAny_pure (wpAny_throw ?_))
 refine h _ ?_ (Heap.SameBut.update ..)
 have e:=Heap.get?_update_self (fun o=>Obj.mapFields (fun vs=>vs.setIfInBounds 0 .none) o) d (Obj.isFreed_of_fields (Obj.data_mapFields hd _))
 first
  | exact e
  | (rw [e]; simp [aT,fld,Obj.mapFields,rawInt])
theorem da (h:Heap):h.get? h.objs.size=none:=Heap.get?_none_of_le (Nat.le_refl _)
theorem tS {h:Heap} {L:List aw} (H:aJ h L):∀a∈keys L,a < h.objs.size:=fun a ha=>by
 obtain ⟨p,hp,rfl⟩:=List.mem_map.mp ha
 obtain ⟨o,d,_⟩:=H p hp
 exact Heap.lt_size d
theorem aJ.keeps {h d:Heap} {L:List aw} (H:aJ h L) (k:∀b o,h.get? b=some o→b∈keys L→d.get? b=some o):aJ d L:=fun p hp=>by
 obtain ⟨o,u,z⟩:=H p hp
 exact⟨o,k _ _ u (List.mem_map_of_mem hp),z⟩
theorem aJ.cons {h:Heap} {L:List aw} {a:Addr} {o:Obj} {O:Obj} (H:aJ h L) (e:h.get? a=some o) (d:aI o=O):aJ h ((a,O)::L):=fun p hp=>by
 rcases List.mem_cons.mp hp with rfl | hp
 ·exact⟨o,e,d⟩
 ·exact H p hp
theorem cB {V:Vs} {L:List aw} {a:Addr} {O:Obj} (h:V.n₁≤a) (H:∀p∈L,V.n₁≤p.1):∀p∈(a,O)::L,V.n₁≤p.1:=fun p hp=>by
 rcases List.mem_cons.mp hp with rfl | hp
 ·exact h
 ·exact H p hp
theorem aH.push {V:Vs} {K:List Addr} {s s₁:Shared} (f:aH V K s s₁) (o:Obj) (h:Heap) (tk:Tok) (e:h=s₁.heap.push o):aH V K s {s₁ with heap:=h,toks:=tk}:=by
 subst e
 exact⟨fun b B e hb=>Heap.get?_push_of_some _ (f.frame b B e hb),f.gens,f.os,by show _≤(s₁.heap.push o).objs.size; rw [Heap.size_push]; exact Nat.le_succ_of_le f.grow,f.top.push o⟩
theorem pt {A:Around} {s s₁:Shared} {K:List Addr} {E:List aw} {D:Str} {d:Code} {z:Result→Shared→Prop} (ha:D.cps.all (·< 128)=true) (G:ao d=.call (.builtin "str.__iter__") ⟨[.str D 0],[]⟩)
  (P:aD V s K s₁ E) (H:∀r s' it t,aH V K s s'→Back V s' r (.ok (.ret (.ref it))) ((it,aT D t 0)::E)→(it∈K∨s.heap.get? it=none)→z r s'):codeAny (model prog w) A d z s₁:=by
 obtain ⟨pos,rfl,hp⟩:=av G
 obtain ⟨u,rfl,I⟩:=mN hp
 obtain ⟨t,rfl⟩:=aL I
 have lt:=tS P.at_
 refine Dx ha (H _ _ _ t (P.far.push _ _ _ rfl) ⟨rfl,aJ.cons (P.at_.keeps fun b o e _=>Heap.get?_push_of_some _ e) (Heap.get?_push_size _ rfl) rfl,P.top.push _,cB P.top.2 P.hi,?_⟩ (P.far.old (da _)))
 exact List.nodup_cons.mpr ⟨fun h=>Nat.lt_irrefl _ (lt _ h),P.nd⟩
theorem lH {A:Around} {s s₁:Shared} {K:List Addr} {E:List aw} {it:Addr} {D:Str} {t:Tok} {i c:Nat} {I:Code} {J:Result→Shared→Prop} (G:D.cps[i]?=some c) (U:ao I=.call (.builtin "str_ascii_iterator.__next__") ⟨[.ref it],[]⟩)
  (P:aD V s K s₁ ((it,aT D t i)::E)) (H:∀r s',aH V K s s'→Back V s' r (.ok (.ret (.str ⟨⟨[c]⟩⟩ 0))) ((it,aT D t ((i + 1:Nat):Int))::E)→J r s'):codeAny (model prog w) A I J s₁:=by
 obtain ⟨pos,rfl,hp⟩:=av U
 obtain ⟨u,rfl,h1⟩:=mN hp
 cases bb h1
 obtain ⟨o,ho,eo⟩:=P.get 0 rfl
 cases (dA eo)
 have d:V.n₁≤it:=P.hi' 0 rfl
 have nd:=List.nodup_cons.mp (show(it::keys E).Nodup from P.nd)
 refine pq ho G fun h' g1 g2=>H _ _ (P.far.trans (K':=[it]) ⟨fun b o e hb=>(g2.2 b (by simpa using hb)).trans e,rfl,rfl,by show _≤h'.objs.size; rw [g2.1]; exact Nat.le_refl _,P.top.same g2 d⟩ fun x G=>?_) ⟨rfl,?_,P.top.same g2 d,cB d fun p hp=>P.hi p (.tail _ hp),P.nd⟩
 ·cases List.mem_singleton.mp G
  exact P.own' it (.head _)
 ·refine aJ.cons (aJ.keeps (fun p hp=>P.at_ p (.tail _ hp)) fun b o e hb=>(g2.2 b fun z=>nd.1 (z▸hb)).trans e) g1 rfl
theorem pv {A:Around} {s s₁:Shared} {K:List Addr} {E:List aw} {it:Addr} {D:Str} {t:Tok} {i:Nat} {c':Code} {Φ:Result→Shared→Prop} (hh:A.handled=none) (U:D.cps[i]?=none) (hc:ao c'=.call (.builtin "str_ascii_iterator.__next__") ⟨[.ref it],[]⟩)
  (P:aD V s K s₁ ((it,aT D t i)::E)) (H:∀r s' e1 I,aH V K s s'→Back V s' r (.error (.ref e1)) ((it,fld (.type "str_ascii_iterator") [.none,.int i 0])::(e1,fld (.type "StopIteration") [.ref I,.none,.none,.none,.bool false,.none])::(I,br [])::E)→(e1∈K∨s.heap.get? e1=none)→(I∈K∨s.heap.get? I=none)→Φ r s'):codeAny (model prog w) A c' Φ s₁:=by
 obtain ⟨pos,rfl,hp⟩:=av hc
 obtain ⟨u,rfl,h1⟩:=mN hp
 cases bb h1
 obtain ⟨o,ho,eo⟩:=P.get 0 rfl
 cases (dA eo)
 have G:V.n₁≤it:=P.hi' 0 rfl
 have nd:=List.nodup_cons.mp (show(it::keys E).Nodup from P.nd)
 have lt:=tS P.at_
 refine tR hh ho U fun d g1 g2=>?_
 have F1:aH V K s {s₁ with heap:=d}:=P.far.trans (K':=[it]) ⟨fun b o e hb=>(g2.2 b (by simpa using hb)).trans e,rfl,rfl,by show _≤d.objs.size; rw [g2.1]; exact Nat.le_refl _,P.top.same g2 G⟩ fun x U=>by
  cases List.mem_singleton.mp U
  exact P.own' it (.head _)
 have z1:(d.push (br [])).objs.size=d.objs.size + 1:=Heap.size_push ..
 have lt':∀a∈it::keys E,a < d.objs.size:=fun a ha=>by rw [g2.1]; exact lt a ha
 have T:=P.top.same g2 G
 refine H _ _ _ _ (aH.push (s₁:={s₁ with heap:=d.push (br [])}) (F1.push (br []) _ s₁.toks rfl) _ _ s₁.toks rfl) ⟨rfl,?_,(T.push _).push _,cB G (cB ?_ (cB T.2 fun p hp=>P.hi p (.tail _ hp))),?_⟩ (F1.old (Heap.get?_none_of_le (by rw [z1]; exact Nat.le_succ _))) (F1.old (da _))
 ·refine aJ.cons (aJ.cons (aJ.cons (aJ.keeps (fun p hp=>P.at_ p (.tail _ hp)) fun b o e hb=>?_) (Heap.get?_push_of_some _ (Heap.get?_push_size _ rfl)) rfl) (Heap.get?_push_size _ rfl) rfl) (Heap.get?_push_of_some _ (Heap.get?_push_of_some _ g1)) rfl
  exact Heap.get?_push_of_some _ (Heap.get?_push_of_some _ ((g2.2 b fun z=>nd.1 (z▸hb)).trans e))
 ·rw [z1]; exact Nat.le_succ_of_le T.2
 ·show(it::(d.push (br [])).objs.size::d.objs.size::keys E).Nodup
  have J:=lt' it (.head _)
  rw [z1]
  refine List.nodup_cons.mpr ⟨fun h=>?_,List.nodup_cons.mpr ⟨fun h=>?_,List.nodup_cons.mpr ⟨fun h=>Nat.lt_irrefl _ (lt' _ (.tail _ h)),nd.2⟩⟩⟩
  ·rcases List.mem_cons.mp h with e | h
   ·rw [e] at J; exact Nat.lt_irrefl _ (Nat.lt_trans (Nat.lt_succ_self _) J)
   ·rcases List.mem_cons.mp h with e | h
    ·rw [e] at J; exact Nat.lt_irrefl _ J
    ·exact nd.1 h
  ·rcases List.mem_cons.mp h with e | h
   ·exact Nat.succ_ne_self _ e
   ·exact Nat.lt_irrefl _ (Nat.lt_trans (Nat.lt_succ_self _) (lt' _ (.tail _ h)))
end
noncomputable def ah (l:List Value) (n:Nat):Obj:={cls:=.type "list",data:=.seq ⟨l⟩ n}
theorem pw {V:Vs} {s:Shared} {L X:List aw} (at_:aJ s.heap L) (u:∀p∈X,s.heap.get? p.1=some p.2) (tp:aC V s.heap) (hi:∀p∈L++X,V.n₁≤p.1) (nd:(keys (L++X)).Nodup):∃y,Good V s (fillAll y 0 L++X)∧keys (fillAll y 0 L++X)=keys (L++X):=by
 obtain ⟨y,z⟩:=dQ L 0 at_
 have d:keys (fillAll y 0 L++X)=keys (L++X):=by
  have:=bx y L 0
  unfold keys at this ⊢
  rw [List.map_append,List.map_append,this]
 refine⟨y,⟨fun p hp=>?_,by rw [d]; exact nd,tp,fun p hp=>?_⟩,d⟩
 ·rcases List.mem_append.mp hp with h | h
  ·exact z p h
  ·exact u p h
 ·have:p.1∈keys (L++X):=by rw [←d]; exact List.mem_map_of_mem hp
  obtain ⟨q,D,e⟩:=List.mem_map.mp this
  rw [←e]; exact hi q D
theorem cC {V:Vs} {prog:Program} {w:World} {A:Around} {s:Shared} {R:Result→Shared→Prop} {t:Sem PySem.Fin} {P0 X:List aw} (d:V.S=⟨prog,w.params⟩) (u:Nat.ble V.room 440=true) (rm:au V.room A)
  (tp:aC V s.heap) (at_:aJ s.heap P0) (z:∀p∈X,s.heap.get? p.1=some p.2) (hi:∀p∈P0++X,V.n₁≤p.1) (nd:(keys (P0++X)).Nodup)
  (H:∀y,eJ V ⟨prog,w,A,R,s,keys (P0++X)⟩ .out t (fillAll y 0 P0++X) s.toks):wpAny (model prog w) A t (RQ R) (fun e s'=>R (.error e) s') s:=by
 obtain ⟨y,G,D⟩:=pw at_ z tp hi nd
 obtain ⟨n,orc,ok⟩:=H y
 have F:jB V ⟨prog,w,A,R,s,keys (P0++X)⟩:=⟨d,rm,Nat.le_of_ble_eq_true u⟩
 have I:=G.fits (X:=⟨prog,w,A,R,s,keys (P0++X)⟩)
 rw [D] at I
 exact dP n F .out _ _ _ _ 0 [] s trivial rfl I ok
theorem d9 (fn:Bool) {V:Vs} {prog:Program} {w:World} {A:Around} {s:Shared} {R:Result→Shared→Prop} {c u:Code} {P0 X:List aw} (U:V.S=⟨prog,w.params⟩) (D:Nat.ble V.room 440=true) (rm:au V.room A)
  (hc:ao c=u) (tp:aC V s.heap) (at_:aJ s.heap P0) (ax:∀p∈X,s.heap.get? p.1=some p.2) (hi:∀p∈P0++X,V.n₁≤p.1) (nd:(keys (P0++X)).Nodup)
  (H:∀(y:Nat→Nat→Tok) (z:Nat→Tok),eJ V ⟨prog,w,A,R,s,keys (P0++X)⟩ (.inn (ay z u) .root) (start fn (ay z u)) (fillAll y 0 P0++X) s.toks):codeAny (model prog w) A c R s:=by
 obtain ⟨z,J⟩:=je c
 rw [hc] at J
 obtain ⟨y,G,ek⟩:=pw at_ ax tp hi nd
 obtain ⟨n,orc,ok⟩:=H y z
 have F:jB V ⟨prog,w,A,R,s,keys (P0++X)⟩:=⟨U,rm,Nat.le_of_ble_eq_true D⟩
 have I:=G.fits (X:=⟨prog,w,A,R,s,keys (P0++X)⟩)
 rw [ek] at I
 have m:=dP n F (.inn (ay z u) .root) _ _ _ _ 0 [] s trivial rfl I ok
 rw [J]
 have d:=rm.1
 have v4:=Nat.le_of_ble_eq_true D
 exact e8 (V:=V) (X:=⟨prog,w,A,R,s,keys (P0++X)⟩) (show A.depth < 1000 by omega) m
inductive mV (V:Vs) (G:Result→List aw→List aw→Shared→Prop) (r:Result) (s':Shared):Prop
 | mk (r0:Result) (L0 X0:List aw) (e:ba r=ba r0) (a:aJ s'.heap L0) (x:∀p∈X0,s'.heap.get? p.1=some p.2) (t:aC V s'.heap) (hi:∀p∈L0++X0,V.n₁≤p.1) (nd:(keys (L0++X0)).Nodup) (g:G r0 L0 X0 s')
noncomputable def Lz (V:Vs) (prog:Program) (w:World) (A:Around) (R:Result→Shared→Prop) (o:az) (u:Result) (L0 d:List aw) (s':Shared):Prop:=∀y t,bU V ⟨prog,w,A,R,s',keys (L0++d)⟩ (o.nc (aA t u) (fillAll y 0 L0++d) s'.toks)
section
variable {V:Vs} {prog:Program} {w:World} {A₀:Around} {R₀:Result→Shared→Prop} {s₀:Shared} {K₀:List Addr} {o B N:az} {sel:List Nat}
noncomputable def LA (V:Vs) (prog:Program) (w:World) (A₀:Around) (s₀:Shared) (K₀:List Addr) (R₀:Result→Shared→Prop) (o:az) (D:az→(az→az)→Prop):Prop:=∀{rm:Nat} {ks:List Addr} {orc:List an} {c:Code} {L:List aw} {g:Result→List aw→Nat→az} {f:az→az},Nat.blt rm 1000=true→
 (∀A s d (G:Result→List aw→List aw→Shared→Prop),(∀{u L0 z s'},Lz V prog w A₀ R₀ (f o) u L0 z s'→G u L0 z s')→ao d=c→au rm A→aD V s₀ K₀ s L→codeAny (model prog w) A d (mV V G) s)→D (.call rm (bc ks orc []) c L g) f
theorem Dy (hs:bO sel=true) (k:∀(d:az→(az→az)→Prop) (Fin:Prop),Cu V prog w d→Cv d→LA V prog w A₀ s₀ K₀ R₀ o d→(∀{N:az},d N id→o.norm sel=N→Fin)→Fin):bU V ⟨prog,w,A₀,R₀,s₀,K₀⟩ o:=by
 refine k (fun n f=>bH V ⟨prog,w,A₀,R₀,s₀,K₀⟩ n (f o)) _ (fun D I=>ji D I) (fun h=>bE h) ?_ (fun hN h=>iH hs h hN)
 intro rm ks orc c L g f J h
 refine⟨bP ks orc [] fun _ h=>(by cases h),fun A s U u rm P=>?_⟩
 rw [J] at u
 refine codeAny_mono (h A s U _ (fun z=>z) u rm P) ?_
 intro r s' hh ht
 obtain ⟨r0,L0,X0,e1,e2,e3,e4,e5,e6,H⟩:=hh
 obtain ⟨y,G,ek⟩:=pw e2 e3 e4 e5 e6
 obtain ⟨t,et⟩:=eS r
 refine⟨_,G,?_⟩
 have z:=H y t
 rw [et,e1,di,ek]
 exact z
theorem cM (hs:bO sel=true) (h:o.norm sel=N) (k:∀d:az→(az→az)→Prop,Cu V prog w d→Cv d→LA V prog w A₀ s₀ K₀ R₀ o d→d N id) (u:o=B:=by exact rfl):bU V ⟨prog,w,A₀,R₀,s₀,K₀⟩ B:=by
 subst u
 exact Dy hs fun d Fin z D G H=>H (k d z D G) h
end
end
noncomputable abbrev wb (w:World) (b:Bool):World:=w.withFollow "special-get-raises" b
noncomputable abbrev pr (w:World) (b:Bool):Params:=(wb w b).params
noncomputable def vs (w:World) (b:Bool) (room:Nat):Vs:=⟨⟨pg,pr w b⟩,JV (pr w b),790,room⟩
theorem aH.room {w:World} {b:Bool} {r r':Nat} {K:List Addr} {s s':Shared} (f:aH (vs w b r) K s s'):aH (vs w b r') K s s':=⟨f.1,f.2,f.3,f.4,f.5⟩
noncomputable def inst (c:Addr) (d:Addr):Obj:={cls:=.ref c,dict:=some d}
noncomputable def bA (f:Addr) (a:Addr):Obj:=fld (.type "method") [.ref f,.ref a]
noncomputable def bq (l:List DictEntry):Obj:={cls:=.type "frame",data:=.dict ⟨l⟩ 0}
noncomputable def J2 (s:Stmt) (e:Env):Code:=.whileLoop (sE s) (sB s) (sL s) e
noncomputable def Dz (s:Stmt) (it:Addr) (e:Env):Code:=.forLoop (sE s) (.ref it) (sB s) (sL s) e
noncomputable def ad (l:List Stmt) (i:Nat):Stmt:=match l with
 | []=>.Pass default
 | s::r=>match i with
  | 0=>s
  | i + 1=>ad r i
noncomputable def J3 (F:Addr):Env:=⟨sS (bo 15 (some 9)),F,3,[],"HTMLUnicodeInputStream.charsUntil.<locals>.",some 156,.ref 155,some F,0⟩
noncomputable def CA (F:Addr):Code:=J2 (ad (sB (ad (sB (bo 15 (some 9))) 1)) 1) (J3 F)
noncomputable def J4 (F:Addr):Env:=⟨sS (bo 15 (some 8)),F,3,[],"HTMLUnicodeInputStream.characterErrorsUCS4.<locals>.",some 148,.ref 147,some F,0⟩
noncomputable def cU (F it:Addr):Code:=Dz (ad (sB (bo 15 (some 8))) 0) it (J4 F)
noncomputable def sz (X:Str):Int:=(X.cps.size:Int)
noncomputable def ox (d:List (List Addr→Sum)):List Nat→List an
 | []=>[]
 | k::r=>(match k with
  | 0=>.top
  | 1=>.fn
  | 2=>.cut
  | 3=>.pass
  | k + 4=>match Nat.blt k 100 with
   | true=>.own k
   | false=>match Nat.blt k 1000 with
    | true=>match d[k - 100]? with
     | some S=>.sum S
     | none=>.top
    | false=>.ext (k - 1000))::ox d r
noncomputable def HJ:Nat→Nat→List Nat
 | 0,_=>[]
 | k + 1,n=>match Nat.beq n 1 with
  | true=>[]
  | false=>match Nat.beq (n % 16) 15 with
   | true=>(n / 16 % 4096)::HJ k (n / 65536)
   | false=>(n % 16)::HJ k (n / 16)
noncomputable def oh (d:List (List Addr→Sum)) (n:Nat):List an:=ox d (HJ 1000 n)
noncomputable def Hh (x y:Int) (b:Bool):Sum:=bi "int.__ge__" [.int x 0,.int y 0] (.bool b)
noncomputable def sH (x y:Int) (b:Bool):Sum:=bi "int.__lt__" [.int x 0,.int y 0] (.bool b)
noncomputable def JM (x y:Int) (b:Bool):Sum:=bi "int.__gt__" [.int x 0,.int y 0] (.bool b)
noncomputable def gR (x y:Int) (b:Bool):Sum:=bi "int.__le__" [.int x 0,.int y 0] (.bool b)
noncomputable def fg (x y:Int) (b:Bool):Sum:=bi "int.__eq__" [.int x 0,.int y 0] (.bool b)
noncomputable def lI (x y:Int) (b:Bool):Sum:=bi "int.__ne__" [.int x 0,.int y 0] (.bool b)
noncomputable def c5 (X:Str) (i:Int) (C:Str):Sum:=bi "str.__getitem__" [.str X 0,.int i 0] (.str C 0)
noncomputable def aY (x y r:Int):Sum:=bi "int.__add__" [.int x 0,.int y 0] (.int r 0)
noncomputable def lJ (x y r:Int):Sum:=bi "int.__sub__" [.int x 0,.int y 0] (.int r 0)
noncomputable def bS (x y:Str) (b:Bool):Sum:=bi "str.__eq__" [.str x 0,.str y 0] (.bool b)
noncomputable def Hi (x y:Str) (b:Bool):Sum:=bi "str.__ne__" [.str x 0,.str y 0] (.bool b)
noncomputable def db (x y r:Str):Sum:=bi "str.__add__" [.str x 0,.str y 0] (.str r 0)
noncomputable def lK (x y r:Int):Sum:=bi "int.__mod__" [.int x 0,.int y 0] (.int r 0)
noncomputable def cI (x:Str) (n:Int):Sum:=bi "len" [.str x 0] (.int n 0)
noncomputable def HK (c:Nat) (r:Int):Sum:=bi "ord" [.str ⟨⟨[c]⟩⟩ 0] (.int r 0)
noncomputable def lL (x y z r:Str):Sum:=bi "str.replace" [.str x 0,.str y 0,.str z 0] (.str r 0)
noncomputable def iI (c:Int) (r:Bool):Sum:=⟨.call (.ref 84) ⟨[.int c 0],[]⟩,[],.ok (.ret (.bool r)),440,false⟩
noncomputable def HL (st:Addr) (D:Str):Sum:=⟨.call (.ref 148) ⟨[.ref st,.str D 0],[]⟩,[],.ok (.ret .none),380,false⟩
noncomputable def jj (i:Nat) (m st:Addr) (D:Str):Sum:=⟨.call (.ref m) ⟨[.str D 0],[]⟩,[⟨i,bA 148 st,none⟩],.ok (.ret .none),370,false⟩
noncomputable def eB (P:Params) (m nl ds er:Addr) (X:Str) (n pos d pc:Int):Obj:=fI [ent P "reportCharacterErrors" (.ref m),ent P "newLines" (.ref nl),ent P "dataStream" (.ref ds),ent P "chunk" (.str X 0),ent P "chunkSize" (.int n 0),ent P "chunkOffset" (.int pos 0),ent P "errors" (.ref er),ent P "prevNumLines" (.int d 0),ent P "prevNumCols" (.int pc 0),ent P "_bufferedCharacter" .none]
noncomputable def gJ (P:Params) (T:Str) (p:Int):Obj:=fI [ent P "text" (.str T 0),ent P "place" (.int p 0)]
noncomputable def fY (P:Params) (st lf mt:Addr) (d:Value) (q:Addr):Obj:=fI [ent P "stream" (.ref st),ent P "parser" .none,ent P "escapeFlag" (.bool false),ent P "lastFourChars" (.ref lf),ent P "state" (.ref mt),ent P "escape" (.bool false),ent P "currentToken" d,ent P "tokenQueue" (.ref q)]
structure SS where
 X:Str
 n:Int
 pos:Int
 pl:Int
 pc:Int
 p:Int
noncomputable def DA (P:Params) (i:Nat) (st sd m nl ds dsd er:Addr) (T:Str) (X:Str) (n pos z pc p:Int) (X':Str) (n' pos' d u B:Int):List bF:=
 [⟨i,inst 166 sd,none⟩,⟨i + 1,eB P m nl ds er X n pos z pc,some (eB P m nl ds er X' n' pos' d u)⟩,⟨i + 2,inst 73 dsd,none⟩,⟨i + 3,gJ P T p,some (gJ P T B)⟩,⟨i + 4,bA 148 st,none⟩]
noncomputable def jk (P:Params) (i:Nat) (st sd m nl ds dsd er:Addr) (T:Str) (X:Str) (n pos z pc p:Int) (X':Str) (n' pos' d u B:Int) (res:Value):Sum:=
 ⟨.call (.ref 133) ⟨[.ref st],[]⟩,DA P i st sd m nl ds dsd er T X n pos z pc p X' n' pos' d u B,.ok (.ret res),300,false⟩
noncomputable def kH:List (Str×Value):=[("Doctype",.int 0 0),("Characters",.int 1 0),("SpaceCharacters",.int 2 0),("StartTag",.int 3 0),("EndTag",.int 4 0),("EmptyTag",.int 5 0),("Comment",.int 6 0),("ParseError",.int 7 0)]
noncomputable def xN (k:Str) (v:Int):Sum:=bi "dict.__getitem__" [.ref 48,.str k 0] (.int v 0)
theorem LB (w:World):∀d:List (Str×Value),kv w.params d=d.map fun p=>⟨hashStr w p.1,.str p.1 0,p.2⟩
 | []=>rfl
 | p::r=>by show ent _ _ _::kv _ r=_::_; rw [LB w r]; show DictEntry.mk (kh _ _) _ _::_=_; rw [Cr]
theorem dC (w:World) (b:Bool) (rm:Nat) (k:Str) (i:Nat) (v:Int) (d:Hg k kH=some i) (u:ty kH i=some (.int v 0)):aj (vs w b rm) pg (wb w b) (xN k v) []:=
 tC 48 _ _ kH k i (.int v 0) (show 48 < 790 by decide) (show(vs w b rm).kt.get 48=some (Dk (pr w b)) from rfl) (by rw [LB]; rfl) d u rfl
noncomputable def lM (x:Str) (r:Bool):Sum:=bi "tuple.__contains__" [.ref 22,.str x 0] (.bool r)
noncomputable def px (x:Str) (r:Bool):Sum:=bi "tuple.__contains__" [.ref 27,.str x 0] (.bool r)
noncomputable def fZ:List Str:=[⟨⟨[9]⟩⟩,⟨⟨[10]⟩⟩,⟨⟨[12]⟩⟩,s!" ",⟨⟨[13]⟩⟩]
noncomputable def eG:List Str:=((List.range 26).map fun i=>⟨⟨[97 + i]⟩⟩)++((List.range 26).map fun i=>⟨⟨[65 + i]⟩⟩)
theorem kI (w:World) (b:Bool) (rm:Nat) (x:Str) (r:Bool) (d:fZ.any (·== x)=r):aj (vs w b rm) pg (wb w b) (lM x r) []:=
 tE 22 _ _ fZ x r (show 22 < 790 by decide) (show(vs w b rm).kt.get 22=some (Di (pr w b)) from rfl) rfl d
theorem yc (w:World) (b:Bool) (rm:Nat) (x:Str) (r:Bool) (d:eG.any (·== x)=r):aj (vs w b rm) pg (wb w b) (px x r) []:=
 tE 27 _ _ eG x r (show 27 < 790 by decide) (show(vs w b rm).kt.get 27=some (Dj (pr w b)) from rfl) rfl d
noncomputable def dR (P:Params) (i:Nat) (st sd m nl ds dsd er:Addr) (T X:Str) (n pos z pc p:Int) (X':Str) (n' pos' d u B:Int) (res:Bool):Sum:=
 ⟨.call (.ref 141) ⟨[.ref st],[]⟩,DA P i st sd m nl ds dsd er T X n pos z pc p X' n' pos' d u B,.ok (.ret (.bool res)),350,false⟩
noncomputable def dE:List (List Addr→Sum):=[fun ks=>xN s!"ParseError" 7,fun ks=>xN s!"Characters" 1,fun ks=>xN s!"SpaceCharacters" 2,fun ks=>xN s!"Comment" 6]
theorem bh {P:Bool→Prop} (h0:P false) (d:P true):∀(u:Bool),P u
 | false=>h0
 | true=>d
theorem bW {u:Type} {P:(Option u)→Bool→Prop} (h0:P none false) (z:P none true) (B:∀d,P (some d) false) (D:∀d,P (some d) true):∀(G:Option u) (a1:Bool),P G a1
 | none,false=>h0
 | none,true=>z
 | (some d),false=>B d
 | (some d),true=>D d
theorem dH {P:Nat→Bool→Prop} (h0:P 0 false) (u:P 0 true) (z:P 1 false) (B:P 1 true) (D:P 2 false) (G:P 2 true) (H:P 3 false) (h7:P 3 true) (h8:∀d,P (d + 4) false) (I:∀d,P (d + 4) true):∀(J:Nat) (a1:Bool),P J a1
 | 0,false=>h0
 | 0,true=>u
 | 1,false=>z
 | 1,true=>B
 | 2,false=>D
 | 2,true=>G
 | 3,false=>H
 | 3,true=>h7
 | (d + 4),false=>h8 d
 | (d + 4),true=>I d
theorem eh {β γ:Type} {P:Nat→(Option (β×γ))→Bool→Prop} (h0:P 0 none false) (h1:P 0 none true) (h2:∀d z1,P 0 (some (d,z1)) false) (h3:∀d z1,P 0 (some (d,z1)) true) (h4:P 1 none false) (h5:P 1 none true) (h6:∀d z1,P 1 (some (d,z1)) false) (h7:∀d z1,P 1 (some (d,z1)) true) (h8:P 2 none false) (h9:P 2 none true) (z:∀d z1,P 2 (some (d,z1)) false) (B:∀d z1,P 2 (some (d,z1)) true) (D:P 3 none false) (G:P 3 none true) (H:∀d z1,P 3 (some (d,z1)) false) (I:∀d z1,P 3 (some (d,z1)) true) (J:∀u,P (u + 4) none false) (U:∀u,P (u + 4) none true) (h18:∀u d z1,P (u + 4) (some (d,z1)) false) (h19:∀u d z1,P (u + 4) (some (d,z1)) true):∀(a0:Nat) (a1:Option (β×γ)) (a2:Bool),P a0 a1 a2
 | 0,none,false=>h0
 | 0,none,true=>h1
 | 0,(some (d,z1)),false=>h2 d z1
 | 0,(some (d,z1)),true=>h3 d z1
 | 1,none,false=>h4
 | 1,none,true=>h5
 | 1,(some (d,z1)),false=>h6 d z1
 | 1,(some (d,z1)),true=>h7 d z1
 | 2,none,false=>h8
 | 2,none,true=>h9
 | 2,(some (d,z1)),false=>z d z1
 | 2,(some (d,z1)),true=>B d z1
 | 3,none,false=>D
 | 3,none,true=>G
 | 3,(some (d,z1)),false=>H d z1
 | 3,(some (d,z1)),true=>I d z1
 | (u + 4),none,false=>J u
 | (u + 4),none,true=>U u
 | (u + 4),(some (d,z1)),false=>h18 u d z1
 | (u + 4),(some (d,z1)),true=>h19 u d z1
theorem yd {P:Nat→Bool→Prop} (h0:P 0 false) (u:P 0 true) (z:P 1 false) (B:P 1 true) (D:∀d,P (d + 2) false) (G:∀d,P (d + 2) true):∀(H:Nat) (a1:Bool),P H a1
 | 0,false=>h0
 | 0,true=>u
 | 1,false=>z
 | 1,true=>B
 | (d + 2),false=>D d
 | (d + 2),true=>G d
theorem DB {P:Nat→Bool→Prop} (h0:P 0 false) (u:P 0 true) (z:∀d,P (d + 1) false) (B:∀d,P (d + 1) true):∀(D:Nat) (a1:Bool),P D a1
 | 0,false=>h0
 | 0,true=>u
 | (d + 1),false=>z d
 | (d + 1),true=>B d
theorem J5 {z B:Type} {P:(Option (z×B))→Bool→Prop} (h0:P none false) (D:P none true) (G:∀d u,P (some (d,u)) false) (H:∀d u,P (some (d,u)) true):∀(I:Option (z×B)) (a1:Bool),P I a1
 | none,false=>h0
 | none,true=>D
 | (some (d,u)),false=>G d u
 | (some (d,u)),true=>H d u
theorem CB {P:Bool→Nat→Bool→Prop} (h0:P false 0 false) (h1:P false 0 true) (h2:P false 1 false) (h3:P false 1 true) (h4:P false 2 false) (h5:P false 2 true) (h6:P false 3 false) (h7:P false 3 true) (h8:∀d,P false (d + 4) false) (h9:∀d,P false (d + 4) true) (u:P true 0 false) (z:P true 0 true) (B:P true 1 false) (D:P true 1 true) (G:P true 2 false) (H:P true 2 true) (I:P true 3 false) (J:P true 3 true) (U:∀d,P true (d + 4) false) (h19:∀d,P true (d + 4) true):∀r n b,P r n b
 | false=>dH h0 h1 h2 h3 h4 h5 h6 h7 h8 h9
 | true=>dH u z B D G H I J U h19
noncomputable section
variable (w:World) (st sd m nl ds dsd er:Addr) (T X C:Str) (n pos d pc p pos1:Int) (y:Nat→Nat→Tok) (z:Nat→Tok) (tb:Nat) (b:Bool)
noncomputable def kJ:List an:=oh [fun ks=>Hh pos n false,fun ks=>c5 X pos C,fun ks=>aY pos 1 pos1] 0x1955504000404040004906af999069f95044000400049995044000400049068f5044000400049504400040004909900
noncomputable def ye:az:=aN (vs w b 300) 4000 (.inn (ay z (.call (.ref 133) ⟨[.ref st],[]⟩)) .root) (start true (ay z (.call (.ref 133) ⟨[.ref st],[]⟩))) (kJ X C n pos pos1) (fillAll y 0 [(st,inst 166 sd),(sd,eB (pr w b) m nl ds er X n pos d pc),(ds,inst 73 dsd),(dsd,gJ (pr w b) T p),(m,bA 148 st)]) tb 0 []
abbrev yf:Prop:=(ye w st sd m nl ds dsd er T X C n pos d pc p pos1 y z tb b).norm [0,1,2,3,4]=.more fun b1=>.sum (Hh pos n false) [] fun u=>.sum (c5 X pos C) [] fun B=>.sum (aY pos 1 pos1) [] fun D=>.done (bc [st,sd,ds,dsd,m,b1] (kJ X C n pos pos1) []) (.ok (.ret (.str C 0))) [(st,inst 166 sd),(sd,eB (pr w b) m nl ds er X n pos1 d pc),(ds,inst 73 dsd),(dsd,gJ (pr w b) T p),(m,bA 148 st)]
theorem yg:yf w st sd m nl ds dsd er T X C n pos d pc p pos1 y z tb b:=by delta za bh
end
theorem tT {b:Bool} {w:World} {rm i:Nat} {st sd m nl ds dsd er:Addr} {T X C:Str} {n pos d pc p pos1:Int} (c:Nat) (h0:0≤pos) (u:decide (pos≥n)=false) (B:X.cps[pos.toNat]?=some c) (D:pos < 2 ^ 63) (G:Str.mk ⟨[c]⟩=C) (H:pos + 1=pos1):aj (vs w b rm) pg (wb w b) (jk (pr w b) i st sd m nl ds dsd er T X n pos d pc p X n pos1 d pc p (.str C 0)) [st,sd,ds,dsd,m]:=
 cA true (V:=vs w b 300) (V':=vs w b rm) rfl rfl rfl rfl rfl rfl rfl fun A s y z tb en I=>⟨4000,kJ X C n pos pos1,[0,1,2,3,4],rfl,
  g8 (yg w st sd m nl ds dsd er T X C n pos d pc p pos1 y z tb b) (aU fun b1=>ar (tw _ _ _ u) fun _=>ar (ci _ _ c _ h0 D B G) fun _=>ar (aE _ _ _ H) fun _=>d7 en rfl ⟨⟨rfl,rfl⟩,rfl,⟨rfl,rfl⟩,rfl,⟨rfl,rfl⟩,trivial⟩)⟩
noncomputable section
variable (w:World) (st sd m nl ds dsd er:Addr) (T X X' C:Str) (n pos B pc p n' pos' d u D pos1:Int) (y:Nat→Nat→Tok) (z:Nat→Tok) (tb:Nat) (b:Bool)
noncomputable def g':List an:=oh [fun ks=>Hh pos n true,fun ks=>dR (pr w b) 0 st sd m nl ds dsd er T X n pos B pc p X' n' pos' d u D false] 0x10069f05400004000400049068f5044000400049504400040004909900
noncomputable def qE:az:=aN (vs w b 300) 4000 (.inn (ay z (.call (.ref 133) ⟨[.ref st],[]⟩)) .root) (start true (ay z (.call (.ref 133) ⟨[.ref st],[]⟩))) (g' w st sd m nl ds dsd er T X X' n pos B pc p n' pos' d u D b) (fillAll y 0 [(st,inst 166 sd),(sd,eB (pr w b) m nl ds er X n pos B pc),(ds,inst 73 dsd),(dsd,gJ (pr w b) T p),(m,bA 148 st)]) tb 0 []
abbrev qG:Prop:=(qE w st sd m nl ds dsd er T X X' n pos B pc p n' pos' d u D y z tb b).norm [0,1,2,3,4]=.more fun b1=>.sum (Hh pos n true) [] fun G=>.sum (dR (pr w b) 0 st sd m nl ds dsd er T X n pos B pc p X' n' pos' d u D false) [st,sd,ds,dsd,m] fun H=>.done (bc [st,sd,ds,dsd,m,b1] (g' w st sd m nl ds dsd er T X X' n pos B pc p n' pos' d u D b) []) (.ok (.ret .none)) [(st,inst 166 sd),(sd,eB (pr w b) m nl ds er X' n' pos' d u),(ds,inst 73 dsd),(dsd,gJ (pr w b) T D),(m,bA 148 st)]
theorem qH:qG w st sd m nl ds dsd er T X X' n pos B pc p n' pos' d u D y z tb b:=by delta za bh
noncomputable def hG:List an:=oh [fun ks=>Hh pos n true,fun ks=>dR (pr w b) 0 st sd m nl ds dsd er T X n pos B pc p X' n' pos' d u D true,fun ks=>c5 X' pos' C,fun ks=>aY pos' 1 pos1] 0x1955504000404040004906bf99906af95044000400049995044000400049069f05400004000400049068f5044000400049504400040004909900
noncomputable def qI:az:=aN (vs w b 300) 4000 (.inn (ay z (.call (.ref 133) ⟨[.ref st],[]⟩)) .root) (start true (ay z (.call (.ref 133) ⟨[.ref st],[]⟩))) (hG w st sd m nl ds dsd er T X X' C n pos B pc p n' pos' d u D pos1 b) (fillAll y 0 [(st,inst 166 sd),(sd,eB (pr w b) m nl ds er X n pos B pc),(ds,inst 73 dsd),(dsd,gJ (pr w b) T p),(m,bA 148 st)]) tb 0 []
abbrev qJ:Prop:=(qI w st sd m nl ds dsd er T X X' C n pos B pc p n' pos' d u D pos1 y z tb b).norm [0,1,2,3,4]=.more fun b1=>.sum (Hh pos n true) [] fun G=>.sum (dR (pr w b) 0 st sd m nl ds dsd er T X n pos B pc p X' n' pos' d u D true) [st,sd,ds,dsd,m] fun H=>.sum (c5 X' pos' C) [] fun I=>.sum (aY pos' 1 pos1) [] fun J=>.done (bc [st,sd,ds,dsd,m,b1] (hG w st sd m nl ds dsd er T X X' C n pos B pc p n' pos' d u D pos1 b) []) (.ok (.ret (.str C 0))) [(st,inst 166 sd),(sd,eB (pr w b) m nl ds er X' n' pos1 d u),(ds,inst 73 dsd),(dsd,gJ (pr w b) T D),(m,bA 148 st)]
theorem qK:qJ w st sd m nl ds dsd er T X X' C n pos B pc p n' pos' d u D pos1 y z tb b:=by delta za bh
end
theorem mW {b:Bool} {w:World} {rm i:Nat} {st sd m nl ds dsd er:Addr} {T X X' C:Str} {n pos B pc p n' pos' d u D pos1:Int} (G:decide (pos≥n)=true) (H:∀rm,aj (vs w b rm) pg (wb w b) (dR (pr w b) 0 st sd m nl ds dsd er T X n pos B pc p X' n' pos' d u D false) [st,sd,ds,dsd,m]):aj (vs w b rm) pg (wb w b) (jk (pr w b) i st sd m nl ds dsd er T X n pos B pc p X' n' pos' d u D .none) [st,sd,ds,dsd,m]:=
 cA true (V:=vs w b 300) (V':=vs w b rm) rfl rfl rfl rfl rfl rfl rfl fun A s y z tb en I=>⟨4000,g' w st sd m nl ds dsd er T X X' n pos B pc p n' pos' d u D b,[0,1,2,3,4],rfl,
  g8 (qH w st sd m nl ds dsd er T X X' n pos B pc p n' pos' d u D y z tb b) (aU fun b1=>ar (tw _ _ _ G) fun _=>ar (H _) fun _=>d7 en rfl ⟨⟨rfl,rfl⟩,rfl,⟨rfl,rfl⟩,rfl,⟨rfl,rfl⟩,trivial⟩)⟩
theorem mX {b:Bool} {w:World} {rm i:Nat} {st sd m nl ds dsd er:Addr} {T X X' C:Str} {n pos B pc p n' pos' d u D pos1:Int} (G:decide (pos≥n)=true) (H:∀rm,aj (vs w b rm) pg (wb w b) (dR (pr w b) 0 st sd m nl ds dsd er T X n pos B pc p X' n' pos' d u D true) [st,sd,ds,dsd,m]) (c:Nat) (h0:0≤pos') (I:X'.cps[pos'.toNat]?=some c) (J:pos' < 2 ^ 63) (U:Str.mk ⟨[c]⟩=C) (h4:pos' + 1=pos1):aj (vs w b rm) pg (wb w b) (jk (pr w b) i st sd m nl ds dsd er T X n pos B pc p X' n' pos1 d u D (.str C 0)) [st,sd,ds,dsd,m]:=
 cA true (V:=vs w b 300) (V':=vs w b rm) rfl rfl rfl rfl rfl rfl rfl fun A s y z tb en hx=>⟨4000,hG w st sd m nl ds dsd er T X X' C n pos B pc p n' pos' d u D pos1 b,[0,1,2,3,4],rfl,
  g8 (qK w st sd m nl ds dsd er T X X' C n pos B pc p n' pos' d u D pos1 y z tb b) (aU fun b1=>ar (tw _ _ _ G) fun _=>ar (H _) fun _=>ar (ci _ _ c _ h0 J I U) fun _=>ar (aE _ _ _ h4) fun _=>d7 en rfl ⟨⟨rfl,rfl⟩,rfl,⟨rfl,rfl⟩,rfl,⟨rfl,rfl⟩,trivial⟩)⟩
noncomputable section
variable (w:World) (st sd m nl ds dsd er:Addr) (T X:Str) (n pos u pc p d pe:Int) (y:Nat→Nat→Tok) (z:Nat→Tok) (tb:Nat) (b:Bool)
noncomputable def hH:List an:=oh [fun ks=>bi "str.count" [.str X 0,.str ⟨⟨[10]⟩⟩ 0,.int 0 0,.int n 0] (.int 0 0),fun ks=>bi "str.rfind" [.str X 0,.str ⟨⟨[10]⟩⟩ 0,.int 0 0,.int n 0] (.int (-1) 0),fun ks=>aY u 0 u,fun ks=>aY pc n d,fun ks=>aY p 10240 pe,fun ks=>bs (dL ks 12) 12 T (.int p 0) (.int pe 0) ⟨⟨[]⟩⟩,fun ks=>aY p 0 p] 0x1950440004000499900ff7770600060606000606ef3300ff0070660006000600ff00ff00ff06df06cf00ff70660006000600ff70660006000600ff70660006000600ff000ff00ff00ff00ff001097600006000600065044000400049555040004040400049555040004040400049555040004040400049555040004040400049555040004040400049eccbccccccbccccccbcccccbbbbaaaa06bfa504400040004aaaa069faaaa06afa504400040004aaa068faaaa504400040004a0aaaa001050440004000495400004000400049995044000400049909999000
noncomputable def qL:az:=aN (vs w b 350) 4000 (.inn (ay z (.call (.ref 141) ⟨[.ref st],[]⟩)) .root) (start true (ay z (.call (.ref 141) ⟨[.ref st],[]⟩))) (hH T X n u pc p d pe) (fillAll y 0 [(st,inst 166 sd),(sd,eB (pr w b) m nl ds er X n pos u pc),(ds,inst 73 dsd),(dsd,gJ (pr w b) T p),(m,bA 148 st)]) tb 0 []
abbrev qM:Prop:=(qL w st sd m nl ds dsd er T X n pos u pc p d pe y z tb b).norm [0,1,2,3,4]=.more fun b1=>.more fun b2=>.sum (bi "str.count" [.str X 0,.str ⟨⟨[10]⟩⟩ 0,.int 0 0,.int n 0] (.int 0 0)) [] fun I=>.sum (aY u 0 u) [] fun J=>.sum (bi "str.rfind" [.str X 0,.str ⟨⟨[10]⟩⟩ 0,.int 0 0,.int n 0] (.int (-1) 0)) [] fun U=>.sum (aY pc n d) [] fun u0_6=>.more fun b3=>.more fun b4=>.more fun b5=>.more fun b6=>.more fun b7=>.sum (aY p 10240 pe) [] fun B=>.more fun D=>.sum (bs D 12 T (.int p 0) (.int pe 0) ⟨⟨[]⟩⟩) [D] fun G=>.sum (aY p 0 p) [] fun H=>.done (bc [st,sd,ds,dsd,m,b1,b2,b3,b4,b5,b6,b7,D] (hH T X n u pc p d pe) []) (.ok (.ret (.bool (false)))) [(st,inst 166 sd),(sd,eB (pr w b) m nl ds er ⟨⟨[]⟩⟩ 0 0 u d),(ds,inst 73 dsd),(dsd,gJ (pr w b) T p),(m,bA 148 st)]
theorem qN:qM w st sd m nl ds dsd er T X n pos u pc p d pe y z tb b:=by delta za bh
end
theorem mY {b:Bool} {w:World} {rm i:Nat} {st sd m nl ds dsd er:Addr} {T X:Str} {n pos u pc p d pe:Int} (D:pc + n=d) (G:p + 10240=pe) (H:aX T (some p) (some pe)=⟨⟨[]⟩⟩) (B:10∉X.cps.toList):aj (vs w b rm) pg (wb w b) (dR (pr w b) i st sd m nl ds dsd er T X n pos u pc p ⟨⟨[]⟩⟩ 0 0 u d p false) [st,sd,ds,dsd,m]:=
 cA true (V:=vs w b 350) (V':=vs w b rm) rfl rfl rfl rfl rfl rfl rfl fun A s y z tb en J=>⟨4000,hH T X n u pc p d pe,[0,1,2,3,4],rfl,
  g8 (qN w st sd m nl ds dsd er T X n pos u pc p d pe y z tb b) (aU fun b1=>aU fun b2=>ar (gX _ _ _ _ B) fun _=>ar (aE _ _ _ (Int.add_zero _)) fun _=>ar (gY _ _ _ _ B) fun _=>ar (aE _ _ _ D) fun _=>aU fun U=>aU fun b4=>aU fun b5=>aU fun b6=>aU fun b7=>ar (aE _ _ _ G) fun _=>aU fun I=>ar (bu I _ T (some p) (some pe) _ H (by decide)) fun _=>ar (aE _ _ _ (Int.add_zero _)) fun _=>d7 en rfl ⟨⟨rfl,rfl⟩,rfl,⟨rfl,rfl⟩,rfl,⟨rfl,rfl⟩,trivial⟩)⟩
noncomputable def bC (c:Nat):Bool:=c == 0 || c == 9 || c == 10 || c == 12 || c == 13 || (decide (32≤c) && decide (c < 127))
noncomputable section
variable (w:World) (c:Int) (y:Nat→Nat→Tok) (z:Nat→Tok) (tb:Nat) (b:Bool)
noncomputable def mZ:List an:=oh [fun ks=>gR 1 c true,fun ks=>gR c 8 false,fun ks=>fg c 11 false,fun ks=>gR 14 c false,fun ks=>gR 127 c false,fun ks=>gR 64976 c false,fun ks=>lK c 65536 c,fun ks=>lB (dL ks 1) 1 (fL [65534,65535]) c false,fun ks=>gR 55296 c false] 0x1070f406ff5506ef406df406cf406bf406af4069f068f404400
noncomputable def DC:az:=aN (vs w b 440) 4000 (.inn (ay z (.call (.ref 84) ⟨[.int c 0],[]⟩)) .root) (start true (ay z (.call (.ref 84) ⟨[.int c 0],[]⟩))) (mZ c) (fillAll y 0 []) tb 0 []
abbrev DD:Prop:=(DC w c y z tb b).norm []=.more fun b1=>.sum (gR 1 c true) [] fun B=>.sum (gR c 8 false) [] fun D=>.sum (fg c 11 false) [] fun G=>.sum (gR 14 c false) [] fun H=>.sum (gR 127 c false) [] fun I=>.sum (gR 64976 c false) [] fun J=>.sum (lK c 65536 c) [] fun U=>.more fun b2=>.sum (lB b2 1 (fL [65534,65535]) c false) [b2] fun d=>.sum (gR 55296 c false) [] fun u=>.done (bc [b1,b2] (mZ c) []) (.ok (.ret (.bool (false)))) []
theorem DE:DD w c y z tb b:=by delta za bh
noncomputable def m7:List an:=oh [fun ks=>gR 1 c true,fun ks=>gR c 8 false,fun ks=>fg c 11 false,fun ks=>gR 14 c true,fun ks=>gR c 31 false,fun ks=>gR 127 c false,fun ks=>gR 64976 c false,fun ks=>lK c 65536 c,fun ks=>lB (dL ks 1) 1 (fL [65534,65535]) c false,fun ks=>gR 55296 c false] 0x1071f4070f5506ff406ef406df406cf06bf406af4069f068f404400
noncomputable def DF:az:=aN (vs w b 440) 4000 (.inn (ay z (.call (.ref 84) ⟨[.int c 0],[]⟩)) .root) (start true (ay z (.call (.ref 84) ⟨[.int c 0],[]⟩))) (m7 c) (fillAll y 0 []) tb 0 []
abbrev DG:Prop:=(DF w c y z tb b).norm []=.more fun b1=>.sum (gR 1 c true) [] fun B=>.sum (gR c 8 false) [] fun D=>.sum (fg c 11 false) [] fun G=>.sum (gR 14 c true) [] fun H=>.sum (gR c 31 false) [] fun I=>.sum (gR 127 c false) [] fun J=>.sum (gR 64976 c false) [] fun U=>.sum (lK c 65536 c) [] fun u0_9=>.more fun b2=>.sum (lB b2 1 (fL [65534,65535]) c false) [b2] fun d=>.sum (gR 55296 c false) [] fun u=>.done (bc [b1,b2] (m7 c) []) (.ok (.ret (.bool (false)))) []
theorem DH:DG w c y z tb b:=by delta za bh
noncomputable def m8:List an:=oh [fun ks=>lK 0 65536 0,fun ks=>lB (dL ks 1) 1 (fL [65534,65535]) 0 false] 0x14069f55068f44444404400
noncomputable def DI:az:=aN (vs w b 440) 4000 (.inn (ay z (.call (.ref 84) ⟨[.int 0 0],[]⟩)) .root) (start true (ay z (.call (.ref 84) ⟨[.int 0 0],[]⟩))) (m8) (fillAll y 0 []) tb 0 []
abbrev DJ:Prop:=(DI w y z tb b).norm []=.more fun b1=>.sum (lK 0 65536 0) [] fun d=>.more fun b2=>.sum (lB b2 1 (fL [65534,65535]) 0 false) [b2] fun u=>.done (bc [b1,b2] (m8) []) (.ok (.ret (.bool (false)))) []
theorem DK:DJ w y z tb b:=by delta za bh
end
theorem iS {b:Bool} {w:World} {rm i:Nat} {c:Int} (u:decide (1≤c)=true) (B:decide (c≤8)=false) (D:(c == 11)=false) (G:decide (14≤c)=false) (H:decide (127≤c)=false) (h7:decide (64976≤c)=false) (h8:c.fmod 65536=c) (I:[65534,65535].any (·== c)=false) (d:decide (55296≤c)=false):aj (vs w b rm) pg (wb w b) (iI c false) []:=
 cA true (V:=vs w b 440) (V':=vs w b rm) rfl rfl rfl rfl rfl rfl rfl fun A s y z tb en J=>⟨4000,mZ c,[],rfl,
  g8 (DE w c y z tb b) (aU fun b1=>ar (dW _ _ _ u) fun _=>ar (dW _ _ _ B) fun _=>ar (eK _ _ _ D) fun _=>ar (dW _ _ _ G) fun _=>ar (dW _ _ _ H) fun _=>ar (dW _ _ _ h7) fun _=>ar (kG _ _ _ rfl h8) fun _=>aU fun b2=>ar (mT b2 _ _ _ _ I) fun _=>ar (dW _ _ _ d) fun _=>d7 en rfl trivial)⟩
theorem yh {b:Bool} {w:World} {rm i:Nat} {c:Int} (u:decide (1≤c)=true) (B:decide (c≤8)=false) (D:(c == 11)=false) (G:decide (14≤c)=true) (H:decide (c≤31)=false) (I:decide (127≤c)=false) (h7:decide (64976≤c)=false) (h8:c.fmod 65536=c) (J:[65534,65535].any (·== c)=false) (d:decide (55296≤c)=false):aj (vs w b rm) pg (wb w b) (iI c false) []:=
 cA true (V:=vs w b 440) (V':=vs w b rm) rfl rfl rfl rfl rfl rfl rfl fun A s y z tb en U=>⟨4000,m7 c,[],rfl,
  g8 (DH w c y z tb b) (aU fun b1=>ar (dW _ _ _ u) fun _=>ar (dW _ _ _ B) fun _=>ar (eK _ _ _ D) fun _=>ar (dW _ _ _ G) fun _=>ar (dW _ _ _ H) fun _=>ar (dW _ _ _ I) fun _=>ar (dW _ _ _ h7) fun _=>ar (kG _ _ _ rfl h8) fun _=>aU fun b2=>ar (mT b2 _ _ _ _ J) fun _=>ar (dW _ _ _ d) fun _=>d7 en rfl trivial)⟩
theorem yi {b:Bool} {w:World} {rm i:Nat}:aj (vs w b rm) pg (wb w b) (iI 0 false) []:=
 cA true (V:=vs w b 440) (V':=vs w b rm) rfl rfl rfl rfl rfl rfl rfl fun A s y z tb en d=>⟨4000,m8,[],rfl,
  g8 (DK w y z tb b) (aU fun b1=>ar (kG _ _ _ rfl rfl) fun _=>aU fun b2=>ar (mT b2 _ _ _ _ rfl) fun _=>d7 en rfl trivial)⟩
theorem tV {b:Bool} {w:World} {rm:Nat} (c:Nat) (h:bC c=true):aj (vs w b rm) pg (wb w b) (iI c false) []:=by
 have h:((((c=0∨c=9)∨c=10)∨c=12)∨c=13)∨32≤c∧c < 127:=by
  simpa only [bC,Bool.or_eq_true,Bool.and_eq_true,beq_iff_eq,decide_eq_true_eq] using h
 rcases h with((((h | h) | h) | h) | h) | ⟨d,u⟩
 ·rw [h]; exact yi (rm:=rm) (i:=0)
 ·rw [h]; exact iS (i:=0) rfl rfl rfl rfl rfl rfl rfl rfl rfl
 ·rw [h]; exact iS (i:=0) rfl rfl rfl rfl rfl rfl rfl rfl rfl
 ·rw [h]; exact iS (i:=0) rfl rfl rfl rfl rfl rfl rfl rfl rfl
 ·rw [h]; exact iS (i:=0) rfl rfl rfl rfl rfl rfl rfl rfl rfl
 ·have L:∀{a:Nat},a≤32→decide ((a:Int)≤c)=true:=fun h=>decide_eq_true (Int.ofNat_le.mpr (Nat.le_trans h d))
  have G:∀{a:Nat},a < 32→decide ((c:Int)≤a)=false:=fun h=>decide_eq_false (Int.not_le.mpr (Int.ofNat_lt.mpr (Nat.lt_of_lt_of_le h d)))
  have U:∀{a:Nat},127≤a→decide ((a:Int)≤c)=false:=fun h=>decide_eq_false (Int.not_le.mpr (Int.ofNat_lt.mpr (Nat.lt_of_lt_of_le u h)))
  have N:∀{a:Nat},127≤a→((a:Int) == (c:Int))=false:=fun h=>beq_false_of_ne fun e=>Nat.not_le_of_lt u (Int.ofNat.inj e▸h)
  refine yh (i:=0) (L (a:=1) (by decide)) (G (a:=8) (by decide)) (beq_false_of_ne fun e=>Nat.not_le_of_lt (show 11 < 32 by decide) (Int.ofNat.inj e▸d)) (L (a:=14) (by decide)) (G (a:=31) (by decide)) (U (a:=127) (by decide)) (U (a:=64976) (by decide)) (Int.fmod_eq_of_lt (Int.natCast_nonneg c) (Int.ofNat_lt.mpr (Nat.lt_trans u (by decide)))) ?_ (U (a:=55296) (by decide))
  show((65534:Int) == c || ((65535:Int) == c || false))=false
  rw [show((65534:Int) == c)=false from N (a:=65534) (by decide),show((65535:Int) == c)=false from N (a:=65535) (by decide)]
  rfl
noncomputable def LY (w:World) (b:Bool) (st:Addr) (D:Str) (q:Option Str):Obj:=match q with
 | none=>bq [!["self",.ref st],!["data",.str D 0]]
 | some C=>bq [!["self",.ref st],!["data",.str D 0],!["c",.str C 0]]
noncomputable section
variable (w:World) (m st:Addr) (D:Str) (y:Nat→Nat→Tok) (z:Nat→Tok) (tb:Nat) (it:Addr) (t:Tok) (b1:Addr) (u:Tok) (B:Nat→Nat→Tok) (d:Nat) (J:Tok) (U:Nat→Nat→Tok) (I:Nat) (F:Addr) (C:Str) (c:Nat) (i i1:Int) (e1 H:Addr) (b:Bool)
noncomputable def m9:List an:=oh [] 0x124
noncomputable def DL:az:=aN (vs w b 370) 4000 (.inn (ay z (.call (.ref m) ⟨[.str D 0],[]⟩)) .root) (start false (ay z (.call (.ref m) ⟨[.str D 0],[]⟩))) (m9) (fillAll y 0 [(m,bA 148 st)]) tb 0 []
abbrev DM:Prop:=(DL w m st D y z tb b).norm [0]=.cut (bc [m] (m9) []) (.call (.ref 148) ⟨[.ref st,.str D 0],[]⟩) [(m,bA 148 st)]
theorem DN:DM w m st D y z tb b:=by delta za bh
noncomputable def tW:List an:=oh [] 0x1586f45e0f40444400
noncomputable def tX:List an:=oh [] 0x140444400
noncomputable def nh:az:=aN (vs w b 380) 4000 (.inn (ay z (.call (.ref 148) ⟨[.ref st,.str D 0],[]⟩)) .root) (start true (ay z (.call (.ref 148) ⟨[.ref st,.str D 0],[]⟩))) (tW) (fillAll y 0 []) tb 0 []
abbrev tY:Prop:=(nh w st D y z tb b).norm [0]=.more fun b1=>.call 500 (bc [b1] (tX) []) (.call (.builtin "str.__iter__") ⟨[.str D 0],[]⟩) [(b1,bq [!["self",.ref st],!["data",.str D 0]])] fun _ _ _=>.failW ""
theorem tZ:tY w st D y z tb b:=by delta za bh
noncomputable def t6:List an:=oh [] 0x14
abbrev t7:Prop:=(((nh w st D y z tb b).nm b1).nc (aA u (.ok (.ret (.ref it)))) (fillAll B 0 [(it,aT D t 0),(b1,bq [!["self",.ref st],!["data",.str D 0]])]) d).norm [0,1]=.call 410 (bc [it,b1] (t6) []) (cU b1 it) [(it,fld (.type "str_ascii_iterator") [(.str D t),(.int 0 0)]),(b1,bq [!["self",.ref st],!["data",.str D 0]])] fun _ _ _=>.failW ""
theorem t8:t7 w st D y z tb it t b1 u B d b:=by delta za bh
noncomputable def t9:List an:=oh [] 0x1
abbrev ua:Prop:=((((nh w st D y z tb b).nm b1).nc (aA u (.ok (.ret (.ref it)))) (fillAll B 0 [(it,aT D t 0),(b1,bq [!["self",.ref st],!["data",.str D 0]])]) d).nc (aA J (.ok .next)) (fillAll U 0 []) I).norm []=.done (bc [] (t9) []) (.ok (.ret .none)) []
theorem ub:ua w st D y z tb it t b1 u B d J U I b:=by delta za bh
noncomputable def py:List an:=oh [fun ks=>bi "ord" [.str ⟨⟨[c]⟩⟩ 0] (.int c 0),fun ks=>iI c false] 0x12069f0068f5000555ccf4
noncomputable def qO:List an:=oh [fun ks=>bi "ord" [.str ⟨⟨[c]⟩⟩ 0] (.int c 0),fun ks=>iI c false] 0x14
noncomputable def pz:az:=aN (vs w b 410) 4000 (.inn (ay z (cU F it)) .root) (start false (ay z (cU F it))) (py c) (fillAll y 0 [(it,aT D t i),(F,bq [!["self",.ref st],!["data",.str D 0]])]) tb 0 []
abbrev qP:Prop:=(pz w st D y z tb it t F c i b).norm [0,1]=.call 480 (bc [it,F] (qO c) []) (.call (.builtin "str_ascii_iterator.__next__") ⟨[.ref it],[]⟩) [(it,fld (.type "str_ascii_iterator") [(.str D t),(.int i 0)]),(F,bq [!["self",.ref st],!["data",.str D 0]])] fun _ _ _=>.failW ""
theorem qQ:qP w st D y z tb it t F c i b:=by delta za bh
noncomputable def qR:List an:=oh [fun ks=>bi "ord" [.str ⟨⟨[c]⟩⟩ 0] (.int c 0),fun ks=>iI c false] 0x12069f0068f500055
abbrev qT:Prop:=((pz w st D y z tb it t F c i b).nc (aA u (.ok (.ret (.str ⟨⟨[c]⟩⟩ 0)))) (fillAll B 0 [(it,aT D t i1),(F,bq [!["self",.ref st],!["data",.str D 0]])]) d).norm [0,1]=.sum (bi "ord" [.str ⟨⟨[c]⟩⟩ 0] (.int c 0)) [] fun G=>.sum (iI c false) [] fun u1_2=>.cut (bc [it,F] (qR c) []) (cU F it) [(it,fld (.type "str_ascii_iterator") [(.str D t),(.int i1 0)]),(F,bq [!["self",.ref st],!["data",.str D 0],!["c",.str ({cps:={toList:=[c]}}) 0]])]
theorem qU:qT w st D y z tb it t u B d F c i i1 b:=by delta za bh
noncomputable def pA:List an:=oh [fun ks=>bi "ord" [.str ⟨⟨[c]⟩⟩ 0] (.int c 0),fun ks=>iI c false] 0x12069f0068f5000555ccf4
noncomputable def qV:List an:=oh [fun ks=>bi "ord" [.str ⟨⟨[c]⟩⟩ 0] (.int c 0),fun ks=>iI c false] 0x14
noncomputable def pB:az:=aN (vs w b 410) 4000 (.inn (ay z (cU F it)) .root) (start false (ay z (cU F it))) (pA c) (fillAll y 0 [(it,aT D t i),(F,bq [!["self",.ref st],!["data",.str D 0],!["c",.str C 0]])]) tb 0 []
abbrev qW:Prop:=(pB w st D y z tb it t F C c i b).norm [0,1]=.call 480 (bc [it,F] (qV c) []) (.call (.builtin "str_ascii_iterator.__next__") ⟨[.ref it],[]⟩) [(it,fld (.type "str_ascii_iterator") [(.str D t),(.int i 0)]),(F,bq [!["self",.ref st],!["data",.str D 0],!["c",.str C 0]])] fun _ _ _=>.failW ""
theorem qX:qW w st D y z tb it t F C c i b:=by delta za bh
noncomputable def qY:List an:=oh [fun ks=>bi "ord" [.str ⟨⟨[c]⟩⟩ 0] (.int c 0),fun ks=>iI c false] 0x12069f0068f500055
abbrev qZ:Prop:=((pB w st D y z tb it t F C c i b).nc (aA u (.ok (.ret (.str ⟨⟨[c]⟩⟩ 0)))) (fillAll B 0 [(it,aT D t i1),(F,bq [!["self",.ref st],!["data",.str D 0],!["c",.str C 0]])]) d).norm [0,1]=.sum (bi "ord" [.str ⟨⟨[c]⟩⟩ 0] (.int c 0)) [] fun G=>.sum (iI c false) [] fun u1_2=>.cut (bc [it,F] (qY c) []) (cU F it) [(it,fld (.type "str_ascii_iterator") [(.str D t),(.int i1 0)]),(F,bq [!["self",.ref st],!["data",.str D 0],!["c",.str ({cps:={toList:=[c]}}) 0]])]
theorem q5:qZ w st D y z tb it t u B d F C c i i1 b:=by delta za bh
noncomputable def pC:List an:=oh [] 0x155ccf4
noncomputable def q6:List an:=oh [] 0x14
noncomputable def pE:az:=aN (vs w b 410) 4000 (.inn (ay z (cU F it)) .root) (start false (ay z (cU F it))) (pC) (fillAll y 0 [(it,aT D t i),(F,bq [!["self",.ref st],!["data",.str D 0]])]) tb 0 []
abbrev q7:Prop:=(pE w st D y z tb it t F i b).norm [0,1]=.call 480 (bc [it,F] (q6) []) (.call (.builtin "str_ascii_iterator.__next__") ⟨[.ref it],[]⟩) [(it,fld (.type "str_ascii_iterator") [(.str D t),(.int i 0)]),(F,bq [!["self",.ref st],!["data",.str D 0]])] fun _ _ _=>.failW ""
theorem q8:q7 w st D y z tb it t F i b:=by delta za bh
noncomputable def q9:List an:=oh [] 0x15
abbrev rc:Prop:=((pE w st D y z tb it t F i b).nc (aA u (.error (.ref e1))) (fillAll B 0 [(it,fld (.type "str_ascii_iterator") [.none,.int i 0]),(e1,fld (.type "StopIteration") [.ref H,.none,.none,.none,.bool false,.none]),(H,br []),(F,bq [!["self",.ref st],!["data",.str D 0]])]) d).norm [0,1,2,3]=.done (bc [it,e1,H,F] (q9) []) (.ok .next) [(it,fld (.type "str_ascii_iterator") [.none,(.int i 0)]),(e1,fld (.type "StopIteration") [(.ref H),.none,.none,.none,(.bool (false)),.none]),(H,br []),(F,bq [!["self",.ref st],!["data",.str D 0]])]
theorem rd:rc w st D y z tb it t u B d F i e1 H b:=by delta za bh
noncomputable def pF:List an:=oh [] 0x155ccf4
noncomputable def rf:List an:=oh [] 0x14
noncomputable def pG:az:=aN (vs w b 410) 4000 (.inn (ay z (cU F it)) .root) (start false (ay z (cU F it))) (pF) (fillAll y 0 [(it,aT D t i),(F,bq [!["self",.ref st],!["data",.str D 0],!["c",.str C 0]])]) tb 0 []
abbrev rg:Prop:=(pG w st D y z tb it t F C i b).norm [0,1]=.call 480 (bc [it,F] (rf) []) (.call (.builtin "str_ascii_iterator.__next__") ⟨[.ref it],[]⟩) [(it,fld (.type "str_ascii_iterator") [(.str D t),(.int i 0)]),(F,bq [!["self",.ref st],!["data",.str D 0],!["c",.str C 0]])] fun _ _ _=>.failW ""
theorem rh:rg w st D y z tb it t F C i b:=by delta za bh
noncomputable def ri:List an:=oh [] 0x15
abbrev rj:Prop:=((pG w st D y z tb it t F C i b).nc (aA u (.error (.ref e1))) (fillAll B 0 [(it,fld (.type "str_ascii_iterator") [.none,.int i 0]),(e1,fld (.type "StopIteration") [.ref H,.none,.none,.none,.bool false,.none]),(H,br []),(F,bq [!["self",.ref st],!["data",.str D 0],!["c",.str C 0]])]) d).norm [0,1,2,3]=.done (bc [it,e1,H,F] (ri) []) (.ok .next) [(it,fld (.type "str_ascii_iterator") [.none,(.int i 0)]),(e1,fld (.type "StopIteration") [(.ref H),.none,.none,.none,(.bool (false)),.none]),(H,br []),(F,bq [!["self",.ref st],!["data",.str D 0],!["c",.str C 0]])]
theorem rk:rj w st D y z tb it t u B d F C i e1 H b:=by delta za bh
end
theorem DO {c:Code} {F it:Addr} (h:ao c=cU F it):c=cU F it:=by
 cases c with
 | call f a=>cases h
 | builtin f a=>cases h
 | _=>exact h
theorem rl {b:Bool} {w:World} {st it F:Addr} {D:Str} {t:Tok} (hp:∀c∈D.cps.toList,bC c=true) (hF:790≤F) (hi:790≤it) (hne:it≠F):
  ∀(k i:Nat),i + k=D.cps.size→∀(A:Around) (s:Shared) (q:Option Str),au 410 A→aC (vs w b 410) s.heap→aJ s.heap [(it,aT D t i),(F,LY w b st D q)]→
   codeAny (model pg (wb w b)) A (cU F it) (fun r s'=>r=.ok .next∧aH (vs w b 410) [it,F] s s') s:=by
 delta zy b w st it F D t at hp hF hi hne
 have nd:[it,F].Nodup:=by simp [hne]
 have hi':∀{D':Str} {i:Int} {fr:Obj},∀p∈[(it,aT D' t i),(F,fr)],(vs w b 410).n₁≤p.1:=cB hi (cB hF fun _ h=>(by cases h))
 intro k
 induction k with
 | zero=>
  intro i hk A s q rm tp at_
  have hx:D.cps[i]?=none:=Array.getElem?_eq_none (by omega)
  cases q with
  | none=>
   refine dM false (V:=vs w b 410) rfl rfl rm (c:=cU F it) rfl tp at_ hi' nd fun y z=>⟨4000,pC,?_⟩
   refine dk rfl (q8 w st D y z _ it t F i b) (fun Ok sm mo cL=>cL rfl fun A' s1 c' G gk hc' rm' P=>?_)
   refine pv rm'.2.2 hx hc' P fun r s' e1 H far bk n1 n2=>⟨_,_,bk,gk fun B u=>?_⟩
   refine bB rfl (rd w st D y z _ it t u B _ F i e1 H b) (fun Ok sm mo dn=>dn fun r' s2 er P2=>⟨bm er,far.trans P2.far fun x hx=>?_⟩)
   have hx:x∈[it,e1,H,F]:=hx
   have hx:=x8 hx
   rcases hx with h | h | h | h <;> subst x
   ·exact .inl (.head _)
   ·exact n1
   ·exact n2
   ·exact .inl (.tail _ (.head _))
  | some C=>
   refine dM false (V:=vs w b 410) rfl rfl rm (c:=cU F it) rfl tp at_ hi' nd fun y z=>⟨4000,pF,?_⟩
   refine dk rfl (rh w st D y z _ it t F C i b) (fun Ok sm mo cL=>cL rfl fun A' s1 c' G gk hc' rm' P=>?_)
   refine pv rm'.2.2 hx hc' P fun r s' e1 H far bk n1 n2=>⟨_,_,bk,gk fun B u=>?_⟩
   refine bB rfl (rk w st D y z _ it t u B _ F C i e1 H b) (fun Ok sm mo dn=>dn fun r' s2 er P2=>⟨bm er,far.trans P2.far fun x hx=>?_⟩)
   have hx:x∈[it,e1,H,F]:=hx
   have hx:=x8 hx
   rcases hx with h | h | h | h <;> subst x
   ·exact .inl (.head _)
   ·exact n1
   ·exact n2
   ·exact .inl (.tail _ (.head _))
 | succ k ih=>
  intro i hk A s q rm tp at_
  obtain ⟨c,hc⟩:∃c,D.cps[i]?=some c:=⟨_,Array.getElem?_eq_getElem (by omega)⟩
  have hpc:bC c=true:=hp c (by
   have:=Array.getElem?_eq_some_iff.mp hc
   obtain ⟨h1,h2⟩:=this
   rw [←h2]; exact Array.getElem_mem_toList h1)
  cases q with
  | none=>
   refine dM false (V:=vs w b 410) rfl rfl rm (c:=cU F it) rfl tp at_ hi' nd fun y z=>⟨4000,py c,?_⟩
   refine dk rfl (qQ w st D y z _ it t F c i b) (fun Ok sm mo cL=>cL rfl fun A' s1 c' G gk hc' rm' P=>?_)
   refine lH hc hc' P fun r s' far bk=>⟨_,_,bk,gk fun B u=>?_⟩
   refine lG rfl (qU w st D y z _ it t u B _ F c i ((i + 1:Nat):Int) b) (fun Ok sm mo cL=>sm (mS _ _ rfl) fun _=>sm (tV c hpc) fun _=>cL rfl fun s2 P2=>?_)
   refine codeAny_mono (ih (i + 1) (by omega) A s2 (some ⟨⟨[c]⟩⟩) rm P2.top P2.at_) ?_
   rintro r' s3 ⟨rfl,f3⟩
   exact⟨rfl,(far.trans P2.far fun x hx=>.inl hx).trans f3 fun x hx=>.inl hx⟩
  | some C=>
   refine dM false (V:=vs w b 410) rfl rfl rm (c:=cU F it) rfl tp at_ hi' nd fun y z=>⟨4000,pA c,?_⟩
   refine dk rfl (qX w st D y z _ it t F C c i b) (fun Ok sm mo cL=>cL rfl fun A' s1 c' G gk hc' rm' P=>?_)
   refine lH hc hc' P fun r s' far bk=>⟨_,_,bk,gk fun B u=>?_⟩
   refine lG rfl (q5 w st D y z _ it t u B _ F C c i ((i + 1:Nat):Int) b) (fun Ok sm mo cL=>sm (mS _ _ rfl) fun _=>sm (tV c hpc) fun _=>cL rfl fun s2 P2=>?_)
   refine codeAny_mono (ih (i + 1) (by omega) A s2 (some ⟨⟨[c]⟩⟩) rm P2.top P2.at_) ?_
   rintro r' s3 ⟨rfl,f3⟩
   exact⟨rfl,(far.trans P2.far fun x hx=>.inl hx).trans f3 fun x hx=>.inl hx⟩
theorem yj {b:Bool} {w:World} {rm:Nat} (st:Addr) {D:Str} (hp:∀c∈D.cps.toList,bC c=true):aj (vs w b rm) pg (wb w b) (HL st D) []:=by
 delta zz b w rm st D
 have ha:D.cps.all (·< 128)=true:=by
  rw [Array.all_eq_true']
  intro c hc
  have:=hp c (by simpa using hc)
  unfold bC at this
  simp only [Bool.or_eq_true,Bool.and_eq_true,beq_iff_eq,decide_eq_true_eq] at this
  simp only [decide_eq_true_eq]
  omega
 refine jg true (V:=vs w b 380) (V':=vs w b rm) rfl rfl rfl rfl rfl rfl rfl fun A s y z tb en hx=>⟨4000,tW,?_⟩
 refine dk rfl (tZ w st D y z tb b) (fun Ok sm mo cL=>mo fun b1=>cL rfl fun A' s1 c' G gk hc' rm' P=>?_)
 have h1:b1∈([]:List Addr)∨s.heap.get? b1=none:=P.own' b1 (.head _)
 refine pt ha hc' P fun r s' it t far bk n1=>⟨_,_,bk,gk fun B u=>?_⟩
 refine dk rfl (t8 w st D y z tb it t b1 u B _ b) (fun Ok sm mo cL=>cL rfl fun A2 s2 c2 G gk hc2 rm2 P2=>?_)
 have hc2:c2=cU b1 it:=DO hc2
 subst hc2
 have nd:=P2.nd
 have hi':=P2.hi
 refine codeAny_mono (rl (t:=t) hp (P2.hi' 1 rfl) (P2.hi' 0 rfl) (by simpa [keys] using nd) D.cps.size 0 (by omega) A2 s2 none rm2 P2.top P2.at_) ?_
 rintro r2 s3 ⟨rfl,f3⟩
 refine⟨.ok .next,[],⟨rfl,fun p hp=>(by cases hp),f3.top,fun p hp=>(by cases hp),List.nodup_nil⟩,gk fun U J=>?_⟩
 refine bB rfl (ub w st D y z tb it t b1 u B _ J U _ b) (fun Ok sm mo dn=>dn fun r4 s4 er P4=>?_)
 have two:∀x∈[it,b1],x∈([]:List Addr)∨s.heap.get? x=none:=(ag (n1) (ak (h1)))
 have f:=((far.trans P2.far two).trans f3.room two).trans P4.far fun x hx=>(by cases hx)
 exact⟨er,f.gens,f.os,trivial,fun b o e hb=>f.frame b o e (by exact List.not_mem_nil),f.grow⟩
theorem lN {b:Bool} {w:World} {rm i:Nat} {m st:Addr} {D:Str} (hp:∀c∈D.cps.toList,bC c=true):aj (vs w b rm) pg (wb w b) (jj i m st D) [m]:=by
 delta zz b w rm i m st D
 refine jg false (V:=vs w b 370) (V':=vs w b rm) rfl rfl rfl rfl rfl rfl rfl fun A s y z tb en G=>⟨4000,m9,?_⟩
 refine iH rfl (DN w m st D y z tb b) (Du fun c' hc s1 P=>?_)
 refine codeAny_mono (yj (rm:=380) st hp A s1 c' ⟨Nat.le_trans G.1.1 (show 350 + 370≤350 + 380 by decide),Nat.le_trans G.1.2.1 (show 350 + 370≤350 + 380 by decide),G.1.2.2⟩ hc P.top trivial (fun a h=>(by cases h)) List.nodup_nil) ?_
 rintro r s' ⟨er,eg,eo,_,ef,es⟩
 refine⟨er,eg.trans P.gens,eo.trans P.os,⟨fun O h=>(by cases h),trivial⟩,fun b o e ht=>?_,Nat.le_trans P.grow es⟩
 refine ef b o ?_ (by intro h; cases h)
 by_cases hb:b=m
 ·obtain ⟨o',h1,h2⟩:=P.get 0 rfl
  obtain ⟨⟨o₁,h3,h4⟩,-⟩:=en
  rw [hb,h3] at e
  cases e
  have e1:o'=bA 148 st:=dA h2
  have H:o=bA 148 st:=g7 (O:=bA 148 st) rfl h4
  rw [hb,H,←e1]; exact h1
 ·exact P.frame b o e (by simpa using hb)
theorem J6 {P:Bool→Bool→Bool→Prop} (h0:∀b,P false false b) (d:∀b,P false true b) (u:∀b,P true false b) (B:∀b,P true true b):∀k l b,P k l b
 | false,false=>h0
 | false,true=>d
 | true,false=>u
 | true,true=>B
theorem jl {P:Bool→Bool→Bool→Prop} (h0:P false false false) (d:P false false true) (u:P false true false) (B:P false true true) (D:P true false false) (G:P true false true) (H:P true true false) (h7:P true true true):∀k l b,P k l b:=
 J6 (bh h0 d) (bh u B) (bh D G) (bh H h7)
noncomputable def k4 {u:Type} (k l:Bool) (a d b c:u):u:=cond k (cond l c b) (cond l d a)
noncomputable def HM (c:Nat):Bool:=fZ.any (·== ⟨⟨[c]⟩⟩)
noncomputable def HN (c:Nat):Bool:=!(([s!"&",s!"<",⟨⟨[0]⟩⟩]:List Str).any (·== ⟨⟨[c]⟩⟩))
noncomputable def HO (c:Nat):Bool:=!(([s!"-",⟨⟨[0]⟩⟩]:List Str).any (·== ⟨⟨[c]⟩⟩))
noncomputable def HP (c:Nat):Bool:=!(c == 62)
noncomputable def fh (k l:Bool) (c:Nat):Bool:=k4 k l (HM c) (HP c) (HN c) (HO c)
noncomputable def LZ (k l:Bool) (cs:Addr):Value:=cond k (.ref cs) (cond l (.str s!">" 0) (.ref 22))
noncomputable def L4 (k l:Bool):Bool:=k4 k l true false false false
noncomputable def ni (l:Bool):List Value:=aR (cond l [s!"-",⟨⟨[0]⟩⟩] [s!"&",s!"<",⟨⟨[0]⟩⟩])
noncomputable def J7 (w:World) (b k l:Bool) (st cs rv:Addr) (e:Int):Obj:=
 bq [!["self",.ref st],!["characters",LZ k l cs],!["opposite",.bool (L4 k l)],!["rv",.ref rv],!["end",.int e 0]]
noncomputable def pH (w:World) (b k l:Bool) (ix i1 i2:Nat) (F st sd m nl ds er cs rv:Addr) (X:Str) (n pos z pc e d:Int):Sum:=
 ⟨CA F,[⟨ix,J7 w b k l st cs rv e,some (J7 w b k l st cs rv d)⟩,⟨i1,inst 166 sd,none⟩,⟨i1 + 1,eB (pr w b) m nl ds er X n pos z pc,some (eB (pr w b) m nl ds er X n pos z pc)⟩]++cond k [⟨i2,br (ni l),some (br (ni l))⟩] [],.ok .next,400,false⟩
noncomputable def DP (k l:Bool) (cs:Addr) (C:Str) (v:Bool):Sum:=k4 k l (lM C v) (bi "str.__contains__" [.str s!">" 0,.str C 0] (.bool (!v))) (x4 cs 3 (ni l) C (!v)) (x4 cs 3 (ni l) C (!v))
noncomputable def iJ (k:Bool) (cs:Addr):List Addr:=cond k [cs] []
theorem bn {x v:Bool} (h:(!x)=v):x=!v:=by cases h; cases x <;> rfl
theorem uc (w:World) (b:Bool) (rm:Nat) {k l:Bool} (cs:Addr) {c:Nat} {v:Bool} (h:fh k l c=v):aj (vs w b rm) pg (wb w b) (DP k l cs ⟨⟨[c]⟩⟩ v) (iJ k cs):=by
 cases k <;> cases l
 ·exact kI w b rm _ _ h
 ·exact tG _ _ (bn h)
 ·exact i' cs 3 [s!"&",s!"<",⟨⟨[0]⟩⟩] _ _ (bn h)
 ·exact i' cs 3 [s!"-",⟨⟨[0]⟩⟩] _ _ (bn h)
noncomputable section
variable (w:World) (F st sd m nl ds er cs rv:Addr) (X C:Str) (n pos z pc e e1:Int) (k l b:Bool)
noncomputable def ud:List an:=oh [fun ks=>lI e n false] 0x1068f60550005000544
noncomputable def rp:List an:=oh [fun ks=>lI e n true,fun ks=>c5 X e C,fun ks=>DP k l cs C false] (k4 k l 0x1406af004069f46055000500054068f60550005000544 0x1406af4069f46055000500054068f60550005000544 0x1406af774069f46055000500054068f60550005000544 0x1406af774069f46055000500054068f60550005000544)
noncomputable def pI:List an:=oh [fun ks=>lI e n true,fun ks=>c5 X e C,fun ks=>DP k l cs C true,fun ks=>aY e 1 e1] (k4 k l 0x124406bf4406af004069f46055000500054068f60550005000544 0x124406bf4406af4069f46055000500054068f60550005000544 0x124406bf4406af774069f46055000500054068f60550005000544 0x124406bf4406af774069f46055000500054068f60550005000544)
noncomputable def J8:List aw:=[(F,J7 w b k l st cs rv e),(st,inst 166 sd),(sd,eB (pr w b) m nl ds er X n pos z pc)]++cond k [(cs,br (ni l))] []
theorem HQ (ix i1 i2:Nat) (d:Int):tP ([F,st,sd]++iJ k cs) (pH w b k l ix i1 i2 F st sd m nl ds er cs rv X n pos z pc e d).ents (J8 w F st sd m nl ds er cs rv X n pos z pc e k l b):=by
 cases k
 ·exact⟨fun o h=>cS h,rfl,fun o h=>eL (O:=inst 166 sd) rfl h,rfl,fun o h=>cS h,rfl,trivial⟩
 ·exact⟨fun o h=>cS h,rfl,fun o h=>eL (O:=inst 166 sd) rfl h,rfl,fun o h=>cS h,rfl,fun o h=>jG h,rfl,trivial⟩
theorem DQ (ix i1 i2:Nat) (d u:Int):jh ([F,st,sd]++iJ k cs) (pH w b k l ix i1 i2 F st sd m nl ds er cs rv X n pos z pc u d).ents (J8 w F st sd m nl ds er cs rv X n pos z pc e k l b):=by
 cases k
 ·exact⟨fun h=>(by cases h),fun _=>⟨rfl,rfl⟩,fun h=>(by cases h),trivial⟩
 ·exact⟨fun h=>(by cases h),fun _=>⟨rfl,rfl⟩,fun h=>(by cases h),fun h=>(by cases h),trivial⟩
theorem rq (ix i1 i2:Nat) (d:Int):gG (pH w b k l ix i1 i2 F st sd m nl ds er cs rv X n pos z pc e d).ents=true∧tQ ([F,st,sd]++iJ k cs) (pH w b k l ix i1 i2 F st sd m nl ds er cs rv X n pos z pc e d).ents=true:=by
 cases k <;> cases l <;> exact⟨rfl,rfl⟩
theorem ue:bO (cond k [0,1,2,3] [0,1,2])=true:=by cases k <;> rfl
end
theorem HR {b k l:Bool} {w:World} {rm ix i1 i2:Nat} {F st sd m nl ds er cs rv:Addr} {X:Str} {pos z pc:Int} (hs:X.cps.size < 1000000):∀(u i:Nat),i + u≤X.cps.size→(∀j,i≤j→j < i + u→∃c,X.cps[j]?=some c∧fh k l c=true)→
  (i + u=X.cps.size∨∃c,X.cps[i + u]?=some c∧fh k l c=false)→aj (vs w b rm) pg (wb w b) (pH w b k l ix i1 i2 F st sd m nl ds er cs rv X (sz X) pos z pc (i:Nat) ((i + u:Nat):Int)) ([F,st,sd]++iJ k cs):=by
 delta zy b k l w rm ix i1 i2 F st sd m nl ds er cs rv X pos z pc at hs
 intro u
 induction u with
 | zero=>
  intro i U hg D
  rcases D with he | ⟨c,B,hn⟩
  ·have G:((i:Int) != sz X)=false:=by unfold sz; rw [←he]; simp
   exact qD false (vs w b 400) (cond k [0,1,2,3] [0,1,2]) (ud (sz X) i) (fun Ok Fin d mo I H=>H (d (i9 _ _ _ G) fun _=>I ([F,st,sd]++iJ k cs)) fun _ _ _=>by delta zb jl k l b) (rq ..).1 (rq ..).2 (ue k)
  ·have lt:i < X.cps.size:=(Array.getElem?_eq_some_iff.mp B).1
   have G:((i:Int) != sz X)=true:=by unfold sz; simp; omega
   have B:X.cps[(i:Int).toNat]?=some c:=by simpa using B
   exact qD false (vs w b 400) (cond k [0,1,2,3] [0,1,2]) (rp cs X ⟨⟨[c]⟩⟩ (sz X) i k l) (fun Ok Fin d mo I H=>H (d (i9 _ _ _ G) fun _=>d (S:=c5 X i ⟨⟨[c]⟩⟩) (ci _ _ c _ (by omega) (by omega) B rfl) fun _=>d (uc w b 400 cs hn) fun _=>I ([F,st,sd]++iJ k cs)) fun _ _ _=>by delta zb jl k l b) (rq ..).1 (rq ..).2 (ue k)
 | succ u J=>
  intro i U hg D
  obtain ⟨c,B,hn⟩:=hg i (Nat.le_refl _) (by omega)
  have lt:i < X.cps.size:=by omega
  have G:((i:Int) != sz X)=true:=by unfold sz; simp; omega
  have B:X.cps[(i:Int).toNat]?=some c:=by simpa using B
  have e:i + 1 + u=i + (u + 1):=by omega
  have J:=J (i + 1) (by omega) (fun j G h2=>hg j (by omega) (by omega)) (by rw [e]; exact D)
  rw [e] at J
  exact HI false (vs w b 400) (cond k [0,1,2,3] [0,1,2]) (pI cs X ⟨⟨[c]⟩⟩ (sz X) i ((i + 1:Nat):Int) k l) (fun Ok Fin d mo I lf H=>H (d (i9 _ _ _ G) fun _=>d (S:=c5 X i ⟨⟨[c]⟩⟩) (ci _ _ c _ (by omega) (by omega) B rfl) fun _=>d (uc w b 400 cs hn) fun _=>d (S:=aY i 1 ((i + 1:Nat):Int)) (aE _ _ _ rfl) fun _=>lf (N:=.cut (bc ([F,st,sd]++iJ k cs) (pI cs X ⟨⟨[c]⟩⟩ (sz X) i ((i + 1:Nat):Int) k l) []) (CA F) (J8 w F st sd m nl ds er cs rv X (sz X) pos z pc ((i + 1:Nat):Int) k l b)) fun A s en hx=>yb (V':=vs w b rm) J rfl rfl en hx rfl rfl (HQ ..) rfl rfl (DQ ..)) fun _ _ _=>by delta zb jl k l b) (rq ..).1 (rq ..).2 (ue k)
noncomputable def L5 (k l:Bool) (st cs:Addr):List Value:=cond k [.ref st,.ref cs] (cond l [.ref st,.str s!">" 0] [.ref st,.ref 22,.bool true])
noncomputable def uf (w:World) (b k l:Bool) (i ics:Nat) (st sd m nl ds dsd er cs:Addr) (T X:Str) (n pos d pc p:Int) (X':Str) (n' pos' u z B:Int) (R:Str):Sum:=
 ⟨.call (.ref 156) ⟨L5 k l st cs,[]⟩,DA (pr w b) i st sd m nl ds dsd er T X n pos d pc p X' n' pos' u z B++cond k [⟨ics,br (ni l),some (br (ni l))⟩] [],.ok (.ret (.str R 0)),300,false⟩
noncomputable def HS (w:World) (b:Bool):=uf w b false false
noncomputable def HT (w:World) (b:Bool):=uf w b true false
noncomputable def HV (w:World) (b:Bool):=uf w b true true
noncomputable def ug (w:World) (b:Bool):=uf w b false true
noncomputable def kk (k:Bool) (n:Nat):Nat:=cond k (n + 1) n
noncomputable section
variable (w:World) (st sd m nl ds dsd er cs:Addr) (T X X' R:Str) (n pos d pc p n' pos' u z B e:Int) (k l b:Bool)
noncomputable def uh:List an:=oh [fun ks=>pH w b k l (kk k 5) 0 5 (dL ks (kk k 5)) st sd m nl ds er cs (dL ks (kk k 6)) X n pos d pc pos e,fun ks=>fg e pos false,fun ks=>lI e n true,fun ks=>bs (dL ks (kk k 7)) (kk k 7) X (.int pos 0) (.int e 0) R,fun ks=>fJ ⟨⟨[]⟩⟩ (dL ks (kk k 6)) (kk k 6) (aR [R]) R] (cond k 0x1aaa06cfa55504000404040004aabbbb06bfa504400040004a504400040004abbbba06af504400040004aa069f504400040004aa068faa504400040004aaa0aaaaaa000 0x199906cf95550400040404000499aaaa06bf950440004000495044000400049aaaa906af50440004000499069f50440004000499068f995044000400049990999999000)
noncomputable def ui:List an:=oh [fun ks=>pH w b k l (kk k 5) 0 5 (dL ks (kk k 5)) st sd m nl ds er cs (dL ks (kk k 6)) X n pos d pc pos pos,fun ks=>fg pos pos true,fun ks=>lI pos n true,fun ks=>fJ ⟨⟨[]⟩⟩ (dL ks (kk k 6)) (kk k 6) (aR []) ⟨⟨[]⟩⟩] (cond k 0x1aaa06bfa06af504400040004a504400040004a069f504400040004aa068faa504400040004aaa0aaaaaa000 0x199906bf906af50440004000495044000400049069f50440004000499068f995044000400049990999999000)
noncomputable def uj:List an:=oh [fun ks=>pH w b k l (kk k 5) 0 5 (dL ks (kk k 5)) st sd m nl ds er cs (dL ks (kk k 6)) X n pos d pc pos n,fun ks=>fg n pos false,fun ks=>lI n n false,fun ks=>bs (dL ks (kk k 7)) (kk k 7) X (.int pos 0) .none R,fun ks=>dR (pr w b) 0 st sd m nl ds dsd er T X n pos d pc p X' n' pos' u z B false,fun ks=>fJ ⟨⟨[]⟩⟩ (dL ks (kk k 6)) (kk k 6) (aR [R]) R] (cond k 0x1aaa06dfa06cf0540000400040004abbbb06bf504400040004a504400040004abbbba06af504400040004aa069f504400040004aa068faa504400040004aaa0aaaaaa000 0x199906df906cf05400004000400049aaaa06bf50440004000495044000400049aaaa906af50440004000499069f50440004000499068f995044000400049990999999000)
noncomputable def uk:List an:=oh [fun ks=>pH w b k l (kk k 5) 0 5 (dL ks (kk k 5)) st sd m nl ds er cs (dL ks (kk k 6)) X n pos d pc pos pos,fun ks=>fg pos pos true,fun ks=>lI pos n false,fun ks=>bs (dL ks (kk k 7)) (kk k 7) X (.int pos 0) .none R,fun ks=>dR (pr w b) 0 st sd m nl ds dsd er T X n pos d pc p X' n' pos' u z B false,fun ks=>fJ ⟨⟨[]⟩⟩ (dL ks (kk k 6)) (kk k 6) (aR [R]) R] (cond k 0x1aaa06dfa06cf0540000400040004abbbb06bf504400040004a504400040004abbbba06af504400040004a504400040004a069f504400040004aa068faa504400040004aaa0aaaaaa000 0x199906df906cf05400004000400049aaaa06bf50440004000495044000400049aaaa906af50440004000495044000400049069f50440004000499068f995044000400049990999999000)
theorem lO (i ics:Nat):gG (uf w b k l i ics st sd m nl ds dsd er cs T X n pos d pc p X' n' pos' u z B R).ents=true∧tQ ([st,sd,ds,dsd,m]++iJ k cs) (uf w b k l i ics st sd m nl ds dsd er cs T X n pos d pc p X' n' pos' u z B R).ents=true:=by
 cases k <;> cases l <;> exact⟨rfl,rfl⟩
theorem pJ:bO (cond k [0,1,2,3,4,5] [0,1,2,3,4])=true:=by cases k <;> rfl
end
section
variable {b k l:Bool} {w:World} {rm i:Nat} {st sd m nl ds dsd er cs:Addr} {T X X' R:Str} {n pos d pc p n' pos' u z B e:Int} {ics:Nat}
theorem rs (J:∀(F rv:Addr) (ix:Nat),aj (vs w b 300) pg (wb w b) (pH w b k l ix 0 5 F st sd m nl ds er cs rv X n pos d pc pos e) ([F,st,sd]++iJ k cs)) (U:(e == pos)=false) (h2:(e != n)=true) (hR:aX X (some pos) (some e)=R) (H:R.length≤sizeLine):aj (vs w b rm) pg (wb w b) (uf w b k l i ics st sd m nl ds dsd er cs T X n pos d pc p X n e d pc p R) ([st,sd,ds,dsd,m]++iJ k cs):=
 qD true (vs w b 300) (cond k [0,1,2,3,4,5] [0,1,2,3,4]) (uh w st sd m nl ds er cs X R n pos d pc e k l b) (fun Ok Fin D G dn cn=>cn (G fun b1=>G fun b2=>D (J b1 b2 (kk k 5)) fun _=>D (eK _ _ _ U) fun _=>D (i9 _ _ _ h2) fun _=>G fun I=>D (bu I (kk k 7) X (some pos) (some e) R hR H) fun _=>D (jb b2 (kk k 6) R H) fun _=>dn ([st,sd,ds,dsd,m]++iJ k cs++[b1,b2,I])) fun _ _ _=>by delta zb jl k l b) (lO ..).1 (lO ..).2 (pJ k)
theorem rt (H:∀(F rv:Addr) (ix:Nat),aj (vs w b 300) pg (wb w b) (pH w b k l ix 0 5 F st sd m nl ds er cs rv X n pos d pc pos pos) ([F,st,sd]++iJ k cs)) (I:(pos != n)=true):aj (vs w b rm) pg (wb w b) (uf w b k l i ics st sd m nl ds dsd er cs T X n pos d pc p X n pos d pc p ⟨⟨[]⟩⟩) ([st,sd,ds,dsd,m]++iJ k cs):=
 qD true (vs w b 300) (cond k [0,1,2,3,4,5] [0,1,2,3,4]) (ui w st sd m nl ds er cs X n pos d pc k l b) (fun Ok Fin D G J U=>U (G fun b1=>G fun b2=>D (H b1 b2 (kk k 5)) fun _=>D (eK _ _ _ (beq_self_eq_true pos)) fun _=>D (i9 _ _ _ I) fun _=>D (S:=fJ ⟨⟨[]⟩⟩ b2 (kk k 6) (aR []) ⟨⟨[]⟩⟩) (kF _ b2 _ [] ⟨⟨[]⟩⟩ rfl rfl (by decide)) fun _=>J ([st,sd,ds,dsd,m]++iJ k cs++[b1,b2])) fun _ _ _=>by delta zb jl k l b) (lO ..).1 (lO ..).2 (pJ k)
theorem ru (J:∀(F rv:Addr) (ix:Nat),aj (vs w b 300) pg (wb w b) (pH w b k l ix 0 5 F st sd m nl ds er cs rv X n pos d pc pos n) ([F,st,sd]++iJ k cs)) (U:∀rm,aj (vs w b rm) pg (wb w b) (dR (pr w b) 0 st sd m nl ds dsd er T X n pos d pc p X' n' pos' u z B false) [st,sd,ds,dsd,m]) (h1:(n == pos)=false) (hR:aX X (some pos) none=R) (H:R.length≤sizeLine):aj (vs w b rm) pg (wb w b) (uf w b k l i ics st sd m nl ds dsd er cs T X n pos d pc p X' n' pos' u z B R) ([st,sd,ds,dsd,m]++iJ k cs):=
 qD true (vs w b 300) (cond k [0,1,2,3,4,5] [0,1,2,3,4]) (uj w st sd m nl ds dsd er cs T X X' R n pos d pc p n' pos' u z B k l b) (fun Ok Fin D G dn cn=>cn (G fun b1=>G fun b2=>D (J b1 b2 (kk k 5)) fun _=>D (eK _ _ _ h1) fun _=>D (S:=lI n n false) (i9 _ _ _ (by simp)) fun _=>G fun I=>D (bu I (kk k 7) X (some pos) none R hR H) fun _=>D (U 300) fun _=>D (jb b2 (kk k 6) R H) fun _=>dn ([st,sd,ds,dsd,m]++iJ k cs++[b1,b2,I])) fun _ _ _=>by delta zb jl k l b) (lO ..).1 (lO ..).2 (pJ k)
theorem rx (J:∀(F rv:Addr) (ix:Nat),aj (vs w b 300) pg (wb w b) (pH w b k l ix 0 5 F st sd m nl ds er cs rv X n pos d pc pos pos) ([F,st,sd]++iJ k cs)) (U:∀rm,aj (vs w b rm) pg (wb w b) (dR (pr w b) 0 st sd m nl ds dsd er T X n pos d pc p X' n' pos' u z B false) [st,sd,ds,dsd,m]) (h2:(pos != n)=false) (hR:aX X (some pos) none=R) (H:R.length≤sizeLine):aj (vs w b rm) pg (wb w b) (uf w b k l i ics st sd m nl ds dsd er cs T X n pos d pc p X' n' pos' u z B R) ([st,sd,ds,dsd,m]++iJ k cs):=
 qD true (vs w b 300) (cond k [0,1,2,3,4,5] [0,1,2,3,4]) (uk w st sd m nl ds dsd er cs T X X' R n pos d pc p n' pos' u z B k l b) (fun Ok Fin D G dn cn=>cn (G fun b1=>G fun b2=>D (J b1 b2 (kk k 5)) fun _=>D (eK _ _ _ (beq_self_eq_true pos)) fun _=>D (i9 _ _ _ h2) fun _=>G fun I=>D (bu I (kk k 7) X (some pos) none R hR H) fun _=>D (U 300) fun _=>D (jb b2 (kk k 6) R H) fun _=>dn ([st,sd,ds,dsd,m]++iJ k cs++[b1,b2,I])) fun _ _ _=>by delta zb jl k l b) (lO ..).1 (lO ..).2 (pJ k)
end
noncomputable section
variable (w:World) (st sd m nl ds dsd er:Addr) (T X:Str) (c z1 l:Nat) (r:List Nat) (n pos u pc p p1 d pe:Int) (y:Nat→Nat→Tok) (z:Nat→Tok) (tb:Nat) (b:Bool)
noncomputable def f':List an:=oh [fun ks=>bi "str.count" [.str X 0,.str ⟨⟨[10]⟩⟩ 0,.int 0 0,.int n 0] (.int 0 0),fun ks=>bi "str.rfind" [.str X 0,.str ⟨⟨[10]⟩⟩ 0,.int 0 0,.int n 0] (.int (-1) 0),fun ks=>aY u 0 u,fun ks=>aY pc n d,fun ks=>aY p 10240 pe,fun ks=>bs (dL ks 12) 12 T (.int p 0) (.int pe 0) ⟨⟨c::r⟩⟩,fun ks=>cI ⟨⟨c::r⟩⟩ (Int.ofNat (Nat.succ l)),fun ks=>jZ ⟨⟨c::r⟩⟩ (Int.ofNat (Nat.succ l)),fun ks=>aY p (Int.ofNat (Nat.succ l)) p1,fun ks=>JM (Int.ofNat (Nat.succ l)) 1 true,fun ks=>c5 ⟨⟨c::r⟩⟩ (-1) ⟨⟨[z1]⟩⟩,fun ks=>HK z1 z1,fun ks=>fg z1 13 false,fun ks=>gR 55296 z1 false,fun ks=>jj 4 m st ⟨⟨c::r⟩⟩,fun ks=>lL ⟨⟨c::r⟩⟩ ⟨⟨[13,10]⟩⟩ ⟨⟨[10]⟩⟩ ⟨⟨c::r⟩⟩,fun ks=>lL ⟨⟨c::r⟩⟩ ⟨⟨[13]⟩⟩ ⟨⟨[10]⟩⟩ ⟨⟨c::r⟩⟩] 0x155504000404040004906ef900555040004040400049999078f999077f9076f0895044000400040004000400049885044000400049075f9074f999073f072f3900071f06ef90006ff950440004000499900ff77706000606060006070f06ef00ff0070660006000600ff00ff00ff06df06cf00ff70660006000600ff70660006000600ff70660006000600ff000ff00ff00ff00ff001097600006000600065044000400049555040004040400049555040004040400049555040004040400049555040004040400049555040004040400049eccbccccccbccccccbcccccbbbbaaaa06bfa504400040004aaaa069faaaa06afa504400040004aaa068faaaa504400040004a0aaaa001050440004000495400004000400049995044000400049909999000
noncomputable def nj:az:=aN (vs w b 350) 4000 (.inn (ay z (.call (.ref 141) ⟨[.ref st],[]⟩)) .root) (start true (ay z (.call (.ref 141) ⟨[.ref st],[]⟩))) (f' st m T X c z1 l r n u pc p p1 d pe) (fillAll y 0 [(st,inst 166 sd),(sd,eB (pr w b) m nl ds er X n pos u pc),(ds,inst 73 dsd),(dsd,gJ (pr w b) T p),(m,bA 148 st)]) tb 0 []
abbrev np:Prop:=(nj w st sd m nl ds dsd er T X c z1 l r n pos u pc p p1 d pe y z tb b).norm [0,1,2,3,4]=.more fun b1=>.more fun b2=>.sum (bi "str.count" [.str X 0,.str ⟨⟨[10]⟩⟩ 0,.int 0 0,.int n 0] (.int 0 0)) [] fun u0_3=>.sum (aY u 0 u) [] fun u0_4=>.sum (bi "str.rfind" [.str X 0,.str ⟨⟨[10]⟩⟩ 0,.int 0 0,.int n 0] (.int (-1) 0)) [] fun u0_5=>.sum (aY pc n d) [] fun u0_6=>.more fun b3=>.more fun b4=>.more fun b5=>.more fun b6=>.more fun b7=>.sum (aY p 10240 pe) [] fun B=>.more fun D=>.sum (bs D 12 T (.int p 0) (.int pe 0) ⟨⟨c::r⟩⟩) [D] fun G=>.sum (cI ⟨⟨c::r⟩⟩ (Int.ofNat (Nat.succ l))) [] fun H=>.sum (aY p (Int.ofNat (Nat.succ l)) p1) [] fun I=>.sum (jZ ⟨⟨c::r⟩⟩ (Int.ofNat (Nat.succ l))) [] fun J=>.sum (cI ⟨⟨c::r⟩⟩ (Int.ofNat (Nat.succ l))) [] fun U=>.sum (JM (Int.ofNat (Nat.succ l)) 1 true) [] fun u0_19=>.sum (c5 ⟨⟨c::r⟩⟩ (-1) ⟨⟨[z1]⟩⟩) [] fun u0_20=>.sum (HK z1 z1) [] fun u0_21=>.sum (fg z1 13 false) [] fun u0_22=>.sum (gR 55296 z1 false) [] fun u0_23=>.sum (jj 4 m st ⟨⟨c::r⟩⟩) [m] fun u0_24=>.sum (lL ⟨⟨c::r⟩⟩ ⟨⟨[13,10]⟩⟩ ⟨⟨[10]⟩⟩ ⟨⟨c::r⟩⟩) [] fun u0_25=>.sum (lL ⟨⟨c::r⟩⟩ ⟨⟨[13]⟩⟩ ⟨⟨[10]⟩⟩ ⟨⟨c::r⟩⟩) [] fun u0_26=>.sum (cI ⟨⟨c::r⟩⟩ (Int.ofNat (Nat.succ l))) [] fun u0_27=>.done (bc [st,sd,ds,dsd,m,b1,b2,b3,b4,b5,b6,b7,D] (f' st m T X c z1 l r n u pc p p1 d pe) []) (.ok (.ret (.bool (true)))) [(st,inst 166 sd),(sd,fI [!["reportCharacterErrors",.ref m],!["newLines",.ref nl],!["dataStream",.ref ds],!["chunk",.str ({cps:={toList:=c::r}}) 0],!["chunkSize",.int (l.succ) 0],!["chunkOffset",.int 0 0],!["errors",.ref er],!["prevNumLines",.int u 0],!["prevNumCols",.int d 0],!["_bufferedCharacter",.none]]),(ds,inst 73 dsd),(dsd,gJ (pr w b) T p1),(m,bA 148 st)]
theorem nr:np w st sd m nl ds dsd er T X c z1 l r n pos u pc p p1 d pe y z tb b:=by delta za bh
noncomputable def gc:List an:=oh [fun ks=>bi "str.count" [.str X 0,.str ⟨⟨[10]⟩⟩ 0,.int 0 0,.int n 0] (.int 0 0),fun ks=>bi "str.rfind" [.str X 0,.str ⟨⟨[10]⟩⟩ 0,.int 0 0,.int n 0] (.int (-1) 0),fun ks=>aY u 0 u,fun ks=>aY pc n d,fun ks=>aY p 10240 pe,fun ks=>bs (dL ks 12) 12 T (.int p 0) (.int pe 0) ⟨⟨c::r⟩⟩,fun ks=>cI ⟨⟨c::r⟩⟩ (Int.ofNat (Nat.succ l)),fun ks=>jZ ⟨⟨c::r⟩⟩ (Int.ofNat (Nat.succ l)),fun ks=>aY p (Int.ofNat (Nat.succ l)) p1,fun ks=>JM (Int.ofNat (Nat.succ l)) 1 false,fun ks=>jj 4 m st ⟨⟨c::r⟩⟩,fun ks=>lL ⟨⟨c::r⟩⟩ ⟨⟨[13,10]⟩⟩ ⟨⟨[10]⟩⟩ ⟨⟨c::r⟩⟩,fun ks=>lL ⟨⟨c::r⟩⟩ ⟨⟨[13]⟩⟩ ⟨⟨[10]⟩⟩ ⟨⟨c::r⟩⟩] 0x155504000404040004906ef900555040004040400049999074f999073f9072f0895044000400040004000400049885044000400049071f06ef90006ff950440004000499900ff77706000606060006070f06ef00ff0070660006000600ff00ff00ff06df06cf00ff70660006000600ff70660006000600ff70660006000600ff000ff00ff00ff00ff001097600006000600065044000400049555040004040400049555040004040400049555040004040400049555040004040400049555040004040400049eccbccccccbccccccbcccccbbbbaaaa06bfa504400040004aaaa069faaaa06afa504400040004aaa068faaaa504400040004a0aaaa001050440004000495400004000400049995044000400049909999000
noncomputable def nu:az:=aN (vs w b 350) 4000 (.inn (ay z (.call (.ref 141) ⟨[.ref st],[]⟩)) .root) (start true (ay z (.call (.ref 141) ⟨[.ref st],[]⟩))) (gc st m T X c l r n u pc p p1 d pe) (fillAll y 0 [(st,inst 166 sd),(sd,eB (pr w b) m nl ds er X n pos u pc),(ds,inst 73 dsd),(dsd,gJ (pr w b) T p),(m,bA 148 st)]) tb 0 []
abbrev nv:Prop:=(nu w st sd m nl ds dsd er T X c l r n pos u pc p p1 d pe y z tb b).norm [0,1,2,3,4]=.more fun b1=>.more fun b2=>.sum (bi "str.count" [.str X 0,.str ⟨⟨[10]⟩⟩ 0,.int 0 0,.int n 0] (.int 0 0)) [] fun u0_3=>.sum (aY u 0 u) [] fun u0_4=>.sum (bi "str.rfind" [.str X 0,.str ⟨⟨[10]⟩⟩ 0,.int 0 0,.int n 0] (.int (-1) 0)) [] fun u0_5=>.sum (aY pc n d) [] fun u0_6=>.more fun b3=>.more fun b4=>.more fun b5=>.more fun b6=>.more fun b7=>.sum (aY p 10240 pe) [] fun B=>.more fun D=>.sum (bs D 12 T (.int p 0) (.int pe 0) ⟨⟨c::r⟩⟩) [D] fun G=>.sum (cI ⟨⟨c::r⟩⟩ (Int.ofNat (Nat.succ l))) [] fun H=>.sum (aY p (Int.ofNat (Nat.succ l)) p1) [] fun I=>.sum (jZ ⟨⟨c::r⟩⟩ (Int.ofNat (Nat.succ l))) [] fun J=>.sum (cI ⟨⟨c::r⟩⟩ (Int.ofNat (Nat.succ l))) [] fun U=>.sum (JM (Int.ofNat (Nat.succ l)) 1 false) [] fun u0_19=>.sum (jj 4 m st ⟨⟨c::r⟩⟩) [m] fun u0_20=>.sum (lL ⟨⟨c::r⟩⟩ ⟨⟨[13,10]⟩⟩ ⟨⟨[10]⟩⟩ ⟨⟨c::r⟩⟩) [] fun u0_21=>.sum (lL ⟨⟨c::r⟩⟩ ⟨⟨[13]⟩⟩ ⟨⟨[10]⟩⟩ ⟨⟨c::r⟩⟩) [] fun u0_22=>.sum (cI ⟨⟨c::r⟩⟩ (Int.ofNat (Nat.succ l))) [] fun u0_23=>.done (bc [st,sd,ds,dsd,m,b1,b2,b3,b4,b5,b6,b7,D] (gc st m T X c l r n u pc p p1 d pe) []) (.ok (.ret (.bool (true)))) [(st,inst 166 sd),(sd,fI [!["reportCharacterErrors",.ref m],!["newLines",.ref nl],!["dataStream",.ref ds],!["chunk",.str ({cps:={toList:=c::r}}) 0],!["chunkSize",.int (l.succ) 0],!["chunkOffset",.int 0 0],!["errors",.ref er],!["prevNumLines",.int u 0],!["prevNumCols",.int d 0],!["_bufferedCharacter",.none]]),(ds,inst 73 dsd),(dsd,gJ (pr w b) T p1),(m,bA 148 st)]
theorem ny:nv w st sd m nl ds dsd er T X c l r n pos u pc p p1 d pe y z tb b:=by delta za bh
end
theorem lP {b:Bool} {w:World} {rm i:Nat} {st sd m nl ds dsd er:Addr} {T X:Str} {c z1 l:Nat} {r:List Nat} {n pos u pc p p1 d pe:Int} (h1:pc + n=d) (h2:p + 10240=pe) (h3:aX T (some p) (some pe)=⟨⟨c::r⟩⟩) (h4:10∉X.cps.toList) (hz:Str.length ⟨⟨c::r⟩⟩≤sizeLine) (hk:(Str.length ⟨⟨c::r⟩⟩:Int)=(Int.ofNat (Nat.succ l))) (B:(Int.ofNat (Nat.succ l)) < 2 ^ 63) (h5:p + (Int.ofNat (Nat.succ l))=p1) (hp:∀x∈(Str.mk ⟨c::r⟩).cps.toList,bC x=true) (D:∀i,Builtin.Str.subAt ⟨⟨c::r⟩⟩ ⟨⟨[13,10]⟩⟩ i=false) (G:∀i,Builtin.Str.subAt ⟨⟨c::r⟩⟩ ⟨⟨[13]⟩⟩ i=false) (H:decide ((Int.ofNat (Nat.succ l)) > 1)=true) (I:seqIndex? (-1) (Str.length ⟨⟨c::r⟩⟩)=some (Str.length ⟨⟨c::r⟩⟩ - 1)) (J:(Str.mk ⟨c::r⟩).cps[Str.length ⟨⟨c::r⟩⟩ - 1]?=some z1) (U:((z1:Int) == 13)=false) (hz4:decide ((55296:Int)≤z1)=false):aj (vs w b rm) pg (wb w b) (dR (pr w b) i st sd m nl ds dsd er T X n pos u pc p ⟨⟨c::r⟩⟩ (Int.ofNat (Nat.succ l)) 0 u d p1 true) [st,sd,ds,dsd,m]:=
 cA true (V:=vs w b 350) (V':=vs w b rm) rfl rfl rfl rfl rfl rfl rfl fun A s y z tb en hx=>⟨4000,f' st m T X c z1 l r n u pc p p1 d pe,[0,1,2,3,4],rfl,
  g8 (nr w st sd m nl ds dsd er T X c z1 l r n pos u pc p p1 d pe y z tb b) (aU fun b1=>aU fun b2=>ar (gX _ _ _ _ h4) fun _=>ar (aE _ _ _ (Int.add_zero _)) fun _=>ar (gY _ _ _ _ h4) fun _=>ar (aE _ _ _ h1) fun _=>aU fun b3=>aU fun b4=>aU fun b5=>aU fun b6=>aU fun b7=>ar (aE _ _ _ h2) fun _=>aU fun b8=>ar (bu b8 _ T (some p) (some pe) _ h3 hz) fun _=>ar (cj _ _ hk B) fun _=>ar (aE _ _ _ h5) fun _=>ar (pi _ _ hk B) fun _=>ar (cj _ _ hk B) fun _=>ar (Cq _ _ _ H) fun _=>ar (x6 _ _ _ _ _ (by decide) (by decide) I J rfl) fun _=>ar (mS _ _ rfl) fun _=>ar (eK _ _ _ U) fun _=>ar (dW _ _ _ hz4) fun _=>ar (lN hp) fun _=>ar (dg _ _ _ D) fun _=>ar (dg _ _ _ G) fun _=>ar (cj _ _ hk B) fun _=>d7 en rfl ⟨⟨rfl,rfl⟩,rfl,⟨rfl,rfl⟩,rfl,⟨rfl,rfl⟩,trivial⟩)⟩
theorem lQ {b:Bool} {w:World} {rm i:Nat} {st sd m nl ds dsd er:Addr} {T X:Str} {c z1 l:Nat} {r:List Nat} {n pos u pc p p1 d pe:Int} (J:pc + n=d) (U:p + 10240=pe) (h3:aX T (some p) (some pe)=⟨⟨c::r⟩⟩) (I:10∉X.cps.toList) (hz:Str.length ⟨⟨c::r⟩⟩≤sizeLine) (hk:(Str.length ⟨⟨c::r⟩⟩:Int)=(Int.ofNat (Nat.succ l))) (B:(Int.ofNat (Nat.succ l)) < 2 ^ 63) (h5:p + (Int.ofNat (Nat.succ l))=p1) (hp:∀x∈(Str.mk ⟨c::r⟩).cps.toList,bC x=true) (D:∀i,Builtin.Str.subAt ⟨⟨c::r⟩⟩ ⟨⟨[13,10]⟩⟩ i=false) (G:∀i,Builtin.Str.subAt ⟨⟨c::r⟩⟩ ⟨⟨[13]⟩⟩ i=false) (H:decide ((Int.ofNat (Nat.succ l)) > 1)=false):aj (vs w b rm) pg (wb w b) (dR (pr w b) i st sd m nl ds dsd er T X n pos u pc p ⟨⟨c::r⟩⟩ (Int.ofNat (Nat.succ l)) 0 u d p1 true) [st,sd,ds,dsd,m]:=
 cA true (V:=vs w b 350) (V':=vs w b rm) rfl rfl rfl rfl rfl rfl rfl fun A s y z tb en hx=>⟨4000,gc st m T X c l r n u pc p p1 d pe,[0,1,2,3,4],rfl,
  g8 (ny w st sd m nl ds dsd er T X c l r n pos u pc p p1 d pe y z tb b) (aU fun b1=>aU fun b2=>ar (gX _ _ _ _ I) fun _=>ar (aE _ _ _ (Int.add_zero _)) fun _=>ar (gY _ _ _ _ I) fun _=>ar (aE _ _ _ J) fun _=>aU fun b3=>aU fun b4=>aU fun b5=>aU fun b6=>aU fun b7=>ar (aE _ _ _ U) fun _=>aU fun b8=>ar (bu b8 _ T (some p) (some pe) _ h3 hz) fun _=>ar (cj _ _ hk B) fun _=>ar (aE _ _ _ h5) fun _=>ar (pi _ _ hk B) fun _=>ar (cj _ _ hk B) fun _=>ar (Cq _ _ _ H) fun _=>ar (lN hp) fun _=>ar (dg _ _ _ D) fun _=>ar (dg _ _ _ G) fun _=>ar (cj _ _ hk B) fun _=>d7 en rfl ⟨⟨rfl,rfl⟩,rfl,⟨rfl,rfl⟩,rfl,⟨rfl,rfl⟩,trivial⟩)⟩
noncomputable def ul (P:Params) (i:Nat) (st sd m nl ds er:Addr) (X:Str) (n pos d pc:Int) (X':Str) (n' pos':Int) (v:Value):Sum:=
 ⟨.call (.ref 163) ⟨[.ref st,v],[]⟩,[⟨i,inst 166 sd,none⟩,⟨i + 1,eB P m nl ds er X n pos d pc,some (eB P m nl ds er X' n' pos' d pc)⟩],.ok (.ret .none),300,false⟩
noncomputable section
variable (w:World) (st sd m nl ds er:Addr) (X C R:Str) (n pos d pc n1 pos1:Int) (y:Nat→Nat→Tok) (z:Nat→Tok) (tb:Nat) (b:Bool)
noncomputable def nz:List an:=oh [] 0x1060666600
noncomputable def DR:az:=aN (vs w b 300) 4000 (.inn (ay z (.call (.ref 163) ⟨[.ref st,.none],[]⟩)) .root) (start true (ay z (.call (.ref 163) ⟨[.ref st,.none],[]⟩))) (nz) (fillAll y 0 [(st,inst 166 sd),(sd,eB (pr w b) m nl ds er X n pos d pc)]) tb 0 []
abbrev DS:Prop:=(DR w st sd m nl ds er X n pos d pc y z tb b).norm [0,1]=.more fun b1=>.done (bc [st,sd,b1] (nz) []) (.ok (.ret .none)) [(st,inst 166 sd),(sd,eB (pr w b) m nl ds er X n pos d pc)]
theorem DT:DS w st sd m nl ds er X n pos d pc y z tb b:=by delta za bh
noncomputable def nA:List an:=oh [fun ks=>db C X R,fun ks=>aY n 1 n1] 0x155504000404040004069f5044000400046555040004040400046068f504400040004665044000400046060666600
noncomputable def DU:az:=aN (vs w b 300) 4000 (.inn (ay z (.call (.ref 163) ⟨[.ref st,(.str C 0)],[]⟩)) .root) (start true (ay z (.call (.ref 163) ⟨[.ref st,(.str C 0)],[]⟩))) (nA X C R n n1) (fillAll y 0 [(st,inst 166 sd),(sd,eB (pr w b) m nl ds er X n 0 d pc)]) tb 0 []
abbrev DV:Prop:=(DU w st sd m nl ds er X C R n d pc n1 y z tb b).norm [0,1]=.more fun b1=>.sum (db C X R) [] fun _=>.sum (aY n 1 n1) [] fun _=>.done (bc [st,sd,b1] (nA X C R n n1) []) (.ok (.ret .none)) [(st,inst 166 sd),(sd,eB (pr w b) m nl ds er R n1 0 d pc)]
theorem DW:DV w st sd m nl ds er X C R n d pc n1 y z tb b:=by delta za bh
noncomputable def nB:List an:=oh [fun ks=>fg pos 0 false,fun ks=>lJ pos 1 pos1,fun ks=>c5 X pos1 C,fun ks=>bS C C true] 0x106bf606af5044000400046504400040004655504000404040004069f5044000400046068f5044000400046060666600
noncomputable def DX:az:=aN (vs w b 300) 4000 (.inn (ay z (.call (.ref 163) ⟨[.ref st,(.str C 0)],[]⟩)) .root) (start true (ay z (.call (.ref 163) ⟨[.ref st,(.str C 0)],[]⟩))) (nB X C pos pos1) (fillAll y 0 [(st,inst 166 sd),(sd,eB (pr w b) m nl ds er X n pos d pc)]) tb 0 []
abbrev DY:Prop:=(DX w st sd m nl ds er X C n pos d pc pos1 y z tb b).norm [0,1]=.more fun b1=>.sum (fg pos 0 false) [] fun _=>.sum (lJ pos 1 pos1) [] fun _=>.sum (c5 X pos1 C) [] fun _=>.sum (bS C C true) [] fun _=>.done (bc [st,sd,b1] (nB X C pos pos1) []) (.ok (.ret .none)) [(st,inst 166 sd),(sd,eB (pr w b) m nl ds er X n pos1 d pc)]
theorem DZ:DY w st sd m nl ds er X C n pos d pc pos1 y z tb b:=by delta za bh
end
theorem yk {b:Bool} {w:World} {rm i:Nat} {st sd m nl ds er:Addr} {X C R:Str} {n pos d pc n1 pos1:Int}:aj (vs w b rm) pg (wb w b) (ul (pr w b) i st sd m nl ds er X n pos d pc X n pos .none) [st,sd]:=
 cA true (V:=vs w b 300) (V':=vs w b rm) rfl rfl rfl rfl rfl rfl rfl fun A s y z tb en u=>⟨4000,nz,[0,1],rfl,
  g8 (DT w st sd m nl ds er X n pos d pc y z tb b) (aU fun b1=>d7 en rfl ⟨⟨rfl,rfl⟩,rfl,trivial⟩)⟩
theorem ym {b:Bool} {w:World} {rm i:Nat} {st sd m nl ds er:Addr} {X C R:Str} {n pos d pc n1 pos1:Int} (hR:C++X=R) (u:R.length≤sizeLine) (B:n + 1=n1):aj (vs w b rm) pg (wb w b) (ul (pr w b) i st sd m nl ds er X n 0 d pc R n1 0 (.str C 0)) [st,sd]:=
 cA true (V:=vs w b 300) (V':=vs w b rm) rfl rfl rfl rfl rfl rfl rfl fun A s y z tb en D=>⟨4000,nA X C R n n1,[0,1],rfl,
  g8 (DW w st sd m nl ds er X C R n d pc n1 y z tb b) (aU fun b1=>ar (bf _ _ _ hR u) fun _=>ar (aE _ _ _ B) fun _=>d7 en rfl ⟨⟨rfl,rfl⟩,rfl,trivial⟩)⟩
theorem yn {b:Bool} {w:World} {rm i:Nat} {st sd m nl ds er:Addr} {X C R:Str} {n pos d pc n1 pos1:Int} (c:Nat) (u:(pos == 0)=false) (B:pos - 1=pos1) (h0:0≤pos1) (D:pos1 < 2 ^ 63) (G:X.cps[pos1.toNat]?=some c) (H:Str.mk ⟨[c]⟩=C):aj (vs w b rm) pg (wb w b) (ul (pr w b) i st sd m nl ds er X n pos d pc X n pos1 (.str C 0)) [st,sd]:=
 cA true (V:=vs w b 300) (V':=vs w b rm) rfl rfl rfl rfl rfl rfl rfl fun A s y z tb en I=>⟨4000,nB X C pos pos1,[0,1],rfl,
  g8 (DZ w st sd m nl ds er X C n pos d pc pos1 y z tb b) (aU fun b1=>ar (eK _ _ _ u) fun _=>ar (mO _ _ _ B) fun _=>ar (ci _ _ c _ h0 D G H) fun _=>ar (gW _ _ _ (by simp)) fun _=>d7 en rfl ⟨⟨rfl,rfl⟩,rfl,trivial⟩)⟩
section
open PySem PySem.W PySem.Builtin.Str PySem.StrLaws
theorem LC (a:Nat):((a:Int) < 0)=False:=eq_false (Int.not_lt.mpr (Int.natCast_nonneg a))
theorem L6 (a n:Nat):max (0:Int) (min (a:Int) (n:Int))=((min a n:Nat):Int):=by omega
theorem LD (a b n:Nat):strSliceIndices (some (a:Int)) (some (b:Int)) 1 n=sliceRange ((min a n:Nat):Int) ((min b n:Nat):Int) 1:=by
 simp only [strSliceIndices,LC,if_false,L6,show((1:Int) > 0)=True from eq_true (by decide),if_true]
theorem L7 (x y:Nat):sliceRange (x:Int) (y:Int) 1=(List.range (y - x)).map fun k=>x + k:=by
 rcases Nat.le_total x y with h | h
 ·have z:=strSliceIndices_plain h (Nat.le_refl y)
  rwa [LD,Nat.min_eq_left h,Nat.min_self] at z
 ·rw [Nat.sub_eq_zero_of_le h]
  unfold sliceRange
  rw [if_neg (Int.not_lt.mpr (Int.ofNat_le.mpr h))]
  rfl
theorem um {l:List Nat} {a b x y:Nat} (d:min a l.length=x) (u:min b l.length=y):(l.take b).drop a=(l.drop x).take (y - x):=by
 rw [←List.drop_take,List.take_eq_take_min,u]
 rcases Nat.le_total a l.length with h | h
 ·rw [←d,Nat.min_eq_left h]
 ·have z:(l.take y).length≤l.length:=List.length_take_le' ..
  rw [←d,Nat.min_eq_right h,List.drop_eq_nil_of_le z,List.drop_eq_nil_of_le (Nat.le_trans z h)]
theorem dc (l:List Nat) (a b:Nat):aX ⟨⟨l⟩⟩ (some (a:Int)) (some (b:Int))=⟨⟨(l.take b).drop a⟩⟩:=by
 unfold aX
 rw [LD,L7,show Str.length ⟨⟨l⟩⟩=l.length from rfl,List.length_map,List.length_range]
 have d:min b l.length≤l.length:=Nat.min_le_right ..
 rw [um rfl rfl]
 generalize min b l.length=y at d
 generalize min a l.length=x
 split
 ·rename_i q
  have s:((l.drop x).take (y - x)).Sublist l:=(List.take_sublist ..).trans (List.drop_sublist ..)
  rw [s.eq_of_length (by rw [List.length_take,List.length_drop,Nat.min_eq_left (Nat.sub_le_sub_right d x)]; exact eq_of_beq q)]
 ·rcases Nat.le_total x y with h | h
  ·rw [←picks l (y - x) x (by rw [Nat.add_sub_cancel' h]; exact d)]
   simp
  ·rw [Nat.sub_eq_zero_of_le h]
   rfl
theorem nC (l:List Nat) (a:Nat):aX ⟨⟨l⟩⟩ (some (a:Int)) none=⟨⟨l.drop a⟩⟩:=by
 have:=dc l a l.length
 rw [List.take_of_length_le (Nat.le_refl _)] at this
 rw [←this]
 unfold aX
 rw [show Str.length ⟨⟨l⟩⟩=l.length from rfl,sliceIdx_none_hi]
end
noncomputable def sI (l:List Nat):Prop:=∀c∈l,bC c=true∧c≠10∧c≠13
noncomputable def XU (k r:List Nat):Str:=⟨⟨k.reverse++r⟩⟩
noncomputable def nU (k r:List Nat):Int:=((k.length + r.length:Nat):Int)
noncomputable def pU (k:List Nat):Int:=((k.length:Nat):Int)
noncomputable def tU (T:List Nat):Int:=((T.length:Nat):Int)
noncomputable def lR (P:Params) (i:Nat) (st sd m nl ds dsd er:Addr) (T k r:List Nat) (pc p:Int) (d r':List Nat) (u z:Int) (res:Value):Sum:=
 jk P i st sd m nl ds dsd er ⟨⟨T⟩⟩ (XU k r) (nU k r) (pU k) 0 pc p (XU d r') (nU d r') (pU d) 0 u z res
theorem kK (k r:List Nat):(XU k r).cps.size=k.length + r.length:=by simp [XU]
theorem pK (c:Nat) (k r:List Nat):XU (c::k) r=XU k (c::r):=by simp [XU]
theorem pL (c:Nat) (k r:List Nat):nU (c::k) r=nU k (c::r):=by simp only [nU,List.length_cons]; congr 1; omega
theorem D6 (a k r:List Nat):XU (a.reverse++k) r=XU k (a++r):=by simp [XU]
theorem D7 (a k r:List Nat):nU (a.reverse++k) r=nU k (a++r):=by simp only [nU,List.length_append,List.length_reverse]; congr 1; omega
theorem pM (k r:List Nat) (j:Nat):(XU k r).cps[k.length + j]?=r[j]?:=by
 simp [XU,List.getElem?_append_right]
theorem HW (k r:List Nat):sz (XU k r)=nU k r:=by unfold sz nU; rw [kK]
section
variable {w:World} {b:Bool} {rm i:Nat} {st sd m nl ds dsd er:Addr} {T k r:List Nat} {pc p:Int}
theorem D8 {c:Nat} (d:k.length + (c::r).length < 1000000):aj (vs w b rm) pg (wb w b) (lR (pr w b) i st sd m nl ds dsd er T k (c::r) pc p (c::k) r pc p (.str ⟨⟨[c]⟩⟩ 0)) [st,sd,ds,dsd,m]:=by
 unfold lR
 rw [pK,pL]
 simp only [List.length_cons] at d
 refine tT c (show 0≤pU k by unfold pU; omega) ?_ ?_ (show pU k < 2 ^ 63 by unfold pU; omega) rfl (by unfold pU; simp)
 ·unfold pU nU; simp only [List.length_cons]; exact decide_eq_false (by omega)
 ·have:=pM k (c::r) 0
  simpa [pU] using this
theorem hJ (h:sI (k.reverse++r)):aj (vs w b rm) pg (wb w b) (dR (pr w b) i st sd m nl ds dsd er ⟨⟨T⟩⟩ (XU k r) (nU k r) (pU k) 0 pc (tU T) (XU [] []) (nU [] []) (pU []) 0 (pc + nU k r) (tU T) false) [st,sd,ds,dsd,m]:=by
 refine mY rfl (pe:=tU T + 10240) rfl ?_ (fun d=>(h 10 d).2.1 rfl)
 have e:tU T + 10240=((T.length + 10240:Nat):Int):=by unfold tU; omega
 rw [e]
 unfold tU
 rw [dc,List.take_of_length_le (by omega),List.drop_length]
theorem j2 (h:sI k.reverse):aj (vs w b rm) pg (wb w b) (lR (pr w b) i st sd m nl ds dsd er T k [] pc (tU T) [] [] (pc + nU k []) (tU T) .none) [st,sd,ds,dsd,m]:=by
 refine mW (C:=⟨⟨[]⟩⟩) (pos1:=0) ?_ fun rm=>hJ (by simpa using h)
 unfold pU nU
 exact decide_eq_true (by simp)
theorem lS {T:List Nat} {x:Str} (h:∃c∈x.cps.toList,c∉T) (i:Nat):Builtin.Str.subAt ⟨⟨T⟩⟩ x i=false:=by
 cases e:Builtin.Str.subAt ⟨⟨T⟩⟩ x i with
 | false=>rfl
 | true=>
  exfalso
  unfold Builtin.Str.subAt at e
  have e:=eq_of_beq e
  obtain ⟨c,d,u⟩:=h
  have m:c∈(Array.extract ⟨T⟩ i (i + x.length)).toList:=by
   have z:=congrArg Array.toList e
   rw [z]; exact d
  rw [Array.toList_extract] at m
  exact u (List.mem_of_mem_drop (List.mem_of_mem_take (by simpa [List.extract_eq_drop_take] using m)))
theorem ry {c:Nat} (h:sI (c::r)) (I:(c::r).length < 10000):aj (vs w b rm) pg (wb w b) (dR (pr w b) i st sd m nl ds dsd er ⟨⟨c::r⟩⟩ (XU [] []) (nU [] []) (pU []) 0 0 0 ⟨⟨c::r⟩⟩ (Int.ofNat (Nat.succ r.length)) 0 0 0 (tU (c::r)) true) [st,sd,ds,dsd,m]:=by
 have J:aX ⟨⟨c::r⟩⟩ (some 0) (some 10240)=⟨⟨c::r⟩⟩:=by
  have e:=dc (c::r) 0 10240
  rw [List.take_of_length_le (by omega)] at e
  exact e
 have U:Str.length ⟨⟨c::r⟩⟩≤sizeLine:=by
  show(c::r).length≤sizeLine
  exact Nat.le_trans (Nat.le_of_lt I) (by decide)
 have u:Int.ofNat (Nat.succ r.length) < 2 ^ 63:=by
  simp only [List.length_cons] at I
  show((r.length + 1:Nat):Int) < 2 ^ 63
  omega
 have hp:∀x∈(Str.mk ⟨c::r⟩).cps.toList,bC x=true:=fun x hx=>(h x hx).1
 have B:∀i,Builtin.Str.subAt ⟨⟨c::r⟩⟩ ⟨⟨[13,10]⟩⟩ i=false:=lS ⟨13,by simp,fun H=>(h 13 H).2.2 rfl⟩
 have D:∀i,Builtin.Str.subAt ⟨⟨c::r⟩⟩ ⟨⟨[13]⟩⟩ i=false:=lS ⟨13,by simp,fun H=>(h 13 H).2.2 rfl⟩
 have h5:(0:Int) + Int.ofNat (Nat.succ r.length)=tU (c::r):=by unfold tU; simp
 cases r with
 | nil=>exact lQ (z1:=0) (l:=0) rfl rfl J (by simp [XU]) U rfl u h5 hp B D rfl
 | cons d r=>
  obtain ⟨z,G⟩:∃z,(c::d::r)[r.length + 1]?=some z:=⟨_,List.getElem?_eq_getElem (by simp)⟩
  have zm:z∈c::d::r:=List.mem_of_getElem? G
  have zp:=h z zm
  have lt:z < 127:=by
   have:=zp.1
   unfold bC at this
   simp only [Bool.or_eq_true,Bool.and_eq_true,beq_iff_eq,decide_eq_true_eq] at this
   omega
  refine lP (z1:=z) (l:=(d::r).length) rfl rfl J (by simp [XU]) U rfl u h5 hp B D ?_ ?_ ?_ ?_ ?_
  ·exact decide_eq_true (show(1:Int) < ((r.length + 1 + 1:Nat):Int) by omega)
  ·show seqIndex? (-1) (r.length + 1 + 1)=some (r.length + 1 + 1 - 1)
   rw [PySem.StrLaws.seqIndex_neg (by omega) (by omega)]
   congr 1
   omega
  ·simpa [Str.length] using G
  ·have:=zp.2.2
   simp; omega
  ·exact decide_eq_false (by omega)
theorem lU {c:Nat} (h:sI (c::r)) (d:(c::r).length < 10000):aj (vs w b rm) pg (wb w b) (lR (pr w b) i st sd m nl ds dsd er (c::r) [] [] 0 0 [c] r 0 (tU (c::r)) (.str ⟨⟨[c]⟩⟩ 0)) [st,sd,ds,dsd,m]:=by
 have e:nU [c] r=Int.ofNat (Nat.succ r.length):=by unfold nU; simp; omega
 unfold lR
 rw [e]
 exact mX (n':=Int.ofNat (Nat.succ r.length)) (pos':=0) (X':=⟨⟨c::r⟩⟩) rfl (fun rm=>ry h d) c (by decide) rfl (by decide) rfl rfl
noncomputable def yo (P:Params) (i:Nat) (st sd m nl ds er:Addr) (k r:List Nat) (pc:Int) (d r':List Nat) (v:Value):Sum:=
 ul P i st sd m nl ds er (XU k r) (nU k r) (pU k) 0 pc (XU d r') (nU d r') (pU d) v
theorem D9:aj (vs w b rm) pg (wb w b) (yo (pr w b) i st sd m nl ds er k r pc k r .none) [st,sd]:=yk (C:=⟨⟨[]⟩⟩) (R:=⟨⟨[]⟩⟩) (n1:=0) (pos1:=0)
theorem Ea {c:Nat} (d:(c::r).length < 1000000):aj (vs w b rm) pg (wb w b) (yo (pr w b) i st sd m nl ds er [] r pc [] (c::r) (.str ⟨⟨[c]⟩⟩ 0)) [st,sd]:=by
 refine ym (pos:=0) (pos1:=0) (by show Str.mk (_++_)=_; simp [XU]) ?_ ?_
 ·show(XU [] (c::r)).cps.size≤sizeLine
  rw [kK]
  exact Nat.le_trans (Nat.le_of_lt (by simpa using d)) (by decide)
 ·unfold nU; simp
theorem HX {c:Nat} (d:(c::k).length + r.length < 1000000):aj (vs w b rm) pg (wb w b) (yo (pr w b) i st sd m nl ds er (c::k) r pc k (c::r) (.str ⟨⟨[c]⟩⟩ 0)) [st,sd]:=by
 unfold yo
 rw [pK,pL]
 simp only [List.length_cons] at d
 refine yn (R:=⟨⟨[]⟩⟩) (n1:=0) c ?_ ?_ (show 0≤pU k by unfold pU; omega) (show pU k < 2 ^ 63 by unfold pU; omega) ?_ rfl
 ·unfold pU; simp only [List.length_cons]; simp; omega
 ·unfold pU; simp
 ·have:=pM k (c::r) 0
  simpa [pU] using this
noncomputable def JN (w:World) (b f l:Bool) (i ics:Nat) (st sd m nl ds dsd er cs:Addr) (T k r:List Nat) (pc p:Int) (d r':List Nat) (u z:Int) (R:List Nat):Sum:=
 uf w b f l i ics st sd m nl ds dsd er cs ⟨⟨T⟩⟩ (XU k r) (nU k r) (pU k) 0 pc p (XU d r') (nU d r') (pU d) 0 u z ⟨⟨R⟩⟩
theorem HY {f l:Bool} {cs F rv:Addr} {ix i1 i2:Nat} {a q:List Nat} (u:k.length + (a++q).length < 1000000) (ha:∀c∈a,fh f l c=true) (z:∀c,q.head?=some c→fh f l c=false):
  aj (vs w b rm) pg (wb w b) (pH w b f l ix i1 i2 F st sd m nl ds er cs rv (XU k (a++q)) (nU k (a++q)) (pU k) 0 pc (pU k) (pU (a.reverse++k))) ([F,st,sd]++iJ f cs):=by
 have hs:=kK k (a++q)
 have e:pU (a.reverse++k)=((k.length + a.length:Nat):Int):=by unfold pU; rw [List.length_append,List.length_reverse,Nat.add_comm]
 rw [e,←HW]
 refine HR (by rw [hs]; exact u) a.length k.length (by rw [hs]; simp) (fun j D G=>?_) ?_
 ·obtain ⟨j,rfl⟩:∃B,j=k.length + B:=⟨j - k.length,by omega⟩
  have d:j < a.length:=by omega
  refine⟨a[j],?_,ha _ (List.getElem_mem d)⟩
  rw [pM,List.getElem?_append_left d,List.getElem?_eq_getElem d]
 ·rw [hs,pM,List.getElem?_append_right (Nat.le_refl _),Nat.sub_self]
  cases q with
  | nil=>left; simp
  | cons c q=>right; exact⟨c,rfl,z c rfl⟩
theorem J9 {f l:Bool} {cs:Addr} {ics:Nat} {a q:List Nat} {c:Nat} (u:k.length + (a++c::q).length < 1000000) (ha:∀c∈a,fh f l c=true) (z:fh f l c=false):
  aj (vs w b rm) pg (wb w b) (JN w b f l i ics st sd m nl ds dsd er cs T k (a++c::q) pc p (a.reverse++k) (c::q) pc p a) ([st,sd,ds,dsd,m]++iJ f cs):=by
 have LI:=fun(rm:Nat) (F rv:Addr) (ix:Nat)=>HY (w:=w) (b:=b) (f:=f) (l:=l) (rm:=rm) (st:=st) (sd:=sd) (m:=m) (nl:=nl) (ds:=ds) (er:=er) (pc:=pc) (cs:=cs) (F:=F) (rv:=rv) (ix:=ix) (i1:=0) (i2:=5) u ha fun x B=>by cases B; exact z
 unfold JN
 rw [D6,D7]
 cases a with
 | nil=>
  refine rt (fun F rv ix=>LI _ F rv ix) ?_
  unfold pU nU; simp; omega
 | cons d a=>
  refine rs (fun F rv ix=>LI _ F rv ix) ?_ ?_ ?_ ?_
  ·unfold pU; simp; omega
  ·unfold pU nU; simp; omega
  ·have e1:pU ((d::a).reverse++k)=((k.length + (d::a).length:Nat):Int):=by unfold pU; simp; omega
   rw [e1]
   unfold XU pU
   rw [dc,List.take_append,List.take_of_length_le (by simp),List.drop_append]
   simp
  ·show(d::a).length≤sizeLine
   simp only [List.length_append,List.length_cons] at u
   exact Nat.le_trans (show(d::a).length≤1000000 by simp only [List.length_cons]; omega) (by decide)
theorem yq {f l:Bool} {cs:Addr} {ics:Nat} {a:List Nat} (z:k.length + a.length < 1000000) (h:sI (k.reverse++a)) (ha:∀c∈a,fh f l c=true):
  aj (vs w b rm) pg (wb w b) (JN w b f l i ics st sd m nl ds dsd er cs T k a pc (tU T) [] [] (pc + nU k a) (tU T) a) ([st,sd,ds,dsd,m]++iJ f cs):=by
 have LI:=fun(rm:Nat) (F rv:Addr) (ix:Nat)=>HY (w:=w) (b:=b) (f:=f) (l:=l) (rm:=rm) (st:=st) (sd:=sd) (m:=m) (nl:=nl) (ds:=ds) (er:=er) (pc:=pc) (cs:=cs) (F:=F) (rv:=rv) (ix:=ix) (i1:=0) (i2:=5) (a:=a) (q:=[]) (k:=k) (by simpa using z) ha fun x B=>by cases B
 rw [List.append_nil] at LI
 have e1:pU (a.reverse++k)=nU k a:=by unfold pU nU; simp; omega
 have u:a.length≤sizeLine:=Nat.le_trans (show a.length≤1000000 by omega) (by decide)
 have hR:aX (XU k a) (some (pU k)) none=⟨⟨a⟩⟩:=by
  unfold XU pU
  rw [nC,List.drop_append]
  simp
 cases a with
 | nil=>
  refine rx (fun F rv ix=>LI _ F rv ix) (fun rm=>hJ h) ?_ hR u
  unfold pU nU; simp
 | cons d a=>
  rw [e1] at LI
  refine ru (fun F rv ix=>LI _ F rv ix) (fun rm=>hJ h) ?_ hR u
  unfold pU nU; simp only [List.length_cons]; simp; omega
end
section
open Builtin.Str
section
variable {V:Vs} {prog:Program} {w:World}
theorem jm {A:Around} {s:Shared} {x y z:Str} {t u v:Tok} {R:Result→Shared→Prop} (D:u≠0) (G:v≠0) (d:u≠v) (B:(y == z)=false) (hb:x.length + (x.length + 1) * z.length≤16777216)
  (H:∀v' s',ai v'=.str (Txt.replace x y z) 0→fH s s'→R (.ok (.ret v')) s'):
  codeAny (model prog w) A (.call (.builtin "str.replace") ⟨[.str x t,.str y u,.str z v],[]⟩) R s:=by
 have e:(2:Nat) ^ 24=16777216:=by decide
 have I:tooLong (x.length + (occurrences x y 0 x.length (x.length + 1)).length * z.length)=false:=by
  have J:=StrLaws.occ_length_le x y 0 x.length (x.length + 1)
  have h2:(occurrences x y 0 x.length (x.length + 1)).length * z.length≤(x.length + 1) * z.length:=Nat.mul_le_mul_right _ J
  unfold tooLong sizeLine
  exact decide_eq_false (by omega)
 have g:=gives_str_replace x y z t u v fun _=>⟨by simp [D,G],by simp [d],B,I⟩
 refine codeAny_call_builtin F.slot_str_replace.plain F.entry_str_replace (F.slot_str_replace.check _ _ _ _ _ _ _ _ (cD x t s) (F.args_str_replace_3 _ _ _) (g prog w _ R s ?_))
 have U:gV (if ((occurrences x y 0 x.length (x.length + 1)).isEmpty || (y.length == 0 && z.length == 0))=true then .val (.str x t) else .str (glued z (partsBetween x (occurrences x y 0 x.length (x.length + 1)) y.length))) (.str (Txt.replace x y z) 0):=by
  unfold Txt.replace
  cases hc:((occurrences x y 0 x.length (x.length + 1)).isEmpty || (y.length == 0 && z.length == 0))
  ·exact⟨rfl,fits_replaced y hb⟩
  ·exact rfl
 exact U.post fun v' s' ev st=>H v' s' ev st
end
theorem fH.far {V:Vs} {K:List Addr} {s s':Shared} (st:fH s s') (tp:aC V s.heap):aH V K s s':=
 ⟨fun b o e _=>by rw [st.1]; exact e,st.2.1,st.2.2,by rw [st.1]; exact Nat.le_refl _,by rw [st.1]; exact tp⟩
end
noncomputable def cV (w:World) (b:Bool) (D:Str):Obj:=fI [!["type",.int 6 0],!["data",.str D 0]]
structure Ad where
 (tk tkd st sd m nl ds dsd er lf q:Addr)
instance:Nonempty Ad:=⟨⟨0,0,0,0,0,0,0,0,0,0,0⟩⟩
noncomputable def TK (w:World) (b:Bool) (a:Ad) (F M:Addr) (cv:Value) (T X:Str) (n pos d pc p:Int) (l:List Value):List aw:=
 [(M,bA F a.tk),(a.tk,inst 762 a.tkd),(a.tkd,fY (pr w b) a.st a.lf M cv a.q),(a.st,inst 166 a.sd),(a.sd,eB (pr w b) a.m a.nl a.ds a.er X n pos d pc),(a.ds,inst 73 a.dsd),(a.dsd,gJ (pr w b) T p),(a.m,bA 148 a.st),(a.q,aV l)]
inductive c6 (w:World) (b:Bool):Option Str→Value→List aw→Prop
 | noN:c6 w b none .none []
 | noR (c:Addr):c6 w b none (.ref c) []
 | yes (cu:Addr) (D:Str):c6 w b (some D) (.ref cu) [(cu,cV w b D)]
noncomputable def fM (w:World) (b:Bool) (h:Heap) (a:Addr) (k:Int) (x:Str):Prop:=790≤a∧∃rest:List (Str×Value),(rest=[]∨k=7∧∃v,rest=[(("datavars":Str),Value.ref v)])∧aJ h [(a,fI (kv (pr w b) ((("type":Str),Value.int k 0)::(("data":Str),Value.str x 0)::rest)))]
noncomputable def bj (w:World) (b:Bool) (h:Heap):List Addr→List (Int×Str)→Prop
 | a::as,t::ts=>fM w b h a t.1 t.2∧bj w b h as ts
 | [],[]=>True
 | _,_=>False
noncomputable def aq:List Addr→List Value
 | []=>[]
 | a::r=>.ref a::aq r
noncomputable def iT (w:World) (b:Bool) (a:Ad) (K:List Addr) (s s':Shared) (F:Addr) (D:Option Str) (T X:Str) (n pos d pc p:Int) (ts:List (Int×Str)):Prop:=
 ∃M cv E as,c6 w b D cv E∧aJ s'.heap (TK w b a F M cv T X n pos d pc p (aq as)++E)∧(keys (TK w b a F M cv T X n pos d pc p (aq as)++E)++as).Nodup∧
  (∀e∈TK w b a F M cv T X n pos d pc p (aq as)++E,790≤e.1)∧bj w b s'.heap as ts∧(∀x∈keys (TK w b a F M cv T X n pos d pc p (aq as)++E)++as,x∈K∨s.heap.get? x=none)∧aH (vs w b 200) K s s'
theorem CC {w:World} {b:Bool} {h:Heap} {L:List aw} {a:Addr} {k:Int} {x:Str} {rest:List (Str×Value)} (at_:aJ h L) (hi:∀e∈L,790≤e.1) (m:(a,fI (kv (pr w b) ((("type":Str),Value.int k 0)::(("data":Str),Value.str x 0)::rest)))∈L) (d:rest=[]∨k=7∧∃v,rest=[(("datavars":Str),Value.ref v)]):fM w b h a k x:=
 ⟨hi _ m,rest,d,fun p hp=>by cases List.mem_singleton.mp hp; exact at_ _ m⟩
theorem pN {w:World} {b:Bool} {a:Ad} {K:List Addr} {s s':Shared} {F:Addr} {D:Option Str} {T X:Str} {n pos d pc p:Int} {ts:List (Int×Str)} {M:Addr} {cv:Value} {E R:List aw} {as:List Addr}
  (P:aD (vs w b 200) s K s' ((TK w b a F M cv T X n pos d pc p (aq as)++E)++R)) (c:c6 w b D cv E) (t:aJ s'.heap ((TK w b a F M cv T X n pos d pc p (aq as)++E)++R)→(∀e∈(TK w b a F M cv T X n pos d pc p (aq as)++E)++R,790≤e.1)→bj w b s'.heap as ts)
  (z:keys R=as):iT w b a K s s' F D T X n pos d pc p ts:=by
 have kk:keys ((TK w b a F M cv T X n pos d pc p (aq as)++E)++R)=keys (TK w b a F M cv T X n pos d pc p (aq as)++E)++as:=by
  rw [←z]; exact List.map_append
 refine⟨M,cv,E,as,c,fun q u=>P.at_ q (List.mem_append_left _ u),by rw [←kk]; exact P.nd,fun q u=>P.hi q (List.mem_append_left _ u),t P.at_ P.hi,fun x B=>P.own' x (by rw [kk]; exact B),P.far⟩
theorem dI {r:Result} {v:Bool} (h:ba r=.ok (.ret (.bool v))):r=.ok (.ret (.bool v)):=by
 delta zz r v
 cases r with
 | error e=>cases h
 | ok f=>cases f with
  | ret u=>cases u <;> first | (cases h; rfl) | cases h
  | _=>cases h
noncomputable def eH:Option Addr→Value
 | none=>.none
 | some a=>.ref a
theorem kL {w:World} {b:Bool} (o:Option Addr):c6 w b none (eH o) []:=by cases o with
 | none=>exact .noN
 | some a=>exact .noR a
theorem cN {w:World} {b:Bool} {cv:Value} {E:List aw} (c:c6 w b none cv E):∃o,cv=eH o∧E=[]:=by cases c with
 | noN=>exact⟨none,rfl,rfl⟩
 | noR a=>exact⟨some a,rfl,rfl⟩
noncomputable def dh (w:World) (b:Bool) (a:Ad) (T X:Str) (n pos z pc p:Int) (B:Str) (n1 pos1 d u p1:Int) (v:Value):Sum:=jk (pr w b) 3 a.st a.sd a.m a.nl a.ds a.dsd a.er T X n pos z pc p B n1 pos1 d u p1 v
noncomputable def un (w:World) (b:Bool) (a:Ad) (X:Str) (n pos d pc:Int) (u:Str) (n1 pos1:Int) (v:Value):Sum:=ul (pr w b) 3 a.st a.sd a.m a.nl a.ds a.er X n pos d pc u n1 pos1 v
noncomputable def aS (a:Ad):List Addr:=[a.st,a.sd,a.ds,a.dsd,a.m]
noncomputable def dB (w:World) (b:Bool) (a:Ad) (T X:Str) (n pos z pc p:Int) (B:Str) (n1 pos1 d u p1:Int) (v:Value):Prop:=∀rm,aj (vs w b rm) pg (wb w b) (dh w b a T X n pos z pc p B n1 pos1 d u p1 v) (aS a)
noncomputable def sJ (w:World) (b:Bool) (a:Ad) (X:Str) (n pos d pc:Int) (u:Str) (n1 pos1:Int) (v:Value):Prop:=∀rm,aj (vs w b rm) pg (wb w b) (un w b a X n pos d pc u n1 pos1 v) [a.st,a.sd]
noncomputable def J' (w:World) (b:Bool) (k:Int) (D:Str):List DictEntry:=kv (pr w b) [("type",.int k 0),("data",.str D 0)]
noncomputable def rz (w:World) (b:Bool) (d:Addr) (D:Str):Sum:=eZ d 9 (J' w b 6 D) "data" (.str D 0)
noncomputable def rA (w:World) (b:Bool) (d:Addr) (D D1:Str):Sum:=Cs d 9 (J' w b 6 D) (J' w b 6 D1) "data" (.str D1 0)
noncomputable def L8:Sum:=xN s!"Characters" 1
noncomputable def L9:Sum:=xN s!"SpaceCharacters" 2
noncomputable def Ma:Sum:=xN s!"Comment" 6
noncomputable def Mb:Sum:=xN s!"ParseError" 7
section
variable {w:World} {b:Bool} {rm:Nat}
theorem Hj:aj (vs w b rm) pg (wb w b) L8 []:=dC w b _ _ 1 _ (by kernel_rfl) rfl
theorem Mc:aj (vs w b rm) pg (wb w b) L9 []:=dC w b _ _ 2 _ (by kernel_rfl) rfl
theorem Md:aj (vs w b rm) pg (wb w b) Ma []:=dC w b _ _ 6 _ (by kernel_rfl) rfl
theorem hM:aj (vs w b rm) pg (wb w b) Mb []:=dC w b _ _ 7 _ (by kernel_rfl) rfl
theorem sK (d:Addr) (D:Str):aj (vs w b rm) pg (wb w b) (rz w b d D) [d]:=cq (w:=wb w b) d 9 [("type",.int 6 0),("data",.str D 0)] "data" 1 (.str D 0) (by kernel_rfl) rfl rfl
theorem sM (d:Addr) (D D1:Str):aj (vs w b rm) pg (wb w b) (rA w b d D D1) [d]:=x3 (w:=wb w b) d 9 [("type",.int 6 0),("data",.str D 0)] "data" 1 (.str D1 0) (by kernel_rfl)
end
structure TL where
 x:Addr
 k:Int
 s:Str
 v:Option Addr:=none
noncomputable def TL.r (t:TL):List (Str×Value):=match t.v with
 | none=>[]
 | some v=>[("datavars",.ref v)]
noncomputable def TL.kk (t:TL):Int:=match t.v with
 | none=>t.k
 | some _=>7
noncomputable def Me (w:World) (b:Bool) (t:TL):aw:=(t.x,fI (kv (pr w b) (("type",.int t.kk 0)::("data",.str t.s 0)::t.r)))
noncomputable def TL.as:List TL→List Addr
 | []=>[]
 | t::r=>t.x::TL.as r
noncomputable def TL.L (w:World) (b:Bool):List TL→List aw
 | []=>[]
 | t::r=>Me w b t::TL.L w b r
noncomputable def TL.ts:List TL→List (Int×Str)
 | []=>[]
 | t::r=>(t.kk,t.s)::TL.ts r
theorem TL.keys (w:World) (b:Bool):∀l:List TL,keys (TL.L w b l)=TL.as l
 | []=>rfl
 | t::r=>congrArg (t.x::·) (TL.keys w b r)
theorem TL.toks {w:World} {b:Bool} {h:Heap} {L:List aw} (at_:aJ h L) (hi:∀e∈L,790≤e.1):∀l:List TL,(∀e∈TL.L w b l,e∈L)→bj w b h (TL.as l) (TL.ts l)
 | [],_=>trivial
 | t::r,m=>⟨CC (rest:=t.r) at_ hi (m _ (.head _)) (by
   unfold TL.r TL.kk
   cases t.v with
   | none=>exact .inl rfl
   | some v=>exact .inr ⟨rfl,v,rfl⟩),TL.toks at_ hi r fun e d=>m e (.tail _ d)⟩
noncomputable def Ka (w:World) (b:Bool) (a:Ad) (F mt:Addr) (cv:Value) (T X:Str) (n pos d pc p:Int) (E:List aw) (orc:List an) (sel:List Nat) (y:Nat→Nat→Tok) (z:Nat→Tok) (tb:Nat):az:=
 (aN (vs w b 200) 4000 (.inn (ay z (.call (.ref mt) ⟨[],[]⟩)) .root) (start false (ay z (.call (.ref mt) ⟨[],[]⟩))) orc (fillAll y 0 (TK w b a F mt cv T X n pos d pc p []++E)) tb 0 []).norm sel
noncomputable def dF (w:World) (b:Bool) (a:Ad) (F mt:Addr) (cv:Value) (T X:Str) (n pos d pc p:Int) (E:List aw) (v:Bool) (B:Addr) (D1:Option Str) (D:Str) (n1 pos1 u z p1:Int) (ts:List (Int×Str)):Prop:=
 ∀A s,au 200 A→aC (vs w b 200) s.heap→aJ s.heap (TK w b a F mt cv T X n pos d pc p []++E)→(∀e∈TK w b a F mt cv T X n pos d pc p []++E,790≤e.1)→(keys (TK w b a F mt cv T X n pos d pc p []++E)).Nodup→
  codeAny (model pg (wb w b)) A (.call (.ref mt) ⟨[],[]⟩) (fun r s'=>r=.ok (.ret (.bool v))∧iT w b a (keys (TK w b a F mt cv T X n pos d pc p []++E)) s s' B D1 T D n1 pos1 u z p1 ts) s
noncomputable def Mf (w:World) (b:Bool) (a:Ad) (orc:List an) (v:Bool) (z:Addr) (D1:Option Str) (T B:Str) (n1 pos1 d u p1:Int) (ts:List (Int×Str)) (D:az→Prop):Prop:=
 ∀(ks:List Addr) (M:Addr) (l:List TL) {cv:Value} {E:List aw},c6 w b D1 cv E→TL.ts l=ts→D (.done (bc ks orc []) (.ok (.ret (.bool v))) ((TK w b a z M cv T B n1 pos1 d u p1 (aq (TL.as l))++E)++TL.L w b l))
theorem a' {w:World} {b:Bool} {a:Ad} {F mt:Addr} {cv:Value} {T X:Str} {n pos D pc p:Int} {E:List aw} {v:Bool} {G:Addr} {D1:Option Str} {H:Str} {n1 pos1 d u p1:Int} {ts:List (Int×Str)} (sel:List Nat) (orc:List an)
  (k:∀(z:az→Prop) (Fin:Prop),Cy (vs w b 200) pg (wb w b) z→Cz z→Mf w b a orc v G D1 T H n1 pos1 d u p1 ts z→J0 (Ka w b a F mt cv T X n pos D pc p E orc sel) z Fin→Fin) (hs:bO sel=true):dF w b a F mt cv T X n pos D pc p E v G D1 H n1 pos1 d u p1 ts:=
 fun A s rm tp at_ hi nd=>by
  refine J1 false sel orc hs rfl rfl rm rfl tp at_ hi nd ?_
  refine k _ _ ?_ ?_ ?_ (fun hN h=>⟨_,hN,h⟩)
  ·exact fun I J=>⟨I,fun y _=>J y⟩
  ·exact fun h=>h
  ·refine fun ks M l _ _ c U=>⟨bP ks orc [] fun _ h=>(by cases h),fun r' s' hr P=>⟨dI hr,?_⟩⟩
   refine pN (as:=TL.as l) P c (fun at_ B=>?_) (TL.keys w b l)
   rw [←U]
   exact TL.toks at_ B l fun e he=>List.mem_append_right _ he
theorem sq {V:Vs} {prog:Program} {w:World} {C:Str} {l:List Nat} {r:Bool} (h:(C.cps.toList == l)=r):aj V prog w (bi "str.__eq__" [.str C 0,.str ⟨⟨l⟩⟩ 0] (.bool r)) []:=gW _ _ _ h
theorem Mg {w:World} {b:Bool} {rm:Nat} {x:Str} {r:Bool} (d:fZ.any (·== x)=r):aj (vs w b rm) pg (wb w b) (lM x r) []:=kI w b rm x r d
theorem LE {w:World} {b:Bool} {rm:Nat} {x:Str} {r:Bool} (d:eG.any (·== x)=r):aj (vs w b rm) pg (wb w b) (px x r) []:=yc w b rm x r d
inductive Q | data | tag | close | bogus | mdo | cs | csd | com | ced | ce | ceb
deriving DecidableEq
instance:Nonempty Q:=⟨.data⟩
noncomputable def Q.addr:Q→Nat
 | .data=>304 | .tag=>353 | .close=>360 | .bogus=>598 | .mdo=>605 | .cs=>612 | .csd=>619 | .com=>626 | .ced=>633 | .ce=>640 | .ceb=>647
noncomputable def Q.inC:Q→Bool
 | .cs=>true | .csd=>true | .com=>true | .ced=>true | .ce=>true | .ceb=>true | _=>false
abbrev Tk:=Int×Str
noncomputable def cF:Str:=s!"invalid-codepoint"
noncomputable def kM:Str:=s!"expected-tag-name"
noncomputable def j3:Str:=s!"expected-tag-name-but-got-right-bracket"
noncomputable def fN:Str:=s!"expected-tag-name-but-got-question-mark"
noncomputable def j4:Str:=s!"expected-closing-tag-but-got-eof"
noncomputable def iv:Str:=s!"expected-closing-tag-but-got-right-bracket"
noncomputable def fO:Str:=s!"expected-closing-tag-but-got-char"
noncomputable def ej:Str:=s!"expected-dashes-or-doctype"
noncomputable def cO:Str:=s!"eof-in-comment"
noncomputable def iK:Str:=s!"incorrect-comment"
noncomputable def j5:Str:=s!"eof-in-comment-end-dash"
noncomputable def hU:Str:=s!"eof-in-comment-double-dash"
noncomputable def j6:Str:=s!"eof-in-comment-end-bang-state"
noncomputable def em:Str:=s!"unexpected-bang-after-double-dash-in-comment"
noncomputable def fP:Str:=s!"unexpected-dash-after-double-dash-in-comment"
noncomputable def j7:Str:=s!"unexpected-char-in-comment"
noncomputable def cut (p:Nat→Bool):List Nat→List Nat×List Nat
 | []=>([],[])
 | c::r=>match p c with
  | true=>(c::(cut p r).1,(cut p r).2)
  | false=>([],c::r)
noncomputable def k9 (a q k:List Nat):List Nat×List Nat:=match q with
 | []=>([],[])
 | c::r=>(a.reverse++k,c::r)
noncomputable def c7 (c:Nat):Nat:=if c=0 then 65533 else c
structure Mo where
 ts:List Tk
 q:Q
 D:List Nat
 kr:List Nat×List Nat
noncomputable def step (q:Q) (D k:List Nat) (r:List Nat):Option Mo:=match q with
 | .data=>match r with
  | []=>none
  | c::r=>
   if c=60 then some ⟨[],.tag,D,c::k,r⟩
   else if c=0 then some ⟨[(7,cF),(1,⟨⟨[0]⟩⟩)],.data,D,c::k,r⟩
   else if c=32 then some ⟨[(2,⟨⟨c::(cut (fun x=>x == 32) r).1⟩⟩)],.data,D,k9 (cut (fun x=>x == 32) r).1 (cut (fun x=>x == 32) r).2 (c::k)⟩
   else some ⟨[(1,⟨⟨c::(cut (fun x=>x != 60 && x != 0) r).1⟩⟩)],.data,D,k9 (cut (fun x=>x != 60 && x != 0) r).1 (cut (fun x=>x != 60 && x != 0) r).2 (c::k)⟩
 | .tag=>match r with
  | []=>some ⟨[(7,kM),(1,s!"<")],.data,D,[],[]⟩
  | c::r=>
   if c=33 then some ⟨[],.mdo,D,c::k,r⟩
   else if c=47 then some ⟨[],.close,D,c::k,r⟩
   else if c=62 then some ⟨[(7,j3),(1,s!"<>")],.data,D,c::k,r⟩
   else if c=63 then some ⟨[(7,fN)],.bogus,D,k,c::r⟩
   else some ⟨[(7,kM),(1,s!"<")],.data,D,k,c::r⟩
 | .close=>match r with
  | []=>some ⟨[(7,j4),(1,s!"</")],.data,D,[],[]⟩
  | c::r=>
   if c=62 then some ⟨[(7,iv)],.data,D,c::k,r⟩
   else some ⟨[(7,fO)],.bogus,D,k,c::r⟩
 | .bogus=>match (cut (fun x=>x != 62) r).2 with
  | []=>some ⟨[(6,⟨⟨(cut (fun x=>x != 62) r).1.map c7⟩⟩)],.data,D,[],[]⟩
  | c::z=>some ⟨[(6,⟨⟨(cut (fun x=>x != 62) r).1.map c7⟩⟩)],.data,D,c::((cut (fun x=>x != 62) r).1.reverse++k),z⟩
 | .mdo=>match r with
  | []=>some ⟨[(7,ej)],.bogus,D,[],[]⟩
  | c::r=>
   if c=45 then match r with
    | []=>some ⟨[(7,ej)],.bogus,D,[],[45]⟩
    | d::r=>if d=45 then some ⟨[],.cs,[],d::c::k,r⟩ else some ⟨[(7,ej)],.bogus,D,k,c::d::r⟩
   else some ⟨[(7,ej)],.bogus,D,k,c::r⟩
 | .cs=>match r with
  | []=>some ⟨[(7,cO),(6,⟨⟨D⟩⟩)],.data,D,[],[]⟩
  | c::r=>
   if c=45 then some ⟨[],.csd,D,c::k,r⟩
   else if c=62 then some ⟨[(7,iK),(6,⟨⟨D⟩⟩)],.data,D,c::k,r⟩
   else some ⟨[],.com,D++[c],c::k,r⟩
 | .csd=>match r with
  | []=>some ⟨[(7,cO),(6,⟨⟨D⟩⟩)],.data,D,[],[]⟩
  | c::r=>
   if c=45 then some ⟨[],.ce,D,c::k,r⟩
   else if c=62 then some ⟨[(7,iK),(6,⟨⟨D⟩⟩)],.data,D,c::k,r⟩
   else some ⟨[],.com,D++[45,c],c::k,r⟩
 | .com=>match r with
  | []=>some ⟨[(7,cO),(6,⟨⟨D⟩⟩)],.data,D,[],[]⟩
  | c::r=>
   if c=45 then some ⟨[],.ced,D,c::k,r⟩
   else if c=0 then some ⟨[(7,cF)],.com,D++[65533],c::k,r⟩
   else some ⟨[],.com,D++c::(cut (fun x=>x != 45 && x != 0) r).1,k9 (cut (fun x=>x != 45 && x != 0) r).1 (cut (fun x=>x != 45 && x != 0) r).2 (c::k)⟩
 | .ced=>match r with
  | []=>some ⟨[(7,j5),(6,⟨⟨D⟩⟩)],.data,D,[],[]⟩
  | c::r=>
   if c=45 then some ⟨[],.ce,D,c::k,r⟩
   else if c=0 then some ⟨[(7,cF)],.com,D++[45,65533],c::k,r⟩
   else some ⟨[],.com,D++[45,c],c::k,r⟩
 | .ce=>match r with
  | []=>some ⟨[(7,hU),(6,⟨⟨D⟩⟩)],.data,D,[],[]⟩
  | c::r=>
   if c=62 then some ⟨[(6,⟨⟨D⟩⟩)],.data,D,c::k,r⟩
   else if c=0 then some ⟨[(7,cF)],.com,D++[45,45,65533],c::k,r⟩
   else if c=33 then some ⟨[(7,em)],.ceb,D,c::k,r⟩
   else if c=45 then some ⟨[(7,fP)],.ce,D++[45],c::k,r⟩
   else some ⟨[(7,j7)],.com,D++[45,45,c],c::k,r⟩
 | .ceb=>match r with
  | []=>some ⟨[(7,j6),(6,⟨⟨D⟩⟩)],.data,D,[],[]⟩
  | c::r=>
   if c=62 then some ⟨[(6,⟨⟨D⟩⟩)],.data,D,c::k,r⟩
   else if c=45 then some ⟨[],.ced,D++[45,45,33],c::k,r⟩
   else if c=0 then some ⟨[(7,cF)],.com,D++[45,45,33,65533],c::k,r⟩
   else some ⟨[],.com,D++[45,45,33,c],c::k,r⟩
noncomputable def jn (P:Mo→Prop) (o:Option Mo):Prop:=∀m,o=some m→P m
theorem optN {P:Mo→Prop}:jn P none:=fun m e=>by cases e
theorem bX {P:Mo→Prop} {d:Mo} (h:P d):jn P (some d):=fun m e=>Option.some.inj e▸h
theorem pO {p:Prop} [Decidable p] {P:Mo→Prop} {x y:Option Mo} (d:p→jn P x) (u:¬p→jn P y):jn P (if p then x else y):=by
 by_cases h:p
 ·rw [if_pos h]; exact d h
 ·rw [if_neg h]; exact u h
noncomputable def ib:List Nat:=[45,60,33,62,47,63,49,32,0]
noncomputable section
variable (w:World) (b:Bool) (a:Ad) (mt:Addr) (o:Option Addr) (T X D X2 C R R1:Str) (n pos G pc p n1 pos1 u z p1 J B H I U:Int)
noncomputable def Eb:List an:=oh (dE++[fun ks=>dh w b a T X n pos G pc p D n1 pos1 u z p1 (.str s!"<" 0)]) 0x166605000505050005d0000605500000050005ddddd06cf0870000700070007605500050005d0dd0014
noncomputable def yr:List an:=oh (dE++[fun ks=>dh w b a T X n pos G pc p D n1 pos1 u z p1 (.str ⟨⟨[0]⟩⟩ 0)]) 0x1cccc00ff00ff00ff00ff00ff00ff00ff00ff069f0000cccc605500050005dcccceeeeeeee068f0000cccc605500050005dddddd06cf0870000700070007605500050005d0dd0014
noncomputable def yt:List an:=oh (dE++[fun ks=>dh w b a T X n pos G pc p D n1 pos1 u z p1 .none]) 0x10dddddd06cf0870000700070007605500050005d0dd0014
noncomputable def Ec:List an:=oh (dE++[fun ks=>dh w b a T X n pos G pc p D n1 pos1 u z p1 (.str s!" " 0),fun ks=>lM s!" " true,fun ks=>HS w b 3 0 a.st a.sd a.m a.nl a.ds a.dsd a.er 0 T D n1 pos1 u z p1 X2 J B H I U R,fun ks=>db s!" " R R1]) 0x1cccceeeeeeee06ff06ef00870000700070007605500050005dd06af0000cccc605500050005d06df000d0dddddd06cf0870000700070007605500050005d0dd0014
noncomputable def yu:List an:=oh (dE++[fun ks=>dh w b a T X n pos G pc p D n1 pos1 u z p1 (.str C 0),fun ks=>bS C s!"&" false,fun ks=>bS C s!"<" false,fun ks=>bS C ⟨⟨[0]⟩⟩ false,fun ks=>lM C false,fun ks=>HT w b 3 10 a.st a.sd a.m a.nl a.ds a.dsd a.er (dL ks 10) T D n1 pos1 u z p1 X2 J B H I U R,fun ks=>db C R R1]) 0x1cccc00ff00ff00ff00ff00ff00ff00ff00ff072fdd069f0000cccc605500050005ddd071f0870000700070007605500050005d070f000d0d06ffd06efd06dfddd06cf0870000700070007605500050005d0dd0014
variable {w b a mt o T X D X2 C R R1 n pos G pc p n1 pos1 u z p1 J B H I U}
theorem yv (hch:dB w b a T X n pos G pc p D n1 pos1 u z p1 (.str s!"<" 0)):dF w b a 304 mt (eH o) T X n pos G pc p [] true 353 none D n1 pos1 u z p1 []:=a' [10,1,2,3,4,5,6,7,8] (Eb w b a T X D n pos G pc p n1 pos1 u z p1) (fun Ok Fin sm mo dn cn=>cn (mo fun b1=>sm (hch _) fun _=>mo fun b2=>dn [mt,a.tk,a.tkd,a.st,a.sd,a.ds,a.dsd,a.m,a.q,b1,b2] b2 [] (kL o) rfl) fun _ _ _=>by generalize b=c; generalize o=d; revert c; revert d; apply bW <;> intros <;> kernel_rfl) rfl
theorem uo (hch:dB w b a T X n pos G pc p D n1 pos1 u z p1 (.str ⟨⟨[0]⟩⟩ 0)):dF w b a 304 mt (eH o) T X n pos G pc p [] true 304 none D n1 pos1 u z p1 [(7,cF),(1,⟨⟨[0]⟩⟩)]:=a' [0,1,2,3,4,5,6,7,8,10,11] (yr w b a T X D n pos G pc p n1 pos1 u z p1) (fun Ok Fin sm mo dn cn=>cn (mo fun b1=>sm (hch _) fun _=>mo fun b2=>sm hM fun _=>mo fun b3=>sm Hj fun _=>dn [mt,a.tk,a.tkd,a.st,a.sd,a.ds,a.dsd,a.m,a.q,b1,b2,b3] mt [⟨b2,7,cF,none⟩,⟨b3,1,⟨⟨[0]⟩⟩,none⟩] (kL o) rfl) fun _ _ _=>by generalize b=c; generalize o=d; revert c; revert d; apply bW <;> intros <;> kernel_rfl) rfl
theorem up (hch:dB w b a T X n pos G pc p D n1 pos1 u z p1 .none):dF w b a 304 mt (eH o) T X n pos G pc p [] false 304 none D n1 pos1 u z p1 []:=a' [0,1,2,3,4,5,6,7,8] (yt w b a T X D n pos G pc p n1 pos1 u z p1) (fun Ok Fin sm mo dn cn=>cn (mo fun b1=>sm (hch _) fun _=>dn [mt,a.tk,a.tkd,a.st,a.sd,a.ds,a.dsd,a.m,a.q,b1] mt [] (kL o) rfl) fun _ _ _=>by generalize b=c; generalize o=d; revert c; revert d; apply bW <;> intros <;> kernel_rfl) rfl
theorem yw (hch:dB w b a T X n pos G pc p D n1 pos1 u z p1 (.str s!" " 0)) (hun:∀rm,aj (vs w b rm) pg (wb w b) (HS w b 3 0 a.st a.sd a.m a.nl a.ds a.dsd a.er 0 T D n1 pos1 u z p1 X2 J B H I U R) [a.st,a.sd,a.ds,a.dsd,a.m]) (hR:(s!" ":Str)++R=R1) (hRl:R1.length≤sizeLine):dF w b a 304 mt (eH o) T X n pos G pc p [] true 304 none X2 J B H I U [(2,R1)]:=a' [0,1,2,3,4,5,6,7,8,10] (Ec w b a T X D X2 R R1 n pos G pc p n1 pos1 u z p1 J B H I U) (fun Ok Fin sm mo dn cn=>cn (mo fun b1=>sm (hch _) fun _=>sm (kI w b _ s!" " true rfl) fun _=>mo fun b2=>sm Mc fun _=>sm (hun _) fun _=>sm (bf _ _ _ hR hRl) fun _=>dn [mt,a.tk,a.tkd,a.st,a.sd,a.ds,a.dsd,a.m,a.q,b1,b2] mt [⟨b2,2,R1,none⟩] (kL o) rfl) fun _ _ _=>by generalize b=c; generalize o=d; revert c; revert d; apply bW <;> intros <;> kernel_rfl) rfl
theorem uq (hch:dB w b a T X n pos G pc p D n1 pos1 u z p1 (.str C 0)) (h38:(C.cps.toList == [38])=false) (h60:(C.cps.toList == [60])=false) (h0:(C.cps.toList == [0])=false) (hs:fZ.any (·== C)=false) (hun:∀(rm:Nat) (b2:Addr),aj (vs w b rm) pg (wb w b) (HT w b 3 10 a.st a.sd a.m a.nl a.ds a.dsd a.er b2 T D n1 pos1 u z p1 X2 J B H I U R) [a.st,a.sd,a.ds,a.dsd,a.m,b2]) (hR:(C:Str)++R=R1) (hRl:R1.length≤sizeLine):dF w b a 304 mt (eH o) T X n pos G pc p [] true 304 none X2 J B H I U [(1,R1)]:=a' [0,1,2,3,4,5,6,7,8,11] (yu w b a T X D X2 C R R1 n pos G pc p n1 pos1 u z p1 J B H I U) (fun Ok Fin sm mo dn cn=>cn (mo fun b1=>sm (hch _) fun _=>sm (sq h38) fun _=>sm (sq h60) fun _=>sm (sq h0) fun _=>sm (Mg hs) fun _=>mo fun b2=>sm (hun _ b2) fun _=>mo fun b3=>sm Hj fun _=>sm (bf _ _ _ hR hRl) fun _=>dn [mt,a.tk,a.tkd,a.st,a.sd,a.ds,a.dsd,a.m,a.q,b1,b2,b3] mt [⟨b3,1,R1,none⟩] (kL o) rfl) fun _ _ _=>by generalize b=c; generalize o=d; revert c; revert d; apply bW <;> intros <;> kernel_rfl) rfl
end
noncomputable section
variable (w:World) (a:Ad) (mt cu cr:Addr) (T X J X2 C C2 D D1 R R1 RX X3:Str) (n pos U pc p n1 pos1 u B p1 n2 d G H p2 pos3 n3 n4 pos4:Int) (y:Nat→Nat→Tok) (z:Nat→Tok) (tb:Nat) (b1:Addr) (I:Nat→Nat→Tok) (t0:Tok) (y0:Nat→Nat→Tok) (tb0:Nat) (v:Bool) (o:Option Addr) (b:Bool)
noncomputable def LF:List an:=oh (dE++[fun ks=>ug w b 3 0 a.st a.sd a.m a.nl a.ds a.dsd a.er 0 T X n pos U pc p J n1 pos1 u B p1 R,fun ks=>dh w b a T J n1 pos1 u B p1 X2 n2 d G H p2 (cond v (.str s!">" 0) .none)]) 0x166605000505050005d0000605500000050005d06df0870000700070007605500050005dcccceeeeeeeed06bf0000cccc605500050005ddd9c8fddd06cf0870000700070007605500050005d0dd0014
noncomputable def HZ:List an:=oh (dE++[fun ks=>ug w b 3 0 a.st a.sd a.m a.nl a.ds a.dsd a.er 0 T X n pos U pc p J n1 pos1 u B p1 R,fun ks=>dh w b a T J n1 pos1 u B p1 X2 n2 d G H p2 (cond v (.str s!">" 0) .none)]) 0x1ddd06cf0870000700070007605500050005d0dd0014
noncomputable def LG:az:=aN (vs w b 200) 4000 (.inn (ay z (.call (.ref mt) ⟨[],[]⟩)) .root) (start false (ay z (.call (.ref mt) ⟨[],[]⟩))) (LF w a T X J X2 R n pos U pc p n1 pos1 u B p1 n2 d G H p2 v b) (fillAll y 0 [(mt,bA 598 a.tk),(a.tk,inst 762 a.tkd),(a.tkd,fY (pr w b) a.st a.lf mt (eH o) a.q),(a.st,inst 166 a.sd),(a.sd,eB (pr w b) a.m a.nl a.ds a.er X n pos U pc),(a.ds,inst 73 a.dsd),(a.dsd,gJ (pr w b) T p),(a.m,bA 148 a.st),(a.q,aV [])]) tb 0 []
abbrev H0:Prop:=(LG w a mt T X J X2 R n pos U pc p n1 pos1 u B p1 n2 d G H p2 y z tb v o b).norm [0,1,2,3,4,5,6,7,8,9]=.more fun b1=>.sum (ug w b 3 0 a.st a.sd a.m a.nl a.ds a.dsd a.er 0 T X n pos U pc p J n1 pos1 u B p1 R) [a.st,a.sd,a.ds,a.dsd,a.m] fun I=>.call 1500 (bc [mt,a.tk,a.tkd,a.st,a.sd,a.ds,a.dsd,a.m,a.q,b1] (HZ w a T X J X2 R n pos U pc p n1 pos1 u B p1 n2 d G H p2 v b) []) ((.call (.builtin "str.replace") ⟨[(.str R (I 0 0)),(.str ⟨⟨[0]⟩⟩ ((I 0 1) + 1)),(.str ⟨⟨[65533]⟩⟩ ((I 0 1) + 2))],[]⟩)) [(mt,bA 598 a.tk),(a.tk,inst 762 a.tkd),(a.tkd,fY (pr w b) a.st a.lf mt (eH o) a.q),(a.st,inst 166 a.sd),(a.sd,eB (pr w b) a.m a.nl a.ds a.er J n1 pos1 u B),(a.ds,inst 73 a.dsd),(a.dsd,gJ (pr w b) T p1),(a.m,bA 148 a.st),(a.q,aV []),(b1,bq [!["self",.ref a.tk],!["data",.str R 0]])] fun _ _ _=>.failW ""
theorem H1:H0 w a mt T X J X2 R n pos U pc p n1 pos1 u B p1 n2 d G H p2 y z tb v o b:=by cases v <;> apply bW <;> intros <;> kernel_rfl
noncomputable def H2:List an:=oh (dE++[fun ks=>ug w b 3 0 a.st a.sd a.m a.nl a.ds a.dsd a.er 0 T X n pos U pc p J n1 pos1 u B p1 R,fun ks=>dh w b a T J n1 pos1 u B p1 X2 n2 d G H p2 (cond v (.str s!">" 0) .none)]) 0x166605000505050005d0000605500000050005d06df0870000700070007605500050005dcccceeeeeeeed06bf0000cccc605500050005ddd
abbrev H3:Prop:=((((LG w a mt T X J X2 R n pos U pc p n1 pos1 u B p1 n2 d G H p2 y z tb v o b).nm b1).ns I).nc (aA t0 (.ok (.ret (.str R1 0)))) (fillAll y0 0 [(mt,bA 598 a.tk),(a.tk,inst 762 a.tkd),(a.tkd,fY (pr w b) a.st a.lf mt (eH o) a.q),(a.st,inst 166 a.sd),(a.sd,eB (pr w b) a.m a.nl a.ds a.er J n1 pos1 u B),(a.ds,inst 73 a.dsd),(a.dsd,gJ (pr w b) T p1),(a.m,bA 148 a.st),(a.q,aV []),(b1,bq [!["self",.ref a.tk],!["data",.str R 0]])]) tb0).norm [11,1,2,3,4,5,6,7,8,10]=.more fun D=>.sum (xN s!"Comment" 6) [] fun u1_2=>.sum (dh w b a T J n1 pos1 u B p1 X2 n2 d G H p2 (cond v (.str s!">" 0) .none)) [a.st,a.sd,a.ds,a.dsd,a.m] fun u1_3=>.more fun Kb2=>.done (bc [mt,a.tk,a.tkd,a.st,a.sd,a.ds,a.dsd,a.m,a.q,b1,D,Kb2] (H2 w a T X J X2 R n pos U pc p n1 pos1 u B p1 n2 d G H p2 v b) []) (.ok (.ret (.bool true))) [(Kb2,bA 304 a.tk),(a.tk,inst 762 a.tkd),(a.tkd,fY (pr w b) a.st a.lf Kb2 (eH o) a.q),(a.st,inst 166 a.sd),(a.sd,eB (pr w b) a.m a.nl a.ds a.er X2 n2 d G H),(a.ds,inst 73 a.dsd),(a.dsd,gJ (pr w b) T p2),(a.m,bA 148 a.st),(a.q,aV [(.ref D)]),(D,fI [!["type",.int 6 0],!["data",.str R1 0]])]
theorem H4:H3 w a mt T X J X2 R R1 n pos U pc p n1 pos1 u B p1 n2 d G H p2 y z tb b1 I t0 y0 tb0 v o b:=by cases v <;> apply bW <;> intros <;> kernel_rfl
end
theorem H5 {w:World} {b:Bool} {a:Ad} {mt:Addr} {o:Option Addr} {T X J X2 R R1:Str} {n pos U pc p n1 pos1 u B p1 n2 d G H p2:Int} {v:Bool} (hun:∀rm,aj (vs w b rm) pg (wb w b) (ug w b 3 0 a.st a.sd a.m a.nl a.ds a.dsd a.er 0 T X n pos U pc p J n1 pos1 u B p1 R) [a.st,a.sd,a.ds,a.dsd,a.m]) (hch2:dB w b a T J n1 pos1 u B p1 X2 n2 d G H p2 (cond v (.str s!">" 0) .none)) (hrep:Txt.replace R ⟨⟨[0]⟩⟩ ⟨⟨[65533]⟩⟩=R1) (hb:R.length + (R.length + 1) * Str.length ⟨⟨[65533]⟩⟩≤16777216):
  dF w b a 598 mt (eH o) T X n pos U pc p [] true 304 none X2 n2 d G H p2 [(6,R1)]:=fun A s rm tp at_ hi nd=>
 dM false (V:=vs w b 200) rfl rfl rm rfl tp at_ hi nd fun y z=>⟨4000,LF w a T X J X2 R n pos U pc p n1 pos1 u B p1 n2 d G H p2 v b,iH (sel:=[0,1,2,3,4,5,6,7,8,9]) rfl (H1 w a mt T X J X2 R n pos U pc p n1 pos1 u B p1 n2 d G H p2 y z _ v o b) (bE fun b1=>Dt (hun _) fun I hu=>pn fun A' s1 rm' P=>jm (Nat.succ_ne_zero _) (Nat.succ_ne_zero _) (fun h=>Nat.succ_ne_self _ h.symm) (by decide) hb fun v' s' ev D=>fun htk=>by
  exact⟨.ok (.ret (.str R1 0)),_,⟨by rw [←hrep]; exact congrArg (fun x=>Except.ok (Flow.ret x)) ev,fun e he=>by rw [D.1]; exact P.at_ e he,by rw [D.1]; exact P.top,P.hi,P.nd⟩,fun y0 t0=>iH (sel:=[11,1,2,3,4,5,6,7,8,10]) rfl (H4 w a mt T X J X2 R R1 n pos U pc p n1 pos1 u B p1 n2 d G H p2 y z _ b1 I t0 y0 _ v o b) (bE fun Kb1=>ji (dC w b _ _ 6 _ (by kernel_rfl) rfl) fun u1_2=>ji (hch2 _) fun u1_3=>bE fun Kb2=>g9 fun r' s2 hr' P2=>⟨dI hr',pN (a:=a) (M:=Kb2) (cv:=(eH o)) (E:=[]) (R:=[(Kb1,fI [!["type",.int 6 0],!["data",.str R1 0]])]) (as:=[Kb1]) (P.trans (s':=s') (L':=[(mt,bA 598 a.tk),(a.tk,inst 762 a.tkd),(a.tkd,fY (pr w b) a.st a.lf mt (eH o) a.q),(a.st,inst 166 a.sd),(a.sd,eB (pr w b) a.m a.nl a.ds a.er J n1 pos1 u B),(a.ds,inst 73 a.dsd),(a.dsd,gJ (pr w b) T p1),(a.m,bA 148 a.st),(a.q,aV []),(b1,bq [!["self",.ref a.tk],!["data",.str R 0]])]) (fun b' o e _=>by rw [D.1]; exact e) D.2.1 D.2.2 (by rw [D.1]; exact Nat.le_refl _) htk (fun a h=>.inl h) P2) (kL o) (fun at_ hi_=>⟨CC (rest:=[]) at_ hi_ (.tail _ (.tail _ (.tail _ (.tail _ (.tail _ (.tail _ (.tail _ (.tail _ (.tail _ (.head _)))))))))) (.inl rfl),trivial⟩) rfl⟩)⟩)⟩
noncomputable section
variable (w:World) (b:Bool) (a:Ad) (mt:Addr) (o:Option Addr) (T X D X2 C:Str) (n pos G pc p n1 pos1 u z p1 H B:Int)
noncomputable def ur:List an:=oh (dE++[fun ks=>dh w b a T X n pos G pc p D n1 pos1 u z p1 (.str s!"!" 0)]) 0x166605000505050005d0000605500000050005dddd06cf0870000700070007605500050005d0dd0014
noncomputable def rB:List an:=oh (dE++[fun ks=>dh w b a T X n pos G pc p D n1 pos1 u z p1 (.str s!"/" 0)]) 0x166605000505050005d0000605500000050005ddddd06cf0870000700070007605500050005d0dd0014
noncomputable def Ed:List an:=oh (dE++[fun ks=>dh w b a T X n pos G pc p D n1 pos1 u z p1 (.str s!">" 0)]) 0x166605000505050005d0000605500000050005dcccc00ff00ff00ff00ff00ff00ff00ff00ff069f0000cccc605500050005dcccceeeeeeee068f0000cccc605500050005dd00000ddddd06cf0870000700070007605500050005d0dd0014
noncomputable def H6:List an:=oh (dE++[fun ks=>dh w b a T X n pos G pc p D n1 pos1 u z p1 (.str s!"?" 0),fun ks=>un w b a D n1 pos1 u z X2 H B (.str s!"?" 0)]) 0x166605000505050005d0000605500000050005d06df0d870000700070007605500050005dcccceeeeeeee068f0000cccc605500050005ddd00000ddddd06cf0870000700070007605500050005d0dd0014
noncomputable def ut:List an:=oh (dE++[fun ks=>dh w b a T X n pos G pc p D n1 pos1 u z p1 (.str C 0),fun ks=>bS C s!"!" false,fun ks=>bS C s!"/" false,fun ks=>bS C s!">" false,fun ks=>bS C s!"?" false,fun ks=>px C false,fun ks=>un w b a D n1 pos1 u z X2 H B (.str C 0)]) 0x166605000505050005d0000605500000050005d072f0d870000700070007605500050005dcccc00ff00ff00ff00ff00ff00ff00ff00ff069f0000cccc605500050005dcccceeeeeeee068f0000cccc605500050005d070fd06ffd071f000d06efd06dfddd06cf0870000700070007605500050005d0dd0014
noncomputable def yx:List an:=oh (dE++[fun ks=>dh w b a T X n pos G pc p D n1 pos1 u z p1 .none,fun ks=>un w b a D n1 pos1 u z X2 H B .none]) 0x166605000505050005d0000605500000050005d06df0d870000700070007605500050005dcccc00ff00ff00ff00ff00ff00ff00ff00ff069f0000cccc605500050005dcccceeeeeeee068f0000cccc605500050005ddd00000ddddd06cf0870000700070007605500050005d0dd0014
variable {w b a mt o T X D X2 C n pos G pc p n1 pos1 u z p1 H B}
theorem rC (hch:dB w b a T X n pos G pc p D n1 pos1 u z p1 (.str s!"!" 0)):dF w b a 353 mt (eH o) T X n pos G pc p [] true 605 none D n1 pos1 u z p1 []:=a' [10,1,2,3,4,5,6,7,8] (ur w b a T X D n pos G pc p n1 pos1 u z p1) (fun Ok Fin J I U cn=>cn (I fun b1=>J (hch _) fun _=>I fun b2=>U [mt,a.tk,a.tkd,a.st,a.sd,a.ds,a.dsd,a.m,a.q,b1,b2] b2 [] (kL o) rfl) fun _ _ _=>by generalize b=c; generalize o=d; revert c; revert d; apply bW <;> intros <;> kernel_rfl) rfl
theorem nD (hch:dB w b a T X n pos G pc p D n1 pos1 u z p1 (.str s!"/" 0)):dF w b a 353 mt (eH o) T X n pos G pc p [] true 360 none D n1 pos1 u z p1 []:=a' [10,1,2,3,4,5,6,7,8] (rB w b a T X D n pos G pc p n1 pos1 u z p1) (fun Ok Fin J I U cn=>cn (I fun b1=>J (hch _) fun _=>I fun b2=>U [mt,a.tk,a.tkd,a.st,a.sd,a.ds,a.dsd,a.m,a.q,b1,b2] b2 [] (kL o) rfl) fun _ _ _=>by generalize b=c; generalize o=d; revert c; revert d; apply bW <;> intros <;> kernel_rfl) rfl
theorem yy (hch:dB w b a T X n pos G pc p D n1 pos1 u z p1 (.str s!">" 0)):dF w b a 353 mt (eH o) T X n pos G pc p [] true 304 none D n1 pos1 u z p1 [(7,j3),(1,s!"<>")]:=a' [12,1,2,3,4,5,6,7,8,10,11] (Ed w b a T X D n pos G pc p n1 pos1 u z p1) (fun Ok Fin J I dn cn=>cn (I fun b1=>J (hch _) fun _=>I fun b2=>J hM fun _=>I fun U=>J Hj fun _=>I fun b4=>dn [mt,a.tk,a.tkd,a.st,a.sd,a.ds,a.dsd,a.m,a.q,b1,b2,U,b4] b4 [⟨b2,7,j3,none⟩,⟨U,1,s!"<>",none⟩] (kL o) rfl) fun _ _ _=>by generalize b=c; generalize o=d; revert c; revert d; apply bW <;> intros <;> kernel_rfl) rfl
theorem Ee (hch:dB w b a T X n pos G pc p D n1 pos1 u z p1 (.str s!"?" 0)) (hung:sJ w b a D n1 pos1 u z X2 H B (.str s!"?" 0)):dF w b a 353 mt (eH o) T X n pos G pc p [] true 598 none X2 H B u z p1 [(7,fN)]:=a' [11,1,2,3,4,5,6,7,8,10] (H6 w b a T X D X2 n pos G pc p n1 pos1 u z p1 H B) (fun Ok Fin I J dn cn=>cn (J fun b1=>I (hch _) fun _=>J fun b2=>I hM fun _=>I (hung _) fun _=>J fun U=>dn [mt,a.tk,a.tkd,a.st,a.sd,a.ds,a.dsd,a.m,a.q,b1,b2,U] U [⟨b2,7,fN,none⟩] (kL o) rfl) fun _ _ _=>by generalize b=c; generalize o=d; revert c; revert d; apply bW <;> intros <;> kernel_rfl) rfl
theorem rD (hch:dB w b a T X n pos G pc p D n1 pos1 u z p1 (.str C 0)) (h33:(C.cps.toList == [33])=false) (h47:(C.cps.toList == [47])=false) (h62:(C.cps.toList == [62])=false) (h63:(C.cps.toList == [63])=false) (ha:eG.any (·== C)=false) (hung:sJ w b a D n1 pos1 u z X2 H B (.str C 0)):dF w b a 353 mt (eH o) T X n pos G pc p [] true 304 none X2 H B u z p1 [(7,kM),(1,s!"<")]:=a' [12,1,2,3,4,5,6,7,8,10,11] (ut w b a T X D X2 C n pos G pc p n1 pos1 u z p1 H B) (fun Ok Fin I J dn cn=>cn (J fun b1=>I (hch _) fun _=>I (sq h33) fun _=>I (sq h47) fun _=>I (LE ha) fun _=>I (sq h62) fun _=>I (sq h63) fun _=>J fun b2=>I hM fun _=>J fun U=>I Hj fun _=>I (hung _) fun _=>J fun b4=>dn [mt,a.tk,a.tkd,a.st,a.sd,a.ds,a.dsd,a.m,a.q,b1,b2,U,b4] b4 [⟨b2,7,kM,none⟩,⟨U,1,s!"<",none⟩] (kL o) rfl) fun _ _ _=>by generalize b=c; generalize o=d; revert c; revert d; apply bW <;> intros <;> kernel_rfl) rfl
theorem uu (hch:dB w b a T X n pos G pc p D n1 pos1 u z p1 .none) (hung:sJ w b a D n1 pos1 u z X2 H B .none):dF w b a 353 mt (eH o) T X n pos G pc p [] true 304 none X2 H B u z p1 [(7,kM),(1,s!"<")]:=a' [12,1,2,3,4,5,6,7,8,10,11] (yx w b a T X D X2 n pos G pc p n1 pos1 u z p1 H B) (fun Ok Fin I J dn cn=>cn (J fun b1=>I (hch _) fun _=>J fun b2=>I hM fun _=>J fun U=>I Hj fun _=>I (hung _) fun _=>J fun b4=>dn [mt,a.tk,a.tkd,a.st,a.sd,a.ds,a.dsd,a.m,a.q,b1,b2,U,b4] b4 [⟨b2,7,kM,none⟩,⟨U,1,s!"<",none⟩] (kL o) rfl) fun _ _ _=>by generalize b=c; generalize o=d; revert c; revert d; apply bW <;> intros <;> kernel_rfl) rfl
end
noncomputable section
variable (w:World) (b:Bool) (a:Ad) (mt:Addr) (o:Option Addr) (T X D X2 C:Str) (n pos G pc p n1 pos1 u z p1 H B:Int)
noncomputable def Ef:List an:=oh (dE++[fun ks=>dh w b a T X n pos G pc p D n1 pos1 u z p1 (.str s!">" 0)]) 0x166605000505050005d0000605500000050005dcccceeeeeeee068f0000cccc605500050005dd00000ddd06cf0870000700070007605500050005d0dd0014
noncomputable def yz:List an:=oh (dE++[fun ks=>dh w b a T X n pos G pc p D n1 pos1 u z p1 .none]) 0x166605000505050005d0000605500000050005dcccc00ff00ff00ff00ff00ff00ff00ff00ff069f0000cccc605500050005dcccceeeeeeee068f0000cccc605500050005d0dd00000ddd06cf0870000700070007605500050005d0dd0014
noncomputable def uv:List an:=oh (dE++[fun ks=>dh w b a T X n pos G pc p D n1 pos1 u z p1 (.str C 0),fun ks=>px C false,fun ks=>bS C s!">" false,fun ks=>un w b a D n1 pos1 u z X2 H B (.str C 0)]) 0x166605000505050005d0000605500000050005d06ff0d870000700070007605500050005dcccceeeeeeeeeeee00ff00ff00ff00ffd068f0000cccc605500050005d0d06efd06df000ddd06cf0870000700070007605500050005d0dd0014
variable {w b a mt o T X D X2 C n pos G pc p n1 pos1 u z p1 H B}
theorem yA (hch:dB w b a T X n pos G pc p D n1 pos1 u z p1 (.str s!">" 0)):dF w b a 360 mt (eH o) T X n pos G pc p [] true 304 none D n1 pos1 u z p1 [(7,iv)]:=a' [11,1,2,3,4,5,6,7,8,10] (Ef w b a T X D n pos G pc p n1 pos1 u z p1) (fun Ok Fin J I dn cn=>cn (I fun b1=>J (hch _) fun _=>I fun b2=>J hM fun _=>I fun U=>dn [mt,a.tk,a.tkd,a.st,a.sd,a.ds,a.dsd,a.m,a.q,b1,b2,U] U [⟨b2,7,iv,none⟩] (kL o) rfl) fun _ _ _=>by generalize b=c; generalize o=d; revert c; revert d; apply bW <;> intros <;> kernel_rfl) rfl
theorem uw (hch:dB w b a T X n pos G pc p D n1 pos1 u z p1 .none):dF w b a 360 mt (eH o) T X n pos G pc p [] true 304 none D n1 pos1 u z p1 [(7,j4),(1,s!"</")]:=a' [12,1,2,3,4,5,6,7,8,10,11] (yz w b a T X D n pos G pc p n1 pos1 u z p1) (fun Ok Fin J I dn cn=>cn (I fun b1=>J (hch _) fun _=>I fun b2=>J hM fun _=>I fun U=>J Hj fun _=>I fun b4=>dn [mt,a.tk,a.tkd,a.st,a.sd,a.ds,a.dsd,a.m,a.q,b1,b2,U,b4] b4 [⟨b2,7,j4,none⟩,⟨U,1,s!"</",none⟩] (kL o) rfl) fun _ _ _=>by generalize b=c; generalize o=d; revert c; revert d; apply bW <;> intros <;> kernel_rfl) rfl
theorem rE (hch:dB w b a T X n pos G pc p D n1 pos1 u z p1 (.str C 0)) (ha:eG.any (·== C)=false) (h62:(C.cps.toList == [62])=false) (hung:sJ w b a D n1 pos1 u z X2 H B (.str C 0)):dF w b a 360 mt (eH o) T X n pos G pc p [] true 598 none X2 H B u z p1 [(7,fO)]:=a' [12,1,2,3,4,5,6,7,8,10] (uv w b a T X D X2 C n pos G pc p n1 pos1 u z p1 H B) (fun Ok Fin I J dn cn=>cn (J fun b1=>I (hch _) fun _=>I (LE ha) fun _=>I (sq h62) fun _=>J fun b2=>I hM fun _=>J fun U=>I (hung _) fun _=>J fun b4=>dn [mt,a.tk,a.tkd,a.st,a.sd,a.ds,a.dsd,a.m,a.q,b1,b2,U,b4] b4 [⟨b2,7,fO,some U⟩] (kL o) rfl) fun _ _ _=>by generalize b=c; generalize o=d; revert c; revert d; apply bW <;> intros <;> kernel_rfl) rfl
end
noncomputable section
variable (w:World) (b:Bool) (a:Ad) (mt:Addr) (o:Option Addr) (T X J X2 C RX X3:Str) (n pos U pc p n1 pos1 z B p1 I u D G p2 pos3 n3 n4 H:Int)
noncomputable def Eg:List an:=oh (dE++[fun ks=>dh w b a T X n pos U pc p J n1 pos1 z B p1 (.str s!"-" 0),fun ks=>dh w b a T J n1 pos1 z B p1 X2 I u D G p2 (.str s!"-" 0)]) 0x166605000505050005d0000605500000050005d66605000505050005d00ff00ff00ff00ff00ff00ff00ff00ff06bf0000eeeeedeeee06df0870000700070007605500050005deeeedeeeeeddd06cf0870000700070007605500050005d0dd0014
noncomputable def nE:List an:=oh (dE++[fun ks=>dh w b a T X n pos U pc p J n1 pos1 z B p1 (.str s!"-" 0),fun ks=>dh w b a T J n1 pos1 z B p1 X2 I u D G p2 (.str C 0),fun ks=>bS C s!"-" false,fun ks=>un w b a X2 I u D G RX n3 pos3 (.str C 0),fun ks=>un w b a RX n3 pos3 D G X3 n4 H (.str s!"-" 0)]) 0x166605000505050005d0000605500000050005deeeeed070f0eeeeeeeeed870000700070007605500050005deeeeed06ff0eeeeeeeeed870000700070007605500050005deeeeedcccc00ff00ff00ff00ff00ff00ff00ff00ff068f0000cccc605500050005d06efeeeeedeeee06df0870000700070007605500050005deeeedeeeeeddd06cf0870000700070007605500050005d0dd0014
noncomputable def rF:List an:=oh (dE++[fun ks=>dh w b a T X n pos U pc p J n1 pos1 z B p1 (.str s!"-" 0),fun ks=>dh w b a T J n1 pos1 z B p1 X2 I u D G p2 .none,fun ks=>un w b a X2 I u D G X2 I u .none,fun ks=>un w b a X2 I u D G X3 n4 H (.str s!"-" 0)]) 0x166605000505050005d0000605500000050005deeeeed06ff0eeeeeeeeed870000700070007605500050005deeeeed06ef0eeeeeeeeed870000700070007605500050005deeeeedcccc00ff00ff00ff00ff00ff00ff00ff00ff068f0000cccc605500050005deeeeedeeee06df0870000700070007605500050005deeeedeeeeeddd06cf0870000700070007605500050005d0dd0014
noncomputable def ux:List an:=oh (dE++[fun ks=>dh w b a T X n pos U pc p J n1 pos1 z B p1 (.str C 0),fun ks=>bS C s!"-" false,fun ks=>x4 (dL ks 11) 11 (aR [s!"d",s!"D"]) C false,fun ks=>un w b a J n1 pos1 z B X2 I u (.str C 0)]) 0x166605000505050005d0000605500000050005deeeeed06ff0eeeeeeeeed870000700070007605500050005deeeeedcccc010f010f010f010f010f010f010f010f068f0000cccc605500050005d06ef00ff00ffeeeeed06dfeeeeeddd06cf0870000700070007605500050005d0dd0014
noncomputable def yB:List an:=oh (dE++[fun ks=>dh w b a T X n pos U pc p J n1 pos1 z B p1 .none,fun ks=>un w b a J n1 pos1 z B X2 I u .none]) 0x166605000505050005d0000605500000050005deeeeed06df0eeeeeeeeed870000700070007605500050005deeeeedcccc010f010f010f010f010f010f010f010f068f0000cccc605500050005d00ff00ff00ff00ffeeeeedeeeeeddd06cf0870000700070007605500050005d0dd0014
variable {w b a mt o T X J X2 C RX X3 n pos U pc p n1 pos1 z B p1 I u D G p2 pos3 n3 n4 H}
theorem yC (hch:dB w b a T X n pos U pc p J n1 pos1 z B p1 (.str s!"-" 0)) (hch2:dB w b a T J n1 pos1 z B p1 X2 I u D G p2 (.str s!"-" 0)):dF w b a 605 mt (eH o) T X n pos U pc p [] true 612 (some ⟨⟨[]⟩⟩) X2 I u D G p2 []:=a' [12,1,2,3,4,5,6,7,8,11] (Eg w b a T X J X2 n pos U pc p n1 pos1 z B p1 I u D G p2) (fun Ok Fin sm mo dn cn=>cn (mo fun b1=>sm (hch _) fun _=>mo fun b2=>sm (hch2 _) fun _=>mo fun b3=>sm Md fun _=>mo fun b4=>dn [mt,a.tk,a.tkd,a.st,a.sd,a.ds,a.dsd,a.m,a.q,b1,b2,b3,b4] b4 [] (.yes b3 ⟨⟨[]⟩⟩) rfl) fun _ _ _=>by generalize b=c; generalize o=d; revert c; revert d; apply bW <;> intros <;> kernel_rfl) rfl
theorem lV (hch:dB w b a T X n pos U pc p J n1 pos1 z B p1 (.str s!"-" 0)) (hch2:dB w b a T J n1 pos1 z B p1 X2 I u D G p2 (.str C 0)) (h45:(C.cps.toList == [45])=false) (hung:sJ w b a X2 I u D G RX n3 pos3 (.str C 0)) (hung2:sJ w b a RX n3 pos3 D G X3 n4 H (.str s!"-" 0)):dF w b a 605 mt (eH o) T X n pos U pc p [] true 598 none X3 n4 H D G p2 [(7,ej)]:=a' [12,1,2,3,4,5,6,7,8,11] (nE w b a T X J X2 C RX X3 n pos U pc p n1 pos1 z B p1 I u D G p2 pos3 n3 n4 H) (fun Ok Fin sm mo dn cn=>cn (mo fun b1=>sm (hch _) fun _=>mo fun b2=>sm (hch2 _) fun _=>sm (sq h45) fun _=>mo fun b3=>sm hM fun _=>sm (hung _) fun _=>sm (hung2 _) fun _=>mo fun b4=>dn [mt,a.tk,a.tkd,a.st,a.sd,a.ds,a.dsd,a.m,a.q,b1,b2,b3,b4] b4 [⟨b3,7,ej,none⟩] (kL o) rfl) fun _ _ _=>by generalize b=c; generalize o=d; revert c; revert d; apply bW <;> intros <;> kernel_rfl) rfl
theorem nG (hch:dB w b a T X n pos U pc p J n1 pos1 z B p1 (.str s!"-" 0)) (hch2:dB w b a T J n1 pos1 z B p1 X2 I u D G p2 .none) (hung:sJ w b a X2 I u D G X2 I u .none) (hung2:sJ w b a X2 I u D G X3 n4 H (.str s!"-" 0)):dF w b a 605 mt (eH o) T X n pos U pc p [] true 598 none X3 n4 H D G p2 [(7,ej)]:=a' [12,1,2,3,4,5,6,7,8,11] (rF w b a T X J X2 X3 n pos U pc p n1 pos1 z B p1 I u D G p2 n4 H) (fun Ok Fin sm mo dn cn=>cn (mo fun b1=>sm (hch _) fun _=>mo fun b2=>sm (hch2 _) fun _=>mo fun b3=>sm hM fun _=>sm (hung _) fun _=>sm (hung2 _) fun _=>mo fun b4=>dn [mt,a.tk,a.tkd,a.st,a.sd,a.ds,a.dsd,a.m,a.q,b1,b2,b3,b4] b4 [⟨b3,7,ej,none⟩] (kL o) rfl) fun _ _ _=>by generalize b=c; generalize o=d; revert c; revert d; apply bW <;> intros <;> kernel_rfl) rfl
theorem rG (hch:dB w b a T X n pos U pc p J n1 pos1 z B p1 (.str C 0)) (h45:(C.cps.toList == [45])=false) (hd:([s!"d",s!"D"]:List Str).any (·== C)=false) (hung:sJ w b a J n1 pos1 z B X2 I u (.str C 0)):dF w b a 605 mt (eH o) T X n pos U pc p [] true 598 none X2 I u z B p1 [(7,ej)]:=a' [13,1,2,3,4,5,6,7,8,12] (ux w b a T X J X2 C n pos U pc p n1 pos1 z B p1 I u) (fun Ok Fin sm mo dn cn=>cn (mo fun b1=>sm (hch _) fun _=>mo fun b2=>sm (sq h45) fun _=>mo fun b3=>sm (i' b3 11 [s!"d",s!"D"] _ _ hd) fun _=>mo fun b4=>sm hM fun _=>sm (hung _) fun _=>mo fun b5=>dn [mt,a.tk,a.tkd,a.st,a.sd,a.ds,a.dsd,a.m,a.q,b1,b2,b3,b4,b5] b5 [⟨b4,7,ej,none⟩] (kL o) rfl) fun _ _ _=>by generalize b=c; generalize o=d; revert c; revert d; apply bW <;> intros <;> kernel_rfl) rfl
theorem uy (hch:dB w b a T X n pos U pc p J n1 pos1 z B p1 .none) (hung:sJ w b a J n1 pos1 z B X2 I u .none):dF w b a 605 mt (eH o) T X n pos U pc p [] true 598 none X2 I u z B p1 [(7,ej)]:=a' [13,1,2,3,4,5,6,7,8,12] (yB w b a T X J X2 n pos U pc p n1 pos1 z B p1 I u) (fun Ok Fin sm mo dn cn=>cn (mo fun b1=>sm (hch _) fun _=>mo fun b2=>mo fun b3=>mo fun b4=>sm hM fun _=>sm (hung _) fun _=>mo fun b5=>dn [mt,a.tk,a.tkd,a.st,a.sd,a.ds,a.dsd,a.m,a.q,b1,b2,b3,b4,b5] b5 [⟨b4,7,ej,none⟩] (kL o) rfl) fun _ _ _=>by generalize b=c; generalize o=d; revert c; revert d; apply bW <;> intros <;> kernel_rfl) rfl
end
noncomputable section
variable (w:World) (b:Bool) (a:Ad) (mt z:Addr) (T X B C D D1:Str) (n pos G pc p n1 pos1 d u p1:Int)
noncomputable def uz:List an:=oh (dE++[fun ks=>dh w b a T X n pos G pc p B n1 pos1 d u p1 (.str s!"-" 0)]) 0x166605000505050005e0000605500000050005eeee06cf0870000700070007605500050005e0ee0014
noncomputable def Eh:List an:=oh (dE++[fun ks=>dh w b a T X n pos G pc p B n1 pos1 d u p1 (.str s!">" 0)]) 0x166605000505050005e0000605500000050005ecccc605500050005ecccc605500050005ecccc00ff00ff00ff00ff00ff00ff00ff00ff068f0000cccc605500050005eeeeee06cf0870000700070007605500050005e0ee0014
noncomputable def yD:List an:=oh (dE++[fun ks=>dh w b a T X n pos G pc p B n1 pos1 d u p1 .none]) 0x166605000505050005e0000605500000050005ecccc605500050005ecccc605500050005ecccc00ff00ff00ff00ff00ff00ff00ff00ff068f0000cccc605500050005e0eeeeee06cf0870000700070007605500050005e0ee0014
noncomputable def uA:List an:=oh (dE++[fun ks=>dh w b a T X n pos G pc p B n1 pos1 d u p1 (.str C 0),fun ks=>bS C s!"-" false,fun ks=>bS C ⟨⟨[0]⟩⟩ false,fun ks=>bS C s!">" false,fun ks=>rz w b z D,fun ks=>db D C D1,fun ks=>rA w b z D D1]) 0x166605000505050005e0000605500000050005e072fdd071fe070fdd605500050005e0e06ffe06efe06dfeee06cf0870000700070007605500050005e0ee0014
variable {w b a mt z T X B C D D1 n pos G pc p n1 pos1 d u p1}
theorem rH (hch:dB w b a T X n pos G pc p B n1 pos1 d u p1 (.str s!"-" 0)):dF w b a 612 mt (.ref z) T X n pos G pc p [(z,cV w b D)] true 619 (some D) B n1 pos1 d u p1 []:=a' [11,1,2,3,4,5,6,7,8,9] (uz w b a T X B n pos G pc p n1 pos1 d u p1) (fun Ok Fin I H J U=>U (H fun b1=>I (hch _) fun _=>H fun b2=>J [mt,a.tk,a.tkd,a.st,a.sd,a.ds,a.dsd,a.m,a.q,z,b1,b2] b2 [] (.yes z D) rfl) fun _ _ _=>by generalize b=c; revert c; apply bh <;> kernel_rfl) rfl
theorem yE (hch:dB w b a T X n pos G pc p B n1 pos1 d u p1 (.str s!">" 0)):dF w b a 612 mt (.ref z) T X n pos G pc p [(z,cV w b D)] true 304 none B n1 pos1 d u p1 [(7,iK),(6,D)]:=a' [12,1,2,3,4,5,6,7,8,11,9] (Eh w b a T X B n pos G pc p n1 pos1 d u p1) (fun Ok Fin I H U cn=>cn (H fun b1=>I (hch _) fun _=>H fun b2=>I hM fun _=>H fun J=>U [mt,a.tk,a.tkd,a.st,a.sd,a.ds,a.dsd,a.m,a.q,z,b1,b2,J] J [⟨b2,7,iK,none⟩,⟨z,6,D,none⟩] (.noR z) rfl) fun _ _ _=>by generalize b=c; revert c; apply bh <;> kernel_rfl) rfl
theorem uB (hch:dB w b a T X n pos G pc p B n1 pos1 d u p1 .none):dF w b a 612 mt (.ref z) T X n pos G pc p [(z,cV w b D)] true 304 none B n1 pos1 d u p1 [(7,cO),(6,D)]:=a' [12,1,2,3,4,5,6,7,8,11,9] (yD w b a T X B n pos G pc p n1 pos1 d u p1) (fun Ok Fin I H U cn=>cn (H fun b1=>I (hch _) fun _=>H fun b2=>I hM fun _=>H fun J=>U [mt,a.tk,a.tkd,a.st,a.sd,a.ds,a.dsd,a.m,a.q,z,b1,b2,J] J [⟨b2,7,cO,none⟩,⟨z,6,D,none⟩] (.noR z) rfl) fun _ _ _=>by generalize b=c; revert c; apply bh <;> kernel_rfl) rfl
theorem rI (hch:dB w b a T X n pos G pc p B n1 pos1 d u p1 (.str C 0)) (h45:(C.cps.toList == [45])=false) (h0:(C.cps.toList == [0])=false) (h62:(C.cps.toList == [62])=false) (hD:(D:Str)++C=D1) (hDl:D1.length≤sizeLine):dF w b a 612 mt (.ref z) T X n pos G pc p [(z,cV w b D)] true 626 (some D1) B n1 pos1 d u p1 []:=a' [11,1,2,3,4,5,6,7,8,9] (uA w b a z T X B C D D1 n pos G pc p n1 pos1 d u p1) (fun Ok Fin H I J U=>U (I fun b1=>H (hch _) fun _=>H (sq h45) fun _=>H (sq h0) fun _=>H (sq h62) fun _=>H (sK z D) fun _=>H (bf _ _ _ hD hDl) fun _=>H (sM z D D1) fun _=>I fun b2=>J [mt,a.tk,a.tkd,a.st,a.sd,a.ds,a.dsd,a.m,a.q,z,b1,b2] b2 [] (.yes z D1) rfl) fun _ _ _=>by generalize b=c; revert c; apply bh <;> kernel_rfl) rfl
end
noncomputable section
variable (w:World) (b:Bool) (a:Ad) (mt z:Addr) (T X B C D D1 R:Str) (n pos G pc p n1 pos1 d u p1:Int)
noncomputable def rJ:List an:=oh (dE++[fun ks=>dh w b a T X n pos G pc p B n1 pos1 d u p1 (.str s!"-" 0)]) 0x166605000505050005e0000605500000050005eeee06cf0870000700070007605500050005e0ee0014
noncomputable def yF:List an:=oh (dE++[fun ks=>dh w b a T X n pos G pc p B n1 pos1 d u p1 (.str s!">" 0)]) 0x166605000505050005e0000605500000050005ecccc605500050005ecccc605500050005ecccc00ff00ff00ff00ff00ff00ff00ff00ff068f0000cccc605500050005eeeeee06cf0870000700070007605500050005e0ee0014
noncomputable def uC:List an:=oh (dE++[fun ks=>dh w b a T X n pos G pc p B n1 pos1 d u p1 .none]) 0x166605000505050005e0000605500000050005ecccc605500050005ecccc605500050005ecccc00ff00ff00ff00ff00ff00ff00ff00ff068f0000cccc605500050005e0eeeeee06cf0870000700070007605500050005e0ee0014
noncomputable def rK:List an:=oh (dE++[fun ks=>dh w b a T X n pos G pc p B n1 pos1 d u p1 (.str C 0),fun ks=>bS C s!"-" false,fun ks=>bS C ⟨⟨[0]⟩⟩ false,fun ks=>bS C s!">" false,fun ks=>db s!"-" C R,fun ks=>rz w b z D,fun ks=>db D R D1,fun ks=>rA w b z D D1]) 0x166605000505050005e0000605500000050005e073fdd072f070fe071fdd605500050005e0e06ffe06efe06dfeee06cf0870000700070007605500050005e0ee0014
variable {w b a mt z T X B C D D1 R n pos G pc p n1 pos1 d u p1}
theorem nH (hch:dB w b a T X n pos G pc p B n1 pos1 d u p1 (.str s!"-" 0)):dF w b a 619 mt (.ref z) T X n pos G pc p [(z,cV w b D)] true 640 (some D) B n1 pos1 d u p1 []:=a' [11,1,2,3,4,5,6,7,8,9] (rJ w b a T X B n pos G pc p n1 pos1 d u p1) (fun Ok Fin I H J U=>U (H fun b1=>I (hch _) fun _=>H fun b2=>J [mt,a.tk,a.tkd,a.st,a.sd,a.ds,a.dsd,a.m,a.q,z,b1,b2] b2 [] (.yes z D) rfl) fun _ _ _=>by generalize b=c; revert c; apply bh <;> kernel_rfl) rfl
theorem uD (hch:dB w b a T X n pos G pc p B n1 pos1 d u p1 (.str s!">" 0)):dF w b a 619 mt (.ref z) T X n pos G pc p [(z,cV w b D)] true 304 none B n1 pos1 d u p1 [(7,iK),(6,D)]:=a' [12,1,2,3,4,5,6,7,8,11,9] (yF w b a T X B n pos G pc p n1 pos1 d u p1) (fun Ok Fin I H U cn=>cn (H fun b1=>I (hch _) fun _=>H fun b2=>I hM fun _=>H fun J=>U [mt,a.tk,a.tkd,a.st,a.sd,a.ds,a.dsd,a.m,a.q,z,b1,b2,J] J [⟨b2,7,iK,none⟩,⟨z,6,D,none⟩] (.noR z) rfl) fun _ _ _=>by generalize b=c; revert c; apply bh <;> kernel_rfl) rfl
theorem rL (hch:dB w b a T X n pos G pc p B n1 pos1 d u p1 .none):dF w b a 619 mt (.ref z) T X n pos G pc p [(z,cV w b D)] true 304 none B n1 pos1 d u p1 [(7,cO),(6,D)]:=a' [12,1,2,3,4,5,6,7,8,11,9] (uC w b a T X B n pos G pc p n1 pos1 d u p1) (fun Ok Fin I H U cn=>cn (H fun b1=>I (hch _) fun _=>H fun b2=>I hM fun _=>H fun J=>U [mt,a.tk,a.tkd,a.st,a.sd,a.ds,a.dsd,a.m,a.q,z,b1,b2,J] J [⟨b2,7,cO,none⟩,⟨z,6,D,none⟩] (.noR z) rfl) fun _ _ _=>by generalize b=c; revert c; apply bh <;> kernel_rfl) rfl
theorem nI (hch:dB w b a T X n pos G pc p B n1 pos1 d u p1 (.str C 0)) (h45:(C.cps.toList == [45])=false) (h0:(C.cps.toList == [0])=false) (h62:(C.cps.toList == [62])=false) (hR:(s!"-":Str)++C=R) (hRl:R.length≤sizeLine) (hD:(D:Str)++R=D1) (hDl:D1.length≤sizeLine):dF w b a 619 mt (.ref z) T X n pos G pc p [(z,cV w b D)] true 626 (some D1) B n1 pos1 d u p1 []:=a' [11,1,2,3,4,5,6,7,8,9] (rK w b a z T X B C D D1 R n pos G pc p n1 pos1 d u p1) (fun Ok Fin H I J U=>U (I fun b1=>H (hch _) fun _=>H (sq h45) fun _=>H (sq h0) fun _=>H (sq h62) fun _=>H (sK z D) fun _=>H (bf _ _ _ hR hRl) fun _=>H (bf _ _ _ hD hDl) fun _=>H (sM z D D1) fun _=>I fun b2=>J [mt,a.tk,a.tkd,a.st,a.sd,a.ds,a.dsd,a.m,a.q,z,b1,b2] b2 [] (.yes z D1) rfl) fun _ _ _=>by generalize b=c; revert c; apply bh <;> kernel_rfl) rfl
end
noncomputable section
variable (w:World) (b:Bool) (a:Ad) (mt z:Addr) (T X B X2 C D D1 R R1:Str) (n pos G pc p n1 pos1 d u p1 U H I J p2:Int)
noncomputable def uE:List an:=oh (dE++[fun ks=>dh w b a T X n pos G pc p B n1 pos1 d u p1 (.str s!"-" 0)]) 0x166605000505050005e0000605500000050005eeee06cf0870000700070007605500050005e0ee0014
noncomputable def yG:List an:=oh (dE++[fun ks=>dh w b a T X n pos G pc p B n1 pos1 d u p1 (.str ⟨⟨[0]⟩⟩ 0),fun ks=>rz w b z D,fun ks=>db D ⟨⟨[65533]⟩⟩ D1,fun ks=>rA w b z D D1]) 0x106ffdd06ef06dfdd605500050005ecccc00ff00ff00ff00ff00ff00ff00ff00ff068f0000cccc605500050005eeeee06cf0870000700070007605500050005e0ee0014
noncomputable def yH:List an:=oh (dE++[fun ks=>dh w b a T X n pos G pc p B n1 pos1 d u p1 .none]) 0x166605000505050005e0000605500000050005ecccc605500050005ecccc605500050005ecccc00ff00ff00ff00ff00ff00ff00ff00ff068f0000cccc605500050005e0eeeee06cf0870000700070007605500050005e0ee0014
noncomputable def uF:List an:=oh (dE++[fun ks=>dh w b a T X n pos G pc p B n1 pos1 d u p1 (.str C 0),fun ks=>bS C s!"-" false,fun ks=>bS C ⟨⟨[0]⟩⟩ false,fun ks=>rz w b z D,fun ks=>HV w b 3 11 a.st a.sd a.m a.nl a.ds a.dsd a.er (dL ks 11) T B n1 pos1 d u p1 X2 U H I J p2 R,fun ks=>db C R R1,fun ks=>db D R1 D1,fun ks=>rA w b z D D1]) 0x1073fdd072f071f070f0870000700070007605500050005ee06ffdd605500050005e0e06efe06dfeee06cf0870000700070007605500050005e0ee0014
variable {w b a mt z T X B X2 C D D1 R R1 n pos G pc p n1 pos1 d u p1 U H I J p2}
theorem rM (hch:dB w b a T X n pos G pc p B n1 pos1 d u p1 (.str s!"-" 0)):dF w b a 626 mt (.ref z) T X n pos G pc p [(z,cV w b D)] true 633 (some D) B n1 pos1 d u p1 []:=a' [11,1,2,3,4,5,6,7,8,9] (uE w b a T X B n pos G pc p n1 pos1 d u p1) (fun Ok Fin sm mo dn cn=>cn (mo fun b1=>sm (hch _) fun _=>mo fun b2=>dn [mt,a.tk,a.tkd,a.st,a.sd,a.ds,a.dsd,a.m,a.q,z,b1,b2] b2 [] (.yes z D) rfl) fun _ _ _=>by generalize b=c; revert c; apply bh <;> kernel_rfl) rfl
theorem uG (hch:dB w b a T X n pos G pc p B n1 pos1 d u p1 (.str ⟨⟨[0]⟩⟩ 0)) (hD:(D:Str)++⟨⟨[65533]⟩⟩=D1) (hDl:D1.length≤sizeLine):dF w b a 626 mt (.ref z) T X n pos G pc p [(z,cV w b D)] true 626 (some D1) B n1 pos1 d u p1 [(7,cF)]:=a' [0,1,2,3,4,5,6,7,8,9,11] (yG w b a z T X B D D1 n pos G pc p n1 pos1 d u p1) (fun Ok Fin sm mo dn cn=>cn (mo fun b1=>sm (hch _) fun _=>mo fun b2=>sm hM fun _=>sm (sK z D) fun _=>sm (bf _ _ _ hD hDl) fun _=>sm (sM z D D1) fun _=>dn [mt,a.tk,a.tkd,a.st,a.sd,a.ds,a.dsd,a.m,a.q,z,b1,b2] mt [⟨b2,7,cF,none⟩] (.yes z D1) rfl) fun _ _ _=>by generalize b=c; revert c; apply bh <;> kernel_rfl) rfl
theorem uH (hch:dB w b a T X n pos G pc p B n1 pos1 d u p1 .none):dF w b a 626 mt (.ref z) T X n pos G pc p [(z,cV w b D)] true 304 none B n1 pos1 d u p1 [(7,cO),(6,D)]:=a' [12,1,2,3,4,5,6,7,8,11,9] (yH w b a T X B n pos G pc p n1 pos1 d u p1) (fun Ok Fin sm mo dn cn=>cn (mo fun b1=>sm (hch _) fun _=>mo fun b2=>sm hM fun _=>mo fun b3=>dn [mt,a.tk,a.tkd,a.st,a.sd,a.ds,a.dsd,a.m,a.q,z,b1,b2,b3] b3 [⟨b2,7,cO,none⟩,⟨z,6,D,none⟩] (.noR z) rfl) fun _ _ _=>by generalize b=c; revert c; apply bh <;> kernel_rfl) rfl
theorem rN (hch:dB w b a T X n pos G pc p B n1 pos1 d u p1 (.str C 0)) (h45:(C.cps.toList == [45])=false) (h0:(C.cps.toList == [0])=false) (hun:∀(rm:Nat) (b2:Addr),aj (vs w b rm) pg (wb w b) (HV w b 3 11 a.st a.sd a.m a.nl a.ds a.dsd a.er b2 T B n1 pos1 d u p1 X2 U H I J p2 R) [a.st,a.sd,a.ds,a.dsd,a.m,b2]) (hR:(C:Str)++R=R1) (hRl:R1.length≤sizeLine) (hD:(D:Str)++R1=D1) (hDl:D1.length≤sizeLine):dF w b a 626 mt (.ref z) T X n pos G pc p [(z,cV w b D)] true 626 (some D1) X2 U H I J p2 []:=a' [0,1,2,3,4,5,6,7,8,9] (uF w b a z T X B X2 C D D1 R R1 n pos G pc p n1 pos1 d u p1 U H I J p2) (fun Ok Fin sm mo dn cn=>cn (mo fun b1=>sm (hch _) fun _=>sm (sq h45) fun _=>sm (sq h0) fun _=>sm (sK z D) fun _=>mo fun b2=>sm (hun _ b2) fun _=>sm (bf _ _ _ hR hRl) fun _=>sm (bf _ _ _ hD hDl) fun _=>sm (sM z D D1) fun _=>dn [mt,a.tk,a.tkd,a.st,a.sd,a.ds,a.dsd,a.m,a.q,z,b1,b2] mt [] (.yes z D1) rfl) fun _ _ _=>by generalize b=c; revert c; apply bh <;> kernel_rfl) rfl
end
noncomputable section
variable (w:World) (b:Bool) (a:Ad) (mt z:Addr) (T X B C D D1 R:Str) (n pos G pc p n1 pos1 d u p1:Int)
noncomputable def rO:List an:=oh (dE++[fun ks=>dh w b a T X n pos G pc p B n1 pos1 d u p1 (.str s!"-" 0)]) 0x166605000505050005e0000605500000050005eeee06cf0870000700070007605500050005e0ee0014
noncomputable def uI:List an:=oh (dE++[fun ks=>dh w b a T X n pos G pc p B n1 pos1 d u p1 (.str ⟨⟨[0]⟩⟩ 0),fun ks=>rz w b z D,fun ks=>db D ⟨⟨[45,65533]⟩⟩ D1,fun ks=>rA w b z D D1]) 0x166605000505050005e0000605500000050005e06ffdd06ef06dfdd605500050005ecccc00ff00ff00ff00ff00ff00ff00ff00ff068f0000cccc605500050005eeeee06cf0870000700070007605500050005e0ee0014
noncomputable def uJ:List an:=oh (dE++[fun ks=>dh w b a T X n pos G pc p B n1 pos1 d u p1 .none]) 0x166605000505050005e0000605500000050005ecccc605500050005ecccc605500050005ecccc00ff00ff00ff00ff00ff00ff00ff00ff068f0000cccc605500050005e0eeeee06cf0870000700070007605500050005e0ee0014
noncomputable def rP:List an:=oh (dE++[fun ks=>dh w b a T X n pos G pc p B n1 pos1 d u p1 (.str C 0),fun ks=>bS C s!"-" false,fun ks=>bS C ⟨⟨[0]⟩⟩ false,fun ks=>db s!"-" C R,fun ks=>rz w b z D,fun ks=>db D R D1,fun ks=>rA w b z D D1]) 0x166605000505050005e0000605500000050005e072fdd071f06ffe070fdd605500050005e0e06efe06dfeee06cf0870000700070007605500050005e0ee0014
variable {w b a mt z T X B C D D1 R n pos G pc p n1 pos1 d u p1}
theorem nJ (hch:dB w b a T X n pos G pc p B n1 pos1 d u p1 (.str s!"-" 0)):dF w b a 633 mt (.ref z) T X n pos G pc p [(z,cV w b D)] true 640 (some D) B n1 pos1 d u p1 []:=a' [11,1,2,3,4,5,6,7,8,9] (rO w b a T X B n pos G pc p n1 pos1 d u p1) (fun Ok Fin I H J U=>U (H fun b1=>I (hch _) fun _=>H fun b2=>J [mt,a.tk,a.tkd,a.st,a.sd,a.ds,a.dsd,a.m,a.q,z,b1,b2] b2 [] (.yes z D) rfl) fun _ _ _=>by generalize b=c; revert c; apply bh <;> kernel_rfl) rfl
theorem rQ (hch:dB w b a T X n pos G pc p B n1 pos1 d u p1 (.str ⟨⟨[0]⟩⟩ 0)) (hD:(D:Str)++⟨⟨[45,65533]⟩⟩=D1) (hDl:D1.length≤sizeLine):dF w b a 633 mt (.ref z) T X n pos G pc p [(z,cV w b D)] true 626 (some D1) B n1 pos1 d u p1 [(7,cF)]:=a' [12,1,2,3,4,5,6,7,8,9,11] (uI w b a z T X B D D1 n pos G pc p n1 pos1 d u p1) (fun Ok Fin H I U cn=>cn (I fun b1=>H (hch _) fun _=>I fun b2=>H hM fun _=>H (sK z D) fun _=>H (bf _ _ _ hD hDl) fun _=>H (sM z D D1) fun _=>I fun J=>U [mt,a.tk,a.tkd,a.st,a.sd,a.ds,a.dsd,a.m,a.q,z,b1,b2,J] J [⟨b2,7,cF,none⟩] (.yes z D1) rfl) fun _ _ _=>by generalize b=c; revert c; apply bh <;> kernel_rfl) rfl
theorem rR (hch:dB w b a T X n pos G pc p B n1 pos1 d u p1 .none):dF w b a 633 mt (.ref z) T X n pos G pc p [(z,cV w b D)] true 304 none B n1 pos1 d u p1 [(7,j5),(6,D)]:=a' [12,1,2,3,4,5,6,7,8,11,9] (uJ w b a T X B n pos G pc p n1 pos1 d u p1) (fun Ok Fin I H U cn=>cn (H fun b1=>I (hch _) fun _=>H fun b2=>I hM fun _=>H fun J=>U [mt,a.tk,a.tkd,a.st,a.sd,a.ds,a.dsd,a.m,a.q,z,b1,b2,J] J [⟨b2,7,j5,none⟩,⟨z,6,D,none⟩] (.noR z) rfl) fun _ _ _=>by generalize b=c; revert c; apply bh <;> kernel_rfl) rfl
theorem nK (hch:dB w b a T X n pos G pc p B n1 pos1 d u p1 (.str C 0)) (h45:(C.cps.toList == [45])=false) (h0:(C.cps.toList == [0])=false) (hR:(s!"-":Str)++C=R) (hRl:R.length≤sizeLine) (hD:(D:Str)++R=D1) (hDl:D1.length≤sizeLine):dF w b a 633 mt (.ref z) T X n pos G pc p [(z,cV w b D)] true 626 (some D1) B n1 pos1 d u p1 []:=a' [11,1,2,3,4,5,6,7,8,9] (rP w b a z T X B C D D1 R n pos G pc p n1 pos1 d u p1) (fun Ok Fin H I J U=>U (I fun b1=>H (hch _) fun _=>H (sq h45) fun _=>H (sq h0) fun _=>H (sK z D) fun _=>H (bf _ _ _ hR hRl) fun _=>H (bf _ _ _ hD hDl) fun _=>H (sM z D D1) fun _=>I fun b2=>J [mt,a.tk,a.tkd,a.st,a.sd,a.ds,a.dsd,a.m,a.q,z,b1,b2] b2 [] (.yes z D1) rfl) fun _ _ _=>by generalize b=c; revert c; apply bh <;> kernel_rfl) rfl
end
noncomputable section
variable (w:World) (b:Bool) (a:Ad) (mt z:Addr) (T X B C D D1 R:Str) (n pos G pc p n1 pos1 d u p1:Int)
noncomputable def Ei:List an:=oh (dE++[fun ks=>dh w b a T X n pos G pc p B n1 pos1 d u p1 (.str s!">" 0)]) 0x166605000505050005e0000605500000050005ecccc605500050005ecccc605500050005eeee06cf0870000700070007605500050005e0ee0014
noncomputable def yI:List an:=oh (dE++[fun ks=>dh w b a T X n pos G pc p B n1 pos1 d u p1 (.str ⟨⟨[0]⟩⟩ 0),fun ks=>rz w b z D,fun ks=>db D ⟨⟨[45,45,65533]⟩⟩ D1,fun ks=>rA w b z D D1]) 0x166605000505050005e0000605500000050005e06ffdd06ef06dfdd605500050005ecccc00ff00ff00ff00ff00ff00ff00ff00ff068f0000cccc605500050005eeeee06cf0870000700070007605500050005e0ee0014
noncomputable def uK:List an:=oh (dE++[fun ks=>dh w b a T X n pos G pc p B n1 pos1 d u p1 (.str s!"!" 0)]) 0x166605000505050005e0000605500000050005ecccc00ff00ff00ff00ff00ff00ff00ff00ff068f0000cccc605500050005eeeeee06cf0870000700070007605500050005e0ee0014
noncomputable def uL:List an:=oh (dE++[fun ks=>dh w b a T X n pos G pc p B n1 pos1 d u p1 (.str s!"-" 0),fun ks=>rz w b z D,fun ks=>db D s!"-" D1,fun ks=>rA w b z D D1]) 0x106ffdd06efe06dfdd605500050005ecccc00ff00ff00ff00ff00ff00ff00ff00ff068f0000cccc605500050005eeeeeee06cf0870000700070007605500050005e0ee0014
noncomputable def yJ:List an:=oh (dE++[fun ks=>dh w b a T X n pos G pc p B n1 pos1 d u p1 .none]) 0x166605000505050005e0000605500000050005ecccc605500050005ecccc605500050005ecccc00ff00ff00ff00ff00ff00ff00ff00ff068f0000cccc605500050005e0eeeeeee06cf0870000700070007605500050005e0ee0014
noncomputable def uM:List an:=oh (dE++[fun ks=>dh w b a T X n pos G pc p B n1 pos1 d u p1 (.str C 0),fun ks=>bS C s!">" false,fun ks=>bS C ⟨⟨[0]⟩⟩ false,fun ks=>bS C s!"!" false,fun ks=>bS C s!"-" false,fun ks=>db s!"--" C R,fun ks=>rz w b z D,fun ks=>db D R D1,fun ks=>rA w b z D D1]) 0x166605000505050005e0000605500000050005e074fdd073f071fe072fdd605500050005ecccc00ff00ff00ff00ff00ff00ff00ff00ff068f0000cccc605500050005e0e070fe06ffe06efe06dfeee06cf0870000700070007605500050005e0ee0014
variable {w b a mt z T X B C D D1 R n pos G pc p n1 pos1 d u p1}
theorem yK (hch:dB w b a T X n pos G pc p B n1 pos1 d u p1 (.str s!">" 0)):dF w b a 640 mt (.ref z) T X n pos G pc p [(z,cV w b D)] true 304 none B n1 pos1 d u p1 [(6,D)]:=a' [11,1,2,3,4,5,6,7,8,9] (Ei w b a T X B n pos G pc p n1 pos1 d u p1) (fun Ok Fin I H J U=>U (H fun b1=>I (hch _) fun _=>H fun b2=>J [mt,a.tk,a.tkd,a.st,a.sd,a.ds,a.dsd,a.m,a.q,z,b1,b2] b2 [⟨z,6,D,none⟩] (.noR z) rfl) fun _ _ _=>by generalize b=c; revert c; apply bh <;> kernel_rfl) rfl
theorem uN (hch:dB w b a T X n pos G pc p B n1 pos1 d u p1 (.str ⟨⟨[0]⟩⟩ 0)) (hD:(D:Str)++⟨⟨[45,45,65533]⟩⟩=D1) (hDl:D1.length≤sizeLine):dF w b a 640 mt (.ref z) T X n pos G pc p [(z,cV w b D)] true 626 (some D1) B n1 pos1 d u p1 [(7,cF)]:=a' [12,1,2,3,4,5,6,7,8,9,11] (yI w b a z T X B D D1 n pos G pc p n1 pos1 d u p1) (fun Ok Fin H I U cn=>cn (I fun b1=>H (hch _) fun _=>I fun b2=>H hM fun _=>H (sK z D) fun _=>H (bf _ _ _ hD hDl) fun _=>H (sM z D D1) fun _=>I fun J=>U [mt,a.tk,a.tkd,a.st,a.sd,a.ds,a.dsd,a.m,a.q,z,b1,b2,J] J [⟨b2,7,cF,none⟩] (.yes z D1) rfl) fun _ _ _=>by generalize b=c; revert c; apply bh <;> kernel_rfl) rfl
theorem rS (hch:dB w b a T X n pos G pc p B n1 pos1 d u p1 (.str s!"!" 0)):dF w b a 640 mt (.ref z) T X n pos G pc p [(z,cV w b D)] true 647 (some D) B n1 pos1 d u p1 [(7,em)]:=a' [12,1,2,3,4,5,6,7,8,9,11] (uK w b a T X B n pos G pc p n1 pos1 d u p1) (fun Ok Fin I H U cn=>cn (H fun b1=>I (hch _) fun _=>H fun b2=>I hM fun _=>H fun J=>U [mt,a.tk,a.tkd,a.st,a.sd,a.ds,a.dsd,a.m,a.q,z,b1,b2,J] J [⟨b2,7,em,none⟩] (.yes z D) rfl) fun _ _ _=>by generalize b=c; revert c; apply bh <;> kernel_rfl) rfl
theorem rT (hch:dB w b a T X n pos G pc p B n1 pos1 d u p1 (.str s!"-" 0)) (hD:(D:Str)++s!"-"=D1) (hDl:D1.length≤sizeLine):dF w b a 640 mt (.ref z) T X n pos G pc p [(z,cV w b D)] true 640 (some D1) B n1 pos1 d u p1 [(7,fP)]:=a' [0,1,2,3,4,5,6,7,8,9,11] (uL w b a z T X B D D1 n pos G pc p n1 pos1 d u p1) (fun Ok Fin H I J U=>U (I fun b1=>H (hch _) fun _=>I fun b2=>H hM fun _=>H (sK z D) fun _=>H (bf _ _ _ hD hDl) fun _=>H (sM z D D1) fun _=>J [mt,a.tk,a.tkd,a.st,a.sd,a.ds,a.dsd,a.m,a.q,z,b1,b2] mt [⟨b2,7,fP,none⟩] (.yes z D1) rfl) fun _ _ _=>by generalize b=c; revert c; apply bh <;> kernel_rfl) rfl
theorem uO (hch:dB w b a T X n pos G pc p B n1 pos1 d u p1 .none):dF w b a 640 mt (.ref z) T X n pos G pc p [(z,cV w b D)] true 304 none B n1 pos1 d u p1 [(7,hU),(6,D)]:=a' [12,1,2,3,4,5,6,7,8,11,9] (yJ w b a T X B n pos G pc p n1 pos1 d u p1) (fun Ok Fin I H U cn=>cn (H fun b1=>I (hch _) fun _=>H fun b2=>I hM fun _=>H fun J=>U [mt,a.tk,a.tkd,a.st,a.sd,a.ds,a.dsd,a.m,a.q,z,b1,b2,J] J [⟨b2,7,hU,none⟩,⟨z,6,D,none⟩] (.noR z) rfl) fun _ _ _=>by generalize b=c; revert c; apply bh <;> kernel_rfl) rfl
theorem rU (hch:dB w b a T X n pos G pc p B n1 pos1 d u p1 (.str C 0)) (h62:(C.cps.toList == [62])=false) (h0:(C.cps.toList == [0])=false) (h33:(C.cps.toList == [33])=false) (h45:(C.cps.toList == [45])=false) (hR:(s!"--":Str)++C=R) (hRl:R.length≤sizeLine) (hD:(D:Str)++R=D1) (hDl:D1.length≤sizeLine):dF w b a 640 mt (.ref z) T X n pos G pc p [(z,cV w b D)] true 626 (some D1) B n1 pos1 d u p1 [(7,j7)]:=a' [12,1,2,3,4,5,6,7,8,9,11] (uM w b a z T X B C D D1 R n pos G pc p n1 pos1 d u p1) (fun Ok Fin H I U cn=>cn (I fun b1=>H (hch _) fun _=>H (sq h62) fun _=>H (sq h0) fun _=>H (sq h33) fun _=>H (sq h45) fun _=>I fun b2=>H hM fun _=>H (sK z D) fun _=>H (bf _ _ _ hR hRl) fun _=>H (bf _ _ _ hD hDl) fun _=>H (sM z D D1) fun _=>I fun J=>U [mt,a.tk,a.tkd,a.st,a.sd,a.ds,a.dsd,a.m,a.q,z,b1,b2,J] J [⟨b2,7,j7,none⟩] (.yes z D1) rfl) fun _ _ _=>by generalize b=c; revert c; apply bh <;> kernel_rfl) rfl
end
noncomputable section
variable (w:World) (b:Bool) (a:Ad) (mt z:Addr) (T X B C D D1 R:Str) (n pos G pc p n1 pos1 d u p1:Int)
noncomputable def Ej:List an:=oh (dE++[fun ks=>dh w b a T X n pos G pc p B n1 pos1 d u p1 (.str s!">" 0)]) 0x166605000505050005e0000605500000050005ecccc605500050005ecccc605500050005eeee06cf0870000700070007605500050005e0ee0014
noncomputable def uP:List an:=oh (dE++[fun ks=>dh w b a T X n pos G pc p B n1 pos1 d u p1 (.str s!"-" 0),fun ks=>rz w b z D,fun ks=>db D s!"--!" D1,fun ks=>rA w b z D D1]) 0x166605000505050005e0000605500000050005e06ffdd06ef06dfdd605500050005eeeee06cf0870000700070007605500050005e0ee0014
noncomputable def yL:List an:=oh (dE++[fun ks=>dh w b a T X n pos G pc p B n1 pos1 d u p1 (.str ⟨⟨[0]⟩⟩ 0),fun ks=>rz w b z D,fun ks=>db D ⟨⟨[45,45,33,65533]⟩⟩ D1,fun ks=>rA w b z D D1]) 0x166605000505050005e0000605500000050005e06ffdd06ef06dfdd605500050005ecccc00ff00ff00ff00ff00ff00ff00ff00ff068f0000cccc605500050005eeeeee06cf0870000700070007605500050005e0ee0014
noncomputable def yM:List an:=oh (dE++[fun ks=>dh w b a T X n pos G pc p B n1 pos1 d u p1 .none]) 0x166605000505050005e0000605500000050005ecccc605500050005ecccc605500050005ecccc00ff00ff00ff00ff00ff00ff00ff00ff068f0000cccc605500050005e0eeeeee06cf0870000700070007605500050005e0ee0014
noncomputable def uQ:List an:=oh (dE++[fun ks=>dh w b a T X n pos G pc p B n1 pos1 d u p1 (.str C 0),fun ks=>bS C s!">" false,fun ks=>bS C s!"-" false,fun ks=>bS C ⟨⟨[0]⟩⟩ false,fun ks=>db s!"--!" C R,fun ks=>rz w b z D,fun ks=>db D R D1,fun ks=>rA w b z D D1]) 0x166605000505050005e0000605500000050005e073fdd072f070fe071fdd605500050005e0e06ffe06efe06dfeee06cf0870000700070007605500050005e0ee0014
variable {w b a mt z T X B C D D1 R n pos G pc p n1 pos1 d u p1}
theorem yN (hch:dB w b a T X n pos G pc p B n1 pos1 d u p1 (.str s!">" 0)):dF w b a 647 mt (.ref z) T X n pos G pc p [(z,cV w b D)] true 304 none B n1 pos1 d u p1 [(6,D)]:=a' [11,1,2,3,4,5,6,7,8,9] (Ej w b a T X B n pos G pc p n1 pos1 d u p1) (fun Ok Fin I H J U=>U (H fun b1=>I (hch _) fun _=>H fun b2=>J [mt,a.tk,a.tkd,a.st,a.sd,a.ds,a.dsd,a.m,a.q,z,b1,b2] b2 [⟨z,6,D,none⟩] (.noR z) rfl) fun _ _ _=>by generalize b=c; revert c; apply bh <;> kernel_rfl) rfl
theorem rV (hch:dB w b a T X n pos G pc p B n1 pos1 d u p1 (.str s!"-" 0)) (hD:(D:Str)++s!"--!"=D1) (hDl:D1.length≤sizeLine):dF w b a 647 mt (.ref z) T X n pos G pc p [(z,cV w b D)] true 633 (some D1) B n1 pos1 d u p1 []:=a' [11,1,2,3,4,5,6,7,8,9] (uP w b a z T X B D D1 n pos G pc p n1 pos1 d u p1) (fun Ok Fin H I J U=>U (I fun b1=>H (hch _) fun _=>H (sK z D) fun _=>H (bf _ _ _ hD hDl) fun _=>H (sM z D D1) fun _=>I fun b2=>J [mt,a.tk,a.tkd,a.st,a.sd,a.ds,a.dsd,a.m,a.q,z,b1,b2] b2 [] (.yes z D1) rfl) fun _ _ _=>by generalize b=c; revert c; apply bh <;> kernel_rfl) rfl
theorem uR (hch:dB w b a T X n pos G pc p B n1 pos1 d u p1 (.str ⟨⟨[0]⟩⟩ 0)) (hD:(D:Str)++⟨⟨[45,45,33,65533]⟩⟩=D1) (hDl:D1.length≤sizeLine):dF w b a 647 mt (.ref z) T X n pos G pc p [(z,cV w b D)] true 626 (some D1) B n1 pos1 d u p1 [(7,cF)]:=a' [12,1,2,3,4,5,6,7,8,9,11] (yL w b a z T X B D D1 n pos G pc p n1 pos1 d u p1) (fun Ok Fin H I U cn=>cn (I fun b1=>H (hch _) fun _=>I fun b2=>H hM fun _=>H (sK z D) fun _=>H (bf _ _ _ hD hDl) fun _=>H (sM z D D1) fun _=>I fun J=>U [mt,a.tk,a.tkd,a.st,a.sd,a.ds,a.dsd,a.m,a.q,z,b1,b2,J] J [⟨b2,7,cF,none⟩] (.yes z D1) rfl) fun _ _ _=>by generalize b=c; revert c; apply bh <;> kernel_rfl) rfl
theorem uS (hch:dB w b a T X n pos G pc p B n1 pos1 d u p1 .none):dF w b a 647 mt (.ref z) T X n pos G pc p [(z,cV w b D)] true 304 none B n1 pos1 d u p1 [(7,j6),(6,D)]:=a' [12,1,2,3,4,5,6,7,8,11,9] (yM w b a T X B n pos G pc p n1 pos1 d u p1) (fun Ok Fin I H U cn=>cn (H fun b1=>I (hch _) fun _=>H fun b2=>I hM fun _=>H fun J=>U [mt,a.tk,a.tkd,a.st,a.sd,a.ds,a.dsd,a.m,a.q,z,b1,b2,J] J [⟨b2,7,j6,none⟩,⟨z,6,D,none⟩] (.noR z) rfl) fun _ _ _=>by generalize b=c; revert c; apply bh <;> kernel_rfl) rfl
theorem rW (hch:dB w b a T X n pos G pc p B n1 pos1 d u p1 (.str C 0)) (h62:(C.cps.toList == [62])=false) (h45:(C.cps.toList == [45])=false) (h0:(C.cps.toList == [0])=false) (hR:(s!"--!":Str)++C=R) (hRl:R.length≤sizeLine) (hD:(D:Str)++R=D1) (hDl:D1.length≤sizeLine):dF w b a 647 mt (.ref z) T X n pos G pc p [(z,cV w b D)] true 626 (some D1) B n1 pos1 d u p1 []:=a' [11,1,2,3,4,5,6,7,8,9] (uQ w b a z T X B C D D1 R n pos G pc p n1 pos1 d u p1) (fun Ok Fin H I J U=>U (I fun b1=>H (hch _) fun _=>H (sq h62) fun _=>H (sq h45) fun _=>H (sq h0) fun _=>H (sK z D) fun _=>H (bf _ _ _ hR hRl) fun _=>H (bf _ _ _ hD hDl) fun _=>H (sM z D D1) fun _=>I fun b2=>J [mt,a.tk,a.tkd,a.st,a.sd,a.ds,a.dsd,a.m,a.q,z,b1,b2] b2 [] (.yes z D1) rfl) fun _ _ _=>by generalize b=c; revert c; apply bh <;> kernel_rfl) rfl
end
noncomputable def rX (q:Q) (D:List Nat):Option Str:=match q.inC with
 | true=>some ⟨⟨D⟩⟩
 | false=>none
noncomputable def nM (w:World) (b:Bool) (a:Ad) (q:Q) (M:Addr) (cv:Value) (T k r:List Nat) (pc:Int) (l:List Value):List aw:=
 TK w b a q.addr M cv ⟨⟨T⟩⟩ (XU k r) (nU k r) (pU k) 0 pc (tU T) l
noncomputable def Ek (w:World) (b:Bool) (a:Ad) (q:Q) (D T k r:List Nat) (as:List Addr) (L:List aw):Prop:=
 ∃M cv E pc,c6 w b (rX q D) cv E∧L=nM w b a q M cv T k r pc (aq as)++E
noncomputable def Step (w:World) (b:Bool) (a:Ad) (T:List Nat) (s:Shared) (K:List Addr) (m:Mo) (d:Result) (s':Shared):Prop:=
 d=.ok (.ret (.bool true))∧∃L' as,Ek w b a m.q m.D T m.kr.1 m.kr.2 as L'∧aJ s'.heap L'∧(keys L'++as).Nodup∧(∀e∈L',790≤e.1)∧bj w b s'.heap as m.ts∧
  (∀x∈keys L'++as,x∈K∨s.heap.get? x=none)∧aH (vs w b 200) K s s'
theorem Step.of {w:World} {b:Bool} {a:Ad} {T:List Nat} {s s':Shared} {K:List Addr} {ts:List Tk} {q:Q} {D:List Nat} {kr:List Nat×List Nat} {d:Result} {pc:Int}
  (h:d=.ok (.ret (.bool true))∧iT w b a K s s' q.addr (rX q D) ⟨⟨T⟩⟩ (XU kr.1 kr.2) (nU kr.1 kr.2) (pU kr.1) 0 pc (tU T) ts):Step w b a T s K ⟨ts,q,D,kr⟩ d s':=by
 delta zz w b a T s s' K ts q D kr d pc
 obtain ⟨e,M,cv,E,as,u,z,B,G,H,I,h7⟩:=h
 exact⟨e,_,as,⟨M,cv,E,pc,u,rfl⟩,z,B,G,H,I,h7⟩
structure bg (D k r:List Nat):Prop where
 al:∀c∈k++r,c∈ib
 kr:k.length + r.length≤9999
 D:D.length + 4 * r.length≤40000
theorem cY {w:World} {b:Bool} {D:Str} {cv:Value} {E:List aw} (c:c6 w b (some D) cv E):∃d,cv=.ref d∧E=[(d,cV w b D)]:=by cases c with
 | yes d D=>exact⟨d,rfl,rfl⟩
theorem iU {d:Type} {p:Prop} [Decidable p] {x y m:d} {G:Prop} (e:(if p then x else y)=m) (u:p→x=m→G) (z:¬p→y=m→G):G:=by
 by_cases h:p
 ·exact u h (by rw [if_pos h] at e; exact e)
 ·exact z h (by rw [if_neg h] at e; exact e)
theorem El {c:Nat} (h:c∈ib):bC c=true∧c≠10∧c≠13:=by
 have:∀c∈ib,bC c=true∧c≠10∧c≠13:=by decide
 exact this c h
theorem jo {l:List Nat} (h:∀c∈l,c∈ib):sI l:=fun c d=>El (h c d)
theorem fA (p:Nat→Bool):∀r,(cut p r).1++(cut p r).2=r
 | []=>rfl
 | c::r=>by
  unfold cut
  cases h:p c
  ·rfl
  ·show c::((cut p r).1++(cut p r).2)=c::r
   rw [fA p r]
theorem pP (p:Nat→Bool):∀r,∀c∈(cut p r).1,p c=true
 | [],c,h=>by cases h
 | d::r,c,h=>by
  unfold cut at h
  cases hp:p d
  ·rw [hp] at h; cases h
  ·rw [hp] at h
   have h:=h
   rcases List.mem_cons.mp h with rfl | h
   ·exact hp
   ·exact pP p r c h
theorem jp (p:Nat→Bool):∀(r:List Nat) (c:Nat) (z:List Nat),(cut p r).2=c::z→p c=false
 | [],c,z,h=>by cases h
 | d::r,c,z,h=>by
  unfold cut at h
  cases hp:p d
  ·rw [hp] at h; cases h; exact hp
  ·rw [hp] at h; exact jp p r c z h
theorem gK (p:Nat→Bool) (r:List Nat):(cut p r).1.length + (cut p r).2.length=r.length:=by
 conv=>rhs; rw [←fA p r]
 simp
theorem bY (a b:List Nat):(⟨⟨a⟩⟩:Str)++⟨⟨b⟩⟩=⟨⟨a++b⟩⟩:=by show Str.mk (_++_)=_; simp
theorem de {c d:Nat} (h:c≠d):(([c]:List Nat) == [d])=false:=by simp [h]
theorem CD {c:Nat} (h:c∈ib):eG.any (·== ⟨⟨[c]⟩⟩)=false:=by
 have:∀c∈ib,eG.any (·== ⟨⟨[c]⟩⟩)=false:=by decide +kernel
 exact this c h
theorem Kb {c:Nat} (h:c∈ib) (d:c≠32):fZ.any (·== ⟨⟨[c]⟩⟩)=false:=by
 have:∀c∈ib,c≠32→fZ.any (·== ⟨⟨[c]⟩⟩)=false:=by decide +kernel
 exact this c h d
theorem dD {c:Nat} (h:c∈ib):([s!"d",s!"D"]:List Str).any (·== ⟨⟨[c]⟩⟩)=false:=by
 have:∀c∈ib,([s!"d",s!"D"]:List Str).any (·== ⟨⟨[c]⟩⟩)=false:=by decide +kernel
 exact this c h
theorem H7 {c:Nat} (h:c∈ib):c≠38:=by
 have:∀c∈ib,c≠38:=by decide
 exact this c h
noncomputable def mK (f l:Bool) (x:Nat):Bool:=k4 f l (x == 32) (x != 62) (x != 60 && x != 0) (x != 45 && x != 0)
theorem j8 {f l:Bool} {c:Nat} (h:c∈ib):fh f l c=mK f l c:=by
 have:∀f l,∀c∈ib,fh f l c=mK f l c:=by decide +kernel
 exact this f l c h
noncomputable def H8 (q:List Nat) (k r:List Nat) (pc:Int):Int:=match q with
 | []=>pc + nU k r
 | _::_=>pc
section
variable {w:World} {b:Bool} {rm i:Nat} {st sd m nl ds dsd er:Addr} {T k r:List Nat} {pc:Int}
theorem pQ {f l:Bool} {cs:Addr} {ics:Nat} (u:k.length + r.length < 1000000) (hk:∀c∈k++r,c∈ib):
  aj (vs w b rm) pg (wb w b) (JN w b f l i ics st sd m nl ds dsd er cs T k r pc (tU T) (k9 (cut (mK f l) r).1 (cut (mK f l) r).2 k).1 (k9 (cut (mK f l) r).1 (cut (mK f l) r).2 k).2 (H8 (cut (mK f l) r).2 k r pc) (tU T) (cut (mK f l) r).1) ([st,sd,ds,dsd,m]++iJ f cs):=by
 have e:=fA (mK f l) r
 have ha:=pP (mK f l) r
 have hs:=jp (mK f l) r
 generalize (cut (mK f l) r).1=a at e ha hs ⊢
 generalize (cut (mK f l) r).2=z at e ha hs ⊢
 subst e
 have B:∀c∈a,fh f l c=true:=fun c d=>by rw [j8 (hk c (List.mem_append_right _ (List.mem_append_left _ d)))]; exact ha c d
 cases z with
 | nil=>
  rw [List.append_nil] at u hk ⊢
  have hk:=hk
  exact yq u (jo fun c d=>by
   rcases List.mem_append.mp d with h | h
   ·exact hk c (List.mem_append_left _ (List.mem_reverse.mp h))
   ·exact hk c (List.mem_append_right _ h)) B
 | cons c z=>exact J9 u B (by rw [j8 (hk c (by simp))]; exact hs c z rfl)
end
theorem bg.head {D k r:List Nat} {c:Nat} (I:bg D k (c::r)):c∈ib:=I.al c (by simp)
theorem bg.lt {D k r:List Nat} (I:bg D k r):k.length + r.length < 1000000:=Nat.lt_of_le_of_lt I.kr (by decide)
theorem bg.lt1 {D k r:List Nat} {c:Nat} (I:bg D k (c::r)):(c::k).length + r.length < 1000000:=by have:=I.kr; simp only [List.length_cons] at *; omega
theorem bg.okk {D k:List Nat} (I:bg D k []):sI k.reverse:=jo fun c d=>I.al c (by simpa using d)
theorem bg.size {D k r:List Nat} (I:bg D k r) {l:List Nat} (h:l.length≤D.length + 4 * r.length):Str.length ⟨⟨l⟩⟩≤sizeLine:=by
 show l.length≤sizeLine
 exact Nat.le_trans (Nat.le_trans h I.D) (by decide)
theorem bg.size1 {D k r:List Nat} {c:Nat} (I:bg D k (c::r)) {l:List Nat} (h:l.length≤D.length + 4):Str.length ⟨⟨l⟩⟩≤sizeLine:=I.size (by simp only [List.length_cons]; omega)
section
variable {w:World} {b:Bool} {a:Ad} {T D k r:List Nat} {M:Addr} {cv:Value} {E:List aw} {pc:Int} {m:Mo}
theorem bg.lt2 {c:Nat} (I:bg D k (c::r)):(c::k).length + r.length < 1000000:=I.lt1
theorem bg.al2 {c:Nat} (I:bg D k (c::r)):∀x∈(c::k)++r,x∈ib:=fun x d=>I.al x (by
 simp only [List.cons_append,List.mem_cons,List.mem_append] at d ⊢
 rcases d with h | h | h
 ·exact .inr (.inl h)
 ·exact .inl h
 ·exact .inr (.inr h))
theorem bg.size3 {c d:Nat} {p:Nat→Bool} (I:bg D k (c::r)):Str.length ⟨⟨D++d::(cut p r).1⟩⟩≤sizeLine:=I.size (by
 have:=gK p r
 simp only [List.length_cons,List.length_append]; omega)
theorem bg.lt3 {c d:Nat} (I:bg D k (c::d::r)):(d::c::k).length + r.length < 1000000:=by have:=I.kr; simp only [List.length_cons] at *; omega
theorem bg.lt4 {y:List Nat} {c:Nat} (I:bg D k (y++c::r)):(y.reverse++k).length + (c::r).length < 1000000:=by have:=I.kr; simp only [List.length_cons,List.length_append,List.length_reverse] at *; omega
theorem bg.okc {c:Nat} (I:bg D k [c]):sI (c::k).reverse:=jo fun x d=>I.al x (by
 have d:=List.mem_reverse.mp d
 rcases List.mem_cons.mp d with h | h
 ·rw [h]; simp
 ·exact List.mem_append_left _ h)
theorem bg.size2 {c d:Nat} {p:Nat→Bool} (I:bg D k (c::r)):Str.length ⟨⟨d::(cut p r).1⟩⟩≤sizeLine:=I.size (by
 have:=gK p r
 simp only [List.length_cons]; omega)
noncomputable def pR (w:World) (b:Bool) (a:Ad) (F:Addr) (T:List Nat) (X:Str) (n pos d pc p:Int) (M:Addr) (cv:Value) (E:List aw) (m:Mo):Prop:=
 ∀A s,au 200 A→aC (vs w b 200) s.heap→aJ s.heap (TK w b a F M cv ⟨⟨T⟩⟩ X n pos d pc p []++E)→(∀e∈TK w b a F M cv ⟨⟨T⟩⟩ X n pos d pc p []++E,790≤e.1)→(keys (TK w b a F M cv ⟨⟨T⟩⟩ X n pos d pc p []++E)).Nodup→
  codeAny (model pg (wb w b)) A (.call (.ref M) ⟨[],[]⟩) (Step w b a T s (keys (TK w b a F M cv ⟨⟨T⟩⟩ X n pos d pc p []++E)) m) s
noncomputable def fj (w:World) (b:Bool) (a:Ad) (q:Q) (T k r:List Nat) (pc:Int) (M:Addr) (cv:Value) (E:List aw) (m:Mo):Prop:=pR w b a q.addr T (XU k r) (nU k r) (pU k) 0 pc (tU T) M cv E m
theorem dF.g {F:Addr} {X:Str} {n pos u d p:Int} {q:Q} {kr:List Nat×List Nat} {ts:List Tk} (h:dF w b a F M cv ⟨⟨T⟩⟩ X n pos u d p E true q.addr (rX q D) (XU kr.1 kr.2) (nU kr.1 kr.2) (pU kr.1) 0 pc (tU T) ts):pR w b a F T X n pos u d p M cv E ⟨ts,q,D,kr⟩:=
 fun A s rm tp at_ hi nd=>codeAny_mono (h A s rm tp at_ hi nd) fun _ _ h=>Step.of h
noncomputable def HU (w:World) (b:Bool) (a:Ad) (T:List Nat) (X:Str) (n pos u pc p:Int) (k r:List Nat) (d:Int) (v:Value):Prop:=dB w b a ⟨⟨T⟩⟩ X n pos u pc p (XU k r) (nU k r) (pU k) 0 d (tU T) v
theorem yO {c:Nat} (h:(c::k).length + r.length < 1000000):HU w b a T (XU k (c::r)) (nU k (c::r)) (pU k) 0 pc (tU T) (c::k) r pc (.str ⟨⟨[c]⟩⟩ 0):=fun rm=>D8 (by rw [List.length_cons] at h ⊢; omega)
theorem bg.ch {c:Nat} (I:bg D k (c::r)):HU w b a T (XU k (c::r)) (nU k (c::r)) (pU k) 0 pc (tU T) (c::k) r pc (.str ⟨⟨[c]⟩⟩ 0):=yO I.lt1
theorem eM (h:sI k.reverse):HU w b a T (XU k []) (nU k []) (pU k) 0 pc (tU T) [] [] (pc + nU k []) .none:=fun rm=>j2 h
theorem j9 {c:Nat} (h:(c::k).length + r.length < 1000000):sJ w b a (XU (c::k) r) (nU (c::k) r) (pU (c::k)) 0 pc (XU k (c::r)) (nU k (c::r)) (pU k) (.str ⟨⟨[c]⟩⟩ 0):=fun rm=>HX h
theorem nN:sJ w b a (XU k r) (nU k r) (pU k) 0 pc (XU k r) (nU k r) (pU k) .none:=fun rm=>D9
theorem lW {c:Nat} {X:Str} {n pos u d p:Int} (I:bg D k (c::r)) (G:c6 w b none cv E) (hch:HU w b a T X n pos u d p (c::k) r pc (.str ⟨⟨[c]⟩⟩ 0)) (e:step .data D k (c::r)=some m):pR w b a 304 T X n pos u d p M cv E m:=by
 delta zz w b a T D k r M cv E pc c X n pos u d p at m
 obtain ⟨o,rfl,rfl⟩:=cN G
 have B:=I.head
 refine iU e (fun h e=>?_) fun h60 e=>iU e (fun h e=>?_) fun h0 e=>iU e (fun h e=>?_) fun z e=>?_
 ·subst h; cases e; exact(yv hch).g
 ·subst h; cases e; exact(uo hch).g
 ·subst h; cases e; exact(yw (hch:=hch) (hun:=fun rm=>pQ (f:=false) (l:=false) (cs:=0) I.lt2 I.al2) (hR:=bY [32] _) (hRl:=I.size2)).g
 ·cases e; exact(uq (hch:=hch) (h60:=de h60) (h0:=de h0) (h38:=de (H7 B)) (hs:=Kb B z) (hun:=fun rm cs=>pQ (f:=true) (l:=false) I.lt2 I.al2) (hR:=bY [c] _) (hRl:=I.size2)).g
noncomputable def Stop (w:World) (b:Bool) (a:Ad) (T:List Nat) (s:Shared) (K:List Addr) (D:List Nat) (d:Result) (s':Shared):Prop:=
 d=.ok (.ret (.bool false))∧∃L',Ek w b a .data D T [] [] [] L'∧aJ s'.heap L'∧(keys L').Nodup∧(∀e∈L',790≤e.1)∧(∀x∈keys L',x∈K∨s.heap.get? x=none)∧aH (vs w b 200) K s s'
theorem Stop.of {K:List Addr} {d:Result} {s s':Shared} {pc:Int} (h:d=.ok (.ret (.bool false))∧iT w b a K s s' 304 none ⟨⟨T⟩⟩ (XU [] []) (nU [] []) (pU []) 0 pc (tU T) []):Stop w b a T s K D d s':=by
 delta zz w b a T D K d s s' pc
 obtain ⟨e,M,cv,E,as,z,B,u,G,H,I,h7⟩:=h
 cases as with
 | cons a as=>exact H.elim
 | nil=>exact⟨e,_,⟨M,cv,E,pc,z,rfl⟩,B,by rw [List.append_nil] at u; exact u,G,fun x J=>I x (List.mem_append_left _ J),h7⟩
theorem rY {A:Around} {s:Shared} (rm:au 200 A) (tp:aC (vs w b 200) s.heap) (hk:sI k.reverse) (d:c6 w b (rX .data D) cv E) (at_:aJ s.heap (nM w b a .data M cv T k [] pc []++E)) (hi:∀e∈nM w b a .data M cv T k [] pc []++E,790≤e.1)
  (nd:(keys (nM w b a .data M cv T k [] pc []++E)).Nodup):codeAny (model pg (wb w b)) A (.call (.ref M) ⟨[],[]⟩) (Stop w b a T s (keys (nM w b a .data M cv T k [] pc []++E)) D) s:=by
 obtain ⟨o,rfl,rfl⟩:=cN d
 exact codeAny_mono (up (eM hk) _ _ rm tp at_ hi nd) fun u s' h=>Stop.of h
theorem uT (I:bg D k r) (d:c6 w b none cv E) (e:step .tag D k r=some m):fj w b a .tag T k r pc M cv E m:=by
 obtain ⟨o,rfl,rfl⟩:=cN d
 cases r with
 | nil=>cases e; exact(uu (hch:=eM I.okk) (hung:=nN)).g
 | cons c r=>
  have u:=I.head
  refine iU e (fun h e=>?_) fun h33 e=>iU e (fun h e=>?_) fun h47 e=>iU e (fun h e=>?_) fun h62 e=>iU e (fun h e=>?_) fun h63 e=>?_
  ·subst h; cases e; exact(rC I.ch).g
  ·subst h; cases e; exact(nD I.ch).g
  ·subst h; cases e; exact(yy I.ch).g
  ·subst h; cases e; exact(Ee (hch:=I.ch) (hung:=j9 I.lt1)).g
  ·cases e; exact(rD (hch:=I.ch) (h33:=de h33) (h47:=de h47) (h62:=de h62) (h63:=de h63) (ha:=CD u) (hung:=j9 I.lt1)).g
theorem nO (I:bg D k r) (d:c6 w b none cv E) (e:step .close D k r=some m):fj w b a .close T k r pc M cv E m:=by
 obtain ⟨o,rfl,rfl⟩:=cN d
 cases r with
 | nil=>cases e; exact(uw (eM I.okk)).g
 | cons c r=>
  have u:=I.head
  refine iU e (fun h e=>?_) fun h62 e=>?_
  ·subst h; cases e; exact(yA I.ch).g
  ·cases e; exact(rE (hch:=I.ch) (ha:=CD u) (h62:=de h62) (hung:=j9 I.lt1)).g
theorem yP (I:bg D k r) (d:c6 w b (some ⟨⟨D⟩⟩) cv E) (h0:∀z,r≠0::z) (e:step .cs D k r=some m):fj w b a .cs T k r pc M cv E m:=by
 obtain ⟨u,rfl,rfl⟩:=cY d
 cases r with
 | nil=>cases e; exact(uB (eM I.okk)).g
 | cons c r=>
  have B:=I.head
  have h0:c≠0:=fun h=>h0 r (by rw [h])
  refine iU e (fun h e=>?_) fun h45 e=>iU e (fun h e=>?_) fun h62 e=>?_
  ·subst h; cases e; exact(rH I.ch).g
  ·subst h; cases e; exact(yE I.ch).g
  ·cases e; exact(rI (hch:=I.ch) (h45:=de h45) (h62:=de h62) (h0:=de h0) (hD:=bY D [c]) (hDl:=I.size1 (by simp))).g
theorem uU (I:bg D k r) (d:c6 w b (some ⟨⟨D⟩⟩) cv E) (h0:∀z,r≠0::z) (e:step .csd D k r=some m):fj w b a .csd T k r pc M cv E m:=by
 obtain ⟨u,rfl,rfl⟩:=cY d
 cases r with
 | nil=>cases e; exact(rL (eM I.okk)).g
 | cons c r=>
  have B:=I.head
  have h0:c≠0:=fun h=>h0 r (by rw [h])
  refine iU e (fun h e=>?_) fun h45 e=>iU e (fun h e=>?_) fun h62 e=>?_
  ·subst h; cases e; exact(nH I.ch).g
  ·subst h; cases e; exact(uD I.ch).g
  ·cases e; exact(nI (hch:=I.ch) (h45:=de h45) (h62:=de h62) (h0:=de h0) (hR:=bY [45] [c]) (hRl:=I.size1 (by simp)) (hD:=bY D [45,c]) (hDl:=I.size1 (by simp))).g
theorem uV (I:bg D k r) (d:c6 w b (some ⟨⟨D⟩⟩) cv E) (e:step .com D k r=some m):fj w b a .com T k r pc M cv E m:=by
 obtain ⟨u,rfl,rfl⟩:=cY d
 cases r with
 | nil=>cases e; exact(uH (eM I.okk)).g
 | cons c r=>
  have z:=I.head
  refine iU e (fun h e=>?_) fun h45 e=>iU e (fun h e=>?_) fun h0 e=>?_
  ·subst h; cases e; exact(rM I.ch).g
  ·subst h; cases e; exact(uG (hch:=I.ch) (hD:=bY D [65533]) (hDl:=I.size1 (by simp))).g
  ·cases e; exact(rN (hch:=I.ch) (h45:=de h45) (h0:=de h0) (hun:=fun rm cs=>pQ (f:=true) (l:=true) I.lt2 I.al2) (hR:=bY [c] _) (hRl:=I.size2) (hD:=bY D _) (hDl:=I.size3)).g
theorem uW (I:bg D k r) (d:c6 w b (some ⟨⟨D⟩⟩) cv E) (e:step .ced D k r=some m):fj w b a .ced T k r pc M cv E m:=by
 obtain ⟨u,rfl,rfl⟩:=cY d
 cases r with
 | nil=>cases e; exact(rR (eM I.okk)).g
 | cons c r=>
  have z:=I.head
  refine iU e (fun h e=>?_) fun h45 e=>iU e (fun h e=>?_) fun h0 e=>?_
  ·subst h; cases e; exact(nJ I.ch).g
  ·subst h; cases e; exact(rQ (hch:=I.ch) (hD:=bY D [45,65533]) (hDl:=I.size1 (by simp))).g
  ·cases e; exact(nK (hch:=I.ch) (h45:=de h45) (h0:=de h0) (hR:=bY [45] [c]) (hRl:=I.size1 (by simp)) (hD:=bY D [45,c]) (hDl:=I.size1 (by simp))).g
theorem yQ (I:bg D k r) (d:c6 w b (some ⟨⟨D⟩⟩) cv E) (e:step .ce D k r=some m):fj w b a .ce T k r pc M cv E m:=by
 obtain ⟨u,rfl,rfl⟩:=cY d
 cases r with
 | nil=>cases e; exact(uO (eM I.okk)).g
 | cons c r=>
  have z:=I.head
  refine iU e (fun h e=>?_) fun h62 e=>iU e (fun h e=>?_) fun h0 e=>iU e (fun h e=>?_) fun h33 e=>iU e (fun h e=>?_) fun h45 e=>?_
  ·subst h; cases e; exact(yK I.ch).g
  ·subst h; cases e; exact(uN (hch:=I.ch) (hD:=bY D [45,45,65533]) (hDl:=I.size1 (by simp))).g
  ·subst h; cases e; exact(rS I.ch).g
  ·subst h; cases e; exact(rT (hch:=I.ch) (hD:=bY D [45]) (hDl:=I.size1 (by simp))).g
  ·cases e; exact(rU (hch:=I.ch) (h62:=de h62) (h0:=de h0) (h33:=de h33) (h45:=de h45) (hR:=bY [45,45] [c]) (hRl:=I.size1 (by simp)) (hD:=bY D [45,45,c]) (hDl:=I.size1 (by simp))).g
theorem uX (I:bg D k r) (d:c6 w b (some ⟨⟨D⟩⟩) cv E) (e:step .ceb D k r=some m):fj w b a .ceb T k r pc M cv E m:=by
 obtain ⟨u,rfl,rfl⟩:=cY d
 cases r with
 | nil=>cases e; exact(uS (eM I.okk)).g
 | cons c r=>
  have z:=I.head
  refine iU e (fun h e=>?_) fun h62 e=>iU e (fun h e=>?_) fun h45 e=>iU e (fun h e=>?_) fun h0 e=>?_
  ·subst h; cases e; exact(yN I.ch).g
  ·subst h; cases e; exact(rV (hch:=I.ch) (hD:=bY D [45,45,33]) (hDl:=I.size1 (by simp))).g
  ·subst h; cases e; exact(uR (hch:=I.ch) (hD:=bY D [45,45,33,65533]) (hDl:=I.size1 (by simp))).g
  ·cases e; exact(rW (hch:=I.ch) (h62:=de h62) (h45:=de h45) (h0:=de h0) (hR:=bY [45,45,33] [c]) (hRl:=I.size1 (by simp)) (hD:=bY D [45,45,33,c]) (hDl:=I.size1 (by simp))).g
theorem uY (I:bg D k r) (u:c6 w b none cv E) (e:step .mdo D k r=some m):fj w b a .mdo T k r pc M cv E m:=by
 obtain ⟨o,rfl,rfl⟩:=cN u
 cases r with
 | nil=>cases e; exact(uy (hch:=eM I.okk) (hung:=nN)).g
 | cons c r=>
  have z:=I.head
  by_cases h45:c=45
  ·subst h45
   cases r with
   | nil=>cases e; exact(nG (hch:=I.ch) (hch2:=eM I.okc) (hung:=nN) (hung2:=fun rm=>Ea (by decide))).g
   | cons d r=>
    refine iU (show(if d=45 then _ else _)=some m from e) (fun h e=>?_) fun h e=>?_
    ·subst h; cases e; exact(yC I.ch (yO I.lt3)).g
    ·cases e; exact(lV (hch:=I.ch) (hch2:=yO I.lt3) (h45:=de h) (hung:=j9 I.lt3) (hung2:=j9 I.lt1)).g
  ·have e:some (⟨[(7,ej)],.bogus,D,k,c::r⟩:Mo)=some m:=by
    rw [←e]
    show _=(if c=45 then _ else _)
    rw [if_neg h45]
   cases e
   exact(rG (hch:=I.ch) (h45:=de h45) (hd:=dD z) (hung:=j9 I.lt1)).g
theorem jq:∀l:List Nat,0∉l→l.map c7=l
 | [],_=>rfl
 | k::r,h=>by
  have d:¬k=0:=fun e=>h (e▸List.mem_cons_self ..)
  show c7 k::r.map c7=k::r
  rw [jq r fun m=>h (List.mem_cons_of_mem _ m)]
  simp [c7,d]
theorem lX:∀d:List Str,(∀p∈d,0∉p.cps.toList)→(Str.join ⟨#[0]⟩ d).cps.toList.map c7=(Str.join ⟨#[65533]⟩ d).cps.toList
 | [],_=>rfl
 | [p],h=>jq _ (h p (List.mem_singleton.mpr rfl))
 | p::q::r,h=>by
  have u:=lX (q::r) fun a ha=>h a (List.mem_cons_of_mem _ ha)
  show(p++⟨#[0]⟩++Str.join ⟨#[0]⟩ (q::r)).cps.toList.map c7=(p++⟨#[65533]⟩++Str.join ⟨#[65533]⟩ (q::r)).cps.toList
  simp only [Str.cps_append,Array.toList_append,List.map_append]
  rw [u,jq _ (h p (List.mem_cons_self ..))]
  rfl
theorem H9 (l:List Nat):Txt.replace ⟨⟨l⟩⟩ ⟨⟨[0]⟩⟩ ⟨⟨[65533]⟩⟩=⟨⟨l.map c7⟩⟩:=by
 have h:(Txt.replace ⟨⟨l⟩⟩ ⟨#[0]⟩ ⟨#[65533]⟩).cps.toList=l.map c7:=by
  rw [PySem.StrLaws.replace_one,←lX _ (PySem.StrLaws.split_free _ 0),PySem.StrLaws.join_split]
 generalize Txt.replace ⟨⟨l⟩⟩ ⟨#[0]⟩ ⟨#[65533]⟩=x at h
 obtain ⟨⟨y⟩⟩:=x
 show Str.mk ⟨y⟩=_
 rw [←h]
theorem nP (I:bg D k r) (G:c6 w b none cv E) (e:step .bogus D k r=some m):fj w b a .bogus T k r pc M cv E m:=by
 obtain ⟨o,rfl,rfl⟩:=cN G
 have hun:=fun(rm:Nat)=>pQ (f:=false) (l:=true) (w:=w) (b:=b) (rm:=rm) (i:=3) (ics:=0) (cs:=0) (st:=a.st) (sd:=a.sd) (m:=a.m) (nl:=a.nl) (ds:=a.ds) (dsd:=a.dsd) (er:=a.er) (T:=T) (pc:=pc) I.lt I.al
 rw [show mK false true=fun x=>x != 62 from rfl] at hun
 have u:=gK (fun x=>x != 62) r
 have d:=fA (fun x=>x != 62) r
 have B:=jp (fun x=>x != 62) r
 unfold step at e
 simp only at e
 generalize (cut (fun x=>x != 62) r).1=y at e hun u d B
 generalize (cut (fun x=>x != 62) r).2=z at e hun u d B
 have J:y.length≤10000:=by have:=I.kr; omega
 have hb:Str.length ⟨⟨y⟩⟩ + (Str.length ⟨⟨y⟩⟩ + 1) * Str.length ⟨⟨[65533]⟩⟩≤16777216:=by
  show y.length + (y.length + 1) * 1≤16777216
  omega
 subst d
 cases z with
 | nil=>cases e; exact(H5 (v:=false) (hun:=hun) (hch2:=eM (k:=[]) (fun c H=>(by cases H))) (hrep:=H9 y) (hb:=hb)).g
 | cons c z=>
  have h62:c=62:=by simpa using B c z rfl
  subst h62
  cases e
  exact(H5 (v:=true) (hun:=hun) (hch2:=yO (k:=y.reverse++k) (by have:=I.lt4; simp only [List.length_cons] at *; omega)) (hrep:=H9 y) (hb:=hb)).g
theorem nQ {c:Nat} (d:T=c::r) (I:bg D [] (c::r)) (u:c6 w b none cv E) (e:step .data D [] (c::r)=some m):pR w b a 304 T (XU [] []) (nU [] []) (pU []) 0 0 0 M cv E m:=by
 subst d
 exact lW I u (fun rm=>lU (jo fun c z=>I.al c z) (by have:=I.kr; simp only [List.length_nil,List.length_cons] at *; omega)) e
theorem uZ {q:Q} (I:bg D k r) (d:c6 w b (rX q D) cv E) (h0:q=.cs∨q=.csd→∀z,r≠0::z) (e:step q D k r=some m):fj w b a q T k r pc M cv E m:=by
 cases q with
 | data=>cases r with
  | nil=>cases e
  | cons c r=>exact lW I d I.ch e
 | tag=>exact uT I d e
 | close=>exact nO I d e
 | bogus=>exact nP I d e
 | mdo=>exact uY I d e
 | cs=>exact yP I d (h0 (.inl rfl)) e
 | csd=>exact uU I d (h0 (.inr rfl)) e
 | com=>exact uV I d e
 | ced=>exact uW I d e
 | ce=>exact yQ I d e
 | ceb=>exact uX I d e
end
noncomputable def dp:List Stmt:=sB (bo 21 (some 1))
noncomputable def xO:List Stmt:=sB (ad dp 1)
noncomputable def bZ (F:Addr):Env:=⟨sS (bo 21 (some 1)),F,3,[],"HTMLTokenizer.__iter__.<locals>.",some 268,.ref 267,some F,0⟩
noncomputable def LH (P:Params) (st lf mt:Addr):Obj:=fI [ent P "stream" (.ref st),ent P "parser" .none,ent P "escapeFlag" (.bool false),ent P "lastFourChars" (.ref lf),ent P "state" (.ref mt),ent P "escape" (.bool false),ent P "currentToken" .none]
theorem pS {U:Type}:∀l:List U,l.length≤1→l=[]∨∃y,l=[y]
 | [],_=>.inl rfl
 | [y],_=>.inr ⟨y,rfl⟩
 | _::_::l,h=>absurd h (Nat.not_le_of_gt (Nat.succ_lt_succ (Nat.succ_pos l.length)))
noncomputable section
variable (w:World) (F tk tkd st sd m nl ds dsd er lf q M a1:Addr) (as:List Addr) (X:Str) (n pos B pc:Int) (I J:Addr) (y:Nat→Nat→Tok) (z:Nat→Tok) (tb:Nat) (G:Tok) (H:Nat→Nat→Tok) (u:Nat) (D:Bool) (d:Q) (o:Option Addr) (b:Bool)
noncomputable def Em:List an:=oh [] 0x1666050005050500054
noncomputable def Kc:az:=aN (vs w b 150) 4000 .out (aO [ad dp 0] (bZ F)) (Em) (fillAll y 0 [(F,bq [!["self",.ref tk]]),(tk,inst 762 tkd),(tkd,LH (pr w b) st lf M)]) tb 0 []
abbrev Ke:Prop:=(Kc w F tk tkd st lf M y tb b).norm [0,1,2,3]=.more fun b1=>.done (bc [F,tk,tkd,b1] (Em) []) (.ok .next) [(F,bq [!["self",.ref tk]]),(tk,inst 762 tkd),(tkd,fY (pr w b) st lf M .none b1),(b1,aV [])]
theorem Kg:Ke w F tk tkd st lf M y tb b:=by delta za bh
noncomputable def yR:List an:=oh [] 0x14b4f076055000500050005000500054
noncomputable def En:List an:=oh [] 0x1076055000500050005000500054
noncomputable def Ia:az:=aN (vs w b 150) 4000 .out (fe (sE (ad dp 1)) (bZ F)) (yR) (fillAll y 0 [(F,bq [!["self",.ref tk]]),(tk,inst 762 tkd),(tkd,fY (pr w b) st lf M (eH o) q),(M,bA d.addr tk)]) tb 0 []
abbrev Eo:Prop:=(Ia w F tk tkd st lf q M y tb d o b).norm [0,1,2,3]=.call 200 (bc [F,tk,tkd,M] (En) []) (.call (.ref M) ⟨[],[]⟩) [(F,bq [!["self",.ref tk]]),(tk,inst 762 tkd),(tkd,fY (pr w b) st lf M (eH o) q),(M,bA d.addr tk)] fun _ _ _=>.failW ""
theorem nR:Eo w F tk tkd st lf q M y tb d o b:=by cases d <;> apply bW <;> intros <;> kernel_rfl
noncomputable def Ep:List an:=oh [] 0x1
abbrev Er:Prop:=((Ia w F tk tkd st lf q M y tb d o b).nc (aA G (.ok (.ret (.bool D)))) (fillAll H 0 []) u).norm []=.done (bc [] (Ep) []) (.ok (.ret (.bool D))) []
theorem nS:Er w F tk tkd st lf q M y tb G H u D d o b:=by cases D <;> cases d <;> apply bW <;> intros <;> kernel_rfl
noncomputable def Es:List an:=oh [] 0x1999998077000700076055000500054
noncomputable def Kh:az:=aN (vs w b 150) 4000 .out (aO [ad xO 0] (bZ F)) (Es) (fillAll y 0 [(F,bq [!["self",.ref tk]]),(tk,inst 762 tkd),(tkd,fY (pr w b) st lf M (eH o) q),(st,inst 166 sd),(sd,eB (pr w b) m nl ds er X n pos B pc),(er,aV [])]) tb 0 []
abbrev Ki:Prop:=(Kh w F tk tkd st sd m nl ds er lf q M X n pos B pc y tb o b).norm [0,1,2,3,4,5]=.done (bc [F,tk,tkd,st,sd,er] (Es) []) (.ok .next) [(F,bq [!["self",.ref tk]]),(tk,inst 762 tkd),(tkd,fY (pr w b) st lf M (eH o) q),(st,inst 166 sd),(sd,eB (pr w b) m nl ds er X n pos B pc),(er,aV [])]
theorem Kj:Ki w F tk tkd st sd m nl ds er lf q M X n pos B pc y tb o b:=by delta za bW
noncomputable def u0:List an:=oh [] 0x1777776055000500054
noncomputable def Ib:az:=aN (vs w b 150) 4000 .out (fe (sE (ad xO 1)) (bZ F)) (u0) (fillAll y 0 [(F,bq [!["self",.ref tk]]),(tk,inst 762 tkd),(tkd,fY (pr w b) st lf M (eH o) q),(q,aV [])]) tb 0 []
abbrev Ic:Prop:=(Ib w F tk tkd st lf q M y tb o b).norm [0,1,2,3]=.done (bc [F,tk,tkd,q] (u0) []) (.ok (.ret (.bool (false)))) [(F,bq [!["self",.ref tk]]),(tk,inst 762 tkd),(tkd,fY (pr w b) st lf M (eH o) q),(q,aV [])]
theorem Ie:Ic w F tk tkd st lf q M y tb o b:=by delta za bW
noncomputable def Et:List an:=oh [] 0x1777776055000500054
noncomputable def Kk:az:=aN (vs w b 150) 4000 .out (fe (sE (ad xO 1)) (bZ F)) (Et) (fillAll y 0 [(F,bq [!["self",.ref tk]]),(tk,inst 762 tkd),(tkd,fY (pr w b) st lf M (eH o) q),(q,aV (.ref a1::aq as))]) tb 0 []
abbrev Kl:Prop:=(Kk w F tk tkd st lf q M a1 as y tb o b).norm [0,1,2,3]=.done (bc [F,tk,tkd,q] (Et) []) (.ok (.ret (.bool (true)))) [(F,bq [!["self",.ref tk]]),(tk,inst 762 tkd),(tkd,fY (pr w b) st lf M (eH o) q),(q,aV (.ref a1::aq as))]
theorem Km (h:as.length≤1):Kl w F tk tkd st lf q M a1 as y tb o b:=by rcases pS as h with rfl | ⟨U,rfl⟩ <;> (apply bW <;> intros <;> kernel_rfl)
noncomputable def Eu:List an:=oh [] 0x17777777776055000500054
noncomputable def Kn:az:=aN (vs w b 150) 4000 .out (eF (xE (sE (ad (sB (ad xO 1)) 0))) (bZ F)) (Eu) (fillAll y 0 [(F,bq [!["self",.ref tk]]),(tk,inst 762 tkd),(tkd,fY (pr w b) st lf M (eH o) q),(q,aV (.ref a1::aq as))]) tb 0 []
abbrev Ko:Prop:=(Kn w F tk tkd st lf q M a1 as y tb o b).norm [0,1,2,3]=.done (bc [F,tk,tkd,q] (Eu) []) (.ok (.ret (.ref a1))) [(F,bq [!["self",.ref tk]]),(tk,inst 762 tkd),(tkd,fY (pr w b) st lf M (eH o) q),(q,aV (aq as))]
theorem Kp (h:as.length≤1):Ko w F tk tkd st lf q M a1 as y tb o b:=by rcases pS as h with rfl | ⟨U,rfl⟩ <;> (apply bW <;> intros <;> kernel_rfl)
end
noncomputable def fm:Type:=Addr→Prop
instance:Membership Addr fm:=⟨fun S a=>S a⟩
instance:Nonempty fm:=⟨fun _=>True⟩
theorem u4 {l:List Stmt} (h:l.length=2):l=[ad l 0,ad l 1]:=by
 match l,h with
 | [x,y],_=>rfl
theorem Ev {l:List Stmt} (h:l.length=1):l=[ad l 0]:=by
 match l,h with
 | [x],_=>rfl
noncomputable abbrev jH:Stmt:=ad dp 1
noncomputable abbrev nT:Stmt:=ad xO 1
noncomputable abbrev yS:Stmt:=ad (sB nT) 0
theorem u5:dp=[ad dp 0,jH]:=u4 (by kernel_rfl)
theorem Ew:sB jH=[ad xO 0,nT]:=u4 (l:=xO) (by kernel_rfl)
theorem Ex:jH=.While (sE jH) (sB jH) [] (sP jH):=by kernel_rfl
theorem Ey:nT=.While (sE nT) (sB nT) [] (sP nT):=by kernel_rfl
theorem u6:sB nT=[yS]:=Ev (by kernel_rfl)
theorem Ez:yS=.Expr (.Yield (some (xE (sE yS))) (xP (sE yS))) (sP yS):=by kernel_rfl
noncomputable abbrev Kq:List Stmt:=[.Expr (.Yield (some (xE (sE yS))) (xP (sE yS))) (sP yS)]
noncomputable abbrev Kr:List Stmt:=[ad xO 0,.While (sE nT) Kq [] (sP nT)]
theorem EA:sB nT=Kq:=by rw [u6]; exact congrArg (fun x=>[x]) Ez
theorem EB:sB jH=Kr:=by
 rw [Ew]
 exact congrArg (fun x=>[ad xO 0,x]) (Ey.trans (by rw [EA]))
theorem u7:dp=[ad dp 0,.While (sE jH) Kr [] (sP jH)]:=u5.trans (congrArg (fun x=>[ad dp 0,x]) (Ex.trans (by rw [EB])))
noncomputable def W1 (F:Addr):Code:=.whileLoop (sE jH) Kr [] (bZ F)
noncomputable def W3 (F:Addr):Code:=.whileLoop (sE nT) Kq [] (bZ F)
theorem yT (F:Addr):(bZ F).scope.isCoroutine=false:=by kernel_rfl
theorem u8 (F:Addr):interactive (bZ F)=false:=by kernel_rfl
inductive PF:List Frame→Prop
 | nil:PF []
 | cons (k:Result→Sem PySem.Fin) (l:List Value) (c:Code) (p:Pos) (kp:List Value) (fs:List Frame):c.isCaller=false→PF fs→PF (.ret k none false l c p kp::fs)
theorem PF.split {d:List Frame} (h:PF d):splitAtGen d=none:=by
 induction h with
 | nil=>rfl
 | cons k l c p z d D h u=>show(splitAtGen d).map _=none; rw [u]; rfl
theorem PF.guard {d:List Frame} (h:PF d):d.any Frame.guarded=false:=by
 induction h with
 | nil=>rfl
 | cons k l c p z d D h u=>show(false || d.any Frame.guarded)=false; rw [u]; rfl
theorem PF.marks {d:List Frame} (h:PF d):marksOver d (none,none)=(none,none):=by
 induction h with
 | nil=>rfl
 | cons k l c p u d D h z=>
  show Frame.marks (.ret k none false l c p u) (marksOver d (none,none))=_
  rw [z]
  rfl
theorem PF.count {d:List Frame} (h:PF d):frameCount (d.map Frame.where_)≤5 * d.length∧unitsOf (d.map Frame.where_)≤10 * d.length:=by
 induction h with
 | nil=>exact⟨Nat.le_refl _,Nat.le_refl _⟩
 | cons k l c p z d u h D=>
  have G:=gT u
  have H:=i5 u
  simp only [List.map_cons,Frame.where_,frameCount_cons,unitsOf_cons,List.length_cons]
  omega
theorem eu {n m:Nat} {A:Around} {c:Code} {d:List Frame} (h:PF d) (u:c.isCaller=false) (rm:au n A) (z:n + 10 * d.length + 10≤m):au m (A.over c d):=by
 have D:=gT u
 have G:=i5 u
 obtain ⟨H,I⟩:=h.count
 refine⟨?_,?_,?_⟩
 ·show A.depth + frameCount (d.map Frame.where_) + c.weight≤_
  have:=rm.1
  omega
 ·show A.units + unitsOf (d.map Frame.where_) + c.cUnits≤_
  have:=rm.2.1
  omega
 ·show(marksOver d (A.handled,A.handled)).1=none
  rw [rm.2.2,h.marks]
theorem Ig {V:Vs} {s G:Shared} {S L L':List aw} {K:List Addr} (P:aD V s K G S) (u:aJ s.heap L) (h0:∀p∈L',p.1∉K→p∈L) (sub:∀r∈S,r∈L') (nd:(keys L').Nodup) (I:∀k∈K,k∈keys S):aJ G.heap L':=by
 intro p hp
 by_cases hk:p.1∈K
 ·obtain ⟨r,H,e⟩:=List.mem_map.mp (I _ hk)
  have:r=p:=by
   have z:=sub r H
   have key:∀{l:List aw},(keys l).Nodup→r∈l→p∈l→r.1=p.1→r=p:=by
    intro l
    induction l with
    | nil=>intro _ h; cases h
    | cons x l U=>
     intro nd D d e
     have nd:=List.nodup_cons.mp (show(x.1::keys l).Nodup from nd)
     rcases List.mem_cons.mp D with g1 | g1
     ·rcases List.mem_cons.mp d with g2 | g2
      ·rw [g1,g2]
      ·exact absurd (by rw [←g1,e]; exact List.mem_map_of_mem g2) nd.1
     ·rcases List.mem_cons.mp d with g2 | g2
      ·exact absurd (by rw [←g2,←e]; exact List.mem_map_of_mem g1) nd.1
      ·exact U nd.2 g1 g2 e
   exact key nd z hp e
  rw [←this]
  exact P.at_ r H
 ·obtain ⟨o,D,d⟩:=u p (h0 p hp hk)
  exact⟨o,P.frame _ _ D hk,d⟩
theorem jr {c:Code} {M:Addr} (h:ao c=.call (.ref M) ⟨[],[]⟩):c=.call (.ref M) ⟨[],[]⟩:=by
 obtain ⟨pos,rfl,hp⟩:=av h
 cases pos with
 | nil=>rfl
 | cons v l=>cases hp
noncomputable def pT (w:World) (b:Bool) (tk:Addr):Obj:=bq [!["self",.ref tk]]
noncomputable def X2 (w:World) (b:Bool) (a:Ad) (F:Addr):List aw:=[(F,pT w b a.tk),(a.er,aV [])]
structure Gx (w:World) (b:Bool) (a:Ad) (F:Addr) (B:fm) (as:List Addr) (s:Shared) (L:List aw):Prop where
 nt:∀e∈X2 w b a F++L,e.2.cls≠.type "tuple"
 at_:aJ s.heap (X2 w b a F++L)
 nd:(keys (X2 w b a F++L)++as).Nodup
 hi:∀e∈X2 w b a F++L,790≤e.1
 tp:aC (vs w b 150) s.heap
 wd:∀x∈B,x∉keys (X2 w b a F++L)++as∧s.heap.get? x≠none
structure bQ (w:World) (b:Bool) (B:fm) (s s':Shared):Prop where
 keep:∀x o,s.heap.get? x=some o→(x∈B∨o.cls=.type "tuple")→s'.heap.get? x=some o
 gens:s'.gens=s.gens
 os:s'.os=s.os
 grow:s.heap.objs.size≤s'.heap.objs.size
 top:aC (vs w b 150) s'.heap
theorem bQ.trans {w:World} {b:Bool} {B:fm} {s d u:Shared} (x:bQ w b B s d) (y:bQ w b B d u):bQ w b B s u:=
 ⟨fun c o e h=>y.keep c o (x.keep c o e h) h,y.gens.trans x.gens,y.os.trans x.os,Nat.le_trans x.grow y.grow,y.top⟩
section
variable {w:World} {b:Bool} {a:Ad} {T:List Nat} {F:Addr} {B:fm} {q:Q} {D k r:List Nat} {as:List Addr} {s s':Shared} {L:List aw}
theorem kN {o O:Obj} (e:aI o=O) (h:O.cls≠.type "tuple"):o.cls≠.type "tuple":=by
 obtain ⟨c,d,u,sl⟩:=o
 subst e
 exact h
theorem Ek.noTup (h:Ek w b a q D T k r as L):∀e∈X2 w b a F++L,e.2.cls≠.type "tuple":=by
 delta zy w b a T F q D k r as L at h
 obtain ⟨M,cv,E,pc,c,rfl⟩:=h
 generalize rX q D=X at c
 intro e G
 rcases (List.mem_append.mp G).symm with u | u
 ·rcases List.mem_append.mp u with d | d
  ·simp only [nM,TK,List.mem_cons,List.not_mem_nil,or_false] at d
   rcases d with rfl | rfl | rfl | rfl | rfl | rfl | rfl | rfl | rfl <;> (intro z; first | cases z | (injection z with z; exact absurd z (by decide)))
  ·cases c with
   | noN=>cases d
   | noR=>cases d
   | yes H D'=>cases List.mem_singleton.mp d; (intro z; first | cases z | (injection z with z; exact absurd z (by decide)))
 ·simp only [X2,List.mem_cons,List.not_mem_nil,or_false] at u
  rcases u with rfl | rfl <;> (intro z; first | cases z | (injection z with z; exact absurd z (by decide)))
structure Gn (w:World) (b:Bool) (a:Ad) (T:List Nat) (F:Addr) (B:fm) (q:Q) (D k r:List Nat) (as:List Addr) (s:Shared) (L:List aw):Prop where
 isC:Ek w b a q D T k r as L
 x:Gx w b a F B as s L
theorem Gn.at_ (G:Gn w b a T F B q D k r as s L):aJ s.heap (X2 w b a F++L):=G.x.at_
theorem Gn.nd (G:Gn w b a T F B q D k r as s L):(keys (X2 w b a F++L)++as).Nodup:=G.x.nd
theorem Gn.hi (G:Gn w b a T F B q D k r as s L):∀e∈X2 w b a F++L,790≤e.1:=G.x.hi
theorem Gn.tp (G:Gn w b a T F B q D k r as s L):aC (vs w b 150) s.heap:=G.x.tp
theorem Gn.wd (G:Gn w b a T F B q D k r as s L):∀x∈B,x∉keys (X2 w b a F++L)++as∧s.heap.get? x≠none:=G.x.wd
theorem Gn.of (c:Ek w b a q D T k r as L) (at_:aJ s.heap (X2 w b a F++L)) (nd:(keys (X2 w b a F++L)++as).Nodup) (hi:∀e∈X2 w b a F++L,790≤e.1) (tp:aC (vs w b 150) s.heap) (wd:∀x∈B,x∉keys (X2 w b a F++L)++as∧s.heap.get? x≠none):Gn w b a T F B q D k r as s L:=
 ⟨c,c.noTup,at_,nd,hi,tp,wd⟩
theorem Gx.keep (G:Gx w b a F B as s L) {K:List Addr} (f:aH (vs w b 150) K s s') (z:∀x∈K,x∈keys (X2 w b a F++L)):bQ w b B s s':=by
 refine⟨fun x o e h=>f.frame x o e fun d=>?_,f.gens,f.os,f.grow,f.top⟩
 have d:=z x d
 rcases h with h | h
 ·exact(G.wd x h).1 (List.mem_append_left _ d)
 ·obtain ⟨p,hp,rfl⟩:=List.mem_map.mp d
  obtain ⟨H,u,D⟩:=G.at_ p hp
  rw [e] at u
  cases u
  exact kN D (G.nt p hp) h
theorem Gn.keep (G:Gn w b a T F B q D k r as s L) {K:List Addr} (f:aH (vs w b 150) K s s') (d:∀x∈K,x∈keys (X2 w b a F++L)):bQ w b B s s':=G.x.keep f d
end
section
variable {w:World} {b:Bool} {a:Ad} {T:List Nat} {F:Addr} {B:fm} {q:Q} {D k r:List Nat} {as:List Addr} {s s':Shared} {L J:List aw} {A:Around}
theorem fM.keeps {h d:Heap} {x:Addr} {n:Int} {y:Str} (t:fM w b h x n y) (f:∀o,h.get? x=some o→d.get? x=some o):fM w b d x n y:=by
 delta zz w b h d x n y
 obtain ⟨h7,rest,u,at_⟩:=t
 refine⟨h7,rest,u,fun p hp=>?_⟩
 cases List.mem_singleton.mp hp
 obtain ⟨o,z,D⟩:=at_ _ (.head _)
 exact⟨o,f o z,D⟩
theorem bj.keeps {h d:Heap}:∀{as:List Addr} {ts:List Tk},bj w b h as ts→(∀x∈as,∀o,h.get? x=some o→d.get? x=some o)→bj w b d as ts
 | [],[],_,_=>trivial
 | [],_::_,t,_=>t.elim
 | _::_,[],t,_=>t.elim
 | _::_,_::_,⟨u,z⟩,f=>⟨u.keeps (f _ (.head _)),z.keeps fun x D=>f x (.tail _ D)⟩
theorem Gx.nd1 (G:Gx w b a F B as s L):(keys (X2 w b a F++L)).Nodup:=(List.nodup_append.mp G.nd).1
theorem Gn.nd1 (G:Gn w b a T F B q D k r as s L):(keys (X2 w b a F++L)).Nodup:=(List.nodup_append.mp G.nd).1
theorem Gx.out (G:Gx w b a F B as s L) {x:Addr} (d:x∈as):x∉keys (X2 w b a F++L):=fun h=>(List.nodup_append.mp G.nd).2.2 x h x d rfl
theorem Gx.same {S:List aw} (G:Gx w b a F B as s L) (P:aD (vs w b 150) s (keys S) s' S) (sub:∀x∈S,x∈X2 w b a F++L):Gx w b a F B as s' L∧bQ w b B s s'∧∀x∈as,∀o,s.heap.get? x=some o→s'.heap.get? x=some o:=by
 have hk:∀x∈keys S,x∈keys (X2 w b a F++L):=fun x d=>by
  obtain ⟨p,hp,rfl⟩:=List.mem_map.mp d
  exact List.mem_map_of_mem (sub p hp)
 have K:=G.keep P.far hk
 refine⟨⟨G.nt,Ig P G.at_ (fun p hp _=>hp) sub G.nd1 (fun x d=>d),G.nd,G.hi,P.top,fun x d=>⟨(G.wd x d).1,fun e=>?_⟩⟩,K,fun x d o e=>P.frame x o e fun h=>G.out d (hk x h)⟩
 cases h:s.heap.get? x with
 | none=>exact(G.wd x d).2 h
 | some o=>rw [K.keep x o h (.inl d)] at e; cases e
theorem Gn.out (G:Gn w b a T F B q D k r as s L) {x:Addr} (d:x∈as):x∉keys (X2 w b a F++L):=G.x.out d
theorem Gn.same {S:List aw} (G:Gn w b a T F B q D k r as s L) (P:aD (vs w b 150) s (keys S) s' S) (sub:∀x∈S,x∈X2 w b a F++L):Gn w b a T F B q D k r as s' L∧bQ w b B s s'∧∀x∈as,∀o,s.heap.get? x=some o→s'.heap.get? x=some o:=by
 obtain ⟨d,u,z⟩:=G.x.same P sub
 exact⟨⟨G.isC,d⟩,u,z⟩
theorem c6.cv {X:Option Str} {cv:Value} {E:List aw} (c:c6 w b X cv E):cv=.none∨∃y,cv=.ref y:=by
 cases c with
 | noN=>exact .inl rfl
 | noR y=>exact .inr ⟨y,rfl⟩
 | yes d D=>exact .inr ⟨d,rfl⟩
theorem kO {L:List aw}:∀l:List Nat,keys (jE l L)=keys (gD l L)
 | []=>rfl
 | i::r=>by
  have e:∀(L:List aw) (i:Nat),jP L i=L[i]?:=fun L=>by
   induction L with
   | nil=>intro i; rfl
   | cons a L d=>intro i; cases i with
    | zero=>rfl
    | succ i=>exact d i
  unfold jE gD
  rw [e]
  cases L[i]? with
  | none=>exact kO r
  | some a=>exact congrArg (a.1::·) (kO r)
theorem iw {L:List aw} {l:List Nat} (h:(keys L).Nodup) (hs:bO l=true):(keys (jE l L)).Nodup:=kO l▸c8 h hs
theorem iy {h:Heap} {L:List aw} (H:aJ h L) (l:List Nat):aJ h (jE l L):=fun p hp=>H p (e7 l p hp)
theorem iz {L:List aw} {n:Nat} (H:∀p∈L,n≤p.1) (l:List Nat):∀p∈jE l L,n≤p.1:=fun p hp=>H p (e7 l p hp)
theorem c6.cvo {X:Option Str} {cv:Value} {E:List aw} (c:c6 w b X cv E):∃o,cv=eH o:=c.cv.elim (fun h=>⟨none,h⟩) fun⟨y,h⟩=>⟨some y,h⟩
theorem EC (rm:au 150 A) (G:Gn w b a T F B q D k r as s L):wpAny (model pg (wb w b)) A (execs [ad xO 0] (bZ F)) (fun f s'=>f=.next∧Gn w b a T F B q D k r as s' L∧bQ w b B s s'∧∀x∈as,∀o,s.heap.get? x=some o→s'.heap.get? x=some o) (fun _ _=>False) s:=by
 delta zz w b a T F B q D k r as s L A
 have d:=G
 obtain ⟨M,cv,E,pc,c,u⟩:=G.isC
 have nd:=iw (l:=[0,3,4,5,6,1]) G.nd1 rfl
 have at_:=iy G.at_ [0,3,4,5,6,1]
 have hi:=iz G.hi [0,3,4,5,6,1]
 refine wpAny_mono (aP (R:=fun r' s'=>r'=.ok .next∧Gn w b a T F B q D k r as s' L∧bQ w b B s s'∧∀x∈as,∀o,s.heap.get? x=some o→s'.heap.get? x=some o) ?_) (fun f s' h=>⟨by injection h.1,h.2⟩) (fun e s' h=>(by cases h.1))
 subst u
 obtain ⟨co,rfl⟩:=c.cvo
 exact aM (V:=vs w b 150) rfl rfl rm G.tp at_ hi nd fun y=>⟨4000,Es,bB (sel:=[0,1,2,3,4,5]) rfl (Kj w F a.tk a.tkd a.st a.sd a.m a.nl a.ds a.er a.lf a.q M (XU k r) (nU k r) (pU k) 0 pc y _ co b) (fun I U mo z=>z fun r' s2 H P=>⟨bm H,d.same P (jc [0,3,4,5,6,1] rfl)⟩)⟩
theorem Ii (rm:au 150 A) (G:Gn w b a T F B q D k r [] s L):wpAny (model pg (wb w b)) A (isTrue (sE nT) (bZ F) (eval (sE nT) (bZ F))) (fun v s'=>v=false∧Gn w b a T F B q D k r [] s' L∧bQ w b B s s'∧∀x∈([]:List Addr),∀o,s.heap.get? x=some o→s'.heap.get? x=some o) (fun _ _=>False) s:=by
 delta zz w b a T F B q D k r s L A
 have d:=G
 obtain ⟨M,cv,E,pc,c,u⟩:=G.isC
 have nd:=iw (l:=[0,3,4,10]) G.nd1 rfl
 have at_:=iy G.at_ [0,3,4,10]
 have hi:=iz G.hi [0,3,4,10]
 refine wpAny_mono (d8 (R:=fun r' s'=>r'=.ok (.ret (.bool false))∧Gn w b a T F B q D k r [] s' L∧bQ w b B s s'∧∀x∈([]:List Addr),∀o,s.heap.get? x=some o→s'.heap.get? x=some o) ?_) (fun f s' h=>⟨by have e:=h.1; injection e with e; injection e with e; injection e,h.2⟩) (fun e s' h=>(by cases h.1))
 subst u
 obtain ⟨co,rfl⟩:=c.cvo
 exact aM (V:=vs w b 150) rfl rfl rm G.tp at_ hi nd fun y=>⟨4000,u0,bB (sel:=[0,1,2,3]) rfl (Ie w F a.tk a.tkd a.st a.lf a.q M y _ co b) (fun I U mo z=>z fun r' s2 H P=>⟨dI H,d.same P (jc [0,3,4,10] rfl)⟩)⟩
theorem Ks {d:Addr} {as:List Addr} (u:(d::as).length≤2) (rm:au 150 A) (G:Gn w b a T F B q D k r (d::as) s L):wpAny (model pg (wb w b)) A (isTrue (sE nT) (bZ F) (eval (sE nT) (bZ F))) (fun v s'=>v=true∧Gn w b a T F B q D k r (d::as) s' L∧bQ w b B s s'∧∀x∈(d::as),∀o,s.heap.get? x=some o→s'.heap.get? x=some o) (fun _ _=>False) s:=by
 delta zz w b a T F B q D k r s L A d as
 have z:=G
 obtain ⟨M,cv,E,pc,c,H⟩:=G.isC
 have nd:=iw (l:=[0,3,4,10]) G.nd1 rfl
 have at_:=iy G.at_ [0,3,4,10]
 have hi:=iz G.hi [0,3,4,10]
 refine wpAny_mono (d8 (R:=fun r' s'=>r'=.ok (.ret (.bool true))∧Gn w b a T F B q D k r (d::as) s' L∧bQ w b B s s'∧∀x∈(d::as),∀o,s.heap.get? x=some o→s'.heap.get? x=some o) ?_) (fun f s' h=>⟨by have e:=h.1; injection e with e; injection e with e; injection e,h.2⟩) (fun e s' h=>(by cases h.1))
 subst H
 obtain ⟨co,rfl⟩:=c.cvo
 exact aM (V:=vs w b 150) rfl rfl rm G.tp at_ hi nd fun y=>⟨4000,Et,bB (sel:=[0,1,2,3]) rfl (Km w F a.tk a.tkd a.st a.lf a.q M d as y _ co b (Nat.le_of_succ_le_succ u)) (fun Ok sm mo I=>I fun r' s2 U P=>⟨dI U,z.same P (jc [0,3,4,10] rfl)⟩)⟩
theorem dX {r:Result} {x:Addr} (h:ba r=.ok (.ret (.ref x))):r=.ok (.ret (.ref x)):=by
 delta zz r x
 cases r with
 | error e=>cases h
 | ok f=>cases f with
  | ret u=>cases u <;> first | (cases h; rfl) | cases h
  | _=>cases h
theorem yU (w:World) (b:Bool) (a:Ad) (q:Q) (M:Addr) (cv:Value) (T k r:List Nat) (pc:Int) (l d:List Value) (E:List aw):keys (nM w b a q M cv T k r pc l++E)=keys (nM w b a q M cv T k r pc d++E):=by
 unfold keys
 rw [List.map_append,List.map_append]
 rfl
theorem Ku {d:Addr} {as:List Addr} (hl:(d::as).length≤2) (rm:au 150 A) (G:Gn w b a T F B q D k r (d::as) s L):wpAny (model pg (wb w b)) A (eval (xE (sE yS)) (bZ F)) (fun v s'=>v=.ref d∧(∃J,Gn w b a T F B q D k r as s' J)∧bQ w b B s s'∧∀x∈(d::as),∀o,s.heap.get? x=some o→s'.heap.get? x=some o) (fun _ _=>False) s:=by
 delta zz w b a T F B q D k r s L A d as
 have u:=G
 obtain ⟨M,cv,E,pc,c,hL⟩:=G.isC
 have nd:=iw (l:=[0,3,4,10]) G.nd1 rfl
 have at_:=iy G.at_ [0,3,4,10]
 have hi:=iz G.hi [0,3,4,10]
 refine wpAny_mono (gI (R:=fun r' s'=>r'=.ok (.ret (.ref d))∧(∃J,Gn w b a T F B q D k r as s' J)∧bQ w b B s s'∧∀x∈(d::as),∀o,s.heap.get? x=some o→s'.heap.get? x=some o) ?_) (fun f s' h=>⟨by have e:=h.1; injection e with e; injection e with e,h.2⟩) (fun e s' h=>(by cases h.1))
 subst hL
 have sub:∀x∈[F,a.tk,a.tkd,a.q],x∈keys (X2 w b a F++(nM w b a q M cv T k r pc (aq (d::as))++E)):=ag (.head _) (jc [3,4,10] rfl)
 have fin:∀z S,aD (vs w b 150) s [F,a.tk,a.tkd,a.q] z S→S=[(F,pT w b a.tk),(a.tk,inst 762 a.tkd),(a.tkd,fY (pr w b) a.st a.lf M cv a.q),(a.q,aV (aq as))]→
   (∃J,Gn w b a T F B q D k r as z J)∧bQ w b B s z∧∀x∈(d::as),∀o,s.heap.get? x=some o→z.heap.get? x=some o:=by
  rintro z S P rfl
  have K:=u.keep P.far sub
  have U:keys (X2 w b a F++(nM w b a q M cv T k r pc (aq as)++E))=keys (X2 w b a F++(nM w b a q M cv T k r pc (aq (d::as))++E)):=by
   unfold keys
   rw [List.map_append,List.map_append]
   exact congrArg _ (yU w b a q M cv T k r pc _ _ E)
  have hp:∀p∈X2 w b a F++(nM w b a q M cv T k r pc (aq as)++E),p.1≠a.q→p∈X2 w b a F++(nM w b a q M cv T k r pc (aq (d::as))++E):=fun p hp hne=>by
   have hp:p∈[(F,pT w b a.tk),(a.er,aV []),(M,bA q.addr a.tk),(a.tk,inst 762 a.tkd),(a.tkd,fY (pr w b) a.st a.lf M cv a.q),(a.st,inst 166 a.sd),(a.sd,eB (pr w b) a.m a.nl a.ds a.er (XU k r) (nU k r) (pU k) 0 pc),(a.ds,inst 73 a.dsd),(a.dsd,gJ (pr w b) ⟨⟨T⟩⟩ (tU T)),(a.m,bA 148 a.st)]++(a.q,aV (aq as))::E:=hp
   have I:p∈[(F,pT w b a.tk),(a.er,aV []),(M,bA q.addr a.tk),(a.tk,inst 762 a.tkd),(a.tkd,fY (pr w b) a.st a.lf M cv a.q),(a.st,inst 166 a.sd),(a.sd,eB (pr w b) a.m a.nl a.ds a.er (XU k r) (nU k r) (pU k) 0 pc),(a.ds,inst 73 a.dsd),(a.dsd,gJ (pr w b) ⟨⟨T⟩⟩ (tU T)),(a.m,bA 148 a.st)]++(a.q,aV (aq (d::as)))::E:=by
    rcases List.mem_append.mp hp with h | h
    ·exact List.mem_append_left _ h
    ·rcases List.mem_cons.mp h with h | h
     ·exact absurd (by rw [h]) hne
     ·exact List.mem_append_right _ (.tail _ h)
   exact I
  refine⟨⟨_,Gn.of ⟨M,cv,E,pc,c,rfl⟩ (Ig P u.at_ (fun p h hk=>hp p h fun e=>hk (by rw [e]; simp)) ?_ (by rw [U]; exact u.nd1) (fun x H=>H)) ?_ ?_ P.top fun x H=>⟨?_,fun e=>?_⟩⟩,K,fun x H o e=>P.frame x o e fun h=>u.out H (sub x h)⟩
  ·exact ag (.head _) (jc [3,4,10] rfl)
  ·rw [U]
   have:=u.nd
   refine List.Nodup.sublist ?_ this
   exact List.Sublist.append_left (List.sublist_cons_self ..) _
  ·intro e he
   have:e.1∈keys (X2 w b a F++(nM w b a q M cv T k r pc (aq (d::as))++E)):=by rw [←U]; exact List.mem_map_of_mem he
   obtain ⟨e',he',ee⟩:=List.mem_map.mp this
   rw [←ee]; exact u.hi e' he'
  ·rw [U]
   intro h
   refine(u.wd x H).1 ?_
   rcases List.mem_append.mp h with h | h
   ·exact List.mem_append_left _ h
   ·exact List.mem_append_right _ (.tail _ h)
  ·cases h:s.heap.get? x with
   | none=>exact(u.wd x H).2 h
   | some o=>rw [K.keep x o h (.inl H)] at e; cases e
 obtain ⟨co,rfl⟩:=c.cvo
 exact aM (V:=vs w b 150) rfl rfl rm G.tp at_ hi nd fun y=>⟨4000,Eu,bB (sel:=[0,1,2,3]) rfl (Kp w F a.tk a.tkd a.st a.lf a.q M d as y _ co b (Nat.le_of_succ_le_succ hl)) (fun Ok sm mo dn=>dn fun r' z hr P=>⟨dX hr,fin z _ P rfl⟩)⟩
theorem aH.keep0 {d u:Shared} (f:aH (vs w b 150) [] d u):bQ w b B d u:=⟨fun x o e _=>f.frame x o e (by simp),f.gens,f.os,f.grow,f.top⟩
theorem Gx.next {q':Q} {D' k' r':List Nat} {as':List Addr} {ts:List Tk} {I s3:Shared} {L':List aw} (G:Gx w b a F B as s L) (hc:Ek w b a q' D' T k' r' as' L') (at2:aJ I.heap L') (lC:(keys L'++as').Nodup) (hi2:∀e∈L',790≤e.1)
  (tk2:bj w b I.heap as' ts) (fr:∀x∈keys L'++as',x∈keys L∨s.heap.get? x=none) (f2:aH (vs w b 200) (keys L) s I) (f3:aH (vs w b 150) [] I s3):
  bQ w b B s s3∧∃L' as',Gn w b a T F B q' D' k' r' as' s3 L'∧bj w b s3.heap as' ts:=by
 have z:keys (X2 w b a F++L)=[F,a.er]++keys L:=List.map_append
 have D:keys (X2 w b a F++L')=[F,a.er]++keys L':=List.map_append
 have f2':aH (vs w b 150) (keys L) s I:=f2.room
 have K2:bQ w b B s I:=G.keep f2' fun x u=>by rw [z]; exact List.mem_append_right _ u
 have K:=K2.trans f3.keep0
 have nd1:=G.nd1
 rw [z] at nd1
 have H:=List.nodup_append.mp nd1
 have live:∀x∈[F,a.er],s.heap.get? x≠none:=fun x u e=>by
  have:x∈keys (X2 w b a F):=u
  obtain ⟨p,hp,rfl⟩:=List.mem_map.mp this
  obtain ⟨o,U,_⟩:=G.at_ p (List.mem_append_left _ hp)
  rw [e] at U; cases U
 have sep:∀x,(x∉keys L∧s.heap.get? x≠none)→x∉keys L'++as':=fun x h d=>by
  rcases fr x d with k | k
  ·exact h.1 k
  ·exact h.2 k
 refine⟨K,L',as',Gn.of hc ?_ ?_ ?_ f3.top (fun x u=>⟨?_,fun e=>?_⟩),tk2.keeps fun x _ o e=>f3.frame x o e (by simp)⟩
 ·intro p hp
  rcases List.mem_append.mp hp with hp | hp
  ·obtain ⟨o,U,h2⟩:=G.at_ p (List.mem_append_left _ hp)
   refine⟨o,f3.frame _ _ (f2'.frame _ _ U fun d=>?_) (by simp),h2⟩
   exact H.2.2 p.1 (List.mem_map_of_mem hp) p.1 d rfl
  ·obtain ⟨o,U,h2⟩:=at2 p hp
   exact⟨o,f3.frame _ _ U (by simp),h2⟩
 ·rw [D,List.append_assoc]
  refine List.nodup_append.mpr ⟨H.1,lC,fun x u y hy e=>?_⟩
  subst e
  exact sep x ⟨fun d=>H.2.2 x u x d rfl,live x u⟩ hy
 ·intro e he
  rcases List.mem_append.mp he with he | he
  ·exact G.hi e (List.mem_append_left _ he)
  ·exact hi2 e he
 ·have hw:=G.wd x u
  rw [D,List.append_assoc]
  intro d
  rcases List.mem_append.mp d with d | d
  ·exact hw.1 (List.mem_append_left _ (by rw [z]; exact List.mem_append_left _ d))
  ·exact sep x ⟨fun h=>hw.1 (List.mem_append_left _ (by rw [z]; exact List.mem_append_right _ h)),hw.2⟩ d
 ·cases h:s.heap.get? x with
  | none=>exact(G.wd x u).2 h
  | some o=>rw [K.keep x o h (.inl u)] at e; cases e
theorem u9 {m:Mo} (rm:au 150 A) (G:Gn w b a T F B q D k r [] s L) (I:bg D k r) (h0:q=.cs∨q=.csd→∀z,r≠0::z) (e:step q D k r=some m):wpAny (model pg (wb w b)) A (isTrue (sE jH) (bZ F) (eval (sE jH) (bZ F))) (fun v s'=>v=true∧bQ w b B s s'∧∃L' as',Gn w b a T F B m.q m.D m.kr.1 m.kr.2 as' s' L'∧bj w b s'.heap as' m.ts) (fun _ _=>False) s:=by
 have G0:=G
 obtain ⟨M,cv,E,pc,c,hL⟩:=G.isC
 have nd:=iw (l:=[0,3,4,2]) G.nd1 rfl
 have at_:=iy G.at_ [0,3,4,2]
 have hi:=iz G.hi [0,3,4,2]
 refine wpAny_mono (d8 (R:=fun r' s'=>r'=.ok (.ret (.bool true))∧bQ w b B s s'∧∃L' as',Gn w b a T F B m.q m.D m.kr.1 m.kr.2 as' s' L'∧bj w b s'.heap as' m.ts) ?_) (fun f s' h=>⟨by have e:=h.1; injection e with e; injection e with e; injection e,h.2⟩) (fun e s' h=>(by cases h.1))
 subst hL
 have go:∀(H:Around) (U:Shared),au 200 H→aD (vs w b 150) s [F,a.tk,a.tkd,M] U [(F,pT w b a.tk),(a.tk,inst 762 a.tkd),(a.tkd,fY (pr w b) a.st a.lf M cv a.q),(M,bA q.addr a.tk)]→
   codeAny (model pg (wb w b)) H (.call (.ref M) ⟨[],[]⟩) (fun r' s2=>r'=.ok (.ret (.bool true))∧aC (vs w b 150) s2.heap∧∀d,aH (vs w b 150) [] s2 d→bQ w b B s d∧(∃L' as3,Gn w b a T F B m.q m.D m.kr.1 m.kr.2 as3 d L'∧bj w b d.heap as3 m.ts)) U:=by
  intro H U u P
  obtain ⟨G1,K1,_⟩:=G0.same (S:=[(F,pT w b a.tk),(a.tk,inst 762 a.tkd),(a.tkd,fY (pr w b) a.st a.lf M cv a.q),(M,bA q.addr a.tk)]) P (jc [0,3,4,2] rfl)
  refine codeAny_mono (uZ I c h0 e _ _ u P.top (fun p hp=>G1.at_ p (List.mem_append_right _ hp)) (fun p hp=>G1.hi p (List.mem_append_right _ hp)) (by have z:=G1.nd1; unfold keys at z; rw [List.map_append] at z; exact(List.nodup_append.mp z).2.1)) ?_
  rintro r' s2 ⟨er,J,as2,h1,h2,h3,h4,h5,h6,h7⟩
  refine⟨er,h7.top,fun d f3=>?_⟩
  obtain ⟨K2,x⟩:=G1.x.next h1 h2 h3 h4 h5 h6 h7 f3
  exact⟨K1.trans K2,x⟩
 obtain ⟨co,rfl⟩:=c.cvo
 exact aM (V:=vs w b 150) rfl rfl rm G.tp at_ hi nd fun y=>⟨4000,yR,dk (sel:=[0,1,2,3]) rfl (nR w F a.tk a.tkd a.st a.lf a.q M y _ q co b) (fun Ok sm mo cL=>cL rfl fun H U c' G gk hc' u P=>by
  cases jr hc'
  exact codeAny_mono (go H U u P) fun r' s2 h=>⟨.ok (.ret (.bool true)),[],⟨by rw [h.1],fun p hp=>(by cases hp),h.2.1,fun p hp=>(by cases hp),List.nodup_nil⟩,gk fun y1 t1=>iH (sel:=[]) rfl (nS w F a.tk a.tkd a.st a.lf a.q M y _ t1 y1 _ true q co b) (g9 fun r3 d hr P3=>⟨dI hr,h.2.2 d P3.far⟩)⟩)⟩
theorem yV (rm:au 150 A) (G:Gn w b a T F B .data D k [] [] s L) (hk:sI k.reverse):wpAny (model pg (wb w b)) A (isTrue (sE jH) (bZ F) (eval (sE jH) (bZ F))) (fun v s'=>v=false∧bQ w b B s s'∧∃L' as',Gn w b a T F B .data D [] [] as' s' L'∧bj w b s'.heap as' []) (fun _ _=>False) s:=by
 delta zz w b a T F B D k s L A
 have G0:=G
 obtain ⟨M,cv,E,pc,c,hL⟩:=G.isC
 have nd:=iw (l:=[0,3,4,2]) G.nd1 rfl
 have at_:=iy G.at_ [0,3,4,2]
 have hi:=iz G.hi [0,3,4,2]
 refine wpAny_mono (d8 (R:=fun r' s'=>r'=.ok (.ret (.bool false))∧bQ w b B s s'∧∃L' as',Gn w b a T F B .data D [] [] as' s' L'∧bj w b s'.heap as' []) ?_) (fun f s' h=>⟨by have e:=h.1; injection e with e; injection e with e; injection e,h.2⟩) (fun e s' h=>(by cases h.1))
 subst hL
 have go:∀(H:Around) (I:Shared),au 200 H→aD (vs w b 150) s [F,a.tk,a.tkd,M] I [(F,pT w b a.tk),(a.tk,inst 762 a.tkd),(a.tkd,fY (pr w b) a.st a.lf M cv a.q),(M,bA 304 a.tk)]→
   codeAny (model pg (wb w b)) H (.call (.ref M) ⟨[],[]⟩) (fun r' s2=>r'=.ok (.ret (.bool false))∧aC (vs w b 150) s2.heap∧∀d,aH (vs w b 150) [] s2 d→bQ w b B s d∧(∃L' U,Gn w b a T F B .data D [] [] U d L'∧bj w b d.heap U [])) I:=by
  intro H I u P
  obtain ⟨G1,K1,_⟩:=G0.same (S:=[(F,pT w b a.tk),(a.tk,inst 762 a.tkd),(a.tkd,fY (pr w b) a.st a.lf M cv a.q),(M,bA 304 a.tk)]) P (jc [0,3,4,2] rfl)
  refine codeAny_mono (rY u P.top hk c (fun p hp=>G1.at_ p (List.mem_append_right _ hp)) (fun p hp=>G1.hi p (List.mem_append_right _ hp)) (by have z:=G1.nd1; unfold keys at z; rw [List.map_append] at z; exact(List.nodup_append.mp z).2.1)) ?_
  rintro r' s2 ⟨er,J,h1,h2,h3,h4,h6,h7⟩
  refine⟨er,h7.top,fun d f3=>?_⟩
  obtain ⟨K2,x⟩:=G1.x.next (as':=[]) (ts:=[]) h1 h2 (by rw [List.append_nil]; exact h3) h4 trivial (fun x hx=>h6 x (by rw [List.append_nil] at hx; exact hx)) h7 f3
  exact⟨K1.trans K2,x⟩
 obtain ⟨co,rfl⟩:=c.cvo
 exact aM (V:=vs w b 150) rfl rfl rm G.tp at_ hi nd fun y=>⟨4000,yR,dk (sel:=[0,1,2,3]) rfl (nR w F a.tk a.tkd a.st a.lf a.q M y _ .data co b) (fun Ok sm mo cL=>cL rfl fun H I c' G gk hc' u P=>by
  cases jr hc'
  exact codeAny_mono (go H I u P) fun r' s2 h=>⟨.ok (.ret (.bool false)),[],⟨by rw [h.1],fun p hp=>(by cases hp),h.2.1,fun p hp=>(by cases hp),List.nodup_nil⟩,gk fun y1 t1=>iH (sel:=[]) rfl (nS w F a.tk a.tkd a.st a.lf a.q M y _ t1 y1 _ false .data co b) (g9 fun r3 d hr P3=>⟨dI hr,h.2.2 d P3.far⟩)⟩)⟩
theorem va {c0:Nat} {r0:List Nat} {m:Mo} {M:Addr} (rm:au 150 A) (G:Gx w b a F B [] s (TK w b a 304 M .none ⟨⟨T⟩⟩ (XU [] []) (nU [] []) (pU []) 0 0 0 [])) (hT:T=c0::r0) (I:bg D [] (c0::r0)) (e:step .data D [] (c0::r0)=some m):wpAny (model pg (wb w b)) A (isTrue (sE jH) (bZ F) (eval (sE jH) (bZ F))) (fun v s'=>v=true∧bQ w b B s s'∧∃L' as',Gn w b a T F B m.q m.D m.kr.1 m.kr.2 as' s' L'∧bj w b s'.heap as' m.ts) (fun _ _=>False) s:=by
 delta zz w b a T F B D s A c0 r0 M at m
 have G0:=G
 have nd:=iw (l:=[0,3,4,2]) G.nd1 rfl
 have at_:=iy G.at_ [0,3,4,2]
 have hi:=iz G.hi [0,3,4,2]
 refine wpAny_mono (d8 (R:=fun r' s'=>r'=.ok (.ret (.bool true))∧bQ w b B s s'∧∃L' as',Gn w b a T F B m.q m.D m.kr.1 m.kr.2 as' s' L'∧bj w b s'.heap as' m.ts) ?_) (fun f s' h=>⟨by have e:=h.1; injection e with e; injection e with e; injection e,h.2⟩) (fun e s' h=>(by cases h.1))
 have go:∀(H:Around) (U:Shared),au 200 H→aD (vs w b 150) s [F,a.tk,a.tkd,M] U [(F,pT w b a.tk),(a.tk,inst 762 a.tkd),(a.tkd,fY (pr w b) a.st a.lf M .none a.q),(M,bA 304 a.tk)]→
   codeAny (model pg (wb w b)) H (.call (.ref M) ⟨[],[]⟩) (fun r' s2=>r'=.ok (.ret (.bool true))∧aC (vs w b 150) s2.heap∧∀d,aH (vs w b 150) [] s2 d→bQ w b B s d∧(∃L' as3,Gn w b a T F B m.q m.D m.kr.1 m.kr.2 as3 d L'∧bj w b d.heap as3 m.ts)) U:=by
  intro H U u P
  obtain ⟨G1,K1,_⟩:=G0.same (S:=[(F,pT w b a.tk),(a.tk,inst 762 a.tkd),(a.tkd,fY (pr w b) a.st a.lf M .none a.q),(M,bA 304 a.tk)]) P (jc [0,3,4,2] rfl)
  refine codeAny_mono (nQ (E:=[]) hT I .noN e _ _ u P.top (fun p hp=>G1.at_ p (List.mem_append_right _ hp)) (fun p hp=>G1.hi p (List.mem_append_right _ hp)) (by have z:=G1.nd1; unfold keys at z; rw [List.map_append] at z; exact(List.nodup_append.mp z).2.1)) ?_
  rintro r' s2 ⟨er,J,as2,h1,h2,h3,h4,h5,h6,h7⟩
  refine⟨er,h7.top,fun d f3=>?_⟩
  obtain ⟨K2,x⟩:=G1.next h1 h2 h3 h4 h5 h6 h7 f3
  exact⟨K1.trans K2,x⟩
 exact aM (V:=vs w b 150) rfl rfl rm G.tp at_ hi nd fun y=>⟨4000,yR,dk (sel:=[0,1,2,3]) rfl (nR w F a.tk a.tkd a.st a.lf a.q M y _ .data none b) (fun Ok sm mo cL=>cL rfl fun H U c' G gk hc' u P=>by
   cases jr hc'
   exact codeAny_mono (go H U u P) fun r' s2 h=>⟨.ok (.ret (.bool true)),[],⟨by rw [h.1],fun p hp=>(by cases hp),h.2.1,fun p hp=>(by cases hp),List.nodup_nil⟩,gk fun y1 t1=>iH (sel:=[]) rfl (nS w F a.tk a.tkd a.st a.lf a.q M y _ t1 y1 _ true .data none b) (g9 fun r3 d hr P3=>⟨dI hr,h.2.2 d P3.far⟩)⟩)⟩
noncomputable def LI (w:World) (b:Bool) (a:Ad) (M:Addr) (T:List Nat):List aw:=
 [(M,bA 304 a.tk),(a.tk,inst 762 a.tkd),(a.tkd,LH (pr w b) a.st a.lf M),(a.st,inst 166 a.sd),(a.sd,eB (pr w b) a.m a.nl a.ds a.er (XU [] []) (nU [] []) (pU []) 0 0),(a.ds,inst 73 a.dsd),(a.dsd,gJ (pr w b) ⟨⟨T⟩⟩ 0),(a.m,bA 148 a.st)]
noncomputable def Ad.wq (a:Ad) (q:Addr):Ad:=⟨a.tk,a.tkd,a.st,a.sd,a.m,a.nl,a.ds,a.dsd,a.er,a.lf,q⟩
theorem Kv {M:Addr} (rm:au 150 A) (G:Gx w b a F B [] s (LI w b a M T)):wpAny (model pg (wb w b)) A (execs [ad dp 0] (bZ F)) (fun f s'=>f=.next∧bQ w b B s s'∧∃u,Gx w b (a.wq u) F B [] s' (TK w b (a.wq u) 304 M .none ⟨⟨T⟩⟩ (XU [] []) (nU [] []) (pU []) 0 0 0 [])) (fun _ _=>False) s:=by
 delta zz w b a T F B s A M
 have D:=G
 have nd:=iw (l:=[0,3,4]) G.nd1 rfl
 have at_:=iy G.at_ [0,3,4]
 have hi:=iz G.hi [0,3,4]
 refine wpAny_mono (aP (R:=fun r' s'=>r'=.ok .next∧bQ w b B s s'∧∃u,Gx w b (a.wq u) F B [] s' (TK w b (a.wq u) 304 M .none ⟨⟨T⟩⟩ (XU [] []) (nU [] []) (pU []) 0 0 0 [])) ?_) (fun f s' h=>⟨by injection h.1,h.2⟩) (fun e s' h=>(by cases h.1))
 refine aM (V:=vs w b 150) rfl rfl rm G.tp at_ hi nd fun y=>⟨4000,Em,bB (sel:=[0,1,2,3]) rfl (Kg w F a.tk a.tkd a.st a.lf M y _ b) (fun Ok sm mo dn=>mo fun u=>dn fun r' U hr P=>⟨bm hr,?_,u,?_⟩)⟩
 ·exact D.keep P.far (jc [0,3,4] rfl)
 ·have K:bQ w b B s U:=D.keep P.far (jc [0,3,4] rfl)
  have P:aD (vs w b 150) s [F,a.tk,a.tkd] U [(F,pT w b a.tk),(a.tk,inst 762 a.tkd),(a.tkd,fY (pr w b) a.st a.lf M .none u),(u,aV [])]:=P
  have nd1:([F,a.er,M,a.tk,a.tkd,a.st,a.sd,a.ds,a.dsd,a.m]:List Addr).Nodup:=D.nd1
  have nq:u∉[F,a.tk,a.tkd]:=fun h=>by
   have z:=P.nd
   have z:([F,a.tk,a.tkd]++[u]:List Addr).Nodup:=z
   exact(List.nodup_append.mp z).2.2 u h u (.head _) rfl
  have fresh:s.heap.get? u=none:=(P.own' u (by simp [keys])).resolve_left nq
  have nq2:∀x∈keys (X2 w b a F++LI w b a M T),x≠u:=fun x H e=>by
   obtain ⟨p,hp,rfl⟩:=List.mem_map.mp H
   obtain ⟨o,h1,_⟩:=D.at_ p hp
   rw [e,fresh] at h1
   cases h1
  have I:∀i x,([F,a.er,M,a.tk,a.tkd,a.st,a.sd,a.ds,a.dsd,a.m]:List Addr)[i]?=some x→i≠0→i≠3→i≠4→x∉[F,a.tk,a.tkd]:=fun i x h h0 h3 h4=>
   Ls (ya nd1 i 0 h rfl h0) (Ls (ya nd1 i 3 h rfl h3) (Lt (ya nd1 i 4 h rfl h4)))
  have one:∀p,p∈X2 w b a F++LI w b a M T→p.1∉[F,a.tk,a.tkd]→qx U.heap p.1 p.2:=fun p h n=>let ⟨o,z,z2⟩:=D.at_ p h; ⟨o,P.frame _ _ z n,z2⟩
  have d:∀p∈[(a.er,aV []),(M,bA 304 a.tk),(a.st,inst 166 a.sd),(a.sd,eB (pr w b) a.m a.nl a.ds a.er (XU [] []) (nU [] []) (pU []) 0 0),(a.ds,inst 73 a.dsd),(a.dsd,gJ (pr w b) ⟨⟨T⟩⟩ 0),(a.m,bA 148 a.st)],qx U.heap p.1 p.2:=
   ag (one _ (bp (i:=1) rfl) (I 1 _ rfl (by decide) (by decide) (by decide))) (ag (one _ (bp (i:=2) rfl) (I 2 _ rfl (by decide) (by decide) (by decide))) (ag (one _ (bp (i:=5) rfl) (I 5 _ rfl (by decide) (by decide) (by decide))) (ag (one _ (bp (i:=6) rfl) (I 6 _ rfl (by decide) (by decide) (by decide))) (ag (one _ (bp (i:=7) rfl) (I 7 _ rfl (by decide) (by decide) (by decide))) (ag (one _ (bp (i:=8) rfl) (I 8 _ rfl (by decide) (by decide) (by decide))) (ak (one _ (bp (i:=9) rfl) (I 9 _ rfl (by decide) (by decide) (by decide)))))))))
  have ek:keys (X2 w b (a.wq u) F++TK w b (a.wq u) 304 M .none ⟨⟨T⟩⟩ (XU [] []) (nU [] []) (pU []) 0 0 0 [])=keys (X2 w b a F++LI w b a M T)++[u]:=rfl
  refine⟨?_,?_,?_,?_,P.top,fun x H=>⟨?_,fun e=>?_⟩⟩
  ·intro e he
   simp only [X2,TK,Ad.wq,List.mem_append,List.mem_cons,List.not_mem_nil,or_false] at he
   rcases he with(rfl | rfl) | rfl | rfl | rfl | rfl | rfl | rfl | rfl | rfl | rfl <;> (intro z; first | cases z | (injection z with z; exact absurd z (by decide)))
  ·intro p hp
   simp only [X2,TK,Ad.wq,List.mem_append,List.mem_cons,List.not_mem_nil,or_false] at hp
   rcases hp with(rfl | rfl) | rfl | rfl | rfl | rfl | rfl | rfl | rfl | rfl | rfl
   ·exact P.get 0 rfl
   ·exact d _ (.head _)
   ·exact d _ (.tail _ (.head _))
   ·exact P.get 1 rfl
   ·exact P.get 2 rfl
   ·exact d _ (.tail _ (.tail _ (.head _)))
   ·exact d _ (.tail _ (.tail _ (.tail _ (.head _))))
   ·exact d _ (.tail _ (.tail _ (.tail _ (.tail _ (.head _)))))
   ·exact d _ (.tail _ (.tail _ (.tail _ (.tail _ (.tail _ (.head _))))))
   ·exact d _ (.tail _ (.tail _ (.tail _ (.tail _ (.tail _ (.tail _ (.head _)))))))
   ·exact P.get 3 rfl
  ·rw [List.append_nil,ek]
   refine List.nodup_append.mpr ⟨D.nd1,by simp,fun x H y hy e=>?_⟩
   cases List.mem_singleton.mp hy
   exact nq2 x H e
  ·intro e he
   have:e.1∈keys (X2 w b a F++LI w b a M T)++[u]:=by rw [←ek]; exact List.mem_map_of_mem he
   rcases List.mem_append.mp this with h | h
   ·obtain ⟨e',he',ee⟩:=List.mem_map.mp h
    rw [←ee]; exact D.hi e' he'
   ·rw [List.mem_singleton.mp h]
    exact P.hi' 3 rfl
  ·rw [List.append_nil,ek]
   intro h
   rcases List.mem_append.mp h with h | h
   ·exact(D.wd x H).1 (List.mem_append_left _ h)
   ·rw [List.mem_singleton.mp h] at H
    exact(D.wd u H).2 fresh
  ·cases h:s.heap.get? x with
   | none=>exact(D.wd x H).2 h
   | some o=>rw [K.keep x o h (.inl H)] at e; cases e
end
theorem CE {M:Model} {A:Around} {s:Shared} {st:Stmt} {env:Env} {Q:Flow→Shared→Prop} {E:Value→Shared→Prop} (h:wpAny M A (execs [st] env) Q E s):wpAny M A (exec st env) Q E s:=by
 rw [execs_cons] at h
 intro D p d
 have z:=h D p d
 rw [Sem.wp_bind'] at z
 refine Sem.wp_mono _ _ _ (fun f G s' h=>?_) (fun _ _ _ h=>h) p s z
 cases f <;> exact h
inductive Run:Q→List Nat→List Nat→List Nat→List Tk→Prop
 | stop (D k:List Nat):sI k.reverse→Run .data D k [] []
 | more {q:Q} {D k r:List Nat} {m:Mo} {ts:List Tk}:bg D k r→(q=.cs∨q=.csd→∀z,r≠0::z)→step q D k r=some m→Run m.q m.D m.kr.1 m.kr.2 ts→Run q D k r (m.ts++ts)
noncomputable def lZ (W:List Addr) (s s':Shared):Prop:=∀c o,s.heap.get? c=some o→c∉W→∃d,s'.heap.get? c=some d∧aI d=aI o
noncomputable def Ij (TT l:List Tk):Prop:=∃d,TT=d++l
section
variable (w:World) (b:Bool) (a:Ad) (T:List Nat) (F:Addr) (u:fm) (H:List Addr) (TT:List Tk)
noncomputable def YP:Protocol:=fun m s₀ v s' z=>∃x t l,v=.ref x∧x∉u∧l.length=m∧Ij TT (t::l)∧fM w b s'.heap x t.1 t.2∧bQ w b u s₀ s'∧(∀y∈u,s'.heap.get? y≠none)∧
 ∀d,lZ H s' d→aC (vs w b 150) d.heap→(∀y∈u,d.heap.get? y≠none)→z (.send .none) d
noncomputable def RP:GenEnd:=fun n s₀ r s₁=>r=.ok (.ret .none)∧n=0∧bQ w b u s₀ s₁∧∃d D L,Gn w b (a.wq d) T F u .data D [] [] [] s₁ L
end
section
variable {w:World} {b:Bool} {a:Ad} {T:List Nat} {F:Addr} {u:fm} {H:List Addr} {TT:List Tk} {A:Around} {q:Q} {D k r:List Nat} {rest:List Tk} {B:List Frame}
theorem Gn.after {as:List Addr} {s' d:Shared} {L:List aw} (G:Gn w b a T F u q D k r as s' L) (J:∀x∈H,x∈u) (U:lZ H s' d) (h2:aC (vs w b 150) d.heap) (h3:∀y∈u,d.heap.get? y≠none):
  Gn w b a T F u q D k r as d L∧∀x∈as,∀o,s'.heap.get? x=some o→∃z,d.heap.get? x=some z∧aI z=aI o:=
 ⟨Gn.of G.isC (fun p hp=>by
  obtain ⟨o,e1,e2⟩:=G.at_ p hp
  obtain ⟨z,e3,e4⟩:=U _ _ e1 fun h=>(G.wd _ (J _ h)).1 (List.mem_append_left _ (List.mem_map_of_mem hp))
  exact⟨z,e3,e4.trans e2⟩) G.nd G.hi h2 (fun x I=>⟨(G.wd x I).1,h3 x I⟩),
  fun x I o e=>U _ _ e fun h=>(G.wd _ (J _ h)).1 (List.mem_append_right _ I)⟩
theorem fM.soft {h z:Heap} {x:Addr} {n:Int} {y:Str} (t:fM w b h x n y) (f:∀o,h.get? x=some o→∃d,z.get? x=some d∧aI d=aI o):fM w b z x n y:=by
 delta zz w b h z x n y
 obtain ⟨h7,rest,D,at_⟩:=t
 refine⟨h7,rest,D,fun p hp=>?_⟩
 cases List.mem_singleton.mp hp
 obtain ⟨o,G,I⟩:=at_ _ (.head _)
 obtain ⟨d,J,U⟩:=f o G
 exact⟨d,J,U.trans I⟩
theorem bj.soft {h d:Heap}:∀{as:List Addr} {ts:List Tk},bj w b h as ts→(∀x∈as,∀o,h.get? x=some o→∃z,d.get? x=some z∧aI z=aI o)→bj w b d as ts
 | [],[],_,_=>trivial
 | [],_::_,t,_=>t.elim
 | _::_,[],t,_=>t.elim
 | _::_,_::_,⟨D,G⟩,f=>⟨D.soft (f _ (.head _)),G.soft fun x I=>f x (.tail _ I)⟩
theorem ka {s:Shared} (tp:aC (vs w b 150) s.heap):bQ w b u s s:=⟨fun _ _ e _=>e,rfl,rfl,Nat.le_refl _,tp⟩
theorem Ik (I:au 100 A) (U:PF B) (hl:B.length≤3) (hW:∀x∈H,x∈u)
  (z:∀s₀ s L,Gn w b a T F u q D k r [] s L→bQ w b u s₀ s→Seg (model pg (wb w b)) A (RP w b a T F u) (YP w b u H TT) rest.length s₀ (W3 F) (leafOf (.ok .next)) B s):
  ∀(as:List Addr) (ts:List Tk) (s₀ s:Shared) (L:List aw),as.length≤2→Gn w b a T F u q D k r as s L→bj w b s.heap as ts→Ij TT (ts++rest)→bQ w b u s₀ s→
   Seg (model pg (wb w b)) A (RP w b a T F u) (YP w b u H TT) (ts.length + rest.length) s₀ (W3 F) ((model pg (wb w b)).den (W3 F)) B s:=by
 delta zy w b a T F u H TT A q D k r rest B at I U hl hW z
 have ro:au 150 (A.over (W3 F) B):=eu U rfl I (by omega)
 intro as
 induction as with
 | nil=>
  intro ts s₀ s L _ G tk su K
  cases ts with
  | cons t ts=>exact tk.elim
  | nil=>
   rw [List.length_nil,Nat.zero_add]
   refine seg_whileLoop (wpAny_mono (Ii ro G) (fun v s' h=>?_) fun _ _ h=>h.elim)
   obtain ⟨rfl,G',K',_⟩:=h
   rw [if_neg (by decide)]
   exact seg_execs_nil (z s₀ s' L G' (K.trans K'))
 | cons x as ih=>
  intro ts s₀ s L hn G tk su K
  cases ts with
  | nil=>exact tk.elim
  | cons t ts=>
   have en:(t::ts).length + rest.length=(ts.length + rest.length) + 1:=by simp only [List.length_cons]; omega
   rw [en]
   refine seg_whileLoop (wpAny_mono (Ks hn ro G) (fun v s' h=>?_) fun _ _ h=>h.elim)
   obtain ⟨rfl,G',K',fr'⟩:=h
   rw [if_pos rfl]
   have tk':bj w b s'.heap (x::as) (t::ts):=bj.keeps tk fr'
   refine seg_execs_cons (seg_Expr_Yield U.split rfl U.guard (wpAny_mono (Ku hn ro G') (fun v s2 h=>?_) fun _ _ h=>h.elim) (yT F) (u8 F))
   obtain ⟨rfl,⟨L2,G2⟩,K2,fr2⟩:=h
   intro kap hk
   have J:bj w b s2.heap (x::as) (t::ts):=bj.keeps tk' fr2
   obtain ⟨d,hd⟩:=su
   refine⟨x,t,ts++rest,rfl,fun hx=>(G'.wd x hx).1 (List.mem_append_right _ (.head _)),by rw [List.length_append],⟨d,hd⟩,J.1,(K.trans K').trans K2,fun y hy=>(G2.wd y hy).2,fun s3 h1 h2 h3=>hk .none s3 ?_⟩
   obtain ⟨G3,fr3⟩:=G2.after hW h1 h2 h3
   exact seg_execs_nil (seg_again rfl (ih ts s3 s3 L2 (by simp only [List.length_cons] at hn; omega) G3 (bj.soft J.2 fr3) ⟨d++[t],by rw [hd]; simp⟩ (ka h2)))
theorem l4 {h:Heap}:∀{as:List Addr} {ts:List Tk},bj w b h as ts→as.length=ts.length
 | [],[],_=>rfl
 | [],_::_,t=>t.elim
 | _::_,[],t=>t.elim
 | _::_,_::_,⟨_,d⟩=>congrArg (·+ 1) (l4 d)
theorem l5 {m:Mo} (e:step q D k r=some m):m.ts.length≤2:=by
 have h:jn (fun m=>m.ts.length≤2) (step q D k r):=by
  clear e
  cases q
  case bogus=>
   show jn _ (match (cut (fun x=>x != 62) r).2 with | []=>_ | c::z=>_)
   cases (cut (fun x=>x != 62) r).2 <;> exact bX (Nat.le_succ 1)
  all_goals cases r
  all_goals repeat' (first | exact optN | exact bX (Nat.zero_le _) | exact bX (Nat.le_succ 1) | exact bX (Nat.le_refl 2) | refine pO (fun _=>?_) (fun _=>?_) | (rename_i r _; cases r))
 exact h m e
theorem jI {q:Q} {D k r:List Nat} {z ts:List Tk} {s₀ s:Shared} (I:au 100 A) (pf:PF B) (hl:B.length≤2) (hW:∀x∈H,x∈u)
  (J:wpAny (model pg (wb w b)) (A.over (W1 F) B) (isTrue (sE jH) (bZ F) (eval (sE jH) (bZ F))) (fun v s'=>v=true∧bQ w b u s s'∧∃L' as',Gn w b a T F u q D k r as' s' L'∧bj w b s'.heap as' z) (fun _ _=>False) s)
  (l0:z.length≤2) (su:Ij TT (z++ts)) (K:bQ w b u s₀ s)
  (ih:∀(s₀ s:Shared) (L:List aw),Gn w b a T F u q D k r [] s L→Ij TT ts→bQ w b u s₀ s→
   Seg (model pg (wb w b)) A (RP w b a T F u) (YP w b u H TT) ts.length s₀ (W1 F) ((model pg (wb w b)).den (W1 F)) B s):
  Seg (model pg (wb w b)) A (RP w b a T F u) (YP w b u H TT) (z++ts).length s₀ (W1 F) ((model pg (wb w b)).den (W1 F)) B s:=by
 delta zz w b a T F u H TT A B q D k r z ts s₀ s
 have ro:au 150 (A.over (W1 F) B):=eu pf rfl I (by omega)
 refine seg_whileLoop (wpAny_mono J (fun v s' h=>?_) fun _ _ h=>h.elim)
 obtain ⟨rfl,K',L',as',G',U⟩:=h
 rw [if_pos rfl]
 refine seg_execs_cons (seg_wrap (wpAny_mono (CE (EC ro G')) (fun f s2 h=>?_) fun _ _ h=>h.elim))
 obtain ⟨rfl,G2,K2,fr2⟩:=h
 refine seg_execs_cons (seg_While fun p=>?_)
 rw [List.length_append]
 have l2:as'.length≤2:=by rw [l4 U]; exact l0
 refine Ik I (PF.cons _ _ _ _ _ _ rfl pf) (by simp only [List.length_cons]; omega) hW (fun G s3 L3 G3 K3=>?_) as' z s₀ s2 L' l2 G2 (bj.keeps U fr2) su ((K.trans K').trans K2)
 obtain ⟨d,hd⟩:=su
 exact seg_leaf (.ok .next) (seg_execs_nil (env:=bZ F) (seg_again rfl (ih G s3 L3 G3 ⟨d++z,by rw [hd]; simp⟩ K3)))
theorem CF (d:au 100 A) (J:PF B) (hl:B.length≤2) (hW:∀x∈H,x∈u)
  (z:∀s₀ s D L,Gn w b a T F u .data D [] [] [] s L→bQ w b u s₀ s→Seg (model pg (wb w b)) A (RP w b a T F u) (YP w b u H TT) 0 s₀ (W1 F) (leafOf (.ok .next)) B s)
  {ts:List Tk} (h:Run q D k r ts):∀(s₀ s:Shared) (L:List aw),Gn w b a T F u q D k r [] s L→Ij TT ts→bQ w b u s₀ s→
   Seg (model pg (wb w b)) A (RP w b a T F u) (YP w b u H TT) ts.length s₀ (W1 F) ((model pg (wb w b)).den (W1 F)) B s:=by
 delta zy w b a T F u H TT A q D k r B ts at d J hl hW z h
 have ro:au 150 (A.over (W1 F) B):=eu J rfl d (by omega)
 induction h with
 | stop D k hk=>
  intro s₀ s L G su K
  refine seg_whileLoop (wpAny_mono (yV ro G hk) (fun v s' h=>?_) fun _ _ h=>h.elim)
  obtain ⟨rfl,K',L',as',G',U⟩:=h
  rw [if_neg (by decide)]
  cases as' with
  | cons x as=>exact U.elim
  | nil=>exact seg_execs_nil (z s₀ s' D L' G' (K.trans K'))
 | more I h0 e hr ih=>
  intro s₀ s L G su K
  exact jI d J hl hW (u9 ro G I h0 e) (l5 e) su K ih
theorem Il {M:Addr} {s G:Shared} {d:Addr} (z:au 100 A) (pf:PF B) (hl:B.length≤2) (hW:∀x∈H,x∈u)
  (U:∀s₀ s D L,Gn w b (a.wq d) T F u .data D [] [] [] s L→bQ w b u s₀ s→Seg (model pg (wb w b)) A (RP w b a T F u) (YP w b u H TT) 0 s₀ (W1 F) (leafOf (.ok .next)) B s)
  (K:bQ w b u s G) (G1:Gx w b (a.wq d) F u [] G (TK w b (a.wq d) 304 M .none ⟨⟨T⟩⟩ (XU [] []) (nU [] []) (pU []) 0 0 0 [])) (J:Run .data [] [] T TT):
  Seg (model pg (wb w b)) A (RP w b a T F u) (YP w b u H TT) TT.length s (W1 F) ((model pg (wb w b)).den (W1 F)) B G:=by
 delta zz w b a T F u H TT A B M s G d
 have ro1:au 150 (A.over (W1 F) B):=eu pf rfl z (by omega)
 generalize hk:([]:List Nat)=k0 at J
 generalize hq:Q.data=q0 at J
 generalize hTT:T=T0 at J
 cases J with
 | stop D k hok=>
  subst hTT
  have G2:Gn w b (a.wq d) [] F u .data [] [] [] [] G (TK w b (a.wq d) 304 M .none ⟨⟨[]⟩⟩ (XU [] []) (nU [] []) (pU []) 0 0 0 []++[]):=⟨⟨M,.none,[],0,.noN,rfl⟩,by rw [List.append_nil]; exact G1⟩
  exact CF (a:=a.wq d) z pf hl hW U (.stop [] [] (fun c h=>(by cases h))) s G _ G2 ⟨[],rfl⟩ K
 | more I h0 e J=>
  subst hTT
  subst hk
  subst hq
  cases hT:T with
  | nil=>rw [hT] at e; cases e
  | cons c r=>
   rw [hT] at e I
   rw [←hT]
   exact jI (a:=a.wq d) z pf hl hW (va ro1 G1 hT I e) (l5 e) ⟨[],rfl⟩ K (CF (a:=a.wq d) z pf hl hW U J)
theorem yW {M:Addr} {s:Shared} (d:au 100 A) (z:∀x∈H,x∈u) (G:Gx w b a F u [] s (LI w b a M T)) (I:Run .data [] [] T TT):
  Seg (model pg (wb w b)) A (RP w b a T F u) (YP w b u H TT) TT.length s (.func dp (bZ F)) ((model pg (wb w b)).den (.func dp (bZ F))) [] s:=by
 delta zz w b a T F u H TT A M s
 have J:au 150 (A.over (.func dp (bZ F)) []):=eu .nil rfl d (by decide)
 refine seg_func ?_
 rw [u7]
 refine seg_execs_cons (seg_wrap (wpAny_mono (CE (Kv J G)) (fun f s1 h=>?_) fun _ _ h=>h.elim))
 obtain ⟨rfl,U,q1,G1⟩:=h
 refine seg_execs_cons (seg_While fun p=>?_)
 exact Il d (PF.cons _ _ _ _ _ _ rfl .nil) (Nat.le_succ 1) z (fun s₀ s D L Gf K=>seg_leaf (.ok .next) (seg_execs_nil (env:=bZ F) (seg_end (.ok (.ret .none)) ⟨rfl,rfl,K,q1,D,L,Gf⟩))) ((ka G.tp).trans U) G1 I
end
theorem bM:∀a b:List Value,ae (a++b)=ae a++ae b
 | [],_=>rfl
 | v::a,b=>by show ai v::ae (a++b)=_; rw [bM a b]; rfl
section
variable {V:Vs} {prog:Program} {w:World}
end
noncomputable def aG:List Stmt:=sB (bo 27 none)
noncomputable abbrev nV:Stmt:=ad aG 7
noncomputable def bz (F:Addr):Env:=⟨sS (bo 27 none),F,3,[],"law.<locals>.",some 789,.ref 788,some F,0⟩
noncomputable def l6 (l:List Expr) (i:Nat):Expr:=match l with
 | []=>.Name "" default
 | s::r=>match i with
  | 0=>s
  | i + 1=>l6 r i
noncomputable def ED (e:Expr):Expr:=l6 (xA e) 0
noncomputable abbrev vb:Expr:=sE (ad aG 8)
noncomputable abbrev yX:Expr:=l6 (xA vb) 0
noncomputable abbrev Kw:Expr:=l6 (xA vb) 1
noncomputable def Im (d:Nat) (n q:Str) (u z:Tok):Obj:=fld (.type "generator") [.int d 0,.str n u,.str q z]
noncomputable def vc (F d:Addr):Code:=.forLoop (sE nV) (.ref d) (sB nV) [] (bz F)
noncomputable def nW (s:Stmt) (it v:Value) (env:Env):Sem PySem.Fin:=
 PySem.W.R.bindR (PySem.W.ZFast.zw1578499551869305889 (sE s) it v) fun _=>PySem.W.R.bindR (PySem.W.ZFast.zw17772580674575903948 (sE s) env v) fun _=>PySem.W.R.bindR (PySem.W.ZFast.zw12563942051412417395 (sB s) env) fun f=>.pure (.done f)
noncomputable def kb (st:Stmt) (it v:Value) (env:Env):Sem Flow:=do
 letOwnedTupleGo (sE st) it v
 assign (sE st) env v
 execs (sB st) env
theorem ve {M:Model} {A:Around} {s:Shared} {R:Result→Shared→Prop} {st:Stmt} {it v:Value} {env:Env} (h:wpAny M A (nW st it v env) (RQ R) (fun e s'=>R (.error e) s') s):
  wpAny M A (kb st it v env) (fun f u=>R (.ok f) u) (fun e s'=>R (.error e) s') s:=by
 delta zz M A s R st it v env
 unfold nW at h
 rw [←PySem.W.R.bindR_eq,←PySem.W.ZFast.ze1578499551869305889,←PySem.W.ZFast.ze17772580674575903948,←PySem.W.ZFast.ze12563942051412417395] at h
 intro B p d
 have z:=h B p d
 unfold kb
 simp only [Sem.wp_bind'] at z ⊢
 rw [Sem.wp_bind] at z
 refine Sem.wp_mono _ _ _ (fun _ p1 D z=>?_) (fun _ _ _ h=>h) p s z
 rw [Sem.wp_bind] at z
 refine Sem.wp_mono _ _ _ (fun _ G H z=>?_) (fun _ _ _ h=>h) p1 D z
 rw [Sem.wp_bind] at z
 exact Sem.wp_mono _ _ _ (fun f I u z=>z) (fun _ _ _ h=>h) G H z
theorem yY {prog:Program} {w:World} {A:Around} {s:Shared} {R:Result→Shared→Prop} {st:Stmt} {it:Value} {env:Env} (I:Nat→Shared→Prop)
  (jI:∀n s,I n s→wpAny (model prog w) A (pyNext it) (fun r s₁=>match r with
   | none=>R (.ok .next) s₁
   | some v=>wpAny (model prog w) A (kb st it v env) (fun f u=>f=.next∧∃m,m < n∧I m u) (fun _ _=>False) s₁) (fun _ _=>False) s)
  (n:Nat) (h:I n s):codeAny (model prog w) A (.forLoop (sE st) it (sB st) [] env) R s:=by
 delta zz prog w A s R st it env I n at jI
 refine codeAny_loop' rfl I (fun n s G=>?_) n h
 show wpAny _ A ((forTurn (sE st) it (sB st) [] env).onRaise (fun x=>do noteFrame x env; theTreesLotGoes x)) _ _ s
 refine wpAny_noted ?_
 simp only [forTurn]
 refine wpAny_bind (wpAny_standAt (wpAny_bind (wpAny_onRaise (wpAny_mono (jI n s G) (fun r s₁ d=>?_) fun _ _ H=>H.elim))))
 cases r with
 | none=>exact wpAny_pure (.inr ⟨rfl,codeAny_block (wpAny_pure d)⟩)
 | some v=>
  intro D p B
  have z:=d D p B
  unfold kb at z
  simp only [Sem.wp_bind'] at z ⊢
  refine Sem.wp_mono _ _ _ (fun _ p1 J z=>?_) (fun _ _ _ h=>h.elim) p s₁ z
  refine Sem.wp_mono _ _ _ (fun _ U s2 z=>?_) (fun _ _ _ h=>h.elim) p1 J z
  refine Sem.wp_mono _ _ _ (fun f p3 s3 z=>?_) (fun _ _ _ h=>h.elim) U s2 z
  obtain ⟨rfl,z⟩:=z
  exact(wpAny_pure (.inl ⟨rfl,z⟩):wpAny _ A (Pure.pure _) _ _ s3) D p3 B
noncomputable def LJ (w:World) (b:Bool) (d:Addr) (e:Int) (u:Nat):List DictEntry:=match u with
 | 0=>[]
 | 1=>[!["rows",.ref d]]
 | 2=>[!["end",.int e 0]]
 | 3=>[!["rows",.ref d],!["end",.int e 0]]
 | _=>[!["end",.int e 0],!["rows",.ref d]]
noncomputable def LK (w:World) (b:Bool) (sc d:Addr) (T:Str) (p:Int):List DictEntry:=[!["script",.ref sc],!["text",.str T 0],!["due",.ref d],!["place",.int p 0]]
noncomputable def cQ (w:World) (b:Bool) (sc d u:Addr) (T:Str) (p e:Int) (z:Nat):Obj:=bq (LK w b sc d T p++LJ w b u e z)
noncomputable def eQ (w:World) (b:Bool) (sc d u z tk:Addr) (T:Str) (p e:Int) (t:Option (Addr×Int)) (B:Nat):Obj:=
 bq (LK w b sc d T p++LJ w b u e B++([!["got",.ref z],!["tokenizer",.ref tk]]++match t with
  | none=>[]
  | some (D,G)=>[!["token",.ref D],!["kind",.int G 0]]))
noncomputable def oV (c:Option Addr):Value:=match c with
 | none=>.none
 | some a=>.ref a
theorem kc:∀gl:List Addr,iu (aq gl)=true
 | []=>rfl
 | a::r=>kc r
theorem iA:∀gl:List Addr,ae (aq gl)=aq gl
 | []=>rfl
 | a::r=>by show Value.ref a::ae (aq r)=_; rw [iA r]; rfl
theorem dS:∀(a c:List Addr),aq (a++c)=aq a++aq c
 | [],_=>rfl
 | x::a,c=>by show Value.ref x::aq (a++c)=_; rw [dS a c]; rfl
theorem bV {o:Obj} {gl:List Addr} (h:aI o=aV (ae (aq gl))):∃n,o=ah (aq gl) n:=by
 obtain ⟨c,d,u,sl⟩:=o
 rw [iA] at h
 cases u <;> simp [aI,eR,aV] at h
 rename_i xs n
 obtain ⟨rfl,rfl,z,rfl⟩:=h
 have:=gF (kc gl) z
 refine⟨n,?_⟩
 obtain ⟨xs⟩:=xs
 have:xs=aq gl:=this
 subst this
 rfl
theorem gL {prog:Program} {w:World} {A:Around} {s:Shared} {B:Addr} {l:List Value} {n:Nat} {v:Value} {R:Result→Shared→Prop} (hg:s.heap.get? B=some (ah l n)) (z:l.length≤sizeLine)
  (h:∀u n',u.get? B=some (ah (l++[v]) n')→Heap.SameBut B s.heap u→R (.ok (.ret .none)) {s with heap:=u}):codeAny (model prog w) A (.call (.builtin "list.append") ⟨[.ref B,v],[]⟩) R s:=by
 refine codeAny_call_builtin slot_list_append.plain entry_list_append (slot_list_append.check _ _ _ _ _ _ _ _ ⟨_,hg,rfl⟩ (args_list_append _ _) (PySem.AutoListH.list_append_list_val_0 B ⟨l⟩ n v (by simpa using z) prog w A R s ⟨hg,?_⟩))
 have G:Heap.SameBut B s.heap (s.heap.update B (Obj.mapSeq fun d=>d.push v)):=Heap.SameBut.update ..
 have e:(s.heap.update B (Obj.mapSeq fun d=>d.push v)).get? B=some (Obj.mapSeq (fun d=>d.push v) (ah l n)):=Heap.get?_update_self _ hg rfl
 obtain ⟨n',U⟩:∃n',Obj.mapSeq (fun d=>d.push v) (ah l n)=ah (l++[v]) n':=⟨_,by simp [Obj.mapSeq,ah]; rfl⟩
 exact h _ n' (by rw [e,U]) G
noncomputable def Kx (W:List Addr) (s s':Shared):Prop:=∀c o,s.heap.get? c=some o→c∉W→∃d,s'.heap.get? c=some d∧aI d=aI o
noncomputable def dq (k:Int):Str:=if k=7 then s!"fault" else if k=6 then s!"note" else if k=1 then s!"text" else s!"blank"
noncomputable def TupAt (h:Heap) (a:Addr) (k:Int) (X:Str):Prop:=qx h a (br [.str (dq k) 0,.str X 0])
structure iV (w:World) (b:Bool) (F x B:Addr) (fr:Obj) (gl:List Addr) (k:Int) (X:Str) (s s':Shared):Prop where
 fr:aJ s'.heap [(F,fr)]
 got:∃b1 n,s'.heap.get? B=some (ah (aq (gl++[b1])) n)∧TupAt s'.heap b1 k X∧s.heap.get? b1=none
 soft:Kx [F,B] s s'
 far:aH (vs w b 60) [F,x,B] s s'
theorem EE {w:World} {b:Bool} {F x B b1:Addr} {fr dx:Obj} {gl:List Addr} {k:Int} {X wd:Str} {s G s2:Shared} {U:Heap} {n':Nat} (hwd:dq k=wd) (hx:aJ s.heap [(x,dx)])
  (P:aD (vs w b 60) s [F,x,B] G [(F,fr),(x,dx),(B,aV (ae (aq gl))),(b1,br [.str wd 0,.str X 0])]) (g1:U.get? B=some (ah (aq gl++[Value.ref b1]) n')) (g2:Heap.SameBut B G.heap U)
  (P2:aD (vs w b 60) {G with heap:=U} [F,B] s2 [(F,fr),(B,aV (ae (aq gl++[Value.ref b1])))]):iV w b F x B fr gl k X s s2:=by
 delta zz w b F x B b1 fr dx gl k X wd s G s2 U n'
 have e1:aq gl++[Value.ref b1]=aq (gl++[b1]):=(dS gl [b1]).symm
 rw [e1] at P2
 have nd:[F,x,B,b1].Nodup:=P.nd
 have nb:b1∉[F,x,B]:=fun h=>(List.nodup_append.mp (show([F,x,B]++[b1]).Nodup from nd)).2.2 b1 h b1 (.head _) rfl
 have u:∀c o,G.heap.get? c=some o→c∉[F,B]→s2.heap.get? c=some o:=fun c o e d=>P2.frame c o ((g2.2 c fun z=>d (by rw [z]; simp)).trans e) d
 refine⟨fun p hp=>by cases List.mem_singleton.mp hp; exact P2.get 0 rfl,?_,fun c o e d=>?_,?_⟩
 ·obtain ⟨o,h1,h2⟩:=P2.get 1 rfl
  obtain ⟨n,rfl⟩:=bV h2
  obtain ⟨ob,h3,h4⟩:=P.get 3 rfl
  refine⟨b1,n,h1,⟨ob,u b1 ob h3 fun h=>nb ?_,by rw [hwd]; exact h4⟩,(P.own' b1 (.tail _ (.tail _ (.tail _ (.head _))))).resolve_left nb⟩
  rcases List.mem_cons.mp h with rfl | h
  ·exact .head _
  ·exact .tail _ (.tail _ h)
 ·by_cases hcx:c=x
  ·subst hcx
   obtain ⟨o1,h1,h2⟩:=P.get 1 rfl
   obtain ⟨o0,h3,h4⟩:=hx _ (.head _)
   rw [e] at h3; cases h3
   exact⟨o1,u c o1 h1 d,by rw [h2,h4]⟩
  ·refine⟨o,u c o (P.frame c o e fun h=>?_) d,rfl⟩
   rcases List.mem_cons.mp h with rfl | h
   ·exact d (.head _)
   ·rcases List.mem_cons.mp h with rfl | h
    ·exact hcx rfl
    ·exact d (.tail _ h)
 ·have hg:(vs w b 60).n₁≤B:=P.hi' 2 rfl
  refine(P.far.trans (K':=[B]) (s₂:={G with heap:=U}) ⟨fun c o e d=>(g2.2 c (by simpa using d)).trans e,rfl,rfl,by show _≤U.objs.size; rw [g2.1]; exact Nat.le_refl _,P.top.same g2 hg⟩ fun y hy=>.inl (by cases List.mem_singleton.mp hy; simp)).trans P2.far fun y hy=>.inl (by
   rcases List.mem_cons.mp hy with h | hy
   ·subst y
    simp
   ·cases List.mem_singleton.mp hy; simp)
section
variable (w:World) (b:Bool) (F sc I J B tk x g:Addr) (T X:Str) (gl:List Addr) (D:Nat) (p e:Int) (H:Nat) (t:Option (Addr×Int)) (n:Int) (v:List (Str×Value)) (h h0:Nat)
noncomputable def gd:List (Str×Value):=("type",.int n 0)::("data",.str X 0)::v
noncomputable def yZ:List an:=oh (dE++[fun ks=>eZ x 1 (kv (pr w b) (gd X n v)) "type" (.int n 0),fun ks=>eZ x 1 (kv (pr w b) (gd X n v)) "data" (.str X 0)]) h
noncomputable def Io (y:Nat→Nat→Tok) (tb:Nat):az:=aN (vs w b 60) 4000 .out (nW nV (.ref g) (.ref x) (bz F)) (yZ w b x X n v h) (fillAll y 0 [(F,eQ w b sc I J B tk T p e t H),(x,fI (kv (pr w b) (gd X n v)))]++[(B,ah (aq gl) D)]) tb 0 []
noncomputable def Hk:Prop:=∀y tb (d:az→(az→az)→Prop) (Fin:Prop),Cu (vs w b 60) pg (wb w b) d→Cv d→
 (∀{b1:Addr} {f:az→az},(∀l1 u G U z,((f (Io w b F sc I J B tk x g T X gl D p e H t n v h y tb)).nc (aA G (.ok (.ret .none))) (fillAll U 0 [(F,eQ w b sc I J B tk T p e (some (x,n)) H)]++[(B,ah l1 u)]) z).norm [0,1]=.done (bc [F,B] (yZ w b x X n v 1) []) (.ok .next) [(F,eQ w b sc I J B tk T p e (some (x,n)) H),(B,aV (ae l1))])→
  d (.call 500 (bc [F,x,B,b1] (yZ w b x X n v h0) []) (.call (.builtin "list.append") ⟨[.ref B,.ref b1],[]⟩) [(F,eQ w b sc I J B tk T p e (some (x,n)) H),(x,fI (kv (pr w b) (gd X n v))),(B,aV (ae (aq gl))),(b1,br [.str (dq n) 0,.str X 0])] fun _ _ _=>.failW "") f)→
 (∀{N},d N id→(Io w b F sc I J B tk x g T X gl D p e H t n v h y tb).norm [0,1,2,3]=N→Fin)→Fin
end
theorem js {w:World} {b:Bool} {A:Around} {s:Shared} {F sc I J B tk x g:Addr} {T X:Str} {gl:List Addr} {D:Nat} {p e:Int} {H:Nat} {t:Option (Addr×Int)} {n:Int} {v:List (Str×Value)} {h h0:Nat} (pa:Hk w b F sc I J B tk x g T X gl D p e H t n v h h0) (rm:au 60 A) (tp:aC (vs w b 60) s.heap) (hl:(aq gl).length≤sizeLine)
  (at_:aJ s.heap [(F,eQ w b sc I J B tk T p e t H),(x,fI (kv (pr w b) (gd X n v)))]) (hg:s.heap.get? B=some (ah (aq gl) D)) (nd:[F,x,B].Nodup) (hi:∀y∈[F,x,B],790≤y):
  wpAny (model pg (wb w b)) A (kb nV (.ref g) (.ref x) (bz F)) (fun f s'=>f=.next∧iV w b F x B (eQ w b sc I J B tk T p e (some (x,n)) H) gl n X s s') (fun _ _=>False) s:=by
 delta zz w b A s F sc I J B tk x g T X gl D p e H t n v h h0
 refine wpAny_mono (ve (R:=fun r' s'=>r'=.ok .next∧iV w b F x B (eQ w b sc I J B tk T p e (some (x,n)) H) gl n X s s') ?_) (fun f s' h=>⟨by injection h.1,h.2⟩) (fun e s' h=>(by cases h.1))
 refine cC (V:=vs w b 60) (X:=[(B,ah (aq gl) D)]) rfl rfl rm tp at_ (fun p hp=>by cases List.mem_singleton.mp hp; exact hg) (ag (hi F (.head _)) (ag (hi x (.tail _ (.head _))) (ag (hi B (.tail _ (.tail _ (.head _)))) fun _ h=>(by cases h)))) nd fun y=>⟨4000,yZ w b x X n v h,?_⟩
 refine Dy (sel:=[0,1,2,3]) rfl fun Ok Fin sm mo cL cn=>pa y _ Ok Fin sm mo (fun {b1 f} hp=>cL rfl fun A' s1 c' G gk d rm' P=>?_) cn
 have d:c'=.call (.builtin "list.append") ⟨[.ref B,.ref b1],[]⟩:=by
  obtain ⟨pos,rfl,hp⟩:=av d
  obtain ⟨v,u,rfl,h1,h2⟩:=eA hp
  cases bb h1; cases bb h2; rfl
 subst d
 obtain ⟨og,h1,h2⟩:=P.get 2 rfl
 obtain ⟨n1,rfl⟩:=bV h2
 refine gL h1 hl fun h' n' g1 g2=>⟨.ok (.ret .none),[(F,eQ w b sc I J B tk T p e (some (x,n)) H)],[(B,ah (aq gl++[Value.ref b1]) n')],rfl,?_,?_,?_,?_,?_,gk fun y0 t0=>?_⟩
 ·intro q U
  cases List.mem_singleton.mp U
  obtain ⟨o,q1,q2⟩:=P.get 0 rfl
  exact⟨o,(g2.2 F fun z=>by subst z; simp at nd).trans q1,q2⟩
 ·intro q U
  cases List.mem_singleton.mp U
  exact g1
 ·exact P.top.same g2 (hi B (.tail _ (.tail _ (.head _))))
 ·exact ag (hi F (.head _)) (ag (hi B (.tail _ (.tail _ (.head _)))) fun _ h=>(by cases h))
 ·show [F,B].Nodup
  simp only [List.nodup_cons,List.mem_cons,List.not_mem_nil,or_false,not_or] at nd ⊢
  exact⟨nd.1.2,by simp,List.nodup_nil⟩
 ·exact bB (sel:=[0,1]) rfl (hp (aq gl++[Value.ref b1]) n' t0 y0 _) (fun Ok sm mo dn=>dn fun r' s2 hr P2=>⟨bm hr,EE rfl (fun q U=>by cases List.mem_singleton.mp U; exact at_ _ (.tail _ (.head _))) P g1 g2 P2⟩)
section
variable {w:World} {b:Bool} {F sc I J B tk x g:Addr} {T X:Str} {gl:List Addr} {D:Nat} {p e:Int} {H:Nat} {t:Option (Addr×Int)}
theorem Mh:Hk w b F sc I J B tk x g T X gl D p e H t 7 [] 0x15e0f06df555466664068f000044406cf555444 0x106df555466664068f000044406cf555444:=fun y tb G Fin d u lf z=>
 z (d (cq (w:=wb w b) x 1 (gd X 7 []) "type" 0 (.int 7 0) (by kernel_rfl) rfl rfl) fun _=>d (dC w b 60 s!"ParseError" 7 7 (by kernel_rfl) rfl) fun _=>d (cq (w:=wb w b) x 1 (gd X 7 []) "data" 1 (.str X 0) (by kernel_rfl) rfl rfl) fun _=>u fun b1=>lf (b1:=b1) fun _ _ _ _ _=>by delta zb eh H t b) (by delta zb eh H t b)
theorem Ky {dv:Addr}:Hk w b F sc I J B tk x g T X gl D p e H t 7 [("datavars",.ref dv)] 0x15e0f06df555466664068f000044406cf555444 0x106df555466664068f000044406cf555444:=fun y tb G Fin d u lf z=>
 z (d (cq (w:=wb w b) x 1 (gd X 7 [("datavars",.ref dv)]) "type" 0 (.int 7 0) (by kernel_rfl) rfl rfl) fun _=>d (dC w b 60 s!"ParseError" 7 7 (by kernel_rfl) rfl) fun _=>d (cq (w:=wb w b) x 1 (gd X 7 [("datavars",.ref dv)]) "data" 1 (.str X 0) (by kernel_rfl) rfl rfl) fun _=>u fun b1=>lf (b1:=b1) fun _ _ _ _ _=>by delta zb eh H t b) (by delta zb eh H t b)
theorem Mi:Hk w b F sc I J B tk x g T X gl D p e H t 6 [] 0x15e0f06df55546666406bf00004068f000044406cf555444 0x106df55546666406bf00004068f000044406cf555444:=fun y tb G Fin d u lf z=>
 z (d (cq (w:=wb w b) x 1 (gd X 6 []) "type" 0 (.int 6 0) (by kernel_rfl) rfl rfl) fun _=>d (dC w b 60 s!"ParseError" 7 7 (by kernel_rfl) rfl) fun _=>d (dC w b 60 s!"Comment" 6 6 (by kernel_rfl) rfl) fun _=>d (cq (w:=wb w b) x 1 (gd X 6 []) "data" 1 (.str X 0) (by kernel_rfl) rfl rfl) fun _=>u fun b1=>lf (b1:=b1) fun _ _ _ _ _=>by delta zb eh H t b) (by delta zb eh H t b)
theorem Mj:Hk w b F sc I J B tk x g T X gl D p e H t 1 [] 0x15e0f06df555466664069f0000406bf00004068f000044406cf555444 0x106df555466664069f0000406bf00004068f000044406cf555444:=fun y tb G Fin d u lf z=>
 z (d (cq (w:=wb w b) x 1 (gd X 1 []) "type" 0 (.int 1 0) (by kernel_rfl) rfl rfl) fun _=>d (dC w b 60 s!"ParseError" 7 7 (by kernel_rfl) rfl) fun _=>d (dC w b 60 s!"Comment" 6 6 (by kernel_rfl) rfl) fun _=>d (dC w b 60 s!"Characters" 1 1 (by kernel_rfl) rfl) fun _=>d (cq (w:=wb w b) x 1 (gd X 1 []) "data" 1 (.str X 0) (by kernel_rfl) rfl rfl) fun _=>u fun b1=>lf (b1:=b1) fun _ _ _ _ _=>by delta zb eh H t b) (by delta zb eh H t b)
theorem Kz:Hk w b F sc I J B tk x g T X gl D p e H t 2 [] 0x15e0f06df55546666406af00004069f0000406bf00004068f000044406cf555444 0x106df55546666406af00004069f0000406bf00004068f000044406cf555444:=fun y tb G Fin d u lf z=>
 z (d (cq (w:=wb w b) x 1 (gd X 2 []) "type" 0 (.int 2 0) (by kernel_rfl) rfl rfl) fun _=>d (dC w b 60 s!"ParseError" 7 7 (by kernel_rfl) rfl) fun _=>d (dC w b 60 s!"Comment" 6 6 (by kernel_rfl) rfl) fun _=>d (dC w b 60 s!"Characters" 1 1 (by kernel_rfl) rfl) fun _=>d (dC w b 60 s!"SpaceCharacters" 2 2 (by kernel_rfl) rfl) fun _=>d (cq (w:=wb w b) x 1 (gd X 2 []) "data" 1 (.str X 0) (by kernel_rfl) rfl rfl) fun _=>u fun b1=>lf (b1:=b1) fun _ _ _ _ _=>by delta zb eh H t b) (by delta zb eh H t b)
end
theorem l7 {prog:Program} {w:World} {A:Around} {E:Value→Shared→Prop} {s:Shared} {a:Addr} {g n:Nat} {gs:GenState} {P:Nat→Shared→Shared→Prop} {Y:Protocol} {Q:Option Value→Shared→Prop} (hh:A.handled=none)
  (hl:s.heap.NoLimit) (G:A.depth < recursionLimit) (hg:s.heap.IsGen a g) (I:s.gens[g]?=some gs)
  (H:gs.Goes (model prog w) A.in1 (fun n s₀ r s₁=>r=.ok (.ret .none)∧P n s₀ s₁) Y n (.send .none) (s.setGen g .running))
  (hY:∀v s₁ d,d.bare=true→Y (n - 1) (s.setGen g .running) v s₁ (fun r' J=>match n with
    | 0=>False
    | m + 1=>d.Goes (model prog w) A.in1 (fun n s₀ r s₁=>r=.ok (.ret .none)∧P n s₀ s₁) Y m r' J)→Q (some v) (s₁.setGen g d))
  (hP:∀s₁,P n (s.setGen g .running) s₁→∀U,(∀b o,s₁.heap.get? b=some o→U.get? b=some o)→s₁.heap.objs.size≤U.objs.size→Q none {s₁.setGen g .finished with heap:=U}):
  wpAny (model prog w) A (pyNext (.ref a)) Q E s:=by
 delta zz prog w A E s a g n P Q at gs Y
 unfold pyNext
 refine wpAny_bind (wpAny_attempt (wpAny_callSpecial?_slot (name:=Str.ofString "__next__") hg.typeIs slot_gen_next
  (wpAny_call_entry slot_gen_next hg.typeIs entry_gen_next ?_ (args_gen_next _))))
 show wpAny _ A.in1 (Builtin.Generator.genWake (.ref a) (.send .none)) _ _ s
 unfold Builtin.Generator.genWake
 refine wpAny_bind (wpAny_holding (wpAny_genNumber hg (wpAny_bind (wpAny_genState I ?_))))
 cases gs with
 | running=>exact H.elim
 | finished=>exact H.elim
 | _=>
  refine wpAny_bind (wpAny_roomToWake hl G ?_)
  show wpAny _ A.in1 (.resume g (.send .none) [] _) _ _ s
  refine wpAny_resumeQ I H (fun x s₁ hx=>?_) (fun v s₁ d hb hv=>?_)
  ·obtain ⟨rfl,hp⟩:=hx
   show wpAny _ A.in1 (newExc (.type "StopIteration") [] >>=_) _ _ _
   refine wpAny_bind ?_
   simp only [newExc,newTuple]
   refine wpAny_bind (wpAny_newObj_type ?_ (by size_fits))
   refine wpAny_bind (m:=firstArgMember _ _) (wpAny_of_eq (a:=Value.none) (by first | rfl | (simp only [firstArgMember]; rfl)) ?_)
   refine wpAny_newObj_type ?_ (by size_fits)
   simp only [raiseNew]
   refine wpAny_bind (wpAny_bind (wpAny_handled ?_))
   first | rw [show A.in1.handled=none from hh] | rw [hh]
   refine wpAny_throw ?_
   refine wpAny_bind (wpAny_isInstance (T:="StopIteration") (b:=true) ⟨_,Heap.get?_push_size _ rfl,rfl⟩ isSubtype_stop ?_)
   exact wpAny_pure (hP s₁ hp _ (fun b o hb=>Heap.get?_push_of_some _ (Heap.get?_push_of_some _ hb)) (by rw [Heap.size_push,Heap.size_push]; exact Nat.le_succ_of_le (Nat.le_succ _)))
  ·exact wpAny_pure ⟨v,rfl,wpAny_pure (hY v s₁ d hb hv)⟩
noncomputable def aK (h:Heap):List Addr→List Tk→Prop
 | a::as,t::ts=>TupAt h a t.1 t.2∧aK h as ts
 | [],[]=>True
 | _,_=>False
theorem aK.keeps {h H:Heap}:∀{as:List Addr} {ts:List Tk},aK h as ts→(∀x o,h.get? x=some o→o.cls=.type "tuple"→∃G,H.get? x=some G∧aI G=aI o)→aK H as ts
 | [],[],_,_=>trivial
 | [],_::_,t,_=>t.elim
 | _::_,[],t,_=>t.elim
 | _::_,_::_,⟨⟨o,J,I⟩,U⟩,f=>by
  have hc:o.cls=.type "tuple":=by
   obtain ⟨c,d,dt,sl⟩:=o
   have:=congrArg Obj.cls I
   exact this
  obtain ⟨G,h3,h4⟩:=f _ o J hc
  exact⟨⟨G,h3,h4.trans I⟩,U.keeps f⟩
theorem aK.snoc {h:Heap} {b1:Addr} {t:Tk} (d:TupAt h b1 t.1 t.2):∀{as:List Addr} {ts:List Tk},aK h as ts→aK h (as++[b1]) (ts++[t])
 | [],[],_=>⟨d,trivial⟩
 | [],_::_,x=>x.elim
 | _::_,[],x=>x.elim
 | _::_,_::_,⟨x,y⟩=>⟨x,aK.snoc d y⟩
noncomputable def mH (k:Int):Prop:=k=7∨k=6∨k=1∨k=2
section
variable {w:World} {b:Bool} {A:Around} {F sc z B u tk x g:Addr} {D X:Str} {p e:Int} {s:Shared}
theorem Ip {gl:List Addr} {d:Nat} {k:Int} {t:Option (Addr×Int)} {H:Nat} (rm:au 60 A) (tp:aC (vs w b 60) s.heap) (G:(aq gl).length≤sizeLine)
  (fr:aJ s.heap [(F,eQ w b sc z B u tk D p e t H)]) (tx:fM w b s.heap x k X) (hk:mH k) (hg:s.heap.get? u=some (ah (aq gl) d)) (nd:[F,x,u].Nodup) (hi:∀y∈[F,x,u],790≤y):
  wpAny (model pg (wb w b)) A (kb nV (.ref g) (.ref x) (bz F)) (fun f s'=>f=.next∧iV w b F x u (eQ w b sc z B u tk D p e (some (x,k)) H) gl k X s s') (fun _ _=>False) s:=by
 delta zz w b A F sc z B u tk x g D X p e s gl d k t H
 obtain ⟨_,rest,I,J⟩:=tx
 have at_:aJ s.heap [(F,eQ w b sc z B u tk D p e t H),(x,fI (kv (pr w b) (((("type":Str),Value.int k 0))::(("data":Str),Value.str X 0)::rest)))]:=fun q U=>by
  rcases List.mem_cons.mp U with rfl | U
  ·exact fr _ (.head _)
  ·exact J q U
 rcases hk with rfl | rfl | rfl | rfl
 ·rcases I with rfl | ⟨_,dv,rfl⟩
  ·exact js Mh rm tp G at_ hg nd hi
  ·exact js Ky rm tp G at_ hg nd hi
 ·rcases I with rfl | ⟨h,_⟩
  ·exact js Mi rm tp G at_ hg nd hi
  ·cases h
 ·rcases I with rfl | ⟨h,_⟩
  ·exact js Mj rm tp G at_ hg nd hi
  ·cases h
 ·rcases I with rfl | ⟨h,_⟩
  ·exact js Kz rm tp G at_ hg nd hi
  ·cases h
end
theorem gM {s:Shared} {g:Nat} {x:GenState} (h:∀y∈s.gens,y.bare=true) (D:x.bare=true):∀y∈(s.setGen g x).gens,y.bare=true:=fun y d=>by
 have d:y∈s.gens.setIfInBounds g x:=d
 rcases Array.mem_or_eq_of_mem_setIfInBounds d with z | z
 ·exact h y z
 ·rw [z]; exact D
theorem iW {w:World} {b:Bool} {r:Nat} {h:Heap} (tp:aC (vs w b r) h):h.NoLimit:=by
 have e:h.get? 2=some (JU (pr w b)):=tp.1 2 _ (show 2 < 790 by decide) rfl
 refine⟨fun _=>none,⟨_,_,_,e,rfl,?_,fun _=>rfl⟩,rfl⟩
 intro x d
 exact absurd d (by simp)
structure KA (F u I:Addr) (B:fm) (TT:List Tk):Prop where
 hF:F∈B
 hga:u∈B
 hgg:I∈B
 nF:I≠F
 nga:I≠u
 nd:F≠u
 h7:790≤F
 h8:790≤u
 ks:∀t∈TT,mH t.1
 len:TT.length≤1000000
section
variable (w:World) (b:Bool) (A:Around) (a:Ad) (T:List Nat) (Fg F u I:Addr) (J:Nat) (B:fm) (TT:List Tk) (sc U rr tk:Addr) (T':Str) (p e:Int) (sh:Nat) (s₀:Shared)
structure FI (l:List Tk) (s:Shared):Prop where
 st:∃dn t gl n,TT=dn++l∧aJ s.heap [(F,eQ w b sc U rr u tk T' p e t sh)]∧s.heap.get? u=some (ah (aq gl) n)∧aK s.heap gl dn
 gen:s.heap.IsGen I J
 goes:∃gs,s.gens[J]?=some gs∧∀s'',lZ [F,u] s s''→aC (vs w b 150) s''.heap→(∀y∈B,s''.heap.get? y≠none)→gs.Goes (model pg (wb w b)) A.in1 (RP w b a T Fg B) (YP w b B [F,u] TT) l.length (.send .none) s''
 bare:∀y∈s.gens,y.bare=true
 tp:aC (vs w b 150) s.heap
 live:∀y∈B,s.heap.get? y≠none
 kept:∀x o,s₀.heap.get? x=some o→((x∈B∧x∉[F,u])∨o.cls=.type "tuple")→s.heap.get? x=some o
 os:s.os=s₀.os
structure nX (s:Shared):Prop where
 st:∃t gl n,aJ s.heap [(F,eQ w b sc U rr u tk T' p e t sh)]∧s.heap.get? u=some (ah (aq gl) n)∧aK s.heap gl TT
 gn:∃q1 D L,Gn w b (a.wq q1) T Fg B .data D [] [] [] s L
 bare:∀y∈s.gens,y.bare=true
 tp:aC (vs w b 150) s.heap
 kept:∀x o,s₀.heap.get? x=some o→((x∈B∧x∉[F,u])∨o.cls=.type "tuple")→s.heap.get? x=some o
 os:s.os=s₀.os
end
theorem dr {h:Heap}:∀{as:List Addr} {ts:List Tk},aK h as ts→as.length=ts.length
 | [],[],_=>rfl
 | [],_::_,t=>t.elim
 | _::_,[],t=>t.elim
 | _::_,_::_,⟨_,d⟩=>congrArg (·+ 1) (dr d)
theorem cW:∀l:List Addr,(aq l).length=l.length
 | []=>rfl
 | a::l=>congrArg (·+ 1) (cW l)
section
variable {w:World} {b:Bool} {A:Around} {a:Ad} {T:List Nat} {Fg F u I:Addr} {J:Nat} {B:fm} {TT:List Tk} {sc U rr tk:Addr} {T':Str} {p e:Int} {sh:Nat} {s₀:Shared}
theorem kd {W:List Addr} {s:Shared} {s':Shared} (h:s'.heap=s.heap):lZ W s s':=fun c o e _=>⟨o,by rw [h]; exact e,rfl⟩
instance:Nonempty GenState:=⟨.running⟩
theorem y4 (rm:au 60 A) (S:KA F u I B TT) {s:Shared} (h:FI w b A a T Fg F u I J B TT sc U rr tk T' p e sh s₀ TT s):
  codeAny (model pg (wb w b)) A (.forLoop (sE nV) (.ref I) (sB nV) [] (bz F)) (fun r s'=>r=.ok .next∧nX w b a T Fg F u B TT sc U rr tk T' p e sh s₀ s') s:=by
 delta zz w b A a T Fg F u I J B TT sc U rr tk T' p e sh s₀ s at rm S
 refine yY (fun n s=>∃l,l.length=n∧FI w b A a T Fg F u I J B TT sc U rr tk T' p e sh s₀ l s) ?_ TT.length ⟨TT,rfl,h⟩
 intro n s hZ
 delta zn
 obtain ⟨l,rfl,H⟩:=hZ
 obtain ⟨dn,t,gl,en,hTT,hfr,hga,htups⟩:=H.st
 obtain ⟨gs,hgs,hgo⟩:=H.goes
 delta zm
 delta zy s l dn t gl en gs at H hTT hfr hga htups hgs hgo
 have hd:A.depth < recursionLimit:=by have:=rm.1; show A.depth < 1000; omega
 have go0:=hgo (s.setGen J .running) (kd rfl) H.tp H.live
 refine l7 (P:=fun n s₀ s₁=>n=0∧bQ w b B s₀ s₁∧∃q1 D L,Gn w b (a.wq q1) T Fg B .data D [] [] [] s₁ L) rm.2.2 (iW H.tp) hd H.gen hgs go0 (fun v s1 gs' hb hv=>?_) (fun s1 hp h' hk hsz=>?_)
 ·obtain ⟨x,t',l2,rfl,nxW,hl2,⟨d2,hd2⟩,htk,K,lv,hkap⟩:=hv
  cases l with
  | nil=>
   have:=hkap s1 (kd rfl) K.top lv
   exact this.elim
  | cons tt l=>
   have hl2:l2.length=l.length:=hl2
   have ee:dn=d2∧tt::l=t'::l2:=by
    have h1:dn++(tt::l)=d2++(t'::l2):=by rw [←hTT,hd2]
    exact List.append_inj' h1 (by simp [hl2])
   delta zn
   obtain ⟨rfl,e2⟩:=ee
   injection e2 with e2 e3
   subst e2
   subst e3
   have frame:∀c o,s.heap.get? c=some o→(c∈B∨o.cls=.type "tuple")→s1.heap.get? c=some o:=K.keep
   have fr1:aJ s1.heap [(F,eQ w b sc U rr u tk T' p e t sh)]:=fun q hq=>by
    cases List.mem_singleton.mp hq
    obtain ⟨o,h1,h2⟩:=hfr _ (.head _)
    exact⟨o,frame _ _ h1 (.inl S.hF),h2⟩
   have ga1:s1.heap.get? u=some (ah (aq gl) en):=frame _ _ hga (.inl S.hga)
   have gen1:s1.heap.IsGen I J:=by
    obtain ⟨o,nm,qn,ho,r⟩:=H.gen
    exact⟨o,nm,qn,frame _ _ ho (.inl S.hgg),r⟩
   have xd:∃o,s1.heap.get? x=some o∧o.cls=.type "dict":=by
    obtain ⟨_,rest,_,at2⟩:=htk
    obtain ⟨o,h1,h2⟩:=at2 _ (.head _)
    obtain ⟨c,d,dt,sl⟩:=o
    exact⟨_,h1,congrArg Obj.cls h2⟩
   obtain ⟨ox,hx1,hx2⟩:=xd
   delta zm
   have nxF:x≠F:=fun z=>by
    obtain ⟨o,h1,h2⟩:=fr1 _ (.head _)
    rw [z] at hx1
    rw [hx1] at h1
    cases h1
    obtain ⟨c,d,dt,sl⟩:=ox
    have h3:c=(eQ w b sc U rr u tk T' p e t sh).cls:=congrArg Obj.cls h2
    have h4:(eQ w b sc U rr u tk T' p e t sh).cls=.type "frame":=rfl
    have hx2:c=.type "dict":=hx2
    rw [hx2,h4] at h3
    have h3:=h3
    injection h3 with h3
    exact absurd h3 (by decide)
   have nxga:x≠u:=fun z=>by
    rw [z,ga1] at hx1
    cases hx1
    have:(Value.type "list")=.type "dict":=hx2
    injection this with h3
    exact absurd h3 (by decide)
   have nxgg:I≠x:=fun z=>by
    obtain ⟨o,nm,qn,ho,hc,_⟩:=gen1
    rw [z,hx1] at ho
    cases ho
    rw [hc] at hx2
    injection hx2 with h3
    exact absurd h3 (by decide)
   have len:gl.length≤1000000:=by
    rw [dr htups]
    have:=S.len
    rw [hTT,List.length_append] at this
    omega
   have jI:=Ip (w:=w) (b:=b) (A:=A) (s:=s1.setGen J gs') (g:=I) (X:=tt.2) rm (show aC (vs w b 60) s1.heap from K.top) (by rw [cW]; exact Nat.le_trans len (by decide)) fr1 htk (S.ks tt (by rw [hTT]; simp)) ga1
    (by simp only [List.nodup_cons,List.mem_cons,List.not_mem_nil,or_false,not_or]; exact⟨⟨fun z=>nxF z.symm,S.nd⟩,nxga,by simp,List.nodup_nil⟩)
    (ag S.h7 (ag htk.1 (ag S.h8 fun _ h=>(by cases h))))
   refine wpAny_mono jI (fun f s3 h=>⟨h.1,l.length,Nat.lt_succ_self _,l,rfl,?_⟩) fun _ _ h=>h
   delta zn
   obtain ⟨_,O⟩:=h
   have sg:(s1.setGen J gs').gens[J]?=some gs':=by
    refine setGen_self (gs:=.running) ?_
    rw [K.gens]
    exact setGen_self hgs
   have far:=O.far
   have g3:s3.gens=(s1.setGen J gs').gens:=far.gens
   have exact3:∀c o,s1.heap.get? c=some o→c∉[F,x,u]→s3.heap.get? c=some o:=far.frame
   have notin:∀c o,s1.heap.get? c=some o→o.cls=.type "tuple"→c∉[F,x,u]:=fun c o h1 h2 hm=>by
    have hm:=iG hm
    rcases hm with rfl | rfl | rfl
    ·obtain ⟨o',h3,h4⟩:=fr1 _ (.head _)
     rw [h1] at h3; cases h3
     obtain ⟨c,d,dt,sl⟩:=o
     have h5:c=(eQ w b sc U rr u tk T' p e t sh).cls:=congrArg Obj.cls h4
     have h6:(eQ w b sc U rr u tk T' p e t sh).cls=.type "frame":=rfl
     have h2:c=.type "tuple":=h2
     rw [h2,h6] at h5
     have h5:=h5
     injection h5 with h5
     exact absurd h5 (by decide)
    ·rw [hx1] at h1; cases h1
     rw [hx2] at h2
     injection h2 with h5
     exact absurd h5 (by decide)
    ·rw [ga1] at h1; cases h1
     have:(Value.type "list")=.type "tuple":=h2
     injection this with h3
     exact absurd h3 (by decide)
   obtain ⟨b1,n1,hg3,htup,hfresh⟩:=O.got
   delta zm
   refine⟨⟨dn++[tt],some (x,tt.1),gl++[b1],n1,by rw [hTT]; simp,O.fr,hg3,?_⟩,?_,⟨gs',by rw [g3]; exact sg,fun s4 h1 h2 h3=>?_⟩,?_,far.top,fun y hy=>?_,fun y o h1 h2=>?_,?_⟩
   ·refine aK.snoc htup (aK.keeps htups fun y o h1 h2=>⟨o,exact3 y o (frame y o h1 (.inr h2)) (notin y o (frame y o h1 (.inr h2)) h2),rfl⟩)
   ·obtain ⟨o,nm,qn,ho,r⟩:=gen1
    refine⟨o,nm,qn,exact3 I o ho ?_,r⟩
    refine qA ?_
    exact⟨S.nF,nxgg,S.nga⟩
   ·refine hkap s4 (fun c o h4 h5=>?_) h2 h3
    delta zn
    obtain ⟨o',h6,h7⟩:=O.soft c o h4 h5
    obtain ⟨o2,h8,h9⟩:=h1 c o' h6 h5
    delta zm
    exact⟨o2,h8,h9.trans h7⟩
   ·rw [g3]
    refine gM (fun y hy=>?_) hb
    rw [K.gens] at hy
    exact gM H.bare rfl y hy
   ·have l1:=lv y hy
    cases h1:s1.heap.get? y with
    | none=>exact absurd h1 l1
    | some o=>
     intro h2
     by_cases hm:y∈[F,u]
     ·have hm:=c9 hm
      rcases hm with rfl | rfl
      ·obtain ⟨o',h3,_⟩:=O.fr _ (.head _)
       rw [h2] at h3; cases h3
      ·rw [hg3] at h2; cases h2
     ·obtain ⟨o',h3,_⟩:=O.soft y o h1 hm
      rw [h2] at h3; cases h3
   ·have e1:=H.kept y o h1 h2
    rcases h2 with⟨hw,hn⟩ | h2
    ·have e2:=frame y o e1 (.inl hw)
     by_cases hyx:y=x
     ·exact absurd (hyx▸hw) nxW
     ·refine exact3 y o e2 fun hm=>?_
      simp only [List.mem_cons,List.not_mem_nil,or_false] at hm hn
      have hn:=hn
      rcases hm with h | h | h
      ·exact hn (.inl h)
      ·exact hyx h
      ·exact hn (.inr h)
    ·exact exact3 y o (frame y o e1 (.inr h2)) (notin y o (frame y o e1 (.inr h2)) h2)
   ·rw [far.os]
    exact(show s1.os=_ from K.os).trans H.os
 ·obtain ⟨hn,K,q1,D,L,G⟩:=hp
  have hl0:l=[]:=List.length_eq_zero_iff.mp hn
  subst hl0
  rw [List.append_nil] at hTT
  have K1:∀c o,s.heap.get? c=some o→(c∈B∨o.cls=.type "tuple")→h'.get? c=some o:=fun c o h1 h2=>hk c o (K.keep c o h1 h2)
  have tp':aC (vs w b 150) h':=⟨fun c o h1 h2=>hk c o (G.tp.1 c o h1 h2),Nat.le_trans G.tp.2 hsz⟩
  refine⟨rfl,⟨t,gl,en,fun q hq=>?_,K1 _ _ hga (.inl S.hga),?_⟩,⟨q1,D,L,Gn.of G.isC (fun q hq=>?_) G.nd G.hi tp' fun y hy=>⟨(G.wd y hy).1,?_⟩⟩,?_,tp',fun y o h1 h2=>?_,?_⟩
  ·cases List.mem_singleton.mp hq
   delta zn
   obtain ⟨o,h1,h2⟩:=hfr _ (.head _)
   delta zm
   exact⟨o,K1 _ _ h1 (.inl S.hF),h2⟩
  ·rw [hTT]
   exact htups.keeps fun y o h1 h2=>⟨o,K1 y o h1 (.inr h2),rfl⟩
  ·obtain ⟨o,h1,h2⟩:=G.at_ q hq
   exact⟨o,hk _ _ h1,h2⟩
  ·have:=(G.wd y hy).2
   cases h1:s1.heap.get? y with
   | none=>exact absurd h1 this
   | some o=>rw [show h'.get? y=some o from hk y o h1]; exact fun z=>by cases z
  ·have b1:∀y∈s1.gens,y.bare=true:=by
    rw [K.gens]
    exact gM H.bare rfl
   exact gM b1 rfl
  ·have e1:=H.kept y o h1 h2
   rcases h2 with⟨hw,_⟩ | h2
   ·exact K1 y o e1 (.inl hw)
   ·exact K1 y o e1 (.inr h2)
  ·exact(show s1.os=_ from K.os).trans H.os
end
noncomputable section
variable (w:World) (F sc d u:Addr) (T:Str) (p e:Int) (y:Nat→Nat→Tok) (z:Nat→Tok) (tb:Nat) (D tk tkd I:Addr) (gi:Nat) (n1 n2:Str) (v1 v2 t0:Tok) (y0:Nat→Nat→Tok) (J:Nat) (t1:Tok) (y1:Nat→Nat→Tok) (tb1 B:Nat) (b:Bool)
noncomputable def EF:List an:=oh [] 0x1446660700070707000786660700070707000786660700070707000780000607700000070007866607000707070007866607000707070007866607000707070007886660700070707000789990a000a0a0a000a012f9990a000a0a0a000a012f9990a000a0a0a000a012f9990a000a0a0a000a012f9990a000a0a0a000a012f9990a000a0a0a000a012f9990a000a0a0a000a012f0012f012f00109a0000a000a000ab9990a000a0a0a000abeee00ff00ff00ff0010f000010f0010f0010f000010f011f00ff00ff00ff0010f000010f0010f0010f000010f011f011f0011f011f011f011f0010000010f0010f0000000000000000000000000000e00eeee0010b9a0000a000a000ab9990a000a0a0a000ab9990a000a0a0a000ab000090aa000000a000ab0bbbb0010000a0a00000000000000000000000000008008888880001000070700000000000000000000000000004044
noncomputable def KB:az:=aN (vs w b 0) 4000 .out (aO [ad aG 5,ad aG 6] (bz F)) (EF) (fillAll y 0 [(F,cQ w b sc d u T p e B)]) tb 0 []
abbrev KC:Prop:=(KB w F sc d u T p e y tb B b).norm [0,1,15,17,3,2,6,5,12,11,8]=.more fun b1=>.more fun b2=>.more fun b3=>.more fun b4=>.more fun b5=>.more fun b6=>.more fun b7=>.more fun b8=>.more fun b9=>.more fun b10=>.more fun b11=>.more fun b12=>.more fun b13=>.more fun b14=>.more fun b15=>.more fun b16=>.more fun b17=>.done (bc [F,b1,b2,b3,b4,b5,b6,b7,b8,b9,b10,b11,b12,b13,b14,b15,b16,b17] (EF) []) (.ok .next) [(F,eQ w b sc d u b1 b3 T p e none B),(b1,aV []),(b15,aV []),(b17,bA 304 b3),(b3,inst 762 b2),(b2,fI [!["stream",.ref b6],!["parser",.none],!["escapeFlag",.bool (false)],!["lastFourChars",.ref b16],!["state",.ref b17],!["escape",.bool (false)],!["currentToken",.none]]),(b6,inst 166 b5),(b5,eB (pr w b) b8 b9 b12 b15 ⟨⟨[]⟩⟩ 0 0 0 0),(b12,inst 73 b11),(b11,gJ (pr w b) T 0),(b8,bA 148 b6)]
theorem KD:KC w F sc d u T p e y tb B b:=by delta za dH
noncomputable def Iq:List an:=oh [] 0x1428f5414f0000500054
noncomputable def EG:List an:=oh [] 0x10000500054
noncomputable def EH:az:=aN (vs w b 0) 4000 .out (aO [ad aG 7] (bz F)) (Iq) (fillAll y 0 [(F,eQ w b sc d u D tk T p e none B),(tk,inst 762 tkd)]) tb 0 []
abbrev EI:Prop:=(EH w F sc d u T p e y tb D tk tkd B b).norm [0,1]=.call 40 (bc [F,tk] (EG) []) (.call (.ref 268) ⟨[.ref tk],[]⟩) [(F,eQ w b sc d u D tk T p e none B),(tk,inst 762 tkd)] fun _ _ _=>.failW ""
theorem EJ:EI w F sc d u T p e y tb D tk tkd B b:=by delta za dH
noncomputable def EK:List an:=oh [] 0x15
abbrev EL:Prop:=((EH w F sc d u T p e y tb D tk tkd B b).nc (aA t0 (.ok (.ret (.ref I)))) (fillAll y0 0 [(F,eQ w b sc d u D tk T p e none B),(I,Im gi n1 n2 v1 v2)]) J).norm [0,1]=.call 60 (bc [F,I] (EK) []) (vc F I) [(F,eQ w b sc d u D tk T p e none B),(I,fld (.type "generator") [(.int gi 0),(.str n1 v1),(.str n2 v2)])] fun _ _ _=>.failW ""
theorem EM:EL w F sc d u T p e y tb D tk tkd I gi n1 n2 v1 v2 t0 y0 J B b:=by delta za dH
noncomputable def EN:List an:=oh [] 0x1
abbrev EO:Prop:=(((EH w F sc d u T p e y tb D tk tkd B b).nc (aA t0 (.ok (.ret (.ref I)))) (fillAll y0 0 [(F,eQ w b sc d u D tk T p e none B),(I,Im gi n1 n2 v1 v2)]) J).nc (aA t1 (.ok .next)) (fillAll y1 0 []) tb1).norm []=.done (bc [] (EN) []) (.ok .next) []
theorem EP:EO w F sc d u T p e y tb D tk tkd I gi n1 n2 v1 v2 t0 y0 J t1 y1 tb1 B b:=by delta za dH
end
noncomputable section
variable (w:World) (F sc d u D tk tkd st sd m nl ds dsd er lf q M:Addr) (T X X1:Str) (p e n pos U pc pp n1 pos1 G H p1:Int) (y:Nat→Nat→Tok) (z:Nat→Tok) (tb:Nat) (cv:Option Addr) (B:Nat) (t:Option (Addr×Int)) (b:Bool)
noncomputable def Ir:List an:=oh [] 0x14
noncomputable def KE:az:=aN (vs w b 0) 4000 .out (eF (xE yX) (bz F)) (Ir) (fillAll y 0 [(F,eQ w b sc d u D tk T p e t B)]) tb 0 []
abbrev KF:Prop:=(KE w F sc d u D tk T p e y tb B t b).norm [0]=.done (bc [F] (Ir) []) (.ok (.ret (.ref D))) [(F,eQ w b sc d u D tk T p e t B)]
theorem KG:KF w F sc d u D tk T p e y tb B t b:=by delta za eh
noncomputable def Is:List an:=oh [] 0x14
noncomputable def KH:az:=aN (vs w b 0) 4000 .out (eF (ED yX) (bz F)) (Is) (fillAll y 0 [(F,eQ w b sc d u D tk T p e t B)]) tb 0 []
abbrev KI:Prop:=(KH w F sc d u D tk T p e y tb B t b).norm [0]=.done (bc [F] (Is) []) (.ok (.ret (.ref d))) [(F,eQ w b sc d u D tk T p e t B)]
theorem KJ:KI w F sc d u D tk T p e y tb B t b:=by delta za eh
noncomputable def EQ:List an:=oh [fun ks=>jk (pr w b) 3 st sd m nl ds dsd er T X n pos U pc pp X1 n1 pos1 G H p1 .none] 0x1068f08700007000700076055000500054
noncomputable def KK:az:=aN (vs w b 0) 4000 .out (eF Kw (bz F)) (EQ w st sd m nl ds dsd er T X X1 n pos U pc pp n1 pos1 G H p1 b) (fillAll y 0 [(F,eQ w b sc d u D tk T p e t B),(tk,inst 762 tkd),(tkd,fY (pr w b) st lf M (oV cv) q),(st,inst 166 sd),(sd,eB (pr w b) m nl ds er X n pos U pc),(ds,inst 73 dsd),(dsd,gJ (pr w b) T pp),(m,bA 148 st)]) tb 0 []
abbrev KL:Prop:=(KK w F sc d u D tk tkd st sd m nl ds dsd er lf q M T X X1 p e n pos U pc pp n1 pos1 G H p1 y tb cv B t b).norm []=.sum (jk (pr w b) 3 st sd m nl ds dsd er T X n pos U pc pp X1 n1 pos1 G H p1 .none) [st,sd,ds,dsd,m] fun u0_1=>.done (bc [F,tk,tkd,st,sd,ds,dsd,m] (EQ w st sd m nl ds dsd er T X X1 n pos U pc pp n1 pos1 G H p1 b) []) (.ok (.ret (.bool (true)))) []
theorem KM:KL w F sc d u D tk tkd st sd m nl ds dsd er lf q M T X X1 p e n pos U pc pp n1 pos1 G H p1 y tb cv B t b:=by cases cv <;> apply eh <;> intros <;> kernel_rfl
end
section
open PySem PySem.W PySem.W.X PySem.SeqAt
theorem KN {xs:Array Value} {a c:Str} (h:ae xs.toList=[.str a 0,.str c 0]):∃t u,xs=#[.str a t,.str c u]:=by
 obtain ⟨l⟩:=xs
 obtain ⟨v,u,e,d,z⟩:=eA h
 obtain ⟨t,rfl⟩:=aL d
 obtain ⟨B,rfl⟩:=aL z
 exact⟨t,B,by have e:l=_:=e; rw [e]⟩
theorem TupAt.isTuple {h:Heap} {a:Addr} {k:Int} {X:Str} (t:TupAt h a k X):∃u v,h.IsTuple a #[.str (dq k) u,.str X v]:=by
 delta zz h a k X
 obtain ⟨o,B,z⟩:=t
 obtain ⟨c,d,D,sl⟩:=o
 cases D <;> simp [aI,eR,br] at z
 rename_i xs n
 obtain ⟨rfl,rfl,G,rfl⟩:=z
 obtain ⟨u,v,rfl⟩:=KN (a:=dq k) (c:=X) (xs:=xs) G
 exact⟨u,v,_,B,rfl,n,rfl⟩
theorem l8 (x:Str) (t u:Tok) (A:Around) (s:Shared):EqAt A s (.str x t) (.str x u) true:=by
 have:=(SeqRoads2.EqGives.str x x t u).at A s
 simpa using this
theorem ER {A:Around} {s:Shared} {a c:Addr} {k:Int} {X:Str} (z:A.units < cLine) (ha:TupAt s.heap a k X) (B:TupAt s.heap c k X):EqAt A s (.ref a) (.ref c) true:=by
 by_cases e:a=c
 ·subst e; exact EqAt.same _
 ·obtain ⟨u,v,D⟩:=ha.isTuple
  obtain ⟨d,v',G⟩:=B.isTuple
  have r:=RcAt.tuples (A:=A) (s:=s) (e:=fun _=>true) D G z (fun j H U=>by
   have I:j=0∨j=1:=by simp at H; omega
   rcases I with rfl | rfl
   ·exact l8 _ _ _ _ _
   ·exact l8 _ _ _ _ _)
  have J:((List.range (min (#[Value.str (dq k) u,Value.str X v]:Array Value).size (#[Value.str (dq k) d,Value.str X v']:Array Value).size)).all (fun _=>true) && (#[Value.str (dq k) u,Value.str X v]:Array Value).size == (#[Value.str (dq k) d,Value.str X v']:Array Value).size)=true:=by simp
  rw [J] at r
  exact EqAt.of_refs e r
theorem l9 {h:Heap}:∀{as cs:List Addr} {ts:List Tk},aK h as ts→aK h cs ts→∀(j:Nat) (x y:Addr),as[j]?=some x→cs[j]?=some y→∃k X,TupAt h x k X∧TupAt h y k X
 | [],_,_,_,_,j,x,y,d,_=>by cases j <;> cases d
 | _::_,_,[],t,_,_,_,_,_,_=>t.elim
 | _::_,[],_::_,_,t,_,_,_,_,_=>t.elim
 | a::as,c::cs,t::ts,⟨z,B⟩,⟨D,G⟩,0,x,y,d,u=>by cases d; cases u; exact⟨_,_,z,D⟩
 | a::as,c::cs,t::ts,⟨z,B⟩,⟨D,G⟩,j + 1,x,y,d,u=>l9 B G j x y d u
theorem ma:∀(l:List Addr) (j:Nat),(aq l)[j]?=(l[j]?).map Value.ref
 | [],j=>by cases j <;> rfl
 | a::l,0=>rfl
 | a::l,j + 1=>ma l j
theorem vf {prog:Program} {w:World} {A:Around} {s:Shared} {u z:Addr} {gl dl:List Addr} {n m:Nat} {TT:List Tk} {Q:Value→Shared→Prop} {E:Value→Shared→Prop} (B:A.units < 9000)
  (hg:s.heap.get? u=some (ah (aq gl) n)) (hd:s.heap.get? z=some (ah (aq dl) m)) (D:aK s.heap gl TT) (G:aK s.heap dl TT) (h:Q (.bool true) s):wpAny (model prog w) A (compareOp .Eq (.ref u) (.ref z)) Q E s:=by
 have l1:=dr D
 have l2:=dr G
 have d:(aq gl).toArray.size=(aq dl).toArray.size:=by simp [cW,l1,l2]
 refine eq_listAt (items:=(aq gl).toArray) (items2:=(aq dl).toArray) (e:=fun _=>true) ⟨_,hg,rfl,n,rfl⟩ ⟨_,hd,rfl,m,rfl⟩ d (Nat.lt_of_lt_of_le B (by decide)) (fun j H I=>?_) ?_
 ·have g1:(aq gl)[j]?=some ((aq gl).toArray[j]):=by rw [List.getElem?_eq_getElem (by simpa using H)]; rfl
  have g2:(aq dl)[j]?=some ((aq dl).toArray[j]):=by rw [List.getElem?_eq_getElem (by simpa using I)]; rfl
  rw [ma] at g1 g2
  obtain ⟨x,J,ex⟩:=Option.map_eq_some_iff.mp g1
  obtain ⟨y,U,ey⟩:=Option.map_eq_some_iff.mp g2
  rw [←ex,←ey]
  obtain ⟨k,X,t1,t2⟩:=l9 D G j x y J U
  refine ER ?_ t1 t2
  have:A.in1.units≤A.units + 10:=by first | exact Nat.le_add_right _ _ | (show _≤_; simp [Around.in1]; try omega)
  exact Nat.lt_of_le_of_lt this (Nat.lt_of_lt_of_le (Nat.add_lt_add_right B 10) (by decide))
 ·have:(List.range (aq gl).toArray.size).all (fun _=>true)=true:=by simp
  rw [this]
  exact h
end
noncomputable def dT (P:Params):FuncData:=match (lb P).data with
 | .func f=>f
 | _=>default
theorem vg (P:Params):(lb P).data=.func (dT P):=by kernel_rfl
theorem vh (P:Params):(dT P).scope.isCoroutine=false:=by kernel_rfl
theorem rZ (P:Params):(dT P).scope.isGenerator=true:=by kernel_rfl
theorem nY (P:Params):(dT P).body=.stmts dp:=by kernel_rfl
theorem nZ (P:Params) (tk:Addr):bindArgs (dT P) ⟨[.ref tk],[]⟩=.pure [((Str.ofString "self"),Value.ref tk)]:=by
 rw [PySem.W.ZFast.ze9782568553167038054]
 kernel_rfl
theorem me (P:Params):(dT P).scope=sS (bo 21 (some 1)):=by kernel_rfl
theorem oj (P:Params):(dT P).globals=3∧(dT P).closure=[]∧(dT P).code=.ref 267∧(dT P).builtins=0:=by
 refine⟨?_,?_,?_,?_⟩ <;> kernel_rfl
theorem om (P:Params):((dT P).qualname++".<locals>.":Str)="HTMLTokenizer.__iter__.<locals>.":=by kernel_rfl
theorem mf:((sS (bo 21 (some 1))).names.all fun x=>!(x.2 == NameKind.cell))=true:=by kernel_rfl
theorem mh:(sS (bo 21 (some 1))).names.lookup (Str.ofString "self")=some .local:=by kernel_rfl
theorem oo:(sS (bo 21 (some 1))).kind=.function:=by kernel_rfl
noncomputable def gN (F:Addr) (n:Str) (v:Value):Sem PySem.Fin:=PySem.W.R.bindR (PySem.W.ZFast.zw1291218889547360412 F n v) fun _=>.pure (.done .next)
theorem pV {M:Model} {A:Around} {s:Shared} {R:Result→Shared→Prop} {F:Addr} {n:Str} {v:Value} (h:wpAny M A (gN F n v) (RQ R) (fun e s'=>R (.error e) s') s):
  wpAny M A (nsSet F n v) (fun _ s'=>R (.ok .next) s') (fun e s'=>R (.error e) s') s:=by
 unfold gN at h
 rw [←PySem.W.R.bindR_eq,←PySem.W.ZFast.ze1291218889547360412] at h
 exact cT (k:=fun _=>PySem.Fin.done .next) h
noncomputable section
variable (w:World) (F tk:Addr) (y:Nat→Nat→Tok) (z:Nat→Tok) (tb:Nat) (b:Bool)
noncomputable def op:List an:=oh [] 0x144
noncomputable def ES:az:=aN (vs w b 50) 4000 .out (gN F (Str.ofString "self") (.ref tk)) (op) (fillAll y 0 [(F,bq [])]) tb 0 []
abbrev ET:Prop:=(ES w F tk y tb b).norm [0]=.done (bc [F] (op) []) (.ok .next) [(F,bq [!["self",.ref tk]])]
theorem EU:ET w F tk y tb b:=by delta za bh
end
theorem r6 {w:World} {b:Bool} {A:Around} {s:Shared} {F tk:Addr} {Q:Unit→Shared→Prop} {E:Value→Shared→Prop} (rm:au 50 A) (tp:aC (vs w b 50) s.heap) (hF:s.heap.get? F=some (bq [])) (h7:790≤F)
  (h:∀s',aD (vs w b 50) s [F] s' [(F,bq [!["self",.ref tk]])]→Q () s'):wpAny (model pg (wb w b)) A (nsSet F (Str.ofString "self") (.ref tk)) Q E s:=by
 refine wpAny_mono (pV (R:=fun r' s'=>r'=.ok .next∧aD (vs w b 50) s [F] s' [(F,bq [!["self",.ref tk]])]) ?_) (fun f s' z=>h s' z.2) (fun e s' z=>(by cases z.1))
 refine aM (V:=vs w b 50) (P0:=[(F,bq [])]) rfl rfl rm tp (fun q d=>by cases List.mem_singleton.mp d; exact⟨_,hF,rfl⟩) (fun q d=>by cases List.mem_singleton.mp d; exact h7) (by simp [keys]) fun y=>⟨4000,op,?_⟩
 exact bB (sel:=[0]) rfl (EU w F tk y _ b) (fun D G H u=>u fun r' I B P=>⟨bm B,P⟩)
structure Made (w:World) (b:Bool) (tk Fg gg:Addr) (s s':Shared):Prop where
 nF:s.heap.get? Fg=none
 ng:s.heap.get? gg=none
 ne:Fg≠gg
 hF:790≤Fg
 hg:790≤gg
 frame:aJ s'.heap [(Fg,pT w b tk)]
 obj:∃n1 n2 t1 t2,s'.heap.get? gg=some (Im s.gens.size n1 n2 t1 t2)
 gens:s'.gens=s.gens.push (.fresh (.func dp (bZ Fg)))
 os:s'.os=s.os
 keep:∀x o,s.heap.get? x=some o→s'.heap.get? x=some o
 size:s.heap.objs.size≤s'.heap.objs.size
 top:aC (vs w b 40) s'.heap
theorem cy {h:Heap}:h.get? h.objs.size=none:=by
 cases e:h.get? h.objs.size with
 | none=>rfl
 | some o=>exact absurd (Heap.lt_size e) (Nat.lt_irrefl _)
theorem vi {w:World} {b:Bool} {A:Around} {s:Shared} {tk:Addr} (rm:au 40 A) (tp:aC (vs w b 40) s.heap):
  codeAny (model pg (wb w b)) A (.call (.ref 268) ⟨[.ref tk],[]⟩) (fun r s'=>∃U I,r=.ok (.ret (.ref I))∧Made w b tk U I s s') s:=by
 delta zz w b A s tk
 have hd:A.depth < recursionLimit:=by have:=rm.1; show A.depth < 1000; omega
 have u:s.heap.get? 268=some (lb (pr w b)):=tp.1 268 _ (show 268 < 790 by decide) rfl
 obtain ⟨r1,r2,J,r4⟩:=oj (pr w b)
 have cr:s.heap.CodeRec (dT (pr w b)).code (dT (pr w b)).qualname:=by
  rw [J]
  exact⟨267,sO (pr w b),_,_,rfl,tp.1 267 _ (show 267 < 790 by decide) rfl,rfl,rfl⟩
 refine codeAny_call_generator hd u (vg _) (vh _) (rZ _) (nY _) cr ?_
 rw [nZ,me,om,r1,r2,J,r4]
 refine wpAny_pure ?_
 simp only [newFunctionEnv,Option.isSome_none,Bool.false_eq_true,if_false]
 refine wpAny_bind (wpAny_alloc ?_)
 rw [forIn_yield_id [] (fun x hx c=>by
   obtain ⟨name,kind⟩:=x
   have z:=List.all_eq_true.mp mf _ hx
   have:(kind == NameKind.cell)=false:=by simpa using z
   simp only [this,Bool.false_eq_true,if_false])]
 refine wpAny_bind (wpAny_pure (wpAny_bind ?_))
 simp only [List.forIn_cons,List.forIn_nil]
 have H:(bZ s.heap.objs.size).kindOf (Str.ofString "self")=some .local:=mh
 have hp:((bZ s.heap.objs.size).scope.kind == .class || ((bZ s.heap.objs.size).scope.kind == .module && (bZ s.heap.objs.size).locals != (bZ s.heap.objs.size).globals))=false:=by
  show((sS (bo 21 (some 1))).kind == .class || ((sS (bo 21 (some 1))).kind == .module && _))=false
  rw [oo]; rfl
 refine wpAny_bind (wpAny_bind ?_)
 show wpAny _ _ (storeName (bZ s.heap.objs.size) _ _) _ _ _
 rw [storeName_local H hp]
 have B:(s.heap.push (bq [])).get? s.heap.objs.size=some (bq []):=Heap.get?_push_size _ rfl
 refine r6 (s:={s with heap:=s.heap.push (bq [])}) ⟨by have:=rm.1; show A.depth≤_; omega,by have:=rm.2.1; show A.units + 1≤_; omega,rm.2.2⟩ ?_ B tp.2 fun d P=>?_
 ·exact⟨fun c o D G=>Heap.get?_push_of_some _ (tp.1 c o D G),by rw [Heap.size_push]; exact Nat.le_succ_of_le tp.2⟩
 refine wpAny_pure (wpAny_pure (wpAny_pure ⟨iW P.top,s.heap.objs.size,d.heap.objs.size,rfl,?_⟩))
 have sz:s.heap.objs.size < d.heap.objs.size:=by
  have:=P.grow
  have:(s.heap.push (bq [])).objs.size≤d.heap.objs.size:=this
  rw [Heap.size_push] at this
  omega
 have keep0:∀x o,s.heap.get? x=some o→d.heap.get? x=some o:=fun x o e=>
  P.frame x o (Heap.get?_push_of_some _ e) fun h=>by
   cases List.mem_singleton.mp h
   have e:s.heap.get? s.heap.objs.size=some o:=e
   rw [cy] at e
   cases e
 have n2:s.heap.get? d.heap.objs.size=none:=Heap.get?_none_of_le (Nat.le_of_lt sz)
 refine⟨cy,n2,Nat.ne_of_lt sz,tp.2,Nat.le_trans tp.2 (Nat.le_of_lt sz),?_,?_,?_,?_,?_,?_,?_⟩
 ·intro q hq
  obtain ⟨o,D,G⟩:=P.at_ q hq
  exact⟨o,Heap.get?_push_of_some _ D,G⟩
 ·refine⟨(dT (pr w b)).name,(dT (pr w b)).qualname,d.toks,d.toks + 1,?_⟩
  refine(Heap.get?_push_size _ rfl).trans ?_
  rw [P.gens]
  rfl
 ·show d.gens.push _=_
  rw [P.gens]
  rfl
 ·exact P.os
 ·exact fun x o e=>Heap.get?_push_of_some _ (keep0 x o e)
 ·show s.heap.objs.size≤(d.heap.push _).objs.size
  rw [Heap.size_push]
  omega
 ·refine⟨fun c o D G=>Heap.get?_push_of_some _ (P.top.1 c o D G),?_⟩
  show _≤(d.heap.push _).objs.size
  rw [Heap.size_push]
  exact Nat.le_succ_of_le P.top.2
theorem jt:∀{L:List aw},(keys L).Nodup→∀{p q:aw},p∈L→q∈L→p.1=q.1→p=q
 | [],_,_,_,h,_,_=>(by cases h)
 | a::L,nd,p,q,hp,z,e=>by
  have n:=List.nodup_cons.mp (show(a.1::keys L).Nodup from nd)
  rcases List.mem_cons.mp hp with d | d <;> rcases List.mem_cons.mp z with u | u
  ·exact d.trans u.symm
  ·exact absurd (by rw [←d,e]; exact List.mem_map_of_mem u) n.1
  ·exact absurd (by rw [←u,←e]; exact List.mem_map_of_mem d) n.1
  ·exact jt n.2 d u e
noncomputable abbrev CG (w:World) (b:Bool) (a:Ad) (M F B sc I J:Addr) (T:List Nat) (p e:Int) (U:Nat):List aw:=
 (F,eQ w b sc I J B a.tk ⟨⟨T⟩⟩ p e none U)::(B,aV [])::(a.er,aV [])::LI w b a M T
section
variable {w:World} {b:Bool} {A:Around} {s s6:Shared} {a:Ad} {M F B sc I J:Addr} {T:List Nat} {p e:Int} {U:Nat} {TT:List Tk}
theorem vj (rm:au 0 A) (tp:aC (vs w b 0) s.heap) (hF:aJ s.heap [(F,cQ w b sc I J ⟨⟨T⟩⟩ p e U)]) (h7:790≤F):
  wpAny (model pg (wb w b)) A (execs [ad aG 5,ad aG 6] (bz F)) (fun f s'=>f=.next∧∃a M B,aD (vs w b 0) s [F] s' (CG w b a M F B sc I J T p e U)) (fun _ _=>False) s:=by
 delta zz w b A s F sc I J T p e U
 refine wpAny_mono (aP (R:=fun r' s'=>r'=.ok .next∧∃a M B,aD (vs w b 0) s [F] s' (CG w b a M F B sc I J T p e U)) ?_) (fun f s' h=>⟨by injection h.1,h.2⟩) (fun e s' h=>(by cases h.1))
 refine aM (V:=vs w b 0) rfl rfl rm tp hF (ak h7) (by simp [keys]) fun y=>⟨4000,EF,?_⟩
 refine iH (sel:=[0,1,15,17,3,2,6,5,12,11,8]) rfl (KD w F sc I J ⟨⟨T⟩⟩ p e y _ U b) ?_
 refine bE fun b1=>bE fun b2=>bE fun H=>bE fun b4=>bE fun b5=>bE fun b6=>bE fun b7=>bE fun b8=>bE fun b9=>bE fun b10=>bE fun d=>bE fun u=>bE fun b13=>bE fun b14=>bE fun z=>bE fun D=>bE fun G=>g9 fun r' s2 hr P=>⟨bm hr,⟨H,b2,b6,b5,b8,b9,u,d,z,D,b1⟩,G,b1,P⟩
theorem nX.grow {Fg:Addr} {Wp:fm} {tk:Addr} {T':Str} {s0 d u:Shared} (H:nX w b a T Fg F B Wp TT sc I J tk T' p e U s0 d) (f:aH (vs w b 150) [] d u):nX w b a T Fg F B Wp TT sc I J tk T' p e U s0 u:=by
 have k:∀x o,d.heap.get? x=some o→u.heap.get? x=some o:=fun x o e=>f.frame x o e (by simp)
 delta zn
 obtain ⟨t,gl,n,h1,h2,h3⟩:=H.st
 obtain ⟨q1,D,L,G⟩:=H.gn
 delta zm
 refine⟨⟨t,gl,n,h1.keeps fun x o e _=>k x o e,k _ _ h2,h3.keeps fun y o e _=>⟨o,k y o e,rfl⟩⟩,⟨q1,D,L,Gn.of G.isC (G.at_.keeps fun x o e _=>k x o e) G.nd G.hi f.top fun x hx=>⟨(G.wd x hx).1,fun z=>?_⟩⟩,fun y hy=>H.bare y (by rw [←f.gens]; exact hy),f.top,fun x o e1 e2=>k x o (H.kept x o e1 e2),f.os.trans H.os⟩
 cases e:d.heap.get? x with
 | none=>exact(G.wd x hx).2 e
 | some o=>rw [k x o e] at z; cases z
theorem Gx.soft {z:Addr} {u:fm} {D as:List Addr} {L:List aw} {s' d:Shared} (G:Gx w b a z u as s' L) (hW:∀x∈D,x∈u) (h1:lZ D s' d) (h2:aC (vs w b 150) d.heap) (h3:∀y∈u,d.heap.get? y≠none):Gx w b a z u as d L:=
 ⟨G.nt,fun p hp=>by
  delta zn
  obtain ⟨o,e1,e2⟩:=G.at_ p hp
  obtain ⟨o',e3,e4⟩:=h1 _ _ e1 fun h=>(G.wd _ (hW _ h)).1 (List.mem_append_left _ (List.mem_map_of_mem hp))
  delta zm
  exact⟨o',e3,e4.trans e2⟩,G.nd,G.hi,h2,fun x H=>⟨(G.wd x H).1,h3 x H⟩⟩
theorem gO {o:Obj} (h:aI o=aV []):∃n,o=ah [] n:=by
 delta zn
 obtain ⟨c,d,u,sl⟩:=o
 delta zm
 cases u <;> simp [aI,eR,aV] at h
 rename_i xs n
 delta zn
 obtain ⟨rfl,rfl,z,rfl⟩:=h
 obtain ⟨l⟩:=xs
 delta zm
 cases l with
 | nil=>exact⟨n,rfl⟩
 | cons x l=>simp [ae] at z
noncomputable def y5 (s:Shared) (B d:Addr):fm:=fun x=>s.heap.get? x≠none∨x=B∨x=d
theorem vk {F d:Addr} {c:Code} (h:ao c=vc F d):c=vc F d:=by
 cases c <;> first | (cases h; done) | skip
 rename_i t it bd oe en
 delta zn
 injection h with u z D G H
 subst u D G H
 subst z
 delta zm
 rfl
theorem room_in {n m:Nat} {A:Around} (rm:au n A) (h:n + 10≤m):au m A.in1:=by
 have d:=rm.1
 have u:=rm.2.1
 refine⟨?_,?_,rm.2.2⟩
 ·show A.depth≤_
  omega
 ·show A.units + 1≤_
  omega
theorem vm (rm:au 0 A) (hb:∀y∈s.gens,y.bare=true) (hF:s.heap.get? F≠none) (P5:aD (vs w b 0) s [F] s6 (CG w b a M F B sc I J T p e U)) (hr:Run .data [] [] T TT) (hk:∀t∈TT,mH t.1) (hl:TT.length≤1000000):
  wpAny (model pg (wb w b)) A (execs [ad aG 7] (bz F)) (fun f s'=>f=.next∧∃s7 Fg gg,(∀x o,s6.heap.get? x=some o→x∉[F,B]→(x∈y5 s B gg∨o.cls=.type "tuple")→s7.heap.get? x=some o)∧s7.os=s6.os∧s6.heap.objs.size≤s7.heap.objs.size∧
   nX w b a T Fg F B (y5 s B gg) TT sc I J a.tk ⟨⟨T⟩⟩ p e U s7 s') (fun _ _=>False) s6:=by
 delta zz w b A s s6 a M F B sc I J T p e U TT
 have nd:=P5.nd
 have nd0:([F,B,a.er,M,a.tk,a.tkd,a.st,a.sd,a.ds,a.dsd,a.m]:List Addr).Nodup:=nd
 refine wpAny_mono (aP (R:=fun r' s'=>r'=.ok .next∧∃s7 Fg gg,(∀x o,s6.heap.get? x=some o→x∉[F,B]→(x∈y5 s B gg∨o.cls=.type "tuple")→s7.heap.get? x=some o)∧s7.os=s6.os∧s6.heap.objs.size≤s7.heap.objs.size∧
   nX w b a T Fg F B (y5 s B gg) TT sc I J a.tk ⟨⟨T⟩⟩ p e U s7 s') ?_) (fun f s' h=>⟨by injection h.1,h.2⟩) (fun e s' h=>(by cases h.1))
 refine aM (V:=vs w b 0) (P0:=[(F,eQ w b sc I J B a.tk ⟨⟨T⟩⟩ p e none U),(a.tk,inst 762 a.tkd)]) rfl rfl rm P5.top (ag (P5.get 0 rfl) (ak (P5.get 4 rfl))) (ag (P5.hi' 0 rfl) (ak (P5.hi' 4 rfl))) (c8 (L:=CG w b a M F B sc I J T p e U) (sel:=[0,4]) nd rfl) fun y=>⟨4000,Iq,?_⟩
 refine dk (sel:=[0,1]) rfl (EJ w F sc I J ⟨⟨T⟩⟩ p e y _ B a.tk a.tkd U b) (fun Ok sm mo cL=>cL rfl fun A1 s1 c1 G gk hc1 rm1 P1=>?_)
 have ec:c1=.call (.ref 268) ⟨[.ref a.tk],[]⟩:=by
  obtain ⟨pos,rfl,hp⟩:=av hc1
  obtain ⟨u,rfl,d⟩:=mN hp
  cases bb d
  rfl
 subst ec
 replace P1:aD (vs w b 0) s6 [F,a.tk] s1 [(F,eQ w b sc I J B a.tk ⟨⟨T⟩⟩ p e none U),(a.tk,inst 762 a.tkd)]:=P1
 refine codeAny_mono (vi rm1 P1.top) fun r2 s2 D=>?_
 delta zn
 obtain ⟨Fg,gg,rfl,m⟩:=D
 obtain ⟨n1,n2,v1,v2,og⟩:=m.obj
 delta zm
 clear cL mo sm hc1
 delta zy y A1 s1 G s2 Fg gg n1 n2 v1 v2 at gk rm1 P1 m og
 have at1:∀q∈CG w b a M F B sc I J T p e U,qx s1.heap q.1 q.2:=fun q hq=>by
  by_cases h:q.1∈[F,a.tk]
  ·have h:=c9 h
   rcases h with h | h
   ·have e:=jt nd hq (.head _) h
    rw [e]
    exact P1.get 0 rfl
   ·have e:=jt nd hq (.tail _ (.tail _ (.tail _ (.tail _ (.head _))))) h
    rw [e]
    exact P1.get 1 rfl
  ·obtain ⟨o,d,D⟩:=P5.at_ q hq
   exact⟨o,P1.frame _ _ d h,D⟩
 have ne1:∀x∈keys (CG w b a M F B sc I J T p e U),x≠Fg∧x≠gg:=fun x H=>by
  obtain ⟨q,hq,rfl⟩:=List.mem_map.mp H
  obtain ⟨o,d,_⟩:=at1 q hq
  refine⟨fun z=>?_,fun z=>?_⟩
  ·rw [z,m.nF] at d; cases d
  ·rw [z,m.ng] at d; cases d
 have dead1:∀x,s1.heap.get? x=none→x∉[F,a.tk]→s6.heap.get? x=none:=fun x d D=>by
  cases e:s6.heap.get? x with
  | none=>rfl
  | some o=>rw [P1.frame x o e D] at d; cases d
 have dead0:∀x,s1.heap.get? x=none→x∉[F,a.tk]→s.heap.get? x=none:=fun x d D=>by
  cases e:s.heap.get? x with
  | none=>rfl
  | some o=>
   have:=dead1 x d D
   rw [P5.frame x o e fun z=>D (by cases List.mem_singleton.mp z; exact .head _)] at this
   cases this
 have nF1:Fg∉[F,a.tk]:=fun z=>by
  have z:=c9 z
  rcases z with z | z
  ·exact(ne1 F (.head _)).1 z.symm
  ·exact(ne1 a.tk (.tail _ (.tail _ (.tail _ (.tail _ (.head _)))))).1 z.symm
 have ng1:gg∉[F,a.tk]:=fun z=>by
  have z:=c9 z
  rcases z with z | z
  ·exact(ne1 F (.head _)).2 z.symm
  ·exact(ne1 a.tk (.tail _ (.tail _ (.tail _ (.tail _ (.head _)))))).2 z.symm
 refine⟨.ok (.ret (.ref gg)),[(F,eQ w b sc I J B a.tk ⟨⟨T⟩⟩ p e none U),(gg,Im s1.gens.size n1 n2 v1 v2)],⟨rfl,?_,m.top,ag (P1.hi' 0 rfl) (ak m.hg),?_⟩,gk fun y1 t1=>?_⟩
 ·intro q hq
  rcases List.mem_cons.mp hq with rfl | hq
  ·obtain ⟨o,d,D⟩:=P1.get 0 rfl
   exact⟨o,m.keep _ _ d,D⟩
  ·cases List.mem_singleton.mp hq
   exact⟨_,og,rfl⟩
 ·simp only [keys,List.map,List.nodup_cons,List.mem_cons,List.not_mem_nil,or_false,not_false_eq_true,List.nodup_nil,and_true]
  exact(ne1 F (.head _)).2
 refine dk (sel:=[0,1]) rfl (EM w F sc I J ⟨⟨T⟩⟩ p e y _ B a.tk a.tkd gg s1.gens.size n1 n2 v1 v2 t1 y1 _ U b) (fun Ok sm mo cL=>cL rfl fun A3 s3 c3 G gk hc3 rm3 P3=>?_)
 delta zn
 cases vk hc3
 have P3:aD (vs w b 0) s2 [F,gg] s3 [(F,eQ w b sc I J B a.tk ⟨⟨T⟩⟩ p e none U),(gg,Im s1.gens.size n1 n2 v1 v2)]:=P3
 have keep13:∀x o,s1.heap.get? x=some o→x∉[F,gg]→s3.heap.get? x=some o:=fun x o d D=>P3.frame x o (m.keep x o d) D
 have nF3:Fg∉[F,gg]:=fun z=>by
  have z:=c9 z
  rcases z with z | z
  ·exact(ne1 F (.head _)).1 z.symm
  ·exact m.ne z
 have inR:∀x,x∈keys (CG w b a M F B sc I J T p e U)→x≠F→x∉[F,gg]:=fun x d D z=>by
  have z:=c9 z
  rcases z with z | z
  ·exact D z
  ·exact(ne1 x d).2 z
 have g3:s3.gens=s1.gens.push (.fresh (.func dp (bZ Fg))):=P3.gens.trans m.gens
 have tailne:∀x∈keys ((a.er,aV [])::LI w b a M T),x≠F∧x≠B:=fun x H=>by
  have d:=List.nodup_cons.mp nd
  have D:=List.nodup_cons.mp d.2
  exact⟨fun z=>d.1 (z▸List.mem_cons_of_mem _ H),fun z=>D.1 (z▸H)⟩
 have intail:∀x∈keys ((a.er,aV [])::LI w b a M T),x∈keys (CG w b a M F B sc I J T p e U):=fun x H=>List.mem_cons_of_mem _ (List.mem_cons_of_mem _ H)
 have ndX:(keys (X2 w b a Fg++LI w b a M T)).Nodup:=by
  show(Fg::keys ((a.er,aV [])::LI w b a M T)).Nodup
  exact List.nodup_cons.mpr ⟨fun z=>(ne1 Fg (intail _ z)).1 rfl,(List.nodup_cons.mp (List.nodup_cons.mp nd).2).2⟩
 have gaF:B≠F:=fun z=>(List.nodup_cons.mp nd0).1 (by rw [z]; exact .head _)
 have live3:∀x,x∈y5 s B gg→s3.heap.get? x≠none:=fun x H=>by
  rcases H with H | rfl | rfl
  ·by_cases h:x=F
   ·subst h
    obtain ⟨o,d,_⟩:=P3.get 0 rfl
    rw [show s3.heap.get? x=some o from d]; exact fun z=>by cases z
   ·cases e1:s.heap.get? x with
    | none=>exact absurd e1 H
    | some o=>
     intro z
     have e2:=P5.frame x o e1 (by simpa using h)
     have h3:x∈[F,a.tk]∨s1.heap.get? x=some o:=by
      by_cases h4:x∈[F,a.tk]
      ·exact .inl h4
      ·exact .inr (P1.frame x o e2 h4)
     rcases h3 with h3 | h3
     ·have h3:=c9 h3
      rcases h3 with h3 | h3
      ·exact h h3
      ·have:=P5.own' a.tk (.tail _ (.tail _ (.tail _ (.tail _ (.head _)))))
       rcases this with q | q
       ·exact h (h3.trans (List.mem_singleton.mp q))
       ·rw [←h3,e1] at q; cases q
     ·rw [keep13 x o h3 fun q=>?_] at z
      ·cases z
      ·have q:=c9 q
       rcases q with q | q
       ·exact h q
       ·rw [q,m.ng] at h3; cases h3
  ·obtain ⟨o,d,_⟩:=at1 (x,aV []) (.tail _ (.head _))
   rw [keep13 x o d (inR x (.tail _ (.head _)) gaF)]
   exact fun z=>by cases z
  ·obtain ⟨o,d,_⟩:=P3.get 1 rfl
   rw [show s3.heap.get? x=some o from d]; exact fun z=>by cases z
 have G0:Gx w b a Fg (y5 s B gg) [] s3 (LI w b a M T):=by
  refine⟨?_,?_,by rw [List.append_nil]; exact ndX,?_,P3.top,fun x H=>⟨fun z=>?_,live3 x H⟩⟩
  ·intro q hq
   simp only [X2,LI,List.mem_append,List.mem_cons,List.not_mem_nil,or_false] at hq
   rcases hq with(rfl | rfl) | rfl | rfl | rfl | rfl | rfl | rfl | rfl | rfl <;> (intro z; first | cases z | (injection z with z; exact absurd z (by decide)))
  ·intro q hq
   rcases List.mem_cons.mp (show q∈(Fg,pT w b a.tk)::((a.er,aV [])::LI w b a M T) from hq) with rfl | hq
   ·obtain ⟨o,d,D⟩:=m.frame _ (.head _)
    exact⟨o,P3.frame _ _ d nF3,D⟩
   ·have H:q.1∈keys ((a.er,aV [])::LI w b a M T):=List.mem_map_of_mem hq
    obtain ⟨o,d,D⟩:=at1 q (.tail _ (.tail _ hq))
    exact⟨o,keep13 _ _ d (inR _ (intail _ H) (tailne _ H).1),D⟩
  ·intro q hq
   rcases List.mem_cons.mp (show q∈(Fg,pT w b a.tk)::((a.er,aV [])::LI w b a M T) from hq) with rfl | hq
   ·exact m.hF
   ·exact P5.hi q (.tail _ (.tail _ hq))
  ·have z:x∈Fg::keys ((a.er,aV [])::LI w b a M T):=by rw [List.append_nil] at z; exact z
   rcases List.mem_cons.mp z with h | h
   ·rw [h] at H
    rcases H with H | H | H
    ·exact H (dead0 Fg m.nF nF1)
    ·exact(ne1 B (.tail _ (.head _))).1 H.symm
    ·exact m.ne H
   ·rcases H with H | H | H
    ·rcases P5.own' x (intail _ h) with q | q
     ·exact(tailne x h).1 (List.mem_singleton.mp q)
     ·exact H q
    ·exact(tailne x h).2 H
    ·exact(ne1 x (intail _ h)).2 H
 have hW:∀x∈[F,B],x∈y5 s B gg:=ag (.inl hF) (ak (.inr (.inl rfl)))
 have ga3:∃n,s3.heap.get? B=some (ah [] n):=by
  obtain ⟨o,d,D⟩:=at1 (B,aV []) (.tail _ (.head _))
  obtain ⟨n,rfl⟩:=gO D
  exact⟨n,keep13 _ _ d (inR B (.tail _ (.head _)) gaF)⟩
 obtain ⟨n0,ga3⟩:=ga3
 delta zm
 have fi:FI w b A3 a T Fg F B gg s1.gens.size (y5 s B gg) TT sc I J a.tk ⟨⟨T⟩⟩ p e U s3 TT s3:=by
  refine⟨⟨[],none,[],n0,rfl,(ak (P3.get 0 rfl):aJ s3.heap [(F,eQ w b sc I J B a.tk ⟨⟨T⟩⟩ p e none U)]),ga3,trivial⟩,?_,⟨.fresh (.func dp (bZ Fg)),?_,fun s'' d D h3=>⟨rfl,yW (room_in rm3 (by decide)) hW (G0.soft hW d D h3) hr⟩⟩,?_,P3.top,live3,fun x o h _=>h,rfl⟩
  ·obtain ⟨o,d,D⟩:=P3.get 1 rfl
   have:=dA D
   subst this
   exact⟨_,_,_,d,rfl,rfl,rfl⟩
  ·rw [g3]; simp
  ·rw [g3]
   intro y hy
   rcases Array.mem_push.mp hy with hy | rfl
   ·refine hb y ?_
    have:s1.gens=s.gens:=P1.gens.trans P5.gens
    rw [←this]; exact hy
   ·rfl
 refine codeAny_mono (y4 rm3 ⟨.inl hF,.inr (.inl rfl),.inr (.inr rfl),fun z=>(ne1 F (.head _)).2 z.symm,fun z=>(ne1 B (.tail _ (.head _))).2 z.symm,fun z=>gaF z.symm,P5.hi' 0 rfl,P5.hi' 1 rfl,hk,hl⟩ fi) fun r4 s4 h4=>?_
 delta zn
 obtain ⟨rfl,h4⟩:=h4
 delta zm
 refine⟨.ok .next,[],⟨rfl,fun q hq=>(by cases hq),h4.tp,fun q hq=>(by cases hq),List.nodup_nil⟩,gk fun y2 t2=>?_⟩
 refine bB (sel:=[]) rfl (EP w F sc I J ⟨⟨T⟩⟩ p e y _ B a.tk a.tkd gg s1.gens.size n1 n2 v1 v2 t1 y1 _ t2 y2 _ U b) (fun Ok sm mo dn=>dn fun r5 s5 hr5 P5'=>⟨bm hr5,s3,Fg,gg,fun x o d D h3=>?_,P3.os.trans (m.os.trans P1.os),Nat.le_trans P1.grow (Nat.le_trans m.size P3.grow),h4.grow ⟨P5'.frame,P5'.gens,P5'.os,P5'.grow,P5'.top⟩⟩)
 have nx:x∉[F,a.tk]:=fun z=>by
  simp only [List.mem_cons,List.not_mem_nil,or_false] at z D
  rcases z with rfl | rfl
  ·exact D (.inl rfl)
  ·rcases h3 with h3 | h3
   ·rcases h3 with h3 | h3 | h3
    ·rcases P5.own' a.tk (.tail _ (.tail _ (.tail _ (.tail _ (.head _))))) with q | q
     ·exact D (.inl (List.mem_singleton.mp q))
     ·exact h3 q
    ·exact D (.inr h3)
    ·exact(ne1 a.tk (.tail _ (.tail _ (.tail _ (.tail _ (.head _)))))).2 h3
   ·obtain ⟨o',q1,q2⟩:=P5.get 4 rfl
    have q1:s6.heap.get? a.tk=some o':=q1
    rw [d] at q1; cases q1
    exact kN q2 (by intro z; cases z) h3
 have e1:=P1.frame x o d nx
 refine keep13 x o e1 fun z=>?_
 simp only [List.mem_cons,List.not_mem_nil,or_false] at z D
 rcases z with z | z
 ·exact D (.inl z)
 ·rw [z,m.ng] at e1; cases e1
end
theorem EV:ad aG 8=.Return (some vb) (sP (ad aG 8)):=by kernel_rfl
theorem y6:vb=.BoolOp .And [yX,Kw] (xP vb):=by kernel_rfl
theorem EW:yX=.Compare (xE yX) [.Eq] [ED yX] (xP yX):=by kernel_rfl
section
variable {w:World} {b:Bool} {A:Around} {s s0:Shared} {a:Ad} {U F d sc B I:Addr} {T:List Nat} {p e:Int} {J:Nat} {TT:List Tk} {Wp:fm} {dl:List Addr} {m:Nat}
structure Kept (w:World) (b:Bool) (W:Addr→Prop) (s s':Shared):Prop where
 kept:∀x o,s.heap.get? x=some o→W x→s'.heap.get? x=some o
 gens:s'.gens=s.gens
 os:s'.os=s.os
 grow:s.heap.objs.size≤s'.heap.objs.size
 top:aC (vs w b 0) s'.heap
theorem Kept.trans {W:Addr→Prop} {s u z:Shared} (x:Kept w b W s u) (y:Kept w b W u z):Kept w b W s z:=
 ⟨fun c o G D=>y.kept c o (x.kept c o G D) D,y.gens.trans x.gens,y.os.trans x.os,Nat.le_trans x.grow y.grow,y.top⟩
theorem pW {x:Addr} {ex:Expr} {o0:Obj} (rm:au 0 A) (tp:aC (vs w b 0) s.heap) (hF:aJ s.heap [(F,o0)]) (h7:790≤F) {orc:List an}
  (hp:∀y tb,(aN (vs w b 0) 4000 .out (eF ex (bz F)) orc (fillAll y 0 [(F,o0)]) tb 0 []).norm [0]=.done (bc [F] orc []) (.ok (.ret (.ref x))) [(F,o0)])
  {Q:Value→Shared→Prop} (h:∀s',aH (vs w b 0) [F] s s'→aJ s'.heap [(F,o0)]→Q (.ref x) s'):wpAny (model pg (wb w b)) A (eval ex (bz F)) Q (fun _ _=>False) s:=by
 refine wpAny_mono (gI (R:=fun r' s'=>r'=.ok (.ret (.ref x))∧aH (vs w b 0) [F] s s'∧aJ s'.heap [(F,o0)]) ?_) (fun f s' u=>?_) (fun e s' h=>(by cases h.1))
 ·exact aM (V:=vs w b 0) rfl rfl rm tp hF (ak h7) (by simp [keys]) fun y=>⟨4000,orc,bB (sel:=[0]) rfl (hp y _) (fun G H mo z=>z fun r' s2 D P=>⟨dX D,P.far,P.at_⟩)⟩
 ·have e:=u.1
  injection e with e
  injection e with e
  rw [e]
  exact h s' u.2.1 u.2.2
theorem KO {s t:String} (h:s≠t):Value.type s≠.type t:=fun e=>h (by injection e)
theorem KP {S L:List aw} (h:∀q∈S,q∈L) {x:Addr} (z:x∈keys S):x∈keys L:=by
 obtain ⟨q,u,D⟩:=List.mem_map.mp z
 exact D▸List.mem_map_of_mem (h q u)
theorem r8 (rm:au 0 A) (h7:790≤F) (hFW:F∈Wp) (hga:d∈Wp) (hdu:B≠F) (gaF:d≠F) (H:nX w b a T U F d Wp TT sc B I a.tk ⟨⟨T⟩⟩ p e J s0 s) (hd:s.heap.get? B=some (ah (aq dl) m)) (td:aK s.heap dl TT):
  wpAny (model pg (wb w b)) A (exec (ad aG 8) (bz F)) (fun f s'=>f=.ret (.bool true)∧Kept w b (fun x=>x∈Wp∧x≠F) s s') (fun _ _=>False) s:=by
 delta zz w b A s s0 a U F d sc B I T p e J TT dl m at Wp
 obtain ⟨t,gl,n,hF,hg,tg⟩:=H.st
 obtain ⟨q1,D,L,G⟩:=H.gn
 rw [EV,exec_Return_some]
 refine wpAny_bind (wpAny_standAt ?_)
 rw [y6,arm_eval_BoolOp]
 refine wpAny_bind ?_
 show wpAny _ A (eval yX (bz F) >>=_) _ _ s
 refine wpAny_bind ?_
 rw [EW,eval_Compare1]
 refine wpAny_bind (pW (x:=d) rm H.tp hF h7 (fun y tb=>KG w F sc B I d a.tk ⟨⟨T⟩⟩ p e y tb J t b) fun s1 f1 hF1=>?_)
 refine wpAny_bind (wpAny_holding ?_)
 show wpAny _ A (eval (ED yX) (bz F)) _ _ s1
 refine pW (x:=B) rm f1.top hF1 h7 (fun y tb=>KJ w F sc B I d a.tk ⟨⟨T⟩⟩ p e y tb J t b) fun s2 f2 hF2=>?_
 refine wpAny_bind (wpAny_standAt (PyProof.Rows.wpAny_operate' ?_))
 have f12:aH (vs w b 0) [F] s s2:=f1.trans f2 fun x hx=>.inl hx
 have frNot:∀x o,s.heap.get? x=some o→(o.cls=.type "tuple"∨x≠F)→s2.heap.get? x=some o:=fun x o h1 h2=>by
  refine f12.frame x o h1 fun z=>?_
  have z:=List.mem_singleton.mp z
  rcases h2 with h2 | h2
  ·obtain ⟨o',q1,q2⟩:=hF _ (.head _)
   have q1:s.heap.get? F=some o':=q1
   rw [←z,h1] at q1; cases q1
   exact kN q2 (fun z=>KO (by decide) z) h2
  ·exact h2 z
 have hu:A.units < 9000:=Nat.lt_of_le_of_lt rm.2.1 (by decide)
 refine vf hu (frNot _ _ hg (.inr gaF)) (frNot _ _ hd (.inr hdu)) (tg.keeps fun y o h1 h2=>⟨o,frNot y o h1 (.inl h2),rfl⟩) (td.keeps fun y o h1 h2=>⟨o,frNot y o h1 (.inl h2),rfl⟩) ?_
 refine wpAny_bind (wpAny_standAt (wpAny_bind (wpAny_holding (wpAny_truthy_bool ?_))))
 show wpAny _ A (eval Kw (bz F)) _ _ s2
 obtain ⟨M,cv,E,pc,hc,hL⟩:=G.isC
 have FL:F∉keys (X2 w b (a.wq q1) U++L)++[]:=(G.wd F hFW).1
 have at2:aJ s2.heap (X2 w b (a.wq q1) U++L):=G.at_.keeps fun x o h1 h2=>frNot x o h1 (.inr fun z=>FL (by rw [←z,List.append_nil]; exact h2))
 have ocv:∃c,cv=oV c:=by
  rcases hc.cv with h | ⟨y,h⟩
  ·exact⟨none,h⟩
  ·exact⟨some y,h⟩
 obtain ⟨c,rfl⟩:=ocv
 subst hL
 have sub:∀q∈[(a.tk,inst 762 a.tkd),(a.tkd,fY (pr w b) a.st a.lf M (oV c) q1),(a.st,inst 166 a.sd),(a.sd,eB (pr w b) a.m a.nl a.ds a.er (XU [] []) (nU [] []) (pU []) 0 pc),(a.ds,inst 73 a.dsd),(a.dsd,gJ (pr w b) ⟨⟨T⟩⟩ (tU T)),(a.m,bA 148 a.st)],q∈X2 w b (a.wq q1) U++(nM w b (a.wq q1) .data M (oV c) T [] [] pc (aq [])++E):=jc [3,4,5,6,7,8,9] rfl
 have nd7:([a.tk,a.tkd,a.st,a.sd,a.ds,a.dsd,a.m]:List Addr).Nodup:=c8 (sel:=[3,4,5,6,7,8,9]) G.nd1 rfl
 have ndF:(F::[a.tk,a.tkd,a.st,a.sd,a.ds,a.dsd,a.m]:List Addr).Nodup:=Lu (fun z=>FL (by
  rw [List.append_nil]
  exact KP sub z)) nd7
 refine wpAny_mono (gI (R:=fun r' s'=>r'=.ok (.ret (.bool true))∧aH (vs w b 0) (F::[a.tk,a.tkd,a.st,a.sd,a.ds,a.dsd,a.m]) s2 s') ?_) (fun f s' h'=>?_) (fun e s' h=>(by cases h.1))
 ·refine aM (V:=vs w b 0) (P0:=(F,eQ w b sc B I d a.tk ⟨⟨T⟩⟩ p e t J)::[(a.tk,inst 762 a.tkd),(a.tkd,fY (pr w b) a.st a.lf M (oV c) q1),(a.st,inst 166 a.sd),(a.sd,eB (pr w b) a.m a.nl a.ds a.er (XU [] []) (nU [] []) (pU []) 0 pc),(a.ds,inst 73 a.dsd),(a.dsd,gJ (pr w b) ⟨⟨T⟩⟩ (tU T)),(a.m,bA 148 a.st)]) rfl rfl rm f2.top (ag (hF2 _ (.head _)) fun q hq=>at2 q (sub q hq)) (ag h7 fun q hq=>G.hi q (sub q hq)) ndF fun y=>⟨4000,EQ w a.st a.sd a.m a.nl a.ds a.dsd a.er ⟨⟨T⟩⟩ (XU [] []) (XU [] []) (nU [] []) (pU []) 0 pc (tU T) (nU [] []) (pU []) 0 (pc + nU [] []) (tU T) b,?_⟩
  exact bB (sel:=[]) rfl (KM w F sc B I d a.tk a.tkd a.st a.sd a.m a.nl a.ds a.dsd a.er a.lf q1 M ⟨⟨T⟩⟩ (XU [] []) (XU [] []) p e (nU [] []) (pU []) 0 pc (tU T) (nU [] []) (pU []) 0 (pc + nU [] []) (tU T) y _ c J t b) (fun Ok sm mo dn=>sm (j2 (k:=[]) (fun x hx=>by cases hx)) fun u=>dn fun r' s3 hr P=>⟨dI hr,P.far⟩)
 ·have e:=h'.1
  injection e with e
  injection e with e
  rw [e]
  refine wpAny_pure ⟨rfl,fun x o h1 h2=>?_,h'.2.gens.trans f12.gens,h'.2.os.trans f12.os,Nat.le_trans f12.grow h'.2.grow,h'.2.top⟩
  refine h'.2.frame x o (frNot x o h1 (.inr h2.2)) fun z=>?_
  rcases List.mem_cons.mp z with z | z
  ·exact h2.2 z
  ·refine(G.wd x h2.1).1 (List.mem_append_left _ ?_)
   obtain ⟨q,h3,h4⟩:∃q∈[(a.tk,inst 762 a.tkd),(a.tkd,fY (pr w b) a.st a.lf M (oV c) q1),(a.st,inst 166 a.sd),(a.sd,eB (pr w b) a.m a.nl a.ds a.er (XU [] []) (nU [] []) (pU []) 0 pc),(a.ds,inst 73 a.dsd),(a.dsd,gJ (pr w b) ⟨⟨T⟩⟩ (tU T)),(a.m,bA 148 a.st)],q.1=x:=List.mem_map.mp (show x∈List.map Prod.fst _ from z)
   rw [←h4]
   exact List.mem_map_of_mem (sub q h3)
end
theorem aQ {M:Model} {A:Around} {env:Env} {Q:Flow→Shared→Prop} {E:Value→Shared→Prop} (l2:List Stmt) (l1:List Stmt) {s:Shared}
  (h:wpAny M A (execs l1 env) (fun f s'=>(f=.next→wpAny M A (execs l2 env) Q E s')∧(f≠.next→Q f s')) E s):wpAny M A (execs (l1++l2) env) Q E s:=by
 intro G p D
 have z:=h G p D
 clear h
 induction l1 generalizing p s with
 | nil=>
  have z:((Flow.next=.next→wpAny M A (execs l2 env) Q E s)∧_):=z
  exact z.1 rfl G p D
 | cons a l1 H=>
  rw [execs_cons,Sem.wp_bind'] at z
  rw [List.cons_append,execs_cons,Sem.wp_bind']
  refine Sem.wp_mono _ _ _ (fun f I s' h=>?_) (fun _ _ _ h=>h) p s z
  cases f with
  | next=>exact H I h
  | _=>exact(show _∧_ from h).2 (by intro z; cases z)
section
variable {w:World} {b:Bool} {A:Around} {s:Shared} {F sc d u:Addr} {T:List Nat} {p e:Int} {B:Nat} {TT:List Tk} {dl:List Addr} {m:Nat}
noncomputable abbrev It:List Stmt:=[ad aG 5,ad aG 6,ad aG 7,ad aG 8]
theorem vn (rm:au 0 A) (tp:aC (vs w b 0) s.heap) (hF:aJ s.heap [(F,cQ w b sc d u ⟨⟨T⟩⟩ p e B)]) (h7:790≤F) (hb:∀y∈s.gens,y.bare=true) (J:d≠F) (hd:s.heap.get? d=some (ah (aq dl) m)) (td:aK s.heap dl TT)
  (hr:Run .data [] [] T TT) (hk:∀t∈TT,mH t.1) (hl:TT.length≤1000000):
  wpAny (model pg (wb w b)) A (execs It (bz F)) (fun f s'=>f=.ret (.bool true)∧(∀x o,s.heap.get? x=some o→x≠F→s'.heap.get? x=some o)∧(∀y∈s'.gens,y.bare=true)∧s'.os=s.os∧aC (vs w b 0) s'.heap) (fun _ _=>False) s:=by
 delta zz w b A s F sc d u T p e B TT dl m
 refine aQ [ad aG 7,ad aG 8] [ad aG 5,ad aG 6] (wpAny_mono (vj rm tp hF h7) (fun f s6 h=>⟨fun _=>?_,fun n=>absurd h.1 n⟩) fun _ _ h=>h)
 obtain ⟨rfl,a,M,U,P5⟩:=h
 have live:s.heap.get? F≠none:=by
  obtain ⟨o,D,_⟩:=hF _ (.head _)
  rw [show s.heap.get? F=some o from D]; exact fun z=>by cases z
 have gaF:U≠F:=fun z=>(List.nodup_cons.mp P5.nd).1 (by rw [z]; exact .head _)
 have gaN:s.heap.get? U=none:=by
  rcases P5.own' U (.tail _ (.head _)) with q | q
  ·exact absurd (List.mem_singleton.mp q) gaF
  ·exact q
 refine aQ [ad aG 8] [ad aG 7] (wpAny_mono (vm rm hb live P5 hr hk hl) (fun f s8 h=>⟨fun _=>?_,fun n=>absurd h.1 n⟩) fun _ _ h=>h)
 obtain ⟨rfl,s7,Fg,gg,k67,o67,g67,H⟩:=h
 have keep:∀x o,s.heap.get? x=some o→x≠F→s8.heap.get? x=some o:=fun x o D G=>by
  have hW:x∈y5 s U gg:=.inl (by rw [D]; exact fun z=>by cases z)
  have hn:x∉[F,U]:=fun z=>by
   have z:=c9 z
   rcases z with z | z
   ·exact G z
   ·rw [z,gaN] at D; cases D
  exact H.kept x o (k67 x o (P5.frame x o D (by simpa using G)) hn (.inl hW)) (.inl ⟨hW,hn⟩)
 have I:∀y o,s.heap.get? y=some o→o.cls=.type "tuple"→∃o',s8.heap.get? y=some o'∧aI o'=aI o:=fun y o D G=>by
  refine⟨o,keep y o D fun z=>?_,rfl⟩
  obtain ⟨o',q1,q2⟩:=hF _ (.head _)
  have q1:s.heap.get? F=some o':=q1
  rw [←z,D] at q1; cases q1
  exact kN q2 (fun z=>by have z:(Value.type "frame")=.type "tuple":=z; injection z with z; exact absurd z (by decide)) G
 refine wpAny_execs_cons ?_
 refine wpAny_mono (r8 rm h7 (.inl live) (.inr (.inl rfl)) J gaF H (keep _ _ hd J) (td.keeps I)) (fun f s9 h=>?_) fun _ _ h=>h
 obtain ⟨rfl,K⟩:=h
 exact⟨rfl,fun x o D G=>K.kept x o (keep x o D G) ⟨.inl (by rw [D]; exact fun z=>by cases z),G⟩,fun y hy=>H.bare y (by rw [←K.gens]; exact hy),K.os.trans (H.os.trans (o67.trans P5.os)),K.top⟩
end
noncomputable def bJ:List Stmt:=sB (bo 24 none)
noncomputable def bN (F:Addr):Env:=⟨sS (bo 24 none),F,3,[],"_law_comment.<locals>.",some 774,.ref 773,some F,0⟩
noncomputable abbrev iB:Stmt:=ad bJ 5
noncomputable abbrev dw:List Stmt:=sB iB
noncomputable abbrev y7:Stmt:=ad dw 1
noncomputable abbrev eO:Stmt:=ad dw 4
noncomputable abbrev fo:Stmt:=ad (sL eO) 0
noncomputable abbrev b0:List Stmt:=sL fo
noncomputable abbrev fE:Stmt:=ad b0 6
noncomputable abbrev bK:List Stmt:=sB fE
noncomputable def cz (w:World) (b:Bool) (T:Str) (st p:Int) (tl:Addr) (D:Str) (u:Nat) (d a:Int) (z:Str):Obj:=
 bq ([!["text",.str T 0],!["start",.int st 0],!["told",.ref tl],!["data",.str D 0],!["place",.int p 0]]++match u with
  | 0=>[]
  | 1=>[!["dashes",.int d 0]]
  | _=>[!["dashes",.int d 0],!["after",.int a 0],!["sign",.str z 0]])
noncomputable def nx:Nat→Nat
 | 0=>1
 | n=>n
noncomputable def ou:Stmt:=ad (sB eO) 0
noncomputable def eN:List Stmt:=sB (bo 25 none)
noncomputable def ju (F:Addr):Env:=⟨sS (bo 25 none),F,3,[],"_law_bogus.<locals>.",some 779,.ref 778,some F,0⟩
noncomputable abbrev fQ:Stmt:=ad eN 1
noncomputable def iL (w:World) (b:Bool) (T:Str) (st:Int) (e:Int) (d:Bool):Obj:=
 bq ([!["text",.str T 0],!["start",.int st 0]]++match d with
  | false=>[]
  | true=>[!["end",.int e 0]])
noncomputable def fR:Expr:=l6 (xA (l6 (xA (sE (ad eN 2))) 0)) 0
noncomputable def CH (F L:Addr):Env:=⟨xS fR,L,3,[],"_law_bogus.<locals>.",none,.ref 778,some F,0⟩
noncomputable def ov (F L it acc:Addr):Code:=.compStart fR 0 (.ref it) (.ref acc) (CH F L)
noncomputable def ew (F L it acc:Addr):Code:=.compLoop fR 0 (.ref it) (.ref acc) (CH F L)
noncomputable def gu (w:World) (b:Bool) (o:Option Str):Obj:=fI (match o with
 | none=>[]
 | some x=>[!["c",.str x 0]])
@[irreducible] noncomputable def ap:List Stmt:=sB (bo 26 none)
noncomputable def cG (F:Addr):Env:=⟨sS (bo 26 none),F,3,[],"_law_bracket.<locals>.",some 784,.ref 783,some F,0⟩
noncomputable def fS:Expr:=xE (l6 (xA (sE (ad (sB (ad ap 2)) 1))) 0)
noncomputable def CJ (F L:Addr):Env:=⟨xS fS,L,3,[],"_law_bracket.<locals>.",none,.ref 783,some F,0⟩
noncomputable def ow (F L it acc:Addr):Code:=.compStart fS 0 (.ref it) (.ref acc) (CJ F L)
noncomputable def iC (F L it acc:Addr):Code:=.compLoop fS 0 (.ref it) (.ref acc) (CJ F L)
noncomputable def ke (w:World) (b:Bool) (o:Option Str):Obj:=fI (match o with
 | none=>[]
 | some x=>[!["fault",.str x 0]])
noncomputable def y8:List (Str×Value):=[(s!"!",.str ej 0),(s!"?",.str fN 0),(s!"/",.str fO 0)]
noncomputable def gv (q:Addr) (i:Int):Obj:=fld (.type "list_iterator") [.ref q,.int i 0]
noncomputable def cJ (w:World) (b:Bool) (T:Str) (p:Int) (af d:Str) (x:List DictEntry):Obj:=
 bq ([!["text",.str T 0],!["place",.int p 0],!["after",.str af 0],!["last",.str d 0]]++x)
section
variable {prog:Program} {w:World} {A:Around} {s:Shared} {R:Result→Shared→Prop}
theorem mi {x y:Addr} {l1 l2:List Value} {n1 d:Nat} (u:s.heap.get? x=some (ah l1 n1)) (z:s.heap.get? y=some (ah l2 d)) (B:l1.length + l2.length≤sizeLine)
  (h:R (.ok (.ret (.ref s.heap.objs.size))) {s with heap:=s.heap.push (ah (l1++l2) 0)}):codeAny (model prog w) A (.call (.builtin "list.__add__") ⟨[.ref x,.ref y],[]⟩) R s:=by
 refine codeAny_call_builtin F.slot_list_add.plain F.entry_list_add (F.slot_list_add.check _ _ _ _ _ _ _ _ ⟨_,u,rfl⟩ (F.args_list_add_2 _ _) (PySem.AutoSeq1.list___add___list_list_0 x ⟨l1⟩ n1 y ⟨l2⟩ d (by simpa using B) prog w A R s ⟨u,z,?_⟩))
 have e:({cls:=Value.type "list",data:=Data.seq ((⟨l1⟩:Array Value)++⟨l2⟩)}:Obj)=ah (l1++l2) 0:=by simp [ah]
 rw [e]
 exact h
theorem kg {x y:Addr} {l1 l2:List Value} {n1 B:Nat} (d:s.heap.get? x=some (ah l1 n1)) (D:s.heap.get? y=some (ah l2 B)) (G:l1.length + l2.length≤1000000)
  (h:∀u n',u.get? x=some (ah (l1++l2) n')→Heap.SameBut x s.heap u→R (.ok (.ret (.ref x))) {s with heap:=u}):codeAny (model prog w) A (.call (.builtin "list.__iadd__") ⟨[.ref x,.ref y],[]⟩) R s:=by
 have z:(1000000:Nat)≤sizeLine:=by decide
 have H:Builtin.List.listTooLong (l1.length + l2.length)=false:=by
  cases e:Builtin.List.listTooLong (l1.length + l2.length) with
  | false=>rfl
  | true=>exact absurd (by simp [Builtin.List.listTooLong] at e; omega) (Nat.not_lt.mpr G)
 refine codeAny_call_builtin F.slot_list_iadd.plain F.entry_list_iadd (F.slot_list_iadd.check _ _ _ _ _ _ _ _ ⟨_,d,rfl⟩ (F.args_list_iadd_2 _ _) (PySem.AutoSeq1.list___iadd___list_list_0 x ⟨l1⟩ n1 y ⟨l2⟩ B (by simp [H]) (by simp; omega) (by simp; omega) prog w A R s ⟨d,D,?_⟩))
 have I:Heap.SameBut x s.heap (s.heap.update x (Obj.mapSeq fun x=>x++(⟨l2⟩:Array Value))):=Heap.SameBut.update ..
 have e:(s.heap.update x (Obj.mapSeq fun x=>x++(⟨l2⟩:Array Value))).get? x=some (Obj.mapSeq (fun x=>x++(⟨l2⟩:Array Value)) (ah l1 n1)):=Heap.get?_update_self _ d rfl
 obtain ⟨n',J⟩:∃n',Obj.mapSeq (fun x=>x++(⟨l2⟩:Array Value)) (ah l1 n1)=ah (l1++l2) n':=⟨_,by simp [Obj.mapSeq,ah]; rfl⟩
 exact h _ n' (by rw [e,J]) I
theorem foldl_rep {v:Value}:∀(k:Nat) (acc:Array Value),List.foldl (fun d u=>d++u) acc (List.replicate k (⟨[v]⟩:Array Value))=acc++(⟨List.replicate k v⟩:Array Value)
 | 0,acc=>by simp
 | k + 1,acc=>by
  rw [List.replicate_succ,List.foldl_cons,foldl_rep k]
  apply Array.ext'
  simp [List.replicate_succ]
theorem vo {x:Addr} {v:Value} {n1 k:Nat} {i:Int} {u:Tok} (B:s.heap.get? x=some (ah [v] n1)) (hi:i=(k:Int)) (D:k≤1000000)
  (h:R (.ok (.ret (.ref s.heap.objs.size))) {s with heap:=s.heap.push (ah (List.replicate k v) 0)}):codeAny (model prog w) A (.call (.builtin "list.__mul__") ⟨[.ref x,.int i u],[]⟩) R s:=by
 have z:(1000000:Nat)≤sizeLine:=by decide
 have d:i.toNat=k:=by rw [hi]; rfl
 have G:Builtin.List.listTooLong ((⟨[v]⟩:Array Value).size * i.toNat)=false:=by
  rw [d]
  show Builtin.List.listTooLong (1 * k)=false
  cases e:Builtin.List.listTooLong (1 * k) with
  | false=>rfl
  | true=>exact absurd (by simp [Builtin.List.listTooLong] at e; omega) (Nat.not_lt.mpr D)
 have H:¬(!Builtin.List.listFitsIndex i)=true:=by simp [Builtin.List.listFitsIndex]; omega
 have I:∀N:Nat,1000000≤N→¬((⟨[v]⟩:Array Value).size * i.toNat > N):=fun N hN=>by
  rw [d]
  show ¬(1 * k > _)
  omega
 have J:¬Builtin.List.listTooLong ((⟨[v]⟩:Array Value).size * i.toNat)=true:=by
  rw [G]; exact fun z=>by cases z
 have U:=PySem.AutoListH.list___mul___list_int_3 x ⟨[v]⟩ n1 i u H (I _ (by decide)) J
 refine codeAny_call_builtin F.slot_list_mul.plain F.entry_list_mul (F.slot_list_mul.check _ _ _ _ _ _ _ _ ⟨_,B,rfl⟩ (F.args_list_mul_2 _ _) (U prog w A R s ⟨B,?_⟩))
 have e:({cls:=Value.type "list",data:=Data.seq (List.foldl (fun x1 x2=>x1++x2) #[] (List.replicate (if (⟨[v]⟩:Array Value).isEmpty=true then 0 else i.toNat) (⟨[v]⟩:Array Value)))}:Obj)=ah (List.replicate k v) 0:=by
  have:(⟨[v]⟩:Array Value).isEmpty=false:=rfl
  rw [this]
  simp only [Bool.false_eq_true,if_false,d]
  rw [foldl_rep]
  simp [ah]
 rw [e]
 exact h
end
noncomputable def dy (h:Heap) (a:Addr) (L:List Value):Prop:=∃l n,h.get? a=some (ah l n)∧ae l=L
theorem bI {o:Obj} {L:List Value} (h:aI o=aV L):∃l n,o=ah l n∧ae l=L:=by
 obtain ⟨c,d,u,sl⟩:=o
 cases u <;> simp [aI,eR,aV] at h
 rename_i xs n
 obtain ⟨rfl,rfl,z,rfl⟩:=h
 exact⟨xs.toList,n,rfl,z⟩
theorem aB:∀l:List Value,(ae l).length=l.length
 | []=>rfl
 | v::l=>congrArg (·+ 1) (aB l)
theorem oy (k:Nat) (v:Value):ae (List.replicate k v)=List.replicate k (ai v):=by
 induction k with
 | zero=>rfl
 | succ k d=>rw [List.replicate_succ,List.replicate_succ]; show ai v::ae _=_; rw [d]
theorem dy.keep {h d:Heap} {a:Addr} {L:List Value} (t:dy h a L) (k:∀o,h.get? a=some o→d.get? a=some o):dy d a L:=by
 obtain ⟨l,n,u,z⟩:=t
 exact⟨l,n,k _ u,z⟩
section
variable {w:World} {b:Bool} {A:Around} {s:Shared} {n:Nat} {F tl:Addr} {fr B:Obj} {env:Env}
theorem Mk {e:Expr} {v:Bool} {Q:Bool→Shared→Prop} {E:Value→Shared→Prop} (z:Nat.ble (vs w b n).room 440=true) (rm:au n A) (tp:aC (vs w b n) s.heap) (hF:aJ s.heap [(F,fr)]) (h7:790≤F)
  (H:∀R:Result→Shared→Prop,(∀r' s',ba r'=.ok (.ret (.bool v))→aD (vs w b n) s [F] s' [(F,fr)]→R r' s')→∀y,eJ (vs w b n) ⟨pg,wb w b,A,R,s,[F]⟩ .out (fe e env) (fillAll y 0 [(F,fr)]) s.toks)
  (h:∀s',aH (vs w b n) [F] s s'→aJ s'.heap [(F,fr)]→Q v s'):wpAny (model pg (wb w b)) A (isTrue e env (eval e env)) Q E s:=by
 refine wpAny_mono (d8 (R:=fun r' s'=>r'=.ok (.ret (.bool v))∧aH (vs w b n) [F] s s'∧aJ s'.heap [(F,fr)]) ?_) (fun f s' u=>?_) (fun e s' h=>(by cases h.1))
 ·exact aM (V:=vs w b n) rfl z rm tp hF (ak h7) (by simp [keys]) (H _ fun r' s' U P=>⟨dI U,P.far,P.at_⟩)
 ·have e:=u.1
  delta zn
  injection e with e
  injection e with e
  injection e with e
  delta zm
  rw [e]
  exact h s' u.2.1 u.2.2
theorem Iu {l:List Stmt} {Q:Flow→Shared→Prop} {E:Value→Shared→Prop} (z:Nat.ble (vs w b n).room 440=true) (rm:au n A) (tp:aC (vs w b n) s.heap) (hF:aJ s.heap [(F,fr)]) (h7:790≤F)
  (H:∀R:Result→Shared→Prop,(∀r' s',ba r'=.ok .next→aD (vs w b n) s [F] s' [(F,B)]→R r' s')→∀y,eJ (vs w b n) ⟨pg,wb w b,A,R,s,[F]⟩ .out (aO l env) (fillAll y 0 [(F,fr)]) s.toks)
  (h:∀s',aH (vs w b n) [F] s s'→aJ s'.heap [(F,B)]→Q .next s'):wpAny (model pg (wb w b)) A (execs l env) Q E s:=by
 refine wpAny_mono (aP (R:=fun r' s'=>r'=.ok .next∧aH (vs w b n) [F] s s'∧aJ s'.heap [(F,B)]) ?_) (fun f s' u=>?_) (fun e s' h=>(by cases h.1))
 ·exact aM (V:=vs w b n) rfl z rm tp hF (ak h7) (by simp [keys]) (H _ fun r' s' U P=>⟨bm U,P.far,P.at_⟩)
 ·have e:=u.1
  injection e with e
  rw [e]
  exact h s' u.2.1 u.2.2
theorem Iv {l:List Stmt} {L:List Value} {Q:Flow→Shared→Prop} {E:Value→Shared→Prop} (u:Nat.ble (vs w b n).room 440=true) (rm:au n A) (tp:aC (vs w b n) s.heap) (hF:aJ s.heap [(F,fr)]) (h7:790≤F)
  (H:∀R:Result→Shared→Prop,(∀t r' s',ba r'=.ok (.ret (.ref t))→aD (vs w b n) s [F] s' [(F,fr),(t,br L)]→R r' s')→∀y,eJ (vs w b n) ⟨pg,wb w b,A,R,s,[F]⟩ .out (aO l env) (fillAll y 0 [(F,fr)]) s.toks)
  (h:∀t s',aH (vs w b n) [F] s s'→aJ s'.heap [(t,br L)]→790≤t→s.heap.get? t=none→Q (.ret (.ref t)) s'):wpAny (model pg (wb w b)) A (execs l env) Q E s:=by
 refine wpAny_mono (aP (R:=fun r' s'=>∃t,r'=.ok (.ret (.ref t))∧aH (vs w b n) [F] s s'∧aJ s'.heap [(t,br L)]∧790≤t∧s.heap.get? t=none) ?_) (fun f s' U=>?_) (fun e s' h=>(by obtain ⟨t,h,_⟩:=h; cases h))
 ·refine aM (V:=vs w b n) rfl u rm tp hF (ak h7) (by simp [keys]) (H _ fun t r' s' hr P=>⟨t,dX hr,P.far,ak (P.get 1 rfl),P.hi' 1 rfl,?_⟩)
  refine(P.own' t (.tail _ (.head _))).resolve_left fun z=>?_
  have nd:([F,t]:List Addr).Nodup:=P.nd
  simp only [List.nodup_cons,List.mem_cons,List.not_mem_nil,or_false] at nd
  exact nd.1 (List.mem_singleton.mp z).symm
 ·obtain ⟨t,e,h1,h2,h3,u⟩:=U
  injection e with e
  rw [e]
  exact h t s' h1 h2 h3 u
theorem Iw {l:List Stmt} {gr:Addr→Obj} {o:Obj} {Q:Flow→Shared→Prop} {E:Value→Shared→Prop} (u:Nat.ble (vs w b n).room 440=true) (rm:au n A) (tp:aC (vs w b n) s.heap) (hF:aJ s.heap [(F,fr)]) (h7:790≤F)
  (H:∀R:Result→Shared→Prop,(∀t r' s',ba r'=.ok .next→aD (vs w b n) s [F] s' [(F,gr t),(t,o)]→R r' s')→∀y,eJ (vs w b n) ⟨pg,wb w b,A,R,s,[F]⟩ .out (aO l env) (fillAll y 0 [(F,fr)]) s.toks)
  (h:∀t s',aH (vs w b n) [F] s s'→aJ s'.heap [(F,gr t)]→aJ s'.heap [(t,o)]→790≤t→s.heap.get? t=none→t≠F→Q .next s'):wpAny (model pg (wb w b)) A (execs l env) Q E s:=by
 refine wpAny_mono (aP (R:=fun r' s'=>r'=.ok .next∧∃t,aH (vs w b n) [F] s s'∧aJ s'.heap [(F,gr t)]∧aJ s'.heap [(t,o)]∧790≤t∧s.heap.get? t=none∧t≠F) ?_) (fun f s' U=>?_) (fun e s' h=>(by cases h.1))
 ·refine aM (V:=vs w b n) rfl u rm tp hF (ak h7) (by simp [keys]) (H _ fun t r' s' hr P=>⟨bm hr,t,P.far,ak (P.get 0 rfl),ak (P.get 1 rfl),P.hi' 1 rfl,?_⟩)
  have nd:([F,t]:List Addr).Nodup:=P.nd
  simp only [List.nodup_cons,List.mem_cons,List.not_mem_nil,or_false] at nd
  have nd:=nd
  exact⟨(P.own' t (.tail _ (.head _))).resolve_left fun z=>nd.1 (List.mem_singleton.mp z).symm,fun z=>nd.1 z.symm⟩
 ·obtain ⟨e,t,h1,h2,h3,u,h5,h6⟩:=U
  injection e with e
  rw [e]
  exact h t s' h1 h2 h3 u h5 h6
theorem EX {l:List Stmt} {L:Addr→List Value} {o:Obj} {Q:Flow→Shared→Prop} {E:Value→Shared→Prop} (u:Nat.ble (vs w b n).room 440=true) (rm:au n A) (tp:aC (vs w b n) s.heap) (hF:aJ s.heap [(F,fr)]) (h7:790≤F)
  (H:∀R:Result→Shared→Prop,(∀t q r' s',ba r'=.ok (.ret (.ref t))→aD (vs w b n) s [F] s' [(F,fr),(t,br (L q)),(q,o)]→R r' s')→∀y,eJ (vs w b n) ⟨pg,wb w b,A,R,s,[F]⟩ .out (aO l env) (fillAll y 0 [(F,fr)]) s.toks)
  (h:∀t q s',aH (vs w b n) [F] s s'→aJ s'.heap [(t,br (L q))]→aJ s'.heap [(q,o)]→790≤t→790≤q→s.heap.get? t=none→s.heap.get? q=none→t≠q→Q (.ret (.ref t)) s'):wpAny (model pg (wb w b)) A (execs l env) Q E s:=by
 refine wpAny_mono (aP (R:=fun r' s'=>∃t q,r'=.ok (.ret (.ref t))∧aH (vs w b n) [F] s s'∧aJ s'.heap [(t,br (L q))]∧aJ s'.heap [(q,o)]∧790≤t∧790≤q∧s.heap.get? t=none∧s.heap.get? q=none∧t≠q) ?_) (fun f s' U=>?_) (fun e s' h=>(by obtain ⟨t,q,h,_⟩:=h; cases h))
 ·refine aM (V:=vs w b n) rfl u rm tp hF (ak h7) (by simp [keys]) (H _ fun t q r' s' hr P=>⟨t,q,dX hr,P.far,ak (P.get 1 rfl),ak (P.get 2 rfl),P.hi' 1 rfl,P.hi' 2 rfl,?_⟩)
  have nd:([F,t,q]:List Addr).Nodup:=P.nd
  have nd:=LR nd
  exact⟨(P.own' t (.tail _ (.head _))).resolve_left fun z=>nd.1.1 (List.mem_singleton.mp z).symm,(P.own' q (.tail _ (.tail _ (.head _)))).resolve_left fun z=>nd.1.2 (List.mem_singleton.mp z).symm,nd.2.1⟩
 ·obtain ⟨t,q,e,h1,h2,h3,u,h5,h6,h7,h8⟩:=U
  injection e with e
  rw [e]
  exact h t q s' h1 h2 h3 u h5 h6 h7 h8
end
structure Hf (w:World) (b:Bool) (n:Nat) (A:Around) (s:Shared) (F:Addr) (fr:Obj):Prop where
 rm:au n A
 tp:aC (vs w b n) s.heap
 at_:aJ s.heap [(F,fr)]
 h7:790≤F
noncomputable def Hl (w:World) (b:Bool) (n:Nat) (t:Sem PySem.Fin) (orc:List an) (P0:List aw) (sel:List Nat) (y:Nat→Nat→Tok) (tb:Nat):az:=(aN (vs w b n) 4000 .out t orc (fillAll y 0 P0) tb 0 []).norm sel
noncomputable def Ix (lhs:(Nat→Nat→Tok)→Nat→az) (u:az→Prop) (Fin:Prop):Prop:=∀{N:az},u N→(∀y tb,lhs y tb=N)→Fin
section
variable {w:World} {b:Bool} {A:Around} {s:Shared} {n:Nat} {F:Addr} {fr:Obj}
theorem Iy {X:Cx} {t:Sem PySem.Fin} {orc:List an} {P0:List aw} {sel:List Nat} {V:Vs} (u:V=vs w b n) (hs:bO sel=true) (k:∃N,bG V X N∧∀y tb,Hl w b n t orc P0 sel y tb=N) {tb:Nat} (y:Nat→Nat→Tok):eJ V X .out t (fillAll y 0 P0) tb:=by
 obtain ⟨N,hN,h⟩:=k
 subst u
 exact⟨4000,orc,bG.of hs (by rw [show(aN (vs w b n) 4000 .out t orc (fillAll y 0 P0) tb 0 []).norm sel=N from h y tb]; exact hN)⟩
noncomputable def ck (i:Hf w b n A s F fr) (e:Expr) (env:Env) (v:Bool):Prop:=∀⦃Q:Bool→Shared→Prop⦄ ⦃E:Value→Shared→Prop⦄,(∀s',aH (vs w b n) [F] s s'→aJ s'.heap [(F,fr)]→Q v s')→wpAny (model pg (wb w b)) A (isTrue e env (eval e env)) Q E s
noncomputable def d6 (i:Hf w b n A s F fr) (l:List Stmt) (env:Env) (B:Obj):Prop:=∀⦃Q:Flow→Shared→Prop⦄ ⦃E:Value→Shared→Prop⦄,(∀s',aH (vs w b n) [F] s s'→aJ s'.heap [(F,B)]→Q .next s')→wpAny (model pg (wb w b)) A (execs l env) Q E s
noncomputable def EY (i:Hf w b n A s F fr) (l:List Stmt) (env:Env) (L:List Value):Prop:=∀⦃Q:Flow→Shared→Prop⦄ ⦃E:Value→Shared→Prop⦄,(∀t s',aH (vs w b n) [F] s s'→aJ s'.heap [(t,br L)]→790≤t→s.heap.get? t=none→Q (.ret (.ref t)) s')→wpAny (model pg (wb w b)) A (execs l env) Q E s
noncomputable def EZ (i:Hf w b n A s F fr) (l:List Stmt) (env:Env) (gr:Addr→Obj) (o:Obj):Prop:=∀⦃Q:Flow→Shared→Prop⦄ ⦃E:Value→Shared→Prop⦄,(∀t s',aH (vs w b n) [F] s s'→aJ s'.heap [(F,gr t)]→aJ s'.heap [(t,o)]→790≤t→s.heap.get? t=none→t≠F→Q .next s')→wpAny (model pg (wb w b)) A (execs l env) Q E s
noncomputable def vp (i:Hf w b n A s F fr) (l:List Stmt) (env:Env) (L:Addr→List Value) (o:Obj):Prop:=∀⦃Q:Flow→Shared→Prop⦄ ⦃E:Value→Shared→Prop⦄,(∀t q s',aH (vs w b n) [F] s s'→aJ s'.heap [(t,br (L q))]→aJ s'.heap [(q,o)]→790≤t→790≤q→s.heap.get? t=none→s.heap.get? q=none→t≠q→Q (.ret (.ref t)) s')→wpAny (model pg (wb w b)) A (execs l env) Q E s
theorem ct {i:Hf w b n A s F fr} {e:Expr} {v:Bool} {env:Env} (sel:List Nat) (orc:List an)
  (k:∀(u:az→Prop) (Fin:Prop),Cy (vs w b n) pg (wb w b) u→Cz u→(∀ks,u (.done (bc ks orc []) (.ok (.ret (.bool v))) [(F,fr)]))→Ix (Hl w b n (fe e env) orc [(F,fr)] sel) u Fin→Fin) (hs:bO sel=true:=by rfl) (z:Nat.ble n 440=true:=by rfl):ck i e env v:=fun Q E h=>by
 refine Mk (n:=n) z i.rm i.tp i.at_ i.h7 (fun R kk=>Iy (orc:=orc) rfl hs ?_) h
 refine k _ _ ?_ ?_ ?_ (fun hN h=>⟨_,hN,h⟩)
 ·exact fun H U=>⟨H,fun y _=>U y⟩
 ·exact fun h=>h
 ·exact fun ks=>⟨bP ks orc [] fun _ h=>(by cases h),kk⟩
theorem runC {i:Hf w b n A s F fr} {l:List Stmt} {B:Obj} {env:Env} (sel:List Nat) (orc:List an)
  (k:∀(u:az→Prop) (Fin:Prop),Cy (vs w b n) pg (wb w b) u→Cz u→(∀ks,u (.done (bc ks orc []) (.ok .next) [(F,B)]))→Ix (Hl w b n (aO l env) orc [(F,fr)] sel) u Fin→Fin) (hs:bO sel=true:=by rfl) (z:Nat.ble n 440=true:=by rfl):d6 i l env B:=fun Q E h=>by
 refine Iu (n:=n) z i.rm i.tp i.at_ i.h7 (fun R kk=>Iy (orc:=orc) rfl hs ?_) h
 refine k _ _ ?_ ?_ ?_ (fun hN h=>⟨_,hN,h⟩)
 ·exact fun H U=>⟨H,fun y _=>U y⟩
 ·exact fun h=>h
 ·exact fun ks=>⟨bP ks orc [] fun _ h=>(by cases h),kk⟩
theorem Iz {i:Hf w b n A s F fr} {l:List Stmt} {L:List Value} {env:Env} (sel:List Nat) (orc:List an)
  (k:∀(u:az→Prop) (Fin:Prop),Cy (vs w b n) pg (wb w b) u→Cz u→(∀t ks,u (.done (bc ks orc []) (.ok (.ret (.ref t))) [(F,fr),(t,br L)]))→Ix (Hl w b n (aO l env) orc [(F,fr)] sel) u Fin→Fin) (hs:bO sel=true:=by rfl) (z:Nat.ble n 440=true:=by rfl):EY i l env L:=fun Q E h=>by
 refine Iv (n:=n) z i.rm i.tp i.at_ i.h7 (fun R kk=>Iy (orc:=orc) rfl hs ?_) h
 refine k _ _ ?_ ?_ ?_ (fun hN h=>⟨_,hN,h⟩)
 ·exact fun H U=>⟨H,fun y _=>U y⟩
 ·exact fun h=>h
 ·exact fun t ks=>⟨bP ks orc [] fun _ h=>(by cases h),kk t⟩
theorem IA {i:Hf w b n A s F fr} {l:List Stmt} {gr:Addr→Obj} {o:Obj} {env:Env} (sel:List Nat) (orc:List an)
  (k:∀(u:az→Prop) (Fin:Prop),Cy (vs w b n) pg (wb w b) u→Cz u→(∀t ks,u (.done (bc ks orc []) (.ok .next) [(F,gr t),(t,o)]))→Ix (Hl w b n (aO l env) orc [(F,fr)] sel) u Fin→Fin) (hs:bO sel=true:=by rfl) (z:Nat.ble n 440=true:=by rfl):EZ i l env gr o:=fun Q E h=>by
 refine Iw (n:=n) (gr:=gr) (o:=o) z i.rm i.tp i.at_ i.h7 (fun R kk=>Iy (orc:=orc) rfl hs ?_) h
 refine k _ _ ?_ ?_ ?_ (fun hN h=>⟨_,hN,h⟩)
 ·exact fun H U=>⟨H,fun y _=>U y⟩
 ·exact fun h=>h
 ·exact fun t ks=>⟨bP ks orc [] fun _ h=>(by cases h),kk t⟩
theorem CK {i:Hf w b n A s F fr} {l:List Stmt} {L:Addr→List Value} {o:Obj} {env:Env} (sel:List Nat) (orc:List an)
  (k:∀(u:az→Prop) (Fin:Prop),Cy (vs w b n) pg (wb w b) u→Cz u→(∀t q ks,u (.done (bc ks orc []) (.ok (.ret (.ref t))) [(F,fr),(t,br (L q)),(q,o)]))→Ix (Hl w b n (aO l env) orc [(F,fr)] sel) u Fin→Fin) (hs:bO sel=true:=by rfl) (z:Nat.ble n 440=true:=by rfl):vp i l env L o:=fun Q E h=>by
 refine EX (n:=n) (L:=L) (o:=o) z i.rm i.tp i.at_ i.h7 (fun R kk=>Iy (orc:=orc) rfl hs ?_) h
 refine k _ _ ?_ ?_ ?_ (fun hN h=>⟨_,hN,h⟩)
 ·exact fun H U=>⟨H,fun y _=>U y⟩
 ·exact fun h=>h
 ·exact fun t q ks=>⟨bP ks orc [] fun _ h=>(by cases h),kk t q⟩
end
section
variable {w:World} {b:Bool} {s d:Shared} {n:Nat} {F tl:Addr} {fr:Obj} {prog:Program} {I:World} {J:Around} {D:Code} {l:List Value} {c:Str} {G:Result→List aw→List aw→Shared→Prop}
theorem IB (hc:ao D=.call (.builtin "list.append") ⟨[.ref tl,.str c 0],[]⟩) (P:aD (vs w b n) s [F,tl] d [(F,fr),(tl,aV (ae l))]) (hl:l.length≤1000000)
  (k:∀l1 U s2,ae l1=ae l++[.str c 0]→aH (vs w b n) [F,tl] s s2→G (.ok (.ret .none)) [(F,fr)] [(tl,ah l1 U)] s2):
  codeAny (model prog I) J D (mV (vs w b n) G) d:=by
 delta zz w b s d n F tl fr prog I J D l c G
 delta zn
 obtain ⟨pos,rfl,hp⟩:=av hc
 obtain ⟨v,u,rfl,h1,h2⟩:=eA hp
 cases bb h1
 obtain ⟨t,rfl⟩:=aL h2
 obtain ⟨o,g1,g2⟩:=P.get 1 rfl
 obtain ⟨l',en,rfl,el⟩:=bI g2
 delta zm
 have ln:l'.length=l.length:=by rw [←aB l',el,aB]
 have z:(1000000:Nat)≤sizeLine:=by decide
 have h7:=P.hi' 1 rfl
 have nd:([F,tl]:List Addr).Nodup:=P.nd
 refine gL g1 (by omega) fun h' n' q1 H=>⟨.ok (.ret .none),[(F,fr)],[(tl,ah (l'++[.str c t]) n')],rfl,?_,ak q1,P.top.same H h7,ag (P.hi' 0 rfl) (ak h7),nd,k _ _ _ ?_ ?_⟩
 ·refine ak ?_
  delta zn
  obtain ⟨o,q3,q4⟩:=P.get 0 rfl
  delta zm
  refine⟨o,(H.2 F fun z=>?_).trans q3,q4⟩
  rw [z] at nd
  exact(List.nodup_cons.mp nd).1 (.head _)
 ·rw [bM,el]; rfl
 ·exact P.far.trans (K':=[tl]) ⟨fun x o e hx=>(H.2 x (by simpa using hx)).trans e,rfl,rfl,by show _≤h'.objs.size; rw [H.1]; exact Nat.le_refl _,P.top.same H h7⟩ fun x hx=>.inl (by cases List.mem_singleton.mp hx; simp)
theorem gP {V:Vs} {K:List Addr} {s d:Shared} (f:aH V K s d) (o:Obj):aH V K s {d with heap:=d.heap.push o}:=f.push o _ d.toks rfl
theorem E0 {b1:Addr} (hc:ao D=.call (.builtin "list.__add__") ⟨[.ref tl,.ref b1],[]⟩) (P:aD (vs w b n) s [F,tl] d [(F,fr),(tl,aV (ae l)),(b1,aV [.str c 0])]) (hl:l.length≤1000000)
  (k:∀na l1 en1 s2,ae l1=ae l++[.str c 0]→s.heap.get? na=none→s2.heap.get? tl≠none→aH (vs w b n) [F,tl] s s2→G (.ok (.ret (.ref na))) [(F,fr)] [(na,ah l1 en1)] s2):
  codeAny (model prog I) J D (mV (vs w b n) G) d:=by
 delta zz w b s d n F tl fr prog I J D l c G b1
 delta zn
 obtain ⟨pos,rfl,hp⟩:=av hc
 obtain ⟨v,u,rfl,h1,h2⟩:=eA hp
 cases bb h1
 cases bb h2
 obtain ⟨o,g1,g2⟩:=P.get 1 rfl
 obtain ⟨H,en,rfl,el⟩:=bI g2
 obtain ⟨o2,g3,g4⟩:=P.get 2 rfl
 obtain ⟨l2,en2,rfl,U⟩:=bI g4
 have ln:H.length=l.length:=by rw [←aB H,el,aB]
 have ln2:l2.length=1:=by rw [←aB l2,U]; rfl
 have z:(1000001:Nat)≤sizeLine:=by decide
 obtain ⟨o3,g5,g6⟩:=P.get 0 rfl
 delta zm
 refine mi g1 g3 (by omega) ⟨_,[(F,fr)],[(d.heap.objs.size,ah (H++l2) 0)],rfl,?_,ak (Heap.get?_push_size _ rfl),P.top.push _,ag (P.hi' 0 rfl) (ak P.top.2),?_,k _ _ _ _ ?_ ?_ (by rw [show({d with heap:=d.heap.push (ah (H++l2) 0)}:Shared).heap.get? tl=some (ah H en) from Heap.get?_push_of_some _ g1]; exact fun z=>by cases z) (gP P.far _)⟩
 ·exact ak ⟨o3,Heap.get?_push_of_some _ g5,g6⟩
 ·show([F,d.heap.objs.size]:List Addr).Nodup
  refine lC ?_
  exact fun z=>Nat.lt_irrefl _ (z▸Heap.lt_size g5)
 ·rw [bM,el,U]
 ·exact Heap.get?_none_of_le P.grow
theorem IC {b1:Addr} {U:Int} {H:Nat} (hc:ao D=.call (.builtin "list.__mul__") ⟨[.ref b1,.int U 0],[]⟩) (P:aD (vs w b n) s [F,tl] d [(F,fr),(tl,aV (ae l)),(b1,aV [.str c 0])]) (hd:U=(H:Int)) (hk:H≤1000000)
  (k:∀na l1 en1 l3 en3 s2,ae l1=List.replicate H (.str c 0)→ae l3=ae l→s.heap.get? na=none→aH (vs w b n) [F,tl] s s2→G (.ok (.ret (.ref na))) [(F,fr)] [(na,ah l1 en1),(tl,ah l3 en3)] s2):
  codeAny (model prog I) J D (mV (vs w b n) G) d:=by
 delta zz w b s d n F tl fr prog I J D l c G b1 U H
 delta zn
 obtain ⟨pos,rfl,hp⟩:=av hc
 obtain ⟨v,u,rfl,h1,h2⟩:=eA hp
 cases bb h1
 obtain ⟨t,rfl⟩:=aW h2
 obtain ⟨o,g1,g2⟩:=P.get 1 rfl
 obtain ⟨l',en,rfl,el⟩:=bI g2
 obtain ⟨o2,g3,g4⟩:=P.get 2 rfl
 obtain ⟨l2,en2,rfl,el2⟩:=bI g4
 obtain ⟨v2,rfl,ev2⟩:=mN el2
 obtain ⟨o3,g5,g6⟩:=P.get 0 rfl
 delta zm
 have nd:([F,tl,b1]:List Addr).Nodup:=P.nd
 refine vo g3 hd hk ⟨_,[(F,fr)],[(d.heap.objs.size,ah (List.replicate H v2) 0),(tl,ah l' en)],rfl,?_,ag (Heap.get?_push_size _ rfl) (ak (Heap.get?_push_of_some _ g1)),P.top.push _,ag (P.hi' 0 rfl) (ag P.top.2 (ak (P.hi' 1 rfl))),?_,k _ _ _ _ _ _ ?_ el ?_ (gP P.far _)⟩
 ·exact ak ⟨o3,Heap.get?_push_of_some _ g5,g6⟩
 ·show([F,d.heap.objs.size,tl]:List Addr).Nodup
  simp only [List.nodup_cons,List.mem_cons,List.not_mem_nil,or_false,not_false_eq_true,List.nodup_nil,and_true,not_or] at nd ⊢
  exact⟨⟨fun z=>Nat.lt_irrefl _ (z▸Heap.lt_size g5),nd.1.1⟩,fun z=>Nat.lt_irrefl _ (z▸Heap.lt_size g1)⟩
 ·rw [oy,ev2]
 ·exact Heap.get?_none_of_le P.grow
theorem E1 {na:Addr} {l1:List Value} (hc:ao D=.call (.builtin "list.__iadd__") ⟨[.ref tl,.ref na],[]⟩) (P:aD (vs w b n) s [F,na,tl] d [(F,fr),(na,aV (ae l1)),(tl,aV (ae l))]) (hl:l.length + l1.length≤1000000)
  (k:∀l2 H s2,ae l2=ae l++ae l1→aH (vs w b n) [F,na,tl] s s2→G (.ok (.ret (.ref tl))) [(F,fr)] [(tl,ah l2 H)] s2):
  codeAny (model prog I) J D (mV (vs w b n) G) d:=by
 delta zz w b s d n F tl fr prog I J D l G na l1
 delta zn
 obtain ⟨pos,rfl,hp⟩:=av hc
 obtain ⟨v,u,rfl,h1,h2⟩:=eA hp
 cases bb h1
 cases bb h2
 obtain ⟨o,g1,g2⟩:=P.get 1 rfl
 obtain ⟨l',en,rfl,el⟩:=bI g2
 obtain ⟨o2,g3,g4⟩:=P.get 2 rfl
 obtain ⟨l2,H,rfl,U⟩:=bI g4
 delta zm
 have ln:l'.length=l1.length:=by rw [←aB l',el,aB]
 have ln2:l2.length=l.length:=by rw [←aB l2,U,aB]
 have h7:=P.hi' 2 rfl
 have nd:([F,na,tl]:List Addr).Nodup:=P.nd
 refine kg g3 g1 (by omega) fun h' n' q1 q2=>⟨_,[(F,fr)],[(tl,ah (l2++l') n')],rfl,?_,ak q1,P.top.same q2 h7,ag (P.hi' 0 rfl) (ak h7),?_,k _ _ _ ?_ ?_⟩
 ·refine ak ?_
  delta zn
  obtain ⟨o,q3,q4⟩:=P.get 0 rfl
  delta zm
  refine⟨o,(q2.2 F fun z=>?_).trans q3,q4⟩
  rw [z] at nd
  exact(List.nodup_cons.mp nd).1 (.tail _ (.head _))
 ·show([F,tl]:List Addr).Nodup
  simp only [List.nodup_cons,List.mem_cons,List.not_mem_nil,or_false,not_false_eq_true,List.nodup_nil,and_true,not_or] at nd ⊢
  exact nd.1.2
 ·rw [bM,el,U]
 ·exact P.far.trans (K':=[tl]) ⟨fun x o e hx=>(q2.2 x (by simpa using hx)).trans e,rfl,rfl,by show _≤h'.objs.size; rw [q2.1]; exact Nat.le_refl _,P.top.same q2 h7⟩ fun x hx=>.inl (by cases List.mem_singleton.mp hx; simp)
end
section
variable {V:Vs} {prog:Program} {w:World}
theorem jv {c:Nat}:∀(k:Nat) (acc:Array Nat),List.foldl (fun d u=>d++u) acc (List.replicate k (⟨[c]⟩:Array Nat))=acc++(⟨List.replicate k c⟩:Array Nat)
 | 0,acc=>by simp
 | k + 1,acc=>by
  rw [List.replicate_succ,List.foldl_cons,jv k]
  apply Array.ext'
  simp [List.replicate_succ]
theorem y9 (c:Nat) (n:Int) (k:Nat) (r:Str) (G:n=(k:Int)) (hk:k≤1000000) (H:(⟨⟨List.replicate k c⟩⟩:Str)=r):aj V prog w (bi "str.__mul__" [.str ⟨⟨[c]⟩⟩ 0,.int n 0] (.str r 0)) []:=
 aZ F.slot_str_mul F.entry_str_mul fun pos hp=>by
  obtain ⟨u,v,rfl,e1,I⟩:=eA hp
  obtain ⟨t,rfl⟩:=aL e1
  obtain ⟨t',rfl⟩:=aW I
  have z:(1000000:Nat)≤sizeLine:=by decide
  subst G
  have D:(k:Int).toNat=k:=rfl
  have J:(decide ((k:Int) < -(2 ^ 63:Int)) || decide ((k:Int)≥2 ^ 63))=false:=by rw [decide_eq_false (Int.not_lt.mpr (Int.le_trans (by decide) (Int.natCast_nonneg k))),show decide ((k:Int)≥2 ^ 63)=false from decide_eq_false (Int.not_le.mpr (Int.ofNat_lt.mpr (show k < 2 ^ 63 from Nat.lt_of_le_of_lt hk (by decide))))]; rfl
  have U:∀N:Int,1000000≤N→¬(k:Int) < 1→¬((1:Int) > N / (k:Int)):=fun N hN h=>Int.not_lt.mpr ((Int.le_ediv_iff_mul_le (Int.not_lt.mp h)).mpr (by rw [Int.one_mul]; exact Int.le_trans (Int.ofNat_le.mpr hk) hN))
  have c2:Builtin.Str.tooLong (1 * (k:Int).toNat)=false:=by
   rw [D]
   cases e:Builtin.Str.tooLong (1 * k) with
   | false=>rfl
   | true=>exact absurd (by simp [Builtin.Str.tooLong] at e; omega) (Nat.not_lt.mpr hk)
  refine⟨_,_,_,rfl,cD _ t,F.args_str_mul_2 _ _,gives_str_mul _ _ _ _ J (fun h _=>U _ (by decide) h) (fun _ _=>c2),?_⟩
  subst H
  split
  ·rename_i h
   have:k=0:=Nat.lt_one_iff.mp (Int.ofNat_lt.mp h)
   subst this
   exact⟨rfl,Nat.zero_le _⟩
  ·split
   ·rename_i h
    have:k=1:=Int.ofNat.inj (eq_of_beq ((Bool.or_false _).symm.trans h))
    subst this
    rfl
   ·rw [D]
    have e:(⟨List.foldl (fun d B=>d++B) #[] (List.replicate k (⟨[c]⟩:Array Nat))⟩:Str)=⟨⟨List.replicate k c⟩⟩:=by
     rw [jv]; simp
    refine⟨congrArg (fun x=>Value.str x 0) e.symm,?_⟩
    show Str.length (⟨List.foldl (fun d B=>d++B) #[] (List.replicate k (⟨[c]⟩:Array Nat))⟩:Str)≤sizeLine
    rw [e]
    show(List.replicate k c).length≤sizeLine
    rw [List.length_replicate]; exact Nat.le_trans hk z
end
noncomputable def oq {d:Type} (q:Bool) (x:d):Option d:=match q with
 | true=>some x
 | false=>none
theorem vq {u d:Type} [h:Nonempty d] {l:List u} {o:Option d} (z:l=[]→o=none) (B:l≠[]→∃x,o=some x):∃x,o=oq (!l.isEmpty) x:=by
 cases l with
 | nil=>exact h.elim fun x=>⟨x,z rfl⟩
 | cons _ _=>exact B (List.cons_ne_nil _ _)
theorem gf {P:Bool→Bool→Prop} (h0:P false false) (d:P false true) (u:P true false) (z:P true true):∀a c,P a c
 | false,c=>bh h0 d c
 | true,c=>bh u z c
theorem zc {P:Bool→Bool→Bool→Prop} (h0:P false false false) (u:P false false true) (z:P false true false) (B:P false true true) (D:P true false false) (G:P true false true) (H:P true true false) (h7:P true true true):∀a c d,P a c d
 | false,c,d=>gf h0 u z B c d
 | true,c,d=>gf D G H h7 c d
noncomputable section
variable (w:World) (T:Str) (p n:Int) (r:Bool) (F tl:Addr) (D u:Str) (st d a:Int) (y:Nat→Nat→Tok) (tb:Nat) (R:Str) (p1 a1 H:Int) (l l1:List Value) (B I:Nat) (t0:Tok) (y0:Nat→Nat→Tok) (tb0:Nat) (D1:Str) (na:Addr) (u0_1:Nat→Nat→Tok) (b1:Addr) (l2 l3:List Value) (en2 en3:Nat) (J:Nat→Nat→Tok) (t1:Tok) (y1:Nat→Nat→Tok) (tb1:Nat) (b2:Addr) (sh:Nat) (b:Bool)
noncomputable def E2:List an:=oh [fun ks=>cI T n,fun ks=>sH p n r] 0x1069f068f4004
noncomputable def E3:List an:=oh [] 0x144
noncomputable def E4:List an:=oh [fun ks=>aY p d a1,fun ks=>aY a1 1 p1,fun ks=>bs (dL ks 1) 1 T (.int a1 0) (.int p1 0) R,fun ks=>bS R s!"-" r] 0x106bf06af069f068f44068f444
noncomputable def E5:List an:=oh [fun ks=>aY d 1 H] 0x144068f4
noncomputable def E6:List an:=oh [fun ks=>aY p d a1,fun ks=>aY a1 1 p1,fun ks=>bs (dL ks 1) 1 T (.int a1 0) (.int p1 0) R] 0x14406af069f44444068f44
noncomputable def E7:List an:=oh [fun ks=>fg d 0 r] 0x1068f4
noncomputable def zd:List an:=oh [fun ks=>bS u ⟨⟨[0]⟩⟩ r] 0x1068f4
noncomputable def ze:List an:=oh [fun ks=>bS u ⟨⟨[0]⟩⟩ true,fun ks=>db D ⟨⟨[65533]⟩⟩ D1,fun ks=>aY p 1 p1] 0x14406af444069f068f44
noncomputable def zf:List an:=oh [fun ks=>bS u ⟨⟨[0]⟩⟩ false,fun ks=>db D u D1,fun ks=>aY p 1 p1] 0x14406af444069f4068f44
noncomputable def E8:List an:=oh [fun ks=>fg d 1 r] 0x1068f4
noncomputable def zg:List an:=oh [fun ks=>bS u ⟨⟨[]⟩⟩ r] 0x1068f4
noncomputable def E9:List an:=oh [fun ks=>db D s!"-" D1] 0x144444068f4
noncomputable def vr:List an:=oh [fun ks=>lJ d 2 H] 0x1445e0f5665e0f666068f44
noncomputable def vt:List an:=oh [fun ks=>lJ d 2 H] 0x1666068f44
noncomputable def oz:az:=aN (vs w b 100) 4000 .out (aO [ad b0 0] (bN F)) (vr d H) (fillAll y 0 [(F,(cz w b T st p tl D 2 d a u))]++[(tl,ah l B)]) tb 0 []
abbrev vv:Prop:=(oz w T p F tl D u st d a y tb H l B b).norm [0,1,2]=.more fun b1=>.sum (lJ d 2 H) [] fun J=>.call 500 (bc [F,tl,b1] (vt d H) []) (.call (.builtin "list.__mul__") ⟨[.ref b1,.int H 0],[]⟩) [(F,(cz w b T st p tl D 2 d a u)),(tl,aV (ae l)),(b1,aV [(.str s!"unexpected-dash-after-double-dash-in-comment" 0)])] fun _ _ _=>.failW ""
theorem vw:vv w T p F tl D u st d a y tb H l B b:=by delta za bh
noncomputable def vx:List an:=oh [fun ks=>lJ d 2 H] 0x1566
abbrev vy:Prop:=((((oz w T p F tl D u st d a y tb H l B b).nm b1).ns J).nc (aA t0 (.ok (.ret (.ref na)))) (fillAll y0 0 [(F,(cz w b T st p tl D 2 d a u))]++[(na,ah l1 I),(tl,ah l3 en3)]) tb0).norm [0,1,2]=.call 500 (bc [F,na,tl] (vx d H) []) (.call (.builtin "list.__iadd__") ⟨[.ref tl,.ref na],[]⟩) [(F,(cz w b T st p tl D 2 d a u)),(na,aV (ae l1)),(tl,aV (ae l3))] fun _ _ _=>.failW ""
theorem vz:vy w T p F tl D u st d a y tb H l l1 B I t0 y0 tb0 na b1 l3 en3 J b:=by delta za bh
noncomputable def vA:List an:=oh [fun ks=>lJ d 2 H] 0x144
abbrev vB:Prop:=(((((oz w T p F tl D u st d a y tb H l B b).nm b1).ns J).nc (aA t0 (.ok (.ret (.ref na)))) (fillAll y0 0 [(F,(cz w b T st p tl D 2 d a u))]++[(na,ah l1 I),(tl,ah l3 en3)]) tb0).nc (aA t1 (.ok (.ret (.ref tl)))) (fillAll y1 0 [(F,(cz w b T st p tl D 2 d a u))]++[(tl,ah l2 en2)]) tb1).norm [0,1]=.done (bc [F,tl] (vA d H) []) (.ok .next) [(F,(cz w b T st p tl D 2 d a u)),(tl,aV (ae l2))]
theorem vC:vB w T p F tl D u st d a y tb H l l1 B I t0 y0 tb0 na b1 l2 l3 en2 en3 J t1 y1 tb1 b:=by delta za bh
noncomputable def E':List an:=oh [fun ks=>lJ d 2 H,fun ks=>bi "str.__mul__" [.str s!"-" 0,.int H 0] (.str R 0),fun ks=>db D R D1] 0x14406af069f3068f44
noncomputable def Fa:List an:=oh [fun ks=>bS u s!">" r] 0x1068f4
noncomputable def Fb:List an:=oh [fun ks=>aY a 1 p1] 0x1068f444
noncomputable def Fc:List an:=oh [fun ks=>bS u ⟨⟨[]⟩⟩ r] 0x1068f4
noncomputable def Fd:List an:=oh [fun ks=>db D s!"--" D1] 0x144444068f4
noncomputable def Fe:List an:=oh [fun ks=>bS u s!"!" r] 0x1068f4
noncomputable def Ff:List an:=oh [fun ks=>aY a 1 p1] 0x144068f4
noncomputable def Fh:List an:=oh [fun ks=>aY p 1 p1,fun ks=>bs (dL ks 1) 1 T (.int p 0) (.int p1 0) R,fun ks=>bS R s!">" r] 0x106af069f068f444
noncomputable def Fi:List an:=oh [fun ks=>bs (dL ks 1) 1 D .none (.int (-2) 0) R,fun ks=>aY p 1 p1] 0x1069f44068f34
noncomputable def Fj:List an:=oh [fun ks=>cI T n,fun ks=>fg p n r] 0x1069f068f4004
noncomputable def Fk:List an:=oh [fun ks=>db D s!"!" D1] 0x144068f4
noncomputable def Fl:List an:=oh [fun ks=>Hi u ⟨⟨[0]⟩⟩ r] 0x1068f4
noncomputable def Fm:List an:=oh [] 0x14444444
noncomputable def Fn:List an:=oh [fun ks=>aY st 1 p1,fun ks=>bs (dL ks 1) 1 T (.int st 0) (.int p1 0) R,fun ks=>bS R s!">" r] 0x106af069f068f444
noncomputable def Fo:List an:=oh [fun ks=>aY st 2 p1,fun ks=>bs (dL ks 1) 1 T (.int st 0) (.int p1 0) R,fun ks=>bS R s!"->" r] 0x106af069f068f444
noncomputable def Fp:List an:=oh [fun ks=>aY st 1 p1] 0x1068f44
noncomputable def Fq:List an:=oh [fun ks=>aY st 2 p1] 0x1068f44
end
theorem vD {w:World} {b:Bool} {A:Around} {s:Shared} {F tl:Addr} {T D u:Str} {st p d a n:Int} {r:Bool} {sh:Nat} (i:Hf w b 100 A s F (cz w b T st p tl D sh d a u)) (hn:(T.length:Int)=n) (z:n < 2 ^ 63) (hr:decide (p < n)=r):ck i (sE iB) (bN F) r:=
 ct [0] (E2 T p n r) fun Ok Fin G mo dn cn=>cn (G (cj _ _ hn z) fun _=>G (eY _ _ _ hr) fun _=>dn [F]) fun _ _=>by delta zb yd sh b
theorem Fr {w:World} {b:Bool} {A:Around} {s:Shared} {F tl:Addr} {T D u:Str} {st p d a:Int} {sh:Nat} (i:Hf w b 100 A s F (cz w b T st p tl D sh d a u)):d6 i [ad dw 0] (bN F) (cz w b T st p tl D (nx sh) 0 a u):=
 runC [0] (E3) fun Ok Fin sm mo z G=>G (z [F]) fun _ _=>by delta zb yd sh b
theorem Fs {w:World} {b:Bool} {A:Around} {s:Shared} {F tl:Addr} {T D u R:Str} {st p p1 d a a1:Int} {r:Bool} {sh:Nat} (i:Hf w b 100 A s F (cz w b T st p tl D (sh + 1) d a u)) (h1:p + d=a1) (h2:a1 + 1=p1) (hR:aX T (some a1) (some p1)=R) (G:R.length≤sizeLine) (hr:(R.cps.toList == ([45]:List Nat))=r):ck i (sE y7) (bN F) r:=
 ct [0] (E4 T p r d R p1 a1) fun Ok Fin z mo dn cn=>cn (z (aE _ _ _ h1) fun _=>z (aE _ _ _ h1) fun _=>z (aE _ _ _ h2) fun _=>mo fun b1=>z (bu b1 1 T (some a1) (some p1) _ hR G) fun _=>z (sq hr) fun _=>dn [F,b1]) fun _ _=>by delta zb DB sh b
theorem Ft {w:World} {b:Bool} {A:Around} {s:Shared} {F tl:Addr} {T D u:Str} {st p d H a:Int} {sh:Nat} (i:Hf w b 100 A s F (cz w b T st p tl D (sh + 1) d a u)) (z:d + 1=H):d6 i [ad (sB y7) 0] (bN F) (cz w b T st p tl D (sh + 1) H a u):=
 runC [0] (E5 d H) fun Ok Fin G mo dn cn=>cn (G (aE _ _ _ z) fun _=>dn [F]) fun _ _=>by delta zb DB sh b
theorem Fu {w:World} {b:Bool} {A:Around} {s:Shared} {F tl:Addr} {T D u R:Str} {st p p1 d a a1:Int} {sh:Nat} (i:Hf w b 100 A s F (cz w b T st p tl D (sh + 1) d a u)) (h1:p + d=a1) (h2:a1 + 1=p1) (hR:aX T (some a1) (some p1)=R) (z:R.length≤sizeLine):d6 i [ad dw 2,ad dw 3] (bN F) (cz w b T st p tl D 2 d a1 R):=
 runC [0] (E6 T p d R p1 a1) fun Ok Fin G mo dn cn=>cn (G (aE _ _ _ h1) fun _=>G (aE _ _ _ h2) fun _=>mo fun b1=>G (bu b1 1 T (some a1) (some p1) _ hR z) fun _=>dn [F,b1]) fun _ _=>by delta zb DB sh b
theorem oA {w:World} {b:Bool} {A:Around} {s:Shared} {F tl:Addr} {T D u:Str} {st p d a:Int} {r:Bool} (i:Hf w b 100 A s F (cz w b T st p tl D 2 d a u)) (z:(d == 0)=r):ck i (sE eO) (bN F) r:=
 ct [0] (E7 r d) fun Ok Fin G mo dn cn=>cn (G (eK _ _ _ z) fun _=>dn [F]) fun _ _=>by delta zb bh b
theorem pX {w:World} {b:Bool} {A:Around} {s:Shared} {F tl:Addr} {T D u:Str} {st p d a:Int} {r:Bool} (i:Hf w b 100 A s F (cz w b T st p tl D 2 d a u)) (z:(u.cps.toList == ([0]:List Nat))=r):ck i (sE ou) (bN F) r:=
 ct [0] (zd r u) fun Ok Fin G mo dn cn=>cn (G (sq z) fun _=>dn [F]) fun _ _=>by delta zb bh b
section
variable (w:World) (b:Bool) (F tl:Addr) (fr:Obj) (U:List Stmt) (M D:Str) (a:Int) (orc orc0:List an) (sel:List Nat)
noncomputable def zh (l:List Value) (B:Nat) (y:Nat→Nat→Tok) (tb:Nat):az:=aN (vs w b 100) 4000 .out (aO U (bN F)) orc (fillAll y 0 [(F,fr)]++[(tl,ah l B)]) tb 0 []
noncomputable def JO:Prop:=∀⦃A:Around⦄ ⦃s:Shared⦄ ⦃L:List Value⦄ (rm:au 100 A) (tp:aC (vs w b 100) s.heap) (hF:aJ s.heap [(F,fr)]) (h7:790≤F) (z:dy s.heap tl L) (ne:tl≠F) (h8:790≤tl) (D:L.length≤1000) ⦃Q:Flow→Shared→Prop⦄ ⦃E:Value→Shared→Prop⦄ (h:∀s',aH (vs w b 100) [F,tl] s s'→aJ s'.heap [(F,fr)]→dy s'.heap tl (L++[.str M 0])→Q .next s'),
  wpAny (model pg (wb w b)) A (execs U (bN F)) Q E s
noncomputable def ID:Prop:=∀⦃A:Around⦄ ⦃s:Shared⦄ ⦃L:List Value⦄ (rm:au 100 A) (tp:aC (vs w b 100) s.heap) (hF:aJ s.heap [(F,fr)]) (h7:790≤F) (z:dy s.heap tl L) (ne:tl≠F) (h8:790≤tl) (G:L.length≤1000) ⦃Q:Flow→Shared→Prop⦄ ⦃E:Value→Shared→Prop⦄ (h:∀t q s',aH (vs w b 100) [F,tl] s s'→aJ s'.heap [(t,br [.str D 0,.ref q,.int a 0])]→dy s'.heap q (L++[.str M 0])→790≤t→790≤q→s.heap.get? t=none→s.heap.get? q=none→t≠q→Q (.ret (.ref t)) s'),
  wpAny (model pg (wb w b)) A (execs U (bN F)) Q E s
noncomputable def Ml:Prop:=∀l B y tb (G:az→(az→az)→Prop) (Fin:Prop),Cu (vs w b 100) pg (wb w b) G→Cv G→
 (∀ks {b2:Addr} {f:az→az},(∀na l1 I t0 y0 tb0,((f (zh w b F tl fr U orc l B y tb)).nc (aA t0 (.ok (.ret (.ref na)))) (fillAll y0 0 [(F,fr)]++[(na,ah l1 I)]) tb0).norm [0,1,2]=.more fun z=>.done (bc [F,na,z] (oh [] 0x14) []) (.ok (.ret (.ref z))) [(F,fr),(na,aV (ae l1)),(z,br [.str D 0,.ref na,.int a 0])])→
  G (.call 500 (bc ks orc0 []) (.call (.builtin "list.__add__") ⟨[.ref tl,.ref b2],[]⟩) [(F,fr),(tl,aV (ae l)),(b2,aV [.str M 0])] fun _ _ _=>.failW "") f)→
 (∀{N},G N id→(zh w b F tl fr U orc l B y tb).norm sel=N→Fin)→Fin
end
section
variable {w:World} {b:Bool} {F tl:Addr} {fr:Obj} {U:List Stmt} {M D:Str} {a:Int} {orc orc0:List an} {sel:List Nat}
theorem oB (p0:∀l B y tb,(zh w b F tl fr U (oh [] 0x15e0f55554) l B y tb).norm [0,1]=.call 500 (bc [F,tl] (oh [] 0x155554) []) (.call (.builtin "list.append") ⟨[.ref tl,.str M 0],[]⟩) [(F,fr),(tl,aV (ae l))] fun _ _ _=>.failW "")
  (p1:∀l B y tb l1 I t0 y0 tb0,((zh w b F tl fr U (oh [] 0x15e0f55554) l B y tb).nc (aA t0 (.ok (.ret .none))) (fillAll y0 0 [(F,fr)]++[(tl,ah l1 I)]) tb0).norm [0,1]=.done (bc [F,tl] (oh [] 0x1) []) (.ok .next) [(F,fr),(tl,aV (ae l1))]):JO w b F tl fr U M:=by
 intro A s L rm tp hF h7 D ne h8 hl Q E h
 obtain ⟨l,B,g,e⟩:=D
 subst e
 rw [aB] at hl
 have nd:([F,tl]:List Addr).Nodup:=by
  refine lC ?_
  exact fun z=>ne z.symm
 refine wpAny_mono (aP (R:=fun r' s'=>r'=.ok .next∧aH (vs w b 100) [F,tl] s s'∧aJ s'.heap [(F,fr)]∧dy s'.heap tl (ae l++[.str M 0])) ?_) (fun f s' z=>by have e:=z.1; injection e with e; rw [e]; exact h s' z.2.1 z.2.2.1 z.2.2.2) (fun e s' z=>(by cases z.1))
 refine cC (V:=(vs w b 100)) (X:=[(tl,ah l B)]) rfl rfl rm tp hF (ak g) (ag h7 (ak h8)) nd fun y=>⟨4000,oh [] 0x15e0f55554,?_⟩
 refine cM (sel:=[0,1]) rfl (p0 l B y _) (fun Ok sm mo cL=>cL rfl fun A1 s1 c1 G gk hc rm1 P=>IB hc P (by omega) fun l1 I s2 e1 f=>gk fun y0 t0=>?_)
 refine bB (sel:=[0,1]) rfl (p1 l B y _ l1 I t0 y0 _) (fun Ok sm mo dn=>dn fun r' s3 hr P2=>⟨bm hr,f.trans P2.far fun x hx=>.inl hx,ak (P2.get 0 rfl),?_⟩)
 obtain ⟨o,q1,q2⟩:=P2.get 1 rfl
 obtain ⟨l',n',rfl,q3⟩:=bI q2
 exact⟨l',n',q1,q3.trans e1⟩
theorem kP (pa:Ml w b F tl fr U M D a orc orc0 sel) (hs:bO sel=true:=by rfl):ID w b F tl fr U M D a:=by
 intro A s L rm tp hF h7 htl ne h8 hl Q E h
 obtain ⟨l,B,g,e⟩:=htl
 subst e
 rw [aB] at hl
 have nd:([F,tl]:List Addr).Nodup:=by
  refine lC ?_
  exact fun z=>ne z.symm
 refine wpAny_mono (aP (R:=fun r' s'=>∃t q,r'=.ok (.ret (.ref t))∧aH (vs w b 100) [F,tl] s s'∧aJ s'.heap [(t,br [.str D 0,.ref q,.int a 0])]∧dy s'.heap q (ae l++[.str M 0])∧790≤t∧790≤q∧s.heap.get? t=none∧s.heap.get? q=none∧t≠q) ?_) (fun f s' z=>by obtain ⟨t,q,e,z1,z2,z3,z4,z5,z6,z7,z8⟩:=z; injection e with e; rw [e]; exact h t q s' z1 z2 z3 z4 z5 z6 z7 z8) (fun e s' z=>(by obtain ⟨t,q,e,_⟩:=z; cases e))
 refine cC (V:=(vs w b 100)) (X:=[(tl,ah l B)]) rfl rfl rm tp hF (ak g) (ag h7 (ak h8)) nd fun y=>⟨4000,orc,?_⟩
 refine Dy hs fun Ok Fin sm mo cL cn=>pa l B y _ Ok Fin sm mo (fun ks {b2 f} hp=>cL rfl fun A1 s1 c1 G gk hc rm1 P=>E0 hc P (by omega) fun na l1 I s2 e1 fna ltl f=>gk fun y0 t0=>?_) cn
 refine bB (sel:=[0,1,2]) rfl (hp na l1 I t0 y0 _) (fun Ok sm mo dn=>mo fun Kb1=>dn fun r' s3 hr P2=>?_)
 obtain ⟨o,q1,q2⟩:=P2.get 1 rfl
 obtain ⟨l',n',rfl,q3⟩:=bI q2
 have lC:([F,na,Kb1]:List Addr).Nodup:=P2.nd
 have nk:Kb1∉[F,na]:=fun z=>(List.nodup_append.mp (show([F,na]++[Kb1]:List Addr).Nodup from lC)).2.2 Kb1 z Kb1 (.head _) rfl
 have fk0:s2.heap.get? Kb1=none:=(P2.own' Kb1 (.tail _ (.tail _ (.head _)))).resolve_left nk
 have fk:s.heap.get? Kb1=none:=(f.old fk0).resolve_left fun z=>by
  rcases List.mem_cons.mp z with z | z
  ·exact nk (by rw [z]; exact .head _)
  ·rw [List.mem_singleton.mp z] at fk0
   exact ltl fk0
 refine⟨Kb1,na,dX hr,?_,ak (P2.get 2 rfl),⟨l',n',q1,q3.trans e1⟩,P2.hi' 2 rfl,P2.hi' 1 rfl,fk,fna,?_⟩
 ·exact f.trans P2.far (ag (.inl (.head _)) (ak (.inr fna)))
 ·intro z
  rw [z] at lC
  exact(List.nodup_cons.mp (List.nodup_cons.mp lC).2).1 (.head _)
end
theorem zi {w:World} {b:Bool} {F tl:Addr} {T D u:Str} {st p d a:Int}:JO w b F tl (cz w b T st p tl D 2 d a u) [ad (sB ou) 0] s!"invalid-codepoint":=
 oB (fun _ _ _ _=>by delta zb bh b) (fun _ _ _ _ _ _ _ _ _=>by delta zb bh b)
theorem zj {w:World} {b:Bool} {A:Around} {s:Shared} {F tl:Addr} {T D D1 u:Str} {st p p1 d a:Int} (i:Hf w b 100 A s F (cz w b T st p tl D 2 d a u)) (hr:(u.cps.toList == ([0]:List Nat))=true) (hD:(D:Str)++⟨⟨[65533]⟩⟩=D1) (z:D1.length≤sizeLine) (h1:p + 1=p1):d6 i [ad (sB eO) 1,ad (sB eO) 2] (bN F) (cz w b T st p1 tl D1 2 d a u):=
 runC [0] (ze p D u p1 D1) fun Ok Fin G mo dn cn=>cn (G (sq hr) fun _=>G (bf _ _ _ hD z) fun _=>G (aE _ _ _ h1) fun _=>dn [F]) fun _ _=>by delta zb bh b
theorem zk {w:World} {b:Bool} {A:Around} {s:Shared} {F tl:Addr} {T D D1 u:Str} {st p p1 d a:Int} (i:Hf w b 100 A s F (cz w b T st p tl D 2 d a u)) (hr:(u.cps.toList == ([0]:List Nat))=false) (hD:(D:Str)++u=D1) (z:D1.length≤sizeLine) (h1:p + 1=p1):d6 i [ad (sB eO) 1,ad (sB eO) 2] (bN F) (cz w b T st p1 tl D1 2 d a u):=
 runC [0] (zf p D u p1 D1) fun Ok Fin G mo dn cn=>cn (G (sq hr) fun _=>G (bf _ _ _ hD z) fun _=>G (aE _ _ _ h1) fun _=>dn [F]) fun _ _=>by delta zb bh b
theorem vE {w:World} {b:Bool} {A:Around} {s:Shared} {F tl:Addr} {T D u:Str} {st p d a:Int} {r:Bool} (i:Hf w b 100 A s F (cz w b T st p tl D 2 d a u)) (z:(d == 1)=r):ck i (sE fo) (bN F) r:=
 ct [0] (E8 r d) fun Ok Fin G mo dn cn=>cn (G (eK _ _ _ z) fun _=>dn [F]) fun _ _=>by delta zb bh b
theorem pY {w:World} {b:Bool} {A:Around} {s:Shared} {F tl:Addr} {T D u:Str} {st p d a:Int} {r:Bool} (i:Hf w b 100 A s F (cz w b T st p tl D 2 d a u)) (z:(u.cps.toList == ([]:List Nat))=r):ck i (sE (ad (sB fo) 0)) (bN F) r:=
 ct [0] (zg r u) fun Ok Fin G mo dn cn=>cn (G (sq z) fun _=>dn [F]) fun _ _=>by delta zb bh b
theorem vF {w:World} {b:Bool} {F tl:Addr} {T D u:Str} {st p d a:Int} {r:Bool} (z:(p == st)=r):ID w b F tl (cz w b T st p tl D 2 d a u) [ad (sB (ad (sB fo) 0)) 0] (cond r s!"eof-in-comment" s!"eof-in-comment-end-dash") D a:=
 kP (orc:=(oh [fun ks=>fg p st r] 0x145e0f565068f4444)) (orc0:=(oh [fun ks=>fg p st r] 0x1565068f4444)) (sel:=[0,1,2]) fun l B y tb Ok Fin G mo lf cn=>cn (G (eK _ _ _ z) fun _=>mo fun b1=>lf [F,tl,b1] (b2:=b1) fun _ _ _ _ _ _=>by delta zb gf r b) (by delta zb gf r b)
theorem Fv {w:World} {b:Bool} {A:Around} {s:Shared} {F tl:Addr} {T D D1 u:Str} {st p d a:Int} (i:Hf w b 100 A s F (cz w b T st p tl D 2 d a u)) (hD:(D:Str)++s!"-"=D1) (z:D1.length≤sizeLine):d6 i [ad (sB fo) 1,ad (sB fo) 2] (bN F) (cz w b T st a tl D1 2 d a u):=
 runC [0] (E9 D D1) fun Ok Fin G mo dn cn=>cn (G (bf _ _ _ hD z) fun _=>dn [F]) fun _ _=>by delta zb bh b
theorem Fw {w:World} {b:Bool} {A:Around} {s:Shared} {F tl:Addr} {T D u:Str} {st p d H a:Int} {L:List Value} {k0:Nat} (rm:au 100 A) (tp:aC (vs w b 100) s.heap) (hF:aJ s.heap [(F,(cz w b T st p tl D 2 d a u))]) (h7:790≤F) (h1:d - 2=H) (hd:H=(k0:Int)) (hk:k0≤1000) (htl:dy s.heap tl L) (ne:tl≠F) (h8:790≤tl) (hl:L.length≤1000) {Q:Flow→Shared→Prop} {E:Value→Shared→Prop} (h:∀s',aH (vs w b 100) [F,tl] s s'→aJ s'.heap [(F,(cz w b T st p tl D 2 d a u))]→dy s'.heap tl (L++List.replicate k0 (.str s!"unexpected-dash-after-double-dash-in-comment" 0))→Q .next s'):
  wpAny (model pg (wb w b)) A (execs [ad b0 0] (bN F)) Q E s:=by
 obtain ⟨l,B,g,e⟩:=htl
 subst e
 rw [aB] at hl
 have nd:([F,tl]:List Addr).Nodup:=by
  refine lC ?_
  exact fun z=>ne z.symm
 refine wpAny_mono (aP (R:=fun r' s'=>r'=.ok .next∧aH (vs w b 100) [F,tl] s s'∧aJ s'.heap [(F,(cz w b T st p tl D 2 d a u))]∧dy s'.heap tl (ae l++List.replicate k0 (.str s!"unexpected-dash-after-double-dash-in-comment" 0))) ?_) (fun f s' z=>by have e:=z.1; injection e with e; rw [e]; exact h s' z.2.1 z.2.2.1 z.2.2.2) (fun e s' z=>(by cases z.1))
 refine cC (V:=(vs w b 100)) (X:=[(tl,ah l B)]) rfl rfl rm tp hF (ak g) (ag h7 (ak h8)) nd fun y=>⟨4000,(vr d H),?_⟩
 refine cM (sel:=[0,1,2]) rfl (vw w T p F tl D u st d a y _ H l B b) (fun Ok sm mo cL=>mo fun b1=>sm (mO _ _ _ h1) fun J=>cL rfl fun A1 s1 c1 G gk hc rm1 P=>IC hc P hd (by omega) fun na l1 I l3 en3 s2 e1 e3 fna f=>gk fun y0 t0=>?_)
 have n1:l1.length=k0:=by rw [←aB l1,e1,List.length_replicate]
 have n3:l3.length=l.length:=by rw [←aB l3,e3,aB]
 refine cM (sel:=[0,1,2]) rfl (vz w T p F tl D u st d a y _ H l l1 B I t0 y0 _ na b1 l3 en3 J b) (fun Ok sm mo cL=>cL rfl fun A3 s3 c3 G gk hc3 rm3 P3=>E1 hc3 P3 (by omega) fun l2 en2 s4 e2 f2=>gk fun y1 t1=>?_)
 refine bB (sel:=[0,1]) rfl (vC w T p F tl D u st d a y _ H l l1 B I t0 y0 _ na b1 l2 l3 en2 en3 J t1 y1 _ b) (fun Ok sm mo dn=>dn fun r' s5 hr P5=>⟨bm hr,(f.trans f2 fun x hx=>?_).trans P5.far fun x hx=>.inl hx,ak (P5.get 0 rfl),?_⟩)
 ·have hx:=iG hx
  rcases hx with h | h | h <;> subst x
  ·exact .inl (.head _)
  ·exact .inr fna
  ·exact .inl (.tail _ (.head _))
 ·obtain ⟨o,q1,q2⟩:=P5.get 1 rfl
  obtain ⟨l',n',rfl,q3⟩:=bI q2
  exact⟨l',n',q1,by rw [q3,e2,e1,e3]⟩
theorem Fx {w:World} {b:Bool} {A:Around} {s:Shared} {F tl:Addr} {T D D1 u R:Str} {st p d H a:Int} {z:Nat} (i:Hf w b 100 A s F (cz w b T st p tl D 2 d a u)) (h1:d - 2=H) (G:H=(z:Int)) (hml:z≤1000000) (hm:(⟨⟨List.replicate z 45⟩⟩:Str)=R) (hD:(D:Str)++R=D1) (hDz:D1.length≤sizeLine):d6 i [ad b0 1] (bN F) (cz w b T st p tl D1 2 d a u):=
 runC [0] (E' D d R H D1) fun Ok Fin sm mo dn cn=>cn (sm (mO _ _ _ h1) fun _=>sm (S:=bi "str.__mul__" [.str s!"-" 0,.int H 0] (.str R 0)) (y9 _ _ z _ G hml hm) fun _=>sm (bf _ _ _ hD hDz) fun _=>dn [F]) fun _ _=>by delta zb bh b
theorem oC {w:World} {b:Bool} {A:Around} {s:Shared} {F tl:Addr} {T D u:Str} {st p d a:Int} {r:Bool} (i:Hf w b 100 A s F (cz w b T st p tl D 2 d a u)) (z:(u.cps.toList == ([62]:List Nat))=r):ck i (sE (ad b0 2)) (bN F) r:=
 ct [0] (Fa r u) fun Ok Fin G mo dn cn=>cn (G (sq z) fun _=>dn [F]) fun _ _=>by delta zb bh b
theorem Fy {w:World} {b:Bool} {A:Around} {s:Shared} {F tl:Addr} {T D u:Str} {st p p1 d a:Int} (i:Hf w b 100 A s F (cz w b T st p tl D 2 d a u)) (z:a + 1=p1):EY i [ad (sB (ad b0 2)) 0] (bN F) [(.str D 0),(.ref tl),(.int p1 0)]:=
 Iz [0,1] (Fb a p1) fun Ok Fin G mo dn cn=>cn (G (aE _ _ _ z) fun _=>mo fun b1=>dn b1 [F,b1]) fun _ _=>by delta zb bh b
theorem vG {w:World} {b:Bool} {A:Around} {s:Shared} {F tl:Addr} {T D u:Str} {st p d a:Int} {r:Bool} (i:Hf w b 100 A s F (cz w b T st p tl D 2 d a u)) (z:(u.cps.toList == ([]:List Nat))=r):ck i (sE (ad b0 3)) (bN F) r:=
 ct [0] (Fc r u) fun Ok Fin G mo dn cn=>cn (G (sq z) fun _=>dn [F]) fun _ _=>by delta zb bh b
theorem Fz {w:World} {b:Bool} {F tl:Addr} {T D u:Str} {st p d a:Int}:ID w b F tl (cz w b T st p tl D 2 d a u) [ad (sB (ad b0 3)) 0] s!"eof-in-comment-double-dash" D a:=
 kP (orc:=(oh [] 0x145e0f56544)) (orc0:=(oh [] 0x156544)) (sel:=[0,1,2]) fun l B y tb Ok Fin sm z lf G=>G (z fun b1=>lf [F,tl,b1] (b2:=b1) fun _ _ _ _ _ _=>by delta zb bh b) (by delta zb bh b)
theorem FA {w:World} {b:Bool} {A:Around} {s:Shared} {F tl:Addr} {T D D1 u:Str} {st p d a:Int} (i:Hf w b 100 A s F (cz w b T st p tl D 2 d a u)) (hD:(D:Str)++s!"--"=D1) (z:D1.length≤sizeLine):d6 i [ad b0 4,ad b0 5] (bN F) (cz w b T st a tl D1 2 d a u):=
 runC [0] (Fd D D1) fun Ok Fin G mo dn cn=>cn (G (bf _ _ _ hD z) fun _=>dn [F]) fun _ _=>by delta zb bh b
theorem vH {w:World} {b:Bool} {A:Around} {s:Shared} {F tl:Addr} {T D u:Str} {st p d a:Int} {r:Bool} (i:Hf w b 100 A s F (cz w b T st p tl D 2 d a u)) (z:(u.cps.toList == ([33]:List Nat))=r):ck i (sE fE) (bN F) r:=
 ct [0] (Fe r u) fun Ok Fin G mo dn cn=>cn (G (sq z) fun _=>dn [F]) fun _ _=>by delta zb bh b
theorem zl {w:World} {b:Bool} {F tl:Addr} {T D u:Str} {st p d a:Int}:JO w b F tl (cz w b T st p tl D 2 d a u) [ad bK 0] s!"unexpected-bang-after-double-dash-in-comment":=
 oB (fun _ _ _ _=>by delta zb bh b) (fun _ _ _ _ _ _ _ _ _=>by delta zb bh b)
theorem FB {w:World} {b:Bool} {A:Around} {s:Shared} {F tl:Addr} {T D u:Str} {st p p1 d a:Int} (i:Hf w b 100 A s F (cz w b T st p tl D 2 d a u)) (z:a + 1=p1):d6 i [ad bK 1] (bN F) (cz w b T st p1 tl D 2 d a u):=
 runC [0] (Ff a p1) fun Ok Fin G mo dn cn=>cn (G (aE _ _ _ z) fun _=>dn [F]) fun _ _=>by delta zb bh b
theorem oD {w:World} {b:Bool} {A:Around} {s:Shared} {F tl:Addr} {T D u R:Str} {st p p1 d a:Int} {r:Bool} (i:Hf w b 100 A s F (cz w b T st p tl D 2 d a u)) (h1:p + 1=p1) (hR:aX T (some p) (some p1)=R) (z:R.length≤sizeLine) (hr:(R.cps.toList == ([62]:List Nat))=r):ck i (sE (ad bK 2)) (bN F) r:=
 ct [0] (Fh T p r R p1) fun Ok Fin G mo dn cn=>cn (G (aE _ _ _ h1) fun _=>mo fun b1=>G (bu b1 1 T (some p) (some p1) _ hR z) fun _=>G (sq hr) fun _=>dn [F,b1]) fun _ _=>by delta zb bh b
theorem FC {w:World} {b:Bool} {A:Around} {s:Shared} {F tl:Addr} {T D u R:Str} {st p p1 d a:Int} (i:Hf w b 100 A s F (cz w b T st p tl D 2 d a u)) (hR:aX D none (some (-2))=R) (z:R.length≤sizeLine) (h1:p + 1=p1):EY i [ad (sB (ad bK 2)) 0] (bN F) [(.str R 0),(.ref tl),(.int p1 0)]:=
 Iz [0,2] (Fi p D R p1) fun Ok Fin G mo dn cn=>cn (mo fun b1=>G (bu b1 1 D none (some (-2)) _ hR z) fun _=>G (aE _ _ _ h1) fun _=>mo fun b2=>dn b2 [F,b1,b2]) fun _ _=>by delta zb bh b
theorem vI {w:World} {b:Bool} {A:Around} {s:Shared} {F tl:Addr} {T D u:Str} {st p d a n:Int} {r:Bool} (i:Hf w b 100 A s F (cz w b T st p tl D 2 d a u)) (hn:(T.length:Int)=n) (z:n < 2 ^ 63) (hr:(p == n)=r):ck i (sE (ad bK 3)) (bN F) r:=
 ct [0] (Fj T p n r) fun Ok Fin G mo dn cn=>cn (G (cj _ _ hn z) fun _=>G (eK _ _ _ hr) fun _=>dn [F]) fun _ _=>by delta zb bh b
theorem FD {w:World} {b:Bool} {F tl:Addr} {T D u:Str} {st p d a:Int} {R:Str} (hR:aX D none (some (-2))=R) (z:R.length≤sizeLine):ID w b F tl (cz w b T st p tl D 2 d a u) [ad (sB (ad bK 3)) 0] s!"eof-in-comment-end-bang-state" R p:=
 kP (orc:=(oh [fun ks=>bs (dL ks 2) 2 D .none (.int (-2) 0) R] 0x145e0f5754068f34)) (orc0:=(oh [fun ks=>bs (dL ks 2) 2 D .none (.int (-2) 0) R] 0x15754068f34)) (sel:=[0,1,3]) fun l B y tb Ok Fin sm G lf cn=>cn (G fun b1=>sm (bu b1 2 D none (some (-2)) _ hR z) fun _=>G fun b2=>lf [F,tl,b1,b2] (b2:=b2) fun _ _ _ _ _ _=>by delta zb bh b) (by delta zb bh b)
theorem FE {w:World} {b:Bool} {A:Around} {s:Shared} {F tl:Addr} {T D D1 u:Str} {st p d a:Int} (i:Hf w b 100 A s F (cz w b T st p tl D 2 d a u)) (hD:(D:Str)++s!"!"=D1) (z:D1.length≤sizeLine):d6 i [ad bK 4] (bN F) (cz w b T st p tl D1 2 d a u):=
 runC [0] (Fk D D1) fun Ok Fin G mo dn cn=>cn (G (bf _ _ _ hD z) fun _=>dn [F]) fun _ _=>by delta zb bh b
theorem vJ {w:World} {b:Bool} {A:Around} {s:Shared} {F tl:Addr} {T D u:Str} {st p d a:Int} {r:Bool} (i:Hf w b 100 A s F (cz w b T st p tl D 2 d a u)) (z:(u.cps.toList != ([0]:List Nat))=r):ck i (sE (ad (sL fE) 0)) (bN F) r:=
 ct [0] (Fl r u) fun Ok Fin G mo dn cn=>cn (G (S:=Hi u ⟨⟨[0]⟩⟩ r) (mP _ _ _ z) fun _=>dn [F]) fun _ _=>by delta zb bh b
theorem zo {w:World} {b:Bool} {F tl:Addr} {T D u:Str} {st p d a:Int}:JO w b F tl (cz w b T st p tl D 2 d a u) [ad (sB (ad (sL fE) 0)) 0] s!"unexpected-char-in-comment":=
 oB (fun _ _ _ _=>by delta zb bh b) (fun _ _ _ _ _ _ _ _ _=>by delta zb bh b)
theorem FG {w:World} {b:Bool} {F tl:Addr} {T D u:Str} {st p d a:Int} {sh:Nat}:ID w b F tl (cz w b T st p tl D sh d a u) [ad bJ 6] s!"eof-in-comment" D p:=
 kP (orc:=(oh [] 0x145e0f56544)) (orc0:=(oh [] 0x156544)) (sel:=[0,1,2]) fun l B y tb Ok Fin sm z lf G=>G (z fun b1=>lf [F,tl,b1] (b2:=b1) fun _ _ _ _ _ _=>by delta zb yd sh b) (by delta zb yd sh b)
theorem FH {w:World} {b:Bool} {A:Around} {s:Shared} {F:Addr} {T:Str} {st:Int} (i:Hf w b 100 A s F (bq [!["text",.str T 0],!["start",.int st 0]])):EZ i [ad bJ 0,ad bJ 1,ad bJ 2] (bN F) (fun t=>(cz w b T st st t ⟨⟨[]⟩⟩ 0 0 0 ⟨⟨[]⟩⟩)) (aV []):=
 IA [0,1] (Fm) fun Ok Fin sm z D G=>G (z fun b1=>D b1 [F,b1]) fun _ _=>by delta zb bh b
theorem vK {w:World} {b:Bool} {A:Around} {s:Shared} {F tl:Addr} {T D R:Str} {st p p1:Int} {r:Bool} (i:Hf w b 100 A s F (cz w b T st p tl D 0 0 0 ⟨⟨[]⟩⟩)) (h1:st + 1=p1) (hR:aX T (some st) (some p1)=R) (z:R.length≤sizeLine) (hr:(R.cps.toList == ([62]:List Nat))=r):ck i (sE (ad bJ 3)) (bN F) r:=
 ct [0] (Fn T r st R p1) fun Ok Fin G mo dn cn=>cn (G (aE _ _ _ h1) fun _=>mo fun b1=>G (bu b1 1 T (some st) (some p1) _ hR z) fun _=>G (sq hr) fun _=>dn [F,b1]) fun _ _=>by delta zb bh b
theorem vL {w:World} {b:Bool} {A:Around} {s:Shared} {F tl:Addr} {T D R:Str} {st p p1:Int} {r:Bool} (i:Hf w b 100 A s F (cz w b T st p tl D 0 0 0 ⟨⟨[]⟩⟩)) (h1:st + 2=p1) (hR:aX T (some st) (some p1)=R) (z:R.length≤sizeLine) (hr:(R.cps.toList == ([45,62]:List Nat))=r):ck i (sE (ad bJ 4)) (bN F) r:=
 ct [0] (Fo T r st R p1) fun Ok Fin G mo dn cn=>cn (G (aE _ _ _ h1) fun _=>mo fun b1=>G (bu b1 1 T (some st) (some p1) _ hR z) fun _=>G (sq hr) fun _=>dn [F,b1]) fun _ _=>by delta zb bh b
theorem FJ {w:World} {b:Bool} {A:Around} {s:Shared} {F tl:Addr} {T D:Str} {st p p1:Int} (i:Hf w b 100 A s F (cz w b T st p tl D 0 0 0 ⟨⟨[]⟩⟩)) (G:st + 1=p1):vp i [ad (sB (ad bJ 3)) 0] (bN F) (fun q=>[(.str D 0),(.ref q),(.int p1 0)]) (aV [(.str s!"incorrect-comment" 0)]):=
 CK [0,2,1] (Fp st p1) fun Ok Fin sm z dn cn=>cn (z fun b1=>sm (aE _ _ _ G) fun _=>z fun b2=>dn b2 b1 [F,b1,b2]) fun _ _=>by delta zb bh b
theorem FK {w:World} {b:Bool} {A:Around} {s:Shared} {F tl:Addr} {T D:Str} {st p p1:Int} (i:Hf w b 100 A s F (cz w b T st p tl D 0 0 0 ⟨⟨[]⟩⟩)) (G:st + 2=p1):vp i [ad (sB (ad bJ 4)) 0] (bN F) (fun q=>[(.str D 0),(.ref q),(.int p1 0)]) (aV [(.str s!"incorrect-comment" 0)]):=
 CK [0,2,1] (Fq st p1) fun Ok Fin sm z dn cn=>cn (z fun b1=>sm (aE _ _ _ G) fun _=>z fun b2=>dn b2 b1 [F,b1,b2]) fun _ _=>by delta zb bh b
theorem iD (a q k:List Nat):(k9 a q k).2=q:=by cases q <;> rfl
noncomputable def cP (q:Q) (D r:List Nat):Option (List Tk×Q×List Nat×List Nat):=match q with
 | .com=>match r with
  | []=>some ([(7,cO),(6,⟨⟨D⟩⟩)],.data,D,[])
  | c::r=>
   if c=45 then some ([],.ced,D,r)
   else if c=0 then some ([(7,cF)],.com,D++[65533],r)
   else some ([],.com,D++[c],r)
 | q=>(step q D [] r).map fun m=>(m.ts,m.q,m.D,m.kr.2)
inductive R1:Q→List Nat→List Nat→List Tk→Prop
 | stop (D:List Nat):R1 .data D [] []
 | more {q:Q} {D r:List Nat} {ts TT:List Tk} {q':Q} {D' r':List Nat}:cP q D r=some (ts,q',D',r')→R1 q' D' r' TT→R1 q D r (ts++TT)
theorem R1.inv {q:Q} {D r:List Nat} {TT ts:List Tk} {q':Q} {D' r':List Nat} (h:R1 q D r TT) (e:cP q D r=some (ts,q',D',r')):∃d,TT=ts++d∧R1 q' D' r' d:=by
 delta zz q D r TT ts q' D' r'
 cases h with
 | stop=>cases e
 | more u z=>
  rw [u] at e
  injection e with e
  injection e with e1 e
  injection e with B e
  injection e with G H
  subst e1 B G H
  exact⟨_,rfl,z⟩
theorem kQ {p:Nat→Bool} {r:List Nat} {x:Nat} (h:x∈(cut p r).1∨x∈(cut p r).2):x∈r:=by
 rw [←fA p r]
 exact List.mem_append.mpr h
theorem zq {a q k:List Nat} {x:Nat} (h:x∈(k9 a q k).1):x∈a∨x∈k:=by
 cases q with
 | nil=>cases h
 | cons c r=>
  rcases List.mem_append.mp (show x∈a.reverse++k from h) with h | h
  ·exact .inl (by simpa using h)
  ·exact .inr h
theorem zr (a q k:List Nat):(k9 a q k).1.length≤a.length + k.length:=by
 cases q with
 | nil=>exact Nat.zero_le _
 | cons c r=>show(a.reverse++k).length≤_; simp
section
variable {D k r:List Nat} {c:Nat}
theorem bg.al' (I:bg D k r) {x:Nat} (h:x∈k∨x∈r):x∈ib:=I.al x (List.mem_append.mpr h)
theorem bg.nl (I:bg D k r):bg D [] []:=⟨fun c h=>(by cases h),Nat.zero_le _,Nat.le_trans (Nat.add_le_add_left (Nat.zero_le _) _) I.D⟩
theorem bg.eat (I:bg D k (c::r)) {D':List Nat} (h:D'.length≤D.length + 4):bg D' (c::k) r:=by
 have a:=I.kr
 have b:=I.D
 simp only [List.length_cons] at a b
 refine⟨fun x d=>I.al' ?_,by simp only [List.length_cons]; omega,by omega⟩
 rcases List.mem_append.mp d with h | h
 ·exact(List.mem_cons.mp h).elim (fun e=>.inr (e▸.head _)) .inl
 ·exact .inr (.tail _ h)
theorem bg.eat0 (I:bg D k (c::r)):bg D (c::k) r:=I.eat (Nat.le_add_right _ _)
theorem bg.eatA {l:List Nat} (I:bg D k (c::r)) (h:l.length≤4):bg (D++l) (c::k) r:=I.eat (by rw [List.length_append]; exact Nat.add_le_add_left h _)
theorem bg.chunk {p:Nat→Bool} (I:bg D k (c::r)) {D':List Nat} (u:D'.length≤D.length + (1 + (cut p r).1.length)):bg D' (k9 (cut p r).1 (cut p r).2 (c::k)).1 (k9 (cut p r).1 (cut p r).2 (c::k)).2:=by
 have kr:=I.kr
 have hD:=I.D
 have l1:=gK p r
 have l2:=zr (cut p r).1 (cut p r).2 (c::k)
 simp only [List.length_cons] at kr hD l2
 rw [iD]
 refine⟨fun x d=>I.al' ?_,by omega,by omega⟩
 rcases List.mem_append.mp d with d | d
 ·rcases zq d with h | h
  ·exact .inr (.tail _ (kQ (.inl h)))
  ·exact(List.mem_cons.mp h).elim (fun e=>.inr (e▸.head _)) .inl
 ·exact .inr (.tail _ (kQ (.inr d)))
end
theorem mj {q:Q} {D k r:List Nat} {m:Mo} (I:bg D k r) (e:step q D k r=some m):bg m.D m.kr.1 m.kr.2:=by
 have h:jn (fun m=>bg m.D m.kr.1 m.kr.2) (step q D k r):=by
  clear e
  cases q
  case bogus=>
   show jn _ (match (cut (fun x=>x != 62) r).2 with | []=>_ | c::z=>_)
   have l1:=gK (fun x=>x != 62) r
   have u:=fun x=>kQ (p:=fun x=>x != 62) (r:=r) (x:=x)
   have kr:=I.kr
   have hD:=I.D
   generalize (cut (fun x=>x != 62) r).1=y at l1 u ⊢
   generalize (cut (fun x=>x != 62) r).2=z at l1 u ⊢
   cases z with
   | nil=>exact bX I.nl
   | cons c z=>
    simp only [List.length_cons] at l1
    refine bX ⟨fun x B=>I.al' ?_,by simp only [List.length_cons,List.length_append,List.length_reverse]; omega,by show D.length + 4 * z.length≤40000; omega⟩
    have B:x∈(c::(y.reverse++k))++z:=B
    simp only [List.cons_append,List.mem_cons,List.mem_append,List.mem_reverse] at B
    rcases B with h | (h | h) | h
    ·exact .inr (u _ (.inr (h▸.head _)))
    ·exact .inr (u _ (.inl h))
    ·exact .inl h
    ·exact .inr (u _ (.inr (.tail _ h)))
  case mdo=>
   cases r with
   | nil=>exact bX I.nl
   | cons c r=>
    refine pO (fun h=>?_) (fun _=>bX I)
    subst h
    cases r with
    | nil=>exact bX ⟨fun c h=>(by cases List.mem_singleton.mp h; decide),Nat.le_of_ble_eq_true rfl,I.D⟩
    | cons d r=>exact pO (fun _=>bX (I.eat0.eat (Nat.zero_le _))) (fun _=>bX I)
  all_goals cases r
  all_goals repeat' (first | exact optN | exact bX I | exact bX I.nl | exact bX I.eat0 | exact bX (I.eatA (Nat.le_of_ble_eq_true rfl)) | exact bX (I.chunk (Nat.le_add_right _ _)) | exact bX (I.chunk (by simp; omega)) | refine pO (fun _=>?_) (fun _=>?_))
 exact h m e
noncomputable def NC (r:List Nat):Prop:=(∀z,r≠0::z)∧∀z,r≠45::0::z
noncomputable def iM (l:List Nat):Prop:=∀x z,l=x++60::33::45::45::z→NC z
noncomputable def NQ (q:Q) (r:List Nat):Prop:=match q with
 | .cs=>NC r
 | .csd=>∀z,r≠0::z
 | .mdo=>∀z,r=45::45::z→NC z
 | .tag=>∀z,r=33::45::45::z→NC z
 | _=>True
theorem iM.suf {x l:List Nat} (h:iM (x++l)):iM l:=fun y z e=>h (x++y) z (by rw [e,List.append_assoc])
theorem iM.tl {c:Nat} {l:List Nat} (h:iM (c::l)):iM l:=iM.suf (x:=[c]) h
theorem iM.nil:iM []:=fun x z e=>by simp at e
theorem iM.cut {p:Nat→Bool} {l:List Nat} (h:iM l):iM (cut p l).2:=by
 rw [←fA p l] at h
 exact h.suf
theorem iM.one {c:Nat}:iM [c]:=fun x z e=>by
 have:=congrArg List.length e
 simp at this
 omega
theorem zs {q:Q} {D k r:List Nat} {m:Mo} (h:iM r) (B:NQ q r) (e:step q D k r=some m):iM m.kr.2∧NQ m.q m.kr.2:=by
 have key:jn (fun m=>iM m.kr.2∧NQ m.q m.kr.2) (step q D k r):=by
  clear e
  cases q
  case bogus=>
   show jn _ (match (cut (fun x=>x != 62) r).2 with | []=>_ | c::z=>_)
   have:=h.cut (p:=fun x=>x != 62)
   generalize (cut (fun x=>x != 62) r).2=z at this ⊢
   cases z with
   | nil=>exact bX ⟨.nil,trivial⟩
   | cons c z=>exact bX ⟨this.tl,trivial⟩
  case mdo=>
   cases r with
   | nil=>exact bX ⟨.nil,trivial⟩
   | cons c r=>
    refine pO (fun G=>?_) (fun _=>bX ⟨h,trivial⟩)
    subst G
    cases r with
    | nil=>exact bX ⟨.one,trivial⟩
    | cons d r=>exact pO (fun hd=>bX ⟨h.tl.tl,by subst hd; exact B r rfl⟩) (fun _=>bX ⟨h,trivial⟩)
  case data=>
   cases r with
   | nil=>exact optN
   | cons c r=>exact pO (fun e=>bX ⟨h.tl,fun z u=>h [] z (by rw [e]; exact congrArg (List.cons 60) u)⟩) fun _=>pO (fun _=>bX ⟨h.tl,trivial⟩) fun _=>pO (fun _=>bX ⟨by rw [iD]; exact h.tl.cut,trivial⟩) fun _=>bX ⟨by rw [iD]; exact h.tl.cut,trivial⟩
  case tag=>
   cases r with
   | nil=>exact bX ⟨.nil,trivial⟩
   | cons c r=>
    refine pO (fun e=>bX ⟨h.tl,fun z u=>B z (by rw [e]; exact congrArg (List.cons 33) u)⟩) fun _=>?_
    repeat' (first | exact bX ⟨h.tl,trivial⟩ | exact bX ⟨h,trivial⟩ | refine pO (fun _=>?_) (fun _=>?_))
  case cs=>
   cases r with
   | nil=>exact bX ⟨.nil,trivial⟩
   | cons c r=>
    refine pO (fun e=>bX ⟨h.tl,fun z u=>B.2 z (by rw [e]; exact congrArg (List.cons 45) u)⟩) fun _=>?_
    repeat' (first | exact bX ⟨h.tl,trivial⟩ | refine pO (fun _=>?_) (fun _=>?_))
  all_goals cases r
  all_goals repeat' (first | exact bX ⟨.nil,trivial⟩ | exact bX ⟨h.tl,trivial⟩ | exact bX ⟨h,trivial⟩ | exact bX ⟨by rw [iD]; exact h.tl.cut,trivial⟩ | refine pO (fun _=>?_) (fun _=>?_))
 exact key m e
structure IE (m m0:Mo):Prop where
 ts:m.ts=m0.ts
 q:m.q=m0.q
 D:m.D=m0.D
 r:m.kr.2=m0.kr.2
noncomputable def FM (o o0:Option Mo):Prop:=∀d,o0=some d→∃m,o=some m∧IE m d
theorem KQ {o:Option Mo}:FM o none:=fun m e=>by cases e
theorem ml {m d:Mo} (h:IE m d):FM (some m) (some d):=fun u e=>⟨m,rfl,Option.some.inj e▸h⟩
theorem KS {p:Prop} [Decidable p] {x y d u:Option Mo} (z:FM x d) (B:FM y u):FM (if p then x else y) (if p then d else u):=by
 by_cases h:p
 ·rw [if_pos h,if_pos h]; exact z
 ·rw [if_neg h,if_neg h]; exact B
theorem FN {q:Q} {D k r:List Nat} {ts:List Tk} {q':Q} {D' r':List Nat} (H:q≠.com) (e:cP q D r=some (ts,q',D',r')):∃m,step q D k r=some m∧m.ts=ts∧m.q=q'∧m.D=D'∧m.kr.2=r':=by
 delta zz q D k r ts q' D' r'
 have G:(step q D [] r).map (fun m=>(m.ts,m.q,m.D,m.kr.2))=some (ts,q',D',r'):=by
  cases q <;> first | exact e | exact absurd rfl H
 obtain ⟨I,h0,u⟩:=Option.map_eq_some_iff.mp G
 have key:FM (step q D k r) (step q D [] r):=by
  clear G e u h0
  cases q
  case bogus=>
   show FM (match (cut (fun x=>x != 62) r).2 with | []=>_ | c::z=>_) (match (cut (fun x=>x != 62) r).2 with | []=>_ | c::z=>_)
   cases (cut (fun x=>x != 62) r).2 <;> exact ml ⟨rfl,rfl,rfl,rfl⟩
  case mdo=>
   cases r with
   | nil=>exact ml ⟨rfl,rfl,rfl,rfl⟩
   | cons c r=>
    refine KS ?_ (ml ⟨rfl,rfl,rfl,rfl⟩)
    cases r with
    | nil=>exact ml ⟨rfl,rfl,rfl,rfl⟩
    | cons d r=>exact KS (ml ⟨rfl,rfl,rfl,rfl⟩) (ml ⟨rfl,rfl,rfl,rfl⟩)
  all_goals cases r
  all_goals repeat' (first | exact KQ | exact ml ⟨rfl,rfl,rfl,rfl⟩ | exact ml ⟨rfl,rfl,rfl,by rw [iD,iD]⟩ | refine KS ?_ ?_)
 obtain ⟨m,J,U,h4,h5,h6⟩:=key I h0
 injection u with h7 u
 injection u with h8 u
 injection u with h9 B
 exact⟨m,J,U.trans h7,h4.trans h8,h5.trans h9,h6.trans B⟩
theorem Run.inv {q:Q} {D k r:List Nat} {m:Mo} {TT:List Tk} (h:Run q D k r TT) (e:step q D k r=some m):∃d,TT=m.ts++d∧Run m.q m.D m.kr.1 m.kr.2 d:=by
 cases h with
 | stop=>cases e
 | more I h0 u z=>
  rw [u] at e
  injection e with e
  subst e
  exact⟨_,rfl,z⟩
theorem FO {D k r:List Nat} {c:Nat} {TT:List Tk} (I:bg D k (c::r)) (U:c≠45) (h2:c≠0) (h:Run .com (D++[c]) (c::k) r TT):Run .com D k (c::r) TT:=by
 delta zz D k r c TT
 have st:step .com D k (c::r)=some ⟨[],.com,D++c::(cut (fun x=>x != 45 && x != 0) r).1,k9 (cut (fun x=>x != 45 && x != 0) r).1 (cut (fun x=>x != 45 && x != 0) r).2 (c::k)⟩:=by
  unfold step
  simp only [U,h2,if_false]
 have nq:(Q.com=.cs∨Q.com=.csd→∀z,c::r≠0::z):=fun h=>by rcases h with h | h <;> cases h
 refine Run.more (ts:=TT) I nq st ?_
 cases r with
 | nil=>
  obtain ⟨u,rfl,H⟩:=h.inv (m:=⟨[(7,cO),(6,⟨⟨D++[c]⟩⟩)],.data,D++[c],[],[]⟩) rfl
  exact Run.more (m:=⟨[(7,cO),(6,⟨⟨D++[c]⟩⟩)],.data,D++[c],[],[]⟩) (mj I st) (fun h=>by rcases h with h | h <;> cases h) rfl H
 | cons d r=>
  by_cases hd:d=45∨d=0
  ·have ec:cut (fun x=>x != 45 && x != 0) (d::r)=([],d::r):=by
    unfold cut
    rcases hd with rfl | rfl <;> rfl
   show Run .com (D++c::(cut (fun x=>x != 45 && x != 0) (d::r)).1) (k9 (cut (fun x=>x != 45 && x != 0) (d::r)).1 (cut (fun x=>x != 45 && x != 0) (d::r)).2 (c::k)).1 (k9 (cut (fun x=>x != 45 && x != 0) (d::r)).1 (cut (fun x=>x != 45 && x != 0) (d::r)).2 (c::k)).2 TT
   rw [ec]
   exact h
  ·have B:d≠45:=fun z=>hd (.inl z)
   have G:d≠0:=fun z=>hd (.inr z)
   have J:step .com (D++[c]) (c::k) (d::r)=some ⟨[],.com,(D++[c])++d::(cut (fun x=>x != 45 && x != 0) r).1,k9 (cut (fun x=>x != 45 && x != 0) r).1 (cut (fun x=>x != 45 && x != 0) r).2 (d::c::k)⟩:=by
    unfold step
    simp only [B,G,if_false]
   obtain ⟨u,e,H⟩:=h.inv J
   have e:TT=u:=e
   subst e
   have ec:cut (fun x=>x != 45 && x != 0) (d::r)=(d::(cut (fun x=>x != 45 && x != 0) r).1,(cut (fun x=>x != 45 && x != 0) r).2):=by
    have:(d != 45 && d != 0)=true:=by simp [B,G]
    conv=>lhs; unfold cut
    rw [this]
   show Run .com (D++c::(cut (fun x=>x != 45 && x != 0) (d::r)).1) (k9 (cut (fun x=>x != 45 && x != 0) (d::r)).1 (cut (fun x=>x != 45 && x != 0) (d::r)).2 (c::k)).1 (k9 (cut (fun x=>x != 45 && x != 0) (d::r)).1 (cut (fun x=>x != 45 && x != 0) (d::r)).2 (c::k)).2 TT
   rw [ec]
   have ea:k9 (d::(cut (fun x=>x != 45 && x != 0) r).1) (cut (fun x=>x != 45 && x != 0) r).2 (c::k)=k9 (cut (fun x=>x != 45 && x != 0) r).1 (cut (fun x=>x != 45 && x != 0) r).2 (d::c::k):=by
    cases (cut (fun x=>x != 45 && x != 0) r).2 with
    | nil=>rfl
    | cons y z=>show((d::_).reverse++_,_)=_; rw [List.reverse_cons,List.append_assoc]; rfl
   rw [ea]
   have ed:D++c::d::(cut (fun x=>x != 45 && x != 0) r).1=(D++[c])++d::(cut (fun x=>x != 45 && x != 0) r).1:=by rw [List.append_assoc]; rfl
   rw [ed]
   exact H
theorem conv {q:Q} {D r:List Nat} {TT:List Tk} (h:R1 q D r TT):∀k,bg D k r→iM r→NQ q r→Run q D k r TT:=by
 induction h with
 | stop D=>exact fun k I _ _=>.stop D k (jo fun c u=>I.al c (by simpa using u))
 | @more q D r ts TT q' D' r' e h ih=>
  intro k I hn hq
  have d:∀m,step q D k r=some m→m.ts=ts→m.q=q'→m.D=D'→m.kr.2=r'→Run q D k r (ts++TT):=fun m st h1 h2 h3 h4=>by
   subst h1 h2 h3 h4
   obtain ⟨n1,n2⟩:=zs hn hq st
   refine Run.more I (fun u z ez=>?_) st (ih _ (mj I st) n1 n2)
   rcases u with rfl | rfl
   ·exact hq.1 z ez
   ·exact hq z ez
  by_cases U:q=.com
  ·subst U
   cases r with
   | nil=>
    injection e with e; injection e with e1 e; injection e with B e; injection e with G H
    exact d _ rfl e1 B G H
   | cons c r=>
    unfold cP at e
    dsimp only at e
    split at e
    ·rename_i u
     injection e with e; injection e with e1 e; injection e with B e; injection e with G H
     refine d ⟨[],.ced,D,c::k,r⟩ ?_ e1 B G H
     unfold step; simp only [u,if_true]
    ·rename_i u
     split at e
     ·rename_i J
      injection e with e; injection e with e1 e; injection e with B e; injection e with G H
      refine d ⟨[(7,cF)],.com,D++[65533],c::k,r⟩ ?_ e1 B G H
      unfold step; simp only [u,J,if_false,if_true]; rfl
     ·rename_i J
      injection e with e; injection e with e1 e; injection e with B e; injection e with G H
      subst e1 B G H
      refine FO I u J (ih (c::k) ⟨fun x hx=>I.al x ?_,?_,?_⟩ hn.tl trivial)
      ·simp only [List.mem_append,List.mem_cons] at hx ⊢
       grind
      ·have:=I.kr; simp only [List.length_cons] at this ⊢; omega
      ·have:=I.D; simp only [List.length_cons,List.length_append,List.length_nil] at this ⊢; omega
  ·obtain ⟨m,h1,h2,h3,h4,h5⟩:=FN (k:=k) U e
   exact d m h1 h2 h3 h4 h5
section
noncomputable def RD (r:List Nat) (TT:List Tk):Prop:=∀D,R1 .data D r TT
theorem R1.go {q:Q} {D r:List Nat} {ts TT:List Tk} {q':Q} {D' r':List Nat} (e:cP q D r=some (ts,q',D',r')) (h:R1 q' D' r' TT):R1 q D r (ts++TT):=.more e h
variable {D r:List Nat} {c:Nat} {TT:List Tk}
noncomputable def bw (D:List Nat):Tk:=(6,⟨⟨D⟩⟩)
theorem sa (d:c≠45) (u:c≠0) (h:R1 .com (D++[c]) r TT):R1 .com D (c::r) TT:=
 R1.go (ts:=[]) (by unfold cP; simp only [d,u,if_false]) h
theorem zt (h:R1 .com (D++[65533]) r TT):R1 .com D (0::r) ((7,cF)::TT):=R1.go (ts:=[(7,cF)]) rfl h
theorem zu (h:RD [] TT):R1 .com D [] ((7,cO)::bw D::TT):=R1.go (ts:=[(7,cO),bw D]) rfl (h D)
theorem vM (h:RD [] TT):R1 .com D [45] ((7,j5)::bw D::TT):=R1.go (ts:=[]) (D':=D) (q':=.ced) (r':=[]) rfl (R1.go (ts:=[(7,j5),bw D]) rfl (h D))
theorem IF (D:List Nat) (a c:Nat):D++[a,c]=(D++[a])++[c]:=by rw [List.append_assoc]; rfl
theorem IG (D:List Nat) (a c d:Nat):D++[a,c,d]=(D++[a,c])++[d]:=by rw [List.append_assoc]; rfl
theorem IH (D:List Nat) (a c d e:Nat):D++[a,c,d,e]=(D++[a,c,d])++[e]:=by rw [List.append_assoc]; rfl
theorem fB (d:c≠45) (u:c≠0) (h:R1 .com D (c::r) TT):R1 .com (D++[c]) r TT:=by
 obtain ⟨z,e,B⟩:=h.inv (ts:=[]) (q':=.com) (D':=D++[c]) (r':=r) (by unfold cP; simp only [d,u,if_false])
 rw [e]; exact B
theorem kR (h:R1 .com D (0::r) TT):∃d,TT=(7,cF)::d∧R1 .com (D++[65533]) r d:=by
 obtain ⟨d,e,u⟩:=h.inv (ts:=[(7,cF)]) (q':=.com) (D':=D++[65533]) (r':=r) rfl
 exact⟨d,e,u⟩
theorem mm (h:R1 .com D (45::r) TT):R1 .ced D r TT:=by
 obtain ⟨d,e,u⟩:=h.inv (ts:=[]) (q':=.ced) (D':=D) (r':=r) rfl
 rw [e]; exact u
theorem II (d:c≠45) (h:R1 .com (D++[45]) (c::r) TT):R1 .com D (45::c::r) TT:=by
 refine R1.go (ts:=[]) (q':=.ced) (D':=D) (r':=c::r) rfl ?_
 by_cases h0:c=0
 ·subst h0
  obtain ⟨u,rfl,z⟩:=kR h
  exact R1.go (ts:=[(7,cF)]) (q':=.com) (D':=D++[45,65533]) (r':=r) rfl (by rw [IF]; exact z)
 ·exact R1.go (ts:=[]) (q':=.com) (D':=D++[45,c]) (r':=r) (by simp [cP,step,d,h0]) (by rw [IF]; exact fB d h0 h)
noncomputable def bt (l:List Str):List Tk:=l.map fun x=>(7,x)
theorem gh (a b:List Str):bt (a++b)=bt a++bt b:=List.map_append
theorem ki:∀(k:Nat) (D:List Nat),R1 .ce (D++List.replicate k 45) r TT→R1 .ce D (List.replicate k 45++r) (bt (List.replicate k fP)++TT)
 | 0,D,h=>by simpa [bt] using h
 | k + 1,D,h=>by
  refine R1.go (ts:=[(7,fP)]) (q':=.ce) (D':=D++[45]) (r':=List.replicate k 45++r) (TT:=bt (List.replicate k fP)++TT) rfl (ki k (D++[45]) ?_)
  rw [List.append_assoc]
  exact h
theorem IJ (k:Nat) (h:R1 .ce (D++List.replicate k 45) r TT):R1 .com D (List.replicate (k + 2) 45++r) (bt (List.replicate k fP)++TT):=
 R1.go (ts:=[]) (q':=.ced) (D':=D) (r':=List.replicate (k + 1) 45++r) rfl (R1.go (ts:=[]) (q':=.ce) (D':=D) (r':=List.replicate k 45++r) rfl (ki k D h))
theorem IK (h:RD r TT):R1 .ce D (62::r) (bw D::TT):=R1.go (ts:=[bw D]) rfl (h D)
theorem FP (h:RD [] TT):R1 .ce D [] ((7,hU)::bw D::TT):=R1.go (ts:=[(7,hU),bw D]) rfl (h D)
theorem FQ (h:RD r TT):R1 .ce D (33::62::r) ((7,em)::bw D::TT):=R1.go (ts:=[(7,em)]) (q':=.ceb) (D':=D) (r':=62::r) rfl (R1.go (ts:=[bw D]) rfl (h D))
theorem zv (h:RD [] TT):R1 .ce D [33] ((7,em)::(7,j6)::bw D::TT):=R1.go (ts:=[(7,em)]) (q':=.ceb) (D':=D) (r':=[]) rfl (R1.go (ts:=[(7,j6),bw D]) rfl (h D))
theorem zw (u:c≠62) (h:R1 .com (D++[45,45,33]) (c::r) TT):R1 .ce D (33::c::r) ((7,em)::TT):=by
 refine R1.go (ts:=[(7,em)]) (q':=.ceb) (D':=D) (r':=c::r) rfl ?_
 by_cases d:c=45
 ·subst d
  exact R1.go (ts:=[]) (q':=.ced) (D':=D++[45,45,33]) (r':=r) rfl (mm h)
 ·by_cases h0:c=0
  ·subst h0
   obtain ⟨z,rfl,B⟩:=kR h
   exact R1.go (ts:=[(7,cF)]) (q':=.com) (D':=D++[45,45,33,65533]) (r':=r) rfl (by rw [IH]; exact B)
  ·exact R1.go (ts:=[]) (q':=.com) (D':=D++[45,45,33,c]) (r':=r) (by simp [cP,step,u,d,h0]) (by rw [IH]; exact fB d h0 h)
theorem FR (h:R1 .com (D++[45,45]) (0::r) TT):R1 .ce D (0::r) TT:=by
 obtain ⟨d,rfl,u⟩:=kR h
 exact R1.go (ts:=[(7,cF)]) (q':=.com) (D':=D++[45,45,65533]) (r':=r) rfl (by rw [IG]; exact u)
theorem zx (z:c≠62) (d:c≠0) (B:c≠33) (u:c≠45) (h:R1 .com (D++[45,45]) (c::r) TT):R1 .ce D (c::r) ((7,j7)::TT):=
 R1.go (ts:=[(7,j7)]) (q':=.com) (D':=D++[45,45,c]) (r':=r) (by simp [cP,step,z,d,B,u]) (by rw [IG]; exact fB u d h)
theorem IL (h:RD r TT):R1 .cs [] (62::r) ((7,iK)::bw []::TT):=R1.go (ts:=[(7,iK),bw []]) rfl (h [])
theorem FS (h:RD r TT):R1 .cs [] (45::62::r) ((7,iK)::bw []::TT):=R1.go (ts:=[]) (q':=.csd) (D':=[]) (r':=62::r) rfl (R1.go (ts:=[(7,iK),bw []]) rfl (h []))
theorem zA (h:RD [] TT):R1 .cs [] [45] ((7,cO)::bw []::TT):=R1.go (ts:=[]) (q':=.csd) (D':=[]) (r':=[]) rfl (R1.go (ts:=[(7,cO),bw []]) rfl (h []))
theorem FT (I:NC r) (J:∀z,r≠62::z) (U:∀z,r≠45::62::z) (h3:r≠[45]) (h:R1 .com [] r TT):R1 .cs [] r TT:=by
 cases r with
 | nil=>
  obtain ⟨B,rfl,D⟩:=h.inv (ts:=[(7,cO),bw []]) rfl
  exact R1.go (ts:=[(7,cO),bw []]) rfl D
 | cons c r=>
  by_cases G:c=45
  ·subst G
   have h:=mm h
   refine R1.go (ts:=[]) (q':=.csd) (D':=[]) (r':=r) rfl ?_
   cases r with
   | nil=>exact absurd rfl h3
   | cons d r=>
    have d0:d≠0:=fun z=>I.2 r (by rw [z])
    have H:d≠62:=fun z=>U r (by rw [z])
    by_cases u:d=45
    ·subst u
     obtain ⟨B,rfl,D⟩:=h.inv (ts:=[]) (q':=.ce) (D':=[]) (r':=r) rfl
     exact R1.go (ts:=[]) (q':=.ce) (D':=[]) (r':=r) rfl D
    ·obtain ⟨B,rfl,D⟩:=h.inv (ts:=[]) (q':=.com) (D':=[]++[45,d]) (r':=r) (by simp [cP,step,d0,u])
     exact R1.go (ts:=[]) (q':=.com) (D':=[]++[45,d]) (r':=r) (by simp [cP,step,H,u]) D
  ·have h0:c≠0:=fun z=>I.1 r (by rw [z])
   have h62:c≠62:=fun z=>J r (by rw [z])
   exact R1.go (ts:=[]) (q':=.com) (D':=[]++[c]) (r':=r) (by simp [cP,step,G,h62]) (fB G h0 h)
end
section
variable {M:Model} {A:Around} {s:Shared} {env:Env} {Q:Flow→Shared→Prop} {E:Value→Shared→Prop}
abbrev On (M:Model) (A:Around) (env:Env) (rest:List Stmt) (Q:Flow→Shared→Prop) (E:Value→Shared→Prop):Flow→Shared→Prop:=fun f s'=>(f=.next→wpAny M A (execs rest env) Q E s')∧(f≠.next→Q f s')
theorem cp {X Y:Prop} (h:X):(Flow.next=.next→X)∧(Flow.next≠.next→Y):=⟨fun _=>h,fun n=>absurd rfl n⟩
theorem iN {v:Value} {X Y:Prop} (h:Y):(Flow.ret v=.next→X)∧(Flow.ret v≠.next→Y):=⟨fun e=>(by cases e),fun _=>h⟩
theorem jJ {st:Stmt} {t:Expr} {D H rest:List Stmt} {pos:Pos} (e:st=.If t D H pos) (h:wpAny M A (isTrue t env (eval t env)) (fun v s'=>v=true∧wpAny M A (execs D env) (On M A env rest Q E) E s') E s):wpAny M A (execs (st::rest) env) Q E s:=by
 subst e
 refine wpAny_execs_cons (wpAny_If (wpAny_mono h (fun v s' h=>?_) fun _ _ h=>h))
 obtain ⟨rfl,h⟩:=h
 refine wpAny_mono h (fun f I h=>?_) fun _ _ h=>h
 cases f with
 | next=>exact h.1 rfl
 | _=>exact h.2 (by intro z; cases z)
theorem gS {st:Stmt} {t:Expr} {H D rest:List Stmt} {pos:Pos} (e:st=.If t H D pos) (h:wpAny M A (isTrue t env (eval t env)) (fun v s'=>v=false∧wpAny M A (execs D env) (On M A env rest Q E) E s') E s):wpAny M A (execs (st::rest) env) Q E s:=by
 subst e
 refine wpAny_execs_cons (wpAny_If (wpAny_mono h (fun v s' h=>?_) fun _ _ h=>h))
 obtain ⟨rfl,h⟩:=h
 refine wpAny_mono h (fun f I h=>?_) fun _ _ h=>h
 cases f with
 | next=>exact h.1 rfl
 | _=>exact h.2 (by intro z; cases z)
theorem bL (h:Q .next s):wpAny M A (execs [] env) Q E s:=wpAny_pure h
end
theorem sl {T x z:List Nat} (h:T=x++z) {a e:Int} (k:Nat) (ha:a=(x.length:Int)) (D:e=a + k):aX ⟨⟨T⟩⟩ (some a) (some e)=⟨⟨z.take k⟩⟩:=by
 have e1:e=((x.length + k:Nat):Int):=by rw [D,ha]; push_cast; rfl
 rw [e1,ha,dc,h]
 congr 2
 rw [List.take_append,List.drop_append]
 simp
theorem zB (z:List Nat):Str.length ⟨⟨z.take 1⟩⟩≤sizeLine:=by
 show(z.take 1).length≤_
 have:(1:Nat)≤sizeLine:=by decide
 rw [List.length_take]
 omega
theorem pZ {l:List Nat} (h:l.length≤1000000):Str.length ⟨⟨l⟩⟩≤sizeLine:=Nat.le_trans h (by decide)
theorem fC:∀l:List Str,(aR l).length=l.length
 | []=>rfl
 | a::l=>congrArg (·+ 1) (fC l)
theorem cf:∀a c:List Str,aR (a++c)=aR a++aR c
 | [],_=>rfl
 | x::a,c=>by show _::aR (a++c)=_; rw [cf a c]; rfl
theorem se (k:Nat) (x:Str):aR (List.replicate k x)=List.replicate k (.str x 0):=by
 induction k with
 | zero=>rfl
 | succ k z=>rw [List.replicate_succ,List.replicate_succ]; show _::aR _=_; rw [z]
theorem vN:dw=[ad dw 0,y7,ad dw 2,ad dw 3,eO]:=by kernel_rfl
theorem FU:y7=.While (sE y7) [ad (sB y7) 0] [] (sP y7):=by kernel_rfl
theorem kS:eO=.If (sE eO) [ou,ad (sB eO) 1,ad (sB eO) 2] [fo] (sP eO):=by kernel_rfl
theorem p6:ou=.If (sE ou) [ad (sB ou) 0] [] (sP ou):=by kernel_rfl
theorem p7:fo=.If (sE fo) [ad (sB fo) 0,ad (sB fo) 1,ad (sB fo) 2] b0 (sP fo):=by kernel_rfl
theorem mq:ad (sB fo) 0=.If (sE (ad (sB fo) 0)) [ad (sB (ad (sB fo) 0)) 0] [] (sP (ad (sB fo) 0)):=by kernel_rfl
theorem zC:b0=[ad b0 0,ad b0 1,ad b0 2,ad b0 3,ad b0 4,ad b0 5,fE]:=by kernel_rfl
theorem jw:ad b0 2=.If (sE (ad b0 2)) [ad (sB (ad b0 2)) 0] [] (sP (ad b0 2)):=by kernel_rfl
theorem mr:ad b0 3=.If (sE (ad b0 3)) [ad (sB (ad b0 3)) 0] [] (sP (ad b0 3)):=by kernel_rfl
theorem p8:fE=.If (sE fE) bK [ad (sL fE) 0] (sP fE):=by kernel_rfl
theorem vO:bK=[ad bK 0,ad bK 1,ad bK 2,ad bK 3,ad bK 4]:=by kernel_rfl
theorem ic:ad bK 2=.If (sE (ad bK 2)) [ad (sB (ad bK 2)) 0] [] (sP (ad bK 2)):=by kernel_rfl
theorem kj:ad bK 3=.If (sE (ad bK 3)) [ad (sB (ad bK 3)) 0] [] (sP (ad bK 3)):=by kernel_rfl
theorem ms:ad (sL fE) 0=.If (sE (ad (sL fE) 0)) [ad (sB (ad (sL fE) 0)) 0] [] (sP (ad (sL fE) 0)):=by kernel_rfl
structure CS (w:World) (b:Bool) (F tl:Addr) (d s:Shared) (fr:Obj) (told:List Str):Prop where
 fr:aJ s.heap [(F,fr)]
 ls:dy s.heap tl (aR told)
 far:aH (vs w b 100) [F,tl] d s
section
variable {w:World} {b:Bool} {A:Around} {s d s':Shared} {F tl:Addr} {fr u:Obj} {told told':List Str}
theorem CS.f (C:CS w b F tl d s fr told) (ne:tl≠F) (f:aH (vs w b 100) [F] s s') (h:aJ s'.heap [(F,u)]):CS w b F tl d s' u told:=
 ⟨h,C.ls.keep fun o e=>f.frame tl o e (by simpa using ne),C.far.trans f fun x z=>.inl (by cases List.mem_singleton.mp z; simp)⟩
theorem CS.l (C:CS w b F tl d s fr told) (f:aH (vs w b 100) [F,tl] s s') (h:aJ s'.heap [(F,u)]) (t:dy s'.heap tl (aR told')):CS w b F tl d s' u told':=
 ⟨h,t,C.far.trans f fun x z=>.inl z⟩
end
section
variable {w:World} {b:Bool} {A:Around} {s d:Shared} {F tl:Addr} {T G B:List Nat} {told:List Str}
theorem vP {pre z:List Nat} {st a:Int} {D H:Str} {I k:Nat} {Q:Flow→Shared→Prop} {E:Value→Shared→Prop} (rm:au 100 A) (h7:790≤F) (ne:tl≠F) (hT:T=pre++(List.replicate k 45++z)) (hz:∀y,z≠45::y)
  (C:CS w b F tl d s (cz w b ⟨⟨T⟩⟩ st (pre.length:Int) tl D (I + 1) 0 a H) told)
  (h:∀s',CS w b F tl d s' (cz w b ⟨⟨T⟩⟩ st (pre.length:Int) tl D (I + 1) (k:Int) a H) told→Q .next s'):wpAny (model pg (wb w b)) A (exec y7 (bN F)) Q E s:=by
 delta zz w b A s d F tl T told pre z st a D H I k Q E
 rw [FU]
 refine wpAny_While (codeAny_whileLoop (fun n s=>∃j,j + n=k∧CS w b F tl d s (cz w b ⟨⟨T⟩⟩ st (pre.length:Int) tl D (I + 1) (j:Int) a H) told) ?_ k ⟨0,by omega,C⟩)
 rintro n s1 ⟨j,hj,C⟩
 have U:T=(pre++List.replicate j 45)++(List.replicate n 45++z):=by
  rw [hT,←hj,List.append_assoc,←List.append_assoc (List.replicate j 45),List.replicate_append_replicate]
 refine Fs (r:=(((List.replicate n 45++z).take 1) == ([45]:List Nat))) ⟨rm,C.far.top,C.fr,h7⟩ (a1:=((pre++List.replicate j 45).length:Int)) (by simp) rfl (sl U 1 rfl rfl) (zB _) rfl fun s2 f2 h2=>?_
 have J:=C.f ne f2 h2
 cases n with
 | zero=>
  have e:((List.replicate 0 45++z).take 1 == ([45]:List Nat))=false:=by
   cases z with
   | nil=>rfl
   | cons c y=>
    have:c≠45:=fun e=>hz y (by rw [e])
    simp [this]
  rw [e]
  have:j=k:=by omega
  subst this
  exact wpAny_pure (h s2 J)
 | succ n=>
  have e:((List.replicate (n + 1) 45++z).take 1 == ([45]:List Nat))=true:=by
   rw [List.replicate_succ]; rfl
  rw [e]
  refine Ft ⟨rm,J.far.top,J.fr,h7⟩ rfl fun s3 f3 h3=>?_
  exact⟨n,Nat.lt_succ_self n,j + 1,by omega,by have:=J.f ne f3 h3; push_cast; exact this⟩
end
section
open PySem PySem.W PySem.W.X PySem.Builtin.Str PySem.StrLaws
theorem Hm (a c:List Nat):(⟨⟨a⟩⟩:Str)++⟨⟨c⟩⟩=⟨⟨a++c⟩⟩:=by
 show Str.mk ((⟨a⟩:Array Nat)++⟨c⟩)=_
 simp
theorem mu {p l:List Nat} (k:Nat) (h:l.length=k):((p++l).length:Int)=(p.length:Int) + k:=by rw [List.length_append,h]; rfl
theorem aH.tr {V:Vs} {K:List Addr} {s s₁ s₂:Shared} (a:aH V K s s₁) (c:aH V K s₁ s₂):aH V K s s₂:=a.trans c fun _ h=>.inl h
theorem vQ {d:Type}:∀l:List d,l=[]∨∃c r,l=c::r
 | []=>.inl rfl
 | c::r=>.inr ⟨c,r,rfl⟩
theorem KU {d z:Type} {a x:List d} {b y:List z} (h:a.length≤b.length) (D:x.length≤y.length:=by exact Nat.le_of_ble_eq_true rfl):(a++x).length≤(b++y).length:=by rw [List.length_append,List.length_append]; exact Nat.add_le_add h D
theorem jK {d z:Type} {a:List d} {b y:List z} (h:a.length≤b.length):a.length≤(b++y).length:=by rw [List.length_append]; exact Nat.le_trans h (Nat.le_add_right _ _)
theorem FV {z d:Type} {a:List z} {b ys:List d} {y:d} (h:a.length≤b.length):a.length < (b++y::ys).length:=by rw [List.length_append]; exact Nat.lt_of_le_of_lt h (Nat.lt_add_of_pos_right (Nat.succ_pos _))
theorem IM {d:Type} {a:List d} {x:d} {n:Nat} (h:a.length + 1≤n):(a++[x]).length≤n:=by rw [List.length_append]; exact h
theorem p5 {a b:Nat} (h:a + b≤500):a≤1000:=Nat.le_trans (Nat.le_add_right _ _) (Nat.le_trans h (by decide))
theorem pD {d:Type} {a x:List d} {p b:Nat} (h:a.length≤p) (z:p + b≤500) (D:x.length≤500:=by exact Nat.le_of_ble_eq_true rfl):(a++x).length≤1000:=by rw [List.length_append]; exact Nat.add_le_add (Nat.le_trans h (Nat.le_trans (Nat.le_add_right _ _) z)) D
theorem fT {l:List Nat} (h:l.length≤1000):Str.length ⟨⟨l⟩⟩≤sizeLine:=Nat.le_trans h (by decide)
theorem KV {a b:Nat} (h:a < b):((b:Int) == (a:Int))=false:=beq_false_of_ne fun e=>Nat.lt_irrefl _ (Int.ofNat.inj e▸h)
theorem sf {n:Nat} (h:n≤500):(n:Int) < 2 ^ 63:=Int.ofNat_lt.mpr (Nat.lt_of_le_of_lt h (by decide))
theorem vR {c d:Nat} (h:c≠d):(([c]:List Nat) == [d])=false:=beq_false_of_ne fun e=>h (List.cons.inj e).1
theorem CL (l:List Nat) (x y:Nat):aX ⟨⟨l++[x,y]⟩⟩ none (some (-2))=⟨⟨l⟩⟩:=by
 have d:Str.length ⟨⟨l++[x,y]⟩⟩=l.length + 2:=List.length_append
 have z:(-2:Int) + ((l.length + 2:Nat):Int)=(l.length:Int):=by omega
 have e:aX ⟨⟨l++[x,y]⟩⟩ none (some (-2))=aX ⟨⟨l++[x,y]⟩⟩ (some ((0:Nat):Int)) (some (l.length:Int)):=by
  unfold aX
  rw [d,sliceIdx_none_lo,show strSliceIndices (some 0) (some (-2)) 1 (l.length + 2)=strSliceIndices (some ((0:Nat):Int)) (some (l.length:Int)) 1 (l.length + 2) by
   simp only [strSliceIndices,LC,z,if_false,show((-2:Int) < 0)=True from eq_true (by decide),if_true]
   rfl]
 rw [e,dc,List.take_left]
 rfl
structure CX (T B u:List Nat):Prop where
 tx:T=u++B
 nc:NC B
 g1:∀z,B≠62::z
 g2:∀z,B≠45::62::z
 len:T.length≤500
structure CI (T B u pre r D:List Nat) (told:List Str):Prop where
 tx:T=pre++r
 lD:D.length≤pre.length
 lt:told.length≤pre.length
 mach:(pre.length=u.length∧D=[]∧told=[])∨(u.length < pre.length∧∀TT,R1 .com D r TT→R1 .cs [] B (bt told++TT))
section
variable {T B u pre r D:List Nat} {told:List Str}
theorem CI.same (X:CX T B u) (I:CI T B u pre r D told) (h:pre.length=u.length):r=B:=by
 have e:pre++r=u++B:=I.tx.symm.trans X.tx
 exact(List.append_inj e h).2
theorem CI.com (X:CX T B u) (I:CI T B u pre r D told) (h:r≠[45]):∀TT,R1 .com D r TT→R1 .cs [] B (bt told++TT):=fun TT k=>by
 rcases I.mach with⟨d,rfl,rfl⟩ | ⟨_,d⟩
 ·have e:=I.same X d
  subst e
  exact FT X.nc X.g1 X.g2 h k
 ·exact d TT k
theorem CI.le (I:CI T B u pre r D told):u.length≤pre.length:=I.mach.elim (fun h=>Nat.le_of_eq h.1.symm) fun h=>Nat.le_of_lt h.1
theorem CI.preT (X:CX T B u) (I:CI T B u pre r D told):pre.length + r.length≤500:=by
 have:=X.len
 rw [I.tx,List.length_append] at this
 exact this
theorem dJ (l:List Str) (x:Str) (TT:List Tk):bt l++(7,x)::TT=bt (l++[x])++TT:=by
 rw [gh,List.append_assoc]; rfl
end
structure IN (w:World) (b:Bool) (T B u:List Nat) (F tl:Addr) (G s':Shared) (t:Addr) (q:Addr) (D:List Nat) (told:List Str) (pre r:List Nat):Prop where
 tp:aJ s'.heap [(t,br [.str ⟨⟨D⟩⟩ 0,.ref q,.int (pre.length:Int) 0])]
 ls:dy s'.heap q (aR told)
 tx:T=pre++r
 le:u.length≤pre.length
 mach:∀TT,RD r TT→R1 .cs [] B (bt told++bw D::TT)
 lt:told.length≤1000
 lD:D.length≤1000
 h7:790≤t∧790≤q
 fresh:G.heap.get? t=none∧(q=tl∨G.heap.get? q=none)
 far:aH (vs w b 100) [F,tl] G s'
section
variable {w:World} {b:Bool} {A:Around} {s G:Shared} {F tl:Addr} {T B u:List Nat} {told:List Str} {Q:Flow→Shared→Prop} {E:Value→Shared→Prop}
noncomputable def IO (w:World) (b:Bool) (T B u:List Nat) (F tl:Addr) (G:Shared) (n:Nat) (Q:Flow→Shared→Prop):Prop:=
 ∀(s':Shared) (z:Nat) (d a:Int) (H:Str) (pre r D:List Nat) (told:List Str),CI T B u pre r D told→CS w b F tl G s' (cz w b ⟨⟨T⟩⟩ (u.length:Int) (pre.length:Int) tl ⟨⟨D⟩⟩ z d a H) told→r.length < n→Q .next s'
noncomputable def Rt (w:World) (b:Bool) (T B u:List Nat) (F tl:Addr) (G:Shared) (Q:Flow→Shared→Prop):Prop:=
 ∀(s':Shared) (t q:Addr) (D:List Nat) (told:List Str) (pre r:List Nat),IN w b T B u F tl G s' t q D told pre r→Q (.ret (.ref t)) s'
theorem CS.nf {fr:Obj} (C:CS w b F tl G s fr told) {x:Addr} (h:s.heap.get? x=none) (d:x≠F) (D:x≠tl):G.heap.get? x=none:=(C.far.old h).resolve_left fun z=>by
 rcases List.mem_cons.mp z with z | z
 ·exact d z
 ·exact D (List.mem_singleton.mp z)
theorem CS.nF {fr:Obj} (C:CS w b F tl G s fr told) {x:Addr} (h:s.heap.get? x=none):G.heap.get? x=none:=C.nf h (fun z=>by
  obtain ⟨o,d,_⟩:=C.fr _ (.head _)
  rw [z,show s.heap.get? F=some o from d] at h; cases h) (fun z=>by
  obtain ⟨l,n,d,_⟩:=C.ls
  rw [z,d] at h; cases h)
theorem gQ {told:List Str} {n:Nat} (h:told.length≤n) (d:n≤1000):(aR told).length≤1000:=by rw [fC]; exact Nat.le_trans h d
theorem B0 {pre r1 D:List Nat} {c:Nat} {a:Int} (X:CX T B u) (I:CI T B u pre (c::r1) D told) (hc:c≠45) (rm:au 100 A) (h7:790≤F) (h8:790≤tl) (ne:tl≠F)
  (C:CS w b F tl G s (cz w b ⟨⟨T⟩⟩ (u.length:Int) (pre.length:Int) tl ⟨⟨D⟩⟩ 2 0 a ⟨⟨[c]⟩⟩) told) (hn:IO w b T B u F tl G (c::r1).length Q):wpAny (model pg (wb w b)) A (execs [eO] (bN F)) Q E s:=by
 delta zz w b A s G F tl T B u told Q E pre r1 D c a
 have J:=I.preT X
 have lD:=I.lD
 have lt:=I.lt
 have lo:=I.le
 simp only [List.length_cons] at J
 have e1:T=(pre++[c])++r1:=by rw [I.tx,List.append_assoc]; rfl
 have el:((pre++[c]).length:Int)=(pre.length:Int) + 1:=by simp
 have cm:=I.com X (fun z=>by injection z with z; exact hc z)
 refine jJ kS (oA (r:=true) ⟨rm,C.far.top,C.fr,h7⟩ rfl fun s1 f1 h1=>⟨rfl,?_⟩)
 have H:=C.f ne f1 h1
 by_cases h0:c=0
 ·subst h0
  refine jJ p6 (pX (r:=true) ⟨rm,H.far.top,H.fr,h7⟩ rfl fun s2 U h2=>⟨rfl,?_⟩)
  have d:=H.f ne U h2
  refine zi rm d.far.top d.fr h7 d.ls ne h8 (gQ lt (p5 J)) fun s3 f3 h3 t3=>cp ?_
  have C3:=d.l (told':=told++[cF]) f3 h3 (by rw [cf]; exact t3)
  refine zj ⟨rm,C3.far.top,C3.fr,h7⟩ rfl (Hm D [65533]) (fT (pD lD J)) el.symm fun s4 f4 h4=>cp (bL (hn s4 2 0 a _ (pre++[0]) r1 (D++[65533]) (told++[cF]) ⟨e1,KU lD,KU lt,.inr ⟨FV lo,fun TT k=>?_⟩⟩ (C3.f ne f4 h4) (Nat.lt_succ_self _)))
  rw [←dJ]
  exact cm _ (zt k)
 ·have hs:(([c]:List Nat) == ([0]:List Nat))=false:=vR h0
  refine gS p6 (pX (r:=false) ⟨rm,H.far.top,H.fr,h7⟩ hs fun s2 U h2=>⟨rfl,bL (cp ?_)⟩)
  have d:=H.f ne U h2
  refine zk ⟨rm,d.far.top,d.fr,h7⟩ hs (Hm D [c]) (fT (pD lD J)) el.symm fun s4 f4 h4=>cp (bL (hn s4 2 0 a _ (pre++[c]) r1 (D++[c]) told ⟨e1,by simp; omega,jK lt,.inr ⟨FV lo,fun TT k=>cm _ (sa hc h0 k)⟩⟩ (d.f ne f4 h4) (Nat.lt_succ_self _)))
theorem B1 {pre z D:List Nat} (X:CX T B u) (I:CI T B u pre (45::z) D told) (hz:∀y,z≠45::y) (rm:au 100 A) (h7:790≤F) (h8:790≤tl) (ne:tl≠F)
  (C:CS w b F tl G s (cz w b ⟨⟨T⟩⟩ (u.length:Int) (pre.length:Int) tl ⟨⟨D⟩⟩ 2 1 ((pre++[45]).length:Int) ⟨⟨z.take 1⟩⟩) told) (hn:IO w b T B u F tl G (45::z).length Q) (hr:Rt w b T B u F tl G Q):
  wpAny (model pg (wb w b)) A (execs [eO] (bN F)) Q E s:=by
 delta zz w b A s G F tl T B u told Q E pre z D
 have J:=I.preT X
 have lD:=I.lD
 have lt:=I.lt
 have lo:=I.le
 simp only [List.length_cons] at J
 have e1:T=(pre++[45])++z:=by rw [I.tx,List.append_assoc]; rfl
 refine gS kS (oA (r:=false) ⟨rm,C.far.top,C.fr,h7⟩ rfl fun s1 f1 h1=>⟨rfl,?_⟩)
 have C1:=C.f ne f1 h1
 refine jJ p7 (vE (r:=true) ⟨rm,C1.far.top,C1.fr,h7⟩ rfl fun s2 f2 h2=>⟨rfl,?_⟩)
 have H:=C1.f ne f2 h2
 cases z with
 | nil=>
  refine jJ mq (pY (r:=true) ⟨rm,H.far.top,H.fr,h7⟩ rfl fun s3 f3 h3=>⟨rfl,?_⟩)
  have d:=H.f ne f3 h3
  rcases I.mach with⟨m1,rfl,rfl⟩ | ⟨m1,m2⟩
  ·have er:=I.same X m1
   refine vF (r:=true) (by rw [m1]; exact beq_self_eq_true _) rm d.far.top d.fr h7 d.ls ne h8 (gQ lt (p5 J)) fun t q U f4 ht hq g1 g2 g3 g4 g5=>iN (iN (iN (hr U t q [] [cO] (pre++[45]) [] ⟨ht,hq,e1,jK lo,fun TT k=>?_,by simp,Nat.zero_le _,⟨g1,g2⟩,⟨d.nF g3,.inr (d.nF g4)⟩,d.far.trans f4 fun x hx=>.inl hx⟩)))
   rw [←er]
   exact zA k
  ·have hp:(((pre.length:Nat):Int) == ((u.length:Nat):Int))=false:=KV m1
   refine vF (r:=false) hp rm d.far.top d.fr h7 d.ls ne h8 (gQ lt (p5 J)) fun t q U f4 ht hq g1 g2 g3 g4 g5=>iN (iN (iN (hr U t q D (told++[j5]) (pre++[45]) [] ⟨ht,by rw [cf]; exact hq,e1,jK lo,fun TT k=>?_,by simp; omega,Nat.le_trans lD (p5 J),⟨g1,g2⟩,⟨d.nF g3,.inr (d.nF g4)⟩,d.far.trans f4 fun x hx=>.inl hx⟩)))
   rw [←dJ]
   exact m2 _ (vM k)
 | cons c z=>
  have hc:c≠45:=fun e=>hz z (by rw [e])
  have cm:=I.com X (fun e=>by cases e)
  refine gS mq (pY (r:=false) ⟨rm,H.far.top,H.fr,h7⟩ rfl fun s3 f3 h3=>⟨rfl,bL (cp ?_)⟩)
  have d:=H.f ne f3 h3
  refine Fv ⟨rm,d.far.top,d.fr,h7⟩ (Hm D [45]) (fT (pD lD J)) fun U f4 h4=>cp (bL (cp (bL (hn U 2 1 _ _ (pre++[45]) (c::z) (D++[45]) told ⟨e1,by simp; omega,jK lt,.inr ⟨FV lo,fun TT k=>cm _ (II hc k)⟩⟩ (d.f ne f4 h4) (Nat.lt_succ_self _)))))
end
end
section
variable {w:World} {b:Bool} {A:Around} {s G:Shared} {F tl:Addr} {T B u:List Nat} {told:List Str} {Q:Flow→Shared→Prop} {E:Value→Shared→Prop}
theorem CS.kl {fr:Obj} {s':Shared} (C:CS w b F tl G s fr told) (ne:tl≠F) (f:aH (vs w b 100) [F] s s'):dy s'.heap tl (aR told):=C.ls.keep fun o e=>f.frame tl o e (by simpa using ne)
theorem CS.kf {fr:Obj} {s':Shared} (C:CS w b F tl G s fr told) (f:aH (vs w b 100) [F] s s'):aH (vs w b 100) [F,tl] G s':=C.far.trans f fun x d=>.inl (by cases List.mem_singleton.mp d; simp)
structure LL (T B u pre z D:List Nat) (told:List Str):Prop where
 tx:T=pre++z
 lD:D.length + 2≤pre.length
 lt:told.length + 2≤pre.length
 lo:u.length < pre.length
 mach:∀TT,R1 .ce D z TT→R1 .cs [] B (bt told++TT)
theorem dd (D:List Nat):(⟨⟨D⟩⟩:Str)++s!"--"=⟨⟨D++[45,45]⟩⟩:=Hm D [45,45]
theorem FW {pre z D:List Nat} {d:Int} (J:pre.length + (33::z).length≤500) (I:LL T B u pre (33::z) D told) (rm:au 100 A) (h7:790≤F) (h8:790≤tl) (ne:tl≠F) {p:Int}
  (C:CS w b F tl G s (cz w b ⟨⟨T⟩⟩ (u.length:Int) p tl ⟨⟨D++[45,45]⟩⟩ 2 d (pre.length:Int) s!"!") told) (hn:∀(s':Shared) (d a:Int) (sg:Str) (pre r D:List Nat) (told:List Str),CI T B u pre r D told→CS w b F tl G s' (cz w b ⟨⟨T⟩⟩ (u.length:Int) (pre.length:Int) tl ⟨⟨D⟩⟩ 2 d a sg) told→r.length < (33::z).length→Q .next s') (hr:Rt w b T B u F tl G Q):
  wpAny (model pg (wb w b)) A (execs bK (bN F)) Q E s:=by
 delta zz w b A s G F tl T B u told Q E pre z D d p at J I rm h7 h8 ne
 have lD:=I.lD
 have lt:=I.lt
 have lo:=I.lo
 have U:=Nat.le_of_add_right_le lD
 have lt1:=Nat.le_of_add_right_le lt
 have e1:T=(pre++[33])++z:=by rw [I.tx,List.append_assoc]; rfl
 have el:((pre++[33]).length:Int)=(pre.length:Int) + 1:=mu 1 rfl
 have lT:(T.length:Int)=((pre++[33]).length:Int) + (z.length:Int):=by rw [e1,List.length_append]; rfl
 have lT5:T.length≤500:=by rw [I.tx,List.length_append]; exact J
 rw [vO]
 refine aQ [ad bK 1,ad bK 2,ad bK 3,ad bK 4] [ad bK 0] (zl rm C.far.top C.fr h7 C.ls ne h8 (gQ lt1 (p5 J)) fun s1 f1 h1 t1=>cp ?_)
 have C1:=C.l (told':=told++[em]) f1 h1 (by rw [cf]; exact t1)
 refine aQ [ad bK 2,ad bK 3,ad bK 4] [ad bK 1] (FB ⟨rm,C1.far.top,C1.fr,h7⟩ el.symm fun s2 f2 h2=>cp ?_)
 have C2:=C1.f ne f2 h2
 have e2:aX ⟨⟨T⟩⟩ (some ((pre++[33]).length:Int)) (some (((pre++[33]).length:Int) + 1))=⟨⟨z.take 1⟩⟩:=sl e1 1 rfl rfl
 cases z with
 | nil=>
  refine gS ic (oD (r:=false) ⟨rm,C2.far.top,C2.fr,h7⟩ rfl e2 (zB _) rfl fun s3 f3 h3=>⟨rfl,bL (cp ?_)⟩)
  have H:=C2.f ne f3 h3
  refine jJ kj (vI (r:=true) (n:=(T.length:Int)) ⟨rm,H.far.top,H.fr,h7⟩ rfl (sf lT5) (by rw [lT]; exact beq_iff_eq.mpr (Int.add_zero _).symm) fun s4 f4 h4=>⟨rfl,?_⟩)
  have C4:=H.f ne f4 h4
  refine FD (CL D 45 45) (fT (Nat.le_trans U (p5 J))) rm C4.far.top C4.fr h7 C4.ls ne h8 (gQ (n:=pre.length) (IM (Nat.le_of_succ_le lt)) (p5 J)) fun t q s5 f5 ht hq g1 g2 g3 g4 g5=>iN (hr s5 t q D (told++[em]++[j6]) (pre++[33]) [] ⟨ht,by rw [cf]; exact hq,e1,jK (Nat.le_of_lt lo),fun TT k=>?_,IM (by rw [List.length_append]; exact Nat.le_trans lt (p5 J)),Nat.le_trans U (p5 J),⟨g1,g2⟩,⟨C4.nF g3,.inr (C4.nF g4)⟩,C4.far.trans f5 fun x hx=>.inl hx⟩)
  rw [←dJ,←dJ]
  exact I.mach _ (zv k)
 | cons c z=>
  by_cases hc:c=62
  ·subst hc
   have e3:T=(pre++[33,62])++z:=by rw [I.tx,List.append_assoc]; rfl
   refine jJ ic (oD (r:=true) ⟨rm,C2.far.top,C2.fr,h7⟩ rfl e2 (zB _) rfl fun s3 f3 h3=>⟨rfl,?_⟩)
   have H:=C2.f ne f3 h3
   refine FC (p1:=((pre++[33,62]).length:Int)) ⟨rm,H.far.top,H.fr,h7⟩ (CL D 45 45) (fT (Nat.le_trans U (p5 J))) (by rw [el,mu 2 rfl]; exact Int.add_assoc _ 1 1) fun t s4 f4 ht g1 g3=>iN (hr s4 t tl D (told++[em]) (pre++[33,62]) z ⟨ht,H.kl ne f4,e3,jK (Nat.le_of_lt lo),fun TT k=>?_,Nat.le_trans (IM (Nat.le_of_succ_le lt)) (p5 J),Nat.le_trans U (p5 J),⟨g1,h8⟩,⟨H.nF g3,.inl rfl⟩,H.kf f4⟩)
   rw [←dJ]
   exact I.mach _ (FQ k)
  ·have h62:(([c]:List Nat) == ([62]:List Nat))=false:=vR hc
   refine gS ic (oD (r:=false) ⟨rm,C2.far.top,C2.fr,h7⟩ rfl e2 (zB _) h62 fun s3 f3 h3=>⟨rfl,bL (cp ?_)⟩)
   have H:=C2.f ne f3 h3
   refine gS kj (vI (r:=false) (n:=(T.length:Int)) ⟨rm,H.far.top,H.fr,h7⟩ rfl (sf lT5) (by rw [lT]; exact beq_false_of_ne (Int.ne_of_lt (Int.lt_add_of_pos_right _ (Int.ofNat_lt.mpr (Nat.succ_pos _))))) fun s4 f4 h4=>⟨rfl,bL (cp ?_)⟩)
   have C4:=H.f ne f4 h4
   have e4:(D++[45,45])++[33]=D++[45,45,33]:=by rw [List.append_assoc]; rfl
   refine FE ⟨rm,C4.far.top,C4.fr,h7⟩ (D1:=⟨⟨D++[45,45,33]⟩⟩) (by rw [←e4]; exact Hm _ _) (fT (pD U J)) fun s5 f5 h5=>hn s5 _ _ _ (pre++[33]) (c::z) (D++[45,45,33]) (told++[em]) ⟨e1,by rw [List.length_append,List.length_append]; exact Nat.succ_le_succ lD,KU lt1,.inr ⟨FV (Nat.le_of_lt lo),fun TT k=>?_⟩⟩ (C4.f ne f5 h5) (Nat.lt_succ_self _)
   rw [←dJ]
   exact I.mach _ (zw hc k)
theorem B2 {pre z D:List Nat} {k:Nat} (X:CX T B u) (I:CI T B u pre (List.replicate (k + 2) 45++z) D told) (hz:∀y,z≠45::y) (rm:au 100 A) (h7:790≤F) (h8:790≤tl) (ne:tl≠F)
  (C:CS w b F tl G s (cz w b ⟨⟨T⟩⟩ (u.length:Int) (pre.length:Int) tl ⟨⟨D⟩⟩ 2 ((k + 2:Nat):Int) ((pre++List.replicate (k + 2) 45).length:Int) ⟨⟨z.take 1⟩⟩) told) (hn:IO w b T B u F tl G (List.replicate (k + 2) 45++z).length Q) (hr:Rt w b T B u F tl G Q):
  wpAny (model pg (wb w b)) A (execs [eO] (bN F)) Q E s:=by
 delta zz w b A s G F tl T B u told Q E pre z D k
 have H:=I.preT X
 have lD:=I.lD
 have lt:=I.lt
 have lo:=I.le
 have cm:=I.com X (fun e=>by cases (List.cons.inj (show 45::45::(List.replicate k 45++z)=[45] from e)).2)
 simp only [List.length_append,List.length_replicate] at H
 have hk:k≤500:=Nat.le_trans (Nat.le_trans (Nat.le_add_right k 2) (Nat.le_trans (Nat.le_add_right _ _) (Nat.le_add_left _ _))) H
 have d0:(((k + 2:Nat):Int) == 0)=false:=KV (a:=0) (Nat.succ_pos _)
 have d1:(((k + 2:Nat):Int) == 1)=false:=KV (a:=1) (Nat.succ_lt_succ (Nat.succ_pos k))
 have dm:((k + 2:Nat):Int) - 2=(k:Int):=Int.add_sub_cancel (k:Int) 2
 refine gS kS (oA (r:=false) ⟨rm,C.far.top,C.fr,h7⟩ d0 fun s1 f1 h1=>⟨rfl,?_⟩)
 have C1:=C.f ne f1 h1
 refine gS p7 (vE (r:=false) ⟨rm,C1.far.top,C1.fr,h7⟩ d1 fun s2 f2 h2=>⟨rfl,?_⟩)
 have C2:=C1.f ne f2 h2
 rw [zC]
 refine aQ [ad b0 1,ad b0 2,ad b0 3,ad b0 4,ad b0 5,fE] [ad b0 0] (Fw rm C2.far.top C2.fr h7 dm rfl (Nat.le_trans hk (by decide)) C2.ls ne h8 (gQ lt (p5 H)) fun s3 f3 h3 t3=>cp ?_)
 have C3:=C2.l (told':=told++List.replicate k fP) f3 h3 (by rw [cf,se]; exact t3)
 refine aQ [ad b0 2,ad b0 3,ad b0 4,ad b0 5,fE] [ad b0 1] (Fx ⟨rm,C3.far.top,C3.fr,h7⟩ dm rfl (Nat.le_trans hk (by decide)) rfl (Hm D (List.replicate k 45)) (fT (by rw [List.length_append,List.length_replicate]; exact Nat.add_le_add (Nat.le_trans lD (Nat.le_trans (Nat.le_add_right _ _) H)) hk)) fun s4 f4 h4=>cp ?_)
 have C4:=C3.f ne f4 h4
 have J:LL T B u (pre++List.replicate (k + 2) 45) z (D++List.replicate k 45) (told++List.replicate k fP):=by
  refine⟨by rw [I.tx,List.append_assoc],by rw [List.length_append,List.length_append,List.length_replicate,List.length_replicate]; exact Nat.add_le_add_right lD (k + 2),by rw [List.length_append,List.length_append,List.length_replicate,List.length_replicate]; exact Nat.add_le_add_right lt (k + 2),by rw [List.length_append,List.length_replicate]; exact Nat.lt_of_le_of_lt lo (Nat.lt_add_of_pos_right (Nat.succ_pos _)),fun TT h=>?_⟩
  rw [gh,List.append_assoc]
  exact cm _ (IJ k h)
 have Kz:(pre++List.replicate (k + 2) 45).length + z.length≤500:=by rw [List.length_append,List.length_replicate,Nat.add_assoc]; exact H
 have ln:(List.replicate (k + 2) 45++z).length=k + 2 + z.length:=by rw [List.length_append,List.length_replicate]
 have rn:IO w b T B u F tl G (z.length + 1) Q:=fun s' sh d a sg pre r D told g1 g2 g3=>hn s' sh d a sg pre r D told g1 g2 (Nat.lt_of_lt_of_le g3 (by rw [ln]; exact Nat.succ_le_of_lt (Nat.lt_add_of_pos_left (Nat.succ_pos _))))
 clear hn cm I H lD lt C C1 C2 C3 lo
 revert C4 J Kz
 generalize pre++List.replicate (k + 2) 45=pa
 generalize D++List.replicate k 45=Da
 generalize told++List.replicate k fP=ta
 intro C4 J H
 have lD:=J.lD
 have lt:=J.lt
 have lo:=J.lo
 have goA:∀{s6:Shared} {d a:Int} {sg:Str} {tb:List Str},CS w b F tl G s6 (cz w b ⟨⟨T⟩⟩ (u.length:Int) (pa.length:Int) tl ⟨⟨Da++[45,45]⟩⟩ 2 d a sg) tb→tb.length≤pa.length→(∀TT,R1 .com (Da++[45,45]) z TT→R1 .cs [] B (bt tb++TT))→Q .next s6:=fun {s6 d a sg tb} C h1 h2=>
  rn s6 2 d a sg pa z (Da++[45,45]) tb ⟨J.tx,by rw [List.length_append]; exact lD,h1,.inr ⟨lo,h2⟩⟩ C (Nat.lt_succ_self _)
 cases z with
 | nil=>
  refine gS jw (oC (r:=false) ⟨rm,C4.far.top,C4.fr,h7⟩ rfl fun s5 f5 h5=>⟨rfl,bL (cp ?_)⟩)
  have U:=C4.f ne f5 h5
  refine jJ mr (vG (r:=true) ⟨rm,U.far.top,U.fr,h7⟩ rfl fun s6 f6 h6=>⟨rfl,?_⟩)
  have C6:=U.f ne f6 h6
  refine Fz rm C6.far.top C6.fr h7 C6.ls ne h8 (gQ (Nat.le_of_add_right_le lt) (p5 H)) fun t q s7 f7 ht hq g1 g2 g3 g4 g5=>iN (iN (iN (hr s7 t q Da (ta++[hU]) pa [] ⟨ht,by rw [cf]; exact hq,J.tx,Nat.le_of_lt lo,fun TT k=>?_,Nat.le_trans (IM (Nat.le_of_succ_le lt)) (p5 H),Nat.le_trans (Nat.le_of_add_right_le lD) (p5 H),⟨g1,g2⟩,⟨C6.nF g3,.inr (C6.nF g4)⟩,C6.far.trans f7 fun x hx=>.inl hx⟩)))
  rw [←dJ]
  exact J.mach _ (FP k)
 | cons c z=>
  have hc:c≠45:=fun e=>hz z (by rw [e])
  by_cases c62:c=62
  ·subst c62
   have e3:T=(pa++[62])++z:=by rw [J.tx,List.append_assoc]; rfl
   refine jJ jw (oC (r:=true) ⟨rm,C4.far.top,C4.fr,h7⟩ rfl fun s5 f5 h5=>⟨rfl,?_⟩)
   have U:=C4.f ne f5 h5
   refine Fy (p1:=((pa++[62]).length:Int)) ⟨rm,U.far.top,U.fr,h7⟩ (mu 1 rfl).symm fun t s6 f6 ht g1 g3=>iN (iN (iN (hr s6 t tl Da ta (pa++[62]) z ⟨ht,U.kl ne f6,e3,jK (Nat.le_of_lt lo),fun TT k=>J.mach _ (IK k),Nat.le_trans (Nat.le_of_add_right_le lt) (p5 H),Nat.le_trans (Nat.le_of_add_right_le lD) (p5 H),⟨g1,h8⟩,⟨U.nF g3,.inl rfl⟩,U.kf f6⟩)))
  ·have n62:(([c]:List Nat) == ([62]:List Nat))=false:=vR c62
   refine gS jw (oC (r:=false) ⟨rm,C4.far.top,C4.fr,h7⟩ n62 fun s5 f5 h5=>⟨rfl,bL (cp ?_)⟩)
   have U:=C4.f ne f5 h5
   refine gS mr (vG (r:=false) ⟨rm,U.far.top,U.fr,h7⟩ rfl fun s6 f6 h6=>⟨rfl,bL (cp ?_)⟩)
   have C6:=U.f ne f6 h6
   refine aQ [fE] [ad b0 4,ad b0 5] (FA ⟨rm,C6.far.top,C6.fr,h7⟩ (dd Da) (fT (pD (Nat.le_of_add_right_le lD) H)) fun s7 f7 h7'=>cp ?_)
   have C7:=C6.f ne f7 h7'
   by_cases c33:c=33
   ·subst c33
    refine jJ p8 (vH (r:=true) ⟨rm,C7.far.top,C7.fr,h7⟩ rfl fun s8 f8 h8'=>⟨rfl,?_⟩)
    have C8:=C7.f ne f8 h8'
    refine FW H J rm h7 h8 ne C8 (fun s' d a sg pre r D told g1 g2 g3=>cp (bL (cp (bL (cp (bL (rn s' 2 d a sg pre r D told g1 g2 (Nat.lt_succ_of_lt g3)))))))) (fun s' t q D told pre r g=>iN (iN (iN (hr s' t q D told pre r g))))
   ·have n33:(([c]:List Nat) == ([33]:List Nat))=false:=vR c33
    refine gS p8 (vH (r:=false) ⟨rm,C7.far.top,C7.fr,h7⟩ n33 fun s8 f8 h8'=>⟨rfl,?_⟩)
    have C8:=C7.f ne f8 h8'
    by_cases c0:c=0
    ·subst c0
     refine gS ms (vJ (r:=false) ⟨rm,C8.far.top,C8.fr,h7⟩ rfl fun s9 f9 h9=>⟨rfl,bL (cp (bL (cp (bL (cp (bL (cp (bL ?_))))))))⟩)
     exact goA (C8.f ne f9 h9) (Nat.le_of_add_right_le lt) fun TT k=>J.mach _ (FR k)
    ·have n0:(([c]:List Nat) != ([0]:List Nat))=true:=by rw [bne,vR c0]; rfl
     refine jJ ms (vJ (r:=true) ⟨rm,C8.far.top,C8.fr,h7⟩ n0 fun s9 f9 h9=>⟨rfl,?_⟩)
     have C9:=C8.f ne f9 h9
     refine zo rm C9.far.top C9.fr h7 C9.ls ne h8 (gQ (Nat.le_of_add_right_le lt) (p5 H)) fun s10 f10 h10 t10=>cp (bL (cp (bL (cp (bL (cp (bL ?_)))))))
     refine goA (tb:=ta++[j7]) (C9.l f10 h10 (by rw [cf]; exact t10)) (IM (Nat.le_of_succ_le lt)) fun TT k=>?_
     rw [←dJ]
     exact J.mach _ (zx c62 c0 c33 hc k)
end
noncomputable section
variable (w:World) (F:Addr) (T:Str) (t:Tok) (y:Nat→Nat→Tok) (z:Nat→Tok) (tb:Nat) (p:Int) (b:Bool)
noncomputable def oE:List an:=oh [] 0x144
noncomputable def FX:az:=aN (vs w b 100) 4000 .out (gN F (Str.ofString "text") (.str T t)) (oE) (fillAll y 0 [(F,bq [])]) tb 0 []
abbrev FY:Prop:=(FX w F T t y tb b).norm [0]=.done (bc [F] (oE) []) (.ok .next) [(F,bq [!["text",.str T 0]])]
theorem FZ:FY w F T t y tb b:=by delta za bh
noncomputable def dY:List an:=oh [] 0x144
noncomputable def mv:az:=aN (vs w b 100) 4000 .out (gN F (Str.ofString "start") (.int p t)) (dY) (fillAll y 0 [(F,bq [!["text",.str T 0]])]) tb 0 []
abbrev mw:Prop:=(mv w F T t y tb p b).norm [0]=.done (bc [F] (dY) []) (.ok .next) [(F,bq [!["text",.str T 0],!["start",.int p 0]])]
theorem iE:mw w F T t y tb p b:=by delta za bh
noncomputable def fp:List an:=oh [] 0x144
noncomputable def mx:az:=aN (vs w b 100) 4000 .out (gN F (Str.ofString "place") (.int p t)) (fp) (fillAll y 0 [(F,bq [!["text",.str T 0]])]) tb 0 []
abbrev my:Prop:=(mx w F T t y tb p b).norm [0]=.done (bc [F] (fp) []) (.ok .next) [(F,bq [!["text",.str T 0],!["place",.int p 0]])]
theorem mz:my w F T t y tb p b:=by delta za bh
end
theorem oG {w:World} {b:Bool} {A:Around} {s:Shared} {F:Addr} {n:Str} {v:Value} {o0 d:Obj} {Q:Unit→Shared→Prop} {E:Value→Shared→Prop} (rm:au 100 A) (tp:aC (vs w b 100) s.heap) (hF:aJ s.heap [(F,o0)]) (h7:790≤F) (orc:List an)
  (hp:∀y tb,(aN (vs w b 100) 4000 .out (gN F n v) orc (fillAll y 0 [(F,o0)]) tb 0 []).norm [0]=.done (bc [F] orc []) (.ok .next) [(F,d)])
  (h:∀s',aH (vs w b 100) [F] s s'→aJ s'.heap [(F,d)]→Q () s'):wpAny (model pg (wb w b)) A (nsSet F n v) Q E s:=by
 refine wpAny_mono (pV (R:=fun r' s'=>r'=.ok .next∧aH (vs w b 100) [F] s s'∧aJ s'.heap [(F,d)]) ?_) (fun f s' z=>h s' z.2.1 z.2.2) (fun e s' z=>(by cases z.1))
 exact aM (V:=vs w b 100) rfl rfl rm tp hF (ak h7) (by simp [keys]) fun y=>⟨4000,orc,bB (sel:=[0]) rfl (hp y _) (fun D G H u=>u fun r' I B P=>⟨bm B,P.far,P.at_⟩)⟩
structure JP (P:Params) (fd:FuncData) (fa cd:Addr) (st:Stmt) (body:List Stmt) (q:Str) (n2:Str) (oc:Obj):Prop where
 co:fd.scope.isCoroutine=false
 gen:fd.scope.isGenerator=false
 body:fd.body=.stmts body
 scope:fd.scope=sS st
 globals:fd.globals=3
 closure:fd.closure=[]
 code:fd.code=.ref cd
 builtins:fd.builtins=0
 qual:(fd.qualname++".<locals>.":Str)=q
 cells:((sS st).names.all fun x=>!(x.2 == NameKind.cell))=true
 kind:(sS st).kind=.function
 l1:(sS st).names.lookup (Str.ofString "text")=some .local
 l2:(sS st).names.lookup n2=some .local
 cdr:∃vs tq,oc.data=.fields vs∧vs[1]?=some (.str fd.qualname tq)
 bind:∀v1 v2,bindArgs fd ⟨[v1,v2],[]⟩=.pure [(Str.ofString "text",v1),(n2,v2)]
theorem ft {n m:Nat} {A:Around} {env:Env} (rm:au n A) (h:n + 10≤m):au m (A.deeper env):=by
 have d:=rm.1
 have u:=rm.2.1
 refine⟨?_,?_,rm.2.2⟩
 ·show A.depth + 1≤_
  omega
 ·show A.units + 3≤_
  omega
theorem kT {w:World} {b:Bool} {A:Around} {s:Shared} {fd:FuncData} {u B:Addr} {st:Stmt} {body:List Stmt} {q U:Str} {oc o:Obj} {R:Result→Shared→Prop} {T:Str} {p:Int} {t1 t2:Tok} {o2:Obj}
  (f:JP (pr w b) fd u B st body q U oc) (hd:o.data=.func fd) (D:aC (vs w b 100) s.heap→s.heap.get? u=some o) (G:aC (vs w b 100) s.heap→s.heap.get? B=some oc) (rm:au 80 A) (tp:aC (vs w b 100) s.heap)
  (d:List an)
  (hp2:∀F y tb,(aN (vs w b 100) 4000 .out (gN F U (.int p t2)) d (fillAll y 0 [(F,bq [!["text",.str T 0]])]) tb 0 []).norm [0]=.done (bc [F] d []) (.ok .next) [(F,o2)])
  (h:∀F s1,s.heap.get? F=none→790≤F→aH (vs w b 100) [] s s1→aJ s1.heap [(F,o2)]→
   wpAny (model pg (wb w b)) (A.deeper ⟨sS st,F,3,[],q,some u,.ref B,some F,0⟩) (execs body ⟨sS st,F,3,[],q,some u,.ref B,some F,0⟩) (fun f s'=>R (.ok (.ret (match f with | .ret v=>v | _=>.none))) s') (fun _ _=>False) s1):
  codeAny (model pg (wb w b)) A (.call (.ref u) ⟨[.str T t1,.int p t2],[]⟩) R s:=by
 delta zz w b A s u B st body q U oc o R T p t1 t2 o2 d at fd f hd D G rm tp
 have hdp:A.depth < recursionLimit:=by have:=rm.1; show A.depth < 1000; omega
 obtain ⟨vs0,tq,e1,e2⟩:=f.cdr
 refine codeAny_call_function hdp (D tp) hd f.co f.gen f.body (by rw [f.code]; exact⟨B,oc,vs0,tq,rfl,G tp,e1,e2⟩) ?_
 rw [f.bind,f.scope,f.qual,f.globals,f.closure,f.code,f.builtins]
 refine wpAny_pure ?_
 simp only [newFunctionEnv,Option.isSome_none,Bool.false_eq_true,if_false]
 refine wpAny_bind (wpAny_alloc ?_)
 rw [forIn_yield_id [] (fun x H c=>by
   obtain ⟨name,kind⟩:=x
   have z:=List.all_eq_true.mp f.cells _ H
   have:(kind == NameKind.cell)=false:=by simpa using z
   simp only [this,Bool.false_eq_true,if_false])]
 refine wpAny_bind (wpAny_pure (wpAny_bind ?_))
 simp only [List.forIn_cons,List.forIn_nil]
 let env:Env:=⟨sS st,s.heap.objs.size,3,[],q,some u,.ref B,some s.heap.objs.size,0⟩
 have hk1:env.kindOf (Str.ofString "text")=some .local:=f.l1
 have hk2:env.kindOf U=some .local:=f.l2
 have hp:(env.scope.kind == .class || (env.scope.kind == .module && env.locals != env.globals))=false:=by
  show((sS st).kind == .class || ((sS st).kind == .module && _))=false
  rw [f.kind]; rfl
 have I:(s.heap.push (bq [])).get? s.heap.objs.size=some (bq []):=Heap.get?_push_size _ rfl
 have J:au 100 A.in1:=room_in rm (by decide)
 have h7:790≤s.heap.objs.size:=tp.2
 refine wpAny_bind (wpAny_bind ?_)
 show wpAny _ _ (storeName env _ _) _ _ _
 rw [storeName_local hk1 hp]
 refine oG (s:={s with heap:=s.heap.push (bq [])}) (o0:=bq []) J (tp.push _) (ak ⟨_,I,rfl⟩) h7 (oE) (fun y tb=>FZ w s.heap.objs.size T t1 y tb b) fun s1 f1 a1=>?_
 refine wpAny_pure (wpAny_bind (wpAny_bind ?_))
 show wpAny _ _ (storeName env _ _) _ _ _
 rw [storeName_local hk2 hp]
 refine oG J f1.top a1 h7 d (hp2 _) fun s2 f2 a2=>?_
 have f0:aH (vs w b 100) [] s {s with heap:=s.heap.push (bq [])}:=⟨fun x o e _=>Heap.get?_push_of_some _ e,rfl,rfl,by show _≤(s.heap.push (bq [])).objs.size; rw [Heap.size_push]; exact Nat.le_succ _,tp.push _⟩
 have ff:aH (vs w b 100) [] s s2:=(f0.trans f1 fun x H=>.inr (by cases List.mem_singleton.mp H; exact cy)).trans f2 fun x H=>.inr (by cases List.mem_singleton.mp H; exact cy)
 refine wpAny_pure (wpAny_pure (wpAny_pure ⟨iW ff.top,codeAny_func ?_⟩))
 exact wpAny_mono (h s.heap.objs.size s2 cy h7 ff a2) (fun _ _ h=>h) (fun _ _ h=>h.elim)
theorem vS:bJ=[ad bJ 0,ad bJ 1,ad bJ 2,ad bJ 3,ad bJ 4,iB,ad bJ 6]:=by kernel_rfl
theorem vT:iB=.While (sE iB) dw [] (sP iB):=by kernel_rfl
theorem vU:ad bJ 3=.If (sE (ad bJ 3)) [ad (sB (ad bJ 3)) 0] [] (sP (ad bJ 3)):=by kernel_rfl
theorem vV:ad bJ 4=.If (sE (ad bJ 4)) [ad (sB (ad bJ 4)) 0] [] (sP (ad bJ 4)):=by kernel_rfl
theorem vW:∀r:List Nat,∃d z,r=List.replicate d 45++z∧∀y,z≠45::y
 | []=>⟨0,[],rfl,fun y h=>by cases h⟩
 | c::r=>by
  by_cases D:c=45
  ·subst D
   delta zn
   obtain ⟨d,z,H,I⟩:=vW r
   delta zm
   exact⟨d + 1,z,by rw [List.replicate_succ,H]; rfl,I⟩
  ·exact⟨0,c::r,rfl,fun y h=>by injection h with h; exact D h⟩
theorem cb {M:Model} {A:Around} {st:Stmt} {env:Env} {rest:List Stmt} {Q:Flow→Shared→Prop} {E:Value→Shared→Prop} {s:Shared} (h:wpAny M A (exec st env) (On M A env rest Q E) E s):wpAny M A (execs (st::rest) env) Q E s:=by
 refine wpAny_execs_cons (wpAny_mono h (fun f s' h=>?_) fun _ _ h=>h)
 cases f with
 | next=>exact h.1 rfl
 | _=>exact h.2 (by intro z; cases z)
section
variable {w:World} {b:Bool} {A:Around} {s G:Shared} {F tl:Addr} {T B u:List Nat} {told:List Str} {Q:Flow→Shared→Prop} {E:Value→Shared→Prop}
theorem F0 {pre r D:List Nat} {sh:Nat} {d a:Int} {sg:Str} (X:CX T B u) (I:CI T B u pre r D told) (h0:r≠[]) (rm:au 100 A) (h7:790≤F) (h8:790≤tl) (ne:tl≠F)
  (C:CS w b F tl G s (cz w b ⟨⟨T⟩⟩ (u.length:Int) (pre.length:Int) tl ⟨⟨D⟩⟩ sh d a sg) told) (H:IO w b T B u F tl G r.length Q) (hr:Rt w b T B u F tl G Q):
  wpAny (model pg (wb w b)) A (execs dw (bN F)) Q E s:=by
 delta zz w b A s G F tl T B u told Q E pre r D sh d a sg
 rw [vN]
 refine aQ [y7,ad dw 2,ad dw 3,eO] [ad dw 0] (Fr ⟨rm,C.far.top,C.fr,h7⟩ fun s1 f1 h1=>cp ?_)
 have C1:=C.f ne f1 h1
 delta zn
 obtain ⟨U,e⟩:∃U,nx sh=U + 1:=by
  cases sh with
  | zero=>exact⟨0,rfl⟩
  | succ n=>exact⟨n,rfl⟩
 rw [e] at C1
 obtain ⟨k,z,hk,hz⟩:=vW r
 delta zm
 have hT:T=pre++(List.replicate k 45++z):=by rw [I.tx,hk]
 refine cb (vP rm h7 ne hT hz C1 fun s2 C2=>cp ?_)
 have hT2:T=(pre++List.replicate k 45)++z:=by rw [hT,List.append_assoc]
 refine aQ [eO] [ad dw 2,ad dw 3] (Fu (a1:=((pre++List.replicate k 45).length:Int)) ⟨rm,C2.far.top,C2.fr,h7⟩ (by simp) rfl (sl hT2 1 rfl rfl) (zB _) fun s3 f3 h3=>cp ?_)
 have J:=C2.f ne f3 h3
 subst hk
 match k,I,J,H,h0 with
 | 0,I,J,H,h0=>
  cases z with
  | nil=>exact absurd rfl h0
  | cons c z=>exact B0 (c:=c) (r1:=z) X I (fun e=>hz z (by rw [e])) rm h7 h8 ne J H
 | 1,I,J,H,h0=>exact B1 X I hz rm h7 h8 ne J H hr
 | k + 2,I,J,H,h0=>exact B2 X I hz rm h7 h8 ne J H hr
theorem F3 {D:List Nat} {H:Nat} {d a:Int} {J:Str} (X:CX T B u) (I:CI T B u u B D told) (rm:au 100 A) (h7:790≤F) (h8:790≤tl) (ne:tl≠F)
  (C:CS w b F tl G s (cz w b ⟨⟨T⟩⟩ (u.length:Int) (u.length:Int) tl ⟨⟨D⟩⟩ H d a J) told)
  (hn:∀(s':Shared) (H:Nat) (d a:Int) (J:Str) (pre D:List Nat) (told:List Str),CI T B u pre [] D told→CS w b F tl G s' (cz w b ⟨⟨T⟩⟩ (u.length:Int) (pre.length:Int) tl ⟨⟨D⟩⟩ H d a J) told→Q .next s') (hr:Rt w b T B u F tl G Q):
  wpAny (model pg (wb w b)) A (exec iB (bN F)) Q E s:=by
 delta zz w b A s G F tl T B u told Q E D H d a J
 rw [vT]
 refine wpAny_While (codeAny_whileLoop (fun n s=>∃(H:Nat) (d a:Int) (J:Str) (pre r D:List Nat) (told:List Str),CI T B u pre r D told∧CS w b F tl G s (cz w b ⟨⟨T⟩⟩ (u.length:Int) (pre.length:Int) tl ⟨⟨D⟩⟩ H d a J) told∧r.length=n) ?_ B.length ⟨H,d,a,J,u,B,D,told,I,C,rfl⟩)
 intro n s1 hZ
 delta zn
 obtain ⟨H,d,a,J,pre,r,D,told,I,C,rfl⟩:=hZ
 delta zm
 have lT:(T.length:Int)=(pre.length:Int) + (r.length:Int):=by rw [I.tx,List.length_append]; push_cast; rfl
 have lp:=X.len
 cases r with
 | nil=>
  refine vD (r:=false) (n:=(T.length:Int)) ⟨rm,C.far.top,C.fr,h7⟩ rfl (by omega) (by rw [lT]; simp) fun U f2 h2=>?_
  exact wpAny_pure (hn U H d a J pre D told I (C.f ne f2 h2))
 | cons c r=>
  refine vD (r:=true) (n:=(T.length:Int)) ⟨rm,C.far.top,C.fr,h7⟩ rfl (by omega) (by rw [lT]; simp; omega) fun U f2 h2=>?_
  show wpAny _ A (execs dw (bN F)) _ _ U
  refine F0 X I (fun z=>by cases z) rm h7 h8 ne (C.f ne f2 h2) (fun s' H d a J pre r' D told g1 g2 g3=>?_) (fun s' t q D told pre r' g=>hr s' t q D told pre r' g)
  exact⟨r'.length,g3,H,d,a,J,pre,r',D,told,g1,g2,rfl⟩
end
noncomputable def F5 (o:Obj):FuncData:=match o.data with
 | .func f=>f
 | _=>default
theorem IP (P:Params):JP P (F5 (jM P)) 774 773 (bo 24 none) bJ "_law_comment.<locals>." (Str.ofString "start") (sQ P):=by
 refine⟨by kernel_rfl,by kernel_rfl,by kernel_rfl,by kernel_rfl,by kernel_rfl,by kernel_rfl,by kernel_rfl,by kernel_rfl,by kernel_rfl,by kernel_rfl,by kernel_rfl,by kernel_rfl,by kernel_rfl,?_,fun d z=>?_⟩
 ·exact⟨_,_,rfl,rfl⟩
 ·rw [PySem.W.ZFast.ze9782568553167038054]
  kernel_rfl
theorem IQ (P:Params):(jM P).data=.func (F5 (jM P)):=by kernel_rfl
structure CR (w:World) (b:Bool) (T B u:List Nat) (s s':Shared) (t q:Addr) (D:List Nat) (told:List Str) (pre r:List Nat):Prop where
 tp:aJ s'.heap [(t,br [.str ⟨⟨D⟩⟩ 0,.ref q,.int (pre.length:Int) 0])]
 ls:dy s'.heap q (aR told)
 tx:T=pre++r
 le:u.length≤pre.length
 mach:∀TT,RD r TT→R1 .cs [] B (bt told++bw D::TT)
 lt:told.length≤1000
 lD:D.length≤1000
 h7:790≤t∧790≤q
 fresh:s.heap.get? t=none∧s.heap.get? q=none∧t≠q
 far:aH (vs w b 100) [] s s'
section
variable {w:World} {b:Bool} {A:Around} {s:Shared} {T B u:List Nat} {H G:Tok}
theorem kU {h:Heap} {q:Addr} {L:List Value} (a:aJ h [(q,aV L)]):dy h q L:=by
 obtain ⟨o,d,z⟩:=a _ (.head _)
 obtain ⟨l,n,rfl,D⟩:=bI z
 exact⟨l,n,d,D⟩
theorem CM {B:List Nat} (n:Nat) (l:List Nat) (h:∀z,B≠l++z):(B.take n == l)=false:=beq_false_of_ne fun e=>h (B.drop n) ((List.take_append_drop n B).symm.trans (by rw [e]))
theorem oH (tx:T=u++B) (nc:NC B) (len:T.length≤500) (rm:au 80 A) (tp:aC (vs w b 100) s.heap):
  codeAny (model pg (wb w b)) A (.call (.ref 774) ⟨[.str ⟨⟨T⟩⟩ H,.int (u.length:Int) G],[]⟩) (fun res s'=>∃t q D told pre r,res=.ok (.ret (.ref t))∧CR w b T B u s s' t q D told pre r) s:=by
 delta zz w b A s T B u H G
 refine kT (o:=jM (pr w b)) (IP (pr w b)) (IQ _) (fun tp=>tp.1 774 _ (show 774 < 790 by decide) rfl) (fun tp=>tp.1 773 _ (show 773 < 790 by decide) rfl) rm tp (dY) (o2:=bq [!["text",.str ⟨⟨T⟩⟩ 0],!["start",.int (u.length:Int) 0]]) (fun F y tb=>iE w F ⟨⟨T⟩⟩ G y tb (u.length:Int) b) fun F s1 fF h7 f1 a1=>?_
 have J:au 100 (A.deeper (bN F)):=ft rm (by decide)
 show wpAny _ (A.deeper (bN F)) (execs bJ (bN F)) _ _ s1
 generalize A.deeper (bN F)=A1 at J
 have lT:T.length=u.length + B.length:=by rw [tx,List.length_append]
 rw [vS]
 refine aQ [ad bJ 3,ad bJ 4,iB,ad bJ 6] [ad bJ 0,ad bJ 1,ad bJ 2] (FH ⟨J,f1.top,a1,h7⟩ fun tl s2 f2 a2 b2 h8 fr2 ne=>cp ?_)
 have nt:s.heap.get? tl=none:=(f1.old fr2).resolve_left List.not_mem_nil
 have C2:CS w b F tl s2 s2 (cz w b ⟨⟨T⟩⟩ (u.length:Int) (u.length:Int) tl ⟨⟨[]⟩⟩ 0 0 0 ⟨⟨[]⟩⟩) []:=⟨a2,kU b2,⟨fun _ _ e _=>e,rfl,rfl,Nat.le_refl _,f2.top⟩⟩
 have toS:∀{s':Shared},aH (vs w b 100) [F,tl] s2 s'→aH (vs w b 100) [] s s':=fun f=>(f1.trans f2 (ak (.inr fF))).trans f (ag (.inr fF) (ak (.inr nt)))
 have old2:∀x,s2.heap.get? x=none→s.heap.get? x=none:=fun x hx=>((toS C2.far).old hx).resolve_left List.not_mem_nil
 have fin:∀(s':Shared) (t q:Addr) (D:List Nat) (told:List Str) (pre r:List Nat),IN w b T B u F tl s2 s' t q D told pre r→∃t' q D told pre r,(Except.ok (Flow.ret (.ref t)):Result)=.ok (.ret (.ref t'))∧CR w b T B u s s' t' q D told pre r:=fun s' t q D told pre r g=>by
  have htq:t≠q:=fun z=>by
   obtain ⟨o,h1,h2⟩:=g.tp _ (.head _)
   obtain ⟨l,n,h3,_⟩:=g.ls
   rw [←z,show s'.heap.get? t=some o from h1] at h3
   injection h3 with h3
   rw [h3] at h2
   have:=congrArg Obj.cls h2
   have z2:(Value.type "list")=.type "tuple":=this
   injection z2 with z2
   exact absurd z2 (by decide)
  have hq:s.heap.get? q=none:=by
   rcases g.fresh.2 with h | h
   ·rw [h]; exact nt
   ·exact old2 q h
  exact⟨t,q,D,told,pre,r,rfl,⟨g.tp,g.ls,g.tx,g.le,g.mach,g.lt,g.lD,g.h7,⟨old2 t g.fresh.1,hq,htq⟩,toS g.far⟩⟩
 have l1:((u.length:Nat):Int) + 1=(u.length:Int) + ((1:Nat):Int):=rfl
 have l2:((u.length:Nat):Int) + 2=(u.length:Int) + ((2:Nat):Int):=rfl
 have k2:Str.length ⟨⟨B.take 2⟩⟩≤sizeLine:=pZ (Nat.le_trans (List.length_take_le ..) (by decide))
 by_cases g1:∃z,B=62::z
 ·refine g1.elim fun z e0=>?_
  have e1:T=(u++[62])++z:=by rw [tx,e0,List.append_assoc]; rfl
  refine jJ vU (vK (r:=true) ⟨J,C2.far.top,C2.fr,h7⟩ l1 (sl tx 1 rfl rfl) (zB _) (by rw [e0]; rfl) fun s3 f3 h3=>⟨rfl,?_⟩)
  have U:=C2.f ne f3 h3
  exact FJ (p1:=((u++[62]).length:Int)) ⟨J,U.far.top,U.fr,h7⟩ (mu 1 rfl).symm fun t q s4 f4 ht hq g1 g2 g3 g4 g5=>iN (fin s4 t q [] [iK] (u++[62]) z ⟨ht,kU hq,e1,jK (Nat.le_refl _),fun TT k=>by rw [e0]; exact IL k,Nat.le_of_ble_eq_true rfl,Nat.zero_le _,⟨g1,g2⟩,⟨U.nF g3,.inr (U.nF g4)⟩,U.kf f4⟩)
 ·have n1:((B.take 1) == ([62]:List Nat))=false:=CM 1 [62] fun z e=>g1 ⟨z,e⟩
  refine gS vU (vK (r:=false) ⟨J,C2.far.top,C2.fr,h7⟩ l1 (sl tx 1 rfl rfl) (zB _) n1 fun s3 f3 h3=>⟨rfl,bL (cp ?_)⟩)
  have U:=C2.f ne f3 h3
  by_cases g2:∃z,B=45::62::z
  ·refine g2.elim fun z e0=>?_
   have e1:T=(u++[45,62])++z:=by rw [tx,e0,List.append_assoc]; rfl
   refine jJ vV (vL (r:=true) ⟨J,U.far.top,U.fr,h7⟩ l2 (sl tx 2 rfl rfl) k2 (by rw [e0]; rfl) fun s4 f4 h4=>⟨rfl,?_⟩)
   have C4:=U.f ne f4 h4
   exact FK (p1:=((u++[45,62]).length:Int)) ⟨J,C4.far.top,C4.fr,h7⟩ (mu 2 rfl).symm fun t q s5 f5 ht hq g1 g2 g3 g4 g5=>iN (fin s5 t q [] [iK] (u++[45,62]) z ⟨ht,kU hq,e1,jK (Nat.le_refl _),fun TT k=>by rw [e0]; exact FS k,Nat.le_of_ble_eq_true rfl,Nat.zero_le _,⟨g1,g2⟩,⟨C4.nF g3,.inr (C4.nF g4)⟩,C4.kf f5⟩)
  ·have n2:((B.take 2) == ([45,62]:List Nat))=false:=CM 2 [45,62] fun z e=>g2 ⟨z,e⟩
   refine gS vV (vL (r:=false) ⟨J,U.far.top,U.fr,h7⟩ l2 (sl tx 2 rfl rfl) k2 n2 fun s4 f4 h4=>⟨rfl,bL (cp ?_)⟩)
   have C4:=U.f ne f4 h4
   have X:CX T B u:=⟨tx,nc,fun z e=>g1 ⟨z,e⟩,fun z e=>g2 ⟨z,e⟩,len⟩
   have I0:CI T B u u B [] []:=⟨tx,Nat.zero_le _,Nat.zero_le _,.inl ⟨rfl,rfl,rfl⟩⟩
   refine cb (F3 X I0 J h7 h8 ne C4 (fun s5 sh d a sg pre D told I C5=>cp ?_) fun s5 t q D told pre r g=>iN (fin s5 t q D told pre r g))
   have lp:=I.preT X
   refine FG J C5.far.top C5.fr h7 C5.ls ne h8 (gQ I.lt (p5 lp)) fun t q s6 f6 ht hq g1 g2 g3 g4 g5=>fin s6 t q D (told++[cO]) pre [] ⟨ht,by rw [cf]; exact hq,I.tx,I.le,fun TT k=>?_,pD I.lt lp,Nat.le_trans I.lD (p5 lp),⟨g1,g2⟩,⟨C5.nF g3,.inr (C5.nF g4)⟩,C5.far.trans f6 fun x hx=>.inl hx⟩
   rw [←dJ]
   exact I.com X (fun z=>by cases z) _ (zu k)
end
section
variable {V:Vs} {K:List Addr} {L0 L1:List aw} {acc it:Addr} {s d:Shared} {prog:Program} {I:World} {D:Around} {B:Code} {l:List Value} {J:Value} {G:Result→List aw→List aw→Shared→Prop}
theorem cX (a c:List aw):keys (a++c)=keys a++keys c:=List.map_append
theorem iX (P:aD V s K d (L0++[(acc,aV (ae l))])):∀p∈L0,p.1≠acc:=fun p hp e=>by
 have nd:=P.nd
 rw [cX] at nd
 exact(List.nodup_append.mp nd).2.2 p.1 (List.mem_map_of_mem hp) acc (.head _) e
theorem kW (P:aD V s K d (L0++[(acc,aV (ae l))])):∃u en,d.heap.get? acc=some (ah u en)∧ae u=ae l:=by
 delta zn
 obtain ⟨o,g1,g2⟩:=P.at_ (acc,aV (ae l)) (List.mem_append_right _ (.head _))
 obtain ⟨u,en,rfl,z⟩:=bI g2
 delta zm
 exact⟨u,en,g1,z⟩
theorem gj {l u:List Value} (h:ae u=ae l):u.length=l.length:=by rw [←aB u,h,aB]
theorem p9 (hc:ao B=.call (.builtin "list.append") ⟨[.ref acc,J],[]⟩) (P:aD V s K d (L0++[(acc,aV (ae l))])) (hl:l.length≤1000000)
  (k:∀l1 U s2,ae l1=ae l++[J]→aH V K s s2→Heap.SameBut acc d.heap s2.heap→G (.ok (.ret .none)) L0 [(acc,ah l1 U)] s2):
  codeAny (model prog I) D B (mV V G) d:=by
 delta zn
 obtain ⟨pos,rfl,hp⟩:=av hc
 obtain ⟨v,u,rfl,h1,h2⟩:=eA hp
 cases bb h1
 obtain ⟨l',en,g1,el⟩:=kW P
 delta zm
 have ln:=gj el
 have z:(1000000:Nat)≤sizeLine:=by decide
 have h7:=P.hi (acc,aV (ae l)) (List.mem_append_right _ (.head _))
 refine gL g1 (by omega) fun h' n' q1 H=>⟨.ok (.ret .none),L0,[(acc,ah (l'++[u]) n')],rfl,?_,ak q1,P.top.same H h7,?_,?_,k _ _ _ ?_ ?_ H⟩
 ·exact fun p hp=>by
   delta zn
   obtain ⟨o,q3,q4⟩:=P.at_ p (List.mem_append_left _ hp)
   delta zm
   exact⟨o,(H.2 p.1 (iX P p hp)).trans q3,q4⟩
 ·intro p hp
  rcases List.mem_append.mp hp with hp | hp
  ·exact P.hi p (List.mem_append_left _ hp)
  ·cases List.mem_singleton.mp hp; exact h7
 ·have nd:=P.nd
  rw [cX] at nd ⊢
  exact nd
 ·rw [bM,el]; show _++[ai u]=_; rw [h2]
 ·exact P.far.trans (K':=[acc]) ⟨fun x o e hx=>(H.2 x (by simpa using hx)).trans e,rfl,rfl,by show _≤h'.objs.size; rw [H.1]; exact Nat.le_refl _,P.top.same H h7⟩ fun x hx=>by
   cases List.mem_singleton.mp hx
   exact P.own' acc (by rw [cX]; exact List.mem_append_right _ (.head _))
theorem vX {O O':Obj} {v v':Value} (hv:ai v'=v) (P:aD V s K d (((it,O)::L1)++[(acc,aV (ae l))]))
  (raw:∀R:Result→Shared→Prop,(∀U tk,U.get? it=some O'→Heap.SameBut it d.heap U→R (.ok (.ret v')) {d with heap:=U,toks:=tk})→codeAny (model prog I) D B R d)
  (k:∀l1 en1 s2,ae l1=ae l→aH V K s s2→Heap.SameBut it d.heap s2.heap→G (.ok (.ret v)) ((it,aI O')::L1) [(acc,ah l1 en1)] s2):
  codeAny (model prog I) D B (mV V G) d:=by
 delta zn
 obtain ⟨l',en,g1,el⟩:=kW P
 delta zm
 have u:V.n₁≤it:=P.hi' 0 rfl
 have nit:it≠acc:=iX P _ (.head _)
 have nd:=P.nd
 rw [cX] at nd
 have nd1:=List.nodup_cons.mp (show(it::keys L1).Nodup from(List.nodup_append.mp nd).1)
 refine raw _ fun U tk q1 H=>⟨.ok (.ret v),(it,aI O')::L1,[(acc,ah l' en)],?_,?_,ak ((H.2 acc fun z=>nit z.symm).trans g1),P.top.same H u,?_,?_,k _ _ _ el ?_ H⟩
 ·show Except.ok (Flow.ret (ai v'))=Except.ok (Flow.ret (ai v))
  rw [←hv]
  cases v' <;> rfl
 ·refine ag ⟨_,q1,rfl⟩ fun p hp=>?_
  delta zn
  obtain ⟨o,q3,q4⟩:=P.at_ p (List.mem_append_left _ (.tail _ hp))
  delta zm
  exact⟨o,(H.2 p.1 fun z=>nd1.1 (z▸List.mem_map_of_mem hp)).trans q3,q4⟩
 ·intro p hp
  rcases List.mem_append.mp hp with hp | hp
  ·rcases List.mem_cons.mp hp with rfl | hp
   ·exact u
   ·exact P.hi p (List.mem_append_left _ (.tail _ hp))
  ·cases List.mem_singleton.mp hp; exact P.hi (acc,aV (ae l)) (List.mem_append_right _ (.head _))
 ·rw [cX]; exact nd
 ·exact P.far.trans (K':=[it]) ⟨fun x o e hx=>(H.2 x (by simpa using hx)).trans e,rfl,rfl,by show _≤U.objs.size; rw [H.1]; exact Nat.le_refl _,P.top.same H u⟩ fun x hx=>by
   cases List.mem_singleton.mp hx
   exact P.own' it (.head _)
noncomputable def mA (a:Addr):Obj:=fld (.type "StopIteration") [.ref a,.none,.none,.none,.bool false,.none]
theorem CN {O O':Obj} (ho:d.heap.get? it≠none) (P:aD V s K d (((it,O)::L1)++[(acc,aV (ae l))]))
  (raw:∀R:Result→Shared→Prop,(∀u,u.get? it=some O'→Heap.SameBut it d.heap u→R (.error (.ref (u.push (br [])).objs.size)) {d with heap:=(u.push (br [])).push (mA u.objs.size)})→codeAny (model prog I) D B R d)
  (k:∀l1 en1 e1 e2 s2,ae l1=ae l→aH V K s s2→(e1∈K∨s.heap.get? e1=none)→(e2∈K∨s.heap.get? e2=none)→G (.error (.ref e1)) ((it,aI O')::(e1,mA e2)::(e2,br [])::L1) [(acc,ah l1 en1)] s2):
  codeAny (model prog I) D B (mV V G) d:=by
 delta zn
 obtain ⟨l',en,g1,el⟩:=kW P
 delta zm
 have H:V.n₁≤it:=P.hi' 0 rfl
 have nit:it≠acc:=iX P _ (.head _)
 have nd:=P.nd
 have lt:=tS P.at_
 refine raw _ fun u q1 U=>?_
 have F1:aH V K s {d with heap:=u}:=P.far.trans (K':=[it]) ⟨fun x o e hx=>(U.2 x (by simpa using hx)).trans e,rfl,rfl,by show _≤u.objs.size; rw [U.1]; exact Nat.le_refl _,P.top.same U H⟩ fun x hx=>by
  cases List.mem_singleton.mp hx
  exact P.own' it (.head _)
 have z1:(u.push (br [])).objs.size=u.objs.size + 1:=Heap.size_push ..
 have T:=P.top.same U H
 have lt':∀a∈keys (((it,O)::L1)++[(acc,aV (ae l))]),a < u.objs.size:=fun a ha=>by rw [U.1]; exact lt a ha
 rw [cX] at nd lt'
 have nd1:=List.nodup_cons.mp (show(it::keys L1).Nodup from(List.nodup_append.mp nd).1)
 refine⟨_,(it,aI O')::((u.push (br [])).objs.size,mA u.objs.size)::(u.objs.size,br [])::L1,[(acc,ah l' en)],rfl,?_,?_,(T.push _).push _,?_,?_,
  k _ _ _ _ _ el (aH.push (s₁:={d with heap:=u.push (br [])}) (F1.push (br []) _ d.toks rfl) _ _ d.toks rfl) (F1.old (Heap.get?_none_of_le (by rw [z1]; exact Nat.le_succ _))) (F1.old (da _))⟩
 ·refine ag ⟨_,Heap.get?_push_of_some _ (Heap.get?_push_of_some _ q1),rfl⟩ (ag ⟨_,Heap.get?_push_size _ rfl,rfl⟩ (ag ⟨_,Heap.get?_push_of_some _ (Heap.get?_push_size _ rfl),rfl⟩ fun p hp=>?_))
  delta zn
  obtain ⟨o,q3,q4⟩:=P.at_ p (List.mem_append_left _ (.tail _ hp))
  delta zm
  exact⟨o,Heap.get?_push_of_some _ (Heap.get?_push_of_some _ ((U.2 p.1 fun z=>nd1.1 (z▸List.mem_map_of_mem hp)).trans q3)),q4⟩
 ·exact ak (Heap.get?_push_of_some _ (Heap.get?_push_of_some _ ((U.2 acc fun z=>nit z.symm).trans g1)))
 ·intro p hp
  rcases List.mem_append.mp hp with hp | hp
  ·refine ag (p:=fun p:aw=>V.n₁≤p.1) H (ag (p:=fun p:aw=>V.n₁≤p.1) ?_ (ag (p:=fun p:aw=>V.n₁≤p.1) T.2 fun p hp=>P.hi p (List.mem_append_left _ (.tail _ hp)))) p hp
   show _≤(u.push (br [])).objs.size
   rw [z1]; exact Nat.le_succ_of_le T.2
  ·cases List.mem_singleton.mp hp; exact P.hi (acc,aV (ae l)) (List.mem_append_right _ (.head _))
 ·rw [cX]
  show(it::(u.push (br [])).objs.size::u.objs.size::(keys L1++[acc])).Nodup
  have x9:(keys L1++[acc]).Nodup:=(List.nodup_cons.mp (show(it::(keys L1++[acc])).Nodup from nd)).2
  have nit3:it∉keys L1++[acc]:=(List.nodup_cons.mp (show(it::(keys L1++[acc])).Nodup from nd)).1
  have l3:∀a∈keys L1++[acc],a < u.objs.size:=fun a ha=>lt' a (List.mem_cons_of_mem _ ha)
  have l0:it < u.objs.size:=lt' it (.head _)
  rw [z1]
  refine List.nodup_cons.mpr ⟨fun h=>?_,List.nodup_cons.mpr ⟨fun h=>?_,List.nodup_cons.mpr ⟨fun h=>Nat.lt_irrefl _ (l3 _ h),x9⟩⟩⟩
  ·rcases List.mem_cons.mp h with e | h
   ·rw [e] at l0; exact Nat.lt_irrefl _ (Nat.lt_trans (Nat.lt_succ_self _) l0)
   ·rcases List.mem_cons.mp h with e | h
    ·rw [e] at l0; exact Nat.lt_irrefl _ l0
    ·exact nit3 h
  ·rcases List.mem_cons.mp h with e | h
   ·exact Nat.succ_ne_self _ e
   ·exact Nat.lt_irrefl _ (Nat.lt_trans (Nat.lt_succ_self _) (l3 _ h))
theorem mB {R:Str} {t:Tok} {i c:Nat} (U:ao B=.call (.builtin "str_ascii_iterator.__next__") ⟨[.ref it],[]⟩) (P:aD V s K d (((it,aT R t i)::L1)++[(acc,aV (ae l))])) (hx:R.cps[i]?=some c)
  (k:∀l1 z H,ae l1=ae l→aH V K s H→Heap.SameBut it d.heap H.heap→G (.ok (.ret (.str ⟨⟨[c]⟩⟩ 0))) ((it,aT R t ((i + 1:Nat):Int))::L1) [(acc,ah l1 z)] H):
  codeAny (model prog I) D B (mV V G) d:=by
 delta zn
 obtain ⟨pos,rfl,hp⟩:=av U
 obtain ⟨u,rfl,h1⟩:=mN hp
 cases bb h1
 obtain ⟨o,ho,eo⟩:=P.get 0 rfl
 cases (dA eo)
 delta zm
 exact vX (O':=aT R t ((i + 1:Nat):Int)) (v':=.str ⟨⟨[c]⟩⟩ d.toks) rfl P (fun R' h=>pq ho hx fun h' q1 q2=>h h' _ q1 q2) k
theorem zD {R:Str} {t:Tok} {i:Nat} (hh:D.handled=none) (hc:ao B=.call (.builtin "str_ascii_iterator.__next__") ⟨[.ref it],[]⟩) (P:aD V s K d (((it,aT R t i)::L1)++[(acc,aV (ae l))])) (hx:R.cps[i]?=none)
  (k:∀l1 U e1 H s2,ae l1=ae l→aH V K s s2→(e1∈K∨s.heap.get? e1=none)→(H∈K∨s.heap.get? H=none)→G (.error (.ref e1)) ((it,fld (.type "str_ascii_iterator") [.none,.int i 0])::(e1,mA H)::(H,br [])::L1) [(acc,ah l1 U)] s2):
  codeAny (model prog I) D B (mV V G) d:=by
 delta zn
 obtain ⟨pos,rfl,hp⟩:=av hc
 obtain ⟨u,rfl,h1⟩:=mN hp
 cases bb h1
 obtain ⟨o,ho,eo⟩:=P.get 0 rfl
 cases (dA eo)
 delta zm
 exact CN (O':=fld (.type "str_ascii_iterator") [.none,.int i 0]) (by rw [show d.heap.get? it=some (aT R t i) from ho]; exact fun z=>by cases z) P (fun R' h=>tR hh ho hx fun h' q1 q2=>h h' q1 q2) k
end
theorem oI {w:World} {b:Bool} {A:Around} {s:Shared} {n:Nat} {F:Addr} {fr:Obj} {env:Env} {l:List Stmt} (U:Flow→List aw→Prop) {Q:Flow→Shared→Prop} {E:Value→Shared→Prop} (h4:Nat.ble (vs w b n).room 440=true) (rm:au n A) (tp:aC (vs w b n) s.heap) (hF:aJ s.heap [(F,fr)]) (h7:790≤F)
  (hfl:∀u N,U u N→∃t,u=.ret (.ref t))
  (H:∀R:Result→Shared→Prop,(∀u N r' s',U u N→ba r'=.ok u→aD (vs w b n) s [F] s' N→R r' s')→∀y,eJ (vs w b n) ⟨pg,wb w b,A,R,s,[F]⟩ .out (aO l env) (fillAll y 0 [(F,fr)]) s.toks)
  (h:∀u N s',U u N→aD (vs w b n) s [F] s' N→Q u s'):wpAny (model pg (wb w b)) A (execs l env) Q E s:=by
 refine wpAny_mono (aP (R:=fun r' s'=>∃u N,r'=.ok u∧U u N∧aD (vs w b n) s [F] s' N) ?_) (fun f s' z=>?_) (fun e s' z=>(by obtain ⟨u,N,z,_⟩:=z; cases z))
 ·refine aM (V:=vs w b n) rfl h4 rm tp hF (ak h7) (by simp [keys]) (H _ fun u N r' s' ok hr P=>⟨u,N,?_,ok,P⟩)
  delta zn
  obtain ⟨t,rfl⟩:=hfl u N ok
  delta zm
  exact dX hr
 ·obtain ⟨u,N,e,ok,P⟩:=z
  injection e with e
  rw [e]
  exact h u N s' ok P
section
variable {prog:Program} {w:World}
theorem zE {A:Around} {s:Shared} {it q:Addr} {l:List Value} {n i:Nat} {x:Value} {R:Result→Shared→Prop} (u:s.heap.get? it=some (gv q i)) (U:s.heap.get? q=some (ah l n)) (hx:l[i]?=some x)
  (h:∀z:Heap,z.get? it=some (gv q ((i + 1:Nat):Int))→Heap.SameBut it s.heap z→R (.ok (.ret x)) {s with heap:=z}):
  codeAny (model prog w) A (.call (.builtin "list_iterator.__next__") ⟨[.ref it],[]⟩) R s:=by
 have hd:(gv q i).data=.fields #[.ref q,.int i 0]:=rfl
 refine cx slot_listiter_next ⟨_,u,rfl⟩ entry_listiter_next (args_listiter_next _) ?_
 show wpAny _ _ (field (.ref it) 0 >>=_) _ _ s
 refine wpAny_bind (wpAny_field u hd (x:=.ref q) rfl ?_)
 show wpAny _ _ (if (Value.ref q == Value.none)=true then _ else _) _ _ s
 rw [if_neg (show ¬((Value.ref q == Value.none)=true) from Bool.false_ne_true)]
 show wpAny _ _ (field (.ref it) 1 >>=_) _ _ s
 refine wpAny_bind (wpAny_field u hd (x:=.int i 0) rfl ?_)
 show wpAny _ _ (seqItems? (.ref q) >>=_) _ _ s
 refine wpAny_bind (wpAny_seqItems (items:=⟨l⟩) U rfl ?_)
 have H:(⟨l⟩:Array Value)[i]?=some x:=by simpa using hx
 simp only [Int.toNat_natCast,H]
 refine wpAny_bind (wpAny_setField u hd (by simp) (wpAny_pure ⟨x,rfl,h _ ?_ (Heap.SameBut.update ..)⟩))
 have e:=Heap.get?_update_self (fun o=>Obj.mapFields (fun vs=>vs.setIfInBounds 1 (rawInt ((i:Int) + 1))) o) u (Obj.isFreed_of_fields (Obj.data_mapFields hd _))
 first
  | exact e
  | (rw [e]; simp [gv,fld,Obj.mapFields,rawInt])
theorem F6 {A:Around} {s:Shared} {it q:Addr} {l:List Value} {n i:Nat} {R:Result→Shared→Prop} (U:A.handled=none) (u:s.heap.get? it=some (gv q i)) (hl:s.heap.get? q=some (ah l n)) (hx:l[i]?=none)
  (h:∀z:Heap,z.get? it=some (fld (.type "list_iterator") [.none,.int i 0])→Heap.SameBut it s.heap z→R (.error (.ref (z.push (br [])).objs.size)) {s with heap:=(z.push (br [])).push (mA z.objs.size)}):
  codeAny (model prog w) A (.call (.builtin "list_iterator.__next__") ⟨[.ref it],[]⟩) R s:=by
 have hd:(gv q i).data=.fields #[.ref q,.int i 0]:=rfl
 refine cx slot_listiter_next ⟨_,u,rfl⟩ entry_listiter_next (args_listiter_next _) ?_
 show wpAny _ _ (field (.ref it) 0 >>=_) _ _ s
 refine wpAny_bind (wpAny_field u hd (x:=.ref q) rfl ?_)
 show wpAny _ _ (if (Value.ref q == Value.none)=true then _ else _) _ _ s
 rw [if_neg (show ¬((Value.ref q == Value.none)=true) from Bool.false_ne_true)]
 show wpAny _ _ (field (.ref it) 1 >>=_) _ _ s
 refine wpAny_bind (wpAny_field u hd (x:=.int i 0) rfl ?_)
 show wpAny _ _ (seqItems? (.ref q) >>=_) _ _ s
 refine wpAny_bind (wpAny_seqItems (items:=⟨l⟩) hl rfl ?_)
 have H:(⟨l⟩:Array Value)[i]?=none:=by simpa using hx
 simp only [Int.toNat_natCast,H]
 refine wpAny_bind (wpAny_rule (wpAny_bind (wpAny_setField u hd (by simp) ?_)))
 show wpAny _ _ (newExc (.type "StopIteration") [] >>=_) _ _ _
 refine wpAny_bind ?_
 simp only [newExc,newTuple]
 refine wpAny_bind (wpAny_newObj_type ?_ (by size_fits))
 refine wpAny_bind (m:=firstArgMember _ _) (wpAny_of_eq (a:=Value.none) (by first | rfl | (simp only [firstArgMember]; rfl)) ?_)
 refine wpAny_newObj_type ?_ (by size_fits)
 simp only [raiseNew]
 refine wpAny_bind (wpAny_handled ?_)
 rw [show A.in1.handled=none from U]
 refine wpAny_bind (wpAny_pure (wpAny_throw ?_))
 refine h _ ?_ (Heap.SameBut.update ..)
 have e:=Heap.get?_update_self (fun o=>Obj.mapFields (fun vs=>vs.setIfInBounds 0 .none) o) u (Obj.isFreed_of_fields (Obj.data_mapFields hd _))
 first
  | exact e
  | (rw [e]; simp [gv,fld,Obj.mapFields,rawInt])
end
noncomputable section
variable (w:World) (T:Str) (e n:Int) (F:Addr) (st:Int) (y:Nat→Nat→Tok) (tb:Nat) (R:Str) (e1:Int) (ia:Addr) (R2 sg:Str) (l:List Value) (d:Nat) (t:Tok) (b1:Addr) (D:Nat→Nat→Tok) (U:Tok) (y0:Nat→Nat→Tok) (u:Nat) (B G:Addr) (t1:Tok) (y1:Nat→Nat→Tok) (J:Nat) (t2:Tok) (y2:Nat→Nat→Tok) (tb2:Nat) (q r b:Bool)
noncomputable def F7:List an:=oh [fun ks=>cI T n,fun ks=>sH e n false] 0x1069f068f4004
noncomputable def zF:List an:=oh [fun ks=>cI T n,fun ks=>sH e n true,fun ks=>c5 T e R,fun ks=>Hi R s!">" true] 0x106bf06af44069f068f4004
noncomputable def zG:List an:=oh [fun ks=>cI T n,fun ks=>sH e n true,fun ks=>c5 T e R,fun ks=>Hi R s!">" false] 0x106bf06af44069f068f4004
noncomputable def F8:List an:=oh [fun ks=>aY e 1 e1] 0x144068f4
noncomputable def F9:List an:=oh [] 0x1444
noncomputable def fD (z:Nat):List an:=oh [fun ks=>bs (dL ks 1) 1 T (.int st 0) (.int e 0) R,fun ks=>aY e 1 e1,fun ks=>cI T n,fun ks=>sH n e1 r] z
noncomputable def qa:Nat:=match q,r with
 | true,false=>0x177796656666706bf6656666777766566667655506af400069f4005e0f555478f45e0f068f444
 | true,true=>0x177796656666777706bf6656666777766566667655506af400069f4005e0f555478f45e0f068f444
 | false,false=>0x177796656666706bf6656666777766566667655506af400069f4005e0f5478f45e0f068f444
 | false,true=>0x177796656666777706bf6656666777766566667655506af400069f4005e0f5478f45e0f068f444
noncomputable def iY:az:=aN (vs w b 100) 4000 .out (aO [ad eN 2] (ju F)) (fD T e n st R e1 r (qa q r)) (fillAll y 0 [(F,(iL w b T st e true))]) tb 0 []
abbrev si:Prop:=(iY w T e n F st y tb R e1 q r b).norm [0]=.more fun b1=>.sum (bs b1 1 T (.int st 0) (.int e 0) R) [b1] fun D=>.call 500 (bc [F,b1] (fD T e n st R e1 r 0x1068f444) []) (.call (.builtin "str.__iter__") ⟨[.str R 0],[]⟩) [(F,(iL w b T st e true))] fun _ _ _=>.failW ""
theorem sj:si w T e n F st y tb R e1 q r b:=by delta za zc
abbrev sk:Prop:=((((iY w T e n F st y tb R e1 q r b).nm b1).ns D).nc (aA U (.ok (.ret (.ref ia)))) (fillAll y0 0 [(ia,aT R t 0),(F,(iL w b T st e true))]) u).norm [0,1,2,3]=.more fun B=>.more fun G=>.call 140 (bc [ia,F,B,G] (fD T e n st R e1 r 0x14) []) (ov F G ia B) [(ia,fld (.type "str_ascii_iterator") [(.str R t),(.int 0 0)]),(F,(iL w b T st e true)),(B,aV []),(G,fI [])] fun _ _ _=>.failW ""
theorem sn:sk w T e n F st y tb R e1 ia t b1 D U y0 u q r b:=by delta za zc
noncomputable def so:List an:=fD T e n st R e1 r (match q with
 | true=>0x1555
 | false=>0x15)
abbrev sp:Prop:=(((((((iY w T e n F st y tb R e1 q r b).nm b1).ns D).nc (aA U (.ok (.ret (.ref ia)))) (fillAll y0 0 [(ia,aT R t 0),(F,(iL w b T st e true))]) u).nm B).nm G).nc (aA t1 (.ok .next)) (fillAll y1 0 [(F,(iL w b T st e true)),(G,gu w b (oq q sg))]++[(B,ah l d)]) J).norm [0,2]=.call 500 (bc [F,G,B] (so T e n st R e1 q r) []) (.call (.builtin "str.join") ⟨[.str ⟨⟨[]⟩⟩ 0,.ref B],[]⟩) [(F,(iL w b T st e true)),(B,aV (ae l))] fun _ _ _=>.failW ""
theorem sr:sp w T e n F st y tb R e1 ia sg l d t b1 D U y0 u B G t1 y1 J q r b:=by delta za zc
noncomputable def sv:List an:=fD T e n st R e1 r (match r with
 | false=>0x177796656666706bf6656666777766566667655506af400069f400
 | true=>0x177796656666777706bf6656666777766566667655506af400069f400)
abbrev sw:Prop:=((((((((iY w T e n F st y tb R e1 q r b).nm b1).ns D).nc (aA U (.ok (.ret (.ref ia)))) (fillAll y0 0 [(ia,aT R t 0),(F,(iL w b T st e true))]) u).nm B).nm G).nc (aA t1 (.ok .next)) (fillAll y1 0 [(F,(iL w b T st e true)),(G,gu w b (oq q sg))]++[(B,ah l d)]) J).nc (aA t2 (.ok (.ret (.str R2 0)))) (fillAll y2 0 [(F,(iL w b T st e true))]) tb2).norm [0,6]=.sum (aY e 1 e1) [] fun u3_1=>.sum (cI T n) [] fun u3_2=>.more fun Kd1=>.more fun Kd2=>.more fun Kd3=>.sum (sH n e1 r) [] fun u3_6=>.more fun Kd4=>.more fun Kd5=>.more fun Kd6=>.done (bc [F,Kd1,Kd2,Kd3,Kd4,Kd5,Kd6] (sv T e n st R e1 r) []) (.ok (.ret (.ref Kd6))) [(F,(iL w b T st e true)),(Kd6,br [(.str R2 0),(.int (bif r then n else e1) 0)])]
theorem sx:sw w T e n F st y tb R e1 ia R2 sg l d t b1 D U y0 u B G t1 y1 J t2 y2 tb2 q r b:=by delta za zc
noncomputable def CO:List an:=oh [] 0x155ccf4
noncomputable def zH:List an:=oh [] 0x14
end
noncomputable section
variable (w:World) (F L it acc e1 e2:Addr) (R:Str) (i:Int) (t:Tok) (l l1:List Value) (d H:Nat) (y:Nat→Nat→Tok) (z:Nat→Tok) (tb:Nat) (U:Tok) (y0:Nat→Nat→Tok) (u c en2:Nat) (i1:Int) (l2:List Value) (I:Nat→Nat→Tok) (t1:Tok) (y1:Nat→Nat→Tok) (J:Nat) (o:Option Str) (b:Bool)
noncomputable def CP:az:=aN (vs w b 140) 4000 (.inn (ay z (ew F L it acc)) .root) (start false (ay z (ew F L it acc))) (CO) (fillAll y 0 [(it,aT R t i),(L,(gu w b o))]++[(acc,ah l d)]) tb 0 []
abbrev zI:Prop:=(CP w F L it acc R i t l d y z tb o b).norm [0,1,2]=.call 480 (bc [it,L,acc] (zH) []) (.call (.builtin "str_ascii_iterator.__next__") ⟨[.ref it],[]⟩) [(it,aT R t i),(L,(gu w b o)),(acc,aV (ae l))] fun _ _ _=>.failW ""
theorem zJ:zI w F L it acc R i t l d y z tb o b:=by delta za bW
noncomputable def zK:List an:=oh [] 0x15
abbrev zL:Prop:=((CP w F L it acc R i t l d y z tb o b).nc (aA U (.error (.ref e1))) (fillAll y0 0 [(it,fld (.type "str_ascii_iterator") [.none,.int i 0]),(e1,fld (.type "StopIteration") [.ref e2,.none,.none,.none,.bool false,.none]),(e2,br []),(L,(gu w b o))]++[(acc,ah l1 H)]) u).norm [0,1,2,3,4]=.done (bc [it,e1,e2,L,acc] (zK) []) (.ok .next) [(it,fld (.type "str_ascii_iterator") [.none,(.int i 0)]),(e1,fld (.type "StopIteration") [(.ref e2),.none,.none,.none,(.bool (false)),.none]),(e2,br []),(L,(gu w b o)),(acc,aV (ae l1))]
theorem zM:zL w F L it acc e1 e2 R i t l l1 d H y z tb U y0 u o b:=by delta za bW
noncomputable def vY:List an:=oh [fun ks=>bS ⟨⟨[c]⟩⟩ ⟨⟨[0]⟩⟩ true] 0x125e0f068f5555ccf4
noncomputable def vZ:List an:=oh [fun ks=>bS ⟨⟨[c]⟩⟩ ⟨⟨[0]⟩⟩ true] 0x14
noncomputable def oJ:az:=aN (vs w b 140) 4000 (.inn (ay z (ew F L it acc)) .root) (start false (ay z (ew F L it acc))) (vY c) (fillAll y 0 [(it,aT R t i),(L,(gu w b o))]++[(acc,ah l d)]) tb 0 []
abbrev v5:Prop:=(oJ w F L it acc R i t l d y z tb c o b).norm [0,1,2]=.call 480 (bc [it,L,acc] (vZ c) []) (.call (.builtin "str_ascii_iterator.__next__") ⟨[.ref it],[]⟩) [(it,aT R t i),(L,(gu w b o)),(acc,aV (ae l))] fun _ _ _=>.failW ""
theorem v6:v5 w F L it acc R i t l d y z tb c o b:=by delta za bW
noncomputable def v7:List an:=oh [fun ks=>bS ⟨⟨[c]⟩⟩ ⟨⟨[0]⟩⟩ true] 0x1068f555
abbrev v8:Prop:=((oJ w F L it acc R i t l d y z tb c o b).nc (aA U (.ok (.ret (.str ⟨⟨[c]⟩⟩ 0)))) (fillAll y0 0 [(it,aT R t i1),(L,(gu w b o))]++[(acc,ah l1 H)]) u).norm [0,1,2]=.sum (bS ⟨⟨[c]⟩⟩ ⟨⟨[0]⟩⟩ true) [] fun I=>.call 500 (bc [it,L,acc] (v7 c) []) (.call (.builtin "list.append") ⟨[.ref acc,.str ⟨⟨[65533]⟩⟩ 0],[]⟩) [(it,aT R t i1),(L,(gu w b (some ⟨⟨[c]⟩⟩))),(acc,aV (ae l1))] fun _ _ _=>.failW ""
theorem v9:v8 w F L it acc R i t l l1 d H y z tb U y0 u c i1 o b:=by delta za bW
noncomputable def wa:List an:=oh [fun ks=>bS ⟨⟨[c]⟩⟩ ⟨⟨[0]⟩⟩ true] 0x12
abbrev wc:Prop:=((((oJ w F L it acc R i t l d y z tb c o b).nc (aA U (.ok (.ret (.str ⟨⟨[c]⟩⟩ 0)))) (fillAll y0 0 [(it,aT R t i1),(L,(gu w b o))]++[(acc,ah l1 H)]) u).ns I).nc (aA t1 (.ok (.ret .none))) (fillAll y1 0 [(it,aT R t i1),(L,(gu w b (some ⟨⟨[c]⟩⟩)))]++[(acc,ah l2 en2)]) J).norm [0,1,2]=.cut (bc [it,L,acc] (wa c) []) (ew F L it acc) [(it,aT R t i1),(L,(gu w b (some ⟨⟨[c]⟩⟩))),(acc,aV (ae l2))]
theorem we:wc w F L it acc R i t l l1 d H y z tb U y0 u c en2 i1 l2 I t1 y1 J o b:=by delta za bW
noncomputable def wf:List an:=oh [fun ks=>bS ⟨⟨[c]⟩⟩ ⟨⟨[0]⟩⟩ false] 0x125e0f5068f5555ccf4
noncomputable def wg:List an:=oh [fun ks=>bS ⟨⟨[c]⟩⟩ ⟨⟨[0]⟩⟩ false] 0x14
noncomputable def oK:az:=aN (vs w b 140) 4000 (.inn (ay z (ew F L it acc)) .root) (start false (ay z (ew F L it acc))) (wf c) (fillAll y 0 [(it,aT R t i),(L,(gu w b o))]++[(acc,ah l d)]) tb 0 []
abbrev wh:Prop:=(oK w F L it acc R i t l d y z tb c o b).norm [0,1,2]=.call 480 (bc [it,L,acc] (wg c) []) (.call (.builtin "str_ascii_iterator.__next__") ⟨[.ref it],[]⟩) [(it,aT R t i),(L,(gu w b o)),(acc,aV (ae l))] fun _ _ _=>.failW ""
theorem wi:wh w F L it acc R i t l d y z tb c o b:=by delta za bW
noncomputable def wj:List an:=oh [fun ks=>bS ⟨⟨[c]⟩⟩ ⟨⟨[0]⟩⟩ false] 0x15068f555
abbrev wk:Prop:=((oK w F L it acc R i t l d y z tb c o b).nc (aA U (.ok (.ret (.str ⟨⟨[c]⟩⟩ 0)))) (fillAll y0 0 [(it,aT R t i1),(L,(gu w b o))]++[(acc,ah l1 H)]) u).norm [0,1,2]=.sum (bS ⟨⟨[c]⟩⟩ ⟨⟨[0]⟩⟩ false) [] fun I=>.call 500 (bc [it,L,acc] (wj c) []) (.call (.builtin "list.append") ⟨[.ref acc,.str ⟨⟨[c]⟩⟩ 0],[]⟩) [(it,aT R t i1),(L,(gu w b (some ⟨⟨[c]⟩⟩))),(acc,aV (ae l1))] fun _ _ _=>.failW ""
theorem wl:wk w F L it acc R i t l l1 d H y z tb U y0 u c i1 o b:=by delta za bW
noncomputable def wm:List an:=oh [fun ks=>bS ⟨⟨[c]⟩⟩ ⟨⟨[0]⟩⟩ false] 0x12
abbrev wn:Prop:=((((oK w F L it acc R i t l d y z tb c o b).nc (aA U (.ok (.ret (.str ⟨⟨[c]⟩⟩ 0)))) (fillAll y0 0 [(it,aT R t i1),(L,(gu w b o))]++[(acc,ah l1 H)]) u).ns I).nc (aA t1 (.ok (.ret .none))) (fillAll y1 0 [(it,aT R t i1),(L,(gu w b (some ⟨⟨[c]⟩⟩)))]++[(acc,ah l2 en2)]) J).norm [0,1,2]=.cut (bc [it,L,acc] (wm c) []) (ew F L it acc) [(it,aT R t i1),(L,(gu w b (some ⟨⟨[c]⟩⟩))),(acc,aV (ae l2))]
theorem wo:wn w F L it acc R i t l l1 d H y z tb U y0 u c en2 i1 l2 I t1 y1 J o b:=by delta za bW
end
theorem F' {w:World} {b:Bool} {A:Around} {s:Shared} {F:Addr} {T:Str} {st e n:Int} (i:Hf w b 100 A s F (iL w b T st e true)) (hn:(T.length:Int)=n) (hnf:n < 2 ^ 63) (hr:decide (e < n)=false):ck i (sE fQ) (ju F) false:=
 ct [0] (F7 T e n) fun Ok Fin sm mo dn cn=>cn (sm (cj _ _ hn hnf) fun _=>sm (eY _ _ _ hr) fun _=>dn [F]) fun _ _=>by delta zb bh b
theorem zN {w:World} {b:Bool} {A:Around} {s:Shared} {F:Addr} {T R:Str} {st e n:Int} {hgc:Nat} (i:Hf w b 100 A s F (iL w b T st e true)) (hn:(T.length:Int)=n) (hnf:n < 2 ^ 63) (hr:decide (e < n)=true) (hg0:0≤e) (hg1:e < 2 ^ 63) (hgx:T.cps[e.toNat]?=some hgc) (hg:Str.mk ⟨[hgc]⟩=R) (hs:(R.cps.toList != ([62]:List Nat))=true):ck i (sE fQ) (ju F) true:=
 ct [0] (zF T e n R) fun Ok Fin sm mo dn cn=>cn (sm (cj _ _ hn hnf) fun _=>sm (eY _ _ _ hr) fun _=>sm (ci _ _ _ _ hg0 hg1 hgx hg) fun _=>sm (S:=Hi R s!">" true) (mP _ _ _ hs) fun _=>dn [F]) fun _ _=>by delta zb bh b
theorem zO {w:World} {b:Bool} {A:Around} {s:Shared} {F:Addr} {T R:Str} {st e n:Int} {hgc:Nat} (i:Hf w b 100 A s F (iL w b T st e true)) (hn:(T.length:Int)=n) (hnf:n < 2 ^ 63) (hr:decide (e < n)=true) (hg0:0≤e) (hg1:e < 2 ^ 63) (hgx:T.cps[e.toNat]?=some hgc) (hg:Str.mk ⟨[hgc]⟩=R) (hs:(R.cps.toList != ([62]:List Nat))=false):ck i (sE fQ) (ju F) false:=
 ct [0] (zG T e n R) fun Ok Fin sm mo dn cn=>cn (sm (cj _ _ hn hnf) fun _=>sm (eY _ _ _ hr) fun _=>sm (ci _ _ _ _ hg0 hg1 hgx hg) fun _=>sm (S:=Hi R s!">" false) (mP _ _ _ hs) fun _=>dn [F]) fun _ _=>by delta zb bh b
theorem Ga {w:World} {b:Bool} {A:Around} {s:Shared} {F:Addr} {T:Str} {st e e1:Int} (i:Hf w b 100 A s F (iL w b T st e true)) (h1:e + 1=e1):d6 i [ad (sB fQ) 0] (ju F) (iL w b T st e1 true):=
 runC [0] (F8 e e1) fun Ok Fin sm mo dn cn=>cn (sm (aE _ _ _ h1) fun _=>dn [F]) fun _ _=>by delta zb bh b
theorem Gb {w:World} {b:Bool} {A:Around} {s:Shared} {F:Addr} {T:Str} {st:Int} (i:Hf w b 100 A s F (iL w b T st 0 false)):d6 i [ad eN 0] (ju F) (iL w b T st st true):=
 runC [0] (F9) fun Ok Fin sm mo dn cn=>cn (dn [F]) fun _ _=>by delta zb bh b
noncomputable def jL (c:Nat):Str:=⟨⟨[c7 c]⟩⟩
noncomputable def g0 (e:Expr):Comprehension:=(xG e).headD ⟨.Name "" default,.Name "" default,[],0⟩
theorem wr:fR=.ListComp (xE fR) [⟨(g0 fR).target,(g0 fR).iter,(g0 fR).ifs,0⟩] (xS fR) (xP fR):=by kernel_rfl
theorem gm {prog:Program} {w:World} {A:Around} {s:Shared} {R:Result→Shared→Prop} {c:Expr} {g:Comprehension} {it acc:Addr} {env:Env} {sc:Scope} {p:Pos} {e:Expr} (d:c=.ListComp e [⟨g.target,g.iter,g.ifs,0⟩] sc p)
  (hs:∀{E:Value→Shared→Prop} {Q:Value→Shared→Prop},Q (.ref it) s→wpAny (model prog w) A (pyIter (.ref it)) Q E s)
  (h:codeAny (model prog w) A (.compLoop c 0 (.ref it) (.ref acc) env) R s):codeAny (model prog w) A (.compStart c 0 (.ref it) (.ref acc) env) R s:=by
 subst d
 exact codeAny_compStart_list h (hs h)
theorem fu {R pre:List Nat} {c:Nat} {r:List Nat} (h:R=pre++c::r):(⟨⟨R⟩⟩:Str).cps[pre.length]?=some c:=by
 show(⟨R⟩:Array Nat)[pre.length]?=some c
 subst h
 simp
theorem zP {w:World} {b:Bool} {F L it acc:Addr} {R:List Nat} {t:Tok} (nd:([it,L,acc]:List Addr).Nodup) (h7:∀x∈([it,L,acc]:List Addr),790≤x) (hR:R.length≤1000):
  ∀(rest pre:List Nat),R=pre++rest→∀(A:Around) (s:Shared) (o:Option Str) (l:List Value) (en:Nat),au 140 A→aC (vs w b 140) s.heap→aJ s.heap [(it,aT ⟨⟨R⟩⟩ t (pre.length:Nat)),(L,gu w b o)]→s.heap.get? acc=some (ah l en)→l.length≤pre.length→
   codeAny (model pg (wb w b)) A (ew F L it acc) (fun r s'=>r=.ok .next∧aH (vs w b 140) [it,L,acc] s s'∧dy s'.heap acc (ae l++aR (rest.map jL))∧∃J,aJ s'.heap [(L,gu w b J)]∧(rest=[]→J=o)∧(rest≠[]→∃x,J=some x)) s:=by
 delta zy w b F L it acc R t at nd h7 hR
 have hi:∀{D':Str} {i:Int} {fr:Obj} {l:List Value} {en:Nat},∀p∈[(it,aT D' t i),(L,fr)]++[(acc,ah l en)],(vs w b 140).n₁≤p.1:=cB (h7 it (.head _)) (cB (h7 L (.tail _ (.head _))) (cB (h7 acc (.tail _ (.tail _ (.head _)))) fun _ h=>(by cases h)))
 intro rest
 induction rest with
 | nil=>
  intro pre hr A s o l en rm tp at_ ga hl
  have B:(⟨⟨R⟩⟩:Str).cps[pre.length]?=none:=by
   show(⟨R⟩:Array Nat)[pre.length]?=none
   subst hr
   simp
  refine d9 false (V:=vs w b 140) (X:=[(acc,ah l en)]) rfl rfl rm (c:=ew F L it acc) rfl tp at_ (ak ga) hi nd fun y z=>⟨4000,CO,?_⟩
  refine cM rfl (zJ w F L it acc ⟨⟨R⟩⟩ _ t l en y z _ o b) (fun Ok U mo H=>H rfl fun A1 s1 c1 G gk hc rm1 P=>?_)
  refine zD (L1:=[(L,gu w b o)]) rm1.2.2 hc P B fun l1 D e1 I s2 el f n1 n2=>gk fun y0 t0=>?_
  refine bB rfl (zM w F L it acc e1 I ⟨⟨R⟩⟩ _ t l l1 en D y z _ t0 y0 _ o b) (fun Ok U mo dn=>dn fun r' s3 er P2=>⟨bm er,f.trans P2.far fun x B=>?_,?_,o,ak (P2.get 3 rfl),fun _=>rfl,fun h=>absurd rfl h⟩)
  ·have B:x∈[it,e1,I,L,acc]:=B
   have B:=JZ B
   rcases B with h | h | h | h | h <;> subst x
   ·exact .inl (.head _)
   ·exact n1
   ·exact n2
   ·exact .inl (.tail _ (.head _))
   ·exact .inl (.tail _ (.tail _ (.head _)))
  ·obtain ⟨J,q1,q2⟩:=P2.get 4 rfl
   obtain ⟨l',n',rfl,q3⟩:=bI q2
   exact⟨l',n',q1,by rw [q3,el]; simp [aR]⟩
 | cons c r ih=>
  intro pre hr A s o l en rm tp at_ ga hl
  have B:=fu hr
  have hr2:R=(pre++[c])++r:=by rw [hr,List.append_assoc]; rfl
  have le:((pre++[c]).length:Nat)=pre.length + 1:=by simp
  have lp:pre.length + (r.length + 1)=R.length:=by rw [hr,List.length_append]; rfl
  have fin:∀(s4:Shared) (l2:List Value) (s2:Shared),ae l2=ae l++[.str (jL c) 0]→l2.length≤pre.length + 1→aH (vs w b 140) [it,L,acc] s s2→aD (vs w b 140) s2 [it,L,acc] s4 [(it,aT ⟨⟨R⟩⟩ t ((pre.length + 1:Nat):Int)),(L,gu w b (some ⟨⟨[c]⟩⟩)),(acc,aV (ae l2))]→
    codeAny (model pg (wb w b)) A (ew F L it acc) (fun r0 s'=>r0=.ok .next∧aH (vs w b 140) [it,L,acc] s s'∧dy s'.heap acc (ae l++aR ((c::r).map jL))∧∃J,aJ s'.heap [(L,gu w b J)]∧(c::r=[]→J=o)∧(c::r≠[]→∃x,J=some x)) s4:=fun s4 l2 s2 I hl2 f P=>by
   obtain ⟨J,q1,q2⟩:=P.get 2 rfl
   obtain ⟨l',n',rfl,q3⟩:=bI q2
   refine codeAny_mono (ih (pre++[c]) hr2 A s4 (some ⟨⟨[c]⟩⟩) l' n' rm P.top ?_ q1 (by rw [gj q3,le]; exact hl2)) ?_
   ·exact ag (by rw [le]; exact P.get 0 rfl) (ak (P.get 1 rfl))
   ·rintro r' s5 ⟨rfl,f5,t5,o5,a5,n5,m5⟩
    refine⟨rfl,(f.trans P.far fun x B=>.inl B).trans f5 fun x B=>.inl B,?_,o5,a5,(fun h=>by cases h),fun _=>?_⟩
    ·rw [q3,I,List.append_assoc] at t5
     exact t5
    ·cases r with
     | nil=>exact⟨_,n5 rfl⟩
     | cons d r=>exact m5 (by simp)
  by_cases h0:c=0
  ·subst h0
   refine d9 false (V:=vs w b 140) (X:=[(acc,ah l en)]) rfl rfl rm (c:=ew F L it acc) rfl tp at_ (ak ga) hi nd fun y z=>⟨4000,vY 0,?_⟩
   refine cM rfl (v6 w F L it acc ⟨⟨R⟩⟩ _ t l en y z _ 0 o b) (fun Ok U mo H=>H rfl fun A1 s1 c1 G gk hc rm1 P=>?_)
   refine mB (L1:=[(L,gu w b o)]) hc P B fun l1 D s2 e1 f _=>gk fun y0 t0=>?_
   refine cM rfl (v9 w F L it acc ⟨⟨R⟩⟩ _ t l l1 en D y z _ t0 y0 _ 0 _ o b) (fun Ok U mo H=>U (gW _ _ _ rfl) fun u=>H rfl fun A2 s3 c2 G gk hc2 rm2 P2=>?_)
   refine p9 (L0:=[(it,aT ⟨⟨R⟩⟩ t ((pre.length + 1:Nat):Int)),(L,gu w b (some ⟨⟨[0]⟩⟩))]) hc2 P2 (by rw [gj e1]; omega) fun l2 en2 s4 I f2 _=>gk fun y1 t1=>?_
   refine lG rfl (we w F L it acc ⟨⟨R⟩⟩ _ t l l1 en D y z _ t0 y0 _ 0 en2 _ l2 u t1 y1 _ o b) (fun Ok U mo H=>H rfl fun s5 P5=>fin s5 l2 s4 (by rw [I,e1]; rfl) ?_ (f.trans f2 fun x B=>.inl B) P5)
   rw [←aB,I,e1,List.length_append,aB]; simp; omega
  ·have hs:(([c]:List Nat) == ([0]:List Nat))=false:=by simp [h0]
   refine d9 false (V:=vs w b 140) (X:=[(acc,ah l en)]) rfl rfl rm (c:=ew F L it acc) rfl tp at_ (ak ga) hi nd fun y z=>⟨4000,wf c,?_⟩
   refine cM rfl (wi w F L it acc ⟨⟨R⟩⟩ _ t l en y z _ c o b) (fun Ok U mo H=>H rfl fun A1 s1 c1 G gk hc rm1 P=>?_)
   refine mB (L1:=[(L,gu w b o)]) hc P B fun l1 D s2 e1 f _=>gk fun y0 t0=>?_
   refine cM rfl (wl w F L it acc ⟨⟨R⟩⟩ _ t l l1 en D y z _ t0 y0 _ c _ o b) (fun Ok U mo H=>U (gW _ _ _ hs) fun u=>H rfl fun A2 s3 c2 G gk hc2 rm2 P2=>?_)
   refine p9 (L0:=[(it,aT ⟨⟨R⟩⟩ t ((pre.length + 1:Nat):Int)),(L,gu w b (some ⟨⟨[c]⟩⟩))]) hc2 P2 (by rw [gj e1]; omega) fun l2 en2 s4 I f2 _=>gk fun y1 t1=>?_
   have fc:jL c=⟨⟨[c]⟩⟩:=by simp [jL,c7,h0]
   refine lG rfl (wo w F L it acc ⟨⟨R⟩⟩ _ t l l1 en D y z _ t0 y0 _ c en2 _ l2 u t1 y1 _ o b) (fun Ok U mo H=>H rfl fun s5 P5=>fin s5 l2 s4 (by rw [I,e1,fc]) ?_ (f.trans f2 fun x B=>.inl B) P5)
   rw [←aB,I,e1,List.length_append,aB]; simp; omega
noncomputable def cZ (ys:List Str):List Nat:=ys.flatMap fun y=>y.cps.toList
theorem jx:∀(ys:List Str) (acc:Array Nat),(ys.foldl (fun acc p=>acc++(⟨⟨[]⟩⟩:Str).cps++p.cps) acc).toList=acc.toList++cZ ys
 | [],acc=>by simp [cZ]
 | y::ys,acc=>by
  rw [List.foldl_cons,jx ys]
  simp [cZ]
theorem sy (ys:List Str):Ct ⟨⟨[]⟩⟩ ys=⟨⟨cZ ys⟩⟩:=by
 have key:∀ys:List Str,Builtin.Str.glued ⟨⟨[]⟩⟩ ys=⟨⟨cZ ys⟩⟩:=fun ys=>by
  unfold Builtin.Str.glued
  cases ys with
  | nil=>rfl
  | cons y ys=>
   have:=jx ys y.cps
   show Str.mk _=_
   congr 1
   apply Array.ext'
   show(List.foldl (fun(acc:Array Nat) (p:Str)=>acc++(⟨⟨[]⟩⟩:Str).cps++p.cps) y.cps ys).toList=_
   rw [this]
   simp [cZ]
 match ys with
 | []=>exact key []
 | [y]=>show y=_; simp [cZ]
 | a::c::r=>exact key (a::c::r)
theorem km:∀(ys:List Str) (n:Nat),ys.foldl (fun x y=>x + y.length + (⟨⟨[]⟩⟩:Str).length) n=n + (cZ ys).length
 | [],n=>by simp [cZ]
 | y::ys,n=>by
  rw [List.foldl_cons,km ys]
  have e1:(⟨⟨[]⟩⟩:Str).length=0:=rfl
  have d:y.length=y.cps.toList.length:=by show y.cps.size=_; simp
  rw [e1,d]
  simp [cZ]
  omega
theorem ws {V:Vs} {prog:Program} {w:World} (a:Addr) (ix:Nat) (ys:List Str) (h:(cZ ys).length≤1000000):aj V prog w (fJ ⟨⟨[]⟩⟩ a ix (aR ys) ⟨⟨cZ ys⟩⟩) [a]:=by
 refine kF _ a ix ys _ (sy ys) ?_ (pZ h)
 have e:ys.toArray.foldl (fun x y=>x + y.length + (⟨⟨[]⟩⟩:Str).length) 0=(cZ ys).length:=by
  rw [List.foldl_toArray,km]; simp
 have z:(1000000:Nat)≤sizeLine:=by decide
 show decide (_ > sizeLine)=false
 rw [e]
 exact decide_eq_false (by omega)
theorem mC (l:List Nat):cZ (l.map jL)=l.map c7:=by
 induction l with
 | nil=>rfl
 | cons c l d=>simp only [cZ,List.map_cons,List.flatMap_cons] at d ⊢; rw [d]; rfl
theorem wt {V:Vs} {K:List Addr} {L0:List aw} {acc:Addr} {s d:Shared} {prog:Program} {G:World} {B:Around} {D:Code} {ys:List Str} {H:Result→Shared→Prop} (rm:au 500 B) (J:ao D=.call (.builtin "str.join") ⟨[.str ⟨⟨[]⟩⟩ 0,.ref acc],[]⟩) (P:aD V s K d (L0++[(acc,aV (aR ys))])) (U:(cZ ys).length≤1000000)
  (k:∀r u,ba r=.ok (.ret (.str ⟨⟨cZ ys⟩⟩ 0))→aH V [] d u→H r u):codeAny (model prog G) B D H d:=by
 obtain ⟨o,g1,g2⟩:=P.at_ (acc,aV (aR ys)) (List.mem_append_right _ (.head _))
 obtain ⟨l',en,rfl,el⟩:=bI g2
 have z:=ws (V:=V) (prog:=prog) (w:=G) acc 0 ys U B d D rm J P.top ⟨⟨_,g1,by show({cls:=.type "list",data:=.seq ⟨ae l'⟩ 0}:Obj)=aV (aR ys); rw [el]; rfl⟩,trivial⟩ (ak (P.hi _ (List.mem_append_right _ (.head _)))) (by simp)
 refine codeAny_mono z ?_
 rintro r u ⟨h1,h2,h3,h4,h5,I⟩
 have fr:∀x o,d.heap.get? x=some o→u.heap.get? x=some o:=fun x o e=>h5 x o e (by simp [be,fJ])
 exact k r u h1 ⟨fun x o e _=>fr x o e,h2,h3,I,⟨fun a o ha e=>fr a o (P.top.1 a o ha e),Nat.le_trans P.top.2 I⟩⟩
theorem Gc {F L it acc:Addr} {c:Code} (h:ao c=ov F L it acc):c=ov F L it acc:=by
 cases c <;> first | exact h | cases h
theorem qb {w:World} {b:Bool} {A:Around} {s:Shared} {F:Addr} {T D:List Nat} {st e e1 n:Int} (rm:au 100 A) (tp:aC (vs w b 100) s.heap) (hF:aJ s.heap [(F,iL w b ⟨⟨T⟩⟩ st e true)]) (h7:790≤F) (hR:aX ⟨⟨T⟩⟩ (some st) (some e)=⟨⟨D⟩⟩) (hm:D.length≤500) (ham:∀c∈D,c < 128) (h1:e + 1=e1) (hn:(Str.length ⟨⟨T⟩⟩:Int)=n) (hnf:n < 2 ^ 63) {r:Bool} (hl:decide (n < e1)=r) {Q:Flow→Shared→Prop} {E:Value→Shared→Prop}
  (h:∀t s',aH (vs w b 100) [F] s s'→aJ s'.heap [(t,br [.str ⟨⟨D.map c7⟩⟩ 0,.int (bif r then n else e1) 0])]→790≤t→s.heap.get? t=none→Q (.ret (.ref t)) s'):wpAny (model pg (wb w b)) A (execs [ad eN 2] (ju F)) Q E s:=by
 refine wpAny_mono (aP (R:=fun r' s'=>∃t,r'=.ok (.ret (.ref t))∧aH (vs w b 100) [F] s s'∧aJ s'.heap [(t,br [.str ⟨⟨D.map c7⟩⟩ 0,.int (bif r then n else e1) 0])]∧790≤t∧s.heap.get? t=none) ?_) (fun f s' z=>by obtain ⟨t,e,z1,z2,z3,z4⟩:=z; injection e with e; rw [e]; exact h t s' z1 z2 z3 z4) (fun e s' z=>(by obtain ⟨t,e,_⟩:=z; cases e))
 have hz:Str.length ⟨⟨D⟩⟩≤sizeLine:=pZ (by omega)
 have ha:(⟨⟨D⟩⟩:Str).cps.all (·< 128)=true:=by
  rw [Array.all_eq_true']
  intro c hc
  exact decide_eq_true (ham c (by simpa using hc))
 have hfl:(cZ (D.map jL)).length≤1000000:=by rw [mC,List.length_map]; omega
 refine aM (V:=vs w b 100) rfl rfl rm tp hF (ak h7) (by simp [keys]) fun y=>⟨4000,fD ⟨⟨T⟩⟩ e n st ⟨⟨D⟩⟩ e1 r (qa (!D.isEmpty) r),?_⟩
 refine dk rfl (sj w ⟨⟨T⟩⟩ e n F st y _ ⟨⟨D⟩⟩ e1 (!D.isEmpty) r b) (fun Ok sm mo cL=>mo fun b1=>sm (bu b1 _ ⟨⟨T⟩⟩ (some st) (some e) _ hR hz) fun u0_2=>cL rfl fun A1 s1 c1 G gk hc1 rm1 P1=>?_)
 refine pt ha hc1 P1 fun r1 s2 ia t f2 bk2 n2=>⟨_,_,bk2,gk fun y0 t0=>?_⟩
 refine cM rfl (sn w ⟨⟨T⟩⟩ e n F st y _ ⟨⟨D⟩⟩ e1 ia t b1 u0_2 t0 y0 _ (!D.isEmpty) r b) (fun Ok sm mo cL=>mo fun J=>mo fun U=>cL rfl fun A2 s3 c2 G gk hc2 rm2 P3=>?_)
 have ec2:=Gc hc2
 subst ec2
 have ndd:([ia,F,J,U]:List Addr).Nodup:=P3.nd
 have I:=LS ndd
 have fK:∀x∈([J,U]:List Addr),s.heap.get? x=none:=fun x hx=>by
  have hx2:x∉([ia,F]:List Addr):=fun z=>(List.nodup_append.mp (show([ia,F]++[J,U]:List Addr).Nodup from ndd)).2.2 x z x hx rfl
  have z:s2.heap.get? x=none:=(P3.own' x (by have hx:=c9 hx; rcases hx with rfl | rfl <;> simp [keys])).resolve_left hx2
  exact(f2.old z).resolve_left fun z=>hx2 (.tail _ z)
 have f3:aH (vs w b 100) [F] s s3:=f2.trans P3.far (ag (n2) (ak (.inl (.head _))))
 delta zn
 obtain ⟨oa,g1,g2⟩:=P3.get 2 rfl
 obtain ⟨n0,rfl⟩:=gO g2
 obtain ⟨oi,gi1,gi2⟩:=P3.get 0 rfl
 delta zm
 have gi3:=dA gi2
 refine gm wr (fun hQ=>wpAny_pyIter_striter_ascii (i:=0) ⟨_,gi1,by rw [gi3]; rfl,by rw [gi3]; rfl⟩ hQ) (codeAny_mono (zP (w:=w) (b:=b) (F:=F) (L:=U) (it:=ia) (acc:=J) (R:=D) (t:=t) ?_ ?_ (by omega) D [] rfl A2 s3 none [] n0 rm2 P3.top (ag (P3.get 0 rfl) (ak (P3.get 3 rfl))) g1 (Nat.le_refl _)) ?_)
 ·refine x9 ?_
  exact⟨⟨I.1.2.2,I.1.2.1⟩,fun z=>I.2.2.1 z.symm⟩
 ·exact ag (P3.hi' 0 rfl) (ag (P3.hi' 3 rfl) (ak (P3.hi' 2 rfl)))
 intro r4 s4 hZ
 delta zn
 obtain ⟨rfl,f4,⟨l,n4,q1,q2⟩,o',a4,m1,m2⟩:=hZ
 have f4:aH (vs w b 100) [ia,U,J] s3 s4:=f4.room
 have q2:ae l=aR (D.map jL):=q2
 have f04:aH (vs w b 100) [F] s s4:=f3.trans f4 (ag (n2) (ag (.inr (fK _ (.tail _ (.head _)))) (ak (.inr (fK _ (.head _))))))
 have aF:aJ s4.heap [(F,iL w b ⟨⟨T⟩⟩ st e true)]:=by
  obtain ⟨o,z1,z2⟩:=P3.get 1 rfl
  refine ak ⟨o,f4.frame F o z1 fun z=>?_,z2⟩
  have z:=iG z
  rcases z with z | z | z
  ·exact I.1.1 z.symm
  ·exact I.2.1.2 z
  ·exact I.2.1.1 z
 obtain ⟨cs,rfl⟩:=vq m1 m2
 delta zm
 refine⟨.ok .next,[(F,iL w b ⟨⟨T⟩⟩ st e true),(U,gu w b (oq (!D.isEmpty) cs))],[(J,ah l n4)],rfl,ag (aF _ (.head _)) (ak (a4 _ (.head _))),ak q1,f4.top,ag h7 (ag (P3.hi' 3 rfl) (ak (P3.hi' 2 rfl))),?_,gk fun y1 B=>?_⟩
 ·show([F,U,J]:List Addr).Nodup
  refine x9 ?_
  exact⟨⟨I.2.1.2,I.2.1.1⟩,fun z=>I.2.2.1 z.symm⟩
 refine dk rfl (sr w ⟨⟨T⟩⟩ e n F st y _ ⟨⟨D⟩⟩ e1 ia cs l n4 t b1 u0_2 t0 y0 _ J U B y1 _ (!D.isEmpty) r b) (fun Ok sm mo cL=>cL rfl fun A3 s5 c3 G gk hc3 rm3 P5=>?_)
 rw [q2] at P5
 have P5:=P5
 refine wt (L0:=[(F,iL w b ⟨⟨T⟩⟩ st e true)]) rm3 hc3 P5 hfl fun r5 s6 er5 f6=>?_
 have f06:aH (vs w b 100) [F] s s6:=by
  refine(f04.trans P5.far fun x hx=>?_).trans f6 fun x hx=>(by cases hx)
  have hx:x∈[F,U,J]:=hx
  have hx:=iG hx
  rcases hx with h | h | h <;> subst x
  ·exact .inl (.head _)
  ·exact .inr (fK _ (.tail _ (.head _)))
  ·exact .inr (fK _ (.head _))
 refine⟨.ok (.ret (.str ⟨⟨cZ (D.map jL)⟩⟩ 0)),[(F,iL w b ⟨⟨T⟩⟩ st e true)],⟨by rw [er5]; rfl,ak ?_,f6.top,ak h7,by simp [keys]⟩,gk fun y2 H=>?_⟩
 ·obtain ⟨o,z1,z2⟩:=P5.get 0 rfl
  exact⟨o,f6.frame _ _ z1 (by simp),z2⟩
 refine bB rfl (sx w ⟨⟨T⟩⟩ e n F st y _ ⟨⟨D⟩⟩ e1 ia ⟨⟨cZ (D.map jL)⟩⟩ cs l n4 t b1 u0_2 t0 y0 _ J U B y1 _ H y2 _ (!D.isEmpty) r b) (fun Ok sm mo dn=>sm (aE _ _ _ h1) fun u3_1=>sm (cj _ _ hn hnf) fun u3_2=>mo fun Kd1=>mo fun Kd2=>mo fun Kd3=>sm (eY _ _ _ hl) fun u3_6=>mo fun Kd4=>mo fun Kd5=>mo fun Kd6=>dn fun r7 s7 er7 P7=>?_)
 have nd7:([F,Kd6]:List Addr).Nodup:=P7.nd
 have f7:s6.heap.get? Kd6=none:=(P7.own' Kd6 (.tail _ (.head _))).resolve_left fun z=>(List.nodup_cons.mp nd7).1 (by have z:Kd6∈[F]:=z; rw [List.mem_singleton.mp z]; exact .head _)
 refine⟨Kd6,dX er7,f06.trans P7.far fun x hx=>.inl hx,ak ?_,P7.hi' 1 rfl,(f06.old f7).resolve_left fun z=>(List.nodup_cons.mp nd7).1 (by rw [List.mem_singleton.mp z]; exact .head _)⟩
 have z:=P7.get 1 rfl
 rw [mC] at z
 exact z
structure BR (w:World) (b:Bool) (T u d:List Nat) (s s':Shared) (t:Addr) (mid pre r:List Nat):Prop where
 tp:aJ s'.heap [(t,br [.str ⟨⟨mid.map c7⟩⟩ 0,.int (pre.length:Int) 0])]
 tx:T=pre++r
 le:d.length≤pre.length
 mach:∀TT,RD r TT→∀D,R1 .bogus D u (bw (mid.map c7)::TT)
 lm:mid.length≤500
 h7:790≤t
 fresh:s.heap.get? t=none
 far:aH (vs w b 100) [] s s'
theorem wu:eN=[ad eN 0,fQ,ad eN 2]:=by kernel_rfl
theorem wv:fQ=.While (sE fQ) [ad (sB fQ) 0] [] (sP fQ):=by kernel_rfl
theorem IR (P:Params):JP P (F5 (jN P)) 779 778 (bo 25 none) eN "_law_bogus.<locals>." (Str.ofString "start") (sR P):=by
 refine⟨by kernel_rfl,by kernel_rfl,by kernel_rfl,by kernel_rfl,by kernel_rfl,by kernel_rfl,by kernel_rfl,by kernel_rfl,by kernel_rfl,by kernel_rfl,by kernel_rfl,by kernel_rfl,by kernel_rfl,?_,fun z D=>?_⟩
 ·exact⟨_,_,rfl,rfl⟩
 ·rw [PySem.W.ZFast.ze9782568553167038054]
  kernel_rfl
theorem IS (P:Params):(jN P).data=.func (F5 (jN P)):=by kernel_rfl
theorem IT {m r:List Nat} (D:∀c∈m,c≠62) (G:r=[]∨∃z,r=62::z):cut (fun x=>x != 62) (m++r)=(m,r):=by
 induction m with
 | nil=>
  rcases G with rfl | ⟨z,rfl⟩ <;> rfl
 | cons c m I=>
  have J:(c != 62)=true:=by simp [D c (.head _)]
  show cut (fun x=>x != 62) (c::(m++r))=_
  unfold cut
  rw [J,I fun x U=>D x (.tail _ U)]
theorem ww {m r:List Nat} (I:∀c∈m,c≠62) (G:r=[]∨∃z,r=62::z) {TT:List Tk} (h:RD r.tail TT) (D:List Nat):R1 .bogus D (m++r) (bw (m.map c7)::TT):=by
 have ec:=IT I G
 refine R1.go (ts:=[bw (m.map c7)]) (q':=.data) (D':=D) (r':=r.tail) ?_ (h D)
 show(step .bogus D [] (m++r)).map _=_
 unfold step
 dsimp only
 rcases G with rfl | ⟨z,rfl⟩
 ·split
  ·rename_i e
   rw [ec]; rfl
  ·rename_i e
   rw [ec] at e; cases e
 ·split
  ·rename_i e
   rw [ec] at e; cases e
  ·rename_i U z' e
   rw [ec] at e
   injection e with e1 J
   subst e1 J
   rw [ec]; rfl
section
variable {w:World} {b:Bool} {A:Around} {s:Shared} {T u d:List Nat} {B H:Tok}
theorem wx (tx:T=d++u) (ab:∀c∈T,c < 128) (len:T.length≤500) (rm:au 80 A) (tp:aC (vs w b 100) s.heap):
  codeAny (model pg (wb w b)) A (.call (.ref 779) ⟨[.str ⟨⟨T⟩⟩ B,.int (d.length:Int) H],[]⟩) (fun res s'=>∃t mid pre r,res=.ok (.ret (.ref t))∧BR w b T u d s s' t mid pre r) s:=by
 refine kT (o:=jN (pr w b)) (IR (pr w b)) (IS _) (fun tp=>tp.1 779 _ (show 779 < 790 by decide) rfl) (fun tp=>tp.1 778 _ (show 778 < 790 by decide) rfl) rm tp (dY) (o2:=iL w b ⟨⟨T⟩⟩ (d.length:Int) 0 false) (fun F y tb=>iE w F ⟨⟨T⟩⟩ H y tb (d.length:Int) b) fun F s1 fF h7 f1 a1=>?_
 have G:au 100 (A.deeper (ju F)):=ft rm (by decide)
 show wpAny _ (A.deeper (ju F)) (execs eN (ju F)) _ _ s1
 generalize A.deeper (ju F)=A1 at G
 rw [wu]
 refine aQ [fQ,ad eN 2] [ad eN 0] (Gb ⟨G,f1.top,a1,h7⟩ fun s2 f2 a2=>cp ?_)
 have hK0:∀x∈([F]:List Addr),x∈([]:List Addr)∨s.heap.get? x=none:=ak (.inr fF)
 have f02:=f1.trans f2 hK0
 have I:((T.length:Nat):Int) < 2 ^ 63:=sf len
 rw [wv]
 refine cb (wpAny_While (codeAny_whileLoop (fun n s=>∃m r,u=m++r∧(∀c∈m,c≠62)∧r.length=n∧aJ s.heap [(F,iL w b ⟨⟨T⟩⟩ (d.length:Int) ((d++m).length:Int) true)]∧aH (vs w b 100) [F] s2 s) ?_ u.length ⟨[],u,rfl,fun _ h=>(by cases h),rfl,by rw [List.append_nil]; exact a2,⟨fun _ _ e _=>e,rfl,rfl,Nat.le_refl _,f2.top⟩⟩))
 intro n s3 hZ
 delta zn
 obtain ⟨m,r,hr,hm,rfl,a3,f3⟩:=hZ
 delta zm
 have hT1:T=d++(m++r):=by rw [tx,hr]
 have hT:T=(d++m)++r:=by rw [hT1,List.append_assoc]
 have lm:m.length≤500:=Nat.le_trans (by rw [hT1,List.length_append,List.length_append]; exact Nat.le_trans (Nat.le_add_right _ _) (Nat.le_add_left _ _)) len
 have am:∀c∈m,c < 128:=fun c hc=>ab c (by rw [hT]; exact List.mem_append_left _ (List.mem_append_right _ hc))
 have hsl:aX ⟨⟨T⟩⟩ (some (d.length:Int)) (some ((d++m).length:Int))=⟨⟨m⟩⟩:=by
  rw [sl hT1 m.length rfl (by rw [List.length_append]; rfl),List.take_left]
 have done:∀{U:Shared} {t:Addr} {e:Int} {s5:Shared},(r=[]∨∃z,r=62::z)→aH (vs w b 100) [F] s2 U→aH (vs w b 100) [F] U s5→aJ s5.heap [(t,br [.str ⟨⟨m.map c7⟩⟩ 0,.int e 0])]→790≤t→U.heap.get? t=none→e=((d++m++r.take 1).length:Int)→
   ∃t' mid pre r,(Except.ok (Flow.ret (.ref t)):Result)=.ok (.ret (.ref t'))∧BR w b T u d s s5 t' mid pre r:=fun {U t e s5} hr0 J f5 ht h8 hf he=>
  have f04:aH (vs w b 100) [] s U:=f02.trans J hK0
  ⟨t,m,d++m++r.take 1,r.tail,rfl,⟨by rw [←he]; exact ht,by rw [hT,←List.drop_one,List.append_assoc (d++m),List.take_append_drop],by rw [List.append_assoc]; exact jK (Nat.le_refl _),fun TT k D=>by rw [hr]; exact ww hm hr0 k D,lm,h8,(f04.old hf).resolve_left List.not_mem_nil,f04.trans f5 hK0⟩⟩
 rcases vQ r with e | ⟨c,r',e⟩
 ·have lT0:T.length=(d++m).length:=by rw [hT,e,List.append_nil]
  refine F' (n:=((T.length:Nat):Int)) ⟨G,f3.top,a3,h7⟩ rfl I (decide_eq_false (by rw [lT0]; exact Int.lt_irrefl _)) fun U J a4=>?_
  refine wpAny_pure (cp ?_)
  exact qb (r:=true) G J.top a4 h7 hsl lm am rfl rfl I (decide_eq_true (by rw [show Str.length ⟨⟨T⟩⟩=T.length from rfl,lT0]; exact Int.lt_add_one_of_le (Int.le_refl _))) fun t s5 f5 ht h8 hf=>done (.inl e) (f3.tr J) f5 ht h8 hf (by rw [hT,e]; rfl)
 ·have hT2:T=(d++m)++c::r':=by rw [hT,e]
  have lT3:(d++m).length < T.length:=by rw [hT2]; exact FV (Nat.le_refl _)
  have hlt:decide (((d++m).length:Int) < ((T.length:Nat):Int))=true:=decide_eq_true (Int.ofNat_lt.mpr lT3)
  have hx:(⟨⟨T⟩⟩:Str).cps[(((d++m).length:Nat):Int).toNat]?=some c:=fu hT2
  have h0:(0:Int)≤((d++m).length:Int):=Int.natCast_nonneg _
  have h63:(((d++m).length:Nat):Int) < 2 ^ 63:=sf (Nat.le_trans (Nat.le_of_lt lT3) len)
  by_cases hc:c=62
  ·refine zO (n:=((T.length:Nat):Int)) ⟨G,f3.top,a3,h7⟩ rfl I hlt h0 h63 hx rfl (by rw [hc]; rfl) fun U J a4=>?_
   refine wpAny_pure (cp ?_)
   exact qb (r:=false) G J.top a4 h7 hsl lm am rfl rfl I (decide_eq_false (Int.not_lt.mpr (Int.add_one_le_of_lt (Int.ofNat_lt.mpr lT3)))) fun t s5 f5 ht h8 hf=>done (.inr ⟨r',by rw [e,hc]⟩) (f3.tr J) f5 ht h8 hf (by rw [e]; exact(mu 1 rfl).symm)
  ·have hs:(([c]:List Nat) != ([62]:List Nat))=true:=by rw [bne,vR hc]; rfl
   refine zN (n:=((T.length:Nat):Int)) ⟨G,f3.top,a3,h7⟩ rfl I hlt h0 h63 hx rfl hs fun U J a4=>?_
   refine Ga (e1:=((d++(m++[c])).length:Int)) ⟨G,J.top,a4,h7⟩ (by rw [←List.append_assoc]; exact(mu 1 rfl).symm) fun s5 f5 a5=>?_
   refine⟨r'.length,by rw [e]; exact Nat.lt_succ_self _,m++[c],r',by rw [hr,e,List.append_assoc]; rfl,fun x hx=>?_,rfl,a5,(f3.tr J).tr f5⟩
   exact(List.mem_append.mp hx).elim (hm x) fun hx=>List.mem_singleton.mp hx▸hc
end
noncomputable section
variable (w:World) (T af la_:Str) (p p1 p2 U:Int) (F:Addr) (y:Nat→Nat→Tok) (tb:Nat) (R:Str) (I:Int) (r:Bool) (t q:Addr) (D:Str) (e:Int) (u0_1:Nat→Nat→Tok) (t0:Tok) (y0:Nat→Nat→Tok) (G:Nat) (na ia:Addr) (l l1 l2 l3:List Value) (B J en2 en3:Nat) (u H:Addr) (t1:Tok) (y1:Nat→Nat→Tok) (tb1:Nat) (Kc1 Kc2:Addr) (t2:Tok) (y2:Nat→Nat→Tok) (tb2:Nat) (ff tt:Str) (u0_2:Nat→Nat→Tok) (L it acc e1 e2:Addr) (i:Int) (z:Nat→Tok) (c:Str) (i1:Int) (o:Option Str) (qq v b:Bool)
noncomputable def IU:List an:=oh [fun ks=>aY p 1 p1,fun ks=>aY p 2 p2,fun ks=>bs (dL ks 1) 1 T (.int p1 0) (.int p2 0) af,fun ks=>aY p 3 U,fun ks=>bs (dL ks 2) 2 T (.int p2 0) (.int U 0) la_] 0x14406cf06bf4069f444406af069f4068f44
noncomputable def IV:List an:=oh [fun ks=>aY p 4 I,fun ks=>bs (dL ks 1) 1 T (.int p 0) (.int I 0) R,fun ks=>bS R s!"<!--" r] 0x106af069f068f444
noncomputable def CQ:List an:=oh [fun ks=>aY p 4 I] 0x1444444866566666656666665666666566666555543cf0068f440
noncomputable def zQ:List an:=oh [fun ks=>aY p 4 I] 0x10068f440
noncomputable def CT:az:=aN (vs w b 60) 4000 .out (aO [ad (sB (ad ap 2)) 0] (cG F)) (CQ p I) (fillAll y 0 [(F,(cJ w b T p af la_ []))]) tb 0 []
abbrev zR:Prop:=(CT w T af la_ p F y tb I b).norm [0]=.sum (aY p 4 I) [] fun u0_1=>.call 80 (bc [F] (zQ p I) []) (.call (.ref 774) ⟨[.str T 0,.int I 0],[]⟩) [(F,(cJ w b T p af la_ []))] fun _ _ _=>.failW ""
theorem zS:zR w T af la_ p F y tb I b:=by delta za bh
noncomputable def zT:List an:=oh [fun ks=>aY p 4 I] 0x14444448665666666566666656666665666665555
abbrev zU:Prop:=(((CT w T af la_ p F y tb I b).ns u0_1).nc (aA t0 (.ok (.ret (.ref t)))) (fillAll y0 0 [(F,(cJ w b T p af la_ [])),(t,br [.str D 0,.ref q,.int e 0])]) G).norm [0,1]=.more fun u=>.more fun H=>.more fun d=>.done (bc [F,t,u,H,d] (zT p I) []) (.ok .next) [(F,(cJ w b T p af la_ [!["data",.str D 0],!["told",.ref q],!["end",.int e 0]])),(t,br [(.str D 0),(.ref q),(.int e 0)])]
theorem zV:zU w T af la_ p F y tb I t q D e u0_1 t0 y0 G b:=by delta za bh
noncomputable def CU:List an:=oh [] (match qq with
 | true=>0x145e0f6864555450f45e0f554
 | false=>0x145e0f68645450f45e0f554)
noncomputable def zW:List an:=oh [] 0x1554
noncomputable def qc:az:=aN (vs w b 60) 4000 .out (aO [ad (sB (ad ap 2)) 1] (cG F)) (CU qq) (fillAll y 0 [(F,(cJ w b T p af la_ [!["data",.str D 0],!["told",.ref q],!["end",.int e 0]]))]++[(q,ah l B)]) tb 0 []
abbrev zX:Prop:=(qc w T af la_ p F y tb q D e l B qq b).norm [0,1]=.call 500 (bc [F,q] (zW) []) (.call (.builtin "list.__iter__") ⟨[.ref q],[]⟩) [(F,(cJ w b T p af la_ [!["data",.str D 0],!["told",.ref q],!["end",.int e 0]])),(q,aV (ae l))] fun _ _ _=>.failW ""
theorem zY:zX w T af la_ p F y tb q D e l B qq b:=by delta za gf
noncomputable def zZ:List an:=oh [] 0x14
abbrev Aa:Prop:=((qc w T af la_ p F y tb q D e l B qq b).nc (aA t0 (.ok (.ret (.ref ia)))) (fillAll y0 0 [(ia,gv q 0),(F,(cJ w b T p af la_ [!["data",.str D 0],!["told",.ref q],!["end",.int e 0]]))]++[(q,ah l1 J)]) G).norm [0,1,2,3,4]=.more fun u=>.more fun H=>.call 100 (bc [ia,F,q,u,H] (zZ) []) (ow F H ia u) [(ia,fld (.type "list_iterator") [(.ref q),(.int 0 0)]),(F,(cJ w b T p af la_ [!["data",.str D 0],!["told",.ref q],!["end",.int e 0]])),(q,aV (ae l1)),(u,aV []),(H,fI [])] fun _ _ _=>.failW ""
theorem Ab:Aa w T af la_ p F y tb q D e t0 y0 G ia l l1 B J qq b:=by delta za gf
noncomputable def Ac:List an:=oh [] (match qq with
 | true=>0x16864555
 | false=>0x168645)
abbrev Ae:Prop:=(((((qc w T af la_ p F y tb q D e l B qq b).nc (aA t0 (.ok (.ret (.ref ia)))) (fillAll y0 0 [(ia,gv q 0),(F,(cJ w b T p af la_ [!["data",.str D 0],!["told",.ref q],!["end",.int e 0]]))]++[(q,ah l1 J)]) G).nm u).nm H).nc (aA t1 (.ok .next)) (fillAll y1 0 [(F,(cJ w b T p af la_ [!["data",.str D 0],!["told",.ref q],!["end",.int e 0]])),(H,ke w b (oq qq ff))]++[(u,ah l2 en2)]) tb1).norm [0,1,2,3,4]=.more fun Kc1=>.more fun Kc2=>.call 500 (bc [F,H,u,Kc1,Kc2] (Ac qq) []) (.call (.builtin "list.__add__") ⟨[.ref u,.ref Kc2],[]⟩) [(F,(cJ w b T p af la_ [!["data",.str D 0],!["told",.ref q],!["end",.int e 0]])),(H,fI []),(u,aV (ae l2)),(Kc1,br [(.str s!"note" 0),(.str D 0)]),(Kc2,aV [(.ref Kc1)])] fun _ _ _=>.failW ""
theorem Af:Ae w T af la_ p F y tb q D e t0 y0 G ia l l1 l2 B J en2 u H t1 y1 tb1 ff qq b:=by delta za gf
noncomputable def Ag:List an:=oh [] 0x14
abbrev Ah:Prop:=((((((((qc w T af la_ p F y tb q D e l B qq b).nc (aA t0 (.ok (.ret (.ref ia)))) (fillAll y0 0 [(ia,gv q 0),(F,(cJ w b T p af la_ [!["data",.str D 0],!["told",.ref q],!["end",.int e 0]]))]++[(q,ah l1 J)]) G).nm u).nm H).nc (aA t1 (.ok .next)) (fillAll y1 0 [(F,(cJ w b T p af la_ [!["data",.str D 0],!["told",.ref q],!["end",.int e 0]])),(H,ke w b (oq qq ff))]++[(u,ah l2 en2)]) tb1).nm Kc1).nm Kc2).nc (aA t2 (.ok (.ret (.ref na)))) (fillAll y2 0 [(F,(cJ w b T p af la_ [!["data",.str D 0],!["told",.ref q],!["end",.int e 0]])),(Kc1,br [.str s!"note" 0,.str D 0])]++[(na,ah l3 en3)]) tb2).norm [0,1,2,3]=.more fun d=>.done (bc [F,Kc1,na,d] (Ag) []) (.ok (.ret (.ref d))) [(F,(cJ w b T p af la_ [!["data",.str D 0],!["told",.ref q],!["end",.int e 0]])),(Kc1,br [(.str s!"note" 0),(.str D 0)]),(na,aV (ae l3)),(d,br [(.ref na),(.int e 0)])]
theorem Ai:Ah w T af la_ p F y tb q D e t0 y0 G na ia l l1 l2 l3 B J en2 en3 u H t1 y1 tb1 Kc1 Kc2 t2 y2 tb2 ff qq b:=by delta za gf
noncomputable def IW:List an:=oh [fun ks=>bS af s!"!" true] 0x1068f4
noncomputable def IX:List an:=oh [fun ks=>bS af s!"!" false,fun ks=>bS af s!"?" true] 0x1069f4068f4
noncomputable def Gd:List an:=oh [fun ks=>bS af s!"!" false,fun ks=>bS af s!"?" false,fun ks=>bS af s!"/" true,fun ks=>x4 (dL ks 1) 1 (aR [⟨⟨[]⟩⟩,s!">"]) la_ true] 0x106bf55406af4069f4068f4
noncomputable def Ge:List an:=oh [fun ks=>bS af s!"!" false,fun ks=>bS af s!"?" false,fun ks=>bS af s!"/" true,fun ks=>x4 (dL ks 1) 1 (aR [⟨⟨[]⟩⟩,s!">"]) la_ false] 0x106bf55406af4069f4068f4
noncomputable def IY:List an:=oh [fun ks=>bS af s!"!" false,fun ks=>bS af s!"?" false,fun ks=>bS af s!"/" false] 0x106af4069f4068f4
noncomputable def Gg:List an:=oh [fun ks=>eZ (dL ks 1) 1 (kv (pr w b) y8) s!"!" (.str ej 0)] 0x144068f5554555555555555
noncomputable def Gh:List an:=oh [fun ks=>eZ (dL ks 1) 1 (kv (pr w b) y8) s!"?" (.str fN 0)] 0x144068f5554555555555555
noncomputable def Gi:List an:=oh [fun ks=>eZ (dL ks 1) 1 (kv (pr w b) y8) s!"/" (.str fO 0)] 0x144068f5554555555555555
noncomputable def CV:List an:=oh [fun ks=>bS af s!"?" v,fun ks=>aY p (cond v 1 2) I] 0x1444486656666665666666566666555543cf0069f068f4440
noncomputable def Aj:List an:=oh [fun ks=>bS af s!"?" v,fun ks=>aY p (cond v 1 2) I] 0x10069f068f4440
noncomputable def CW:az:=aN (vs w b 60) 4000 .out (aO [ad (sB (ad ap 3)) 1] (cG F)) (CV af p I v) (fillAll y 0 [(F,(cJ w b T p af la_ [!["told",.str tt 0]]))]) tb 0 []
abbrev Ak:Prop:=(CW w T af la_ p F y tb I tt v b).norm [0]=.sum (bS af s!"?" v) [] fun u0_1=>.sum (aY p (cond v 1 2) I) [] fun u0_2=>.call 80 (bc [F] (Aj af p I v) []) (.call (.ref 779) ⟨[.str T 0,.int I 0],[]⟩) [(F,(cJ w b T p af la_ [!["told",.str tt 0]]))] fun _ _ _=>.failW ""
theorem Al:Ak w T af la_ p F y tb I tt v b:=by delta za gf
noncomputable def Am:List an:=oh [fun ks=>bS af s!"?" v,fun ks=>aY p (cond v 1 2) I] 0x14444866566666656666665666665555
abbrev An:Prop:=((((CW w T af la_ p F y tb I tt v b).ns u0_1).ns u0_2).nc (aA t0 (.ok (.ret (.ref t)))) (fillAll y0 0 [(F,(cJ w b T p af la_ [!["told",.str tt 0]])),(t,br [.str D 0,.int e 0])]) G).norm [0,1]=.more fun u=>.more fun H=>.more fun d=>.done (bc [F,t,u,H,d] (Am af p I v) []) (.ok .next) [(F,(cJ w b T p af la_ [!["told",.str tt 0],!["data",.str D 0],!["end",.int e 0]])),(t,br [(.str D 0),(.int e 0)])]
theorem Ao:An w T af la_ p F y tb I t D e u0_1 t0 y0 G tt u0_2 v b:=by delta za gf
noncomputable def wy:List an:=oh [] 0x1444
noncomputable def IZ:az:=aN (vs w b 60) 4000 .out (aO [ad (sB (ad ap 3)) 2] (cG F)) (wy) (fillAll y 0 [(F,(cJ w b T p af la_ [!["told",.str tt 0],!["data",.str D 0],!["end",.int e 0]]))]) tb 0 []
abbrev I1:Prop:=(IZ w T af la_ p F y tb D e tt b).norm [0,1,2,3,4]=.more fun b1=>.more fun b2=>.more fun d=>.more fun b4=>.done (bc [F,b1,b2,d,b4] (wy) []) (.ok (.ret (.ref b4))) [(F,(cJ w b T p af la_ [!["told",.str tt 0],!["data",.str D 0],!["end",.int e 0]])),(b1,br [(.str s!"fault" 0),(.str tt 0)]),(b2,br [(.str s!"note" 0),(.str D 0)]),(d,aV [(.ref b1),(.ref b2)]),(b4,br [(.ref d),(.int e 0)])]
theorem I3:I1 w T af la_ p F y tb D e tt b:=by delta za bh
noncomputable def Gj:List an:=oh [fun ks=>bS af s!"/" true,fun ks=>bS la_ s!">" true] 0x1069f4068f4
noncomputable def Gk:List an:=oh [fun ks=>bS af s!"/" true,fun ks=>bS la_ s!">" false] 0x1069f4068f4
noncomputable def I4:List an:=oh [fun ks=>bS af s!"/" false] 0x1068f4
noncomputable def wz:List an:=oh [fun ks=>aY p 3 U] 0x1068f4
noncomputable def I5:az:=aN (vs w b 60) 4000 .out (aO [ad (sB (ad ap 4)) 0] (cG F)) (wz p U) (fillAll y 0 [(F,(cJ w b T p af la_ []))]) tb 0 []
abbrev I6:Prop:=(I5 w T af la_ p U F y tb b).norm [0,1,2,3]=.more fun b1=>.more fun b2=>.sum (aY p 3 U) [] fun D=>.more fun d=>.done (bc [F,b1,b2,d] (wz p U) []) (.ok (.ret (.ref d))) [(F,(cJ w b T p af la_ [])),(b1,br [(.str s!"fault" 0),(.str iv 0)]),(b2,aV [(.ref b1)]),(d,br [(.ref b2),(.int U 0)])]
theorem I7:I6 w T af la_ p U F y tb b:=by delta za bh
noncomputable def I8:List an:=oh [fun ks=>bS af s!"/" r] 0x1068f4
noncomputable def I9:List an:=oh [fun ks=>bS af s!">" r] 0x1068f4
noncomputable def CY:List an:=oh [] 0x155ccf4
noncomputable def Ap:List an:=oh [] 0x14
noncomputable def CZ:az:=aN (vs w b 100) 4000 (.inn (ay z (iC F L it acc)) .root) (start false (ay z (iC F L it acc))) (CY) (fillAll y 0 [(it,gv q i),(L,(ke w b o))]++[(acc,ah l B)]) tb 0 []
abbrev Aq:Prop:=(CZ w F y tb q l B L it acc i z o b).norm [0,1,2]=.call 480 (bc [it,L,acc] (Ap) []) (.call (.builtin "list_iterator.__next__") ⟨[.ref it],[]⟩) [(it,gv q i),(L,(ke w b o)),(acc,aV (ae l))] fun _ _ _=>.failW ""
theorem Ar:Aq w F y tb q l B L it acc i z o b:=by delta za bW
noncomputable def As:List an:=oh [] 0x15
abbrev Au:Prop:=((CZ w F y tb q l B L it acc i z o b).nc (aA t0 (.error (.ref e1))) (fillAll y0 0 [(it,fld (.type "list_iterator") [.none,.int i 0]),(e1,fld (.type "StopIteration") [.ref e2,.none,.none,.none,.bool false,.none]),(e2,br []),(L,(ke w b o))]++[(acc,ah l1 J)]) G).norm [0,1,2,3,4]=.done (bc [it,e1,e2,L,acc] (As) []) (.ok .next) [(it,fld (.type "list_iterator") [.none,(.int i 0)]),(e1,fld (.type "StopIteration") [(.ref e2),.none,.none,.none,(.bool (false)),.none]),(e2,br []),(L,(ke w b o)),(acc,aV (ae l1))]
theorem Av:Au w F y tb q t0 y0 G l l1 B J L it acc e1 e2 i z o b:=by delta za bW
noncomputable def C0:List an:=oh [] 0x125e0f5555ccf4
noncomputable def Aw:List an:=oh [] 0x14
noncomputable def wA:az:=aN (vs w b 100) 4000 (.inn (ay z (iC F L it acc)) .root) (start false (ay z (iC F L it acc))) (C0) (fillAll y 0 [(it,gv q i),(L,(ke w b o))]++[(acc,ah l B)]) tb 0 []
abbrev Ax:Prop:=(wA w F y tb q l B L it acc i z o b).norm [0,1,2]=.call 480 (bc [it,L,acc] (Aw) []) (.call (.builtin "list_iterator.__next__") ⟨[.ref it],[]⟩) [(it,gv q i),(L,(ke w b o)),(acc,aV (ae l))] fun _ _ _=>.failW ""
theorem Ay:Ax w F y tb q l B L it acc i z o b:=by delta za bW
noncomputable def Az:List an:=oh [] 0x1555
abbrev AA:Prop:=((wA w F y tb q l B L it acc i z o b).nc (aA t0 (.ok (.ret (.str c 0)))) (fillAll y0 0 [(it,gv q i1),(L,(ke w b o))]++[(acc,ah l1 J)]) G).norm [0,1,2,3]=.more fun u=>.call 500 (bc [it,L,acc,u] (Az) []) (.call (.builtin "list.append") ⟨[.ref acc,.ref u],[]⟩) [(it,gv q i1),(L,(ke w b (some c))),(acc,aV (ae l1)),(u,br [(.str s!"fault" 0),(.str c 0)])] fun _ _ _=>.failW ""
theorem AB:AA w F y tb q t0 y0 G l l1 B J L it acc i z c i1 o b:=by delta za bW
noncomputable def AC:List an:=oh [] 0x12
abbrev AD:Prop:=((((wA w F y tb q l B L it acc i z o b).nc (aA t0 (.ok (.ret (.str c 0)))) (fillAll y0 0 [(it,gv q i1),(L,(ke w b o))]++[(acc,ah l1 J)]) G).nm u).nc (aA t1 (.ok (.ret .none))) (fillAll y1 0 [(it,gv q i1),(L,(ke w b (some c)))]++[(acc,ah l2 en2)]) tb1).norm [0,1,2]=.cut (bc [it,L,acc] (AC) []) (iC F L it acc) [(it,gv q i1),(L,(ke w b (some c))),(acc,aV (ae l2))]
theorem AE:AD w F y tb q t0 y0 G l l1 l2 B J en2 u t1 y1 tb1 L it acc i z c i1 o b:=by delta za bW
end
theorem Ja {w:World} {b:Bool} {A:Around} {s:Shared} {F:Addr} {T af la_:Str} {p p1 p2 U:Int} (i:Hf w b 60 A s F (bq [!["text",.str T 0],!["place",.int p 0]])) (h1:p + 1=p1) (h2:p + 2=p2) (hA:aX T (some p1) (some p2)=af) (D:af.length≤sizeLine) (h3:p + 3=U) (hL:aX T (some p2) (some U)=la_) (hLz:la_.length≤sizeLine):d6 i [ad ap 0,ad ap 1] (cG F) (cJ w b T p af la_ []):=
 runC [0] (IU T af la_ p p1 p2 U) fun Ok Fin d mo dn cn=>cn (d (aE _ _ _ h1) fun _=>d (aE _ _ _ h2) fun _=>mo fun b1=>d (bu b1 1 T (some p1) (some p2) _ hA D) fun _=>d (aE _ _ _ h2) fun _=>d (aE _ _ _ h3) fun _=>mo fun b2=>d (bu b2 2 T (some p2) (some U) _ hL hLz) fun _=>dn [F,b1,b2]) fun _ _=>by delta zb bh b
theorem C' {w:World} {b:Bool} {A:Around} {s:Shared} {F:Addr} {T af la_ R:Str} {p I:Int} {r:Bool} (i:Hf w b 60 A s F (cJ w b T p af la_ [])) (h4:p + 4=I) (hR:aX T (some p) (some I)=R) (d:R.length≤sizeLine) (hr:(R.cps.toList == ([60,33,45,45]:List Nat))=r):ck i (sE (ad ap 2)) (cG F) r:=
 ct [0] (IV T p R I r) fun Ok Fin D mo dn cn=>cn (D (aE _ _ _ h4) fun _=>mo fun b1=>D (bu b1 1 T (some p) (some I) _ hR d) fun _=>D (sq hr) fun _=>dn [F,b1]) fun _ _=>by delta zb bh b
theorem Jb {w:World} {b:Bool} {A:Around} {s:Shared} {F:Addr} {T af la_:Str} {p:Int} (i:Hf w b 60 A s F (cJ w b T p af la_ [])) (ha:(af.cps.toList == ([33]:List Nat))=true):ck i (sE (ad ap 3)) (cG F) true:=
 ct [0] (IW af) fun Ok Fin d mo D cn=>cn (d (sq ha) fun _=>D [F]) fun _ _=>by delta zb bh b
theorem Jc {w:World} {b:Bool} {A:Around} {s:Shared} {F:Addr} {T af la_:Str} {p:Int} (i:Hf w b 60 A s F (cJ w b T p af la_ [])) (ha:(af.cps.toList == ([33]:List Nat))=false) (hb:(af.cps.toList == ([63]:List Nat))=true):ck i (sE (ad ap 3)) (cG F) true:=
 ct [0] (IX af) fun Ok Fin d mo D cn=>cn (d (sq ha) fun _=>d (sq hb) fun _=>D [F]) fun _ _=>by delta zb bh b
theorem wB {w:World} {b:Bool} {A:Around} {s:Shared} {F:Addr} {T af la_:Str} {p:Int} (i:Hf w b 60 A s F (cJ w b T p af la_ [])) (ha:(af.cps.toList == ([33]:List Nat))=false) (hb:(af.cps.toList == ([63]:List Nat))=false) (D:(af.cps.toList == ([47]:List Nat))=true) (hd:([⟨⟨[]⟩⟩,s!">"]:List Str).any (·== la_)=true):ck i (sE (ad ap 3)) (cG F) false:=
 ct [0] (Gd af la_) fun Ok Fin d mo dn cn=>cn (d (sq ha) fun _=>d (sq hb) fun _=>d (sq D) fun _=>mo fun b1=>d (i' b1 1 [⟨⟨[]⟩⟩,s!">"] _ _ hd) fun _=>dn [F,b1]) fun _ _=>by delta zb bh b
theorem Gl {w:World} {b:Bool} {A:Around} {s:Shared} {F:Addr} {T af la_:Str} {p:Int} (i:Hf w b 60 A s F (cJ w b T p af la_ [])) (ha:(af.cps.toList == ([33]:List Nat))=false) (hb:(af.cps.toList == ([63]:List Nat))=false) (D:(af.cps.toList == ([47]:List Nat))=true) (hd:([⟨⟨[]⟩⟩,s!">"]:List Str).any (·== la_)=false):ck i (sE (ad ap 3)) (cG F) true:=
 ct [0] (Ge af la_) fun Ok Fin d mo dn cn=>cn (d (sq ha) fun _=>d (sq hb) fun _=>d (sq D) fun _=>mo fun b1=>d (i' b1 1 [⟨⟨[]⟩⟩,s!">"] _ _ hd) fun _=>dn [F,b1]) fun _ _=>by delta zb bh b
theorem Db {w:World} {b:Bool} {A:Around} {s:Shared} {F:Addr} {T af la_:Str} {p:Int} (i:Hf w b 60 A s F (cJ w b T p af la_ [])) (ha:(af.cps.toList == ([33]:List Nat))=false) (hb:(af.cps.toList == ([63]:List Nat))=false) (D:(af.cps.toList == ([47]:List Nat))=false):ck i (sE (ad ap 3)) (cG F) false:=
 ct [0] (IY af) fun Ok Fin d mo dn cn=>cn (d (sq ha) fun _=>d (sq hb) fun _=>d (sq D) fun _=>dn [F]) fun _ _=>by delta zb bh b
theorem Gm {w:World} {b:Bool} {A:Around} {s:Shared} {F:Addr} {T la_:Str} {p:Int} (i:Hf w b 60 A s F (cJ w b T p s!"!" la_ [])):d6 i [ad (sB (ad ap 3)) 0] (cG F) (cJ w b T p s!"!" la_ [!["told",.str ej 0]]):=
 runC [0] (Gg w b) fun Ok Fin d D dn cn=>cn (D fun b1=>d (S:=eZ b1 1 (kv (pr w b) y8) s!"!" (.str ej 0)) (cq (w:=wb w b) b1 _ y8 s!"!" 0 (.str ej 0) (by kernel_rfl) (by kernel_rfl) (by kernel_rfl)) fun _=>dn [F,b1]) fun _ _=>by delta zb bh b
theorem Go {w:World} {b:Bool} {A:Around} {s:Shared} {F:Addr} {T la_:Str} {p:Int} (i:Hf w b 60 A s F (cJ w b T p s!"?" la_ [])):d6 i [ad (sB (ad ap 3)) 0] (cG F) (cJ w b T p s!"?" la_ [!["told",.str fN 0]]):=
 runC [0] (Gh w b) fun Ok Fin d D dn cn=>cn (D fun b1=>d (S:=eZ b1 1 (kv (pr w b) y8) s!"?" (.str fN 0)) (cq (w:=wb w b) b1 _ y8 s!"?" 1 (.str fN 0) (by kernel_rfl) (by kernel_rfl) (by kernel_rfl)) fun _=>dn [F,b1]) fun _ _=>by delta zb bh b
theorem Gp {w:World} {b:Bool} {A:Around} {s:Shared} {F:Addr} {T la_:Str} {p:Int} (i:Hf w b 60 A s F (cJ w b T p s!"/" la_ [])):d6 i [ad (sB (ad ap 3)) 0] (cG F) (cJ w b T p s!"/" la_ [!["told",.str fO 0]]):=
 runC [0] (Gi w b) fun Ok Fin d D dn cn=>cn (D fun b1=>d (S:=eZ b1 1 (kv (pr w b) y8) s!"/" (.str fO 0)) (cq (w:=wb w b) b1 _ y8 s!"/" 2 (.str fO 0) (by kernel_rfl) (by kernel_rfl) (by kernel_rfl)) fun _=>dn [F,b1]) fun _ _=>by delta zb bh b
theorem Jd {w:World} {b:Bool} {A:Around} {s:Shared} {F:Addr} {T af la_ D tt:Str} {p e:Int} (rm:au 60 A) (tp:aC (vs w b 60) s.heap) (hF:aJ s.heap [(F,(cJ w b T p af la_ [!["told",.str tt 0],!["data",.str D 0],!["end",.int e 0]]))]) (h7:790≤F) {Q:Flow→Shared→Prop} {E:Value→Shared→Prop} (h:∀b1 b2 b3 d s',aD (vs w b 60) s [F] s' [(F,(cJ w b T p af la_ [!["told",.str tt 0],!["data",.str D 0],!["end",.int e 0]])),(b1,br [(.str s!"fault" 0),(.str tt 0)]),(b2,br [(.str s!"note" 0),(.str D 0)]),(b3,aV [(.ref b1),(.ref b2)]),(d,br [(.ref b3),(.int e 0)])]→Q (.ret (.ref d)) s'):
  wpAny (model pg (wb w b)) A (execs [ad (sB (ad ap 3)) 2] (cG F)) Q E s:=
 oI (n:=60) (fun fl N=>∃b1 b2 b3 d,fl=.ret (.ref d)∧N=[(F,(cJ w b T p af la_ [!["told",.str tt 0],!["data",.str D 0],!["end",.int e 0]])),(b1,br [(.str s!"fault" 0),(.str tt 0)]),(b2,br [(.str s!"note" 0),(.str D 0)]),(b3,aV [(.ref b1),(.ref b2)]),(d,br [(.ref b3),(.int e 0)])]) rfl rm tp hF h7 (fun fl N ⟨b1,b2,b3,d,e,_⟩=>⟨d,e⟩) (fun R' k y=>⟨4000,(wy),bB (sel:=[0,1,2,3,4]) rfl (I3 w T af la_ p F y _ D e tt b) (fun Ok sm mo dn=>mo fun b1=>mo fun b2=>mo fun b3=>mo fun d=>dn fun r' s2 hr' P=>k _ _ r' s2 ⟨b1,b2,b3,d,rfl,rfl⟩ hr' P)⟩) (fun fl N s' ⟨b1,b2,b3,d,e1,e2⟩ P=>by subst e1 e2; exact h b1 b2 b3 d s' P)
theorem Gq {w:World} {b:Bool} {A:Around} {s:Shared} {F:Addr} {T af la_:Str} {p:Int} (i:Hf w b 60 A s F (cJ w b T p af la_ [])) (D:(af.cps.toList == ([47]:List Nat))=true) (hr:(la_.cps.toList == ([62]:List Nat))=true):ck i (sE (ad ap 4)) (cG F) true:=
 ct [0] (Gj af la_) fun Ok Fin d mo dn cn=>cn (d (sq D) fun _=>d (sq hr) fun _=>dn [F]) fun _ _=>by delta zb bh b
theorem Gr {w:World} {b:Bool} {A:Around} {s:Shared} {F:Addr} {T af la_:Str} {p:Int} (i:Hf w b 60 A s F (cJ w b T p af la_ [])) (D:(af.cps.toList == ([47]:List Nat))=true) (hr:(la_.cps.toList == ([62]:List Nat))=false):ck i (sE (ad ap 4)) (cG F) false:=
 ct [0] (Gk af la_) fun Ok Fin d mo dn cn=>cn (d (sq D) fun _=>d (sq hr) fun _=>dn [F]) fun _ _=>by delta zb bh b
theorem Dc {w:World} {b:Bool} {A:Around} {s:Shared} {F:Addr} {T af la_:Str} {p:Int} (i:Hf w b 60 A s F (cJ w b T p af la_ [])) (d:(af.cps.toList == ([47]:List Nat))=false):ck i (sE (ad ap 4)) (cG F) false:=
 ct [0] (I4 af) fun Ok Fin D mo dn cn=>cn (D (sq d) fun _=>dn [F]) fun _ _=>by delta zb bh b
theorem Je {w:World} {b:Bool} {A:Around} {s:Shared} {F:Addr} {T af la_:Str} {p U:Int} (rm:au 60 A) (tp:aC (vs w b 60) s.heap) (hF:aJ s.heap [(F,(cJ w b T p af la_ []))]) (h7:790≤F) (h3:p + 3=U) {Q:Flow→Shared→Prop} {E:Value→Shared→Prop} (h:∀b1 b2 d s',aD (vs w b 60) s [F] s' [(F,(cJ w b T p af la_ [])),(b1,br [(.str s!"fault" 0),(.str iv 0)]),(b2,aV [(.ref b1)]),(d,br [(.ref b2),(.int U 0)])]→Q (.ret (.ref d)) s'):
  wpAny (model pg (wb w b)) A (execs [ad (sB (ad ap 4)) 0] (cG F)) Q E s:=
 oI (n:=60) (fun D N=>∃b1 b2 d,D=.ret (.ref d)∧N=[(F,(cJ w b T p af la_ [])),(b1,br [(.str s!"fault" 0),(.str iv 0)]),(b2,aV [(.ref b1)]),(d,br [(.ref b2),(.int U 0)])]) rfl rm tp hF h7 (fun D N ⟨b1,b2,d,e,_⟩=>⟨d,e⟩) (fun R' k y=>⟨4000,(wz p U),bB (sel:=[0,1,2,3]) rfl (I7 w T af la_ p U F y _ b) (fun Ok sm mo dn=>mo fun b1=>mo fun b2=>sm (aE _ _ _ h3) fun u0_3=>mo fun d=>dn fun r' s2 hr' P=>k _ _ r' s2 ⟨b1,b2,d,rfl,rfl⟩ hr' P)⟩) (fun D N s' ⟨b1,b2,d,e1,e2⟩ P=>by subst e1 e2; exact h b1 b2 d s' P)
theorem wC {w:World} {b:Bool} {A:Around} {s:Shared} {F:Addr} {T af la_:Str} {p:Int} {r:Bool} (i:Hf w b 60 A s F (cJ w b T p af la_ [])) (d:(af.cps.toList == ([47]:List Nat))=r):ck i (sE (ad ap 5)) (cG F) r:=
 ct [0] (I8 af r) fun Ok Fin D mo dn cn=>cn (D (sq d) fun _=>dn [F]) fun _ _=>by delta zb bh b
noncomputable def JQ (w:World) (b:Bool) (F:Addr) (fr:Obj) (D:List Stmt) (p d e:Int) (M X:Str):Prop:=∀⦃A:Around⦄ ⦃s:Shared⦄ (rm:au 60 A) (tp:aC (vs w b 60) s.heap) (hF:aJ s.heap [(F,fr)]) (h7:790≤F) (he:p + d=e) ⦃Q:Flow→Shared→Prop⦄ ⦃E:Value→Shared→Prop⦄ (h:∀b1 b2 b3 b4 s',aD (vs w b 60) s [F] s' [(F,fr),(b1,br [(.str s!"fault" 0),(.str M 0)]),(b2,br [(.str s!"text" 0),(.str X 0)]),(b3,aV [(.ref b1),(.ref b2)]),(b4,br [(.ref b3),(.int e 0)])]→Q (.ret (.ref b4)) s'),
  wpAny (model pg (wb w b)) A (execs D (cG F)) Q E s
theorem oM {w:World} {b:Bool} {F:Addr} {fr:Obj} {stm:List Stmt} {p d e:Int} {M X:Str} (pa:∀y tb,(aN (vs w b 60) 4000 .out (aO stm (cG F)) (oh [fun ks=>aY p d e] 0x1068f4) (fillAll y 0 [(F,fr)]) tb 0 []).norm [0,1,2,3,4]=.more fun b1=>.more fun b2=>.more fun b3=>.sum (aY p d e) [] fun _=>.more fun D=>.done (bc [F,b1,b2,b3,D] (oh [fun ks=>aY p d e] 0x1068f4) []) (.ok (.ret (.ref D))) [(F,fr),(b1,br [(.str s!"fault" 0),(.str M 0)]),(b2,br [(.str s!"text" 0),(.str X 0)]),(b3,aV [(.ref b1),(.ref b2)]),(D,br [(.ref b3),(.int e 0)])]):JQ w b F fr stm p d e M X:=fun A s rm tp hF h7 he Q E h=>
 oI (n:=60) (fun fl N=>∃b1 b2 b3 D,fl=.ret (.ref D)∧N=[(F,fr),(b1,br [(.str s!"fault" 0),(.str M 0)]),(b2,br [(.str s!"text" 0),(.str X 0)]),(b3,aV [(.ref b1),(.ref b2)]),(D,br [(.ref b3),(.int e 0)])]) rfl rm tp hF h7 (fun fl N ⟨b1,b2,b3,D,e,_⟩=>⟨D,e⟩) (fun R' k y=>⟨4000,oh [fun ks=>aY p d e] 0x1068f4,bB (sel:=[0,1,2,3,4]) rfl (pa y _) (fun Ok sm mo dn=>mo fun b1=>mo fun b2=>mo fun b3=>sm (aE _ _ _ he) fun _=>mo fun D=>dn fun r' s2 hr' P=>k _ _ r' s2 ⟨b1,b2,b3,D,rfl,rfl⟩ hr' P)⟩) (fun fl N s' ⟨b1,b2,b3,D,e1,e2⟩ P=>by subst e1 e2; exact h b1 b2 b3 D s' P)
theorem Jf {w:World} {b:Bool} {F:Addr} {T af la_:Str} {p e:Int}:JQ w b F (cJ w b T p af la_ []) [ad (sB (ad ap 5)) 0] p 2 e j4 s!"</":=
 oM fun _ _=>by delta zb bh b
theorem Dd {w:World} {b:Bool} {A:Around} {s:Shared} {F:Addr} {T af la_:Str} {p:Int} {r:Bool} (i:Hf w b 60 A s F (cJ w b T p af la_ [])) (d:(af.cps.toList == ([62]:List Nat))=r):ck i (sE (ad ap 6)) (cG F) r:=
 ct [0] (I9 af r) fun Ok Fin D mo dn cn=>cn (D (sq d) fun _=>dn [F]) fun _ _=>by delta zb bh b
theorem Jg {w:World} {b:Bool} {F:Addr} {T af la_:Str} {p e:Int}:JQ w b F (cJ w b T p af la_ []) [ad (sB (ad ap 6)) 0] p 2 e j3 s!"<>":=
 oM fun _ _=>by delta zb bh b
theorem Jh {w:World} {b:Bool} {F:Addr} {T af la_:Str} {p e:Int}:JQ w b F (cJ w b T p af la_ []) [ad ap 7] p 1 e kM s!"<":=
 oM fun _ _=>by delta zb bh b
theorem aK.mem {h d:Heap}:∀{as:List Addr} {ts:List Tk},aK h as ts→(∀a∈as,∀o,h.get? a=some o→d.get? a=some o)→aK d as ts
 | [],[],_,_=>trivial
 | [],_::_,t,_=>t.elim
 | _::_,[],t,_=>t.elim
 | a::as,t::ts,⟨⟨o,u,z⟩,B⟩,k=>⟨⟨o,k a (.head _) o u,z⟩,aK.mem B fun x D=>k x (.tail _ D)⟩
theorem kn:∀{pre:List Str} {c:Str} {r:List Str} {l:List Value},ae l=aR (pre++c::r)→∃t,l[pre.length]?=some (.str c t)
 | [],c,r,v::l,h=>by
  have h:ai v::ae l=.str c 0::aR r:=h
  delta zn
  injection h with d u
  obtain ⟨t,rfl⟩:=aL d
  delta zm
  exact⟨t,rfl⟩
 | [],c,r,[],h=>by cases h
 | x::pre,c,r,[],h=>by cases h
 | x::pre,c,r,v::l,h=>by
  have h:ai v::ae l=.str x 0::aR (pre++c::r):=h
  delta zn
  injection h with d u
  obtain ⟨t,e⟩:=kn (pre:=pre) (l:=l) u
  delta zm
  exact⟨t,by simpa using e⟩
theorem AF {w:World} {b:Bool} {F L it acc q:Addr} {told:List Str} (nd:([it,L,acc]:List Addr).Nodup) (h7:∀x∈([it,L,acc]:List Addr),790≤x) (hq:q∉([it,L,acc]:List Addr)) (hl:told.length≤1000):
  ∀(rest pre:List Str),told=pre++rest→∀(A:Around) (s:Shared) (o:Option Str) (as:List Addr) (n:Nat),au 100 A→aC (vs w b 100) s.heap→aJ s.heap [(it,gv q (pre.length:Nat)),(L,ke w b o)]→dy s.heap q (aR told)→s.heap.get? acc=some (ah (aq as) n)→aK s.heap as (bt pre)→(∀a∈as,a∉([it,L,acc]:List Addr))→
   codeAny (model pg (wb w b)) A (iC F L it acc) (fun r s'=>r=.ok .next∧aH (vs w b 100) [it,L,acc] s s'∧(∃as' n',s'.heap.get? acc=some (ah (aq as') n')∧aK s'.heap as' (bt told)∧∀a∈as',a∉([it,L,acc]:List Addr)∧(a∈as∨790≤a∧s.heap.get? a=none))∧∃o',aJ s'.heap [(L,ke w b o')]∧(rest=[]→o'=o)∧(rest≠[]→∃x,o'=some x)) s:=by
 delta zy w b F L it acc q told at nd h7 hq hl
 have hi:∀{q':Addr} {i:Int} {fr:Obj} {l:List Value} {en:Nat},∀p∈[(it,gv q' i),(L,fr)]++[(acc,ah l en)],(vs w b 100).n₁≤p.1:=cB (h7 it (.head _)) (cB (h7 L (.tail _ (.head _))) (cB (h7 acc (.tail _ (.tail _ (.head _)))) fun _ h=>(by cases h)))
 intro rest
 induction rest with
 | nil=>
  intro pre hr A s o as n rm tp at_ H ga ht D
  rw [List.append_nil] at hr
  delta zn
  subst hr
  obtain ⟨lq,nq,gq,eq⟩:=H
  delta zm
  have I:lq[told.length]?=none:=List.getElem?_eq_none (by rw [←aB lq,eq,fC]; exact Nat.le_refl _)
  refine d9 false (V:=vs w b 100) (X:=[(acc,ah (aq as) n)]) rfl rfl rm (c:=iC F L it acc) rfl tp at_ (ak ga) hi nd fun y z=>⟨4000,CY,?_⟩
  refine cM rfl (Ar w F y _ q (aq as) n L it acc _ z o b) (fun Ok sm mo cL=>cL rfl fun A1 s1 c1 G gk hc rm1 P=>?_)
  delta zn
  obtain ⟨pos,rfl,hp⟩:=av hc
  obtain ⟨u,rfl,h1⟩:=mN hp
  cases bb h1
  obtain ⟨oi,gi,ei⟩:=P.get 0 rfl
  cases (dA ei)
  delta zm
  have gq1:s1.heap.get? q=some (ah lq nq):=P.frame q _ gq hq
  refine CN (L1:=[(L,ke w b o)]) (O':=fld (.type "list_iterator") [.none,.int (told.length:Nat) 0]) (by rw [show s1.heap.get? it=some (gv q (told.length:Nat)) from gi]; exact fun z=>by cases z) P (fun R' h=>F6 rm1.2.2 gi gq1 I fun h' q1 J=>h h' q1 J) fun l1 U e1 e2 s2 el f n1 n2=>gk fun y0 t0=>?_
  refine bB rfl (Av w F y _ q t0 y0 _ (aq as) l1 n U L it acc e1 e2 _ z o b) (fun Ok sm mo dn=>dn fun r' s3 er P2=>?_)
  have ff:aH (vs w b 100) [it,L,acc] s s3:=f.trans P2.far (ag (.inl (.head _)) (ag (n1) (ag (n2) (ag (.inl (.tail _ (.head _))) (ak (.inl (.tail _ (.tail _ (.head _)))))))))
  refine⟨bm er,ff,?_,o,ak (P2.get 3 rfl),fun _=>rfl,fun h=>absurd rfl h⟩
  delta zn
  obtain ⟨o',q1,J⟩:=P2.get 4 rfl
  rw [el] at J
  obtain ⟨n',rfl⟩:=bV J
  delta zm
  exact⟨as,n',q1,ht.mem fun a ha o e=>ff.frame a o e (D a ha),fun a ha=>⟨D a ha,.inl ha⟩⟩
 | cons c r ih=>
  intro pre hr A s o as n rm tp at_ H ga ht D
  have hr2:told=(pre++[c])++r:=by rw [hr,List.append_assoc]; rfl
  have le:((pre++[c]).length:Nat)=pre.length + 1:=by simp
  have hlq0:=H
  delta zn
  obtain ⟨lq,nq,gq,eq⟩:=H
  rw [hr] at eq
  obtain ⟨tk,I⟩:=kn eq
  delta zm
  have la:as.length≤1000:=by
   have:=dr ht
   rw [this]
   have:(bt pre).length=pre.length:=List.length_map _
   rw [this]
   have:=congrArg List.length hr
   simp at this
   omega
  refine d9 false (V:=vs w b 100) (X:=[(acc,ah (aq as) n)]) rfl rfl rm (c:=iC F L it acc) rfl tp at_ (ak ga) hi nd fun y z=>⟨4000,C0,?_⟩
  refine cM rfl (Ay w F y _ q (aq as) n L it acc _ z o b) (fun Ok sm mo cL=>cL rfl fun A1 s1 c1 G gk hc rm1 P=>?_)
  delta zn
  obtain ⟨pos,rfl,hp⟩:=av hc
  obtain ⟨u,rfl,h1⟩:=mN hp
  cases bb h1
  obtain ⟨oi,gi,ei⟩:=P.get 0 rfl
  cases (dA ei)
  delta zm
  have gq1:s1.heap.get? q=some (ah lq nq):=P.frame q _ gq hq
  refine vX (L1:=[(L,ke w b o)]) (O':=gv q ((pre.length + 1:Nat):Int)) (v':=.str c tk) rfl P (fun R' h=>zE gi gq1 I fun h' q1 J=>h h' _ q1 J) fun l1 U s2 e1 f _=>gk fun y0 t0=>?_
  refine cM rfl (AB w F y _ q t0 y0 _ (aq as) l1 n U L it acc _ z c ((pre.length + 1:Nat):Int) o b) (fun Ok sm mo cL=>mo fun B=>cL rfl fun A2 s3 c2 G gk hc2 rm2 P2=>?_)
  have Lw:([it,L,acc,B]:List Addr).Nodup:=P2.nd
  have nk:B∉([it,L,acc]:List Addr):=fun z=>(List.nodup_append.mp (show([it,L,acc]++[B]:List Addr).Nodup from Lw)).2.2 B z B (.head _) rfl
  delta zn
  obtain ⟨ob,gb,eb⟩:=P2.get 3 rfl
  delta zm
  have hb7:=P2.hi' 3 rfl
  have fb:s.heap.get? B=none:=(f.old ((P2.own' B (.tail _ (.tail _ (.tail _ (.head _))))).resolve_left nk)).resolve_left nk
  have P2':aD (vs w b 100) s2 [it,L,acc] s3 ([(it,gv q ((pre.length + 1:Nat):Int)),(L,ke w b (some c))]++[(acc,aV (ae l1))]):=
   ⟨fun p hp=>P2.at_ p (by simp only [List.cons_append,List.nil_append,List.mem_cons,List.not_mem_nil,or_false] at hp ⊢; grind),P2.top,P2.frame,fun p hp=>P2.own p (by simp only [List.cons_append,List.nil_append,List.mem_cons,List.not_mem_nil,or_false] at hp ⊢; grind),fun p hp=>P2.hi p (by simp only [List.cons_append,List.nil_append,List.mem_cons,List.not_mem_nil,or_false] at hp ⊢; grind),P2.grow,P2.gens,P2.os,nd,P2.toks⟩
  refine p9 (L0:=[(it,gv q ((pre.length + 1:Nat):Int)),(L,ke w b (some c))]) hc2 P2' (by rw [gj e1,cW]; omega) fun l2 en2 s4 e2 f2 sb=>gk fun y1 t1=>?_
  refine lG rfl (AE w F y _ q t0 y0 _ (aq as) l1 l2 n U en2 B t1 y1 _ L it acc _ z c ((pre.length + 1:Nat):Int) o b) (fun Ok sm mo cL=>cL rfl fun s5 P5=>?_)
  have f5:aH (vs w b 100) [it,L,acc] s s5:=(f.trans f2 fun x I=>.inl I).trans P5.far fun x I=>.inl I
  delta zn
  obtain ⟨oa,q1,J⟩:=P5.get 2 rfl
  have e3:ae l2=ae (aq (as++[B])):=by rw [e2,e1,dS,bM]; rfl
  rw [e3] at J
  obtain ⟨n5,rfl⟩:=bV J
  delta zm
  have keep:∀a o,s.heap.get? a=some o→a∉([it,L,acc]:List Addr)→s5.heap.get? a=some o:=fun a o e h=>f5.frame a o e h
  have gb5:s5.heap.get? B=some ob:=P5.frame B ob ((sb.2 B fun z=>nk (by rw [z]; simp)).trans gb) nk
  have ht5:aK s5.heap (as++[B]) (bt (pre++[c])):=by
   rw [gh]
   exact aK.snoc (t:=(7,c)) ⟨ob,gb5,eb⟩ (ht.mem fun a ha o e=>keep a o e (D a ha))
  refine codeAny_mono (ih (pre++[c]) hr2 A s5 (some c) (as++[B]) n5 rm P5.top ?_ (hlq0.keep fun o e=>keep q o e hq) q1 ht5 ?_) ?_
  ·exact ag (by rw [le]; exact P5.get 0 rfl) (ak (P5.get 1 rfl))
  ·intro a ha
   rcases List.mem_append.mp ha with ha | ha
   ·exact D a ha
   ·rw [List.mem_singleton.mp ha]; exact nk
  ·rintro r' s6 ⟨rfl,f6,⟨as',n',g1,g2,g3⟩,o6,a6,m1,m2⟩
   refine⟨rfl,f5.trans f6 fun x I=>.inl I,⟨as',n',g1,g2,fun a ha=>⟨(g3 a ha).1,?_⟩⟩,o6,a6,(fun h=>by cases h),fun _=>?_⟩
   ·rcases (g3 a ha).2 with h | ⟨h,h'⟩
    ·rcases List.mem_append.mp h with h | h
     ·exact .inl h
     ·rw [List.mem_singleton.mp h]; exact .inr ⟨hb7,fb⟩
    ·exact .inr ⟨h,(f5.old h').resolve_left (g3 a ha).1⟩
   ·cases r with
    | nil=>exact⟨_,m1 rfl⟩
    | cons d r=>exact m2 (by simp)
theorem wD:fS=.ListComp (xE fS) [⟨(g0 fS).target,(g0 fS).iter,(g0 fS).ifs,0⟩] (xS fS) (xP fS):=by kernel_rfl
theorem Gs {F L it acc:Addr} {c:Code} (h:ao c=ow F L it acc):c=ow F L it acc:=by
 cases c <;> first | exact h | cases h
theorem sA {prog:Program} {w:World} {A:Around} {s:Shared} {q:Addr} {l:List Value} {n:Nat} {R:Result→Shared→Prop} (d:s.heap.get? q=some (ah l n)) (h:R (.ok (.ret (.ref s.heap.objs.size))) {s with heap:=s.heap.push (gv q 0)}):codeAny (model prog w) A (.call (.builtin "list.__iter__") ⟨[.ref q],[]⟩) R s:=
 codeAny_call_builtin F.slot_list_iter.plain F.entry_list_iter (F.slot_list_iter.check _ _ _ _ _ _ _ _ ⟨_,d,rfl⟩ (F.args_list_iter_1 _) (PySem.AutoListH.list___iter___list_0 q ⟨l⟩ n prog w A R s ⟨d,h⟩))
structure fU (s s':Shared) (t q:Addr) (as:List Addr) (ts:List Tk) (e:Int):Prop where
 tp:aJ s'.heap [(t,br [.ref q,.int e 0])]
 ls:∃n,s'.heap.get? q=some (ah (aq as) n)
 tu:aK s'.heap as ts
 new:∀x∈t::q::as,790≤x∧s.heap.get? x=none
 ne:t≠q
noncomputable def AG (w:World) (b:Bool) (F q:Addr) (s:Shared) (ts:List Tk) (e:Int) (r':Result) (s':Shared):Prop:=∃t r as,r'=.ok (.ret (.ref t))∧aH (vs w b 60) [F,q] s s'∧fU s s' t r as ts e
theorem AG.of {w:World} {b:Bool} {F q:Addr} {s s':Shared} {ts:List Tk} {e:Int} {r':Result} {t r:Addr} {as:List Addr} (h:r'=.ok (.ret (.ref t))) (f:aH (vs w b 60) [F,q] s s') (k:fU s s' t r as ts e):AG w b F q s ts e r' s':=⟨t,r,as,h,f,k⟩
theorem Ji {w:World} {b:Bool} {A:Around} {s:Shared} {F q:Addr} {T af la:Str} {D:List Nat} {p e:Int} {told:List Str} (rm:au 60 A) (tp:aC (vs w b 60) s.heap) (hF:aJ s.heap [(F,(cJ w b T p af la [!["data",.str ⟨⟨D⟩⟩ 0],!["told",.ref q],!["end",.int e 0]]))]) (h7:790≤F) (hq:dy s.heap q (aR told)) (hqF:q≠F) (h8:790≤q) (hl:told.length≤1000) {Q:Flow→Shared→Prop} {E:Value→Shared→Prop}
  (h:∀t r as s',aH (vs w b 60) [F,q] s s'→fU s s' t r as (bt told++[bw D]) e→Q (.ret (.ref t)) s'):wpAny (model pg (wb w b)) A (execs [ad (sB (ad ap 2)) 1] (cG F)) Q E s:=by
 delta zz w b A s F q T af la D p e told Q E at rm tp hF h7 hq hqF h8 hl
 refine wpAny_mono (aP (R:=AG w b F q s (bt told++[bw D]) e) ?_) (fun f s' z=>by obtain ⟨t,r,as,e,z1,z2⟩:=z; injection e with e; rw [e]; exact h t r as s' z1 z2) (fun e s' z=>(by obtain ⟨t,r,as,e,_⟩:=z; cases e))
 delta zn
 obtain ⟨l,en0,gq,eq⟩:=hq
 delta zm
 have nd0:([F,q]:List Addr).Nodup:=by
  refine lC ?_
  exact fun z=>hqF z.symm
 refine cC (V:=vs w b 60) (X:=[(q,ah l en0)]) rfl rfl rm tp hF (ak gq) (ag h7 (ak h8)) nd0 fun y=>⟨4000,CU (!told.isEmpty),?_⟩
 refine cM rfl (zY w T af la p F y _ q ⟨⟨D⟩⟩ e l en0 (!told.isEmpty) b) (fun Ok sm mo cL=>cL rfl fun A1 s1 c1 G gk hc1 rm1 P1=>?_)
 delta zn
 obtain ⟨pos,rfl,hp⟩:=av hc1
 obtain ⟨u,rfl,hu⟩:=mN hp
 cases bb hu
 obtain ⟨oq,gq1,eq1⟩:=P1.get 1 rfl
 obtain ⟨l1,en1,rfl,el1⟩:=bI eq1
 obtain ⟨oF,gF1,eF1⟩:=P1.get 0 rfl
 delta zm
 refine sA gq1 ⟨_,[(s1.heap.objs.size,gv q 0),(F,(cJ w b T p af la [!["data",.str ⟨⟨D⟩⟩ 0],!["told",.ref q],!["end",.int e 0]]))],[(q,ah l1 en1)],rfl,ag ⟨_,Heap.get?_push_size _ rfl,rfl⟩ (ak ⟨oF,Heap.get?_push_of_some _ gF1,eF1⟩),ak (Heap.get?_push_of_some _ gq1),P1.top.push _,ag P1.top.2 (ag h7 (ak h8)),?_,gk fun y0 t0=>?_⟩
 ·show([s1.heap.objs.size,F,q]:List Addr).Nodup
  refine List.nodup_cons.mpr ⟨fun z=>?_,nd0⟩
  have z:=c9 z
  rcases z with z | z
  ·exact Nat.lt_irrefl _ (z▸Heap.lt_size gF1)
  ·exact Nat.lt_irrefl _ (z▸Heap.lt_size gq1)
 have f1:aH (vs w b 60) [F,q] s {s1 with heap:=s1.heap.push (gv q 0)}:=gP P1.far _
 have nia:s.heap.get? s1.heap.objs.size=none:=Heap.get?_none_of_le P1.grow
 revert nia f1
 generalize hs2:({s1 with heap:=s1.heap.push (gv q 0)}:Shared)=s2
 generalize s1.heap.objs.size=ia
 intro f1 nia
 refine cM rfl (Ab w T af la p F y _ q ⟨⟨D⟩⟩ e t0 y0 _ ia l l1 en0 en1 (!told.isEmpty) b) (fun Ok sm mo cL=>mo fun H=>mo fun I=>cL rfl fun A2 s3 c2 G gk hc2 rm2 P3=>?_)
 have ec2:=Gs hc2
 subst ec2
 have x9:([ia,F,q,H,I]:List Addr).Nodup:=P3.nd
 have d:=x9
 have d:=LT d
 have fK:∀x∈([H,I]:List Addr),s.heap.get? x=none:=fun x J=>by
  have hx2:x∉([ia,F,q]:List Addr):=fun z=>(List.nodup_append.mp (show([ia,F,q]++[H,I]:List Addr).Nodup from x9)).2.2 x z x J rfl
  have z:s2.heap.get? x=none:=(P3.own' x (by have J:=c9 J; rcases J with rfl | rfl <;> simp [keys])).resolve_left hx2
  exact(f1.old z).resolve_left fun z=>hx2 (.tail _ z)
 have f3:aH (vs w b 60) [F,q] s s3:=f1.trans P3.far (ag (.inr nia) (ag (.inl (.head _)) (ak (.inl (.tail _ (.head _))))))
 delta zn
 obtain ⟨oa,g1,g2⟩:=P3.get 3 rfl
 obtain ⟨n0,rfl⟩:=gO g2
 obtain ⟨oi,gi1,gi2⟩:=P3.get 0 rfl
 have gi3:=dA gi2
 obtain ⟨oq3,gq3,eq3⟩:=P3.get 2 rfl
 obtain ⟨l3,en3,rfl,el3⟩:=bI eq3
 delta zm
 have hi3:∀x∈([ia,F,q,H,I]:List Addr),790≤x:=fun x J=>by
  obtain ⟨p,hp,rfl⟩:=List.mem_map.mp (show x∈List.map Prod.fst [(ia,gv q 0),(F,(cJ w b T p af la [!["data",.str ⟨⟨D⟩⟩ 0],!["told",.ref q],!["end",.int e 0]])),(q,aV (ae l1)),(H,aV []),(I,fI [])] from J)
  exact P3.hi p hp
 refine gm wD (fun hQ=>wpAny_pyIter_listiter (l:=q) (i:=0) ⟨_,gi1,by rw [gi3]; rfl,by rw [gi3]; rfl⟩ hQ) (codeAny_mono (AF (w:=w) (b:=b) (F:=F) (L:=I) (it:=ia) (acc:=H) (q:=q) (told:=told) ?_ ?_ ?_ hl told [] rfl A2 s3 none [] n0 rm2 P3.top (ag (P3.get 0 rfl) (ak (P3.get 4 rfl))) ⟨l3,en3,gq3,by rw [el3,el1,eq]⟩ g1 trivial (fun a ha=>by cases ha)) ?_)
 ·simp only [List.nodup_cons,List.mem_cons,List.not_mem_nil,or_false,not_or,not_false_eq_true,List.nodup_nil,and_true]
  exact⟨⟨d.1.2.2.2,d.1.2.2.1⟩,fun z=>d.2.2.2.1 z.symm⟩
 ·intro x J
  have J:=iG J
  rcases J with rfl | rfl | rfl <;> exact hi3 _ (by simp)
 ·refine qA ?_
  exact⟨fun z=>d.1.2.1 z.symm,d.2.2.1.2,d.2.2.1.1⟩
 intro r4 s4 hZ
 delta zn
 obtain ⟨rfl,f4,⟨as,n4,gacc,htu,hnew⟩,o',a4,m1,m2⟩:=hZ
 have f4:aH (vs w b 60) [ia,I,H] s3 s4:=f4.room
 have f04:aH (vs w b 60) [F,q] s s4:=f3.trans f4 (ag (.inr nia) (ag (.inr (fK _ (.tail _ (.head _)))) (ak (.inr (fK _ (.head _))))))
 obtain ⟨oF3,gF3,eF3⟩:=P3.get 1 rfl
 have gF4:s4.heap.get? F=some oF3:=f4.frame F _ gF3 (by
  refine qA ?_
  exact⟨fun z=>d.1.1 z.symm,d.2.1.2.2,d.2.1.2.1⟩)
 have gq4:s4.heap.get? q=some (ah l3 en3):=f4.frame q _ gq3 (by
  refine qA ?_
  exact⟨fun z=>d.1.2.1 z.symm,d.2.2.1.2,d.2.2.1.1⟩)
 have asn:∀a∈as,790≤a∧s3.heap.get? a=none:=fun a ha=>((hnew a ha).2).resolve_left (by simp)
 have asF:∀a∈as,a∉([F,I,H]:List Addr):=fun a ha z=>by
  have z:=iG z
  rcases z with z | z | z
  ·have:=(asn a ha).2; rw [z,gF3] at this; cases this
  ·exact(hnew a ha).1 (by rw [z]; simp)
  ·exact(hnew a ha).1 (by rw [z]; simp)
 have asS:∀a∈as,s.heap.get? a=none:=fun a ha=>(f3.old (asn a ha).2).resolve_left fun z=>by
  have z:=c9 z
  rcases z with z | z
  ·exact asF a ha (by rw [z]; simp)
  ·have:=(asn a ha).2; rw [z,gq3] at this; cases this
 have asL:∀a∈as,s4.heap.get? a≠none:=fun a ha=>by
  have key:∀{as:List Addr} {ts:List Tk},aK s4.heap as ts→∀a∈as,s4.heap.get? a≠none:=by
   intro as
   induction as with
   | nil=>intro ts _ a ha; cases ha
   | cons x as ih=>
    intro ts t a ha
    cases ts with
    | nil=>exact t.elim
    | cons t0 ts=>
     rcases List.mem_cons.mp ha with h | ha
     ·subst a
      obtain ⟨⟨o,h1,_⟩,_⟩:=t
      rw [h1]; exact fun z=>by cases z
     ·exact ih t.2 a ha
  exact key htu a ha
 obtain ⟨cs,rfl⟩:=vq m1 m2
 delta zm
 refine⟨.ok .next,[(F,(cJ w b T p af la [!["data",.str ⟨⟨D⟩⟩ 0],!["told",.ref q],!["end",.int e 0]])),(I,ke w b (oq (!told.isEmpty) cs))],[(H,ah (aq as) n4)],rfl,ag ⟨oF3,gF4,eF3⟩ (ak (a4 _ (.head _))),ak gacc,f4.top,ag h7 (ag (hi3 I (by simp)) (ak (hi3 H (by simp)))),?_,gk fun y1 t1=>?_⟩
 ·show([F,I,H]:List Addr).Nodup
  simp only [List.nodup_cons,List.mem_cons,List.not_mem_nil,or_false,not_or,not_false_eq_true,List.nodup_nil,and_true]
  exact⟨⟨d.2.1.2.2,d.2.1.2.1⟩,fun z=>d.2.2.2.1 z.symm⟩
 refine cM rfl (Af w T af la p F y _ q ⟨⟨D⟩⟩ e t0 y0 _ ia l l1 (aq as) en0 en1 n4 H I t1 y1 _ cs (!told.isEmpty) b) (fun Ok sm mo cL=>mo fun B=>mo fun Kc2=>cL rfl fun A3 s5 c3 G gk hc3 rm3 P5=>?_)
 delta zn
 obtain ⟨pos3,rfl,hp3⟩:=av hc3
 obtain ⟨u3,v3,rfl,hu3,hv3⟩:=eA hp3
 cases bb hu3
 cases bb hv3
 have nd5:([F,I,H,B,Kc2]:List Addr).Nodup:=P5.nd
 obtain ⟨oF5,gF5,eF5⟩:=P5.get 0 rfl
 obtain ⟨ob5,gb5,eb5⟩:=P5.get 2 rfl
 obtain ⟨nb5,rfl⟩:=bV eb5
 obtain ⟨oc5,gc5,ec5⟩:=P5.get 3 rfl
 obtain ⟨od5,gd5,ed5⟩:=P5.get 4 rfl
 obtain ⟨ld,nd',rfl,eld⟩:=bI ed5
 obtain ⟨vd,rfl,evd⟩:=mN eld
 cases bb evd
 delta zm
 have hc7:=P5.hi' 3 rfl
 have nKc:B∉([F,I,H]:List Addr):=fun z=>(List.nodup_append.mp (show([F,I,H]++[B,Kc2]:List Addr).Nodup from nd5)).2.2 B z B (.head _) rfl
 have fKc:s4.heap.get? B=none:=(P5.own' B (.tail _ (.tail _ (.tail _ (.head _))))).resolve_left nKc
 have fKcS:s.heap.get? B=none:=(f04.old fKc).resolve_left fun z=>by
  have z:=c9 z
  rcases z with z | z
  ·rw [z,gF4] at fKc; cases fKc
  ·rw [z,gq4] at fKc; cases fKc
 have f05:aH (vs w b 60) [F,q] s s5:=f04.trans P5.far (ag (.inl (.head _)) (ag (.inr (fK _ (.tail _ (.head _)))) (ak (.inr (fK _ (.head _))))))
 have as5:∀a∈as,∀o,s4.heap.get? a=some o→s5.heap.get? a=some o:=fun a ha o e=>P5.frame a o e (asF a ha)
 have lAs:as.length≤1000:=by
  have:=dr htu
  rw [this]
  have:(bt told).length=told.length:=List.length_map _
  omega
 have z1000:(1000000:Nat)≤sizeLine:=by decide
 refine mi gb5 gd5 (by rw [cW]; simp; omega) ⟨_,[(F,(cJ w b T p af la [!["data",.str ⟨⟨D⟩⟩ 0],!["told",.ref q],!["end",.int e 0]])),(B,br [(.str s!"note" 0),(.str ⟨⟨D⟩⟩ 0)])],[(s5.heap.objs.size,ah (aq as++[.ref B]) 0)],rfl,ag ⟨oF5,Heap.get?_push_of_some _ gF5,eF5⟩ (ak ⟨oc5,Heap.get?_push_of_some _ gc5,ec5⟩),ak (Heap.get?_push_size _ rfl),P5.top.push _,ag h7 (ag hc7 (ak P5.top.2)),?_,gk fun y2 t2=>?_⟩
 ·show([F,B,s5.heap.objs.size]:List Addr).Nodup
  simp only [List.nodup_cons,List.mem_cons,List.not_mem_nil,or_false,not_or,not_false_eq_true,List.nodup_nil,and_true]
  exact⟨⟨fun z=>nKc (by rw [←z]; simp),fun z=>Nat.lt_irrefl _ (z▸Heap.lt_size gF5)⟩,fun z=>Nat.lt_irrefl _ (z▸Heap.lt_size gc5)⟩
 have f6:aH (vs w b 60) [F,q] s {s5 with heap:=s5.heap.push (ah (aq as++[.ref B]) 0)}:=gP f05 _
 have nna:s5.heap.get? s5.heap.objs.size=none:=da _
 have h6:790≤s5.heap.objs.size:=P5.top.2
 have e6:∀x o,s5.heap.get? x=some o→(s5.heap.push (ah (aq as++[.ref B]) 0)).get? x=some o:=fun x o e=>Heap.get?_push_of_some _ e
 have n6:∀x,(s5.heap.push (ah (aq as++[.ref B]) 0)).get? x=none→s5.heap.get? x=none:=fun x e=>by
  cases e2:s5.heap.get? x with
  | none=>rfl
  | some o=>rw [e6 x o e2] at e; cases e
 have gna:(s5.heap.push (ah (aq as++[.ref B]) 0)).get? s5.heap.objs.size=some (ah (aq as++[.ref B]) 0):=Heap.get?_push_size _ rfl
 refine bB rfl (Ai w T af la p F y _ q ⟨⟨D⟩⟩ e t0 y0 _ s5.heap.objs.size ia l l1 (aq as) (aq as++[.ref B]) en0 en1 n4 0 H I t1 y1 _ B Kc2 t2 y2 _ cs (!told.isEmpty) b) (fun Ok sm mo dn=>mo fun U=>dn fun r7 s7 er7 P7=>?_)
 have nd7:([F,B,s5.heap.objs.size,U]:List Addr).Nodup:=P7.nd
 have nKd:U∉([F,B,s5.heap.objs.size]:List Addr):=fun z=>(List.nodup_append.mp (show([F,B,s5.heap.objs.size]++[U]:List Addr).Nodup from nd7)).2.2 U z U (.head _) rfl
 have fKd:s5.heap.get? U=none:=n6 _ ((P7.own' U (.tail _ (.tail _ (.tail _ (.head _))))).resolve_left nKd)
 have naS:s.heap.get? s5.heap.objs.size=none:=(f05.old nna).resolve_left fun z=>by
  have z:=c9 z
  rcases z with z | z
  ·rw [z,gF5] at nna; cases nna
  ·have:s5.heap.get? q=some (ah l3 en3):=P5.frame q _ gq4 (by
    show q∉([F,I,H]:List Addr)
    refine qA ?_
    exact⟨hqF,d.2.2.1.2,d.2.2.1.1⟩)
   rw [z,this] at nna; cases nna
 have kdS:s.heap.get? U=none:=(f05.old fKd).resolve_left fun z=>by
  have z:=c9 z
  rcases z with z | z
  ·exact nKd (by rw [z]; simp)
  ·have:s5.heap.get? q=some (ah l3 en3):=P5.frame q _ gq4 (by
    show q∉([F,I,H]:List Addr)
    refine qA ?_
    exact⟨hqF,d.2.2.1.2,d.2.2.1.1⟩)
   rw [z,this] at fKd; cases fKd
 have as7:∀a∈as,∀o,s4.heap.get? a=some o→s7.heap.get? a=some o:=fun a ha o e=>P7.frame a o (e6 a o (as5 a ha o e)) fun z=>by
  have z:a∈([F,B,s5.heap.objs.size]:List Addr):=z
  have z:=iG z
  rcases z with z | z | z
  ·exact asF a ha (by rw [z]; simp)
  ·rw [z,fKc] at e; cases e
  ·have:=as5 a ha o e; rw [z,nna] at this; cases this
 delta zn
 obtain ⟨on7,gn7,en7⟩:=P7.get 2 rfl
 have er7':aq as++[Value.ref B]=aq (as++[B]):=(dS as [B]).symm
 rw [er7'] at en7
 obtain ⟨n7,rfl⟩:=bV en7
 obtain ⟨oc7,gc7,ec7⟩:=P7.get 1 rfl
 delta zm
 refine AG.of (dX er7) (f6.trans P7.far fun x J=>?_) (as:=as++[B]) ⟨ak (P7.get 3 rfl),⟨n7,gn7⟩,aK.snoc (t:=bw D) ⟨oc7,gc7,ec7⟩ (htu.mem as7),?_,fun z=>nKd (by rw [z]; simp)⟩
 ·have J:x∈([F,B,s5.heap.objs.size]:List Addr):=J
  have J:=iG J
  rcases J with h | h | h <;> subst x
  ·exact .inl (.head _)
  ·exact .inr fKcS
  ·exact .inr naS
 ·intro x J
  rcases List.mem_cons.mp J with h | J
  ·subst x
   exact⟨P7.hi' 3 rfl,kdS⟩
  ·rcases List.mem_cons.mp J with h | J
   ·subst x
    exact⟨h6,naS⟩
   ·rcases List.mem_append.mp J with J | J
    ·exact⟨(asn x J).1,asS x J⟩
    ·rw [List.mem_singleton.mp J]; exact⟨hc7,fKcS⟩
section
variable {w:World} {b:Bool} {A:Around} {s:Shared} {F:Addr} {T:List Nat} {af B:Str} {p:Int} {Q:Flow→Shared→Prop} {E:Value→Shared→Prop}
theorem Jj {J r0:List Nat} (rm:au 60 A) (tp:aC (vs w b 60) s.heap) (hF:aJ s.heap [(F,cJ w b ⟨⟨T⟩⟩ p af B [])]) (h7:790≤F) (tx:T=J++r0) (hp:p + 4=(J.length:Int)) (nc:NC r0) (len:T.length≤500)
  (h:∀q D told pre r s',dy s'.heap q (aR told)→790≤q→s.heap.get? q=none→told.length≤1000→T=pre++r→J.length≤pre.length→(∀TT,RD r TT→R1 .cs [] r0 (bt told++bw D::TT))→aH (vs w b 60) [F] s s'→
   aJ s'.heap [(F,cJ w b ⟨⟨T⟩⟩ p af B [!["data",.str ⟨⟨D⟩⟩ 0],!["told",.ref q],!["end",.int (pre.length:Int) 0]])]→Q .next s'):wpAny (model pg (wb w b)) A (execs [ad (sB (ad ap 2)) 0] (cG F)) Q E s:=by
 delta zz w b A s F T af B p Q E J r0
 refine wpAny_mono (aP (R:=fun r' s'=>r'=.ok .next∧∃q D told pre r,dy s'.heap q (aR told)∧790≤q∧s.heap.get? q=none∧told.length≤1000∧T=pre++r∧J.length≤pre.length∧(∀TT,RD r TT→R1 .cs [] r0 (bt told++bw D::TT))∧aH (vs w b 60) [F] s s'∧
   aJ s'.heap [(F,cJ w b ⟨⟨T⟩⟩ p af B [!["data",.str ⟨⟨D⟩⟩ 0],!["told",.ref q],!["end",.int (pre.length:Int) 0]])]) ?_) (fun f s' z=>by obtain ⟨e,q,D,told,pre,r,z1,z2,z3,z4,z5,z6,z7,z8,z9⟩:=z; injection e with e; rw [e]; exact h q D told pre r s' z1 z2 z3 z4 z5 z6 z7 z8 z9) (fun e s' z=>(by cases z.1))
 refine aM (V:=vs w b 60) rfl rfl rm tp hF (ak h7) (by simp [keys]) fun y=>⟨4000,CQ p (J.length:Int),?_⟩
 refine dk rfl (zS w ⟨⟨T⟩⟩ af B p F y _ (J.length:Int) b) (fun Ok sm mo cL=>sm (aE _ _ _ hp) fun u0_1=>cL rfl fun A1 s1 c1 G gk hc1 rm1 P1=>?_)
 delta zn
 obtain ⟨pos,rfl,hpp⟩:=av hc1
 obtain ⟨u,v,rfl,hu,hv⟩:=eA hpp
 obtain ⟨t1,rfl⟩:=aL hu
 obtain ⟨t2,rfl⟩:=aW hv
 delta zm
 refine codeAny_mono (oH tx nc len rm1 P1.top) ?_
 intro res s2 hZ
 delta zn
 obtain ⟨t,q,D,told,pre,r,rfl,C⟩:=hZ
 obtain ⟨oF,g1,g2⟩:=P1.get 0 rfl
 delta zm
 have tF:t≠F:=fun z=>by have:=C.fresh.1; rw [z,show s1.heap.get? F=some oF from g1] at this; cases this
 have qF:q≠F:=fun z=>by have:=C.fresh.2.1; rw [z,show s1.heap.get? F=some oF from g1] at this; cases this
 refine⟨.ok (.ret (.ref t)),[(F,cJ w b ⟨⟨T⟩⟩ p af B []),(t,br [.str ⟨⟨D⟩⟩ 0,.ref q,.int (pre.length:Int) 0])],⟨rfl,ag ⟨oF,C.far.frame F oF g1 (by simp),g2⟩ (ak (C.tp _ (.head _))),C.far.top,ag h7 (ak C.h7.1),?_⟩,gk fun y0 t0=>?_⟩
 ·show([F,t]:List Addr).Nodup
  refine lC ?_
  exact fun z=>tF z.symm
 refine bB rfl (zV w ⟨⟨T⟩⟩ af B p F y _ (J.length:Int) t q ⟨⟨D⟩⟩ (pre.length:Int) u0_1 t0 y0 _ b) (fun Ok sm mo dn=>mo fun Kb1=>mo fun Kb2=>mo fun Kb3=>dn fun r' s3 hr P2=>?_)
 have U:∀x,s1.heap.get? x=none→x≠F→s.heap.get? x=none:=fun x h1 h2=>(P1.far.old h1).resolve_left fun z=>h2 (List.mem_singleton.mp z)
 refine⟨bm hr,q,D,told,pre,r,C.ls.keep fun o e=>P2.frame q o e fun z=>?_,C.h7.2,U q C.fresh.2.1 qF,C.lt,C.tx,C.le,C.mach,?_,ak (P2.get 0 rfl)⟩
 ·have z:q∈([F,t]:List Addr):=z
  have z:=c9 z
  rcases z with z | z
  ·exact qF z
  ·exact C.fresh.2.2 z.symm
 ·have f1:aH (vs w b 60) [F] s s1:=P1.far
  have f2:aH (vs w b 60) [] s1 s2:=C.far.room
  exact(f1.trans f2 fun x hx=>by cases hx).trans P2.far (ag (.inl (.head _)) (ak (.inr (U _ C.fresh.1 tF))))
end
section
variable {w:World} {b:Bool} {A:Around} {s:Shared} {F:Addr} {T:List Nat} {af B H:Str} {p:Int} {Q:Flow→Shared→Prop} {E:Value→Shared→Prop}
theorem wE {v:Bool} {J r0:List Nat} (rm:au 60 A) (tp:aC (vs w b 60) s.heap) (hF:aJ s.heap [(F,cJ w b ⟨⟨T⟩⟩ p af B [!["told",.str H 0]])]) (h7:790≤F) (ha:(af.cps.toList == ([63]:List Nat))=v) (tx:T=J++r0) (hp:p + cond v 1 2=(J.length:Int)) (ab:∀c∈T,c < 128) (len:T.length≤500)
  (h:∀(U pre r:List Nat) (s':Shared),T=pre++r→J.length≤pre.length→(∀TT,RD r TT→∀D,R1 .bogus D r0 (bw (U.map c7)::TT))→aH (vs w b 60) [F] s s'→
   aJ s'.heap [(F,cJ w b ⟨⟨T⟩⟩ p af B [!["told",.str H 0],!["data",.str ⟨⟨U.map c7⟩⟩ 0],!["end",.int (pre.length:Int) 0]])]→Q .next s'):wpAny (model pg (wb w b)) A (execs [ad (sB (ad ap 3)) 1] (cG F)) Q E s:=by
 delta zz w b A s F T af B H p Q E v J r0
 refine wpAny_mono (aP (R:=fun r' s'=>r'=.ok .next∧∃U pre r:List Nat,T=pre++r∧J.length≤pre.length∧(∀TT,RD r TT→∀D,R1 .bogus D r0 (bw (U.map c7)::TT))∧aH (vs w b 60) [F] s s'∧
   aJ s'.heap [(F,cJ w b ⟨⟨T⟩⟩ p af B [!["told",.str H 0],!["data",.str ⟨⟨U.map c7⟩⟩ 0],!["end",.int (pre.length:Int) 0]])]) ?_) (fun f s' z=>by obtain ⟨e,U,pre,r,z1,z2,z3,z4,z5⟩:=z; injection e with e; rw [e]; exact h U pre r s' z1 z2 z3 z4 z5) (fun e s' z=>(by cases z.1))
 refine aM (V:=vs w b 60) rfl rfl rm tp hF (ak h7) (by simp [keys]) fun y=>⟨4000,CV af p (J.length:Int) v,?_⟩
 refine dk rfl (Al w ⟨⟨T⟩⟩ af B p F y _ (J.length:Int) H v b) (fun Ok sm mo cL=>sm (gW _ _ _ ha) fun u0_1=>sm (aE _ _ _ hp) fun u0_2=>cL rfl fun A1 s1 c1 G gk hc1 rm1 P1=>?_)
 delta zn
 obtain ⟨pos,rfl,hpp⟩:=av hc1
 obtain ⟨u,v,rfl,hu,hv⟩:=eA hpp
 obtain ⟨t1,rfl⟩:=aL hu
 obtain ⟨t2,rfl⟩:=aW hv
 delta zm
 refine codeAny_mono (wx tx ab len rm1 P1.top) ?_
 intro res s2 hZ
 delta zn
 obtain ⟨t,U,pre,r,rfl,C⟩:=hZ
 obtain ⟨oF,g1,g2⟩:=P1.get 0 rfl
 delta zm
 have tF:t≠F:=fun z=>by have:=C.fresh; rw [z,show s1.heap.get? F=some oF from g1] at this; cases this
 refine⟨.ok (.ret (.ref t)),[(F,cJ w b ⟨⟨T⟩⟩ p af B [!["told",.str H 0]]),(t,br [.str ⟨⟨U.map c7⟩⟩ 0,.int (pre.length:Int) 0])],⟨rfl,ag ⟨oF,C.far.frame F oF g1 (by simp),g2⟩ (ak (C.tp _ (.head _))),C.far.top,ag h7 (ak C.h7),?_⟩,gk fun y0 t0=>?_⟩
 ·show([F,t]:List Addr).Nodup
  refine lC ?_
  exact fun z=>tF z.symm
 refine bB rfl (Ao w ⟨⟨T⟩⟩ af B p F y _ (J.length:Int) t ⟨⟨U.map c7⟩⟩ (pre.length:Int) u0_1 t0 y0 _ H u0_2 v b) (fun Ok sm mo dn=>mo fun Kb1=>mo fun Kb2=>mo fun Kb3=>dn fun r' s3 hr P2=>?_)
 have old1:∀x,s1.heap.get? x=none→x≠F→s.heap.get? x=none:=fun x h1 h2=>(P1.far.old h1).resolve_left fun z=>h2 (List.mem_singleton.mp z)
 refine⟨bm hr,U,pre,r,C.tx,C.le,C.mach,?_,ak (P2.get 0 rfl)⟩
 have f1:aH (vs w b 60) [F] s s1:=P1.far
 have f2:aH (vs w b 60) [] s1 s2:=C.far.room
 exact(f1.trans f2 fun x hx=>by cases hx).trans P2.far (ag (.inl (.head _)) (ak (.inr (old1 _ C.fresh tF))))
end
section
variable {w:World} {b:Bool} {s s':Shared} {F b1 b2 d I:Addr} {fr:Obj} {X Y:Str} {k1 k2:Int} {e:Int}
theorem Jk (P:aD (vs w b 60) s [F] s' [(F,fr),(b1,br [.str (dq k1) 0,.str X 0]),(b2,aV [.ref b1]),(d,br [.ref b2,.int e 0])]):fU s s' d b2 [b1] [(k1,X)] e:=by
 delta zz w b s s' F b1 b2 d fr X k1 e
 have nd:([F,b1,b2,d]:List Addr).Nodup:=P.nd
 have G:∀x∈([b1,b2,d]:List Addr),s.heap.get? x=none:=fun x D=>(P.own' x (List.mem_cons_of_mem _ D)).resolve_left fun z=>(List.nodup_cons.mp nd).1 (by rw [←List.mem_singleton.mp z]; exact D)
 have l1:∃n,s'.heap.get? b2=some (ah (aq [b1]) n):=by
  obtain ⟨o,J,U⟩:=P.get 2 rfl
  obtain ⟨n,rfl⟩:=bV (gl:=[b1]) U
  exact⟨n,J⟩
 refine⟨ak (P.get 3 rfl),l1,⟨P.get 1 rfl,trivial⟩,fun x D=>?_,fun z=>?_⟩
 ·have u:x∈([b1,b2,d]:List Addr):=by simp only [List.mem_cons,List.not_mem_nil,or_false] at D ⊢; grind
  refine⟨?_,G x u⟩
  delta zn
  obtain ⟨q,hq,rfl⟩:=List.mem_map.mp (show x∈List.map Prod.fst [(b1,br [.str (dq k1) 0,.str X 0]),(b2,aV [.ref b1]),(d,br [.ref b2,.int e 0])] from u)
  delta zm
  exact P.hi q (.tail _ hq)
 ·rw [z] at nd
  simp at nd
theorem qe (P:aD (vs w b 60) s [F] s' [(F,fr),(b1,br [.str (dq k1) 0,.str X 0]),(b2,br [.str (dq k2) 0,.str Y 0]),(d,aV [.ref b1,.ref b2]),(I,br [.ref d,.int e 0])]):fU s s' I d [b1,b2] [(k1,X),(k2,Y)] e:=by
 delta zz w b s s' F b1 b2 d I fr X Y k1 k2 e
 have nd:([F,b1,b2,d,I]:List Addr).Nodup:=P.nd
 have G:∀x∈([b1,b2,d,I]:List Addr),s.heap.get? x=none:=fun x D=>(P.own' x (List.mem_cons_of_mem _ D)).resolve_left fun z=>(List.nodup_cons.mp nd).1 (by rw [←List.mem_singleton.mp z]; exact D)
 have l1:∃n,s'.heap.get? d=some (ah (aq [b1,b2]) n):=by
  obtain ⟨o,J,U⟩:=P.get 3 rfl
  obtain ⟨n,rfl⟩:=bV (gl:=[b1,b2]) U
  exact⟨n,J⟩
 refine⟨ak (P.get 4 rfl),l1,⟨P.get 1 rfl,P.get 2 rfl,trivial⟩,fun x D=>?_,fun z=>?_⟩
 ·have u:x∈([b1,b2,d,I]:List Addr):=by simp only [List.mem_cons,List.not_mem_nil,or_false] at D ⊢; grind
  refine⟨?_,G x u⟩
  delta zn
  obtain ⟨q,hq,rfl⟩:=List.mem_map.mp (show x∈List.map Prod.fst [(b1,br [.str (dq k1) 0,.str X 0]),(b2,br [.str (dq k2) 0,.str Y 0]),(d,aV [.ref b1,.ref b2]),(I,br [.ref d,.int e 0])] from u)
  delta zm
  exact P.hi q (.tail _ hq)
 ·rw [z] at nd
  simp at nd
theorem fU.base {u:Shared} {t q:Addr} {as:List Addr} {ts:List Tk} (K:fU s s' t q as ts e) (h:∀x,s.heap.get? x=none→u.heap.get? x=none):fU u s' t q as ts e:=
 ⟨K.tp,K.ls,K.tu,fun x z=>⟨(K.new x z).1,h x (K.new x z).2⟩,K.ne⟩
end
theorem AH {z:List Nat} {X:List Tk} (h:R1 .cs [] z X) (D:List Nat):R1 .tag D (33::45::45::z) X:=R1.go (ts:=[]) (q':=.mdo) (D':=D) (r':=45::45::z) rfl (R1.go (ts:=[]) (q':=.cs) (D':=[]) (r':=z) rfl h)
theorem AI {r:List Nat} {X:List Tk} (J:∀z,r≠45::45::z) (h:∀D,R1 .bogus D r X) (D:List Nat):R1 .tag D (33::r) ((7,ej)::X):=by
 refine R1.go (ts:=[]) (q':=.mdo) (D':=D) (r':=r) rfl (R1.go (ts:=[(7,ej)]) (q':=.bogus) (D':=D) (r':=r) ?_ (h D))
 rcases r with _ | ⟨c,_ | ⟨d,z⟩⟩
 ·rfl
 ·by_cases I:c=45
  ·rw [I]; rfl
  ·simp [cP,step,I]
 ·by_cases I:c=45
  ·have hd:d≠45:=fun e=>J z (by rw [I,e])
   simp [cP,step,hd]
  ·simp [cP,step,I]
theorem Jl {r:List Nat} {X:List Tk} (h:∀D,R1 .bogus D (63::r) X) (D:List Nat):R1 .tag D (63::r) ((7,fN)::X):=R1.go (ts:=[(7,fN)]) (q':=.bogus) (D':=D) (r':=63::r) rfl (h D)
theorem AJ {c:Nat} {r:List Nat} {X:List Tk} (d:c≠62) (h:∀D,R1 .bogus D (c::r) X) (D:List Nat):R1 .tag D (47::c::r) ((7,fO)::X):=
 R1.go (ts:=[]) (q':=.close) (D':=D) (r':=c::r) rfl (R1.go (ts:=[(7,fO)]) (q':=.bogus) (D':=D) (r':=c::r) (by simp [cP,step,d]) (h D))
theorem wF {r:List Nat} {X:List Tk} (h:RD r X) (D:List Nat):R1 .tag D (47::62::r) ((7,iv)::X):=
 R1.go (ts:=[]) (q':=.close) (D':=D) (r':=62::r) rfl (R1.go (ts:=[(7,iv)]) rfl (h D))
theorem wG {X:List Tk} (h:RD [] X) (D:List Nat):R1 .tag D [47] ((7,j4)::(1,s!"</")::X):=
 R1.go (ts:=[]) (q':=.close) (D':=D) (r':=[]) rfl (R1.go (ts:=[(7,j4),(1,s!"</")]) rfl (h D))
theorem Gt {r:List Nat} {X:List Tk} (h:RD r X) (D:List Nat):R1 .tag D (62::r) ((7,j3)::(1,s!"<>")::X):=R1.go (ts:=[(7,j3),(1,s!"<>")]) rfl (h D)
theorem wH {r:List Nat} {X:List Tk} (d:(r.take 1 == [33])=false) (z:(r.take 1 == [47])=false) (I:(r.take 1 == [62])=false) (J:(r.take 1 == [63])=false) (h:RD r X) (D:List Nat):R1 .tag D r ((7,kM)::(1,s!"<")::X):=by
 refine R1.go (ts:=[(7,kM),(1,s!"<")]) (q':=.data) (D':=D) (r':=r) ?_ (h D)
 cases r with
 | nil=>rfl
 | cons c r=>
  have g:∀{k:Nat},(([c]:List Nat) == [k])=false→c≠k:=fun {k} h e=>by rw [e,beq_self_eq_true] at h; cases h
  simp [cP,step,g d,g z,g I,g J]
inductive BV (B:List Nat):Prop
 | mdo (r:List Nat) (e:B=33::r)
 | q (r:List Nat) (e:B=63::r)
 | cloe (e:B=[47])
 | clor (r:List Nat) (e:B=47::62::r)
 | clo (d:Nat) (r:List Nat) (e:B=47::d::r) (h:d≠62)
 | gt (r:List Nat) (e:B=62::r)
 | els (h1:(B.take 1 == [33])=false) (h2:(B.take 1 == [47])=false) (h3:(B.take 1 == [62])=false) (h4:(B.take 1 == [63])=false)
theorem bv:∀B:List Nat,BV B
 | []=>.els rfl rfl rfl rfl
 | c::r=>
  if D:c=33 then .mdo r (by rw [D]) else
  if I:c=63 then .q r (by rw [I]) else
  if J:c=62 then .gt r (by rw [J]) else
  if z:c=47 then match r with
   | []=>.cloe (by rw [z])
   | d::r=>if h:d=62 then .clor r (by rw [z,h]) else .clo d r (by rw [z]) h
  else
   have g:∀{k:Nat},c≠k→((c::r).take 1 == [k])=false:=fun h=>beq_eq_false_iff_ne.mpr fun e=>h (List.cons.inj e).1
   .els (g D) (g z) (g J) (g I)
theorem KW {B:List Nat} (d:∀z,B≠33::45::45::z):((60::B).take 4 == ([60,33,45,45]:List Nat))=false:=beq_eq_false_iff_ne.mpr fun e=>by
 have e:=(List.cons.inj e).2
 refine d (B.drop 3) ?_
 rw [←List.take_append_drop 3 B,e]
 rfl
theorem Mm {T x z:List Nat} (h:T=x++z) (j k:Nat) {a e:Int} (ha:a=(x.length:Int) + j) (d:e=a + k):aX ⟨⟨T⟩⟩ (some a) (some e)=⟨⟨(z.drop j).take k⟩⟩:=by
 rw [show e=((x.length + j + k:Nat):Int) by rw [d,ha]; rfl,show a=((x.length + j:Nat):Int) from ha,dc,h,List.drop_take,←List.drop_drop,List.drop_left,Nat.add_sub_cancel_left]
theorem Hn {p l:List Nat} {x:Nat}:p.length < (p++x::l).length:=by rw [List.length_append]; exact Nat.lt_add_of_pos_right (Nat.succ_pos _)
theorem wI:ap=[ad ap 0,ad ap 1,ad ap 2,ad ap 3,ad ap 4,ad ap 5,ad ap 6,ad ap 7]:=by kernel_rfl
theorem wJ:ad ap 2=.If (sE (ad ap 2)) [ad (sB (ad ap 2)) 0,ad (sB (ad ap 2)) 1] [] (sP (ad ap 2)):=by kernel_rfl
theorem gp:ad ap 3=.If (sE (ad ap 3)) [ad (sB (ad ap 3)) 0,ad (sB (ad ap 3)) 1,ad (sB (ad ap 3)) 2] [] (sP (ad ap 3)):=by kernel_rfl
theorem kX:ad ap 4=.If (sE (ad ap 4)) [ad (sB (ad ap 4)) 0] [] (sP (ad ap 4)):=by kernel_rfl
theorem oO:ad ap 5=.If (sE (ad ap 5)) [ad (sB (ad ap 5)) 0] [] (sP (ad ap 5)):=by kernel_rfl
theorem wK:ad ap 6=.If (sE (ad ap 6)) [ad (sB (ad ap 6)) 0] [] (sP (ad ap 6)):=by kernel_rfl
theorem Jm (P:Params):JP P (F5 (jO P)) 784 783 (bo 26 none) ap "_law_bracket.<locals>." (Str.ofString "place") (sU P):=by
 refine⟨by kernel_rfl,by kernel_rfl,by kernel_rfl,by kernel_rfl,by kernel_rfl,by kernel_rfl,by kernel_rfl,by kernel_rfl,by kernel_rfl,by kernel_rfl,by kernel_rfl,by kernel_rfl,by kernel_rfl,?_,fun d z=>?_⟩
 ·exact⟨_,_,rfl,rfl⟩
 ·rw [PySem.W.ZFast.ze9782568553167038054]
  kernel_rfl
theorem Jn (P:Params):(jO P).data=.func (F5 (jO P)):=by kernel_rfl
structure KR (w:World) (b:Bool) (T B u:List Nat) (s s':Shared) (t q:Addr) (as:List Addr) (ts:List Tk) (pre r:List Nat):Prop where
 rows:fU s s' t q as ts (pre.length:Int)
 tx:T=pre++r
 lt:u.length < pre.length
 mach:∀TT,RD r TT→∀D,R1 .tag D B (ts++TT)
 ks:∀x∈ts,mH x.1
 len:ts.length≤1001
 far:aH (vs w b 100) [] s s'
section
variable {w:World} {b:Bool} {A:Around} {s:Shared} {T B u:List Nat} {H G:Tok}
theorem df {M:Model} {A:Around} {env:Env} {l l1 l2:List Stmt} {Q:Flow→Shared→Prop} {E:Value→Shared→Prop} {s:Shared} (e:l=l1++l2)
  (h:wpAny M A (execs l1 env) (fun f s'=>(f=.next→wpAny M A (execs l2 env) Q E s')∧(f≠.next→Q f s')) E s):wpAny M A (execs l env) Q E s:=by
 rw [e]; exact aQ l2 l1 h
theorem kY:[ad (sB (ad ap 3)) 0,ad (sB (ad ap 3)) 1,ad (sB (ad ap 3)) 2]=[ad (sB (ad ap 3)) 0]++[ad (sB (ad ap 3)) 1,ad (sB (ad ap 3)) 2]:=rfl
theorem jy:[ad (sB (ad ap 3)) 1,ad (sB (ad ap 3)) 2]=[ad (sB (ad ap 3)) 1]++[ad (sB (ad ap 3)) 2]:=rfl
noncomputable def KX (w:World) (b:Bool) (T B u:List Nat) (s:Shared) (f:Flow) (s':Shared):Prop:=∃t q as ts pre r,f=.ret (.ref t)∧KR w b T B u s s' t q as ts pre r
theorem oP (tx:T=u++60::B) (hn:iM T) (ab:∀c∈T,c < 128) (len:T.length≤500) (rm:au 40 A) (tp:aC (vs w b 100) s.heap):
  codeAny (model pg (wb w b)) A (.call (.ref 784) ⟨[.str ⟨⟨T⟩⟩ H,.int (u.length:Int) G],[]⟩) (fun res s'=>∃t q as ts pre r,res=.ok (.ret (.ref t))∧KR w b T B u s s' t q as ts pre r) s:=by
 delta zz w b A s T B u H G
 have rm8:au 80 A:=⟨Nat.le_trans rm.1 (by decide),Nat.le_trans rm.2.1 (by decide),rm.2.2⟩
 refine kT (o:=jO (pr w b)) (Jm (pr w b)) (Jn _) (fun tp=>tp.1 784 _ (show 784 < 790 by decide) rfl) (fun tp=>tp.1 783 _ (show 783 < 790 by decide) rfl) rm8 tp (fp) (o2:=bq [!["text",.str ⟨⟨T⟩⟩ 0],!["place",.int (u.length:Int) 0]]) (fun F y tb=>mz w F ⟨⟨T⟩⟩ G y tb (u.length:Int) b) fun F s1 fF h7 f1 a1=>?_
 have I:au 60 (A.deeper (cG F)):=ft rm (by decide)
 show wpAny _ (A.deeper (cG F)) (execs ap (cG F)) _ _ s1
 generalize A.deeper (cG F)=A1 at I
 refine wpAny_mono (Q:=KX w b T B u s) (E:=fun _ _=>False) ?_ (fun f s' z=>by
  obtain ⟨t,q,as,ts,pre,r,e,h⟩:=z
  rw [e]; exact⟨t,q,as,ts,pre,r,rfl,h⟩) fun _ _ z=>z
 rw [wI]
 have l1:((u++[60]).length:Int)=(u.length:Int) + 1:=mu 1 rfl
 have txa:T=(u++[60])++B:=by rw [tx,List.append_assoc]; rfl
 have f1':aH (vs w b 60) [] s s1:=f1.room
 have hK0:∀x∈([F]:List Addr),x∈([]:List Addr)∨s.heap.get? x=none:=ak (.inr fF)
 have i1:(u.length:Int) + 2=(u.length:Int) + 1 + (1:Nat):=(Int.add_assoc (u.length:Int) 1 1).symm
 refine aQ [ad ap 2,ad ap 3,ad ap 4,ad ap 5,ad ap 6,ad ap 7] [ad ap 0,ad ap 1] (Ja (af:=⟨⟨B.take 1⟩⟩) (la_:=⟨⟨(B.drop 1).take 1⟩⟩) ⟨I,f1'.top,a1,h7⟩ rfl rfl (sl txa 1 l1.symm i1) (zB _) rfl (Mm txa 1 1 (by rw [l1]; exact i1) (Int.add_assoc _ 2 1).symm) (zB _) fun s2 f2 a2=>cp ?_)
 have fs2:aH (vs w b 60) [] s s2:=f1'.trans f2 hK0
 have h4:aX ⟨⟨T⟩⟩ (some (u.length:Int)) (some ((u.length:Int) + 4))=⟨⟨(60::B).take 4⟩⟩:=sl tx 4 rfl rfl
 have h4z:Str.length ⟨⟨(60::B).take 4⟩⟩≤sizeLine:=pZ (Nat.le_trans (List.length_take_le ..) (by decide))
 have fin:∀{s3 s4:Shared} {t q:Addr} {as:List Addr} {ts:List Tk} {pre r:List Nat} {K:List Addr},aH (vs w b 60) [F] s2 s3→aH (vs w b 60) K s3 s4→(∀x∈K,x=F∨s.heap.get? x=none)→fU s3 s4 t q as ts (pre.length:Int)→T=pre++r→u.length < pre.length→(∀TT,RD r TT→∀D,R1 .tag D B (ts++TT))→(∀x∈ts,mH x.1)→ts.length≤1001→
   KX w b T B u s (.ret (.ref t)) s4:=fun {s3 s4 t q as ts pre r K} f3 J hK R z1 z2 z3 z4 z5=>
  have fs3:aH (vs w b 60) [] s s3:=fs2.trans f3 hK0
  have ff:aH (vs w b 60) [] s s4:=fs3.trans J fun x hx=>.inr ((hK x hx).elim (fun h=>h▸fF) fun h=>h)
  ⟨t,q,as,ts,pre,r,rfl,R.base fun x hx=>(fs3.old hx).resolve_left List.not_mem_nil,z1,z2,z3,z4,z5,ff.room⟩
 have k7:mH 7:=.inl rfl
 have k6:mH 6:=.inr (.inl rfl)
 have k1:mH 1:=.inr (.inr (.inl rfl))
 have two:∀{X Y:Str} {k:Int},mH k→(∀x∈([(7,X),(k,Y)]:List Tk),mH x.1):=fun {X Y k} h=>ag k7 (ak h)
 by_cases hc:∃z,B=33::45::45::z
 ·refine hc.elim fun z e0=>?_
  refine jJ wJ (C' (r:=true) ⟨I,f2.top,a2,h7⟩ rfl h4 h4z (by rw [e0]; rfl) fun s3 f3 a3=>⟨rfl,?_⟩)
  have txc:T=(u++[60,33,45,45])++z:=by rw [tx,e0,List.append_assoc]; rfl
  refine aQ [ad (sB (ad ap 2)) 1] [ad (sB (ad ap 2)) 0] (Jj I f3.top a3 h7 txc (mu 4 rfl).symm (hn u z (by rw [tx,e0])) len fun q D told pre r s4 hq hq7 fq lt1 tx4 le4 mach J a4=>cp ?_)
  have qF:q≠F:=fun zz=>by
   obtain ⟨o3,g3,e3⟩:=a3 _ (.head _)
   rw [zz,show s3.heap.get? F=some o3 from g3] at fq; cases fq
  have qS:s.heap.get? q=none:=(fs2.old ((f3.old fq).resolve_left fun z=>qF (List.mem_singleton.mp z))).resolve_left List.not_mem_nil
  have lt4:u.length < pre.length:=Nat.lt_of_lt_of_le Hn le4
  have mc:∀TT,RD r TT→∀D',R1 .tag D' B ((bt told++[bw D])++TT):=fun TT k D'=>by
   rw [List.append_assoc,e0]
   exact AH (mach TT k) D'
  have ks:∀x∈bt told++[bw D],mH x.1:=List.forall_mem_append.mpr ⟨fun x hx=>(List.mem_map.mp hx).elim fun y z=>z.2▸k7,ak k6⟩
  have ll:(bt told++[bw D]).length≤1001:=by
   rw [List.length_append,show(bt told).length=told.length from List.length_map _]; exact Nat.succ_le_succ lt1
  have hK:∀x∈([F,q]:List Addr),x=F∨s.heap.get? x=none:=ag (.inl rfl) (ak (.inr qS))
  have f34:=f3.tr J
  exact Ji I J.top a4 h7 hq qF hq7 lt1 fun t q' as s5 U R=>iN (fin f34 U hK R tx4 lt4 mc ks ll)
 refine gS wJ (C' (r:=false) ⟨I,f2.top,a2,h7⟩ rfl h4 h4z (KW fun z e=>hc ⟨z,e⟩) fun s3 f3 a3=>⟨rfl,bL (cp ?_)⟩)
 have hKF:∀x∈([F]:List Addr),x=F∨s.heap.get? x=none:=ak (.inl rfl)
 have bog:∀{af la tt:Str} {mid pre r:List Nat} {s4 s5:Shared} (tk:List Nat),aH (vs w b 60) [F] s2 s4→aJ s4.heap [(F,cJ w b ⟨⟨T⟩⟩ (u.length:Int) af la [!["told",.str tt 0],!["data",.str ⟨⟨mid.map c7⟩⟩ 0],!["end",.int (pre.length:Int) 0]])]→T=pre++r→(u++60::tk).length≤pre.length→(∀TT,RD r TT→∀D,R1 .tag D B ([(7,tt),bw (mid.map c7)]++TT))→
   wpAny (model pg (wb w b)) A1 (execs [ad (sB (ad ap 3)) 2] (cG F)) (On (model pg (wb w b)) A1 (cG F) [ad ap 4,ad ap 5,ad ap 6,ad ap 7] (KX w b T B u s) (fun _ _=>False)) (fun _ _=>False) s4:=fun {af la tt mid pre r s4 s5} tk f24 a4 tx4 le4 mc=>
  Jd I f24.top a4 h7 fun b1 b2 b3 b4 s6 P=>iN (fin (pre:=pre) f24 P.far hKF (qe (k1:=7) (k2:=6) P) tx4 (Nat.lt_of_lt_of_le Hn le4) mc (two k6) (Nat.le_of_ble_eq_true rfl))
 cases bv B with
 | mdo r e=>
  refine jJ gp (Jb ⟨I,f3.top,a3,h7⟩ (by rw [e]; rfl) fun s4 J a4=>⟨rfl,?_⟩)
  refine df kY ?_
  rw [show B.take 1=[33] by rw [e]; rfl] at a4
  refine Gm ⟨I,J.top,a4,h7⟩ fun s5 U a5=>cp ?_
  refine df jy ?_
  refine wE (v:=false) I U.top a5 h7 rfl (show T=(u++[60,33])++r by rw [tx,e,List.append_assoc]; rfl) (mu 2 rfl).symm ab len fun mid pre r' s6 tx6 le6 mach f6 a6=>cp ?_
  exact bog (s5:=s6) [33] ((f3.tr J).tr U |>.tr f6) a6 tx6 le6 fun TT k D=>by rw [e]; exact AI (fun z e'=>hc ⟨z,by rw [e,e']⟩) (fun D'=>mach TT k D') D
 | q r e=>
  refine jJ gp (Jc ⟨I,f3.top,a3,h7⟩ (by rw [e]; rfl) (by rw [e]; rfl) fun s4 J a4=>⟨rfl,?_⟩)
  refine df kY ?_
  rw [show B.take 1=[63] by rw [e]; rfl] at a4
  refine Go ⟨I,J.top,a4,h7⟩ fun s5 U a5=>cp ?_
  refine df jy ?_
  refine wE (v:=true) I U.top a5 h7 rfl txa l1.symm ab len fun mid pre r' s6 tx6 le6 mach f6 a6=>cp ?_
  exact bog (s5:=s6) [] ((f3.tr J).tr U |>.tr f6) a6 tx6 le6 fun TT k D=>by have m:=fun D'=>mach TT k D'; rw [e] at m ⊢; exact Jl m D
 | cloe e=>
  refine gS gp (wB ⟨I,f3.top,a3,h7⟩ (by rw [e]; rfl) (by rw [e]; rfl) (by rw [e]; rfl) (by rw [e]; rfl) fun s4 J a4=>⟨rfl,bL (cp ?_)⟩)
  refine gS kX (Gr ⟨I,J.top,a4,h7⟩ (by rw [e]; rfl) (by rw [e]; rfl) fun s5 U a5=>⟨rfl,bL (cp ?_)⟩)
  refine jJ oO (wC (r:=true) ⟨I,U.top,a5,h7⟩ (by rw [e]; rfl) fun s6 f6 a6=>⟨rfl,?_⟩)
  exact Jf I f6.top a6 h7 (mu 2 rfl).symm fun b1 b2 b3 b4 s8 P=>iN (fin ((f3.tr J).tr U |>.tr f6) P.far hKF (qe (k1:=7) (k2:=1) P) (show T=(u++[60,47])++[] by rw [tx,e,List.append_nil]) Hn (fun TT k D=>by rw [e]; exact wG k D) (two k1) (Nat.le_of_ble_eq_true rfl))
 | clor r e=>
  refine gS gp (wB ⟨I,f3.top,a3,h7⟩ (by rw [e]; rfl) (by rw [e]; rfl) (by rw [e]; rfl) (by rw [e]; rfl) fun s4 J a4=>⟨rfl,bL (cp ?_)⟩)
  refine jJ kX (Gq ⟨I,J.top,a4,h7⟩ (by rw [e]; rfl) (by rw [e]; rfl) fun s5 U a5=>⟨rfl,?_⟩)
  exact Je I U.top a5 h7 (mu 3 rfl).symm fun b1 b2 b3 s8 P=>iN (fin ((f3.tr J).tr U) P.far hKF (Jk (k1:=7) P) (show T=(u++[60,47,62])++r by rw [tx,e,List.append_assoc]; rfl) Hn (fun TT k D=>by rw [e]; exact wF k D) (ak k7) (Nat.le_of_ble_eq_true rfl))
 | clo d r e hd=>
  have nin:([⟨⟨[]⟩⟩,s!">"]:List Str).any (·== ⟨⟨(B.drop 1).take 1⟩⟩)=false:=by
   rw [e]
   show((⟨⟨[]⟩⟩:Str) == ⟨⟨[d]⟩⟩ || ((s!">":Str) == ⟨⟨[d]⟩⟩ || false))=false
   rw [show((⟨⟨[]⟩⟩:Str) == ⟨⟨[d]⟩⟩)=false from beq_eq_false_iff_ne.mpr (fun e=>by injection e with e; injection e with e; cases e),show((s!">":Str) == ⟨⟨[d]⟩⟩)=false from beq_eq_false_iff_ne.mpr (fun e=>by injection e with e; injection e with e; injection e with e _; exact hd e.symm)]; rfl
  refine jJ gp (Gl ⟨I,f3.top,a3,h7⟩ (by rw [e]; rfl) (by rw [e]; rfl) (by rw [e]; rfl) nin fun s4 J a4=>⟨rfl,?_⟩)
  refine df kY ?_
  rw [show B.take 1=[47] by rw [e]; rfl] at a4
  refine Gp ⟨I,J.top,a4,h7⟩ fun s5 U a5=>cp ?_
  refine df jy ?_
  refine wE (v:=false) I U.top a5 h7 rfl (show T=(u++[60,47])++d::r by rw [tx,e,List.append_assoc]; rfl) (mu 2 rfl).symm ab len fun mid pre r' s6 tx6 le6 mach f6 a6=>cp ?_
  exact bog (s5:=s6) [47] ((f3.tr J).tr U |>.tr f6) a6 tx6 le6 fun TT k D=>by rw [e]; exact AJ hd (fun D'=>mach TT k D') D
 | gt r e=>
  refine gS gp (Db ⟨I,f3.top,a3,h7⟩ (by rw [e]; rfl) (by rw [e]; rfl) (by rw [e]; rfl) fun s4 J a4=>⟨rfl,bL (cp ?_)⟩)
  refine gS kX (Dc ⟨I,J.top,a4,h7⟩ (by rw [e]; rfl) fun s5 U a5=>⟨rfl,bL (cp ?_)⟩)
  refine gS oO (wC (r:=false) ⟨I,U.top,a5,h7⟩ (by rw [e]; rfl) fun s6 f6 a6=>⟨rfl,bL (cp ?_)⟩)
  refine jJ wK (Dd (r:=true) ⟨I,f6.top,a6,h7⟩ (by rw [e]; rfl) fun s7 f7 a7=>⟨rfl,?_⟩)
  exact Jg I f7.top a7 h7 (mu 2 rfl).symm fun b1 b2 b3 b4 s8 P=>iN (fin ((f3.tr J).tr U |>.tr f6 |>.tr f7) P.far hKF (qe (k1:=7) (k2:=1) P) (show T=(u++[60,62])++r by rw [tx,e,List.append_assoc]; rfl) Hn (fun TT k D=>by rw [e]; exact Gt k D) (two k1) (Nat.le_of_ble_eq_true rfl))
 | els n33 n47 n62 sf=>
  refine gS gp (Db ⟨I,f3.top,a3,h7⟩ n33 sf n47 fun s4 J a4=>⟨rfl,bL (cp ?_)⟩)
  refine gS kX (Dc ⟨I,J.top,a4,h7⟩ n47 fun s5 U a5=>⟨rfl,bL (cp ?_)⟩)
  refine gS oO (wC (r:=false) ⟨I,U.top,a5,h7⟩ n47 fun s6 f6 a6=>⟨rfl,bL (cp ?_)⟩)
  refine gS wK (Dd (r:=false) ⟨I,f6.top,a6,h7⟩ n62 fun s7 f7 a7=>⟨rfl,bL (cp ?_)⟩)
  exact Jh I f7.top a7 h7 l1.symm fun b1 b2 b3 b4 s8 P=>fin ((f3.tr J).tr U |>.tr f6 |>.tr f7) P.far hKF (qe (k1:=7) (k2:=1) P) txa Hn (fun TT k D=>wH n33 n47 n62 sf k D) (two k1) (Nat.le_of_ble_eq_true rfl)
end
noncomputable abbrev fV:Stmt:=ad aG 4
noncomputable abbrev mI:Stmt:=ad (sB fV) 0
noncomputable abbrev ie:Stmt:=ad (sL mI) 0
noncomputable abbrev fv:List Stmt:=sL ie
noncomputable abbrev qf:Stmt:=ad fv 1
noncomputable def sC:Nat→Nat
 | 0=>1
 | 2=>4
 | n=>n
noncomputable def iF:Nat→Nat
 | 0=>2
 | 1=>3
 | n=>n
noncomputable section
variable (w:World) (T:Str) (p n:Int) (r:Bool) (F sc d z:Addr) (e:Int) (y:Nat→Nat→Tok) (tb:Nat) (R:Str) (q t:Addr) (p1:Int) (t0:Tok) (y0:Nat→Nat→Tok) (G:Nat) (l l1 l2:List Value) (B I H:Nat) (b3 b1 b2:Addr) (e1:Int) (D R3:Str) (J U u0_4:Nat→Nat→Tok) (v:Bool) (u:Nat) (b:Bool)
noncomputable def Jo:List an:=oh [fun ks=>cI T n,fun ks=>sH p n r] 0x1069f068f4004
noncomputable def Gu:List an:=oh [fun ks=>c5 T p R,fun ks=>bS R s!"<" r] 0x1069f068f44
noncomputable def wL:List an:=oh [] 0x14444866566666656666665666665555414f0440
noncomputable def wM:List an:=oh [] 0x10440
noncomputable def wN:az:=aN (vs w b 0) 4000 .out (aO [ad (sB mI) 0] (bz F)) (wL) (fillAll y 0 [(F,(cQ w b sc d z T p e u))]) tb 0 []
abbrev wO:Prop:=(wN w T p F sc d z e y tb u b).norm [0]=.call 40 (bc [F] (wM) []) (.call (.ref 784) ⟨[.str T 0,.int p 0],[]⟩) [(F,(cQ w b sc d z T p e u))] fun _ _ _=>.failW ""
theorem wP:wO w T p F sc d z e y tb u b:=by delta za dH
noncomputable def wQ:List an:=oh [] 0x14444866566666656666665666665555
abbrev wR:Prop:=((wN w T p F sc d z e y tb u b).nc (aA t0 (.ok (.ret (.ref t)))) (fillAll y0 0 [(F,(cQ w b sc d z T p e u)),(t,br [.ref q,.int p1 0])]) G).norm [0,1]=.more fun Kb1=>.more fun Kb2=>.more fun Kb3=>.done (bc [F,t,Kb1,Kb2,Kb3] (wQ) []) (.ok .next) [(F,(cQ w b sc d q T p1 e (sC u))),(t,br [(.ref q),(.int p1 0)])]
theorem wS:wR w T p F sc d z e y tb q t p1 t0 y0 G u b:=by delta za dH
noncomputable def wT:List an:=oh [] 0x1445e0f56644
noncomputable def wU:List an:=oh [] 0x156644
noncomputable def wV:az:=aN (vs w b 0) 4000 .out (aO [ad (sB mI) 1] (bz F)) (wT) (fillAll y 0 [(F,(cQ w b sc d z T p e (sC u)))]++[(z,ah l1 I),(d,ah l B)]) tb 0 []
abbrev wW:Prop:=(wV w T p F sc d z e y tb l l1 B I u b).norm [0,1,2]=.call 500 (bc [F,z,d] (wU) []) (.call (.builtin "list.__iadd__") ⟨[.ref d,.ref z],[]⟩) [(F,(cQ w b sc d z T p e (sC u))),(z,aV (ae l1)),(d,aV (ae l))] fun _ _ _=>.failW ""
theorem wX:wW w T p F sc d z e y tb l l1 B I u b:=by delta za dH
noncomputable def wY:List an:=oh [] 0x144
abbrev wZ:Prop:=((wV w T p F sc d z e y tb l l1 B I u b).nc (aA t0 (.ok (.ret (.ref d)))) (fillAll y0 0 [(F,(cQ w b sc d z T p e (sC u)))]++[(d,ah l2 H)]) G).norm [0,1]=.done (bc [F,d] (wY) []) (.ok .next) [(F,(cQ w b sc d z T p e (sC u))),(d,aV (ae l2))]
theorem w0:wZ w T p F sc d z e y tb t0 y0 G l l1 l2 B I H u b:=by delta za dH
noncomputable def Gv:List an:=oh [fun ks=>c5 T p R,fun ks=>bS R ⟨⟨[0]⟩⟩ r] 0x1069f068f44
noncomputable def w3:List an:=oh [] 0x1445e0f8554
noncomputable def w4:List an:=oh [] 0x18554
noncomputable def w5:az:=aN (vs w b 0) 4000 .out (aO [ad (sB ie) 0] (bz F)) (w3) (fillAll y 0 [(F,(cQ w b sc d z T p e u))]++[(d,ah l B)]) tb 0 []
abbrev w6:Prop:=(w5 w T p F sc d z e y tb l B u b).norm [0,1,2,3,4]=.more fun b1=>.more fun b2=>.more fun b3=>.call 500 (bc [F,d,b1,b2,b3] (w4) []) (.call (.builtin "list.__iadd__") ⟨[.ref d,.ref b3],[]⟩) [(F,(cQ w b sc d z T p e u)),(d,aV (ae l)),(b1,br [(.str s!"fault" 0),(.str cF 0)]),(b2,br [(.str s!"text" 0),(.str ⟨⟨[0]⟩⟩ 0)]),(b3,aV [(.ref b1),(.ref b2)])] fun _ _ _=>.failW ""
theorem w7:w6 w T p F sc d z e y tb l B u b:=by delta za dH
noncomputable def w8:List an:=oh [] 0x144
abbrev w9:Prop:=(((((w5 w T p F sc d z e y tb l B u b).nm b1).nm b2).nm b3).nc (aA t0 (.ok (.ret (.ref d)))) (fillAll y0 0 [(F,(cQ w b sc d z T p e u))]++[(d,ah l2 H)]) G).norm [0,1]=.done (bc [F,d] (w8) []) (.ok .next) [(F,(cQ w b sc d z T p e u)),(d,aV (ae l2))]
theorem xa:w9 w T p F sc d z e y tb t0 y0 G l l2 B H b3 b1 b2 u b:=by delta za dH
noncomputable def Gw:List an:=oh [fun ks=>aY p 1 p1] 0x144068f4
noncomputable def Gy:List an:=oh [fun ks=>aY p 1 e1] 0x144068f4
noncomputable def Gz:List an:=oh [fun ks=>cI T n,fun ks=>sH e n false] 0x1069f068f4004
noncomputable def AK:List an:=oh [fun ks=>cI T n,fun ks=>sH e n true,fun ks=>c5 T p R,fun ks=>bS R s!" " true,fun ks=>c5 T e D,fun ks=>bS D s!" " true] 0x106df06cf4406bf06af44069f068f4004
noncomputable def AL:List an:=oh [fun ks=>cI T n,fun ks=>sH e n true,fun ks=>c5 T p R,fun ks=>bS R s!" " false,fun ks=>c5 T e D,fun ks=>x4 (dL ks 1) 1 (aR [s!"<",⟨⟨[0]⟩⟩]) D true] 0x106df5506cf4406bf06af44069f068f4004
noncomputable def AM:List an:=oh [fun ks=>cI T n,fun ks=>sH e n true,fun ks=>c5 T p R,fun ks=>bS R s!" " true,fun ks=>c5 T e D,fun ks=>bS D s!" " false] 0x106df06cf4406bf06af44069f068f4004
noncomputable def AN:List an:=oh [fun ks=>cI T n,fun ks=>sH e n true,fun ks=>c5 T p R,fun ks=>bS R s!" " false,fun ks=>c5 T e D,fun ks=>x4 (dL ks 1) 1 (aR [s!"<",⟨⟨[0]⟩⟩]) D false] 0x106df5506cf4406bf06af44069f068f4004
noncomputable def GA:List an:=oh [fun ks=>aY e 1 e1] 0x144068f4
noncomputable def xb:List an:=oh [fun ks=>c5 T p R,fun ks=>bS R s!" " v,fun ks=>bs (dL ks 2) 2 T (.int p 0) (.int e 0) R3] 0x15e0f06af444069f068f4455554
noncomputable def xc:List an:=oh [fun ks=>c5 T p R,fun ks=>bS R s!" " v,fun ks=>bs (dL ks 2) 2 T (.int p 0) (.int e 0) R3] 0x106af444069f068f4455554
noncomputable def xe:az:=aN (vs w b 0) 4000 .out (aO [ad fv 2] (bz F)) (xb T p e R R3 v) (fillAll y 0 [(F,(cQ w b sc d z T p e (iF u)))]++[(d,ah l B)]) tb 0 []
abbrev xf:Prop:=(xe w T p F sc d z e y tb R l B R3 v u b).norm [0,1,3]=.sum (c5 T p R) [] fun J=>.sum (bS R s!" " v) [] fun U=>.more fun b1=>.sum (bs b1 2 T (.int p 0) (.int e 0) R3) [b1] fun u0_4=>.more fun b2=>.call 500 (bc [F,d,b1,b2] (xc T p e R R3 v) []) (.call (.builtin "list.append") ⟨[.ref d,.ref b2],[]⟩) [(F,(cQ w b sc d z T p e (iF u))),(d,aV (ae l)),(b2,br [(.str (dq (cond v 2 1)) 0),(.str R3 0)])] fun _ _ _=>.failW ""
theorem xg:xf w T p F sc d z e y tb R l B R3 v u b:=by delta za CB
noncomputable def xh:List an:=oh [fun ks=>c5 T p R,fun ks=>bS R s!" " v,fun ks=>bs (dL ks 2) 2 T (.int p 0) (.int e 0) R3] 0x1
abbrev xi:Prop:=(((((((xe w T p F sc d z e y tb R l B R3 v u b).ns J).ns U).nm b1).ns u0_4).nm b2).nc (aA t0 (.ok (.ret .none))) (fillAll y0 0 [(F,(cQ w b sc d z T p e (iF u)))]++[(d,ah l2 H)]) G).norm [0,1]=.done (bc [F,d] (xh T p e R R3 v) []) (.ok .next) [(F,(cQ w b sc d z T p e (iF u))),(d,aV (ae l2))]
theorem xj:xi w T p F sc d z e y tb R t0 y0 G l l2 B H b1 b2 R3 J U u0_4 v u b:=by delta za CB
noncomputable def GB:List an:=oh [] 0x1444
noncomputable def GC:List an:=oh [] 0x14444
end
theorem De {w:World} {b:Bool} {A:Around} {s:Shared} {F sc d z:Addr} {T:Str} {p e n:Int} {r:Bool} {u:Nat} (i:Hf w b 0 A s F (cQ w b sc d z T p e u)) (hn:(T.length:Int)=n) (hnf:n < 2 ^ 63) (hr:decide (p < n)=r):ck i (sE fV) (bz F) r:=
 ct [0] (Jo T p n r) fun Ok Fin sm mo dn cn=>cn (sm (cj _ _ hn hnf) fun _=>sm (eY _ _ _ hr) fun _=>dn [F]) fun _ _=>by delta zb dH u b
theorem xk {w:World} {b:Bool} {A:Around} {s:Shared} {F sc d z:Addr} {T R:Str} {p e:Int} {r:Bool} {u:Nat} {hgc:Nat} (i:Hf w b 0 A s F (cQ w b sc d z T p e u)) (hg0:0≤p) (hg1:p < 2 ^ 63) (hgx:T.cps[p.toNat]?=some hgc) (hg:Str.mk ⟨[hgc]⟩=R) (hr:(R.cps.toList == ([60]:List Nat))=r):ck i (sE mI) (bz F) r:=
 ct [0] (Gu T p r R) fun Ok Fin sm mo dn cn=>cn (sm (ci _ _ _ _ hg0 hg1 hgx hg) fun _=>sm (sq hr) fun _=>dn [F]) fun _ _=>by delta zb dH u b
theorem xl {w:World} {b:Bool} {A:Around} {s:Shared} {F sc d z:Addr} {T R:Str} {p e:Int} {r:Bool} {u:Nat} {hgc:Nat} (i:Hf w b 0 A s F (cQ w b sc d z T p e u)) (hg0:0≤p) (hg1:p < 2 ^ 63) (hgx:T.cps[p.toNat]?=some hgc) (hg:Str.mk ⟨[hgc]⟩=R) (hr:(R.cps.toList == ([0]:List Nat))=r):ck i (sE ie) (bz F) r:=
 ct [0] (Gv T p r R) fun Ok Fin sm mo dn cn=>cn (sm (ci _ _ _ _ hg0 hg1 hgx hg) fun _=>sm (sq hr) fun _=>dn [F]) fun _ _=>by delta zb dH u b
theorem GD {w:World} {b:Bool} {A:Around} {s:Shared} {F sc d z:Addr} {T:Str} {p p1 e:Int} {u:Nat} (i:Hf w b 0 A s F (cQ w b sc d z T p e u)) (h1:p + 1=p1):d6 i [ad (sB ie) 1] (bz F) (cQ w b sc d z T p1 e u):=
 runC [0] (Gw p p1) fun Ok Fin sm mo dn cn=>cn (sm (aE _ _ _ h1) fun _=>dn [F]) fun _ _=>by delta zb dH u b
theorem GE {w:World} {b:Bool} {A:Around} {s:Shared} {F sc d z:Addr} {T:Str} {p e e1:Int} {u:Nat} (i:Hf w b 0 A s F (cQ w b sc d z T p e u)) (h1:p + 1=e1):d6 i [ad fv 0] (bz F) (cQ w b sc d z T p e1 (iF u)):=
 runC [0] (Gy p e1) fun Ok Fin sm mo dn cn=>cn (sm (aE _ _ _ h1) fun _=>dn [F]) fun _ _=>by delta zb dH u b
theorem GF {w:World} {b:Bool} {A:Around} {s:Shared} {F sc d z:Addr} {T:Str} {p e n:Int} {u:Nat} (i:Hf w b 0 A s F (cQ w b sc d z T p e (iF u))) (hn:(T.length:Int)=n) (hnf:n < 2 ^ 63) (hr:decide (e < n)=false):ck i (sE qf) (bz F) false:=
 ct [0] (Gz T n e) fun Ok Fin sm mo dn cn=>cn (sm (cj _ _ hn hnf) fun _=>sm (eY _ _ _ hr) fun _=>dn [F]) fun _ _=>by delta zb dH u b
theorem AO {w:World} {b:Bool} {A:Around} {s:Shared} {F sc d z:Addr} {T R D:Str} {p e n:Int} {u:Nat} {hgc:Nat} {hkc:Nat} (i:Hf w b 0 A s F (cQ w b sc d z T p e (iF u))) (hn:(T.length:Int)=n) (hnf:n < 2 ^ 63) (hr:decide (e < n)=true) (hg0:0≤p) (hg1:p < 2 ^ 63) (hgx:T.cps[p.toNat]?=some hgc) (hg:Str.mk ⟨[hgc]⟩=R) (hb:(R.cps.toList == ([32]:List Nat))=true) (hk0:0≤e) (hk1:e < 2 ^ 63) (hkx:T.cps[e.toNat]?=some hkc) (hk:Str.mk ⟨[hkc]⟩=D) (hs:(D.cps.toList == ([32]:List Nat))=true):ck i (sE qf) (bz F) true:=
 ct [0] (AK T p n e R D) fun Ok Fin sm mo dn cn=>cn (sm (cj _ _ hn hnf) fun _=>sm (eY _ _ _ hr) fun _=>sm (ci _ _ _ _ hg0 hg1 hgx hg) fun _=>sm (sq hb) fun _=>sm (ci _ _ _ _ hk0 hk1 hkx hk) fun _=>sm (sq hs) fun _=>dn [F]) fun _ _=>by delta zb dH u b
theorem AP {w:World} {b:Bool} {A:Around} {s:Shared} {F sc d z:Addr} {T R D:Str} {p e n:Int} {u:Nat} {hgc:Nat} {hkc:Nat} (i:Hf w b 0 A s F (cQ w b sc d z T p e (iF u))) (hn:(T.length:Int)=n) (hnf:n < 2 ^ 63) (hr:decide (e < n)=true) (hg0:0≤p) (hg1:p < 2 ^ 63) (hgx:T.cps[p.toNat]?=some hgc) (hg:Str.mk ⟨[hgc]⟩=R) (hb:(R.cps.toList == ([32]:List Nat))=false) (hk0:0≤e) (hk1:e < 2 ^ 63) (hkx:T.cps[e.toNat]?=some hkc) (hk:Str.mk ⟨[hkc]⟩=D) (hd:([s!"<",⟨⟨[0]⟩⟩]:List Str).any (·== D)=true):ck i (sE qf) (bz F) false:=
 ct [0] (AL T p n e R D) fun Ok Fin sm mo dn cn=>cn (sm (cj _ _ hn hnf) fun _=>sm (eY _ _ _ hr) fun _=>sm (ci _ _ _ _ hg0 hg1 hgx hg) fun _=>sm (sq hb) fun _=>sm (ci _ _ _ _ hk0 hk1 hkx hk) fun _=>mo fun b1=>sm (i' b1 1 [s!"<",⟨⟨[0]⟩⟩] _ _ hd) fun _=>dn [F,b1]) fun _ _=>by delta zb dH u b
theorem AQ {w:World} {b:Bool} {A:Around} {s:Shared} {F sc d z:Addr} {T R D:Str} {p e n:Int} {u:Nat} {hgc:Nat} {hkc:Nat} (i:Hf w b 0 A s F (cQ w b sc d z T p e (iF u))) (hn:(T.length:Int)=n) (hnf:n < 2 ^ 63) (hr:decide (e < n)=true) (hg0:0≤p) (hg1:p < 2 ^ 63) (hgx:T.cps[p.toNat]?=some hgc) (hg:Str.mk ⟨[hgc]⟩=R) (hb:(R.cps.toList == ([32]:List Nat))=true) (hk0:0≤e) (hk1:e < 2 ^ 63) (hkx:T.cps[e.toNat]?=some hkc) (hk:Str.mk ⟨[hkc]⟩=D) (hs:(D.cps.toList == ([32]:List Nat))=false):ck i (sE qf) (bz F) false:=
 ct [0] (AM T p n e R D) fun Ok Fin sm mo dn cn=>cn (sm (cj _ _ hn hnf) fun _=>sm (eY _ _ _ hr) fun _=>sm (ci _ _ _ _ hg0 hg1 hgx hg) fun _=>sm (sq hb) fun _=>sm (ci _ _ _ _ hk0 hk1 hkx hk) fun _=>sm (sq hs) fun _=>dn [F]) fun _ _=>by delta zb dH u b
theorem AR {w:World} {b:Bool} {A:Around} {s:Shared} {F sc d z:Addr} {T R D:Str} {p e n:Int} {u:Nat} {hgc:Nat} {hkc:Nat} (i:Hf w b 0 A s F (cQ w b sc d z T p e (iF u))) (hn:(T.length:Int)=n) (hnf:n < 2 ^ 63) (hr:decide (e < n)=true) (hg0:0≤p) (hg1:p < 2 ^ 63) (hgx:T.cps[p.toNat]?=some hgc) (hg:Str.mk ⟨[hgc]⟩=R) (hb:(R.cps.toList == ([32]:List Nat))=false) (hk0:0≤e) (hk1:e < 2 ^ 63) (hkx:T.cps[e.toNat]?=some hkc) (hk:Str.mk ⟨[hkc]⟩=D) (hd:([s!"<",⟨⟨[0]⟩⟩]:List Str).any (·== D)=false):ck i (sE qf) (bz F) true:=
 ct [0] (AN T p n e R D) fun Ok Fin sm mo dn cn=>cn (sm (cj _ _ hn hnf) fun _=>sm (eY _ _ _ hr) fun _=>sm (ci _ _ _ _ hg0 hg1 hgx hg) fun _=>sm (sq hb) fun _=>sm (ci _ _ _ _ hk0 hk1 hkx hk) fun _=>mo fun b1=>sm (i' b1 1 [s!"<",⟨⟨[0]⟩⟩] _ _ hd) fun _=>dn [F,b1]) fun _ _=>by delta zb dH u b
theorem GG {w:World} {b:Bool} {A:Around} {s:Shared} {F sc d z:Addr} {T:Str} {p e e1:Int} {u:Nat} (i:Hf w b 0 A s F (cQ w b sc d z T p e (iF u))) (h1:e + 1=e1):d6 i [ad (sB qf) 0] (bz F) (cQ w b sc d z T p e1 (iF u)):=
 runC [0] (GA e e1) fun Ok Fin sm mo dn cn=>cn (sm (aE _ _ _ h1) fun _=>dn [F]) fun _ _=>by delta zb dH u b
theorem xm {w:World} {b:Bool} {A:Around} {s:Shared} {F sc d z:Addr} {T:Str} {p e:Int} {u:Nat} (i:Hf w b 0 A s F (cQ w b sc d z T p e (iF u))):d6 i [ad fv 3] (bz F) (cQ w b sc d z T e e (iF u)):=
 runC [0] (GB) fun Ok Fin sm mo dn cn=>cn (dn [F]) fun _ _=>by delta zb dH u b
theorem GH {w:World} {b:Bool} {A:Around} {s:Shared} {F sc:Addr} {T:Str} (i:Hf w b 0 A s F (bq [!["script",.ref sc],!["text",.str T 0]])):EZ i [ad aG 2,ad aG 3] (bz F) (fun t=>bq [!["script",.ref sc],!["text",.str T 0],!["due",.ref t],!["place",.int 0 0]]) (aV []):=
 IA [0,1] (GC) fun Ok Fin sm mo dn cn=>cn (mo fun b1=>dn b1 [F,b1]) fun _ _=>by delta zb bh b
theorem aD.re {V:Vs} {s B:Shared} {K:List Addr} {L L':List aw} (P:aD V s K B L) (h:∀p∈L',p∈L) (nd:(keys L').Nodup):aD V s K B L':=
 ⟨fun p hp=>P.at_ p (h p hp),P.top,P.frame,fun p hp=>P.own p (h p hp),fun p hp=>P.hi p (h p hp),P.grow,P.gens,P.os,nd,P.toks⟩
section
variable {V:Vs} {K:List Addr} {L0:List aw} {acc na:Addr} {s B:Shared} {prog:Program} {w':World} {A1:Around} {U:Code} {l l1:List Value} {n1:Nat} {G:Result→List aw→List aw→Shared→Prop}
theorem xn (hc:ao U=.call (.builtin "list.__iadd__") ⟨[.ref acc,.ref na],[]⟩) (P:aD V s K B (L0++[(acc,aV (ae l))])) (D:B.heap.get? na=some (ah l1 n1)) (hl:l.length + l1.length≤1000000)
  (k:∀l2 en2 s2,ae l2=ae l++ae l1→aH V K s s2→Heap.SameBut acc B.heap s2.heap→G (.ok (.ret (.ref acc))) L0 [(acc,ah l2 en2)] s2):
  codeAny (model prog w') A1 U (mV V G) B:=by
 delta zn
 obtain ⟨pos,rfl,hp⟩:=av hc
 obtain ⟨v,u,rfl,h1,h2⟩:=eA hp
 cases bb h1
 cases bb h2
 obtain ⟨l',en,g1,el⟩:=kW P
 delta zm
 have ln:=gj el
 have h7:=P.hi (acc,aV (ae l)) (List.mem_append_right _ (.head _))
 refine kg g1 D (by omega) fun h' n' q1 z=>⟨.ok (.ret (.ref acc)),L0,[(acc,ah (l'++l1) n')],rfl,?_,ak q1,P.top.same z h7,?_,?_,k _ _ _ ?_ ?_ z⟩
 ·exact fun p hp=>by
   delta zn
   obtain ⟨o,q3,q4⟩:=P.at_ p (List.mem_append_left _ hp)
   delta zm
   exact⟨o,(z.2 p.1 (iX P p hp)).trans q3,q4⟩
 ·intro p hp
  rcases List.mem_append.mp hp with hp | hp
  ·exact P.hi p (List.mem_append_left _ hp)
  ·cases List.mem_singleton.mp hp; exact h7
 ·have nd:=P.nd
  rw [cX] at nd ⊢
  exact nd
 ·rw [bM,el]
 ·exact P.far.trans (K':=[acc]) ⟨fun x o e hx=>(z.2 x (by simpa using hx)).trans e,rfl,rfl,by show _≤h'.objs.size; rw [z.1]; exact Nat.le_refl _,P.top.same z h7⟩ fun x hx=>by
   cases List.mem_singleton.mp hx
   exact P.own' acc (by rw [cX]; exact List.mem_append_right _ (.head _))
end
noncomputable def eI (h:Heap) (F d:Addr) (dl:List Addr) (H:List Tk):Prop:=(∃m,h.get? d=some (ah (aq dl) m))∧aK h dl H∧∀a∈dl,a≠F∧a≠d
theorem aK.app {h:Heap}:∀{as cs:List Addr} {ts us:List Tk},aK h as ts→aK h cs us→aK h (as++cs) (ts++us)
 | [],_,[],_,_,u=>u
 | [],_,_::_,_,t,_=>t.elim
 | _::_,_,[],_,t,_=>t.elim
 | a::as,cs,t::ts,us,⟨z,D⟩,u=>⟨z,aK.app D u⟩
section
variable {w:World} {b:Bool} {A:Around} {s:Shared} {F sc d J:Addr} {T:List Nat} {p e:Int} {I:Nat} {Q:Flow→Shared→Prop} {E:Value→Shared→Prop} {dl:List Addr} {H:List Tk}
theorem eI.keep {s':Shared} (D:eI s.heap F d dl H) {K:List Addr} (f:aH (vs w b 0) K s s') (hd:d∉K) (u:∀a∈dl,a∉K):eI s'.heap F d dl H:=by
 delta zn
 obtain ⟨⟨m,z⟩,h2,h3⟩:=D
 delta zm
 exact⟨⟨m,f.frame d _ z hd⟩,h2.mem fun a ha o e=>f.frame a o e (u a ha),h3⟩
theorem eI.keepF {s':Shared} (D:eI s.heap F d dl H) (f:aH (vs w b 0) [F] s s') (hd:d≠F):eI s'.heap F d dl H:=
 D.keep f (by simpa using hd) fun a ha z=>(D.2.2 a ha).1 (List.mem_singleton.mp z)
theorem GI {pre0 r0:List Nat} (rm:au 0 A) (tp:aC (vs w b 0) s.heap) (hF:aJ s.heap [(F,cQ w b sc d J ⟨⟨T⟩⟩ (pre0.length:Int) e I)]) (h7:790≤F) (tx:T=pre0++60::r0) (hn:iM T) (ab:∀c∈T,c < 128) (len:T.length≤500)
  (h:∀(q:Addr) (as:List Addr) (ts:List Tk) (pre r:List Nat) (s':Shared),(∃n,s'.heap.get? q=some (ah (aq as) n))→aK s'.heap as ts→(∀x∈q::as,790≤x∧s.heap.get? x=none∧x≠F)→T=pre++r→pre0.length < pre.length→(∀TT,RD r TT→∀D,R1 .tag D r0 (ts++TT))→(∀x∈ts,mH x.1)→ts.length≤1001→aH (vs w b 0) [F] s s'→
   aJ s'.heap [(F,cQ w b sc d q ⟨⟨T⟩⟩ (pre.length:Int) e (sC I))]→Q .next s'):wpAny (model pg (wb w b)) A (execs [ad (sB mI) 0] (bz F)) Q E s:=by
 delta zz w b A s F sc d J T e I Q E pre0 r0
 refine wpAny_mono (aP (R:=fun r' s'=>r'=.ok .next∧∃(q:Addr) (as:List Addr) (ts:List Tk) (pre r:List Nat),(∃n,s'.heap.get? q=some (ah (aq as) n))∧aK s'.heap as ts∧(∀x∈q::as,790≤x∧s.heap.get? x=none∧x≠F)∧T=pre++r∧pre0.length < pre.length∧(∀TT,RD r TT→∀D,R1 .tag D r0 (ts++TT))∧(∀x∈ts,mH x.1)∧ts.length≤1001∧aH (vs w b 0) [F] s s'∧
   aJ s'.heap [(F,cQ w b sc d q ⟨⟨T⟩⟩ (pre.length:Int) e (sC I))]) ?_) (fun f s' z=>by obtain ⟨e,q,as,ts,pre,r,z1,z2,z3,z4,z5,z6,z7,z8,z9,z10⟩:=z; injection e with e; rw [e]; exact h q as ts pre r s' z1 z2 z3 z4 z5 z6 z7 z8 z9 z10) (fun e s' z=>(by cases z.1))
 refine aM (V:=vs w b 0) rfl rfl rm tp hF (ak h7) (by simp [keys]) fun y=>⟨4000,wL,?_⟩
 refine dk rfl (wP w ⟨⟨T⟩⟩ (pre0.length:Int) F sc d J e y _ I b) (fun Ok sm mo cL=>cL rfl fun A1 B U G gk hc1 rm1 P1=>?_)
 delta zn
 obtain ⟨pos,rfl,hpp⟩:=av hc1
 obtain ⟨u,v,rfl,hu,hv⟩:=eA hpp
 obtain ⟨t1,rfl⟩:=aL hu
 obtain ⟨t2,rfl⟩:=aW hv
 delta zm
 refine codeAny_mono (oP tx hn ab len rm1 P1.top) ?_
 intro res s2 hZ
 delta zn
 obtain ⟨t,q,as,ts,pre,r,rfl,C⟩:=hZ
 obtain ⟨oF,g1,g2⟩:=P1.get 0 rfl
 delta zm
 have nF:∀x∈t::q::as,x≠F:=fun x hx z=>by have:=(C.rows.new x hx).2; rw [z,show B.heap.get? F=some oF from g1] at this; cases this
 refine⟨.ok (.ret (.ref t)),[(F,cQ w b sc d J ⟨⟨T⟩⟩ (pre0.length:Int) e I),(t,br [.ref q,.int (pre.length:Int) 0])],⟨rfl,ag ⟨oF,C.far.frame F oF g1 (by simp),g2⟩ (ak (C.rows.tp _ (.head _))),C.far.top,ag h7 (ak (C.rows.new t (.head _)).1),?_⟩,gk fun y0 t0=>?_⟩
 ·show([F,t]:List Addr).Nodup
  refine lC ?_
  exact fun z=>nF t (.head _) z.symm
 refine bB rfl (wS w ⟨⟨T⟩⟩ (pre0.length:Int) F sc d J e y _ q t (pre.length:Int) t0 y0 _ I b) (fun Ok sm mo H=>mo fun Kb1=>mo fun Kb2=>mo fun Kb3=>H fun r' s3 hr P2=>?_)
 have old1:∀x,B.heap.get? x=none→x≠F→s.heap.get? x=none:=fun x h1 h2=>(P1.far.old h1).resolve_left fun z=>h2 (List.mem_singleton.mp z)
 have nt:∀{x:Addr} {o:Obj},s2.heap.get? x=some o→x≠F→x≠t→s3.heap.get? x=some o:=fun {x o} e h1 h2=>P2.frame x o e fun z=>by
  have z:x∈([F,t]:List Addr):=z
  have z:=c9 z
  rcases z with z | z
  ·exact h1 z
  ·exact h2 z
 delta zn
 obtain ⟨ot,gt1,gt2⟩:=C.rows.tp _ (.head _)
 delta zm
 have astup:∀{as:List Addr} {ts:List Tk},aK s2.heap as ts→∀a∈as,a≠t:=by
  intro as
  induction as with
  | nil=>intro ts _ a ha; cases ha
  | cons x as ih=>
   intro ts tt a ha
   cases ts with
   | nil=>exact tt.elim
   | cons t0 ts=>
    rcases List.mem_cons.mp ha with h | ha
    ·subst a
     intro z
     obtain ⟨⟨o,h1,h2⟩,_⟩:=tt
     rw [z,show s2.heap.get? t=some ot from gt1] at h1
     injection h1 with h1
     subst h1
     rw [gt2] at h2
     have:=congrArg Obj.data h2
     injection this with e1 e2
     injection e1 with e1
     injection e1 with e1 _
     cases e1
    ·exact ih tt.2 a ha
 refine⟨bm hr,q,as,ts,pre,r,?_,C.rows.tu.mem fun a ha o e=>nt e (nF a (by simp [ha])) (astup C.rows.tu a ha),fun x hx=>?_,C.tx,C.lt,C.mach,C.ks,C.len,?_,ak (P2.get 0 rfl)⟩
 ·obtain ⟨n,hq⟩:=C.rows.ls
  exact⟨n,nt hq (nF q (by simp)) fun z=>C.rows.ne z.symm⟩
 ·have hx':x∈t::q::as:=List.mem_cons_of_mem _ hx
  exact⟨(C.rows.new x hx').1,old1 x (C.rows.new x hx').2 (nF x hx'),nF x hx'⟩
 ·have f1:aH (vs w b 0) [F] s B:=P1.far
  have f2:aH (vs w b 0) [] B s2:=C.far.room
  exact(f1.trans f2 fun x hx=>by cases hx).trans P2.far (ag (.inl (.head _)) (ak (.inr (old1 _ (C.rows.new _ (.head _)).2 (nF _ (.head _))))))
end
theorem jz {h:Heap} {q:Addr} {l:List Value} {n:Nat} (I:h.get? q=some (ah l n)):∀{as:List Addr} {ts:List Tk},aK h as ts→∀a∈as,a≠q
 | [],_,_,a,ha=>by cases ha
 | _::_,[],t,_,_=>t.elim
 | x::as,t::ts,⟨⟨o,D,J⟩,U⟩,a,ha=>by
  rcases List.mem_cons.mp ha with h | ha
  ·subst a
   intro z
   rw [z,I] at D
   delta zn
   injection D with D
   subst D
   have:=congrArg Obj.cls J
   have G:(Value.type "list")=.type "tuple":=this
   injection G with G
   delta zm
   exact absurd G (by decide)
  ·exact jz I U a ha
section
variable {w:World} {b:Bool} {A:Around} {s:Shared} {F sc d u:Addr} {T:Str} {p e:Int} {B:Nat} {Q:Flow→Shared→Prop} {E:Value→Shared→Prop} {dl:List Addr} {H:List Tk}
theorem oQ {s0 G s3:Shared} {K:List Addr} {fr:Obj} {l2:List Value} {cs:List Addr} {us:List Tk} (D:eI s0.heap F d dl H) (f:aH (vs w b 0) K s0 G) (hK:∀a∈dl,a∉K) (P3:aD (vs w b 0) G [F,d] s3 [(F,fr),(d,aV (ae l2))]) (e2:ae l2=ae (aq (dl++cs))) (hu:aK G.heap cs us) (I:∀a∈cs,a≠F∧a≠d):eI s3.heap F d (dl++cs) (H++us):=by
 delta zn
 obtain ⟨o,q1,q2⟩:=P3.get 1 rfl
 rw [e2] at q2
 obtain ⟨n',rfl⟩:=bV q2
 obtain ⟨_,J,U⟩:=D
 delta zm
 have out:∀a,a≠F→a≠d→a∉([F,d]:List Addr):=fun a h1 J z=>by
  have z:=c9 z
  rcases z with z | z
  ·exact h1 z
  ·exact J z
 refine⟨⟨n',q1⟩,(J.mem fun a ha o e=>P3.frame a o (f.frame a o e (hK a ha)) (out a (U a ha).1 (U a ha).2)).app (hu.mem fun a ha o e=>P3.frame a o e (out a (I a ha).1 (I a ha).2)),fun a ha=>?_⟩
 rcases List.mem_append.mp ha with ha | ha
 ·exact U a ha
 ·exact I a ha
theorem GJ {as:List Addr} {ts:List Tk} {n:Nat} (rm:au 0 A) (tp:aC (vs w b 0) s.heap) (hF:aJ s.heap [(F,cQ w b sc d u T p e (sC B))]) (h7:790≤F) (D:eI s.heap F d dl H) (J:d≠F) (hd7:790≤d) (I:s.heap.get? u=some (ah (aq as) n)) (hu:aK s.heap as ts) (hr7:790≤u) (hrF:u≠F) (hrd:u≠d) (U:∀a∈as,a≠F) (hl:dl.length + as.length≤1000000)
  (h:∀s',aH (vs w b 0) [F,u,d] s s'→aJ s'.heap [(F,cQ w b sc d u T p e (sC B))]→eI s'.heap F d (dl++as) (H++ts)→Q .next s'):wpAny (model pg (wb w b)) A (execs [ad (sB mI) 1] (bz F)) Q E s:=by
 delta zz w b A s F sc d u T p e B Q E dl H as ts n
 have D0:=D
 delta zn
 obtain ⟨⟨m,hd⟩,htd,hne⟩:=D
 delta zm
 refine wpAny_mono (aP (R:=fun r' s'=>r'=.ok .next∧aH (vs w b 0) [F,u,d] s s'∧aJ s'.heap [(F,cQ w b sc d u T p e (sC B))]∧eI s'.heap F d (dl++as) (H++ts)) ?_) (fun f s' z=>by have e:=z.1; injection e with e; rw [e]; exact h s' z.2.1 z.2.2.1 z.2.2.2) (fun e s' z=>(by cases z.1))
 have nd:([F,u,d]:List Addr).Nodup:=by
  refine x9 ?_
  exact⟨⟨fun z=>hrF z.symm,fun z=>J z.symm⟩,hrd⟩
 refine cC (V:=vs w b 0) (X:=[(u,ah (aq as) n),(d,ah (aq dl) m)]) rfl rfl rm tp hF (ag I (ak hd)) (ag h7 (ag hr7 (ak hd7))) nd fun y=>⟨4000,wT,?_⟩
 refine cM rfl (wX w T p F sc d u e y _ (aq dl) (aq as) m n B b) (fun Ok sm mo cL=>cL rfl fun A1 s1 c1 G gk hc rm1 P=>?_)
 have P:aD (vs w b 0) s [F,u,d] s1 [(F,cQ w b sc d u T p e (sC B)),(u,aV (ae (aq as))),(d,aV (ae (aq dl)))]:=P
 delta zn
 obtain ⟨orr,g1,g2⟩:=P.get 1 rfl
 obtain ⟨n1,rfl⟩:=bV g2
 delta zm
 have P':aD (vs w b 0) s [F,u,d] s1 ([(F,cQ w b sc d u T p e (sC B))]++[(d,aV (ae (aq dl)))]):=P.re (fun q I=>by
  rcases List.mem_append.mp I with I | I
  ·cases List.mem_singleton.mp I; exact .head _
  ·cases List.mem_singleton.mp I; exact .tail _ (.tail _ (.head _))) (by
  show([F,d]:List Addr).Nodup
  refine lC ?_
  exact fun z=>J z.symm)
 have a1:∀a∈as,a∉([F,u,d]:List Addr):=fun a ha z=>by
  have z:=iG z
  rcases z with z | z | z
  ·exact U a ha z
  ·exact jz I hu a ha z
  ·exact jz hd hu a ha z
 have a2:∀a∈dl,a∉([F,u,d]:List Addr):=fun a ha z=>by
  have z:=iG z
  rcases z with z | z | z
  ·exact(hne a ha).1 z
  ·exact jz I htd a ha z
  ·exact(hne a ha).2 z
 refine xn hc P' g1 (by rw [cW,cW]; exact hl) fun l2 en2 s2 e2 f sb=>gk fun y0 t0=>?_
 refine bB rfl (w0 w T p F sc d u e y _ t0 y0 _ (aq dl) (aq as) l2 m n en2 B b) (fun Ok sm mo H=>H fun r' s3 hr P3=>⟨bm hr,f.trans P3.far fun x hx=>?_,ak (P3.get 0 rfl),?_⟩)
 ·have hx:x∈([F,d]:List Addr):=hx
  have hx:=c9 hx
  rcases hx with h | h <;> subst x
  ·exact .inl (.head _)
  ·exact .inl (.tail _ (.tail _ (.head _)))
 ·exact oQ D0 f a2 P3 (by rw [e2,dS,bM]) (hu.mem fun a ha o e=>f.frame a o e (a1 a ha)) fun a ha=>⟨U a ha,jz hd hu a ha⟩
theorem GK (rm:au 0 A) (tp:aC (vs w b 0) s.heap) (hF:aJ s.heap [(F,cQ w b sc d u T p e B)]) (h7:790≤F) (D:eI s.heap F d dl H) (hdF:d≠F) (hd7:790≤d) (hl:dl.length≤900000)
  (h:∀s' cs,aH (vs w b 0) [F,d] s s'→aJ s'.heap [(F,cQ w b sc d u T p e B)]→eI s'.heap F d (dl++cs) (H++[(7,cF),(1,⟨⟨[0]⟩⟩)])→Q .next s'):wpAny (model pg (wb w b)) A (execs [ad (sB ie) 0] (bz F)) Q E s:=by
 delta zz w b A s F sc d u T p e B Q E dl H
 have D0:=D
 delta zn
 obtain ⟨⟨m,hd⟩,htd,hne⟩:=D
 delta zm
 refine wpAny_mono (aP (R:=fun r' s'=>r'=.ok .next∧∃cs,aH (vs w b 0) [F,d] s s'∧aJ s'.heap [(F,cQ w b sc d u T p e B)]∧eI s'.heap F d (dl++cs) (H++[(7,cF),(1,⟨⟨[0]⟩⟩)])) ?_) (fun f s' z=>by obtain ⟨e,cs,z1,z2,z3⟩:=z; injection e with e; rw [e]; exact h s' cs z1 z2 z3) (fun e s' z=>(by cases z.1))
 have nd:([F,d]:List Addr).Nodup:=by
  refine lC ?_
  exact fun z=>hdF z.symm
 refine cC (V:=vs w b 0) (X:=[(d,ah (aq dl) m)]) rfl rfl rm tp hF (ak hd) (ag h7 (ak hd7)) nd fun y=>⟨4000,w3,?_⟩
 refine cM rfl (w7 w T p F sc d u e y _ (aq dl) m B b) (fun Ok sm mo cL=>mo fun b1=>mo fun b2=>mo fun J=>cL rfl fun A1 s1 c1 G gk hc rm1 P=>?_)
 have P:aD (vs w b 0) s [F,d] s1 [(F,cQ w b sc d u T p e B),(d,aV (ae (aq dl))),(b1,br [(.str s!"fault" 0),(.str cF 0)]),(b2,br [(.str s!"text" 0),(.str ⟨⟨[0]⟩⟩ 0)]),(J,aV [(.ref b1),(.ref b2)])]:=P
 delta zn
 obtain ⟨o3,g1,g2⟩:=P.get 4 rfl
 obtain ⟨n1,rfl⟩:=bV (gl:=[b1,b2]) g2
 delta zm
 have P':aD (vs w b 0) s [F,d] s1 ([(F,cQ w b sc d u T p e B)]++[(d,aV (ae (aq dl)))]):=P.re (fun q hq=>by
  rcases List.mem_append.mp hq with hq | hq
  ·cases List.mem_singleton.mp hq; exact .head _
  ·cases List.mem_singleton.mp hq; exact .tail _ (.head _)) nd
 have nd5:([F,d,b1,b2,J]:List Addr).Nodup:=P.nd
 have nb:∀x∈([b1,b2,J]:List Addr),x∉([F,d]:List Addr):=fun x U z=>(List.nodup_append.mp (show([F,d]++[b1,b2,J]:List Addr).Nodup from nd5)).2.2 x z x U rfl
 refine xn hc P' g1 (by rw [cW]; show dl.length + 2≤_; omega) fun l2 en2 s2 e2 f sb=>gk fun y0 t0=>?_
 have I:∀x∈([b1,b2,J]:List Addr),∀o,s1.heap.get? x=some o→s2.heap.get? x=some o:=fun x U o e=>(sb.2 x fun z=>nb x U (by rw [z]; simp)).trans e
 refine bB rfl (xa w T p F sc d u e y _ t0 y0 _ (aq dl) l2 m en2 J b1 b2 B b) (fun Ok sm mo H=>H fun r' s3 hr P3=>⟨bm hr,[b1,b2],f.trans P3.far fun x U=>.inl U,ak (P3.get 0 rfl),?_⟩)
 delta zn
 obtain ⟨ob1,x1,y1⟩:=P.get 2 rfl
 obtain ⟨ob2,x2,y2⟩:=P.get 3 rfl
 delta zm
 refine oQ D0 f (fun a ha z=>?_) P3 (by rw [e2,dS,bM]; try rfl) (us:=[(7,cF),(1,⟨⟨[0]⟩⟩)]) ⟨⟨ob1,I b1 (by simp) _ x1,y1⟩,⟨ob2,I b2 (by simp) _ x2,y2⟩,trivial⟩ fun a ha=>?_
 ·have z:=c9 z
  rcases z with z | z
  ·exact(hne a ha).1 z
  ·exact(hne a ha).2 z
 ·have U:a∈([b1,b2,J]:List Addr):=by simp only [List.mem_cons,List.not_mem_nil,or_false] at ha ⊢; grind
  have:=nb a U
  simp only [List.mem_cons,List.not_mem_nil,or_false,not_or] at this
  exact this
theorem xo {R R3:Str} {v:Bool} (rm:au 0 A) (tp:aC (vs w b 0) s.heap) (hF:aJ s.heap [(F,cQ w b sc d u T p e (iF B))]) (h7:790≤F) (D:eI s.heap F d dl H) (J:d≠F) (U:790≤d) (hl:dl.length≤900000) {I:Nat} (hg0:0≤p) (hg1:p < 2 ^ 63) (hgx:T.cps[p.toNat]?=some I) (hg:Str.mk ⟨[I]⟩=R) (hb:(R.cps.toList == ([32]:List Nat))=v) (hR:aX T (some p) (some e)=R3) (hRz:R3.length≤sizeLine)
  (h:∀s' cs,aH (vs w b 0) [F,d] s s'→aJ s'.heap [(F,cQ w b sc d u T p e (iF B))]→eI s'.heap F d (dl++cs) (H++[(cond v 2 1,R3)])→Q .next s'):wpAny (model pg (wb w b)) A (execs [ad fv 2] (bz F)) Q E s:=by
 delta zz w b A s F sc d u T p e B Q E dl H R R3 v I at rm tp hF h7 D J U hl
 have D0:=D
 delta zn
 obtain ⟨⟨m,hd⟩,htd,hne⟩:=D
 delta zm
 refine wpAny_mono (aP (R:=fun r' s'=>r'=.ok .next∧∃cs,aH (vs w b 0) [F,d] s s'∧aJ s'.heap [(F,cQ w b sc d u T p e (iF B))]∧eI s'.heap F d (dl++cs) (H++[(cond v 2 1,R3)])) ?_) (fun f s' z=>by obtain ⟨e,cs,z1,z2,z3⟩:=z; injection e with e; rw [e]; exact h s' cs z1 z2 z3) (fun e s' z=>(by cases z.1))
 have nd:([F,d]:List Addr).Nodup:=by
  refine lC ?_
  exact fun z=>J z.symm
 refine cC (V:=vs w b 0) (X:=[(d,ah (aq dl) m)]) rfl rfl rm tp hF (ak hd) (ag h7 (ak U)) nd fun y=>⟨4000,xb T p e R R3 v,?_⟩
 refine cM rfl (xg w T p F sc d u e y _ R (aq dl) m R3 v B b) (fun Ok sm mo cL=>sm (ci _ _ _ _ hg0 hg1 hgx hg) fun u0_1=>sm (gW _ _ _ hb) fun u0_2=>mo fun b1=>sm (bu b1 _ T (some p) (some e) _ hR hRz) fun u0_4=>mo fun b2=>cL rfl fun A1 s1 c1 G gk hc rm1 P=>?_)
 have P:aD (vs w b 0) s [F,d] s1 [(F,cQ w b sc d u T p e (iF B)),(d,aV (ae (aq dl))),(b2,br [(.str (dq (cond v 2 1)) 0),(.str R3 0)])]:=P
 have P':aD (vs w b 0) s [F,d] s1 ([(F,cQ w b sc d u T p e (iF B))]++[(d,aV (ae (aq dl)))]):=P.re (fun q hq=>by
  rcases List.mem_append.mp hq with hq | hq
  ·cases List.mem_singleton.mp hq; exact .head _
  ·cases List.mem_singleton.mp hq; exact .tail _ (.head _)) nd
 have nd5:([F,d,b2]:List Addr).Nodup:=P.nd
 have nb:b2∉([F,d]:List Addr):=fun z=>(List.nodup_append.mp (show([F,d]++[b2]:List Addr).Nodup from nd5)).2.2 b2 z b2 (.head _) rfl
 refine p9 hc P' (by rw [cW]; omega) fun l2 en2 s2 e2 f sb=>gk fun y0 t0=>?_
 refine bB rfl (xj w T p F sc d u e y _ R t0 y0 _ (aq dl) l2 m en2 b1 b2 R3 u0_1 u0_2 u0_4 v B b) (fun Ok sm mo H=>H fun r' s3 hr P3=>⟨bm hr,[b2],f.trans P3.far fun x hx=>.inl hx,ak (P3.get 0 rfl),?_⟩)
 delta zn
 obtain ⟨ob1,x1,y1⟩:=P.get 2 rfl
 delta zm
 refine oQ D0 f (fun a ha z=>?_) P3 (by rw [e2,dS,bM]; try rfl) (us:=[(cond v 2 1,R3)]) ⟨⟨ob1,(sb.2 b2 fun z=>nb (by rw [z]; simp)).trans x1,y1⟩,trivial⟩ fun a ha=>?_
 ·have z:=c9 z
  rcases z with z | z
  ·exact(hne a ha).1 z
  ·exact(hne a ha).2 z
 ·rw [List.mem_singleton.mp ha]
  simp only [List.mem_cons,List.not_mem_nil,or_false,not_or] at nb
  exact nb
end
theorem Jp {p:Nat→Bool} {m z:List Nat} (d:∀c∈m,p c=true) (D:z=[]∨∃c y,z=c::y∧p c=false):cut p (m++z)=(m,z):=by
 induction m with
 | nil=>
  rcases D with rfl | ⟨c,y,rfl,h⟩
  ·rfl
  ·show cut p (c::y)=_
   unfold cut
   rw [h]
 | cons c m H=>
  show cut p (c::(m++z))=_
  unfold cut
  rw [d c (.head _),H fun x I=>d x (.tail _ I)]
theorem Jq {r:List Nat} {X:List Tk} (h:∀D,R1 .tag D r X):RD (60::r) X:=fun D=>R1.go (ts:=[]) (q':=.tag) (D':=D) (r':=r) rfl (h D)
theorem GL {r:List Nat} {X:List Tk} (h:RD r X):RD (0::r) ((7,cF)::(1,⟨⟨[0]⟩⟩)::X):=fun D=>R1.go (ts:=[(7,cF),(1,⟨⟨[0]⟩⟩)]) (q':=.data) (D':=D) (r':=r) rfl (h D)
theorem Jr {m z:List Nat} {X:List Tk} (d:∀c∈m,(c == 32)=true) (H:z=[]∨∃c y,z=c::y∧(c == 32)=false) (h:RD z X):RD (32::(m++z)) ((2,⟨⟨32::m⟩⟩)::X):=fun D=>by
 refine R1.go (ts:=[(2,⟨⟨32::m⟩⟩)]) (q':=.data) (D':=D) (r':=z) ?_ (h D)
 have e:=Jp (p:=fun x=>x == 32) d H
 unfold cP step
 simp only [show(32:Nat)≠60 from by decide,show(32:Nat)≠0 from by decide,if_false,if_true,e,Option.map,iD]
theorem GM {c:Nat} {m z:List Nat} {X:List Tk} (d:c≠60) (H:c≠0) (I:c≠32) (J:∀c∈m,(c != 60 && c != 0)=true) (U:z=[]∨∃c y,z=c::y∧(c != 60 && c != 0)=false) (h:RD z X):RD (c::(m++z)) ((1,⟨⟨c::m⟩⟩)::X):=fun D=>by
 refine R1.go (ts:=[(1,⟨⟨c::m⟩⟩)]) (q':=.data) (D':=D) (r':=z) ?_ (h D)
 have e:=Jp (p:=fun x=>x != 60 && x != 0) J U
 unfold cP step
 simp only [d,H,I,if_false,e,Option.map,iD]
theorem xp:fV=.While (sE fV) [mI] [] (sP fV):=by kernel_rfl
theorem xq:mI=.If (sE mI) [ad (sB mI) 0,ad (sB mI) 1] [ie] (sP mI):=by kernel_rfl
theorem qg:ie=.If (sE ie) [ad (sB ie) 0,ad (sB ie) 1] fv (sP ie):=by kernel_rfl
theorem AS:fv=[ad fv 0,qf,ad fv 2,ad fv 3]:=by kernel_rfl
theorem GN:qf=.While (sE qf) [ad (sB qf) 0] [] (sP qf):=by kernel_rfl
theorem LM {a d:Nat} (h:a≠d):((⟨⟨[a]⟩⟩:Str) == ⟨⟨[d]⟩⟩)=false:=beq_eq_false_iff_ne.mpr fun e=>h (by injection e with e; injection e with e; injection e)
noncomputable def scanP (c:Nat):Nat→Bool:=if c=32 then(fun x=>x == 32) else fun x=>x != 60 && x != 0
section
variable {w:World} {b:Bool} {A:Around} {s G:Shared} {F sc u B:Addr} {T:List Nat} {Q:Flow→Shared→Prop} {E:Value→Shared→Prop}
theorem GO {pre r:List Nat} {c:Nat} {sh:Nat} (rm:au 0 A) (h7:790≤F) (len:T.length≤500) (tx:T=pre++c::r) (tp:aC (vs w b 0) s.heap) (hF:aJ s.heap [(F,cQ w b sc u B ⟨⟨T⟩⟩ (pre.length:Int) ((pre++[c]).length:Int) (iF sh))])
  (h:∀s' m z,r=m++z→(∀x∈m,scanP c x=true)→(z=[]∨∃x y,z=x::y∧scanP c x=false)→aH (vs w b 0) [F] s s'→aJ s'.heap [(F,cQ w b sc u B ⟨⟨T⟩⟩ (pre.length:Int) ((pre++c::m).length:Int) (iF sh))]→Q .next s'):wpAny (model pg (wb w b)) A (exec qf (bz F)) Q E s:=by
 delta zz w b A s F sc u B T Q E pre r c sh
 rw [GN]
 refine wpAny_While (codeAny_whileLoop (fun n s1=>∃m z,r=m++z∧(∀x∈m,scanP c x=true)∧z.length=n∧aJ s1.heap [(F,cQ w b sc u B ⟨⟨T⟩⟩ (pre.length:Int) ((pre++c::m).length:Int) (iF sh))]∧aH (vs w b 0) [F] s s1) ?_ r.length ⟨[],r,rfl,fun _ h=>(by cases h),rfl,hF,⟨fun _ _ e _=>e,rfl,rfl,Nat.le_refl _,tp⟩⟩)
 rintro n s1 ⟨m,z,hr,hm,rfl,a1,f1⟩
 have hT:T=(pre++c::m)++z:=by rw [tx,hr,List.append_assoc]; rfl
 have lT:T.length=(pre++c::m).length + z.length:=by rw [hT,List.length_append]
 have U:((T.length:Nat):Int) < 2 ^ 63:=sf len
 have i0:(0:Int)≤(pre.length:Int):=Int.natCast_nonneg _
 have i63:(pre.length:Int) < 2 ^ 63:=sf (Nat.le_trans (by rw [tx,List.length_append]; exact Nat.le_add_right _ _) len)
 have j0:(0:Int)≤((pre++c::m).length:Int):=Int.natCast_nonneg _
 have j63:((pre++c::m).length:Int) < 2 ^ 63:=sf (Nat.le_trans (by rw [lT]; exact Nat.le_add_right _ _) len)
 cases z with
 | nil=>
  refine GF (n:=((T.length:Nat):Int)) ⟨rm,f1.top,a1,h7⟩ rfl U (decide_eq_false (by rw [lT]; exact Int.lt_irrefl _)) fun H J a2=>?_
  exact bL (h H m [] hr hm (.inl rfl) (f1.trans J fun x D=>.inl D) a2)
 | cons d z=>
  have hlt:decide (((pre++c::m).length:Int) < ((T.length:Nat):Int))=true:=decide_eq_true (by rw [lT]; exact Int.ofNat_lt.mpr (Nat.lt_add_of_pos_right (Nat.succ_pos _)))
  have D:(⟨⟨T⟩⟩:Str).cps[(((pre++c::m).length:Nat):Int).toNat]?=some d:=fu hT
  have hx0:(⟨⟨T⟩⟩:Str).cps[((pre.length:Nat):Int).toNat]?=some c:=fu tx
  have go:∀H,aH (vs w b 0) [F] s1 H→aJ H.heap [(F,cQ w b sc u B ⟨⟨T⟩⟩ (pre.length:Int) ((pre++c::m).length:Int) (iF sh))]→scanP c d=true→wpAny (model pg (wb w b)) A (execs [ad (sB qf) 0] (bz F)) (fun f I=>match f with
      | .next | .cont=>∃k,k < (d::z).length∧∃m z,r=m++z∧(∀x∈m,scanP c x=true)∧z.length=k∧aJ I.heap [(F,cQ w b sc u B ⟨⟨T⟩⟩ (pre.length:Int) ((pre++c::m).length:Int) (iF sh))]∧aH (vs w b 0) [F] s I
      | .brk=>Q .next I
      | .ret v=>Q (.ret v) I) (fun _ _=>False) H:=fun H J a2 hp=>by
   refine GG (e1:=((pre++c::(m++[d])).length:Int)) ⟨rm,J.top,a2,h7⟩ (by rw [show pre++c::(m++[d])=(pre++c::m)++[d] by rw [List.append_assoc]; rfl]; exact(mu 1 rfl).symm) fun s3 f3 a3=>?_
   refine⟨z.length,Nat.lt_succ_self _,m++[d],z,by rw [hr,List.append_assoc]; rfl,fun x D=>?_,rfl,a3,(f1.trans J fun x D=>.inl D).trans f3 fun x D=>.inl D⟩
   rcases List.mem_append.mp D with D | D
   ·exact hm x D
   ·rw [List.mem_singleton.mp D]; exact hp
  by_cases c32:c=32
  ·have hb:(([c]:List Nat) == ([32]:List Nat))=true:=by rw [c32]; rfl
   have eP:scanP c=fun x=>x == 32:=by unfold scanP; rw [if_pos c32]
   by_cases d32:d=32
   ·have hs:(([d]:List Nat) == ([32]:List Nat))=true:=by rw [d32]; rfl
    refine AO (n:=((T.length:Nat):Int)) ⟨rm,f1.top,a1,h7⟩ rfl U hlt i0 i63 hx0 rfl hb j0 j63 D rfl hs fun H J a2=>?_
    exact wpAny_mono (go H J a2 (by rw [eP,d32]; rfl)) (fun _ _ h=>h) fun _ _ h=>h.elim
   ·have hs:(([d]:List Nat) == ([32]:List Nat))=false:=vR d32
    refine AQ (n:=((T.length:Nat):Int)) ⟨rm,f1.top,a1,h7⟩ rfl U hlt i0 i63 hx0 rfl hb j0 j63 D rfl hs fun H J a2=>?_
    exact bL (h H m (d::z) hr hm (.inr ⟨d,z,rfl,by rw [eP]; exact beq_false_of_ne d32⟩) (f1.trans J fun x D=>.inl D) a2)
  ·have hb:(([c]:List Nat) == ([32]:List Nat))=false:=vR c32
   have eP:scanP c=fun x=>x != 60 && x != 0:=by unfold scanP; rw [if_neg c32]
   by_cases dd:d=60∨d=0
   ·have hs:([s!"<",⟨⟨[0]⟩⟩]:List Str).any (·== ⟨⟨[d]⟩⟩)=true:=by
     rcases dd with h | h <;> rw [h] <;> rfl
    refine AP (n:=((T.length:Nat):Int)) ⟨rm,f1.top,a1,h7⟩ rfl U hlt i0 i63 hx0 rfl hb j0 j63 D rfl hs fun H J a2=>?_
    refine bL (h H m (d::z) hr hm (.inr ⟨d,z,rfl,?_⟩) (f1.trans J fun x D=>.inl D) a2)
    rw [eP]
    rcases dd with h | h <;> rw [h] <;> rfl
   ·have d1:d≠60:=fun e=>dd (.inl e)
    have d2:d≠0:=fun e=>dd (.inr e)
    have hs:([s!"<",⟨⟨[0]⟩⟩]:List Str).any (·== ⟨⟨[d]⟩⟩)=false:=by
     show((s!"<":Str) == ⟨⟨[d]⟩⟩ || ((⟨⟨[0]⟩⟩:Str) == ⟨⟨[d]⟩⟩ || false))=false
     rw [LM (Ne.symm d1),LM (Ne.symm d2)]; rfl
    refine AR (n:=((T.length:Nat):Int)) ⟨rm,f1.top,a1,h7⟩ rfl U hlt i0 i63 hx0 rfl hb j0 j63 D rfl hs fun H J a2=>?_
    exact wpAny_mono (go H J a2 (by rw [eP]; show(d != 60 && d != 0)=true; rw [bne,bne,beq_false_of_ne d1,beq_false_of_ne d2]; rfl)) (fun _ _ h=>h) fun _ _ h=>h.elim
end
structure Df (w:World) (b:Bool) (F sc d:Addr) (T:List Nat) (u s:Shared) (pre r:List Nat) (rr:Addr) (e:Int) (sh:Nat) (dl:List Addr) (dn:List Tk):Prop where
 tx:T=pre++r
 fr:aJ s.heap [(F,cQ w b sc d rr ⟨⟨T⟩⟩ (pre.length:Int) e sh)]
 D:eI s.heap F d dl dn
 far:aH (vs w b 0) [F,d] u s
 mach:∀TT,RD r TT→RD T (dn++TT)
 ks:∀x∈dn,mH x.1
 len:dn.length≤1001 * pre.length
theorem KY {a k n m:Nat} (h:n≤1001 * a) (hk:k≤1001) (z:a < m):n + k≤1001 * m:=Nat.le_trans (Nat.add_le_add h hk) (show 1001 * (a + 1)≤1001 * m from Nat.mul_le_mul_left 1001 z)
theorem Mn {p z r r':Nat} (e:z + r'=p + r) (h:p < z):r' < r:=by omega
section
variable {w:World} {b:Bool} {A:Around} {s u:Shared} {F sc d:Addr} {T:List Nat} {Q:Flow→Shared→Prop} {E:Value→Shared→Prop}
theorem GP {pre r:List Nat} {c:Nat} {rr:Addr} {e:Int} {sh:Nat} {dl:List Addr} {dn:List Tk} (rm:au 0 A) (h7:790≤F) (G:d≠F) (hd7:790≤d) (hn:iM T) (ab:∀c∈T,c < 128) (len:T.length≤500)
  (S:Df w b F sc d T u s pre (c::r) rr e sh dl dn)
  (h:∀s' rr e sh pre' r' dl dn,Df w b F sc d T u s' pre' r' rr e sh dl dn→r'.length < (c::r).length→Q .next s'):wpAny (model pg (wb w b)) A (execs [mI] (bz F)) Q E s:=by
 delta zz w b A s u F sc d T Q E pre r c rr e sh dl dn
 have tx:=S.tx
 have I:(⟨⟨T⟩⟩:Str).cps[((pre.length:Nat):Int).toNat]?=some c:=fu tx
 have lT:T.length=pre.length + (r.length + 1):=by rw [tx,List.length_append]; rfl
 have lp:pre.length≤500:=Nat.le_trans (by rw [tx,List.length_append]; exact Nat.le_add_right _ _) len
 have hl:dl.length≤900000:=Nat.le_trans (Nat.le_of_eq (dr S.D.2.1)) (Nat.le_trans S.len (Nat.le_trans (Nat.mul_le_mul_left 1001 lp) (by decide)))
 have i0:(0:Int)≤(pre.length:Int):=Int.natCast_nonneg _
 have J:(pre.length:Int) < 2 ^ 63:=sf lp
 have Kd:∀{x:Addr},x∈([F]:List Addr)→x∈([F,d]:List Addr)∨u.heap.get? x=none:=fun {x} B=>.inl (List.mem_singleton.mp B▸.head _)
 by_cases c60:c=60
 ·have tx6:T=pre++60::r:=by rw [tx,c60]
  refine jJ xq (xk (r:=true) ⟨rm,S.far.top,S.fr,h7⟩ i0 J I rfl (by rw [c60]; rfl) fun s1 f1 a1=>⟨rfl,?_⟩)
  have D1:=S.D.keepF f1 G
  have f01:=S.far.trans f1 fun x B=>Kd B
  refine aQ [ad (sB mI) 1] [ad (sB mI) 0] (GI rm f1.top a1 h7 tx6 hn ab len fun q as ts pre' r' s2 hq hu H tx' lt' mach ks ll f2 a2=>cp ?_)
  have D2:=D1.keepF f2 G
  have f02:=f01.trans f2 fun x B=>Kd B
  obtain ⟨n,hq⟩:=hq
  have live1:∀x,s1.heap.get? x=none→x≠d:=fun x B z=>by
   obtain ⟨m,hm⟩:=D1.1
   rw [z,hm] at B; cases B
  have qd:q≠d:=live1 q (H q (.head _)).2.1
  have q0:u.heap.get? q=none:=(f01.old (H q (.head _)).2.1).resolve_left fun z=>by
   have z:=c9 z
   rcases z with z | z
   ·exact(H q (.head _)).2.2 z
   ·exact qd z
  have la:as.length≤1001:=by rw [dr hu]; exact ll
  refine GJ rm f2.top a2 h7 D2 G hd7 hq hu (H q (.head _)).1 (H q (.head _)).2.2 qd (fun a ha=>(H a (.tail _ ha)).2.2) (by omega) fun s3 f3 a3 D3=>cp (bL ?_)
  refine h s3 q e (sC sh) pre' r' (dl++as) (dn++ts) ⟨tx',a3,D3,f02.trans f3 fun x B=>?_,fun TT k=>?_,fun x B=>?_,?_⟩ ?_
  ·have B:=iG B
   rcases B with h | h | h <;> subst x
   ·exact .inl (.head _)
   ·exact .inr q0
   ·exact .inl (.tail _ (.head _))
  ·rw [List.append_assoc]
   exact S.mach _ (by rw [c60]; exact Jq fun D=>mach TT k D)
  ·rcases List.mem_append.mp B with B | B
   ·exact S.ks x B
   ·exact ks x B
  ·rw [List.length_append]
   exact KY S.len ll lt'
  ·exact Mn (p:=pre.length) (by rw [←List.length_append,←tx',lT]; rfl) lt'
 have n60:(([c]:List Nat) == ([60]:List Nat))=false:=vR c60
 refine gS xq (xk (r:=false) ⟨rm,S.far.top,S.fr,h7⟩ i0 J I rfl n60 fun s1 f1 a1=>⟨rfl,?_⟩)
 have D1:=S.D.keepF f1 G
 have f01:=S.far.trans f1 fun x B=>Kd B
 by_cases c0:c=0
 ·refine jJ qg (xl (r:=true) ⟨rm,f1.top,a1,h7⟩ i0 J I rfl (by rw [c0]; rfl) fun s2 f2 a2=>⟨rfl,?_⟩)
  have D2:=D1.keepF f2 G
  have f02:=f01.trans f2 fun x B=>Kd B
  refine aQ [ad (sB ie) 1] [ad (sB ie) 0] (GK rm f2.top a2 h7 D2 G hd7 hl fun s3 cs f3 a3 D3=>cp ?_)
  have f03:=f02.trans f3 fun x B=>.inl B
  refine GD (p1:=((pre++[0]).length:Int)) ⟨rm,f3.top,a3,h7⟩ (mu 1 rfl).symm fun s4 f4 a4=>cp (bL (cp (bL ?_)))
  refine h s4 rr e sh (pre++[0]) r _ _ ⟨by rw [tx,c0,List.append_assoc]; rfl,a4,D3.keepF f4 G,f03.trans f4 fun x B=>Kd B,fun TT k=>?_,fun x B=>?_,?_⟩ (Nat.lt_succ_self _)
  ·rw [List.append_assoc]
   exact S.mach _ (by rw [c0]; exact GL k)
  ·rcases List.mem_append.mp B with B | B
   ·exact S.ks x B
   ·have B:=c9 B
    rcases B with h | h <;> subst x
    ·exact .inl rfl
    ·exact .inr (.inr (.inl rfl))
  ·rw [List.length_append]
   exact KY S.len (Nat.le_of_ble_eq_true rfl) (FV (Nat.le_refl _))
 have n0:(([c]:List Nat) == ([0]:List Nat))=false:=vR c0
 refine gS qg (xl (r:=false) ⟨rm,f1.top,a1,h7⟩ i0 J I rfl n0 fun s2 f2 a2=>⟨rfl,?_⟩)
 have D2:=D1.keepF f2 G
 have f02:=f01.trans f2 fun x B=>Kd B
 rw [AS]
 refine aQ [qf,ad fv 2,ad fv 3] [ad fv 0] (GE (e1:=((pre++[c]).length:Int)) ⟨rm,f2.top,a2,h7⟩ (mu 1 rfl).symm fun s3 f3 a3=>cp ?_)
 have D3:=D2.keepF f3 G
 have f03:=f02.trans f3 fun x B=>Kd B
 refine cb (GO rm h7 len tx f3.top a3 fun s4 m z hr hm hz f4 a4=>cp ?_)
 have D4:=D3.keepF f4 G
 have f04:=f03.trans f4 fun x B=>Kd B
 have tx4:T=(pre++c::m)++z:=by rw [tx,hr,List.append_assoc]; rfl
 have hsl:aX ⟨⟨T⟩⟩ (some (pre.length:Int)) (some ((pre++c::m).length:Int))=⟨⟨c::m⟩⟩:=by
  have:T=pre++(c::m++z):=by rw [tx4,List.append_assoc]
  rw [sl this (c::m).length rfl (by rw [List.length_append]; rfl),List.take_left]
 have lm:(c::m).length≤500:=by
  rw [tx4,List.length_append,List.length_append] at len
  exact Nat.le_trans (Nat.le_trans (Nat.le_add_left _ _) (Nat.le_add_right _ _)) len
 have fin:∀{k:Int} {s5 s6:Shared} {cs:List Addr},mH k→(∀TT,RD z TT→RD (c::r) ((k,⟨⟨c::m⟩⟩)::TT))→aH (vs w b 0) [F,d] s4 s5→eI s5.heap F d (dl++cs) (dn++[(k,⟨⟨c::m⟩⟩)])→aH (vs w b 0) [F] s5 s6→aJ s6.heap [(F,cQ w b sc d rr ⟨⟨T⟩⟩ ((pre++c::m).length:Int) ((pre++c::m).length:Int) (iF sh))]→Q .next s6:=fun {k s5 s6 cs} hk hm f5 D5 f6 a6=>by
  refine h s6 rr _ (iF sh) (pre++c::m) z _ _ ⟨tx4,a6,D5.keepF f6 G,(f04.trans f5 fun x B=>.inl B).trans f6 fun x B=>Kd B,fun TT kk=>?_,fun x B=>?_,?_⟩ ?_
  ·rw [List.append_assoc]
   exact S.mach _ (hm TT kk)
  ·rcases List.mem_append.mp B with B | B
   ·exact S.ks x B
   ·rw [List.mem_singleton.mp B]; exact hk
  ·rw [List.length_append]
   exact KY S.len (Nat.le_of_ble_eq_true rfl) (FV (Nat.le_refl _))
  ·rw [hr,List.length_cons,List.length_append]
   exact Nat.lt_succ_of_le (Nat.le_add_left _ _)
 by_cases U:c=32
 ·have hb:(([c]:List Nat) == ([32]:List Nat))=true:=by rw [U]; rfl
  refine aQ [ad fv 3] [ad fv 2] (xo (v:=true) (R3:=⟨⟨c::m⟩⟩) rm f4.top a4 h7 D4 G hd7 hl i0 J I rfl hb hsl (fT (Nat.le_trans lm (by decide))) fun s5 cs f5 a5 D5=>cp ?_)
  refine xm ⟨rm,f5.top,a5,h7⟩ fun s6 f6 a6=>cp (bL (cp (bL (fin (k:=2) (.inr (.inr (.inr rfl))) (fun TT kk=>?_) f5 D5 f6 a6))))
  have e:scanP c=fun x=>x == 32:=by unfold scanP; rw [if_pos U]
  rw [e] at hm hz
  rw [hr,U]
  exact Jr hm hz kk
 ·have hb:(([c]:List Nat) == ([32]:List Nat))=false:=vR U
  refine aQ [ad fv 3] [ad fv 2] (xo (v:=false) (R3:=⟨⟨c::m⟩⟩) rm f4.top a4 h7 D4 G hd7 hl i0 J I rfl hb hsl (fT (Nat.le_trans lm (by decide))) fun s5 cs f5 a5 D5=>cp ?_)
  refine xm ⟨rm,f5.top,a5,h7⟩ fun s6 f6 a6=>cp (bL (cp (bL (fin (k:=1) (.inr (.inr (.inl rfl))) (fun TT kk=>?_) f5 D5 f6 a6))))
  have e:scanP c=fun x=>x != 60 && x != 0:=by unfold scanP; rw [if_neg U]
  rw [e] at hm hz
  rw [hr]
  exact GM c60 c0 U hm hz kk
theorem GQ {z:Addr} {e:Int} {B:Nat} (rm:au 0 A) (h7:790≤F) (H:d≠F) (hd7:790≤d) (hn:iM T) (ab:∀c∈T,c < 128) (len:T.length≤500)
  (S:Df w b F sc d T u s [] T z e B [] [])
  (h:∀s' z e B dl G,Df w b F sc d T u s' T [] z e B dl G→Q .next s'):wpAny (model pg (wb w b)) A (exec fV (bz F)) Q E s:=by
 delta zz w b A s u F sc d T Q E z e B
 rw [xp]
 refine wpAny_While (codeAny_whileLoop (fun n s1=>∃pre r z e B dl G,Df w b F sc d T u s1 pre r z e B dl G∧r.length=n) ?_ T.length ⟨[],T,z,e,B,[],[],S,rfl⟩)
 intro n s1 hZ
 delta zn
 obtain ⟨pre,r,z,e,B,dl,G,S,rfl⟩:=hZ
 delta zm
 have lT:T.length=pre.length + r.length:=by rw [S.tx,List.length_append]
 cases r with
 | nil=>
  refine De (r:=false) (n:=((T.length:Nat):Int)) ⟨rm,S.far.top,S.fr,h7⟩ rfl (sf len) (decide_eq_false (by rw [lT]; exact Int.lt_irrefl _)) fun I J a2=>?_
  have ep:pre=T:=by have:=S.tx; rw [List.append_nil] at this; exact this.symm
  have S2:Df w b F sc d T u I pre [] z e B dl G:=⟨S.tx,a2,S.D.keepF J H,S.far.trans J fun x hx=>.inl (List.mem_singleton.mp hx▸.head _),S.mach,S.ks,S.len⟩
  rw [ep] at S2
  exact bL (h I z e B dl G S2)
 | cons c r=>
  refine De (r:=true) (n:=((T.length:Nat):Int)) ⟨rm,S.far.top,S.fr,h7⟩ rfl (sf len) (decide_eq_true (by rw [lT]; exact Int.ofNat_lt.mpr (Nat.lt_add_of_pos_right (Nat.succ_pos _)))) fun I J a2=>?_
  have S2:Df w b F sc d T u I pre (c::r) z e B dl G:=⟨S.tx,a2,S.D.keepF J H,S.far.trans J fun x hx=>.inl (List.mem_singleton.mp hx▸.head _),S.mach,S.ks,S.len⟩
  show wpAny _ A (execs [mI] (bz F)) _ _ I
  exact GP rm h7 H hd7 hn ab len S2 fun s' z e B U r' dl G S' lt=>⟨r'.length,lt,U,r',z,e,B,dl,G,S',rfl⟩
end
noncomputable def ko (d old:Value) (li:Addr) (i:Int):Obj:=fld (.type "enumerate") [d,.bool false,.ref li,.int i 0,.none,old]
noncomputable def fw:Expr:=l6 (xA (sE (ad aG 0))) 0
noncomputable def mD (F L:Addr):Env:=⟨xS fw,L,3,[],"law.<locals>.",none,.ref 788,some F,0⟩
noncomputable def kZ (F L it acc:Addr):Code:=.compStart fw 0 (.ref it) (.ref acc) (mD F L)
noncomputable def Js (F L it acc:Addr):Code:=.compLoop fw 0 (.ref it) (.ref acc) (mD F L)
noncomputable def sD (w:World) (b:Bool) (o:Option (Int×Int)):Obj:=fI (match o with
 | none=>[]
 | some (x,y)=>[!["place",.int x 0],!["n",.int y 0]])
theorem xr {w:World} {b:Bool} {A:Around} {s:Shared} {F sc:Addr} {T:List Nat} (rm:au 0 A) (tp:aC (vs w b 0) s.heap) (hF:aJ s.heap [(F,bq [!["script",.ref sc],!["text",.str ⟨⟨T⟩⟩ 0]])]) (h7:790≤F) (hb:∀y∈s.gens,y.bare=true) (hn:iM T) (al:∀c∈T,c∈ib) (len:T.length≤500):
  wpAny (model pg (wb w b)) A (execs [ad aG 2,ad aG 3,fV,ad aG 5,ad aG 6,ad aG 7,ad aG 8] (bz F)) (fun f s'=>f=.ret (.bool true)∧(∀x o,s.heap.get? x=some o→x≠F→s'.heap.get? x=some o)∧(∀y∈s'.gens,y.bare=true)∧s'.os=s.os∧aC (vs w b 0) s'.heap) (fun _ _=>False) s:=by
 delta zz w b A s F sc T
 have ab:∀c∈T,c < 128:=fun c H=>by
  have h:∀c∈ib,c < 128:=by decide
  exact h c (al c H)
 refine aQ [fV,ad aG 5,ad aG 6,ad aG 7,ad aG 8] [ad aG 2,ad aG 3] (GH ⟨rm,tp,hF,h7⟩ fun du s1 G a1 d1 I J u=>cp ?_)
 obtain ⟨od,g1,g2⟩:=d1 _ (.head _)
 obtain ⟨n0,rfl⟩:=gO g2
 have S:Df w b F sc du T s1 s1 [] T 0 0 0 [] []:=⟨rfl,a1,⟨⟨n0,g1⟩,trivial,(fun a ha=>by cases ha)⟩,⟨fun _ _ e _=>e,rfl,rfl,Nat.le_refl _,G.top⟩,fun TT k=>k,(fun x B=>by cases B),by simp⟩
 refine cb (GQ rm h7 u I hn ab len S fun s2 rr e sh dl dn d=>cp ?_)
 obtain ⟨⟨m,hd⟩,U,hne⟩:=d.D
 have hr:Run .data [] [] T dn:=by
  have r1:R1 .data [] T (dn++[]):=d.mach [] (fun D=>.stop D) []
  rw [List.append_nil] at r1
  exact conv r1 [] ⟨fun c H=>al c (by simpa using H),by simp; omega,by simp; omega⟩ hn trivial
 have hb2:∀y∈s2.gens,y.bare=true:=by rw [d.far.gens,G.gens]; exact hb
 refine wpAny_mono (vn rm d.far.top d.fr h7 hb2 u hd U hr d.ks (by have:=d.len; omega)) ?_ fun _ _ h=>h
 rintro f s3 ⟨rfl,k3,b3,o3,t3⟩
 refine⟨rfl,fun x o e B=>?_,b3,o3.trans (d.far.os.trans G.os),t3⟩
 have xd:x≠du:=fun z=>by rw [z,J] at e; cases e
 refine k3 x o (d.far.frame x o (G.frame x o e (by simpa using B)) fun z=>?_) B
 have z:=c9 z
 rcases z with z | z
 ·exact B z
 ·exact xd z
section
variable {V:Vs} {prog:Program} {w:World} {A:Around} {s:Shared} {R:Result→Shared→Prop}
theorem sG {l:Addr} {items:Array Value} {k:Int} {t:Tok} {x:Value} (z:s.heap.IsList l items) (h0:0≤k) (d:k < 2 ^ 63) (B:items[k.toNat]?=some x) (h:R (.ok (.ret x)) s):
  codeAny (model prog w) A (.call (.builtin "list.__getitem__") ⟨[.ref l,.int k t],[]⟩) R s:=by
 obtain ⟨o,D,G,ne,hd⟩:=id z
 refine cx slot_list_getitem z.typeIs entry_list_getitem (args_list_getitem _ _) ?_
 show wpAny _ _ (Builtin.List.listSubscript? (.int k t) >>=_) _ _ s
 refine wpAny_bind (wpAny_listSubscript_int (fitsIndex_of h0 d) ?_)
 clear d
 obtain ⟨j,rfl⟩:=Int.eq_ofNat_of_zero_le h0
 have u:items[j]?=some x:=B
 show wpAny _ _ ((seqItemAt l j >>=fun r=>pure (r.map (j,·))) >>=_) _ _ s
 refine wpAny_bind (wpAny_bind (wpAny_seqItemAt D hd (wpAny_pure ?_)))
 rw [u]
 first
  | exact wpAny_bind (wpAny_pure (wpAny_pure ⟨x,rfl,h⟩))
  | exact wpAny_pure ⟨x,rfl,h⟩
theorem oR {l sl:Addr} {items:Array Value} {vl vu vs:Value} {lo hi st:Option Int} (H:s.heap.IsList l items)
  (hs:s.heap.IsSliceOf sl vl vu vs) (I:IsPart vl lo) (J:IsPart vu hi) (ps:IsPart vs st) (h0:st≠some 0)
  (h:R (.ok (.ret (.ref s.heap.objs.size))) {s with heap:=s.heap.push {cls:=.type "list",data:=.seq (slicePick items lo hi st)}})
  (D:items.size≤sizeLine):codeAny (model prog w) A (.call (.builtin "list.__getitem__") ⟨[.ref l,.ref sl],[]⟩) R s:=by
 delta zz prog w A s R l sl vl vu vs lo hi st at items
 obtain ⟨o,U,hc,ne,hd⟩:=id H
 obtain ⟨os,d,G,u⟩:=id hs
 have B:s.TypeIs (.ref sl) "slice":=⟨os,d,G⟩
 refine cx slot_list_getitem H.typeIs entry_list_getitem (args_list_getitem _ _) ?_
 show wpAny _ _ (Builtin.List.listSubscript? (.ref sl) >>=_) _ _ s
 refine wpAny_bind ?_
 ·unfold Builtin.List.listSubscript?
  refine wpAny_bind (wpAny_specialOf B slice_no_index ?_)
  simp only [Option.isNone_none,if_true]
  refine wpAny_pure ?_
  show wpAny _ _ (typeOf (.ref sl) >>=_) _ _ s
  refine wpAny_bind (wpAny_typeOf B ?_)
  rw [if_neg (by decide)]
  rw [listSliceParts_eq]
  have z:¬((rawPart st == rawInt 0)=true):=by
   cases st with
   | none=>exact Bool.false_ne_true
   | some c=>
    intro hh
    have:c=0:=by simpa [rawPart,rawInt] using hh
    exact h0 (by rw [this])
  refine wpAny_bind (wpAny_bind (wpAny_field d u (x:=vs) rfl (wpAny_bind (wpAny_listPart ps ?_))))
  rw [if_neg z]
  refine wpAny_bind (wpAny_field d u (x:=vl) rfl (wpAny_bind (wpAny_listPart I ?_)))
  refine wpAny_bind (wpAny_field d u (x:=vu) rfl (wpAny_bind (wpAny_listPart J (wpAny_pure ?_))))
  refine wpAny_bind (m:=Builtin.List.listItems (.ref l)) ?_
  ·unfold Builtin.List.listItems
   refine wpAny_bind (wpAny_seqItems U hd (wpAny_pure ?_))
   refine wpAny_bind (wpAny_of_eq (sliceIndices_raw lo hi st items.size h0) ?_)
   refine wpAny_bind (wpAny_newObj_type (wpAny_pure ⟨_,rfl,h⟩) (Nat.le_trans (slicePick_size_le items lo hi st) D))
theorem GR (x y r:Int) (d:IntMulOk x y) (z:x * y=r):aj V prog w (bi "int.__mul__" [.int x 0,.int y 0] (.int r 0)) []:=
 aZ F.slot_int_mul F.entry_int_mul fun pos hp=>by
  obtain ⟨u,v,rfl,B,D⟩:=eA hp
  obtain ⟨t,rfl⟩:=aW B
  obtain ⟨G,rfl⟩:=aW D
  exact⟨_,_,_,rfl,d5 x t,F.args_int_mul_2 _ _,gives_int_mul _ _ _ _ d,by rw [z]; rfl⟩
theorem xt {d target iter:Expr} {scope:Scope} {pos:Pos} {it acc:Value} {env:Env} (I:Nat→Shared→Prop)
  (jI:∀n s,I n s→wpAny (model prog w) A (pyNext it) (fun r s₁=>match r with
   | none=>R (.ok .next) s₁
   | some v=>wpAny (model prog w) A (letOwnedTupleGo target it v) (fun _ s₀=>wpAny (model prog w) A (assign target env v) (fun _ z=>
      wpAny (model prog w) A (eval d env) (fun x B=>
       wpAny (model prog w) A (call (.builtin "list.append") [acc,x]) (fun _ D=>∃m,m < n∧I m D) (fun _ _=>False) B) (fun _ _=>False) z) (fun _ _=>False) s₀) (fun _ _=>False) s₁) (fun _ _=>False) s)
  (n:Nat) (h:I n s):
  codeAny (model prog w) A (.compLoop (.ListComp d [⟨target,iter,[],0⟩] scope pos) 0 it acc env) R s:=by
 delta zz prog w A s R d target iter pos it acc env I n at scope jI
 refine codeAny_loop rfl I (fun n s hI=>?_) n h
 show wpAny _ A ((compTurn (.ListComp d [⟨target,iter,[],0⟩] scope pos) 0 it acc env).onRaise (fun x=>do noteFrame x env; theTreesLotGoes x)) _ _ s
 refine wpAny_noted ?_
 rw [compTurn_list]
 refine wpAny_bind (wpAny_standAt (wpAny_bind (wpAny_mono (jI n s hI) (fun r s₁ G=>?_) fun _ _ u=>u.elim)))
 cases r with
 | none=>exact wpAny_pure G
 | some v=>
  refine wpAny_bind (wpAny_mono G (fun _ s₀ H=>wpAny_bind (wpAny_mono H (fun _ z J=>?_) fun _ _ u=>u.elim)) fun _ _ u=>u.elim)
  refine wpAny_bind (wpAny_pure ?_)
  exact wpAny_bind (wpAny_bind (wpAny_mono J (fun x B U=>wpAny_bind (wpAny_mono U (fun _ D h₅=>wpAny_pure (wpAny_pure ⟨rfl,h₅⟩)) fun _ _ u=>u.elim)) fun _ _ u=>u.elim))
end
noncomputable def xu (t:Expr) (env:Env) (v:Value):Sem PySem.Fin:=PySem.W.R.bindR (PySem.W.ZFast.zw17772580674575903948 t env v) fun _=>.pure (.done .next)
theorem AT {M:Model} {A:Around} {s:Shared} {R:Result→Shared→Prop} {t:Expr} {env:Env} {v:Value} (h:wpAny M A (xu t env v) (RQ R) (fun e s'=>R (.error e) s') s):
  wpAny M A (assign t env v) (fun _ s'=>R (.ok .next) s') (fun e s'=>R (.error e) s') s:=by
 unfold xu at h
 rw [←PySem.W.R.bindR_eq,←PySem.W.ZFast.ze17772580674575903948] at h
 exact cT (k:=fun _=>PySem.Fin.done .next) h
noncomputable def cH:List Str:=[s!"-",s!"<!--",s!">",s!"!",s!"1",s!"--",s!"-->",⟨⟨[0]⟩⟩,s!"<",s!" ",s!"</",s!"<?",s!"--!>"]
noncomputable def xv (k:Int) (X:Str):Sum:=bi "list.__getitem__" [.ref 767,.int k 0] (.str X 0)
noncomputable def Jt:Expr:=xE fw
noncomputable def GS:Expr:=(g0 fw).target
theorem mE:fw=.ListComp Jt [⟨GS,(g0 fw).iter,[],0⟩] (xS fw) (xP fw):=by kernel_rfl
noncomputable section
variable (w:World) (F sc J na li:Addr) (X:Str) (l l1 l2:List Value) (z D en2:Nat) (y:Nat→Nat→Tok) (tb:Nat) (b1:Addr) (I:Tok) (U:Nat→Nat→Tok) (d:Nat) (t1:Tok) (y1:Nat→Nat→Tok) (G:Nat) (u B:Addr) (t2:Tok) (y2:Nat→Nat→Tok) (tb2:Nat) (t3:Tok) (y3:Nat→Nat→Tok) (tb3:Nat) (L tt:Addr) (i m m1 m2 m3:Int) (T Y:Str) (o:Option (Int×Int)) (xx:Int×Int) (H b:Bool)
noncomputable def xw:List an:=oh [] (cond H 0x1445e0f555555414f555555555e0f5e0f555400 0x1445e0f55414f555555555e0f5e0f555400)
noncomputable def AU:List an:=oh [] 0x1555400
noncomputable def mF:az:=aN (vs w b 0) 4000 .out (aO [ad aG 0] (bz F)) (xw H) (fillAll y 0 [(F,bq [!["script",.ref sc]])]++[(sc,ah l z)]) tb 0 []
abbrev AV:Prop:=(mF w F sc l z y tb H b).norm [0,1,2]=.more fun b1=>.call 500 (bc [F,sc,b1] (AU) []) (.call (.builtin "list.__getitem__") ⟨[.ref sc,.ref b1],[]⟩) [(F,bq [!["script",.ref sc]]),(sc,aV (ae l)),(b1,fld (.type "slice") [.none,(.int 36 (tb + 1)),.none])] fun _ _ _=>.failW ""
theorem AW:AV w F sc l z y tb H b:=by delta za gf
noncomputable def AX:List an:=oh [] 0x1
abbrev AY:Prop:=(((mF w F sc l z y tb H b).nm b1).nc (aA I (.ok (.ret (.ref na)))) (fillAll U 0 [(F,bq [!["script",.ref sc]])]++[(na,ah l1 D)]) d).norm [0,1]=.call 500 (bc [F,na] (AX) []) (.call (.builtin "enumerate.__new__") ⟨[.type "enumerate",.ref na],[]⟩) [(F,bq [!["script",.ref sc]]),(na,aV (ae l1))] fun _ _ _=>.failW ""
theorem AZ:AY w F sc na l l1 z D y tb b1 I U d H b:=by delta za gf
noncomputable def A0:List an:=oh [] 0x155555555
abbrev A5:Prop:=((((mF w F sc l z y tb H b).nm b1).nc (aA I (.ok (.ret (.ref na)))) (fillAll U 0 [(F,bq [!["script",.ref sc]])]++[(na,ah l1 D)]) d).nc (aA t1 (.ok (.ret (.ref J)))) (fillAll y1 0 [(F,bq [!["script",.ref sc]]),(J,ko .none .none li 0)]) G).norm [0,1,2,3]=.more fun u=>.more fun B=>.call 40 (bc [F,J,u,B] (A0) []) (kZ F B J u) [(F,bq [!["script",.ref sc]]),(J,fld (.type "enumerate") [.none,(.bool (false)),(.ref li),(.int 0 0),.none,.none]),(u,aV []),(B,fI [])] fun _ _ _=>.failW ""
theorem A6:A5 w F sc J na li l l1 z D y tb b1 I U d t1 y1 G H b:=by delta za gf
noncomputable def A7:List an:=oh [] (cond H 0x1555555 0x155)
abbrev A8:Prop:=(((((((mF w F sc l z y tb H b).nm b1).nc (aA I (.ok (.ret (.ref na)))) (fillAll U 0 [(F,bq [!["script",.ref sc]])]++[(na,ah l1 D)]) d).nc (aA t1 (.ok (.ret (.ref J)))) (fillAll y1 0 [(F,bq [!["script",.ref sc]]),(J,ko .none .none li 0)]) G).nm u).nm B).nc (aA t2 (.ok .next)) (fillAll y2 0 [(F,bq [!["script",.ref sc]]),(B,sD w b (oq H xx))]++[(u,ah l2 en2)]) tb2).norm [0,2]=.call 500 (bc [F,B,u] (A7 H) []) (.call (.builtin "str.join") ⟨[.str ⟨⟨[]⟩⟩ 0,.ref u],[]⟩) [(F,bq [!["script",.ref sc]]),(u,aV (ae l2))] fun _ _ _=>.failW ""
theorem A9:A8 w F sc J na li l l1 l2 z D en2 y tb b1 I U d t1 y1 G u B t2 y2 tb2 xx H b:=by delta za gf
noncomputable def Ba:List an:=oh [] 0x144
abbrev Bb:Prop:=((((((((mF w F sc l z y tb H b).nm b1).nc (aA I (.ok (.ret (.ref na)))) (fillAll U 0 [(F,bq [!["script",.ref sc]])]++[(na,ah l1 D)]) d).nc (aA t1 (.ok (.ret (.ref J)))) (fillAll y1 0 [(F,bq [!["script",.ref sc]]),(J,ko .none .none li 0)]) G).nm u).nm B).nc (aA t2 (.ok .next)) (fillAll y2 0 [(F,bq [!["script",.ref sc]]),(B,sD w b (oq H xx))]++[(u,ah l2 en2)]) tb2).nc (aA t3 (.ok (.ret (.str X 0)))) (fillAll y3 0 [(F,bq [!["script",.ref sc]])]) tb3).norm [0]=.done (bc [F] (Ba) []) (.ok .next) [(F,bq [!["script",.ref sc],!["text",.str X 0]])]
theorem Bc:Bb w F sc J na li X l l1 l2 z D en2 y tb b1 I U d t1 y1 G u B t2 y2 tb2 t3 y3 tb3 xx H b:=by delta za gf
noncomputable def oT:List an:=oh [] 0x14444866566666656666665666665555
noncomputable def GT:az:=aN (vs w b 40) 4000 .out (xu GS (mD F L) (.ref tt)) (oT) (fillAll y 0 [(L,(sD w b o)),(tt,br [.int i 0,.int m 0])]) tb 0 []
abbrev GU:Prop:=(GT w F y tb L tt i m o b).norm [0,1]=.more fun b1=>.more fun b2=>.more fun b3=>.done (bc [L,tt,b1,b2,b3] (oT) []) (.ok .next) [(L,(sD w b (some (i,m)))),(tt,br [(.int i 0),(.int m 0)])]
theorem GV:GU w F y tb L tt i m o b:=by delta za J5
noncomputable def oU:List an:=oh [fun ks=>bi "int.__mul__" [.int 5 0,.int i 0] (.int m1 0),fun ks=>aY m m1 m2,fun ks=>lK m2 13 m3,fun ks=>xv m3 X] 0x106bf00006af069f068f440
noncomputable def GW:az:=aN (vs w b 40) 4000 .out (eF Jt (mD F L)) (oU X i m m1 m2 m3) (fillAll y 0 [(L,(sD w b (some (i,m))))]) tb 0 []
abbrev GX:Prop:=(GW w F X y tb L i m m1 m2 m3 b).norm [0]=.sum (bi "int.__mul__" [.int 5 0,.int i 0] (.int m1 0)) [] fun u0_1=>.sum (aY m m1 m2) [] fun u0_2=>.sum (lK m2 13 m3) [] fun u0_3=>.sum (xv m3 X) [] fun u0_4=>.done (bc [L] (oU X i m m1 m2 m3) []) (.ok (.ret (.str X 0))) [(L,(sD w b (some (i,m))))]
theorem GY:GX w F X y tb L i m m1 m2 m3 b:=by delta za bh
noncomputable def Dg:List an:=oh [] 0x1449c8f9c8f4
noncomputable def Bd:List an:=oh [] 0x14
noncomputable def xy:az:=aN (vs w b 0) 4000 .out (aO [ad aG 1] (bz F)) (Dg) (fillAll y 0 [(F,bq [!["script",.ref sc],!["text",.str T 0]])]) tb 0 []
abbrev Be:Prop:=(xy w F sc y tb T b).norm [0]=.call 1500 (bc [F] (Bd) []) ((.call (.builtin "str.replace") ⟨[(.str T (y 0 (1 + 2 + 1))),(.str ⟨⟨[60,33,45,45,0]⟩⟩ (tb + 0)),(.str s!"<!--1" (tb + 1))],[]⟩)) [(F,bq [!["script",.ref sc],!["text",.str T 0]])] fun _ _ _=>.failW ""
theorem Bf:Be w F sc y tb T b:=by delta za bh
noncomputable def Bg:List an:=oh [] 0x1
abbrev Bh:Prop:=((xy w F sc y tb T b).nc (aA I (.ok (.ret (.str X 0)))) (fillAll U 0 [(F,bq [!["script",.ref sc],!["text",.str T 0]])]) d).norm [0]=.call 1500 (bc [F] (Bg) []) ((.call (.builtin "str.replace") ⟨[(.str X I),(.str ⟨⟨[60,33,45,45,45,0]⟩⟩ (d + 0)),(.str s!"<!---1" (d + 1))],[]⟩)) [(F,bq [!["script",.ref sc],!["text",.str T 0]])] fun _ _ _=>.failW ""
theorem Bi:Bh w F sc X y tb I U d T b:=by delta za bh
noncomputable def Bj:List an:=oh [] 0x144
abbrev Bk:Prop:=(((xy w F sc y tb T b).nc (aA I (.ok (.ret (.str X 0)))) (fillAll U 0 [(F,bq [!["script",.ref sc],!["text",.str T 0]])]) d).nc (aA t1 (.ok (.ret (.str Y 0)))) (fillAll y1 0 [(F,bq [!["script",.ref sc],!["text",.str T 0]])]) G).norm [0]=.done (bc [F] (Bj) []) (.ok .next) [(F,bq [!["script",.ref sc],!["text",.str Y 0]])]
theorem Bl:Bk w F sc X y tb I U d t1 y1 G T Y b:=by delta za bh
end
noncomputable def oW (o:Obj):List Value:=match o.data with
 | .seq ⟨l⟩ _=>l
 | _=>[]
theorem xz (P:Params):∀(j:Nat) (X:Str),cH[j]?=some X→∃t,(oW (ig P))[j]?=some (.str X t)
 | 0,X,h=>by injection h with h; subst h; exact⟨_,rfl⟩
 | 1,X,h=>by injection h with h; subst h; exact⟨_,rfl⟩
 | 2,X,h=>by injection h with h; subst h; exact⟨_,rfl⟩
 | 3,X,h=>by injection h with h; subst h; exact⟨_,rfl⟩
 | 4,X,h=>by injection h with h; subst h; exact⟨_,rfl⟩
 | 5,X,h=>by injection h with h; subst h; exact⟨_,rfl⟩
 | 6,X,h=>by injection h with h; subst h; exact⟨_,rfl⟩
 | 7,X,h=>by injection h with h; subst h; exact⟨_,rfl⟩
 | 8,X,h=>by injection h with h; subst h; exact⟨_,rfl⟩
 | 9,X,h=>by injection h with h; subst h; exact⟨_,rfl⟩
 | 10,X,h=>by injection h with h; subst h; exact⟨_,rfl⟩
 | 11,X,h=>by injection h with h; subst h; exact⟨_,rfl⟩
 | 12,X,h=>by injection h with h; subst h; exact⟨_,rfl⟩
 | n + 13,X,h=>by cases h
theorem Bm (P:Params):(ig P).cls=.type "list"∧∃n,(ig P).data=.seq ⟨oW (ig P)⟩ n:=⟨rfl,_,rfl⟩
theorem Bn {w:World} {b:Bool} {r:Nat} {k:Int} {X:Str} (h0:0≤k) (J:k < 13) (d:cH[k.toNat]?=some X):aj (vs w b r) pg (wb w b) (xv k X) []:=by
 delta zz w b r k X
 intro A s c rm z tp en hi nd
 obtain ⟨pos,rfl,hp⟩:=av (show ao c=.call (.builtin "list.__getitem__") ⟨[.ref 767,.int k 0],[]⟩ from z)
 obtain ⟨u,v,rfl,B,D⟩:=eA hp
 cases bb B
 obtain ⟨t,rfl⟩:=aW D
 have g:s.heap.get? 767=some (ig (pr w b)):=tp.1 767 _ (show 767 < 790 by decide) rfl
 obtain ⟨e1,n,G⟩:=Bm (pr w b)
 obtain ⟨H,I⟩:=xz (pr w b) _ X d
 refine sG (items:=⟨oW (ig (pr w b))⟩) ⟨_,g,e1,n,G⟩ h0 (by omega) (x:=.str X H) (by simpa using I) ?_
 exact⟨rfl,rfl,rfl,trivial,fun _ _ h _=>h,Nat.le_refl _⟩
theorem xB (i:Int):IntMulOk 5 i:=IntMulOk.of_left (by decide)
structure TI (w:World) (b:Bool) (L it acc li na:Addr) (items:List Value) (s s':Shared) (i:Nat) (ys:List Str):Prop where
 en:∃old,IsEnum s'.heap it li i old
 lit:s'.heap.IsListIter li na i
 lna:s'.heap.IsList na ⟨items⟩
 fr:∃o,aJ s'.heap [(L,sD w b o)]∧(i=0→o=none)∧(i≠0→∃x,o=some x)
 ac:dy s'.heap acc (aR ys)
 far:aH (vs w b 40) [it,L,acc,li] s s'
 le:i≤items.length
 len:ys.length=i
 ps:∀y∈ys,y∈cH
section
variable {prog:Program} {A:Around} {s:Shared} {w:World} {E:Value→Shared→Prop}
theorem xC {e it l:Addr} {i:Nat} {items:Array Value} {old:Value} {Q:Option Value→Shared→Prop} (u:A.handled=none)
  (I:IsEnum s.heap e it i old) (d:s.heap.IsListIter it l i) (U:s.heap.IsList l items) (hx:items[i]?=none)
  (hQ:∀B,Heap.ExtBut it s.heap B→s.heap.objs.size≤B.objs.size→Q none {s with heap:=B}):wpAny (model prog w) A (pyNext (.ref e)) Q E s:=by
 delta zz prog A s w E e it l i old Q at items
 have J:s.TypeIs (.ref e) "enumerate":=⟨_,I,rfl⟩
 obtain ⟨o,D,hc,hd⟩:=id d
 obtain ⟨ol,G,_,nl,H⟩:=U
 unfold pyNext
 refine wpAny_bind (wpAny_attempt (wpAny_callSpecial?_slot (name:=Str.ofString "__next__") J F.slot_enumerate_next
  (wpAny_call_entry F.slot_enumerate_next J F.entry_enumerate_next ?_ (F.args_enumerate_next_1 _))))
 show wpAny _ _ (field (.ref e) 2 >>=_) _ _ _
 refine wpAny_bind (wpAny_field I rfl (x:=.ref it) rfl (wpAny_bind ?_))
 unfold Builtin.SmallTypes.nextOf
 refine wpAny_bind (wpAny_callSpecial?_slot (name:=Str.ofString "__next__") d.typeIs slot_listiter_next
  (wpAny_call_entry slot_listiter_next d.typeIs entry_listiter_next ?_ (args_listiter_next _)))
 show wpAny _ _ (field (.ref it) 0 >>=_) _ _ s
 refine wpAny_bind (wpAny_field D hd (x:=.ref l) rfl ?_)
 show wpAny _ _ (if (Value.ref l == Value.none)=true then _ else _) _ _ s
 rw [if_neg (show ¬((Value.ref l == Value.none)=true) from Bool.false_ne_true)]
 show wpAny _ _ (field (.ref it) 1 >>=_) _ _ s
 refine wpAny_bind (wpAny_field D hd (x:=.int i 0) rfl ?_)
 show wpAny _ _ (seqItems? (.ref l) >>=_) _ _ s
 refine wpAny_bind (wpAny_seqItems G H ?_)
 simp only [Int.toNat_natCast,hx]
 refine wpAny_bind (wpAny_rule (wpAny_bind (wpAny_setField D hd (by simp) ?_)))
 show wpAny _ _ (newExc (.type "StopIteration") [] >>=_) _ _ _
 refine wpAny_bind ?_
 simp only [newExc,newTuple]
 refine wpAny_bind (wpAny_newObj_type ?_ (by size_fits))
 refine wpAny_bind (m:=firstArgMember _ _) (wpAny_of_eq (a:=Value.none) (by first | rfl | (simp only [firstArgMember]; rfl)) ?_)
 refine wpAny_newObj_type ?_ (by size_fits)
 simp only [raiseNew]
 refine wpAny_bind (wpAny_handled ?_)
 first | rw [show A.in1.in1.handled=none from u] | rw [show A.in1.handled=none from u] | rw [u]
 refine wpAny_bind (wpAny_pure (wpAny_throw ?_))
 refine wpAny_bind (wpAny_isInstance (T:="StopIteration") (b:=true) ⟨_,Heap.get?_push_size _ rfl,rfl⟩ isSubtype_stop ?_)
 refine wpAny_pure (hQ _ (((Heap.SameBut.update ..).extBut.push _).push _) ?_)
 rw [Heap.size_push,Heap.size_push]
 have z:=(Heap.SameBut.update (h:=s.heap) (a:=it) (f:=Obj.mapFields fun x=>x.set! 0 .none)).1
 first
  | exact Nat.le_succ_of_le (Nat.le_succ_of_le (Nat.le_of_eq z.symm))
  | omega
end
theorem aC.ext {V:Vs} {h d:Heap} {a:Addr} (t:aC V h) (x:Heap.ExtBut a h d) (ha:V.n₁≤a) (g:h.objs.size≤d.objs.size):aC V d:=
 ⟨fun b o hb e=>x b o (fun z=>by rw [z] at hb; exact absurd (Nat.lt_of_lt_of_le hb ha) (Nat.lt_irrefl _)) (t.1 b o hb e),Nat.le_trans t.2 g⟩
theorem Bp {r:Result} {X:Str} (h:ba r=.ok (.ret (.str X 0))):∃t,r=.ok (.ret (.str X t)):=by
 delta zz r X
 cases r with
 | error e=>cases h
 | ok f=>cases f with
  | ret v=>
   have h:(Except.ok (Flow.ret (ai v)):Result)=.ok (.ret (.str X 0)):=h
   delta zn
   injection h with h
   injection h with h
   obtain ⟨t,rfl⟩:=aL h
   delta zm
   exact⟨t,rfl⟩
  | _=>cases h
theorem Bq {w:World} {b:Bool} {F L it acc li na:Addr} {A:Around} {s:Shared} {items:List Value} {n0:Nat} (rm:au 40 A) (nd:([it,L,acc,li,na]:List Addr).Nodup) (h7:∀x∈([it,L,acc,li]:List Addr),790≤x)
  (hin:∀v∈items,∃m t,v=.int m t) (hlen:items.length≤36) (tp:aC (vs w b 40) s.heap)
  (g1:IsEnum s.heap it li 0 .none) (g2:s.heap.IsListIter li na 0) (g3:s.heap.IsList na ⟨items⟩) (g4:aJ s.heap [(L,fI [])]) (g5:s.heap.get? acc=some (ah [] n0)):
  codeAny (model pg (wb w b)) A (Js F L it acc) (fun r s'=>r=.ok .next∧aH (vs w b 40) [it,L,acc,li] s s'∧∃ys o,dy s'.heap acc (aR ys)∧ys.length=items.length∧(∀y∈ys,y∈cH)∧aJ s'.heap [(L,sD w b o)]∧(items.length=0→o=none)∧(items.length≠0→∃x,o=some x)) s:=by
 delta zz w b F L it acc li na A s items n0
 simp only [List.nodup_cons,List.mem_cons,List.not_mem_nil,or_false,not_or,not_false_eq_true,List.nodup_nil,and_true] at nd
 delta zn
 obtain ⟨⟨n1,n2,n3,n4⟩,⟨n5,n6,n7⟩,⟨n8,n9⟩,n10⟩:=nd
 delta zm
 show codeAny _ A (.compLoop fw 0 (.ref it) (.ref acc) (mD F L)) _ s
 rw [mE]
 have hit:790≤it:=h7 it (by simp)
 have hL:790≤L:=h7 L (by simp)
 have hacc:790≤acc:=h7 acc (by simp)
 have hli:790≤li:=h7 li (by simp)
 refine xt (fun n s'=>∃i ys,n + i=items.length∧TI w b L it acc li na items s s' i ys) ?_ items.length ⟨0,[],rfl,⟨_,g1⟩,g2,g3,⟨none,g4,fun _=>rfl,fun h=>absurd rfl h⟩,⟨[],n0,g5,rfl⟩,⟨fun _ _ e _=>e,rfl,rfl,Nat.le_refl _,tp⟩,Nat.zero_le _,rfl,fun y U=>by cases U⟩
 intro n d hZ
 delta zn
 obtain ⟨i,ys,hn,I⟩:=hZ
 obtain ⟨old,he⟩:=I.en
 obtain ⟨o,a1,o0,o1⟩:=I.fr
 delta zm
 delta zy n d i ys old o at hn I he a1 o0 o1
 cases D:(⟨items⟩:Array Value)[i]? with
 | none=>
  have hi:i=items.length:=by
   have:=Array.getElem?_eq_none_iff.mp D
   have l:=I.le
   have this:items.length≤i:=this
   omega
  refine xC rm.2.2 he I.lit I.lna D fun h' x1 x2=>?_
  have f1:aH (vs w b 40) [it,L,acc,li] d {d with heap:=h'}:=⟨fun c u e G=>x1 c u (fun z=>G (by rw [z]; simp)) e,rfl,rfl,x2,I.far.top.ext x1 hli x2⟩
  delta zn
  obtain ⟨l,en,q1,q2⟩:=I.ac
  delta zm
  refine⟨rfl,I.far.trans f1 fun x D=>.inl D,ys,o,⟨l,en,x1 _ _ n8 q1,q2⟩,I.len.trans hi,I.ps,?_,fun z=>o0 (by omega),fun z=>o1 (by omega)⟩
  delta zn
  obtain ⟨oL,z1,z2⟩:=a1 _ (.head _)
  delta zm
  exact ak ⟨oL,x1 _ _ n6 z1,z2⟩
 | some v=>
  delta zn
  obtain ⟨m,tm,rfl⟩:=hin v (by
   have:=Array.mem_of_getElem? D
   simpa using this)
  delta zm
  have hi:i < items.length:=by
   have:=(Array.getElem?_eq_some_iff.mp D).1
   exact this
  refine wpAny_pyNext_enum_item he I.lit I.lna D n3 fun h1 e1 l1 t1 z1 k1=>?_
  have fr0:d.heap.get? d.heap.objs.size=none:=da _
  have lt:∀{c:Addr} {u:Obj},d.heap.get? c=some u→c≠d.heap.objs.size:=fun {c u} e z=>by rw [z,fr0] at e; cases e
  have F1:aH (vs w b 40) [it,L,acc,li] s {d with heap:=h1,toks:=d.toks + 1}:=I.far.trans (K':=[it,li]) ⟨fun c u e G=>k1 c u (fun z=>G (by rw [z]; simp)) (fun z=>G (by rw [z]; simp)) e,rfl,rfl,by show _≤h1.objs.size; rw [z1]; exact Nat.le_succ _,
   ⟨fun c u G e=>k1 c u (fun z=>by rw [z] at G; exact absurd (Nat.lt_of_lt_of_le G hit) (Nat.lt_irrefl _)) (fun z=>by rw [z] at G; exact absurd (Nat.lt_of_lt_of_le G hli) (Nat.lt_irrefl _)) (I.far.top.1 c u G e),by show _≤h1.objs.size; rw [z1]; exact Nat.le_succ_of_le I.far.top.2⟩⟩ (fun x D=>by
    simp only [List.mem_cons,List.not_mem_nil,or_false] at D ⊢
    rcases D with rfl | rfl <;> simp)
  refine wpAny_letOwnedTupleGo_enum e1 fun H e2 B=>?_
  have B:Heap.SameBut it h1 H:=B
  have F2:aH (vs w b 40) [it,L,acc,li] s {d with heap:=H,toks:=d.toks + 1}:=F1.trans (K':=[it]) ⟨fun c u e G=>(B.2 c fun z=>G (by rw [z]; simp)).trans e,rfl,rfl,by show _≤H.objs.size; rw [B.1]; exact Nat.le_refl _,F1.top.same B hit⟩ (fun x D=>.inl (by rw [List.mem_singleton.mp D]; simp))
  delta zn
  obtain ⟨oL,y1,y2⟩:=a1 _ (.head _)
  obtain ⟨l,en,q1,q2⟩:=I.ac
  obtain ⟨oi,i1,i2,i3⟩:=l1
  obtain ⟨oa,p1,p2,p3,p4⟩:=I.lna
  delta zm
  have gt2:H.get? d.heap.objs.size=some _:=(B.2 _ (fun z=>lt he z.symm)).trans t1
  have gL2:H.get? L=some oL:=(B.2 _ fun z=>n1 z.symm).trans (k1 _ _ (fun z=>n1 z.symm) n6 y1)
  have ga2:H.get? acc=some (ah l en):=(B.2 _ fun z=>n2 z.symm).trans (k1 _ _ (fun z=>n2 z.symm) n8 q1)
  have gi2:H.get? li=some oi:=(B.2 _ fun z=>n3 z.symm).trans i1
  have gn2:H.get? na=some oa:=(B.2 _ fun z=>n4 z.symm).trans (k1 _ _ (fun z=>n4 z.symm) (fun z=>n10 z.symm) p1)
  have a2:aJ H [(L,sD w b o),(d.heap.objs.size,br [.int i 0,.int m 0])]:=ag ⟨oL,gL2,y2⟩ (ak ⟨_,gt2,rfl⟩)
  have nL:L≠d.heap.objs.size:=lt y1
  refine wpAny_mono (AT (R:=fun r' s3=>r'=.ok .next∧aH (vs w b 40) [L,d.heap.objs.size] {d with heap:=H,toks:=d.toks + 1} s3∧aJ s3.heap [(L,sD w b (some ((i:Int),m)))]) ?_) ?_ fun _ _ z=>by cases z.1
  ·refine aM (V:=vs w b 40) (s:={d with heap:=H,toks:=d.toks + 1}) rfl rfl rm F2.top a2 (ag hL (ak (Nat.le_trans I.far.top.2 (Nat.le_refl _)))) (by simp [keys,nL]) fun y=>⟨4000,oT,?_⟩
   exact bB rfl (GV w F y _ L d.heap.objs.size i m o b) (fun Ok sm mo dn=>mo fun b1=>mo fun b2=>mo fun b3=>dn fun r' s3 er P=>⟨bm er,P.far,ak (P.get 0 rfl)⟩)
  intro _ s3 hZ
  delta zn
  obtain ⟨-,f3,a3⟩:=hZ
  have hm3:0≤(m + 5 * (i:Int)).fmod 13∧(m + 5 * (i:Int)).fmod 13 < 13:=⟨Int.fmod_nonneg_of_pos _ (by omega),Int.fmod_lt_of_pos _ (by omega)⟩
  obtain ⟨X,hX⟩:∃X,cH[((m + 5 * (i:Int)).fmod 13).toNat]?=some X:=by
   have:((m + 5 * (i:Int)).fmod 13).toNat < cH.length:=by
    have e:cH.length=13:=rfl
    omega
   exact⟨_,List.getElem?_eq_getElem this⟩
  delta zm
  refine wpAny_mono (gI (R:=fun r' s4=>∃t,r'=.ok (.ret (.str X t))∧aH (vs w b 40) [L] s3 s4∧aJ s4.heap [(L,sD w b (some ((i:Int),m)))]) ?_) ?_ fun _ _ z=>by obtain ⟨t,e,_⟩:=z; cases e
  ·refine aM (V:=vs w b 40) rfl rfl rm f3.top a3 (ak hL) (by simp [keys]) fun y=>⟨4000,oU X i m (5 * i) (m + 5 * i) ((m + 5 * (i:Int)).fmod 13),?_⟩
   refine bB rfl (GY w F X y _ L i m _ _ _ b) (fun Ok sm mo dn=>sm (GR 5 i _ (xB i) rfl) fun _=>sm (aE _ _ _ rfl) fun _=>sm (kG _ _ _ rfl rfl) fun _=>sm (Bn hm3.1 hm3.2 hX) fun _=>dn fun r' s4 er P=>?_)
   delta zn
   obtain ⟨t,rfl⟩:=Bp er
   delta zm
   exact⟨t,rfl,P.far,ak (P.get 0 rfl)⟩
  intro v4 s4 hZ
  delta zn
  obtain ⟨t,ev,f4,a4⟩:=hZ
  injection ev with ev
  injection ev with ev
  subst ev
  delta zm
  have nt:∀{c:Addr} {u:Obj},H.get? c=some u→c≠L→c≠d.heap.objs.size→s4.heap.get? c=some u:=fun {c u} e c1 c2=>f4.frame c u (f3.frame c u e (by simp [c1,c2])) (by simpa using c1)
  have g4a:s4.heap.get? acc=some (ah l en):=nt ga2 (fun z=>n5 z.symm) (lt q1)
  have ll:l.length=i:=by rw [←aB l,q2,fC,I.len]
  refine wpAny_call (gL g4a (Nat.le_trans (show l.length≤items.length by rw [ll]; exact Nat.le_of_lt hi) (Nat.le_trans hlen (show(36:Nat)≤sizeLine by decide))) fun h5 n5' r1 J=>?_)
  have F4:aH (vs w b 40) [it,L,acc,li] s s4:=((F2.trans f3 fun x D=>by
   have D:=c9 D
   rcases D with h | h <;> subst x
   ·exact .inl (by simp)
   ·exact .inr ((I.far.old fr0).resolve_left fun z=>by
     have z:=x8 z
     rcases z with z | z | z | z
     ·exact lt he z.symm
     ·exact nL z.symm
     ·exact lt q1 z.symm
     ·obtain ⟨ol,k,_⟩:=I.lit
      exact lt k z.symm)).trans f4 fun x D=>.inl (by rw [List.mem_singleton.mp D]; simp))
  have nt5:∀{c:Addr} {u:Obj},H.get? c=some u→c≠L→c≠d.heap.objs.size→c≠acc→h5.get? c=some u:=fun {c u} e c1 c2 c3=>(J.2 c c3).trans (nt e c1 c2)
  have li0:li≠d.heap.objs.size:=by obtain ⟨ol,k,_⟩:=I.lit; exact lt k
  refine⟨n - 1,by omega,i + 1,ys++[X],by omega,⟨_,nt5 e2 n1 (lt he) n2⟩,⟨oi,nt5 gi2 (fun z=>n6 z.symm) li0 (fun z=>n8 z.symm),i2,i3⟩,⟨oa,nt5 gn2 (fun z=>n7 z.symm) (lt p1) (fun z=>n9 z.symm),p2,p3,p4⟩,⟨some ((i:Int),m),?_,(fun z=>by omega),fun _=>⟨_,rfl⟩⟩,⟨_,_,r1,?_⟩,?_,hi,by rw [List.length_append,I.len]; rfl,?_⟩
  ·obtain ⟨ob,k1,k2⟩:=a4 _ (.head _)
   exact ak ⟨ob,(J.2 L n5).trans k1,k2⟩
  ·rw [bM,q2,cf]; rfl
  ·exact F4.trans (K':=[acc]) ⟨fun c u e G=>(J.2 c fun z=>G (by rw [z]; simp)).trans e,rfl,rfl,by show _≤h5.objs.size; rw [J.1]; exact Nat.le_refl _,F4.top.same J hacc⟩ fun x D=>.inl (by rw [List.mem_singleton.mp D]; simp)
  ·intro y U
   rcases List.mem_append.mp U with U | U
   ·exact I.ps y U
   ·rw [List.mem_singleton.mp U]; exact List.mem_of_getElem? hX
noncomputable def az.entc (o:az) (i:Nat):Option aw:=match o with
 | .call _ _ _ L _=>jP L i
 | _=>none
noncomputable def dU (V:Vs) (X:Cx) (n:az) (o:az):Prop:=match n with
 | .more f=>∀a,dU V X (f a) (o.nm a)
 | .sum S as f=>aj V X.prog X.w S as∧∀y,X.s₀.toks≤y 0 1→dU V X (f y) (o.ns y)
 | .call rm cs c L _=>(∀c∈cs,c.ok)∧∀A s d,(match Nat.blt rm 1000 with | true=>ao d=c | false=>d=c)→au rm A→aD V X.s₀ X.K₀ s L→(∀i p,o.entc i=some p→s.heap.get? p.1=some p.2)→
   codeAny (model X.prog X.w) A d (fun r s'=>X.s₀.toks≤s'.toks→∃L',Good V s' L'∧bU V (X.re s' (keys L')) (o.nc r L' s'.toks)) s
 | _=>False
theorem dU.of {V:Vs} {sel:List Nat} (hs:bO sel=true):∀{o:az} {X:Cx},dU V X (o.norm sel) o→bU V X o
 | .more g,_,h=>fun a=>dU.of hs (h a)
 | .sum S as g,_,h=>⟨h.1,fun y d=>dU.of hs (h.2 y d)⟩
 | .done cs r L,_,h=>h.elim
 | .cut cs c L,_,h=>h.elim
 | .call rm cs c L g,_,h=>⟨h.1,fun A s rm I=>codeAny_mono (h.2 A s c (by split <;> rename_i e <;> simp only [e]) rm (I.post sel hs) fun i p e=>I.inv.at_ p (bp e)) fun r s' u z=>by
  obtain ⟨L',G,H⟩:=u z
  exact⟨L',G.fits,H⟩⟩
 | .fail _ _,_,h=>h
 | .failW _,_,h=>h
theorem KZ {V:Vs} {X:Cx} {sel:List Nat} {o n:az} (hs:bO sel=true) (h:o.norm sel=n) (k:dU V X n o):bU V X o:=dU.of hs (by rw [h]; exact k)
theorem GZ {V:Vs} {X:Cx} {f:Addr→az} {o:az} (h:∀a,dU V X (f a) (o.nm a)):dU V X (.more f) o:=h
theorem Br {V:Vs} {prog:Program} {w:World} {A₀:Around} {R₀:Result→Shared→Prop} {s₀:Shared} {K₀:List Addr} {rm:Nat} {ks:List Addr} {orc:List an} {c:Code} {L:List aw} {g:Result→List aw→Nat→az} {o:az}
  (h:∀A s d (G:Result→List aw→List aw→Shared→Prop),(∀{u L0 B s'},Lz V prog w A₀ R₀ o u L0 B s'→G u L0 B s')→ao d=c→au rm A→aD V s₀ K₀ s L→(∀i p,o.entc i=some p→s.heap.get? p.1=some p.2)→codeAny (model prog w) A d (mV V G) s)
  (I:Nat.blt rm 1000=true:=by rfl):dU V ⟨prog,w,A₀,R₀,s₀,K₀⟩ (.call rm (bc ks orc []) c L g) o:=by
 refine⟨bP ks orc [] fun _ h=>(by cases h),fun A s d D rm P ex=>?_⟩
 rw [I] at D
 refine codeAny_mono (h A s d _ (fun z=>z) D rm P ex) ?_
 intro r s' J ht
 obtain ⟨u,L0,B,e1,U,e3,e4,e5,e6,H⟩:=J
 obtain ⟨y,G,ek⟩:=pw U e3 e4 e5 e6
 obtain ⟨t,et⟩:=eS r
 refine⟨_,G,?_⟩
 have z:=H y t
 rw [et,e1,di,ek]
 exact z
theorem Ju {v:Value} {T:String} (h:ai v=.type T):v=.type T:=by cases v <;> simp [ai] at h <;> rw [h]
noncomputable def fW (l:List Value):Prop:=∀v∈l,∃m t,v=.int m t
theorem Bs {v v':Value} (h:ai v=ai v') {m:Int} {t:Tok} (e:v'=.int m t):∃u,v=.int m u:=by
 subst e
 exact aW h
theorem fW.er:∀{l z:List Value},fW l→ae z=ae l→fW z
 | [],[],_,_=>fun v u=>by cases u
 | [],_::_,_,e=>by cases e
 | _::_,[],_,e=>by cases e
 | x::l,y::z,h,e=>fun v u=>by
  have e:ai y::ae z=ai x::ae l:=e
  injection e with e1 J
  rcases List.mem_cons.mp u with rfl | u
  ·obtain ⟨m,t,U⟩:=h x (.head _)
   exact⟨m,Bs e1 U⟩
  ·exact fW.er (l:=l) (fun v u=>h v (.tail _ u)) J v u
section
variable {H:World} {prog:Program} {V:Vs} {K:List Addr} {s d:Shared} {I:Around} {D:Code} {F sc sl na:Addr} {B:Obj} {l:List Value} {en:Nat} {tk:Tok} {G:Result→List aw→List aw→Shared→Prop}
theorem K0 (hc:ao D=.call (.builtin "list.__getitem__") ⟨[.ref sc,.ref sl],[]⟩) (hne:F≠sc) (h0:s.heap.get? sc=some (ah l en)) (hs:d.heap.get? sc=some (ah l en)) (P:aD V s [F,sc] d [(F,B),(sc,aV (ae l)),(sl,fld (.type "slice") [.none,.int 36 tk,.none])]) (hi:fW l) (hl:l.length≤1000)
  (k:∀na l1 s2,fW l1→l1.length≤36→(l1=[]↔l=[])→aH V [F] s s2→s.heap.get? na=none→G (.ok (.ret (.ref na))) [(F,B)] [(na,ah l1 0)] s2):
  codeAny (model prog H) I D (mV V G) d:=by
 obtain ⟨pos,rfl,hp⟩:=av hc
 obtain ⟨v,u,rfl,h1,h2⟩:=eA hp
 cases bb h1
 cases bb h2
 obtain ⟨os,g3,U⟩:=P.get 2 rfl
 have U:=dA U
 subst U
 have z:(1000:Nat)≤sizeLine:=by decide
 obtain ⟨oF',J,f2⟩:=P.get 0 rfl
 have fr:d.heap.get? d.heap.objs.size=none:=da _
 have hF:F≠d.heap.objs.size:=fun z=>by
  have J:d.heap.get? F=some oF':=J
  rw [z,fr] at J; cases J
 refine oR (items:=⟨l⟩) (sl:=sl) (vl:=.none) (vu:=.int 36 tk) (vs:=.none) (lo:=none) (hi:=some ((36:Nat):Int)) (st:=none) ⟨_,hs,rfl,_,rfl⟩ ⟨_,g3,rfl,rfl⟩ .none (.int _ _) .none (by simp) ?_ (by show l.length≤_; omega)
 rw [slicePick_upto']
 refine⟨_,[(F,B)],[(d.heap.objs.size,ah (l.take 36) 0)],rfl,ak ⟨_,Heap.get?_push_of_some _ J,f2⟩,ak (Heap.get?_push_size _ rfl),P.top.push _,ag (P.hi' 0 rfl) (ak P.top.2),?_,k _ _ _ ?_ ?_ ?_ ?_ ?_⟩
 ·show([F,d.heap.objs.size]:List Addr).Nodup
  simp [hF]
 ·exact fun v hv=>hi v (List.mem_of_mem_take hv)
 ·exact List.length_take_le ..
 ·constructor
  ·intro e
   have:=congrArg List.length e
   simpa using this
  ·intro e
   subst e
   rfl
 ·have J:aH V [F] s d:=⟨fun x o e hx=>(by
   by_cases h:x=sc
   ·subst h; rw [h0] at e; exact hs.trans e
   ·exact P.frame x o e fun z=>by
     simp only [List.mem_cons,List.not_mem_nil,or_false] at z hx
     rcases z with z | z
     ·exact hx z
     ·exact h z),P.gens,P.os,P.grow,P.top⟩
  exact aH.push J _ _ d.toks rfl
 ·cases e:s.heap.get? d.heap.objs.size with
  | none=>rfl
  | some o=>exact absurd (Heap.lt_size e) (Nat.not_lt.mpr P.grow)
theorem K4 (hc:ao D=.call (.builtin "enumerate.__new__") ⟨[.type "enumerate",.ref na],[]⟩) (P:aD V s K d [(F,B),(na,aV (ae l))])
  (k:∀J li U n s2,ae U=ae l→IsEnum s2.heap J li 0 .none→s2.heap.IsListIter li na 0→s2.heap.get? na=some (ah U n)→aH V K s s2→d.heap.get? J=none→d.heap.get? li=none→J≠li→V.n₁≤li→G (.ok (.ret (.ref J))) [(F,B),(J,ko .none .none li 0)] [] s2):
  codeAny (model prog H) I D (mV V G) d:=by
 obtain ⟨pos,rfl,hp⟩:=av hc
 obtain ⟨v,u,rfl,h1,h2⟩:=eA hp
 cases Ju h1
 cases bb h2
 obtain ⟨o,g1,g2⟩:=P.get 1 rfl
 obtain ⟨U,en,rfl,el⟩:=bI g2
 obtain ⟨oF',f1,f2⟩:=P.get 0 rfl
 refine codeAny_call_builtin (by kernel_rfl) PySem.F.entry_enumerate_new ?_
 rw [PySem.F.newCall_enumerate_1]
 refine wpAny_pure (meets_enumerate_newL na ⟨U⟩ en none #[] prog H _ _ d ⟨g1,?_⟩)
 have z1:(d.heap.push {cls:=.type "list_iterator",data:=.fields #[.ref na,.int 0 0]}).objs.size=d.heap.objs.size + 1:=Heap.size_push ..
 have n1:d.heap.get? (d.heap.push {cls:=.type "list_iterator",data:=.fields #[.ref na,.int 0 0]}).objs.size=none:=Heap.get?_none_of_le (by rw [z1]; exact Nat.le_succ _)
 have hF:F≠(d.heap.push {cls:=.type "list_iterator",data:=.fields #[.ref na,.int 0 0]}).objs.size:=fun z=>by rw [←z] at n1; rw [show d.heap.get? F=some oF' from f1] at n1; cases n1
 have T:=P.top.push {cls:=.type "list_iterator",data:=.fields #[.ref na,.int 0 0]}
 have e0:∀{x o},d.heap.get? x=some o→((d.heap.push {cls:=.type "list_iterator",data:=.fields #[.ref na,.int 0 0]}).push {cls:=.type "enumerate",data:=.fields #[.none,.bool false,.ref d.heap.objs.size,rawInt 0,.none,.none]}).get? x=some o:=fun e=>Heap.get?_push_of_some _ (Heap.get?_push_of_some _ e)
 have eE:=Heap.get?_push_size (d.heap.push {cls:=.type "list_iterator",data:=.fields #[.ref na,.int 0 0]}) (o:={cls:=.type "enumerate",data:=.fields #[.none,.bool false,.ref d.heap.objs.size,rawInt 0,.none,.none]}) rfl
 refine⟨_,[(F,B),((d.heap.push {cls:=.type "list_iterator",data:=.fields #[.ref na,.int 0 0]}).objs.size,ko .none .none d.heap.objs.size 0)],[],rfl,ag ⟨_,e0 f1,f2⟩ (ak ⟨_,eE,rfl⟩),(fun p hp=>by cases hp),T.push _,ag (P.hi' 0 rfl) (ak T.2),?_,k _ d.heap.objs.size U en _ el eE ⟨_,Heap.get?_push_of_some _ (Heap.get?_push_size _ rfl),rfl,rfl⟩ (e0 g1) ?_ n1 (da _) ?_ P.top.2⟩
 ·exact List.nodup_cons.mpr ⟨fun z=>hF (List.mem_singleton.mp z),List.nodup_cons.mpr ⟨fun z=>(by cases z),List.nodup_nil⟩⟩
 ·exact aH.push (s₁:={d with heap:=d.heap.push _}) (P.far.push _ _ d.toks rfl) _ _ d.toks rfl
 ·rw [z1]; exact Nat.succ_ne_self _
end
theorem G4 {F L it acc:Addr} {c:Code} (h:ao c=kZ F L it acc):c=kZ F L it acc:=by
 cases c <;> first | exact h | cases h
section
variable {w:World} {b:Bool} {s D:Shared} {H:Around} {I:Code} {F d u B li na:Addr} {J:Obj} {l:List Value} {n:Nat} {G:Result→List aw→List aw→Shared→Prop}
theorem K5 (rm:au 40 H) (hc:ao I=kZ F u B d) (P:aD (vs w b 0) s [F,B] D [(F,J),(B,ko .none .none li 0),(d,aV []),(u,fI [])])
  (h1:s.heap.IsListIter li na 0) (h2:s.heap.get? na=some (ah l n)) (n1:li≠F) (n2:li≠B) (n3:na≠F) (n4:na≠B) (h7:790≤li) (hi:fW l) (hl:l.length≤36)
  (k:∀ys o l2 en2 s2,ae l2=aR ys→ys.length≤36→(∀y∈ys,y∈cH)→(l=[]→o=none)→(l≠[]→∃x,o=some x)→aH (vs w b 0) [F,B,li] s s2→s.heap.get? d=none→s.heap.get? u=none→G (.ok .next) [(F,J),(u,sD w b o)] [(d,ah l2 en2)] s2):
  codeAny (model pg (wb w b)) H I (mV (vs w b 0) G) D:=by
 delta zz w b s D H I F d u B li na J l n G
 have ec:=G4 hc
 subst ec
 have nd:([F,B,d,u]:List Addr).Nodup:=P.nd
 simp only [List.nodup_cons,List.mem_cons,List.not_mem_nil,or_false,not_or,not_false_eq_true,List.nodup_nil,and_true] at nd
 obtain ⟨⟨m1,m2,m3⟩,⟨m4,m5⟩,m6⟩:=nd
 obtain ⟨oi,i1,i2,i3⟩:=h1
 have fK:∀x∈([d,u]:List Addr),s.heap.get? x=none:=fun x U=>(P.own' x (by have U:=c9 U; rcases U with rfl | rfl <;> simp [keys])).resolve_left fun z=>by
  simp only [List.mem_cons,List.not_mem_nil,or_false] at U z
  rcases U with rfl | rfl <;> rcases z with z | z
  ·exact m2 z.symm
  ·exact m4 z.symm
  ·exact m3 z.symm
  ·exact m5 z.symm
 have gi:D.heap.get? li=some oi:=P.frame li _ i1 (by simp [n1,n2])
 have gn:D.heap.get? na=some (ah l n):=P.frame na _ h2 (by simp [n3,n4])
 obtain ⟨oe,e1,e2⟩:=P.get 1 rfl
 have e2:=dA e2
 subst e2
 obtain ⟨oa,a1,a2⟩:=P.get 2 rfl
 obtain ⟨n0,rfl⟩:=gO a2
 have ne:∀{x y:Addr} {o:Obj},s.heap.get? x=some o→s.heap.get? y=none→x≠y:=fun h h' z=>by rw [z,h'] at h; cases h
 have lin:li≠na:=fun z=>by
  rw [z,h2] at i1
  injection i1 with i1
  rw [←i1] at i2
  have i2:(Value.type "list")=.type "list_iterator":=i2
  injection i2 with z
  exact absurd z (by decide)
 refine gm (g:=⟨GS,(g0 fw).iter,[],0⟩) mE (fun hQ=>wpAny_pyIter_enum e1 hQ) (codeAny_mono (Bq (w:=w) (b:=b) (F:=F) (L:=u) (it:=B) (acc:=d) (li:=li) (na:=na) (items:=l) rm ?_ ?_ hi hl P.far.room.top e1 ⟨oi,gi,i2,i3⟩ ⟨_,gn,rfl,_,rfl⟩ (ak (P.get 3 rfl)) a1) ?_)
 ·simp only [List.nodup_cons,List.mem_cons,List.not_mem_nil,or_false,not_or,not_false_eq_true,List.nodup_nil,and_true]
  exact⟨⟨m5,m4,fun z=>n2 z.symm,fun z=>n4 z.symm⟩,⟨fun z=>m6 z.symm,fun z=>ne i1 (fK u (by simp)) z.symm,fun z=>ne h2 (fK u (by simp)) z.symm⟩,⟨fun z=>ne i1 (fK d (by simp)) z.symm,fun z=>ne h2 (fK d (by simp)) z.symm⟩,lin⟩
 ·exact ag (P.hi' 1 rfl) (ag (P.hi' 3 rfl) (ag (P.hi' 2 rfl) (ak h7)))
 rintro r s2 ⟨rfl,f2,ys,o,⟨l2,en2,q1,q2⟩,y1,y2,a4,o1,o2⟩
 obtain ⟨oF',g1,g2⟩:=P.get 0 rfl
 have f2:aH (vs w b 0) [B,u,d,li] D s2:=f2.room
 refine⟨.ok .next,[(F,J),(u,sD w b o)],[(d,ah l2 en2)],rfl,ag ⟨oF',f2.frame F _ g1 (by simp [m1,m2,m3,n1.symm]),g2⟩ a4,ak q1,f2.top,ag (P.hi' 0 rfl) (ag (P.hi' 3 rfl) (ak (P.hi' 2 rfl))),?_,k ys o l2 en2 s2 q2 (by omega) y2 (fun z=>o1 (by rw [z]; rfl)) (fun z=>o2 fun z'=>z (List.length_eq_zero_iff.mp z')) ?_ (fK d (by simp)) (fK u (by simp))⟩
 ·show([F,u,d]:List Addr).Nodup
  refine x9 ?_
  exact⟨⟨m3,m2⟩,fun z=>m6 z.symm⟩
 ·have P1:aH (vs w b 0) [F,B,li] s D:=⟨fun x o e U=>P.frame x o e fun z=>U (by simp only [List.mem_cons,List.not_mem_nil,or_false] at z ⊢; rcases z with z | z <;> simp [z]),P.gens,P.os,P.grow,P.top⟩
  refine P1.trans f2 fun x U=>?_
  have U:=x8 U
  rcases U with h | h | h | h <;> subst x
  ·exact .inl (by simp)
  ·exact .inr (fK _ (by simp))
  ·exact .inr (fK _ (by simp))
  ·exact .inl (by simp)
end
theorem mG {ys:List Str} (h:∀y∈ys,y∈cH):(cZ ys).length≤4 * ys.length:=by
 induction ys with
 | nil=>exact Nat.le_refl _
 | cons y ys z=>
  have U:∀y∈cH,y.cps.toList.length≤4:=by decide
  have h2:=U y (h y (.head _))
  have h3:=z fun y hy=>h y (.tail _ hy)
  show(y.cps.toList++cZ ys).length≤4 * (ys.length + 1)
  rw [List.length_append]
  omega
theorem xD {ys:List Str} (h:∀y∈ys,y∈cH):∀c∈cZ ys,c∈ib:=by
 intro c U
 obtain ⟨y,hy,z⟩:=List.mem_flatMap.mp U
 have h1:∀y∈cH,∀c∈y.cps.toList,c∈ib:=by decide
 exact h1 y (h y hy) c z
section
variable {w:World} {b:Bool} {A:Around} {s:Shared} {F sc:Addr} {l:List Value} {en:Nat} {Q:Flow→Shared→Prop} {E:Value→Shared→Prop}
theorem Bt (U b:Bool) (w:World) (F sc:Addr) (l:List Value) (z:Nat) (y:Nat→Nat→Tok) (tb:Nat) (b1:Addr):
  ((aN (vs w b 0) 4000 .out (aO [ad aG 0] (bz F)) (xw U) (fillAll y 0 [(F,bq [!["script",.ref sc]])]++[(sc,ah l z)]) tb 0 []).nm b1).entc 1=some (sc,ah l z):=by cases U <;> cases b <;> kernel_rfl
theorem K6 (rm:au 0 A) (tp:aC (vs w b 0) s.heap) (hF:aJ s.heap [(F,bq [!["script",.ref sc]])]) (h7:790≤F) (hs7:790≤sc) (hne:F≠sc) (hsc:s.heap.get? sc=some (ah l en)) (hi:fW l) (hl:l.length≤1000)
  (h:∀ys s',aH (vs w b 0) [F] s s'→(∀y∈ys,y∈cH)→ys.length≤36→aJ s'.heap [(F,bq [!["script",.ref sc],!["text",.str ⟨⟨cZ ys⟩⟩ 0]])]→Q .next s'):wpAny (model pg (wb w b)) A (execs [ad aG 0] (bz F)) Q E s:=by
 delta zz w b A s F sc l en Q E
 refine wpAny_mono (aP (R:=fun r' s'=>r'=.ok .next∧∃ys,aH (vs w b 0) [F] s s'∧(∀y∈ys,y∈cH)∧ys.length≤36∧aJ s'.heap [(F,bq [!["script",.ref sc],!["text",.str ⟨⟨cZ ys⟩⟩ 0]])]) ?_) (fun f s' z=>by obtain ⟨e,ys,z1,z2,z3,z4⟩:=z; injection e with e; rw [e]; exact h ys s' z1 z2 z3 z4) (fun e s' z=>(by cases z.1))
 refine cC (V:=vs w b 0) (X:=[(sc,ah l en)]) rfl rfl rm tp hF (ak hsc) (ag h7 (ak hs7)) (by show([F,sc]:List Addr).Nodup; simp [hne]) fun y=>⟨4000,xw (!l.isEmpty),?_⟩
 refine KZ rfl (AW w F sc l en y _ (!l.isEmpty) b) (GZ fun b1=>Br fun H D I G gk hc1 rm1 P1 ex=>?_)
 refine K0 hc1 hne hsc (ex 1 _ (Bt (!l.isEmpty) b w F sc l en y _ b1)) P1 hi hl fun na l1 s2 hi1 hl1 U f2 fna=>gk fun y0 t0=>?_
 have sF:∃o,s.heap.get? F=some o:=by obtain ⟨o,g,_⟩:=hF _ (.head _); exact⟨o,g⟩
 have nF:∀{x},s.heap.get? x=none→x≠F:=fun {x} fx z=>by
  obtain ⟨o,g⟩:=sF
  rw [z,g] at fx; cases fx
 refine cM rfl (AZ w F sc na l l1 en 0 y _ b1 t0 y0 _ (!l.isEmpty) b) (fun Ok sm mo cL=>cL rfl fun A2 s3 c2 G gk hc2 rm2 P2=>?_)
 refine K4 hc2 P2 fun B li l' n s4 el gE gi gn f4 fi fl nil h7l=>gk fun y1 t1=>?_
 have f3:aH (vs w b 0) [F] s s3:=f2.trans P2.far (ag (.inl (.head _)) (ak (.inr fna)))
 have f4:aH (vs w b 0) [F] s s4:=f2.trans f4 (ag (.inl (.head _)) (ak (.inr fna)))
 have old3:∀x,s3.heap.get? x=none→s.heap.get? x=none:=fun x hn=>by
  cases e:s.heap.get? x with
  | none=>rfl
  | some o=>
   by_cases U:x=F
   ·subst U
    obtain ⟨o',g,_⟩:=P2.get 0 rfl
    rw [show s3.heap.get? x=some o' from g] at hn; cases hn
   ·rw [f3.frame x o e (by simpa using U)] at hn; cases hn
 have fi:=old3 _ fi
 have fl:=old3 _ fl
 obtain ⟨on,gna3,_⟩:=P2.get 1 rfl
 have naia:na≠B:=fun z=>by
  rw [z] at gn
  have i2:=congrArg Obj.cls (Option.some.inj (gn.symm.trans gE))
  have i2:(Value.type "list")=.type "enumerate":=i2
  injection i2 with z
  exact absurd z (by decide)
 refine cM rfl (A6 w F sc B na li l l1 en 0 y _ b1 t0 y0 _ t1 y1 _ (!l.isEmpty) b) (fun Ok sm mo cL=>mo fun d=>mo fun u=>cL rfl fun A3 s5 c3 G gk hc3 rm3 P5=>?_)
 have nd5:([F,B,d,u]:List Addr).Nodup:=P5.nd
 simp only [List.nodup_cons,List.mem_cons,List.not_mem_nil,or_false,not_or,not_false_eq_true,List.nodup_nil,and_true] at nd5
 have ln:l'.length=l1.length:=gj el
 refine K5 rm3 hc3 P5 gi gn (nF fl) nil.symm (nF fna) naia h7l (hi1.er el) (by omega) fun ys o l2 en2 s6 q2 yl yp oN oS f6 fk1 fk2=>gk fun y2 t2=>?_
 have nil':l'=[]↔l=[]:=by
  rw [←U]
  constructor
  ·intro z; subst z; exact List.length_eq_zero_iff.mp ln.symm
  ·intro z; subst z; exact List.length_eq_zero_iff.mp ln
 obtain ⟨xx,rfl⟩:=vq (fun z=>oN (nil'.mpr z)) (fun z=>oS fun q=>z (nil'.mp q))
 refine dk rfl (A9 w F sc B na li l l1 l2 en 0 en2 y _ b1 t0 y0 _ t1 y1 _ d u t2 y2 _ xx (!l.isEmpty) b) (fun Ok sm mo cL=>cL rfl fun A4 s7 c4 G gk KW rm4 P7=>?_)
 rw [q2] at P7
 have fll:=mG yp
 refine wt (L0:=[(F,bq [!["script",.ref sc]])]) rm4 KW P7 (by omega) fun r5 s8 er5 f8=>?_
 have f06:aH (vs w b 0) [F] s s6:=f4.trans f6 (ag (.inl (.head _)) (ag (.inr fi) (ak (.inr fl))))
 have f08:aH (vs w b 0) [F] s s8:=by
  refine(f06.trans P7.far fun x U=>?_).trans f8 fun x U=>(by cases U)
  have U:x∈[F,u,d]:=U
  have U:=iG U
  rcases U with h | h | h <;> subst x
  ·exact .inl (.head _)
  ·exact .inr ((f4.old fk2).resolve_left fun z=>nd5.1.2.2 (List.mem_singleton.mp z).symm)
  ·exact .inr ((f4.old fk1).resolve_left fun z=>nd5.1.2.1 (List.mem_singleton.mp z).symm)
 refine⟨.ok (.ret (.str ⟨⟨cZ ys⟩⟩ 0)),[(F,bq [!["script",.ref sc]])],⟨by rw [er5]; rfl,ak ?_,f8.top,ak h7,by simp [keys]⟩,gk fun y3 t3=>?_⟩
 ·obtain ⟨o,z1,z2⟩:=P7.get 0 rfl
  exact⟨o,f8.frame _ _ z1 (by simp),z2⟩
 refine bB rfl (Bc w F sc B na li ⟨⟨cZ ys⟩⟩ l l1 l2 en 0 en2 y _ b1 t0 y0 _ t1 y1 _ d u t2 y2 _ t3 y3 _ xx (!l.isEmpty) b) (fun Ok sm mo dn=>dn fun r9 s9 er9 P9=>?_)
 exact⟨bm er9,ys,f08.trans P9.far fun x U=>.inl U,yp,yl,ak (P9.get 0 rfl)⟩
end
section
open PySem PySem.StrLaws Builtin.Str
noncomputable def xF (Y X:List Nat) (k:Nat):Prop:=∀j,j < Y.length→X[k + j]?=Y[j]?
theorem G5 {x y:Str} {k:Nat} (h:At x y x.length k):k≤x.cps.toList.length∧x.cps.toList.drop k=y.cps.toList++x.cps.toList.drop (k + y.length):=by
 unfold At at h
 rw [subAt_eq,beq_iff_eq] at h
 obtain ⟨l,e⟩:=h
 exact⟨Nat.le_trans (Nat.le_add_right ..) l,by rw [←List.drop_drop,←e,List.take_append_drop]⟩
theorem G6 {x y:Str} {k:Nat} (d:1≤y.length) (h:xF y.cps.toList x.cps.toList k):At x y x.length k:=by
 unfold At
 rw [subAt_eq,beq_iff_eq]
 have d:1≤y.cps.toList.length:=d
 have l:k + y.cps.toList.length≤x.cps.toList.length:=by
  have z:=h (y.cps.toList.length - 1) (Nat.sub_lt d Nat.one_pos)
  rw [List.getElem?_eq_getElem (Nat.sub_lt d Nat.one_pos)] at z
  have z:=(List.getElem?_eq_some_iff.mp z).1
  rw [←Nat.sub_add_cancel d]
  exact z
 refine⟨l,List.ext_getElem? fun j=>?_⟩
 rw [List.getElem?_take]
 split
 ·rename_i u; rw [List.getElem?_drop]; exact h j u
 ·rename_i u; rw [List.getElem?_eq_none (Nat.le_of_not_lt u)]
theorem qh {Y u v:List Nat} {k:Nat} (h:xF Y (u++v) (u.length + k)):xF Y v k:=fun j d=>by
 rw [←h j d,Nat.add_assoc,List.getElem?_append_right (Nat.le_add_right ..),Nat.add_sub_cancel_left]
noncomputable def k5 (X R:List Nat):Prop:=R.length=X.length∧∀i:Nat,R[i]?=X[i]?∨(X[i]?=some 0∧R[i]?=some 49)
noncomputable def Bu (X Z:List Nat) (w:Nat):Nat→List Nat→List Nat
 | a,[]=>X.drop a
 | a,c::r=>(X.drop a).take (c - a)++(Z++Bu X Z w (c + w) r)
theorem xH (x z:Str) (w:Nat):∀(d:List Nat) (a:Nat),(Str.join z (partsFrom x w a d)).cps.toList=Bu x.cps.toList z.cps.toList w a d
 | [],a=>by
  show(strSub x a x.length).cps.toList=_
  rw [strSub_toList]
  show _=x.cps.toList.drop a
  rw [List.take_of_length_le]
  rw [List.length_drop]
  show _≤x.cps.size - a
  simp
 | c::r,a=>by
  obtain ⟨q,r',e⟩:=partsFrom_ne x w (c + w) r
  have u:=xH x z w r (c + w)
  show(Str.join z (strSub x a c::partsFrom x w (c + w) r)).cps.toList=_
  rw [e] at u ⊢
  show(strSub x a c++z++Str.join z (q::r')).cps.toList=(x.cps.toList.drop a).take (c - a)++(z.cps.toList++Bu x.cps.toList z.cps.toList w (c + w) r)
  rw [←u]
  simp only [Str.cps_append,Array.toList_append,strSub_toList,List.append_assoc]
theorem k5.app {X R X' d:List Nat} (h:k5 X R) (u:k5 X' d):k5 (X++X') (R++d):=by
 refine⟨by rw [List.length_append,List.length_append,h.1,u.1],fun i=>?_⟩
 rcases Nat.lt_or_ge i X.length with l | l
 ·rw [List.getElem?_append_left l,List.getElem?_append_left (h.1▸l)]; exact h.2 i
 ·rw [List.getElem?_append_right l,List.getElem?_append_right (h.1▸l),h.1]; exact u.2 _
theorem k5.rfl {X:List Nat}:k5 X X:=⟨_root_.rfl,fun _=>.inl _root_.rfl⟩
theorem K7:k5 [0] [49]:=⟨rfl,fun i=>match i with
 | 0=>.inr ⟨rfl,rfl⟩
 | _ + 1=>.inl rfl⟩
theorem G7 {x y:Str} {p Z:List Nat} (G:y.cps.toList=p++[0]) (H:Z=p++[49]) (hp:p[0]?=some 60) (hq:∀j:Nat,0 < j→p[j]?≠some 60) (h49:49∉p):
  ∀(d:List Nat) (a f:Nat),ChainG x y x.length a d f→(∀k,f≤k→¬At x y x.length k)→
   k5 (x.cps.toList.drop a) (Bu x.cps.toList Z y.length a d)∧∀k,¬xF y.cps.toList (Bu x.cps.toList Z y.length a d) k:=by
 have lY:y.cps.toList.length=p.length + 1:=by rw [G,List.length_append]; rfl
 have h1:1≤y.length:=Nat.le_trans (Nat.succ_pos _) (Nat.le_of_eq lY.symm)
 have p0:0 < p.length:=(List.getElem?_eq_some_iff.mp hp).1
 have z0:(p++[0])[0]?=some 60:=by rw [List.getElem?_append_left p0]; exact hp
 have I:∀j:Nat,(p++[0])[j]?≠some 49:=fun j h=>(List.mem_append.mp (List.mem_of_getElem? h)).elim h49 fun z=>(by cases List.mem_singleton.mp z)
 have B:∀{a:Nat} {R:List Nat},k5 (x.cps.toList.drop a) R→∀k,xF y.cps.toList R k→At x y x.length (a + k):=fun {a R} ch k h=>G6 h1 fun j D=>by
  rcases ch.2 (k + j) with e | ⟨_,e⟩
  ·rw [←h j D,e,List.getElem?_drop,Nat.add_assoc]
  ·rw [h j D,G] at e
   exact absurd e (I j)
 have hYZ:k5 y.cps.toList Z:=by rw [G,H]; exact k5.rfl.app K7
 intro d
 induction d with
 | nil=>
  intro a f hc hf
  have e:f=a:=hc
  have ch:k5 (x.cps.toList.drop a) (Bu x.cps.toList Z y.length a []):=.rfl
  exact⟨ch,fun k h=>hf (a + k) (e▸Nat.le_add_right ..) (B ch k h)⟩
 | cons c r ih=>
  intro a f ⟨ac,hA,gap,hr⟩ hf
  obtain ⟨HG,J⟩:=ih (c + y.length) f hr hf
  obtain ⟨hc,HJ⟩:=G5 hA
  have ea:x.cps.toList.drop a=(x.cps.toList.drop a).take (c - a)++(y.cps.toList++x.cps.toList.drop (c + y.length)):=by
   rw [←HJ]
   exact(List.take_append_drop (c - a) _).symm.trans (by rw [List.drop_drop,Nat.add_sub_cancel' ac])
  have lu:((x.cps.toList.drop a).take (c - a)).length=c - a:=by rw [List.length_take,List.length_drop,Nat.min_eq_left (Nat.sub_le_sub_right hc a)]
  show k5 _ ((x.cps.toList.drop a).take (c - a)++(Z++Bu x.cps.toList Z y.length (c + y.length) r))∧∀k,¬xF _ ((x.cps.toList.drop a).take (c - a)++(Z++Bu x.cps.toList Z y.length (c + y.length) r)) k
  generalize Bu x.cps.toList Z y.length (c + y.length) r=R at HG J
  generalize (x.cps.toList.drop a).take (c - a)=u at ea lu
  have ch:k5 (x.cps.toList.drop a) (u++(Z++R)):=ea▸k5.rfl.app (hYZ.app HG)
  refine⟨ch,fun k h=>?_⟩
  rcases Nat.lt_or_ge (a + k) c with hk | hk
  ·exact gap (a + k) (Nat.le_add_right ..) hk (B ch k h)
  obtain ⟨j,e⟩:=Nat.exists_eq_add_of_le (show u.length≤k from lu▸Nat.sub_le_iff_le_add'.mpr hk)
  have h:=qh (e▸h)
  rcases Nat.lt_or_ge j Z.length with D | D
  ·have z:=h 0 (lY▸Nat.succ_pos _)
   rw [Nat.add_zero,List.getElem?_append_left D,H,G,z0] at z
   rcases Nat.lt_or_ge j p.length with hl | hl
   ·rw [List.getElem?_append_left hl] at z
    have z2:=h p.length (lY▸Nat.lt_succ_self _)
    rw [Nat.eq_zero_of_not_pos fun U=>hq j U z,Nat.zero_add,List.getElem?_append_left (by rw [H,List.length_append]; exact Nat.lt_succ_self _),H,G,List.getElem?_concat_length,List.getElem?_concat_length] at z2
    cases z2
   ·rw [show j=p.length from Nat.le_antisymm (Nat.le_of_lt_succ (by rw [H,List.length_append] at D; exact D)) hl,List.getElem?_concat_length] at z
    cases z
  ·obtain ⟨i,e⟩:=Nat.exists_eq_add_of_le D
   exact J i (qh (e▸h))
theorem jA {X p:List Nat} (hp:p[0]?=some 60) (u:∀j:Nat,0 < j→p[j]?≠some 60) (d:49∉p):
  ∃R,Txt.replace ⟨⟨X⟩⟩ ⟨⟨p++[0]⟩⟩ ⟨⟨p++[49]⟩⟩=⟨⟨R⟩⟩∧k5 X R∧∀k,¬xF (p++[0]) R k:=by
 delta zz X p
 have z:1≤(⟨⟨p++[0]⟩⟩:Str).length:=by show 1≤(p++[0]).length; simp
 obtain ⟨f,B,D⟩:=occ_tight ⟨⟨X⟩⟩ ⟨⟨p++[0]⟩⟩ z
 have k:=G7 (x:=⟨⟨X⟩⟩) (y:=⟨⟨p++[0]⟩⟩) (p:=p) (Z:=p++[49]) rfl rfl hp u d _ 0 f B D
 refine⟨_,?_,k⟩
 unfold Txt.replace
 cases G:occurrences ⟨⟨X⟩⟩ ⟨⟨p++[0]⟩⟩ 0 (⟨⟨X⟩⟩:Str).length ((⟨⟨X⟩⟩:Str).length + 1) with
 | nil=>rfl
 | cons c r=>
  rw [if_neg (by
   have:((⟨⟨p++[0]⟩⟩:Str).length == 0)=false:=beq_false_of_ne (by omega)
   simp [this])]
  rw [glued_eq_join,partsBetween_eq]
  have e:=xH ⟨⟨X⟩⟩ ⟨⟨p++[49]⟩⟩ (⟨⟨p++[0]⟩⟩:Str).length (c::r) 0
  apply Str.ext'
  apply Array.toList_inj.mp
  exact e
end
section
open PySem PySem.StrLaws Builtin.Str
theorem k5.mem {X R:List Nat} (h:k5 X R) {c:Nat} (d:c∈R):c∈X∨c=49:=by
 obtain ⟨i,hi⟩:=List.getElem?_of_mem d
 rcases h.2 i with e | ⟨_,e⟩
 ·exact .inl (List.mem_of_getElem? (e.symm.trans hi))
 ·rw [hi] at e; injection e with e; exact .inr e
theorem xI {Y x v T:List Nat} (e:T=x++(Y++v)):xF Y T x.length:=fun j d=>by
 rw [e,List.getElem?_append_right (by omega),Nat.add_sub_cancel_left,List.getElem?_append_left d]
theorem Bv {Y X R:List Nat} (ch:k5 X R) (d:49∉Y) {k:Nat} (h:xF Y R k):xF Y X k:=fun j u=>by
 rcases ch.2 (k + j) with e | ⟨_,e⟩
 ·rw [←e]; exact h j u
 ·exact absurd (List.mem_of_getElem? ((h j u).symm.trans e)) d
noncomputable def P1:List Nat:=[60,33,45,45]
noncomputable def P2:List Nat:=[60,33,45,45,45]
theorem Jv {p:List Nat} (h:∀j:Nat,j < p.length→0 < j→p[j]?≠some 60):∀j:Nat,0 < j→p[j]?≠some 60:=fun j d e=>h j ((List.getElem?_eq_some_iff.mp e).1) d e
theorem Bw (X:List Nat) (ha:∀c∈X,c∈ib):∃U T,Txt.replace ⟨⟨X⟩⟩ ⟨⟨P1++[0]⟩⟩ ⟨⟨P1++[49]⟩⟩=⟨⟨U⟩⟩∧Txt.replace ⟨⟨U⟩⟩ ⟨⟨P2++[0]⟩⟩ ⟨⟨P2++[49]⟩⟩=⟨⟨T⟩⟩∧U.length=X.length∧T.length=X.length∧iM T∧∀c∈T,c∈ib:=by
 delta zz X
 obtain ⟨U,e1,u,n1⟩:=jA (X:=X) (p:=P1) rfl (Jv (by decide)) (by decide)
 obtain ⟨T,H,B,I⟩:=jA (X:=U) (p:=P2) rfl (Jv (by decide)) (by decide)
 have J:∀k,¬xF (P1++[0]) T k:=fun k h=>n1 k (Bv B (by decide) h)
 refine⟨U,T,e1,H,u.1,B.1.trans u.1,fun x z e=>⟨fun D G=>?_,fun D G=>?_⟩,fun c hc=>?_⟩
 ·subst G
  exact J x.length (xI (Y:=P1++[0]) (v:=D) e)
 ·subst G
  exact I x.length (xI (Y:=P2++[0]) (v:=D) e)
 ·have d:49∈ib:=by decide
  rcases B.mem hc with h | rfl
  ·rcases u.mem h with h | rfl
   ·exact ha c h
   ·exact d
  ·exact d
end
section
variable {w:World} {b:Bool} {A:Around} {s:Shared} {F sc:Addr} {Q:Flow→Shared→Prop} {E:Value→Shared→Prop}
theorem K8 {X:List Nat} (rm:au 0 A) (tp:aC (vs w b 0) s.heap) (hF:aJ s.heap [(F,bq [!["script",.ref sc],!["text",.str ⟨⟨X⟩⟩ 0]])]) (h7:790≤F) (D:1≤s.toks) (ha:∀c∈X,c∈ib) (hl:X.length≤500)
  (h:∀T s',aH (vs w b 0) [F] s s'→iM T→(∀c∈T,c∈ib)→T.length=X.length→aJ s'.heap [(F,bq [!["script",.ref sc],!["text",.str ⟨⟨T⟩⟩ 0]])]→Q .next s'):wpAny (model pg (wb w b)) A (execs [ad aG 1] (bz F)) Q E s:=by
 delta zz w b A s F sc Q E X
 obtain ⟨U,T,e1,e2,l1,l2,nn,ab⟩:=Bw X ha
 refine wpAny_mono (aP (R:=fun r' s'=>r'=.ok .next∧aH (vs w b 0) [F] s s'∧aJ s'.heap [(F,bq [!["script",.ref sc],!["text",.str ⟨⟨T⟩⟩ 0]])]) ?_) (fun f s' z=>by obtain ⟨e,z1,z2⟩:=z; injection e with e; rw [e]; exact h T s' z1 nn ab l2 z2) (fun e s' z=>(by cases z.1))
 have d:∀l:List Nat,(⟨⟨l⟩⟩:Str).length=l.length:=fun l=>rfl
 have b1:(⟨⟨X⟩⟩:Str).length + ((⟨⟨X⟩⟩:Str).length + 1) * (⟨⟨P1++[49]⟩⟩:Str).length≤16777216:=by
  rw [d,d]
  show X.length + (X.length + 1) * 5≤_
  omega
 have b2:(⟨⟨U⟩⟩:Str).length + ((⟨⟨U⟩⟩:Str).length + 1) * (⟨⟨P2++[49]⟩⟩:Str).length≤16777216:=by
  rw [d,d]
  show U.length + (U.length + 1) * 6≤_
  omega
 have u:∀n k:Nat,1≤n→n + k≠0:=fun n k h=>by omega
 have J:∀n:Nat,n + 0≠n + 1:=fun n=>by omega
 have B:∀{s1 s':Shared} {o:Obj},fH s1 s'→aJ s1.heap [(F,o)]→aJ s'.heap [(F,o)]:=fun st at_=>by rw [st.1]; exact at_
 refine aM (V:=vs w b 0) rfl rfl rm tp hF (ak h7) (by simp [keys]) fun y=>⟨4000,Dg,?_⟩
 refine Cw rfl (Bf w F sc y _ ⟨⟨X⟩⟩ b) (fun Ok sm mo cL=>cL rfl fun A1 s1 G gk rm1 P1=>jm (u _ _ D) (u _ _ D) (J _) (by decide) b1 fun v1 s2 ev1 jH H=>?_)
 have f2:aH (vs w b 0) [F] s s2:=(P1.far.trans (jH.far (K:=[F]) P1.top) fun x I=>.inl I)
 refine⟨.ok (.ret (.str ⟨⟨U⟩⟩ 0)),_,⟨by rw [←e1]; exact congrArg (fun q=>Except.ok (Flow.ret q)) ev1,B jH P1.at_,f2.top,P1.hi,P1.nd⟩,gk fun y0 t0=>?_⟩
 have H:s.toks≤s2.toks:=H
 have h2:1≤s2.toks:=Nat.le_trans D H
 refine Cw rfl (Bi w F sc ⟨⟨U⟩⟩ y _ t0 y0 _ ⟨⟨X⟩⟩ b) (fun Ok sm mo cL=>cL rfl fun A2 s3 G gk rm2 P2=>jm (u _ _ h2) (u _ _ h2) (J _) (by decide) b2 fun v2 s4 ev2 st2 ht2=>?_)
 have f4:aH (vs w b 0) [F] s s4:=(f2.trans P2.far fun x I=>.inl I).trans (st2.far (K:=[F]) P2.top) fun x I=>.inl I
 refine⟨.ok (.ret (.str ⟨⟨T⟩⟩ 0)),_,⟨by rw [←e2]; exact congrArg (fun q=>Except.ok (Flow.ret q)) ev2,B st2 P2.at_,f4.top,P2.hi,P2.nd⟩,gk fun y1 t1=>?_⟩
 exact bB rfl (Bl w F sc ⟨⟨U⟩⟩ y _ t0 y0 _ t1 y1 _ ⟨⟨X⟩⟩ ⟨⟨T⟩⟩ b) (fun Ok sm mo dn=>dn fun r' s5 er P=>⟨bm er,f4.trans P.far fun x I=>.inl I,P.at_⟩)
end
theorem xJ:aG=[ad aG 0]++([ad aG 1]++[ad aG 2,ad aG 3,fV,ad aG 5,ad aG 6,ad aG 7,ad aG 8]):=by kernel_rfl
theorem xK {w:World} {b:Bool} {A:Around} {s:Shared} {F sc:Addr} {l:List Value} {en:Nat} (rm:au 0 A) (tp:aC (vs w b 0) s.heap) (hF:aJ s.heap [(F,bq [!["script",.ref sc]])]) (h7:790≤F) (G:790≤sc) (H:F≠sc) (I:s.heap.get? sc=some (ah l en)) (hi:fW l) (hl:l.length≤1000) (J:1≤s.toks) (hb:∀y∈s.gens,y.bare=true):
  wpAny (model pg (wb w b)) A (execs aG (bz F)) (fun f s'=>f=.ret (.bool true)∧(∀x o,s.heap.get? x=some o→x≠F→s'.heap.get? x=some o)∧(∀y∈s'.gens,y.bare=true)∧s'.os=s.os∧aC (vs w b 0) s'.heap) (fun _ _=>False) s:=by
 have key:∀ys s',1≤s'.toks→aH (vs w b 0) [F] s s'→(∀y∈ys,y∈cH)→ys.length≤36→aJ s'.heap [(F,bq [!["script",.ref sc],!["text",.str ⟨⟨cZ ys⟩⟩ 0]])]→
   wpAny (model pg (wb w b)) A (execs ([ad aG 1]++[ad aG 2,ad aG 3,fV,ad aG 5,ad aG 6,ad aG 7,ad aG 8]) (bz F)) (fun f s'=>f=.ret (.bool true)∧(∀x o,s.heap.get? x=some o→x≠F→s'.heap.get? x=some o)∧(∀y∈s'.gens,y.bare=true)∧s'.os=s.os∧aC (vs w b 0) s'.heap) (fun _ _=>False) s':=by
  intro ys s' tk d u B a1
  have fl:=mG u
  refine aQ _ [ad aG 1] (K8 rm d.top a1 h7 tk (xD u) (by omega) fun T s2 D nn ab lt a2=>cp ?_)
  have U:∀y∈s2.gens,y.bare=true:=by rw [D.gens,d.gens]; exact hb
  refine wpAny_mono (xr rm D.top a2 h7 U nn ab (by omega)) ?_ fun _ _ h=>h
  rintro f s3 ⟨rfl,k3,b3,o3,t3⟩
  exact⟨rfl,fun x o e hx=>k3 x o (D.frame x o (d.frame x o e (by simpa using hx)) (by simpa using hx)) hx,b3,o3.trans (D.os.trans d.os),t3⟩
 rw [xJ]
 refine aQ _ [ad aG 0] ?_
 refine wpAny_mono (wpAny_toks_of J (Q:=fun f s'=>f=.next∧∃ys,aH (vs w b 0) [F] s s'∧(∀y∈ys,y∈cH)∧ys.length≤36∧aJ s'.heap [(F,bq [!["script",.ref sc],!["text",.str ⟨⟨cZ ys⟩⟩ 0]])]) (E:=fun _ _=>False) ?_) ?_ fun _ _ z=>z.2
 ·exact K6 rm tp hF h7 G H I hi hl fun ys s' f u B a=>⟨rfl,ys,f,u,B,a⟩
 rintro f s' ⟨tk,rfl,ys,d,u,B,a1⟩
 exact cp (key ys s' tk d u B a1)
noncomputable section
variable (w:World) (F sc:Addr) (y:Nat→Nat→Tok) (z:Nat→Tok) (tb:Nat) (b:Bool)
noncomputable def oX:List an:=oh [] 0x144
noncomputable def G8:az:=aN (vs w b 100) 4000 .out (gN F (Str.ofString "script") (.ref sc)) (oX) (fillAll y 0 [(F,bq [])]) tb 0 []
abbrev G9:Prop:=(G8 w F sc y tb b).norm [0]=.done (bc [F] (oX) []) (.ok .next) [(F,bq [!["script",.ref sc]])]
theorem Ha:G9 w F sc y tb b:=by delta za bh
end
noncomputable def sN (P:Params):FuncData:=F5 (lc P)
theorem Jw (P:Params):(lc P).data=.func (sN P):=by kernel_rfl
theorem Mp (P:Params):(sN P).scope.isCoroutine=false∧(sN P).scope.isGenerator=false∧(sN P).body=.stmts aG∧(sN P).scope=sS (bo 27 none)∧(sN P).globals=3∧(sN P).closure=[]∧(sN P).code=.ref 788∧(sN P).builtins=0∧((sN P).qualname++".<locals>.":Str)="law.<locals>."∧
  ((sS (bo 27 none)).names.all fun x=>!(x.2 == NameKind.cell))=true∧(sS (bo 27 none)).kind=.function∧(sS (bo 27 none)).names.lookup (Str.ofString "script")=some .local:=by
 refine⟨?_,?_,?_,?_,?_,?_,?_,?_,?_,?_,?_,?_⟩ <;> kernel_rfl
theorem Jx (P:Params):∃vs d,(oY P).data=.fields vs∧vs[1]?=some (.str (sN P).qualname d):=⟨_,_,rfl,rfl⟩
theorem bindL (P:Params) (v:Value):bindArgs (sN P) ⟨[v],[]⟩=.pure [(Str.ofString "script",v)]:=by
 rw [PySem.W.ZFast.ze9782568553167038054]
 kernel_rfl
theorem Hb {w:World} {b:Bool} {A:Around} {s:Shared} {sc:Addr} {l:List Value} {en:Nat} (rm:A.depth≤340∧A.units≤340∧A.handled=none) (tp:aC (vs w b 0) s.heap) (H:790≤sc) (u:s.heap.get? sc=some (ah l en)) (hi:fW l) (hl:l.length≤1000) (I:1≤s.toks) (hb:∀y∈s.gens,y.bare=true):
  codeAny (model pg (wb w b)) A (.call (.ref 789) ⟨[.ref sc],[]⟩) (fun r s'=>r=.ok (.ret (.bool true))∧(∀x o,s.heap.get? x=some o→s'.heap.get? x=some o)∧(∀y∈s'.gens,y.bare=true)∧s'.os=s.os) s:=by
 delta zz w b A s sc l en
 have J:A.depth < recursionLimit:=by have:=rm.1; show A.depth < 1000; omega
 have B:s.heap.get? 789=some (lc (pr w b)):=tp.1 789 _ (show 789 < 790 by decide) rfl
 have D:s.heap.get? 788=some (oY (pr w b)):=tp.1 788 _ (show 788 < 790 by decide) rfl
 obtain ⟨U,f2,f3,f4,f5,f6,f7,f8,f9,f10,f11,f12⟩:=Mp (pr w b)
 obtain ⟨vs0,tq,e1,e2⟩:=Jx (pr w b)
 refine codeAny_call_function J B (Jw _) U f2 f3 (by rw [f7]; exact⟨788,_,vs0,tq,rfl,D,e1,e2⟩) ?_
 rw [bindL,f4,f9,f5,f6,f7,f8]
 refine wpAny_pure ?_
 simp only [newFunctionEnv,Option.isSome_none,Bool.false_eq_true,if_false]
 refine wpAny_bind (wpAny_alloc ?_)
 rw [forIn_yield_id [] (fun x hx c=>by
   obtain ⟨name,kind⟩:=x
   have z:=List.all_eq_true.mp f10 _ hx
   have:(kind == NameKind.cell)=false:=by simpa using z
   simp only [this,Bool.false_eq_true,if_false])]
 refine wpAny_bind (wpAny_pure (wpAny_bind ?_))
 simp only [List.forIn_cons,List.forIn_nil]
 let env:Env:=⟨sS (bo 27 none),s.heap.objs.size,3,[],"law.<locals>.",some 789,.ref 788,some s.heap.objs.size,0⟩
 have hk1:env.kindOf (Str.ofString "script")=some .local:=f12
 have hp:(env.scope.kind == .class || (env.scope.kind == .module && env.locals != env.globals))=false:=by
  show((sS (bo 27 none)).kind == .class || ((sS (bo 27 none)).kind == .module && _))=false
  rw [f11]; rfl
 have G:(s.heap.push (bq [])).get? s.heap.objs.size=some (bq []):=Heap.get?_push_size _ rfl
 have rm':au 100 A.in1:=room_in (n:=0) ⟨by have:=rm.1; omega,by have:=rm.2.1; omega,rm.2.2⟩ (by decide)
 have h7:790≤s.heap.objs.size:=tp.2
 have ltn:sc≠s.heap.objs.size:=fun z=>by rw [z,cy] at u; cases u
 refine wpAny_bind (wpAny_bind ?_)
 show wpAny _ _ (storeName env _ _) _ _ _
 rw [storeName_local hk1 hp]
 refine wpAny_mono (wpAny_toks_of (n:=1) (E:=fun _ _=>False) (Q:=fun _ s1=>aH (vs w b 0) [s.heap.objs.size] {s with heap:=s.heap.push (bq [])} s1∧aJ s1.heap [(s.heap.objs.size,bq [!["script",.ref sc]])]) I
  (oG (s:={s with heap:=s.heap.push (bq [])}) (w:=w) (b:=b) (o0:=bq []) rm' (tp.push _) (ak ⟨_,G,rfl⟩) h7 (oX) (fun y tb=>Ha w s.heap.objs.size sc y tb b) fun s1 U a1=>⟨U.room,a1⟩)) ?_ fun _ _ z=>z.2.elim
 rintro _ s2 ⟨tk2,ff,a2⟩
 have f0:aH (vs w b 0) [] s {s with heap:=s.heap.push (bq [])}:=⟨fun x o e _=>Heap.get?_push_of_some _ e,rfl,rfl,by show _≤(s.heap.push (bq [])).objs.size; rw [Heap.size_push]; exact Nat.le_succ _,tp.push _⟩
 have d:aH (vs w b 0) [] s s2:=f0.trans ff fun x hx=>.inr (by cases List.mem_singleton.mp hx; exact cy)
 refine wpAny_pure (wpAny_pure (wpAny_pure ⟨iW d.top,codeAny_func ?_⟩))
 have rmB:au 0 (A.deeper (bz s.heap.objs.size)):=by
  have h1:=rm.1
  have h2:=rm.2.1
  refine⟨?_,?_,rm.2.2⟩
  ·show A.depth + 1≤_
   omega
  ·show A.units + 3≤_
   omega
 refine wpAny_mono (xK (w:=w) (b:=b) (F:=s.heap.objs.size) (sc:=sc) rmB d.top a2 h7 H ltn.symm (d.frame sc _ u (by simp)) hi hl tk2 (by rw [d.gens]; exact hb)) ?_ (fun _ _ h=>h.elim)
 rintro f s3 ⟨rfl,k3,b3,o3,t3⟩
 exact⟨rfl,fun x o e=>k3 x o (d.frame x o e (by simp)) (fun z=>by rw [z,cy] at e; cases e),b3,o3.trans d.os⟩
noncomputable def qv:Program:=view pg [27]
noncomputable def k8:List Str:=["_wall","__name__","EOF","spaceCharacters","asciiLetters","digits","hexDigits","asciiLower","entities","replacementCharacters","tokenTypes","tagTokenTypes","Text","_is_invalid","HTMLUnicodeInputStream","bisect_left","Trie","entitiesTrie","HTMLTokenizer","_law_PARTS","_law_comment","_law_bogus","_law_bracket"]
abbrev qi (w:World) (os:OsState):Prop:=(sV pg w 11 ((boot_heap w.params).nsMap mainGlobals "__annotations__") 9000 (sY w.params os) (topStub pg)).map (fun s=>
    (staticsOk (importedModules pg.main.body) (boot_heap w.params) s.abs.heap && namesBound pg s.abs.heap && gensDone s.abs && laidKept (boot_heap w.params) s.abs.heap,
     PySem.W.Fast.tw4187177175401517315 qv k8 (importedModules pg.main.body) (fun s=>recOk [] s) true s.abs,obsZ JJ s.abs))=some (true,openGood qv k8,valZ Kf 790 1490 w)
theorem Jy (w:World) (os:OsState):qi (w.withFollow "special-get-raises" true) os:=by kernel_rfl
theorem Jz (w:World) (os:OsState):qi (w.withFollow "special-get-raises" false) os:=by kernel_rfl
noncomputable def lw (p:Program):OpenLaw:={prog:=p,name:=(PySem.Str.ofString "law"),about:=[(PySem.Str.ofString "HTMLUnicodeInputStream"),(PySem.Str.ofString "char")],foot:=5,most:=some 63,bound:=none,writes:=false}
theorem JA {p:Program} {w:World} {s₀ s₁:Shared} {d:List WData} {u:List Value} {as:List Addr} (z:(lw p).row.toRowW.claim.pre d=true) (B:WData.layableAll d=true)
  (D:ReadsAllW (lw p).row.toRowW.records (classAt s₀.heap) s₁.heap u d as) (G:WellAll w.params s₁.heap u d) (H:∀a∈as,(a == sysModules)=false) (L:Laid (lw p).row.toRowW.records w s₀ s₁ d u as):
  ∃(ns:List Int) (a:Addr),u=[.ref a]∧(∃l,(∀v∈l,∃m t,v=Value.int m t)∧l.length≤1000∧s₁.heap.get? a=some {cls:=.type "list",data:=.seq ⟨l⟩ 0})∧a=s₀.heap.objs.size∧s₁.heap.objs.size=s₀.heap.objs.size + 1∧s₀.toks≤s₁.toks:=by
 wrow_args z B D G H
 rename_i ns _ _ _ _ _ _ _ a I _ hL ra w1 r0 J hr c1 c2
 have U:=script_at L
 exact⟨ns,a,rfl,⟨I,J.all,by rw [J.length]; omega,script_obj L hL⟩,U.1,U.2,script_toks L rfl⟩
theorem JB {p:Program} {s₀ s₁ s':Shared} {d:List WData} (hk:∀x o,s₁.heap.get? x=some o→s'.heap.get? x=some o) (u:s'.os=s₁.os) (hg:AllBare s'.gens):
  GoodWG (lw p).row.toRowW.claim (classAt s₀.heap) (ExcName.means s₀.heap) d s₁ (.ok (.ret (.bool true))) s':=by
 refine⟨.inl ⟨.bool true,.bool true,[],rfl,?_,?_,?_,?_⟩,?_,u,hg⟩
 ·exact fun _=>rfl
 ·constructor
 ·exact postW_of (by wrow_shape) (by wtm_val) (by w_fin)
 ·exact fun _=>⟨List.nodup_nil,fun _ h=>nomatch h⟩
 ·exact OldK.of_keep hk
theorem AllIn.keep {h d:Heap} (k:∀b o,h.get? b=some o→d.get? b=some o):∀{K:Frag},AllIn h K→AllIn d K
 | [],_=>trivial
 | _::_,H=>⟨k _ _ H.1,AllIn.keep k H.2⟩
theorem JC {q p:Program} {loose:List Str} {d:DefRec} {H:List (Str×Expr)} {K:Params→Frag} {as:List Addr} {N T:Nat} (e:∀P,as=(K P).map (·.1)) (hT:1≤T)
  (I:∀(w:World) (s:Shared) (B:Str→Option Value) (D sc:Addr) (l:List Value),s.heap.Ns mainGlobals B→B d.name=some (.ref D)→AllIn s.heap (K w.params)→N≤sc→N≤s.heap.objs.size→s.heap.get? sc=some {cls:=.type "list",data:=.seq ⟨l⟩ 0}→
   (∀v∈l,∃m t,v=Value.int m t)→l.length≤1000→1≤s.toks→s.gens=#[]→
   codeAny (model p w) callerA (.call (.ref D) ⟨[.ref sc],[]⟩) (fun r s'=>r=.ok (.ret (.bool true))∧(∀x o,s.heap.get? x=some o→s'.heap.get? x=some o)∧AllBare s'.gens∧s'.os=s.os) s):
  WalkX q loose (fun _ _=>True) (obsZ as) (valZ K N T) (lw p).row.toRowW d H fun f vs=>PySem.call f vs:=by
 intro w s₀ s₁ B mb G y D o pm cd doc dV kV ho hd hcd hD J hg args vals as' L u z U hwl hlo
 obtain ⟨hA,_,ZN,ZT⟩:=z_facts e y
 obtain ⟨ns,a,rfl,⟨l,hi,hl,hx⟩,ha,hs,ht⟩:=JA u z U hwl hlo L
 refine enter_call (codeAny_mono (I w s₁ B D a l G.T.g J (AllIn.keep L.keeps hA) (by rw [ha,ZN]; exact Nat.le_refl _) (by rw [hs,ZN]; exact Nat.le_succ _) hx hi hl (by rw [ZT] at ht; exact Nat.le_trans hT ht) hg) ?_)
 rintro r s' ⟨rfl,hk,hb,ho⟩
 exact JB hk ho hb
theorem Hc (P:Params):JJ=(Kf P).map (·.1):=by kernel_rfl
theorem K9 {w:World} {b:Bool} {s:Shared} (tp:aC (vs w b 0) s.heap):s.heap.get? 3=some (Hq (pr w b)):=tp.1 3 _ (show 3 < 790 by decide) rfl
theorem Hd {h:Heap} {t:KT} {K:Frag} (e:t=KT.of K) (A:AllIn h K) {a:Addr} {o:Obj} (g:t.get a=some o):h.get? a=some o:=by
 subst e; exact kt_at (holds_of A) g
theorem JD (w:World) (b:Bool):(vs w b 0).kt=KT.of (Kf (pr w b)):=by kernel_rfl
theorem La {w:World} {b:Bool} {h:Heap} (A:AllIn h (Kf (pr w b))) (n:790≤h.objs.size):aC (vs w b 0) h:=
 ⟨fun a o _ e=>Hd (JD w b) A e,n⟩
theorem xL (P:Params):∃d u,(Hq P).data=.dict d u∧nsFind d (Str.ofString "law")=some (.ref 789):=⟨_,_,rfl,by kernel_rfl⟩
theorem Bx {P:Params} {h:Heap} {z:Str→Option Value} (B:h.get? 3=some (Hq P)) (n:h.Ns mainGlobals z) {a:Addr} {x:Str} (D:x=Str.ofString "law") (e:z x=some (.ref a)):a=789:=by
 obtain ⟨o,U,ep,d,hd,_,G⟩:=n
 obtain ⟨H,I,u,q⟩:=xL P
 have d:h.get? 3=some o:=d
 have J:=Option.some.inj (B.symm.trans d)
 rw [←J,u] at hd
 injection hd with e1 e2
 subst D
 rw [←G,←e1,q] at e
 injection e with e
 injection e with e
 exact e.symm
theorem JE {w:World} {s:Shared} {u:Str→Option Value} {B sc:Addr} {l:List Value} {x:Str} (D:x=Str.ofString "law") (n:s.heap.Ns mainGlobals u) (e:u x=some (.ref B)) (A:AllIn s.heap (Kf w.params)) (G:790≤sc) (H:790≤s.heap.objs.size)
  (d:s.heap.get? sc=some {cls:=.type "list",data:=.seq ⟨l⟩ 0}) (hi:∀v∈l,∃m t,v=Value.int m t) (I:l.length≤1000) (J:1≤s.toks) (hg:s.gens=#[]):
  codeAny (model pg w) callerA (.call (.ref B) ⟨[.ref sc],[]⟩) (fun r s'=>r=.ok (.ret (.bool true))∧(∀x o,s.heap.get? x=some o→s'.heap.get? x=some o)∧AllBare s'.gens∧s'.os=s.os) s:=by
 obtain ⟨b,hb⟩:∃b,wb w b=w:=⟨w.params.followText "special-get-raises",World.withFollow_self w "special-get-raises"⟩
 have U:AllIn s.heap (Kf (pr w b)):=by rw [pr,hb]; exact A
 have tp:=La U H
 obtain rfl:=Bx (K9 tp) n D e
 have z:=Hb (w:=w) (b:=b) (A:=callerA) (s:=s) (sc:=sc) (l:=l) (en:=0) ⟨by decide,by decide,rfl⟩ tp G d hi I J (by rw [hg]; exact fun _ h=>by simp at h)
 rw [hb] at z
 exact z
section
noncomputable def xM:DefRec×List (Str×Expr):=(defOf qv (Str.ofString "law")).get (by kernel_rfl)
theorem Lb:defOf qv (Str.ofString "law")=some (xM.1,xM.2):=by kernel_rfl
theorem JF (s:Shared):fenceModules? pg s=some s:=by kernel_rfl
theorem Mq:opening pg=plainProg pg.main.scope.names:=by kernel_rfl
theorem hp:pg.theDef (Str.ofString "law")=some (xM.1.params,xM.1.body,xM.1.scope):=by kernel_rfl
theorem hk:kwWritten? xM.1.params.kwonlyargs xM.1.params.kw_defaults=some xM.2:=by kernel_rfl
theorem Mr:(chainsOk qv && opensWell pg && (frees (lw pg).row.toRowW && (lw pg).row.toRowW.within.isEmpty))=true:=by kernel_rfl
theorem JG:xM.1.name=Str.ofString "law":=by kernel_rfl
theorem JH (w:World) (os:OsState):qi w os:=byRow2 "special-get-raises" (P:=fun w=>qi w os) (fun w=>Jz w os) (fun w=>Jy w os) w
theorem He:WalkX qv k8 (fun _ _=>True) (obsZ JJ) (valZ Kf 790 1490) (lw pg).row.toRowW xM.1 xM.2 fun f vs=>PySem.call f vs:=
 JC Hc (by decide) fun w s G H sc l n e A u z d hi B D hg=>JE JG n e A u z d hi B D hg
theorem lo1:sreFenced pg.main=true:=by kernel_rfl
theorem Ms:((moduleNames pg.main.body).isEmpty || lookedIntoSs (moduleNames pg.main.body) pg.main.body)=true:=by kernel_rfl
theorem Mt:namesResolve pg=true:=by
 rw [PySem.W.Fast.te8377067652309620493]
 kernel_rfl
theorem Mu:pg.boundNames.all (fun n=>!worldNames.contains n)=true:=by kernel_rfl
theorem Mv:noRoadLSs {strict:=!(importedModules pg.main.body).all cThrough.contains,foot:=none,bare:=(["vars","dir","locals"]:List Str).filter (readsOut pg pg.main.body)} pg.main.body=true:=by
 rw [PySem.W.Fast.te8326940854005059898]
 kernel_rfl
theorem Mw:(namesMeet pg pg.main.body fun _ n=>attrL n)=true:=by
 rw [PySem.W.Fast.te17119622794617984870]
 kernel_rfl
theorem JI:looksOpen pg=true:=look_both (look_both (look_both (look_both (look_both lo1 Ms) Mt) Mu) Mv) Mw
theorem Mx:((lw pg).row.toRowW.solid)=true:=by kernel_rfl
theorem My:((lw pg).row.prog.boundNames.contains (lw pg).row.name)=true:=by kernel_rfl
theorem Mz:(!startupNames.contains (lw pg).row.name)=true:=by kernel_rfl
theorem MA:(decide ((lw pg).foot≤(behindTheImports (lw pg).prog).length))=true:=by kernel_rfl
theorem MB:((lw pg).footing.all footLine)=true:=by kernel_rfl
theorem MC:(noClassBlock (lw pg).prog (lw pg).footing)=true:=by kernel_rfl
theorem Lc:(noRoadLSs {strict:=true,foot:=some (lw pg).bound',writes:=(lw pg).writes,may:=(lw pg).may} (lw pg).footing)=true:=by kernel_rfl
theorem Ld:(defStands (lw pg).about (lw pg).above)=true:=by kernel_rfl
theorem Le:((lw pg).namesIt)=true:=by kernel_rfl
theorem Lf:((lw pg).bound'.all fun n=>!builtinNamed n || (lw pg).about == [n] || !(lw pg).reads n)=true:=by kernel_rfl
theorem Lg:((List.flatMap importedNames (lw pg).prog.main.body).all fun n=>!(lw pg).reads n || (drawsOf n (lw pg).prog.main.body).all fun d=>d.snd != Str.ofString "attrgetter" && d.snd != Str.ofString "methodcaller")=true:=by kernel_rfl
theorem Lh:(namesMeet (lw pg).prog (lw pg).footing fun sc n=>(![Str.ofString "type",Str.ofString "isinstance",Str.ofString "issubclass",Str.ofString "getattr",Str.ofString "hasattr"].contains n || List.lookup n sc.names == some NameKind.globalImplicit) && ((lw pg).may != some n || sc.kind == ScopeKind.module || List.lookup n sc.names == some NameKind.globalImplicit))=true:=by kernel_rfl
theorem Li:((lw pg).own.contains (lw pg).name)=true:=by kernel_rfl
theorem Lj:((lw pg).own.eraseDups.length == (lw pg).own.length)=true:=by kernel_rfl
theorem Lk:((lw pg).own.all fun n=>!builtinNamed n)=true:=by kernel_rfl
theorem Ll:(namesMeet (lw pg).prog (lw pg).above fun x n=>!(lw pg).own.contains n)=true:=by kernel_rfl
theorem Lm:(namesMeet (lw pg).prog (lw pg).footing fun sc n=>sc.kind == ScopeKind.module || List.lookup n sc.names != some NameKind.globalExplicit)=true:=by kernel_rfl
theorem part:(lw pg).row.partSaid=true:=by
 unfold OpenRow.partSaid
 refine look_both (look_both (look_both (look_both (look_both (look_both (look_both (look_both (look_both (look_both (look_both (look_both (look_both JI ?_) ?_) ?_) ?_) ?_) ?_) Mx) ?_) ?_) ?_) ?_) ?_) ?_
 all_goals rfl
theorem MD:(lw pg).wellSaid=true:=by
 unfold OpenLaw.wellSaid
 refine look_both (look_both (look_both (look_both (look_both (look_both (look_both (look_both (look_both (look_both (look_both (look_both (look_both (look_both (look_both (look_both (look_both (look_both (look_both (look_both part My) Mz) MA) MB) MC) ?_) ?_) Lc) Ld) Le) ?_) Lf) ?_) Lg) Lh) Li) Lj) Lk) Ll) Lm
 all_goals rfl
theorem Dh:PySem.Challenge.rw_te0043_03=lw pg:=by kernel_rfl
theorem Ln:(PySem.Challenge.rw_te0043_03).wellSaid=true:=by rw [Dh]; exact MD
theorem Lo:(chainsOk qv && opensWell pg && (frees (PySem.Challenge.rw_te0043_03).row.toRowW && (PySem.Challenge.rw_te0043_03).row.toRowW.within.isEmpty))=true:=by rw [Dh]; exact Mr
end
end Mine
open PySem PySem.W PySem.W.X PySem.Spec PySem.Calls PyProof.Rows Mine in
theorem PySem.Challenge.cw_te0043_03_holds : PySem.Challenge.rw_te0043_03.Holds := by
 refine holds_law Ln fun d=>?_
 refine holds_openX (q:=qv) (loose:=k8) (Xt:=fun s=>recOk [] s) (XP:=fun _ _=>True) (Yf:=obsZ JJ) (Ya:=valZ Kf 790 1490) (N:=9000) (xT (M:=9000) Mq (by decide) JF (by decide) JH) (fun _ _=>trivial) (fun _ _ _ _ _=>trivial) Lb hp hk (fun s e=>recFacts_of e) rfl d Lo ⟨rfl,rfl,rfl,rfl,rfl,by decide +kernel⟩ ?u He
 w_witness2
