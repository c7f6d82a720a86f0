import PyProof.Rows.All
import Wide.All
import OpenK.AllK
import Wide.FinOn
import Lean
import PySem.Challenge.RW_xb0026_01
set_option Elab.async false
set_option maxRecDepth 100000
set_option maxHeartbeats 8000000
namespace Mine
section
open PySem PySem.W PyProof.Rows
noncomputable def h0.tw14685398507169549952 : Nat := 0
noncomputable def h0.tw7022899734336471570 : Nat := 0
noncomputable def h0.tw15349995610973769477 : Nat := 0
noncomputable def h0.tw16357635967783969643 : Nat := 0
noncomputable def h0.tw873456699480998791 : Nat := 0
noncomputable def h0.tw16862655007687003672 : Nat := 0
noncomputable def h0.tw8543188398890930463 : Nat := 0
noncomputable def h0.tw8070400965015364124 : Nat := 0
noncomputable def h0.tw7130401479378193946 : Nat := 0
noncomputable def h0.tw10718386324747202067 : Nat := 0
noncomputable def h0.tw14664852816990258610 : Nat := 0
noncomputable def h0.tw10971312189327577366 : Nat := 0
set_option Elab.async true in
theorem h0 : True := by
  first
  | (refine with_decl_name% Mine.h0.hd (have h : (fun (_ : PySem.Challenge.rw_xb0026_01.Holds) => True) (by (set_option Elab.async false in (w_on; o_law; k_head; fail "x"))) := trivial; trivial))
  | trivial
#print axioms h0
open_top h0.hd for PySem.Challenge.rw_xb0026_01
end
open h0
section
theorem wk1 {a b : Nat} (h : a < b) : ¬ a = b := Nat.ne_of_lt h
theorem wk2 {a k l m : Nat} (h : a + l < m) (hk : k ≤ l) : a + k < m := Nat.lt_of_le_of_lt (Nat.add_le_add_left hk a) h
theorem wk3 {a k j l m : Nat} (h : a + l < m) (hk : k + j ≤ l) : a + k + j < m := by omega
theorem wk4 {a l m n : Nat} (h : a + l < m) (hk : m ≤ n) : a < n := by omega
theorem wk5 {a b c : Nat} (h : a < b ∧ b < c) : a < c := by omega
theorem wk6 {a l m : Nat} (h : a ≤ l) (hk : l ≤ m) : a ≤ m := Nat.le_trans h hk
theorem iw1 {a b c : Int} (h : b ≤ c) (h2 : a ≤ b) : a ≤ c := Int.le_trans h2 h
theorem iw2 {a b c : Int} (h : a ≤ b) (h2 : b ≤ c) : a ≤ c := Int.le_trans h h2
theorem iw3 {a b c : Int} (h : a ≤ b) (h2 : b < c) : a < c := Int.lt_of_le_of_lt h h2
theorem iw4 {a b c : Int} (h : a < b) (h2 : b ≤ c) : a < c := Int.lt_of_lt_of_le h h2
theorem iw5 {a b c : Nat} (h : a ≤ b) (h2 : b < c) : a < c := Nat.lt_of_le_of_lt h h2

end
section
theorem el_0_2  {P0 P1 : Prop} {G : Prop} (h : P0 ∧ P1) (f : P0 → P1 → G) : G := f h.1 h.2
theorem el_0_3  {P0 P1 P2 : Prop} {G : Prop} (h : P0 ∧ P1 ∧ P2) (f : P0 → P1 → P2 → G) : G := f h.1 h.2.1 h.2.2
theorem el_0_4  {P0 P1 P2 P3 : Prop} {G : Prop} (h : P0 ∧ P1 ∧ P2 ∧ P3) (f : P0 → P1 → P2 → P3 → G) : G := f h.1 h.2.1 h.2.2.1 h.2.2.2
theorem el_0_5  {P0 P1 P2 P3 P4 : Prop} {G : Prop} (h : P0 ∧ P1 ∧ P2 ∧ P3 ∧ P4) (f : P0 → P1 → P2 → P3 → P4 → G) : G := f h.1 h.2.1 h.2.2.1 h.2.2.2.1 h.2.2.2.2
theorem el_0_6  {P0 P1 P2 P3 P4 P5 : Prop} {G : Prop} (h : P0 ∧ P1 ∧ P2 ∧ P3 ∧ P4 ∧ P5) (f : P0 → P1 → P2 → P3 → P4 → P5 → G) : G := f h.1 h.2.1 h.2.2.1 h.2.2.2.1 h.2.2.2.2.1 h.2.2.2.2.2
theorem el_1_1.{u0} {α0 : Sort u0} {P0 : α0 → Prop} {G : Prop} (h : ∃ a0, P0 a0) (f : ∀ a0, P0 a0 → G) : G := Exists.elim h fun a0 h => f a0 h
theorem el_1_2.{u0} {α0 : Sort u0} {P0 P1 : α0 → Prop} {G : Prop} (h : ∃ a0, P0 a0 ∧ P1 a0) (f : ∀ a0, P0 a0 → P1 a0 → G) : G := Exists.elim h fun a0 h => f a0 h.1 h.2
theorem el_1_3.{u0} {α0 : Sort u0} {P0 P1 P2 : α0 → Prop} {G : Prop} (h : ∃ a0, P0 a0 ∧ P1 a0 ∧ P2 a0) (f : ∀ a0, P0 a0 → P1 a0 → P2 a0 → G) : G := Exists.elim h fun a0 h => f a0 h.1 h.2.1 h.2.2
theorem el_1_4.{u0} {α0 : Sort u0} {P0 P1 P2 P3 : α0 → Prop} {G : Prop} (h : ∃ a0, P0 a0 ∧ P1 a0 ∧ P2 a0 ∧ P3 a0) (f : ∀ a0, P0 a0 → P1 a0 → P2 a0 → P3 a0 → G) : G := Exists.elim h fun a0 h => f a0 h.1 h.2.1 h.2.2.1 h.2.2.2
theorem el_1_5.{u0} {α0 : Sort u0} {P0 P1 P2 P3 P4 : α0 → Prop} {G : Prop} (h : ∃ a0, P0 a0 ∧ P1 a0 ∧ P2 a0 ∧ P3 a0 ∧ P4 a0) (f : ∀ a0, P0 a0 → P1 a0 → P2 a0 → P3 a0 → P4 a0 → G) : G := Exists.elim h fun a0 h => f a0 h.1 h.2.1 h.2.2.1 h.2.2.2.1 h.2.2.2.2
theorem el_1_7.{u0} {α0 : Sort u0} {P0 P1 P2 P3 P4 P5 P6 : α0 → Prop} {G : Prop} (h : ∃ a0, P0 a0 ∧ P1 a0 ∧ P2 a0 ∧ P3 a0 ∧ P4 a0 ∧ P5 a0 ∧ P6 a0) (f : ∀ a0, P0 a0 → P1 a0 → P2 a0 → P3 a0 → P4 a0 → P5 a0 → P6 a0 → G) : G := Exists.elim h fun a0 h => f a0 h.1 h.2.1 h.2.2.1 h.2.2.2.1 h.2.2.2.2.1 h.2.2.2.2.2.1 h.2.2.2.2.2.2
theorem el_2_1.{u0, u1} {α0 : Sort u0} {α1 : Sort u1} {P0 : α0 → α1 → Prop} {G : Prop} (h : ∃ a0 a1, P0 a0 a1) (f : ∀ a0 a1, P0 a0 a1 → G) : G := Exists.elim h fun a0 h => Exists.elim h fun a1 h => f a0 a1 h
theorem el_2_2.{u0, u1} {α0 : Sort u0} {α1 : Sort u1} {P0 P1 : α0 → α1 → Prop} {G : Prop} (h : ∃ a0 a1, P0 a0 a1 ∧ P1 a0 a1) (f : ∀ a0 a1, P0 a0 a1 → P1 a0 a1 → G) : G := Exists.elim h fun a0 h => Exists.elim h fun a1 h => f a0 a1 h.1 h.2
theorem el_2_4.{u0, u1} {α0 : Sort u0} {α1 : Sort u1} {P0 P1 P2 P3 : α0 → α1 → Prop} {G : Prop} (h : ∃ a0 a1, P0 a0 a1 ∧ P1 a0 a1 ∧ P2 a0 a1 ∧ P3 a0 a1) (f : ∀ a0 a1, P0 a0 a1 → P1 a0 a1 → P2 a0 a1 → P3 a0 a1 → G) : G := Exists.elim h fun a0 h => Exists.elim h fun a1 h => f a0 a1 h.1 h.2.1 h.2.2.1 h.2.2.2
theorem el_2_8.{u0, u1} {α0 : Sort u0} {α1 : Sort u1} {P0 P1 P2 P3 P4 P5 P6 P7 : α0 → α1 → Prop} {G : Prop} (h : ∃ a0 a1, P0 a0 a1 ∧ P1 a0 a1 ∧ P2 a0 a1 ∧ P3 a0 a1 ∧ P4 a0 a1 ∧ P5 a0 a1 ∧ P6 a0 a1 ∧ P7 a0 a1) (f : ∀ a0 a1, P0 a0 a1 → P1 a0 a1 → P2 a0 a1 → P3 a0 a1 → P4 a0 a1 → P5 a0 a1 → P6 a0 a1 → P7 a0 a1 → G) : G := Exists.elim h fun a0 h => Exists.elim h fun a1 h => f a0 a1 h.1 h.2.1 h.2.2.1 h.2.2.2.1 h.2.2.2.2.1 h.2.2.2.2.2.1 h.2.2.2.2.2.2.1 h.2.2.2.2.2.2.2
theorem el_3_1.{u0, u1, u2} {α0 : Sort u0} {α1 : Sort u1} {α2 : Sort u2} {P0 : α0 → α1 → α2 → Prop} {G : Prop} (h : ∃ a0 a1 a2, P0 a0 a1 a2) (f : ∀ a0 a1 a2, P0 a0 a1 a2 → G) : G := Exists.elim h fun a0 h => Exists.elim h fun a1 h => Exists.elim h fun a2 h => f a0 a1 a2 h
theorem el_3_2.{u0, u1, u2} {α0 : Sort u0} {α1 : Sort u1} {α2 : Sort u2} {P0 P1 : α0 → α1 → α2 → Prop} {G : Prop} (h : ∃ a0 a1 a2, P0 a0 a1 a2 ∧ P1 a0 a1 a2) (f : ∀ a0 a1 a2, P0 a0 a1 a2 → P1 a0 a1 a2 → G) : G := Exists.elim h fun a0 h => Exists.elim h fun a1 h => Exists.elim h fun a2 h => f a0 a1 a2 h.1 h.2
theorem el_3_3.{u0, u1, u2} {α0 : Sort u0} {α1 : Sort u1} {α2 : Sort u2} {P0 P1 P2 : α0 → α1 → α2 → Prop} {G : Prop} (h : ∃ a0 a1 a2, P0 a0 a1 a2 ∧ P1 a0 a1 a2 ∧ P2 a0 a1 a2) (f : ∀ a0 a1 a2, P0 a0 a1 a2 → P1 a0 a1 a2 → P2 a0 a1 a2 → G) : G := Exists.elim h fun a0 h => Exists.elim h fun a1 h => Exists.elim h fun a2 h => f a0 a1 a2 h.1 h.2.1 h.2.2
theorem el_3_4.{u0, u1, u2} {α0 : Sort u0} {α1 : Sort u1} {α2 : Sort u2} {P0 P1 P2 P3 : α0 → α1 → α2 → Prop} {G : Prop} (h : ∃ a0 a1 a2, P0 a0 a1 a2 ∧ P1 a0 a1 a2 ∧ P2 a0 a1 a2 ∧ P3 a0 a1 a2) (f : ∀ a0 a1 a2, P0 a0 a1 a2 → P1 a0 a1 a2 → P2 a0 a1 a2 → P3 a0 a1 a2 → G) : G := Exists.elim h fun a0 h => Exists.elim h fun a1 h => Exists.elim h fun a2 h => f a0 a1 a2 h.1 h.2.1 h.2.2.1 h.2.2.2
theorem el_3_6.{u0, u1, u2} {α0 : Sort u0} {α1 : Sort u1} {α2 : Sort u2} {P0 P1 P2 P3 P4 P5 : α0 → α1 → α2 → Prop} {G : Prop} (h : ∃ a0 a1 a2, P0 a0 a1 a2 ∧ P1 a0 a1 a2 ∧ P2 a0 a1 a2 ∧ P3 a0 a1 a2 ∧ P4 a0 a1 a2 ∧ P5 a0 a1 a2) (f : ∀ a0 a1 a2, P0 a0 a1 a2 → P1 a0 a1 a2 → P2 a0 a1 a2 → P3 a0 a1 a2 → P4 a0 a1 a2 → P5 a0 a1 a2 → G) : G := Exists.elim h fun a0 h => Exists.elim h fun a1 h => Exists.elim h fun a2 h => f a0 a1 a2 h.1 h.2.1 h.2.2.1 h.2.2.2.1 h.2.2.2.2.1 h.2.2.2.2.2
theorem el_4_1.{u0, u1, u2, u3} {α0 : Sort u0} {α1 : Sort u1} {α2 : Sort u2} {α3 : Sort u3} {P0 : α0 → α1 → α2 → α3 → Prop} {G : Prop} (h : ∃ a0 a1 a2 a3, P0 a0 a1 a2 a3) (f : ∀ a0 a1 a2 a3, P0 a0 a1 a2 a3 → G) : G := Exists.elim h fun a0 h => Exists.elim h fun a1 h => Exists.elim h fun a2 h => Exists.elim h fun a3 h => f a0 a1 a2 a3 h
theorem el_4_3.{u0, u1, u2, u3} {α0 : Sort u0} {α1 : Sort u1} {α2 : Sort u2} {α3 : Sort u3} {P0 P1 P2 : α0 → α1 → α2 → α3 → Prop} {G : Prop} (h : ∃ a0 a1 a2 a3, P0 a0 a1 a2 a3 ∧ P1 a0 a1 a2 a3 ∧ P2 a0 a1 a2 a3) (f : ∀ a0 a1 a2 a3, P0 a0 a1 a2 a3 → P1 a0 a1 a2 a3 → P2 a0 a1 a2 a3 → G) : G := Exists.elim h fun a0 h => Exists.elim h fun a1 h => Exists.elim h fun a2 h => Exists.elim h fun a3 h => f a0 a1 a2 a3 h.1 h.2.1 h.2.2
theorem el_4_4.{u0, u1, u2, u3} {α0 : Sort u0} {α1 : Sort u1} {α2 : Sort u2} {α3 : Sort u3} {P0 P1 P2 P3 : α0 → α1 → α2 → α3 → Prop} {G : Prop} (h : ∃ a0 a1 a2 a3, P0 a0 a1 a2 a3 ∧ P1 a0 a1 a2 a3 ∧ P2 a0 a1 a2 a3 ∧ P3 a0 a1 a2 a3) (f : ∀ a0 a1 a2 a3, P0 a0 a1 a2 a3 → P1 a0 a1 a2 a3 → P2 a0 a1 a2 a3 → P3 a0 a1 a2 a3 → G) : G := Exists.elim h fun a0 h => Exists.elim h fun a1 h => Exists.elim h fun a2 h => Exists.elim h fun a3 h => f a0 a1 a2 a3 h.1 h.2.1 h.2.2.1 h.2.2.2
theorem el_4_5.{u0, u1, u2, u3} {α0 : Sort u0} {α1 : Sort u1} {α2 : Sort u2} {α3 : Sort u3} {P0 P1 P2 P3 P4 : α0 → α1 → α2 → α3 → Prop} {G : Prop} (h : ∃ a0 a1 a2 a3, P0 a0 a1 a2 a3 ∧ P1 a0 a1 a2 a3 ∧ P2 a0 a1 a2 a3 ∧ P3 a0 a1 a2 a3 ∧ P4 a0 a1 a2 a3) (f : ∀ a0 a1 a2 a3, P0 a0 a1 a2 a3 → P1 a0 a1 a2 a3 → P2 a0 a1 a2 a3 → P3 a0 a1 a2 a3 → P4 a0 a1 a2 a3 → G) : G := Exists.elim h fun a0 h => Exists.elim h fun a1 h => Exists.elim h fun a2 h => Exists.elim h fun a3 h => f a0 a1 a2 a3 h.1 h.2.1 h.2.2.1 h.2.2.2.1 h.2.2.2.2
theorem el_4_6.{u0, u1, u2, u3} {α0 : Sort u0} {α1 : Sort u1} {α2 : Sort u2} {α3 : Sort u3} {P0 P1 P2 P3 P4 P5 : α0 → α1 → α2 → α3 → Prop} {G : Prop} (h : ∃ a0 a1 a2 a3, P0 a0 a1 a2 a3 ∧ P1 a0 a1 a2 a3 ∧ P2 a0 a1 a2 a3 ∧ P3 a0 a1 a2 a3 ∧ P4 a0 a1 a2 a3 ∧ P5 a0 a1 a2 a3) (f : ∀ a0 a1 a2 a3, P0 a0 a1 a2 a3 → P1 a0 a1 a2 a3 → P2 a0 a1 a2 a3 → P3 a0 a1 a2 a3 → P4 a0 a1 a2 a3 → P5 a0 a1 a2 a3 → G) : G := Exists.elim h fun a0 h => Exists.elim h fun a1 h => Exists.elim h fun a2 h => Exists.elim h fun a3 h => f a0 a1 a2 a3 h.1 h.2.1 h.2.2.1 h.2.2.2.1 h.2.2.2.2.1 h.2.2.2.2.2
theorem el_5_5.{u0, u1, u2, u3, u4} {α0 : Sort u0} {α1 : Sort u1} {α2 : Sort u2} {α3 : Sort u3} {α4 : Sort u4} {P0 P1 P2 P3 P4 : α0 → α1 → α2 → α3 → α4 → Prop} {G : Prop} (h : ∃ a0 a1 a2 a3 a4, P0 a0 a1 a2 a3 a4 ∧ P1 a0 a1 a2 a3 a4 ∧ P2 a0 a1 a2 a3 a4 ∧ P3 a0 a1 a2 a3 a4 ∧ P4 a0 a1 a2 a3 a4) (f : ∀ a0 a1 a2 a3 a4, P0 a0 a1 a2 a3 a4 → P1 a0 a1 a2 a3 a4 → P2 a0 a1 a2 a3 a4 → P3 a0 a1 a2 a3 a4 → P4 a0 a1 a2 a3 a4 → G) : G := Exists.elim h fun a0 h => Exists.elim h fun a1 h => Exists.elim h fun a2 h => Exists.elim h fun a3 h => Exists.elim h fun a4 h => f a0 a1 a2 a3 a4 h.1 h.2.1 h.2.2.1 h.2.2.2.1 h.2.2.2.2
theorem el_5_6.{u0, u1, u2, u3, u4} {α0 : Sort u0} {α1 : Sort u1} {α2 : Sort u2} {α3 : Sort u3} {α4 : Sort u4} {P0 P1 P2 P3 P4 P5 : α0 → α1 → α2 → α3 → α4 → Prop} {G : Prop} (h : ∃ a0 a1 a2 a3 a4, P0 a0 a1 a2 a3 a4 ∧ P1 a0 a1 a2 a3 a4 ∧ P2 a0 a1 a2 a3 a4 ∧ P3 a0 a1 a2 a3 a4 ∧ P4 a0 a1 a2 a3 a4 ∧ P5 a0 a1 a2 a3 a4) (f : ∀ a0 a1 a2 a3 a4, P0 a0 a1 a2 a3 a4 → P1 a0 a1 a2 a3 a4 → P2 a0 a1 a2 a3 a4 → P3 a0 a1 a2 a3 a4 → P4 a0 a1 a2 a3 a4 → P5 a0 a1 a2 a3 a4 → G) : G := Exists.elim h fun a0 h => Exists.elim h fun a1 h => Exists.elim h fun a2 h => Exists.elim h fun a3 h => Exists.elim h fun a4 h => f a0 a1 a2 a3 a4 h.1 h.2.1 h.2.2.1 h.2.2.2.1 h.2.2.2.2.1 h.2.2.2.2.2
theorem el_5_8.{u0, u1, u2, u3, u4} {α0 : Sort u0} {α1 : Sort u1} {α2 : Sort u2} {α3 : Sort u3} {α4 : Sort u4} {P0 P1 P2 P3 P4 P5 P6 P7 : α0 → α1 → α2 → α3 → α4 → Prop} {G : Prop} (h : ∃ a0 a1 a2 a3 a4, P0 a0 a1 a2 a3 a4 ∧ P1 a0 a1 a2 a3 a4 ∧ P2 a0 a1 a2 a3 a4 ∧ P3 a0 a1 a2 a3 a4 ∧ P4 a0 a1 a2 a3 a4 ∧ P5 a0 a1 a2 a3 a4 ∧ P6 a0 a1 a2 a3 a4 ∧ P7 a0 a1 a2 a3 a4) (f : ∀ a0 a1 a2 a3 a4, P0 a0 a1 a2 a3 a4 → P1 a0 a1 a2 a3 a4 → P2 a0 a1 a2 a3 a4 → P3 a0 a1 a2 a3 a4 → P4 a0 a1 a2 a3 a4 → P5 a0 a1 a2 a3 a4 → P6 a0 a1 a2 a3 a4 → P7 a0 a1 a2 a3 a4 → G) : G := Exists.elim h fun a0 h => Exists.elim h fun a1 h => Exists.elim h fun a2 h => Exists.elim h fun a3 h => Exists.elim h fun a4 h => f a0 a1 a2 a3 a4 h.1 h.2.1 h.2.2.1 h.2.2.2.1 h.2.2.2.2.1 h.2.2.2.2.2.1 h.2.2.2.2.2.2.1 h.2.2.2.2.2.2.2
theorem el_5_9.{u0, u1, u2, u3, u4} {α0 : Sort u0} {α1 : Sort u1} {α2 : Sort u2} {α3 : Sort u3} {α4 : Sort u4} {P0 P1 P2 P3 P4 P5 P6 P7 P8 : α0 → α1 → α2 → α3 → α4 → Prop} {G : Prop} (h : ∃ a0 a1 a2 a3 a4, P0 a0 a1 a2 a3 a4 ∧ P1 a0 a1 a2 a3 a4 ∧ P2 a0 a1 a2 a3 a4 ∧ P3 a0 a1 a2 a3 a4 ∧ P4 a0 a1 a2 a3 a4 ∧ P5 a0 a1 a2 a3 a4 ∧ P6 a0 a1 a2 a3 a4 ∧ P7 a0 a1 a2 a3 a4 ∧ P8 a0 a1 a2 a3 a4) (f : ∀ a0 a1 a2 a3 a4, P0 a0 a1 a2 a3 a4 → P1 a0 a1 a2 a3 a4 → P2 a0 a1 a2 a3 a4 → P3 a0 a1 a2 a3 a4 → P4 a0 a1 a2 a3 a4 → P5 a0 a1 a2 a3 a4 → P6 a0 a1 a2 a3 a4 → P7 a0 a1 a2 a3 a4 → P8 a0 a1 a2 a3 a4 → G) : G := Exists.elim h fun a0 h => Exists.elim h fun a1 h => Exists.elim h fun a2 h => Exists.elim h fun a3 h => Exists.elim h fun a4 h => f a0 a1 a2 a3 a4 h.1 h.2.1 h.2.2.1 h.2.2.2.1 h.2.2.2.2.1 h.2.2.2.2.2.1 h.2.2.2.2.2.2.1 h.2.2.2.2.2.2.2.1 h.2.2.2.2.2.2.2.2
theorem el_6_2.{u0, u1, u2, u3, u4, u5} {α0 : Sort u0} {α1 : Sort u1} {α2 : Sort u2} {α3 : Sort u3} {α4 : Sort u4} {α5 : Sort u5} {P0 P1 : α0 → α1 → α2 → α3 → α4 → α5 → Prop} {G : Prop} (h : ∃ a0 a1 a2 a3 a4 a5, P0 a0 a1 a2 a3 a4 a5 ∧ P1 a0 a1 a2 a3 a4 a5) (f : ∀ a0 a1 a2 a3 a4 a5, P0 a0 a1 a2 a3 a4 a5 → P1 a0 a1 a2 a3 a4 a5 → G) : G := Exists.elim h fun a0 h => Exists.elim h fun a1 h => Exists.elim h fun a2 h => Exists.elim h fun a3 h => Exists.elim h fun a4 h => Exists.elim h fun a5 h => f a0 a1 a2 a3 a4 a5 h.1 h.2
theorem el_6_9.{u0, u1, u2, u3, u4, u5} {α0 : Sort u0} {α1 : Sort u1} {α2 : Sort u2} {α3 : Sort u3} {α4 : Sort u4} {α5 : Sort u5} {P0 P1 P2 P3 P4 P5 P6 P7 P8 : α0 → α1 → α2 → α3 → α4 → α5 → Prop} {G : Prop} (h : ∃ a0 a1 a2 a3 a4 a5, P0 a0 a1 a2 a3 a4 a5 ∧ P1 a0 a1 a2 a3 a4 a5 ∧ P2 a0 a1 a2 a3 a4 a5 ∧ P3 a0 a1 a2 a3 a4 a5 ∧ P4 a0 a1 a2 a3 a4 a5 ∧ P5 a0 a1 a2 a3 a4 a5 ∧ P6 a0 a1 a2 a3 a4 a5 ∧ P7 a0 a1 a2 a3 a4 a5 ∧ P8 a0 a1 a2 a3 a4 a5) (f : ∀ a0 a1 a2 a3 a4 a5, P0 a0 a1 a2 a3 a4 a5 → P1 a0 a1 a2 a3 a4 a5 → P2 a0 a1 a2 a3 a4 a5 → P3 a0 a1 a2 a3 a4 a5 → P4 a0 a1 a2 a3 a4 a5 → P5 a0 a1 a2 a3 a4 a5 → P6 a0 a1 a2 a3 a4 a5 → P7 a0 a1 a2 a3 a4 a5 → P8 a0 a1 a2 a3 a4 a5 → G) : G := Exists.elim h fun a0 h => Exists.elim h fun a1 h => Exists.elim h fun a2 h => Exists.elim h fun a3 h => Exists.elim h fun a4 h => Exists.elim h fun a5 h => f a0 a1 a2 a3 a4 a5 h.1 h.2.1 h.2.2.1 h.2.2.2.1 h.2.2.2.2.1 h.2.2.2.2.2.1 h.2.2.2.2.2.2.1 h.2.2.2.2.2.2.2.1 h.2.2.2.2.2.2.2.2
theorem el_8_5.{u0, u1, u2, u3, u4, u5, u6, u7} {α0 : Sort u0} {α1 : Sort u1} {α2 : Sort u2} {α3 : Sort u3} {α4 : Sort u4} {α5 : Sort u5} {α6 : Sort u6} {α7 : Sort u7} {P0 P1 P2 P3 P4 : α0 → α1 → α2 → α3 → α4 → α5 → α6 → α7 → Prop} {G : Prop} (h : ∃ a0 a1 a2 a3 a4 a5 a6 a7, P0 a0 a1 a2 a3 a4 a5 a6 a7 ∧ P1 a0 a1 a2 a3 a4 a5 a6 a7 ∧ P2 a0 a1 a2 a3 a4 a5 a6 a7 ∧ P3 a0 a1 a2 a3 a4 a5 a6 a7 ∧ P4 a0 a1 a2 a3 a4 a5 a6 a7) (f : ∀ a0 a1 a2 a3 a4 a5 a6 a7, P0 a0 a1 a2 a3 a4 a5 a6 a7 → P1 a0 a1 a2 a3 a4 a5 a6 a7 → P2 a0 a1 a2 a3 a4 a5 a6 a7 → P3 a0 a1 a2 a3 a4 a5 a6 a7 → P4 a0 a1 a2 a3 a4 a5 a6 a7 → G) : G := Exists.elim h fun a0 h => Exists.elim h fun a1 h => Exists.elim h fun a2 h => Exists.elim h fun a3 h => Exists.elim h fun a4 h => Exists.elim h fun a5 h => Exists.elim h fun a6 h => Exists.elim h fun a7 h => f a0 a1 a2 a3 a4 a5 a6 a7 h.1 h.2.1 h.2.2.1 h.2.2.2.1 h.2.2.2.2
theorem el_8_7.{u0, u1, u2, u3, u4, u5, u6, u7} {α0 : Sort u0} {α1 : Sort u1} {α2 : Sort u2} {α3 : Sort u3} {α4 : Sort u4} {α5 : Sort u5} {α6 : Sort u6} {α7 : Sort u7} {P0 P1 P2 P3 P4 P5 P6 : α0 → α1 → α2 → α3 → α4 → α5 → α6 → α7 → Prop} {G : Prop} (h : ∃ a0 a1 a2 a3 a4 a5 a6 a7, P0 a0 a1 a2 a3 a4 a5 a6 a7 ∧ P1 a0 a1 a2 a3 a4 a5 a6 a7 ∧ P2 a0 a1 a2 a3 a4 a5 a6 a7 ∧ P3 a0 a1 a2 a3 a4 a5 a6 a7 ∧ P4 a0 a1 a2 a3 a4 a5 a6 a7 ∧ P5 a0 a1 a2 a3 a4 a5 a6 a7 ∧ P6 a0 a1 a2 a3 a4 a5 a6 a7) (f : ∀ a0 a1 a2 a3 a4 a5 a6 a7, P0 a0 a1 a2 a3 a4 a5 a6 a7 → P1 a0 a1 a2 a3 a4 a5 a6 a7 → P2 a0 a1 a2 a3 a4 a5 a6 a7 → P3 a0 a1 a2 a3 a4 a5 a6 a7 → P4 a0 a1 a2 a3 a4 a5 a6 a7 → P5 a0 a1 a2 a3 a4 a5 a6 a7 → P6 a0 a1 a2 a3 a4 a5 a6 a7 → G) : G := Exists.elim h fun a0 h => Exists.elim h fun a1 h => Exists.elim h fun a2 h => Exists.elim h fun a3 h => Exists.elim h fun a4 h => Exists.elim h fun a5 h => Exists.elim h fun a6 h => Exists.elim h fun a7 h => f a0 a1 a2 a3 a4 a5 a6 a7 h.1 h.2.1 h.2.2.1 h.2.2.2.1 h.2.2.2.2.1 h.2.2.2.2.2.1 h.2.2.2.2.2.2
theorem el_8_9.{u0, u1, u2, u3, u4, u5, u6, u7} {α0 : Sort u0} {α1 : Sort u1} {α2 : Sort u2} {α3 : Sort u3} {α4 : Sort u4} {α5 : Sort u5} {α6 : Sort u6} {α7 : Sort u7} {P0 P1 P2 P3 P4 P5 P6 P7 P8 : α0 → α1 → α2 → α3 → α4 → α5 → α6 → α7 → Prop} {G : Prop} (h : ∃ a0 a1 a2 a3 a4 a5 a6 a7, P0 a0 a1 a2 a3 a4 a5 a6 a7 ∧ P1 a0 a1 a2 a3 a4 a5 a6 a7 ∧ P2 a0 a1 a2 a3 a4 a5 a6 a7 ∧ P3 a0 a1 a2 a3 a4 a5 a6 a7 ∧ P4 a0 a1 a2 a3 a4 a5 a6 a7 ∧ P5 a0 a1 a2 a3 a4 a5 a6 a7 ∧ P6 a0 a1 a2 a3 a4 a5 a6 a7 ∧ P7 a0 a1 a2 a3 a4 a5 a6 a7 ∧ P8 a0 a1 a2 a3 a4 a5 a6 a7) (f : ∀ a0 a1 a2 a3 a4 a5 a6 a7, P0 a0 a1 a2 a3 a4 a5 a6 a7 → P1 a0 a1 a2 a3 a4 a5 a6 a7 → P2 a0 a1 a2 a3 a4 a5 a6 a7 → P3 a0 a1 a2 a3 a4 a5 a6 a7 → P4 a0 a1 a2 a3 a4 a5 a6 a7 → P5 a0 a1 a2 a3 a4 a5 a6 a7 → P6 a0 a1 a2 a3 a4 a5 a6 a7 → P7 a0 a1 a2 a3 a4 a5 a6 a7 → P8 a0 a1 a2 a3 a4 a5 a6 a7 → G) : G := Exists.elim h fun a0 h => Exists.elim h fun a1 h => Exists.elim h fun a2 h => Exists.elim h fun a3 h => Exists.elim h fun a4 h => Exists.elim h fun a5 h => Exists.elim h fun a6 h => Exists.elim h fun a7 h => f a0 a1 a2 a3 a4 a5 a6 a7 h.1 h.2.1 h.2.2.1 h.2.2.2.1 h.2.2.2.2.1 h.2.2.2.2.2.1 h.2.2.2.2.2.2.1 h.2.2.2.2.2.2.2.1 h.2.2.2.2.2.2.2.2
theorem el_8_10.{u0, u1, u2, u3, u4, u5, u6, u7} {α0 : Sort u0} {α1 : Sort u1} {α2 : Sort u2} {α3 : Sort u3} {α4 : Sort u4} {α5 : Sort u5} {α6 : Sort u6} {α7 : Sort u7} {P0 P1 P2 P3 P4 P5 P6 P7 P8 P9 : α0 → α1 → α2 → α3 → α4 → α5 → α6 → α7 → Prop} {G : Prop} (h : ∃ a0 a1 a2 a3 a4 a5 a6 a7, P0 a0 a1 a2 a3 a4 a5 a6 a7 ∧ P1 a0 a1 a2 a3 a4 a5 a6 a7 ∧ P2 a0 a1 a2 a3 a4 a5 a6 a7 ∧ P3 a0 a1 a2 a3 a4 a5 a6 a7 ∧ P4 a0 a1 a2 a3 a4 a5 a6 a7 ∧ P5 a0 a1 a2 a3 a4 a5 a6 a7 ∧ P6 a0 a1 a2 a3 a4 a5 a6 a7 ∧ P7 a0 a1 a2 a3 a4 a5 a6 a7 ∧ P8 a0 a1 a2 a3 a4 a5 a6 a7 ∧ P9 a0 a1 a2 a3 a4 a5 a6 a7) (f : ∀ a0 a1 a2 a3 a4 a5 a6 a7, P0 a0 a1 a2 a3 a4 a5 a6 a7 → P1 a0 a1 a2 a3 a4 a5 a6 a7 → P2 a0 a1 a2 a3 a4 a5 a6 a7 → P3 a0 a1 a2 a3 a4 a5 a6 a7 → P4 a0 a1 a2 a3 a4 a5 a6 a7 → P5 a0 a1 a2 a3 a4 a5 a6 a7 → P6 a0 a1 a2 a3 a4 a5 a6 a7 → P7 a0 a1 a2 a3 a4 a5 a6 a7 → P8 a0 a1 a2 a3 a4 a5 a6 a7 → P9 a0 a1 a2 a3 a4 a5 a6 a7 → G) : G := Exists.elim h fun a0 h => Exists.elim h fun a1 h => Exists.elim h fun a2 h => Exists.elim h fun a3 h => Exists.elim h fun a4 h => Exists.elim h fun a5 h => Exists.elim h fun a6 h => Exists.elim h fun a7 h => f a0 a1 a2 a3 a4 a5 a6 a7 h.1 h.2.1 h.2.2.1 h.2.2.2.1 h.2.2.2.2.1 h.2.2.2.2.2.1 h.2.2.2.2.2.2.1 h.2.2.2.2.2.2.2.1 h.2.2.2.2.2.2.2.2.1 h.2.2.2.2.2.2.2.2.2
end
section
inductive Rf where
  | nil
  | leaf (i : Nat)
  | cons (i : Nat) (t : Rf)
  | app (a b : Rf)
noncomputable def Rf.nth {α : Type} (x : α) : List α → Nat → α
  | [], _ => x
  | _ :: _, 0 => x
  | y :: l, i + 1 => Rf.nth y l i
noncomputable def Rf.den {α : Type} (x : α) (l : List α) (r : List (List α)) : Rf → List α
  | .nil => []
  | .leaf i => Rf.nth [] r (i + 1)
  | .cons i t => Rf.nth x l i :: Rf.den x l r t
  | .app a b => Rf.den x l r a ++ Rf.den x l r b
noncomputable def Rf.es : Rf → List Nat
  | .nil => []
  | .leaf _ => []
  | .cons i t => i :: t.es
  | .app a b => a.es ++ b.es
noncomputable def Rf.ls : Rf → List Nat
  | .nil => []
  | .leaf i => [i]
  | .cons _ t => t.ls
  | .app a b => a.ls ++ b.ls
theorem Rf.flat {α : Type} (x : α) (l : List α) (r : List (List α)) : ∀ t : Rf, (Rf.den x l r t).Perm (t.es.map (Rf.nth x l) ++ t.ls.flatMap fun i => Rf.nth [] r (i + 1))
  | .nil => .nil
  | .leaf i => by
    show (Rf.nth [] r (i + 1)).Perm ([] ++ (Rf.nth [] r (i + 1) ++ []))
    rw [List.append_nil, List.nil_append]
  | .cons i t => .cons _ (Rf.flat x l r t)
  | .app a b => by
    show (Rf.den x l r a ++ Rf.den x l r b).Perm ((a.es ++ b.es).map _ ++ (a.ls ++ b.ls).flatMap _)
    rw [List.map_append, List.flatMap_append]
    refine ((Rf.flat x l r a).append (Rf.flat x l r b)).trans ?_
    rw [List.append_assoc, List.append_assoc]
    refine .append_left _ ?_
    rw [← List.append_assoc, ← List.append_assoc]
    exact .append_right _ List.perm_append_comm
theorem Rf.perm {α : Type} {x : α} {l : List α} {r : List (List α)} (t t' : Rf) (h : (t.es.isPerm t'.es && t.ls.isPerm t'.ls) = true) : (Rf.den x l r t).Perm (Rf.den x l r t') := by
  rw [Bool.and_eq_true, List.isPerm_iff, List.isPerm_iff] at h
  exact (Rf.flat x l r t).trans ((List.Perm.append (h.1.map _) (h.2.flatMap_right _)).trans (Rf.flat x l r t').symm)
theorem Rf.sub {α : Type} {x : α} {l : List α} {r : List (List α)} (t t' : Rf) (h : (t.es.all t'.es.contains && t.ls.all t'.ls.contains) = true) {p : α} (hp : p ∈ Rf.den x l r t) : p ∈ Rf.den x l r t' := by
  rw [Bool.and_eq_true, List.all_eq_true, List.all_eq_true] at h
  have q := (Rf.flat x l r t).mem_iff.mp hp
  refine (Rf.flat x l r t').mem_iff.mpr ?_
  rcases List.mem_append.mp q with q | q
  · obtain ⟨i, hi, rfl⟩ := List.mem_map.mp q
    exact List.mem_append_left _ (List.mem_map_of_mem (List.contains_iff_mem.mp (h.1 i hi)))
  · obtain ⟨i, hi, q⟩ := List.mem_flatMap.mp q
    exact List.mem_append_right _ (List.mem_flatMap.mpr ⟨i, List.contains_iff_mem.mp (h.2 i hi), q⟩)

end
section
open PySem PySem.Spec PySem.W PyProof.Rows PySem.Calls PyProof.V
inductive FSeg where
  | one (x : Str) (v : Value)
  | many (xs : List Str) (u : Str → Option Value)
noncomputable def FSeg.names : FSeg → List Str
  | .one x _ => [x]
  | .many xs _ => xs
noncomputable def Ch : List FSeg → (Str → Option Value) → Str → Option Value
  | [], m, y => m y
  | .one x v :: r, m, y => if y = x then some v else Ch r m y
  | .many xs u :: r, m, y => if y ∈ xs then u y else Ch r m y
theorem ch_off {ys : List Str} {m : Str → Option Value} {z : Str} (hz : z ∉ ys) : ∀ {l : List FSeg}, (∀ s ∈ l, ∀ x ∈ s.names, x ∈ ys) → Ch l m z = m z
  | [], _ => rfl
  | .one x v :: r, h => by
    show (if z = x then some v else Ch r m z) = m z
    rw [if_neg (fun (e : z = x) => hz (by rw [e]; exact h (.one x v) (.head _) x (.head _)))]
    exact ch_off hz fun s hs => h s (.tail _ hs)
  | .many xs u :: r, h => by
    show (if z ∈ xs then u z else Ch r m z) = m z
    rw [if_neg (fun (e : z ∈ xs) => hz (h (.many xs u) (.head _) z e))]
    exact ch_off hz fun s hs => h s (.tail _ hs)
noncomputable def namesIn (ys : List Str) (ns : List (List Str)) : Bool := ns.all fun xs => xs.all fun x => ys.contains x
theorem ch_offb {ys : List Str} {m : Str → Option Value} {z : Str} {l : List FSeg} (ns : List (List Str)) (hz : z ∉ ys) (hn : l.map FSeg.names = ns) (h : namesIn ys ns = true) : Ch l m z = m z := by
  refine ch_off hz fun s hs x hx => ?_
  subst hn
  unfold namesIn at h
  exact List.contains_iff_mem.mp (List.all_eq_true.mp (List.all_eq_true.mp h _ (List.mem_map_of_mem hs)) x hx)
theorem chEq {ks ys : List Str} {l1 l2 : List FSeg} {b1 b2 : Str → Option Value} (n1 n2 : List (List Str)) (e1 : l1.map FSeg.names = n1) (e2 : l2.map FSeg.names = n2) (i1 : namesIn (ks ++ ys) n1 = true) (i2 : namesIn (ks ++ ys) n2 = true)
    (hk : ks.map (Ch l1 b1) = ks.map (Ch l2 b2)) (hb : b1 = b2) {z : Str} (hz : z ∉ ys) : Ch l1 b1 z = Ch l2 b2 z := by
  subst hb
  by_cases h : z ∈ ks
  · obtain ⟨i, hi, rfl⟩ := List.mem_iff_getElem.mp h
    have := congrArg (fun l => l[i]?) hk
    simpa [hi] using this
  · have hn : z ∉ ks ++ ys := fun q => (List.mem_append.mp q).elim h hz
    rw [ch_offb n1 hn e1 i1, ch_offb n2 hn e2 i2]
theorem notin6 {z : Str} {ys : List Str} {a b c d e f : Str} (h0 : z ∉ ys) (h1 : z ≠ a) (h2 : z ≠ b) (h3 : z ≠ c) (h4 : z ≠ d) (h5 : z ≠ e) (h6 : z ≠ f) : z ∉ a :: b :: c :: d :: e :: f :: ys := fun h => by
  rcases List.mem_cons.mp h with h | h
  · exact h1 h
  rcases List.mem_cons.mp h with h | h
  · exact h2 h
  rcases List.mem_cons.mp h with h | h
  · exact h3 h
  rcases List.mem_cons.mp h with h | h
  · exact h4 h
  rcases List.mem_cons.mp h with h | h
  · exact h5 h
  rcases List.mem_cons.mp h with h | h
  · exact h6 h
  exact h0 h

end
section
open PySem PySem.Spec PySem.W PyProof.Rows PySem.Calls PyProof.V
section
variable {M : Model} {A : Around} {E : Value → Shared → Prop} {s : Shared} {st : Stmt} {rest : List Stmt} {env : Env} {Q : Flow → Shared → Prop}
noncomputable def ER (M : Model) (A : Around) (rest : List Stmt) (env : Env) (Q : Flow → Shared → Prop) (E : Value → Shared → Prop) : Flow → Shared → Prop :=
  fun f s' => match f with | .next => wpAny M A (execs rest env) Q E s' | f => Q f s'
theorem er_cons (h : wpAny M A (exec st env) (ER M A rest env Q E) E s) : wpAny M A (execs (st :: rest) env) Q E s := wpAny_execs_cons h
theorem er_next (h : wpAny M A (execs rest env) Q E s) : ER M A rest env Q E .next s := h
theorem er_last (h : Q .next s) : ER M A [] env Q E .next s := wpAny_execs_nil h
theorem er_ret {v : Value} (h : Q (.ret v) s) : ER M A rest env Q E (.ret v) s := h
theorem er_brk (h : Q .brk s) : ER M A rest env Q E .brk s := h
theorem er_cont (h : Q .cont s) : ER M A rest env Q E .cont s := h
theorem let_A {α : Type} {c : Sem α} {Q : α → Shared → Prop} (h : let A' := A; wpAny M A' c Q E s) : wpAny M A c Q E s := h
theorem let_env {b : List Stmt} (h : let e' := env; wpAny M A (execs b e') Q E s) : wpAny M A (execs b env) Q E s := h
inductive EnvDone : Prop where
  | mk
theorem let_m {g h : Heap} {L : Addr} {m : Str → Option Value} {P : Prop} (F : Fr g L h m) (H : let m' := m; Fr g L h m' → P) : P := H F
theorem let_N {g h : Heap} {L : Addr} {news : List (Addr × Obj)} {P : Prop} (N : News g L h news) (H : let n' := news; News g L h n' → P) : P := H N
theorem flat1 {α : Type} {c : Sem α} {Q : α → Shared → Prop} {h₁ h₀ : Heap} {g : Array GenState} {d : Drawn} {o : OsState} {t t₀ : Nat}
    (H : ∀ tk, wpAny M A c Q E (Shared.mk h₁ g d tk o)) : wpAny M A c Q E (Shared.mk h₁ (Shared.gens (Shared.mk h₀ g d t₀ o)) (Shared.drawn (Shared.mk h₀ g d t₀ o)) t (Shared.os (Shared.mk h₀ g d t₀ o))) := H t
theorem flat2 {α : Type} {c : Sem α} {Q : α → Shared → Prop} {h₀ : Heap} {g : Array GenState} {d : Drawn} {o : OsState} {t t₀ : Nat}
    (H : ∀ tk, wpAny M A c Q E (Shared.mk h₀ g d tk o)) : wpAny M A c Q E (Shared.mk (Shared.heap (Shared.mk h₀ g d t₀ o)) (Shared.gens (Shared.mk h₀ g d t₀ o)) (Shared.drawn (Shared.mk h₀ g d t₀ o)) t (Shared.os (Shared.mk h₀ g d t₀ o))) := H t
end

end
section
open PySem PySem.Spec PySem.W PyProof.Rows PySem.Calls PyProof.V
section
variable {M : Model} {A : Around} {α β : Type} {E E2 E3 E4 : Value → Shared → Prop} {s : Shared}
theorem fold_for {c : Sem α} {d : α → Sem β} {Q : β → Shared → Prop} (h : let QL := Q; let EL := E; wpAny M A c (fun x s₂ => wpAny M A (d x) QL EL s₂) EL s) : wpAny M A c (fun x s₂ => wpAny M A (d x) Q E s₂) E s := h
theorem fold_while {c : Sem Bool} {d e : Sem β} {Q R : β → Shared → Prop} (h : let QL := Q; let RL := R; let EL := E; wpAny M A c (fun b s₂ => if b = true then wpAny M A d QL EL s₂ else wpAny M A e RL EL s₂) EL s) : wpAny M A c (fun b s₂ => if b = true then wpAny M A d Q E s₂ else wpAny M A e R E s₂) E s := h
end

end
section
-- B2
section
open PySem PySem.Spec PySem.W PyProof.Rows PySem.Calls
abbrev Ledger := List (Addr × Obj)

/-- addresses that fall from one to the next -/
noncomputable def Desc : List Addr → Prop
  | [] => True
  | [_] => True
  | a :: b :: r => @LT.lt Nat _ b a ∧ Desc (b :: r)
/-- two addresses that are not one (kept out of arithmetic's sight) -/
noncomputable def Apt (a b : Addr) : Prop := a ≠ b
theorem Apt.ne {a b : Addr} (h : Apt a b) : a ≠ b := h
theorem Apt.ne' {a b : Addr} (h : Apt a b) : b ≠ a := fun e => h e.symm
theorem Apt.sw {a b : Addr} (h : Apt a b) : Apt b a := fun e => h e.symm
theorem Apt.gt {a b : Addr} (h : @LT.lt Nat _ b a) : Apt a b := Nat.ne_of_gt h
theorem Apt.lt {a b : Addr} (h : @LT.lt Nat _ a b) : Apt a b := Nat.ne_of_lt h
theorem Desc.apt : ∀ {l : List Addr}, Desc l → l.Pairwise Apt
  | [], _ => .nil
  | [_], _ => List.Pairwise.cons (fun _ h => nomatch h) .nil
  | a :: b :: r, h => by
    have ih : ∀ {l : List Addr} {a : Addr}, Desc (a :: l) → ∀ x ∈ l, @LT.lt Nat _ x a := by
      intro l
      induction l with
      | nil => intro _ _ x hx; cases hx
      | cons c t ih =>
        intro a h x hx
        rcases List.mem_cons.mp hx with rfl | hx
        · exact h.1
        · exact Nat.lt_trans (ih h.2 x hx) h.1
    exact List.Pairwise.cons (fun x hx => Apt.gt (ih h x hx)) h.2.apt

/-- the heap h still holds all that g holds, and beside it the objects of led, which g does not show -/
structure Hid (g h : Heap) (led : Ledger) : Prop where
  keep : ∀ b o, g.get? b = some o → h.get? b = some o
  led : ∀ p ∈ led, h.get? p.1 = some p.2 ∧ g.get? p.1 = none

noncomputable def HEnd (R : Value → Shared → Prop) (v : Value) (s' : Shared) : Prop := R v s'

/-- a call of the function at f, seen from the heap alone -/
noncomputable def HSpec (k : Nat) (w : World) (p : Program) (loose : List Str) (mean : ExcName → Option Value) (mg mb : Str → Option Value) (f : Addr) (vs : List Value) (kw : List (Str × Value)) (touched : Ledger) (Post : Ledger → Ledger → Value → Prop) : Prop :=
  ∀ (dp un : Nat) (gd : Option (List Code)) (cn : Str) (cs : Scope) (L a : Addr) (ccd : Value) (cl : List (Str × Addr)) (outer : List Env) (base g : Heap) (s : Shared) (Q E : Value → Shared → Prop),
    Below (ktrTop dp un gd cn cs L a ccd cl outer) base (envX cn cs L a ccd cl :: outer) g → Hid g s.heap touched → g.objs.size = s.heap.objs.size → (hd.heap_39 w.params).In g → Top p loose mean mg mb g → cs.kind = .function → dp + k < recursionLimit → un + 20 * k < cLine →
    (∀ r tl upd h' tk', Hid g h' (tl ++ upd) → upd.map (·.1) = touched.map (·.1) → (∀ p ∈ tl, ∀ q ∈ touched, Apt p.1 q.1) → (tl.map (·.1)).Pairwise Apt → Post tl upd r → Q r { s with heap := h', toks := tk' }) →
    wpAny (model PySem.Challenge.pw_xb0026_01 w) (ktrTop dp un gd cn cs L a ccd cl outer) (call (.ref f) vs kw) Q E s

section
variable {k : Nat} {w : World} {p : Program} {loose : List Str} {mean : ExcName → Option Value} {mg mb : Str → Option Value} {f : Addr} {vs : List Value} {kw : List (Str × Value)} {touched rest : Ledger} {Post : Ledger → Ledger → Value → Prop}
  {dp un : Nat} {gd : Option (List Code)} {cn : Str} {cs : Scope} {a : Addr} {ccd : Value} {cl : List (Str × Addr)} {outer : List Env} {A₀ : Around} {base h₀ : Heap} {L : Addr} {m : Str → Option Value} {s : Shared} {Q E : Value → Shared → Prop}

theorem hspec_use (B : Below A₀ base outer h₀) (F : Fr h₀ L s.heap m) (X : (hd.heap_39 w.params).In h₀) (N : News h₀ L s.heap (touched ++ rest)) (T : Top p loose mean mg mb h₀) (hk : cs.kind = .function)
    (S : HSpec k w p loose mean mg mb f vs kw touched Post) (hr : ∀ p ∈ rest, ∀ q ∈ touched, p.1 ≠ q.1) (hd : dp + k < recursionLimit) (hu : un + 20 * k < cLine)
    (ret : ∀ r tl upd h' tk', Fr h₀ L h' m → News h₀ L h' (tl ++ (upd ++ rest)) → upd.map (·.1) = touched.map (·.1) → (∀ p ∈ tl, ∀ q ∈ touched ++ rest, Apt p.1 q.1) → (tl.map (·.1)).Pairwise Apt → Post tl upd r → Q r { s with heap := h', toks := tk' }) :
    wpAny (model PySem.Challenge.pw_xb0026_01 w) (ktrTop dp un gd cn cs L a ccd cl outer) (call (.ref f) vs kw) Q E s := by
  have Nt : News h₀ L s.heap touched := fun p hp => N p (List.mem_append_left _ hp)
  first | ((first | refine el_0_4 (groundX (R := fun _ _ => True) (A := ktrTop dp un gd cn cs L a ccd cl outer) (env := envX cn cs L a ccd cl) B F Nt rfl rfl hk) ?_ | refine el_1_3 (groundX (R := fun _ _ => True) (A := ktrTop dp un gd cn cs L a ccd cl outer) (env := envX cn cs L a ccd cl) B F Nt rfl rfl hk) ?_ | refine el_2_2 (groundX (R := fun _ _ => True) (A := ktrTop dp un gd cn cs L a ccd cl outer) (env := envX cn cs L a ccd cl) B F Nt rfl rfl hk) ?_ | refine el_3_1 (groundX (R := fun _ _ => True) (A := ktrTop dp un gd cn cs L a ccd cl outer) (env := envX cn cs L a ccd cl) B F Nt rfl rfl hk) ?_); intro FG BG st _) | obtain ⟨FG, BG, st, _⟩ := groundX (R := fun _ _ => True) (A := ktrTop dp un gd cn cs L a ccd cl outer) (env := envX cn cs L a ccd cl) B F Nt rfl rfl hk
  have gsz := hideAll_size (touched.map (·.1)) s.heap
  refine S dp un gd cn cs L a ccd cl outer base (hideAll s.heap (touched.map (·.1))) s Q E BG ⟨fun b o e => of_hideAll _ e, fun p hp => ⟨(Nt p hp).1, hideAll_none _ (List.mem_map_of_mem hp)⟩⟩ gsz (X.keeps fun b o e => st b o e) (T.keeps fun b o e => st b o e) hk hd hu ?_
  intro r tl upd h' tk' H e lo pw P
  have Lh : h₀.objs.size ≤ L := F.above
  have gL : ∀ b, (hideAll s.heap (touched.map (·.1))).get? b = none → h₀.get? b = none := fun b hb => by
    cases q : h₀.get? b with
    | none => rfl
    | some o => rw [st b o q] at hb; cases hb
  have nL : ∀ b, (hideAll s.heap (touched.map (·.1))).get? b = none → b ≠ L := fun b hb q => by
    first | ((first | refine el_0_5 (FG.ns) ?_ | refine el_1_4 (FG.ns) ?_ | refine el_2_3 (FG.ns) ?_ | refine el_3_2 (FG.ns) ?_ | refine el_4_1 (FG.ns) ?_); intro oL es ep hL _) | obtain ⟨oL, es, ep, hL, _⟩ := FG.ns
    rw [q, hL] at hb; cases hb
  have hLn : L ∉ touched.map (·.1) := fun q => by
    first | ((first | refine el_0_3 (List.mem_map.mp q) ?_ | refine el_1_2 (List.mem_map.mp q) ?_ | refine el_2_1 (List.mem_map.mp q) ?_); intro p hp e) | obtain ⟨p, hp, e⟩ := List.mem_map.mp q
    exact (Nt p hp).2.1 e
  refine ret r tl upd h' tk' ⟨?_, fun b o e' => H.keep b o (st b o e'), F.above⟩ (fun p hp => ?_) e (fun p hp q hq => ?_) pw P
  · first | ((first | refine el_0_5 (FG.ns) ?_ | refine el_1_4 (FG.ns) ?_ | refine el_2_3 (FG.ns) ?_ | refine el_3_2 (FG.ns) ?_ | refine el_4_1 (FG.ns) ?_); intro oL es ep hL r) | obtain ⟨oL, es, ep, hL, r⟩ := FG.ns
    exact ⟨oL, es, ep, H.keep _ _ hL, r⟩
  · have old : ∀ p ∈ tl ++ upd, h'.get? p.1 = some p.2 ∧ p.1 ≠ L ∧ h₀.get? p.1 = none := fun p hp => ⟨(H.led p hp).1, nL _ (H.led p hp).2, gL _ (H.led p hp).2⟩
    rcases List.mem_append.mp hp with hp | hp
    · exact old p (List.mem_append_left _ hp)
    · rcases List.mem_append.mp hp with hp | hp
      · exact old p (List.mem_append_right _ hp)
      · have z := N p (List.mem_append_right _ hp)
        refine ⟨H.keep _ _ (hideAll_get _ z.1 fun q => ?_), z.2⟩
        first | ((first | refine el_0_3 (List.mem_map.mp q) ?_ | refine el_1_2 (List.mem_map.mp q) ?_ | refine el_2_1 (List.mem_map.mp q) ?_); intro q' hq' e') | obtain ⟨q', hq', e'⟩ := List.mem_map.mp q
        exact hr p hp q' hq' e'.symm
  · rcases List.mem_append.mp hq with hq | hq
    · exact lo p hp q hq
    · intro e'
      have z := N q (List.mem_append_right _ hq)
      have y := (H.led p (List.mem_append_left _ hp)).2
      have x := hideAll_get (touched.map (·.1)) z.1 fun q' => by
        first | ((first | refine el_0_3 (List.mem_map.mp q') ?_ | refine el_1_2 (List.mem_map.mp q') ?_ | refine el_2_1 (List.mem_map.mp q') ?_); intro q'' hq'' e'') | obtain ⟨q'', hq'', e''⟩ := List.mem_map.mp q'
        exact hr q hq q'' hq'' e''.symm
      rw [e', x] at y
      cases y
end

section
variable {prog : Program} {w : World} {A : Around} {s : Shared} {base g : Heap} {outer : List Env} {K : Frag} {p : Program} {loose : List Str} {mean : ExcName → Option Value} {mg mb : Str → Option Value} {touched : Ledger} {Q E : Value → Shared → Prop}
  {name qual : Str} {params : Arguments} {body : List Stmt} {scope : Scope} {dV kV doc pm cdv ct oc : Value} {an od : Option Addr} {osl : Array (Option Value)} {f : Addr} {pos : List Value} {kws : List (Str × Value)} {binds : List (Str × Value)}

theorem h_enter (B : Below A base outer g) (H : Hid g s.heap touched) (hz : g.objs.size = s.heap.objs.size) (X : K.In g) (T : Top p loose mean mg mb g)
    (ho : K.lookup f = some ⟨oc, od, .func (fnOf name qual params body scope dV kV doc pm an cdv ct), osl⟩) (hcd : codeIn K cdv qual = true) (hroom : A.depth < recursionLimit)
    (hbind : BindsTo s (fnOf name qual params body scope dV kV doc pm an cdv ct) ⟨pos, kws⟩ binds) (hloc : ∀ y ∈ binds, scope.names.lookup y.1 = some .local)
    (h : ∀ L' h₁, Fr g L' h₁ (fun y => binds.reverse.lookup y) → News g L' h₁ touched → g.objs.size ≤ L' → (∀ p ∈ touched, p.1 < L') →
      wpAny (model prog w) (A.deeper (envOf qual scope L' f cdv)) (execs body (envOf qual scope L' f cdv))
        (fun fl s' => HEnd Q (match fl with | .ret v => v | _ => .none) s')
        (fun e s' => wpAny (model prog w) (A.deeper (envOf qual scope L' f cdv)) (leaving (envOf qual scope L' f cdv) e) (fun _ s'' => E e s'') (fun e' s'' => E e' s'') s')
        { s with heap := h₁, toks := s.toks + binds.length })
    (hcell : ∀ x ∈ scope.names, x.2 ≠ .cell) (hco : scope.isCoroutine = false) (hgen : scope.isGenerator = false) (hk : scope.kind = .function) :
    wpAny (model prog w) A (call (.ref f) pos kws) Q E s := by
  refine wpAny_call (codeAny_call_def (fd := fnOf name qual params body scope dV kV doc pm an cdv ct) (body := body) (binds := binds) hroom (H.keep _ _ (X _ _ ho)) rfl (T.nolimit.keeps H.keep) (codeRec_of (X.keeps H.keep) hcd) rfl hbind hcell hloc (fun h₁ hns hk₁ => ?_) hco hgen hk)
  exact wpAny_mono (h s.heap.objs.size h₁ ⟨hns, fun b o e => hk₁ b o (H.keep b o e), Nat.le_of_eq hz⟩
    (fun p hp => ⟨hk₁ _ _ (H.led p hp).1, Nat.ne_of_lt (Heap.lt_size (H.led p hp).1), (H.led p hp).2⟩) (Nat.le_of_eq hz) fun p hp => Heap.lt_size (H.led p hp).1) (fun _ _ x => x) fun _ _ x => x

theorem h_enterC (B : Below A base outer g) (H : Hid g s.heap touched) (hz : g.objs.size = s.heap.objs.size) (X : K.In g) (T : Top p loose mean mg mb g)
    (ho : K.lookup f = some ⟨oc, od, .func (fnOf name qual params body scope dV kV doc pm an cdv ct), osl⟩) (hcd : codeIn K cdv qual = true) (hroom : A.depth < recursionLimit)
    (hbind : BindsTo s (fnOf name qual params body scope dV kV doc pm an cdv ct) ⟨pos, kws⟩ binds) (hkind : (binds.all fun y => scope.names.lookup y.1 == some .local || scope.names.lookup y.1 == some .cell) = true)
    (hnd : ((cellsFrom 0 scope.names []).map (·.1)).Nodup)
    (h : ∀ L' h₁ tk cells, Fr g L' h₁ (bindL (envOfC qual scope L' f cdv).kindOf binds fun _ => none) → News g L' h₁ (cells ++ touched) →
      CellsAre (bindC (envOfC qual scope L' f cdv).kindOf binds fun _ => none) (cellsFrom (L' + 1) scope.names []) cells → g.objs.size ≤ L' → (∀ p ∈ touched, p.1 < L') →
      wpAny (model prog w) (A.deeper (envOfC qual scope L' f cdv)) (execs body (envOfC qual scope L' f cdv))
        (fun fl s' => HEnd Q (match fl with | .ret v => v | _ => .none) s')
        (fun e s' => wpAny (model prog w) (A.deeper (envOfC qual scope L' f cdv)) (leaving (envOfC qual scope L' f cdv) e) (fun _ s'' => E e s'') (fun e' s'' => E e' s'') s')
        { s with heap := h₁, toks := tk })
    (hco : scope.isCoroutine = false) (hgen : scope.isGenerator = false) (hk : scope.kind = .function) :
    wpAny (model prog w) A (call (.ref f) pos kws) Q E s := by
  refine wpAny_call (codeAny_call_function hroom (H.keep _ _ (X _ _ ho)) rfl hco hgen rfl (codeRec_of (X.keeps H.keep) hcd) (hbind _ _ _ _ ?_))
  refine wpAny_newFunctionEnv_cells hk (kindsX hkind _) fun env' he s' x => ?_
  subst he
  refine ⟨(T.nolimit.keeps H.keep).keeps x.toInCall.keep, codeAny_func ?_⟩
  first | ((first | refine el_0_4 (x.done) ?_ | refine el_1_3 (x.done) ?_ | refine el_2_2 (x.done) ?_ | refine el_3_1 (x.done) ?_); intro h₁ tk zq1 _; subst zq1) | obtain ⟨h₁, tk, rfl, _⟩ := x.done
  have hk₁ := x.toInCall.keep
  first | ((first | refine el_0_3 (Cl.news (h₀ := s.heap) (Nat.le_refl _) fun n c hm => ⟨x.cell n c (lookup_of_mem_nodup (cellsFrom_names scope.names 0 (s.heap.objs.size + 1) [] [] rfl ▸ hnd) hm), x.above n c hm⟩) ?_ | refine el_1_2 (Cl.news (h₀ := s.heap) (Nat.le_refl _) fun n c hm => ⟨x.cell n c (lookup_of_mem_nodup (cellsFrom_names scope.names 0 (s.heap.objs.size + 1) [] [] rfl ▸ hnd) hm), x.above n c hm⟩) ?_ | refine el_2_1 (Cl.news (h₀ := s.heap) (Nat.le_refl _) fun n c hm => ⟨x.cell n c (lookup_of_mem_nodup (cellsFrom_names scope.names 0 (s.heap.objs.size + 1) [] [] rfl ▸ hnd) hm), x.above n c hm⟩) ?_); intro cells NC Y) | obtain ⟨cells, NC, Y⟩ := Cl.news (h₀ := s.heap) (Nat.le_refl _) fun n c hm => ⟨x.cell n c (lookup_of_mem_nodup (cellsFrom_names scope.names 0 (s.heap.objs.size + 1) [] [] rfl ▸ hnd) hm), x.above n c hm⟩
  refine wpAny_mono (h s.heap.objs.size h₁ tk cells ⟨x.toInCall.ns, fun b o e => hk₁ b o (H.keep b o e), Nat.le_of_eq hz⟩ (fun p hp => ?_) Y (Nat.le_of_eq hz) fun p hp => Heap.lt_size (H.led p hp).1) (fun _ _ x => x) fun _ _ x => x
  rcases List.mem_append.mp hp with hp | hp
  · refine ⟨(NC p hp).1, (NC p hp).2.1, ?_⟩
    cases q : g.get? p.1 with
    | none => rfl
    | some o => have := H.keep _ _ q; rw [(NC p hp).2.2] at this; cases this
  · exact ⟨hk₁ _ _ (H.led p hp).1, Nat.ne_of_lt (Heap.lt_size (H.led p hp).1), (H.led p hp).2⟩

theorem h_leave {R : Value → Shared → Prop} {h' : Heap} {L' : Addr} {m' : Str → Option Value} {news' : Ledger} {v : Value} {tk' : Nat} {Post : Ledger → Ledger → Value → Prop} (tl upd : Ledger)
    (hret : ∀ r tl upd h' tk', Hid g h' (tl ++ upd) → upd.map (·.1) = touched.map (·.1) → (∀ p ∈ tl, ∀ q ∈ touched, Apt p.1 q.1) → (tl.map (·.1)).Pairwise Apt → Post tl upd r → R r { s with heap := h', toks := tk' })
    (F : Fr g L' h' m') (N : News g L' h' news') (hs : ∀ p ∈ tl ++ upd, p ∈ news') (e : upd.map (·.1) = touched.map (·.1)) (lo : ∀ p ∈ tl, ∀ q ∈ touched, Apt p.1 q.1) (pw : (tl.map (·.1)).Pairwise Apt) (P : Post tl upd v) :
    HEnd R v { s with heap := h', toks := tk' } :=
  hret v tl upd h' tk' ⟨F.keep, fun p hp => ⟨(N p (hs p hp)).1, (N p (hs p hp)).2.2⟩⟩ e lo pw P
end

end
-- FN
section
open PySem PySem.Spec PySem.W PyProof.Rows PySem.Calls
open Builtin Builtin.ObjectAttr
/-- what a function object and the dict of its attributes look like -/
theorem fn_slot_sa : Slot "function" "__setattr__" "object.__setattr__" := .of (owner := "object") (n := "__setattr__") (by rw [typeLookup_type, builtinLookup_eq_fast]; kernel_rfl) (by decide +kernel) (by decide +kernel) (by decide +kernel)
    (by first | exact .inl (by decide +kernel) | exact .inr (by decide +kernel)) (by rw [isSubtype_type]; kernel_rfl)
theorem fn_slot_ga : Slot "function" "__getattribute__" "object.__getattribute__" := .of (owner := "object") (n := "__getattribute__") (by rw [typeLookup_type, builtinLookup_eq_fast]; kernel_rfl) (by decide +kernel) (by decide +kernel) (by decide +kernel)
    (by first | exact .inl (by decide +kernel) | exact .inr (by decide +kernel)) (by rw [isSubtype_type]; kernel_rfl)
theorem fn_no_getattr : typeLookup (.type "function") "__getattr__" = pure none := am_miss_of_fast (by kernel_rfl)
theorem fn_args_sa (a b c : Value) : argsOk "object.__setattr__" ⟨[a, b, c], []⟩ := by unfold argsOk; kernel_rfl
theorem fn_passes (self : Value) : refuseLoop self "__setattr__" [.type "function", .type "object"] = pure () := by kernel_rfl
theorem fn_mro : mroOf (.type "function") = pure [.type "function", .type "object"] := by kernel_rfl

section
variable {prog : Program} {w : World} {A : Around} {E : Value → Shared → Prop} {s : Shared} {a D : Addr} {o : Obj} {fd : FuncData} {name : Str} {v : Value} {m : Str → Option Value}

set_option maxHeartbeats 2000000 in
theorem fn_load {ex : Bool} {Q : Value → Shared → Prop} (hx : s.heap.get? a = some o) (hc : o.cls = .type "function") (hdat : o.data = .func fd) (hd : o.dict = some D) (hn : s.heap.Ns D m) (hv : m name = some v)
    (hmiss : typeLookup (.type "function") name = pure none) (hh : handedOut v = pure v) (hq : ∀ tk, Q v { s with toks := tk }) :
    wpAny (model prog w) A (getAttr (.ref a) name ex) Q E s := by
  first | ((first | refine el_0_4 (o) ?_ | refine el_1_3 (o) ?_ | refine el_2_2 (o) ?_ | refine el_3_1 (o) ?_); (try clear o); intro c dct dat sl) | obtain ⟨c, dct, dat, sl⟩ := o
  simp only at hc hdat hd
  subst hc hdat hd
  first | ((first | refine el_0_5 (s) ?_ | refine el_1_4 (s) ?_ | refine el_2_3 (s) ?_ | refine el_3_2 (s) ?_ | refine el_4_1 (s) ?_); (try clear s); intro hp g d t os) | obtain ⟨hp, g, d, t, os⟩ := s
  have hT : ∀ tk', (⟨hp, g, d, tk', os⟩ : Shared).TypeIs (.ref a) "function" := fun _ => ⟨_, hx, rfl⟩
  have f3 := fn_slot_ga.lookup
  have f4 := fn_slot_ga.bind (.ref a)
  have f5 := fn_no_getattr
  cases ex <;> (
    unfold getAttr getAttrBy
    repeat (any_goals ((fail_if_success (with_reducible show ∃ _, _)); first | with_reducible assumption | exact hT _ | ((with_reducible show wpAny _ _ (call (Value.builtin "object.__getattribute__") _ _) _ _ _); refine wpAny_call_entry fn_slot_ga (hT _) F.entry_object_getattribute ?_ (F.args_object_getattribute_2 _ _)) | (with_reducible refine wpAny_nsGet hn ?_; rw [hv]) | wp_step))
    exact ⟨_, rfl, by show wpAny _ _ (handedOut v) _ _ _; rw [hh]; exact wpAny_pure (hq _)⟩)

/-- f.name = v on a function object -/
theorem fn_storeTail {tk : Tok} {h : Heap} {g : Array GenState} {d : Drawn} {t : Nat} {os : OsState} {Q : PySem.Fin → Shared → Prop} {ns : List Str} (hn : h.Ns1 D m) (hw : Within m ns) (hsz : ns.length ≤ sizeLine)
    (hq : ∀ h' tk', h'.Ns1 D (fun y => if y = name then some v else m y) → Heap.SameBut D h h' → Q (.done (.ret .none)) ⟨h', g, d, tk', os⟩) :
    wpAny (model prog w) A (storeInDict D (.str name tk) name v) Q E ⟨h, g, d, t, os⟩ := by
  unfold storeInDict newKeyGuard
  refine wpAny_bind (wpAny_pure (wpAny_bind (wpAny_nsSet1 hn fun h' hn' hs => ?_)))
  first | ((first | refine el_0_6 (hn'.count (Within.cons name v hw)) ?_ | refine el_1_5 (hn'.count (Within.cons name v hw)) ?_ | refine el_2_4 (hn'.count (Within.cons name v hw)) ?_ | refine el_3_3 (hn'.count (Within.cons name v hw)) ?_ | refine el_4_2 (hn'.count (Within.cons name v hw)) ?_ | refine el_5_1 (hn'.count (Within.cons name v hw)) ?_); intro oD esD epD hoD hdD hcD) | obtain ⟨oD, esD, epD, hoD, hdD, hcD⟩ := hn'.count (Within.cons name v hw)
  refine wpAny_bind (wpAny_lookBehind hoD (by rw [hdD]; exact pastItsLine_dict (Nat.le_trans hcD (by rw [List.length_cons]; omega))) ?_)
  wp_walk
  exact hq h' _ hn' hs

set_option maxHeartbeats 2000000 in
theorem fn_store {dct : Option Addr} {sl : Array (Option Value)} {h : Heap} {g : Array GenState} {d : Drawn} {t : Nat} {os : OsState} {Q : Unit → Shared → Prop}
    (hx : h.get? a = some ⟨.type "function", dct, .func fd, sl⟩) (hmiss : typeLookup (.type "function") name = pure none)
    (hq0 : dct = none → ∀ D h' tk', h.objs.size ≤ D → h'.get? a = some ⟨.type "function", some D, .func fd, sl⟩ → h'.Ns1 D (fun y => if y = name then some v else none) → (∀ b o, b ≠ a → h.get? b = some o → h'.get? b = some o) → Q () ⟨h', g, d, tk', os⟩)
    (hq1 : ∀ D, dct = some D → ∃ m ns, h.Ns1 D m ∧ Within m ns ∧ ns.length ≤ sizeLine ∧ ∀ h' tk', h'.Ns1 D (fun y => if y = name then some v else m y) → Heap.SameBut D h h' → Q () ⟨h', g, d, tk', os⟩) :
    wpAny (model prog w) A (setAttr (.ref a) name v) Q E ⟨h, g, d, t, os⟩ := by
  have hT : ∀ tk', (⟨h, g, d, tk', os⟩ : Shared).TypeIs (.ref a) "function" := fun _ => ⟨_, hx, rfl⟩
  have f3 := fn_slot_sa.lookup
  have f4 := fn_slot_sa.bind (.ref a)
  have hpass := fn_passes (.ref a)
  unfold setAttr callSpecial? specialOf
  repeat (any_goals ((fail_if_success (with_reducible show ∃ _, _)); first | with_reducible assumption | exact hT _ | ((with_reducible show wpAny _ _ (call (Value.builtin "object.__setattr__") _ _) _ _ _); refine wpAny_call_entry fn_slot_sa (hT _) F.entry_object_sa ?_ (fn_args_sa _ _ _); unfold Builtin.«object.__setattr__») | rw [refuse_eq] | (rw [fn_mro]) | (rw [hpass]) | wp_step))
  have fin : ∀ h' tk', Q () ⟨h', g, d, tk', os⟩ → ∃ v, PySem.Fin.done (Flow.ret Value.none) = PySem.Fin.done (Flow.ret v) ∧ wpAny (model prog w) A (pure (some v)) (fun a s' => wpAny (model prog w) A (match a with | some val => pure PUnit.unit | x => unsupported "internal:no-__setattr__") Q E s') E ⟨h', g, d, tk', os⟩ :=
    fun h' tk' q => ⟨_, rfl, wpAny_pure (wpAny_pure q)⟩
  cases dct with
  | some D =>
    first | ((first | refine el_0_6 (hq1 D rfl) ?_ | refine el_1_5 (hq1 D rfl) ?_ | refine el_2_4 (hq1 D rfl) ?_ | refine el_3_3 (hq1 D rfl) ?_ | refine el_4_2 (hq1 D rfl) ?_ | refine el_5_1 (hq1 D rfl) ?_); intro m ns hn hw hsz hq) | obtain ⟨m, ns, hn, hw, hsz, hq⟩ := hq1 D rfl
    refine wpAny_pure ?_
    exact fn_storeTail hn hw hsz fun h' tk' hn' hs => fin _ _ (hq _ _ hn' hs)
  | none =>
    have hxs : a ≠ h.objs.size := Nat.ne_of_lt (Heap.lt_size hx)
    have hx₁ : (h.push { cls := .type "dict", data := .dict #[] }).get? a = some ⟨.type "function", none, .func fd, sl⟩ := Heap.get?_push_of_some _ hx
    rw [if_neg (show ¬ (!true || !typeHasDict (Value.type "function")) = true from by decide +kernel)]
    dsimp only
    refine wpAny_bind (wpAny_alloc' ?_)
    refine wpAny_bind (wpAny_update' hx₁ ?_)
    refine wpAny_of_eq (a := some h.objs.size) (by unfold dictMade; dsimp only; rw [if_neg (by decide +kernel)]) ?_
    have hgd : ((h.push { cls := .type "dict", data := .dict #[] }).update a fun o => { cls := o.cls, dict := some h.objs.size, data := o.data, slots := o.slots }).get? h.objs.size
        = some { cls := .type "dict", data := .dict #[] } :=
      (Heap.get?_update_ne _ _ _ _ hxs.symm).trans (Heap.get?_push_at rfl rfl)
    have hnd : ((h.push { cls := .type "dict", data := .dict #[] }).update a fun o => { cls := o.cls, dict := some h.objs.size, data := o.data, slots := o.slots }).Ns h.objs.size (fun _ => none) :=
      ⟨_, #[], _, hgd, rfl, fun e he => absurd he (by simp), fun _ => rfl⟩
    refine fn_storeTail (Heap.Ns1.of_empty hnd) Within.nil (by decide +kernel) fun h' tk' hn' hs => fin _ _ (hq0 rfl _ _ _ (Nat.le_refl _) ?_ hn' fun b ob hb e => ?_)
    · exact (hs.2 a hxs).trans (Heap.get?_update_self _ hx₁ rfl)
    · exact (hs.2 b (Nat.ne_of_lt (Heap.lt_size e))).trans ((Heap.get?_update_ne _ _ _ _ hb).trans (Heap.get?_push_of_some _ e))

theorem fn_canon : (Manifest.canonical "object.__getattribute__" != "object.__getattribute__") = false := by decide +kernel
set_option maxHeartbeats 2000000 in
theorem fn_method {pl : Sem Bool} {Q : Value × List Value → Shared → Prop} (hx : s.heap.get? a = some o) (hc : o.cls = .type "function") (hdat : o.data = .func fd) (hd : o.dict = some D) (hn : s.heap.Ns D m) (hv : m name = some v)
    (hmiss : typeLookup (.type "function") name = pure none) (hh : handedOut v = pure v) (hq : ∀ tk, Q (v, []) { s with toks := tk }) :
    wpAny (model prog w) A (getMethod (.ref a) name pl) Q E s := by
  have hcan := fn_canon
  have hT : s.TypeIs (.ref a) "function" := ⟨_, hx, hc⟩
  have f3 := fn_slot_ga.lookup
  have f5 := fn_no_getattr
  have go : wpAny (model prog w) A (getAttr (.ref a) name) (fun v s' => wpAny (model prog w) A (pure (v, [])) Q E s') E s := fn_load hx hc hdat hd hn hv hmiss hh fun tk => wpAny_pure (hq tk)
  first | ((first | refine el_0_4 (o) ?_ | refine el_1_3 (o) ?_ | refine el_2_2 (o) ?_ | refine el_3_1 (o) ?_); (try clear o); intro c dct dat sl) | obtain ⟨c, dct, dat, sl⟩ := o
  simp only at hc hdat hd
  subst hc hdat hd
  first | ((first | refine el_0_5 (s) ?_ | refine el_1_4 (s) ?_ | refine el_2_3 (s) ?_ | refine el_3_2 (s) ?_ | refine el_4_1 (s) ?_); (try clear s); intro hp g d t os) | obtain ⟨hp, g, d, t, os⟩ := s
  unfold getMethod specialOf
  repeat (any_goals ((fail_if_success (with_reducible show ∃ _, _)); first | with_reducible assumption | (with_reducible show wpAny _ _ (getAttr (Value.ref _) _ _) _ _ _; exact go) | wp_step))
end

/-- the dict of a function's attributes, as an object -/
noncomputable def NsO (o : Obj) (m : Str → Option Value) : Prop := ∃ es ep, o.data = .dict es ep ∧ StrKeys es ∧ UniqKeys es ∧ ∀ name, nsFind es name = m name
theorem NsO.at {h : Heap} {d : Addr} {o : Obj} {m : Str → Option Value} (x : NsO o m) (e : h.get? d = some o) : h.Ns1 d m := let ⟨es, ep, r⟩ := x; ⟨o, es, ep, e, r⟩
theorem NsO.of {h : Heap} {d : Addr} {m : Str → Option Value} (x : h.Ns1 d m) : ∃ o, h.get? d = some o ∧ NsO o m := by
  first | ((first | refine el_0_5 (x) ?_ | refine el_1_4 (x) ?_ | refine el_2_3 (x) ?_ | refine el_3_2 (x) ?_ | refine el_4_1 (x) ?_); (try clear x); intro o es ep e r) | obtain ⟨o, es, ep, e, r⟩ := x
  exact ⟨o, e, es, ep, r⟩
section
variable {prog : Program} {w : World} {A : Around} {E : Value → Shared → Prop} {s : Shared} {h₀ : Heap} {L f D : Addr} {mf m : Str → Option Value} {news : List (Addr × Obj)} {g : Obj → List (Addr × Obj)} {fd : FuncData} {sl : Array (Option Value)} {name : Str} {v : Value} {oD : Obj}

theorem fnK_load {ex : Bool} {Q : Value → Shared → Prop} (F : Fr h₀ L s.heap mf) (N : News h₀ L s.heap news) (hf : (f, ⟨.type "function", some D, .func fd, sl⟩) ∈ news) (hD : (D, oD) ∈ news) (hn : NsO oD m) (hv : m name = some v)
    (hmiss : typeLookup (.type "function") name = pure none) (hh : handedOut v = pure v) (hq : ∀ tk, Q v { s with toks := tk }) : wpAny (model prog w) A (getAttr (.ref f) name ex) Q E s :=
  fn_load (N.get hf) rfl rfl rfl (hn.at (N.get hD)).ns hv hmiss hh hq
theorem fnK_method {pl : Sem Bool} {Q : Value × List Value → Shared → Prop} (F : Fr h₀ L s.heap mf) (N : News h₀ L s.heap news) (hf : (f, ⟨.type "function", some D, .func fd, sl⟩) ∈ news) (hD : (D, oD) ∈ news) (hn : NsO oD m) (hv : m name = some v)
    (hmiss : typeLookup (.type "function") name = pure none) (hh : handedOut v = pure v) (hq : ∀ tk, Q (v, []) { s with toks := tk }) : wpAny (model prog w) A (getMethod (.ref f) name pl) Q E s :=
  fn_method (N.get hf) rfl rfl rfl (hn.at (N.get hD)).ns hv hmiss hh hq

theorem fnK_store0 {Q : Unit → Shared → Prop} (F : Fr h₀ L s.heap mf) (N : News h₀ L s.heap news) (U : UpdF f ⟨.type "function", none, .func fd, sl⟩ news g) (hmiss : typeLookup (.type "function") name = pure none)
    (hq : ∀ D oD h' tk', Fr h₀ L h' mf → News h₀ L h' ((D, oD) :: g ⟨.type "function", some D, .func fd, sl⟩) → NsO oD (fun y => if y = name then some v else none) → (∀ p ∈ news, p.1 < D) → Q () { s with heap := h', toks := tk' }) :
    wpAny (model prog w) A (setAttr (.ref f) name v) Q E s := by
  first | ((first | refine el_0_6 (U.split) ?_ | refine el_1_5 (U.split) ?_ | refine el_2_4 (U.split) ?_ | refine el_3_3 (U.split) ?_ | refine el_4_2 (U.split) ?_ | refine el_5_1 (U.split) ?_); intro pre post zq1 hg a b; subst zq1) | obtain ⟨pre, post, rfl, hg, a, b⟩ := U.split
  have z := N (f, _) (List.mem_append_right _ (.head _))
  first | ((first | refine el_0_5 (s) ?_ | refine el_1_4 (s) ?_ | refine el_2_3 (s) ?_ | refine el_3_2 (s) ?_ | refine el_4_1 (s) ?_); (try clear s); intro hp gn d t os) | obtain ⟨hp, gn, d, t, os⟩ := s
  refine fn_store (h := hp) z.1 hmiss (fun _ D h' tk' lo hf' hn' hk => ?_) (fun D e => by cases e)
  first | ((first | refine el_0_3 (NsO.of hn') ?_ | refine el_1_2 (NsO.of hn') ?_ | refine el_2_1 (NsO.of hn') ?_); intro oD hoD hN) | obtain ⟨oD, hoD, hN⟩ := NsO.of hn'
  have Lf : f ≠ L := z.2.1
  have LD : D ≠ L := Nat.ne_of_gt (Nat.lt_of_lt_of_le F.ns.lt lo)
  refine hq D oD h' tk' ⟨F.ns.at' fun o e => hk L o (Ne.symm Lf) e, fun c o e => hk c o (fun q => by rw [q, z.2.2] at e; cases e) (F.keep c o e), F.above⟩ (fun p hp' => ?_) hN (fun p hp' => Nat.lt_of_lt_of_le (Heap.lt_size (N p hp').1) lo)
  rcases List.mem_cons.mp hp' with rfl | hp'
  · refine ⟨hoD, LD, ?_⟩
    exact Heap.get?_none_of_le (Nat.le_trans F.above (Nat.le_of_lt (Nat.lt_of_lt_of_le F.ns.lt lo)))
  · rw [hg] at hp'
    rcases List.mem_append.mp hp' with hp' | hp'
    · have y := N p (List.mem_append_left _ hp')
      exact ⟨hk _ _ (a p hp') y.1, y.2⟩
    · rcases List.mem_cons.mp hp' with rfl | hp'
      · exact ⟨hf', z.2⟩
      · have y := N p (List.mem_append_right _ (.tail _ hp'))
        exact ⟨hk _ _ (b p hp') y.1, y.2⟩

theorem fnK_store {Q : Unit → Shared → Prop} {ns : List Str} (F : Fr h₀ L s.heap mf) (N : News h₀ L s.heap news) (hf : (f, ⟨.type "function", some D, .func fd, sl⟩) ∈ news) (U : UpdF D oD news g) (hn : NsO oD m) (hw : Within m ns) (hsz : ns.length ≤ sizeLine) (hmiss : typeLookup (.type "function") name = pure none)
    (hq : ∀ oD' h' tk', Fr h₀ L h' mf → News h₀ L h' (g oD') → NsO oD' (fun y => if y = name then some v else m y) → Q () { s with heap := h', toks := tk' }) :
    wpAny (model prog w) A (setAttr (.ref f) name v) Q E s := by
  have zf := N _ hf
  first | ((first | refine el_0_6 (U.split) ?_ | refine el_1_5 (U.split) ?_ | refine el_2_4 (U.split) ?_ | refine el_3_3 (U.split) ?_ | refine el_4_2 (U.split) ?_ | refine el_5_1 (U.split) ?_); intro pre post zq2 hg a b; subst zq2) | obtain ⟨pre, post, rfl, hg, a, b⟩ := U.split
  have z := N (D, oD) (List.mem_append_right _ (.head _))
  first | ((first | refine el_0_5 (s) ?_ | refine el_1_4 (s) ?_ | refine el_2_3 (s) ?_ | refine el_3_2 (s) ?_ | refine el_4_1 (s) ?_); (try clear s); intro hp gn d t os) | obtain ⟨hp, gn, d, t, os⟩ := s
  refine fn_store (h := hp) zf.1 hmiss (fun e => by cases e) (fun D' e => ?_)
  cases e
  refine ⟨m, ns, hn.at z.1, hw, hsz, fun h' tk' hn' hs => ?_⟩
  first | ((first | refine el_0_3 (NsO.of hn') ?_ | refine el_1_2 (NsO.of hn') ?_ | refine el_2_1 (NsO.of hn') ?_); intro oD' hoD hN) | obtain ⟨oD', hoD, hN⟩ := NsO.of hn'
  refine hq oD' h' tk' (F.change hs z.2.1 z.2.2) ?_ hN
  rw [hg]
  exact news_set N a b hs hoD
end

end
local macro_rules | `(tactic| infer_instance) => `(tactic| first | with_reducible assumption | (focus (with_reducible (iterate 12 (first | done | (rename _ ∧ _ => hc; first | exact hc.1 | exact hc.2.1 | exact hc.2 | exact hc.2.2.1 | exact hc.2.2 | exact hc.2.2.2.1 | exact hc.2.2.2 | exact hc.2.2.2.2.1 | exact hc.2.2.2.2 | exact hc.2.2.2.2.2.1 | exact hc.2.2.2.2.2 | exact hc.2.2.2.2.2.2.1 | exact hc.2.2.2.2.2.2 | exact hc.2.2.2.2.2.2.2.1 | exact hc.2.2.2.2.2.2.2 | exact hc.2.2.2.2.2.2.2.2.1 | exact hc.2.2.2.2.2.2.2.2 | exact hc.2.2.2.2.2.2.2.2.2.1 | clear hc) | skip)); done)))
local macro_rules | `(tactic| omega) => `(tactic| first | decide | ((first | with_reducible show _ < _ | with_reducible show _ ≤ _ | with_reducible show _ ≠ _ | with_reducible show ¬ _); first | (with_reducible refine Nat.ne_of_gt ?_; infer_instance) | (with_reducible refine Nat.ne_of_lt ?_; infer_instance) | infer_instance | with_reducible exact wk2 (by assumption) (by decide) | with_reducible exact wk3 (by assumption) (by decide) | with_reducible exact wk4 (by assumption) (by decide) | with_reducible exact wk6 (by assumption) (by decide) | (with_reducible refine Nat.ne_of_lt ?_; (repeat (first | exact Nat.lt_succ_self _ | refine Nat.lt_succ_of_lt ?_)); done) | (with_reducible refine Nat.ne_of_gt ?_; (repeat (first | exact Nat.lt_succ_self _ | refine Nat.lt_succ_of_lt ?_)); done) | with_reducible exact iw1 (by assumption) (by decide) | with_reducible exact iw2 (by assumption) (by decide) | with_reducible exact iw3 (by assumption) (by decide) | with_reducible exact iw4 (by assumption) (by decide) | with_reducible exact iw5 (by assumption) (by decide)) | lia | ((first | with_reducible show _ < _ | with_reducible show _ ≤ _ | with_reducible show _ ≠ _ | with_reducible show ¬ _); first | exact wk2 (by assumption) (by decide) | exact wk3 (by assumption) (by decide) | exact wk4 (by assumption) (by decide) | exact wk6 (by assumption) (by decide)) | fail "om")
local macro_rules | `(tactic| walk_at "execs cons") => `(tactic| (k_here; with_reducible refine er_cons ?_))
local macro_rules | `(tactic| walk_at "S1") => `(tactic| first | with_reducible refine er_last ?_ | with_reducible refine er_next ?_ | with_reducible refine er_ret ?_ | with_reducible refine er_brk ?_ | with_reducible refine er_cont ?_ | (k_unfold; (try dsimp only); (try k_unmd); (try k_fold)) | (k_end; wrow_close) | walk1 | (dsimp only; walk1) | (leave1; try dsimp only))
local macro_rules | `(tactic| size_fits) => `(tactic| with_reducible assumption)
local macro_rules | `(tactic| k_all) => `(tactic| with_reducible assumption)
-- B3
section
open PySem PySem.Spec PySem.W PyProof.Rows PySem.Calls
section
variable {prog : Program} {w : World} {A : Around} {s : Shared} {g : Heap} {p : Program} {loose : List Str} {mean : ExcName → Option Value} {mg mb : Str → Option Value} {touched : Ledger} {Q E : Value → Shared → Prop}
  {name qual : Str} {params : Arguments} {body : Expr} {scope : Scope} {clos : List (Str × Addr)} {pm ct : Value} {c' f : Addr} {fo oc : Obj} {vs : Array Value} {tq : Tok} {pos : List Value} {kws : List (Str × Value)} {binds : List (Str × Value)}

/-- the call of a lambda that the ledger holds -/
theorem h_enterE (H : Hid g s.heap touched) (hz : g.objs.size = s.heap.objs.size) (T : Top p loose mean mg mb g)
    (ho : (f, fo) ∈ touched) (hd : fo.data = .func (kla_fn name qual params body scope clos pm (.ref c') ct)) (hcd : (c', oc) ∈ touched) (hc1 : oc.data = .fields vs) (hc2 : vs[1]? = some (.str qual tq)) (hroom : A.depth < recursionLimit)
    (hbind : BindsTo s (kla_fn name qual params body scope clos pm (.ref c') ct) ⟨pos, kws⟩ binds) (hloc : ∀ y ∈ binds, scope.names.lookup y.1 = some .local)
    (h : ∀ L' h₁ tk', Fr g L' h₁ (fun y => binds.reverse.lookup y) → News g L' h₁ touched → g.objs.size ≤ L' → (∀ p ∈ touched, p.1 < L') →
      wpAny (model prog w) (A.deeper (envX qual scope L' f (.ref c') clos)) (eval body (envX qual scope L' f (.ref c') clos))
        (fun v s' => HEnd Q v s')
        (fun e s' => wpAny (model prog w) (A.deeper (envX qual scope L' f (.ref c') clos)) (leaving (envX qual scope L' f (.ref c') clos) e) (fun _ s'' => E e s'') (fun e' s'' => E e' s'') s')
        { s with heap := h₁, toks := tk' })
    (hcell : ∀ x ∈ scope.names, x.2 ≠ .cell) (hco : scope.isCoroutine = false) (hgen : scope.isGenerator = false) (hk : scope.kind = .function) :
    wpAny (model prog w) A (call (.ref f) pos kws) Q E s := by
  have hL : s.heap.NoLimit := T.nolimit.keeps H.keep
  refine wpAny_call (kla_callFunE hroom (H.led _ ho).1 hd hco hgen rfl ⟨c', oc, vs, tq, rfl, (H.led _ hcd).1, hc1, hc2⟩ (hbind _ _ _ _ ?_))
  refine wpAny_newFunctionEnv hcell hloc (fun h₁ hns hsb => ⟨hL.fresh _ hsb, ?_⟩) hk
  have hk₁ : ∀ b o, s.heap.get? b = some o → h₁.get? b = some o := fun b o e => hsb.extBut b o (Nat.ne_of_lt (Heap.lt_size e)) (Heap.get?_push_of_some _ e)
  refine kla_codeExpr ?_
  exact wpAny_mono (h s.heap.objs.size h₁ _ ⟨hns, fun b o e => hk₁ b o (H.keep b o e), Nat.le_of_eq hz⟩
    (fun p hp => ⟨hk₁ _ _ (H.led p hp).1, Nat.ne_of_lt (Heap.lt_size (H.led p hp).1), (H.led p hp).2⟩) (Nat.le_of_eq hz) fun p hp => Heap.lt_size (H.led p hp).1) (fun _ _ x => x) fun _ _ x => x
end

/-- the object of a node's code: it tells its own name -/
noncomputable def CodeOk (oc : Obj) : Prop := ∃ vs t, oc.data = .fields vs ∧ vs[1]? = some (.str ((Str.ofString "_law_node" ++ Str.ofString ".<locals>.") ++ Str.ofString "<lambda>") t)
noncomputable def tab2 (k1 k2 : Addr) : Obj := tabObj (#[] ++ #[rawInt 94, rawInt 11, Value.ref k1] ++ #[rawInt 98, rawInt 18, Value.ref k2])
noncomputable def nodeM (tag : Str) (tt : Tok) (at_ Pt Ap : Addr) : Str → Option Value := fun y =>
  if y = Str.ofString "makeelement" then some (Value.ref 125) else if y = Str.ofString "append" then some (Value.ref Ap) else if y = Str.ofString "parts" then some (Value.ref Pt) else if y = Str.ofString "attrib" then some (Value.ref at_) else if y = Str.ofString "tag" then some (Value.str tag tt) else none
/-- what a call of a node's append does -/
noncomputable def Appends (w : World) (p : Program) (loose : List Str) (mean : ExcName → Option Value) (mg mb : Str → Option Value) (k2 : Addr) (Ap : Addr) (oAp : Obj) (c : Addr) (oc : Obj) (Pt : Addr) : Prop :=
  ∀ (oc2 : Obj), CodeOk oc2 → ∀ (items : Array Value) (n : Nat) (x : Addr), items.size ≤ 1000 →
    HSpec 2 w p loose mean mg mb Ap [.ref x] [] [(Ap, oAp), (c, oc), (k2, oc2), (Pt, listOf items n)] (fun tl upd r => r = .none ∧ upd = [(Ap, oAp), (c, oc), (k2, oc2), (Pt, listOf (items.push (.ref x)) (n + 1))])

structure NodeRec where
  f : Addr
  D : Addr
  Ap : Addr
  c : Addr
  Pt : Addr
  at_ : Addr
  tag : Str
  tt : Tok
  fd : FuncData
  sl : Array (Option Value)
  oD : Obj
  fdA : FuncData
  slA : Array (Option Value)
  oc : Obj
abbrev NodeRec.oAp (r : NodeRec) : Obj := ⟨.type "function", none, .func r.fdA, r.slA⟩
structure NodeRec.Ok (r : NodeRec) (w : World) (p : Program) (loose : List Str) (mean : ExcName → Option Value) (mg mb : Str → Option Value) (k2 : Addr) : Prop where
  dict : NsO r.oD (nodeM r.tag r.tt r.at_ r.Pt r.Ap)
  app : Appends w p loose mean mg mb k2 r.Ap r.oAp r.c r.oc r.Pt
abbrev NodeRec.fo (r : NodeRec) : Obj := ⟨.type "function", some r.D, .func r.fd, r.sl⟩

end
-- NODE
section
open PySem PySem.Spec PySem.W PyProof.Rows PySem.Calls
theorem node_first (w : World) (p : Program) (loose : List Str) (mean : ExcName → Option Value) (mg mb : Str → Option Value) (tag : Str) (tt : Tok) (at_ : Addr) :
    HSpec 2 w p loose mean mg mb 125 [.str tag tt, .ref at_] [] [(120, tabObj #[])] (fun tl upd r => ∃ (R : NodeRec) (k1 k2 : Addr) (oc1 oc2 : Obj), r = .ref R.f ∧ R.tag = tag ∧ R.tt = tt ∧ R.at_ = at_ ∧ R.Ok w p loose mean mg mb k2 ∧ CodeOk oc2 ∧
      tl = [(R.Ap, R.oAp), (k2, oc2), (R.D, R.oD), (R.f, R.fo), (k1, oc1), (R.Pt, listOf #[] 0), (R.c, R.oc)] ∧ upd = [(120, tab2 k1 k2)]) := by
  intro dp un gd cn cs L a ccd cl outer base g s Q E B H hz X T hk hdp hun hret
  have C : CodeHd g 124 120 := codeHd_of_K (c := 124) (P := 120) X (by kernel_rfl)
  w_on
  k_dflt (refine' h_enterC ?k1 ?k2 ?k3 ?k4 ?k5 ?k6 ?k7 ?k8 ?k9 ?kB ?kD ?_ ?c2 ?c3 ?c4; (case k1 => assumption); (case k2 => assumption); (case k3 => assumption); (case k4 => assumption); (case k5 => assumption); (case k6 => k_is); (case k7 => k_is); (case k8 => ktr_room); (case k9 => exact BindsTo.of_eq rfl); (case kB => exact rfl); (case kD => decide +kernel); (case c2 => exact rfl); (case c3 => exact rfl); (case c4 => exact rfl); k_whole; intro L' h' tk' cells' F' N' Y' z' l1; (try k_lt l1); revert L' h' tk' cells' F' N' Y' z' l1; intros; (rename CellsAre _ _ _ => Y'); k_cells Y'; (try (rename News _ _ _ _ => N'; simp only [List.cons_append, List.nil_append] at N'; revert N'; intro _)); (try dsimp only); (try k_unmd); (try k_fold); (try (refine let_A ?_; intro _; refine let_env ?_; intro _)))
  (try k_unmd); (try k_fold); repeat' (first | ((fail_if_success (fail_if_success k_gentoks)); (first | with_reducible refine flat2 ?_ | with_reducible refine flat1 ?_); intro _; (try dsimp only); (try k_unmd)) | ((fail_if_success (fail_if_success (with_reducible show wpAny _ _ (setAttr (Value.ref _) _ _) _ _ _))); k_dflt (first | (refine' fnK_store0 ?y9F ?y9N ?y9U ?y9mi ?_; (case y9F => k_asm); (case y9N => k_asm); (case y9U => k_updF); (case y9mi => exact am_miss_of_fast (by kernel_rfl)); k_whole; intro D' oD' h' tk' F' N' n' l1; (try dsimp only at N'); (try k_lt l1); revert D' oD' h' tk' F' N' n' l1; intros; (try k_sweep)) | (refine' fnK_store ?y9F ?y9N ?y9hf ?y9U ?y9n ?y9w ?y9z ?y9mi ?_; (case y9F => k_asm); (case y9N => k_asm); (case y9hf => k_mem); (case y9U => k_updF); (case y9n => k_asm); (case y9w => within_ways); (case y9z => size_fits); (case y9mi => exact am_miss_of_fast (by kernel_rfl)); k_whole; intro oD' h' tk' F' N' n'; (try dsimp only at N'); revert oD' h' tk' F' N' n'; intros; (try k_sweep)))) | walk_at "S1")
  try dsimp only
  rename Fr _ _ _ _ => F9
  rename News _ _ _ _ => N9
  rename NsO _ _ => n9
  refine h_leave [(_, _), (_, _), (_, _), (_, _), (_, _), (_, _), (_, _)] [(_, _)] hret F9 N9 (fun p hp => hp) rfl ?lo ?pw ⟨⟨_, _, _, _, _, _, tag, tt, _, _, _, _, _, _⟩, _, _, _, _, rfl, rfl, rfl, rfl, ⟨n9, ?app⟩, ?code, rfl, rfl⟩
  case lo => (repeat' (refine List.forall_mem_cons.mpr ⟨?_, ?_⟩)) <;> first | exact List.forall_mem_nil _ | ((repeat' (refine List.forall_mem_cons.mpr ⟨?_, ?_⟩)) <;> first | exact List.forall_mem_nil _ | (refine Apt.gt ?_; dsimp only; omega))
  case pw =>
    refine Desc.apt ?_
    simp only [List.map, Desc, and_true]
    (repeat' refine And.intro ?_ ?_) <;> omega
  case code => exact ⟨_, _, by assumption, by assumption⟩
  case app =>
    clear hret F9 N9 n9 H B X T hz hk hdp hun
    first | (intro oc2 zq1 items n x hsz; (try k_unmd); (try (first | (with_reducible refine fold_comp ?_; intro XL YL ZL) | (with_reducible refine fold_for ?_; intro QL EL) | (with_reducible refine fold_while ?_; intro QL RL EL) | k_fold)); (first | refine el_0_4 (zq1) ?_ | refine el_1_3 (zq1) ?_ | refine el_2_2 (zq1) ?_ | refine el_3_1 (zq1) ?_); (try clear zq1); intro vs2 t2 e1 e2) | rintro oc2 ⟨vs2, t2, e1, e2⟩ items n x hsz
    intro dp un gd cn cs L a ccd cl outer base g s Q E B H hz X T hk hdp hun hret
    have hsz' : items.size ≤ sizeLine := Nat.le_trans hsz (by decide +kernel)
    k_dflt (refine' h_enterE ?k2 ?k3 ?k5 ?k6 ?kd ?k7 ?kc1 ?kc2 ?k8 ?k9 ?kB ?_ ?c5 ?c2 ?c3 ?c4; (case k2 => assumption); (case k3 => assumption); (case k5 => assumption); (case k6 => k_mem); (case kd => exact rfl); (case k7 => k_mem); (case kc1 => assumption); (case kc2 => assumption); (case k8 => ktr_room); (case k9 => exact BindsTo.of_eq rfl); (case kB => exact locs rfl); (case c5 => decide); (case c2 => exact rfl); (case c3 => exact rfl); (case c4 => exact rfl); k_whole; intro L' h' tk' F' N' z' l1; (try k_lt l1); revert L' h' tk' F' N' z' l1; intros; (try dsimp only); (try k_unmd); (try k_fold); (try (refine let_A ?_; intro _; refine let_env ?_; intro _)))
    (try k_unmd); (try k_fold); repeat' (first | ((fail_if_success (fail_if_success k_gentoks)); (first | with_reducible refine flat2 ?_ | with_reducible refine flat1 ?_); intro _; (try dsimp only); (try k_unmd)) | ((fail_if_success (fail_if_success (with_reducible show wpAny _ _ (call (Value.builtin "list.append") _ _) _ _ _))); dsimp only [List.nil_append, List.cons_append]; (with_reducible show wpAny _ _ (call (Value.builtin _) [Value.ref _, _]) _ _ _); k_dflt (refine' append_K ?y9k1 ?y9k2 ?y9k3 ?_ ?y9z; (case y9k1 => k_asm); (case y9k2 => k_asm); (case y9k3 => k_upd); (case y9z => size_fits); k_whole); intro _ _ _; (try k_sweep)) | walk_at "S1")
    rename Fr _ _ _ _ => F9
    rename News _ _ _ _ => N9
    exact h_leave [] [(_, _), (_, _), (_, _), (_, _)] hret F9 N9 (fun p hp => hp) rfl (List.forall_mem_nil _) .nil ⟨rfl, rfl⟩

theorem node_next (w : World) (p : Program) (loose : List Str) (mean : ExcName → Option Value) (mg mb : Str → Option Value) (tag : Str) (tt : Tok) (at_ k1 k2 : Addr) (oc2 : Obj) (hoc : CodeOk oc2) :
    HSpec 2 w p loose mean mg mb 125 [.str tag tt, .ref at_] [] [(120, tab2 k1 k2), (k2, oc2)] (fun tl upd r => ∃ (R : NodeRec), r = .ref R.f ∧ R.tag = tag ∧ R.tt = tt ∧ R.at_ = at_ ∧ R.Ok w p loose mean mg mb k2 ∧
      tl = [(R.Ap, R.oAp), (R.D, R.oD), (R.f, R.fo), (R.Pt, listOf #[] 0), (R.c, R.oc)] ∧ upd = [(120, tab2 k1 k2), (k2, oc2)]) := by
  intro dp un gd cn cs L a ccd cl outer base g s Q E B H hz X T hk hdp hun hret
  have C : CodeHd g 124 120 := codeHd_of_K (c := 124) (P := 120) X (by kernel_rfl)
  unfold tab2 at H
  w_on
  k_dflt (refine' h_enterC ?k1 ?k2 ?k3 ?k4 ?k5 ?k6 ?k7 ?k8 ?k9 ?kB ?kD ?_ ?c2 ?c3 ?c4; (case k1 => assumption); (case k2 => assumption); (case k3 => assumption); (case k4 => assumption); (case k5 => assumption); (case k6 => k_is); (case k7 => k_is); (case k8 => ktr_room); (case k9 => exact BindsTo.of_eq rfl); (case kB => exact rfl); (case kD => decide +kernel); (case c2 => exact rfl); (case c3 => exact rfl); (case c4 => exact rfl); k_whole; intro L' h' tk' cells' F' N' Y' z' l1; (try k_lt l1); revert L' h' tk' cells' F' N' Y' z' l1; intros; (rename CellsAre _ _ _ => Y'); k_cells Y'; (try (rename News _ _ _ _ => N'; simp only [List.cons_append, List.nil_append] at N'; revert N'; intro _)); (try dsimp only); (try k_unmd); (try k_fold); (try (refine let_A ?_; intro _; refine let_env ?_; intro _)))
  (try k_unmd); (try k_fold); repeat' (first | ((fail_if_success (fail_if_success k_gentoks)); (first | with_reducible refine flat2 ?_ | with_reducible refine flat1 ?_); intro _; (try dsimp only); (try k_unmd)) | ((fail_if_success (fail_if_success (with_reducible show wpAny _ _ (setAttr (Value.ref _) _ _) _ _ _))); k_dflt (first | (refine' fnK_store0 ?y9F ?y9N ?y9U ?y9mi ?_; (case y9F => k_asm); (case y9N => k_asm); (case y9U => k_updF); (case y9mi => exact am_miss_of_fast (by kernel_rfl)); k_whole; intro D' oD' h' tk' F' N' n' l1; (try dsimp only at N'); (try k_lt l1); revert D' oD' h' tk' F' N' n' l1; intros; (try k_sweep)) | (refine' fnK_store ?y9F ?y9N ?y9hf ?y9U ?y9n ?y9w ?y9z ?y9mi ?_; (case y9F => k_asm); (case y9N => k_asm); (case y9hf => k_mem); (case y9U => k_updF); (case y9n => k_asm); (case y9w => within_ways); (case y9z => size_fits); (case y9mi => exact am_miss_of_fast (by kernel_rfl)); k_whole; intro oD' h' tk' F' N' n'; (try dsimp only at N'); revert oD' h' tk' F' N' n'; intros; (try k_sweep)))) | walk_at "S1")
  try dsimp only
  rename Fr _ _ _ _ => F9
  rename News _ _ _ _ => N9
  rename NsO _ _ => n9
  refine h_leave [(_, _), (_, _), (_, _), (_, _), (_, _)] [(_, _), (_, _)] hret F9 N9 (fun p hp => hp) rfl ?lo ?pw ⟨⟨_, _, _, _, _, _, tag, tt, _, _, _, _, _, _⟩, rfl, rfl, rfl, rfl, ⟨n9, ?app⟩, rfl, rfl⟩
  case lo => (repeat' (refine List.forall_mem_cons.mpr ⟨?_, ?_⟩)) <;> first | exact List.forall_mem_nil _ | ((repeat' (refine List.forall_mem_cons.mpr ⟨?_, ?_⟩)) <;> first | exact List.forall_mem_nil _ | (refine Apt.gt ?_; dsimp only; omega))
  case pw =>
    refine Desc.apt ?_
    simp only [List.map, Desc, and_true]
    (repeat' refine And.intro ?_ ?_) <;> omega
  case app =>
    clear hret F9 N9 n9 H B X T hz hk hdp hun
    first | (intro oc2 zq2 items n x hsz; (try k_unmd); (try (first | (with_reducible refine fold_comp ?_; intro XL YL ZL) | (with_reducible refine fold_for ?_; intro QL EL) | (with_reducible refine fold_while ?_; intro QL RL EL) | k_fold)); (first | refine el_0_4 (zq2) ?_ | refine el_1_3 (zq2) ?_ | refine el_2_2 (zq2) ?_ | refine el_3_1 (zq2) ?_); (try clear zq2); intro vs2 t2 e1 e2) | rintro oc2 ⟨vs2, t2, e1, e2⟩ items n x hsz
    intro dp un gd cn cs L a ccd cl outer base g s Q E B H hz X T hk hdp hun hret
    have hsz' : items.size ≤ sizeLine := Nat.le_trans hsz (by decide +kernel)
    k_dflt (refine' h_enterE ?k2 ?k3 ?k5 ?k6 ?kd ?k7 ?kc1 ?kc2 ?k8 ?k9 ?kB ?_ ?c5 ?c2 ?c3 ?c4; (case k2 => assumption); (case k3 => assumption); (case k5 => assumption); (case k6 => k_mem); (case kd => exact rfl); (case k7 => k_mem); (case kc1 => assumption); (case kc2 => assumption); (case k8 => ktr_room); (case k9 => exact BindsTo.of_eq rfl); (case kB => exact locs rfl); (case c5 => decide); (case c2 => exact rfl); (case c3 => exact rfl); (case c4 => exact rfl); k_whole; intro L' h' tk' F' N' z' l1; (try k_lt l1); revert L' h' tk' F' N' z' l1; intros; (try dsimp only); (try k_unmd); (try k_fold); (try (refine let_A ?_; intro _; refine let_env ?_; intro _)))
    (try k_unmd); (try k_fold); repeat' (first | ((fail_if_success (fail_if_success k_gentoks)); (first | with_reducible refine flat2 ?_ | with_reducible refine flat1 ?_); intro _; (try dsimp only); (try k_unmd)) | ((fail_if_success (fail_if_success (with_reducible show wpAny _ _ (call (Value.builtin "list.append") _ _) _ _ _))); dsimp only [List.nil_append, List.cons_append]; (with_reducible show wpAny _ _ (call (Value.builtin _) [Value.ref _, _]) _ _ _); k_dflt (refine' append_K ?y9k1 ?y9k2 ?y9k3 ?_ ?y9z; (case y9k1 => k_asm); (case y9k2 => k_asm); (case y9k3 => k_upd); (case y9z => size_fits); k_whole); intro _ _ _; (try k_sweep)) | walk_at "S1")
    rename Fr _ _ _ _ => F9
    rename News _ _ _ _ => N9
    exact h_leave [] [(_, _), (_, _), (_, _), (_, _)] hret F9 N9 (fun p hp => hp) rfl (List.forall_mem_nil _) .nil ⟨rfl, rfl⟩

end
-- B4
section
open PySem PySem.Spec PySem.W PyProof.Rows PySem.Calls PyProof.V
section
variable {K : Frag} {α : Type} {M : Model} {A : Around} {E : Value → Shared → Prop} {Q : α → Shared → Prop} {s : Shared}
theorem peek_to (X : K.In s.heap) (o : Obj) : ∀ (t : Sem α) (k : Addr → Sem α), peekA K ⟨M.prog, M.w.params⟩ t = some (o, k) → wpAny M A (alloc o >>= k) Q E s → wpAny M A t Q E s := by
  intro t
  induction t with
  | rule _ f ih => intro k e q Γ p hΓ; exact ih () k e q Γ p hΓ
  | point _ f ih => intro k e q Γ p hΓ; exact ih () k e q Γ p hΓ
  | ask f ih => intro k e q Γ p hΓ; exact ih _ k e q Γ p hΓ
  | load a _ f ih =>
    intro k e q Γ p hΓ
    simp only [peekA] at e
    split at e
    · rename_i ob ho; exact ⟨ob, X _ _ ho, ih ob k e q Γ p hΓ⟩
    · cases e
  | alloc ob f _ =>
    intro k e q
    have e : some (ob, f) = some (o, k) := e
    first | ((first | refine el_0_2 (Prod.mk.inj (Option.some.inj e)) ?_ | refine el_1_1 (Prod.mk.inj (Option.some.inj e)) ?_); intro e1 e2) | obtain ⟨e1, e2⟩ := Prod.mk.inj (Option.some.inj e)
    subst e1
    subst e2
    exact q
  | _ => intro k e; cases e
end
section
variable {prog : Program} {w : World} {A : Around} {s : Shared} {g : Heap} {K : Frag} {p : Program} {loose : List Str} {mean : ExcName → Option Value} {mg mb : Str → Option Value} {touched : Ledger} {Q E : Value → Shared → Prop}
  {name qual : Str} {params : Arguments} {body : List Stmt} {scope : Scope} {dV kV doc pm cdv ct oc : Value} {an od : Option Addr} {osl : Array (Option Value)} {f : Addr} {pos : List Value} {k nm : Str} {v : Value} {front : List (Str × Value)} {g₁ : Addr → Sem (List (Str × Value))}

theorem nsSet_new {D : Addr} {Q : Unit → Shared → Prop} (hD : s.heap.get? D = some (dictOf [] 0))
    (h : ∀ h', h'.get? D = some (dictOf [⟨PyData.keyHash w.params k, .str k s.toks, v⟩] 1) → Heap.SameBut D s.heap h' → Q () { s with heap := h', toks := s.toks + 1 }) : wpAny (model prog w) A (nsSet D k v) Q E s := by
  unfold nsSet
  refine wpAny_bind (wpAny_bind (wpAny_askSetting (wpAny_pure (wpAny_bind (wpAny_mkText (wpAny_bind (wpAny_loadPart hD ?_)))))))
  dsimp only
  have c : aRefKeyMayBeTheName k (#[] : Array DictEntry) = false := by rw [aRefKeyMayBeTheName_at]; simp
  rw [show ([] : List DictEntry).toArray = #[] from rfl, c]
  refine wpAny_updatePart hD (h _ ?_ (Heap.SameBut.update ..))
  have e : Obj.putName k (PyData.keyHash w.params k) (.str k s.toks) v (dictOf [] 0) = dictOf [⟨PyData.keyHash w.params k, .str k s.toks, v⟩] 1 := by
    rw [putName_dict]; rfl
  have ge : (s.heap.update D (Obj.putName k (PyData.keyHash w.params k) (.str k s.toks) v)).get? D = some _ := (Heap.get?_update_self _ hD (by rw [e]; rfl)).trans (congrArg some e)
  exact ge

theorem h_enterMore (H : Hid g s.heap touched) (hz : g.objs.size = s.heap.objs.size) (X : K.In g) (T : Top p loose mean mg mb g)
    (ho : K.lookup f = some ⟨oc, od, .func (fnOf name qual params body scope dV kV doc pm an cdv ct), osl⟩) (hcd : codeIn K cdv qual = true) (hroom : A.depth < recursionLimit)
    (hp : peekA K ⟨prog, w.params⟩ (bindArgs (fnOf name qual params body scope dV kV doc pm an cdv ct) ⟨pos, [(k, v)]⟩) = some (dictOf [] 0, g₁))
    (hk₁ : ∀ D, g₁ D = (forIn [(k, v)] PUnit.unit (fun x _ => (nsSet D x.1 x.2 >>= fun _ => pure (ForInStep.yield PUnit.unit))) >>= fun _ => pure (front ++ [(nm, Value.ref D)])))
    (hloc : ∀ D, ∀ y ∈ front ++ [(nm, Value.ref D)], scope.names.lookup y.1 = some .local)
    (h : ∀ D t L' h₁ tk', g.objs.size ≤ D → D < L' → Fr g L' h₁ (fun y => (front ++ [(nm, Value.ref D)]).reverse.lookup y) → News g L' h₁ ((D, dictOf [⟨PyData.keyHash w.params k, .str k t, v⟩] 1) :: touched) → (∀ p ∈ touched, p.1 < D) → (D == sysModules) = false →
      wpAny (model prog w) (A.deeper (envOf qual scope L' f cdv)) (execs body (envOf qual scope L' f cdv))
        (fun fl s' => HEnd Q (match fl with | .ret v => v | _ => .none) s')
        (fun e s' => wpAny (model prog w) (A.deeper (envOf qual scope L' f cdv)) (leaving (envOf qual scope L' f cdv) e) (fun _ s'' => E e s'') (fun e' s'' => E e' s'') s')
        { s with heap := h₁, toks := tk' })
    (hcell : ∀ x ∈ scope.names, x.2 ≠ .cell) (hco : scope.isCoroutine = false) (hgen : scope.isGenerator = false) (hk : scope.kind = .function) :
    wpAny (model prog w) A (call (.ref f) pos [(k, v)]) Q E s := by
  refine wpAny_call (codeAny_call_function (fd := fnOf name qual params body scope dV kV doc pm an cdv ct) (body := body) hroom (H.keep _ _ (X _ _ ho)) rfl hco hgen rfl (codeRec_of (X.keeps H.keep) hcd) ?_)
  refine peek_to (X.keeps H.keep) (dictOf [] 0) _ g₁ hp (wpAny_bind (wpAny_alloc ?_))
  rw [hk₁]
  have h1 : (s.heap.push (dictOf [] 0)).get? s.heap.objs.size = some (dictOf [] 0) := Heap.get?_push_size _ rfl
  rw [List.forIn_cons]
  refine wpAny_bind (wpAny_bind (wpAny_bind (nsSet_new (s := { s with heap := s.heap.push (dictOf [] 0) }) h1 fun h₂ hD hs => wpAny_pure ?_)))
  dsimp only
  rw [List.forIn_nil]
  refine wpAny_pure (wpAny_pure ?_)
  have hk2 : ∀ b o, s.heap.get? b = some o → h₂.get? b = some o := fun b o e => (hs.2 b (Nat.ne_of_lt (Heap.lt_size e))).trans (Heap.get?_push_of_some _ e)
  have sz2 : h₂.objs.size = s.heap.objs.size + 1 := hs.1.trans (Heap.size_push ..)
  have hL : h₂.NoLimit := T.nolimit.keeps fun b o e => hk2 b o (H.keep b o e)
  refine wpAny_newFunctionEnv hcell (hloc _) (fun h₁ hns hsb => ⟨hL.fresh _ hsb, codeAny_func ?_⟩) hk
  have hk₁' : ∀ b o, h₂.get? b = some o → h₁.get? b = some o := fun b o e => hsb.extBut b o (Nat.ne_of_lt (Heap.lt_size e)) (Heap.get?_push_of_some _ e)
  have hlow : (s.heap.objs.size == sysModules) = false := by
    have := modules_low T.nolimit
    rw [beq_eq_false_iff_ne]
    intro e
    rw [hz, e] at this
    exact absurd this (Nat.lt_irrefl _)
  refine wpAny_mono (h s.heap.objs.size s.toks h₂.objs.size h₁ _ (Nat.le_of_eq hz) (by rw [sz2]; exact Nat.lt_succ_self _) ⟨hns, fun b o e => hk₁' b o (hk2 b o (H.keep b o e)), by rw [sz2, hz]; exact Nat.le_succ _⟩ (fun p hp => ?_) (fun p hp => Heap.lt_size (H.led p hp).1) hlow) (fun _ _ x => x) fun _ _ x => x
  rcases List.mem_cons.mp hp with rfl | hp
  · refine ⟨hk₁' _ _ hD, ?_, ?_⟩
    · show s.heap.objs.size ≠ h₂.objs.size
      rw [sz2]; exact Nat.ne_of_lt (Nat.lt_succ_self _)
    · exact Heap.get?_none_of_le (Nat.le_of_eq hz)
  · exact ⟨hk₁' _ _ (hk2 _ _ (H.led p hp).1), Nat.ne_of_lt (by rw [sz2]; exact Nat.lt_succ_of_lt (Heap.lt_size (H.led p hp).1)), (H.led p hp).2⟩
end

end
-- B5
section
open PySem PySem.Spec PySem.W PyProof.Rows PySem.Calls PyProof.V
section
variable {prog : Program} {w : World} {A : Around} {E : Value → Shared → Prop} {s : Shared}
abbrev sk (prog : Program) (w : World) := PySem.strKind prog w

/-- one key put into a dict of str keys -/
theorem put_one {d : Addr} {kvs : List (Str × Value)} {k : Str} {key v : Value} {Q : Unit → Shared → Prop} (hkey : (sk prog w).is k key = true) (hm : s.heap.DictOf (sk prog w) d kvs)
    (hQ : ∀ h', h'.DictOf (sk prog w) d (stored kvs k v) → Heap.SameBut d s.heap h' → Q () { s with heap := h' }) (hsz : kvs.length ≤ sizeLine) :
    wpAny (model prog w) A (dictPut d ((sk prog w).hash k) key v) Q E s := by
  first | ((first | refine el_0_9 (hm) ?_ | refine el_1_8 (hm) ?_ | refine el_2_7 (hm) ?_ | refine el_3_6 (hm) ?_ | refine el_4_5 (hm) ?_ | refine el_5_4 (hm) ?_ | refine el_6_3 (hm) ?_ | refine el_7_2 (hm) ?_ | refine el_8_1 (hm) ?_); (try clear hm); intro o es ep ho hc hd hk hp hn) | obtain ⟨o, es, ep, ho, hc, hd, hk, hp, hn⟩ := hm
  have hes : es.size ≤ sizeLine := by
    have e1 := hp.length
    have e2 : es.toList.length = es.size := by simp
    omega
  have hidx : (es.findIdx? fun e => (sk prog w).is k e.key) = kvs.findIdx? fun kv => decide (kv.1 = k) := by
    rw [← hp.findIdx k]; obtain ⟨l⟩ := es; simp
  unfold dictPut
  refine wpAny_bind (wpAny_dictFind_of hkey ho hd hk ?_)
  cases hi : es.findIdx? fun e => (sk prog w).is k e.key with
  | some i =>
    have hl : (es.toList.findIdx? fun e => (sk prog w).is k e.key) = some i := by rw [← hi]; obtain ⟨l⟩ := es; simp
    have hx : stored kvs k v = kvs.map (fun kv => if kv.1 = k then (kv.1, v) else kv) := by rw [stored, if_pos (any_of_findIdx_some (hidx ▸ hi))]
    refine wpAny_updateDict ho hd (hQ _ ⟨_, _, ep, Heap.get?_update_self _ ho (Obj.isFreed_of_dict (Obj.data_mapDict hd _)), hc.mapDict _, Obj.data_mapDict hd _, hk.modify _ _, ?_, ?_⟩ (Heap.SameBut.update ..))
    · rw [hx]
      have := hp.modify hn hl v
      obtain ⟨l⟩ := es
      simpa using this
    · rw [hx, keys_map_store]; exact hn
  | none =>
    have hnot : k ∉ kvs.map (·.1) := not_mem_of_findIdx_none (hidx ▸ hi)
    have hx : stored kvs k v = kvs ++ [(k, v)] := by
      rw [stored, if_neg]
      rw [List.any_eq_true]
      first | (intro zq1; (first | refine el_0_3 (zq1) ?_ | refine el_1_2 (zq1) ?_ | refine el_2_1 (zq1) ?_); (try clear zq1); intro kv hkv he) | rintro ⟨kv, hkv, he⟩
      exact hnot (List.mem_map.mpr ⟨kv, hkv, of_decide_eq_true he⟩)
    refine wpAny_updateDictKeys (hz := hes) ho hd (hQ _ ⟨_, _, ep + 1, Heap.get?_update_self _ ho (Obj.isFreed_of_dict (Obj.data_mapDictKeys hd _)), hc.mapDictKeys _, Obj.data_mapDictKeys hd _, hk.push hkey _, ?_, ?_⟩ (Heap.SameBut.update ..))
    · rw [hx]
      have := hp.append hkey ((sk prog w).hash k) v
      obtain ⟨l⟩ := es
      simpa using this
    · rw [hx, List.map_append, List.nodup_append]
      refine ⟨hn, by simp, fun a ha b hb e => hnot ?_⟩
      simp only [List.map_cons, List.map_nil, List.mem_singleton] at hb
      rw [← hb, ← e]; exact ha

/-- the loop over a dict's entries, from the i-th on -/
theorem merge_from {d a : Addr} {more : List (Str × Value)} {oo : Obj} {es : Array DictEntry} {ep : Nat} {Q : PUnit → Shared → Prop} (hda : d ≠ a) (hoo : oo.data = .dict es ep) (hk : KeysOf (sk prog w) es) (hp : Pairs (sk prog w) es.toList more)
    (hsz : ∀ kvs : List (Str × Value), kvs.length ≤ sizeLine → True) : ∀ (n i : Nat) (kvs : List (Str × Value)) (s : Shared), i + n = es.size → kvs.length + n ≤ sizeLine → s.heap.DictOf (sk prog w) d kvs → s.heap.get? a = some oo →
    (∀ h', h'.DictOf (sk prog w) d (merged kvs (more.drop i)) → Heap.SameBut d s.heap h' → Q PUnit.unit { s with heap := h' }) →
    wpAny (model prog w) A (forIn (List.range' i n) PUnit.unit fun i (_ : PUnit) => (do
      let some e := (← dictEntries a)[i]? | unsupported "dict.changed-during-merge"
      holding [e.key, e.val] do
        if false then
          if (← dictFind d e.key e.hash).isSome then rule "dict.merge.duplicate-key"; raiseNew (← newExc (.type "KeyError") [e.key])
        dictPut d e.hash e.key e.val
      if (← dictEpoch a) != ep then unsupported "dict.changed-during-merge"
      pure (ForInStep.yield PUnit.unit) : Sem (ForInStep PUnit))) Q E s := by
  intro n
  induction n with
  | zero =>
    intro i kvs s hi _ hd _ hQ
    have hl : more.length = es.size := by rw [← hp.length]; simp
    have : more.drop i = [] := List.drop_eq_nil_of_le (by omega)
    rw [this] at hQ
    exact wpAny_pure (hQ s.heap hd (Heap.SameBut.refl _ _))
  | succ n ih =>
    intro i kvs s hi hz hd ha hQ
    have hlt : i < es.size := by omega
    have hl : more.length = es.size := by rw [← hp.length]; simp
    first | ((first | refine el_0_2 (show ∃ kv, more[i]? = some kv from ⟨more[i]'(by omega), List.getElem?_eq_getElem _⟩) ?_ | refine el_1_1 (show ∃ kv, more[i]? = some kv from ⟨more[i]'(by omega), List.getElem?_eq_getElem _⟩) ?_); intro zq2 hkv; (first | refine el_0_2 (zq2) ?_ | refine el_1_1 (zq2) ?_); (try clear zq2); intro k v) | obtain ⟨⟨k, v⟩, hkv⟩ : ∃ kv, more[i]? = some kv := ⟨more[i]'(by omega), List.getElem?_eq_getElem _⟩
    first | ((first | refine el_0_2 (hp.get? (e := es[i]) (by simp [hlt]) hkv) ?_ | refine el_1_1 (hp.get? (e := es[i]) (by simp [hlt]) hkv) ?_); intro hkey hval) | obtain ⟨hkey, hval⟩ := hp.get? (e := es[i]) (by simp [hlt]) hkv
    first | ((first | refine el_0_3 (hk es[i] (Array.getElem_mem hlt)) ?_ | refine el_1_2 (hk es[i] (Array.getElem_mem hlt)) ?_ | refine el_2_1 (hk es[i] (Array.getElem_mem hlt)) ?_); intro k' hkey' hhash) | obtain ⟨k', hkey', hhash⟩ := hk es[i] (Array.getElem_mem hlt)
    obtain rfl : k' = k := (sk prog w).inj _ _ _ hkey' hkey
    have hdr : more.drop i = (k', v) :: more.drop (i + 1) := by
      first | ((first | refine el_0_2 (List.getElem?_eq_some_iff.mp hkv) ?_ | refine el_1_1 (List.getElem?_eq_some_iff.mp hkv) ?_); intro h1 h2) | obtain ⟨h1, h2⟩ := List.getElem?_eq_some_iff.mp hkv
      rw [← h2]; exact List.drop_eq_getElem_cons h1
    rw [List.range'_succ, List.forIn_cons]
    refine wpAny_bind (wpAny_bind (wpAny_dictEntries ha hoo ?_))
    rw [Array.getElem?_eq_getElem hlt]
    dsimp only
    refine wpAny_bind (wpAny_holding ?_)
    rw [if_neg (by decide), hhash, hval]
    refine put_one hkey hd (fun h' hd' hs => ?_) (by omega)
    have ha' : h'.get? a = some oo := (hs.2 a (Ne.symm hda)).trans ha
    refine wpAny_bind (wpAny_dictEpoch ha' hoo ?_)
    rw [if_neg (by simp)]
    refine wpAny_pure ?_
    refine ih (i + 1) (stored kvs k' v) { s with heap := h' } (by omega) ?_ hd' ha' fun h'' hd'' hs' => ?_
    · have := stored_length_le kvs k' v
      omega
    · refine hQ h'' ?_ (hs.trans hs')
      rw [hdr]; exact hd''

theorem merge_all {d a : Addr} {kvs more : List (Str × Value)} {Q : Unit → Shared → Prop} (hda : d ≠ a) (haS : (a == sysModules) = false) (hd : s.heap.DictOf (sk prog w) d kvs) (ha : s.heap.DictOf (sk prog w) a more) (hz : kvs.length + more.length ≤ sizeLine)
    (hQ : ∀ h', h'.DictOf (sk prog w) d (merged kvs more) → Heap.SameBut d s.heap h' → Q () { s with heap := h' }) : wpAny (model prog w) A (mergeMapping d (.ref a) false) Q E s := by
  first | ((first | refine el_0_9 (id hd) ?_ | refine el_1_8 (id hd) ?_ | refine el_2_7 (id hd) ?_ | refine el_3_6 (id hd) ?_ | refine el_4_5 (id hd) ?_ | refine el_5_4 (id hd) ?_ | refine el_6_3 (id hd) ?_ | refine el_7_2 (id hd) ?_ | refine el_8_1 (id hd) ?_); intro od esd epd hod hcd hdd hkd hpd hnd) | obtain ⟨od, esd, epd, hod, hcd, hdd, hkd, hpd, hnd⟩ := id hd
  first | ((first | refine el_0_9 (id ha) ?_ | refine el_1_8 (id ha) ?_ | refine el_2_7 (id ha) ?_ | refine el_3_6 (id ha) ?_ | refine el_4_5 (id ha) ?_ | refine el_5_4 (id ha) ?_ | refine el_6_3 (id ha) ?_ | refine el_7_2 (id ha) ?_ | refine el_8_1 (id ha) ?_); intro oo eso epo hoo hco hdo' hko hpo hno) | obtain ⟨oo, eso, epo, hoo, hco, hdo', hko, hpo, hno⟩ := id ha
  unfold mergeMapping
  refine wpAny_bind (wpAny_isInstance ha.typeIs isSubtype_dict_dict ?_)
  dsimp only
  rw [if_pos rfl]
  refine wpAny_bind (wpAny_specialOf ha.typeIs F.slot_dict_iter.lookup ?_)
  refine wpAny_bind (wpAny_pure ?_)
  rw [show ((some (Value.builtin "dict.__iter__") == some (Value.builtin "dict.__iter__")) : Bool) = true from by decide]
  dsimp only
  rw [if_neg (by rw [haS]; exact Bool.false_ne_true)]
  refine wpAny_bind (wpAny_dictEntries hod hdd ?_)
  have loop : wpAny (model prog w) A (do
      let size := (← dictEntries a).size
      let epoch ← dictEpoch a
      for i in List.range size do
        let some e := (← dictEntries a)[i]? | unsupported "dict.changed-during-merge"
        holding [e.key, e.val] do
          if false then
            if (← dictFind d e.key e.hash).isSome then rule "dict.merge.duplicate-key"; raiseNew (← newExc (.type "KeyError") [e.key])
          dictPut d e.hash e.key e.val
        if (← dictEpoch a) != epoch then unsupported "dict.changed-during-merge") Q E s := by
    refine wpAny_bind (wpAny_dictEntries hoo hdo' (wpAny_bind (wpAny_dictEpoch hoo hdo' (wpAny_bind ?_))))
    rw [List.range_eq_range']
    refine merge_from hda hdo' hko hpo (fun _ _ => trivial) eso.size 0 kvs s (Nat.zero_add _) ?_ hd hoo fun h' hd' hs => ?_
    · have hl : more.length = eso.size := by rw [← hpo.length]; simp
      omega
    · exact wpAny_pure (hQ h' hd' hs)
  split
  · refine wpAny_bind (wpAny_dictEntries hoo hdo' ?_)
    refine wpAny_bind ?_
    rw [← Array.forIn_toList]
    refine wpAny_forIn_list _ (fun l _ s' => s' = s ∧ ∀ e ∈ l, e ∈ eso) _ (fun x rest b s' e => ?_) (fun b s' e => ?_) _ _ ⟨rfl, fun e he => by simpa using he⟩
    · first | ((first | refine el_0_2 (e) ?_ | refine el_1_1 (e) ?_); (try clear e); intro zq3 hl; subst zq3) | obtain ⟨rfl, hl⟩ := e
      first | ((first | refine el_0_3 (hko x (hl x (.head _))) ?_ | refine el_1_2 (hko x (hl x (.head _))) ?_ | refine el_2_1 (hko x (hl x (.head _))) ?_); intro k hkey _) | obtain ⟨k, hkey, _⟩ := hko x (hl x (.head _))
      first | ((first | refine el_0_2 (Value.isStrOf_shape hkey) ?_ | refine el_1_1 (Value.isStrOf_shape hkey) ?_); intro t ht) | obtain ⟨t, ht⟩ := Value.isStrOf_shape hkey
      rw [ht]
      exact wpAny_pure ⟨rfl, fun e he => hl e (.tail _ he)⟩
    · first | ((first | refine el_0_2 (e) ?_ | refine el_1_1 (e) ?_); (try clear e); intro zq4 _; subst zq4) | obtain ⟨rfl, _⟩ := e
      exact loop
  · exact loop

end
section
variable {prog : Program} {w : World} {A : Around} {E : Value → Shared → Prop} {s : Shared} {h₀ : Heap} {L a b : Addr} {m : Str → Option Value} {news : List (Addr × Obj)} {oa ob : Obj} {ka kb : List (Str × Value)} {env : Env} {ea eb : Expr} {pos : Pos}
/-- {**a, **b}: the keys of a in their order, with b's values where b has them -/
theorem display_K {Q : Value → Shared → Prop} (F : Fr h₀ L s.heap m) (N : News h₀ L s.heap news) (ha : (a, oa) ∈ news) (hb : (b, ob) ∈ news) (da : oa.IsDictOf (sk prog w) ka) (db : ob.IsDictOf (sk prog w) kb) (la : (a == sysModules) = false) (lb : (b == sysModules) = false) (la₀ : sysModules < h₀.objs.size)
    (hz : ka.length + kb.length ≤ sizeLine)
    (hea : ∀ h' tk, Fr h₀ L h' m → ∀ Q' : Value → Shared → Prop, ∀ E', Q' (.ref a) { s with heap := h', toks := tk } → wpAny (model prog w) A (eval ea env) Q' E' { s with heap := h', toks := tk })
    (heb : ∀ h' tk, Fr h₀ L h' m → ∀ Q' : Value → Shared → Prop, ∀ E', Q' (.ref b) { s with heap := h', toks := tk } → wpAny (model prog w) A (eval eb env) Q' E' { s with heap := h', toks := tk })
    (hq : ∀ D oD h', Fr h₀ L h' m → News h₀ L h' ((D, oD) :: news) → oD.IsDictOf (sk prog w) (merged ka kb) → (∀ p ∈ news, p.1 < D) → (D == sysModules) = false → Q (.ref D) { s with heap := h' }) :
    wpAny (model prog w) A (eval (.Dict [none, none] [ea, eb] pos) env) Q E s := by
  show wpAny _ _ (do standAt pos; dictDisplay ((evalEachOpt [none, none] env).zip ((evalEach [ea, eb] env).map fun v => do let x ← v; standAt pos; pure x))) _ _ _
  refine wpAny_bind (wpAny_standAt ?_)
  simp only [evalEachOpt, evalEach, List.map_cons, List.map_nil, List.zip_cons_cons, List.zip_nil_right]
  unfold dictDisplay
  simp only [List.forIn_cons, List.forIn_nil]
  simp only [evalOpt]
  refine wpAny_bind (wpAny_bind (wpAny_bind ?_))
  rw [if_pos (by rfl)]
  refine wpAny_pure ?_
  dsimp only
  refine wpAny_bind (wpAny_alloc ?_)
  have h1 : (s.heap.push (dictOf [] 0)).get? s.heap.objs.size = some (dictOf [] 0) := Heap.get?_push_size _ rfl
  have F1 : Fr h₀ L (s.heap.push (dictOf [] 0)) m := F.push _
  have hlo : (s.heap.objs.size == sysModules) = false := F.notModules la₀
  have D0 : Heap.DictOf (sk prog w) (s.heap.push (dictOf [] 0)) s.heap.objs.size [] := Heap.dictOf_iff.mpr ⟨_, h1, #[], 0, ⟨rfl, rfl, rfl⟩, rfl, fun e he => absurd he (by simp), Pairs.nil, List.nodup_nil⟩
  have na : s.heap.objs.size ≠ a := Nat.ne_of_gt (Heap.lt_size (N.get ha))
  have nb : s.heap.objs.size ≠ b := Nat.ne_of_gt (Heap.lt_size (N.get hb))
  have nL : s.heap.objs.size ≠ L := Nat.ne_of_gt F.ns.lt
  have nodA : (ka.map (·.1)).Nodup := let ⟨_, _, _, _, _, _, x⟩ := da; x
  refine wpAny_bind (wpAny_holding (wpAny_bind (hea _ _ F1 _ _ (wpAny_bind (wpAny_standAt (wpAny_pure ?_))))))
  refine wpAny_bind (wpAny_onRaise (wpAny_tryCatch (wpAny_onRaise (wpAny_holding (merge_all na la D0 (Heap.dictOf_iff.mpr ⟨oa, Heap.get?_push_of_some _ (N.get ha), da⟩) (by simp only [List.length_nil]; omega) fun h2 d2 s2 => ?_)))))
  rw [merged_nil_of_nodup ka nodA] at d2
  have F2 : Fr h₀ L h2 m := ⟨F1.ns.sameBut s2 (Ne.symm nL), fun c o e => (s2.2 c (Nat.ne_of_lt (Heap.lt_size (F.keep c o e)))).trans (F1.keep c o e), F.above⟩
  refine wpAny_pure ?_
  dsimp only
  refine wpAny_bind (wpAny_bind ?_)
  rw [if_pos (by rfl)]
  refine wpAny_pure ?_
  dsimp only
  refine wpAny_bind (wpAny_pure ?_)
  refine wpAny_bind (wpAny_holding (wpAny_bind (heb _ _ F2 _ _ (wpAny_bind (wpAny_standAt (wpAny_pure ?_))))))
  refine wpAny_bind (wpAny_onRaise (wpAny_tryCatch (wpAny_onRaise (wpAny_holding (merge_all nb lb d2 (Heap.dictOf_iff.mpr ⟨ob, (s2.2 b (Ne.symm nb)).trans (Heap.get?_push_of_some _ (N.get hb)), db⟩) hz fun h3 d3 s3 => ?_)))))
  refine wpAny_pure ?_
  dsimp only
  refine wpAny_pure ?_
  refine wpAny_bind ?_
  rw [if_pos (by rfl)]
  refine wpAny_pure ?_
  dsimp only
  refine wpAny_pure ?_
  first | ((first | refine el_0_3 (Heap.dictOf_iff.mp d3) ?_ | refine el_1_2 (Heap.dictOf_iff.mp d3) ?_ | refine el_2_1 (Heap.dictOf_iff.mp d3) ?_); intro oD hD iD) | obtain ⟨oD, hD, iD⟩ := Heap.dictOf_iff.mp d3
  have hs : ∀ c o, s.heap.get? c = some o → h3.get? c = some o := fun c o e => by
    have ne : c ≠ s.heap.objs.size := Nat.ne_of_lt (Heap.lt_size e)
    exact (s3.2 c ne).trans ((s2.2 c ne).trans (Heap.get?_push_of_some _ e))
  refine hq s.heap.objs.size oD h3 ⟨F.ns.at' fun o e => hs L o e, fun c o e => hs c o (F.keep c o e), F.above⟩ (fun p hp => ?_) iD (fun p hp => Heap.lt_size (N p hp).1) hlo
  rcases List.mem_cons.mp hp with rfl | hp
  · exact ⟨hD, nL, Heap.get?_none_of_le (Nat.le_trans F.above (Nat.le_of_lt F.ns.lt))⟩
  · exact ⟨hs _ _ (N p hp).1, (N p hp).2⟩
end

end
-- SUBEL
section
open PySem PySem.Spec PySem.W PyProof.Rows PySem.Calls PyProof.V
theorem subel (w : World) (p : Program) (loose : List Str) (mean : ExcName → Option Value) (mg mb : Str → Option Value) (P : NodeRec) (tag : Str) (tt : Tok) (lead : Str) (tl : Tok) (k1 k2 : Addr) (oc2 : Obj) (hoc : CodeOk oc2) (items : Array Value) (n : Nat) (hn : items.size ≤ 1000) (hP : P.Ok w p loose mean mg mb k2)
    (oAt : Obj) (l0 : Str) (t0 tp : Tok) (hAt : oAt.IsDictOf (strKind PySem.Challenge.pw_xb0026_01 w) [(Str.ofString "lead", .str l0 t0), (Str.ofString "of", .str (Str.ofString "page") tp)]) (hsys : P.at_ ≠ sysModules) (hnd : ([120, k2, P.f, P.D, P.Ap, P.c, P.Pt, P.at_] : List Nat).Nodup) :
    HSpec 5 w p loose mean mg mb 111 [.ref P.f, .str tag tt, .ref P.at_] [(Str.ofString "lead", .str lead tl)] [(120, tab2 k1 k2), (k2, oc2), (P.f, P.fo), (P.D, P.oD), (P.Ap, P.oAp), (P.c, P.oc), (P.Pt, listOf items n), (P.at_, oAt)] (fun tl_ upd r => ∃ (R : NodeRec) (oR : Obj), r = .ref R.f ∧ R.tag = tag ∧ R.tt = tt ∧ R.Ok w p loose mean mg mb k2 ∧ oR.IsDictOf (sk PySem.Challenge.pw_xb0026_01 w) [(Str.ofString "lead", .str lead tl), (Str.ofString "of", .str (Str.ofString "page") tp)] ∧ R.at_ ≠ sysModules ∧
      tl_ = [(R.Ap, R.oAp), (R.D, R.oD), (R.f, R.fo), (R.Pt, listOf #[] 0), (R.c, R.oc), (R.at_, oR)] ∧ upd = [(120, tab2 k1 k2), (k2, oc2), (P.f, P.fo), (P.D, P.oD), (P.Ap, P.oAp), (P.c, P.oc), (P.Pt, listOf (items.push (.ref R.f)) (n + 1)), (P.at_, oAt)]) := by
  intro dp un gd cn cs L a ccd cl outer base g s Q E B H hz X T hk hdp hun hret
  have hPd := hP.dict
  have C : CodeHd g 124 120 := codeHd_of_K (c := 124) (P := 120) X (by kernel_rfl)
  w_on
  k_dflt refine' h_enterMore (front := [(Str.ofString "parent", .ref P.f), (Str.ofString "tag", .str tag tt), (Str.ofString "attrib", .ref P.at_)]) (nm := Str.ofString "extra") ?k2 ?k3 ?k4 ?k5 ?k6 ?k7 ?k8 ?kp ?kg ?kB ?_ ?c5 ?c2 ?c3 ?c4
  case k2 => assumption
  case k3 => assumption
  case k4 => assumption
  case k5 => assumption
  case k6 => k_is
  case k7 => k_is
  case k8 => ktr_room
  case kp => exact rfl
  case kg => exact fun _ => rfl
  case kB => exact fun _ => locs rfl
  case c5 => decide
  case c2 => exact rfl
  case c3 => exact rfl
  case c4 => exact rfl
  k_whole
  intro D' t' L' h' tk' d1 d2 F' N' l1 lo'
  (try k_lt l1)
  (try dsimp only)
  (try k_fold)
  (try k_unmd); (try k_fold); repeat' (walk_at "S1")
  have hEx : (dictOf [⟨PyData.keyHash w.params (Str.ofString "lead"), .str (Str.ofString "lead") t', .str lead tl⟩] 1).IsDictOf (sk PySem.Challenge.pw_xb0026_01 w) [(Str.ofString "lead", .str lead tl)] := kp_isDict (w := w) (prog := PySem.Challenge.pw_xb0026_01) (ex := [(Str.ofString "lead", .str lead tl)]) t' 1 (by simp)
  refine display_K F' N' (by k_mem) (by k_mem) hAt hEx (by rw [beq_eq_false_iff_ne]; exact hsys) lo' (modules_low T.nolimit) (by show 2 + 1 ≤ sizeLine; decide +kernel) (fun h' tk F' Q' E' q => ld F' rfl q) (fun h' tk F' Q' E' q => ld F' rfl q) ?_
  intro D2 oD2 h2 F2 N2 i2 l2 lo2
  k_lt l2
  try dsimp only
  try k_fold
  (try k_unmd); (try k_fold); repeat' (first | ((fail_if_success (fail_if_success (with_reducible show wpAny _ _ (getMethod (Value.ref _) _ _) _ _ _))); k_dflt (refine' fnK_method ?y9F ?y9N ?y9hf ?y9hD ?y9n ?y9v ?y9mi ?y9hh ?_; (case y9F => k_asm); (case y9N => k_asm); (case y9hf => k_mem); (case y9hD => k_mem); (case y9n => assumption); (case y9v => exact rfl); (case y9mi => exact am_miss_of_fast (by kernel_rfl)); (case y9hh => exact rfl); k_whole; intro _; (try dsimp only))) | walk_at "S1")
  rename Fr _ _ _ _ => F3
  rename News _ _ _ _ => N3
  have hnx := hnd
  simp only [List.nodup_cons, List.mem_cons, List.not_mem_nil, not_or, or_false, List.nodup_nil, and_true, not_false_eq_true] at hnx
  k_dflt refine' hspec_use (touched := [(120, tab2 k1 k2), (k2, oc2)]) (rest := [(D2, oD2), (P.f, P.fo), (P.D, P.oD), (P.Ap, P.oAp), (P.c, P.oc), (P.Pt, listOf items n), (P.at_, oAt)]) ?B F3 ?X (fun p hp => N3 p ?perm) ?T ?hk (node_next w _ _ _ _ _ _ _ _ k1 k2 oc2 hoc) ?dis ?dp ?un ?_
  case B => assumption
  case X => assumption
  case T => assumption
  case hk => exact rfl
  case perm => revert p; k_allIn
  case dis => (repeat' (refine List.forall_mem_cons.mpr ⟨?_, ?_⟩)) <;> first | exact List.forall_mem_nil _ | ((repeat' (refine List.forall_mem_cons.mpr ⟨?_, ?_⟩)) <;> first | exact List.forall_mem_nil _ | (simp only [hnx, ne_eq, not_false_eq_true]; done) | (refine Ne.symm ?_; simp only [hnx, ne_eq, not_false_eq_true]; done) | (refine neN ?_; clear hnx; dsimp only; omega))
  clear hnx
  case dp => ktr_room
  case un => ktr_units
  first | (intro r4 tl4 upd4 h4 tk4 F4 N4 zq1 o4 pw4 zq2; (try k_unmd); (try (first | (with_reducible refine fold_comp ?_; intro XL YL ZL) | (with_reducible refine fold_for ?_; intro QL EL) | (with_reducible refine fold_while ?_; intro QL RL EL) | k_fold)); clear zq1; (first | refine el_0_8 (zq2) ?_ | refine el_1_7 (zq2) ?_ | refine el_2_6 (zq2) ?_ | refine el_3_5 (zq2) ?_ | refine el_4_4 (zq2) ?_ | refine el_5_3 (zq2) ?_ | refine el_6_2 (zq2) ?_ | refine el_7_1 (zq2) ?_); (try clear zq2); intro R zq3 e1 e2 e3 R4 zq4 zq5; subst zq3; subst zq4; subst zq5) | rintro r4 tl4 upd4 h4 tk4 F4 N4 - o4 pw4 ⟨R, rfl, e1, e2, e3, R4, rfl, rfl⟩
  simp only [List.cons_append, List.nil_append] at N4 o4
  try dsimp only
  try k_fold
  (try k_unmd); (try k_fold); repeat' (first | ((fail_if_success (fail_if_success (with_reducible show wpAny _ _ (getMethod (Value.ref _) _ _) _ _ _))); k_dflt (refine' fnK_method ?y9F ?y9N ?y9hf ?y9hD ?y9n ?y9v ?y9mi ?y9hh ?_; (case y9F => k_asm); (case y9N => k_asm); (case y9hf => k_mem); (case y9hD => k_mem); (case y9n => assumption); (case y9v => exact rfl); (case y9mi => exact am_miss_of_fast (by kernel_rfl)); (case y9hh => exact rfl); k_whole; intro _; (try dsimp only))) | walk_at "S1")
  rename Fr _ _ _ _ => F5
  rename News _ _ _ _ => N5
  k_dflt refine' hspec_use (touched := [(P.Ap, P.oAp), (P.c, P.oc), (k2, oc2), (P.Pt, listOf items n)]) (rest := [(R.Ap, R.oAp), (R.D, R.oD), (R.f, R.fo), (R.Pt, listOf #[] 0), (R.c, R.oc), (D2, oD2), (120, tab2 k1 k2), (P.f, P.fo), (P.D, P.oD), (P.at_, oAt)]) ?B F5 ?X (fun p hp => N5 p ?perm) ?T ?hk (hP.app oc2 hoc items n R.f hn) ?dis ?dp ?un ?_
  case B => assumption
  case X => assumption
  case T => assumption
  case hk => exact rfl
  case perm => revert p; k_allIn
  case dis =>
    have d1 : ∀ q ∈ [(P.Ap, P.oAp), (P.c, P.oc), (k2, oc2), (P.Pt, listOf items n)], q ∈ [(120, tab2 k1 k2), (k2, oc2), (D2, oD2), (P.f, P.fo), (P.D, P.oD), (P.Ap, P.oAp), (P.c, P.oc), (P.Pt, listOf items n), (P.at_, oAt)] := by k_allIn
    have d2 : ∀ p ∈ [(D2, oD2), (120, tab2 k1 k2), (P.f, P.fo), (P.D, P.oD), (P.at_, oAt)], ∀ q ∈ [(P.Ap, P.oAp), (P.c, P.oc), (k2, oc2), (P.Pt, listOf items n)], p.1 ≠ q.1 := by
      (repeat' (refine List.forall_mem_cons.mpr ⟨?_, ?_⟩)) <;> first | exact List.forall_mem_nil _ | ((repeat' (refine List.forall_mem_cons.mpr ⟨?_, ?_⟩)) <;> first | exact List.forall_mem_nil _ | (simp only [hnx, ne_eq, not_false_eq_true]; done) | (refine Ne.symm ?_; simp only [hnx, ne_eq, not_false_eq_true]; done) | (refine neN ?_; clear hnx; dsimp only; omega))
    intro p hp
    rcases List.mem_append.mp (show p ∈ [(R.Ap, R.oAp), (R.D, R.oD), (R.f, R.fo), (R.Pt, listOf #[] 0), (R.c, R.oc)] ++ [(D2, oD2), (120, tab2 k1 k2), (P.f, P.fo), (P.D, P.oD), (P.at_, oAt)] from hp) with hp | hp
    · exact fun q hq => (o4 p hp q (d1 q hq)).ne
    · exact d2 p hp
  clear hnx
  case dp => ktr_room
  case un => ktr_units
  first | (intro r6 tl6 upd6 h6 tk6 F6 N6 zq6 o6 pw6 zq7; (try k_unmd); (try (first | (with_reducible refine fold_comp ?_; intro XL YL ZL) | (with_reducible refine fold_for ?_; intro QL EL) | (with_reducible refine fold_while ?_; intro QL RL EL) | k_fold)); clear zq6; (first | refine el_0_2 (zq7) ?_ | refine el_1_1 (zq7) ?_); (try clear zq7); intro zq8 zq9; subst zq8; subst zq9) | rintro r6 tl6 upd6 h6 tk6 F6 N6 - o6 pw6 ⟨rfl, rfl⟩
  simp only [List.cons_append, List.nil_append] at N6
  try dsimp only
  try k_fold
  (try k_unmd); (try k_fold); repeat' (walk_at "S1")
  try dsimp only
  subst e3
  have e9 : merged [(Str.ofString "lead", Value.str l0 t0), (Str.ofString "of", Value.str (Str.ofString "page") tp)] [(Str.ofString "lead", Value.str lead tl)] = [(Str.ofString "lead", .str lead tl), (Str.ofString "of", .str (Str.ofString "page") tp)] := by
    rfl
  rw [e9] at i2
  rename Fr _ _ _ _ => F7
  rename News _ _ _ _ => N7
  refine h_leave [(R.Ap, R.oAp), (R.D, R.oD), (R.f, R.fo), (R.Pt, listOf #[] 0), (R.c, R.oc), (R.at_, oD2)] [(120, tab2 k1 k2), (k2, oc2), (P.f, P.fo), (P.D, P.oD), (P.Ap, P.oAp), (P.c, P.oc), (P.Pt, listOf (items.push (.ref R.f)) (n + 1)), (P.at_, oAt)] hret F7 N7 ?hs rfl ?lo ?pw ⟨R, oD2, rfl, e1, e2, R4, i2, by rw [beq_eq_false_iff_ne] at lo2; exact lo2, rfl, rfl⟩
  case hs => intro p hp; refine List.mem_append_right _ ?_; revert p; k_allIn
  case lo =>
    have d1 : ∀ q ∈ [(120, tab2 k1 k2), (k2, oc2), (P.f, P.fo), (P.D, P.oD), (P.Ap, P.oAp), (P.c, P.oc), (P.Pt, listOf items n), (P.at_, oAt)], q ∈ [(120, tab2 k1 k2), (k2, oc2), (R.at_, oD2), (P.f, P.fo), (P.D, P.oD), (P.Ap, P.oAp), (P.c, P.oc), (P.Pt, listOf items n), (P.at_, oAt)] := by k_allIn
    have d2 : ∀ q ∈ [(120, tab2 k1 k2), (k2, oc2), (P.f, P.fo), (P.D, P.oD), (P.Ap, P.oAp), (P.c, P.oc), (P.Pt, listOf items n), (P.at_, oAt)], Apt R.at_ q.1 := by
      (repeat' (refine List.forall_mem_cons.mpr ⟨?_, ?_⟩)) <;> first | exact List.forall_mem_nil _ | (refine Apt.gt ?_; dsimp only; omega)
    intro p hp
    rcases List.mem_append.mp (show p ∈ [(R.Ap, R.oAp), (R.D, R.oD), (R.f, R.fo), (R.Pt, listOf #[] 0), (R.c, R.oc)] ++ [(R.at_, oD2)] from hp) with hp | hp
    · exact fun q hq => o4 p hp q (d1 q hq)
    · obtain rfl := List.mem_singleton.mp hp
      exact d2
  case pw =>
    refine (List.pairwise_append (l₁ := [R.Ap, R.D, R.f, R.Pt, R.c]) (l₂ := [R.at_])).mpr ⟨pw4, List.pairwise_singleton _ _, fun a ha b hb => ?_⟩
    obtain rfl := List.mem_singleton.mp hb
    first | ((first | refine el_0_3 (List.mem_map.mp (show a ∈ ([(R.Ap, R.oAp), (R.D, R.oD), (R.f, R.fo), (R.Pt, listOf #[] 0), (R.c, R.oc)] : Ledger).map (·.1) from ha)) ?_ | refine el_1_2 (List.mem_map.mp (show a ∈ ([(R.Ap, R.oAp), (R.D, R.oD), (R.f, R.fo), (R.Pt, listOf #[] 0), (R.c, R.oc)] : Ledger).map (·.1) from ha)) ?_ | refine el_2_1 (List.mem_map.mp (show a ∈ ([(R.Ap, R.oAp), (R.D, R.oD), (R.f, R.fo), (R.Pt, listOf #[] 0), (R.c, R.oc)] : Ledger).map (·.1) from ha)) ?_); intro p hp zq10; subst zq10) | obtain ⟨p, hp, rfl⟩ := List.mem_map.mp (show a ∈ ([(R.Ap, R.oAp), (R.D, R.oD), (R.f, R.fo), (R.Pt, listOf #[] 0), (R.c, R.oc)] : Ledger).map (·.1) from ha)
    exact o4 p hp (R.at_, oD2) (.tail _ (.tail _ (.head _)))

end
-- B6
section
open PySem PySem.Spec PySem.W PyProof.Rows PySem.Calls PyProof.V

section
variable {prog : Program} {w : World} {A : Around} {E : Value → Shared → Prop} {s : Shared} {env : Env} {h₀ : Heap} {x : Str} {body : List Stmt} {Q : Flow → Shared → Prop}

/-- what a turn of a loop owes: the ledger lit a' ++ (rest' ++ own) and the state P again -/
noncomputable def LStep {α : Type} (h₀ : Heap) (L I : Addr) (lit : α → Ledger) (P : α → (Str → Option Value) → Ledger → Prop) (own : Ledger) (s₁ : Shared) (Q : Flow → Shared → Prop) (f : Flow) (s₂ : Shared) : Prop :=
  match f with
  | .ret v => Q (.ret v) s₂
  | .brk => Q .next s₂
  | _ => ∃ h' tk m' a' rest', s₂ = { s₁ with heap := h', toks := tk } ∧ Fr h₀ L h' m' ∧ News h₀ L h' (lit a' ++ (rest' ++ own)) ∧ (∀ p ∈ lit a' ++ rest', p.1 ≠ I) ∧ P a' m' rest'


theorem iter_led {α : Type} {l : Addr} {items : Array Value} {m₀ : Str → Option Value} (lit : α → Ledger) (P : Nat → α → (Str → Option Value) → Ledger → Prop) (a₀ : α) (rest₀ : Ledger)
    (hh : A.handled = none) (F : Fr h₀ env.locals s.heap m₀) (N : News h₀ env.locals s.heap (lit a₀ ++ rest₀)) (hl : s.heap.IsList l items) (hlL : l ≠ env.locals) (hP : P 0 a₀ m₀ rest₀)
    (turn : ∀ i v a rest m₁ h tk own I oI, items[i]? = some v → P i a m₁ rest → (∀ p ∈ own, p.1 = I ∨ p.1 = l) → (I, oI) ∈ own → (∀ p ∈ lit a ++ rest, p.1 ≠ I) → h.IsList l items →
      Fr h₀ env.locals h (fun y => if y = x then some v else m₁ y) → News h₀ env.locals h (lit a ++ (rest ++ own)) →
      wpAny (model prog w) A (execs body env) (LStep h₀ env.locals I lit (P (i + 1)) own { s with heap := h, toks := tk } Q) E { s with heap := h, toks := tk })
    (done : ∀ a rest m₁ h tk, P items.size a m₁ rest → Fr h₀ env.locals h m₁ → News h₀ env.locals h (lit a ++ rest) → Q .next { s with heap := h, toks := tk }) :
    wpAny (model prog w) A (pyIter (.ref l)) (fun it s₂ => LoopAtV prog w A h₀ env x body Q E it s₂) E s := by
  first | ((first | refine el_0_3 (id hl) ?_ | refine el_1_2 (id hl) ?_ | refine el_2_1 (id hl) ?_); intro ol hol _) | obtain ⟨ol, hol, _⟩ := id hl
  have hne : l ≠ s.heap.objs.size := Nat.ne_of_lt (Heap.lt_size hol)
  refine wpAny_pyIter_list hl ?_
  have W := Walks.list (prog := prog) (w := w) hh s.heap.objs.size l hne items
  let J : Nat → (Str → Option Value) → Ledger → Prop := fun i m₁ news₁ => ∃ a rest, news₁ = lit a ++ rest ∧ P i a m₁ rest
  have nI : h₀.get? s.heap.objs.size = none := Heap.get?_none_of_le (Nat.le_trans F.above (Nat.le_of_lt F.ns.lt))
  refine ⟨_, _, _, items.size, _, _, m₀, lit a₀ ++ rest₀, J, rfl, W, ?_, ?_, ?_, ⟨⟨_, Heap.get?_push_size _ rfl, rfl, rfl⟩, hl.at fun o e => Heap.get?_push_of_some _ e⟩, F.push _, (fun p hp => ⟨Heap.get?_push_of_some _ (N p hp).1, (N p hp).2⟩), ⟨a₀, rest₀, rfl, hP⟩, ?_, ?_⟩
  · intro hm
    rcases List.mem_cons.mp hm with e | hm
    · exact absurd F.ns.lt (e ▸ Nat.lt_irrefl _)
    · exact hlL (List.mem_singleton.mp hm).symm
  · intro b hb
    rw [List.mem_singleton.mp hb]
    exact nI
  · intro p hp hI
    exact absurd (Heap.lt_size (N p hp).1) ((List.mem_singleton.mp hI) ▸ Nat.lt_irrefl _)
  · first | (intro i v m₁ news₁ s₁ own zq1 hin hPv zq2 hoff hown hget hall hst F₁ N₁; (first | refine el_0_3 (zq1) ?_ | refine el_1_2 (zq1) ?_ | refine el_2_1 (zq1) ?_); (try clear zq1); intro hh' tk' zq3; subst zq3; (first | refine el_0_4 (zq2) ?_ | refine el_1_3 (zq2) ?_ | refine el_2_2 (zq2) ?_ | refine el_3_1 (zq2) ?_); (try clear zq2); intro a rest zq4 hPi; subst zq4) | rintro i v m₁ news₁ s₁ own ⟨hh', tk', rfl⟩ hin hPv ⟨a, rest, rfl, hPi⟩ hoff hown hget hall hst F₁ N₁
    have hI' : ∃ oI, (s.heap.objs.size, oI) ∈ own := by
      first | ((first | refine el_0_3 (hst.1) ?_ | refine el_1_2 (hst.1) ?_ | refine el_2_1 (hst.1) ?_); intro oI h1 _) | obtain ⟨oI, h1, _⟩ := hst.1
      exact ⟨oI, hall _ (.head _) nI oI h1⟩
    first | ((first | refine el_0_2 (hI') ?_ | refine el_1_1 (hI') ?_); (try clear hI'); intro oI hI') | obtain ⟨oI, hI'⟩ := hI'
    have N₂ : News h₀ env.locals hh' (lit a ++ (rest ++ own)) := fun p hp => N₁ p (by
      rcases List.mem_append.mp hp with h1 | h1
      · exact List.mem_append_right _ (List.mem_append_left _ h1)
      · rcases List.mem_append.mp h1 with h2 | h2
        · exact List.mem_append_right _ (List.mem_append_right _ h2)
        · exact List.mem_append_left _ h2)
    have ho2 : ∀ p ∈ own, p.1 = s.heap.objs.size ∨ p.1 = l := fun p hp => by
      rcases List.mem_cons.mp (hown p hp) with h1 | h1
      · exact .inl h1
      · exact .inr (List.mem_singleton.mp h1)
    have hoff' : ∀ p ∈ lit a ++ rest, p.1 ≠ s.heap.objs.size := fun p hp e => hoff p hp (by rw [e]; exact .head _)
    refine wpAny_mono (turn i v a rest m₁ hh' tk' own s.heap.objs.size oI hPv hPi ho2 hI' hoff' hst.2 F₁ N₂) (fun f s₂ p => ?_) fun _ _ e => e
    have fin : (∃ h' tk m' a' rest', s₂ = { s with heap := h', toks := tk } ∧ Fr h₀ env.locals h' m' ∧ News h₀ env.locals h' (lit a' ++ (rest' ++ own)) ∧ (∀ p ∈ lit a' ++ rest', p.1 ≠ s.heap.objs.size) ∧ P (i + 1) a' m' rest') →
        LoopStepU h₀ env.locals [s.heap.objs.size] own (J (i + 1)) { s with heap := hh', toks := tk' } .next s₂ := by
      first | (intro zq5; (first | refine el_0_10 (zq5) ?_ | refine el_1_9 (zq5) ?_ | refine el_2_8 (zq5) ?_ | refine el_3_7 (zq5) ?_ | refine el_4_6 (zq5) ?_ | refine el_5_5 (zq5) ?_ | refine el_6_4 (zq5) ?_ | refine el_7_3 (zq5) ?_ | refine el_8_2 (zq5) ?_ | refine el_9_1 (zq5) ?_); (try clear zq5); intro h' tk m' a' rest' e F' N' hI2 hP') | rintro ⟨h', tk, m', a', rest', e, F', N', hI2, hP'⟩
      refine ⟨rfl, h', tk, m', lit a' ++ rest', e, F', fun p hp => N' p ?_, fun p hp hq => hI2 p hp (List.mem_singleton.mp hq), a', rest', rfl, hP'⟩
      rcases List.mem_append.mp hp with h1 | h1
      · exact List.mem_append_right _ (List.mem_append_right _ h1)
      · rcases List.mem_append.mp h1 with h2 | h2
        · exact List.mem_append_left _ h2
        · exact List.mem_append_right _ (List.mem_append_left _ h2)
    cases f with
    | ret v => exact .ret p
    | brk => exact .brk p
    | next => exact .next (fin p)
    | cont => exact .cont (fin p)
  · first | (intro h' tk m' news' F' N' _ zq6; (first | refine el_0_4 (zq6) ?_ | refine el_1_3 (zq6) ?_ | refine el_2_2 (zq6) ?_ | refine el_3_1 (zq6) ?_); (try clear zq6); intro a rest zq7 hP'; subst zq7) | rintro h' tk m' news' F' N' _ ⟨a, rest, rfl, hP'⟩
    exact done a rest m' h' tk hP' F' N'

/-- the same, the frame's names written: mm a tells all but the loop's own name x -/
noncomputable def LStepF {α : Type} (h₀ : Heap) (L I : Addr) (x : Str) (lit : α → Ledger) (mm : α → Str → Option Value) (P : α → Ledger → Prop) (own : Ledger) (s₁ : Shared) (Q : Flow → Shared → Prop) (f : Flow) (s₂ : Shared) : Prop :=
  match f with
  | .ret v => Q (.ret v) s₂
  | .brk => Q .next s₂
  | _ => ∃ h' tk m' a' rest', s₂ = { s₁ with heap := h', toks := tk } ∧ Fr h₀ L h' m' ∧ (∀ z, z ≠ x → m' z = mm a' z) ∧ News h₀ L h' (lit a' ++ (rest' ++ own)) ∧ (∀ p ∈ lit a' ++ rest', p.1 ≠ I) ∧ P a' rest'
theorem LStepF.intro {α : Type} {L I : Addr} {lit : α → Ledger} {mm : α → Str → Option Value} {P : α → Ledger → Prop} {own : Ledger} {s₁ : Shared} {h' : Heap} {tk : Nat} {m' : Str → Option Value} {news' : Ledger} (a' : α) (rest' : Ledger) (F : Fr h₀ L h' m') (hm : ∀ z, z ≠ x → m' z = mm a' z) (N : News h₀ L h' news')
    (hs : ∀ p ∈ lit a' ++ (rest' ++ own), p ∈ news') (hI : ∀ p ∈ lit a' ++ rest', p.1 ≠ I) (hP : P a' rest') : LStepF h₀ L I x lit mm P own s₁ Q .next { s₁ with heap := h', toks := tk } :=
  ⟨h', tk, m', a', rest', rfl, F, hm, fun p hp => N p (hs p hp), hI, hP⟩
theorem frame_is {L : Addr} {h : Heap} {m mm : Str → Option Value} {v : Value} (F : Fr h₀ L h (fun y => if y = x then some v else m y)) (hm : ∀ z, z ≠ x → m z = mm z) : Fr h₀ L h (fun y => if y = x then some v else mm y) := by
  have e : (fun y => if y = x then some v else m y) = fun y => if y = x then some v else mm y := by
    funext y
    by_cases hy : y = x
    · rw [if_pos hy, if_pos hy]
    · rw [if_neg hy, if_neg hy, hm y hy]
  exact e ▸ F
theorem frame_end {L : Addr} {h : Heap} {m mm : Str → Option Value} (F : Fr h₀ L h m) (hm : ∀ z, z ≠ x → m z = mm z) : Fr h₀ L h (fun y => if y = x then m y else mm y) := by
  have e : (fun y => if y = x then m y else mm y) = m := by
    funext y
    by_cases hy : y = x
    · rw [if_pos hy]
    · rw [if_neg hy, hm y hy]
  rw [e]; exact F

theorem iter_ledF {α : Type} {l : Addr} {items : Array Value} {m₀ : Str → Option Value} (lit : α → Ledger) (mm : α → Str → Option Value) (P : Nat → α → Ledger → Prop) (a₀ : α) (rest₀ : Ledger)
    (hh : A.handled = none) (F : Fr h₀ env.locals s.heap m₀) (N : News h₀ env.locals s.heap (lit a₀ ++ rest₀)) (hl : s.heap.IsList l items) (hlL : l ≠ env.locals) (hm : ∀ z, z ≠ x → m₀ z = mm a₀ z) (hP : P 0 a₀ rest₀)
    (turn : ∀ i v a rest h tk own I oI, items[i]? = some v → P i a rest → (∀ p ∈ own, p.1 = I ∨ p.1 = l) → (I, oI) ∈ own → (∀ p ∈ lit a ++ rest, p.1 ≠ I) → h.IsList l items →
      Fr h₀ env.locals h (fun y => if y = x then some v else mm a y) → News h₀ env.locals h (lit a ++ (rest ++ own)) →
      wpAny (model prog w) A (execs body env) (LStepF h₀ env.locals I x lit mm (P (i + 1)) own { s with heap := h, toks := tk } Q) E { s with heap := h, toks := tk })
    (done : ∀ a rest (u : Str → Option Value) h tk, P items.size a rest → Fr h₀ env.locals h (fun y => if y = x then u y else mm a y) → News h₀ env.locals h (lit a ++ rest) → Q .next { s with heap := h, toks := tk }) :
    wpAny (model prog w) A (pyIter (.ref l)) (fun it s₂ => LoopAtV prog w A h₀ env x body Q E it s₂) E s :=
  iter_led lit (fun i a m rest => (∀ z, z ≠ x → m z = mm a z) ∧ P i a rest) a₀ rest₀ hh F N hl hlL ⟨hm, hP⟩
    (fun i v a rest m₁ h tk own I oI hv ⟨hm₁, hP₁⟩ ho hIo hI hl' F' N' => wpAny_mono (turn i v a rest h tk own I oI hv hP₁ ho hIo hI hl' (frame_is F' hm₁) N') (fun f s₂ p => by
      have fin : (∃ h' tk' m' a' rest', s₂ = { s with heap := h', toks := tk' } ∧ Fr h₀ env.locals h' m' ∧ (∀ z, z ≠ x → m' z = mm a' z) ∧ News h₀ env.locals h' (lit a' ++ (rest' ++ own)) ∧ (∀ p ∈ lit a' ++ rest', p.1 ≠ I) ∧ P (i + 1) a' rest') →
          ∃ h' tk' m' a' rest', s₂ = { s with heap := h', toks := tk' } ∧ Fr h₀ env.locals h' m' ∧ News h₀ env.locals h' (lit a' ++ (rest' ++ own)) ∧ (∀ p ∈ lit a' ++ rest', p.1 ≠ I) ∧ ((∀ z, z ≠ x → m' z = mm a' z) ∧ P (i + 1) a' rest') :=
        fun q => el_5_6 q fun h' tk' m' a' rest' e F2 hm2 N2 hI2 P2 => ⟨h', tk', m', a', rest', e, F2, N2, hI2, hm2, P2⟩
      cases f with
      | ret v => exact p
      | brk => exact p
      | next => exact fin p
      | cont => exact fin p) fun _ _ e => e)
    fun a rest m₁ h tk ⟨hm₁, hP₁⟩ F' N' => done a rest m₁ h tk hP₁ (frame_end F' hm₁) N'

/-- so that no line of the kit goes on here -/
noncomputable def Stop (p : Prop) : Prop := p
theorem For_stop {m : Str → Option Value} {px pos : Pos} {iter : Expr} (F : Fr h₀ env.locals s.heap m) (hx : env.kindOf x = some .local) (hp : (env.scope.kind == .class || (env.scope.kind == .module && env.locals != env.globals)) = false)
    (h : wpAny (model prog w) A (eval iter env) (fun xv s₁ => wpAny (model prog w) A (pyIter xv) (fun it s₂ => Stop (LoopAtV prog w A h₀ env x body Q E it s₂)) E s₁) E s)
    (hs : ∀ x, foldedSetIterable iter env x = pure x := by intro _; rfl) (hE : PassesOwn (model prog w) A env E := by passes_own) : wpAny (model prog w) A (exec (.For (.Name x px) iter body [] pos) env) Q E s :=
  For_invVF F hx hp h hs hE

theorem lookup_if {α β : Type} [DecidableEq α] [BEq α] [LawfulBEq α] (z k : α) (v : β) (r : List (α × β)) : List.lookup z ((k, v) :: r) = if z = k then some v else List.lookup z r := by
  by_cases h : z = k
  · subst h; simp [List.lookup]
  · have : (z == k) = false := by simpa using h
    simp [List.lookup, this, h]
theorem lookup_no {α β : Type} [BEq α] (z : α) : List.lookup z ([] : List (α × β)) = none := rfl

theorem ints_val : ∀ {vs : List Value} {ns : List Int} {i : Nat} {v : Value}, IntsAre vs ns → vs[i]? = some v → ∃ n t, ns[i]? = some n ∧ v = .int n t := by
  intro vs ns i v h hv
  have hl := h.length
  first | ((first | refine el_0_2 (List.getElem?_eq_some_iff.mp hv) ?_ | refine el_1_1 (List.getElem?_eq_some_iff.mp hv) ?_); intro h1 h2) | obtain ⟨h1, h2⟩ := List.getElem?_eq_some_iff.mp hv
  first | ((first | refine el_0_2 (h.get i ns[i] (List.getElem?_eq_getElem (by omega))) ?_ | refine el_1_1 (h.get i ns[i] (List.getElem?_eq_getElem (by omega))) ?_); intro t ht) | obtain ⟨t, ht⟩ := h.get i ns[i] (List.getElem?_eq_getElem (by omega))
  exact ⟨ns[i], t, List.getElem?_eq_getElem (by omega), Option.some.inj (hv.symm.trans ht)⟩
theorem off_own {own T : Ledger} {I l d : Addr} (hown : ∀ p ∈ own, p.1 = I ∨ p.1 = l) (hI : ∀ p ∈ T, p.1 ≠ I) {o : Obj} (hd : (d, o) ∈ T) (hl : l ≠ d) : ∀ p ∈ own, p.1 ≠ d := fun p hp e => by
  rcases hown p hp with h | h
  · exact hI _ hd (e.symm.trans h)
  · exact hl (h.symm.trans e)
theorem ints_snoc {vs : List Value} {ns : List Int} {n : Int} {t : Tok} (h : IntsAre vs ns) : IntsAre (vs ++ [.int n t]) (ns ++ [n]) := by
  induction h with
  | nil => exact .cons _ _ .nil
  | cons a b _ ih => exact .cons a b ih

noncomputable def tokOf : Option Value → Tok
  | some (.int _ t) => t
  | some (.str _ t) => t
  | _ => 0
noncomputable def intOf : Option Value → Int
  | some (.int n _) => n
  | _ => 0
/-- the state's second half is read off the frame -/
theorem LStepF.intro2 {β γ : Type} {L I : Addr} {lit : β × γ → Ledger} {mm : β × γ → Str → Option Value} {P : β × γ → Ledger → Prop} {own : Ledger} {s₁ : Shared} {h' : Heap} {tk : Nat} {m' : Str → Option Value} {news' : Ledger} (b : β) (c : (Str → Option Value) → γ) (rest' : Ledger) (F : Fr h₀ L h' m') (N : News h₀ L h' news')
    (hs : ∀ p ∈ lit (b, c m') ++ (rest' ++ own), p ∈ news') (hm : ∀ z, z ≠ x → m' z = mm (b, c m') z) (hI : ∀ p ∈ lit (b, c m') ++ rest', p.1 ≠ I) (hP : P (b, c m') rest') : LStepF h₀ L I x lit mm P own s₁ Q .next { s₁ with heap := h', toks := tk } :=
  ⟨h', tk, m', (b, c m'), rest', rfl, F, hm, fun p hp => N p (hs p hp), hI, hP⟩
end

end
-- PARTS
section
open PySem PySem.Spec PySem.W PyProof.Rows PySem.Calls PyProof.V

noncomputable def partsGo : List Int → Int → List Int
  | [], _ => []
  | p :: r, size => if 0 < size then min p size :: partsGo r (size - min p size) else partsGo r size

theorem parts_yes {L : List Int} {i : Nat} {nv sz : Int} {ds all : List Int} (hnv : L[i]? = some nv) (hp : 0 < sz) (h : ds ++ partsGo (L.drop i) sz = all) : ds ++ [if sz < nv then sz else nv] ++ partsGo (L.drop (i + 1)) (sz - if sz < nv then sz else nv) = all := by
  first | ((first | refine el_0_2 (List.getElem?_eq_some_iff.mp hnv) ?_ | refine el_1_1 (List.getElem?_eq_some_iff.mp hnv) ?_); intro h1 h2) | obtain ⟨h1, h2⟩ := List.getElem?_eq_some_iff.mp hnv
  have e : (if sz < nv then sz else nv) = min nv sz := by omega
  rw [List.drop_eq_getElem_cons h1, h2, partsGo, if_pos hp] at h
  rw [e, ← h, List.append_assoc]; rfl
theorem parts_no {L : List Int} {i : Nat} {nv sz : Int} {ds all : List Int} (hnv : L[i]? = some nv) (hp : ¬ 0 < sz) (h : ds ++ partsGo (L.drop i) sz = all) : ds ++ partsGo (L.drop (i + 1)) sz = all := by
  first | ((first | refine el_0_2 (List.getElem?_eq_some_iff.mp hnv) ?_ | refine el_1_1 (List.getElem?_eq_some_iff.mp hnv) ?_); intro h1 h2) | obtain ⟨h1, h2⟩ := List.getElem?_eq_some_iff.mp hnv
  rw [List.drop_eq_getElem_cons h1, h2, partsGo, if_neg hp] at h
  exact h
theorem parts_end {ws ps : List Value} {L ds all : List Int} {sz : Int} (iL : IntsAre ws L) (hds : IntsAre ps ds) (h : ds ++ partsGo (L.drop ws.toArray.size) sz = all) : IntsAre ps all := by
  have e : L.drop ws.toArray.size = [] := List.drop_eq_nil_of_le (by rw [List.size_toArray, iL.length]; exact Nat.le_refl _)
  rw [e, partsGo, List.append_nil] at h
  exact h ▸ hds
theorem parts_ok (w : World) (p : Program) (loose : List Str) (mean : ExcName → Option Value) (mg mb : Str → Option Value) (l : Addr) (vs : List Value) (ns : List Int) (n : Nat) (hi : IntsAre vs ns) (hl : ns.length ≤ 5) (size : Int) (st : Tok) :
    HSpec 4 w p loose mean mg mb 151 [.ref l, .int size st] [] [(l, listOf vs.toArray n)] (fun tl upd r => ∃ r0 ps c, r = .ref r0 ∧ tl = [(r0, listOf (List.toArray ps) c)] ∧ IntsAre ps (partsGo (ns ++ [size]) size) ∧ upd = [(l, listOf vs.toArray n)]) := by
  intro dp un gd cn cs L a ccd cl outer base g s Q E B H hz X T hk hdp hun hret
  w_on
  k_dflt refine' h_enter (binds := [(Str.ofString "sizes", .ref l), (Str.ofString "size", .int size st)]) ?k1 ?k2 ?k3 ?k4 ?k5 ?k6 ?k7 ?k8 ?k9 ?kB ?_ ?c2 ?c3 ?c4 ?c5
  ((case k1 => assumption); (case k2 => assumption); (case k3 => assumption); (case k4 => assumption); (case k5 => assumption); (case k6 => k_is); (case k7 => k_is); (case k8 => ktr_room); (case k9 => exact BindsTo.of_eq rfl); (case c2 => decide); (case kB => exact locs rfl); (case c3 => exact rfl); (case c4 => exact rfl); (case c5 => exact rfl); k_whole; intro L' h' F' N' z' l1; (try k_lt l1); (simp only [List.reverse_cons, List.reverse_nil, List.nil_append, List.cons_append, lookup_if, lookup_no] at F'); revert L' h' F' N' z' l1; intros; (try dsimp only); (try k_unmd); (try k_fold); (try (refine let_A ?_; intro _; refine let_env ?_; intro _)))
  (try k_unmd); (try k_fold); repeat' (first | ((fail_if_success (fail_if_success (with_reducible show wpAny _ _ (exec (Stmt.For _ _ _ _ _) _) _ _ _))); (with_unfolding_all refine' For_stop ‹Fr _ _ _ _› ?y9k1 ?y9k2 ?_; (case y9k1 => exact rfl); (case y9k2 => exact rfl); k_whole)) | walk_at "S1")
  rename IntsAre _ _ => iL
  rename Fr _ _ _ _ => F1
  rename News _ _ _ _ => N1
  rename _ ∧ _ ∧ _ => l1
  rename_i pl _ _ one _ _ _ D ws _
  have hD : D ≠ pl := Nat.ne_of_gt l1.2.1
  k_dflt refine' iter_ledF (α := (List Value × Nat) × (Int × Tok)) (l := D) (items := ws.toArray) (fun a => [(pl, listOf a.1.1.toArray a.1.2)]) (fun a y => if y = Str.ofString "parts" then some (Value.ref pl) else if y = Str.ofString "size" then some (Value.int a.2.1 a.2.2) else if y = Str.ofString "sizes" then some (Value.ref l) else none)
    (fun i a rest => rest = [(l, listOf vs.toArray n), (D, listOf ws.toArray 0)] ∧ a.1.1.length ≤ i ∧ ∃ ds, IntsAre a.1.1 ds ∧ ds ++ partsGo ((ns ++ [size]).drop i) a.2.1 = partsGo (ns ++ [size]) size) (([], 0), (size, st)) [(l, listOf vs.toArray n), (D, listOf ws.toArray 0)] rfl F1 (fun p hp => N1 p ?perm) ⟨_, N1.get (by k_mem), rfl, 0, rfl⟩ ?hlL (fun _ _ => rfl) ⟨rfl, Nat.le_refl _, [], IntsAre.nil, rfl⟩ ?turn ?done
  case perm => revert p; k_allIn
  case hlL => exact (N1 _ (by k_mem : (D, listOf ws.toArray 0) ∈ _)).2.1
  case turn =>
    first | (intro i v zq1 rest h tk own I oI hv zq2 hown hIo hIn hl' F2 N2; (try k_unmd); (try (first | (with_reducible refine fold_comp ?_; intro XL YL ZL) | (with_reducible refine fold_for ?_; intro QL EL) | (with_reducible refine fold_while ?_; intro QL RL EL) | k_fold)); (first | refine el_0_3 (zq1) ?_ | refine el_1_2 (zq1) ?_ | refine el_2_1 (zq1) ?_); (try clear zq1); intro zq3 sz tz; (first | refine el_0_2 (zq3) ?_ | refine el_1_1 (zq3) ?_); (try clear zq3); intro ps c; (first | refine el_0_5 (zq2) ?_ | refine el_1_4 (zq2) ?_ | refine el_2_3 (zq2) ?_ | refine el_3_2 (zq2) ?_ | refine el_4_1 (zq2) ?_); (try clear zq2); intro zq4 hpl ds hds hgo; subst zq4) | rintro i v ⟨⟨ps, c⟩, sz, tz⟩ rest h tk own I oI hv ⟨rfl, hpl, ds, hds, hgo⟩ hown hIo hIn hl' F2 N2
    first | ((first | refine el_0_4 (ints_val iL (by simpa using hv)) ?_ | refine el_1_3 (ints_val iL (by simpa using hv)) ?_ | refine el_2_2 (ints_val iL (by simpa using hv)) ?_ | refine el_3_1 (ints_val iL (by simpa using hv)) ?_); intro nv tv hnv zq5; subst zq5) | obtain ⟨nv, tv, hnv, rfl⟩ := ints_val iL (by simpa using hv)
    have hop : ∀ p ∈ own, p.1 ≠ pl := off_own hown hIn (.head _) hD
    have hii := List.getElem?_eq_some_iff.mp hnv
    have hsz : ps.toArray.size ≤ sizeLine := by
      have := hii.1
      have hpl : ps.length ≤ i := hpl
      simp only [List.length_append, List.length_cons, List.length_nil] at this
      rw [List.size_toArray, sizeLine_eq]
      omega
    simp only [List.cons_append, List.nil_append] at N2
    try dsimp only
    try k_fold
    (try k_unmd); (try k_fold); repeat' (first | ((fail_if_success (fail_if_success (with_reducible show wpAny _ _ (call (Value.builtin "list.append") _ _) _ _ _))); dsimp only [List.nil_append, List.cons_append]; (with_reducible show wpAny _ _ (call (Value.builtin _) [Value.ref _, _]) _ _ _); k_dflt (refine' append_K ?y9k1 ?y9k2 ?y9k3 ?_ ?y9z; (case y9k1 => k_asm); (case y9k2 => k_asm); (case y9k3 => k_upd); (case y9z => size_fits); k_whole); intro _ _ _; (try k_sweep)) | walk_at "S1")
    · rename Fr _ _ _ _ => F3
      rename News _ _ _ _ => N3
      refine LStepF.intro2 (_, _) (fun m => (intOf (m (Str.ofString "size")), tokOf (m (Str.ofString "size")))) [(l, listOf vs.toArray n), (D, listOf ws.toArray 0)] F3 N3 (fun p hp => hp) ?hm ?hI ⟨rfl, ?len, _, ints_snoc hds, ?go⟩
      case hm =>
        intro z hz
        refine chEq (ks := [Str.ofString "size", Str.ofString "parts", Str.ofString "sizes"]) (ys := [Str.ofString "part"]) (l1 := [.one _ _, .one _ _, .one _ _, .one _ _, .one _ _]) (l2 := [.one _ _, .one _ _, .one _ _]) (b1 := fun _ => none) (b2 := fun _ => none) [[Str.ofString "size"], [Str.ofString "part"], [Str.ofString "parts"], [Str.ofString "size"], [Str.ofString "sizes"]] [[Str.ofString "parts"], [Str.ofString "size"], [Str.ofString "sizes"]] rfl rfl (by decide +kernel) (by decide +kernel) ?_ rfl (fun h => hz (List.mem_singleton.mp h))
        rfl
      case hI => exact List.forall_mem_cons.mpr ⟨hIn (pl, listOf ps.toArray c) (.head _), List.forall_mem_cons.mpr ⟨hIn (l, listOf vs.toArray n) (.tail _ (.head _)), List.forall_mem_cons.mpr ⟨hIn (D, listOf ws.toArray 0) (.tail _ (.tail _ (.head _))), List.forall_mem_nil _⟩⟩⟩
      case len =>
        have hpl : ps.length ≤ i := hpl
        show (ps ++ [_]).length ≤ i + 1
        rw [List.length_append]
        exact Nat.succ_le_succ hpl
      case go =>
        rename 0 < _ => hp
        exact parts_yes hnv hp hgo
    · rename Fr _ _ _ _ => F3
      rename News _ _ _ _ => N3
      rename ¬ 0 < _ => hp
      refine LStepF.intro ((ps, c), (sz, tz)) [(l, listOf vs.toArray n), (D, listOf ws.toArray 0)] F3 ?hm2 N3 (fun p hp => hp) hIn ⟨rfl, Nat.le_succ_of_le hpl, ds, hds, parts_no hnv hp hgo⟩
      intro z hz
      simp only [if_neg hz]
  case done =>
    first | (intro zq6 rest u h tk zq7 F2 N2; (try k_unmd); (try (first | (with_reducible refine fold_comp ?_; intro XL YL ZL) | (with_reducible refine fold_for ?_; intro QL EL) | (with_reducible refine fold_while ?_; intro QL RL EL) | k_fold)); (first | refine el_0_3 (zq6) ?_ | refine el_1_2 (zq6) ?_ | refine el_2_1 (zq6) ?_); (try clear zq6); intro zq8 sz tz; (first | refine el_0_2 (zq8) ?_ | refine el_1_1 (zq8) ?_); (try clear zq8); intro ps c; (first | refine el_0_5 (zq7) ?_ | refine el_1_4 (zq7) ?_ | refine el_2_3 (zq7) ?_ | refine el_3_2 (zq7) ?_ | refine el_4_1 (zq7) ?_); (try clear zq7); intro zq9 hpl ds hds hgo; subst zq9) | rintro ⟨⟨ps, c⟩, sz, tz⟩ rest u h tk ⟨rfl, hpl, ds, hds, hgo⟩ F2 N2
    try dsimp only
    try k_fold
    (try k_unmd); (try k_fold); repeat' (walk_at "S1")
    try dsimp only
    rename Fr _ _ _ _ => F3
    rename News _ _ _ _ => N3
    refine h_leave [(pl, listOf ps.toArray c)] [(l, listOf vs.toArray n)] hret F3 N3 ?hs rfl ?lo (List.pairwise_singleton _ _) ⟨pl, ps, c, rfl, rfl, ?hi, rfl⟩
    case hs => intro p hp; revert p; k_allIn
    case lo =>
      intro p hp q hq
      obtain rfl := List.mem_singleton.mp hp
      obtain rfl := List.mem_singleton.mp hq
      exact Apt.gt (by assumption)
    case hi => exact parts_end iL hds hgo

end
-- B7
section
open PySem PySem.Spec PySem.W PyProof.Rows PySem.Calls PyProof.V
section
variable {prog : Program} {w : World} {A : Around} {E : Value → Shared → Prop} {s : Shared} {env : Env} {h₀ : Heap} {target iter : Expr} {body orelse : List Stmt} {pos : Pos} {Q : Flow → Shared → Prop}

/-- a for statement, opened up to its iterator -/
noncomputable def ForGo (prog : Program) (w : World) (A : Around) (env : Env) (target : Expr) (body orelse : List Stmt) (Q : Flow → Shared → Prop) (E : Value → Shared → Prop) (it : Value) (s₂ : Shared) : Prop :=
  PassesOwn (model prog w) A env E ∧ codeAny (model prog w) A (.forLoop target it body orelse env) (fun r s' => match r with | .ok f => Q f s' | .error e => cameBackBy (model prog w) A env E e s') s₂
theorem For_go (h : wpAny (model prog w) A (eval iter env) (fun xv s₁ => wpAny (model prog w) A (pyIter xv) (fun it s₂ => ForGo prog w A env target body orelse Q E it s₂) E s₁) E s)
    (hs : ∀ x, foldedSetIterable iter env x = pure x := by intro _; rfl) : wpAny (model prog w) A (exec (.For target iter body orelse pos) env) Q E s :=
  wpAny_For (wpAny_mono h (fun _ _ h₁ => wpAny_mono h₁ (fun _ _ h₂ => h₂.2) fun _ _ e => e) fun _ _ e => e) hs

/-- what a turn owes at its end -/
noncomputable def LS {α : Type} (h₀ : Heap) (L I : Addr) (oI : Obj) (xs : List Str) (lit : α → Ledger) (mm : α → Str → Option Value) (P : α → Ledger → Prop) (s₁ : Shared) (Q : Flow → Shared → Prop) (f : Flow) (s₂ : Shared) : Prop :=
  match f with
  | .ret v => Q (.ret v) s₂
  | .brk => Q .next s₂
  | _ => ∃ h' tk m' a' rest', s₂ = { s₁ with heap := h', toks := tk } ∧ Fr h₀ L h' m' ∧ (∀ z, z ∉ xs → m' z = mm a' z) ∧ News h₀ L h' (lit a' ++ (rest' ++ [(I, oI)])) ∧ (∀ p ∈ lit a' ++ rest', Apt p.1 I) ∧ P a' rest'
theorem LS.intro {α : Type} {L I : Addr} {oI : Obj} {xs : List Str} {lit : α → Ledger} {mm : α → Str → Option Value} {P : α → Ledger → Prop} {s₁ : Shared} {h' : Heap} {tk : Nat} {m' : Str → Option Value} {news' : Ledger} (a' : α) (rest' : Ledger) (F : Fr h₀ L h' m') (N : News h₀ L h' news')
    (hs : ∀ p ∈ lit a' ++ (rest' ++ [(I, oI)]), p ∈ news') (hm : ∀ z, z ∉ xs → m' z = mm a' z) (hI : ∀ p ∈ lit a' ++ rest', Apt p.1 I) (hP : P a' rest') : LS h₀ L I oI xs lit mm P s₁ Q .next { s₁ with heap := h', toks := tk } :=
  ⟨h', tk, m', a', rest', rfl, F, hm, fun p hp => N p (hs p hp), hI, hP⟩
/-- the state's second half is read off the frame -/
theorem LS.intro2 {β γ : Type} {L I : Addr} {oI : Obj} {xs : List Str} {lit : β × γ → Ledger} {mm : β × γ → Str → Option Value} {P : β × γ → Ledger → Prop} {s₁ : Shared} {h' : Heap} {tk : Nat} {m' : Str → Option Value} {news' : Ledger} (b : β) (c : (Str → Option Value) → γ) (rest' : Ledger) (F : Fr h₀ L h' m') (N : News h₀ L h' news')
    (hs : ∀ p ∈ lit (b, c m') ++ (rest' ++ [(I, oI)]), p ∈ news') (hm : ∀ z, z ∉ xs → m' z = mm (b, c m') z) (hI : ∀ p ∈ lit (b, c m') ++ rest', Apt p.1 I) (hP : P (b, c m') rest') : LS h₀ L I oI xs lit mm P s₁ Q .next { s₁ with heap := h', toks := tk } :=
  ⟨h', tk, m', (b, c m'), rest', rfl, F, hm, fun p hp => N p (hs p hp), hI, hP⟩

theorem for_led {α : Type} {I : Addr} {side : Ledger} {n : Nat} {Pv : Nat → Value → Prop} {St : Nat → Heap → Prop} {m₀ : Str → Option Value} (xs : List Str) (lit : α → Ledger) (mm : α → Str → Option Value) (P : Nat → α → Ledger → Prop) (a₀ : α) (rest₀ : Ledger)
    (W : Walks prog w A I (I :: side.map (·.1)) [I] n Pv St) (hst : St 0 s.heap) (hon : ∀ i h, St i h → ∃ o, h.get? I = some o) (hI₀ : h₀.get? I = none) (hIL : I ≠ env.locals) (F : Fr h₀ env.locals s.heap m₀) (N : News h₀ env.locals s.heap (lit a₀ ++ rest₀)) (hNI : ∀ p ∈ lit a₀ ++ rest₀, Apt p.1 I)
    (hm : ∀ z, z ∉ xs → m₀ z = mm a₀ z) (hP : P 0 a₀ rest₀) (hE : PassesOwn (model prog w) A env E)
    (hside : ∀ i a rest h m, P i a rest → Fr h₀ env.locals h m → News h₀ env.locals h (lit a ++ rest) → ∀ p ∈ side, h.get? p.1 = some p.2)
    (turn : ∀ i v a rest (u : Str → Option Value) h tk oI, i < n → Pv i v → P i a rest → (∀ p ∈ lit a ++ rest, Apt p.1 I) → Fr h₀ env.locals h (fun z => if z ∈ xs then u z else mm a z) → News h₀ env.locals h (lit a ++ (rest ++ [(I, oI)])) →
      wpAny (model prog w) A (assign target env v) (fun _ s₂ => wpAny (model prog w) A (execs body env) (LS h₀ env.locals I oI xs lit mm (P (i + 1)) { s with heap := h, toks := tk } Q) E s₂) E { s with heap := h, toks := tk })
    (done : ∀ a rest (u : Str → Option Value) h tk, P n a rest → Fr h₀ env.locals h (fun z => if z ∈ xs then u z else mm a z) → News h₀ env.locals h (lit a ++ rest) → wpAny (model prog w) A (execs orelse env) Q E { s with heap := h, toks := tk })
    (ht : ∀ v, letOwnedTupleGo target (.ref I) v = pure () := by intro _; rfl) :
    ForGo prog w A env target body orelse Q E (.ref I) s := by
  refine ⟨hE, codeAny_forLoop (fun k s' => ∃ h' tk m' a rest i, s' = { s with heap := h', toks := tk } ∧ St i h' ∧ Fr h₀ env.locals h' m' ∧ (∀ z, z ∉ xs → m' z = mm a z) ∧ News h₀ env.locals h' (lit a ++ rest) ∧ (∀ p ∈ lit a ++ rest, Apt p.1 I) ∧ P i a rest ∧ i ≤ n ∧ k = n + 1 - i) ?_ (n + 1)
    ⟨s.heap, s.toks, m₀, a₀, rest₀, 0, rfl, hst, F, hm, N, hNI, hP, Nat.zero_le _, rfl⟩ ht⟩
  first | (intro k s' zq1; (first | refine el_0_15 (zq1) ?_ | refine el_1_14 (zq1) ?_ | refine el_2_13 (zq1) ?_ | refine el_3_12 (zq1) ?_ | refine el_4_11 (zq1) ?_ | refine el_5_10 (zq1) ?_ | refine el_6_9 (zq1) ?_ | refine el_7_8 (zq1) ?_ | refine el_8_7 (zq1) ?_ | refine el_9_6 (zq1) ?_ | refine el_10_5 (zq1) ?_ | refine el_11_4 (zq1) ?_ | refine el_12_3 (zq1) ?_); (try clear zq1); intro h' tk m' a rest i zq2 hst' F' hm' N' hNI' hP' hi zq3; subst zq2; subst zq3) | rintro k s' ⟨h', tk, m', a, rest, i, rfl, hst', F', hm', N', hNI', hP', hi, rfl⟩
  have fr : ∀ {h : Heap} {m : Str → Option Value} {a : α}, Fr h₀ env.locals h m → (∀ z, z ∉ xs → m z = mm a z) → Fr h₀ env.locals h (fun z => if z ∈ xs then m z else mm a z) := fun {h m a} F hm => by
    have e : (fun z => if z ∈ xs then m z else mm a z) = m := by
      funext z
      by_cases hz : z ∈ xs
      · rw [if_pos hz]
      · rw [if_neg hz, hm z hz]
    rw [e]; exact F
  have next : ∀ h₁ : Heap, (∀ b o, b ∉ [I] → h'.get? b = some o → h₁.get? b = some o) → Fr h₀ env.locals h₁ m' ∧ News h₀ env.locals h₁ (lit a ++ rest) := fun h₁ hk₁ =>
    ⟨⟨F'.ns.at' fun o e => hk₁ _ o (fun q => hIL (List.mem_singleton.mp q).symm) e, fun b o e => hk₁ b o (fun q => by rw [List.mem_singleton.mp q, hI₀] at e; cases e) (F'.keep b o e), F'.above⟩,
      fun p hp => ⟨hk₁ _ _ (fun q => hNI' p hp (List.mem_singleton.mp q)) (N' p hp).1, (N' p hp).2⟩⟩
  by_cases hlt : i < n
  · refine W.item i _ _ _ hlt hst' fun v h₁ tk₁ hPv hst₁ hk₁ => ?_
    first | ((first | refine el_0_2 (next h₁ hk₁) ?_ | refine el_1_1 (next h₁ hk₁) ?_); intro F₁ N₁) | obtain ⟨F₁, N₁⟩ := next h₁ hk₁
    first | ((first | refine el_0_2 (hon _ _ hst₁) ?_ | refine el_1_1 (hon _ _ hst₁) ?_); intro oI hoI) | obtain ⟨oI, hoI⟩ := hon _ _ hst₁
    have NI : News h₀ env.locals h₁ (lit a ++ (rest ++ [(I, oI)])) := fun p hp => by
      rw [← List.append_assoc] at hp
      rcases List.mem_append.mp hp with hp | hp
      · exact N₁ p hp
      · rw [List.mem_singleton.mp hp]; exact ⟨hoI, hIL, hI₀⟩
    refine wpAny_mono (turn i v a rest m' h₁ tk₁ oI hlt hPv hP' hNI' (fr F₁ hm') NI) (fun _ s₂ h₂ => ?_) hE
    refine wpAny_mono h₂ (fun f s₃ h₃ => ?_) hE
    have fin : (∃ h' tk m' a' rest', s₃ = { s with heap := h', toks := tk } ∧ Fr h₀ env.locals h' m' ∧ (∀ z, z ∉ xs → m' z = mm a' z) ∧ News h₀ env.locals h' (lit a' ++ (rest' ++ [(I, oI)])) ∧ (∀ p ∈ lit a' ++ rest', Apt p.1 I) ∧ P (i + 1) a' rest') →
        ∃ m, m < n + 1 - i ∧ ∃ h' tk m' a rest j, s₃ = { s with heap := h', toks := tk } ∧ St j h' ∧ Fr h₀ env.locals h' m' ∧ (∀ z, z ∉ xs → m' z = mm a z) ∧ News h₀ env.locals h' (lit a ++ rest) ∧ (∀ p ∈ lit a ++ rest, Apt p.1 I) ∧ P j a rest ∧ j ≤ n ∧ m = n + 1 - j := by
      first | (intro zq4; (first | refine el_0_11 (zq4) ?_ | refine el_1_10 (zq4) ?_ | refine el_2_9 (zq4) ?_ | refine el_3_8 (zq4) ?_ | refine el_4_7 (zq4) ?_ | refine el_5_6 (zq4) ?_ | refine el_6_5 (zq4) ?_ | refine el_7_4 (zq4) ?_ | refine el_8_3 (zq4) ?_ | refine el_9_2 (zq4) ?_ | refine el_10_1 (zq4) ?_); (try clear zq4); intro h₃' tk₃ m₃ a' rest' zq5 F₃ hm₃ N₃ hI₃ hP₃; subst zq5) | rintro ⟨h₃', tk₃, m₃, a', rest', rfl, F₃, hm₃, N₃, hI₃, hP₃⟩
      have N₄ : News h₀ env.locals h₃' (lit a' ++ rest') := fun p hp => N₃ p (by rw [← List.append_assoc]; exact List.mem_append_left _ hp)
      refine ⟨n + 1 - (i + 1), by omega, h₃', tk₃, m₃, a', rest', i + 1, rfl, W.frame _ _ _ hst₁ (fun b hb o e => ?_), F₃, hm₃, N₄, hI₃, hP₃, hlt, rfl⟩
      rcases List.mem_cons.mp hb with rfl | hb
      · have e2 := hoI.symm.trans e
        rw [← e2]
        exact (N₃ (_, oI) (by rw [← List.append_assoc]; exact List.mem_append_right _ (.head _))).1
      · first | ((first | refine el_0_3 (List.mem_map.mp hb) ?_ | refine el_1_2 (List.mem_map.mp hb) ?_ | refine el_2_1 (List.mem_map.mp hb) ?_); intro q hq zq6; subst zq6) | obtain ⟨q, hq, rfl⟩ := List.mem_map.mp hb
        have e1 := hside i a rest h₁ m' hP' F₁ N₁ q hq
        rw [← e1.symm.trans e]
        exact hside (i + 1) a' rest' h₃' m₃ hP₃ F₃ N₄ q hq
    cases f with
    | ret v => exact h₃
    | brk => exact h₃
    | next => exact fin h₃
    | cont => exact fin h₃
  · have hin : i = n := by omega
    subst hin
    refine W.done _ _ _ hst' fun h₁ tk₁ hk₁ => ?_
    first | ((first | refine el_0_2 (next h₁ hk₁) ?_ | refine el_1_1 (next h₁ hk₁) ?_); intro F₁ N₁) | obtain ⟨F₁, N₁⟩ := next h₁ hk₁
    exact wpAny_mono (done a rest m' h₁ tk₁ hP' (fr F₁ hm') N₁) (fun _ _ x => x) hE

/-- over a list that the ledger, or the ground, holds unchanged -/
theorem for_list {α : Type} {l : Addr} {items : Array Value} {ol : Obj} {m₀ : Str → Option Value} (xs : List Str) (lit : α → Ledger) (mm : α → Str → Option Value) (P : Nat → α → Ledger → Prop) (a₀ : α) (rest₀ : Ledger)
    (hE : PassesOwn (model prog w) A env E) (hh : A.handled = none) (F : Fr h₀ env.locals s.heap m₀) (N : News h₀ env.locals s.heap (lit a₀ ++ rest₀)) (hol : ol.cls = .type "list" ∧ ∃ n, ol.data = .seq items n)
    (hm : ∀ z, z ∉ xs → m₀ z = mm a₀ z) (hP : P 0 a₀ rest₀)
    (hside : ∀ i a rest h m, P i a rest → Fr h₀ env.locals h m → News h₀ env.locals h (lit a ++ rest) → h.get? l = some ol)
    (turn : ∀ I i v a rest (u : Str → Option Value) h tk oI, items[i]? = some v → P i a rest → (∀ p ∈ lit a ++ rest, Apt p.1 I) → Fr h₀ env.locals h (fun z => if z ∈ xs then u z else mm a z) → News h₀ env.locals h (lit a ++ (rest ++ [(I, oI)])) →
      wpAny (model prog w) A (assign target env v) (fun _ s₂ => wpAny (model prog w) A (execs body env) (LS h₀ env.locals I oI xs lit mm (P (i + 1)) { s with heap := h, toks := tk } Q) E s₂) E { s with heap := h, toks := tk })
    (done : ∀ a rest (u : Str → Option Value) h tk, P items.size a rest → Fr h₀ env.locals h (fun z => if z ∈ xs then u z else mm a z) → News h₀ env.locals h (lit a ++ rest) → wpAny (model prog w) A (execs orelse env) Q E { s with heap := h, toks := tk })
    (ht : ∀ it v, letOwnedTupleGo target it v = pure () := by intro _ _; rfl) :
    wpAny (model prog w) A (pyIter (.ref l)) (fun it s₂ => ForGo prog w A env target body orelse Q E it s₂) E s := by
  have hl : s.heap.IsList l items := ⟨ol, hside 0 a₀ rest₀ s.heap m₀ hP F N, hol.1, hol.2⟩
  have hlt : l < s.heap.objs.size := Heap.lt_size (hside 0 a₀ rest₀ s.heap m₀ hP F N)
  have hne : l ≠ s.heap.objs.size := Nat.ne_of_lt hlt
  refine wpAny_pyIter_list hl ?_
  have W := Walks.list (prog := prog) (w := w) hh s.heap.objs.size l hne items
  refine for_led (s := { s with heap := _ }) (side := [(l, ol)]) xs lit mm P a₀ rest₀ W ⟨⟨_, Heap.get?_push_size _ rfl, rfl, rfl⟩, hl.at fun o e => Heap.get?_push_of_some _ e⟩ (fun i h st => let ⟨o, e, _⟩ := st.1; ⟨o, e⟩)
    (Heap.get?_none_of_le (Nat.le_trans F.above (Nat.le_of_lt F.ns.lt))) (Nat.ne_of_gt F.ns.lt) (F.push _) (fun p hp => ⟨Heap.get?_push_of_some _ (N p hp).1, (N p hp).2⟩) (fun p hp => Apt.lt (Heap.lt_size (N p hp).1)) hm hP hE
    (fun i a rest h m hP F N p hp => by rw [List.mem_singleton.mp hp]; exact hside i a rest h m hP F N) ?_ done (ht _)
  intro i v a rest u h tk oI _ hv hP hI F' N'
  exact turn _ i v a rest u h tk oI hv hP hI F' N'

/-- over a text, sign by sign -/
theorem for_text {α : Type} {tx : Str} {tt : Tok} {m₀ : Str → Option Value} (xs : List Str) (lit : α → Ledger) (mm : α → Str → Option Value) (P : Nat → α → Ledger → Prop) (a₀ : α) (rest₀ : Ledger)
    (hE : PassesOwn (model prog w) A env E) (hh : A.handled = none) (F : Fr h₀ env.locals s.heap m₀) (N : News h₀ env.locals s.heap (lit a₀ ++ rest₀)) (hm : ∀ z, z ∉ xs → m₀ z = mm a₀ z) (hP : P 0 a₀ rest₀)
    (turn : ∀ I i c ut a rest (u : Str → Option Value) h tk oI, tx.cps[i]? = some c → P i a rest → (∀ p ∈ lit a ++ rest, Apt p.1 I) → Fr h₀ env.locals h (fun z => if z ∈ xs then u z else mm a z) → News h₀ env.locals h (lit a ++ (rest ++ [(I, oI)])) →
      wpAny (model prog w) A (assign target env (.str ⟨#[c]⟩ ut)) (fun _ s₂ => wpAny (model prog w) A (execs body env) (LS h₀ env.locals I oI xs lit mm (P (i + 1)) { s with heap := h, toks := tk } Q) E s₂) E { s with heap := h, toks := tk })
    (done : ∀ a rest (u : Str → Option Value) h tk, P tx.cps.size a rest → Fr h₀ env.locals h (fun z => if z ∈ xs then u z else mm a z) → News h₀ env.locals h (lit a ++ rest) → wpAny (model prog w) A (execs orelse env) Q E { s with heap := h, toks := tk })
    (ht : ∀ it v, letOwnedTupleGo target it v = pure () := by intro _ _; rfl) :
    wpAny (model prog w) A (pyIter (.str tx tt)) (fun it s₂ => ForGo prog w A env target body orelse Q E it s₂) E s := by
  have go : ∀ (nm : String) (o : Obj), Walks prog w A s.heap.objs.size [s.heap.objs.size] [s.heap.objs.size] tx.cps.size (SignAt tx) (fun i h => h.IsStrIter s.heap.objs.size nm tx tt i) →
      (s.heap.push o).IsStrIter s.heap.objs.size nm tx tt 0 → ForGo prog w A env target body orelse Q E (.ref s.heap.objs.size) { s with heap := s.heap.push o } := by
    intro nm o W hst
    refine for_led (s := { s with heap := s.heap.push o }) (side := []) xs lit mm P a₀ rest₀ W hst (fun i h st => let ⟨o, e, _⟩ := st; ⟨o, e⟩)
      (Heap.get?_none_of_le (Nat.le_trans F.above (Nat.le_of_lt F.ns.lt))) (Nat.ne_of_gt F.ns.lt) (F.push _) (fun p hp => ⟨Heap.get?_push_of_some _ (N p hp).1, (N p hp).2⟩) (fun p hp => Apt.lt (Heap.lt_size (N p hp).1)) hm hP hE
      (fun i a rest h m hP F N p hp => nomatch hp) ?_ done (ht _)
    first | (intro i v a rest u h tk oI _ zq7 hP hI F' N'; (first | refine el_0_4 (zq7) ?_ | refine el_1_3 (zq7) ?_ | refine el_2_2 (zq7) ?_ | refine el_3_1 (zq7) ?_); (try clear zq7); intro c ut hc zq8; subst zq8) | rintro i v a rest u h tk oI _ ⟨c, ut, hc, rfl⟩ hP hI F' N'
    exact turn _ i c ut a rest u h tk oI hc hP hI F' N'
  cases ha : tx.cps.all (· < 128)
  · exact wpAny_pyIter_wide ha (go "str_iterator" _ (Walks.strWide hh _ tx tt) ⟨_, Heap.get?_push_size _ rfl, rfl, rfl⟩)
  · exact wpAny_pyIter_ascii ha (go "str_ascii_iterator" _ (Walks.strAscii hh _ tx tt) ⟨_, Heap.get?_push_size _ rfl, rfl, rfl⟩)

/-- over a range of small ints that goes up by one -/
theorem for_range {α : Type} {r : Addr} {a0 b0 : Int} {t1 t2 t3 : Tok} {n : Nat} {m₀ : Str → Option Value} (xs : List Str) (lit : α → Ledger) (mm : α → Str → Option Value) (P : Nat → α → Ledger → Prop) (a₀ : α) (rest₀ : Ledger)
    (hE : PassesOwn (model prog w) A env E) (hh : A.handled = none) (F : Fr h₀ env.locals s.heap m₀) (N : News h₀ env.locals s.heap (lit a₀ ++ rest₀)) (hr : IsRange s.heap r a0 b0 1 t1 t2 t3) (hsmall : Builtin.Range.small a0 b0 1 = true) (hn : Builtin.Range.rangeSize a0 b0 1 = (n : Int))
    (hm : ∀ z, z ∉ xs → m₀ z = mm a₀ z) (hP : P 0 a₀ rest₀)
    (turn : ∀ I (i : Nat) ut a rest (u : Str → Option Value) h tk oI, i < n → P i a rest → (∀ p ∈ lit a ++ rest, Apt p.1 I) → Fr h₀ env.locals h (fun z => if z ∈ xs then u z else mm a z) → News h₀ env.locals h (lit a ++ (rest ++ [(I, oI)])) →
      wpAny (model prog w) A (assign target env (.int (a0 + (i : Int)) ut)) (fun _ s₂ => wpAny (model prog w) A (execs body env) (LS h₀ env.locals I oI xs lit mm (P (i + 1)) { s with heap := h, toks := tk } Q) E s₂) E { s with heap := h, toks := tk })
    (done : ∀ a rest (u : Str → Option Value) h tk, P n a rest → Fr h₀ env.locals h (fun z => if z ∈ xs then u z else mm a z) → News h₀ env.locals h (lit a ++ rest) → wpAny (model prog w) A (execs orelse env) Q E { s with heap := h, toks := tk })
    (ht : ∀ it v, letOwnedTupleGo target it v = pure () := by intro _ _; rfl) :
    wpAny (model prog w) A (pyIter (.ref r)) (fun it s₂ => ForGo prog w A env target body orelse Q E it s₂) E s := by
  refine wpAny_pyIter_range hr hsmall ?_
  refine for_led (s := { s with heap := _ }) (side := []) xs lit mm P a₀ rest₀ (Walks.range hh s.heap.objs.size a0 1 n) ?_ (fun i h st => ⟨_, st⟩)
    (Heap.get?_none_of_le (Nat.le_trans F.above (Nat.le_of_lt F.ns.lt))) (Nat.ne_of_gt F.ns.lt) (F.push _) (fun p hp => ⟨Heap.get?_push_of_some _ (N p hp).1, (N p hp).2⟩) (fun p hp => Apt.lt (Heap.lt_size (N p hp).1)) hm hP hE
    (fun i a rest h m hP F N p hp => nomatch hp) ?_ done (ht _)
  · have e : a0 + ((0 : Nat) : Int) * 1 = a0 := by omega
    have e2 : (n : Int) - ((0 : Nat) : Int) = Builtin.Range.rangeSize a0 b0 1 := by rw [hn]; omega
    show IsRangeIter _ _ (a0 + ((0 : Nat) : Int) * 1) ((n : Int) - ((0 : Nat) : Int)) 1
    rw [e, e2]
    exact Heap.get?_push_size _ rfl
  · first | (intro i v a rest u h tk oI hi zq9 hP hI F' N'; (first | refine el_0_2 (zq9) ?_ | refine el_1_1 (zq9) ?_); (try clear zq9); intro ut zq10; subst zq10) | rintro i v a rest u h tk oI hi ⟨ut, rfl⟩ hP hI F' N'
    rw [show a0 + (i : Int) * 1 = a0 + (i : Int) from by omega]
    exact turn _ i ut a rest u h tk oI hi hP hI F' N'
end

end
-- BITS
section
open PySem PySem.Spec PySem.W PyProof.Rows PySem.Calls PyProof.V
noncomputable def hexS (n : Int) : Str := baseText "0x" 16 n
noncomputable def flagTab : List (Int × PyData) := [(1, .str "OPTIMIZED"), (2, .str "NEWLOCALS"), (4, .str "VARARGS"), (8, .str "VARKEYWORDS"), (16, .str "NESTED"), (32, .str "GENERATOR"), (64, .str "NOFREE"), (128, .str "COROUTINE"), (256, .str "ITERABLE_COROUTINE"), (512, .str "ASYNC_GENERATOR")]
noncomputable def strOf : PyData → Str
  | .str s => s
  | _ => ⟨#[]⟩
noncomputable def flagAt (x : Int) : Str := strOf ((KTD.datumAt x flagTab).getD (.str (hexS x)))
theorem flagAt_is (x : Int) : (KTD.datumAt x flagTab).getD (.str (hexS x)) = .str (flagAt x) := by
  unfold flagAt
  have go : ∀ (l : List (Int × PyData)), (∀ p ∈ l, ∃ s, p.2 = .str s) → ∃ s, (KTD.datumAt x l).getD (.str (hexS x)) = .str s := by
    intro l
    induction l with
    | nil => intro _; exact ⟨_, rfl⟩
    | cons p l ih =>
      intro h
      first | ((first | refine el_0_2 (p) ?_ | refine el_1_1 (p) ?_); (try clear p); intro i d) | obtain ⟨i, d⟩ := p
      show ∃ s, (if decide (x = i) = true then some d else KTD.datumAt x l).getD _ = _
      by_cases hx : x = i
      · first | ((first | refine el_0_2 (h _ (.head _)) ?_ | refine el_1_1 (h _ (.head _)) ?_); intro s hs) | obtain ⟨s, hs⟩ := h _ (.head _)
        rw [if_pos (by simpa using hx)]
        exact ⟨s, hs⟩
      · rw [if_neg (by simpa using hx)]
        exact ih fun q hq => h q (.tail _ hq)
  obtain ⟨s, hs⟩ := go flagTab (by
    unfold flagTab
    (repeat' (refine List.forall_mem_cons.mpr ⟨⟨_, rfl⟩, ?_⟩))
    exact List.forall_mem_nil _)
  rw [hs]; rfl

theorem digits_len : ∀ (f k n : Nat) (ds : List Char), 0 < k → n < 16 ^ k → (Nat.toDigitsCore 16 f n ds).length ≤ k + ds.length
  | 0, _, _, _, _, _ => by rw [Nat.toDigitsCore]; omega
  | f + 1, k, n, ds, hk, hn => by
    rw [Nat.toDigitsCore]
    split
    · simp only [List.length_cons]; omega
    · rename_i h
      first | ((first | refine el_0_2 (show ∃ j, k = j + 1 from ⟨k - 1, by omega⟩) ?_ | refine el_1_1 (show ∃ j, k = j + 1 from ⟨k - 1, by omega⟩) ?_); intro k zq1; subst zq1) | obtain ⟨k, rfl⟩ : ∃ j, k = j + 1 := ⟨k - 1, by omega⟩
      have hn' : n / 16 < 16 ^ k := Nat.div_lt_of_lt_mul (by rw [Nat.pow_succ] at hn; omega)
      have hk' : 0 < k := by
        rcases Nat.eq_zero_or_pos k with rfl | h'
        · rw [Nat.pow_zero] at hn'; omega
        · exact h'
      have := digits_len f k (n / 16) ((n % 16).digitChar :: ds) hk' hn'
      simp only [List.length_cons] at this
      omega
theorem hexS_len {n : Int} (h0 : 0 ≤ n) (h1 : n < 2 ^ 40) : (baseText "0x" 16 n).length ≤ 12 := by
  rw [baseText_nonneg h0]
  simp only [strLen_append, PySem.ofString_length]
  have h2 : n.natAbs < 16 ^ 10 := by omega
  have := digits_len (n.natAbs + 1) 10 n.natAbs [] (by omega) h2
  have e : (String.ofList (Nat.toDigits 16 n.natAbs)).length = (Nat.toDigits 16 n.natAbs).length := by simp
  rw [e]
  have e2 : (Nat.toDigits 16 n.natAbs).length ≤ 10 := by simpa [Nat.toDigits] using this
  have e3 : "".length = 0 := rfl
  have e4 : "0x".length = 2 := rfl
  rw [e3, e4]
  omega

/-- what is left of N from bit i on -/
noncomputable def above (N : Int) (i : Nat) : Int := N / 2 ^ i * 2 ^ i
noncomputable def bitOn (N : Int) (i : Nat) : Bool := decide (N / 2 ^ i % 2 = 1)
theorem above_and (N : Int) (i : Nat) : Builtin.bitAnd (above N i) (2 ^ i) = (N / 2 ^ i % 2) * 2 ^ i := by
  rw [kbt_bit]
  unfold above
  rw [Int.mul_ediv_cancel _ (Int.ne_of_gt (kbt_pos i))]
theorem half_pow (N : Int) (i : Nat) : N / 2 ^ i = 2 * (N / 2 ^ (i + 1)) + N / 2 ^ i % 2 := by
  have h : N / 2 ^ (i + 1) = N / 2 ^ i / 2 := by rw [Int.pow_succ, Int.ediv_ediv_of_nonneg (Int.le_of_lt (kbt_pos i))]
  rw [h]; omega
theorem above_succ (N : Int) (i : Nat) : above N i = above N (i + 1) + (N / 2 ^ i % 2) * 2 ^ i := by
  unfold above
  have h := half_pow N i
  generalize N / 2 ^ (i + 1) = a at h ⊢
  generalize N / 2 ^ i % 2 = b at h ⊢
  rw [h, Int.pow_succ, Int.add_mul]
  congr 1
  rw [Int.mul_comm 2 a, Int.mul_assoc, Int.mul_comm 2]
theorem above_zero (N : Int) : above N 0 = N := by unfold above; simp
theorem above_xor (N : Int) (i : Nat) (h : N / 2 ^ i % 2 = 1) : Builtin.bitXor (above N i) (2 ^ i) = above N (i + 1) := by
  rw [bitXor_and, above_and, above_succ, h]; omega
/-- the names of the bits below i -/
noncomputable def namesTo (N : Int) (i : Nat) : List Str := ((List.range i).filter (bitOn N)).map fun j => flagAt (2 ^ j)
theorem namesTo_succ (N : Int) (i : Nat) : namesTo N (i + 1) = namesTo N i ++ (if bitOn N i then [flagAt (2 ^ i)] else []) := by
  unfold namesTo
  rw [List.range_succ, List.filter_append, List.map_append]
  congr 1
  by_cases h : bitOn N i = true
  · simp [h]
  · simp [h]
theorem flagAt_len {x : Int} (h0 : 0 ≤ x) (h1 : x < 2 ^ 40) : (flagAt x).length ≤ 18 := by
  unfold flagAt
  have go : ∀ (l : List (Int × PyData)), (∀ p ∈ l, (strOf p.2).length ≤ 18) → (strOf ((KTD.datumAt x l).getD (.str (hexS x)))).length ≤ 18 := by
    intro l
    induction l with
    | nil => intro _; exact Nat.le_trans (hexS_len h0 h1) (by decide)
    | cons p l ih =>
      intro h
      first | ((first | refine el_0_2 (p) ?_ | refine el_1_1 (p) ?_); (try clear p); intro i d) | obtain ⟨i, d⟩ := p
      show (strOf ((if decide (x = i) = true then some d else KTD.datumAt x l).getD _)).length ≤ 18
      by_cases hx : x = i
      · rw [if_pos (by simpa using hx)]
        exact h _ (.head _)
      · rw [if_neg (by simpa using hx)]
        exact ih fun q hq => h q (.tail _ hq)
  exact go flagTab (by decide +kernel)
theorem pow_lt_40 {i : Nat} (h : i < 40) : (2 : Int) ^ i < 2 ^ 40 := by
  have := Nat.pow_lt_pow_right (a := 2) (by decide) h
  exact_mod_cast this
theorem namesTo_weight (N : Int) : ∀ i, i ≤ 40 → ((namesTo N i).map (·.length)).sum + (namesTo N i).length ≤ 19 * i
  | 0, _ => by simp [namesTo]
  | i + 1, h => by
    have ih := namesTo_weight N i (by omega)
    rw [namesTo_succ, List.map_append, List.sum_append, List.length_append]
    have hl := flagAt_len (Int.le_of_lt (kbt_pos i)) (pow_lt_40 (i := i) (by omega))
    split <;> simp <;> omega
/-- the words that tell a number's bits -/
noncomputable def namesAll (N : Int) : List Str := namesTo N 32 ++ (if 0 < N / 2 ^ 32 then [hexS (above N 32)] else [])
theorem above_pos {N : Int} (h : 0 ≤ N) (i : Nat) : (above N i = 0 ↔ N / 2 ^ i = 0) ∧ 0 ≤ N / 2 ^ i := by
  have hp := kbt_pos i
  refine ⟨⟨fun e => ?_, fun e => by unfold above; rw [e, Int.zero_mul]⟩, Int.ediv_nonneg h (Int.le_of_lt hp)⟩
  unfold above at e
  rcases Int.mul_eq_zero.mp e with h | h
  · exact h
  · omega
theorem namesTo_done {N : Int} (h : 0 ≤ N) (i : Nat) (e : N / 2 ^ i = 0) : ∀ d, namesTo N (i + d) = namesTo N i ∧ N / 2 ^ (i + d) = 0
  | 0 => ⟨rfl, e⟩
  | d + 1 => by
    first | ((first | refine el_0_2 (namesTo_done h i e d) ?_ | refine el_1_1 (namesTo_done h i e d) ?_); intro ih e') | obtain ⟨ih, e'⟩ := namesTo_done h i e d
    have hh := half_pow N (i + d)
    have hp := (above_pos h (i + d + 1)).2
    have e2 : N / 2 ^ (i + d + 1) = 0 := by omega
    refine ⟨?_, e2⟩
    rw [show i + (d + 1) = i + d + 1 from rfl, namesTo_succ, ih]
    have : bitOn N (i + d) = false := by unfold bitOn; rw [e']; rfl
    rw [this]; simp
theorem namesAll_brk {N : Int} (h : 0 ≤ N) {i : Nat} (hi : i < 32) (e : above N (i + 1) = 0) : namesAll N = namesTo N (i + 1) := by
  first | ((first | refine el_0_2 (namesTo_done h (i + 1) ((above_pos h _).1.mp e) (31 - i)) ?_ | refine el_1_1 (namesTo_done h (i + 1) ((above_pos h _).1.mp e) (31 - i)) ?_); intro h1 h2) | obtain ⟨h1, h2⟩ := namesTo_done h (i + 1) ((above_pos h _).1.mp e) (31 - i)
  rw [show i + 1 + (31 - i) = 32 by omega] at h1 h2
  unfold namesAll
  rw [h1, h2]; simp
theorem namesAll_end {N : Int} (h : 0 ≤ N) (e : above N 32 ≠ 0) : namesAll N = namesTo N 32 ++ [hexS (above N 32)] := by
  have h1 := above_pos h 32
  unfold namesAll
  rw [if_pos (by have := mt h1.1.mpr e; omega)]
theorem strs_snoc {vs : List Value} {ss : List Str} {x : Str} {t : Tok} (h : StrsAre vs ss) : StrsAre (vs ++ [.str x t]) (ss ++ [x]) := by
  induction h with
  | nil => exact .cons _ _ .nil
  | cons a b _ ih => exact .cons a b ih

end
-- FLAGS
section
open PySem PySem.Spec PySem.W PyProof.Rows PySem.Calls PyProof.V

theorem flag_get {prog : Program} {w : World} {A : Around} {E : Value → Shared → Prop} {s : Shared} {h₀ : Heap} {L : Addr} {m : Str → Option Value} {x : Int} {t u : Tok} {Q : Value → Shared → Prop} (T : KTD.Keyed h₀ 88 flagTab) (F : Fr h₀ L s.heap m)
    (h : ∀ t', Q (.str (flagAt x) t') { s with toks := s.toks + 1 }) : wpAny (model prog w) A (call (.builtin "dict.get") [.ref 88, .int x t, .str (baseText "0x" 16 x) u]) Q E s := by
  refine call_get2_intTab (dd := .str (hexS x)) (KTD.Keyed.keep T F.keep prog w) (Flat.str _ _) fun v hv => ?_
  rw [KTD.lookup_keyed, flagAt_is] at hv
  first | ((first | refine el_0_2 (hv.str_inv) ?_ | refine el_1_1 (hv.str_inv) ?_); intro t' zq1; subst zq1) | obtain ⟨t', rfl⟩ := hv.str_inv
  exact h t'
theorem flags_yes {N : Int} {i : Nat} (h : Builtin.bitAnd (above N i) (1 * 2 ^ (0 + (i : Int)).toNat) ≠ 0) : bitOn N i = true ∧ Builtin.bitXor (above N i) (1 * 2 ^ (0 + (i : Int)).toNat) = above N (i + 1) := by
  rw [Int.one_mul, Int.zero_add, Int.toNat_natCast] at h ⊢
  have hb : N / 2 ^ i % 2 = 1 := by
    rw [above_and] at h
    rcases Int.emod_two_eq (N / 2 ^ i) with e | e
    · rw [e, Int.zero_mul] at h; exact absurd rfl h
    · exact e
  exact ⟨by unfold bitOn; simp [hb], above_xor N i hb⟩
theorem flags_no {N : Int} {i : Nat} (h : Builtin.bitAnd (above N i) (1 * 2 ^ (0 + (i : Int)).toNat) = 0) : bitOn N i = false ∧ above N i = above N (i + 1) := by
  rw [Int.one_mul, Int.zero_add, Int.toNat_natCast, above_and] at h
  have hb : N / 2 ^ i % 2 = 0 := by
    rcases Int.mul_eq_zero.mp h with e | e
    · exact e
    · have := kbt_pos i; omega
  exact ⟨by unfold bitOn; simp [hb], by rw [above_succ, hb, Int.zero_mul, Int.add_zero]⟩
theorem strs_to {N : Int} {i : Nat} {vs : List Value} {t : Tok} (hb : bitOn N i = true) (h : StrsAre vs (namesTo N i)) : StrsAre (vs ++ [.str (flagAt (1 * 2 ^ (0 + (i : Int)).toNat)) t]) (namesTo N (i + 1)) := by
  rw [namesTo_succ, hb, if_pos rfl, Int.one_mul, Int.zero_add, Int.toNat_natCast]
  exact strs_snoc h
theorem flags_ok (w : World) (p : Program) (loose : List Str) (mean : ExcName → Option Value) (mg mb : Str → Option Value) (number : Int) (nt : Tok) (h0 : 0 < number) (h1 : number < 2 ^ 40) :
    HSpec 4 w p loose mean mg mb 95 [.int number nt] [] [] (fun tl upd r => ∃ t, r = .str (Txt.join (Str.ofString ", ") (namesAll number)) t ∧ tl = []) := by
  intro dp un gd cn cs L a ccd cl outer base g s Q E B H hz X T hk hdp hun hret
  have kt := kt_keyed_in (a := 88) (D := flagTab) X (by kernel_rfl)
  w_on
  k_dflt refine' h_enter (binds := [(Str.ofString "flags", .int number nt)]) ?k1 ?k2 ?k3 ?k4 ?k5 ?k6 ?k7 ?k8 ?k9 ?kB ?_ ?c2 ?c3 ?c4 ?c5
  ((case k1 => assumption); (case k2 => assumption); (case k3 => assumption); (case k4 => assumption); (case k5 => assumption); (case k6 => k_is); (case k7 => k_is); (case k8 => ktr_room); (case k9 => exact BindsTo.of_eq rfl); (case c2 => decide); (case kB => exact locs rfl); (case c3 => exact rfl); (case c4 => exact rfl); (case c5 => exact rfl); k_whole; intro L' h' F' N' z' l1; (try k_lt l1); (simp only [List.reverse_cons, List.reverse_nil, List.nil_append, List.cons_append, lookup_if, lookup_no] at F'); revert L' h' F' N' z' l1; intros; (try dsimp only); (try k_unmd); (try k_fold); (try (refine let_A ?_; intro _; refine let_env ?_; intro _)))
  (try k_unmd); (try k_fold); repeat' (first | ((fail_if_success (fail_if_success (with_reducible show wpAny _ _ (exec (Stmt.For _ _ _ _ _) _) _ _ _))); (with_unfolding_all refine For_go ?_)) | walk_at "S1")
  rename Fr _ _ _ _ => F1
  rename News _ _ _ _ => N1
  rename IsRange _ _ _ _ _ _ _ _ => hR
  rename_i nl _ _ _ _ _ _ _ _ _ _ _
  k_dflt refine' for_range (α := (List Value × Nat) × (Int × Tok)) (n := 32) [Str.ofString "i", Str.ofString "flag"] (fun a => [(nl, listOf a.1.1.toArray a.1.2)]) (fun a y => if y = Str.ofString "names" then some (Value.ref nl) else if y = Str.ofString "flags" then some (Value.int a.2.1 a.2.2) else none)
    (fun i a rest => rest = [] ∧ a.1.1.length ≤ i ∧ StrsAre a.1.1 (namesTo number i) ∧ a.2.1 = above number i ∧ a.2.1 ≠ 0) (([], 0), (number, nt)) [] ?pas rfl F1 (fun p hp => N1 p hp) hR (by decide +kernel) (by decide +kernel) (fun _ _ => rfl) ⟨rfl, Nat.le_refl _, StrsAre.nil, (above_zero number).symm, Int.ne_of_gt h0⟩ ?turn ?done
  case pas => passes_own
  case turn =>
    first | (intro I i ut zq2 rest u h tk oI hi zq3 hI F2 N2; (try k_unmd); (try (first | (with_reducible refine fold_comp ?_; intro XL YL ZL) | (with_reducible refine fold_for ?_; intro QL EL) | (with_reducible refine fold_while ?_; intro QL RL EL) | k_fold)); (first | refine el_0_3 (zq2) ?_ | refine el_1_2 (zq2) ?_ | refine el_2_1 (zq2) ?_); (try clear zq2); intro zq4 _ ft; (first | refine el_0_2 (zq4) ?_ | refine el_1_1 (zq4) ?_); (try clear zq4); intro ps c; (first | refine el_0_5 (zq3) ?_ | refine el_1_4 (zq3) ?_ | refine el_2_3 (zq3) ?_ | refine el_3_2 (zq3) ?_ | refine el_4_1 (zq3) ?_); (try clear zq3); intro zq5 hpl hss zq6 hnz; subst zq5; subst zq6) | rintro I i ut ⟨⟨ps, c⟩, _, ft⟩ rest u h tk oI hi ⟨rfl, hpl, hss, rfl, hnz⟩ hI F2 N2
    have hsz : ps.toArray.size ≤ sizeLine := by
      have hpl : ps.length ≤ i := hpl
      rw [List.size_toArray, sizeLine_eq]
      omega
    have hIn : @Ne Nat I nl := (hI (nl, listOf ps.toArray c) (.head _)).ne'
    have hp : (1 : Int) * 2 ^ (0 + (i : Int)).toNat = 2 ^ i := by rw [Int.one_mul, Int.zero_add, Int.toNat_natCast]
    have hpow : (2 : Int) ^ i < 2 ^ 40 := by
      have := Nat.pow_lt_pow_right (a := 2) (by decide) (show i < 40 by omega)
      exact_mod_cast this
    have hhex : (baseText "0x" 16 (1 * 2 ^ (0 + (i : Int)).toNat)).length ≤ sizeLine := by
      rw [hp]; exact Nat.le_trans (hexS_len (Int.le_of_lt (kbt_pos i)) hpow) (by decide +kernel)
    simp only [List.cons_append, List.nil_append] at N2
    try dsimp only
    try k_fold
    (try k_unmd); (try k_fold); repeat' (first | ((fail_if_success (fail_if_success (with_reducible show wpAny _ _ (call (Value.builtin "hex") _ _) _ _ _))); k_dflt (refine' P.hex_of_int ?_ ?y9z; (case y9z => with_reducible assumption))) | ((fail_if_success (fail_if_success (with_reducible show wpAny _ _ (call (Value.builtin "dict.get") _ _) _ _ _))); dsimp only [List.nil_append, List.cons_append]; (with_reducible rename KTD.Keyed _ _ _ => kt9); (with_reducible rename Fr _ _ _ _ => kF9); k_dflt (refine flag_get kt9 kF9 ?_); intro _) | ((fail_if_success (fail_if_success (with_reducible show wpAny _ _ (call (Value.builtin "list.append") _ _) _ _ _))); (with_reducible show wpAny _ _ (call (Value.builtin _) [Value.ref _, _]) _ _ _); k_dflt (refine' append_K ?y9k1 ?y9k2 ?y9k3 ?_ ?y9z; (case y9k1 => k_asm); (case y9k2 => k_asm); (case y9k3 => k_upd); (case y9z => size_fits); k_whole); intro _ _ _; (try k_sweep)) | ((fail_if_success (fail_if_success (with_reducible show wpAny _ _ (call (Value.builtin "list.append") _ _) _ _ _))); dsimp only [List.nil_append, List.cons_append]; (with_reducible show wpAny _ _ (call (Value.builtin _) [Value.ref _, _]) _ _ _); k_dflt (refine' append_K ?y9k1 ?y9k2 ?y9k3 ?_ ?y9z; (case y9k1 => k_asm); (case y9k2 => k_asm); (case y9k3 => k_upd); (case y9z => size_fits); k_whole); intro _ _ _; (try k_sweep)) | walk_at "S1")
    · (try dsimp only)
      rename Fr _ _ _ _ => F3
      rename News _ _ _ _ => N3
      rename Builtin.bitAnd _ _ ≠ 0 => hand
      rename Builtin.bitXor _ _ ≠ 0 => hxor
      first | ((first | refine el_0_2 (flags_yes hand) ?_ | refine el_1_1 (flags_yes hand) ?_); intro hb hx) | obtain ⟨hb, hx⟩ := flags_yes hand
      refine let_m F3 ?_
      clear F3
      intro m3 F3
      refine LS.intro2 (_, _) (fun m => (intOf (m (Str.ofString "flags")), tokOf (m (Str.ofString "flags")))) [] F3 N3 (fun p hp => by rw [List.push_toArray] ; exact hp) ?hm ?hI ⟨rfl, ?len, strs_to hb hss, hx, ?nz⟩
      case hm =>
        intro z hz
        refine chEq (ks := [Str.ofString "flags", Str.ofString "names"]) (l1 := [.one _ _, .one _ _, .one _ _, .many _ _, .one _ _, .one _ _]) (l2 := [.one _ _, .one _ _]) (b1 := fun _ => none) (b2 := fun _ => none) [[Str.ofString "flags"], [Str.ofString "flag"], [Str.ofString "i"], [Str.ofString "i", Str.ofString "flag"], [Str.ofString "names"], [Str.ofString "flags"]] [[Str.ofString "names"], [Str.ofString "flags"]] rfl rfl (by decide +kernel) (by decide +kernel) ?_ rfl hz
        rfl
      case hI => exact List.forall_mem_cons.mpr ⟨hI (nl, listOf ps.toArray c) (.head _), List.forall_mem_nil _⟩
      case len =>
        have hpl : ps.length ≤ i := hpl
        show (ps ++ [_]).length ≤ i + 1
        rw [List.length_append]
        exact Nat.succ_le_succ hpl
      case nz => exact hxor
    · rename Builtin.bitAnd _ _ ≠ 0 => hand
      rename Builtin.bitXor _ _ = 0 => hxor
      first | ((first | refine el_0_2 (flags_yes hand) ?_ | refine el_1_1 (flags_yes hand) ?_); intro hb hx) | obtain ⟨hb, hx⟩ := flags_yes hand
      have hna : namesAll number = namesTo number (i + 1) := namesAll_brk (Int.le_of_lt h0) hi (hx.symm.trans hxor)
      try dsimp only [LS]
      (try k_unmd); (try k_fold); repeat' (walk_at "S1")
      try dsimp only [List.nil_append, List.cons_append]
      rename News _ _ _ _ => N3
      refine join_listW (ys := namesAll number) ⟨_, N3.get (.head _), rfl, _, rfl⟩ ?hi (by decide +kernel) ?hw ?_
      case hi =>
        rw [hna]
        simpa using strs_to hb hss
      case hw =>
        have := namesTo_weight number (i + 1) (by omega)
        rw [hna]
        omega
      intro t9 k9
      try k_fold
      (try k_unmd); (try k_fold); repeat' (walk_at "S1")
      try dsimp only
      rename Fr _ _ _ _ => F4
      exact h_leave [] [] hret F4 N3 (fun p hp => nomatch hp) rfl (List.forall_mem_nil _) .nil ⟨t9, rfl, rfl⟩
    · (try dsimp only)
      rename Fr _ _ _ _ => F3
      rename News _ _ _ _ => N3
      rename Builtin.bitAnd _ _ = 0 => hand
      first | ((first | refine el_0_2 (flags_no hand) ?_ | refine el_1_1 (flags_no hand) ?_); intro hb hx) | obtain ⟨hb, hx⟩ := flags_no hand
      refine LS.intro ((ps, c), (above number i, ft)) [] F3 N3 (fun p hp => hp) ?hm2 hI ⟨rfl, Nat.le_succ_of_le hpl, ?ss, hx, hnz⟩
      case hm2 =>
        intro z hz
        refine chEq (ks := [Str.ofString "names", Str.ofString "flags"]) (l1 := [.one _ _, .one _ _, .many _ _, .one _ _, .one _ _]) (l2 := [.one _ _, .one _ _]) (b1 := fun _ => none) (b2 := fun _ => none) [[Str.ofString "flag"], [Str.ofString "i"], [Str.ofString "i", Str.ofString "flag"], [Str.ofString "names"], [Str.ofString "flags"]] [[Str.ofString "names"], [Str.ofString "flags"]] rfl rfl (by decide +kernel) (by decide +kernel) ?_ rfl hz
        rfl
      case ss =>
        rw [namesTo_succ, hb]
        simpa using hss
  case done =>
    first | (intro zq7 rest u h tk zq8 F2 N2; (try k_unmd); (try (first | (with_reducible refine fold_comp ?_; intro XL YL ZL) | (with_reducible refine fold_for ?_; intro QL EL) | (with_reducible refine fold_while ?_; intro QL RL EL) | k_fold)); (first | refine el_0_3 (zq7) ?_ | refine el_1_2 (zq7) ?_ | refine el_2_1 (zq7) ?_); (try clear zq7); intro zq9 _ ft; (first | refine el_0_2 (zq9) ?_ | refine el_1_1 (zq9) ?_); (try clear zq9); intro ps c; (first | refine el_0_5 (zq8) ?_ | refine el_1_4 (zq8) ?_ | refine el_2_3 (zq8) ?_ | refine el_3_2 (zq8) ?_ | refine el_4_1 (zq8) ?_); (try clear zq8); intro zq10 hpl hss zq11 hnz; subst zq10; subst zq11) | rintro ⟨⟨ps, c⟩, _, ft⟩ rest u h tk ⟨rfl, hpl, hss, rfl, hnz⟩ F2 N2
    have hsz : ps.toArray.size ≤ sizeLine := by
      have hpl : ps.length ≤ 32 := hpl
      rw [List.size_toArray, sizeLine_eq]
      omega
    have hab : 0 ≤ above number 32 ∧ above number 32 < 2 ^ 40 := by unfold above; omega
    have hhex : (baseText "0x" 16 (above number 32)).length ≤ sizeLine := Nat.le_trans (hexS_len hab.1 hab.2) (by decide +kernel)
    simp only [List.cons_append, List.nil_append] at N2
    try dsimp only
    try k_fold
    (try k_unmd); (try k_fold); repeat' (walk_at "S1")
    try dsimp only [List.nil_append, List.cons_append]
    rename News _ _ _ _ => N3
    refine join_listW (ys := namesAll number) ⟨_, N3.get (.head _), rfl, _, rfl⟩ ?hi (by decide +kernel) ?hw ?_
    case hi =>
      rw [namesAll_end (Int.le_of_lt h0) hnz]
      unfold hexS
      simpa using strs_snoc hss
    case hw =>
      have := namesTo_weight number 32 (by decide)
      have h2 := hexS_len hab.1 hab.2
      rw [namesAll_end (Int.le_of_lt h0) hnz, List.map_append, List.sum_append, List.length_append]
      simp only [List.map_cons, List.map_nil, List.sum_cons, List.sum_nil, List.length_cons, List.length_nil]
      unfold hexS
      omega
    intro t9 k9
    try k_fold
    (try k_unmd); (try k_fold); repeat' (walk_at "S1")
    try dsimp only
    rename Fr _ _ _ _ => F4
    exact h_leave [] [] hret F4 N3 (fun p hp => nomatch hp) rfl (List.forall_mem_nil _) .nil ⟨t9, rfl, rfl⟩

end
-- COMP
section
open PySem PySem.Spec PySem.W PyProof.Rows PySem.Calls PyProof.V
section
variable {prog : Program} {w : World} {A : Around} {E : Value → Shared → Prop} {s : Shared} {env : Env} {h₀ : Heap} {R : Result → Shared → Prop}

/-- what a clause does for one item that passed its tests -/
noncomputable def CompEmit (prog : Program) (w : World) (A : Around) (elt : Expr) (gens : List Comprehension) (scope : Scope) (pos : Pos) (d : Nat) (acc : Value) (env : Env) (CE : Value → Shared → Prop) (CN : Shared → Prop) (E : Value → Shared → Prop) (s : Shared) : Prop :=
  match gens[d + 1]? with
  | none => wpAny (model prog w) A (eval elt env) CE E s
  | some g' => wpAny (model prog w) A (eval g'.iter env) (fun x s₁ => wpAny (model prog w) A (pyIter x) (fun it s₂ => codeAny (model prog w) A (.compStart (.ListComp elt gens scope pos) (d + 1) it acc env) (fun r s' => match r with | .ok _ => CN s' | .error _ => False) s₂) E s₁) E s

theorem compLoop_gen {elt : Expr} {gens : List Comprehension} {d : Nat} {target iter : Expr} {ifs : List Expr} {scope : Scope} {pos : Pos} {it acc : Value} (I : Nat → Shared → Prop) (hg : gens[d]? = some ⟨target, iter, ifs, 0⟩)
    (hn : ∀ g', gens[d + 1]? = some g' → g'.is_async = 0 ∧ ∀ x, foldedSetIterable g'.iter env x = pure x)
    (turn : ∀ n s, I n s → wpAny (model prog w) A (pyNext it) (fun r s₁ => match r with
      | none => R (.ok .next) s₁
      | some v => wpAny (model prog w) A (letOwnedTupleGo target it v) (fun _ s₁ => wpAny (model prog w) A (assign target env v) (fun _ s₂ =>
          wpAny (model prog w) A (forIn ifs true fun c r => if r = true then do let ok ← isTrue c env (eval c env); pure (ForInStep.yield ok) else pure (ForInStep.yield r)) (fun ok s₃ =>
            if ok = true then CompEmit prog w A elt gens scope pos d acc env (fun x s₄ =>
              wpAny (model prog w) A (call (.builtin "list.append") [acc, x]) (fun _ s₅ => ∃ m, m < n ∧ I m s₅) (notedBy (model prog w) A env fun e s' => R (.error e) s') s₄) (fun s₅ => ∃ m, m < n ∧ I m s₅) (notedBy (model prog w) A env fun e s' => R (.error e) s') s₃
            else ∃ m, m < n ∧ I m s₃) (notedBy (model prog w) A env fun e s' => R (.error e) s') s₂) (notedBy (model prog w) A env fun e s' => R (.error e) s') s₁) (notedBy (model prog w) A env fun e s' => R (.error e) s') s₁) (notedBy (model prog w) A env fun e s' => R (.error e) s') s)
    (n : Nat) (h : I n s) :
    codeAny (model prog w) A (.compLoop (.ListComp elt gens scope pos) d it acc env) R s := by
  refine codeAny_loop rfl I (fun n s hI => ?_) n h
  show wpAny _ A ((compTurn (.ListComp elt gens scope pos) d it acc env).onRaise (fun x => do noteFrame x env; theTreesLotGoes x)) _ _ s
  refine wpAny_noted ?_
  unfold compTurn
  dsimp only
  rw [hg]
  dsimp only
  refine wpAny_bind (wpAny_standAt (wpAny_bind (wpAny_mono (turn n s hI) (fun r s₁ h₁ => ?_) fun _ _ h' => h')))
  cases r with
  | none => exact wpAny_pure h₁
  | some v =>
    refine wpAny_bind (wpAny_mono h₁ (fun _ s₁' h₁' => ?_) fun _ _ h' => h')
    refine wpAny_bind (wpAny_mono h₁' (fun _ s₂ h₂ => wpAny_bind (wpAny_mono h₂ (fun ok s₃ h₃ => ?_) fun _ _ h' => h')) fun _ _ h' => h')
    cases ok with
    | false => exact wpAny_pure ⟨rfl, h₃⟩
    | true =>
      simp only [if_true] at h₃ ⊢
      unfold CompEmit at h₃
      cases hq : gens[d + 1]? with
      | none =>
        rw [hq] at h₃
        dsimp only at h₃ ⊢
        exact wpAny_bind (wpAny_bind (wpAny_mono h₃ (fun x s₄ h₄ => wpAny_bind (wpAny_mono h₄ (fun _ s₅ h₅ => wpAny_pure (wpAny_pure ⟨rfl, h₅⟩)) fun _ _ h' => h')) fun _ _ h' => h'))
      | some g' =>
        rw [hq] at h₃
        first | ((first | refine el_0_2 (hn g' hq) ?_ | refine el_1_1 (hn g' hq) ?_); intro ha hs) | obtain ⟨ha, hs⟩ := hn g' hq
        dsimp only at h₃ ⊢
        rw [ha]
        refine wpAny_bind (wpAny_mono h₃ (fun x s₄ h₄ => wpAny_bind (wpAny_standAt ?_)) fun _ _ h' => h')
        refine wpAny_bind (wpAny_of_eq (hs x) ?_)
        refine wpAny_bind (wpAny_holding (wpAny_mono h₄ (fun it' s₅ h₅ => ?_) fun _ _ h' => h'))
        refine wpAny_bind (wpAny_runOwn (codeAny_mono h₅ fun r s₆ h₆ => ?_))
        cases r with
        | ok f => exact wpAny_pure ⟨rfl, h₆⟩
        | error e => exact h₆.elim

/-- the turn's end where nothing is put on the list (or where inner clauses have put on it) -/
noncomputable def CN {α : Type} (h₀ : Heap) (L I C D : Addr) (oI : Obj) (m : Str → Option Value) (lit : α → Ledger) (Kn : (Str → Option Value) → Prop) (P : List Value → α → Ledger → Prop) (s₁ s₂ : Shared) : Prop :=
  ∃ h' tk ys' a' rest' oC' mC', s₂ = { s₁ with heap := h', toks := tk } ∧ Fr h₀ L h' m ∧ News h₀ L h' ((I, oI) :: (C, oC') :: (D, LCg.lst ys') :: (lit a' ++ rest')) ∧ LCg.NsObj oC' mC' ∧ Kn mC' ∧ (∀ p ∈ lit a' ++ rest', Apt p.1 I ∧ Apt p.1 C ∧ Apt p.1 D) ∧ P ys' a' rest'
/-- the turn's end with a value for the list -/
noncomputable def CE {α : Type} (h₀ : Heap) (L I C D : Addr) (oI : Obj) (m : Str → Option Value) (lit : α → Ledger) (Kn : (Str → Option Value) → Prop) (P : List Value → α → Ledger → Prop) (s₁ : Shared) (y : Value) (s₂ : Shared) : Prop :=
  ∃ h' tk ys' a' rest' oC' mC', s₂ = { s₁ with heap := h', toks := tk } ∧ Fr h₀ L h' m ∧ News h₀ L h' ((I, oI) :: (C, oC') :: (D, LCg.lst ys') :: (lit a' ++ rest')) ∧ LCg.NsObj oC' mC' ∧ Kn mC' ∧ (∀ p ∈ lit a' ++ rest', Apt p.1 I ∧ Apt p.1 C ∧ Apt p.1 D) ∧ ys'.length ≤ sizeLine ∧ P (ys' ++ [y]) a' rest'

theorem CN.intro {α : Type} {L I C D : Addr} {oI : Obj} {m : Str → Option Value} {lit : α → Ledger} {Kn : (Str → Option Value) → Prop} {P : List Value → α → Ledger → Prop} {s₁ : Shared} {h' : Heap} {tk : Nat} {oC' : Obj} {mC' : Str → Option Value} {news' : Ledger} (ys' : List Value) (a' : α) (rest' : Ledger) (F : Fr h₀ L h' m) (N : News h₀ L h' news') (hC : LCg.NsObj oC' mC')
    (hs : ∀ p ∈ (I, oI) :: (C, oC') :: (D, LCg.lst ys') :: (lit a' ++ rest'), p ∈ news') (hK : Kn mC') (hI : ∀ p ∈ lit a' ++ rest', Apt p.1 I ∧ Apt p.1 C ∧ Apt p.1 D) (hP : P ys' a' rest') : CN h₀ L I C D oI m lit Kn P s₁ { s₁ with heap := h', toks := tk } :=
  ⟨h', tk, ys', a', rest', oC', mC', rfl, F, fun p hp => N p (hs p hp), hC, hK, hI, hP⟩
theorem CE.intro {α : Type} {L I C D : Addr} {oI : Obj} {m : Str → Option Value} {lit : α → Ledger} {Kn : (Str → Option Value) → Prop} {P : List Value → α → Ledger → Prop} {s₁ : Shared} {y : Value} {h' : Heap} {tk : Nat} {oC' : Obj} {mC' : Str → Option Value} {news' : Ledger} (ys' : List Value) (a' : α) (rest' : Ledger) (F : Fr h₀ L h' m) (N : News h₀ L h' news') (hC : LCg.NsObj oC' mC')
    (hs : ∀ p ∈ (I, oI) :: (C, oC') :: (D, LCg.lst ys') :: (lit a' ++ rest'), p ∈ news') (hK : Kn mC') (hI : ∀ p ∈ lit a' ++ rest', Apt p.1 I ∧ Apt p.1 C ∧ Apt p.1 D) (hl : ys'.length ≤ sizeLine) (hP : P (ys' ++ [y]) a' rest') : CE h₀ L I C D oI m lit Kn P s₁ y { s₁ with heap := h', toks := tk } :=
  ⟨h', tk, ys', a', rest', oC', mC', rfl, F, fun p hp => N p (hs p hp), hC, hK, hI, hl, hP⟩

/-- the tests of a clause -/
noncomputable def CompTests (prog : Program) (w : World) (A : Around) (ifs : List Expr) (env : Env) (Q : Bool → Shared → Prop) (E : Value → Shared → Prop) (s : Shared) : Prop :=
  wpAny (model prog w) A (forIn ifs true fun c r => if r = true then do let ok ← isTrue c env (eval c env); pure (ForInStep.yield ok) else pure (ForInStep.yield r)) Q E s

theorem comp_led {α : Type} {elt : Expr} {gens : List Comprehension} {d : Nat} {target iter : Expr} {ifs : List Expr} {scope : Scope} {pos : Pos} {L I C D : Addr} {oC₀ : Obj} {mC₀ : Str → Option Value} {side : Ledger} {n : Nat} {Pv : Nat → Value → Prop} {St : Nat → Heap → Prop} {m : Str → Option Value} {Next : Shared → Prop}
    (lit : α → Ledger) (Kn : (Str → Option Value) → Prop) (P : Nat → List Value → α → Ledger → Prop) (ys₀ : List Value) (a₀ : α) (rest₀ : Ledger)
    (hg : gens[d]? = some ⟨target, iter, ifs, 0⟩) (hn : ∀ g', gens[d + 1]? = some g' → g'.is_async = 0 ∧ ∀ x, foldedSetIterable g'.iter env x = pure x)
    (W : Walks prog w A I (I :: side.map (·.1)) [I] n Pv St) (hst : St 0 s.heap) (hon : ∀ i h, St i h → ∃ o, h.get? I = some o) (hI₀ : h₀.get? I = none) (hIL : I ≠ L) (hIC : Apt I C) (hID : Apt I D) (hCD : Apt C D)
    (F : Fr h₀ L s.heap m) (N : News h₀ L s.heap ((C, oC₀) :: (D, LCg.lst ys₀) :: (lit a₀ ++ rest₀))) (hC₀ : LCg.NsObj oC₀ mC₀) (hK₀ : Kn mC₀) (hNI : ∀ p ∈ lit a₀ ++ rest₀, Apt p.1 I ∧ Apt p.1 C ∧ Apt p.1 D) (hP : P 0 ys₀ a₀ rest₀)
    (hside : ∀ i ys a rest h, P i ys a rest → (∀ b o, h₀.get? b = some o → h.get? b = some o) → News h₀ L h (lit a ++ rest) → ∀ p ∈ side, h.get? p.1 = some p.2)
    (turn : ∀ i v ys a rest h tk oI oC mC E', i < n → Pv i v → P i ys a rest → (∀ p ∈ lit a ++ rest, Apt p.1 I ∧ Apt p.1 C ∧ Apt p.1 D) → Fr h₀ L h m → News h₀ L h ((I, oI) :: (C, oC) :: (D, LCg.lst ys) :: (lit a ++ rest)) → St (i + 1) h → LCg.NsObj oC mC → Kn mC →
      wpAny (model prog w) A (letOwnedTupleGo target (.ref I) v) (fun _ s₁ => wpAny (model prog w) A (assign target env v) (fun _ s₂ => CompTests prog w A ifs env (fun ok s₃ =>
            if ok = true then CompEmit prog w A elt gens scope pos d (.ref D) env (CE h₀ L I C D oI m lit Kn (P (i + 1)) { s with heap := h, toks := tk }) (CN h₀ L I C D oI m lit Kn (P (i + 1)) { s with heap := h, toks := tk }) E' s₃
            else CN h₀ L I C D oI m lit Kn (P (i + 1)) { s with heap := h, toks := tk } s₃) E' s₂) E' s₁) E' { s with heap := h, toks := tk })
    (done : ∀ ys a rest h tk oC mC, P n ys a rest → (∀ p ∈ lit a ++ rest, Apt p.1 C ∧ Apt p.1 D) → Fr h₀ L h m → News h₀ L h ((C, oC) :: (D, LCg.lst ys) :: (lit a ++ rest)) → LCg.NsObj oC mC → Kn mC → Next { s with heap := h, toks := tk }) :
    codeAny (model prog w) A (.compLoop (.ListComp elt gens scope pos) d (.ref I) (.ref D) env) (fun r s' => match r with | .ok _ => Next s' | .error _ => False) s := by
  refine compLoop_gen (fun k s' => ∃ h' tk ys a rest i oC mC, s' = { s with heap := h', toks := tk } ∧ St i h' ∧ Fr h₀ L h' m ∧ News h₀ L h' ((C, oC) :: (D, LCg.lst ys) :: (lit a ++ rest)) ∧ LCg.NsObj oC mC ∧ Kn mC ∧ (∀ p ∈ lit a ++ rest, Apt p.1 I ∧ Apt p.1 C ∧ Apt p.1 D) ∧ P i ys a rest ∧ i ≤ n ∧ k = n + 1 - i) hg hn ?_ (n + 1)
    ⟨s.heap, s.toks, ys₀, a₀, rest₀, 0, oC₀, mC₀, rfl, hst, F, N, hC₀, hK₀, hNI, hP, Nat.zero_le _, rfl⟩
  first | (intro k s' zq1; (first | refine el_0_18 (zq1) ?_ | refine el_1_17 (zq1) ?_ | refine el_2_16 (zq1) ?_ | refine el_3_15 (zq1) ?_ | refine el_4_14 (zq1) ?_ | refine el_5_13 (zq1) ?_ | refine el_6_12 (zq1) ?_ | refine el_7_11 (zq1) ?_ | refine el_8_10 (zq1) ?_ | refine el_9_9 (zq1) ?_ | refine el_10_8 (zq1) ?_ | refine el_11_7 (zq1) ?_ | refine el_12_6 (zq1) ?_); (try clear zq1); intro h' tk ys a rest i oC mC zq2 hst' F' N' hC' hK' hNI' hP' hi zq3; subst zq2; subst zq3) | rintro k s' ⟨h', tk, ys, a, rest, i, oC, mC, rfl, hst', F', N', hC', hK', hNI', hP', hi, rfl⟩
  have offI : ∀ p ∈ (C, oC) :: (D, LCg.lst ys) :: (lit a ++ rest), p.1 ≠ I := fun p hp => by
    rcases List.mem_cons.mp hp with rfl | hp
    · exact hIC.ne'
    · rcases List.mem_cons.mp hp with rfl | hp
      · exact hID.ne'
      · exact (hNI' p hp).1.ne
  have next : ∀ h₁ : Heap, (∀ b o, b ∉ [I] → h'.get? b = some o → h₁.get? b = some o) → Fr h₀ L h₁ m ∧ News h₀ L h₁ ((C, oC) :: (D, LCg.lst ys) :: (lit a ++ rest)) := fun h₁ hk₁ =>
    ⟨⟨F'.ns.at' fun o e => hk₁ _ o (fun q => hIL (List.mem_singleton.mp q).symm) e, fun b o e => hk₁ b o (fun q => by rw [List.mem_singleton.mp q, hI₀] at e; cases e) (F'.keep b o e), F'.above⟩,
      fun p hp => ⟨hk₁ _ _ (fun q => offI p hp (List.mem_singleton.mp q)) (N' p hp).1, (N' p hp).2⟩⟩
  by_cases hlt : i < n
  · refine W.item i _ _ _ hlt hst' fun v h₁ tk₁ hPv hst₁ hk₁ => ?_
    first | ((first | refine el_0_2 (next h₁ hk₁) ?_ | refine el_1_1 (next h₁ hk₁) ?_); intro F₁ N₁) | obtain ⟨F₁, N₁⟩ := next h₁ hk₁
    first | ((first | refine el_0_2 (hon _ _ hst₁) ?_ | refine el_1_1 (hon _ _ hst₁) ?_); intro oI hoI) | obtain ⟨oI, hoI⟩ := hon _ _ hst₁
    have NI : News h₀ L h₁ ((I, oI) :: (C, oC) :: (D, LCg.lst ys) :: (lit a ++ rest)) := fun p hp => by
      rcases List.mem_cons.mp hp with rfl | hp
      · exact ⟨hoI, hIL, hI₀⟩
      · exact N₁ p hp
    have tail : ∀ {h : Heap} {oI oC : Obj} {ys : List Value} {rest : Ledger} {a : α}, News h₀ L h ((I, oI) :: (C, oC) :: (D, LCg.lst ys) :: (lit a ++ rest)) → News h₀ L h (lit a ++ rest) := fun N p hp => N p (.tail _ (.tail _ (.tail _ hp)))
    have side1 : ∀ (h₃ : Heap) (ys' : List Value) (a' : α) (rest' : Ledger) (oC' : Obj), (∀ b o, h₀.get? b = some o → h₃.get? b = some o) → News h₀ L h₃ ((I, oI) :: (C, oC') :: (D, LCg.lst ys') :: (lit a' ++ rest')) → P (i + 1) ys' a' rest' → St (i + 1) h₃ := fun h₃ ys' a' rest' oC' hk N₃ hP₃ =>
      W.frame _ _ _ hst₁ (fun b hb o e => by
        rcases List.mem_cons.mp hb with rfl | hb
        · have e2 := hoI.symm.trans e
          rw [← e2]
          exact (N₃ _ (.head _)).1
        · first | ((first | refine el_0_3 (List.mem_map.mp hb) ?_ | refine el_1_2 (List.mem_map.mp hb) ?_ | refine el_2_1 (List.mem_map.mp hb) ?_); intro q hq zq4; subst zq4) | obtain ⟨q, hq, rfl⟩ := List.mem_map.mp hb
          have e1 := hside i ys a rest h₁ hP' F₁.keep (tail NI) q hq
          rw [← e1.symm.trans e]
          exact hside (i + 1) ys' a' rest' h₃ hP₃ hk (tail N₃) q hq)
    have fin : ∀ s₃, CN h₀ L I C D oI m lit Kn (P (i + 1)) { s with heap := h₁, toks := tk₁ } s₃ →
        ∃ m', m' < n + 1 - i ∧ ∃ h' tk ys a rest i oC mC, s₃ = { s with heap := h', toks := tk } ∧ St i h' ∧ Fr h₀ L h' m ∧ News h₀ L h' ((C, oC) :: (D, LCg.lst ys) :: (lit a ++ rest)) ∧ LCg.NsObj oC mC ∧ Kn mC ∧ (∀ p ∈ lit a ++ rest, Apt p.1 I ∧ Apt p.1 C ∧ Apt p.1 D) ∧ P i ys a rest ∧ i ≤ n ∧ m' = n + 1 - i := by
      first | (intro s₃ zq5; (first | refine el_0_14 (zq5) ?_ | refine el_1_13 (zq5) ?_ | refine el_2_12 (zq5) ?_ | refine el_3_11 (zq5) ?_ | refine el_4_10 (zq5) ?_ | refine el_5_9 (zq5) ?_ | refine el_6_8 (zq5) ?_ | refine el_7_7 (zq5) ?_ | refine el_8_6 (zq5) ?_ | refine el_9_5 (zq5) ?_ | refine el_10_4 (zq5) ?_ | refine el_11_3 (zq5) ?_ | refine el_12_2 (zq5) ?_); (try clear zq5); intro h₃ tk₃ ys' a' rest' oC' mC' zq6 F₃ N₃ hC₃ hK₃ hI₃ hP₃; subst zq6) | rintro s₃ ⟨h₃, tk₃, ys', a', rest', oC', mC', rfl, F₃, N₃, hC₃, hK₃, hI₃, hP₃⟩
      exact ⟨n + 1 - (i + 1), by omega, h₃, tk₃, ys', a', rest', i + 1, oC', mC', rfl, side1 h₃ ys' a' rest' oC' F₃.keep N₃ hP₃, F₃, fun p hp => N₃ p (.tail _ hp), hC₃, hK₃, hI₃, hP₃, hlt, rfl⟩
    refine wpAny_mono (turn i v ys a rest h₁ tk₁ oI oC mC _ hlt hPv hP' hNI' F₁ NI hst₁ hC' hK') (fun _ s₂ h₂ => wpAny_mono h₂ (fun _ s₃ h₃ => ?_) fun _ _ e => e) fun _ _ e => e
    unfold CompTests at h₃
    refine wpAny_mono h₃ (fun ok s₄ h₄ => ?_) fun _ _ e => e
    cases ok with
    | false => exact fin _ h₄
    | true =>
      simp only [if_true] at h₄ ⊢
      unfold CompEmit at h₄ ⊢
      cases hq : gens[d + 1]? with
      | some g' =>
        rw [hq] at h₄
        dsimp only at h₄ ⊢
        refine wpAny_mono h₄ (fun x s₅ h₅ => wpAny_mono h₅ (fun it s₆ h₆ => codeAny_mono h₆ fun r s₇ h₇ => ?_) fun _ _ e => e) fun _ _ e => e
        cases r with
        | ok f => exact fin _ h₇
        | error e => exact h₇
      | none =>
        rw [hq] at h₄
        dsimp only at h₄ ⊢
        refine wpAny_mono h₄ (fun y s₅ h₅ => ?_) fun _ _ e => e
        first | ((first | refine el_0_15 (h₅) ?_ | refine el_1_14 (h₅) ?_ | refine el_2_13 (h₅) ?_ | refine el_3_12 (h₅) ?_ | refine el_4_11 (h₅) ?_ | refine el_5_10 (h₅) ?_ | refine el_6_9 (h₅) ?_ | refine el_7_8 (h₅) ?_ | refine el_8_7 (h₅) ?_ | refine el_9_6 (h₅) ?_ | refine el_10_5 (h₅) ?_ | refine el_11_4 (h₅) ?_ | refine el_12_3 (h₅) ?_); (try clear h₅); intro h₃ tk₃ ys' a' rest' oC' mC' zq7 F₃ N₃ hC₃ hK₃ hI₃ hl hP₃; subst zq7) | obtain ⟨h₃, tk₃, ys', a', rest', oC', mC', rfl, F₃, N₃, hC₃, hK₃, hI₃, hl, hP₃⟩ := h₅
        have zD := (N₃ (D, LCg.lst ys') (.tail _ (.tail _ (.head _))))
        refine append_at (hsz := by show ys'.toArray.size ≤ sizeLine; rw [List.size_toArray]; exact hl) zD.1 fun h₅ hs₅ hD₅ => ?_
        refine fin _ ⟨h₅, tk₃, ys' ++ [y], a', rest', oC', mC', rfl, F₃.change hs₅ zD.2.1 zD.2.2, fun p hp => ?_, hC₃, hK₃, hI₃, hP₃⟩
        have old : ∀ p, p.1 ≠ D → p ∈ (I, oI) :: (C, oC') :: (D, LCg.lst ys') :: (lit a' ++ rest') → h₅.get? p.1 = some p.2 ∧ p.1 ≠ L ∧ h₀.get? p.1 = none := fun p hne hp => ⟨hs₅.extBut _ _ hne (N₃ p hp).1, (N₃ p hp).2⟩
        rcases List.mem_cons.mp hp with rfl | hp
        · exact old _ hID.ne (.head _)
        · rcases List.mem_cons.mp hp with rfl | hp
          · exact old _ hCD.ne (.tail _ (.head _))
          · rcases List.mem_cons.mp hp with rfl | hp
            · exact ⟨hD₅.trans (congrArg some (LCg.lst_snoc ys' y)), zD.2⟩
            · exact old _ (hI₃ p hp).2.2.ne (.tail _ (.tail _ (.tail _ hp)))
  · have hin : i = n := by omega
    subst hin
    refine W.done _ _ _ hst' fun h₁ tk₁ hk₁ => ?_
    first | ((first | refine el_0_2 (next h₁ hk₁) ?_ | refine el_1_1 (next h₁ hk₁) ?_); intro F₁ N₁) | obtain ⟨F₁, N₁⟩ := next h₁ hk₁
    exact done ys a rest h₁ tk₁ oC mC hP' (fun p hp => (hNI' p hp).2) F₁ N₁ hC' hK'
end

end
-- COMP2
section
open PySem PySem.Spec PySem.W PyProof.Rows PySem.Calls PyProof.V
section
variable {prog : Program} {w : World} {A : Around} {E : Value → Shared → Prop} {s : Shared} {env : Env} {h₀ : Heap}

/-- a comprehension, opened up to its first iterator -/
noncomputable def CompGo (prog : Program) (w : World) (A : Around) (env : Env) (elt : Expr) (gens : List Comprehension) (scope : Scope) (pos : Pos) (cl : List (Str × Addr)) (Post : Value → Addr → Result → Shared → Prop) (E : Value → Shared → Prop) (it : Value) (s₂ : Shared) : Prop :=
  wpAny (model prog w) A (newList []) (fun acc s₃ => wpAny (model prog w) A (newFunctionEnv scope env.globals cl [] env.qual none .none (some env)) (fun cenv s₄ =>
      codeAny (model prog w) A (.compStart (.ListComp elt gens scope pos) 0 it acc { cenv with scope := relabel scope env }) (Post acc cenv.locals) s₄) E s₃) E s₂

theorem comp_eval {elt target iter : Expr} {ifs : List Expr} {gs : List Comprehension} {scope : Scope} {cl : List (Str × Addr)} {pos : Pos} {Q : Value → Shared → Prop}
    (hclos : closureFor scope env = pure cl) (hkind : scope.kind = .function) (hnames : ∀ x ∈ scope.names, x.2 = .local → scope.names.lookup x.1 = some .local)
    (h : wpAny (model prog w) A (eval iter env) (fun xv s₁ => wpAny (model prog w) A (pyIter xv) (CompGo prog w A env elt (⟨target, iter, ifs, 0⟩ :: gs) scope pos cl (compPost (model prog w) A E none Q) E) E s₁) E s)
    (hs : ∀ x, foldedSetIterable iter env x = pure x := by intro _; rfl) :
    wpAny (model prog w) A (eval (.ListComp elt (⟨target, iter, ifs, 0⟩ :: gs) scope pos) env) Q E s := by
  rw [eval_ListComp]
  exact wpAny_comprehension_free (use := none) rfl hs hclos hkind hnames h

noncomputable def AsgPost (prog : Program) (w : World) (A : Around) (E : Value → Shared → Prop) (env : Env) (y : Str) (py : Pos) (Q : Flow → Shared → Prop) : Value → Addr → Result → Shared → Prop := compPost (model prog w) A E (some (assign (.Name y py) env)) (fun _ s' => Q .next s')
theorem comp_assign {elt target iter : Expr} {ifs : List Expr} {gs : List Comprehension} {scope : Scope} {cl : List (Str × Addr)} {pos spos py : Pos} {y : Str} {Q : Flow → Shared → Prop}
    (hsw : swapsWith (.ListComp elt (⟨target, iter, ifs, 0⟩ :: gs) scope pos) (some (.Name y py)) spos.line env = pure true)
    (hclos : closureFor scope env = pure cl) (hkind : scope.kind = .function) (hnames : ∀ x ∈ scope.names, x.2 = .local → scope.names.lookup x.1 = some .local)
    (h : wpAny (model prog w) A (eval iter env) (fun xv s₁ => wpAny (model prog w) A (pyIter xv) (CompGo prog w A env elt (⟨target, iter, ifs, 0⟩ :: gs) scope pos cl (AsgPost prog w A E env y py Q) E) E s₁) E s)
    (hs : ∀ x, foldedSetIterable iter env x = pure x := by intro _; rfl) :
    wpAny (model prog w) A (exec (.Assign [.Name y py] (.ListComp elt (⟨target, iter, ifs, 0⟩ :: gs) scope pos) spos) env) Q E s := by
  rw [exec_Assign_Name_used _ _ _ _ hsw]
  refine wpAny_bind (wpAny_standAt (wpAny_bind ?_))
  show wpAny _ A (do let _ ← comprehension (.ListComp elt (⟨target, iter, ifs, 0⟩ :: gs) scope pos) scope env _ (newList []) false (eval iter env) (some (assign (.Name y py) env))) _ _ s
  exact wpAny_bind (wpAny_mono (wpAny_comprehension_free (use := some (assign (.Name y py) env)) (Q := fun _ s' => Q .next s') rfl hs hclos hkind hnames h) (fun _ s' hq => wpAny_pure (wpAny_pure hq)) fun _ _ e => e)

theorem comp_block {elt target iter : Expr} {ifs : List Expr} {gs : List Comprehension} {scope : Scope} {cl : List (Str × Addr)} {pos : Pos} {L I : Addr} {fp : List Addr} {n : Nat} {Pv : Nat → Value → Prop} {St : Nat → Heap → Prop} {m : Str → Option Value} {news : Ledger} {Post : Value → Addr → Result → Shared → Prop}
    (W : Walks prog w A I fp [I] n Pv St) (hfp : ∀ b ∈ fp, b < s.heap.objs.size) (hst : St 0 s.heap) (F : Fr h₀ L s.heap m) (N : News h₀ L s.heap news) (hcell : ∀ y ∈ scope.names, y.2 ≠ .cell) (hkind : scope.kind = .function)
    (h : ∀ C D oC h₁ tk, Fr h₀ L h₁ m → News h₀ L h₁ ((C, oC) :: (D, LCg.lst []) :: news) → LCg.NsObj oC (fun _ => none) → Apt I C → Apt I D → Apt C D → (∀ p ∈ news, Apt p.1 C ∧ Apt p.1 D) → St 0 h₁ → (∀ b o, s.heap.get? b = some o → h₁.get? b = some o) → I ≠ L →
      codeAny (model prog w) A (.compLoop (.ListComp elt (⟨target, iter, ifs, 0⟩ :: gs) scope pos) 0 (.ref I) (.ref D) (compEnvC scope cl C env)) (Post (.ref D) C) { s with heap := h₁, toks := tk }) (hIL : I ≠ L) :
    CompGo prog w A env elt (⟨target, iter, ifs, 0⟩ :: gs) scope pos cl Post E (.ref I) s := by
  unfold CompGo
  refine wpAny_newObj_type (wpAny_newFunctionEnv hcell (by intro y hy; simp at hy) (fun h₁ hns₁ hsb₁ => ?_) hkind)
  dsimp only at hns₁ hsb₁ ⊢
  generalize hH2 : s.heap.push { cls := .type "list", dict := none, data := .seq ([] : List Value).toArray } = H2 at hns₁ hsb₁ ⊢
  have hC : H2.objs.size = s.heap.objs.size + 1 := by rw [← hH2, Heap.size_push]
  have hDC : s.heap.objs.size ≠ H2.objs.size := by rw [hC]; exact Nat.ne_of_lt (Nat.lt_succ_self _)
  have below : ∀ b, b < s.heap.objs.size → b ≠ H2.objs.size ∧ b ≠ s.heap.objs.size := fun b hb => ⟨by rw [hC]; exact Nat.ne_of_lt (Nat.lt_succ_of_lt hb), Nat.ne_of_lt hb⟩
  have hIlt : I < s.heap.objs.size := hfp I (W.sub I (List.mem_singleton.mpr rfl))
  have old : ∀ b o, s.heap.get? b = some o → h₁.get? b = some o := fun b o e => hsb₁.extBut b o (below b (Heap.lt_size e)).1 (Heap.get?_push_of_some _ (hH2 ▸ Heap.get?_push_of_some _ e))
  have hacc : h₁.get? s.heap.objs.size = some (LCg.lst []) := hsb₁.extBut _ _ hDC (Heap.get?_push_of_some _ (hH2 ▸ Heap.get?_push_size _ rfl))
  have hst₁ : St 0 h₁ := W.frame _ _ _ hst fun b _ o e => old b o e
  have fresh₀ : ∀ a, s.heap.objs.size ≤ a → h₀.get? a = none := fun a ha => by
    cases e : h₀.get? a with
    | none => rfl
    | some o' => exact absurd (Heap.lt_size (F.keep a o' e)) (Nat.not_lt.mpr ha)
  have hLlt : L < s.heap.objs.size := F.ns.lt
  first | ((first | refine el_0_3 (LCg.ns_obj hns₁) ?_ | refine el_1_2 (LCg.ns_obj hns₁) ?_ | refine el_2_1 (LCg.ns_obj hns₁) ?_); intro oC heC hoC) | obtain ⟨oC, heC, hoC⟩ := LCg.ns_obj hns₁
  have e : (fun x => List.lookup x ([] : List (Str × Value)).reverse) = fun _ => none := rfl
  have loop := h H2.objs.size s.heap.objs.size oC h₁ (s.toks + ([] : List (Str × Value)).length) (F.keeps old) (fun p hp => ?_) hoC (below I hIlt).1 (below I hIlt).2 (Ne.symm hDC) (fun p hp => ⟨(below _ (Heap.lt_size (N p hp).1)).1, (below _ (Heap.lt_size (N p hp).1)).2⟩) hst₁ old hIL
  · exact codeAny_compStart_list loop (W.self 0 _ _ _ hst₁ loop)
  · rcases List.mem_cons.mp hp with rfl | hp
    · exact ⟨heC, Ne.symm (below L hLlt).1, fresh₀ _ (by rw [hC]; exact Nat.le_succ _)⟩
    · rcases List.mem_cons.mp hp with rfl | hp
      · exact ⟨hacc, Ne.symm (below L hLlt).2, fresh₀ _ (Nat.le_refl _)⟩
      · exact ⟨old _ _ (N p hp).1, (N p hp).2⟩

theorem post_eval {L C D : Addr} {oC : Obj} {mC m : Str → Option Value} {ys : List Value} {news : Ledger} {Q : Value → Shared → Prop} {f : Flow} {h : Heap} {tk : Nat} (F : Fr h₀ L h m) (N : News h₀ L h ((C, oC) :: (D, LCg.lst ys) :: news)) (hC : LCg.NsObj oC mC) (hCD : Apt C D) (hI : ∀ p ∈ news, Apt p.1 C)
    (hQ : ∀ h', Fr h₀ L h' m → News h₀ L h' ((D, LCg.lst ys) :: news) → Q (.ref D) { s with heap := h', toks := tk }) : compPost (model prog w) A E none Q (.ref D) C (.ok f) { s with heap := h, toks := tk } := by
  have z := N _ (.head _)
  refine ⟨mC, hC.ns z.1, fun h' hs' => hQ h' (F.change hs' z.2.1 z.2.2) fun p hp => ⟨hs'.extBut _ _ ?_ (N p (.tail _ hp)).1, (N p (.tail _ hp)).2⟩⟩
  rcases List.mem_cons.mp hp with rfl | hp
  · exact hCD.ne'
  · exact (hI p hp).ne

theorem post_assign {y : Str} {py : Pos} {C D : Addr} {oC : Obj} {mC m : Str → Option Value} {ys : List Value} {news : Ledger} {Q : Flow → Shared → Prop} {f : Flow} {h : Heap} {tk : Nat} (hy : env.kindOf y = some .local) (hp : (env.scope.kind == .class || (env.scope.kind == .module && env.locals != env.globals)) = false)
    (F : Fr h₀ env.locals h m) (N : News h₀ env.locals h ((C, oC) :: (D, LCg.lst ys) :: news)) (hC : LCg.NsObj oC mC) (hCD : Apt C D) (hI : ∀ p ∈ news, Apt p.1 C)
    (hQ : ∀ h' tk', Fr h₀ env.locals h' (fun z => if z = y then some (.ref D) else m z) → News h₀ env.locals h' ((D, LCg.lst ys) :: news) → Q .next { s with heap := h', toks := tk' }) : AsgPost prog w A E env y py Q (.ref D) C (.ok f) { s with heap := h, toks := tk } := by
  have z := N _ (.head _)
  show wpAny _ A (assign (.Name y py) env (.ref D)) _ _ _
  refine wpAny_assign_Name (wpAny_storeName_local hy F.ns (fun h₂ hn₂ hs₂ => ?_) hp)
  have hL₀ : h₀.get? env.locals = none := Heap.get?_none_of_le F.above
  have F₂ : Fr h₀ env.locals h₂ (fun z => if z = y then some (.ref D) else m z) := ⟨hn₂, fun b o e => hs₂.extBut b o (fun q => by rw [q, hL₀] at e; cases e) (F.keep b o e), F.above⟩
  have N₂ : News h₀ env.locals h₂ ((C, oC) :: (D, LCg.lst ys) :: news) := fun p hp => ⟨hs₂.extBut _ _ (N p hp).2.1 (N p hp).1, (N p hp).2⟩
  refine ⟨mC, hC.ns (N₂ _ (.head _)).1, fun h' hs' => hQ h' _ (F₂.change hs' z.2.1 z.2.2) fun p hp => ⟨hs'.extBut _ _ ?_ (N₂ p (.tail _ hp)).1, (N₂ p (.tail _ hp)).2⟩⟩
  rcases List.mem_cons.mp hp with rfl | hp
  · exact hCD.ne'
  · exact (hI p hp).ne
end

end
-- COMP3
section
open PySem PySem.Spec PySem.W PyProof.Rows PySem.Calls PyProof.V
section
variable {prog : Program} {w : World} {A : Around} {E : Value → Shared → Prop} {s : Shared} {env : Env} {h₀ : Heap}

theorem compStart_gen {elt : Expr} {gens : List Comprehension} {d : Nat} {g : Comprehension} {scope : Scope} {pos : Pos} {it acc : Value} {R : Result → Shared → Prop} (hg : gens[d]? = some g) (ha : g.is_async = 0)
    (h0 : codeAny (model prog w) A (.compLoop (.ListComp elt gens scope pos) d it acc env) R s)
    (h : wpAny (model prog w) A (pyIter it) (fun it' s' => codeAny (model prog w) A (.compLoop (.ListComp elt gens scope pos) d it' acc env) R s') (notedBy (model prog w) A env fun x s' => R (.error x) s') s) :
    codeAny (model prog w) A (.compStart (.ListComp elt gens scope pos) d it acc env) R s := by
  refine codeAny_of_tree ?_
  show wpAny _ _ ((compStart (.ListComp elt gens scope pos) d it acc env).onRaise (fun x => do noteFrame x env; standAt theWindowsPlace)) _ _ s
  refine wpAny_notedAt ?_
  unfold compStart
  have e : (clausesOf (.ListComp elt gens scope pos))[d]? = some g := hg
  rw [e]
  have e2 : (some g).elim false (fun x => x.is_async != 0) = false := by simp [ha]
  rw [e2]
  simp only [Bool.false_eq_true, if_false]
  refine wpAny_bind (wpAny_askSetting (wpAny_ite ?_))
  split
  · first
      | exact wpAny_bind (wpAny_pure (wpAny_pure (And.intro rfl h0)))
      | exact wpAny_pure (And.intro rfl h0)
  · exact wpAny_bind (wpAny_rule (wpAny_bind (wpAny_standAt (wpAny_bind (wpAny_mono h (fun it' s' h' => wpAny_pure (And.intro rfl h')) fun _ _ x => x)))))

/-- the first clause, over a list -/
theorem comp_list {α : Type} {elt target iter : Expr} {ifs : List Expr} {gs : List Comprehension} {scope : Scope} {cl : List (Str × Addr)} {pos : Pos} {L l : Addr} {ol : Obj} {items : Array Value} {m : Str → Option Value} {Post : Value → Addr → Result → Shared → Prop}
    (lit : α → Ledger) (P : Nat → List Value → α → Ledger → Prop) (a₀ : α) (rest₀ : Ledger)
    (hh : A.handled = none) (hcell : ∀ y ∈ scope.names, y.2 ≠ .cell) (hkind : scope.kind = .function) (hn : ∀ C g', gs[0]? = some g' → g'.is_async = 0 ∧ ∀ x, foldedSetIterable g'.iter (compEnvC scope cl C env) x = pure x)
    (F : Fr h₀ L s.heap m) (N : News h₀ L s.heap (lit a₀ ++ rest₀)) (hol : ol.cls = .type "list" ∧ ∃ n, ol.data = .seq items n) (hP : P 0 [] a₀ rest₀)
    (hside : ∀ i ys a rest h, P i ys a rest → (∀ b o, h₀.get? b = some o → h.get? b = some o) → News h₀ L h (lit a ++ rest) → h.get? l = some ol)
    (turn : ∀ I C D i v ys a rest h tk oI oC mC E', items[i]? = some v → P i ys a rest → (∀ p ∈ lit a ++ rest, Apt p.1 I ∧ Apt p.1 C ∧ Apt p.1 D) → Apt I C → Apt I D → Apt C D → Fr h₀ L h m → News h₀ L h ((I, oI) :: (C, oC) :: (D, LCg.lst ys) :: (lit a ++ rest)) → h.IsListIter I l (i + 1) → LCg.NsObj oC mC →
      wpAny (model prog w) A (letOwnedTupleGo target (.ref I) v) (fun _ s₁ => wpAny (model prog w) A (assign target (compEnvC scope cl C env) v) (fun _ s₂ => CompTests prog w A ifs (compEnvC scope cl C env) (fun ok s₃ =>
            if ok = true then CompEmit prog w A elt (⟨target, iter, ifs, 0⟩ :: gs) scope pos 0 (.ref D) (compEnvC scope cl C env) (CE h₀ L I C D oI m lit (fun _ => True) (P (i + 1)) { s with heap := h, toks := tk }) (CN h₀ L I C D oI m lit (fun _ => True) (P (i + 1)) { s with heap := h, toks := tk }) E' s₃
            else CN h₀ L I C D oI m lit (fun _ => True) (P (i + 1)) { s with heap := h, toks := tk } s₃) E' s₂) E' s₁) E' { s with heap := h, toks := tk })
    (done : ∀ C D oC mC ys a rest h tk f, P items.size ys a rest → (∀ p ∈ lit a ++ rest, Apt p.1 C ∧ Apt p.1 D) → Apt C D → Fr h₀ L h m → News h₀ L h ((C, oC) :: (D, LCg.lst ys) :: (lit a ++ rest)) → LCg.NsObj oC mC → Post (.ref D) C (.ok f) { s with heap := h, toks := tk }) :
    wpAny (model prog w) A (pyIter (.ref l)) (CompGo prog w A env elt (⟨target, iter, ifs, 0⟩ :: gs) scope pos cl Post E) E s := by
  have hl : s.heap.IsList l items := ⟨ol, hside 0 [] a₀ rest₀ s.heap hP F.keep N, hol.1, hol.2⟩
  have hlt : l < s.heap.objs.size := Heap.lt_size (hside 0 [] a₀ rest₀ s.heap hP F.keep N)
  have hne : l ≠ s.heap.objs.size := Nat.ne_of_lt hlt
  refine wpAny_pyIter_list hl ?_
  have up : ∀ b o, s.heap.get? b = some o → (s.heap.push { cls := .type "list_iterator", data := .fields #[.ref l, .int 0 0] }).get? b = some o := fun b o e => Heap.get?_push_of_some _ e
  have W := Walks.list (prog := prog) (w := w) hh s.heap.objs.size l hne items
  have hI₀ : h₀.get? s.heap.objs.size = none := Heap.get?_none_of_le (Nat.le_trans F.above (Nat.le_of_lt F.ns.lt))
  have hIL : s.heap.objs.size ≠ L := Nat.ne_of_gt F.ns.lt
  refine comp_block (s := { s with heap := _ }) W (fun b hb => ?_) ⟨⟨_, Heap.get?_push_size _ rfl, rfl, rfl⟩, hl.push _⟩ (F.keeps up) (N.grown up) hcell hkind (fun C D oC h₁ tk F₁ N₁ hC hIC hID hCD hNI hst₁ old _ => ?_) hIL
  · show b < (s.heap.push _).objs.size
    rw [Heap.size_push]
    rcases List.mem_cons.mp hb with rfl | hb
    · exact Nat.lt_succ_self _
    · rw [List.mem_singleton.mp hb]; exact Nat.lt_succ_of_lt hlt
  refine codeAny_mono (comp_led (s := { s with heap := h₁, toks := tk }) (side := [(l, ol)]) (Next := fun s' => ∀ f, Post (.ref D) C (.ok f) s') lit (fun _ => True) P [] a₀ rest₀ rfl (hn C) W hst₁ (fun i h st => let ⟨o, e, _⟩ := st.1; ⟨o, e⟩) hI₀ hIL hIC hID hCD F₁ N₁ hC trivial
    (fun p hp => ⟨Apt.lt (Heap.lt_size (N p hp).1), hNI p hp⟩) hP (fun i ys a rest h hP hk N p hp => by rw [List.mem_singleton.mp hp]; exact hside i ys a rest h hP hk N)
    (fun i v ys a rest h tk oI oC mC E' _ hv hP hI F' N' st hC' _ => turn _ C D i v ys a rest h tk oI oC mC E' hv hP hI hIC hID hCD F' N' st.1 hC')
    (fun ys a rest h tk oC mC hP hI F' N' hC' _ f => done C D oC mC ys a rest h tk f hP hI hCD F' N' hC')) fun r s' h => ?_
  cases r with
  | ok f => exact h f
  | error e => exact h.elim

/-- the first clause, over a range -/
theorem comp_range {α : Type} {elt target iter : Expr} {ifs : List Expr} {gs : List Comprehension} {scope : Scope} {cl : List (Str × Addr)} {pos : Pos} {L r : Addr} {a0 b0 : Int} {t1 t2 t3 : Tok} {n : Nat} {m : Str → Option Value} {Post : Value → Addr → Result → Shared → Prop}
    (lit : α → Ledger) (P : Nat → List Value → α → Ledger → Prop) (a₀ : α) (rest₀ : Ledger)
    (hh : A.handled = none) (hcell : ∀ y ∈ scope.names, y.2 ≠ .cell) (hkind : scope.kind = .function) (hn : ∀ C g', gs[0]? = some g' → g'.is_async = 0 ∧ ∀ x, foldedSetIterable g'.iter (compEnvC scope cl C env) x = pure x)
    (F : Fr h₀ L s.heap m) (N : News h₀ L s.heap (lit a₀ ++ rest₀)) (hr : IsRange s.heap r a0 b0 1 t1 t2 t3) (hsmall : Builtin.Range.small a0 b0 1 = true) (hn2 : Builtin.Range.rangeSize a0 b0 1 = (n : Int)) (hP : P 0 [] a₀ rest₀)
    (turn : ∀ I C D (i : Nat) ut ys a rest h tk oI oC mC E', i < n → P i ys a rest → (∀ p ∈ lit a ++ rest, Apt p.1 I ∧ Apt p.1 C ∧ Apt p.1 D) → Apt I C → Apt I D → Apt C D → Fr h₀ L h m → News h₀ L h ((I, oI) :: (C, oC) :: (D, LCg.lst ys) :: (lit a ++ rest)) → LCg.NsObj oC mC →
      wpAny (model prog w) A (letOwnedTupleGo target (.ref I) (.int (a0 + (i : Int)) ut)) (fun _ s₁ => wpAny (model prog w) A (assign target (compEnvC scope cl C env) (.int (a0 + (i : Int)) ut)) (fun _ s₂ => CompTests prog w A ifs (compEnvC scope cl C env) (fun ok s₃ =>
            if ok = true then CompEmit prog w A elt (⟨target, iter, ifs, 0⟩ :: gs) scope pos 0 (.ref D) (compEnvC scope cl C env) (CE h₀ L I C D oI m lit (fun _ => True) (P (i + 1)) { s with heap := h, toks := tk }) (CN h₀ L I C D oI m lit (fun _ => True) (P (i + 1)) { s with heap := h, toks := tk }) E' s₃
            else CN h₀ L I C D oI m lit (fun _ => True) (P (i + 1)) { s with heap := h, toks := tk } s₃) E' s₂) E' s₁) E' { s with heap := h, toks := tk })
    (done : ∀ C D oC mC ys a rest h tk f, P n ys a rest → (∀ p ∈ lit a ++ rest, Apt p.1 C ∧ Apt p.1 D) → Apt C D → Fr h₀ L h m → News h₀ L h ((C, oC) :: (D, LCg.lst ys) :: (lit a ++ rest)) → LCg.NsObj oC mC → Post (.ref D) C (.ok f) { s with heap := h, toks := tk }) :
    wpAny (model prog w) A (pyIter (.ref r)) (CompGo prog w A env elt (⟨target, iter, ifs, 0⟩ :: gs) scope pos cl Post E) E s := by
  refine wpAny_pyIter_range hr hsmall ?_
  have up : ∀ {o' : Obj} b o, s.heap.get? b = some o → (s.heap.push o').get? b = some o := fun b o e => Heap.get?_push_of_some _ e
  have W := Walks.range (prog := prog) (w := w) hh s.heap.objs.size a0 1 n
  have hI₀ : h₀.get? s.heap.objs.size = none := Heap.get?_none_of_le (Nat.le_trans F.above (Nat.le_of_lt F.ns.lt))
  have hIL : s.heap.objs.size ≠ L := Nat.ne_of_gt F.ns.lt
  refine comp_block (s := { s with heap := _ }) W (fun b hb => ?_) ?_ (F.keeps up) (N.grown up) hcell hkind (fun C D oC h₁ tk F₁ N₁ hC hIC hID hCD hNI hst₁ old _ => ?_) hIL
  · show b < (s.heap.push _).objs.size
    rw [Heap.size_push, List.mem_singleton.mp hb]
    exact Nat.lt_succ_self _
  · have e : a0 + ((0 : Nat) : Int) * 1 = a0 := by omega
    have e2 : (n : Int) - ((0 : Nat) : Int) = Builtin.Range.rangeSize a0 b0 1 := by rw [hn2]; omega
    show IsRangeIter _ _ (a0 + ((0 : Nat) : Int) * 1) ((n : Int) - ((0 : Nat) : Int)) 1
    rw [e, e2]
    exact Heap.get?_push_size _ rfl
  refine codeAny_mono (comp_led (s := { s with heap := h₁, toks := tk }) (side := []) (Next := fun s' => ∀ f, Post (.ref D) C (.ok f) s') lit (fun _ => True) P [] a₀ rest₀ rfl (hn C) W hst₁ (fun i h st => ⟨_, st⟩) hI₀ hIL hIC hID hCD F₁ N₁ hC trivial
    (fun p hp => ⟨Apt.lt (Heap.lt_size (N p hp).1), hNI p hp⟩) hP (fun i ys a rest h hP hk N p hp => nomatch hp)
    (fun i v ys a rest h tk oI oC mC E' hi hv hP hI F' N' st hC' _ => by
      first | ((first | refine el_0_2 (hv) ?_ | refine el_1_1 (hv) ?_); (try clear hv); intro ut zq3; subst zq3) | obtain ⟨ut, rfl⟩ := hv
      rw [show a0 + (i : Int) * 1 = a0 + (i : Int) from by omega]
      exact turn _ C D i ut ys a rest h tk oI oC mC E' hi hP hI hIC hID hCD F' N' hC')
    (fun ys a rest h tk oC mC hP hI F' N' hC' _ f => done C D oC mC ys a rest h tk f hP hI hCD F' N' hC')) fun r s' h => ?_
  cases r with
  | ok f => exact h f
  | error e => exact h.elim

/-- a later clause, over a list -/
theorem comp_listN {α : Type} {elt : Expr} {gens : List Comprehension} {d : Nat} {target iter : Expr} {ifs : List Expr} {scope : Scope} {pos : Pos} {L C D l : Addr} {oC₀ : Obj} {mC₀ : Str → Option Value} {ol : Obj} {items : Array Value} {m : Str → Option Value} {Next : Shared → Prop}
    (lit : α → Ledger) (Kn : (Str → Option Value) → Prop) (P : Nat → List Value → α → Ledger → Prop) (ys₀ : List Value) (a₀ : α) (rest₀ : Ledger)
    (hg : gens[d]? = some ⟨target, iter, ifs, 0⟩) (hn : ∀ g', gens[d + 1]? = some g' → g'.is_async = 0 ∧ ∀ x, foldedSetIterable g'.iter env x = pure x) (hh : A.handled = none) (hCD : Apt C D)
    (F : Fr h₀ L s.heap m) (N : News h₀ L s.heap ((C, oC₀) :: (D, LCg.lst ys₀) :: (lit a₀ ++ rest₀))) (hC₀ : LCg.NsObj oC₀ mC₀) (hK₀ : Kn mC₀) (hNI : ∀ p ∈ lit a₀ ++ rest₀, Apt p.1 C ∧ Apt p.1 D) (hol : ol.cls = .type "list" ∧ ∃ n, ol.data = .seq items n) (hP : P 0 ys₀ a₀ rest₀)
    (hside : ∀ i ys a rest h, P i ys a rest → (∀ b o, h₀.get? b = some o → h.get? b = some o) → News h₀ L h (lit a ++ rest) → h.get? l = some ol)
    (turn : ∀ I i v ys a rest h tk oI oC mC E', items[i]? = some v → P i ys a rest → (∀ p ∈ lit a ++ rest, Apt p.1 I ∧ Apt p.1 C ∧ Apt p.1 D) → Apt I C → Apt I D → Fr h₀ L h m → News h₀ L h ((I, oI) :: (C, oC) :: (D, LCg.lst ys) :: (lit a ++ rest)) → h.IsListIter I l (i + 1) → LCg.NsObj oC mC → Kn mC →
      wpAny (model prog w) A (letOwnedTupleGo target (.ref I) v) (fun _ s₁ => wpAny (model prog w) A (assign target env v) (fun _ s₂ => CompTests prog w A ifs env (fun ok s₃ =>
            if ok = true then CompEmit prog w A elt gens scope pos d (.ref D) env (CE h₀ L I C D oI m lit Kn (P (i + 1)) { s with heap := h, toks := tk }) (CN h₀ L I C D oI m lit Kn (P (i + 1)) { s with heap := h, toks := tk }) E' s₃
            else CN h₀ L I C D oI m lit Kn (P (i + 1)) { s with heap := h, toks := tk } s₃) E' s₂) E' s₁) E' { s with heap := h, toks := tk })
    (done : ∀ ys a rest h tk oC mC, P items.size ys a rest → (∀ p ∈ lit a ++ rest, Apt p.1 C ∧ Apt p.1 D) → Fr h₀ L h m → News h₀ L h ((C, oC) :: (D, LCg.lst ys) :: (lit a ++ rest)) → LCg.NsObj oC mC → Kn mC → Next { s with heap := h, toks := tk }) :
    wpAny (model prog w) A (pyIter (.ref l)) (fun it s₂ => codeAny (model prog w) A (.compStart (.ListComp elt gens scope pos) d it (.ref D) env) (fun r s' => match r with | .ok _ => Next s' | .error _ => False) s₂) E s := by
  have tl : News h₀ L s.heap (lit a₀ ++ rest₀) := fun p hp => N p (.tail _ (.tail _ hp))
  have hl : s.heap.IsList l items := ⟨ol, hside 0 ys₀ a₀ rest₀ s.heap hP F.keep tl, hol.1, hol.2⟩
  have hlt : l < s.heap.objs.size := Heap.lt_size (hside 0 ys₀ a₀ rest₀ s.heap hP F.keep tl)
  have hne : l ≠ s.heap.objs.size := Nat.ne_of_lt hlt
  refine wpAny_pyIter_list hl ?_
  have up : ∀ b o, s.heap.get? b = some o → (s.heap.push { cls := .type "list_iterator", data := .fields #[.ref l, .int 0 0] }).get? b = some o := fun b o e => Heap.get?_push_of_some _ e
  have W := Walks.list (prog := prog) (w := w) hh s.heap.objs.size l hne items
  have hI₀ : h₀.get? s.heap.objs.size = none := Heap.get?_none_of_le (Nat.le_trans F.above (Nat.le_of_lt F.ns.lt))
  have hIL : s.heap.objs.size ≠ L := Nat.ne_of_gt F.ns.lt
  have hst : (s.heap.push { cls := .type "list_iterator", data := .fields #[.ref l, .int 0 0] }).IsListIter s.heap.objs.size l 0 ∧ (s.heap.push { cls := .type "list_iterator", data := .fields #[.ref l, .int 0 0] }).IsList l items := ⟨⟨_, Heap.get?_push_size _ rfl, rfl, rfl⟩, hl.push _⟩
  have hIC : Apt s.heap.objs.size C := Apt.gt (Heap.lt_size (N _ (.head _)).1)
  have hID : Apt s.heap.objs.size D := Apt.gt (Heap.lt_size (N _ (.tail _ (.head _))).1)
  have loop := comp_led (s := { s with heap := _ }) (elt := elt) (scope := scope) (pos := pos) (side := [(l, ol)]) (Next := Next) lit Kn P ys₀ a₀ rest₀ hg hn W hst (fun i h st => let ⟨o, e, _⟩ := st.1; ⟨o, e⟩) hI₀ hIL hIC hID hCD (F.keeps up) (N.grown up) hC₀ hK₀
    (fun p hp => ⟨Apt.lt (Heap.lt_size (tl p hp).1), hNI p hp⟩) hP (fun i ys a rest h hP hk N p hp => by rw [List.mem_singleton.mp hp]; exact hside i ys a rest h hP hk N)
    (fun i v ys a rest h tk oI oC mC E' _ hv hP hI F' N' st hC' hK' => turn _ i v ys a rest h tk oI oC mC E' hv hP hI hIC hID F' N' st.1 hC' hK')
    (fun ys a rest h tk oC mC hP hI F' N' hC' hK' => done ys a rest h tk oC mC hP hI F' N' hC' hK')
  exact compStart_gen hg rfl loop (W.self 0 _ _ _ hst loop)

/-- `x` bound -/
theorem comp_name {L I C : Addr} {scope : Scope} {cl : List (Str × Addr)} {x : Str} {px : Pos} {v : Value} {h : Heap} {tk : Nat} {oI oC : Obj} {m mC : Str → Option Value} {news : Ledger} {K : Shared → Prop} (F : Fr h₀ L h m) (N : News h₀ L h ((I, oI) :: (C, oC) :: news)) (hC : LCg.NsObj oC mC) (hIC : Apt I C) (hNC : ∀ p ∈ news, Apt p.1 C)
    (hx : (compEnvC scope cl C env).kindOf x = some .local) (hk : scope.kind = .function)
    (k : ∀ h' tk' oC', Fr h₀ L h' m → News h₀ L h' ((I, oI) :: (C, oC') :: news) → LCg.NsObj oC' (fun z => if z = x then some v else mC z) → K { s with heap := h', toks := tk' }) :
    wpAny (model prog w) A (letOwnedTupleGo (.Name x px) (.ref I) v) (fun _ s₁ => wpAny (model prog w) A (assign (.Name x px) (compEnvC scope cl C env) v) (fun _ s₂ => K s₂) E s₁) E { s with heap := h, toks := tk } := by
  refine wpAny_of_eq (a := ()) rfl ?_
  have z := N (C, oC) (.tail _ (.head _))
  refine wpAny_assign_Name (wpAny_storeName_local hx (hC.ns z.1) (fun h₃ hn₃ hs₃ => ?_) (by simp [compEnvC, relabel, hk]))
  first | ((first | refine el_0_3 (LCg.ns_obj hn₃) ?_ | refine el_1_2 (LCg.ns_obj hn₃) ?_ | refine el_2_1 (LCg.ns_obj hn₃) ?_); intro oC' heC hoC) | obtain ⟨oC', heC, hoC⟩ := LCg.ns_obj hn₃
  refine k h₃ _ oC' (F.change hs₃ z.2.1 z.2.2) (fun p hp => ?_) hoC
  rcases List.mem_cons.mp hp with rfl | hp
  · exact ⟨hs₃.extBut _ _ hIC.ne (N _ (.head _)).1, (N _ (.head _)).2⟩
  · rcases List.mem_cons.mp hp with rfl | hp
    · exact ⟨heC, z.2⟩
    · have y := N p (.tail _ (.tail _ hp))
      exact ⟨hs₃.extBut _ _ (hNC p hp).ne y.1, y.2⟩

noncomputable def setAll : List (Str × Value) → (Str → Option Value) → Str → Option Value
  | [], m => m
  | (x, v) :: r, m => setAll r (fun z => if z = x then some v else m z)

theorem comp_tuple {L I C t l : Addr} {scope : Scope} {cl : List (Str × Addr)} {xs : List (Str × Pos)} {x1} {px : Pos} {vs : List Value} {j : Nat} {h : Heap} {tk : Nat} {oI oC : Obj} {m mC : Str → Option Value} {news : Ledger} {K : Shared → Prop} (F : Fr h₀ L h m) (N : News h₀ L h ((I, oI) :: (C, oC) :: news)) (hC : LCg.NsObj oC mC) (hIC : Apt I C) (hNC : ∀ p ∈ news, Apt p.1 C)
    (hit : h.IsListIter I l j) (hh : A.handled = none) (ht : IsTup h t vs.toArray) (hl : xs.length = vs.length) (hx : ∀ x ∈ xs, (compEnvC scope cl C env).kindOf x.1 = some .local) (hk : scope.kind = .function)
    (k : ∀ h' tk' oC', Fr h₀ L h' m → News h₀ L h' ((I, oI) :: (C, oC') :: news) → LCg.NsObj oC' (setAll ((xs.map (·.1)).zip vs) mC) → K { s with heap := h', toks := tk' }) :
    wpAny (model prog w) A (letOwnedTupleGo (.Tuple (xs.map fun p => .Name p.1 p.2) x1 px) (.ref I) (.ref t)) (fun _ s₁ => wpAny (model prog w) A (assign (.Tuple (xs.map fun p => .Name p.1 p.2) x1 px) (compEnvC scope cl C env) (.ref t)) (fun _ s₂ => K s₂) E s₁) E { s with heap := h, toks := tk } := by
  refine wpAny_letOwnedTupleGo_listiter hit ?_
  have each : ∀ (xs : List (Str × Pos)) (env : Env), assignEach (xs.map fun p => Expr.Name p.1 p.2) env = xs.map fun p => (false, assign (Expr.Name p.1 p.2) env) := by
    intro xs env
    induction xs with
    | nil => rfl
    | cons p r ih => rw [List.map_cons, List.map_cons, ← ih]; rfl
  refine assign_Tuple_tuple hh ht (by rw [each]; simp [hl]) (by rw [each]; simp [List.findIdx?_eq_none_iff]) fun h₅ he => ?_
  have he' : ∀ b o, h.get? b = some o → h₅.get? b = some o := fun b o e => he b o (Nat.ne_of_lt (Heap.lt_size e)) e
  rw [each, List.map_map]
  have go : ∀ (xs : List (Str × Pos)) (vs : List Value), xs.length = vs.length → (∀ x ∈ xs, (compEnvC scope cl C env).kindOf x.1 = some .local) → ∀ (h₅ : Heap) (tk : Nat) (oC : Obj) (mC : Str → Option Value), Fr h₀ L h₅ m → News h₀ L h₅ ((I, oI) :: (C, oC) :: news) → LCg.NsObj oC mC →
      (∀ h' tk' oC', Fr h₀ L h' m → News h₀ L h' ((I, oI) :: (C, oC') :: news) → LCg.NsObj oC' (setAll ((xs.map (·.1)).zip vs) mC) → K { s with heap := h', toks := tk' }) →
      wpAny (model prog w) A (assignInOrder (xs.map ((fun x => x.2) ∘ fun p => (false, assign (Expr.Name p.1 p.2) (compEnvC scope cl C env)))) vs) (fun _ s₂ => K s₂) E { s with heap := h₅, toks := tk } := by
    intro xs
    induction xs with
    | nil =>
      intro vs _ _ h₅ tk oC mC F N hC k
      exact assignInOrder_nil (k h₅ tk oC F N (by simpa [setAll] using hC))
    | cons x r ih =>
      intro vs hl hx h₅ tk oC mC F N hC k
      have zq1 : ∃ v r, vs = v :: r := by
        cases vs with
        | nil => simp at hl
        | cons v r => exact ⟨v, r, rfl⟩
      first | ((first | refine el_0_3 (zq1) ?_ | refine el_1_2 (zq1) ?_ | refine el_2_1 (zq1) ?_); (try clear zq1); intro v vs zq2; subst zq2) | obtain ⟨v, vs, rfl⟩ := zq1
      refine assignInOrder_cons ?_
      have z := N (C, oC) (.tail _ (.head _))
      refine wpAny_assign_Name (wpAny_storeName_local (hx x (.head _)) (hC.ns z.1) (fun h₃ hn₃ hs₃ => ?_) (by simp [compEnvC, relabel, hk]))
      first | ((first | refine el_0_3 (LCg.ns_obj hn₃) ?_ | refine el_1_2 (LCg.ns_obj hn₃) ?_ | refine el_2_1 (LCg.ns_obj hn₃) ?_); intro oC' heC hoC) | obtain ⟨oC', heC, hoC⟩ := LCg.ns_obj hn₃
      refine ih vs (by simpa using hl) (fun y hy => hx y (.tail _ hy)) h₃ _ oC' _ (F.change hs₃ z.2.1 z.2.2) (fun p hp => ?_) hoC fun h' tk' oC' F' N' hC' => k h' tk' oC' F' N' hC'
      rcases List.mem_cons.mp hp with rfl | hp
      · exact ⟨hs₃.extBut _ _ hIC.ne (N _ (.head _)).1, (N _ (.head _)).2⟩
      · rcases List.mem_cons.mp hp with rfl | hp
        · exact ⟨heC, z.2⟩
        · have y := N p (.tail _ (.tail _ hp))
          exact ⟨hs₃.extBut _ _ (hNC p hp).ne y.1, y.2⟩
  exact go xs vs hl hx h₅ _ oC mC (F.keeps he') (fun p hp => ⟨he' _ _ (N p hp).1, (N p hp).2⟩) hC k
end

end
-- COMP4
section
open PySem PySem.Spec PySem.W PyProof.Rows PySem.Calls PyProof.V
section
variable {prog : Program} {w : World} {A : Around} {E : Value → Shared → Prop} {s : Shared} {env : Env}
theorem CompEmit.last {elt : Expr} {gens : List Comprehension} {scope : Scope} {pos : Pos} {d : Nat} {acc : Value} {CE : Value → Shared → Prop} {CN : Shared → Prop} (hg : gens[d + 1]? = none) (h : wpAny (model prog w) A (eval elt env) CE E s) : CompEmit prog w A elt gens scope pos d acc env CE CN E s := by
  unfold CompEmit; rw [hg]; exact h
theorem CompEmit.more {elt : Expr} {gens : List Comprehension} {scope : Scope} {pos : Pos} {d : Nat} {acc : Value} {CE : Value → Shared → Prop} {CN : Shared → Prop} {g' : Comprehension} (hg : gens[d + 1]? = some g')
    (h : wpAny (model prog w) A (eval g'.iter env) (fun x s₁ => wpAny (model prog w) A (pyIter x) (fun it s₂ => codeAny (model prog w) A (.compStart (.ListComp elt gens scope pos) (d + 1) it acc env) (fun r s' => match r with | .ok _ => CN s' | .error _ => False) s₂) E s₁) E s) : CompEmit prog w A elt gens scope pos d acc env CE CN E s := by
  unfold CompEmit; rw [hg]; exact h
theorem CompTests.none {Q : Bool → Shared → Prop} (h : Q true s) : CompTests prog w A [] env Q E s := wpAny_tests_nil h
theorem CompTests.one {c : Expr} {Q : Bool → Shared → Prop} (h : wpAny (model prog w) A (isTrue c env (eval c env)) Q E s) : CompTests prog w A [c] env Q E s := wpAny_tests_one h
end

end
-- FOLD
section
open PySem PySem.Spec PySem.W PyProof.Rows PySem.Calls PyProof.V
section
variable {prog : Program} {w : World} {M : Model} {A : Around} {α β γ : Type} {E E2 E3 E4 : Value → Shared → Prop} {s : Shared} {ifs : List Expr} {env env2 : Env} {elt : Expr} {gens : List Comprehension} {scope : Scope} {pos : Pos} {d : Nat} {acc : Value}
theorem fold_comp {c : Sem α} {e : α → Sem β} {X : Value → Shared → Prop} {Y Y2 : Shared → Prop}
    (h : let XL := X; let YL := Y; let ZL := Y2; wpAny M A c (fun a s₁ => wpAny M A (e a) (fun _ s₂ => CompTests prog w A ifs env (fun ok s₃ => if ok = true then CompEmit prog w A elt gens scope pos d acc env2 XL YL E s₃ else ZL s₃) E2 s₂) E3 s₁) E4 s) :
    wpAny M A c (fun a s₁ => wpAny M A (e a) (fun _ s₂ => CompTests prog w A ifs env (fun ok s₃ => if ok = true then CompEmit prog w A elt gens scope pos d acc env2 X Y E s₃ else Y2 s₃) E2 s₂) E3 s₁) E4 s := h
end

end
-- COMPC
section
open PySem PySem.Spec PySem.W PyProof.Rows PySem.Calls PyProof.V
section
variable {prog : Program} {w : World} {A : Around} {E : Value → Shared → Prop} {s : Shared} {env : Env} {h₀ : Heap}
abbrev cellN : Obj := { cls := .type "cell", data := .cell none }
/-- the frame of a comprehension that has cells of its own -/
theorem newEnv_cells {M : Model} {scope : Scope} {cl : List (Str × Addr)} {globals : Addr} {qual : Str} {around : Env} {Q : Env → Shared → Prop}
    (hQ : ∀ h', h' = pushCells (s.heap.push { cls := .type "dict", data := .dict #[] }) scope.names →
      Q { scope := scope, locals := s.heap.objs.size, globals := globals, cells := cellsFrom (s.heap.objs.size + 1) scope.names cl, qual := qual, func := none, code := around.code, frame := around.frame, builtins := around.builtins } { s with heap := h' }) :
    wpAny M A (newFunctionEnv scope globals cl [] qual none .none (some around)) Q E s := by
  simp only [newFunctionEnv, Option.isSome_some, if_true]
  refine wpAny_bind (wpAny_alloc ?_)
  refine wpAny_bind (wpAny_layCells _ (fun name kind cells => by cases hkc : kind == NameKind.cell <;> simp [hkc]) _ _ _ _ ?_)
  rw [show ({ s with heap := s.heap.push { cls := .type "dict", data := .dict #[] } } : Shared).heap.objs.size = s.heap.objs.size + 1 from Heap.size_push ..]
  refine wpAny_bind ?_
  rw [List.forIn_nil]
  exact wpAny_pure (wpAny_pure (hQ _ rfl))

theorem comp_blockC {elt target iter : Expr} {ifs : List Expr} {gs : List Comprehension} {scope : Scope} {cl : List (Str × Addr)} {pos : Pos} {L I : Addr} {fp : List Addr} {n : Nat} {Pv : Nat → Value → Prop} {St : Nat → Heap → Prop} {m : Str → Option Value} {news : Ledger} {Post : Value → Addr → Result → Shared → Prop} {x : Str}
    (W : Walks prog w A I fp [I] n Pv St) (hfp : ∀ b ∈ fp, b < s.heap.objs.size) (hst : St 0 s.heap) (F : Fr h₀ L s.heap m) (N : News h₀ L s.heap news)
    (hc1 : ∀ k acc, cellsFrom k scope.names acc = (x, k) :: acc) (hc2 : ∀ h, pushCells h scope.names = h.push cellN)
    (h : ∀ C D cx oC h₁, Fr h₀ L h₁ m → News h₀ L h₁ ((C, oC) :: (D, LCg.lst []) :: (cx, cellN) :: news) → LCg.NsObj oC (fun _ => none) → Apt I C → Apt I D → Apt I cx → Apt C D → Apt cx C → Apt cx D → (∀ p ∈ news, Apt p.1 C ∧ Apt p.1 D ∧ Apt p.1 cx) → St 0 h₁ → I ≠ L →
      codeAny (model prog w) A (.compLoop (.ListComp elt (⟨target, iter, ifs, 0⟩ :: gs) scope pos) 0 (.ref I) (.ref D) (compEnvC scope ((x, cx) :: cl) C env)) (Post (.ref D) C) { s with heap := h₁ }) (hIL : I ≠ L) :
    CompGo prog w A env elt (⟨target, iter, ifs, 0⟩ :: gs) scope pos cl Post E (.ref I) s := by
  unfold CompGo
  refine wpAny_newObj_type (newEnv_cells fun h₁ e₁ => ?_)
  rw [hc2] at e₁
  rw [hc1]
  dsimp only at e₁ ⊢
  generalize hH2 : s.heap.push { cls := .type "list", dict := none, data := .seq ([] : List Value).toArray } = H2 at e₁ ⊢
  have hC : H2.objs.size = s.heap.objs.size + 1 := by rw [← hH2, Heap.size_push]
  have up : ∀ b o, H2.get? b = some o → h₁.get? b = some o := fun b o e => by rw [e₁]; exact Heap.get?_push_of_some _ (Heap.get?_push_of_some _ e)
  have old : ∀ b o, s.heap.get? b = some o → h₁.get? b = some o := fun b o e => up b o (hH2 ▸ Heap.get?_push_of_some _ e)
  have gD : h₁.get? s.heap.objs.size = some (LCg.lst []) := up _ _ (hH2 ▸ Heap.get?_push_size _ rfl)
  have gC : h₁.get? H2.objs.size = some { cls := .type "dict", data := .dict #[] } := by rw [e₁]; exact Heap.get?_push_of_some _ (Heap.get?_push_size _ rfl)
  have gX : h₁.get? (H2.objs.size + 1) = some cellN := by
    rw [e₁]
    have := Heap.get?_push_size (H2.push { cls := .type "dict", data := .dict #[] }) (o := cellN) rfl
    rwa [Heap.size_push] at this
  have hNs : LCg.NsObj { cls := .type "dict", data := .dict #[] } (fun _ => none) := by
    first | ((first | refine el_0_6 (Heap.Ns.new H2 (.type "dict")) ?_ | refine el_1_5 (Heap.Ns.new H2 (.type "dict")) ?_ | refine el_2_4 (Heap.Ns.new H2 (.type "dict")) ?_ | refine el_3_3 (Heap.Ns.new H2 (.type "dict")) ?_ | refine el_4_2 (Heap.Ns.new H2 (.type "dict")) ?_ | refine el_5_1 (Heap.Ns.new H2 (.type "dict")) ?_); intro o es ep e hd r) | obtain ⟨o, es, ep, e, hd, r⟩ := Heap.Ns.new H2 (.type "dict")
    rw [Heap.get?_push_size _ rfl] at e
    cases e
    exact ⟨es, ep, hd, r⟩
  have hIlt : I < s.heap.objs.size := hfp I (W.sub I (List.mem_singleton.mpr rfl))
  have hst₁ : St 0 h₁ := W.frame _ _ _ hst fun b _ o e => old b o e
  have fresh₀ : ∀ a, s.heap.objs.size ≤ a → h₀.get? a = none := fun a ha => by
    cases e : h₀.get? a with
    | none => rfl
    | some o' => exact absurd (Heap.lt_size (F.keep a o' e)) (Nat.not_lt.mpr ha)
  have hLlt : L < s.heap.objs.size := F.ns.lt
  have l1 : s.heap.objs.size < H2.objs.size := by rw [hC]; exact Nat.lt_succ_self _
  have l2 : s.heap.objs.size < H2.objs.size + 1 := Nat.lt_succ_of_lt l1
  have lt : ∀ {b : Addr} {y : Nat}, b < s.heap.objs.size → s.heap.objs.size ≤ y → Apt b y := fun {b y} h1 h2 => Apt.lt (Nat.lt_of_lt_of_le h1 h2)
  have loop := h H2.objs.size s.heap.objs.size (H2.objs.size + 1) { cls := .type "dict", data := .dict #[] } h₁ (F.keeps old) (fun p hp => ?_) hNs (lt hIlt (Nat.le_of_lt l1)) (lt hIlt (Nat.le_refl _)) (lt hIlt (Nat.le_of_lt l2)) (Apt.gt l1) (Apt.gt (Nat.lt_succ_self _)) (Apt.gt l2)
    (fun p hp => ⟨lt (Heap.lt_size (N p hp).1) (Nat.le_of_lt l1), lt (Heap.lt_size (N p hp).1) (Nat.le_refl _), lt (Heap.lt_size (N p hp).1) (Nat.le_of_lt l2)⟩) hst₁ hIL
  · exact codeAny_compStart_list loop (W.self 0 _ _ _ hst₁ loop)
  · rcases List.mem_cons.mp hp with rfl | hp
    · exact ⟨gC, Nat.ne_of_gt (Nat.lt_trans hLlt l1), fresh₀ _ (Nat.le_of_lt l1)⟩
    · rcases List.mem_cons.mp hp with rfl | hp
      · exact ⟨gD, Nat.ne_of_gt hLlt, fresh₀ _ (Nat.le_refl _)⟩
      · rcases List.mem_cons.mp hp with rfl | hp
        · exact ⟨gX, Nat.ne_of_gt (Nat.lt_trans hLlt l2), fresh₀ _ (Nat.le_of_lt l2)⟩
        · exact ⟨old _ _ (N p hp).1, (N p hp).2⟩

noncomputable def CellO (o : Obj) (v : Option Value) : Prop := o.data = .cell v
/-- the first clause, over a range, where the name is a cell -/
theorem comp_rangeC {α : Type} {elt target iter : Expr} {ifs : List Expr} {gs : List Comprehension} {scope : Scope} {cl : List (Str × Addr)} {pos : Pos} {L r : Addr} {a0 b0 : Int} {t1 t2 t3 : Tok} {n : Nat} {m : Str → Option Value} {Post : Value → Addr → Result → Shared → Prop} {x : Str}
    (lit : α → Ledger) (P : Nat → List Value → α → Ledger → Prop) (a₀ : α) (rest₀ : Ledger)
    (hh : A.handled = none) (hc1 : ∀ k acc, cellsFrom k scope.names acc = (x, k) :: acc) (hc2 : ∀ h, pushCells h scope.names = h.push cellN) (hn : ∀ C cx g', gs[0]? = some g' → g'.is_async = 0 ∧ ∀ y, foldedSetIterable g'.iter (compEnvC scope ((x, cx) :: cl) C env) y = pure y)
    (F : Fr h₀ L s.heap m) (N : News h₀ L s.heap (lit a₀ ++ rest₀)) (hr : IsRange s.heap r a0 b0 1 t1 t2 t3) (hsmall : Builtin.Range.small a0 b0 1 = true) (hn2 : Builtin.Range.rangeSize a0 b0 1 = (n : Int)) (hP : P 0 [] a₀ rest₀)
    (turn : ∀ I C D cx (i : Nat) ut ys a rest h tk oI oC ox vx mC E', i < n → P i ys a rest → (∀ p ∈ (cx, ox) :: (lit a ++ rest), Apt p.1 I ∧ Apt p.1 C ∧ Apt p.1 D) → (∀ p ∈ lit a ++ rest, Apt p.1 cx) → Apt I C → Apt I D → Apt C D → Fr h₀ L h m → News h₀ L h ((I, oI) :: (C, oC) :: (D, LCg.lst ys) :: (cx, ox) :: (lit a ++ rest)) → LCg.NsObj oC mC → CellO ox vx →
      wpAny (model prog w) A (letOwnedTupleGo target (.ref I) (.int (a0 + (i : Int)) ut)) (fun _ s₁ => wpAny (model prog w) A (assign target (compEnvC scope ((x, cx) :: cl) C env) (.int (a0 + (i : Int)) ut)) (fun _ s₂ => CompTests prog w A ifs (compEnvC scope ((x, cx) :: cl) C env) (fun ok s₃ =>
            if ok = true then CompEmit prog w A elt (⟨target, iter, ifs, 0⟩ :: gs) scope pos 0 (.ref D) (compEnvC scope ((x, cx) :: cl) C env) (CE h₀ L I C D oI m (fun q : Obj × α => (cx, q.1) :: lit q.2) (fun _ => True) (fun ys q rest => P (i + 1) ys q.2 rest ∧ (∃ v, CellO q.1 v) ∧ ∀ p ∈ lit q.2 ++ rest, Apt p.1 cx) { s with heap := h, toks := tk }) (CN h₀ L I C D oI m (fun q : Obj × α => (cx, q.1) :: lit q.2) (fun _ => True) (fun ys q rest => P (i + 1) ys q.2 rest ∧ (∃ v, CellO q.1 v) ∧ ∀ p ∈ lit q.2 ++ rest, Apt p.1 cx) { s with heap := h, toks := tk }) E' s₃
            else CN h₀ L I C D oI m (fun q : Obj × α => (cx, q.1) :: lit q.2) (fun _ => True) (fun ys q rest => P (i + 1) ys q.2 rest ∧ (∃ v, CellO q.1 v) ∧ ∀ p ∈ lit q.2 ++ rest, Apt p.1 cx) { s with heap := h, toks := tk } s₃) E' s₂) E' s₁) E' { s with heap := h, toks := tk })
    (done : ∀ C D cx oC ox mC ys a rest h tk f, P n ys a rest → (∀ p ∈ (cx, ox) :: (lit a ++ rest), Apt p.1 C ∧ Apt p.1 D) → Apt C D → Fr h₀ L h m → News h₀ L h ((C, oC) :: (D, LCg.lst ys) :: (cx, ox) :: (lit a ++ rest)) → LCg.NsObj oC mC → Post (.ref D) C (.ok f) { s with heap := h, toks := tk }) :
    wpAny (model prog w) A (pyIter (.ref r)) (CompGo prog w A env elt (⟨target, iter, ifs, 0⟩ :: gs) scope pos cl Post E) E s := by
  refine wpAny_pyIter_range hr hsmall ?_
  have up : ∀ {o' : Obj} b o, s.heap.get? b = some o → (s.heap.push o').get? b = some o := fun b o e => Heap.get?_push_of_some _ e
  have W := Walks.range (prog := prog) (w := w) hh s.heap.objs.size a0 1 n
  have hI₀ : h₀.get? s.heap.objs.size = none := Heap.get?_none_of_le (Nat.le_trans F.above (Nat.le_of_lt F.ns.lt))
  have hIL : s.heap.objs.size ≠ L := Nat.ne_of_gt F.ns.lt
  refine comp_blockC (s := { s with heap := _ }) (x := x) W (fun b hb => ?_) ?_ (F.keeps up) (N.grown up) hc1 hc2 (fun C D cx oC h₁ F₁ N₁ hC hIC hID hIx hCD hxC hxD hNI hst₁ _ => ?_) hIL
  · show b < (s.heap.push _).objs.size
    rw [Heap.size_push, List.mem_singleton.mp hb]
    exact Nat.lt_succ_self _
  · have e : a0 + ((0 : Nat) : Int) * 1 = a0 := by omega
    have e2 : (n : Int) - ((0 : Nat) : Int) = Builtin.Range.rangeSize a0 b0 1 := by rw [hn2]; omega
    show IsRangeIter _ _ (a0 + ((0 : Nat) : Int) * 1) ((n : Int) - ((0 : Nat) : Int)) 1
    rw [e, e2]
    exact Heap.get?_push_size _ rfl
  refine codeAny_mono (comp_led (s := { s with heap := h₁ }) (side := []) (Next := fun s' => ∀ f, Post (.ref D) C (.ok f) s') (fun q : Obj × α => (cx, q.1) :: lit q.2) (fun _ => True) (fun i ys q rest => P i ys q.2 rest ∧ (∃ v, CellO q.1 v) ∧ ∀ p ∈ lit q.2 ++ rest, Apt p.1 cx) [] (cellN, a₀) rest₀ rfl (hn C cx) W hst₁ (fun i h st => ⟨_, st⟩) hI₀ hIL hIC hID hCD F₁ N₁ hC trivial
    (fun p hp => ?_) ⟨hP, ⟨none, rfl⟩, fun p hp => (hNI p hp).2.2⟩ (fun i ys a rest h hP hk N p hp => nomatch hp)
    (fun i v ys q rest h tk oI oC mC E' hi hv hP hI F' N' st hC' _ => by
      first | ((first | refine el_0_2 (hv) ?_ | refine el_1_1 (hv) ?_); (try clear hv); intro ut zq1; subst zq1) | obtain ⟨ut, rfl⟩ := hv
      rw [show a0 + (i : Int) * 1 = a0 + (i : Int) from by omega]
      first | ((first | refine el_0_3 (hP) ?_ | refine el_1_2 (hP) ?_ | refine el_2_1 (hP) ?_); (try clear hP); intro hP1 zq2 hP3; (first | refine el_0_2 (zq2) ?_ | refine el_1_1 (zq2) ?_); (try clear zq2); intro v hv) | obtain ⟨hP1, ⟨v, hv⟩, hP3⟩ := hP
      exact turn _ C D cx i ut ys q.2 rest h tk oI oC q.1 v mC E' hi hP1 hI hP3 hIC hID hCD F' N' hC' hv)
    (fun ys q rest h tk oC mC hP hI F' N' hC' _ f => done C D cx oC q.1 mC ys q.2 rest h tk f hP.1 hI hCD F' N' hC')) fun r s' h => ?_
  · rcases List.mem_cons.mp hp with rfl | hp
    · exact ⟨hIx.sw, hxC, hxD⟩
    · exact ⟨Apt.lt (Heap.lt_size (N p hp).1), (hNI p hp).1, (hNI p hp).2.1⟩
  cases r with
  | ok f => exact h f
  | error e => exact h.elim

/-- `x` bound, where it is a cell -/
theorem comp_nameC {L I C D cx : Addr} {scope : Scope} {cl : List (Str × Addr)} {x : Str} {px : Pos} {v : Value} {vx : Option Value} {h : Heap} {tk : Nat} {oI oC oD ox : Obj} {m : Str → Option Value} {news : Ledger} {K : Shared → Prop} (F : Fr h₀ L h m) (N : News h₀ L h ((I, oI) :: (C, oC) :: (D, oD) :: (cx, ox) :: news)) (hx : CellO ox vx) (hIx : Apt cx I) (hCx : Apt cx C) (hDx : Apt cx D) (hNx : ∀ p ∈ news, Apt p.1 cx)
    (hkx : (compEnvC scope ((x, cx) :: cl) C env).kindOf x = some .cell) (hk : scope.kind = .function)
    (k : ∀ h' tk' ox', Fr h₀ L h' m → News h₀ L h' ((I, oI) :: (C, oC) :: (D, oD) :: (cx, ox') :: news) → CellO ox' (some v) → K { s with heap := h', toks := tk' }) :
    wpAny (model prog w) A (letOwnedTupleGo (.Name x px) (.ref I) v) (fun _ s₁ => wpAny (model prog w) A (assign (.Name x px) (compEnvC scope ((x, cx) :: cl) C env) v) (fun _ s₂ => K s₂) E s₁) E { s with heap := h, toks := tk } := by
  refine wpAny_of_eq (a := ()) rfl ?_
  have z := N (cx, ox) (.tail _ (.tail _ (.tail _ (.head _))))
  refine wpAny_assign_Name (wpAny_storeName_cell (c := cx) hk hkx (by show List.lookup x ((x, cx) :: cl) = _; simp) ⟨ox, z.1, hx⟩ fun h₃ hn₃ hs₃ => ?_)
  first | ((first | refine el_0_3 (hn₃) ?_ | refine el_1_2 (hn₃) ?_ | refine el_2_1 (hn₃) ?_); (try clear hn₃); intro ox' e' hx') | obtain ⟨ox', e', hx'⟩ := hn₃
  refine k h₃ _ ox' (F.change hs₃ z.2.1 z.2.2) (fun p hp => ?_) hx'
  rcases List.mem_cons.mp hp with rfl | hp
  · exact ⟨hs₃.extBut _ _ hIx.ne' (N _ (.head _)).1, (N _ (.head _)).2⟩
  · rcases List.mem_cons.mp hp with rfl | hp
    · exact ⟨hs₃.extBut _ _ hCx.ne' (N _ (.tail _ (.head _))).1, (N _ (.tail _ (.head _))).2⟩
    · rcases List.mem_cons.mp hp with rfl | hp
      · exact ⟨hs₃.extBut _ _ hDx.ne' (N _ (.tail _ (.tail _ (.head _)))).1, (N _ (.tail _ (.tail _ (.head _)))).2⟩
      · rcases List.mem_cons.mp hp with rfl | hp
        · exact ⟨e', z.2⟩
        · have y := N p (.tail _ (.tail _ (.tail _ (.tail _ hp))))
          exact ⟨hs₃.extBut _ _ (hNx p hp).ne y.1, y.2⟩
end

end
-- COMP0
section
open PySem PySem.Spec PySem.W PyProof.Rows PySem.Calls PyProof.V
section
variable {prog : Program} {w : World} {A : Around} {E : Value → Shared → Prop} {s : Shared} {env : Env} {h₀ : Heap}
theorem comp_range0 {elt target iter : Expr} {ifs : List Expr} {gs : List Comprehension} {scope : Scope} {cl : List (Str × Addr)} {pos : Pos} {L r : Addr} {a0 b0 : Int} {t1 t2 t3 : Tok} {n : Nat} {m : Str → Option Value} {Post : Value → Addr → Result → Shared → Prop}
    (lit0 : Ledger) (P0 : Nat → List Value → Prop)
    (hh : A.handled = none) (hcell : ∀ y ∈ scope.names, y.2 ≠ .cell) (hkind : scope.kind = .function) (hn : ∀ C g', gs[0]? = some g' → g'.is_async = 0 ∧ ∀ x, foldedSetIterable g'.iter (compEnvC scope cl C env) x = pure x)
    (F : Fr h₀ L s.heap m) (N : News h₀ L s.heap (lit0 ++ [])) (hr : IsRange s.heap r a0 b0 1 t1 t2 t3) (hsmall : Builtin.Range.small a0 b0 1 = true) (hn2 : Builtin.Range.rangeSize a0 b0 1 = (n : Int)) (hP : P0 0 [])
    (turn : ∀ I C D (i : Nat) ut ys h tk oI oC mC E', i < n → P0 i ys → (∀ p ∈ lit0 ++ [], Apt p.1 I ∧ Apt p.1 C ∧ Apt p.1 D) → Apt I C → Apt I D → Apt C D → Fr h₀ L h m → News h₀ L h ((I, oI) :: (C, oC) :: (D, LCg.lst ys) :: (lit0 ++ [])) → LCg.NsObj oC mC →
      wpAny (model prog w) A (letOwnedTupleGo target (.ref I) (.int (a0 + (i : Int)) ut)) (fun _ s₁ => wpAny (model prog w) A (assign target (compEnvC scope cl C env) (.int (a0 + (i : Int)) ut)) (fun _ s₂ => CompTests prog w A ifs (compEnvC scope cl C env) (fun ok s₃ =>
            if ok = true then CompEmit prog w A elt (⟨target, iter, ifs, 0⟩ :: gs) scope pos 0 (.ref D) (compEnvC scope cl C env) (CE h₀ L I C D oI m (fun _ : Unit => lit0) (fun _ => True) (fun ys _ rest => rest = [] ∧ P0 (i + 1) ys) { s with heap := h, toks := tk }) (CN h₀ L I C D oI m (fun _ : Unit => lit0) (fun _ => True) (fun ys _ rest => rest = [] ∧ P0 (i + 1) ys) { s with heap := h, toks := tk }) E' s₃
            else CN h₀ L I C D oI m (fun _ : Unit => lit0) (fun _ => True) (fun ys _ rest => rest = [] ∧ P0 (i + 1) ys) { s with heap := h, toks := tk } s₃) E' s₂) E' s₁) E' { s with heap := h, toks := tk })
    (done : ∀ C D oC mC ys h tk f, P0 n ys → (∀ p ∈ lit0 ++ [], Apt p.1 C ∧ Apt p.1 D) → Apt C D → Fr h₀ L h m → News h₀ L h ((C, oC) :: (D, LCg.lst ys) :: (lit0 ++ [])) → LCg.NsObj oC mC → Post (.ref D) C (.ok f) { s with heap := h, toks := tk }) :
    wpAny (model prog w) A (pyIter (.ref r)) (CompGo prog w A env elt (⟨target, iter, ifs, 0⟩ :: gs) scope pos cl Post E) E s :=
  comp_range (α := Unit) (fun _ => lit0) (fun j ys _ rest => rest = [] ∧ P0 j ys) () [] hh hcell hkind hn F N hr hsmall hn2 ⟨rfl, hP⟩ (fun I C D i ut ys a rest h tk oI oC mC E' hi hp => by obtain ⟨rfl, hp⟩ := hp; exact turn I C D i ut ys h tk oI oC mC E' hi hp) (fun C D oC mC ys a rest h tk f hp => by obtain ⟨rfl, hp⟩ := hp; exact done C D oC mC ys h tk f hp)
theorem comp_list0 {elt target iter : Expr} {ifs : List Expr} {gs : List Comprehension} {scope : Scope} {cl : List (Str × Addr)} {pos : Pos} {L l : Addr} {ol : Obj} {items : Array Value} {m : Str → Option Value} {Post : Value → Addr → Result → Shared → Prop}
    (lit0 : Ledger) (P0 : Nat → List Value → Prop)
    (hh : A.handled = none) (hcell : ∀ y ∈ scope.names, y.2 ≠ .cell) (hkind : scope.kind = .function) (hn : ∀ C g', gs[0]? = some g' → g'.is_async = 0 ∧ ∀ x, foldedSetIterable g'.iter (compEnvC scope cl C env) x = pure x)
    (F : Fr h₀ L s.heap m) (N : News h₀ L s.heap (lit0 ++ [])) (hol : ol.cls = .type "list" ∧ ∃ n, ol.data = .seq items n) (hP : P0 0 [])
    (hside : ∀ h, (∀ b o, h₀.get? b = some o → h.get? b = some o) → News h₀ L h (lit0 ++ []) → h.get? l = some ol)
    (turn : ∀ I C D i v ys h tk oI oC mC E', items[i]? = some v → P0 i ys → (∀ p ∈ lit0 ++ [], Apt p.1 I ∧ Apt p.1 C ∧ Apt p.1 D) → Apt I C → Apt I D → Apt C D → Fr h₀ L h m → News h₀ L h ((I, oI) :: (C, oC) :: (D, LCg.lst ys) :: (lit0 ++ [])) → h.IsListIter I l (i + 1) → LCg.NsObj oC mC →
      wpAny (model prog w) A (letOwnedTupleGo target (.ref I) v) (fun _ s₁ => wpAny (model prog w) A (assign target (compEnvC scope cl C env) v) (fun _ s₂ => CompTests prog w A ifs (compEnvC scope cl C env) (fun ok s₃ =>
            if ok = true then CompEmit prog w A elt (⟨target, iter, ifs, 0⟩ :: gs) scope pos 0 (.ref D) (compEnvC scope cl C env) (CE h₀ L I C D oI m (fun _ : Unit => lit0) (fun _ => True) (fun ys _ rest => rest = [] ∧ P0 (i + 1) ys) { s with heap := h, toks := tk }) (CN h₀ L I C D oI m (fun _ : Unit => lit0) (fun _ => True) (fun ys _ rest => rest = [] ∧ P0 (i + 1) ys) { s with heap := h, toks := tk }) E' s₃
            else CN h₀ L I C D oI m (fun _ : Unit => lit0) (fun _ => True) (fun ys _ rest => rest = [] ∧ P0 (i + 1) ys) { s with heap := h, toks := tk } s₃) E' s₂) E' s₁) E' { s with heap := h, toks := tk })
    (done : ∀ C D oC mC ys h tk f, P0 items.size ys → (∀ p ∈ lit0 ++ [], Apt p.1 C ∧ Apt p.1 D) → Apt C D → Fr h₀ L h m → News h₀ L h ((C, oC) :: (D, LCg.lst ys) :: (lit0 ++ [])) → LCg.NsObj oC mC → Post (.ref D) C (.ok f) { s with heap := h, toks := tk }) :
    wpAny (model prog w) A (pyIter (.ref l)) (CompGo prog w A env elt (⟨target, iter, ifs, 0⟩ :: gs) scope pos cl Post E) E s :=
  comp_list (α := Unit) (fun _ => lit0) (fun j ys _ rest => rest = [] ∧ P0 j ys) () [] hh hcell hkind hn F N hol ⟨rfl, hP⟩ (fun i ys a rest h hp => by obtain ⟨rfl, hp⟩ := hp; exact hside h) (fun I C D i v ys a rest h tk oI oC mC E' hv hp => by obtain ⟨rfl, hp⟩ := hp; exact turn I C D i v ys h tk oI oC mC E' hv hp) (fun C D oC mC ys a rest h tk f hp => by obtain ⟨rfl, hp⟩ := hp; exact done C D oC mC ys h tk f hp)
theorem comp_listN0 {elt : Expr} {gens : List Comprehension} {d : Nat} {target iter : Expr} {ifs : List Expr} {scope : Scope} {pos : Pos} {L C D l : Addr} {oC₀ : Obj} {mC₀ : Str → Option Value} {ol : Obj} {items : Array Value} {m : Str → Option Value} {Next : Shared → Prop}
    (lit0 : Ledger) (Kn : (Str → Option Value) → Prop) (P0 : Nat → List Value → Prop) (ys₀ : List Value)
    (hg : gens[d]? = some ⟨target, iter, ifs, 0⟩) (hn : ∀ g', gens[d + 1]? = some g' → g'.is_async = 0 ∧ ∀ x, foldedSetIterable g'.iter env x = pure x) (hh : A.handled = none) (hCD : Apt C D)
    (F : Fr h₀ L s.heap m) (N : News h₀ L s.heap ((C, oC₀) :: (D, LCg.lst ys₀) :: (lit0 ++ []))) (hC₀ : LCg.NsObj oC₀ mC₀) (hK₀ : Kn mC₀) (hNI : ∀ p ∈ lit0 ++ [], Apt p.1 C ∧ Apt p.1 D) (hol : ol.cls = .type "list" ∧ ∃ n, ol.data = .seq items n) (hP : P0 0 ys₀)
    (hside : ∀ h, (∀ b o, h₀.get? b = some o → h.get? b = some o) → News h₀ L h (lit0 ++ []) → h.get? l = some ol)
    (turn : ∀ I i v ys h tk oI oC mC E', items[i]? = some v → P0 i ys → (∀ p ∈ lit0 ++ [], Apt p.1 I ∧ Apt p.1 C ∧ Apt p.1 D) → Apt I C → Apt I D → Fr h₀ L h m → News h₀ L h ((I, oI) :: (C, oC) :: (D, LCg.lst ys) :: (lit0 ++ [])) → h.IsListIter I l (i + 1) → LCg.NsObj oC mC → Kn mC →
      wpAny (model prog w) A (letOwnedTupleGo target (.ref I) v) (fun _ s₁ => wpAny (model prog w) A (assign target env v) (fun _ s₂ => CompTests prog w A ifs env (fun ok s₃ =>
            if ok = true then CompEmit prog w A elt gens scope pos d (.ref D) env (CE h₀ L I C D oI m (fun _ : Unit => lit0) Kn (fun ys _ rest => rest = [] ∧ P0 (i + 1) ys) { s with heap := h, toks := tk }) (CN h₀ L I C D oI m (fun _ : Unit => lit0) Kn (fun ys _ rest => rest = [] ∧ P0 (i + 1) ys) { s with heap := h, toks := tk }) E' s₃
            else CN h₀ L I C D oI m (fun _ : Unit => lit0) Kn (fun ys _ rest => rest = [] ∧ P0 (i + 1) ys) { s with heap := h, toks := tk } s₃) E' s₂) E' s₁) E' { s with heap := h, toks := tk })
    (done : ∀ ys h tk oC mC, P0 items.size ys → (∀ p ∈ lit0 ++ [], Apt p.1 C ∧ Apt p.1 D) → Fr h₀ L h m → News h₀ L h ((C, oC) :: (D, LCg.lst ys) :: (lit0 ++ [])) → LCg.NsObj oC mC → Kn mC → Next { s with heap := h, toks := tk }) :
    wpAny (model prog w) A (pyIter (.ref l)) (fun it s₂ => codeAny (model prog w) A (.compStart (.ListComp elt gens scope pos) d it (.ref D) env) (fun r s' => match r with | .ok _ => Next s' | .error _ => False) s₂) E s :=
  comp_listN (α := Unit) (fun _ => lit0) Kn (fun j ys _ rest => rest = [] ∧ P0 j ys) ys₀ () [] hg hn hh hCD F N hC₀ hK₀ hNI hol ⟨rfl, hP⟩ (fun i ys a rest h hp => by obtain ⟨rfl, hp⟩ := hp; exact hside h) (fun I i v ys a rest h tk oI oC mC E' hv hp => by obtain ⟨rfl, hp⟩ := hp; exact turn I i v ys h tk oI oC mC E' hv hp) (fun ys a rest h tk oC mC hp => by obtain ⟨rfl, hp⟩ := hp; exact done ys h tk oC mC hp)
theorem comp_rangeC0 {elt target iter : Expr} {ifs : List Expr} {gs : List Comprehension} {scope : Scope} {cl : List (Str × Addr)} {pos : Pos} {L r : Addr} {a0 b0 : Int} {t1 t2 t3 : Tok} {n : Nat} {m : Str → Option Value} {Post : Value → Addr → Result → Shared → Prop} {x : Str}
    (lit0 : Ledger) (P0 : Nat → List Value → Prop)
    (hh : A.handled = none) (hc1 : ∀ k acc, cellsFrom k scope.names acc = (x, k) :: acc) (hc2 : ∀ h, pushCells h scope.names = h.push cellN) (hn : ∀ C cx g', gs[0]? = some g' → g'.is_async = 0 ∧ ∀ y, foldedSetIterable g'.iter (compEnvC scope ((x, cx) :: cl) C env) y = pure y)
    (F : Fr h₀ L s.heap m) (N : News h₀ L s.heap (lit0 ++ [])) (hr : IsRange s.heap r a0 b0 1 t1 t2 t3) (hsmall : Builtin.Range.small a0 b0 1 = true) (hn2 : Builtin.Range.rangeSize a0 b0 1 = (n : Int)) (hP : P0 0 [])
    (turn : ∀ I C D cx (i : Nat) ut ys h tk oI oC ox vx mC E', i < n → P0 i ys → (∀ p ∈ (cx, ox) :: (lit0 ++ []), Apt p.1 I ∧ Apt p.1 C ∧ Apt p.1 D) → (∀ p ∈ lit0 ++ [], Apt p.1 cx) → Apt I C → Apt I D → Apt C D → Fr h₀ L h m → News h₀ L h ((I, oI) :: (C, oC) :: (D, LCg.lst ys) :: (cx, ox) :: (lit0 ++ [])) → LCg.NsObj oC mC → CellO ox vx →
      wpAny (model prog w) A (letOwnedTupleGo target (.ref I) (.int (a0 + (i : Int)) ut)) (fun _ s₁ => wpAny (model prog w) A (assign target (compEnvC scope ((x, cx) :: cl) C env) (.int (a0 + (i : Int)) ut)) (fun _ s₂ => CompTests prog w A ifs (compEnvC scope ((x, cx) :: cl) C env) (fun ok s₃ =>
            if ok = true then CompEmit prog w A elt (⟨target, iter, ifs, 0⟩ :: gs) scope pos 0 (.ref D) (compEnvC scope ((x, cx) :: cl) C env) (CE h₀ L I C D oI m (fun q : Obj × Unit => (cx, q.1) :: lit0) (fun _ => True) (fun ys q rest => (rest = [] ∧ P0 (i + 1) ys) ∧ (∃ v, CellO q.1 v) ∧ ∀ p ∈ lit0 ++ rest, Apt p.1 cx) { s with heap := h, toks := tk }) (CN h₀ L I C D oI m (fun q : Obj × Unit => (cx, q.1) :: lit0) (fun _ => True) (fun ys q rest => (rest = [] ∧ P0 (i + 1) ys) ∧ (∃ v, CellO q.1 v) ∧ ∀ p ∈ lit0 ++ rest, Apt p.1 cx) { s with heap := h, toks := tk }) E' s₃
            else CN h₀ L I C D oI m (fun q : Obj × Unit => (cx, q.1) :: lit0) (fun _ => True) (fun ys q rest => (rest = [] ∧ P0 (i + 1) ys) ∧ (∃ v, CellO q.1 v) ∧ ∀ p ∈ lit0 ++ rest, Apt p.1 cx) { s with heap := h, toks := tk } s₃) E' s₂) E' s₁) E' { s with heap := h, toks := tk })
    (done : ∀ C D cx oC ox mC ys h tk f, P0 n ys → (∀ p ∈ (cx, ox) :: (lit0 ++ []), Apt p.1 C ∧ Apt p.1 D) → Apt C D → Fr h₀ L h m → News h₀ L h ((C, oC) :: (D, LCg.lst ys) :: (cx, ox) :: (lit0 ++ [])) → LCg.NsObj oC mC → Post (.ref D) C (.ok f) { s with heap := h, toks := tk }) :
    wpAny (model prog w) A (pyIter (.ref r)) (CompGo prog w A env elt (⟨target, iter, ifs, 0⟩ :: gs) scope pos cl Post E) E s :=
  comp_rangeC (α := Unit) (fun _ => lit0) (fun j ys _ rest => rest = [] ∧ P0 j ys) () [] hh hc1 hc2 hn F N hr hsmall hn2 ⟨rfl, hP⟩ (fun I C D cx i ut ys a rest h tk oI oC ox vx mC E' hi hp => by obtain ⟨rfl, hp⟩ := hp; exact turn I C D cx i ut ys h tk oI oC ox vx mC E' hi hp) (fun C D cx oC ox mC ys a rest h tk f hp => by obtain ⟨rfl, hp⟩ := hp; exact done C D cx oC ox mC ys h tk f hp)
end

end
-- MAKE
section
open PySem PySem.Spec PySem.W PyProof.Rows PySem.Calls
section
variable {prog : Program} {w : World} {A : Around} {s : Shared} {base g : Heap} {outer : List Env} {K : Frag} {p : Program} {loose : List Str} {mean : ExcName → Option Value} {mg mb : Str → Option Value} {touched : Ledger} {Q E : Value → Shared → Prop}
  {name qual : Str} {params : Arguments} {body : List Stmt} {scope : Scope} {dV kV doc pm cdv ct oc : Value} {an od : Option Addr} {osl : Array (Option Value)} {f C : Addr} {pos : List Value} {kws : List (Str × Value)} {binds : List (Str × Value)}

/-- a class of one's own is called: its __init__ is entered, the new object in the ledger -/
theorem h_make (H : Hid g s.heap touched) (hz : g.objs.size = s.heap.objs.size) (X : K.In g) (T : Top p loose mean mg mb g) (hm : makesIn K C = true) (hi : findIn K (.ref C) "__init__" = some (some (.ref f))) (hf : typeIn K (.ref f) = some (.type "function"))
    (ho : K.lookup f = some ⟨oc, od, .func (fnOf name qual params body scope dV kV doc pm an cdv ct), osl⟩) (hcd : codeIn K cdv qual = true) (hroom : (A.under (.builtin "type.__call__" ⟨.ref C :: pos, kws⟩)).depth < recursionLimit)
    (hbind : ∀ x s', BindsTo s' (fnOf name qual params body scope dV kV doc pm an cdv ct) ⟨.ref x :: pos, kws⟩ ((Str.ofString "self", .ref x) :: binds)) (hself : scope.names.lookup (Str.ofString "self") = some .local) (hloc : ∀ y ∈ binds, scope.names.lookup y.1 = some .local)
    (h : ∀ L' h₁ x dx tk, Fr g L' h₁ (fun y => (((Str.ofString "self", .ref x) :: binds)).reverse.lookup y) → News g L' h₁ ((x, instObj C dx) :: (dx, dictOf [] 0) :: touched) → g.objs.size ≤ L' → (∀ p ∈ touched, p.1 < dx) → dx < x → x < L' →
      wpAny (model prog w) ((A.under (.builtin "type.__call__" ⟨.ref C :: pos, kws⟩)).deeper (envOf qual scope L' f cdv)) (execs body (envOf qual scope L' f cdv))
        (fun fl s' => HEnd (fun v s' => v = .none ∧ Q (.ref x) s') (match fl with | .ret v => v | _ => .none) s')
        (fun e s' => wpAny (model prog w) ((A.under (.builtin "type.__call__" ⟨.ref C :: pos, kws⟩)).deeper (envOf qual scope L' f cdv)) (leaving (envOf qual scope L' f cdv) e) (fun _ s'' => E e s'') (fun e' s'' => E e' s'') s')
        { s with heap := h₁, toks := tk })
    (hcell : ∀ x ∈ scope.names, x.2 ≠ .cell) (hco : scope.isCoroutine = false) (hgen : scope.isGenerator = false) (hk : scope.kind = .function) :
    wpAny (model prog w) A (call (.ref C) pos kws) Q E s := by
  first | ((first | refine el_0_5 (s) ?_ | refine el_1_4 (s) ?_ | refine el_2_3 (s) ?_ | refine el_3_2 (s) ?_ | refine el_4_1 (s) ?_); (try clear s); intro hh gg d t os) | obtain ⟨hh, gg, d, t, os⟩ := s
  have XX := X.keeps H.keep
  refine wpAny_call (make_core (makes_of XX hm) (looks_findIn XX hi) (fun self => bind_fn XX self hf) (.inl rfl) ?_)
  have up : ∀ b o, hh.get? b = some o → ((hh.push emptyDict).push (instObj C hh.objs.size)).get? b = some o := fun b o e => Heap.get?_push_of_some _ (Heap.get?_push_of_some _ e)
  have hg : ∀ b o, g.get? b = some o → ((hh.push emptyDict).push (instObj C hh.objs.size)).get? b = some o := fun b o e => up b o (H.keep b o e)
  have sz : ((hh.push emptyDict).push (instObj C hh.objs.size)).objs.size = hh.objs.size + 2 := by rw [Heap.size_push, Heap.size_push]
  have hz' : g.objs.size = hh.objs.size := hz
  have gnone : ∀ b, hh.objs.size ≤ b → g.get? b = none := fun b hb => Heap.get?_none_of_le (by rw [hz']; exact hb)
  refine codeAny_call_def (fd := fnOf name qual params body scope dV kV doc pm an cdv ct) (body := body) (binds := (Str.ofString "self", .ref (hh.objs.size + 1)) :: binds) hroom (hg _ _ (X _ _ ho)) rfl (T.nolimit.keeps hg) (codeRec_of (X.keeps hg) hcd) rfl (hbind _ _) hcell ?_ (fun h₁ hns hk₁ => ?_) hco hgen hk
  · intro y hy
    rcases List.mem_cons.mp hy with rfl | hy
    · exact hself
    · exact hloc y hy
  · have hx : ((hh.push emptyDict).push (instObj C hh.objs.size)).get? (hh.objs.size + 1) = some (instObj C hh.objs.size) := by heap_get
    have hdx : ((hh.push emptyDict).push (instObj C hh.objs.size)).get? hh.objs.size = some emptyDict := by heap_get
    have k := h ((hh.push emptyDict).push (instObj C hh.objs.size)).objs.size h₁ (hh.objs.size + 1) hh.objs.size (t + ((Str.ofString "self", Value.ref (hh.objs.size + 1)) :: binds).length) ⟨hns, fun b o e => hk₁ b o (hg b o e), by rw [sz, hz']; omega⟩ (fun p hp => ?_) (by rw [sz, hz']; omega) (fun p hp => Heap.lt_size (H.led p hp).1) (Nat.lt_succ_self _) (by rw [sz]; exact Nat.lt_succ_self _)
    · refine wpAny_mono k (fun fl s' z => ?_) fun _ _ x => x
      first | ((first | refine el_0_2 (z) ?_ | refine el_1_1 (z) ?_); (try clear z); intro hv z) | obtain ⟨hv, z⟩ := z
      exact ⟨hv, z⟩
    · rw [sz]
      rcases List.mem_cons.mp hp with rfl | hp
      · exact ⟨hk₁ _ _ hx, Nat.ne_of_lt (Nat.lt_succ_self _), gnone _ (Nat.le_succ _)⟩
      · rcases List.mem_cons.mp hp with rfl | hp
        · exact ⟨hk₁ _ _ hdx, Nat.ne_of_lt (Nat.lt_succ_of_lt (Nat.lt_succ_self _)), gnone _ (Nat.le_refl _)⟩
        · have y := H.led p hp
          exact ⟨hk₁ _ _ (up _ _ y.1), Nat.ne_of_lt (Nat.lt_succ_of_lt (Nat.lt_succ_of_lt (Heap.lt_size y.1))), y.2⟩
end

end
-- WIDTH
section
open PySem PySem.Spec PySem.W PyProof.Rows PySem.Calls PyProof.V
noncomputable def colStep (tab col : Int) (c : Nat) : Int := col + (if c = 32 then 1 else tab - col.fmod tab)
noncomputable def colsTo (tab : Int) (l : List Nat) : Int := l.foldl (colStep tab) 0
theorem cols_succ {tab : Int} {a : Array Nat} {i c : Nat} (h : a[i]? = some c) : colsTo tab (a.toList.take (i + 1)) = colStep tab (colsTo tab (a.toList.take i)) c := by
  have h' : a.toList[i]? = some c := by rw [Array.getElem?_toList]; exact h
  unfold colsTo
  rw [List.take_add_one, h', Option.toList_some, List.foldl_append]
  rfl
theorem sign_is {c : Nat} : (({ cps := #[c] } : Str) == Str.ofString " ") = decide (c = 32) := by
  have e : Str.ofString " " = { cps := #[32] } := by decide +kernel
  rw [e]
  by_cases h : c = 32
  · subst h; simp
  · rw [decide_eq_false h]
    simpa using h
theorem width_ok (w : World) (p : Program) (loose : List Str) (mean : ExcName → Option Value) (mg mb : Str → Option Value) (run : Str) (rt : Tok) (tab : Int) (tt : Tok) (h1 : 1 ≤ tab) (h2 : tab ≤ 6) :
    HSpec 4 w p loose mean mg mb 137 [.str run rt, .int tab tt] [] [] (fun tl upd r => ∃ t, r = .int (colsTo tab run.cps.toList) t ∧ tl = []) := by
  intro dp un gd cn cs L a ccd cl outer base g s Q E B H hz X T hk hdp hun hret
  w_on
  k_dflt refine' h_enter (binds := [(Str.ofString "run", .str run rt), (Str.ofString "tab", .int tab tt)]) ?k1 ?k2 ?k3 ?k4 ?k5 ?k6 ?k7 ?k8 ?k9 ?kB ?_ ?c2 ?c3 ?c4 ?c5
  ((case k1 => assumption); (case k2 => assumption); (case k3 => assumption); (case k4 => assumption); (case k5 => assumption); (case k6 => k_is); (case k7 => k_is); (case k8 => ktr_room); (case k9 => exact BindsTo.of_eq rfl); (case c2 => decide); (case kB => exact locs rfl); (case c3 => exact rfl); (case c4 => exact rfl); (case c5 => exact rfl); k_whole; intro L' h' F' N' z' l1; (try k_lt l1); (simp only [List.reverse_cons, List.reverse_nil, List.nil_append, List.cons_append, lookup_if, lookup_no] at F'); revert L' h' F' N' z' l1; intros; (try dsimp only); (try k_unmd); (try k_fold); (try (refine let_A ?_; intro _; refine let_env ?_; intro _)))
  (try k_unmd); (try k_fold); repeat' (first | ((fail_if_success (fail_if_success (with_reducible show wpAny _ _ (exec (Stmt.For _ _ _ _ _) _) _ _ _))); (with_unfolding_all refine For_go ?_)) | walk_at "S1")
  rename Fr _ _ _ _ => F1
  rename News _ _ _ _ => N1
  k_dflt refine' for_text (α := Unit × (Int × Tok)) [Str.ofString "sign"] (fun _ => []) (fun a y => if y = Str.ofString "column" then some (.int a.2.1 a.2.2) else if y = Str.ofString "tab" then some (.int tab tt) else if y = Str.ofString "run" then some (.str run rt) else none)
    (fun i a rest => rest = [] ∧ a.2.1 = colsTo tab (run.cps.toList.take i)) ((), (0, _)) [] ?pas rfl F1 (fun p hp => N1 p hp) (fun _ _ => rfl) ⟨rfl, rfl⟩ ?turn ?done
  case pas => passes_own
  case turn =>
    first | (intro I i c ut zq1 rest u h tk oI hc zq2 hI F2 N2; (try k_unmd); (try (first | (with_reducible refine fold_comp ?_; intro XL YL ZL) | (with_reducible refine fold_for ?_; intro QL EL) | (with_reducible refine fold_while ?_; intro QL RL EL) | k_fold)); (first | refine el_0_3 (zq1) ?_ | refine el_1_2 (zq1) ?_ | refine el_2_1 (zq1) ?_); (try clear zq1); intro _ _ ct; (first | refine el_0_2 (zq2) ?_ | refine el_1_1 (zq2) ?_); (try clear zq2); intro zq3 zq4; subst zq3; subst zq4) | rintro I i c ut ⟨_, _, ct⟩ rest u h tk oI hc ⟨rfl, rfl⟩ hI F2 N2
    simp only [List.cons_append, List.nil_append] at N2
    try dsimp only
    try k_fold
    (try k_unmd); (try k_fold); repeat' (walk_at "S1")
    · rename Fr _ _ _ _ => F3
      rename News _ _ _ _ => N3
      rename (_ == _) = true => hc1
      rw [sign_is, decide_eq_true_iff] at hc1
      refine let_m F3 ?_
      clear F3
      intro m3 F3
      refine LS.intro2 () (fun m => (intOf (m (Str.ofString "column")), tokOf (m (Str.ofString "column")))) [] F3 N3 (fun p hp => hp) ?hm ?hI ⟨rfl, ?col⟩
      case hm =>
        intro z hz
        refine chEq (ks := [Str.ofString "column", Str.ofString "tab", Str.ofString "run"]) (l1 := [.one _ _, .one _ _, .many _ _, .one _ _, .one _ _, .one _ _]) (l2 := [.one _ _, .one _ _, .one _ _]) (b1 := fun _ => none) (b2 := fun _ => none) [[Str.ofString "column"], [Str.ofString "sign"], [Str.ofString "sign"], [Str.ofString "column"], [Str.ofString "tab"], [Str.ofString "run"]] [[Str.ofString "column"], [Str.ofString "tab"], [Str.ofString "run"]] rfl rfl (by decide +kernel) (by decide +kernel) ?_ rfl hz
        rfl
      case hI => exact hI
      case col =>
        rw [cols_succ hc, colStep, if_pos hc1]
        rfl
    · rename Fr _ _ _ _ => F3
      rename News _ _ _ _ => N3
      rename (_ == _) = false => hc1
      rw [sign_is, decide_eq_false_iff_not] at hc1
      refine let_m F3 ?_
      clear F3
      intro m3 F3
      refine LS.intro2 () (fun m => (intOf (m (Str.ofString "column")), tokOf (m (Str.ofString "column")))) [] F3 N3 (fun p hp => hp) ?hm2 ?hI2 ⟨rfl, ?col2⟩
      case hm2 =>
        intro z hz
        refine chEq (ks := [Str.ofString "column", Str.ofString "tab", Str.ofString "run"]) (l1 := [.one _ _, .one _ _, .many _ _, .one _ _, .one _ _, .one _ _]) (l2 := [.one _ _, .one _ _, .one _ _]) (b1 := fun _ => none) (b2 := fun _ => none) [[Str.ofString "column"], [Str.ofString "sign"], [Str.ofString "sign"], [Str.ofString "column"], [Str.ofString "tab"], [Str.ofString "run"]] [[Str.ofString "column"], [Str.ofString "tab"], [Str.ofString "run"]] rfl rfl (by decide +kernel) (by decide +kernel) ?_ rfl hz
        rfl
      case hI2 => exact hI
      case col2 =>
        rw [cols_succ hc, colStep, if_neg hc1]
        rfl
  case done =>
    first | (intro zq5 rest u h tk zq6 F2 N2; (try k_unmd); (try (first | (with_reducible refine fold_comp ?_; intro XL YL ZL) | (with_reducible refine fold_for ?_; intro QL EL) | (with_reducible refine fold_while ?_; intro QL RL EL) | k_fold)); (first | refine el_0_3 (zq5) ?_ | refine el_1_2 (zq5) ?_ | refine el_2_1 (zq5) ?_); (try clear zq5); intro _ _ ct; (first | refine el_0_2 (zq6) ?_ | refine el_1_1 (zq6) ?_); (try clear zq6); intro zq7 zq8; subst zq7; subst zq8) | rintro ⟨_, _, ct⟩ rest u h tk ⟨rfl, rfl⟩ F2 N2
    try dsimp only
    try k_fold
    (try k_unmd); (try k_fold); repeat' (walk_at "S1")
    try dsimp only
    rename Fr _ _ _ _ => F3
    refine h_leave [] [] hret F3 N2 (fun p hp => nomatch hp) rfl (List.forall_mem_nil _) .nil ⟨ct, ?_, rfl⟩
    rw [List.take_of_length_le (by simp)]

end
-- WORDS
section
open PySem PySem.Spec PySem.W PyProof.Rows PySem.Calls PyProof.V
theorem word_on {N : Int} {i : Nat} : Builtin.bitAnd (N.fdiv (2 ^ (0 + (i : Int)).toNat)) 1 = N / 2 ^ i % 2 := by
  rw [Int.zero_add, Int.toNat_natCast, Int.fdiv_eq_ediv_of_nonneg _ (Int.le_of_lt (kbt_pos i))]
  have := above_and (N / 2 ^ i) 0
  rw [above_zero, Int.pow_zero, Int.ediv_one, Int.mul_one] at this
  exact this
theorem word_name {i : Nat} (h : i < 10) : [Str.ofString "OPTIMIZED", Str.ofString "NEWLOCALS", Str.ofString "VARARGS", Str.ofString "VARKEYWORDS", Str.ofString "NESTED", Str.ofString "GENERATOR", Str.ofString "NOFREE", Str.ofString "COROUTINE", Str.ofString "ITERABLE_COROUTINE", Str.ofString "ASYNC_GENERATOR"].getD (0 + (i : Int)).toNat Str.empty = flagAt (2 ^ i) := by
  rw [Int.zero_add, Int.toNat_natCast]
  have : ∀ i : Fin 10, [Str.ofString "OPTIMIZED", Str.ofString "NEWLOCALS", Str.ofString "VARARGS", Str.ofString "VARKEYWORDS", Str.ofString "NESTED", Str.ofString "GENERATOR", Str.ofString "NOFREE", Str.ofString "COROUTINE", Str.ofString "ITERABLE_COROUTINE", Str.ofString "ASYNC_GENERATOR"].getD i.val Str.empty = flagAt (2 ^ i.val) := by decide +kernel
  exact this ⟨i, h⟩
theorem word_hex {i : Nat} (h : 10 ≤ i) (h2 : i < 32) : flagAt (2 ^ i) = hexS (2 ^ i) := by
  have : ∀ i : Fin 32, 10 ≤ i.val → (KTD.datumAt (2 ^ i.val) flagTab).isNone = true := by decide +kernel
  have e := Option.isNone_iff_eq_none.mp (this ⟨i, h2⟩ h)
  unfold flagAt
  rw [e]; rfl
theorem words_all {N : Int} {ys vs : List Value} {t : Tok} (hs : StrsAre ys (namesTo N 32)) (hv : vs = ys ++ (List.replicate (if decide (0 < N.fdiv (2 ^ Int.toNat 32)) = true then (1 : Int) else 0).toNat [Value.str (baseText "0x" 16 (N.fdiv (2 ^ Int.toNat 32) * 2 ^ Int.toNat 32)) t]).flatten) : StrsAre vs (namesAll N) := by
  have hab : N.fdiv (2 ^ Int.toNat 32) * 2 ^ Int.toNat 32 = above N 32 := by
    rw [Int.fdiv_eq_ediv_of_nonneg _ (by decide)]; rfl
  have hd : N.fdiv (2 ^ Int.toNat 32) = N / 2 ^ 32 := by rw [Int.fdiv_eq_ediv_of_nonneg _ (by decide)]; rfl
  rw [hab, hd] at hv
  subst hv
  unfold namesAll
  by_cases h : 0 < N / 2 ^ 32
  · rw [if_pos (decide_eq_true h), if_pos h]
    exact strs_snoc hs
  · rw [if_neg (by simpa using h), if_neg h]
    simpa using hs
theorem namesAll_weight {N : Int} (h0 : 0 < N) (h1 : N < 2 ^ 40) : ((namesAll N).map (·.length)).sum + (namesAll N).length ≤ 640 := by
  have h2 := namesTo_weight N 32 (by decide)
  unfold namesAll
  split
  · have hab : 0 ≤ above N 32 ∧ above N 32 < 2 ^ 40 := by unfold above; omega
    have h3 := hexS_len hab.1 hab.2
    rw [List.map_append, List.sum_append, List.length_append]
    simp only [List.map_cons, List.map_nil, List.sum_cons, List.sum_nil, List.length_cons, List.length_nil]
    unfold hexS
    omega
  · rw [List.append_nil]; omega
theorem words_ok (w : World) (p : Program) (loose : List Str) (mean : ExcName → Option Value) (mg mb : Str → Option Value) (number : Int) (nt : Tok) (h0 : 0 < number) (h1 : number < 2 ^ 40) :
    HSpec 4 w p loose mean mg mb 130 [.int number nt] [] [] (fun tl upd r => ∃ t, r = .str (Txt.join (Str.ofString ", ") (namesAll number)) t ∧ tl = []) := by
  intro dp un gd cn cs L a ccd cl outer base g s Q E B H hz X T hk hdp hun hret
  w_on
  k_dflt refine' h_enterC (binds := [(Str.ofString "number", .int number nt)]) ?k1 ?k2 ?k3 ?k4 ?k5 ?k6 ?k7 ?k8 ?k9 ?kB ?kD ?_ ?c2 ?c3 ?c4
  ((case k1 => assumption); (case k2 => assumption); (case k3 => assumption); (case k4 => assumption); (case k5 => assumption); (case k6 => k_is); (case k7 => k_is); (case k8 => ktr_room); (case k9 => exact BindsTo.of_eq rfl); (case kB => exact rfl); (case kD => decide +kernel); (case c2 => exact rfl); (case c3 => exact rfl); (case c4 => exact rfl); k_whole; intro L' h' tk' cells' F' N' Y' z' l1; (try k_lt l1); revert L' h' tk' cells' F' N' Y' z' l1; intros; (rename CellsAre _ _ _ => Y'); k_cells Y'; (try (rename News _ _ _ _ => N'; simp only [List.cons_append, List.nil_append] at N'; revert N'; intro _)); (try dsimp only); (try k_unmd); (try k_fold))
  (try k_unmd); (try k_fold); repeat' (first | ((fail_if_success (fail_if_success k_gentoks)); (first | with_reducible refine flat2 ?_ | with_reducible refine flat1 ?_); intro _; (try dsimp only); (try k_unmd)) | ((fail_if_success (fail_if_success (with_reducible show wpAny _ _ (exec (Stmt.Assign [_] (Expr.ListComp _ _ _ _) _) _) _ _ _))); k_dflt (refine comp_assign (by with_unfolding_all rfl) (by with_unfolding_all rfl) (by rfl) (by decide) ?_)) | walk_at "S1")
  rename Fr _ _ _ _ => F1
  rename News _ _ _ _ => N1
  rename IsRange _ _ _ _ _ _ _ _ => hR
  first | ((first | refine el_0_3 (show ∃ nw, nw = _ ∧ News g _ _ nw from ⟨_, rfl, N1⟩) ?_ | refine el_1_2 (show ∃ nw, nw = _ ∧ News g _ _ nw from ⟨_, rfl, N1⟩) ?_ | refine el_2_1 (show ∃ nw, nw = _ ∧ News g _ _ nw from ⟨_, rfl, N1⟩) ?_); intro nw hnw N0) | obtain ⟨nw, hnw, N0⟩ : ∃ nw, nw = _ ∧ News g _ _ nw := ⟨_, rfl, N1⟩
  k_dflt refine' comp_range0 (n := 32) nw (fun i ys => ys.length ≤ i ∧ StrsAre ys (namesTo number i)) rfl (by decide) rfl (by intro _ _ h; cases h) F1 (fun p hp => N0 p (by simpa using hp)) hR (by decide +kernel) (by decide +kernel) ⟨Nat.le_refl _, StrsAre.nil⟩ ?turn ?done
  case turn =>
    first | (intro I C D i ut ys h tk oI oC mC E' hi zq1 hoff hIC hID hCD F2 N2 hC2; (try k_unmd); (try (first | (with_reducible refine fold_comp ?_; intro XL YL ZL) | (with_reducible refine fold_for ?_; intro QL EL) | (with_reducible refine fold_while ?_; intro QL RL EL) | k_fold)); (first | refine el_0_2 (zq1) ?_ | refine el_1_1 (zq1) ?_); (try clear zq1); intro hlen hss) | rintro I C D i ut ys h tk oI oC mC E' hi ⟨hlen, hss⟩ hoff hIC hID hCD F2 N2 hC2
    refine comp_name F2 N2 hC2 hIC (fun p hp => ?_) (by with_unfolding_all rfl) rfl ?_
    · rcases List.mem_cons.mp hp with rfl | hp
      · exact hCD.sw
      · exact (hoff p hp).2.1
    intro h4 tk4 oC4 F4 N4 hC4
    subst hnw
    simp only [List.append_nil] at N4
    clear N2 F2 hC2
    first | ((first | refine el_0_2 (show ∃ m, m = _ ∧ LCg.NsObj oC4 m from ⟨_, rfl, hC4⟩) ?_ | refine el_1_1 (show ∃ m, m = _ ∧ LCg.NsObj oC4 m from ⟨_, rfl, hC4⟩) ?_); intro mC4 hmC4) | obtain ⟨mC4, hmC4⟩ : ∃ m, m = _ ∧ LCg.NsObj oC4 m := ⟨_, rfl, hC4⟩
    clear hC4
    first | ((first | refine el_0_2 (hmC4) ?_ | refine el_1_1 (hmC4) ?_); (try clear hmC4); intro hmC hC4) | obtain ⟨hmC, hC4⟩ := hmC4
    have hx4 : mC4 (Str.ofString "place") = some (.int (0 + (i : Int)) ut) := by rw [hmC]; rfl
    clear hmC
    have hp : (1 : Int) * 2 ^ (0 + (i : Int)).toNat = 2 ^ i := by rw [Int.one_mul, Int.zero_add, Int.toNat_natCast]
    have hpow : (2 : Int) ^ i < 2 ^ 40 := by
      have := Nat.pow_lt_pow_right (a := 2) (by decide) (show i < 40 by omega)
      exact_mod_cast this
    have hhex : (baseText "0x" 16 (1 * 2 ^ (0 + (i : Int)).toNat)).length ≤ sizeLine := by
      rw [hp]; exact Nat.le_trans (hexS_len (Int.le_of_lt (kbt_pos i)) hpow) (by decide +kernel)
    have hln : ys.length ≤ sizeLine := by rw [sizeLine_eq]; omega
    (try k_unmd); (try k_fold); repeat' (first | ((fail_if_success (fail_if_success k_gentoks)); (first | with_reducible refine flat2 ?_ | with_reducible refine flat1 ?_); intro _; (try dsimp only); (try k_unmd)) | (first | refine CompTests.none ?_ | refine CompTests.one ?_) | (first | refine CompEmit.last rfl ?_ | refine CompEmit.more rfl ?_) | walk_at "S1")
    · rename Fr _ _ _ _ => F5
      rename News _ _ _ _ => N5
      rename Builtin.bitAnd _ _ ≠ 0 => hb
      rename 0 + (_ : Int) < 10 => hlt
      refine CE.intro ys () [] F5 N5 hC4 (fun p hp => by simpa using hp) trivial hoff hln ⟨rfl, ?len, ?str⟩
      case len => rw [List.length_append]; exact Nat.succ_le_succ hlen
      case str =>
        rw [word_name (by omega)]
        rw [word_on] at hb
        have hon : bitOn number i = true := by
          rcases Int.emod_two_eq (number / 2 ^ i) with e | e
          · exact absurd e hb
          · unfold bitOn; simp [e]
        rw [namesTo_succ, hon, if_pos rfl]
        exact strs_snoc hss
    · rename Fr _ _ _ _ => F5
      rename News _ _ _ _ => N5
      rename Builtin.bitAnd _ _ ≠ 0 => hb
      rename ¬ 0 + (_ : Int) < 10 => hlt
      refine CE.intro ys () [] F5 N5 hC4 (fun p hp => by simpa using hp) trivial hoff hln ⟨rfl, ?len2, ?str2⟩
      case len2 => rw [List.length_append]; exact Nat.succ_le_succ hlen
      case str2 =>
        rw [word_on] at hb
        have hon : bitOn number i = true := by
          rcases Int.emod_two_eq (number / 2 ^ i) with e | e
          · exact absurd e hb
          · unfold bitOn; simp [e]
        rw [hp, namesTo_succ, hon, if_pos rfl, word_hex (by omega) hi]
        exact strs_snoc hss
    · rename Fr _ _ _ _ => F5
      rename News _ _ _ _ => N5
      rename Builtin.bitAnd _ _ = 0 => hb
      refine CN.intro ys () [] F5 N5 hC4 (fun p hp => by simpa using hp) trivial hoff ⟨rfl, Nat.le_succ_of_le hlen, ?str3⟩
      rw [word_on] at hb
      have hoff : bitOn number i = false := by unfold bitOn; simp [hb]
      rw [namesTo_succ, hoff]
      simpa using hss
  case done => 
    intro C D oC mC ys h tk f hP hI hCD F2 N2 hC2
    refine' post_assign ?pa1 ?pa2 ?pa3 ?pa4 ?pa5 ?pa6 ?pa7 ?_
    case pa3 => exact F2
    case pa4 => exact N2
    case pa5 => exact hC2
    case pa6 => exact hCD
    case pa7 => exact fun p hp => (hI p hp).1
    case pa1 => rfl
    case pa2 => rfl
    intro h' tk' F3 N3
    subst hnw
    first | ((first | refine el_0_2 (hP) ?_ | refine el_1_1 (hP) ?_); (try clear hP); intro hlen hss) | obtain ⟨hlen, hss⟩ := hP
    simp only [List.append_nil] at N3
    have hab : number.fdiv (2 ^ Int.toNat 32) * 2 ^ Int.toNat 32 = above number 32 := by
      rw [Int.fdiv_eq_ediv_of_nonneg _ (by decide)]; rfl
    have hhex : (baseText "0x" 16 (number.fdiv (2 ^ Int.toNat 32) * 2 ^ Int.toNat 32)).length ≤ sizeLine := by
      rw [hab]
      have h2 : 0 ≤ above number 32 ∧ above number 32 < 2 ^ 40 := by unfold above; omega
      exact Nat.le_trans (hexS_len h2.1 h2.2) (by decide +kernel)
    try k_fold
    (try k_unmd); (try k_fold); repeat' (first | ((fail_if_success (fail_if_success k_gentoks)); (first | with_reducible refine flat2 ?_ | with_reducible refine flat1 ?_); intro _; (try dsimp only); (try k_unmd)) | ((fail_if_success (fail_if_success (with_reducible show wpAny _ _ (call (Value.builtin "hex") _ _) _ _ _))); dsimp only [List.nil_append, List.cons_append]; k_dflt (refine' P.hex_of_int ?_ ?y9z; (case y9z => with_reducible assumption))) | ((fail_if_success (fail_if_success (with_reducible show wpAny _ _ (binaryOp Operator.Mult (Value.ref _) _) _ _ _))); k_dflt (refine' KMa.mul ?y9F ?y9N ?y9l ?y9lo ?y9hi ?y9z rfl ?_; (case y9F => k_asm); (case y9N => k_asm); (case y9l => is_list); (case y9lo => split <;> omega); (case y9hi => split <;> omega); (case y9z => (simp only [List.length_cons, List.length_nil]; split <;> decide)); k_whole); intro D' h' F' N' l1; (try k_lt l1); revert D' h' F' N' l1; intros; (try k_sweep)) | ((fail_if_success (fail_if_success (with_reducible show wpAny _ _ (binaryOp Operator.Add (Value.ref _) _) _ _ _))); k_dflt (refine' kmk_add_lit ?y9F ?y9N ?y9a ?y9b rfl ?_ ?y9z; (case y9F => k_asm); (case y9N => k_asm); (case y9a => kmk_list); (case y9b => kmk_list); (case y9z => ((simp only [List.length_replicate, List.length_flatten, List.map_replicate, List.sum_replicate_nat, List.length_cons, List.length_nil, sizeLine_eq]); split <;> omega)); k_whole); intro D' h' F' N' l1; (try k_lt l1); revert D' h' F' N' l1; intros; (try k_sweep)) | walk_at "S1")
    try dsimp only [List.nil_append, List.cons_append]
    rename Fr _ _ _ _ => F6
    rename News _ _ _ _ => N6
    refine join_listW (ys := namesAll number) ⟨_, N6.get (.head _), rfl, _, rfl⟩ ?js (by decide +kernel) ?jw ?_
    case js => exact words_all hss rfl
    case jw =>
      have := namesAll_weight h0 h1
      omega
    intro t9 k9
    try k_fold
    (try k_unmd); (try k_fold); repeat' (first | ((fail_if_success (fail_if_success k_gentoks)); (first | with_reducible refine flat2 ?_ | with_reducible refine flat1 ?_); intro _; (try dsimp only); (try k_unmd)) | walk_at "S1")
    try dsimp only
    rename Fr _ _ _ _ => F7
    exact h_leave [] [] hret F7 N6 (fun p hp => nomatch hp) rfl (List.forall_mem_nil _) .nil ⟨t9, rfl, rfl⟩

end
-- INIT
section
open PySem PySem.Spec PySem.W PyProof.Rows PySem.Calls PyProof.V
section
variable {prog : Program} {w : World} {A : Around} {E : Value → Shared → Prop} {s : Shared} {h₀ : Heap} {L l : Addr} {m : Str → Option Value} {news : Ledger} {x : Int} {t0 u : Tok} {n : Nat} {Q : Value → Shared → Prop}
theorem ints_zeros (t : Tok) : ∀ k : Nat, IntsAre (List.replicate k [Value.int 0 t]).flatten (List.replicate k 0)
  | 0 => .nil
  | k + 1 => .cons 0 t (ints_zeros t k)
theorem mul_zero_K (F : Fr h₀ L s.heap m) (N : News h₀ L s.heap news) (hl : (l, listOf #[Value.int 0 t0] n) ∈ news) (h0 : 0 ≤ x) (h1 : x ≤ 250)
    (h : ∀ D ws h', Fr h₀ L h' m → News h₀ L h' ((D, listOf (List.toArray ws) 0) :: news) → (∀ p ∈ news, p.1 < D) → IntsAre ws (List.replicate x.toNat 0) → Q (.ref D) { s with heap := h' }) :
    wpAny (model prog w) A (binaryOp .Mult (.ref l) (.int x u)) Q E s :=
  KMa.mul (vs := [Value.int 0 t0]) F N ⟨_, (N _ hl).1, rfl, _, rfl⟩ (by omega) (by omega) (by simp only [List.length_cons, List.length_nil]; omega) rfl fun D h' F' N' lt => h D _ h' F' N' lt (ints_zeros t0 x.toNat)
end
noncomputable def grown (cs : List Int) (b : Nat) : List Int := if cs.length ≤ b then cs ++ List.replicate (b - cs.length + 1) 0 else cs
noncomputable def bump (cs : List Int) (b : Nat) : List Int := (grown cs b).set b ((grown cs b).getD b 0 + 1)
structure WS where
  cs : List Int
  b : Nat
  n : Nat
  nt : Nat
noncomputable def wsStep (a : WS) (c : Nat) : WS := if c = 32 then ⟨a.cs, a.b + 1, a.n + 1, a.nt⟩ else ⟨bump a.cs a.b, 0, a.n + 1, a.nt + 1⟩
noncomputable def wsOf (l : List Nat) : WS := l.foldl wsStep ⟨[], 0, 0, 0⟩
theorem wsOf_succ {lead : List Nat} {i c : Nat} (h : lead[i]? = some c) : wsOf (lead.take (i + 1)) = wsStep (wsOf (lead.take i)) c := by
  unfold wsOf
  rw [List.take_add_one, h, Option.toList_some, List.foldl_append]
  rfl
theorem ws_le : ∀ (l : List Nat) (a : WS), (l.foldl wsStep a).b ≤ a.b + l.length ∧ (l.foldl wsStep a).cs.length ≤ max a.cs.length (a.b + l.length)
  | [], a => ⟨Nat.le_refl _, Nat.le_max_left _ _⟩
  | c :: l, a => by
    have ih := ws_le l (wsStep a c)
    rw [List.foldl_cons]
    have h1 : (wsStep a c).b ≤ a.b + 1 := by unfold wsStep; split <;> simp
    have h2 : (wsStep a c).cs.length ≤ max a.cs.length (a.b + 1) := by
      unfold wsStep
      split
      · exact Nat.le_max_left _ _
      · show (bump a.cs a.b).length ≤ _
        unfold bump grown
        split
        · simp only [List.length_set, List.length_append, List.length_replicate]; omega
        · simp only [List.length_set]; omega
    rw [List.length_cons]
    have e : (wsStep a c).b + l.length ≤ a.b + (l.length + 1) := by
      rw [Nat.add_comm l.length 1, ← Nat.add_assoc]
      exact Nat.add_le_add_right h1 _
    exact ⟨Nat.le_trans ih.1 e, Nat.le_trans ih.2 (Nat.max_le.mpr ⟨Nat.le_trans h2 (Nat.max_le.mpr ⟨Nat.le_max_left _ _, Nat.le_trans (Nat.add_le_add_left (Nat.le_add_left 1 l.length) a.b) (Nat.le_max_right _ _)⟩), Nat.le_trans e (Nat.le_max_right _ _)⟩)⟩
theorem wsOf_le (l : List Nat) : (wsOf l).b ≤ l.length ∧ (wsOf l).cs.length ≤ l.length := by
  have h := ws_le l ⟨[], 0, 0, 0⟩
  simp only [List.length_nil] at h
  exact ⟨by unfold wsOf; omega, by unfold wsOf; omega⟩
abbrev WsSt := (Addr × List Value × Nat) × ((Int × Tok) × (Int × Tok) × (Int × Tok))
theorem lead_at {lead : List Nat} {i c : Nat} (h : (⟨(lead ++ [120]).toArray⟩ : Str).cps[i]? = some c) (hc : c = 32 ∨ c = 9) : lead[i]? = some c := by
  have h' : (lead ++ [120])[i]? = some c := by simpa using h
  by_cases hi : i < lead.length
  · rwa [List.getElem?_append_left hi] at h'
  · rw [List.getElem?_append_right (by omega)] at h'
    have : c = 120 := by
      rcases hj : i - lead.length with _ | j
      · rw [hj] at h'; simpa using h'.symm
      · rw [hj] at h'; simp at h'
    omega
theorem lead_end {lead : List Nat} {i c : Nat} (hl : ∀ c ∈ lead, c = 32 ∨ c = 9) (h : (⟨(lead ++ [120]).toArray⟩ : Str).cps[i]? = some c) (h1 : c ≠ 32) (h2 : c ≠ 9) (hi : i ≤ lead.length) : lead.take i = lead := by
  have h' : (lead ++ [120])[i]? = some c := by simpa using h
  by_cases hlt : i < lead.length
  · rw [List.getElem?_append_left hlt] at h'
    rcases hl c (List.mem_of_getElem? h') with h | h <;> omega
  · exact List.take_of_length_le (by omega)
theorem tab_is {c : Nat} : (({ cps := #[c] } : Str) == Str.ofString "\t") = decide (c = 9) := by
  have e : Str.ofString "\t" = { cps := #[9] } := by decide +kernel
  rw [e]
  by_cases h : c = 9
  · subst h; simp
  · rw [decide_eq_false h]
    simpa using h
noncomputable def wsDict (w : World) (raw : Value) (n : Int) (tn : Tok) (nt : Int) (tnt : Tok) (T1 : Addr) (smp : Value) (t1 t2 t3 t4 t5 : Tok) : Obj :=
  dictOf [⟨PyData.keyHash w.params (Str.ofString "raw"), .str (Str.ofString "raw") t1, raw⟩, ⟨PyData.keyHash w.params (Str.ofString "n"), .str (Str.ofString "n") t2, .int n tn⟩, ⟨PyData.keyHash w.params (Str.ofString "nt"), .str (Str.ofString "nt") t3, .int nt tnt⟩,
    ⟨PyData.keyHash w.params (Str.ofString "norm"), .str (Str.ofString "norm") t4, .ref T1⟩, ⟨PyData.keyHash w.params (Str.ofString "is_simple"), .str (Str.ofString "is_simple") t5, smp⟩] 5
theorem news_ne {h₀ h : Heap} {L a b : Addr} {news : Ledger} {o o' : Obj} (N : News h₀ L h news) (h1 : (a, o) ∈ news) (h2 : (b, o') ∈ news) (hne : o.cls ≠ o'.cls) : @Ne Nat a b := fun e => by
  have x := (N _ h1).1
  have y := (N _ h2).1
  have e' : a = b := e
  subst e'
  exact hne (congrArg Obj.cls (Option.some.inj (x.symm.trans y)))
theorem ints_of {v : List Value} {a b : List Int} (e : a = b) (h : IntsAre v b) : IntsAre v a := e ▸ h
theorem init_ok (w : World) (p : Program) (loose : List Str) (mean : ExcName → Option Value) (mg mb : Str → Option Value) (lead : List Nat) (tt : Tok) (hl : ∀ c ∈ lead, c = 32 ∨ c = 9) (hn : lead.length ≤ 200) :
    HSpec 6 w p loose mean mg mb 83 [.str ⟨(lead ++ [120]).toArray⟩ tt] [] [] (fun tl upd r => ∃ x dx T1 T0 vs tb n tn tnt smp t1 t2 t3 t4 t5, r = .ref x ∧ tl = [(T1, { cls := .type "tuple", data := .seq #[.ref T0, .int (wsOf lead).b tb] }), (T0, { cls := .type "tuple", data := .seq (List.toArray vs) }), (x, instObj 83 dx), (dx, wsDict w (.str ⟨(lead ++ [120]).toArray⟩ tt) n tn (wsOf lead).nt tnt T1 smp t1 t2 t3 t4 t5)] ∧ IntsAre vs (wsOf lead).cs) := by
  intro dp un gd cn cs L a ccd cl outer base g s Q E B H hz X T hk hdp hun hret
  w_on
  k_dflt refine' h_make (f := 38) (binds := [(Str.ofString "ws", .str ⟨(lead ++ [120]).toArray⟩ tt)]) ?k1 ?k2 ?k3 ?k4 ?k5 ?k6 ?k7 ?k8 ?k9 ?kA ?kB ?kC ?kD ?_ ?c1 ?c2 ?c3 ?c4
  (case k1 => assumption)
  (case k2 => assumption)
  (case k3 => assumption)
  (case k4 => assumption)
  (case k5 => k_is)
  (case k6 => k_is)
  (case k7 => k_is)
  (case k8 => k_is)
  (case k9 => k_is)
  (case kA => ktr_room)
  (case kB => exact fun x s' => BindsTo.of_eq rfl)
  (case kC => decide)
  (case kD => exact locs rfl)
  (case c1 => decide)
  (case c2 => exact rfl)
  (case c3 => exact rfl)
  (case c4 => exact rfl)
  k_whole
  intro L' h' x dx tk' F' N' z' l0 l1 l2
  have n1 : @Ne Nat dx x := Nat.ne_of_lt l1
  have n2 : @Ne Nat x dx := Nat.ne_of_gt l1
  (try k_lt l0)
  (simp only [List.reverse_cons, List.reverse_nil, List.nil_append, List.cons_append, lookup_if, lookup_no] at F')
  refine let_A ?_
  intro A9
  refine let_env ?_
  intro e9
  (try k_unmd); (try k_fold); repeat' (first | ((fail_if_success (fail_if_success k_gentoks)); (first | with_reducible refine flat2 ?_ | with_reducible refine flat1 ?_); intro _; (try dsimp only); (try k_unmd)) | ((fail_if_success (fail_if_success (with_reducible show wpAny _ _ (exec (Stmt.For _ _ _ _ _) _) _ _ _))); (with_unfolding_all refine For_go ?_)) | walk_at "S1")
  rename Fr _ _ _ _ => F1
  rename News _ _ _ _ => N1
  rename_i Dt _ _ _ _ _ _ _ _ cA _ _ _ _ _ _ _ _ _ _ _ _
  first | ((first | refine el_0_3 (show ∃ nw, nw = _ ∧ News g _ _ (_ :: nw) from ⟨_, rfl, N1⟩) ?_ | refine el_1_2 (show ∃ nw, nw = _ ∧ News g _ _ (_ :: nw) from ⟨_, rfl, N1⟩) ?_ | refine el_2_1 (show ∃ nw, nw = _ ∧ News g _ _ (_ :: nw) from ⟨_, rfl, N1⟩) ?_); intro nw hnw N2) | obtain ⟨nw, hnw, N2⟩ : ∃ nw, nw = _ ∧ News g _ _ (_ :: nw) := ⟨_, rfl, N1⟩
  k_dflt refine' for_text (α := WsSt) [Str.ofString "ch"] (fun a => [(a.1.1, listOf a.1.2.1.toArray a.1.2.2)])
    (fun a y => if y = Str.ofString "nt" then some (.int a.2.2.2.1 a.2.2.2.2) else if y = Str.ofString "n" then some (.int a.2.2.1.1 a.2.2.1.2) else if y = Str.ofString "b" then some (.int a.2.1.1 a.2.1.2) else if y = Str.ofString "count" then some (.ref a.1.1)
      else if y = Str.ofString "S" then some (Value.str (Str.ofString " ") 209) else if y = Str.ofString "T" then some (Value.str (Str.ofString "\t") 210) else if y = Str.ofString "ws" then some (.str ⟨(lead ++ [120]).toArray⟩ tt) else if y = Str.ofString "self" then some (.ref x) else none)
    (fun i a rest => rest = nw ∧ (@LT.lt Nat _ Dt a.1.1 ∧ @LT.lt Nat _ x a.1.1 ∧ @LT.lt Nat _ dx a.1.1) ∧ i ≤ lead.length ∧ IntsAre a.1.2.1 (wsOf (lead.take i)).cs ∧ a.2.1.1 = (wsOf (lead.take i)).b ∧ a.2.2.1.1 = (wsOf (lead.take i)).n ∧ a.2.2.2.1 = (wsOf (lead.take i)).nt) ((cA, [], 0), ((0, _), (0, _), (0, _))) nw ?pas rfl F1 (fun p hp => N2 p hp) (fun _ _ => rfl) ⟨rfl, ?xlt, Nat.zero_le _, IntsAre.nil, rfl, rfl, rfl⟩ ?turn ?done
  case pas => passes_own
  case xlt =>
    rename Dt < cA ∧ _ => hl5
    exact hl5
  case turn =>
    first | (intro I i c ut zq1 rest u h tk oI hc zq2 hI F2 N2; (try k_unmd); (try (first | (with_reducible refine fold_comp ?_; intro XL YL ZL) | (with_reducible refine fold_for ?_; intro QL EL) | (with_reducible refine fold_while ?_; intro QL RL EL) | k_fold)); (first | refine el_0_4 (zq1) ?_ | refine el_1_3 (zq1) ?_ | refine el_2_2 (zq1) ?_ | refine el_3_1 (zq1) ?_); (try clear zq1); intro zq3 zq4 zq5 zq6; (first | refine el_0_3 (zq3) ?_ | refine el_1_2 (zq3) ?_ | refine el_2_1 (zq3) ?_); (try clear zq3); intro cA vs k; (first | refine el_0_2 (zq4) ?_ | refine el_1_1 (zq4) ?_); (try clear zq4); intro b tb; (first | refine el_0_2 (zq5) ?_ | refine el_1_1 (zq5) ?_); (try clear zq5); intro n tn; (first | refine el_0_2 (zq6) ?_ | refine el_1_1 (zq6) ?_); (try clear zq6); intro nt tnt; (first | refine el_0_7 (zq2) ?_ | refine el_1_6 (zq2) ?_ | refine el_2_5 (zq2) ?_ | refine el_3_4 (zq2) ?_ | refine el_4_3 (zq2) ?_ | refine el_5_2 (zq2) ?_ | refine el_6_1 (zq2) ?_); (try clear zq2); intro zq7 hx hil hi zq8 zq9 zq10; subst zq7; subst zq8; subst zq9; subst zq10) | rintro I i c ut ⟨⟨cA, vs, k⟩, ⟨b, tb⟩, ⟨n, tn⟩, ⟨nt, tnt⟩⟩ rest u h tk oI hc ⟨rfl, hx, hil, hi, rfl, rfl, rfl⟩ hI F2 N2
    subst hnw
    try dsimp only at hx hi F2 N2 hI
    have hle := wsOf_le (lead.take i)
    have hln : (lead.take i).length ≤ 200 := by rw [List.length_take]; omega
    have hcl : (wsOf (lead.take i)).cs.length ≤ 200 := by omega
    have hbl : (wsOf (lead.take i)).b ≤ 200 := by omega
    first | ((first | refine el_0_2 (show ∃ W, W = wsOf (lead.take i) from ⟨_, rfl⟩) ?_ | refine el_1_1 (show ∃ W, W = wsOf (lead.take i) from ⟨_, rfl⟩) ?_); intro W hW) | obtain ⟨W, hW⟩ : ∃ W, W = wsOf (lead.take i) := ⟨_, rfl⟩
    rw [← hW] at hi F2 hcl hbl
    simp only [List.cons_append, List.nil_append] at N2
    have hIc : @Ne Nat I cA := (hI (cA, listOf vs.toArray k) (.head _)).ne'
    have hIx : @Ne Nat I x := (hI (x, instObj 83 dx) (.tail _ (.tail _ (.head _)))).ne'
    have hIdx : @Ne Nat I dx := (hI _ (.tail _ (.tail _ (.tail _ (.head _))))).ne'
    try dsimp only
    try k_fold
    (try k_unmd); (try k_fold); repeat' (first | ((fail_if_success (fail_if_success k_gentoks)); (first | with_reducible refine flat2 ?_ | with_reducible refine flat1 ?_); intro _; (try dsimp only); (try k_unmd)) | ((fail_if_success (fail_if_success (with_reducible show wpAny _ _ (binaryOp Operator.Mult (Value.ref _) _) _ _ _))); k_dflt (refine' mul_zero_K ?y9F ?y9N ?y9l ?y9lo ?y9hi ?_; (case y9F => k_asm); (case y9N => k_asm); (case y9l => k_mem); (case y9lo => omega); (case y9hi => omega); k_whole); intro D' ws' h' F' N' l1 i1; (try k_lt l1); revert D' ws' h' F' N' l1 i1; intros; (try k_sweep)) | ((fail_if_success (fail_if_success (with_reducible show wpAny _ _ (setItem (Value.ref _) (Value.int _ _) _) _ _ _))); k_dflt (refine' ksa_set ?y9k1 ?y9k2 ?y9k3 ?y9k4 ?y9k5 ?y9k6 ?y9k7 ?_; (case y9k1 => k_asm); (case y9k2 => k_asm); (case y9k3 => k_upd); (case y9k4 => with_reducible assumption); (case y9k5 => omega); (case y9k6 => first | omega | (simp only [List.length_append, List.length_replicate]; omega)); (case y9k7 => omega); k_whole); intro _ _ _ _ _ _; (try k_sweep)) | walk_at "S1")
    · rename Fr _ _ _ _ => F3
      refine let_m F3 ?_
      clear F3
      intro m3 F3
      rename News _ _ _ _ => N3
      rename (_ == _) = true => hc1
      rw [sign_is, decide_eq_true_iff] at hc1
      have hat := lead_at hc (.inl hc1)
      have hst : wsOf (lead.take (i + 1)) = ⟨W.cs, W.b + 1, W.n + 1, W.nt⟩ := by rw [wsOf_succ hat, ← hW, wsStep, if_pos hc1]
      refine LS.intro2 (cA, vs, k) (fun m => ((intOf (m (Str.ofString "b")), tokOf (m (Str.ofString "b"))), (intOf (m (Str.ofString "n")), tokOf (m (Str.ofString "n"))), (intOf (m (Str.ofString "nt")), tokOf (m (Str.ofString "nt"))))) _ F3 N3 (fun p hp => hp) ?hm ?hI ⟨rfl, hx, ?hi, ?hcs, ?hb, ?hn, ?hnt⟩
      case hm =>
        intro z hz
        exact chEq (ks := [Str.ofString "nt", Str.ofString "n", Str.ofString "b", Str.ofString "count", Str.ofString "S", Str.ofString "T", Str.ofString "ws", Str.ofString "self"]) (l1 := [.one _ _, .one _ _, .one _ _, .many _ _, .one _ _, .one _ _, .one _ _, .one _ _, .one _ _, .one _ _, .one _ _, .one _ _]) (l2 := [.one _ _, .one _ _, .one _ _, .one _ _, .one _ _, .one _ _, .one _ _, .one _ _]) (b1 := fun _ => none) (b2 := fun _ => none) [[Str.ofString "b"], [Str.ofString "n"], [Str.ofString "ch"], [Str.ofString "ch"], [Str.ofString "nt"], [Str.ofString "n"], [Str.ofString "b"], [Str.ofString "count"], [Str.ofString "S"], [Str.ofString "T"], [Str.ofString "ws"], [Str.ofString "self"]] [[Str.ofString "nt"], [Str.ofString "n"], [Str.ofString "b"], [Str.ofString "count"], [Str.ofString "S"], [Str.ofString "T"], [Str.ofString "ws"], [Str.ofString "self"]] rfl rfl (by decide +kernel) (by decide +kernel) rfl rfl hz
      case hI => exact hI
      case hi => exact (List.getElem?_eq_some_iff.mp hat).1
      case hcs => rw [hst]; exact hi
      case hb => rw [hst]; rfl
      case hn => rw [hst]; rfl
      case hnt => rw [hst]; rfl
    · rename Fr _ _ _ _ => F3
      refine let_m F3 ?_
      clear F3
      intro m3 F3
      rename News _ _ _ _ => N3
      rename (_ == _) = true => hc1
      rename (_ == _) = false => hc0
      rename (_ : Int) ≤ _ => hlb
      rename IntsAre (List.set _ _ _) _ => hi9
      rw [sign_is, decide_eq_false_iff_not] at hc0
      rw [tab_is, decide_eq_true_iff] at hc1
      have hat := lead_at hc (.inr hc1)
      have hst : wsOf (lead.take (i + 1)) = ⟨bump W.cs W.b, 0, W.n + 1, W.nt + 1⟩ := by rw [wsOf_succ hat, ← hW, wsStep, if_neg hc0]
      rename_i D9 ws9 _ hI9 l9 _ _ _ _ _ _ hl9 hs9 _ _ _
      refine LS.intro2 (D9, ?v9, 0) (fun m => ((intOf (m (Str.ofString "b")), tokOf (m (Str.ofString "b"))), (intOf (m (Str.ofString "n")), tokOf (m (Str.ofString "n"))), (intOf (m (Str.ofString "nt")), tokOf (m (Str.ofString "nt"))))) _ F3 N3 ?hsub ?hm2 ?hI2 ⟨rfl, ?hx2, ?hi2, ?hcs2, ?hb2, ?hn2, ?hnt2⟩
      case hcs2 =>
        rw [hst]
        have e1 : ((W.b : Int)).toNat = W.b := Int.toNat_natCast _
        have hle2 : W.cs.length ≤ W.b := by omega
        have e2 : ((W.b : Int) - (W.cs.length : Int) + 1).toNat = W.b - W.cs.length + 1 := by omega
        have e3 : bump W.cs W.b = (W.cs ++ List.replicate ((W.b : Int) - (W.cs.length : Int) + 1).toNat 0).set ((W.b : Int)).toNat ((W.cs ++ List.replicate ((W.b : Int) - (W.cs.length : Int) + 1).toNat 0).getD ((W.b : Int)).toNat 0 + 1) := by
          rw [e1, e2]; unfold bump grown; rw [if_pos hle2]
        show IntsAre _ (bump W.cs W.b)
        have q9 := ints_of e3 hi9
        exact q9
      case hsub => intro p hp; revert p; k_allIn
      case hm2 =>
        intro z hz
        exact chEq (ks := [Str.ofString "nt", Str.ofString "n", Str.ofString "b", Str.ofString "count", Str.ofString "S", Str.ofString "T", Str.ofString "ws", Str.ofString "self"]) (l1 := [.one _ _, .one _ _, .one _ _, .one _ _, .one _ _, .many _ _, .one _ _, .one _ _, .one _ _, .one _ _, .one _ _, .one _ _, .one _ _, .one _ _]) (l2 := [.one _ _, .one _ _, .one _ _, .one _ _, .one _ _, .one _ _, .one _ _, .one _ _]) (b1 := fun _ => none) (b2 := fun _ => none) [[Str.ofString "b"], [Str.ofString "count"], [Str.ofString "nt"], [Str.ofString "n"], [Str.ofString "ch"], [Str.ofString "ch"], [Str.ofString "nt"], [Str.ofString "n"], [Str.ofString "b"], [Str.ofString "count"], [Str.ofString "S"], [Str.ofString "T"], [Str.ofString "ws"], [Str.ofString "self"]] [[Str.ofString "nt"], [Str.ofString "n"], [Str.ofString "b"], [Str.ofString "count"], [Str.ofString "S"], [Str.ofString "T"], [Str.ofString "ws"], [Str.ofString "self"]] rfl rfl (by decide +kernel) (by decide +kernel) rfl rfl hz
      case hI2 => exact List.forall_mem_cons.mpr ⟨Apt.gt l9.2.2.2.2.2.2, fun p hp => hI p (.tail _ hp)⟩
      case hx2 => exact ⟨l9.2.2.2.1, l9.2.2.2.2.1, l9.2.2.2.2.2.1⟩
      case hi2 => exact (List.getElem?_eq_some_iff.mp hat).1
      case hb2 => rw [hst]; rfl
      case hn2 => rw [hst]; rfl
      case hnt2 => rw [hst]; rfl
    · rename Fr _ _ _ _ => F3
      refine let_m F3 ?_
      clear F3
      intro m3 F3
      rename News _ _ _ _ => N3
      rename (_ == _) = true => hc1
      rename (_ == _) = false => hc0
      rename ¬ (_ : Int) ≤ _ => hlb
      rename IntsAre (List.set _ _ _) _ => hi9
      rw [sign_is, decide_eq_false_iff_not] at hc0
      rw [tab_is, decide_eq_true_iff] at hc1
      have hat := lead_at hc (.inr hc1)
      have hst : wsOf (lead.take (i + 1)) = ⟨bump W.cs W.b, 0, W.n + 1, W.nt + 1⟩ := by rw [wsOf_succ hat, ← hW, wsStep, if_neg hc0]
      refine LS.intro2 (cA, ?v8, k) (fun m => ((intOf (m (Str.ofString "b")), tokOf (m (Str.ofString "b"))), (intOf (m (Str.ofString "n")), tokOf (m (Str.ofString "n"))), (intOf (m (Str.ofString "nt")), tokOf (m (Str.ofString "nt"))))) _ F3 N3 ?hsub3 ?hm3 ?hI3 ⟨rfl, hx, ?hi3, ?hcs3, ?hb3, ?hn3, ?hnt3⟩
      case hcs3 =>
        rw [hst]
        have e1 : ((W.b : Int)).toNat = W.b := Int.toNat_natCast _
        have hle2 : ¬ W.cs.length ≤ W.b := by omega
        have e3 : bump W.cs W.b = W.cs.set ((W.b : Int)).toNat (W.cs.getD ((W.b : Int)).toNat 0 + 1) := by
          rw [e1]; unfold bump grown; rw [if_neg hle2]
        show IntsAre _ (bump W.cs W.b)
        have q9 := ints_of e3 hi9
        exact q9
      case hsub3 => intro p hp; revert p; k_allIn
      case hm3 =>
        intro z hz
        exact chEq (ks := [Str.ofString "nt", Str.ofString "n", Str.ofString "b", Str.ofString "count", Str.ofString "S", Str.ofString "T", Str.ofString "ws", Str.ofString "self"]) (l1 := [.one _ _, .one _ _, .one _ _, .one _ _, .many _ _, .one _ _, .one _ _, .one _ _, .one _ _, .one _ _, .one _ _, .one _ _, .one _ _]) (l2 := [.one _ _, .one _ _, .one _ _, .one _ _, .one _ _, .one _ _, .one _ _, .one _ _]) (b1 := fun _ => none) (b2 := fun _ => none) [[Str.ofString "b"], [Str.ofString "nt"], [Str.ofString "n"], [Str.ofString "ch"], [Str.ofString "ch"], [Str.ofString "nt"], [Str.ofString "n"], [Str.ofString "b"], [Str.ofString "count"], [Str.ofString "S"], [Str.ofString "T"], [Str.ofString "ws"], [Str.ofString "self"]] [[Str.ofString "nt"], [Str.ofString "n"], [Str.ofString "b"], [Str.ofString "count"], [Str.ofString "S"], [Str.ofString "T"], [Str.ofString "ws"], [Str.ofString "self"]] rfl rfl (by decide +kernel) (by decide +kernel) rfl rfl hz
      case hI3 => exact List.forall_mem_cons.mpr ⟨hI (cA, listOf vs.toArray k) (.head _), fun p hp => hI p (.tail _ hp)⟩
      case hi3 => exact (List.getElem?_eq_some_iff.mp hat).1
      case hb3 => rw [hst]; rfl
      case hn3 => rw [hst]; rfl
      case hnt3 => rw [hst]; rfl
    · dsimp only [LS]
      (try k_unmd); (try k_fold); repeat' (first | ((fail_if_success (fail_if_success k_gentoks)); (first | with_reducible refine flat2 ?_ | with_reducible refine flat1 ?_); intro _; (try dsimp only); (try k_unmd)) | walk_at "S1")
      rename Fr _ _ _ _ => F3
      rename News _ _ _ _ => N3
      rename_i T0 _ _ _ T1 _ l6 _
      have m1 : @Ne Nat T0 dx := news_ne N3 (.tail _ (.head _)) (.tail _ (.tail _ (.tail _ (.tail _ (.tail _ (.head _)))))) (by simp [dictOf])
      have m2 : @Ne Nat T0 x := news_ne N3 (.tail _ (.head _)) (.tail _ (.tail _ (.tail _ (.tail _ (.head _))))) (by simp [instObj])
      (try k_unmd); (try k_fold); repeat' (first | ((fail_if_success (fail_if_success k_gentoks)); (first | with_reducible refine flat2 ?_ | with_reducible refine flat1 ?_); intro _; (try dsimp only); (try k_unmd)) | walk_at "S1")
      rename Fr _ _ _ _ => F4
      rename News _ _ _ _ => N4
      rename (_ == Str.ofString "\t") = false => hc9
      rename (_ == Str.ofString " ") = false => hc0
      rw [tab_is, decide_eq_false_iff_not] at hc9
      rw [sign_is, decide_eq_false_iff_not] at hc0
      rw [lead_end hl hc hc0 hc9 hil] at hW
      subst hW
      have zT1 := N4 (T1, _) (.head _)
      have zT0 := N4 (T0, _) (.tail _ (.head _))
      have zx := N4 (x, _) (.tail _ (.tail _ (.tail _ (.tail _ (.head _)))))
      have zdx := N4 (dx, _) (.tail _ (.tail _ (.tail _ (.tail _ (.tail _ (.head _))))))
      refine ⟨rfl, hret (.ref x) _ [] _ _ ⟨F4.keep, List.forall_mem_cons.mpr ⟨⟨zT1.1, zT1.2.2⟩, List.forall_mem_cons.mpr ⟨⟨zT0.1, zT0.2.2⟩, List.forall_mem_cons.mpr ⟨⟨zx.1, zx.2.2⟩, List.forall_mem_cons.mpr ⟨⟨zdx.1, zdx.2.2⟩, List.forall_mem_nil _⟩⟩⟩⟩⟩ rfl (fun _ _ _ h => nomatch h) ?pw ⟨x, dx, T1, T0, vs, tb, _, _, _, _, _, _, _, _, _, rfl, rfl, hi⟩⟩
      exact .cons (List.forall_mem_cons.mpr ⟨Apt.gt l6.1, List.forall_mem_cons.mpr ⟨Apt.gt l6.2.2.2.1, List.forall_mem_cons.mpr ⟨Apt.gt l6.2.2.2.2.1, List.forall_mem_nil _⟩⟩⟩) (.cons (List.forall_mem_cons.mpr ⟨m2, List.forall_mem_cons.mpr ⟨m1, List.forall_mem_nil _⟩⟩) (.cons (List.forall_mem_cons.mpr ⟨n2, List.forall_mem_nil _⟩) (.cons (List.forall_mem_nil _) .nil)))
  case done =>
    first | (intro zq11 rest u h tk zq12 F2 N2; (try k_unmd); (try (first | (with_reducible refine fold_comp ?_; intro XL YL ZL) | (with_reducible refine fold_for ?_; intro QL EL) | (with_reducible refine fold_while ?_; intro QL RL EL) | k_fold)); (first | refine el_0_4 (zq11) ?_ | refine el_1_3 (zq11) ?_ | refine el_2_2 (zq11) ?_ | refine el_3_1 (zq11) ?_); (try clear zq11); intro zq13 zq14 zq15 zq16; (first | refine el_0_3 (zq13) ?_ | refine el_1_2 (zq13) ?_ | refine el_2_1 (zq13) ?_); (try clear zq13); intro cA vs k; (first | refine el_0_2 (zq14) ?_ | refine el_1_1 (zq14) ?_); (try clear zq14); intro b tb; (first | refine el_0_2 (zq15) ?_ | refine el_1_1 (zq15) ?_); (try clear zq15); intro n tn; (first | refine el_0_2 (zq16) ?_ | refine el_1_1 (zq16) ?_); (try clear zq16); intro nt tnt; (first | refine el_0_7 (zq12) ?_ | refine el_1_6 (zq12) ?_ | refine el_2_5 (zq12) ?_ | refine el_3_4 (zq12) ?_ | refine el_4_3 (zq12) ?_ | refine el_5_2 (zq12) ?_ | refine el_6_1 (zq12) ?_); (try clear zq12); intro zq17 hx hil hi zq18 zq19 zq20; subst zq17; subst zq18; subst zq19; subst zq20) | rintro ⟨⟨cA, vs, k⟩, ⟨b, tb⟩, ⟨n, tn⟩, ⟨nt, tnt⟩⟩ rest u h tk ⟨rfl, hx, hil, hi, rfl, rfl, rfl⟩ F2 N2
    simp at hil
    omega

end
-- INDENT
section
open PySem PySem.Spec PySem.W PyProof.Rows PySem.Calls PyProof.V
noncomputable def ilTo (tab : Int) (cs : List Int) (k : Nat) : Int := ((List.range k).map fun (j : Nat) => (tab + (j : Int)).fdiv tab * cs.getD (tab + (j : Int)).toNat 0).sum
noncomputable def indentOf (tab : Int) (W : WS) : Int := W.b + tab * (ilTo tab W.cs ((W.cs.length : Int) - tab).toNat + W.nt)
theorem range_up (a b : Int) : Builtin.Range.rangeSize a b 1 = ((b - a).toNat : Int) := by
  unfold Builtin.Range.rangeSize
  simp
  omega
theorem bits_small {a : Int} (h0 : 0 ≤ a) (h1 : a ≤ 1000000) : Builtin.Int.intBits a ≤ 64 := by
  rw [PySem.intBits_le_iff]
  omega
theorem il_succ (tab : Int) (cs : List Int) (i : Nat) : ilTo tab cs (i + 1) = ilTo tab cs i + (tab + (i : Int)).fdiv tab * cs.getD (tab + (i : Int)).toNat 0 := by
  unfold ilTo
  rw [List.range_succ, List.map_append, List.sum_append]
  simp
theorem indent_ok (w : World) (p : Program) (loose : List Str) (mean : ExcName → Option Value) (mg mb : Str → Option Value) (x dx T1 T0 : Addr) (vs : List Value) (raw smp : Value) (W : WS) (tb tn tnt t1 t2 t3 t4 t5 tt : Tok) (n tab : Int) (h1 : 1 ≤ tab) (h2 : tab ≤ 6) (hi : IntsAre vs W.cs) (hc : W.cs.length ≤ 200)
    (d1 : @Ne Nat x dx) :
    HSpec 6 w p loose mean mg mb 52 [.ref x, .int tab tt] [] [(T1, { cls := .type "tuple", data := .seq #[.ref T0, .int W.b tb] }), (T0, { cls := .type "tuple", data := .seq (List.toArray vs) }), (x, instObj 83 dx), (dx, wsDict w raw n tn W.nt tnt T1 smp t1 t2 t3 t4 t5)] (fun tl upd r => ∃ t, r = .int (indentOf tab W) t ∧ tl = []) := by
  intro dp un gd cn cs L a ccd cl outer base g s Q E B H hz X T hk hdp hun hret
  unfold wsDict at H hret
  have hv0 : vs.length = W.cs.length := hi.length
  have hv1 : (vs.length : Int) = (W.cs.length : Int) := by rw [hv0]
  have hv2 : vs.length ≤ 1000 := by omega
  w_on
  k_dflt refine' h_enter (binds := [(Str.ofString "self", .ref x), (Str.ofString "tabsize", .int tab tt)]) ?k1 ?k2 ?k3 ?k4 ?k5 ?k6 ?k7 ?k8 ?k9 ?kB ?_ ?c2 ?c3 ?c4 ?c5
  ((case k1 => assumption); (case k2 => assumption); (case k3 => assumption); (case k4 => assumption); (case k5 => assumption); (case k6 => k_is); (case k7 => k_is); (case k8 => ktr_room); (case k9 => exact BindsTo.of_eq rfl); (case c2 => decide); (case kB => exact locs rfl); (case c3 => exact rfl); (case c4 => exact rfl); (case c5 => exact rfl); k_whole; intro L' h' F' N' z' l1; (try k_lt l1); (simp only [List.reverse_cons, List.reverse_nil, List.nil_append, List.cons_append, lookup_if, lookup_no] at F'); revert L' h' F' N' z' l1; intros; (try dsimp only); (try k_unmd); (try k_fold); (try (refine let_A ?_; intro _; refine let_env ?_; intro _)))
  (try k_unmd); (try k_fold); repeat' (first | ((fail_if_success (fail_if_success (with_reducible show wpAny _ _ (exec (Stmt.For _ _ _ _ _) _) _ _ _))); (with_unfolding_all refine For_go ?_)) | ((fail_if_success (fail_if_success (with_reducible show wpAny _ _ (call (Value.builtin "len") _ _) _ _ _))); k_dflt (refine' ktm_lenK ?y9N ?y9hm ?y9hz ?y9e ?_; (case y9N => k_asm); (case y9hm => k_mem); (case y9hz => with_reducible assumption); (case y9e => with_reducible assumption); k_whole)) | walk_at "S1")
  rename Fr _ _ _ _ => F1
  rename News _ _ _ _ => N1
  rename IsRange _ _ _ _ _ _ _ _ => hR
  have hs1 : Builtin.Range.small tab (W.cs.length : Int) 1 = true := small_one (by omega) (by omega) (by omega) (by omega)
  first | ((first | refine el_0_3 (show ∃ nw, nw = _ ∧ News g _ _ nw from ⟨_, rfl, N1⟩) ?_ | refine el_1_2 (show ∃ nw, nw = _ ∧ News g _ _ nw from ⟨_, rfl, N1⟩) ?_ | refine el_2_1 (show ∃ nw, nw = _ ∧ News g _ _ nw from ⟨_, rfl, N1⟩) ?_); intro nw hnw N2) | obtain ⟨nw, hnw, N2⟩ : ∃ nw, nw = _ ∧ News g _ _ nw := ⟨_, rfl, N1⟩
  k_dflt refine' for_range (α := Unit × (Int × Tok)) (n := ((W.cs.length : Int) - tab).toNat) [Str.ofString "i"] (fun a => []) 
    (fun a y => if y = Str.ofString "il" then some (.int a.2.1 a.2.2) else if y = Str.ofString "trailing" then some (.int W.b tb) else if y = Str.ofString "count" then some (.ref T0) else if y = Str.ofString "tabsize" then some (.int tab tt) else if y = Str.ofString "self" then some (.ref x) else none)
    (fun i a rest => rest = nw ∧ a.2.1 = ilTo tab W.cs i) ((), (0, _)) nw ?pas rfl F1 (fun p hp => N2 p hp) hR hs1 (range_up _ _) (fun _ _ => rfl) ⟨rfl, rfl⟩ ?turn ?done
  case pas => passes_own
  case turn =>
    first | (intro I i ut zq1 rest u h tk oI hil zq2 hI F2 N2; (try k_unmd); (try (first | (with_reducible refine fold_comp ?_; intro XL YL ZL) | (with_reducible refine fold_for ?_; intro QL EL) | (with_reducible refine fold_while ?_; intro QL RL EL) | k_fold)); (first | refine el_0_3 (zq1) ?_ | refine el_1_2 (zq1) ?_ | refine el_2_1 (zq1) ?_); (try clear zq1); intro _ _ it; (first | refine el_0_2 (zq2) ?_ | refine el_1_1 (zq2) ?_); (try clear zq2); intro zq3 zq4; subst zq3; subst zq4) | rintro I i ut ⟨_, _, it⟩ rest u h tk oI hil ⟨rfl, rfl⟩ hI F2 N2
    subst hnw
    simp only [List.cons_append, List.nil_append] at N2
    have hfd : 0 ≤ (tab + (i : Int)).fdiv tab ∧ (tab + (i : Int)).fdiv tab ≤ 1000 := by
      rw [Int.fdiv_eq_ediv_of_nonneg _ (by omega)]
      exact ⟨Int.ediv_nonneg (by omega) (by omega), Int.le_trans (Int.ediv_le_self _ (by omega)) (by omega)⟩
    try dsimp only
    try k_fold
    (try k_unmd); (try k_fold); repeat' (first | ((fail_if_success (fail_if_success (with_reducible show wpAny _ _ (binaryOp Operator.Mult (Value.int _ _) (Value.int _ _)) _ _ _))); k_dflt (refine' PySem.P.mul_int ?_ (IntMulOk.of_left (bits_small ?y9b1 ?y9b2)); (case y9b1 => omega); (case y9b2 => omega))) | walk_at "S1")
    rename Fr _ _ _ _ => F3
    rename News _ _ _ _ => N3
    refine let_m F3 ?_
    clear F3
    intro m3 F3
    refine LS.intro2 () (fun m => (intOf (m (Str.ofString "il")), tokOf (m (Str.ofString "il")))) _ F3 N3 (fun p hp => hp) ?hm ?hI ⟨rfl, ?il⟩
    case hm =>
      intro z hz
      refine chEq (ks := [Str.ofString "il", Str.ofString "trailing", Str.ofString "count", Str.ofString "tabsize", Str.ofString "self"]) (l1 := [.one _ _, .one _ _, .many _ _, .one _ _, .one _ _, .one _ _, .one _ _, .one _ _]) (l2 := [.one _ _, .one _ _, .one _ _, .one _ _, .one _ _]) (b1 := fun _ => none) (b2 := fun _ => none) [[Str.ofString "il"], [Str.ofString "i"], [Str.ofString "i"], [Str.ofString "il"], [Str.ofString "trailing"], [Str.ofString "count"], [Str.ofString "tabsize"], [Str.ofString "self"]] [[Str.ofString "il"], [Str.ofString "trailing"], [Str.ofString "count"], [Str.ofString "tabsize"], [Str.ofString "self"]] rfl rfl (by decide +kernel) (by decide +kernel) ?_ rfl hz
      rfl
    case hI => exact hI
    case il => exact (il_succ tab W.cs i).symm
  case done =>
    first | (intro zq5 rest u h tk zq6 F2 N2; (try k_unmd); (try (first | (with_reducible refine fold_comp ?_; intro XL YL ZL) | (with_reducible refine fold_for ?_; intro QL EL) | (with_reducible refine fold_while ?_; intro QL RL EL) | k_fold)); (first | refine el_0_3 (zq5) ?_ | refine el_1_2 (zq5) ?_ | refine el_2_1 (zq5) ?_); (try clear zq5); intro _ _ it; (first | refine el_0_2 (zq6) ?_ | refine el_1_1 (zq6) ?_); (try clear zq6); intro zq7 zq8; subst zq7; subst zq8) | rintro ⟨_, _, it⟩ rest u h tk ⟨rfl, rfl⟩ F2 N2
    subst hnw
    simp only [List.cons_append, List.nil_append] at N2
    try dsimp only
    try k_fold
    (try k_unmd); (try k_fold); repeat' (walk_at "S1")
    try dsimp only
    rename Fr _ _ _ _ => F3
    rename News _ _ _ _ => N3
    exact h_leave [] _ hret F3 N3 (fun p hp => hp) rfl (List.forall_mem_nil _) .nil ⟨_, rfl, rfl⟩

end
-- GEN
section
open PySem PySem.Spec PySem.W PyProof.Rows PySem.Calls
section
variable {M : Model} {A : Around} {R : GenEnd} {Y : Protocol} {n : Nat} {s₀ : Shared} {c : Code} {fs : List Frame} {s : Shared} {env : Env}
  {K : Flow → Sem Fin} {H : Value → Sem Fin} {gd : Bool → Bool} {lv : List Value → List Value}

theorem exec_If_bind (test : Expr) (body orelse : List Stmt) (pos : Pos) : exec (.If test body orelse pos) env = (standAt pos >>= fun _ => isTrue test env (eval test env) >>= fun b => if b then execs body env else execs orelse env) := by
  rw [exec_If]
theorem segIf {test : Expr} {body orelse : List Stmt} {pos : Pos}
    (h : wpAny M (A.over c fs) (isTrue test env (eval test env)) (fun b s' => if b = true then Seg M A R Y n s₀ c ((execs body env).wrap K H gd lv) fs s' else Seg M A R Y n s₀ c ((execs orelse env).wrap K H gd lv) fs s')
      (fun x s' => Seg M A R Y n s₀ c (H x) fs s') s) :
    Seg M A R Y n s₀ c ((exec (.If test body orelse pos) env).wrap K H gd lv) fs s := by
  rw [exec_If_bind]
  refine seg_bind_wrap (wpAny_standAt ?_)
  refine seg_bind_wrap (wpAny_mono h (fun b s' hb => ?_) fun _ _ x => x)
  cases b with
  | true => exact hb
  | false => exact hb

theorem segFor {target iter : Expr} {body orelse : List Stmt} {pos : Pos}
    (h : wpAny M (A.over c fs) (eval iter env) (fun xv s₁ => wpAny M (A.over c fs) (pyIter xv) (fun it s₂ => ∀ p, Seg M A R Y n s₀ (.forLoop target it body orelse env) (M.den (.forLoop target it body orelse env))
      (.ret (fun r => ((match r with | .ok f => (.pure f : Sem Flow) | .error e => .raise e).onRaise fun (x : Value) => do
        if (← field x 1) == Value.none then unsupported "frame.own-activation:exception-without-traceback"
        setFlight x env.frame).wrap K H gd lv) none (gd false) (lv []) c p [] :: fs) s₂) (fun x s' => Seg M A R Y n s₀ c (H x) fs s') s₁) (fun x s' => Seg M A R Y n s₀ c (H x) fs s') s)
    (hs : ∀ x, foldedSetIterable iter env x = pure x := by intro _; rfl) :
    Seg M A R Y n s₀ c ((exec (.For target iter body orelse pos) env).wrap K H gd lv) fs s := by
  have e : exec (.For target iter body orelse pos) env = (standAt pos >>= fun _ => eval iter env >>= fun x => foldedSetIterable iter env x >>= fun x => standAt iter.pos >>= fun _ => holding [x] (pyIter x) >>= fun it => runOwn (.forLoop target it body orelse env) env) := by
    rw [exec_For]
  rw [e]
  refine seg_bind_wrap (wpAny_standAt ?_)
  refine seg_bind_wrap (wpAny_mono h (fun xv s₁ h₁ => ?_) fun _ _ x => x)
  refine seg_bind_wrap (wpAny_of_eq (hs xv) ?_)
  refine seg_bind_wrap (wpAny_standAt ?_)
  refine seg_bind_wrap (wpAny_holding (wpAny_mono h₁ (fun it s₂ h₂ => ?_) fun _ _ x => x))
  exact seg_call h₂
end

section
variable {prog : Program} {w : World} {A : Around} {R : GenEnd} {Y : Protocol} {n : Nat} {s₀ : Shared} {fs : List Frame} {s : Shared} {env : Env}

/-- one turn of a for loop in a generator -/
theorem segForLoop {target : Expr} {it : Value} {body orelse : List Stmt}
    (h : wpAny (model prog w) (A.over (.forLoop target it body orelse env) fs) (pyNext it) (fun r s₁ => match r with
        | none => Seg (model prog w) A R Y n s₀ (.forLoop target it body orelse env) (.pure (.again (.block orelse env))) fs s₁
        | some v => wpAny (model prog w) (A.over (.forLoop target it body orelse env) fs) (letOwnedTupleGo target it v) (fun _ s₂ => wpAny (model prog w) (A.over (.forLoop target it body orelse env) fs) (assign target env v) (fun _ s₃ =>
            Seg (model prog w) A R Y n s₀ (.forLoop target it body orelse env) ((execs body env).wrap (fun f => match f with
              | .next | .cont => .pure (.again (.forLoop target it body orelse env))
              | .brk => .pure (.done .next)
              | .ret v => .pure (.done (.ret v))) (fun e => (do noteFrame e env; theTreesLotGoes e : Sem Unit).wrap (fun _ => .raise e) .raise id id) id id) fs s₃) (fun _ _ => False) s₂) (fun _ _ => False) s₁) (fun _ _ => False) s) :
    Seg (model prog w) A R Y n s₀ (.forLoop target it body orelse env) ((model prog w).den (.forLoop target it body orelse env)) fs s := by
  show Seg _ A R Y n s₀ _ ((forTurn target it body orelse env).onRaise (fun x => do noteFrame x env; theTreesLotGoes x)) fs s
  rw [Sem.onRaise_eq_wrap]
  unfold forTurn
  refine seg_bind_wrap (wpAny_standAt ?_)
  refine seg_bind_wrap (wpAny_onRaise (wpAny_mono h (fun r s₁ h₁ => ?_) fun _ _ x => x.elim))
  cases r with
  | none => exact h₁
  | some v =>
    refine seg_bind_wrap (wpAny_mono h₁ (fun _ s₂ h₂ => ?_) fun _ _ x => x.elim)
    refine seg_bind_wrap (wpAny_mono h₂ (fun _ s₃ h₃ => ?_) fun _ _ x => x.elim)
    rw [Sem.bind_eq_wrap', Sem.wrap_wrap]
    rw [Sem.wrap_congr (execs body env) _ _ (K' := fun f => match f with
            | .next | .cont => .pure (.again (.forLoop target it body orelse env))
            | .brk => .pure (.done .next)
            | .ret v => .pure (.done (.ret v))) (H' := (fun e => (do noteFrame e env; theTreesLotGoes e : Sem Unit).wrap (fun _ => .raise e) .raise id id))
        (fun f => by cases f <;> rfl)
        (fun e => by first | exact Sem.bind_eq_wrap _ _ | (show (do noteFrame e env; theTreesLotGoes e : Sem Unit).bind (fun _ => .raise e) = _; rw [Sem.bind_eq_wrap]))]
    exact h₃

/-- a block of no statements ends at once -/
theorem segBlockNil {c : Code} (h : Seg (model prog w) A R Y n s₀ (.block [] env) (leafOf (.ok .next)) fs s) : Seg (model prog w) A R Y n s₀ c (.pure (.again (.block [] env))) fs s := by
  refine seg_again rfl ?_
  exact h
end

end
-- GEN2
section
open PySem PySem.Spec PySem.W PyProof.Rows PySem.Calls
section
variable {prog : Program} {w : World} {A : Around} {E : Value → Shared → Prop} {s : Shared}

/-- a pull at a generator of a def, which yields or ends -/
theorem pull_gen {a : Addr} {g n : Nat} {gs : GenState} {P : Nat → Shared → Shared → Prop} {Y : Protocol} {Q : Option Value → Shared → Prop} (hh : A.handled = none)
    (hl : s.heap.NoLimit) (hroom : A.depth < recursionLimit) (hg : s.heap.IsGen a g) (hgs : s.gens[g]? = some gs)
    (hgo : gs.Goes (model prog w) A.in1 (fun n s₀ r s₁ => r = .ok (.ret .none) ∧ P n s₀ s₁) Y n (.send .none) (s.setGen g .running))
    (hY : ∀ v s₁ gs', gs'.bare = true → Y (n - 1) (s.setGen g .running) v s₁ (fun r' s'' => match n with
        | 0 => False
        | m + 1 => gs'.Goes (model prog w) A.in1 (fun n s₀ r s₁ => r = .ok (.ret .none) ∧ P n s₀ s₁) Y m r' s'') → Q (some v) (s₁.setGen g gs'))
    (hP : ∀ s₁, P n (s.setGen g .running) s₁ → ∀ h', (∀ b o, s₁.heap.get? b = some o → h'.get? b = some o) → Q none { s₁.setGen g .finished with heap := h' }) :
    wpAny (model prog w) A (pyNext (.ref a)) Q E s := by
  unfold pyNext
  refine wpAny_bind (wpAny_attempt (wpAny_callSpecial?_slot (name := Str.ofString "__next__") hg.typeIs slot_gen_next
    (wpAny_call_entry slot_gen_next hg.typeIs entry_gen_next ?_ (args_gen_next _))))
  show wpAny _ A.in1 (Builtin.Generator.genWake (.ref a) (.send .none)) _ _ s
  unfold Builtin.Generator.genWake
  refine wpAny_bind (wpAny_holding (wpAny_genNumber hg (wpAny_bind (wpAny_genState hgs ?_))))
  cases gs with
  | running => exact hgo.elim
  | finished => exact hgo.elim
  | _ =>
    refine wpAny_bind (wpAny_roomToWake hl hroom ?_)
    show wpAny _ A.in1 (.resume g (.send .none) [] _) _ _ s
    refine wpAny_resumeQ hgs hgo (fun x s₁ hx => ?_) (fun v s₁ gs' hb hv => ?_)
    · first | ((first | refine el_0_2 (hx) ?_ | refine el_1_1 (hx) ?_); (try clear hx); intro zq1 hp; subst zq1) | obtain ⟨rfl, hp⟩ := hx
      show wpAny _ A.in1 (newExc (.type "StopIteration") [] >>= _) _ _ _
      refine wpAny_bind ?_
      simp only [newExc, newTuple]
      refine wpAny_bind (wpAny_newObj_type ?_ (by size_fits))
      refine wpAny_bind (m := firstArgMember _ _) (wpAny_of_eq (a := Value.none) (by first | rfl | (simp only [firstArgMember]; rfl)) ?_)
      refine wpAny_newObj_type ?_ (by size_fits)
      simp only [raiseNew]
      refine wpAny_bind (wpAny_bind (wpAny_handled ?_))
      first | rw [show A.in1.handled = none from hh] | rw [hh]
      refine wpAny_throw ?_
      refine wpAny_bind (wpAny_isInstance (T := "StopIteration") (b := true) ⟨_, Heap.get?_push_size _ rfl, rfl⟩ isSubtype_stop ?_)
      exact wpAny_pure (hP s₁ hp _ fun b o hb => Heap.get?_push_of_some _ (Heap.get?_push_of_some _ hb))
    · exact wpAny_pure ⟨v, rfl, wpAny_pure (hY v s₁ gs' hb hv)⟩

theorem next_args (a : Value) : argsOk "next" ⟨[a], []⟩ := by unfold argsOk; kernel_rfl
/-- next(..) at a fresh generator whose body raises at once -/
theorem next_raises {a : Addr} {g : Nat} {c : Code} {X : String} {P : Addr → Shared → Prop} {Q : Value → Shared → Prop} 
    (hl : s.heap.NoLimit) (hroom : A.depth < recursionLimit) (hg : s.heap.IsGen a g) (hgs : s.gens[g]? = some (.fresh c)) (hX : isSubtype (.type X) (.type "StopIteration") = pure false)
    (hgo : Seg (model prog w) A.in1.in1 (fun _ _ r s₁ => ∃ e, r = .error (.ref e) ∧ P e s₁) (fun _ _ _ _ _ => False) 0 (s.setGen g .running) c ((model prog w).den c) [] (s.setGen g .running))
    (hP : ∀ e s₁, P e s₁ → s₁.heap.IsGen a g ∧ s₁.TypeIs (.ref e) X ∧ E (.ref e) (s₁.setGen g .finished)) :
    wpAny (model prog w) A (call (.builtin "next") [.ref a]) Q E s := by
  refine call_function_entry (by decide +kernel) (by decide +kernel) kdk_entry_next (next_args _) ?_
  unfold Builtin.«next»
  refine wpAny_bind (m := someArgs "next" 1 2 _) (wpAny_of_eq (a := [Value.ref a]) (by first | rfl | kernel_rfl!) ?_)
  dsimp only
  refine wpAny_bind (wpAny_specialOf (name := Str.ofString "__next__") hg.typeIs slot_gen_next.lookup ?_)
  refine wpAny_ite_split (fun hab => absurd hab (by decide)) (fun _ => ?_)
  refine wpAny_bind (wpAny_callSpecial?_slot (name := Str.ofString "__next__") hg.typeIs slot_gen_next
    (wpAny_call_entry slot_gen_next hg.typeIs entry_gen_next ?_ (args_gen_next _)))
  show wpAny _ A.in1.in1 (Builtin.Generator.genWake (.ref a) (.send .none)) _ _ s
  unfold Builtin.Generator.genWake
  refine wpAny_bind (wpAny_holding (wpAny_genNumber hg (wpAny_bind (wpAny_genState hgs ?_))))
  refine wpAny_bind (wpAny_roomToWake hl hroom ?_)
  show wpAny _ A.in1.in1 (.resume g (.send .none) [] _) _ _ s
  refine wpAny_resumeQ hgs ⟨rfl, hgo⟩ (fun x s₁ hx => ?_) (fun v s₁ gs' hb hv => hv.elim)
  first | ((first | refine el_0_3 (hx) ?_ | refine el_1_2 (hx) ?_ | refine el_2_1 (hx) ?_); (try clear hx); intro e zq2 hp; subst zq2) | obtain ⟨e, rfl, hp⟩ := hx
  first | ((first | refine el_0_3 (hP e s₁ hp) ?_ | refine el_1_2 (hP e s₁ hp) ?_ | refine el_2_1 (hP e s₁ hp) ?_); intro hg' hT hE) | obtain ⟨hg', hT, hE⟩ := hP e s₁ hp
  show wpAny _ A.in1.in1 (Builtin.Generator.genLeft (.ref a) (.ref e)) _ _ _
  unfold Builtin.Generator.genLeft Builtin.Generator.madeByALambda
  first | ((first | refine el_0_7 (hg') ?_ | refine el_1_6 (hg') ?_ | refine el_2_5 (hg') ?_ | refine el_3_4 (hg') ?_ | refine el_4_3 (hg') ?_ | refine el_5_2 (hg') ?_ | refine el_6_1 (hg') ?_); (try clear hg'); intro o nm qn ho hc hd hsl) | obtain ⟨o, nm, qn, ho, hc, hd, hsl⟩ := hg'
  refine wpAny_bind (wpAny_bind (wpAny_load (s := s₁.setGen g .finished) ho ?_))
  rw [hd]
  refine wpAny_pure ?_
  rw [hc]
  refine wpAny_bind (wpAny_isInstance (T := X) (b := false) hT hX ?_)
  simp only [Bool.and_false, Bool.false_eq_true, if_false]
  unfold Builtin.Generator.genEscaped
  refine wpAny_bind (wpAny_isInstance (T := X) (b := false) hT hX ?_)
  simp only [Bool.not_false, if_true]
  exact wpAny_throw hE
end

end
-- GEN3
section
open PySem PySem.Spec PySem.W PyProof.Rows PySem.Calls

/-- what the generator tells, n numbers at most -/
noncomputable def outs : List Int → Option Int → Nat → List Int
  | _, _, 0 => []
  | [], _, _ + 1 => []
  | x :: r, last, n + 1 => if x = 127 then [] else if x = 0 then (match last with | some l => List.replicate (n + 1) l | none => []) else x :: outs r (some x) n

noncomputable def IterO (o : Obj) (l : Addr) (i : Nat) : Prop := o.cls = .type "list_iterator" ∧ o.data = .fields #[.ref l, .int i 0]

/-- since s₀ nothing but C and I was written -/
noncomputable def GSince (C I : Addr) (s₀ s : Shared) : Prop :=
  ∃ h' tk, s = { s₀ with heap := h', toks := tk } ∧ ∀ b o, b ≠ C → b ≠ I → s₀.heap.get? b = some o → h'.get? b = some o
theorem GSince.refl (C I : Addr) (s : Shared) : GSince C I s s := ⟨s.heap, s.toks, rfl, fun _ _ _ _ e => e⟩
theorem GSince.step {C I : Addr} {s₀ s : Shared} (x : GSince C I s₀ s) {h' : Heap} {tk : Nat} (hk : ∀ b o, b ≠ C → b ≠ I → s.heap.get? b = some o → h'.get? b = some o) : GSince C I s₀ { s with heap := h', toks := tk } := by
  first | ((first | refine el_0_4 (x) ?_ | refine el_1_3 (x) ?_ | refine el_2_2 (x) ?_ | refine el_3_1 (x) ?_); (try clear x); intro h₁ tk₁ zq1 hk₁; subst zq1) | obtain ⟨h₁, tk₁, rfl, hk₁⟩ := x
  exact ⟨h', tk, rfl, fun b o hC hI e => hk b o hC hI (hk₁ b o hC hI e)⟩

/-- the protocol of the generator -/
noncomputable def GProto (h₀ : Heap) (C I l : Addr) (ol : Obj) (all : List Int) (N : Nat) : Protocol := fun m s₀ v s kap =>
  (∃ t x, v = .int x t ∧ all[N - 1 - m]? = some x) ∧ GSince C I s₀ s ∧
    ∃ oI oC, s.heap.get? I = some oI ∧ s.heap.get? C = some oC ∧ ∀ s'' : Shared, (∀ b o, h₀.get? b = some o → s''.heap.get? b = some o) → s''.heap.get? I = some oI → s''.heap.get? C = some oC → s''.heap.get? l = some ol → m ≠ 0 → kap (.send .none) s''
noncomputable def GEnd (C I : Addr) (all : List Int) (N : Nat) : GenEnd := fun n s₀ r s₁ => r = .ok (.ret .none) ∧ (GSince C I s₀ s₁ ∧ all.length = N - n)

section
variable {prog : Program} {w : World} {A : Around} {R : GenEnd} {Y : Protocol} {fs : List Frame} {env : Env} {h₀ : Heap} {target : Expr} {body orelse : List Stmt} {I l : Addr} {ol : Obj} {items : Array Value}

theorem seg_for_list {α : Type} (xs : List Str) (mm : α → Str → Option Value) (link : Nat → Nat → α → Prop) (hol : ol.cls = .type "list" ∧ ∃ n, ol.data = .seq items n) (hlI : l ≠ I)
    (hov : (A.over (.forLoop target (.ref I) body orelse env) fs).handled = none)
    (hturn : ∀ i v a (u : Str → Option Value) n s₀ s oI, items[i]? = some v → link i n a → GSince env.locals I s₀ s → Fr h₀ env.locals s.heap (fun z => if z ∈ xs then u z else mm a z) → News h₀ env.locals s.heap [(l, ol), (I, oI)] → IterO oI l (i + 1) →
      (∀ a' (u' : Str → Option Value) n' s₀' s' oI', link (i + 1) n' a' → GSince env.locals I s₀' s' → Fr h₀ env.locals s'.heap (fun z => if z ∈ xs then u' z else mm a' z) → News h₀ env.locals s'.heap [(l, ol), (I, oI')] → IterO oI' l (i + 1) →
        Seg (model prog w) A R Y n' s₀' (.forLoop target (.ref I) body orelse env) (.pure (.again (.forLoop target (.ref I) body orelse env))) fs s') →
      wpAny (model prog w) (A.over (.forLoop target (.ref I) body orelse env) fs) (letOwnedTupleGo target (.ref I) v) (fun _ s₂ => wpAny (model prog w) (A.over (.forLoop target (.ref I) body orelse env) fs) (assign target env v) (fun _ s₃ =>
            Seg (model prog w) A R Y n s₀ (.forLoop target (.ref I) body orelse env) ((execs body env).wrap (fun f => match f with
              | .next | .cont => .pure (.again (.forLoop target (.ref I) body orelse env))
              | .brk => .pure (.done .next)
              | .ret v => .pure (.done (.ret v))) (fun e => (do noteFrame e env; theTreesLotGoes e : Sem Unit).wrap (fun _ => .raise e) .raise id id) id id) fs s₃) (fun _ _ => False) s₂) (fun _ _ => False) s)
    (hend : ∀ a (u : Str → Option Value) n s₀ s, link items.size n a → GSince env.locals I s₀ s → Fr h₀ env.locals s.heap (fun z => if z ∈ xs then u z else mm a z) → News h₀ env.locals s.heap [(l, ol)] →
      Seg (model prog w) A R Y n s₀ (.forLoop target (.ref I) body orelse env) (.pure (.again (.block orelse env))) fs s) :
    ∀ (k i : Nat) a (u : Str → Option Value) n s₀ s oI, items.size - i = k → i ≤ items.size → link i n a → GSince env.locals I s₀ s → Fr h₀ env.locals s.heap (fun z => if z ∈ xs then u z else mm a z) → News h₀ env.locals s.heap [(l, ol), (I, oI)] → IterO oI l i →
      Seg (model prog w) A R Y n s₀ (.forLoop target (.ref I) body orelse env) ((model prog w).den (.forLoop target (.ref I) body orelse env)) fs s := by
  intro k
  induction k with
  | zero =>
    intro i a u n s₀ s oI hk hi hlink hs F N hit
    have hin : i = items.size := by omega
    subst hin
    refine segForLoop ?_
    have W := Walks.list (prog := prog) (w := w) hov I l hlI items
    have zI := N (I, oI) (.tail _ (.head _))
    have zl := N (l, ol) (.head _)
    refine W.done s _ _ ⟨⟨oI, zI.1, hit⟩, ⟨ol, zl.1, hol⟩⟩ fun h' tk hk' => ?_
    have hl' : h'.get? l = some ol := hk' _ _ (by simpa using hlI) zl.1
    have hC' : ∀ o, s.heap.get? env.locals = some o → h'.get? env.locals = some o := fun o e => hk' _ o (by simpa using Ne.symm zI.2.1) e
    refine hend a u n s₀ _ hlink (hs.step fun b o _ hI e => hk' b o (by simpa using hI) e) ⟨F.ns.at' hC', fun b o e => hk' b o (fun q => ?_) (F.keep b o e), F.above⟩ (fun p hp => ?_)
    · rw [List.mem_singleton.mp q, zI.2.2] at e; cases e
    · obtain rfl := List.mem_singleton.mp hp
      exact ⟨hl', zl.2⟩
  | succ k ih =>
    intro i a u n s₀ s oI hk hi hlink hs F N hit
    have hlt : i < items.size := by omega
    refine segForLoop ?_
    have W := Walks.list (prog := prog) (w := w) hov I l hlI items
    have zI := N (I, oI) (.tail _ (.head _))
    have zl := N (l, ol) (.head _)
    refine W.item i s _ _ hlt ⟨⟨oI, zI.1, hit⟩, ⟨ol, zl.1, hol⟩⟩ fun v h' tk hv hst hk' => ?_
    first | ((first | refine el_0_2 (hst) ?_ | refine el_1_1 (hst) ?_); (try clear hst); intro zq2 _; (first | refine el_0_3 (zq2) ?_ | refine el_1_2 (zq2) ?_ | refine el_2_1 (zq2) ?_); (try clear zq2); intro oI' hI' hit') | obtain ⟨⟨oI', hI', hit'⟩, _⟩ := hst
    have hl' : h'.get? l = some ol := hk' _ _ (by simpa using hlI) zl.1
    have hC' : ∀ o, s.heap.get? env.locals = some o → h'.get? env.locals = some o := fun o e => hk' _ o (by simpa using Ne.symm zI.2.1) e
    refine hturn i v a u n s₀ _ oI' hv hlink (hs.step fun b o _ hI e => hk' b o (by simpa using hI) e) ⟨F.ns.at' hC', fun b o e => hk' b o (fun q => ?_) (F.keep b o e), F.above⟩ (fun p hp => ?_) hit' ?_
    · rw [List.mem_singleton.mp q, zI.2.2] at e; cases e
    · rcases List.mem_cons.mp hp with rfl | hp
      · exact ⟨hl', zl.2⟩
      · obtain rfl := List.mem_singleton.mp hp
        exact ⟨hI', zI.2⟩
    · intro a' u' n' s₀' s' oI' hlink' hs' F' N' hit''
      exact seg_again rfl (ih (i + 1) a' u' n' s₀' s' oI' (by omega) hlt hlink' hs' F' N' hit'')

/-- `while True: yield e` -/
theorem seg_while_yield {h₀ : Heap} {C I l : Addr} {ol : Obj} {all : List Int} {N : Nat} {test e : Expr} {pos ypos : Pos} {x : Int} {m : Str → Option Value}
    (hfs : splitAtGen fs = none) (hfg : fs.any Frame.guarded = false) (hco : env.scope.isCoroutine = false) (hi : interactive env = false)
    (htest : ∀ s, wpAny (model prog w) (A.over (.whileLoop test [.Expr (.Yield (some e) ypos) pos] [] env) fs) (isTrue test env (eval test env)) (fun b s' => b = true ∧ s' = s) (fun _ _ => False) s)
    (heval : ∀ s, Fr h₀ C s.heap m → wpAny (model prog w) (A.over (.whileLoop test [.Expr (.Yield (some e) ypos) pos] [] env) fs) (eval e env) (fun v s' => (∃ t, v = .int x t) ∧ s' = s) (fun _ _ => False) s)
    :
    ∀ (n : Nat) s₀ s oI, 0 < n → n ≤ N → (∀ j, N - n ≤ j → j < N → all[j]? = some x) → GSince C I s₀ s → Fr h₀ C s.heap m → News h₀ C s.heap [(l, ol), (I, oI)] →
      Seg (model prog w) A R (GProto h₀ C I l ol all N) n s₀ (.whileLoop test [.Expr (.Yield (some e) ypos) pos] [] env) ((model prog w).den (.whileLoop test [.Expr (.Yield (some e) ypos) pos] [] env)) fs s := by
  intro n
  induction n with
  | zero => intro s₀ s oI h; exact absurd h (Nat.lt_irrefl _)
  | succ n ih =>
    intro s₀ s oI _ hN hx hs F N'
    refine seg_whileLoop (wpAny_mono (htest s) (fun b s' hb => ?_) fun _ _ x => x.elim)
    first | ((first | refine el_0_2 (hb) ?_ | refine el_1_1 (hb) ?_); (try clear hb); intro zq3 zq4; subst zq3; subst zq4) | obtain ⟨rfl, rfl⟩ := hb
    simp only [if_true]
    refine seg_execs_cons (seg_Expr_Yield hfs rfl hfg (wpAny_mono (heval _ F) (fun v s'' hv => ?_) fun _ _ x => x.elim) hco hi)
    first | ((first | refine el_0_2 (hv) ?_ | refine el_1_1 (hv) ?_); (try clear hv); intro zq5 zq6; (first | refine el_0_2 (zq5) ?_ | refine el_1_1 (zq5) ?_); (try clear zq5); intro t zq7; subst zq7; subst zq6) | obtain ⟨⟨t, rfl⟩, rfl⟩ := hv
    intro kap hk
    have zI := N' (I, oI) (.tail _ (.head _))
    have zl := N' (l, ol) (.head _)
    first | ((first | refine el_0_5 (F.ns) ?_ | refine el_1_4 (F.ns) ?_ | refine el_2_3 (F.ns) ?_ | refine el_3_2 (F.ns) ?_ | refine el_4_1 (F.ns) ?_); intro oC es ep hC rC) | obtain ⟨oC, es, ep, hC, rC⟩ := F.ns
    refine ⟨⟨t, x, rfl, hx _ (by omega) (by omega)⟩, hs, oI, oC, zI.1, hC, fun s2 hkeep hI2 hC2 hl2 hn0 => hk .none s2 ?_⟩
    show Seg _ _ _ _ _ _ _ ((execs [] env).wrap _ _ _ _) _ _
    refine seg_execs_nil (seg_again rfl ?_)
    refine ih s2 s2 oI (by omega) (by omega) (fun j h1 h2 => hx j (by omega) h2) (GSince.refl _ _ _) ⟨⟨oC, es, ep, hC2, rC⟩, hkeep, F.above⟩ fun p hp => ?_
    rcases List.mem_cons.mp hp with rfl | hp
    · exact ⟨hl2, zl.2⟩
    · obtain rfl := List.mem_singleton.mp hp
      exact ⟨hI2, zI.2⟩
end

end
-- GEN4
section
open PySem PySem.Spec PySem.W PyProof.Rows PySem.Calls
noncomputable def genO (gi : Nat) (nm qn : Value) : Obj := { cls := .type "generator", data := .fields #[.int gi 0, nm, qn] }
section
variable {prog : Program} {w : World} {A : Around} {E : Value → Shared → Prop} {s : Shared} {env : Env} {h₀ : Heap} {target : Expr} {body : List Stmt} {Q : Flow → Shared → Prop}

/-- what a turn over a generator owes -/
noncomputable def LSG {α : Type} (h₀ : Heap) (L : Addr) (own : Ledger) (xs : List Str) (lit : α → Ledger) (mm : α → Str → Option Value) (P : α → Ledger → Prop) (s₁ : Shared) (Q : Flow → Shared → Prop) (f : Flow) (s₂ : Shared) : Prop :=
  match f with
  | .ret v => Q (.ret v) s₂
  | .brk => Q .next s₂
  | _ => ∃ h' tk m' a' rest', s₂ = { s₁ with heap := h', toks := tk } ∧ Fr h₀ L h' m' ∧ (∀ z, z ∉ xs → m' z = mm a' z) ∧ News h₀ L h' (lit a' ++ (rest' ++ own)) ∧ (∀ p ∈ lit a' ++ rest', ∀ q ∈ own, Apt p.1 q.1) ∧ P a' rest'

theorem LSG.intro2 {β γ : Type} {L : Addr} {own : Ledger} {xs : List Str} {lit : β × γ → Ledger} {mm : β × γ → Str → Option Value} {P : β × γ → Ledger → Prop} {s₁ : Shared} {h' : Heap} {tk : Nat} {m' : Str → Option Value} {news' : Ledger} (b : β) (c : (Str → Option Value) → γ) (rest' : Ledger) (F : Fr h₀ L h' m') (N : News h₀ L h' news')
    (hs : ∀ p ∈ lit (b, c m') ++ (rest' ++ own), p ∈ news') (hm : ∀ z, z ∉ xs → m' z = mm (b, c m') z) (hI : ∀ p ∈ lit (b, c m') ++ rest', ∀ q ∈ own, Apt p.1 q.1) (hP : P (b, c m') rest') : LSG h₀ L own xs lit mm P s₁ Q .next { s₁ with heap := h', toks := tk } :=
  ⟨h', tk, m', (b, c m'), rest', rfl, F, hm, fun p hp => N p (hs p hp), hI, hP⟩

theorem for_gen {α : Type} {C ga l : Addr} {ol oC : Obj} {gi N : Nat} {c : Code} {nm qn : Value} {all : List Int} {m₀ : Str → Option Value} (xs : List Str) (lit : α → Ledger) (mm : α → Str → Option Value) (P : Nat → α → Ledger → Prop) (a₀ : α) (rest₀ : Ledger)
    (hE : PassesOwn (model prog w) A env E) (hh : A.handled = none) (hroom : A.depth < recursionLimit) (hlim : h₀.NoLimit) (F : Fr h₀ env.locals s.heap m₀) (Nw : News h₀ env.locals s.heap (lit a₀ ++ (rest₀ ++ [(C, oC), (ga, genO gi nm qn)]))) (hap : ∀ p ∈ lit a₀ ++ rest₀, Apt p.1 C ∧ Apt p.1 ga) (hCg : Apt C ga)
    (hm : ∀ z, z ∉ xs → m₀ z = mm a₀ z) (hP : P 0 a₀ rest₀) (hPlt : ∀ j a rest, P j a rest → j < N ∧ (l, ol) ∈ lit a ++ rest) (hgs : s.gens[gi]? = some (.fresh c)) (hb : AllBare s.gens) (hN : all.length ≤ N)
    (hrun : ∀ s' : Shared, (∀ b o, h₀.get? b = some o → s'.heap.get? b = some o) → s'.heap.get? C = some oC → s'.heap.get? l = some ol → h₀.objs.size ≤ s'.heap.objs.size →
      Seg (model prog w) A.in1 (GEnd C s'.heap.objs.size all N) (GProto h₀ C s'.heap.objs.size l ol all N) N s' c ((model prog w).den c) [] s')
    (turn : ∀ j x t a rest (u : Str → Option Value) h tk gn I oC' oI, all[j]? = some x → P j a rest → (∀ p ∈ lit a ++ rest, ∀ q ∈ [(C, oC'), (ga, genO gi nm qn), (I, oI)], Apt p.1 q.1) → Fr h₀ env.locals h (fun z => if z ∈ xs then u z else mm a z) → News h₀ env.locals h (lit a ++ (rest ++ [(C, oC'), (ga, genO gi nm qn), (I, oI)])) → AllBare gn →
      wpAny (model prog w) A (assign target env (.int x t)) (fun _ s₂ => wpAny (model prog w) A (execs body env) (LSG h₀ env.locals [(C, oC'), (ga, genO gi nm qn), (I, oI)] xs lit mm (P (j + 1)) { s with heap := h, toks := tk, gens := gn } Q) E s₂) E { s with heap := h, toks := tk, gens := gn })
    (done : ∀ a rest (u : Str → Option Value) h tk gn, P all.length a rest → Fr h₀ env.locals h (fun z => if z ∈ xs then u z else mm a z) → News h₀ env.locals h (lit a ++ rest) → AllBare gn → Q .next { s with heap := h, toks := tk, gens := gn })
    (ht : ∀ v, letOwnedTupleGo target (.ref ga) v = pure () := by intro _; rfl) :
    ForGo prog w A env target body [] Q E (.ref ga) s := by
  let Ready : Nat → Heap → Array GenState → Ledger → Prop := fun j h gn own =>
    (j = 0 ∧ own = [(C, oC), (ga, genO gi nm qn)] ∧ gn[gi]? = some (.fresh c)) ∨
    (∃ I oC' oI gs, own = [(C, oC'), (ga, genO gi nm qn), (I, oI)] ∧ Apt I C ∧ Apt I ga ∧ gn[gi]? = some gs ∧ ∀ s'' : Shared, (∀ b o, h₀.get? b = some o → s''.heap.get? b = some o) → s''.heap.get? I = some oI → s''.heap.get? C = some oC' → s''.heap.get? l = some ol → N - j ≠ 0 →
      gs.Goes (model prog w) A.in1 (GEnd C I all N) (GProto h₀ C I l ol all N) (N - j) (.send .none) s'')
  refine ⟨hE, codeAny_forLoop (fun k s' => ∃ h' tk gn m' a rest own j, s' = { s with heap := h', toks := tk, gens := gn } ∧ Ready j h' gn own ∧ AllBare gn ∧ Fr h₀ env.locals h' m' ∧ (∀ z, z ∉ xs → m' z = mm a z) ∧ News h₀ env.locals h' (lit a ++ (rest ++ own)) ∧ (∀ p ∈ lit a ++ rest, ∀ q ∈ own, Apt p.1 q.1) ∧ P j a rest ∧ k = N + 1 - j) ?_ (N + 1)
    ⟨s.heap, s.toks, s.gens, m₀, a₀, rest₀, [(C, oC), (ga, genO gi nm qn)], 0, rfl, .inl ⟨rfl, rfl, hgs⟩, hb, F, hm, Nw, fun p hp q hq => ?_, hP, rfl⟩ ht⟩
  rotate_left
  · rcases List.mem_cons.mp hq with rfl | hq
    · exact (hap p hp).1
    · obtain rfl := List.mem_singleton.mp hq
      exact (hap p hp).2
  first | (intro k s' zq1; (first | refine el_0_17 (zq1) ?_ | refine el_1_16 (zq1) ?_ | refine el_2_15 (zq1) ?_ | refine el_3_14 (zq1) ?_ | refine el_4_13 (zq1) ?_ | refine el_5_12 (zq1) ?_ | refine el_6_11 (zq1) ?_ | refine el_7_10 (zq1) ?_ | refine el_8_9 (zq1) ?_ | refine el_9_8 (zq1) ?_ | refine el_10_7 (zq1) ?_ | refine el_11_6 (zq1) ?_ | refine el_12_5 (zq1) ?_); (try clear zq1); intro h' tk gn m' a rest own j zq2 hready hb' F' hm' N' hap' hP' zq3; subst zq2; subst zq3) | rintro k s' ⟨h', tk, gn, m', a, rest, own, j, rfl, hready, hb', F', hm', N', hap', hP', rfl⟩
  first | ((first | refine el_0_2 (hPlt j a rest hP') ?_ | refine el_1_1 (hPlt j a rest hP') ?_); intro hjN hlmem) | obtain ⟨hjN, hlmem⟩ := hPlt j a rest hP'
  have fr : ∀ {h : Heap} {m : Str → Option Value} {a : α}, Fr h₀ env.locals h m → (∀ z, z ∉ xs → m z = mm a z) → Fr h₀ env.locals h (fun z => if z ∈ xs then m z else mm a z) := fun {h m a} F hm => by
    have e : (fun z => if z ∈ xs then m z else mm a z) = m := by
      funext z
      by_cases hz : z ∈ xs
      · rw [if_pos hz]
      · rw [if_neg hz, hm z hz]
    rw [e]; exact F
  have hga : (ga, genO gi nm qn) ∈ own := by
    rcases hready with ⟨_, rfl, _⟩ | ⟨I, oC', oI, gs, rfl, _⟩
    · exact .tail _ (.head _)
    · exact .tail _ (.head _)
  have zga := N' (ga, genO gi nm qn) (List.mem_append_right _ (List.mem_append_right _ hga))
  have hlz := N' (l, ol) (by rw [← List.append_assoc]; exact List.mem_append_left _ hlmem)
  have hlimh : h'.NoLimit := hlim.keeps F'.keep
  have hgi : h'.IsGen ga gi := ⟨_, nm, qn, zga.1, rfl, rfl, rfl⟩
  have setg : ∀ {gn : Array GenState} {gs x : GenState}, gn[gi]? = some gs → (gn.setIfInBounds gi x)[gi]? = some x := fun {gn gs x} h => by
    have hlt : gi < gn.size := by
      rcases Nat.lt_or_ge gi gn.size with h' | h'
      · exact h'
      · rw [Array.getElem?_eq_none h'] at h; cases h
    simp [hlt]
  have bareSet : ∀ {gn : Array GenState} {x : GenState}, AllBare gn → x.bare = true → AllBare (gn.setIfInBounds gi x) := fun {gn x} hb hx y hy => by
    rcases Array.mem_or_eq_of_mem_setIfInBounds hy with h | h
    · exact hb y h
    · rw [h]; exact hx
  -- what a pull leaves
  have after : ∀ (I : Addr) (oI' oC' : Obj) (h₁ : Heap), (∀ b o, b ≠ C → b ≠ I → h'.get? b = some o → h₁.get? b = some o) → I ≠ env.locals → h₀.get? I = none → (∀ p ∈ lit a ++ rest, Apt p.1 I) → Apt I C → Apt I ga → h₁.get? I = some oI' → h₁.get? C = some oC' →
      Fr h₀ env.locals h₁ m' ∧ News h₀ env.locals h₁ (lit a ++ (rest ++ [(C, oC'), (ga, genO gi nm qn), (I, oI')])) := by
    intro I oI' oC' h₁ hk hIL hI₀ hapI hIC hIg hI hC
    have zC : ∃ oC1, (C, oC1) ∈ own := by
      rcases hready with ⟨_, rfl, _⟩ | ⟨I, oC', oI, gs, rfl, _⟩
      · exact ⟨_, .head _⟩
      · exact ⟨_, .head _⟩
    first | ((first | refine el_0_2 (zC) ?_ | refine el_1_1 (zC) ?_); (try clear zC); intro oC1 hC1) | obtain ⟨oC1, hC1⟩ := zC
    have zC := N' (C, oC1) (List.mem_append_right _ (List.mem_append_right _ hC1))
    refine ⟨⟨F'.ns.at' fun o e => hk _ o (Ne.symm zC.2.1) (Ne.symm hIL) e, fun b o e => hk b o (fun q => by rw [q, zC.2.2] at e; cases e) (fun q => by rw [q, hI₀] at e; cases e) (F'.keep b o e), F'.above⟩, fun p hp => ?_⟩
    rw [← List.append_assoc] at hp
    rcases List.mem_append.mp hp with hp | hp
    · have z := N' p (by rw [← List.append_assoc]; exact List.mem_append_left _ hp)
      exact ⟨hk _ _ (hap' p hp _ hC1).ne (hapI p hp).ne z.1, z.2⟩
    · rcases List.mem_cons.mp hp with rfl | hp
      · exact ⟨hC, zC.2⟩
      · rcases List.mem_cons.mp hp with rfl | hp
        · exact ⟨hk _ _ hCg.ne' hIg.ne' zga.1, zga.2⟩
        · obtain rfl := List.mem_singleton.mp hp
          exact ⟨hI, hIL, hI₀⟩
  have ended : ∀ (I : Addr) (h₁ h₂ : Heap) (tk₂ : Nat) (gn₂ : Array GenState), (∀ b o, b ≠ C → b ≠ I → h'.get? b = some o → h₁.get? b = some o) → (∀ b o, h₁.get? b = some o → h₂.get? b = some o) → I ≠ env.locals → h₀.get? I = none → (∀ p ∈ lit a ++ rest, Apt p.1 I) → all.length = N - (N - j) → AllBare gn₂ → Q .next { s with heap := h₂, toks := tk₂, gens := gn₂ } := by
    intro I h₁ h₂ tk₂ gn₂ hk hk2 hIL hI₀ hapI hlen hb₂
    have zC : ∃ oC1, (C, oC1) ∈ own := by
      rcases hready with ⟨_, rfl, _⟩ | ⟨I, oC', oI, gs, rfl, _⟩
      · exact ⟨_, .head _⟩
      · exact ⟨_, .head _⟩
    first | ((first | refine el_0_2 (zC) ?_ | refine el_1_1 (zC) ?_); (try clear zC); intro oC1 hC1) | obtain ⟨oC1, hC1⟩ := zC
    have zC := N' (C, oC1) (List.mem_append_right _ (List.mem_append_right _ hC1))
    have hj : j = all.length := by omega
    subst hj
    refine done a rest m' h₂ tk₂ gn₂ hP' (fr ⟨(F'.ns.at' fun o e => hk2 _ _ (hk _ o (Ne.symm zC.2.1) (Ne.symm hIL) e)), fun b o e => hk2 _ _ (hk b o (fun q => by rw [q, zC.2.2] at e; cases e) (fun q => by rw [q, hI₀] at e; cases e) (F'.keep b o e)), F'.above⟩ hm') (fun p hp => ?_) hb₂
    have z := N' p (by rw [← List.append_assoc]; exact List.mem_append_left _ hp)
    exact ⟨hk2 _ _ (hk _ _ (hap' p hp _ hC1).ne (hapI p hp).ne z.1), z.2⟩
  -- a turn's end
  have fin : ∀ (I : Addr) (oC' oI : Obj) (gs : GenState) (h₁ : Heap) (tk₁ : Nat) (gn₁ : Array GenState) (f : Flow) (s₃ : Shared), Apt I C → Apt I ga → gn₁[gi]? = some gs → AllBare gn₁ → 
      (∀ s'' : Shared, (∀ b o, h₀.get? b = some o → s''.heap.get? b = some o) → s''.heap.get? I = some oI → s''.heap.get? C = some oC' → s''.heap.get? l = some ol → N - (j + 1) ≠ 0 →
        gs.Goes (model prog w) A.in1 (GEnd C I all N) (GProto h₀ C I l ol all N) (N - (j + 1)) (.send .none) s'') →
      LSG h₀ env.locals [(C, oC'), (ga, genO gi nm qn), (I, oI)] xs lit mm (P (j + 1)) { s with heap := h₁, toks := tk₁, gens := gn₁ } Q f s₃ →
      (match f with
          | .next | .cont => ∃ m, m < N + 1 - j ∧ ∃ h' tk gn m' a rest own j, s₃ = { s with heap := h', toks := tk, gens := gn } ∧ Ready j h' gn own ∧ AllBare gn ∧ Fr h₀ env.locals h' m' ∧ (∀ z, z ∉ xs → m' z = mm a z) ∧ News h₀ env.locals h' (lit a ++ (rest ++ own)) ∧ (∀ p ∈ lit a ++ rest, ∀ q ∈ own, Apt p.1 q.1) ∧ P j a rest ∧ m = N + 1 - j
          | .brk => Q .next s₃
          | .ret v => Q (.ret v) s₃) := by
    intro I oC' oI gs h₁ tk₁ gn₁ f s₃ hIC hIg hgs' hb₁ hgo h₃
    have go : (∃ h' tk m' a' rest', s₃ = { s with heap := h', toks := tk, gens := gn₁ } ∧ Fr h₀ env.locals h' m' ∧ (∀ z, z ∉ xs → m' z = mm a' z) ∧ News h₀ env.locals h' (lit a' ++ (rest' ++ [(C, oC'), (ga, genO gi nm qn), (I, oI)])) ∧ (∀ p ∈ lit a' ++ rest', ∀ q ∈ [(C, oC'), (ga, genO gi nm qn), (I, oI)], Apt p.1 q.1) ∧ P (j + 1) a' rest') →
        ∃ m, m < N + 1 - j ∧ ∃ h' tk gn m' a rest own j, s₃ = { s with heap := h', toks := tk, gens := gn } ∧ Ready j h' gn own ∧ AllBare gn ∧ Fr h₀ env.locals h' m' ∧ (∀ z, z ∉ xs → m' z = mm a z) ∧ News h₀ env.locals h' (lit a ++ (rest ++ own)) ∧ (∀ p ∈ lit a ++ rest, ∀ q ∈ own, Apt p.1 q.1) ∧ P j a rest ∧ m = N + 1 - j := by
      first | (intro zq4; (first | refine el_0_11 (zq4) ?_ | refine el_1_10 (zq4) ?_ | refine el_2_9 (zq4) ?_ | refine el_3_8 (zq4) ?_ | refine el_4_7 (zq4) ?_ | refine el_5_6 (zq4) ?_ | refine el_6_5 (zq4) ?_ | refine el_7_4 (zq4) ?_ | refine el_8_3 (zq4) ?_ | refine el_9_2 (zq4) ?_ | refine el_10_1 (zq4) ?_); (try clear zq4); intro h₃' tk₃ m₃ a' rest' zq5 F₃ hm₃ N₃ hI₃ hP₃; subst zq5) | rintro ⟨h₃', tk₃, m₃, a', rest', rfl, F₃, hm₃, N₃, hI₃, hP₃⟩
      exact ⟨N + 1 - (j + 1), by omega, h₃', tk₃, gn₁, m₃, a', rest', _, j + 1, rfl, .inr ⟨I, oC', oI, gs, rfl, hIC, hIg, hgs', hgo⟩, hb₁, F₃, hm₃, N₃, hI₃, hP₃, rfl⟩
    cases f with
    | ret v => exact h₃
    | brk => exact h₃
    | next => exact go h₃
    | cont => exact go h₃
  rcases hready with ⟨rfl, rfl, hgs'⟩ | ⟨I, oC', oI, gs, rfl, hIC, hIg, hgs', hgo⟩
  · have hIC : Apt h'.objs.size C := Apt.gt (Heap.lt_size (N' (C, oC) (List.mem_append_right _ (List.mem_append_right _ (.head _)))).1)
    have hIg : Apt h'.objs.size ga := Apt.gt (Heap.lt_size zga.1)
    have hIL : h'.objs.size ≠ env.locals := Nat.ne_of_gt F'.ns.lt
    have hI₀ : h₀.get? h'.objs.size = none := Heap.get?_none_of_le (Nat.le_trans F'.above (Nat.le_of_lt F'.ns.lt))
    have hapI : ∀ p ∈ lit a ++ rest, Apt p.1 h'.objs.size := fun p hp => Apt.lt (Heap.lt_size (N' p (by rw [← List.append_assoc]; exact List.mem_append_left _ hp)).1)
    refine pull_gen (n := N) hh hlimh hroom hgi hgs' (P := fun n s₀ s₁ => GSince C h'.objs.size s₀ s₁ ∧ all.length = N - n) (Y := GProto h₀ C h'.objs.size l ol all N) ⟨rfl, hrun (Shared.setGen { s with heap := h', toks := tk, gens := gn } gi .running) F'.keep (N' (C, oC) (List.mem_append_right _ (List.mem_append_right _ (.head _)))).1 hlz.1 (Nat.le_trans F'.above (Nat.le_of_lt F'.ns.lt))⟩ (fun v s₁ gs₁ hb₁ hy => ?_) (fun s₁ hp h₂ hk₂ => ?_)
    · first | ((first | refine el_0_7 (hy) ?_ | refine el_1_6 (hy) ?_ | refine el_2_5 (hy) ?_ | refine el_3_4 (hy) ?_ | refine el_4_3 (hy) ?_ | refine el_5_2 (hy) ?_ | refine el_6_1 (hy) ?_); (try clear hy); intro zq6 zq7 oI' oC'' hI' hC' hgo'; (first | refine el_0_4 (zq6) ?_ | refine el_1_3 (zq6) ?_ | refine el_2_2 (zq6) ?_ | refine el_3_1 (zq6) ?_); (try clear zq6); intro t x zq8 hx; subst zq8; (first | refine el_0_4 (zq7) ?_ | refine el_1_3 (zq7) ?_ | refine el_2_2 (zq7) ?_ | refine el_3_1 (zq7) ?_); (try clear zq7); intro h₁ tk₁ zq9 hk₁; subst zq9) | obtain ⟨⟨t, x, rfl, hx⟩, ⟨h₁, tk₁, rfl, hk₁⟩, oI', oC'', hI', hC', hgo'⟩ := hy
      first | ((first | refine el_0_2 (after h'.objs.size oI' oC'' h₁ hk₁ hIL hI₀ hapI hIC hIg hI' hC') ?_ | refine el_1_1 (after h'.objs.size oI' oC'' h₁ hk₁ hIL hI₀ hapI hIC hIg hI' hC') ?_); intro F₁ N₁) | obtain ⟨F₁, N₁⟩ := after h'.objs.size oI' oC'' h₁ hk₁ hIL hI₀ hapI hIC hIg hI' hC'
      have hx0 : all[0]? = some x := by
        have : N - 1 - (N - 1) = 0 := by omega
        rw [this] at hx; exact hx
      refine wpAny_mono (turn 0 x t a rest m' h₁ tk₁ ((gn.setIfInBounds gi .running).setIfInBounds gi gs₁) h'.objs.size oC'' oI' hx0 hP' (fun p hp q hq => ?_) (fr F₁ hm') N₁ (bareSet (bareSet hb' rfl) hb₁)) (fun _ s₂ h₂ => wpAny_mono h₂ (fun f s₃ h₃ => ?_) hE) hE
      · rcases List.mem_cons.mp hq with rfl | hq
        · exact hap' p hp (C, oC) (.head _)
        · rcases List.mem_cons.mp hq with rfl | hq
          · exact hap' p hp _ (.tail _ (.head _))
          · obtain rfl := List.mem_singleton.mp hq
            exact hapI p hp
      · refine fin h'.objs.size oC'' oI' gs₁ h₁ tk₁ _ f s₃ hIC hIg (setg (setg hgs')) (bareSet (bareSet hb' rfl) hb₁) (fun s'' k1 k2 k3 k4 k5 => ?_) h₃
        have := hgo' s'' k1 k2 k3 k4 (by omega)
        first | ((first | refine el_0_2 (show ∃ N', N = N' + 1 from ⟨N - 1, by omega⟩) ?_ | refine el_1_1 (show ∃ N', N = N' + 1 from ⟨N - 1, by omega⟩) ?_); intro N' zq10; subst zq10) | obtain ⟨N', rfl⟩ : ∃ N', N = N' + 1 := ⟨N - 1, by omega⟩
        exact this
    · first | ((first | refine el_0_2 (hp) ?_ | refine el_1_1 (hp) ?_); (try clear hp); intro zq11 hlen; (first | refine el_0_4 (zq11) ?_ | refine el_1_3 (zq11) ?_ | refine el_2_2 (zq11) ?_ | refine el_3_1 (zq11) ?_); (try clear zq11); intro h₁ tk₁ zq12 hk₁; subst zq12) | obtain ⟨⟨h₁, tk₁, rfl, hk₁⟩, hlen⟩ := hp
      exact wpAny_pure (ended h'.objs.size h₁ h₂ tk₁ _ hk₁ hk₂ hIL hI₀ hapI (by omega) (bareSet (x := .finished) (bareSet (x := .running) hb' rfl) rfl))
  · have zI := N' (I, oI) (List.mem_append_right _ (List.mem_append_right _ (.tail _ (.tail _ (.head _)))))
    have zC := N' (C, oC') (List.mem_append_right _ (List.mem_append_right _ (.head _)))
    have hapI : ∀ p ∈ lit a ++ rest, Apt p.1 I := fun p hp => hap' p hp _ (.tail _ (.tail _ (.head _)))
    refine pull_gen (n := N - j) hh hlimh hroom hgi hgs' (P := fun n s₀ s₁ => GSince C I s₀ s₁ ∧ all.length = N - n) (Y := GProto h₀ C I l ol all N) (hgo _ F'.keep zI.1 zC.1 hlz.1 (by omega)) (fun v s₁ gs₁ hb₁ hy => ?_) (fun s₁ hp h₂ hk₂ => ?_)
    · first | ((first | refine el_0_7 (hy) ?_ | refine el_1_6 (hy) ?_ | refine el_2_5 (hy) ?_ | refine el_3_4 (hy) ?_ | refine el_4_3 (hy) ?_ | refine el_5_2 (hy) ?_ | refine el_6_1 (hy) ?_); (try clear hy); intro zq13 zq14 oI' oC'' hI' hC' hgo'; (first | refine el_0_4 (zq13) ?_ | refine el_1_3 (zq13) ?_ | refine el_2_2 (zq13) ?_ | refine el_3_1 (zq13) ?_); (try clear zq13); intro t x zq15 hx; subst zq15; (first | refine el_0_4 (zq14) ?_ | refine el_1_3 (zq14) ?_ | refine el_2_2 (zq14) ?_ | refine el_3_1 (zq14) ?_); (try clear zq14); intro h₁ tk₁ zq16 hk₁; subst zq16) | obtain ⟨⟨t, x, rfl, hx⟩, ⟨h₁, tk₁, rfl, hk₁⟩, oI', oC'', hI', hC', hgo'⟩ := hy
      first | ((first | refine el_0_2 (after I oI' oC'' h₁ hk₁ zI.2.1 zI.2.2 hapI hIC hIg hI' hC') ?_ | refine el_1_1 (after I oI' oC'' h₁ hk₁ zI.2.1 zI.2.2 hapI hIC hIg hI' hC') ?_); intro F₁ N₁) | obtain ⟨F₁, N₁⟩ := after I oI' oC'' h₁ hk₁ zI.2.1 zI.2.2 hapI hIC hIg hI' hC'
      have hx0 : all[j]? = some x := by
        have : N - 1 - (N - j - 1) = j := by omega
        rw [this] at hx; exact hx
      refine wpAny_mono (turn j x t a rest m' h₁ tk₁ ((gn.setIfInBounds gi .running).setIfInBounds gi gs₁) I oC'' oI' hx0 hP' (fun p hp q hq => ?_) (fr F₁ hm') N₁ (bareSet (bareSet hb' rfl) hb₁)) (fun _ s₂ h₂ => wpAny_mono h₂ (fun f s₃ h₃ => ?_) hE) hE
      · rcases List.mem_cons.mp hq with rfl | hq
        · exact hap' p hp (C, oC') (.head _)
        · rcases List.mem_cons.mp hq with rfl | hq
          · exact hap' p hp _ (.tail _ (.head _))
          · obtain rfl := List.mem_singleton.mp hq
            exact hapI p hp
      · refine fin I oC'' oI' gs₁ h₁ tk₁ _ f s₃ hIC hIg (setg (setg hgs')) (bareSet (bareSet hb' rfl) hb₁) (fun s'' k1 k2 k3 k4 k5 => ?_) h₃
        have := hgo' s'' k1 k2 k3 k4 (by omega)
        first | ((first | refine el_0_2 (show ∃ M', N - j = M' + 1 from ⟨N - j - 1, by omega⟩) ?_ | refine el_1_1 (show ∃ M', N - j = M' + 1 from ⟨N - j - 1, by omega⟩) ?_); intro M' hM) | obtain ⟨M', hM⟩ : ∃ M', N - j = M' + 1 := ⟨N - j - 1, by omega⟩
        rw [hM] at this
        rw [show N - (j + 1) = M' by omega]
        exact this
    · first | ((first | refine el_0_2 (hp) ?_ | refine el_1_1 (hp) ?_); (try clear hp); intro zq17 hlen; (first | refine el_0_4 (zq17) ?_ | refine el_1_3 (zq17) ?_ | refine el_2_2 (zq17) ?_ | refine el_3_1 (zq17) ?_); (try clear zq17); intro h₁ tk₁ zq18 hk₁; subst zq18) | obtain ⟨⟨h₁, tk₁, rfl, hk₁⟩, hlen⟩ := hp
      exact wpAny_pure (ended I h₁ h₂ tk₁ _ hk₁ hk₂ zI.2.1 zI.2.2 hapI hlen (bareSet (x := .finished) (bareSet (x := .running) hb' rfl) rfl))
end

end
-- GEN5
section
open PySem PySem.Spec PySem.W PyProof.Rows PySem.Calls
section
variable {prog : Program} {w : World} {A : Around} {s : Shared} {h₀ : Heap} {L : Addr} {K : Frag} {p : Program} {loose : List Str} {mean : ExcName → Option Value} {mg mb m : Str → Option Value} {news : Ledger} {Q E : Value → Shared → Prop}
  {name qual : Str} {params : Arguments} {body : List Stmt} {scope : Scope} {dV kV doc pm cdv ct oc : Value} {an od : Option Addr} {osl : Array (Option Value)} {f : Addr} {pos : List Value} {kws : List (Str × Value)} {binds : List (Str × Value)}

/-- a generator's def is called: its frame and its object -/
theorem h_callgen (F : Fr h₀ L s.heap m) (X : K.In h₀) (N : News h₀ L s.heap news) (T : Top p loose mean mg mb h₀)
    (ho : K.lookup f = some ⟨oc, od, .func (fnOf name qual params body scope dV kV doc pm an cdv ct), osl⟩) (hcd : codeIn K cdv qual = true) (hroom : A.depth < recursionLimit)
    (hbind : BindsTo s (fnOf name qual params body scope dV kV doc pm an cdv ct) ⟨pos, kws⟩ binds) (hloc : ∀ y ∈ binds, scope.names.lookup y.1 = some .local)
    (h : ∀ C ga oC nm qn h₁ tk, Fr h₀ L h₁ m → News h₀ L h₁ ((C, oC) :: (ga, genO s.gens.size nm qn) :: news) → LCg.NsObj oC (fun y => binds.reverse.lookup y) → Apt C ga → (∀ p ∈ news, p.1 < C) → (∀ p ∈ news, p.1 < ga) → h₀.objs.size ≤ C →
      Q (.ref ga) { s with heap := h₁, toks := tk, gens := s.gens.push (.fresh (.func body (envOf qual scope C f cdv))) })
    (hcell : ∀ x ∈ scope.names, x.2 ≠ .cell) (hco : scope.isCoroutine = false) (hgen : scope.isGenerator = true) (hk : scope.kind = .function) :
    wpAny (model prog w) A (call (.ref f) pos kws) Q E s := by
  refine wpAny_call (codeAny_call_generator (fd := fnOf name qual params body scope dV kV doc pm an cdv ct) (body := body) hroom (F.keep _ _ (X _ _ ho)) rfl hco hgen rfl (codeRec_of (X.keeps F.keep) hcd) ?_)
  refine hbind _ _ _ _ ?_
  refine wpAny_newFunctionEnv hcell hloc (fun h₁ hns hsb => ⟨(T.nolimit.keeps F.keep).fresh _ hsb, ?_⟩) hk
  dsimp only at hns hsb ⊢
  have old : ∀ b o, s.heap.get? b = some o → h₁.get? b = some o := fun b o e => hsb.extBut b o (Nat.ne_of_lt (Heap.lt_size e)) (Heap.get?_push_of_some _ e)
  first | ((first | refine el_0_3 (LCg.ns_obj hns) ?_ | refine el_1_2 (LCg.ns_obj hns) ?_ | refine el_2_1 (LCg.ns_obj hns) ?_); intro oC heC hoC) | obtain ⟨oC, heC, hoC⟩ := LCg.ns_obj hns
  have hLlt : L < s.heap.objs.size := F.ns.lt
  have hClt : s.heap.objs.size < h₁.objs.size := Heap.lt_size heC
  have up : ∀ {o' : Obj} b o, s.heap.get? b = some o → (h₁.push o').get? b = some o := fun b o e => Heap.get?_push_of_some _ (old b o e)
  have fresh₀ : ∀ a, s.heap.objs.size ≤ a → h₀.get? a = none := fun a ha => by
    cases e : h₀.get? a with
    | none => rfl
    | some o' => exact absurd (Heap.lt_size (F.keep a o' e)) (Nat.not_lt.mpr ha)
  refine h s.heap.objs.size h₁.objs.size oC (.str name (s.toks + binds.length)) (.str qual (s.toks + binds.length + 1)) (h₁.push (genO s.gens.size (.str name (s.toks + binds.length)) (.str qual (s.toks + binds.length + 1)))) (s.toks + binds.length + 1 + 1) (F.keeps up) ?news hoC (Apt.lt hClt) (fun p hp => Heap.lt_size (N p hp).1) (fun p hp => Nat.lt_trans (Heap.lt_size (N p hp).1) hClt) (Nat.le_trans F.above (Nat.le_of_lt hLlt))
  intro p hp
  rcases List.mem_cons.mp hp with rfl | hp
  · exact ⟨Heap.get?_push_of_some _ heC, Nat.ne_of_gt hLlt, fresh₀ _ (Nat.le_refl _)⟩
  · rcases List.mem_cons.mp hp with rfl | hp
    · exact ⟨Heap.get?_push_size _ rfl, Nat.ne_of_gt (Nat.lt_trans hLlt hClt), fresh₀ _ (Nat.le_of_lt hClt)⟩
    · exact ⟨up _ _ (N p hp).1, (N p hp).2⟩
end

end
-- SLOT
section
open PySem PySem.Spec PySem.W PyProof.Rows PySem.Calls
noncomputable def newSlots (h : Heap) (i : Nat) (o : Obj) : Array (Option Value) := match h.get? i with | some o' => o'.slots | none => o.slots
/-- g with the slots that h has -/
noncomputable def reslot (g h : Heap) : Heap := { g with objs := g.objs.mapIdx fun i o => { o with slots := newSlots h i o } }
theorem reslot_get (g h : Heap) (b : Addr) : (reslot g h).get? b = (g.get? b).map fun o => { o with slots := newSlots h b o } := by
  unfold Heap.get? reslot
  simp only [Array.getElem?_mapIdx]
  cases e : g.objs[b]? with
  | none => rfl
  | some o =>
    first | ((first | refine el_0_4 (o) ?_ | refine el_1_3 (o) ?_ | refine el_2_2 (o) ?_ | refine el_3_1 (o) ?_); (try clear o); intro c d dt sl) | obtain ⟨c, d, dt, sl⟩ := o
    cases dt <;> rfl
theorem reslot_size (g h : Heap) : (reslot g h).objs.size = g.objs.size := by unfold reslot; simp

/-- h holds what g holds, the slots of S aside -/
structure SlotKeep (S : List Addr) (g h : Heap) : Prop where
  keep : ∀ b o, g.get? b = some o → b ∉ S → h.get? b = some o
  up : ∀ b o, g.get? b = some o → ∃ sl, h.get? b = some { o with slots := sl }
theorem SlotKeep.reslot_in {S : List Addr} {g h : Heap} (x : SlotKeep S g h) : ∀ b o, (reslot g h).get? b = some o → h.get? b = some o := by
  intro b o e
  rw [reslot_get] at e
  cases q : g.get? b with
  | none => rw [q] at e; cases e
  | some o1 =>
    rw [q] at e
    first | ((first | refine el_0_2 (x.up b o1 q) ?_ | refine el_1_1 (x.up b o1 q) ?_); intro sl hs) | obtain ⟨sl, hs⟩ := x.up b o1 q
    have e' : { o1 with slots := newSlots h b o1 } = o := by simpa using e
    rw [← e', hs]
    unfold newSlots
    rw [hs]
theorem SlotKeep.reslot_only {S : List Addr} {g h : Heap} (x : SlotKeep S g h) : Heap.SlotsOnly S g (reslot g h) := by
  refine ⟨reslot_size g h, fun b hb => ?_, fun b o e => ⟨newSlots h b o, by rw [reslot_get, e]; rfl⟩⟩
  rw [reslot_get]
  cases q : g.get? b with
  | none => rfl
  | some o =>
    have := x.keep b o q hb
    show some { o with slots := newSlots h b o } = some o
    unfold newSlots
    rw [this]
theorem SlotKeep.of_only {S : List Addr} {g g' h : Heap} (x : Heap.SlotsOnly S g g') (k : ∀ b o, g'.get? b = some o → h.get? b = some o) : SlotKeep S g h :=
  ⟨fun b o e hb => k b o ((x.2.1 b hb).trans e), fun b o e => let ⟨sl, e'⟩ := x.2.2 b o e; ⟨sl, k _ _ e'⟩⟩

noncomputable def framesOf (l : List Env) : List Addr := l.filterMap (·.frame)
theorem funFrames_only {base g g' : Heap} {S : List Addr} : ∀ {l : List Env}, g.FunFrames base l → Heap.SlotsOnly S g g' → g'.FunFrames base l
  | [], _, _ => trivial
  | e :: r, q, x => by
    first | ((first | refine el_0_3 (q) ?_ | refine el_1_2 (q) ?_ | refine el_2_1 (q) ?_); (try clear q); intro hk zq1 hr; (first | refine el_0_6 (zq1) ?_ | refine el_1_5 (zq1) ?_ | refine el_2_4 (zq1) ?_ | refine el_3_3 (zq1) ?_ | refine el_4_2 (zq1) ?_ | refine el_5_1 (zq1) ?_); (try clear zq1); intro L o hf hn ho hd) | obtain ⟨hk, ⟨L, o, hf, hn, ho, hd⟩, hr⟩ := q
    first | ((first | refine el_0_2 (x.2.2 L o ho) ?_ | refine el_1_1 (x.2.2 L o ho) ?_); intro sl e') | obtain ⟨sl, e'⟩ := x.2.2 L o ho
    exact ⟨hk, ⟨L, _, hf, hn, e', hd⟩, funFrames_only hr x⟩
theorem frame_mem {base g : Heap} : ∀ {l : List Env} {b : Addr}, g.FunFrames base l → b ∈ framesOf l → base.get? b = none ∧ ∃ o, g.get? b = some o
  | [], b, _, h => by simp [framesOf] at h
  | e :: r, b, q, h => by
    first | ((first | refine el_0_3 (q) ?_ | refine el_1_2 (q) ?_ | refine el_2_1 (q) ?_); (try clear q); intro hk zq2 hr; (first | refine el_0_6 (zq2) ?_ | refine el_1_5 (zq2) ?_ | refine el_2_4 (zq2) ?_ | refine el_3_3 (zq2) ?_ | refine el_4_2 (zq2) ?_ | refine el_5_1 (zq2) ?_); (try clear zq2); intro L o hf hn ho hd) | obtain ⟨hk, ⟨L, o, hf, hn, ho, hd⟩, hr⟩ := q
    unfold framesOf at h
    rw [List.filterMap_cons, hf] at h
    rcases List.mem_cons.mp h with rfl | h
    · exact ⟨hn, o, ho⟩
    · exact frame_mem hr h
theorem below_only {A : Around} {base g g' : Heap} {outer : List Env} (B : Below A base outer g) (x : Heap.SlotsOnly (framesOf outer) g g') : Below A base outer g' :=
  ⟨B.stack, fun b o e => (x.2.1 b fun hb => by rw [(frame_mem B.frames hb).1] at e; cases e).trans (B.stays b o e), funFrames_only B.frames x⟩

theorem dicts_slots {S fs : List Addr} {g g' : Heap} (D : KtsDicts fs g) (x : Heap.SlotsOnly S g g') : KtsDicts fs g' := fun b hb => by
  first | ((first | refine el_0_5 (D b hb) ?_ | refine el_1_4 (D b hb) ?_ | refine el_2_3 (D b hb) ?_ | refine el_3_2 (D b hb) ?_ | refine el_4_1 (D b hb) ?_); intro o es n ho hd) | obtain ⟨o, es, n, ho, hd⟩ := D b hb
  first | ((first | refine el_0_2 (x.2.2 b o ho) ?_ | refine el_1_1 (x.2.2 b o ho) ?_); intro sl hs) | obtain ⟨sl, hs⟩ := x.2.2 b o ho
  exact ⟨_, es, n, hs, hd⟩
/-- a call that may note frames (their slots) and move generators -/
noncomputable def HSpecS (k : Nat) (w : World) (p : Program) (loose : List Str) (mean : ExcName → Option Value) (mg mb : Str → Option Value) (f : Addr) (vs : List Value) (kw : List (Str × Value)) (touched : Ledger) (Post : Ledger → Ledger → Value → Prop) : Prop :=
  ∀ (dp un : Nat) (gd : Option (List Code)) (cn : Str) (cs : Scope) (L a : Addr) (ccd : Value) (cl : List (Str × Addr)) (outer : List Env) (base g : Heap) (s : Shared) (Q E : Value → Shared → Prop),
    Below (ktrTop dp un gd cn cs L a ccd cl outer) base (envX cn cs L a ccd cl :: outer) g → (hd.heap_39 w.params).In base → Top p loose mean mg mb base → Hid g s.heap touched → g.objs.size = s.heap.objs.size → cs.kind = .function → dp + k < recursionLimit → un + 20 * k < cLine → AllBare s.gens → KtsDicts (framesOf (envX cn cs L a ccd cl :: outer)) g →
    (∀ r tl upd h' tk' gn', SlotKeep (framesOf (envX cn cs L a ccd cl :: outer)) g h' → (∀ q ∈ tl ++ upd, h'.get? q.1 = some q.2 ∧ g.get? q.1 = none) → upd.map (·.1) = touched.map (·.1) → (∀ p ∈ tl, ∀ q ∈ touched, Apt p.1 q.1) → (tl.map (·.1)).Pairwise Apt → AllBare gn' → Post tl upd r → Q r { s with heap := h', toks := tk', gens := gn' }) →
    wpAny (model PySem.Challenge.pw_xb0026_01 w) (ktrTop dp un gd cn cs L a ccd cl outer) (call (.ref f) vs kw) Q E s

section
variable {k : Nat} {w : World} {p : Program} {loose : List Str} {mean : ExcName → Option Value} {mg mb : Str → Option Value} {f : Addr} {vs : List Value} {kw : List (Str × Value)} {touched rest : Ledger} {Post : Ledger → Ledger → Value → Prop}
  {dp un : Nat} {gd : Option (List Code)} {cn : Str} {cs : Scope} {a : Addr} {ccd : Value} {cl : List (Str × Addr)} {outer : List Env} {A₀ : Around} {base h₀ : Heap} {L : Addr} {m : Str → Option Value} {s : Shared} {Q E : Value → Shared → Prop}

theorem hspecS_use (B : Below A₀ base outer h₀) (F : Fr h₀ L s.heap m) (X : (hd.heap_39 w.params).In base) (T : Top p loose mean mg mb base) (N : News h₀ L s.heap (touched ++ rest)) (hk : cs.kind = .function) (hb : AllBare s.gens) (D : KtsDicts (framesOf outer) h₀)
    (S : HSpecS k w p loose mean mg mb f vs kw touched Post) (hr : ∀ p ∈ rest, ∀ q ∈ touched, p.1 ≠ q.1) (hdp : dp + k < recursionLimit) (hu : un + 20 * k < cLine)
    (ret : ∀ r tl upd h' tk' gn' h₁, Heap.SlotsOnly (framesOf outer) h₀ h₁ → KtsDicts (framesOf outer) h₁ → Below A₀ base outer h₁ → (hd.heap_39 w.params).In h₁ → Top p loose mean mg mb h₁ → Fr h₁ L h' m → News h₁ L h' (tl ++ (upd ++ rest)) → upd.map (·.1) = touched.map (·.1) → (∀ p ∈ tl, ∀ q ∈ touched ++ rest, Apt p.1 q.1) → (tl.map (·.1)).Pairwise Apt → AllBare gn' → Post tl upd r → Q r { s with heap := h', toks := tk', gens := gn' }) :
    wpAny (model PySem.Challenge.pw_xb0026_01 w) (ktrTop dp un gd cn cs L a ccd cl outer) (call (.ref f) vs kw) Q E s := by
  have Nt : News h₀ L s.heap touched := fun p hp => N p (List.mem_append_left _ hp)
  first | ((first | refine el_0_4 (groundX (R := fun _ _ => True) (A := ktrTop dp un gd cn cs L a ccd cl outer) (env := envX cn cs L a ccd cl) B F Nt rfl rfl hk) ?_ | refine el_1_3 (groundX (R := fun _ _ => True) (A := ktrTop dp un gd cn cs L a ccd cl outer) (env := envX cn cs L a ccd cl) B F Nt rfl rfl hk) ?_ | refine el_2_2 (groundX (R := fun _ _ => True) (A := ktrTop dp un gd cn cs L a ccd cl outer) (env := envX cn cs L a ccd cl) B F Nt rfl rfl hk) ?_ | refine el_3_1 (groundX (R := fun _ _ => True) (A := ktrTop dp un gd cn cs L a ccd cl outer) (env := envX cn cs L a ccd cl) B F Nt rfl rfl hk) ?_); intro FG BG st _) | obtain ⟨FG, BG, st, _⟩ := groundX (R := fun _ _ => True) (A := ktrTop dp un gd cn cs L a ccd cl outer) (env := envX cn cs L a ccd cl) B F Nt rfl rfl hk
  have gsz := hideAll_size (touched.map (·.1)) s.heap
  have hg : ∀ b o, h₀.get? b = some o → (hideAll s.heap (touched.map (·.1))).get? b = some o := fun b o e => st b o e
  refine S dp un gd cn cs L a ccd cl outer base (hideAll s.heap (touched.map (·.1))) s Q E BG X T ⟨fun b o e => of_hideAll _ e, fun p hp => ⟨(Nt p hp).1, hideAll_none _ (List.mem_map_of_mem hp)⟩⟩ gsz hk hdp hu hb ?dict ?_
  case dict =>
    intro b hb
    rcases List.mem_cons.mp (show b ∈ L :: framesOf outer from hb) with rfl | hb
    · first | ((first | refine el_0_6 (FG.ns) ?_ | refine el_1_5 (FG.ns) ?_ | refine el_2_4 (FG.ns) ?_ | refine el_3_3 (FG.ns) ?_ | refine el_4_2 (FG.ns) ?_ | refine el_5_1 (FG.ns) ?_); intro oL es ep hL hd _) | obtain ⟨oL, es, ep, hL, hd, _⟩ := FG.ns
      exact ⟨oL, es, ep, hL, hd⟩
    · first | ((first | refine el_0_5 (D b hb) ?_ | refine el_1_4 (D b hb) ?_ | refine el_2_3 (D b hb) ?_ | refine el_3_2 (D b hb) ?_ | refine el_4_1 (D b hb) ?_); intro o es n ho hd) | obtain ⟨o, es, n, ho, hd⟩ := D b hb
      exact ⟨o, es, n, hg b o ho, hd⟩
  intro r tl upd h' tk' gn' SK HL e lo pw hb' P
  have gL : ∀ b, (hideAll s.heap (touched.map (·.1))).get? b = none → h₀.get? b = none := fun b hb => by
    cases q : h₀.get? b with
    | none => rfl
    | some o => rw [hg b o q] at hb; cases hb
  have nL : ∀ b, (hideAll s.heap (touched.map (·.1))).get? b = none → b ≠ L := fun b hb q => by
    first | ((first | refine el_0_5 (FG.ns) ?_ | refine el_1_4 (FG.ns) ?_ | refine el_2_3 (FG.ns) ?_ | refine el_3_2 (FG.ns) ?_ | refine el_4_1 (FG.ns) ?_); intro oL es ep hL _) | obtain ⟨oL, es, ep, hL, _⟩ := FG.ns
    rw [q, hL] at hb; cases hb
  have hLn : L ∉ touched.map (·.1) := fun q => by
    first | ((first | refine el_0_3 (List.mem_map.mp q) ?_ | refine el_1_2 (List.mem_map.mp q) ?_ | refine el_2_1 (List.mem_map.mp q) ?_); intro p hp e) | obtain ⟨p, hp, e⟩ := List.mem_map.mp q
    exact (Nt p hp).2.1 e
  have hL₀ : h₀.get? L = none := Heap.get?_none_of_le F.above
  have hfr : framesOf (envX cn cs L a ccd cl :: outer) = L :: framesOf outer := rfl
  rw [hfr] at SK
  have SK₀ : SlotKeep (framesOf outer) h₀ h' := ⟨fun b o e' hb => SK.keep b o (hg b o e') fun hm => by
      rcases List.mem_cons.mp hm with rfl | hm
      · rw [hL₀] at e'; cases e'
      · exact hb hm, fun b o e' => SK.up b o (hg b o e')⟩
  have only := SK₀.reslot_only
  have B' := below_only B only
  refine ret r tl upd h' tk' gn' (reslot h₀ h') only (dicts_slots D only) B' (X.keeps B'.stays) (T.keeps B'.stays) ⟨?_, SK₀.reslot_in, by rw [reslot_size]; exact F.above⟩ (fun p hp => ?_) e (fun p hp q hq => ?_) pw hb' P
  · first | ((first | refine el_0_5 (FG.ns) ?_ | refine el_1_4 (FG.ns) ?_ | refine el_2_3 (FG.ns) ?_ | refine el_3_2 (FG.ns) ?_ | refine el_4_1 (FG.ns) ?_); intro oL es ep hL r) | obtain ⟨oL, es, ep, hL, r⟩ := FG.ns
    first | ((first | refine el_0_2 (SK.up L oL hL) ?_ | refine el_1_1 (SK.up L oL hL) ?_); intro sl hs) | obtain ⟨sl, hs⟩ := SK.up L oL hL
    exact ⟨_, es, ep, hs, r⟩
  · have none' : ∀ b, h₀.get? b = none → (reslot h₀ h').get? b = none := fun b hb => by rw [reslot_get, hb]; rfl
    have old : ∀ p ∈ tl ++ upd, h'.get? p.1 = some p.2 ∧ p.1 ≠ L ∧ (reslot h₀ h').get? p.1 = none := fun p hp => ⟨(HL p hp).1, nL _ (HL p hp).2, none' _ (gL _ (HL p hp).2)⟩
    rcases List.mem_append.mp hp with hp | hp
    · exact old p (List.mem_append_left _ hp)
    · rcases List.mem_append.mp hp with hp | hp
      · exact old p (List.mem_append_right _ hp)
      · have z := N p (List.mem_append_right _ hp)
        refine ⟨SK.keep _ _ (hideAll_get _ z.1 fun q => ?_) (fun hm => ?_), z.2.1, none' _ z.2.2⟩
        · first | ((first | refine el_0_3 (List.mem_map.mp q) ?_ | refine el_1_2 (List.mem_map.mp q) ?_ | refine el_2_1 (List.mem_map.mp q) ?_); intro q' hq' e') | obtain ⟨q', hq', e'⟩ := List.mem_map.mp q
          exact hr p hp q' hq' e'.symm
        · rcases List.mem_cons.mp hm with hm | hm
          · exact z.2.1 hm
          · first | ((first | refine el_0_3 (frame_mem B.frames hm) ?_ | refine el_1_2 (frame_mem B.frames hm) ?_ | refine el_2_1 (frame_mem B.frames hm) ?_); intro _ o ho) | obtain ⟨_, o, ho⟩ := frame_mem B.frames hm
            rw [z.2.2] at ho; cases ho
  · rcases List.mem_append.mp hq with hq | hq
    · exact lo p hp q hq
    · intro e'
      have z := N q (List.mem_append_right _ hq)
      have y := (HL p (List.mem_append_left _ hp)).2
      have x := hideAll_get (touched.map (·.1)) z.1 fun q' => by
        first | ((first | refine el_0_3 (List.mem_map.mp q') ?_ | refine el_1_2 (List.mem_map.mp q') ?_ | refine el_2_1 (List.mem_map.mp q') ?_); intro q'' hq'' e'') | obtain ⟨q'', hq'', e''⟩ := List.mem_map.mp q'
        exact hr q hq q'' hq'' e''.symm
      rw [e', x] at y
      cases y
end

end
-- CATCH
section
open PySem PySem.Spec PySem.W PyProof.Rows PySem.Calls
section
variable {M : Model} {A : Around} {E : Value → Shared → Prop} {s : Shared}
/-- the flight is set to the same frame again -/
theorem setFlight_held {base : Heap} {l : List Env} {e L : Addr} {cls a0 : Value} {Q : Unit → Shared → Prop} (x : Heap.HeldW base l e cls a0 L s.heap)
    (h : ∀ h', Heap.HeldW base l e cls a0 L h' → s.heap.UpToSlots h' → Q () { s with heap := h' }) : wpAny M A (setFlight (.ref e) (some L)) Q E s := by
  first | ((first | refine el_0_17 (x) ?_ | refine el_1_16 (x) ?_ | refine el_2_15 (x) ?_ | refine el_3_14 (x) ?_ | refine el_4_13 (x) ?_ | refine el_5_12 (x) ?_ | refine el_6_11 (x) ?_ | refine el_7_10 (x) ?_ | refine el_8_9 (x) ?_ | refine el_9_8 (x) ?_ | refine el_10_7 (x) ?_ | refine el_11_6 (x) ?_ | refine el_12_5 (x) ?_); (try clear x); intro hkb hen hl oe vs T oT ts he hcls hd h1 hnT hTe hT hdT h3) | obtain ⟨hkb, hen, hl, oe, vs, T, oT, ts, he, hcls, hd, h1, hnT, hTe, hT, hdT, h3⟩ := x
  have hsz3 : 3 < ts.size := (Array.getElem?_eq_some_iff.mp h3).1
  have other : ∀ b, b ≠ T → (s.heap.update T (Obj.mapFields (·.setIfInBounds 3 ((some L : Option Addr).elim Value.none fun f => rawInt f)))).get? b = s.heap.get? b :=
    fun b hb => Heap.get?_update_other _ _ (Ne.symm hb)
  have nr : ∀ b o, s.heap.get? b = some o → (∀ vs, o.data ≠ .fields vs) → b ≠ T := fun b o hb hnf q => by
    rw [q, hT] at hb
    cases hb
    exact hnf ts hdT
  unfold setFlight
  refine wpAny_bind (wpAny_field he hd h1 ?_)
  rw [if_pos (show (Value.ref T != Value.none) = true from by simp)]
  refine wpAny_setField hT hdT hsz3 (h _ ⟨fun b o hbo => (other b fun q => by rw [q, hnT] at hbo; cases hbo).trans (hkb b o hbo), hen,
    hl.of_keeps fun b o hb hnf => ⟨o, (other b (nr b o hb hnf)).trans hb, rfl⟩, ?_⟩ fun b o hb hnf => ⟨o.slots, (other b (nr b o hb hnf)).trans hb⟩)
  exact ⟨oe, vs, T, _, _, (other e (Ne.symm hTe)).trans he, hcls, hd, h1, hnT, hTe, Heap.get?_update_self _ hT (Obj.isFreed_of_fields (Obj.data_mapFields hdT _)), Obj.data_mapFields hdT _, by simp [hsz3]⟩
end

section
variable {prog : Program} {w : World} {A : Around} {R : GenEnd} {Y : Protocol} {n : Nat} {s₀ : Shared} {s : Shared} {env : Env} {outer : List Env} {C e : Addr} {B : Heap} {oe : Obj} {vs : Array Value} {a0 : Value}
  {K : Flow → Sem Fin} {gd : Bool → Bool} {lv : List Value → List Value}

/-- what a for loop's body in a generator raises, all the way out -/
theorem seg_out {t : PySem.Expr} {it : Value} {body orelse fbody : List Stmt} {p : Pos} (hfr : A.frames = some outer) (hk : env.scope.kind = .function) (hf : env.frame = some C)
    (hl : s.heap.FunFrames B (env :: outer)) (hkb : B.StaysIn s.heap) (hen : B.get? e = none) (he : s.heap.get? e = some oe) (hd : oe.data = .fields vs) (h1 : vs[1]? = some .none) (h0 : vs[0]? = some a0)
    (hR : ∀ h', Heap.FlyingW B outer e oe.cls a0 h' → s.heap.UpToSlots h' → R n s₀ (.error (.ref e)) { s with heap := h' })
    (hov1 : (A.over (.forLoop t it body orelse env) [.ret (fun r => ((match r with | .ok f => (.pure f : Sem Flow) | .error e => .raise e).onRaise fun (x : Value) => do
        if (← field x 1) == Value.none then unsupported "frame.own-activation:exception-without-traceback"
        setFlight x env.frame).wrap K (fun e => (leaving env e).wrap (fun _ => .raise e) .raise id id) gd lv) none (gd false) (lv []) (.func fbody env) p []]).frames = some (env :: outer) := by rfl) :
    Seg (model prog w) A R Y n s₀ (.forLoop t it body orelse env) ((do noteFrame (.ref e) env; theTreesLotGoes (.ref e) : Sem Unit).wrap (fun _ => .raise (.ref e)) .raise id id)
      [.ret (fun r => ((match r with | .ok f => (.pure f : Sem Flow) | .error e => .raise e).onRaise fun (x : Value) => do
        if (← field x 1) == Value.none then unsupported "frame.own-activation:exception-without-traceback"
        setFlight x env.frame).wrap K (fun e => (leaving env e).wrap (fun _ => .raise e) .raise id id) gd lv) none (gd false) (lv []) (.func fbody env) p []] s := by
  refine seg_wrap (wpAny_bind ?_)
  unfold noteFrame
  simp only [hf]
  refine wpAny_bind (wpAny_field he hd h1 ?_)
  rw [if_neg (by decide)]
  refine wpAny_entryW (hadNext := false) hov1 hl hf he hkb hen hd (Array.getElem?_eq_some_iff.mp h1).1 h0 fun h₁ hN => ?_
  refine wpAny_theTreesLotGoes ?_
  first | ((first | refine el_0_4 (hN) ?_ | refine el_1_3 (hN) ?_ | refine el_2_2 (hN) ?_ | refine el_3_1 (hN) ?_); (try clear hN); intro k1 k2 k3 k4) | obtain ⟨k1, k2, k3, k4⟩ := hN
  have held : Heap.HeldW B (env :: outer) e oe.cls a0 C h₁ := ⟨k1, hen, k2, k3⟩
  have u1 : s.heap.UpToSlots h₁ := k4
  refine seg_leaf (.error (.ref e)) ?_
  show Seg _ A R Y n s₀ _ (((Sem.raise (.ref e) : Sem Flow).onRaise _).wrap K _ gd lv) [] _
  rw [Sem.onRaise_eq_wrap]
  show Seg _ A R Y n s₀ _ (Sem.wrap K _ gd lv (Sem.bind _ _)) [] _
  rw [Sem.bind_eq_wrap, Sem.wrap_wrap]
  first | ((first | refine el_0_14 (k3) ?_ | refine el_1_13 (k3) ?_ | refine el_2_12 (k3) ?_ | refine el_3_11 (k3) ?_ | refine el_4_10 (k3) ?_ | refine el_5_9 (k3) ?_ | refine el_6_8 (k3) ?_ | refine el_7_7 (k3) ?_ | refine el_8_6 (k3) ?_ | refine el_9_5 (k3) ?_ | refine el_10_4 (k3) ?_ | refine el_11_3 (k3) ?_ | refine el_12_2 (k3) ?_); (try clear k3); intro oe' vs' T oT ts he' hcls' hd' h1' hnT hTe hT hdT h3) | obtain ⟨oe', vs', T, oT, ts, he', hcls', hd', h1', hnT, hTe, hT, hdT, h3⟩ := k3
  refine seg_wrap (wpAny_bind (wpAny_field he' hd' h1' ?_))
  rw [if_neg (by simp)]
  refine setFlight_held held fun h₂ held₂ u2 => ?_
  show Seg _ A R Y n s₀ _ ((leaving env (.ref e)).wrap (fun _ => .raise (.ref e)) .raise id id) [] _
  refine seg_wrap ?_
  unfold leaving
  refine wpAny_bind (wpAny_noteFrame_againW hf held₂.2.2.2 ?_)
  refine wpAny_landsW held₂ fun h₃ hfl u3 => ?_
  first | ((first | refine el_0_4 (hfl) ?_ | refine el_1_3 (hfl) ?_ | refine el_2_2 (hfl) ?_ | refine el_3_1 (hfl) ?_); (try clear hfl); intro f1 f2 zq1 f4; (first | refine el_0_3 (zq1) ?_ | refine el_1_2 (zq1) ?_ | refine el_2_1 (zq1) ?_); (try clear zq1); intro _ _ f3) | obtain ⟨f1, f2, ⟨_, _, f3⟩, f4⟩ := hfl
  exact seg_end (.error (.ref e)) (hR h₃ ⟨f1, f2, f3, f4⟩ ((u1.trans u2).trans u3))
end

end
-- GENRUN
section
open PySem PySem.Spec PySem.W PyProof.Rows PySem.Calls PyProof.V
theorem outs_cons (x : Int) (r : List Int) (last : Option Int) (n : Nat) : outs (x :: r) last (n + 1) = if x = 127 then [] else if x = 0 then (match last with | some l => List.replicate (n + 1) l | none => []) else x :: outs r (some x) n := rfl
theorem fr_congr {g h : Heap} {L : Addr} {m m' : Str → Option Value} (F : Fr g L h m) (e : ∀ z, m' z = m z) : Fr g L h m' := by
  rw [show m' = m from funext e]
  exact F
theorem gen_call (w : World) (p : Program) (loose : List Str) (mean : ExcName → Option Value) (mg mb : Str → Option Value) {A : Around} {g : Heap} {L r : Addr} {m : Str → Option Value} {news : Ledger} {rs : List Int} {rvs : List Value} {rc N : Nat} {Q E : Value → Shared → Prop} {s : Shared}
    (F : Fr g L s.heap m) (X : (hd.heap_39 w.params).In g) (N₁ : News g L s.heap news) (T : Top p loose mean mg mb g) (hrm : (r, listOf (List.toArray rvs) rc) ∈ news) (ri : IntsAre rvs rs) (h0 : rs[0]? ≠ some 0) (hN : 0 < N) (hroom : A.depth < recursionLimit)
    (h : ∀ C ga oC nm qn h₁ tk c, Fr g L h₁ m → News g L h₁ ((C, oC) :: (ga, genO s.gens.size nm qn) :: news) → Apt C ga → (∀ p ∈ news, p.1 < C) → (∀ p ∈ news, p.1 < ga) →
      (∀ (A' : Around) (s' : Shared), A'.handled = none → (∀ b o, g.get? b = some o → s'.heap.get? b = some o) → s'.heap.get? C = some oC → s'.heap.get? r = some (listOf (List.toArray rvs) rc) → g.objs.size ≤ s'.heap.objs.size →
        Seg (model PySem.Challenge.pw_xb0026_01 w) A' (GEnd C s'.heap.objs.size (outs rs none N) N) (GProto g C s'.heap.objs.size r (listOf (List.toArray rvs) rc) (outs rs none N) N) N s' c ((model PySem.Challenge.pw_xb0026_01 w).den c) [] s') →
      Q (.ref ga) { s with heap := h₁, toks := tk, gens := s.gens.push (.fresh c) }) :
    wpAny (model PySem.Challenge.pw_xb0026_01 w) A (call (.ref 102) [.ref r]) Q E s := by
  w_on
  k_dflt refine' h_callgen (binds := [(Str.ofString "grouping", .ref r)]) F X N₁ T ?k5 ?k6 hroom ?k8 ?k9 ?_ ?c1 ?c2 ?c3 ?c4
  case k5 => k_is
  case k6 => k_is
  case k8 => exact BindsTo.of_eq rfl
  case k9 => exact locs rfl
  case c1 => decide
  case c2 => exact rfl
  case c3 => exact rfl
  case c4 => exact rfl
  intro C ga oC nm qn h₁ tk FC NC nsC aCg lC lg hC
  refine h C ga oC nm qn h₁ tk _ FC NC aCg lC lg ?_
  intro A' s' hA' hkeep hCo hlo hle
  have rg : g.get? r = none := (N₁ _ hrm).2.2
  have rC : r ≠ C := Nat.ne_of_lt (lC _ hrm)
  have F1 : Fr g C s'.heap _ := ⟨nsC.ns hCo, hkeep, hC⟩
  simp only [List.reverse_cons, List.reverse_nil, List.nil_append, List.cons_append, lookup_if, lookup_no] at F1
  have N1 : News g C s'.heap [(r, listOf (List.toArray rvs) rc)] := fun q hq => by
    obtain rfl := List.mem_singleton.mp hq
    exact ⟨hlo, rC, rg⟩
  clear FC NC nsC F N₁
  refine seg_func ?_
  refine seg_execs_cons ?_
  refine seg_wrap ?_
  (try k_unmd); (try k_fold); repeat' (first | ((fail_if_success (fail_if_success (with_reducible show wpAny _ _ (storeName _ _ _) _ _ _))); k_dflt (refine' stNK ?y9F ?y9N ?_ ?y9a ?y9b; (case y9a => rfl); (case y9b => rfl); (case y9F => k_asm); (case y9N => k_asm); k_whole); intro h' F' N' sb' ns'; clear ns'; revert h' F' N' sb'; intros; (try k_sweep)) | walk_at "S1")
  refine seg_execs_cons ?_
  refine segFor ?_
  (try k_unmd); (try k_fold); repeat' (walk_at "S1")
  rename Fr _ _ _ _ => F2
  rename News _ _ _ _ => N2
  rename Heap.SameBut _ _ _ => sb2
  rename_i h2 _ _
  have eI : h2.objs.size = s'.heap.objs.size := sb2.1
  have hCs : C < s'.heap.objs.size := Heap.lt_size hCo
  have hrs : r < s'.heap.objs.size := Heap.lt_size hlo
  have hIr : s'.heap.objs.size ≠ r := Nat.ne_of_gt hrs
  refine wpAny_pyIter_list ⟨_, (N2 _ (.head _)).1, rfl, rc, rfl⟩ ?_
  intro pp
  rw [show ({ heap := h2, gens := s'.gens, drawn := s'.drawn, toks := s'.toks + 1, os := s'.os } : Shared).heap.objs.size = s'.heap.objs.size from eI]
  have nI : g.get? s'.heap.objs.size = none := Heap.get?_none_of_le hle
  have sz : rvs.toArray.size = rs.length := by rw [List.size_toArray, ri.length]
  refine seg_for_list (h₀ := g) (α := Option (Int × Tok)) (items := rvs.toArray) (ol := listOf (List.toArray rvs) rc) [Str.ofString "interval"] (fun a y => if y = Str.ofString "last_interval" then some (match a with | none => Value.none | some l => .int l.1 l.2) else if y = Str.ofString "grouping" then some (.ref r) else none)
    (fun i n a => 0 < n ∧ n ≤ N ∧ N - n ≤ (outs rs none N).length ∧ outs (rs.drop i) (a.map (·.1)) n = (outs rs none N).drop (N - n) ∧ (a = none → i = 0)) ⟨rfl, rc, rfl⟩ (Ne.symm hIr) ?hov ?turn ?fin _ 0 none (fun _ => none) N s' _ { cls := .type "list_iterator", data := .fields #[.ref r, .int 0 0] } rfl (Nat.zero_le _) ⟨hN, Nat.le_refl _, by omega, by rw [List.drop_zero, Nat.sub_self, List.drop_zero]; rfl, fun _ => rfl⟩ ⟨_, _, rfl, ?keep⟩ ?F ?N ⟨rfl, rfl⟩
  case hov => exact hA'
  case keep =>
    intro b o hb _ e
    exact Heap.get?_push_of_some _ ((sb2.2 b hb).trans e)
  case F =>
    have FP := F2.push { cls := .type "list_iterator", data := .fields #[.ref r, .int 0 0] }
    refine ⟨?_, FP.keep, FP.above⟩
    first | ((first | refine el_0_7 (FP.ns) ?_ | refine el_1_6 (FP.ns) ?_ | refine el_2_5 (FP.ns) ?_ | refine el_3_4 (FP.ns) ?_ | refine el_4_3 (FP.ns) ?_ | refine el_5_2 (FP.ns) ?_ | refine el_6_1 (FP.ns) ?_); intro o es ep e1 e2 e3 e4) | obtain ⟨o, es, ep, e1, e2, e3, e4⟩ := FP.ns
    refine ⟨o, es, ep, e1, e2, e3, fun y => (e4 y).trans ?_⟩
    by_cases hy : y = Str.ofString "interval"
    · subst hy; rfl
    · simp only [List.mem_singleton, if_neg hy]
  case N =>
    intro q hq
    rcases List.mem_cons.mp hq with rfl | hq
    · exact ⟨Heap.get?_push_of_some _ (N2 _ (.head _)).1, (N2 _ (.head _)).2⟩
    · obtain rfl := List.mem_singleton.mp hq
      exact ⟨by rw [← eI]; exact Heap.get?_push_size _ rfl, Nat.ne_of_gt hCs, nI⟩
  case fin =>
    intro a u n s₀ s1 hl hs1 F3 N3
    first | ((first | refine el_0_5 (hl) ?_ | refine el_1_4 (hl) ?_ | refine el_2_3 (hl) ?_ | refine el_3_2 (hl) ?_ | refine el_4_1 (hl) ?_); (try clear hl); intro hl1 hl2 hl3 hl4 hl5) | obtain ⟨hl1, hl2, hl3, hl4, hl5⟩ := hl
    refine segBlockNil (seg_leaf (.ok .next) (seg_end (.ok (.ret .none)) ⟨rfl, hs1, ?_⟩))
    rw [sz, List.drop_length] at hl4
    first | ((first | refine el_0_2 (show ∃ k, n = k + 1 from ⟨n - 1, by omega⟩) ?_ | refine el_1_1 (show ∃ k, n = k + 1 from ⟨n - 1, by omega⟩) ?_); intro k zq2; subst zq2) | obtain ⟨k, rfl⟩ : ∃ k, n = k + 1 := ⟨n - 1, by omega⟩
    have e : [] = (outs rs none N).drop (N - (k + 1)) := hl4
    have := congrArg List.length e
    rw [List.length_drop, List.length_nil] at this
    omega
  case turn =>
    intro i v a u n s₀ s1 oI hv hl hs1 F3 N3 hit again
    clear F2 N2
    have zq1 : ∃ y, rs[i]? = some y := by
      have hlt : i < rvs.length := by
        rcases Nat.lt_or_ge i rvs.length with h | h
        · exact h
        · rw [List.getElem?_toArray, List.getElem?_eq_none h] at hv; cases hv
      exact ⟨_, List.getElem?_eq_getElem (by rw [← ri.length]; exact hlt)⟩
    first | ((first | refine el_0_2 (zq1) ?_ | refine el_1_1 (zq1) ?_); (try clear zq1); intro y hy) | obtain ⟨y, hy⟩ := zq1
    first | ((first | refine el_0_2 (ri.get i y hy) ?_ | refine el_1_1 (ri.get i y hy) ?_); intro yt hyt) | obtain ⟨yt, hyt⟩ := ri.get i y hy
    obtain rfl : v = .int y yt := by
      rw [List.getElem?_toArray, hyt] at hv
      exact (Option.some.inj hv).symm
    first | ((first | refine el_0_5 (hl) ?_ | refine el_1_4 (hl) ?_ | refine el_2_3 (hl) ?_ | refine el_3_2 (hl) ?_ | refine el_4_1 (hl) ?_); (try clear hl); intro hl1 hl2 hl3 hl4 hl5) | obtain ⟨hl1, hl2, hl3, hl4, hl5⟩ := hl
    have hdrop : rs.drop i = y :: rs.drop (i + 1) := by
      first | ((first | refine el_0_2 (List.getElem?_eq_some_iff.mp hy) ?_ | refine el_1_1 (List.getElem?_eq_some_iff.mp hy) ?_); intro hi e) | obtain ⟨hi, e⟩ := List.getElem?_eq_some_iff.mp hy
      rw [List.drop_eq_getElem_cons hi, e]
    rw [hdrop] at hl4
    refine wpAny_of_eq (a := ()) rfl ?_
    (try k_unmd); (try k_fold); repeat' (first | ((fail_if_success (fail_if_success (with_reducible show wpAny _ _ (storeName _ _ _) _ _ _))); k_dflt (refine' stNK ?y9F ?y9N ?_ ?y9a ?y9b; (case y9a => rfl); (case y9b => rfl); (case y9F => k_asm); (case y9N => k_asm); k_whole); intro h' F' N' sb' ns'; clear ns'; revert h' F' N' sb'; intros; (try k_sweep)) | walk_at "S1")
    rename Heap.SameBut _ _ _ => sb3
    refine seg_execs_cons (segIf ?_)
    have hlen : ∀ {l : List Int}, outs (y :: rs.drop (i + 1)) (a.map (·.1)) n = l → (outs rs none N).drop (N - n) = l := fun e => hl4.symm.trans e
    clear hdrop hl4 hyt hv
    (try k_unmd); (try k_fold); repeat' (walk_at "S1")
    · rename y = 127 => h127
      refine seg_execs_cons (seg_wrap ?_)
      (try k_unmd); (try k_fold); repeat' (walk_at "S1")
      rename Heap.SameBut _ _ _ => sb4
      refine seg_leaf (.ok (.ret .none)) (seg_end (.ok (.ret .none)) ⟨rfl, ?_, ?_⟩)
      · exact hs1.step fun b o hb _ e => (sb4.2 b hb).trans e
      · first | ((first | refine el_0_2 (show ∃ k, n = k + 1 from ⟨n - 1, by omega⟩) ?_ | refine el_1_1 (show ∃ k, n = k + 1 from ⟨n - 1, by omega⟩) ?_); intro k zq3; subst zq3) | obtain ⟨k, rfl⟩ : ∃ k, n = k + 1 := ⟨n - 1, by omega⟩
        have e := hlen (by rw [outs_cons, if_pos h127])
        have := congrArg List.length e
        rw [List.length_drop, List.length_nil] at this
        omega
    · rename ¬ y = 127 => h127
      refine seg_execs_cons (segIf ?_)
      (try k_unmd); (try k_fold); repeat' (walk_at "S1")
      · rename y = 0 => hz
        refine seg_execs_cons (segIf ?_)
        cases a with
        | none =>
          exfalso
          obtain rfl := hl5 rfl
          exact h0 (by rw [hy, hz])
        | some l =>
          try dsimp only at *
          (try k_unmd); (try k_fold); repeat' (walk_at "S1")
          rename Heap.SameBut _ _ _ => sb4
          rename Fr _ _ _ _ => F4
          rename News _ _ _ _ => N4
          refine seg_execs_cons (seg_While fun p => ?_)
          refine seg_while_yield (h₀ := g) (x := l.1) rfl rfl rfl rfl ?htest ?heval n s₀ _ oI hl1 hl2 ?hx (hs1.step fun b o hb _ e => (sb4.2 b hb).trans e) F4 N4
          case htest =>
            intro s5
            (try k_unmd); (try k_fold); repeat' (walk_at "S1")
          case heval =>
            intro s5 F5
            clear F4 N4 N3
            (try k_unmd); (try k_fold); repeat' (walk_at "S1")
          case hx =>
            intro j j1 j2
            first | ((first | refine el_0_2 (show ∃ k, n = k + 1 from ⟨n - 1, by omega⟩) ?_ | refine el_1_1 (show ∃ k, n = k + 1 from ⟨n - 1, by omega⟩) ?_); intro k zq4; subst zq4) | obtain ⟨k, rfl⟩ : ∃ k, n = k + 1 := ⟨n - 1, by omega⟩
            have e : (outs rs none N).drop (N - (k + 1)) = List.replicate (k + 1) l.1 := hlen (by rw [outs_cons, if_neg h127, if_pos hz] <;> rfl)
            have : ((outs rs none N).drop (N - (k + 1)))[j - (N - (k + 1))]? = some l.1 := by
              rw [e, List.getElem?_replicate, if_pos (by omega)]
            rw [List.getElem?_drop] at this
            rw [← this]
            congr 1
            omega
      · rename ¬ y = 0 => hz
        first | ((first | refine el_0_2 (show ∃ k, n = k + 1 from ⟨n - 1, by omega⟩) ?_ | refine el_1_1 (show ∃ k, n = k + 1 from ⟨n - 1, by omega⟩) ?_); intro k zq5; subst zq5) | obtain ⟨k, rfl⟩ : ∃ k, n = k + 1 := ⟨n - 1, by omega⟩
        rename Heap.SameBut _ _ _ => sb4
        have F4 := by rename Fr _ _ _ _ => F4; exact F4
        have N4 := by rename News _ _ _ _ => N4; exact N4
        refine seg_execs_cons (seg_Expr_Yield rfl rfl rfl ?_)
        (try k_unmd); (try k_fold); repeat' (walk_at "S1")
        rename Heap.SameBut _ _ _ => sb5
        rename (∀ (x : Value) (s'' : Shared), _ → _) => hk5
        have zI := N4 (s'.heap.objs.size, oI) (.tail _ (.head _))
        have zr := N4 (r, listOf (List.toArray rvs) rc) (.head _)
        first | ((first | refine el_0_3 (LCg.ns_obj F4.ns) ?_ | refine el_1_2 (LCg.ns_obj F4.ns) ?_ | refine el_2_1 (LCg.ns_obj F4.ns) ?_); intro oC4 hC4 zq6; clear zq6) | obtain ⟨oC4, hC4, -⟩ := LCg.ns_obj F4.ns
        have e := hlen (by rw [outs_cons, if_neg h127, if_neg hz])
        refine ⟨⟨yt, y, rfl, ?_⟩, hs1.step fun b o hb _ e => (sb5.2 b hb).trans e, oI, oC4, zI.1, hC4, fun s2 k1 k2 k3 k4 k0 => ?_⟩
        · have : ((outs rs none N).drop (N - (k + 1)))[0]? = some y := by rw [e]; rfl
          rw [List.getElem?_drop] at this
          rw [← this]
          congr 1
          omega
        · refine hk5 .none s2 ?_
          have F5 : Fr g C s2.heap _ := ⟨F4.ns.at' fun o q => k3.trans (hC4.symm.trans q), k1, F4.above⟩
          have N5 : News g C s2.heap [(r, listOf (List.toArray rvs) rc), (s'.heap.objs.size, oI)] := fun q hq => by
            rcases List.mem_cons.mp hq with rfl | hq
            · exact ⟨k4, zr.2⟩
            · obtain rfl := List.mem_singleton.mp hq
              exact ⟨k2, zI.2⟩
          clear F4 N4 N3 sb5
          refine seg_execs_cons (seg_wrap ?_)
          (try k_unmd); (try k_fold); repeat' (first | ((fail_if_success (fail_if_success (with_reducible show wpAny _ _ (storeName _ _ _) _ _ _))); k_dflt (refine' stNK ?y9F ?y9N ?_ ?y9a ?y9b; (case y9a => rfl); (case y9b => rfl); (case y9F => k_asm); (case y9N => k_asm); k_whole); intro h' F' N' sb' ns'; clear ns'; revert h' F' N' sb'; intros; (try k_sweep)) | walk_at "S1")
          rename Heap.SameBut _ _ _ => sb6
          rename Fr _ _ _ _ => F6
          rename News _ _ _ _ => N6
          refine again (some (y, yt)) (fun _ => some (.int y yt)) k s2 _ oI ⟨by omega, by omega, ?_, ?_, fun q => by cases q⟩ ((GSince.refl _ _ s2).step fun b o hb _ e => (sb6.2 b hb).trans e) (fr_congr F6 fun z => ?_) N6 hit
          · have := congrArg List.length e
            rw [List.length_drop, List.length_cons] at this
            omega
          · have : (outs rs none N).drop (N - k) = ((outs rs none N).drop (N - (k + 1))).drop 1 := by
              rw [List.drop_drop]
              congr 1
              omega
            rw [this, e]
            rfl
          · by_cases q1 : z = Str.ofString "interval"
            · subst q1; rfl
            · by_cases q2 : z = Str.ofString "last_interval"
              · subst q2; rfl
              · simp only [List.mem_singleton, if_neg q1, if_neg q2]

end
-- GENBAD
section
open PySem PySem.Spec PySem.W PyProof.Rows PySem.Calls PyProof.V
theorem frames_shift {base B h h' : Heap} : ∀ {l : List Env}, h.FunFrames base l → (∀ L ∈ framesOf l, B.get? L = none) → (∀ L ∈ framesOf l, ∀ o, h.get? L = some o → h'.get? L = some o) → h'.FunFrames B l
  | [], _, _, _ => trivial
  | e :: r, q, hB, hh => by
    first | ((first | refine el_0_3 (q) ?_ | refine el_1_2 (q) ?_ | refine el_2_1 (q) ?_); (try clear q); intro hk zq1 hr; (first | refine el_0_6 (zq1) ?_ | refine el_1_5 (zq1) ?_ | refine el_2_4 (zq1) ?_ | refine el_3_3 (zq1) ?_ | refine el_4_2 (zq1) ?_ | refine el_5_1 (zq1) ?_); (try clear zq1); intro L o hf _ ho hd) | obtain ⟨hk, ⟨L, o, hf, _, ho, hd⟩, hr⟩ := q
    have hm : framesOf (e :: r) = L :: framesOf r := by unfold framesOf; rw [List.filterMap_cons, hf]
    rw [hm] at hB hh
    exact ⟨hk, ⟨L, o, hf, hB L (.head _), hh L (.head _) o ho, hd⟩, frames_shift hr (fun L' h => hB L' (.tail _ h)) fun L' h => hh L' (.tail _ h)⟩
theorem gen_bad (w : World) (p : Program) (loose : List Str) (mean : ExcName → Option Value) (mg mb : Str → Option Value) {A : Around} {g : Heap} {L r : Addr} {m : Str → Option Value} {news : Ledger} {rs : List Int} {rvs : List Value} {rc : Nat} {Q E : Value → Shared → Prop} {s : Shared}
    (F : Fr g L s.heap m) (X : (hd.heap_39 w.params).In g) (N₁ : News g L s.heap news) (T : Top p loose mean mg mb g) (hrm : (r, listOf (List.toArray rvs) rc) ∈ news) (ri : IntsAre rvs (0 :: rs)) (hroom : A.depth < recursionLimit)
    (h : ∀ C ga oC nm qn h₁ tk c, Fr g L h₁ m → News g L h₁ ((C, oC) :: (ga, genO s.gens.size nm qn) :: news) → Apt C ga → (∀ p ∈ news, p.1 < C) → (∀ p ∈ news, p.1 < ga) → g.objs.size ≤ C →
      (∀ (A' : Around) (outer' : List Env) (base : Heap) (s' : Shared), A'.handled = none → A'.frames = some outer' → s'.heap.FunFrames base outer' → C ∉ framesOf outer' → (∀ b o, g.get? b = some o → s'.heap.get? b = some o) → s'.heap.get? C = some oC → s'.heap.get? r = some (listOf (List.toArray rvs) rc) → g.objs.size ≤ s'.heap.objs.size →
        Seg (model PySem.Challenge.pw_xb0026_01 w) A' (fun _ _ res s₁ => ∃ e, res = .error (.ref e) ∧ ∃ hR a0 h₂ tk₂, s₁ = { s' with heap := h₂, toks := tk₂ } ∧ (∀ b o, b ≠ C → b ≠ s'.heap.objs.size → s'.heap.get? b = some o → hR.get? b = some o) ∧ Heap.FlyingW (hideAll hR (C :: framesOf outer')) outer' e (.type "ValueError") a0 h₂ ∧ hR.UpToSlots h₂)
          (fun _ _ _ _ _ => False) 0 s' c ((model PySem.Challenge.pw_xb0026_01 w).den c) [] s') →
      Q (.ref ga) { s with heap := h₁, toks := tk, gens := s.gens.push (.fresh c) }) :
    wpAny (model PySem.Challenge.pw_xb0026_01 w) A (call (.ref 102) [.ref r]) Q E s := by
  w_on
  k_dflt refine' h_callgen (binds := [(Str.ofString "grouping", .ref r)]) F X N₁ T ?k5 ?k6 hroom ?k8 ?k9 ?_ ?c1 ?c2 ?c3 ?c4
  case k5 => k_is
  case k6 => k_is
  case k8 => exact BindsTo.of_eq rfl
  case k9 => exact locs rfl
  case c1 => decide
  case c2 => exact rfl
  case c3 => exact rfl
  case c4 => exact rfl
  intro C ga oC nm qn h₁ tk FC NC nsC aCg lC lg hC
  refine h C ga oC nm qn h₁ tk _ FC NC aCg lC lg hC ?_
  intro A' outer' base s' hA' hfr hff hCn hkeep hCo hlo hle
  have rg : g.get? r = none := (N₁ _ hrm).2.2
  have rC : r ≠ C := Nat.ne_of_lt (lC _ hrm)
  have F1 : Fr g C s'.heap _ := ⟨nsC.ns hCo, hkeep, hC⟩
  simp only [List.reverse_cons, List.reverse_nil, List.nil_append, List.cons_append, lookup_if, lookup_no] at F1
  have N1 : News g C s'.heap [(r, listOf (List.toArray rvs) rc)] := fun q hq => by
    obtain rfl := List.mem_singleton.mp hq
    exact ⟨hlo, rC, rg⟩
  clear FC NC nsC F N₁
  refine seg_func ?_
  refine seg_execs_cons ?_
  refine seg_wrap ?_
  (try k_unmd); (try k_fold); repeat' (first | ((fail_if_success (fail_if_success (with_reducible show wpAny _ _ (storeName _ _ _) _ _ _))); k_dflt (refine' stNK ?y9F ?y9N ?_ ?y9a ?y9b; (case y9a => rfl); (case y9b => rfl); (case y9F => k_asm); (case y9N => k_asm); k_whole); intro h' F' N' sb' ns'; clear ns'; revert h' F' N' sb'; intros; (try k_sweep)) | walk_at "S1")
  refine seg_execs_cons ?_
  refine segFor ?_
  (try k_unmd); (try k_fold); repeat' (walk_at "S1")
  rename Fr _ _ _ _ => F2
  rename News _ _ _ _ => N2
  rename Heap.SameBut _ _ _ => sb2
  rename_i h2 _ _
  have eI : h2.objs.size = s'.heap.objs.size := sb2.1
  have hCs : C < s'.heap.objs.size := Heap.lt_size hCo
  have hrs : r < s'.heap.objs.size := Heap.lt_size hlo
  have hIr : s'.heap.objs.size ≠ r := Nat.ne_of_gt hrs
  refine wpAny_pyIter_list ⟨_, (N2 _ (.head _)).1, rfl, rc, rfl⟩ ?_
  intro pp
  rw [show ({ heap := h2, gens := s'.gens, drawn := s'.drawn, toks := s'.toks + 1, os := s'.os } : Shared).heap.objs.size = s'.heap.objs.size from eI]
  have nI : g.get? s'.heap.objs.size = none := Heap.get?_none_of_le hle
  have sz : rvs.toArray.size = rs.length + 1 := by rw [List.size_toArray, ri.length]; rfl
  refine segForLoop ?_
  have zI : (h2.push { cls := .type "list_iterator", data := .fields #[.ref r, .int 0 0] }).get? s'.heap.objs.size = some { cls := .type "list_iterator", data := .fields #[.ref r, .int 0 0] } := by
    rw [← eI]; exact Heap.get?_push_size _ rfl
  refine (Walks.list (prog := PySem.Challenge.pw_xb0026_01) (w := w) (by exact hA') s'.heap.objs.size r (Ne.symm hIr) rvs.toArray).item 0 _ _ _ (by rw [sz]; omega) ⟨⟨_, zI, rfl, rfl⟩, ⟨_, Heap.get?_push_of_some _ (N2 _ (.head _)).1, rfl, rc, rfl⟩⟩ fun v h' tk' hv hst hk' => ?_
  first | ((first | refine el_0_2 (hst) ?_ | refine el_1_1 (hst) ?_); (try clear hst); intro zq2 _; (first | refine el_0_3 (zq2) ?_ | refine el_1_2 (zq2) ?_ | refine el_2_1 (zq2) ?_); (try clear zq2); intro oI' hI' hit') | obtain ⟨⟨oI', hI', hit'⟩, _⟩ := hst
  first | ((first | refine el_0_2 (ri.get 0 0 rfl) ?_ | refine el_1_1 (ri.get 0 0 rfl) ?_); intro yt hyt) | obtain ⟨yt, hyt⟩ := ri.get 0 0 rfl
  obtain rfl : v = .int 0 yt := by
    rw [List.getElem?_toArray, hyt] at hv
    exact (Option.some.inj hv).symm
  have k3 : ∀ b o, b ≠ C → b ≠ s'.heap.objs.size → s'.heap.get? b = some o → h'.get? b = some o := fun b o hb hI e =>
    hk' b o (by simpa using hI) (Heap.get?_push_of_some _ ((sb2.2 b hb).trans e))
  have F3 : Fr g C h' _ := ⟨F2.ns.at' fun o e => hk' _ o (by simpa using Nat.ne_of_lt hCs) (Heap.get?_push_of_some _ e), fun b o e => hk' b o (fun q => by rw [List.mem_singleton.mp q, nI] at e; cases e) (Heap.get?_push_of_some _ (F2.keep b o e)), F2.above⟩
  have N3 : News g C h' [(r, listOf (List.toArray rvs) rc)] := fun q hq => by
    obtain rfl := List.mem_singleton.mp hq
    exact ⟨hk' _ _ (by simpa using Ne.symm hIr) (Heap.get?_push_of_some _ (N2 _ (.head _)).1), (N2 _ (.head _)).2⟩
  clear F2 N2 hk' sb2 zI
  refine wpAny_of_eq (a := ()) rfl ?_
  (try k_unmd); (try k_fold); repeat' (first | ((fail_if_success (fail_if_success (with_reducible show wpAny _ _ (storeName _ _ _) _ _ _))); k_dflt (refine' stNK ?y9F ?y9N ?_ ?y9a ?y9b; (case y9a => rfl); (case y9b => rfl); (case y9F => k_asm); (case y9N => k_asm); k_whole); intro h' F' N' sb' ns'; clear ns'; revert h' F' N' sb'; intros; (try k_sweep)) | walk_at "S1")
  rename Heap.SameBut _ _ _ => sb3
  refine seg_execs_cons (segIf ?_)
  (try k_unmd); (try k_fold); repeat' (walk_at "S1")
  refine seg_execs_cons (segIf ?_)
  (try k_unmd); (try k_fold); repeat' (walk_at "S1")
  refine seg_execs_cons (segIf ?_)
  (try k_unmd); (try k_fold); repeat' (walk_at "S1")
  refine seg_execs_cons (seg_wrap ?_)
  (try k_unmd); (try k_fold); repeat' (walk_at "S1")
  refine Raise_madeB PySem.F.excCall_ValueError PySem.F.excRaise_ValueError hA' ?_
  (try k_unmd); (try k_fold); repeat' (walk_at "S1")
  rename Heap.MadeExc _ _ _ _ _ => mx
  rename Fr _ _ _ _ => F4
  rename News _ _ _ _ => N4
  rename_i hR _ _ _ _ _ _ _ _ hX eX
  have sb3' : Heap.SameBut C h' hR := sb3
  have mx' : Heap.MadeExc hR hX eX "ValueError" _ := mx
  clear sb3 mx
  have k4 : ∀ b o, b ≠ C → b ≠ s'.heap.objs.size → s'.heap.get? b = some o → hR.get? b = some o := fun b o hb hI e => (sb3'.2 b hb).trans (k3 b o hb hI e)
  first | ((first | refine el_0_4 (mx'.there) ?_ | refine el_1_3 (mx'.there) ?_ | refine el_2_2 (mx'.there) ?_ | refine el_3_1 (mx'.there) ?_); intro tX heX htn htX) | obtain ⟨tX, heX, htn, htX⟩ := mx'.there
  have fresh : ∀ b, hR.get? b = none → (hideAll hR (C :: framesOf outer')).get? b = none := fun b hb => by
    cases q : (hideAll hR (C :: framesOf outer')).get? b with
    | none => rfl
    | some o => have := of_hideAll _ q; rw [hb] at this; cases this
  first | ((first | refine el_0_6 (F4.ns) ?_ | refine el_1_5 (F4.ns) ?_ | refine el_2_4 (F4.ns) ?_ | refine el_3_3 (F4.ns) ?_ | refine el_4_2 (F4.ns) ?_ | refine el_5_1 (F4.ns) ?_); intro oC4 es4 ep4 hC4 hd4 zq3; clear zq3) | obtain ⟨oC4, es4, ep4, hC4, hd4, -⟩ := F4.ns
  refine seg_out (B := hideAll hR (C :: framesOf outer')) (C := C) (outer := outer') (a0 := .ref tX) hfr rfl rfl ⟨(fun q => by cases q), ⟨C, oC4, rfl, hideAll_none _ (.head _), mx'.keeps _ _ hC4, fun vs q => by rw [hd4] at q; cases q⟩, ?ff⟩ (fun b o q => mx'.keeps _ _ (of_hideAll _ q)) (fresh _ mx'.new) heX rfl rfl rfl ?hR ?ov
  case ff =>
    refine frames_shift hff (fun L' hL' => hideAll_none _ (.tail _ hL')) fun L' hL' o e => mx'.keeps _ _ (k4 L' o (fun q => hCn (q ▸ hL')) (Nat.ne_of_lt (Heap.lt_size e)) e)
  case hR =>
    intro h3 fl up
    exact ⟨eX, rfl, hR, _, h3, _, rfl, k4, fl, (Heap.UpToSlots.of_keeps mx'.keeps).trans up⟩
  case ov =>
    show pushEnvs [] (pushEnvs [_] A'.frames) = _
    rw [hfr]
    rfl

end
-- NEXT
section
open PySem PySem.Spec PySem.W PyProof.Rows PySem.Calls PyProof.V
theorem not_stop_value : isSubtype (.type "ValueError") (.type "StopIteration") = pure false := by rw [isSubtype_type]; kernel_rfl
/-- next(..) whose body raises, seen from the caller -/
theorem next_caught {w : World} {prog : Program} {A₀ : Around} {base g : Heap} {outer : List Env} {name : Str} {scope : Scope} {L a : Addr} {cd : Value} {m : Str → Option Value} {news : Ledger} {C ga : Addr} {oC : Obj} {gi : Nat} {nm qn : Value} {c : Code} {Q E : Value → Shared → Prop} {s : Shared}
    (Bl : Below A₀ base outer g) (F : Fr g L s.heap m) (N : News g L s.heap news) (N2 : News g L s.heap [(C, oC), (ga, genO gi nm qn)]) (hap : ∀ p ∈ news, p.1 < C) (aCg : Apt C ga) (hlim : g.NoLimit) (hk : scope.kind = .function)
    (hroom : (A₀.deeper (envOf name scope L a cd)).depth < recursionLimit) (hgs : s.gens[gi]? = some (.fresh c))
    (hraise : Seg (model prog w) (A₀.deeper (envOf name scope L a cd)).in1.in1 (fun _ _ res s₁ => ∃ e, res = .error (.ref e) ∧ ∃ hR a0 h₂ tk₂, s₁ = { s.setGen gi .running with heap := h₂, toks := tk₂ } ∧ (∀ b o, b ≠ C → b ≠ s.heap.objs.size → s.heap.get? b = some o → hR.get? b = some o) ∧ Heap.FlyingW (hideAll hR (C :: framesOf (envOf name scope L a cd :: outer))) (envOf name scope L a cd :: outer) e (.type "ValueError") a0 h₂ ∧ hR.UpToSlots h₂)
          (fun _ _ _ _ _ => False) 0 (s.setGen gi .running) c ((model prog w).den c) [] (s.setGen gi .running))
    (hE : ∀ e G h' tk gn, RaisedSN base G (envOf name scope L a cd :: outer) e (.type "ValueError") news h' → Fr g L G m → G.UpToSlots h' → (∀ y, y ∈ gn → y = .finished ∨ y ∈ s.gens ∨ y = .running) → gn = (s.gens.setIfInBounds gi .running).setIfInBounds gi .finished → E (.ref e) { s with heap := h', toks := tk, gens := gn }) :
    wpAny (model prog w) (A₀.deeper (envOf name scope L a cd)) (call (.builtin "next") [.ref ga]) Q E s := by
  have zC := N2 (C, oC) (.head _)
  have zg := N2 (ga, genO gi nm qn) (.tail _ (.head _))
  have hLs : ∃ oL, s.heap.get? L = some oL := by
    first | ((first | refine el_0_5 (F.ns) ?_ | refine el_1_4 (F.ns) ?_ | refine el_2_3 (F.ns) ?_ | refine el_3_2 (F.ns) ?_ | refine el_4_1 (F.ns) ?_); intro oL _ _ h _) | obtain ⟨oL, _, _, h, _⟩ := F.ns
    exact ⟨oL, h⟩
  refine next_raises (g := gi) (X := "ValueError") (hlim.keeps F.keep) hroom ⟨_, nm, qn, zg.1, rfl, rfl, rfl⟩ hgs not_stop_value hraise ?_
  first | (intro e s₁ zq1; (first | refine el_0_8 (zq1) ?_ | refine el_1_7 (zq1) ?_ | refine el_2_6 (zq1) ?_ | refine el_3_5 (zq1) ?_ | refine el_4_4 (zq1) ?_ | refine el_5_3 (zq1) ?_ | refine el_6_2 (zq1) ?_ | refine el_7_1 (zq1) ?_); (try clear zq1); intro hR a0 h₂ tk₂ zq2 k4 fl up; subst zq2) | rintro e s₁ ⟨hR, a0, h₂, tk₂, rfl, k4, fl, up⟩
  have fr : framesOf (envOf name scope L a cd :: outer) = L :: framesOf outer := rfl
  have old : ∀ b ∈ framesOf outer, ∃ o, g.get? b = some o := fun b hb => (frame_mem Bl.frames hb).2
  have hI : g.get? s.heap.objs.size = none := Heap.get?_none_of_le (Nat.le_trans F.above (Nat.le_of_lt F.ns.lt))
  have ns : ∀ {b o}, s.heap.get? b = some o → b ≠ s.heap.objs.size := fun h => Nat.ne_of_lt (Heap.lt_size h)
  have gR : ∀ b o, g.get? b = some o → hR.get? b = some o := fun b o h => k4 b o (fun q => by rw [q, zC.2.2] at h; cases h) (fun q => by rw [q, hI] at h; cases h) (F.keep b o h)
  have inB : ∀ b o, hR.get? b = some o → b ≠ C → b ≠ L → b ∉ framesOf outer → (hideAll hR (C :: framesOf (envOf name scope L a cd :: outer))).get? b = some o := fun b o h h1 h2 h3 => hideAll_get _ h fun hm => by
    rw [fr] at hm
    rcases List.mem_cons.mp hm with q | hm
    · exact h1 q
    · rcases List.mem_cons.mp hm with q | hm
      · exact h2 q
      · exact h3 hm
  have newB : ∀ p : Addr × Obj, s.heap.get? p.1 = some p.2 → p.1 ≠ L → g.get? p.1 = none → p.1 ≠ C → (hideAll hR (C :: framesOf (envOf name scope L a cd :: outer))).get? p.1 = some p.2 := fun p h1 h2 h3 h4 =>
    inB p.1 p.2 (k4 p.1 p.2 h4 (ns h1) h1) h4 h2 fun hm => by
      first | ((first | refine el_0_2 (old _ hm) ?_ | refine el_1_1 (old _ hm) ?_); intro o ho) | obtain ⟨o, ho⟩ := old _ hm
      rw [h3] at ho; cases ho
  refine ⟨⟨_, nm, qn, fl.1 _ _ (newB (ga, genO gi nm qn) zg.1 zg.2.1 zg.2.2 aCg.ne'), rfl, rfl, rfl⟩, ?_, ?_⟩
  · first | ((first | refine el_0_3 (fl.there) ?_ | refine el_1_2 (fl.there) ?_ | refine el_2_1 (fl.there) ?_); intro ob hob hc) | obtain ⟨ob, hob, hc⟩ := fl.there
    exact ⟨ob, hob, hc⟩
  · have hide : ∀ b ∈ (C :: news.map (·.1)), g.get? b = none := fun b hb => by
      rcases List.mem_cons.mp hb with rfl | hb
      · exact zC.2.2
      · first | ((first | refine el_0_3 (List.mem_map.mp hb) ?_ | refine el_1_2 (List.mem_map.mp hb) ?_ | refine el_2_1 (List.mem_map.mp hb) ?_); intro p hp zq3; subst zq3) | obtain ⟨p, hp, rfl⟩ := List.mem_map.mp hb
        exact (N p hp).2.2
    refine hE e (hideAll hR (C :: news.map (·.1))) h₂ tk₂ _ ⟨_, a0, fun b o h => ?_, fun b o h hb => ?_, fun q hq => ⟨newB q (N q hq).1 (N q hq).2.1 (N q hq).2.2 (Nat.ne_of_lt (hap q hq)), hideAll_none _ (.tail _ (List.mem_map_of_mem hq)), fresh_of_stays Bl.stays (N q hq).2.2⟩, fl⟩ ⟨?_, fun b o h => ?_, F.above⟩ (fun b o h hn => up b o (of_hideAll _ h) hn) (fun y hy => ?_) rfl
    · refine inB b o (gR b o (Bl.stays b o h)) (fun q => ?_) (fun q => ?_) fun hm => ?_
      · have := Bl.stays b o h
        rw [q, zC.2.2] at this; cases this
      · have := Bl.stays b o h
        rw [q, Heap.get?_none_of_le F.above] at this; cases this
      · rw [(frame_mem Bl.frames hm).1] at h; cases h
    · refine inB b o (of_hideAll _ h) (fun q => ?_) (fun q => hb (by rw [q]; exact .head _)) fun hm => hb (.tail _ hm)
      rw [q, hideAll_none _ (.head _)] at h; cases h
    · first | ((first | refine el_0_5 (F.ns) ?_ | refine el_1_4 (F.ns) ?_ | refine el_2_3 (F.ns) ?_ | refine el_3_2 (F.ns) ?_ | refine el_4_1 (F.ns) ?_); intro oL es ep hL r) | obtain ⟨oL, es, ep, hL, r⟩ := F.ns
      have hLC : L ≠ C := fun q => zC.2.1 q.symm
      exact ⟨oL, es, ep, hideAll_get _ (k4 L oL hLC (ns hL) hL) fun hm => by
        rcases List.mem_cons.mp hm with q | hm
        · exact hLC q
        · first | ((first | refine el_0_3 (List.mem_map.mp hm) ?_ | refine el_1_2 (List.mem_map.mp hm) ?_ | refine el_2_1 (List.mem_map.mp hm) ?_); intro p hp e') | obtain ⟨p, hp, e'⟩ := List.mem_map.mp hm
          exact (N p hp).2.1 e', r⟩
    · exact hideAll_get _ (gR b o h) fun hm => by rw [hide b hm] at h; cases h
    · rcases Array.mem_or_eq_of_mem_setIfInBounds hy with h | h
      · rcases Array.mem_or_eq_of_mem_setIfInBounds h with h | h
        · exact .inr (.inl h)
        · exact .inr (.inr h)
      · exact .inl h

end
-- SIZES
section
open PySem PySem.Spec PySem.W PyProof.Rows PySem.Calls PyProof.V
section
variable {prog : Program} {w : World} {A : Around} {E : Value → Shared → Prop} {s : Shared}
theorem pick4 {value slice : PySem.Expr} {l r0 r1 r2 r3 : Addr} {q : Int} {u : Tok} {Q : Value → Shared → Prop} (hl : s.heap.IsList l [Value.ref r0, .ref r1, .ref r2, .ref r3].toArray)
    (h0 : 0 ≤ q) (h3 : q ≤ 3) (h : Stop (∀ r, (q = 0 ∧ r = r0) ∨ (q = 1 ∧ r = r1) ∨ (q = 2 ∧ r = r2) ∨ (q = 3 ∧ r = r3) → Q (.ref r) s))
    (hs : subscripted slice false (.ref l) (.int q u) = operate [.ref l, .int q u] (getItem (.ref l) (.int q u)) := by with_unfolding_all rfl) :
    wpAny (model prog w) A (subscriptTail value slice (.ref l) (.int q u)) Q E s := by
  refine pickK hl h0 (by show q < (4 : Nat); omega) (by omega) ?_ hs
  exact ⟨fun e => h _ (.inl ⟨e, rfl⟩), fun e => h _ (.inr (.inl ⟨by omega, rfl⟩)), fun e => h _ (.inr (.inr (.inl ⟨by omega, rfl⟩))), fun e => h _ (.inr (.inr (.inr ⟨by omega, rfl⟩))), trivial⟩
end
noncomputable def firstOf (n x : Int) : Int := 1 + x.fmod (n - 1)
noncomputable def secondOf (x : Int) : Int := 1 + (x.fdiv 16).fmod 2
noncomputable def quarterOf (x : Int) : Int := (x.fdiv 4).fmod 4
noncomputable def rulerOf (n x : Int) : List Int := if quarterOf x = 0 then [firstOf n x, 0] else if quarterOf x = 1 then [firstOf n x, 127, 1] else if quarterOf x = 2 then [firstOf n x, secondOf x] else [firstOf n x, secondOf x, 0, 1]
noncomputable def dueOf (n x : Int) : List Int := if quarterOf x = 0 then List.replicate n.toNat (firstOf n x) else if quarterOf x = 1 then [firstOf n x] else if quarterOf x = 2 then [firstOf n x, secondOf x] else firstOf n x :: List.replicate (n - 1).toNat (secondOf x)
theorem sizes_bounds {n x : Int} (h1 : 2 ≤ n) (h2 : n ≤ 5) (h3 : 0 ≤ x) : 0 ≤ quarterOf x ∧ quarterOf x ≤ 3 ∧ 1 ≤ firstOf n x ∧ firstOf n x < n ∧ 1 ≤ secondOf x ∧ secondOf x ≤ 2 := by
  unfold quarterOf firstOf secondOf
  have a1 := Int.emod_nonneg (x / 4) (b := 4) (by omega)
  have a2 := Int.emod_lt_of_pos (x / 4) (b := 4) (by omega)
  have b1 := Int.emod_nonneg x (b := n - 1) (by omega)
  have b2 := Int.emod_lt_of_pos x (b := n - 1) (by omega)
  have c1 := Int.emod_nonneg (x / 16) (b := 2) (by omega)
  have c2 := Int.emod_lt_of_pos (x / 16) (b := 2) (by omega)
  rw [Int.fdiv_eq_ediv_of_nonneg _ (by omega), Int.fdiv_eq_ediv_of_nonneg _ (by omega), Int.fmod_eq_emod_of_nonneg _ (by omega), Int.fmod_eq_emod_of_nonneg _ (by omega), Int.fmod_eq_emod_of_nonneg _ (by omega)]
  exact ⟨a1, Int.le_of_lt_add_one a2, Int.le_add_of_nonneg_right b1, Int.add_lt_of_lt_sub_left b2, Int.le_add_of_nonneg_right c1, (by have := Int.add_le_add_left (Int.le_of_lt_add_one (show x / 16 % 2 < 1 + 1 from c2)) 1; exact this)⟩
theorem outs_due {n x : Int} (h1 : 2 ≤ n) (h2 : n ≤ 5) (h3 : 0 ≤ x) : outs (rulerOf n x) none n.toNat = dueOf n x := by
  first | ((first | refine el_0_6 (sizes_bounds h1 h2 h3) ?_ | refine el_1_5 (sizes_bounds h1 h2 h3) ?_ | refine el_2_4 (sizes_bounds h1 h2 h3) ?_ | refine el_3_3 (sizes_bounds h1 h2 h3) ?_ | refine el_4_2 (sizes_bounds h1 h2 h3) ?_ | refine el_5_1 (sizes_bounds h1 h2 h3) ?_); intro q0 q3 f1 fn s1 s2) | obtain ⟨q0, q3, f1, fn, s1, s2⟩ := sizes_bounds h1 h2 h3
  unfold rulerOf dueOf
  generalize firstOf n x = f at *
  generalize secondOf x = g at *
  have hf1 : f ≠ 127 := by omega
  have hf0 : f ≠ 0 := by omega
  have hg1 : g ≠ 127 := by omega
  have hg0 : g ≠ 0 := by omega
  first | ((first | refine el_0_3 (show ∃ k : Nat, n = (k + 2 : Nat) ∧ k ≤ 3 from ⟨(n - 2).toNat, by omega, by omega⟩) ?_ | refine el_1_2 (show ∃ k : Nat, n = (k + 2 : Nat) ∧ k ≤ 3 from ⟨(n - 2).toNat, by omega, by omega⟩) ?_ | refine el_2_1 (show ∃ k : Nat, n = (k + 2 : Nat) ∧ k ≤ 3 from ⟨(n - 2).toNat, by omega, by omega⟩) ?_); intro k hk hk2) | obtain ⟨k, hk, hk2⟩ : ∃ k : Nat, n = (k + 2 : Nat) ∧ k ≤ 3 := ⟨(n - 2).toNat, by omega, by omega⟩
  subst hk
  simp only [Int.toNat_natCast]
  have e1 : ((k + 2 : Nat) - 1 : Int).toNat = k + 1 := by omega
  rw [e1]
  split
  · simp only [outs, if_neg hf1, if_neg hf0, List.replicate_succ]
    simp
  · split
    · simp [outs, hf1, hf0]
    · split
      · simp only [outs, if_neg hf1, if_neg hf0, if_neg hg1, if_neg hg0]
        cases k <;> simp [outs]
      · simp only [outs, if_neg hf1, if_neg hf0, if_neg hg1, if_neg hg0, List.replicate_succ]
        cases k with
        | zero => simp [outs]
        | succ k => simp [outs, List.replicate_succ]
theorem news_one {g h : Heap} {L : Addr} {led : Ledger} {p : Addr × Obj} (N : News g L h led) (m : p ∈ led) : News g L h [p] := fun q hq => by
  obtain rfl := List.mem_singleton.mp hq
  exact N _ m
theorem pick_ruler {g h : Heap} {L : Addr} {o : Addr × Obj} {n x q f k : Int} {r r0 r1 r2 r3 : Addr} {a1 a2 a3 a4 a5 a6 a7 a8 a9 b1 b2 : Tok} (N : News g L h [o, (r3, listOf #[.int f a1, .int k a2, .int 0 a3, .int 1 a4] 0), (r2, listOf #[.int f a5, .int k a6] 0), (r1, listOf #[.int f a7, .int 127 a8, .int 1 a9] 0), (r0, listOf #[.int f b1, .int 0 b2] 0)])
    (hr : (q = 0 ∧ r = r0) ∨ (q = 1 ∧ r = r1) ∨ (q = 2 ∧ r = r2) ∨ (q = 3 ∧ r = r3)) (hq : q = quarterOf x) (hf : f = firstOf n x) (hk : k = secondOf x) :
    ∃ vs, IntsAre vs (rulerOf n x) ∧ News g L h [(r, listOf (List.toArray vs) 0)] := by
  unfold rulerOf
  subst hq hf hk
  rcases hr with ⟨e, rfl⟩ | ⟨e, rfl⟩ | ⟨e, rfl⟩ | ⟨e, rfl⟩
  · rw [if_pos e]
    exact ⟨_, .cons _ _ (.cons _ _ .nil), news_one N (.tail _ (.tail _ (.tail _ (.tail _ (.head _)))))⟩
  · rw [if_neg (by omega), if_pos e]
    exact ⟨_, .cons _ _ (.cons _ _ (.cons _ _ .nil)), news_one N (.tail _ (.tail _ (.tail _ (.head _))))⟩
  · rw [if_neg (by omega), if_neg (by omega), if_pos e]
    exact ⟨_, .cons _ _ (.cons _ _ .nil), news_one N (.tail _ (.tail _ (.head _)))⟩
  · rw [if_neg (by omega), if_neg (by omega), if_neg (by omega)]
    exact ⟨_, .cons _ _ (.cons _ _ (.cons _ _ (.cons _ _ .nil))), news_one N (.tail _ (.head _))⟩
theorem flat_one {α : Type} (x : α) : ∀ k : Nat, (List.replicate k [x]).flatten = List.replicate k x
  | 0 => rfl
  | k + 1 => by rw [List.replicate_succ, List.flatten_cons, flat_one x k, List.replicate_succ]; rfl
theorem pick_due {g h : Heap} {L : Addr} {o o2 o3 o4 o5 R : Addr × Obj} {n x q f k : Int} {r r0 r1 r2 r3 : Addr} {ws ds : List Value} {a5 a6 a7 : Tok} (N : News g L h [o, (r3, listOf (List.toArray ws) 0), o2, o3, o4, (r2, listOf #[.int f a5, .int k a6] 0), (r1, listOf #[.int f a7] 0), (r0, listOf (List.toArray ds) 0), o5, R])
    (hr : (q = 0 ∧ r = r0) ∨ (q = 1 ∧ r = r1) ∨ (q = 2 ∧ r = r2) ∨ (q = 3 ∧ r = r3)) (hq : q = quarterOf x) (hf : f = firstOf n x) (hk : k = secondOf x) (i3 : IntsAre ws ([f] ++ (List.replicate (n - 1).toNat [k]).flatten)) (i0 : IntsAre ds (List.replicate n.toNat [f]).flatten) :
    ∃ vs, IntsAre vs (dueOf n x) ∧ News g L h [(r, listOf (List.toArray vs) 0), R] := by
  unfold dueOf
  rw [flat_one] at i3 i0
  have two : ∀ {p : Addr × Obj}, p ∈ [o, (r3, listOf (List.toArray ws) 0), o2, o3, o4, (r2, listOf #[.int f a5, .int k a6] 0), (r1, listOf #[.int f a7] 0), (r0, listOf (List.toArray ds) 0), o5, R] → News g L h [p, R] := fun {p} hp q hq => by
    rcases List.mem_cons.mp hq with rfl | hq
    · exact N _ hp
    · obtain rfl := List.mem_singleton.mp hq
      exact N _ (.tail _ (.tail _ (.tail _ (.tail _ (.tail _ (.tail _ (.tail _ (.tail _ (.tail _ (.head _))))))))))
  subst hq hf hk
  rcases hr with ⟨e, rfl⟩ | ⟨e, rfl⟩ | ⟨e, rfl⟩ | ⟨e, rfl⟩
  · rw [if_pos e]
    exact ⟨_, i0, two (.tail _ (.tail _ (.tail _ (.tail _ (.tail _ (.tail _ (.tail _ (.head _))))))))⟩
  · rw [if_neg (by omega), if_pos e]
    exact ⟨_, .cons _ _ .nil, two (.tail _ (.tail _ (.tail _ (.tail _ (.tail _ (.tail _ (.head _)))))))⟩
  · rw [if_neg (by omega), if_neg (by omega), if_pos e]
    exact ⟨_, .cons _ _ (.cons _ _ .nil), two (.tail _ (.tail _ (.tail _ (.tail _ (.tail _ (.head _))))))⟩
  · rw [if_neg (by omega), if_neg (by omega), if_neg (by omega)]
    exact ⟨_, i3, two (.tail _ (.head _))⟩
theorem stop_of {p : Prop} (h : Stop p) : p := h
theorem restart {M : Model} {A : Around} {α : Type} {c : Sem α} {Q : α → Shared → Prop} {E : Value → Shared → Prop} {s s₁ : Shared} {g h' : Heap} {L : Addr} {m : Str → Option Value} {gn : Array GenState} (_F : Fr g L h' m) (e1 : s₁.heap = h') (e2 : s₁.gens = gn) (e3 : s₁.drawn = s.drawn) (e4 : s₁.os = s.os)
    (h : ∀ tk, wpAny M A c Q E { s with heap := h', toks := tk, gens := gn }) : wpAny M A c Q E s₁ := by
  first | ((first | refine el_0_5 (s₁) ?_ | refine el_1_4 (s₁) ?_ | refine el_2_3 (s₁) ?_ | refine el_3_2 (s₁) ?_ | refine el_4_1 (s₁) ?_); (try clear s₁); intro a b c d e) | obtain ⟨a, b, c, d, e⟩ := s₁
  cases e1
  cases e2
  cases e3
  cases e4
  exact h d
section
variable {prog : Program} {w : World} {A : Around} {E : Value → Shared → Prop} {s : Shared} {env : Env} {target : PySem.Expr} {body orelse : List Stmt} {Q Q' : Flow → Shared → Prop} {it : Value}
theorem forGo_mono (h : ForGo prog w A env target body orelse Q E it s) (hQ : ∀ f s', Q f s' → Q' f s') : ForGo prog w A env target body orelse Q' E it s :=
  ⟨h.1, codeAny_mono h.2 fun r s' hr => by
    cases r with
    | ok f => exact hQ f s' hr
    | error e => exact hr⟩
end
theorem sizes_ok (w : World) (p : Program) (loose : List Str) (mean : ExcName → Option Value) (mg mb : Str → Option Value) (n x : Int) (t1 t2 : Tok) (h1 : 2 ≤ n) (h2 : n ≤ 5) (h3 : 0 ≤ x) :
    HSpecS 8 w p loose mean mg mb 144 [.int n t1, .int x t2] [] [] (fun tl upd r => ∃ r0 ps c, r = .ref r0 ∧ tl = [(r0, listOf (List.toArray ps) c)] ∧ IntsAre ps (dueOf n x)) := by
  intro dp un gd cn cs L a ccd cl outer base g s Q E B XB TB H hz hk hdp hun hb D hret
  have X := XB.keeps B.stays
  have T := TB.keeps B.stays
  first | ((first | refine el_0_6 (sizes_bounds h1 h2 h3) ?_ | refine el_1_5 (sizes_bounds h1 h2 h3) ?_ | refine el_2_4 (sizes_bounds h1 h2 h3) ?_ | refine el_3_3 (sizes_bounds h1 h2 h3) ?_ | refine el_4_2 (sizes_bounds h1 h2 h3) ?_ | refine el_5_1 (sizes_bounds h1 h2 h3) ?_); intro q0 q3 f1 fn s1 s2) | obtain ⟨q0, q3, f1, fn, s1, s2⟩ := sizes_bounds h1 h2 h3
  have hq0 : 0 ≤ (x.fdiv 4).fmod 4 := q0
  have hq3 : (x.fdiv 4).fmod 4 ≤ 3 := q3
  w_on
  k_dflt refine' h_enter (binds := [(Str.ofString "size", .int n t1), (Str.ofString "x", .int x t2)]) ?k1 ?k2 ?k3 ?k4 ?k5 ?k6 ?k7 ?k8 ?k9 ?kB ?_ ?c2 ?c3 ?c4 ?c5
  ((case k1 => assumption); (case k2 => assumption); (case k3 => assumption); (case k4 => assumption); (case k5 => assumption); (case k6 => k_is); (case k7 => k_is); (case k8 => ktr_room); (case k9 => exact BindsTo.of_eq rfl); (case c2 => decide); (case kB => exact locs rfl); (case c3 => exact rfl); (case c4 => exact rfl); (case c5 => exact rfl); k_whole; intro L' h' F' N' z' l1; (try k_lt l1); (simp only [List.reverse_cons, List.reverse_nil, List.nil_append, List.cons_append, lookup_if, lookup_no] at F'); revert L' h' F' N' z' l1; intros; (try dsimp only); (try k_unmd); (try k_fold))
  (try k_unmd); (try k_fold); repeat' (first | ((fail_if_success (fail_if_success (with_reducible show wpAny _ _ (subscriptTail _ _ _ _) _ _ _))); (with_reducible show wpAny _ _ (subscriptTail _ _ (Value.ref _) (Value.int _ _)) _ _ _); (with_unfolding_all refine' pick4 ?y9k1 ?y9k2 ?y9k3 ?_ ?y9k6; (case y9k1 => is_list); (case y9k2 => assumption); (case y9k3 => assumption); (case y9k6 => with_unfolding_all rfl))) | walk_at "S1")
  rename Fr _ _ _ _ => F1
  rename News _ _ _ _ => N1
  unfold Stop
  intro r hr
  have N2 := pick_ruler (n := n) (x := x) N1 hr rfl rfl rfl
  first | ((first | refine el_0_3 (N2) ?_ | refine el_1_2 (N2) ?_ | refine el_2_1 (N2) ?_); (try clear N2); intro rvs ri N3) | obtain ⟨rvs, ri, N3⟩ := N2
  have F2 : ∃ ta tb, Fr g _ _ (fun y => if y = Str.ofString "second" then some (.int (secondOf x) tb) else if y = Str.ofString "first" then some (.int (firstOf n x) ta) else if y = Str.ofString "x" then some (.int x t2) else if y = Str.ofString "size" then some (.int n t1) else none) := ⟨_, _, F1⟩
  first | ((first | refine el_0_3 (F2) ?_ | refine el_1_2 (F2) ?_ | refine el_2_1 (F2) ?_); (try clear F2); intro ta tb F3) | obtain ⟨ta, tb, F3⟩ := F2
  refine restart (gn := s.gens) (s := s) F3 rfl rfl rfl rfl ?_
  intro tk1
  clear F1 N1 hr
  repeat (rename_i zz; first | clear zz | revert zz)
  intros
  (try k_unmd); (try k_fold); repeat' (first | ((fail_if_success (fail_if_success (with_reducible show wpAny _ _ (subscriptTail _ _ _ _) _ _ _))); (with_reducible show wpAny _ _ (subscriptTail _ _ (Value.ref _) (Value.int _ _)) _ _ _); (with_unfolding_all refine' pick4 ?y9k1 ?y9k2 ?y9k3 ?_ ?y9k6; (case y9k1 => is_list); (case y9k2 => assumption); (case y9k3 => assumption); (case y9k6 => with_unfolding_all rfl))) | walk_at "S1")
  rename Fr _ _ _ _ => F1
  rename News _ _ _ _ => N1
  unfold Stop
  intro d hd
  have N2 := pick_due (n := n) (x := x) N1 hd rfl rfl rfl (by assumption) (by assumption)
  first | ((first | refine el_0_3 (N2) ?_ | refine el_1_2 (N2) ?_ | refine el_2_1 (N2) ?_); (try clear N2); intro dvs di N4) | obtain ⟨dvs, di, N4⟩ := N2
  have F2 : Fr g _ _ (fun y => if y = Str.ofString "ruler" then some (.ref r) else if y = Str.ofString "second" then some (.int (secondOf x) tb) else if y = Str.ofString "first" then some (.int (firstOf n x) ta) else if y = Str.ofString "x" then some (.int x t2) else if y = Str.ofString "size" then some (.int n t1) else none) := F1
  refine restart (gn := s.gens) (s := s) F2 rfl rfl rfl rfl ?_
  intro tk2
  clear F1 N1 hd
  repeat (rename_i zz; first | clear zz | revert zz)
  intros
  (try k_unmd); (try k_fold); repeat' (first | ((fail_if_success (fail_if_success (with_reducible show wpAny _ _ (exec (Stmt.For _ _ _ _ _) _) _ _ _))); (with_unfolding_all refine For_go ?_)) | ((fail_if_success (fail_if_success (with_reducible show wpAny _ _ (call (Value.ref _) _ _) _ _ _))); refine stop_of ?_) | walk_at "S1")
  rename Fr _ _ _ _ => F1
  rename News _ _ _ _ => N1
  unfold Stop
  rename_i Ls _ _ _ _ _ lt _ _ _
  have r0 : (rulerOf n x)[0]? ≠ some 0 := by
    unfold rulerOf
    repeat' split
    all_goals
      intro q
      simp only [List.getElem?_cons_zero, Option.some.injEq] at q
      omega
  have hN0 : 0 < n.toNat := by omega
  refine gen_call w p loose mean mg mb (rs := rulerOf n x) (N := n.toNat) F1 X N1 T (.tail _ (.tail _ (.head _))) ri r0 hN0 ?room ?_
  case room => ktr_room
  intro C ga oC nm qn h₁ tk c F2 N2 aCg lC lg hrun
  rw [outs_due h1 h2 h3] at hrun
  try dsimp only
  refine wpAny_pyIter_gen (g := s.gens.size) ⟨_, nm, qn, (N2 _ (.tail _ (.head _))).1, rfl, rfl, rfl⟩ ?_
  have hdl : (dueOf n x).length ≤ n.toNat := by
    unfold dueOf
    repeat' split
    all_goals
      simp only [List.length_replicate, List.length_cons, List.length_nil]
      omega
  have bare0 : AllBare (s.gens.push (.fresh c)) := by
    intro y hy
    rcases Array.mem_push.mp hy with hy | rfl
    · exact hb y hy
    · rfl
  refine forGo_mono (Q := fun f s₂ => f = .next ∧ ∃ (vs : List Value) (tc : Nat) (u : Str → Option Value) (h : Heap) (tk : Nat) (gn : Array GenState), s₂ = { s with heap := h, toks := tk, gens := gn } ∧ IntsAre vs (dueOf n x) ∧ Fr g Ls h (fun y => if y ∈ [Str.ofString "part"] then u y else if y = Str.ofString "told" then some (.ref lt) else if y = Str.ofString "due" then some (.ref d) else if y = Str.ofString "ruler" then some (.ref r) else if y = Str.ofString "second" then some (.int (secondOf x) tb) else if y = Str.ofString "first" then some (.int (firstOf n x) ta) else if y = Str.ofString "x" then some (.int x t2) else if y = Str.ofString "size" then some (.int n t1) else none) ∧
    News g Ls h [(lt, listOf (List.toArray vs) tc), (d, listOf (List.toArray dvs) 0), (r, listOf (List.toArray rvs) 0)] ∧ AllBare gn)
    (for_gen (gi := s.gens.size) (nm := nm) (qn := qn) (α := (List Value × Nat) × Unit) (l := r) (ol := listOf (List.toArray rvs) 0) (N := n.toNat) (all := dueOf n x) [Str.ofString "part"] (fun a => [(lt, listOf (List.toArray a.1.1) a.1.2), (d, listOf (List.toArray dvs) 0), (r, listOf (List.toArray rvs) 0)])
      (fun a y => if y = Str.ofString "told" then some (.ref lt) else if y = Str.ofString "due" then some (.ref d) else if y = Str.ofString "ruler" then some (.ref r) else if y = Str.ofString "second" then some (.int (secondOf x) tb) else if y = Str.ofString "first" then some (.int (firstOf n x) ta) else if y = Str.ofString "x" then some (.int x t2) else if y = Str.ofString "size" then some (.int n t1) else none)
      (fun j a rest => rest = [] ∧ IntsAre a.1.1 ((dueOf n x).take j) ∧ j < n.toNat) (([], 0), ()) [] ?pas rfl ?room T.nolimit F2 ?Nw ?hap aCg (fun _ _ => rfl) ⟨rfl, .nil, hN0⟩ ?lt ?gs bare0 hdl (fun s' => hrun _ s' rfl) ?turn ?done) ?after
  case pas => passes_own
  case room => ktr_room
  case Nw =>
    intro q hq
    simp only [List.cons_append, List.nil_append, List.mem_cons, List.not_mem_nil, or_false] at hq
    rcases hq with rfl | rfl | rfl | rfl | rfl
    · exact N2 _ (.tail _ (.tail _ (.head _)))
    · exact N2 _ (.tail _ (.tail _ (.tail _ (.head _))))
    · exact N2 _ (.tail _ (.tail _ (.tail _ (.tail _ (.head _)))))
    · exact N2 _ (.head _)
    · exact N2 _ (.tail _ (.head _))
  case hap =>
    intro q hq
    rw [List.append_nil] at hq
    exact ⟨Apt.lt (lC q hq), Apt.lt (lg q hq)⟩
  case lt =>
    first | (intro j a rest zq1; (try k_unmd); (try (first | (with_reducible refine fold_comp ?_; intro XL YL ZL) | (with_reducible refine fold_for ?_; intro QL EL) | (with_reducible refine fold_while ?_; intro QL RL EL) | k_fold)); (first | refine el_0_3 (zq1) ?_ | refine el_1_2 (zq1) ?_ | refine el_2_1 (zq1) ?_); (try clear zq1); intro zq2 zq3 hj; subst zq2; clear zq3) | rintro j a rest ⟨rfl, -, hj⟩
    exact ⟨hj, .tail _ (.tail _ (.head _))⟩
  case gs => simp
  case done =>
    first | (intro zq4 rest u h tk gn zq5 F3 N3 hb3; (try k_unmd); (try (first | (with_reducible refine fold_comp ?_; intro XL YL ZL) | (with_reducible refine fold_for ?_; intro QL EL) | (with_reducible refine fold_while ?_; intro QL RL EL) | k_fold)); (first | refine el_0_2 (zq4) ?_ | refine el_1_1 (zq4) ?_); (try clear zq4); intro zq6 _; (first | refine el_0_2 (zq6) ?_ | refine el_1_1 (zq6) ?_); (try clear zq6); intro tv tc; (first | refine el_0_3 (zq5) ?_ | refine el_1_2 (zq5) ?_ | refine el_2_1 (zq5) ?_); (try clear zq5); intro zq7 hi hj; subst zq7) | rintro ⟨⟨tv, tc⟩, _⟩ rest u h tk gn ⟨rfl, hi, hj⟩ F3 N3 hb3
    exact ⟨rfl, tv, tc, u, h, tk, gn, rfl, by rwa [List.take_of_length_le (Nat.le_refl _)] at hi, F3, N3, hb3⟩
  case turn =>
    first | (intro j y t zq8 rest u h tk gn I oC' oI hj zq9 hap3 F3 N3 hb3; (try k_unmd); (try (first | (with_reducible refine fold_comp ?_; intro XL YL ZL) | (with_reducible refine fold_for ?_; intro QL EL) | (with_reducible refine fold_while ?_; intro QL RL EL) | k_fold)); (first | refine el_0_2 (zq8) ?_ | refine el_1_1 (zq8) ?_); (try clear zq8); intro zq10 _; (first | refine el_0_2 (zq10) ?_ | refine el_1_1 (zq10) ?_); (try clear zq10); intro tv tc; (first | refine el_0_3 (zq9) ?_ | refine el_1_2 (zq9) ?_ | refine el_2_1 (zq9) ?_); (try clear zq9); intro zq11 hi hjn; subst zq11) | rintro j y t ⟨⟨tv, tc⟩, _⟩ rest u h tk gn I oC' oI hj ⟨rfl, hi, hjn⟩ hap3 F3 N3 hb3
    clear F1 N1 F2 N2 hrun
    simp only [List.cons_append, List.nil_append] at N3
    have a1 : @Ne Nat lt C := (hap3 (lt, listOf (List.toArray tv) tc) (.head _) (C, oC') (.head _)).ne
    have a2 : @Ne Nat lt ga := (hap3 (lt, listOf (List.toArray tv) tc) (.head _) _ (.tail _ (.head _))).ne
    have a3 : @Ne Nat lt I := (hap3 (lt, listOf (List.toArray tv) tc) (.head _) _ (.tail _ (.tail _ (.head _)))).ne
    have hi1 : IntsAre tv ((dueOf n x).take j) := hi
    have htv : tv.length ≤ 5 := by
      have := hi1.length
      rw [List.length_take] at this
      omega
    have hjl := (List.getElem?_eq_some_iff.mp hj).1
    have e1 : tv.length = j := by
      have := hi1.length
      rw [List.length_take] at this
      omega
    have hi2 : IntsAre (tv ++ [.int y t]) ((dueOf n x).take (j + 1)) := by
      rw [List.take_add_one, hj]
      exact ints_snoc hi1
    have hs1 : ((List.toArray tv).push (Value.int y t)).size = tv.length + 1 := by simp
    have hszl : (List.toArray tv).size ≤ sizeLine := by
      rw [List.size_toArray, sizeLine_eq]
      omega
    try dsimp only
    try k_fold
    (try k_unmd); (try k_fold); repeat' (first | ((fail_if_success (fail_if_success (with_reducible show wpAny _ _ (call (Value.builtin "list.append") _ _) _ _ _))); dsimp only [List.nil_append, List.cons_append]; (with_reducible show wpAny _ _ (call (Value.builtin _) [Value.ref _, _]) _ _ _); k_dflt (refine' append_K ?y9k1 ?y9k2 ?y9k3 ?_ ?y9z; (case y9k1 => k_asm); (case y9k2 => k_asm); (case y9k3 => k_upd); (case y9z => size_fits); k_whole); intro _ _ _; (try k_sweep)) | ((fail_if_success (fail_if_success (with_reducible show wpAny _ _ (call (Value.builtin "len") _ _) _ _ _))); (with_reducible show wpAny _ _ (call (Value.builtin "len") [Value.ref _]) _ _ _); k_dflt (refine' PySem.W.KM.len_K ?y9k1 ?y9k2 ?y9k3 ?y9k4 ?_; (case y9k1 => k_asm); (case y9k2 => k_mem); (case y9k3 => with_reducible assumption); (case y9k4 => omega); k_whole)) | walk_at "S1")
    · rename Fr _ _ _ _ => F4
      rename News _ _ _ _ => N4
      rename _ = n => hn
      rw [List.push_toArray] at N4
      rw [List.take_of_length_le (by omega)] at hi2
      try dsimp only [LSG]
      refine ⟨rfl, tv ++ [.int y t], tc + 1, fun _ => some (.int y t), _, _, gn, rfl, hi2, fr_congr F4 fun z => ?_, fun q hq => N4 q ?_, hb3⟩
      · by_cases q1 : z = Str.ofString "part"
        · subst q1; rfl
        · simp only [List.mem_singleton, if_neg q1]
      · rcases List.mem_cons.mp hq with rfl | hq
        · exact .head _
        · rcases List.mem_cons.mp hq with rfl | hq
          · exact .tail _ (.head _)
          · obtain rfl := List.mem_singleton.mp hq
            exact .tail _ (.tail _ (.head _))
    · rename Fr _ _ _ _ => F4
      rename News _ _ _ _ => N4
      rename ¬ _ = n => hn
      rw [List.push_toArray] at N4
      refine LSG.intro2 (tv ++ [Value.int y t], tc + 1) (fun _ => ()) [] F4 N4 (fun p hp => hp) ?hm ?hI ⟨rfl, hi2, by omega⟩
      case hm =>
        intro z hz
        simp only [List.mem_singleton] at hz
        simp only [List.mem_singleton, if_neg hz]
      case hI =>
        intro q hq q' hq'
        rcases List.mem_cons.mp hq with rfl | hq
        · exact hap3 (lt, listOf (List.toArray tv) tc) (.head _) q' hq'
        · exact hap3 q (.tail _ hq) q' hq'
  case after =>
    first | (intro f s₂ zq12; (try k_unmd); (try (first | (with_reducible refine fold_comp ?_; intro XL YL ZL) | (with_reducible refine fold_for ?_; intro QL EL) | (with_reducible refine fold_while ?_; intro QL RL EL) | k_fold)); (first | refine el_0_12 (zq12) ?_ | refine el_1_11 (zq12) ?_ | refine el_2_10 (zq12) ?_ | refine el_3_9 (zq12) ?_ | refine el_4_8 (zq12) ?_ | refine el_5_7 (zq12) ?_ | refine el_6_6 (zq12) ?_ | refine el_7_5 (zq12) ?_ | refine el_8_4 (zq12) ?_ | refine el_9_3 (zq12) ?_ | refine el_10_2 (zq12) ?_ | refine el_11_1 (zq12) ?_); (try clear zq12); intro zq13 vs tc u h tk gn zq14 hi F3 N3 hb3; subst zq13; subst zq14) | rintro f s₂ ⟨rfl, vs, tc, u, h, tk, gn, rfl, hi, F3, N3, hb3⟩
    clear F1 N1 F2 N2 hrun
    have hz0 : ([0] : List Int).length + (rulerOf n x).length ≤ sizeLine := by
      have : (rulerOf n x).length ≤ 4 := by
        unfold rulerOf
        repeat' split
        all_goals simp only [List.length_cons, List.length_nil]; omega
      rw [sizeLine_eq]
      simp only [List.length_cons, List.length_nil]
      omega
    try dsimp only
    try k_fold
    (try k_unmd); (try k_fold); repeat' (first | ((fail_if_success (fail_if_success (with_reducible show wpAny _ _ (call (Value.ref _) _ _) _ _ _))); refine stop_of ?_) | walk_at "S1")
    rename Fr _ _ _ _ => F4
    rename News _ _ _ _ => N4
    rename IntsAre _ ([0] ++ _) => iz
    unfold Stop
    have gl : g.get? lt = none := (N4 (lt, listOf (List.toArray vs) tc) (.tail _ (.tail _ (.head _)))).2.2
    refine gen_bad w p loose mean mg mb (rs := rulerOf n x) F4 X N4 T (.head _) iz ?room ?_
    case room => ktr_room
    intro C2 ga2 oC2 nm2 qn2 h4 tk4 c4 F5 N5 aCg2 lC2 lg2 hC2 hraise
    try dsimp only
    try clear F3
    try clear N3
    clear F4 N4
    (try k_unmd); (try k_fold); repeat' (first | ((fail_if_success (fail_if_success (with_reducible show wpAny _ _ (call (Value.builtin "next") _ _) _ _ _))); refine stop_of ?_) | walk_at "S1")
    unfold Stop

    rename Fr _ _ _ _ => F5
    rename News _ _ _ _ => N5
    refine next_caught (gi := gn.size) (nm := nm2) (qn := qn2) (oC := oC2) (news := [(lt, listOf (List.toArray vs) tc), (d, listOf (List.toArray dvs) 0)]) B F5 ?n1 ?n2 ?n3 aCg2 T.nolimit rfl ?room2 ?gs (hraise _ _ base _ rfl ?st ?ff ?nc F5.keep ?oc ?ol ?sz) ?hE
    case st => exact (B.push F5 rfl).stack
    case ff => exact (B.push F5 rfl).frames
    case n1 => exact fun q hq => N5 q (by
      rcases List.mem_cons.mp hq with rfl | hq
      · exact .tail _ (.tail _ (.tail _ (.tail _ (.head _))))
      · obtain rfl := List.mem_singleton.mp hq
        exact .tail _ (.tail _ (.tail _ (.tail _ (.tail _ (.head _))))))
    case n2 => exact fun q hq => N5 q (by
      rcases List.mem_cons.mp hq with rfl | hq
      · exact .head _
      · obtain rfl := List.mem_singleton.mp hq
        exact .tail _ (.head _))
    case n3 =>
      intro q hq
      rcases List.mem_cons.mp hq with rfl | hq
      · exact lC2 _ (.tail _ (.tail _ (.head _)))
      · obtain rfl := List.mem_singleton.mp hq
        exact lC2 _ (.tail _ (.tail _ (.tail _ (.head _))))
    case room2 => ktr_room
    case gs => simp
    case nc =>
      intro hm
      rcases List.mem_cons.mp hm with q | hm
      · exact (N5 _ (.head _)).2.1 q
      · first | ((first | refine el_0_3 (frame_mem B.frames hm) ?_ | refine el_1_2 (frame_mem B.frames hm) ?_ | refine el_2_1 (frame_mem B.frames hm) ?_); intro _ o ho) | obtain ⟨_, o, ho⟩ := frame_mem B.frames hm
        rw [(N5 _ (.head _)).2.2] at ho
        cases ho
    case oc => exact (N5 _ (.head _)).1
    case ol => exact (N5 _ (.tail _ (.tail _ (.head _)))).1
    case sz => exact Nat.le_trans F5.above (Nat.le_of_lt F5.ns.lt)
    case hE =>
      intro e G h' tk5 gn5 R FG U hgn _
      have D' : KtsDicts (List.filterMap (·.frame) (envX cn cs L a ccd cl :: outer)) g := D
      have hbg : AllBare gn5 := by
        intro y hy
        rcases hgn y hy with rfl | h | rfl
        · rfl
        · rcases Array.mem_push.mp h with h | rfl
          · exact hb3 y h
          · rfl
        · rfl
      clear F5 N5 hraise hgn
      try dsimp only
      (try k_unmd); (try k_fold); repeat' (walk_at "S1")
      clear FG
      rename KtsTurn _ _ _ => TT
      rename Fr _ _ _ _ => F6
      rename News _ _ _ _ => N6
      show Q _ _
      refine hret (.ref lt) [(lt, listOf (List.toArray vs) tc)] [] _ _ gn5 ⟨fun b o eq hb => F6.keep b o (TT.other b o eq hb), fun b o eq => ?_⟩ (fun q hq => ?_) rfl (fun q _ q' hq' => nomatch hq') (List.pairwise_singleton _ _) hbg ⟨lt, vs, tc, rfl, rfl, hi⟩
      · first | ((first | refine el_0_2 (TT.up eq) ?_ | refine el_1_1 (TT.up eq) ?_); intro sl e') | obtain ⟨sl, e'⟩ := TT.up eq
        exact ⟨sl, F6.keep _ _ e'⟩
      · obtain rfl := List.mem_singleton.mp hq
        exact ⟨(N6 _ (.head _)).1, gl⟩

end
-- PGPRE
section
open PySem PySem.Spec PySem.W PyProof.Rows PySem.Calls PyProof.V
structure Nd where
  R : NodeRec
  items : Array Value
  n : Nat
  oAt : Obj
  W : Addr
  oW : Obj
  K : Ledger
  lead : List Nat
  start : Int
  size : Int
  number : Int
  run : List Nat
noncomputable def Nd.led (x : Nd) : Ledger := (x.R.f, x.R.fo) :: (x.R.D, x.R.oD) :: (x.R.Ap, x.R.oAp) :: (x.R.c, x.R.oc) :: (x.R.Pt, listOf x.items x.n) :: (x.R.at_, x.oAt) :: (x.W, x.oW) :: x.K
noncomputable def Nd.kv (x : Nd) : List Value := x.K.map fun p => .ref p.1
noncomputable def txt (l : List Nat) : Str := ⟨l.toArray⟩
noncomputable def tupO (vs : List Value) : Obj := { cls := .type "tuple", data := .seq vs.toArray }
structure Nd.Ok (x : Nd) (w : World) (p : Program) (loose : List Str) (mean : ExcName → Option Value) (mg mb : Str → Option Value) (k2 : Addr) : Prop where
  ok : x.R.Ok w p loose mean mg mb k2
  at_ : ∃ tl tp, x.oAt.IsDictOf (strKind PySem.Challenge.pw_xb0026_01 w) [(Str.ofString "lead", .str (txt x.lead) tl), (Str.ofString "of", .str (Str.ofString "page") tp)]
  sys : x.R.at_ ≠ sysModules
  wt : ∃ tl ts tz, x.oW = tupO [.ref x.R.f, .str (txt x.lead) tl, .int x.start ts, .int x.size tz]
/-- a node below the page: its tag and its tuple of kept -/
structure Nd.Below (x : Nd) : Prop where
  tag : x.R.tag = Txt.join (Str.ofString ", ") (namesAll x.number)
  kept : ∃ U tn tl tr, x.K = [(U, tupO [.ref x.R.f, .int x.number tn, .str (txt x.lead) tl, .str (txt x.run) tr])]
noncomputable def partsOf (n x : Int) : List Int := partsGo (dueOf n x ++ [n]) n
noncomputable def runOf (runs part : Int) : List Nat := List.replicate (runs.fmod 7).toNat 32 ++ [9] ++ List.replicate ((runs.fdiv 7).fmod 3 * (if part = 1 then 1 else 0)).toNat 32
structure PN where
  lead : List Nat
  start : Int
  size : Int
  number : Int
  run : List Nat
noncomputable def maskOf (base start part : Int) : Int := ((2 ^ part.toNat - 1 : Int)) * 2 ^ (base + start).toNat
noncomputable def Nd.pn (x : Nd) : PN := ⟨x.lead, x.start, x.size, x.number, x.run⟩
noncomputable def kidOf (base : Int) (lead : List Nat) (p start runs : Int) : PN := ⟨lead ++ runOf runs p, start, p, maskOf base start p, runOf runs p⟩
noncomputable def kidsGo (base : Int) (lead : List Nat) : List Int → Int → Int → List PN
  | [], _, _ => []
  | p :: ps, start, runs => kidOf base lead p start runs :: kidsGo base lead ps (start + p) (runs.fdiv 21)
noncomputable def runsGo : Nat → Int → Int
  | 0, runs => runs
  | k + 1, runs => runsGo k (runs.fdiv 21)
noncomputable def grow (base : Int) : Nat → List PN → Int → Int → List PN
  | 0, _, _, _ => []
  | _ + 1, [], _, _ => []
  | f + 1, P :: q, cuts, runs => if 1 < P.size then kidsGo base P.lead (partsOf P.size cuts) P.start runs ++ grow base f (q ++ kidsGo base P.lead (partsOf P.size cuts) P.start runs) (cuts.fdiv 32) (runsGo (partsOf P.size cuts).length runs)
      else grow base f q cuts runs
noncomputable def AptAll (l : Ledger) : Prop := (l.map (·.1)).Pairwise Apt
noncomputable def meas (l : List Nd) : Nat := (l.map fun x => (2 * x.size - 1).toNat).sum
noncomputable def rootPN : PN := ⟨[], 0, 5, 0, []⟩
noncomputable def ledOf (wl kl : Addr) (ws kv : List Value) (cw ck : Nat) (k1 k2 : Addr) (oc1 oc2 : Obj) (nodes : List Nd) : Ledger := (wl, listOf ws.toArray cw) :: (kl, listOf kv.toArray ck) :: (120, tab2 k1 k2) :: (k2, oc2) :: (k1, oc1) :: nodes.flatMap Nd.led
structure PgPure (bs cuts runs : Int) (dn wt : List Nd) (c r : Int) : Prop where
  c0 : 0 ≤ c
  r0 : 0 ≤ r
  full : ∃ f, meas wt < f ∧ (dn ++ wt).map Nd.pn ++ grow bs f (wt.map Nd.pn) c r = rootPN :: grow bs 20 [rootPN] cuts runs
  few : dn.length + meas wt ≤ 9
  sz : ∀ x ∈ wt, 1 ≤ x.size ∧ x.size ≤ 5 ∧ 0 ≤ x.start ∧ x.start + x.size ≤ 5 ∧ (x.lead.length : Int) ≤ 9 * (5 - x.size)
  fresh : ∀ x ∈ wt, x.items = #[]
  head : ∃ P0 rest, dn ++ wt = P0 :: rest ∧ P0.K = [] ∧ P0.R.tag = Str.ofString "page" ∧ ∀ x ∈ rest, x.Below
  kids : dn.flatMap (fun x => x.items.toList) = (dn ++ wt).tail.map (fun x => Value.ref x.R.f)
  bfs : ∀ k < dn.length, k < 1 + ((dn.take k).map (·.items.size)).sum
theorem txt_eq {x : Str} {l : List Nat} (h : x.cps.toList = l) : x = txt l := by
  subst h
  obtain ⟨a⟩ := x
  simp [txt]
theorem txt_mul (n : Int) : Txt.mul (Str.ofString " ") n = txt (List.replicate n.toNat 32) := txt_eq (PyProof.Rows.mul_one_list 32 n)
theorem txt_app (a b : List Nat) : txt a ++ txt b = txt (a ++ b) := by
  refine txt_eq ?_
  show (a.toArray ++ b.toArray).toList = a ++ b
  simp
theorem run_txt (rn pt : Int) : Txt.mul (Str.ofString " ") (rn.fmod 7) ++ Str.ofString "\t" ++ Txt.mul (Str.ofString " ") ((rn.fdiv 7).fmod 3 * if (pt == 1) = true then 1 else 0) = txt (runOf rn pt) := by
  rw [txt_mul, txt_mul, show Str.ofString "\t" = txt [9] from rfl, txt_app, txt_app]
  unfold runOf
  simp only [beq_iff_eq]
theorem mask_bounds {bs st pt : Int} (h1 : 1 ≤ pt) (h2 : pt ≤ 4) (h3 : 0 ≤ st) (h4 : st + pt ≤ 5) (h5 : 0 ≤ bs) (h6 : bs < 30) : 0 < maskOf bs st pt ∧ maskOf bs st pt < 2 ^ 40 := by
  unfold maskOf
  first | ((first | refine el_0_2 (show ∃ a : Nat, pt = a from ⟨pt.toNat, by omega⟩) ?_ | refine el_1_1 (show ∃ a : Nat, pt = a from ⟨pt.toNat, by omega⟩) ?_); intro a zq1; subst zq1) | obtain ⟨a, rfl⟩ : ∃ a : Nat, pt = a := ⟨pt.toNat, by omega⟩
  first | ((first | refine el_0_2 (show ∃ b : Nat, (bs + st).toNat = b from ⟨_, rfl⟩) ?_ | refine el_1_1 (show ∃ b : Nat, (bs + st).toNat = b from ⟨_, rfl⟩) ?_); intro b hb) | obtain ⟨b, hb⟩ : ∃ b : Nat, (bs + st).toNat = b := ⟨_, rfl⟩
  rw [hb, Int.toNat_natCast]
  have hb2 : b ≤ 34 - a := by omega
  have e1 : ((2 ^ a : Nat) : Int) = 2 ^ a := by rw [Int.natCast_pow]; rfl
  have e2 : ((2 ^ b : Nat) : Int) = 2 ^ b := by rw [Int.natCast_pow]; rfl
  have p1 : 1 ≤ 2 ^ b := Nat.one_le_two_pow
  have p2 : 2 ^ 1 ≤ 2 ^ a := Nat.pow_le_pow_right (by omega) (by omega)
  have p3 : 2 ^ a * 2 ^ b ≤ 2 ^ 34 := by
    rw [← Nat.pow_add]
    exact Nat.pow_le_pow_right (by omega) (by omega)
  rw [← e1, ← e2]
  have p3' : ((2 ^ a : Nat) : Int) * ((2 ^ b : Nat) : Int) ≤ 17179869184 := by
    have := Int.ofNat_le.mpr p3
    rw [Int.natCast_mul] at this
    exact this
  generalize 2 ^ a = A at *
  generalize 2 ^ b = B at *
  refine ⟨Int.mul_pos (by omega) (by omega), ?_⟩
  rw [Int.sub_mul]
  have : (2 : Int) ^ 40 = 1099511627776 := by decide
  omega
theorem kidsGo_snoc (base : Int) (lead : List Nat) (q : Int) : ∀ (l : List Int) (st r : Int), kidsGo base lead (l ++ [q]) st r = kidsGo base lead l st r ++ [kidOf base lead q (st + l.sum) (runsGo l.length r)]
  | [], st, r => by simp [kidsGo, runsGo]
  | p :: l, st, r => by
    rw [List.cons_append, kidsGo, kidsGo, kidsGo_snoc base lead q l]
    simp [runsGo, Int.add_assoc]
theorem runsGo_succ : ∀ (k : Nat) (r : Int), runsGo (k + 1) r = (runsGo k r).fdiv 21
  | 0, r => rfl
  | k + 1, r => by
    rw [runsGo, runsGo_succ k]
    rfl
theorem runsGo_nonneg : ∀ (k : Nat) {r : Int}, 0 ≤ r → 0 ≤ runsGo k r
  | 0, _, h => h
  | k + 1, r, h => runsGo_nonneg k (by rw [Int.fdiv_eq_ediv_of_nonneg _ (by omega)]; exact Int.ediv_nonneg h (by omega))
theorem runOf_length (rn pt : Int) : (runOf rn pt).length ≤ 9 := by
  unfold runOf
  simp only [List.length_append, List.length_replicate, List.length_cons, List.length_nil]
  have h1 : rn.fmod 7 ≤ 6 := by rw [Int.fmod_eq_emod_of_nonneg _ (by omega)]; have := Int.emod_lt_of_pos rn (b := 7) (by omega); omega
  have h2 : (rn.fdiv 7).fmod 3 ≤ 2 := by rw [Int.fmod_eq_emod_of_nonneg _ (by omega)]; have := Int.emod_lt_of_pos (rn.fdiv 7) (b := 3) (by omega); omega
  have h3 : (rn.fdiv 7).fmod 3 * (if pt = 1 then 1 else 0) ≤ 2 := by split <;> omega
  have a := Int.toNat_le.mpr h1
  have b := Int.toNat_le.mpr h3
  first
  | exact Nat.add_le_add (Nat.add_le_add a (Nat.le_refl 1)) b
  | exact Nat.add_le_add a (Nat.add_le_add (Nat.le_refl 1) b)
  | exact Nat.add_le_add a (Nat.add_le_add b (Nat.le_refl 1))
  | exact Nat.add_le_add (Nat.add_le_add a b) (Nat.le_refl 1)
  | (trace_state; omega)
theorem lead_run {x : Nd} (rn pt : Int) (h : 1 ≤ x.size ∧ x.size ≤ 5 ∧ 0 ≤ x.start ∧ x.start + x.size ≤ 5 ∧ (x.lead.length : Int) ≤ 9 * (5 - x.size)) : x.lead.length + (runOf rn pt).length ≤ 100000 := by
  have h1 := h.1
  have h5 := h.2.2.2.2
  have h2 := runOf_length rn pt
  have h6 : (x.lead.length : Int) ≤ 36 := Int.le_trans h5 (by omega)
  have h7 : x.lead.length ≤ 36 := Int.ofNat_le.mp h6
  exact Nat.le_trans (Nat.add_le_add h7 h2) (by decide)
theorem perm_add {α : Type} {l l' : List α} (h : ∀ (cnt : List α → Nat) (one : α → Nat), cnt [] = 0 → (∀ a l, cnt (a :: l) = one a + cnt l) → (∀ a b, cnt (a ++ b) = cnt a + cnt b) → cnt l = cnt l') : l.Perm l' := by
  classical
  refine List.perm_iff_count.mpr fun a => h (List.count a) (fun b => if b == a then 1 else 0) rfl (fun b l => ?_) fun x y => List.count_append
  rw [List.count_cons]
  exact Nat.add_comm _ _
theorem allLt_mem {d : Nat} {l : List (Addr × Obj)} : AllLt d l → ∀ p ∈ l, @LT.lt Nat _ p.1 d := by
  induction l with
  | nil =>
    intro _ p hp
    cases hp
  | cons q l ih =>
    intro h p hp
    rcases List.mem_cons.mp hp with e | hp
    · rw [e]
      exact h.1
    · exact ih h.2 p hp
theorem apt_fresh {T : Addr} {o : Obj} {l : Ledger} (h : AllLt T l) (A : AptAll l) : AptAll ((T, o) :: l) :=
  List.pairwise_cons.mpr ⟨fun a ha => by
    first | ((first | refine el_0_3 (List.mem_map.mp ha) ?_ | refine el_1_2 (List.mem_map.mp ha) ?_ | refine el_2_1 (List.mem_map.mp ha) ?_); intro p hp zq2; subst zq2) | obtain ⟨p, hp, rfl⟩ := List.mem_map.mp ha
    exact Apt.gt (allLt_mem h p hp), A⟩
theorem restartE {M : Model} {A : Around} {α : Type} {c : Sem α} {Q : α → Shared → Prop} {E : Value → Shared → Prop} {s s₁ : Shared} {g h' : Heap} {L : Addr} {m : Str → Option Value} {gn : Array GenState} (_F : Fr g L h' m) (e1 : s₁.heap = h') (e2 : s₁.gens = gn) (e3 : s₁.drawn = s.drawn) (e4 : s₁.os = s.os)
    (h : ∀ tk, wpAny M A c Q E { s with heap := h', toks := tk, gens := gn }) : wpAny M A c Q E s₁ := restart _F e1 e2 e3 e4 h
section
variable {prog : Program} {w : World} {A : Around} {E : Value → Shared → Prop} {s : Shared} {h₀ : Heap} {L a : Addr} {m : Str → Option Value} {news : Ledger}
theorem truthy_cons {y : Value} {ys : List Value} {n : Nat} {Q : Bool → Shared → Prop} (N : News h₀ L s.heap news) (hm : (a, listOf (List.toArray (y :: ys)) n) ∈ news) (hfit : (y :: ys).length ≤ 1000)
    (h : Q true { s with toks := s.toks + 1 + 1 }) : wpAny (model prog w) A (truthy (.ref a)) Q E s :=
  wpAny_truthy_list (items := List.toArray (y :: ys)) ⟨_, (N _ hm).1, rfl, n, rfl⟩ (by rw [List.size_toArray]; omega) (by rw [List.isEmpty_toArray]; exact h)
end
section
variable {prog : Program} {w : World} {A : Around} {E : Value → Shared → Prop} {s : Shared} {h₀ : Heap} {L D : Addr} {m : Str → Option Value} {news news' : Ledger}
theorem pop0 {y : Value} {q : List Value} {n : Nat} {u : Tok} {Q : Value → Shared → Prop} (F : Fr h₀ L s.heap m) (N : News h₀ L s.heap news) (U : Upd D (listOf (List.toArray (y :: q)) n) (listOf (List.toArray q) (n + 1)) news news')
    (hz : (y :: q).length ≤ 1000) (h : ∀ h', Fr h₀ L h' m → News h₀ L h' news' → Q y { s with heap := h' }) : wpAny (model prog w) A (call (.builtin "list.pop") [.ref D, .int 0 u]) Q E s :=
  kl_popAt (p := []) (q := q) (k := 0) (its := List.toArray (y :: q)) F N rfl (by unfold seqIndex?; simp) rfl U (Nat.le_trans hz (by decide +kernel)) h
end
theorem apt_cons {p : Addr × Obj} {l : Ledger} (h : AptAll (p :: l)) : (∀ q ∈ l, q.1 ≠ p.1) ∧ AptAll l := by
  have := List.pairwise_cons.mp h
  exact ⟨fun q hq => (this.1 q.1 (List.mem_map_of_mem hq)).ne', this.2⟩
theorem apt_perm {l l' : Ledger} (h : AptAll l) (p : l.Perm l') : AptAll l' := by
  have pm : (l.map (·.1)).Perm (l'.map (·.1)) := p.map _
  exact (List.Perm.pairwise_iff (R := Apt) (fun {_ _} h => Apt.sw h) pm).mp h
theorem led_perm (dn : List Nd) (x : Nd) (wt : List Nd) : ((dn ++ x :: wt).flatMap Nd.led).Perm (x.led ++ (dn ++ wt).flatMap Nd.led) :=
  (List.perm_middle.flatMap_right Nd.led)
/-- what a while loop's turn owes -/
noncomputable def WT (I : Nat → Shared → Prop) (n : Nat) (R : Result → Shared → Prop) (f : Flow) (s₃ : Shared) : Prop :=
  match f with
  | .brk => R (.ok .next) s₃
  | .ret v => R (.ok (.ret v)) s₃
  | _ => ∃ m, m < n ∧ I m s₃
section
variable {prog : Program} {w : World} {A : Around} {E : Value → Shared → Prop} {s : Shared} {env : Env} {R : Result → Shared → Prop}
theorem while_go {test : PySem.Expr} {body orelse : List Stmt} (I : Nat → Shared → Prop)
    (turn : ∀ n s, I n s → wpAny (model prog w) A (isTrue test env (eval test env)) (fun b s₂ =>
        if b then wpAny (model prog w) A (execs body env) (WT I n R) (notedBy (model prog w) A env fun e s' => R (.error e) s') s₂
        else wpAny (model prog w) A (execs orelse env) (fun f s₃ => R (.ok f) s₃) (notedBy (model prog w) A env fun e s' => R (.error e) s') s₂)
        (notedBy (model prog w) A env fun e s' => R (.error e) s') s)
    (n : Nat) (h : I n s) : codeAny (model prog w) A (.whileLoop test body orelse env) R s := by
  refine codeAny_whileLoop I (fun n s hI => wpAny_mono (turn n s hI) (fun b s₂ h₂ => ?_) fun _ _ h => h) n h
  cases b with
  | true =>
    simp only [if_true] at h₂ ⊢
    refine wpAny_mono h₂ (fun f s₃ h₃ => ?_) fun _ _ h => h
    cases f <;> exact h₃
  | false =>
    simp only [Bool.false_eq_true, if_false] at h₂ ⊢
    exact h₂
end
section
variable {prog : Program} {w : World} {A : Around} {E : Value → Shared → Prop} {s : Shared} {t u : Tok} {Q : Value → Shared → Prop} {a b : List Nat}
theorem add_txt (hz : a.length + b.length ≤ 100000) (h : ∀ t' tk, Q (.str (txt (a ++ b)) t') { s with toks := tk }) : wpAny (model prog w) A (binaryOp .Add (.str (txt a) t) (.str (txt b) u)) Q E s := by
  refine SBL.add (fun t' c _ => ?_) ?_
  · rw [txt_app]
    exact h t' c
  · rw [sizeLine_eq]
    show a.toArray.size + b.toArray.size ≤ _
    rw [List.size_toArray, List.size_toArray]
    omega
end
theorem apt_split {a b : Ledger} (h : AptAll (a ++ b)) : ∀ p ∈ b, ∀ q ∈ a, p.1 ≠ q.1 := by
  unfold AptAll at h
  rw [List.map_append] at h
  intro p hp q hq
  exact ((List.pairwise_append.mp h).2.2 q.1 (List.mem_map_of_mem hq) p.1 (List.mem_map_of_mem hp)).ne'
theorem apt_join {a b : Ledger} (ha : AptAll a) (hb : AptAll b) (h : ∀ p ∈ a, ∀ q ∈ b, Apt p.1 q.1) : AptAll (a ++ b) := by
  unfold AptAll at *
  rw [List.map_append]
  refine List.pairwise_append.mpr ⟨ha, hb, fun x hx y hy => ?_⟩
  first | ((first | refine el_0_3 (List.mem_map.mp hx) ?_ | refine el_1_2 (List.mem_map.mp hx) ?_ | refine el_2_1 (List.mem_map.mp hx) ?_); intro p hp zq3; subst zq3) | obtain ⟨p, hp, rfl⟩ := List.mem_map.mp hx
  first | ((first | refine el_0_3 (List.mem_map.mp hy) ?_ | refine el_1_2 (List.mem_map.mp hy) ?_ | refine el_2_1 (List.mem_map.mp hy) ?_); intro q hq zq4; subst zq4) | obtain ⟨q, hq, rfl⟩ := List.mem_map.mp hy
  exact h p hp q hq
theorem apt_snoc {a : Ledger} {I : Addr} {oI : Obj} (h : AptAll a) (hI : ∀ p ∈ a, Apt p.1 I) : AptAll (a ++ [(I, oI)]) :=
  apt_join h (List.pairwise_singleton _ _) fun p hp q hq => by
    obtain rfl := List.mem_singleton.mp hq
    exact hI p hp
theorem apt_left {a b : Ledger} (h : AptAll (a ++ b)) : AptAll a := by
  unfold AptAll at *
  rw [List.map_append] at h
  exact (List.pairwise_append.mp h).1
theorem apt_right {a b : Ledger} (h : AptAll (a ++ b)) : AptAll b := by
  unfold AptAll at *
  rw [List.map_append] at h
  exact (List.pairwise_append.mp h).2.1
theorem turn_perm (a1 a2 a3 a4 a5 a6 t2 t1 b1 b2 b3 b4 b5 b6 b7 b8 i l2 wl kl : Addr × Obj) (CH RS : Ledger) :
    (l2 :: wl :: kl :: b1 :: b2 :: b3 :: b4 :: b5 :: b6 :: b7 :: b8 :: ((CH ++ [a3, a2, a1, a5, a4, a6, t2, t1] ++ RS) ++ [i])).Perm (t2 :: t1 :: a1 :: a2 :: a3 :: a4 :: a5 :: a6 :: b1 :: b2 :: b3 :: b4 :: b5 :: b6 :: b7 :: b8 :: l2 :: wl :: kl :: ((CH ++ RS) ++ [i])) :=
  Rf.perm (x := _) (l := [_, _, _, _, _, _, _, _, _, _, _, _, _, _, _, _, _, _, _]) (r := [_, _]) (.cons 0 (.cons 1 (.cons 2 (.cons 3 (.cons 4 (.cons 5 (.cons 6 (.cons 7 (.cons 8 (.cons 9 (.cons 10 (.app (.app (.app (.leaf 0) (.cons 18 (.cons 17 (.cons 16 (.cons 15 (.cons 14 (.cons 13 (.cons 12 (.cons 11 .nil))))))))) (.leaf 1)) (.cons 19 .nil))))))))))))) (.cons 12 (.cons 11 (.cons 16 (.cons 17 (.cons 18 (.cons 14 (.cons 15 (.cons 13 (.cons 3 (.cons 4 (.cons 5 (.cons 6 (.cons 7 (.cons 8 (.cons 9 (.cons 10 (.cons 0 (.cons 1 (.cons 2 (.app (.app (.leaf 0) (.leaf 1)) (.cons 19 .nil))))))))))))))))))))) (by decide)
theorem turn_apt {a1 a2 a3 a4 a5 a6 t2 t1 b1 b2 b3 b4 b5 b6 b8 i l2 : Addr × Obj} {Pt wl kl : Addr} {oP oP' oW oW' oK oK' : Obj} {CH RS : Ledger}
    (A : AptAll (t2 :: t1 :: ([a1, a2, a3, a4, a5, a6] ++ ([b1, b2, b3, b4, b5, b6, (Pt, oP), b8] ++ ([l2, (wl, oW), (kl, oK)] ++ ((CH ++ RS) ++ [i])))))) :
    AptAll (l2 :: (wl, oW') :: (kl, oK') :: b1 :: b2 :: b3 :: b4 :: b5 :: b6 :: (Pt, oP') :: b8 :: (CH ++ [a3, a2, a1, a5, a4, a6, t2, t1] ++ RS)) := by
  have A' : AptAll (t2 :: t1 :: a1 :: a2 :: a3 :: a4 :: a5 :: a6 :: b1 :: b2 :: b3 :: b4 :: b5 :: b6 :: (Pt, oP') :: b8 :: l2 :: (wl, oW') :: (kl, oK') :: ((CH ++ RS) ++ [i])) := by
    unfold AptAll at A ⊢
    simp only [List.map_cons, List.map_append, List.cons_append, List.nil_append] at A ⊢
    exact A
  exact apt_left (b := [i]) (by simpa only [List.cons_append, List.append_assoc] using apt_perm A' (turn_perm a1 a2 a3 a4 a5 a6 t2 t1 b1 b2 b3 b4 b5 b6 (Pt, oP') b8 i l2 (wl, oW') (kl, oK') CH RS).symm)
noncomputable def PgInv (w : World) (p : Program) (loose : List Str) (mean : ExcName → Option Value) (mg mb : Str → Option Value) (A₀ : Around) (outer : List Env) (base g : Heap) (s : Shared) (Lf wl kl : Addr) (k1 k2 : Addr) (oc1 oc2 : Obj) (pf : Addr) (bs : Int) (tb : Tok) (cuts runs : Int) (n : Nat) (s' : Shared) : Prop :=
  ∃ (g' h' : Heap) (tk : Nat) (gn : Array GenState) (u : Str → Option Value) (dn wt : List Nd) (cw ck : Nat) (c r : Int) (tc tr : Tok),
    s' = { s with heap := h', toks := tk, gens := gn } ∧ AllBare gn ∧ Heap.SlotsOnly (framesOf outer) g g' ∧ KtsDicts (framesOf outer) g' ∧ Below A₀ base outer g' ∧ (hd.heap_39 w.params).In g' ∧ Top p loose mean mg mb g' ∧
    Fr g' Lf h' (fun y => if y ∈ [Str.ofString "above", Str.ofString "lead", Str.ofString "start", Str.ofString "size", Str.ofString "sizes", Str.ofString "part", Str.ofString "number", Str.ofString "run", Str.ofString "below"] then u y else if y = Str.ofString "waiting" then some (Value.ref wl) else if y = Str.ofString "kept" then some (Value.ref kl) else if y = Str.ofString "page" then some (Value.ref pf) else if y = Str.ofString "base" then some (Value.int bs tb) else if y = Str.ofString "runs" then some (Value.int r tr) else if y = Str.ofString "cuts" then some (Value.int c tc) else none) ∧
    News g' Lf h' (ledOf wl kl (wt.map fun x => .ref x.W) ((dn ++ wt).flatMap Nd.kv) cw ck k1 k2 oc1 oc2 (dn ++ wt)) ∧ AptAll (ledOf wl kl (wt.map fun x => .ref x.W) ((dn ++ wt).flatMap Nd.kv) cw ck k1 k2 oc1 oc2 (dn ++ wt)) ∧
    (∀ x ∈ dn ++ wt, x.Ok w p loose mean mg mb k2) ∧ PgPure bs cuts runs dn wt c r ∧ (∃ P0 rest, dn ++ wt = P0 :: rest ∧ P0.R.f = pf) ∧ n = meas wt
structure PgA where
  ch : List Nd
  cw : Nat
  ck : Nat
  np : Nat
theorem dueOf_length {n x : Int} (h1 : 2 ≤ n) (h2 : n ≤ 5) : (dueOf n x).length ≤ 5 := by
  unfold dueOf
  repeat' split
  all_goals
    simp only [List.length_replicate, List.length_cons, List.length_nil]
    omega

end
-- PGPURE
section
open PySem PySem.Spec PySem.W PyProof.Rows PySem.Calls PyProof.V
theorem partsGo_facts : ∀ (L : List Int) (s : Int), (∀ q ∈ L, 1 ≤ q) → 0 ≤ s → s ≤ L.sum → (partsGo L s).sum = s ∧ ∀ q ∈ partsGo L s, 1 ≤ q ∧ q ≤ s
  | [], s, _, h0, h1 => by
    have : s = 0 := by simp at h1; omega
    subst this
    exact ⟨rfl, fun q hq => by cases hq⟩
  | p :: r, s, hL, h0, h1 => by
    have hp := hL p (.head _)
    have hr : ∀ q ∈ r, 1 ≤ q := fun q hq => hL q (.tail _ hq)
    have hrs : 0 ≤ r.sum := by
      clear hL h1
      induction r with
      | nil => simp
      | cons a r ih =>
        have := hr a (.head _)
        have := ih fun q hq => hr q (.tail _ hq)
        rw [List.sum_cons]
        omega
    rw [List.sum_cons] at h1
    rw [partsGo]
    split
    · rename_i hs
      first | ((first | refine el_0_2 (partsGo_facts r (s - min p s) hr (by omega) (by omega)) ?_ | refine el_1_1 (partsGo_facts r (s - min p s) hr (by omega) (by omega)) ?_); intro i1 i2) | obtain ⟨i1, i2⟩ := partsGo_facts r (s - min p s) hr (by omega) (by omega)
      refine ⟨by rw [List.sum_cons, i1]; omega, fun q hq => ?_⟩
      rcases List.mem_cons.mp hq with rfl | hq
      · omega
      · have := i2 q hq
        omega
    · exact partsGo_facts r s hr h0 (by omega)
theorem due_cons {n x : Int} (h1 : 2 ≤ n) (h2 : n ≤ 5) (h3 : 0 ≤ x) : ∃ rest, dueOf n x = firstOf n x :: rest ∧ ∀ q ∈ rest, 1 ≤ q := by
  first | ((first | refine el_0_6 (sizes_bounds h1 h2 h3) ?_ | refine el_1_5 (sizes_bounds h1 h2 h3) ?_ | refine el_2_4 (sizes_bounds h1 h2 h3) ?_ | refine el_3_3 (sizes_bounds h1 h2 h3) ?_ | refine el_4_2 (sizes_bounds h1 h2 h3) ?_ | refine el_5_1 (sizes_bounds h1 h2 h3) ?_); intro q0 q3 f1 fn s1 s2) | obtain ⟨q0, q3, f1, fn, s1, s2⟩ := sizes_bounds h1 h2 h3
  unfold dueOf
  first | ((first | refine el_0_2 (show ∃ k : Nat, n.toNat = k + 1 from ⟨n.toNat - 1, by omega⟩) ?_ | refine el_1_1 (show ∃ k : Nat, n.toNat = k + 1 from ⟨n.toNat - 1, by omega⟩) ?_); intro k hk) | obtain ⟨k, hk⟩ : ∃ k : Nat, n.toNat = k + 1 := ⟨n.toNat - 1, by omega⟩
  split
  · refine ⟨List.replicate k (firstOf n x), by rw [hk, List.replicate_succ], fun q hq => ?_⟩
    rw [List.eq_of_mem_replicate hq]
    exact f1
  · split
    · exact ⟨[], rfl, fun q hq => by cases hq⟩
    · split
      · exact ⟨[secondOf x], rfl, fun q hq => by rw [List.mem_singleton.mp hq]; exact s1⟩
      · exact ⟨_, rfl, fun q hq => by rw [List.eq_of_mem_replicate hq]; exact s1⟩
theorem parts_facts {n x : Int} (h1 : 2 ≤ n) (h2 : n ≤ 5) (h3 : 0 ≤ x) : (∀ q ∈ partsOf n x, 1 ≤ q ∧ q < n) ∧ (partsOf n x).sum = n ∧ (partsOf n x).length ≤ 5 := by
  first | ((first | refine el_0_6 (sizes_bounds h1 h2 h3) ?_ | refine el_1_5 (sizes_bounds h1 h2 h3) ?_ | refine el_2_4 (sizes_bounds h1 h2 h3) ?_ | refine el_3_3 (sizes_bounds h1 h2 h3) ?_ | refine el_4_2 (sizes_bounds h1 h2 h3) ?_ | refine el_5_1 (sizes_bounds h1 h2 h3) ?_); intro q0 q3 f1 fn s1 s2) | obtain ⟨q0, q3, f1, fn, s1, s2⟩ := sizes_bounds h1 h2 h3
  first | ((first | refine el_0_3 (due_cons h1 h2 h3) ?_ | refine el_1_2 (due_cons h1 h2 h3) ?_ | refine el_2_1 (due_cons h1 h2 h3) ?_); intro rest e hr) | obtain ⟨rest, e, hr⟩ := due_cons h1 h2 h3
  unfold partsOf
  rw [e, List.cons_append, partsGo, if_pos (by omega), show min (firstOf n x) n = firstOf n x by omega]
  have hall : ∀ q ∈ rest ++ [n], 1 ≤ q := fun q hq => by
    rcases List.mem_append.mp hq with h | h
    · exact hr q h
    · rw [List.mem_singleton.mp h]; omega
  have hs : n ≤ (rest ++ [n]).sum := by
    clear hall e
    induction rest with
    | nil => simp
    | cons a r ih =>
      have := hr a (.head _)
      have := ih fun q hq => hr q (.tail _ hq)
      rw [List.cons_append, List.sum_cons]
      omega
  first | ((first | refine el_0_2 (partsGo_facts (rest ++ [n]) (n - firstOf n x) hall (by omega) (by omega)) ?_ | refine el_1_1 (partsGo_facts (rest ++ [n]) (n - firstOf n x) hall (by omega) (by omega)) ?_); intro i1 i2) | obtain ⟨i1, i2⟩ := partsGo_facts (rest ++ [n]) (n - firstOf n x) hall (by omega) (by omega)
  have a1 : ∀ q ∈ firstOf n x :: partsGo (rest ++ [n]) (n - firstOf n x), 1 ≤ q ∧ q < n := fun q hq => by
    rcases List.mem_cons.mp hq with rfl | hq
    · omega
    · have := i2 q hq
      omega
  have a2 : (firstOf n x :: partsGo (rest ++ [n]) (n - firstOf n x)).sum = n := by rw [List.sum_cons, i1]; omega
  refine ⟨a1, a2, ?_⟩
  have len : ∀ l : List Int, (∀ q ∈ l, 1 ≤ q) → (l.length : Int) ≤ l.sum := by
    intro l
    induction l with
    | nil => intro _; simp
    | cons a r ih =>
      intro h
      have := h a (.head _)
      have := ih fun q hq => h q (.tail _ hq)
      rw [List.sum_cons, List.length_cons]
      omega
  have := len _ fun q hq => (a1 q hq).1
  omega
theorem sum_take {l : List Int} (h : ∀ q ∈ l, 1 ≤ q) (k : Nat) : 0 ≤ (l.take k).sum ∧ (l.take k).sum ≤ l.sum := by
  induction l generalizing k with
  | nil => simp
  | cons a r ih =>
    have ha := h a (.head _)
    have hr := fun q hq => h q (.tail _ hq)
    cases k with
    | zero =>
      have := ih hr 0
      simp only [List.take_zero, List.sum_nil, List.sum_cons] at this ⊢
      omega
    | succ k =>
      have := ih hr k
      simp only [List.take_succ_cons, List.sum_cons]
      omega
theorem meas_ge : ∀ {l : List Nd}, (∀ x ∈ l, 1 ≤ x.size) → l.length ≤ meas l
  | [], _ => Nat.le_refl _
  | x :: l, h => by
    have := meas_ge (l := l) fun y hy => h y (.tail _ hy)
    have hx := h x (.head _)
    unfold meas at *
    rw [List.map_cons, List.sum_cons, List.length_cons]
    omega
theorem meas_cons (x : Nd) (l : List Nd) : meas (x :: l) = (2 * x.size - 1).toNat + meas l := by
  unfold meas
  rw [List.map_cons, List.sum_cons]
theorem meas_app (a b : List Nd) : meas (a ++ b) = meas a + meas b := by
  unfold meas
  rw [List.map_append, List.sum_append]
theorem kv_le : ∀ {l : List Nd}, (∀ y ∈ l, y.K.length ≤ 1) → (l.flatMap Nd.kv).length ≤ l.length
  | [], _ => Nat.le_refl _
  | x :: l, h => by
    have := kv_le (l := l) fun y hy => h y (.tail _ hy)
    have hx := h x (.head _)
    rw [List.flatMap_cons, List.length_append, List.length_cons]
    unfold Nd.kv
    rw [List.length_map]
    unfold Nd.kv at this
    omega
section
variable {bs cuts runs c r : Int} {dn wt : List Nd}
theorem PgPure.kone (P : PgPure bs cuts runs dn wt c r) : ∀ y ∈ dn ++ wt, y.K.length ≤ 1 := by
  first | ((first | refine el_0_6 (P.head) ?_ | refine el_1_5 (P.head) ?_ | refine el_2_4 (P.head) ?_ | refine el_3_3 (P.head) ?_ | refine el_4_2 (P.head) ?_ | refine el_5_1 (P.head) ?_); intro P0 rest e hK _ hb) | obtain ⟨P0, rest, e, hK, _, hb⟩ := P.head
  intro y hy
  rw [e] at hy
  rcases List.mem_cons.mp hy with rfl | hy
  · rw [hK]; exact Nat.zero_le _
  · first | ((first | refine el_0_5 ((hb y hy).kept) ?_ | refine el_1_4 ((hb y hy).kept) ?_ | refine el_2_3 ((hb y hy).kept) ?_ | refine el_3_2 ((hb y hy).kept) ?_ | refine el_4_1 ((hb y hy).kept) ?_); intro U _ _ _ hk) | obtain ⟨U, _, _, _, hk⟩ := (hb y hy).kept
    rw [hk]; exact Nat.le_refl _
theorem PgPure.total (P : PgPure bs cuts runs dn wt c r) : (dn ++ wt).length ≤ 9 := by
  have := meas_ge fun x hx => (P.sz x hx).1
  have := P.few
  rw [List.length_append]
  omega
theorem PgPure.kvs (P : PgPure bs cuts runs dn wt c r) : ((dn ++ wt).flatMap Nd.kv).length ≤ 9 := Nat.le_trans (kv_le P.kone) P.total
theorem meas_kids (base : Int) (lead : List Nat) : ∀ (l : List Int) (st r : Int), (∀ q ∈ l, 1 ≤ q) → (((kidsGo base lead l st r).map fun (x : PN) => (2 * x.size - 1).toNat).sum : Int) = 2 * l.sum - l.length
  | [], _, _, _ => rfl
  | p :: l, st, r, h => by
    have := meas_kids base lead l (st + p) (r.fdiv 21) fun q hq => h q (.tail _ hq)
    have hp := h p (.head _)
    rw [kidsGo, List.map_cons, List.sum_cons, List.sum_cons, List.length_cons]
    show (((2 * p - 1).toNat + _ : Nat) : Int) = _
    omega
theorem kids_sz (base : Int) (lead : List Nat) : ∀ (l : List Int) (st r : Int), (∀ q ∈ l, 1 ≤ q) → ∀ x ∈ kidsGo base lead l st r, x.size ∈ l ∧ st ≤ x.start ∧ x.start + x.size ≤ st + l.sum ∧ x.lead.length ≤ lead.length + 9
  | [], _, _, _, x, hx => by cases hx
  | p :: l, st, r, h, x, hx => by
    have hp := h p (.head _)
    have hl := fun q hq => h q (.tail _ hq)
    have hs := (sum_take hl 0).2
    rw [List.take_zero, List.sum_nil] at hs
    rw [kidsGo] at hx
    rw [List.sum_cons]
    rcases List.mem_cons.mp hx with rfl | hx
    · refine ⟨.head _, Int.le_refl _, ?_, ?_⟩
      · show st + p ≤ _
        omega
      · show (lead ++ runOf r p).length ≤ _
        rw [List.length_append]
        have := runOf_length r p
        omega
    · first | ((first | refine el_0_4 (kids_sz base lead l (st + p) (r.fdiv 21) hl x hx) ?_ | refine el_1_3 (kids_sz base lead l (st + p) (r.fdiv 21) hl x hx) ?_ | refine el_2_2 (kids_sz base lead l (st + p) (r.fdiv 21) hl x hx) ?_ | refine el_3_1 (kids_sz base lead l (st + p) (r.fdiv 21) hl x hx) ?_); intro h1 h2 h3 h4) | obtain ⟨h1, h2, h3, h4⟩ := kids_sz base lead l (st + p) (r.fdiv 21) hl x hx
      exact ⟨.tail _ h1, by omega, by omega, h4⟩
end

end
-- PGSTEP
section
open PySem PySem.Spec PySem.W PyProof.Rows PySem.Calls PyProof.V
section
variable {bs cuts runs c r : Int} {dn wt : List Nd} {x : Nd}
theorem sum_sizes : ∀ l : List Nd, (l.map fun x => x.items.size).sum = (l.flatMap fun x => x.items.toList).length
  | [] => rfl
  | x :: l => by
    rw [List.map_cons, List.sum_cons, sum_sizes l, List.flatMap_cons, List.length_append]
    rfl
theorem meas_pn (l : List Nd) : meas l = ((l.map Nd.pn).map fun (x : PN) => (2 * x.size - 1).toNat).sum := by
  unfold meas
  rw [List.map_map]
  rfl
theorem tail_swap (dn : List Nd) (x x' : Nd) (wt ch : List Nd) (hf : x'.R.f = x.R.f) : (dn ++ [x'] ++ (wt ++ ch)).tail.map (fun (y : Nd) => Value.ref y.R.f) = (dn ++ x :: wt).tail.map (fun (y : Nd) => Value.ref y.R.f) ++ ch.map fun (y : Nd) => Value.ref y.R.f := by
  cases dn with
  | nil => simp
  | cons d dn => simp [hf]
theorem PgPure.go (P : PgPure bs cuts runs dn (x :: wt) c r) {ch : List Nd} {x' : Nd} {c' r' : Int} (hpn : x'.pn = x.pn) (hR : x'.R = x.R) (hK : x'.K = x.K) (hit : x'.items = List.toArray (ch.map fun (y : Nd) => Value.ref y.R.f))
    (hc : 0 ≤ c') (hr : 0 ≤ r') (hm : meas (wt ++ ch) < meas (x :: wt)) (hg : ∀ f, grow bs (f + 1) ((x :: wt).map Nd.pn) c r = ch.map Nd.pn ++ grow bs f ((wt ++ ch).map Nd.pn) c' r')
    (hsz : ∀ y ∈ ch, 1 ≤ y.size ∧ y.size ≤ 5 ∧ 0 ≤ y.start ∧ y.start + y.size ≤ 5 ∧ (y.lead.length : Int) ≤ 9 * (5 - y.size)) (hok : ∀ y ∈ ch, y.Below ∧ y.items = #[]) :
    PgPure bs cuts runs (dn ++ [x']) (wt ++ ch) c' r' := by
  have hlen : (dn.map fun x => x.items.size).sum = dn.length + wt.length := by
    rw [sum_sizes, P.kids, List.length_map, List.length_tail, List.length_append, List.length_cons]
    omega
  refine ⟨hc, hr, ?_, ?_, ?_, ?_, ?_, ?_, ?_⟩
  · first | ((first | refine el_0_3 (P.full) ?_ | refine el_1_2 (P.full) ?_ | refine el_2_1 (P.full) ?_); intro f hf e) | obtain ⟨f, hf, e⟩ := P.full
    first | ((first | refine el_0_2 (show ∃ f', f = f' + 1 from ⟨f - 1, by omega⟩) ?_ | refine el_1_1 (show ∃ f', f = f' + 1 from ⟨f - 1, by omega⟩) ?_); intro f' zq1; subst zq1) | obtain ⟨f', rfl⟩ : ∃ f', f = f' + 1 := ⟨f - 1, by omega⟩
    refine ⟨f', by omega, ?_⟩
    rw [← e, hg f']
    simp only [List.map_append, List.map_cons, List.map_nil, hpn, List.append_assoc, List.cons_append, List.nil_append]
  · have := P.few
    rw [List.length_append, List.length_singleton]
    omega
  · intro y hy
    rcases List.mem_append.mp hy with h | h
    · exact P.sz y (.tail _ h)
    · exact hsz y h
  · intro y hy
    rcases List.mem_append.mp hy with h | h
    · exact P.fresh y (.tail _ h)
    · exact (hok y h).2
  · first | ((first | refine el_0_6 (P.head) ?_ | refine el_1_5 (P.head) ?_ | refine el_2_4 (P.head) ?_ | refine el_3_3 (P.head) ?_ | refine el_4_2 (P.head) ?_ | refine el_5_1 (P.head) ?_); intro P0 rest e h1 h2 h3) | obtain ⟨P0, rest, e, h1, h2, h3⟩ := P.head
    have hB : ∀ (y : Nd), y = x → y.Below → x'.Below := fun y e hb => by
      subst e
      first | ((first | refine el_0_5 (hb.kept) ?_ | refine el_1_4 (hb.kept) ?_ | refine el_2_3 (hb.kept) ?_ | refine el_3_2 (hb.kept) ?_ | refine el_4_1 (hb.kept) ?_); intro U tn tl tr hk) | obtain ⟨U, tn, tl, tr, hk⟩ := hb.kept
      have q : x'.lead = y.lead ∧ x'.start = y.start ∧ x'.size = y.size ∧ x'.number = y.number ∧ x'.run = y.run := by
        unfold Nd.pn at hpn
        simpa using hpn
      refine ⟨?_, U, tn, tl, tr, ?_⟩
      · rw [hR, q.2.2.2.1]; exact hb.tag
      · rw [hK, hk, hR, q.1, q.2.2.2.1, q.2.2.2.2]
    cases dn with
    | nil =>
      first | ((first | refine el_0_2 (List.cons.inj e) ?_ | refine el_1_1 (List.cons.inj e) ?_); intro zq2 zq3; subst zq2; subst zq3) | obtain ⟨rfl, rfl⟩ := List.cons.inj e
      refine ⟨x', wt ++ ch, rfl, by rw [hK]; exact h1, by rw [hR]; exact h2, fun y hy => ?_⟩
      rcases List.mem_append.mp hy with h | h
      · exact h3 y h
      · exact (hok y h).1
    | cons d dn =>
      first | ((first | refine el_0_2 (List.cons.inj e) ?_ | refine el_1_1 (List.cons.inj e) ?_); intro zq4 zq5; subst zq4; subst zq5) | obtain ⟨rfl, rfl⟩ := List.cons.inj e
      refine ⟨d, dn ++ [x'] ++ (wt ++ ch), rfl, h1, h2, fun y hy => ?_⟩
      rcases List.mem_append.mp hy with h | h
      · rcases List.mem_append.mp h with h | h
        · exact h3 y (List.mem_append_left _ h)
        · rw [List.mem_singleton.mp h]
          exact hB x rfl (h3 x (List.mem_append_right _ (.head _)))
      · rcases List.mem_append.mp h with h | h
        · exact h3 y (List.mem_append_right _ (.tail _ h))
        · exact (hok y h).1
  · rw [tail_swap dn x x' wt ch (by rw [hR]), ← P.kids, List.flatMap_append]
    simp [hit]
  · intro k hk
    rw [List.length_append, List.length_singleton] at hk
    rw [List.take_append_of_le_length (by omega)]
    rcases Nat.lt_or_ge k dn.length with h | h
    · exact P.bfs k h
    · rw [List.take_of_length_le (by omega), hlen]
      omega
theorem PgPure.step (P : PgPure bs cuts runs dn (x :: wt) c r) (h : 1 < x.size) {ch : List Nd} {x' : Nd} (hpn : x'.pn = x.pn) (hR : x'.R = x.R) (hK : x'.K = x.K) (hit : x'.items = List.toArray (ch.map fun (y : Nd) => Value.ref y.R.f))
    (hch : ch.map Nd.pn = kidsGo bs x.lead (partsOf x.size c) x.start r) (hok : ∀ y ∈ ch, y.Below ∧ y.items = #[]) :
    PgPure bs cuts runs (dn ++ [x']) (wt ++ ch) (c.fdiv 32) (runsGo (partsOf x.size c).length r) ∧ meas (wt ++ ch) < meas (x :: wt) := by
  first | ((first | refine el_0_5 (P.sz x (.head _)) ?_ | refine el_1_4 (P.sz x (.head _)) ?_ | refine el_2_3 (P.sz x (.head _)) ?_ | refine el_3_2 (P.sz x (.head _)) ?_ | refine el_4_1 (P.sz x (.head _)) ?_); intro z1 z2 z3 z4 z5) | obtain ⟨z1, z2, z3, z4, z5⟩ := P.sz x (.head _)
  first | ((first | refine el_0_3 (parts_facts (n := x.size) (x := c) (by omega) z2 P.c0) ?_ | refine el_1_2 (parts_facts (n := x.size) (x := c) (by omega) z2 P.c0) ?_ | refine el_2_1 (parts_facts (n := x.size) (x := c) (by omega) z2 P.c0) ?_); intro p1 p2 p3) | obtain ⟨p1, p2, p3⟩ := parts_facts (n := x.size) (x := c) (by omega) z2 P.c0
  have pos : ∀ q ∈ partsOf x.size c, 1 ≤ q := fun q hq => (p1 q hq).1
  have hm : meas (wt ++ ch) < meas (x :: wt) := by
    rw [meas_app, meas_cons]
    have e : (meas ch : Int) = 2 * (partsOf x.size c).sum - (partsOf x.size c).length := by
      rw [meas_pn, hch]
      exact meas_kids bs x.lead _ _ _ pos
    have l2 : 2 ≤ (partsOf x.size c).length := by
      rcases hq : partsOf x.size c with _ | ⟨a, _ | ⟨b, l⟩⟩
      · rw [hq] at p2; simp at p2; omega
      · rw [hq] at p1 p2
        have := p1 a (.head _)
        simp at p2
        omega
      · simp
    omega
  refine ⟨P.go hpn hR hK hit ?_ (runsGo_nonneg _ P.r0) hm (fun f => ?_) (fun y hy => ?_) hok, hm⟩
  · rw [Int.fdiv_eq_ediv_of_nonneg _ (by omega)]
    exact Int.ediv_nonneg P.c0 (by omega)
  · rw [List.map_append, hch]
    show (if 1 < x.size then _ else _) = _
    rw [if_pos h]
    rfl
  · have hy' : y.pn ∈ kidsGo bs x.lead (partsOf x.size c) x.start r := by
      rw [← hch]
      exact List.mem_map_of_mem hy
    first | ((first | refine el_0_4 (kids_sz bs x.lead _ _ _ pos y.pn hy') ?_ | refine el_1_3 (kids_sz bs x.lead _ _ _ pos y.pn hy') ?_ | refine el_2_2 (kids_sz bs x.lead _ _ _ pos y.pn hy') ?_ | refine el_3_1 (kids_sz bs x.lead _ _ _ pos y.pn hy') ?_); intro k1 k2 k3 k4) | obtain ⟨k1, k2, k3, k4⟩ := kids_sz bs x.lead _ _ _ pos y.pn hy'
    have k1' : y.size ∈ partsOf x.size c := k1
    have k2' : x.start ≤ y.start := k2
    have k3' : y.start + y.size ≤ x.start + (partsOf x.size c).sum := k3
    have k4' : y.lead.length ≤ x.lead.length + 9 := k4
    first | ((first | refine el_0_2 (p1 _ k1') ?_ | refine el_1_1 (p1 _ k1') ?_); intro q1 q2) | obtain ⟨q1, q2⟩ := p1 _ k1'
    rw [p2] at k3'
    refine ⟨q1, by omega, by omega, by omega, by omega⟩
theorem PgPure.skip (P : PgPure bs cuts runs dn (x :: wt) c r) (h : ¬ 1 < x.size) : PgPure bs cuts runs (dn ++ [x]) wt c r ∧ meas wt < meas (x :: wt) := by
  first | ((first | refine el_0_5 (P.sz x (.head _)) ?_ | refine el_1_4 (P.sz x (.head _)) ?_ | refine el_2_3 (P.sz x (.head _)) ?_ | refine el_3_2 (P.sz x (.head _)) ?_ | refine el_4_1 (P.sz x (.head _)) ?_); intro z1 z2 z3 z4 z5) | obtain ⟨z1, z2, z3, z4, z5⟩ := P.sz x (.head _)
  have hm : meas (wt ++ []) < meas (x :: wt) := by
    rw [List.append_nil, meas_cons]
    omega
  have g := P.go (ch := []) (x' := x) (c' := c) (r' := r) rfl rfl rfl (by rw [P.fresh x (.head _)]; rfl) P.c0 P.r0 hm (fun f => ?_) (fun y hy => nomatch hy) (fun y hy => nomatch hy)
  · rw [List.append_nil] at g hm
    exact ⟨g, hm⟩
  · show (if 1 < x.size then _ else _) = _
    rw [if_neg h, List.append_nil]
    rfl
theorem PgPure.init {x : Nd} (hc : 0 ≤ cuts) (hr : 0 ≤ runs) (hp : x.pn = rootPN) (hi : x.items = #[]) (hK : x.K = []) (ht : x.R.tag = Str.ofString "page") : PgPure bs cuts runs [] [x] cuts runs ∧ meas [x] = 9 := by
  have hs : x.size = 5 ∧ x.start = 0 ∧ x.lead = [] := by
    unfold Nd.pn rootPN at hp
    simp at hp
    exact ⟨hp.2.2.1, hp.2.1, hp.1⟩
  first | ((first | refine el_0_3 (hs) ?_ | refine el_1_2 (hs) ?_ | refine el_2_1 (hs) ?_); (try clear hs); intro e1 e2 e3) | obtain ⟨e1, e2, e3⟩ := hs
  have hm : meas [x] = 9 := by
    unfold meas
    simp [e1]
  refine ⟨⟨hc, hr, ⟨20, by omega, ?_⟩, ?_, ?_, ?_, ⟨x, [], rfl, hK, ht, fun y hy => by cases hy⟩, rfl, fun k hk => by cases hk⟩, hm⟩
  · rw [List.nil_append, List.map_cons, List.map_nil, hp]
    rfl
  · rw [hm]
    exact Nat.le_refl _
  · intro y hy
    obtain rfl := List.mem_singleton.mp hy
    rw [e1, e2, e3]
    simp
  · intro y hy
    obtain rfl := List.mem_singleton.mp hy
    exact hi
end
theorem turn_aptI {a1 a2 a3 a4 a5 a6 t2 t1 b1 b2 b3 b4 b5 b6 b8 i l2 : Addr × Obj} {Pt wl kl : Addr} {oP oP' oW oW' oK oK' : Obj} {CH RS : Ledger}
    (A : AptAll (t2 :: t1 :: ([a1, a2, a3, a4, a5, a6] ++ ([b1, b2, b3, b4, b5, b6, (Pt, oP), b8] ++ ([l2, (wl, oW), (kl, oK)] ++ ((CH ++ RS) ++ [i])))))) :
    ∀ p ∈ (l2 :: (wl, oW') :: (kl, oK') :: b1 :: b2 :: b3 :: b4 :: b5 :: b6 :: (Pt, oP') :: b8 :: (CH ++ [a3, a2, a1, a5, a4, a6, t2, t1] ++ RS)), Apt p.1 i.1 := by
  have A' : AptAll (t2 :: t1 :: a1 :: a2 :: a3 :: a4 :: a5 :: a6 :: b1 :: b2 :: b3 :: b4 :: b5 :: b6 :: (Pt, oP') :: b8 :: l2 :: (wl, oW') :: (kl, oK') :: ((CH ++ RS) ++ [i])) := by
    unfold AptAll at A ⊢
    simp only [List.map_cons, List.map_append, List.cons_append, List.nil_append] at A ⊢
    exact A
  have := apt_split (a := l2 :: (wl, oW') :: (kl, oK') :: b1 :: b2 :: b3 :: b4 :: b5 :: b6 :: (Pt, oP') :: b8 :: (CH ++ [a3, a2, a1, a5, a4, a6, t2, t1] ++ RS)) (b := [i]) (by simpa only [List.cons_append, List.append_assoc] using apt_perm A' (turn_perm a1 a2 a3 a4 a5 a6 t2 t1 b1 b2 b3 b4 b5 b6 (Pt, oP') b8 i l2 (wl, oW') (kl, oK') CH RS).symm)
  exact fun p hp => (this i (.head _) p hp).symm
theorem start_perm (l2 r0 wl kl b1 b2 k1 f D Ap c Pt at_ W : Addr × Obj) (rest : Ledger) : (l2 :: r0 :: wl :: kl :: b1 :: b2 :: k1 :: f :: D :: Ap :: c :: Pt :: at_ :: W :: rest).Perm (l2 :: wl :: kl :: b1 :: b2 :: f :: D :: Ap :: c :: Pt :: at_ :: (r0 :: k1 :: W :: rest)) :=
  Rf.perm (x := _) (l := [_, _, _, _, _, _, _, _, _, _, _, _, _]) (r := [_]) (.cons 0 (.cons 1 (.cons 2 (.cons 3 (.cons 4 (.cons 5 (.cons 6 (.cons 7 (.cons 8 (.cons 9 (.cons 10 (.cons 11 (.cons 12 (.cons 13 (.leaf 0))))))))))))))) (.cons 0 (.cons 2 (.cons 3 (.cons 4 (.cons 5 (.cons 7 (.cons 8 (.cons 9 (.cons 10 (.cons 11 (.cons 12 (.cons 1 (.cons 6 (.cons 13 (.leaf 0))))))))))))))) (by decide)
theorem done_perm (l2 r0 wl kl b1 b2 k1 f D Ap c Pt at_ W : Addr × Obj) (K CH DN WT : Ledger) : (l2 :: wl :: kl :: b1 :: b2 :: f :: D :: Ap :: c :: Pt :: at_ :: (CH ++ (r0 :: k1 :: W :: (K ++ (DN ++ WT))))).Perm ([l2, r0] ++ (wl :: kl :: b1 :: b2 :: k1 :: (DN ++ ((f :: D :: Ap :: c :: Pt :: at_ :: W :: K) ++ (WT ++ CH))))) :=
  Rf.perm (x := _) (l := [_, _, _, _, _, _, _, _, _, _, _, _, _]) (r := [_, _, _, _]) (.cons 0 (.cons 1 (.cons 2 (.cons 3 (.cons 4 (.cons 5 (.cons 6 (.cons 7 (.cons 8 (.cons 9 (.cons 10 (.app (.leaf 0) (.cons 11 (.cons 12 (.cons 13 (.app (.leaf 1) (.app (.leaf 2) (.leaf 3)))))))))))))))))) (.app (.cons 0 (.cons 11 .nil)) (.cons 1 (.cons 2 (.cons 3 (.cons 4 (.cons 12 (.app (.leaf 2) (.app (.cons 5 (.cons 6 (.cons 7 (.cons 8 (.cons 9 (.cons 10 (.cons 13 (.leaf 1)))))))) (.app (.leaf 3) (.leaf 0)))))))))) (by decide)
theorem skip_perm (wl kl b1 b2 k1 f D Ap c Pt at_ W : Addr × Obj) (K DN WT : Ledger) : (wl :: kl :: b1 :: b2 :: k1 :: f :: D :: Ap :: c :: Pt :: at_ :: W :: (K ++ (DN ++ WT))).Perm (wl :: kl :: b1 :: b2 :: k1 :: (DN ++ ((f :: D :: Ap :: c :: Pt :: at_ :: W :: K) ++ WT))) :=
  Rf.perm (x := _) (l := [_, _, _, _, _, _, _, _, _, _, _]) (r := [_, _, _]) (.cons 0 (.cons 1 (.cons 2 (.cons 3 (.cons 4 (.cons 5 (.cons 6 (.cons 7 (.cons 8 (.cons 9 (.cons 10 (.cons 11 (.app (.leaf 0) (.app (.leaf 1) (.leaf 2))))))))))))))) (.cons 0 (.cons 1 (.cons 2 (.cons 3 (.cons 4 (.app (.leaf 1) (.app (.cons 5 (.cons 6 (.cons 7 (.cons 8 (.cons 9 (.cons 10 (.cons 11 (.leaf 0)))))))) (.leaf 2)))))))) (by decide)
theorem init_perm (wl T0 kl a1 k2 a2 a3 k1 a4 a5 t at_ : Addr × Obj) : [wl, T0, kl, a1, k2, a2, a3, k1, a4, a5, t, at_].Perm [wl, kl, t, k2, k1, a3, a2, a1, a5, a4, at_, T0] :=
  Rf.perm (x := _) (l := [_, _, _, _, _, _, _, _, _, _, _]) (r := []) (.cons 11 (.cons 10 (.cons 9 (.cons 8 (.cons 7 (.cons 6 (.cons 5 (.cons 4 (.cons 3 (.cons 2 (.cons 1 (.cons 0 .nil)))))))))))) (.cons 11 (.cons 9 (.cons 1 (.cons 7 (.cons 4 (.cons 5 (.cons 6 (.cons 8 (.cons 2 (.cons 3 (.cons 0 (.cons 10 .nil)))))))))))) (by decide)
theorem nil_perm (T wl kl t k2 k1 : Addr × Obj) (L : Ledger) : (T :: wl :: kl :: t :: k2 :: k1 :: L).Perm ([wl, t] ++ (T :: kl :: k2 :: k1 :: L)) :=
  Rf.perm (x := _) (l := [_, _, _, _, _]) (r := [_]) (.cons 0 (.cons 1 (.cons 2 (.cons 3 (.cons 4 (.cons 5 (.leaf 0))))))) (.app (.cons 1 (.cons 3 .nil)) (.cons 0 (.cons 2 (.cons 4 (.cons 5 (.leaf 0)))))) (by decide)
theorem slots_none {S : List Addr} {g g' : Heap} {b : Addr} (x : Heap.SlotsOnly S g g') (h : g'.get? b = none) : g.get? b = none := by
  cases e : g.get? b with
  | none => rfl
  | some o =>
    first | ((first | refine el_0_2 (x.2.2 b o e) ?_ | refine el_1_1 (x.2.2 b o e) ?_); intro sl hs) | obtain ⟨sl, hs⟩ := x.2.2 b o e
    rw [h] at hs
    cases hs
theorem pg_fr {g h : Heap} {L wl kl pf : Addr} {m : Str → Option Value} {bs r c : Int} {tb tr tc : Tok} (F : Fr g L h m) (e1 : m (Str.ofString "waiting") = some (.ref wl)) (e2 : m (Str.ofString "kept") = some (.ref kl)) (e3 : m (Str.ofString "page") = some (.ref pf)) (e4 : m (Str.ofString "base") = some (.int bs tb)) (e5 : m (Str.ofString "runs") = some (.int r tr)) (e6 : m (Str.ofString "cuts") = some (.int c tc))
    (e0 : ∀ z, z ∉ [Str.ofString "above", Str.ofString "lead", Str.ofString "start", Str.ofString "size", Str.ofString "sizes", Str.ofString "part", Str.ofString "number", Str.ofString "run", Str.ofString "below"] → z ≠ Str.ofString "waiting" → z ≠ Str.ofString "kept" → z ≠ Str.ofString "page" → z ≠ Str.ofString "base" → z ≠ Str.ofString "runs" → z ≠ Str.ofString "cuts" → m z = none) :
    Fr g L h (fun y => if y ∈ [Str.ofString "above", Str.ofString "lead", Str.ofString "start", Str.ofString "size", Str.ofString "sizes", Str.ofString "part", Str.ofString "number", Str.ofString "run", Str.ofString "below"] then m y else if y = Str.ofString "waiting" then some (Value.ref wl) else if y = Str.ofString "kept" then some (Value.ref kl) else if y = Str.ofString "page" then some (Value.ref pf) else if y = Str.ofString "base" then some (Value.int bs tb) else if y = Str.ofString "runs" then some (Value.int r tr) else if y = Str.ofString "cuts" then some (Value.int c tc) else none) := by
  refine fr_congr F fun z => ?_
  by_cases h0 : z ∈ [Str.ofString "above", Str.ofString "lead", Str.ofString "start", Str.ofString "size", Str.ofString "sizes", Str.ofString "part", Str.ofString "number", Str.ofString "run", Str.ofString "below"]
  · rw [if_pos h0]
  rw [if_neg h0]
  by_cases h1 : z = Str.ofString "waiting"
  · rw [if_pos h1, h1, e1]
  rw [if_neg h1]
  by_cases h2 : z = Str.ofString "kept"
  · rw [if_pos h2, h2, e2]
  rw [if_neg h2]
  by_cases h3 : z = Str.ofString "page"
  · rw [if_pos h3, h3, e3]
  rw [if_neg h3]
  by_cases h4 : z = Str.ofString "base"
  · rw [if_pos h4, h4, e4]
  rw [if_neg h4]
  by_cases h5 : z = Str.ofString "runs"
  · rw [if_pos h5, h5, e5]
  rw [if_neg h5]
  by_cases h6 : z = Str.ofString "cuts"
  · rw [if_pos h6, h6, e6]
  rw [if_neg h6]
  exact (e0 z h0 h1 h2 h3 h4 h5 h6).symm
noncomputable def PagePost (w : World) (p : Program) (loose : List Str) (mean : ExcName → Option Value) (mg mb : Str → Option Value) (bs cuts runs : Int) (tl upd : Ledger) (r : Value) : Prop :=
  ∃ (nodes : List Nd) (T kl : Addr) (ck : Nat) (k1 k2 : Addr) (oc1 oc2 : Obj) (pf : Addr) (c r' : Int), r = .ref T ∧ tl = (T, tupO [.ref pf, .ref kl]) :: (kl, listOf (List.toArray (nodes.flatMap Nd.kv)) ck) :: (k2, oc2) :: (k1, oc1) :: nodes.flatMap Nd.led ∧ upd = [(120, tab2 k1 k2)] ∧
    PgPure bs cuts runs nodes [] c r' ∧ (∀ x ∈ nodes, x.Ok w p loose mean mg mb k2) ∧ ∃ P0 rest, nodes = P0 :: rest ∧ P0.R.f = pf
theorem apt_ahead {r : Addr × Obj} {l l' : Ledger} (h : ∀ p ∈ [r], ∀ q ∈ l, Apt p.1 q.1) (hl : l.map (fun p => p.1) = l'.map (fun p => p.1)) (A : AptAll l') : AptAll (r :: l) := by
  refine List.pairwise_cons.mpr ⟨fun a ha => ?_, ?_⟩
  · first | ((first | refine el_0_3 (List.mem_map.mp ha) ?_ | refine el_1_2 (List.mem_map.mp ha) ?_ | refine el_2_1 (List.mem_map.mp ha) ?_); intro q hq zq6; subst zq6) | obtain ⟨q, hq, rfl⟩ := List.mem_map.mp ha
    exact h r (.head _) q hq
  · show List.Pairwise Apt (l.map fun p => p.1)
    rw [hl]
    exact A

end
local macro_rules | `(tactic| k_mem) => `(tactic| first | with_reducible assumption | ((show @Membership.mem (PySem.Addr × PySem.Obj) (List (PySem.Addr × PySem.Obj)) List.instMembership _ _); with_reducible assumption) | (refine List.mem_append_right _ ?_; k_mem) | (refine List.mem_append_left _ ?_; k_mem))
-- WAYS
section
open PySem PySem.Spec PySem.W PyProof.Rows PySem.Calls PyProof.V
structure Col where
  a : Addr
  leaves : Int
  column : Int
  t1 : Tok
  t2 : Tok
noncomputable def Col.o (x : Col) : Addr × Obj := (x.a, tupO [.int x.leaves x.t1, .int x.column x.t2])
noncomputable def seen (cols : List Col) (u v : Int) : List Int := (cols.filter fun x => decide (Builtin.bitAnd (Builtin.bitAnd (x.leaves.fdiv (2 ^ u.toNat)) (x.leaves.fdiv (2 ^ v.toNat))) 1 ≠ 0)).map fun x => x.column
theorem seen_succ {cols : List Col} {u v : Int} {k : Nat} {x : Col} (hx : cols[k]? = some x) : seen (cols.take (k + 1)) u v = if Builtin.bitAnd (Builtin.bitAnd (x.leaves.fdiv (2 ^ u.toNat)) (x.leaves.fdiv (2 ^ v.toNat))) 1 ≠ 0 then seen (cols.take k) u v ++ [x.column] else seen (cols.take k) u v := by
  unfold seen
  rw [List.take_add_one, hx, Option.toList_some, List.filter_append, List.map_append]
  split
  · rename_i h
    simp [h]
  · rename_i h
    simp only [ne_eq, Classical.not_not] at h
    simp [h]
theorem seen_length (cols : List Col) (u v : Int) : (seen cols u v).length ≤ cols.length := by
  unfold seen
  rw [List.length_map]
  exact List.length_filter_le _ _
noncomputable def deepOf (cols : List Col) (u v : Int) : Int := (seen cols u v).foldl max 0
theorem mem_skip {α : Type} {p a b : α} {l : List α} (h : p ∈ a :: l) : p ∈ a :: b :: l := by
  rcases List.mem_cons.mp h with rfl | h
  · exact .head _
  · exact .tail _ (.tail _ h)
theorem max_of {l : List Int} {M : Int} (h1 : M ∈ [0] ++ l) (h2 : ∀ a ∈ [0] ++ l, a ≤ M) : M = l.foldl max 0 := by
  have key : ∀ (l : List Int) (b : Int), b ≤ l.foldl max b ∧ (∀ a ∈ l, a ≤ l.foldl max b) ∧ (l.foldl max b = b ∨ l.foldl max b ∈ l) := by
    intro l
    induction l with
    | nil => intro b; exact ⟨Int.le_refl _, fun _ h => (by cases h), .inl rfl⟩
    | cons a l ih =>
      intro b
      first | ((first | refine el_0_3 (ih (max b a)) ?_ | refine el_1_2 (ih (max b a)) ?_ | refine el_2_1 (ih (max b a)) ?_); intro i1 i2 i3) | obtain ⟨i1, i2, i3⟩ := ih (max b a)
      rw [List.foldl_cons]
      refine ⟨by omega, fun q hq => ?_, ?_⟩
      · rcases List.mem_cons.mp hq with rfl | hq
        · omega
        · exact i2 q hq
      · rcases i3 with i3 | i3
        · rw [i3]
          rcases Int.le_total a b with h | h
          · exact .inl (by omega)
          · exact .inr (by rw [show max b a = a by omega]; exact .head _)
        · exact .inr (.tail _ i3)
  first | ((first | refine el_0_3 (key l 0) ?_ | refine el_1_2 (key l 0) ?_ | refine el_2_1 (key l 0) ?_); intro k1 k2 k3) | obtain ⟨k1, k2, k3⟩ := key l 0
  have a1 : M ≤ l.foldl max 0 := by
    rcases List.mem_cons.mp h1 with rfl | h
    · exact k1
    · exact k2 M h
  have a2 : l.foldl max 0 ≤ M := by
    rcases k3 with h | h
    · rw [h]; exact h2 0 (.head _)
    · exact h2 _ (.tail _ h)
  omega
noncomputable def RowsAre (row : Nat → List Int) : Nat → List (Addr × List Value) → Prop
  | 0, [] => True
  | i + 1, q :: rows => IntsAre q.2 (row i) ∧ RowsAre row i rows
  | _, _ => False
theorem RowsAre.length {row : Nat → List Int} : ∀ {i : Nat} {rows : List (Addr × List Value)}, RowsAre row i rows → rows.length = i
  | 0, [], _ => rfl
  | i + 1, q :: rows, h => by rw [List.length_cons, RowsAre.length h.2]
noncomputable def deepRow (cols : List Col) (i : Nat) : List Int := (List.range 5).map fun (k : Nat) => deepOf cols (0 + (i : Int)) (0 + (k : Int))
theorem rows_get {row : Nat → List Int} : ∀ {n : Nat} {rows : List (Addr × List Value)}, RowsAre row n rows → ∀ k < n, ∃ q ∈ rows, ((rows.map fun q => Value.ref q.1).reverse)[k]? = some (.ref q.1) ∧ IntsAre q.2 (row k)
  | n + 1, q :: rows, h, k, hk => by
    have hl := RowsAre.length h.2
    rw [List.map_cons, List.reverse_cons]
    rcases Nat.lt_or_ge k n with hk' | hk'
    · first | ((first | refine el_0_4 (rows_get h.2 k hk') ?_ | refine el_1_3 (rows_get h.2 k hk') ?_ | refine el_2_2 (rows_get h.2 k hk') ?_ | refine el_3_1 (rows_get h.2 k hk') ?_); intro q' hq' e i) | obtain ⟨q', hq', e, i⟩ := rows_get h.2 k hk'
      exact ⟨q', .tail _ hq', by rw [List.getElem?_append_left (by rw [List.length_reverse, List.length_map, hl]; exact hk')]; exact e, i⟩
    · have : k = n := by omega
      subst this
      refine ⟨q, .head _, ?_, h.1⟩
      rw [List.getElem?_append_right (by rw [List.length_reverse, List.length_map, hl]; exact Nat.le_refl _), List.length_reverse, List.length_map, hl, Nat.sub_self]
      rfl
section
variable {prog : Program} {w : World} {A : Around} {E : Value → Shared → Prop} {s : Shared} {h₀ : Heap} {L l : Addr} {news : Ledger}
theorem sub_K {value slice : PySem.Expr} {ys : List Value} {k : Int} {u : Tok} {v : Value} {Q : Value → Shared → Prop} (N : News h₀ L s.heap news) (hm : (l, LCg.lst ys) ∈ news) (h0 : 0 ≤ k) (h1 : k ≤ 1000) (hk : ys[k.toNat]? = some v) (h : Q v s)
    (hs : subscripted slice false (.ref l) (.int k u) = operate [.ref l, .int k u] (getItem (.ref l) (.int k u)) := by with_unfolding_all rfl) :
    wpAny (model prog w) A (subscriptTail value slice (.ref l) (.int k u)) Q E s := by
  have hl : s.heap.IsList l (List.toArray ys) := ⟨_, (N _ hm).1, rfl, _, rfl⟩
  exact tail_any hl.typeIs slot_list_getitem.lookup (wpAny_getItem_list hl h0 (by omega) (by rw [List.getElem?_toArray]; exact hk) h) hs
end
noncomputable def wayOf (cols : List Col) (u v : Int) : Int := deepOf cols u u + deepOf cols v v - 2 * deepOf cols u v
noncomputable def wayRow (cols : List Col) (i : Nat) : List Int := (List.range 5).map fun (k : Nat) => wayOf cols (0 + (i : Int)) (0 + (k : Int))
theorem ways_ok (w : World) (p : Program) (loose : List Str) (mean : ExcName → Option Value) (mg mb : Str → Option Value) (cl0 : Addr) (cc : Nat) (cols : List Col) (hc : cols.length ≤ 20) (h0 : ∀ x ∈ cols, 0 ≤ x.leaves ∧ x.leaves < 2 ^ 40 ∧ 0 ≤ x.column ∧ x.column < 2 ^ 40) :
    HSpec 6 w p loose mean mg mb 170 [.ref cl0] [] ((cl0, listOf (List.toArray (cols.map fun x => Value.ref x.a)) cc) :: cols.map Col.o) (fun tl upd r => upd = (cl0, listOf (List.toArray (cols.map fun x => Value.ref x.a)) cc) :: cols.map Col.o ∧ ∃ D rows, RowsAre (wayRow cols) 5 rows ∧ r = .ref D ∧ tl = (D, LCg.lst (rows.map fun q => Value.ref q.1).reverse) :: rows.map fun q => (q.1, LCg.lst q.2)) := by
  intro dp un gd cn cs L a ccd cl outer base g s Q E B H hz X T hk hdp hun hret
  w_on
  generalize hCL : cols.map Col.o = CL at *
  k_dflt refine' h_enterC (binds := [(Str.ofString "columns", .ref cl0)]) ?k1 ?k2 ?k3 ?k4 ?k5 ?k6 ?k7 ?k8 ?k9 ?kB ?kD ?_ ?c2 ?c3 ?c4
  ((case k1 => assumption); (case k2 => assumption); (case k3 => assumption); (case k4 => assumption); (case k5 => assumption); (case k6 => k_is); (case k7 => k_is); (case k8 => ktr_room); (case k9 => exact BindsTo.of_eq rfl); (case kB => exact rfl); (case kD => decide +kernel); (case c2 => exact rfl); (case c3 => exact rfl); (case c4 => exact rfl); k_whole; intro L' h' tk' cells' F' N' Y' z' l1; (try k_lt l1); revert L' h' tk' cells' F' N' Y' z' l1; intros; (rename CellsAre _ _ _ => Y'); k_cells Y'; (try (rename News _ _ _ _ => N'; simp only [List.cons_append, List.nil_append] at N'; revert N'; intro _)); (try dsimp only); (try k_unmd); (try k_fold))
  (try k_unmd); (try k_fold); repeat' (first | ((fail_if_success (fail_if_success (with_reducible show wpAny _ _ (eval (Expr.ListComp _ _ _ _) _) _ _ _))); k_dflt (refine comp_eval (by with_unfolding_all rfl) (by rfl) (by decide) ?_)) | walk_at "S1")
  rename IsRange _ _ _ _ _ _ _ _ => hR
  rename Fr _ _ _ _ => F1
  rename News _ _ _ _ => N1
  rename_i LF hA tkA FA zA lF od ob d1 d2 Nold h5 tk5 q1 q2 q3 q4
  have d1' : od.data = Data.cell none := d1
  have d2' : ob.data = Data.cell (some (.ref cl0)) := d2
  clear d1 d2 Nold q4 FA
  first | ((first | refine el_0_3 (show ∃ nw, nw = _ ∧ News g _ _ nw from ⟨_, rfl, N1⟩) ?_ | refine el_1_2 (show ∃ nw, nw = _ ∧ News g _ _ nw from ⟨_, rfl, N1⟩) ?_ | refine el_2_1 (show ∃ nw, nw = _ ∧ News g _ _ nw from ⟨_, rfl, N1⟩) ?_); intro nw hnw N0) | obtain ⟨nw, hnw, N0⟩ : ∃ nw, nw = _ ∧ News g _ _ nw := ⟨_, rfl, N1⟩
  k_dflt refine' comp_rangeC (x := Str.ofString "u") (α := Unit) (n := 5) (fun _ => nw) (fun i ys _ rest => ∃ rows, RowsAre (deepRow cols) i rows ∧ ys = (rows.map fun q => Value.ref q.1).reverse ∧ (rest = rows.map fun q => (q.1, LCg.lst q.2)) ∧ ∀ p ∈ nw, ∀ q ∈ rows, Apt p.1 q.1) () [] rfl (by intro _ _; rfl) (by intro _; rfl) (by intro _ _ _ h; cases h) F1 (fun p hp => N0 p (by simpa using hp)) hR (by decide +kernel) (by decide +kernel) ⟨[], trivial, rfl, rfl, fun _ _ _ h => nomatch h⟩ ?turn ?done
  case turn =>
    first | (intro I C D cu i ut ys zq3 rest h tk oI oC ox vx mC E' hi zq4 hoff hcx hIC hID hCD F2 N2 hC2 hox; (try k_unmd); (try (first | (with_reducible refine fold_comp ?_; intro XL YL ZL) | (with_reducible refine fold_for ?_; intro QL EL) | (with_reducible refine fold_while ?_; intro QL RL EL) | k_fold)); (first | refine el_0_5 (zq4) ?_ | refine el_1_4 (zq4) ?_ | refine el_2_3 (zq4) ?_ | refine el_3_2 (zq4) ?_ | refine el_4_1 (zq4) ?_); (try clear zq4); intro rows hRows hys hrest hnr) | rintro I C D cu i ut ys ⟨⟩ rest h tk oI oC ox vx mC E' hi ⟨rows, hRows, hys, hrest, hnr⟩ hoff hcx hIC hID hCD F2 N2 hC2 hox
    refine comp_nameC F2 N2 hox (hoff _ (.head _)).1 (hoff _ (.head _)).2.1 (hoff _ (.head _)).2.2 hcx (by with_unfolding_all rfl) rfl ?_
    intro h4 tk4 ox4 F4 N4 hx4
    have hx4' : ox4.data = .cell (some (.int (0 + (i : Int)) ut)) := hx4
    subst hnw
    simp only [List.cons_append] at N4
    refine CompTests.none ?_
    rw [if_pos rfl]
    refine CompEmit.last rfl ?_
    clear N2 F2
    refine restart (gn := s.gens) (s := s) F4 rfl rfl rfl rfl ?_
    intro tk4'
    (try k_unmd); (try k_fold); repeat' (first | ((fail_if_success (fail_if_success (with_reducible show wpAny _ _ (eval (Expr.ListComp _ _ _ _) _) _ _ _))); k_dflt (refine comp_eval (by with_unfolding_all rfl) (by rfl) (by decide) ?_)) | walk_at "S1")
    rename IsRange _ _ _ _ _ _ _ _ => hR5
    rename Fr _ _ _ _ => F5
    rename News _ _ _ _ => N5
    first | ((first | refine el_0_3 (show ∃ nw, nw = _ ∧ News g _ _ nw from ⟨_, rfl, N5⟩) ?_ | refine el_1_2 (show ∃ nw, nw = _ ∧ News g _ _ nw from ⟨_, rfl, N5⟩) ?_ | refine el_2_1 (show ∃ nw, nw = _ ∧ News g _ _ nw from ⟨_, rfl, N5⟩) ?_); intro nw5 hnw5 N5') | obtain ⟨nw5, hnw5, N5'⟩ : ∃ nw, nw = _ ∧ News g _ _ nw := ⟨_, rfl, N5⟩
    k_dflt refine' comp_rangeC0 (x := Str.ofString "v") (n := 5) nw5 (fun j ys' => ys'.length = j ∧ IntsAre ys' ((List.range j).map fun (k : Nat) => deepOf cols (0 + (i : Int)) (0 + (k : Int)))) rfl (by intro _ _; rfl) (by intro _; rfl) (by intro _ _ _ h; cases h) F5 (fun p hp => N5' p (by simpa using hp)) hR5 (by decide +kernel) (by decide +kernel) ⟨rfl, .nil⟩ ?turn2 ?done2
    case turn2 =>
      first | (intro I2 C2 D2 cv j vt ys2 h6 tk6 oI2 oC2 oy vy mC2 E2 hj zq5 hoff2 hcy hIC2 hID2 hCD2 F6 N6 hC6 hoy; (try k_unmd); (try (first | (with_reducible refine fold_comp ?_; intro XL YL ZL) | (with_reducible refine fold_for ?_; intro QL EL) | (with_reducible refine fold_while ?_; intro QL RL EL) | k_fold)); (first | refine el_0_2 (zq5) ?_ | refine el_1_1 (zq5) ?_); (try clear zq5); intro hlen2 hints) | rintro I2 C2 D2 cv j vt ys2 h6 tk6 oI2 oC2 oy vy mC2 E2 hj ⟨hlen2, hints⟩ hoff2 hcy hIC2 hID2 hCD2 F6 N6 hC6 hoy
      refine comp_nameC F6 N6 hoy (hoff2 _ (.head _)).1 (hoff2 _ (.head _)).2.1 (hoff2 _ (.head _)).2.2 hcy (by with_unfolding_all rfl) rfl ?_
      intro h7 tk7 oy7 F7 N7 hy7
      have hy7' : oy7.data = .cell (some (.int (0 + (j : Int)) vt)) := hy7
      subst hnw5
      simp only [List.append_nil, List.cons_append] at N7
      refine CompTests.none ?_
      rw [if_pos rfl]
      refine CompEmit.last rfl ?_
      clear N6 F6
      refine restart (gn := s.gens) (s := s) F7 rfl rfl rfl rfl ?_
      intro tk7'
      (try k_unmd); (try k_fold); repeat' (first | ((fail_if_success (fail_if_success (with_reducible show wpAny _ _ (eval (Expr.ListComp _ _ _ _) _) _ _ _))); k_dflt (refine comp_eval (by with_unfolding_all rfl) (by rfl) (by decide) ?_)) | walk_at "S1")
      rename Fr _ _ _ _ => F8
      rename News _ _ _ _ => N8
      first | ((first | refine el_0_3 (show ∃ nw, nw = _ ∧ News g _ _ nw from ⟨_, rfl, N8⟩) ?_ | refine el_1_2 (show ∃ nw, nw = _ ∧ News g _ _ nw from ⟨_, rfl, N8⟩) ?_ | refine el_2_1 (show ∃ nw, nw = _ ∧ News g _ _ nw from ⟨_, rfl, N8⟩) ?_); intro nw8 hnw8 N8') | obtain ⟨nw8, hnw8, N8'⟩ : ∃ nw, nw = _ ∧ News g _ _ nw := ⟨_, rfl, N8⟩
      have hmem : (cl0, listOf (List.toArray (cols.map fun x => Value.ref x.a)) cc) ∈ nw8 := by
        rw [hnw8]
        k_mem
      have hmemC : ∀ q ∈ CL, q ∈ nw8 := by
        intro q hq
        rw [hnw8]
        iterate 12 (refine List.Mem.tail _ ?_)
        exact List.mem_append_left _ hq
      k_dflt refine' comp_list0 (l := cl0) (ol := listOf (List.toArray (cols.map fun x => Value.ref x.a)) cc) (items := List.toArray (cols.map fun x => Value.ref x.a)) nw8 (fun k ys3 => ys3.length ≤ k ∧ IntsAre ys3 (seen (cols.take k) (0 + (i : Int)) (0 + (j : Int)))) rfl (by decide) rfl (by intro _ _ h; cases h) F8 (fun p hp => N8' p (by simpa using hp)) ⟨rfl, _, rfl⟩ ⟨Nat.le_refl _, .nil⟩ ?side ?turn3 ?done3
      case side => exact fun h _ N => (N _ (List.mem_append_left _ hmem)).1
      case turn3 =>
        first | (intro I3 C3 D3 k v ys3 h9 tk9 oI3 oC3 mC3 E3 hv zq6 hoff3 hIC3 hID3 hCD3 F9 N9 hit3 hC9; (try k_unmd); (try (first | (with_reducible refine fold_comp ?_; intro XL YL ZL) | (with_reducible refine fold_for ?_; intro QL EL) | (with_reducible refine fold_while ?_; intro QL RL EL) | k_fold)); (first | refine el_0_2 (zq6) ?_ | refine el_1_1 (zq6) ?_); (try clear zq6); intro hlen3 hi3) | rintro I3 C3 D3 k v ys3 h9 tk9 oI3 oC3 mC3 E3 hv ⟨hlen3, hi3⟩ hoff3 hIC3 hID3 hCD3 F9 N9 hit3 hC9
        have zq1 : ∃ x, cols[k]? = some x ∧ v = .ref x.a := by
          rw [List.getElem?_toArray, List.getElem?_map] at hv
          cases e : cols[k]? with
          | none => rw [e] at hv; cases hv
          | some x => rw [e] at hv; exact ⟨x, rfl, (Option.some.inj hv).symm⟩
        first | ((first | refine el_0_3 (zq1) ?_ | refine el_1_2 (zq1) ?_ | refine el_2_1 (zq1) ?_); (try clear zq1); intro x hx zq2; subst zq2) | obtain ⟨x, hx, rfl⟩ := zq1
        have hxm := List.mem_of_getElem? hx
        have hxC : x.o ∈ CL := by rw [← hCL]; exact List.mem_map_of_mem hxm
        have zx := N9 x.o (.tail _ (.tail _ (.tail _ (List.mem_append_left _ (hmemC _ hxC)))))
        refine comp_tuple (t := x.a) (l := cl0) (j := k + 1) (xs := [(Str.ofString "leaves", _), (Str.ofString "column", _)]) (vs := [.int x.leaves x.t1, .int x.column x.t2]) F9 N9 hC9 hIC3 (fun p hp => ?_) hit3 rfl ⟨_, zx.1, rfl, _, rfl⟩ rfl ?kinds rfl ?_
        · rcases List.mem_cons.mp hp with rfl | hp
          · exact hCD3.sw
          · exact (hoff3 p hp).2.1
        case kinds =>
          intro q hq
          rcases List.mem_cons.mp hq with rfl | hq
          · with_unfolding_all rfl
          · obtain rfl := List.mem_singleton.mp hq
            with_unfolding_all rfl
        intro h10 tk10 oC10 F10 N10 hC10
        first | ((first | refine el_0_3 (show ∃ m, m = _ ∧ LCg.NsObj oC10 m from ⟨_, rfl, hC10⟩) ?_ | refine el_1_2 (show ∃ m, m = _ ∧ LCg.NsObj oC10 m from ⟨_, rfl, hC10⟩) ?_ | refine el_2_1 (show ∃ m, m = _ ∧ LCg.NsObj oC10 m from ⟨_, rfl, hC10⟩) ?_); intro m10 hm10 hC10') | obtain ⟨m10, hm10, hC10'⟩ : ∃ m, m = _ ∧ LCg.NsObj oC10 m := ⟨_, rfl, hC10⟩
        clear hC10 N9 F9 hC9 zx
        have hl10 : m10 (Str.ofString "leaves") = some (.int x.leaves x.t1) := by rw [hm10]; rfl
        have hc10 : m10 (Str.ofString "column") = some (.int x.column x.t2) := by rw [hm10]; rfl
        clear hm10
        subst hnw8
        simp only [List.append_nil] at N10
        first | ((first | refine el_0_4 (h0 x hxm) ?_ | refine el_1_3 (h0 x hxm) ?_ | refine el_2_2 (h0 x hxm) ?_ | refine el_3_1 (h0 x hxm) ?_); intro hx1 hx2 hx3 hx4) | obtain ⟨hx1, hx2, hx3, hx4⟩ := h0 x hxm
        refine CompTests.one ?_
        refine restart (gn := s.gens) (s := s) F10 rfl rfl rfl rfl ?_
        intro tk10'
        (try k_unmd); (try k_fold); repeat' (first | (first | refine CompEmit.last rfl ?_ | refine CompEmit.more rfl ?_) | walk_at "S1")
        · rename Fr _ _ _ _ => F11
          rename News _ _ _ _ => N11
          rename _ ≠ 0 => hb
          have hk20 := (List.getElem?_eq_some_iff.mp hx).1
          refine CE.intro ys3 () [] F11 N11 hC10' (fun p hp => by rw [List.append_nil] at hp; exact hp) trivial hoff3 (by rw [sizeLine_eq]; omega) ⟨rfl, ?l3, ?i3⟩
          case l3 =>
            rw [List.length_append, List.length_singleton]
            exact Nat.succ_le_succ hlen3
          case i3 =>
            rw [seen_succ hx, if_pos hb]
            exact ints_snoc hi3
        · rename Fr _ _ _ _ => F11
          rename News _ _ _ _ => N11
          rename Builtin.bitAnd _ _ = 0 => hb
          refine CN.intro ys3 () [] F11 N11 hC10' (fun p hp => by rw [List.append_nil] at hp; exact hp) trivial hoff3 ⟨rfl, Nat.le_succ_of_le hlen3, ?i4⟩
          rw [seen_succ hx, if_neg (fun q => q hb)]
          exact hi3
      case done3 =>
        intro C3 D3 oC3 mC3 ys3 h9 tk9 f3 hP3 hI3 hCD3 F9 N9 hC9
        first | ((first | refine el_0_2 (hP3) ?_ | refine el_1_1 (hP3) ?_); (try clear hP3); intro hlen3 hi3) | obtain ⟨hlen3, hi3⟩ := hP3
        refine' post_eval F9 N9 hC9 hCD3 (fun p hp => (hI3 p hp).1) ?_
        intro h10 F10 N10
        have hcs : (List.toArray (cols.map fun x => Value.ref x.a)).size = cols.length := by rw [List.size_toArray, List.length_map]
        rw [hcs, List.take_length] at hi3
        subst hnw8
        simp only [List.append_nil] at N10
        have hz9 : ([0] : List Int).length + (seen cols (0 + (i : Int)) (0 + (j : Int))).length ≤ sizeLine := by
          have := seen_length cols (0 + (i : Int)) (0 + (j : Int))
          rw [sizeLine_eq]
          simp only [List.length_cons, List.length_nil]
          omega
        clear N9 F9 hC9 N8 F8
        refine restart (gn := s.gens) (s := s) F10 rfl rfl rfl rfl ?_
        intro tk10'
        (try k_unmd); (try k_fold); repeat' (walk_at "S1")
        rename Fr _ _ _ _ => F11
        rename News _ _ _ _ => N11
        rename (∀ (a : Int), _ → _ ≤ _) => hM2
        rename _ ∈ [0] ++ _ => hM1
        have hMe := max_of hM1 hM2
        refine CE.intro ys2 ((oy7, ()) : Obj × Unit) [] F11 N11 hC6 (fun p hp => ?_) trivial (fun p hp => ?_) (by rw [sizeLine_eq]; omega) ⟨⟨rfl, ?l2, ?i2⟩, ⟨_, hy7⟩, hcy⟩
        · rw [List.append_nil] at hp
          exact .tail _ (.tail _ (.tail _ hp))
        · rcases List.mem_cons.mp hp with rfl | hp
          · exact hoff2 (cv, oy) (.head _)
          · exact hoff2 p (.tail _ hp)
        case l2 => rw [List.length_append, List.length_singleton, hlen2]
        case i2 =>
          rw [List.range_succ, List.map_append]
          rw [hMe]
          exact ints_snoc hints
    case done2 =>
      intro C2 D2 cv oC2 ov mC2 ys2 h6 tk6 f2 hP2 hI2 hCD2 F6 N6 hC6
      first | ((first | refine el_0_2 (hP2) ?_ | refine el_1_1 (hP2) ?_); (try clear hP2); intro hlen2 hi2) | obtain ⟨hlen2, hi2⟩ := hP2
      refine' post_eval F6 N6 hC6 hCD2 (fun p hp => (hI2 p hp).1) ?_
      intro h7 F7 N7
      subst hnw5
      simp only [List.append_nil] at N7 hI2
      have aI := (hI2 (I, oI) (.tail _ (.head _))).2
      have aC := (hI2 (C, oC) (.tail _ (.tail _ (.head _)))).2
      have aD := (hI2 (D, LCg.lst ys) (.tail _ (.tail _ (.tail _ (.head _))))).2
      have aU := (hI2 (cu, ox4) (.tail _ (.tail _ (.tail _ (.tail _ (.head _)))))).2
      have hyl : ys.length = i := by rw [hys, List.length_reverse, List.length_map, hRows.length]
      refine CE.intro ys ((ox4, ()) : Obj × Unit) ((D2, LCg.lst ys2) :: rest) F7 N7 hC2 (fun p hp => ?hs) trivial (fun p hp => ?hI) (by rw [sizeLine_eq]; omega) ⟨⟨(D2, ys2) :: rows, ⟨hi2, hRows⟩, ?hy, ?hr, ?hn⟩, ⟨_, hx4⟩, fun p hp => ?hu⟩
      case hs =>
        exact Rf.sub (x := _) (l := [_, _, _, _, _, _, _, _]) (r := [_, _]) (.cons 0 (.cons 1 (.cons 2 (.app (.cons 3 (.cons 4 (.cons 5 (.cons 6 (.leaf 0))))) (.cons 7 (.leaf 1)))))) (.cons 7 (.cons 8 (.cons 0 (.cons 1 (.cons 2 (.cons 3 (.cons 4 (.cons 5 (.cons 6 (.app (.leaf 0) (.leaf 1))))))))))) (by decide) hp
      case hI =>
        rcases List.mem_cons.mp hp with rfl | hp
        · exact hoff (cu, ox) (.head _)
        · rcases List.mem_append.mp hp with h | h
          · exact hoff p (.tail _ (List.mem_append_left _ h))
          · rcases List.mem_cons.mp h with rfl | h
            · exact ⟨aI.sw, aC.sw, aD.sw⟩
            · exact hoff p (.tail _ (List.mem_append_right _ h))
      case hy => rw [hys]; simp
      case hr => rw [hrest]; rfl
      case hn =>
        intro p hp q hq
        rcases List.mem_cons.mp hq with rfl | hq
        · refine (hI2 p (.tail _ (.tail _ (.tail _ (.tail _ (.tail _ ?_)))))).2
          rcases List.mem_cons.mp hp with h | hp
          · rw [h]; exact .head _
          rcases List.mem_cons.mp hp with h | hp
          · rw [h]; exact .tail _ (.head _)
          rcases List.mem_cons.mp hp with h | hp
          · rw [h]; exact .tail _ (.tail _ (.head _))
          · exact .tail _ (.tail _ (.tail _ (List.mem_append_left _ hp)))
        · exact hnr p hp q hq
      case hu =>
        rcases List.mem_append.mp hp with h | h
        · exact hcx p (List.mem_append_left _ h)
        · rcases List.mem_cons.mp h with rfl | h
          · exact aU.sw
          · exact hcx p (List.mem_append_right _ h)
  case done =>
    intro C D cu oC ox mC ys u0 rest h tk f hP hI hCD F2 N2 hC2
    first | ((first | refine el_0_5 (hP) ?_ | refine el_1_4 (hP) ?_ | refine el_2_3 (hP) ?_ | refine el_3_2 (hP) ?_ | refine el_4_1 (hP) ?_); (try clear hP); intro rows hRows hys hrest hnr) | obtain ⟨rows, hRows, hys, hrest, hnr⟩ := hP
    refine' post_eval F2 N2 hC2 hCD (fun p hp => (hI p hp).1) ?_
    intro h3 F3 N3
    subst hnw
    have e1 := (hI _ (.tail _ (.head _))).2
    have e2 := (hI _ (.tail _ (.tail _ (.head _)))).2
    have e3 := (hI _ (.tail _ (.tail _ (.tail _ (.head _))))).2
    have n1 : @Ne Nat D (LF + 1 + 1) := e1.ne'
    have n4 := hnr _ (.head _)
    have n7 : ∀ q ∈ CL ++ rest, q.1 ≠ LF + 1 + 1 := fun q hq => by
      rcases List.mem_append.mp hq with hq | hq
      · exact Nat.ne_of_lt (Nat.lt_succ_of_lt (Nat.lt_succ_of_lt (allLt_mem lF.2 q hq)))
      · rw [hrest] at hq
        first | ((first | refine el_0_3 (List.mem_map.mp hq) ?_ | refine el_1_2 (List.mem_map.mp hq) ?_ | refine el_2_1 (List.mem_map.mp hq) ?_); intro z hz zq7; subst zq7) | obtain ⟨z, hz, rfl⟩ := List.mem_map.mp hq
        exact (n4 z hz).ne'
    have n8 : cl0 < LF := lF.1
    have N4 := fun p hp => N3 p (mem_skip hp)
    have N5 : News g LF h3 ((D, LCg.lst ys) :: (LF + 1 + 1, od) :: (LF + 1, ob) :: (cl0, listOf (List.toArray (cols.map fun x => Value.ref x.a)) cc) :: (CL ++ rest)) := N4
    clear N3 N4 N2 F2 N0
    refine restart (gn := s.gens) (s := s) F3 rfl rfl rfl rfl ?_
    intro tk4
    (try k_unmd); (try k_fold); repeat' (first | ((fail_if_success (fail_if_success (with_reducible show wpAny _ _ (eval (Expr.ListComp _ _ _ _) _) _ _ _))); k_dflt (refine comp_eval (by with_unfolding_all rfl) (by rfl) (by decide) ?_)) | walk_at "S1")
    rename IsRange _ _ _ _ _ _ _ _ => hR6
    rename Fr _ _ _ _ => F6
    rename News _ _ _ _ => N6
    first | ((first | refine el_0_3 (show ∃ nw, nw = _ ∧ News g _ _ nw from ⟨_, rfl, N6⟩) ?_ | refine el_1_2 (show ∃ nw, nw = _ ∧ News g _ _ nw from ⟨_, rfl, N6⟩) ?_ | refine el_2_1 (show ∃ nw, nw = _ ∧ News g _ _ nw from ⟨_, rfl, N6⟩) ?_); intro nw6 hnw6 N6') | obtain ⟨nw6, hnw6, N6'⟩ : ∃ nw, nw = _ ∧ News g _ _ nw := ⟨_, rfl, N6⟩
    have hmr : ∀ q ∈ rest, q ∈ nw6 := by
      intro q hq
      rw [hnw6]
      iterate 4 (refine List.Mem.tail _ ?_)
      exact List.mem_append_right _ hq
    k_dflt refine' comp_rangeC (x := Str.ofString "u") (α := Unit) (n := 5) (fun _ => nw6) (fun i ys2 _ rest2 => ∃ rows2, RowsAre (wayRow cols) i rows2 ∧ ys2 = (rows2.map fun q => Value.ref q.1).reverse ∧ (rest2 = rows2.map fun q => (q.1, LCg.lst q.2)) ∧ (∀ p ∈ nw6, ∀ q ∈ rows2, Apt p.1 q.1) ∧ (rows2.map (·.1)).Pairwise Apt) () [] rfl (by intro _ _; rfl) (by intro _; rfl) (by intro _ _ _ h; cases h) F6 (fun p hp => N6' p (by simpa using hp)) hR6 (by decide +kernel) (by decide +kernel) ⟨[], trivial, rfl, rfl, (fun _ _ _ h => nomatch h), .nil⟩ ?turn5 ?done5
    case turn5 =>
      first | (intro I C2 D2 cu2 i ut ys2 zq8 rest2 h7 tk7 oI oC2 ox2 vx2 mC2 E' hi zq9 hoff hcx hIC hID hCD2 F7 N7 hC7 hox; (try k_unmd); (try (first | (with_reducible refine fold_comp ?_; intro XL YL ZL) | (with_reducible refine fold_for ?_; intro QL EL) | (with_reducible refine fold_while ?_; intro QL RL EL) | k_fold)); (first | refine el_0_6 (zq9) ?_ | refine el_1_5 (zq9) ?_ | refine el_2_4 (zq9) ?_ | refine el_3_3 (zq9) ?_ | refine el_4_2 (zq9) ?_ | refine el_5_1 (zq9) ?_); (try clear zq9); intro rows2 hRows2 hys2 hrest2 hnr2 hpw2) | rintro I C2 D2 cu2 i ut ys2 ⟨⟩ rest2 h7 tk7 oI oC2 ox2 vx2 mC2 E' hi ⟨rows2, hRows2, hys2, hrest2, hnr2, hpw2⟩ hoff hcx hIC hID hCD2 F7 N7 hC7 hox
      refine comp_nameC F7 N7 hox (hoff _ (.head _)).1 (hoff _ (.head _)).2.1 (hoff _ (.head _)).2.2 hcx (by with_unfolding_all rfl) rfl ?_
      intro h8 tk8 ox8 F8 N8 hx8
      have hx8' : ox8.data = .cell (some (.int (0 + (i : Int)) ut)) := hx8
      first | ((first | refine el_0_4 (rows_get hRows i hi) ?_ | refine el_1_3 (rows_get hRows i hi) ?_ | refine el_2_2 (rows_get hRows i hi) ?_ | refine el_3_1 (rows_get hRows i hi) ?_); intro qu hqu hyu hiu) | obtain ⟨qu, hqu, hyu, hiu⟩ := rows_get hRows i hi
      have hmu : (qu.1, LCg.lst qu.2) ∈ rest := by rw [hrest]; exact List.mem_map_of_mem hqu
      have ei : (0 + (i : Int)).toNat = i := by rw [Int.zero_add, Int.toNat_natCast]
      have hyu' : ys[(0 + (i : Int)).toNat]? = some (.ref qu.1) := by rw [ei, hys]; exact hyu
      have hgu := fun k n h => hiu.get k n h
      obtain ⟨tuu, huu⟩ := hiu.get i (deepOf cols (0 + (i : Int)) (0 + (i : Int))) (by unfold deepRow; rw [List.getElem?_map, List.getElem?_range hi]; rfl)
      have huu' : qu.2[(0 + (i : Int)).toNat]? = some (.int (deepOf cols (0 + (i : Int)) (0 + (i : Int))) tuu) := by rw [ei]; exact huu
      subst hnw6
      simp only [List.cons_append] at N8
      refine CompTests.none ?_
      rw [if_pos rfl]
      refine CompEmit.last rfl ?_
      clear N7 F7
      refine restart (gn := s.gens) (s := s) F8 rfl rfl rfl rfl ?_
      intro tk9
      (try k_unmd); (try k_fold); repeat' (first | ((fail_if_success (fail_if_success (with_reducible show wpAny _ _ (eval (Expr.ListComp _ _ _ _) _) _ _ _))); k_dflt (refine comp_eval (by with_unfolding_all rfl) (by rfl) (by decide) ?_)) | walk_at "S1")
      rename IsRange _ _ _ _ _ _ _ _ => hR9
      rename Fr _ _ _ _ => F9
      rename News _ _ _ _ => N9
      first | ((first | refine el_0_3 (show ∃ nw, nw = _ ∧ News g _ _ nw from ⟨_, rfl, N9⟩) ?_ | refine el_1_2 (show ∃ nw, nw = _ ∧ News g _ _ nw from ⟨_, rfl, N9⟩) ?_ | refine el_2_1 (show ∃ nw, nw = _ ∧ News g _ _ nw from ⟨_, rfl, N9⟩) ?_); intro nw9 hnw9 N9') | obtain ⟨nw9, hnw9, N9'⟩ : ∃ nw, nw = _ ∧ News g _ _ nw := ⟨_, rfl, N9⟩
      k_dflt refine' comp_range0 (n := 5) nw9 (fun j ys3 => ys3.length = j ∧ IntsAre ys3 ((List.range j).map fun (k : Nat) => wayOf cols (0 + (i : Int)) (0 + (k : Int)))) rfl (by decide) rfl (by intro _ _ h; cases h) F9 (fun p hp => N9' p (by simpa using hp)) hR9 (by decide +kernel) (by decide +kernel) ⟨rfl, .nil⟩ ?turn6 ?done6
      case turn6 =>
        first | (intro I3 C3 D3 j vt ys3 h10 tk10 oI3 oC3 mC3 E3 hj zq10 hoff3 hIC3 hID3 hCD3 F10 N10 hC10; (try k_unmd); (try (first | (with_reducible refine fold_comp ?_; intro XL YL ZL) | (with_reducible refine fold_for ?_; intro QL EL) | (with_reducible refine fold_while ?_; intro QL RL EL) | k_fold)); (first | refine el_0_2 (zq10) ?_ | refine el_1_1 (zq10) ?_); (try clear zq10); intro hlen3 hi3) | rintro I3 C3 D3 j vt ys3 h10 tk10 oI3 oC3 mC3 E3 hj ⟨hlen3, hi3⟩ hoff3 hIC3 hID3 hCD3 F10 N10 hC10
        refine comp_name F10 N10 hC10 hIC3 (fun p hp => ?_) (by with_unfolding_all rfl) rfl ?_
        · rcases List.mem_cons.mp hp with rfl | hp
          · exact hCD3.sw
          · exact (hoff3 p hp).2.1
        intro h11 tk11 oC11 F11 N11 hC11
        first | ((first | refine el_0_3 (show ∃ m, m = _ ∧ LCg.NsObj oC11 m from ⟨_, rfl, hC11⟩) ?_ | refine el_1_2 (show ∃ m, m = _ ∧ LCg.NsObj oC11 m from ⟨_, rfl, hC11⟩) ?_ | refine el_2_1 (show ∃ m, m = _ ∧ LCg.NsObj oC11 m from ⟨_, rfl, hC11⟩) ?_); intro m11 hm11 hC11') | obtain ⟨m11, hm11, hC11'⟩ : ∃ m, m = _ ∧ LCg.NsObj oC11 m := ⟨_, rfl, hC11⟩
        clear hC11 N10 F10 hC10
        have hv11 : m11 (Str.ofString "v") = some (.int (0 + (j : Int)) vt) := by rw [hm11]; rfl
        clear hm11
        first | ((first | refine el_0_4 (rows_get hRows j hj) ?_ | refine el_1_3 (rows_get hRows j hj) ?_ | refine el_2_2 (rows_get hRows j hj) ?_ | refine el_3_1 (rows_get hRows j hj) ?_); intro qv hqv hyv hiv) | obtain ⟨qv, hqv, hyv, hiv⟩ := rows_get hRows j hj
        have hmv : (qv.1, LCg.lst qv.2) ∈ rest := by rw [hrest]; exact List.mem_map_of_mem hqv
        have ej : (0 + (j : Int)).toNat = j := by rw [Int.zero_add, Int.toNat_natCast]
        have hyv' : ys[(0 + (j : Int)).toNat]? = some (.ref qv.1) := by rw [ej, hys]; exact hyv
        obtain ⟨tvv, hvv⟩ := hiv.get j (deepOf cols (0 + (j : Int)) (0 + (j : Int))) (by unfold deepRow; rw [List.getElem?_map, List.getElem?_range hj]; rfl)
        have hvv' : qv.2[(0 + (j : Int)).toNat]? = some (.int (deepOf cols (0 + (j : Int)) (0 + (j : Int))) tvv) := by rw [ej]; exact hvv
        obtain ⟨tuv, huv⟩ := hgu j (deepOf cols (0 + (i : Int)) (0 + (j : Int))) (by unfold deepRow; rw [List.getElem?_map, List.getElem?_range hj]; rfl)
        have huv' : qu.2[(0 + (j : Int)).toNat]? = some (.int (deepOf cols (0 + (i : Int)) (0 + (j : Int))) tuv) := by rw [ej]; exact huv
        subst hnw9
        simp only [List.append_nil] at N11
        refine CompTests.none ?_
        rw [if_pos rfl]
        refine CompEmit.last rfl ?_
        refine restart (gn := s.gens) (s := s) F11 rfl rfl rfl rfl ?_
        intro tk12
        (try k_unmd); (try k_fold); repeat' (first | ((fail_if_success (fail_if_success (with_reducible show wpAny _ _ (subscriptTail _ _ _ _) _ _ _))); (with_reducible show wpAny _ _ (subscriptTail _ _ (Value.ref _) (Value.int _ _)) _ _ _); ((with_unfolding_all refine' sub_K ?y9N ?y9m ?y9k0 ?y9k1 ?y9hit ?_ ?y9k6); (case y9N => k_asm); (case y9m => k_mem); (case y9hit => with_reducible assumption); (case y9k0 => omega); (case y9k1 => omega); (case y9k6 => with_unfolding_all rfl); k_whole)) | walk_at "S1")
        rename Fr _ _ _ _ => F13
        rename News _ _ _ _ => N13
        refine CE.intro ys3 () [] F13 N13 hC11' (fun p hp => by rw [List.append_nil] at hp; exact hp) trivial hoff3 (by rw [sizeLine_eq]; omega) ⟨rfl, ?l6, ?i6⟩
        case l6 => rw [List.length_append, List.length_singleton, hlen3]
        case i6 =>
          rw [List.range_succ, List.map_append]
          exact ints_snoc hi3
      case done6 =>
        intro C3 D3 oC3 mC3 ys3 h10 tk10 f3 hP3 hI3 hCD3 F10 N10 hC10
        first | ((first | refine el_0_2 (hP3) ?_ | refine el_1_1 (hP3) ?_); (try clear hP3); intro hlen3 hi3) | obtain ⟨hlen3, hi3⟩ := hP3
        refine' post_eval F10 N10 hC10 hCD3 (fun p hp => (hI3 p hp).1) ?_
        intro h11 F11 N11
        subst hnw9
        simp only [List.append_nil] at N11 hI3
        have aI := (hI3 (I, oI) (.head _)).2
        have aC := (hI3 (C2, oC2) (.tail _ (.head _))).2
        have aD := (hI3 (D2, LCg.lst ys2) (.tail _ (.tail _ (.head _)))).2
        have aU := (hI3 (cu2, ox8) (.tail _ (.tail _ (.tail _ (.head _))))).2
        have hyl : ys2.length = i := by rw [hys2, List.length_reverse, List.length_map, hRows2.length]
        refine CE.intro ys2 ((ox8, ()) : Obj × Unit) ((D3, LCg.lst ys3) :: rest2) F11 N11 hC7 (fun p hp => ?hs) trivial (fun p hp => ?hI) (by rw [sizeLine_eq]; omega) ⟨⟨(D3, ys3) :: rows2, ⟨hi3, hRows2⟩, ?hy, ?hr, ?hn, ?hw⟩, ⟨_, hx8⟩, fun p hp => ?hu⟩
        case hs =>
          exact Rf.sub (x := _) (l := [_, _, _, _, _, _, _, _]) (r := [_, _, _]) (.cons 0 (.cons 1 (.cons 2 (.app (.cons 3 (.cons 4 (.cons 5 (.cons 6 (.cons 7 (.app (.leaf 0) (.leaf 1))))))) (.cons 8 (.leaf 2)))))) (.cons 8 (.cons 0 (.cons 1 (.cons 2 (.cons 3 (.cons 4 (.cons 5 (.cons 6 (.cons 7 (.app (.app (.leaf 0) (.leaf 1)) (.leaf 2))))))))))) (by decide) hp
        case hI =>
          rcases List.mem_cons.mp hp with rfl | hp
          · exact hoff (cu2, ox2) (.head _)
          · rcases List.mem_append.mp hp with h | h
            · exact hoff p (.tail _ (List.mem_append_left _ h))
            · rcases List.mem_cons.mp h with rfl | h
              · exact ⟨aI.sw, aC.sw, aD.sw⟩
              · exact hoff p (.tail _ (List.mem_append_right _ h))
        case hy => rw [hys2]; simp
        case hr => rw [hrest2]; rfl
        case hn =>
          intro p hp q hq
          rcases List.mem_cons.mp hq with rfl | hq
          · refine (hI3 p (.tail _ (.tail _ (.tail _ (.tail _ ?_))))).2
            rcases List.mem_cons.mp hp with h | hp
            · rw [h]; exact .head _
            rcases List.mem_cons.mp hp with h | hp
            · rw [h]; exact .tail _ (.head _)
            rcases List.mem_cons.mp hp with h | hp
            · rw [h]; exact .tail _ (.tail _ (.head _))
            rcases List.mem_cons.mp hp with h | hp
            · rw [h]; exact .tail _ (.tail _ (.tail _ (.head _)))
            · exact .tail _ (.tail _ (.tail _ (.tail _ (List.mem_append_left _ hp))))
          · exact hnr2 p hp q hq
        case hw =>
          refine List.Pairwise.cons (fun b hb => ?_) hpw2
          first | ((first | refine el_0_3 (List.mem_map.mp hb) ?_ | refine el_1_2 (List.mem_map.mp hb) ?_ | refine el_2_1 (List.mem_map.mp hb) ?_); intro q hq zq11; subst zq11) | obtain ⟨q, hq, rfl⟩ := List.mem_map.mp hb
          exact (hI3 (q.1, LCg.lst q.2) (.tail _ (.tail _ (.tail _ (.tail _ (.tail _ (.tail _ (.tail _ (.tail _ (List.mem_append_right _ (by rw [hrest2]; exact List.mem_map_of_mem hq))))))))))).2.sw
        case hu =>
          rcases List.mem_append.mp hp with h | h
          · exact hcx p (List.mem_append_left _ h)
          · rcases List.mem_cons.mp h with rfl | h
            · exact aU.sw
            · exact hcx p (List.mem_append_right _ h)
    case done5 =>
      intro C2 D2 cu2 oC2 ox2 mC2 ys2 u5 rest2 h7 tk7 f2 hP2 hI2 hCD2 F7 N7 hC7
      first | ((first | refine el_0_6 (hP2) ?_ | refine el_1_5 (hP2) ?_ | refine el_2_4 (hP2) ?_ | refine el_3_3 (hP2) ?_ | refine el_4_2 (hP2) ?_ | refine el_5_1 (hP2) ?_); (try clear hP2); intro rows2 hRows2 hys2 hrest2 hnr2 hpw2) | obtain ⟨rows2, hRows2, hys2, hrest2, hnr2, hpw2⟩ := hP2
      refine' post_eval F7 N7 hC7 hCD2 (fun p hp => (hI2 p hp).1) ?_
      intro h8 F8 N8
      subst hnw6
      clear N7 F7
      have aCl := (hI2 (cl0, listOf (List.toArray (cols.map fun x => Value.ref x.a)) cc) (.tail _ (.tail _ (.tail _ (.tail _ (.head _)))))).2
      have aCL : ∀ q ∈ CL, Apt q.1 D2 := fun q hq => (hI2 q (.tail _ (.tail _ (.tail _ (.tail _ (.tail _ (List.mem_append_left _ (List.mem_append_left _ hq)))))))).2
      have aR : ∀ q ∈ rows2, Apt q.1 D2 := fun q hq => (hI2 (q.1, LCg.lst q.2) (.tail _ (.tail _ (.tail _ (.tail _ (.tail _ (List.mem_append_right _ (by rw [hrest2]; exact List.mem_map_of_mem hq)))))))).2
      show HEnd _ (Value.ref D2) _
      refine h_leave ((D2, LCg.lst ys2) :: rest2) ((cl0, listOf (List.toArray (cols.map fun x => Value.ref x.a)) cc) :: CL) hret F8 N8 (fun p hp => ?_) rfl (fun p hp q hq => ?_) ?_ ⟨rfl, D2, rows2, hRows2, rfl, by rw [hys2, hrest2]⟩
      · exact Rf.sub (x := _) (l := [_, _, _, _, _]) (r := [_, _, _]) (.app (.cons 0 (.leaf 0)) (.cons 1 (.leaf 1))) (.cons 0 (.cons 2 (.app (.cons 3 (.cons 4 (.cons 5 (.cons 1 (.app (.leaf 1) (.leaf 2)))))) (.leaf 0)))) (by decide) hp
      · rcases List.mem_cons.mp hp with rfl | hp
        · rcases List.mem_cons.mp hq with rfl | hq
          · exact aCl.sw
          · exact (aCL q hq).sw
        · rw [hrest2] at hp
          first | ((first | refine el_0_3 (List.mem_map.mp hp) ?_ | refine el_1_2 (List.mem_map.mp hp) ?_ | refine el_2_1 (List.mem_map.mp hp) ?_); intro z hz zq12; subst zq12) | obtain ⟨z, hz, rfl⟩ := List.mem_map.mp hp
          rcases List.mem_cons.mp hq with rfl | hq
          · exact (hnr2 _ (.tail _ (.tail _ (.tail _ (.head _)))) z hz).sw
          · exact (hnr2 q (.tail _ (.tail _ (.tail _ (.tail _ (List.mem_append_left _ hq))))) z hz).sw
      · rw [hrest2, List.map_cons, List.map_map]
        refine List.Pairwise.cons (fun b hb => ?_) hpw2
        first | ((first | refine el_0_3 (List.mem_map.mp hb) ?_ | refine el_1_2 (List.mem_map.mp hb) ?_ | refine el_2_1 (List.mem_map.mp hb) ?_); intro q hq zq13; subst zq13) | obtain ⟨q, hq, rfl⟩ := List.mem_map.mp hb
        exact (aR q hq).sw

end
-- PAGE
section
open PySem PySem.Spec PySem.W PyProof.Rows PySem.Calls PyProof.V
inductive PgI (w : World) (p : Program) (loose : List Str) (mean : ExcName → Option Value) (mg mb : Str → Option Value) (A₀ : Around) (outer : List Env) (base g : Heap) (s : Shared) (Lf wl kl : Addr) (k1 k2 : Addr) (oc1 oc2 : Obj) (pf : Addr) (bs : Int) (tb : Tok) (cuts runs : Int)   : Nat → Shared → Prop
  | mk : ∀ (g' h' : Heap) (tk : Nat) (gn : Array GenState) (u : Str → Option Value) (dn wt : List Nd) (cw ck : Nat) (c r : Int) (tc tr : Tok), (AllBare gn) → (Heap.SlotsOnly (framesOf outer) g g') → (KtsDicts (framesOf outer) g') → (Below A₀ base outer g') → ((hd.heap_39 w.params).In g') → (Top p loose mean mg mb g') → (Fr g' Lf h' (fun y => if y ∈ [Str.ofString "above", Str.ofString "lead", Str.ofString "start", Str.ofString "size", Str.ofString "sizes", Str.ofString "part", Str.ofString "number", Str.ofString "run", Str.ofString "below"] then u y else if y = Str.ofString "waiting" then some (Value.ref wl) else if y = Str.ofString "kept" then some (Value.ref kl) else if y = Str.ofString "page" then some (Value.ref pf) else if y = Str.ofString "base" then some (Value.int bs tb) else if y = Str.ofString "runs" then some (Value.int r tr) else if y = Str.ofString "cuts" then some (Value.int c tc) else none)) → (News g' Lf h' (ledOf wl kl (wt.map fun x => .ref x.W) ((dn ++ wt).flatMap Nd.kv) cw ck k1 k2 oc1 oc2 (dn ++ wt))) → (AptAll (ledOf wl kl (wt.map fun x => .ref x.W) ((dn ++ wt).flatMap Nd.kv) cw ck k1 k2 oc1 oc2 (dn ++ wt))) → ((∀ x ∈ dn ++ wt, x.Ok w p loose mean mg mb k2)) → (PgPure bs cuts runs dn wt c r) → ((∃ P0 rest, dn ++ wt = P0 :: rest ∧ P0.R.f = pf)) → PgI w p loose mean mg mb A₀ outer base g s Lf wl kl k1 k2 oc1 oc2 pf bs tb cuts runs (meas wt) { s with heap := h', toks := tk, gens := gn }
theorem PgI.intro {w : World} {p : Program} {loose : List Str} {mean : ExcName → Option Value} {mg mb : Str → Option Value} {A₀ : Around} {outer : List Env} {base g : Heap} {s : Shared} {Lf wl kl : Addr} {k1 k2 : Addr} {oc1 oc2 : Obj} {pf : Addr} {bs : Int} {tb : Tok} {cuts runs : Int} {n : Nat} {s' : Shared} (g' h' : Heap) (tk : Nat) (gn : Array GenState) (u : Str → Option Value) (dn wt : List Nd) (cw ck : Nat) (c r : Int) (tc tr : Tok) (h0 : s' = { s with heap := h', toks := tk, gens := gn }) (h1 : AllBare gn) (h2 : Heap.SlotsOnly (framesOf outer) g g') (h3 : KtsDicts (framesOf outer) g') (h4 : Below A₀ base outer g') (h5 : (hd.heap_39 w.params).In g') (h6 : Top p loose mean mg mb g') (h7 : Fr g' Lf h' (fun y => if y ∈ [Str.ofString "above", Str.ofString "lead", Str.ofString "start", Str.ofString "size", Str.ofString "sizes", Str.ofString "part", Str.ofString "number", Str.ofString "run", Str.ofString "below"] then u y else if y = Str.ofString "waiting" then some (Value.ref wl) else if y = Str.ofString "kept" then some (Value.ref kl) else if y = Str.ofString "page" then some (Value.ref pf) else if y = Str.ofString "base" then some (Value.int bs tb) else if y = Str.ofString "runs" then some (Value.int r tr) else if y = Str.ofString "cuts" then some (Value.int c tc) else none)) (h8 : News g' Lf h' (ledOf wl kl (wt.map fun x => .ref x.W) ((dn ++ wt).flatMap Nd.kv) cw ck k1 k2 oc1 oc2 (dn ++ wt))) (h9 : AptAll (ledOf wl kl (wt.map fun x => .ref x.W) ((dn ++ wt).flatMap Nd.kv) cw ck k1 k2 oc1 oc2 (dn ++ wt))) (h10 : (∀ x ∈ dn ++ wt, x.Ok w p loose mean mg mb k2)) (h11 : PgPure bs cuts runs dn wt c r) (h12 : (∃ P0 rest, dn ++ wt = P0 :: rest ∧ P0.R.f = pf)) (h13 : n = meas wt) : PgI w p loose mean mg mb A₀ outer base g s Lf wl kl k1 k2 oc1 oc2 pf bs tb cuts runs n s' := by
  subst h0
  subst h13
  exact .mk g' h' tk gn u dn wt cw ck c r tc tr h1 h2 h3 h4 h5 h6 h7 h8 h9 h10 h11 h12
theorem PgI.all {w : World} {p : Program} {loose : List Str} {mean : ExcName → Option Value} {mg mb : Str → Option Value} {A₀ : Around} {outer : List Env} {base g : Heap} {s : Shared} {Lf wl kl : Addr} {k1 k2 : Addr} {oc1 oc2 : Obj} {pf : Addr} {bs : Int} {tb : Tok} {cuts runs : Int}   {G : Nat → Shared → Prop} (kk : ∀ (g' h' : Heap) (tk : Nat) (gn : Array GenState) (u : Str → Option Value) (dn wt : List Nd) (cw ck : Nat) (c r : Int) (tc tr : Tok), (AllBare gn) → (Heap.SlotsOnly (framesOf outer) g g') → (KtsDicts (framesOf outer) g') → (Below A₀ base outer g') → ((hd.heap_39 w.params).In g') → (Top p loose mean mg mb g') → (Fr g' Lf h' (fun y => if y ∈ [Str.ofString "above", Str.ofString "lead", Str.ofString "start", Str.ofString "size", Str.ofString "sizes", Str.ofString "part", Str.ofString "number", Str.ofString "run", Str.ofString "below"] then u y else if y = Str.ofString "waiting" then some (Value.ref wl) else if y = Str.ofString "kept" then some (Value.ref kl) else if y = Str.ofString "page" then some (Value.ref pf) else if y = Str.ofString "base" then some (Value.int bs tb) else if y = Str.ofString "runs" then some (Value.int r tr) else if y = Str.ofString "cuts" then some (Value.int c tc) else none)) → (News g' Lf h' (ledOf wl kl (wt.map fun x => .ref x.W) ((dn ++ wt).flatMap Nd.kv) cw ck k1 k2 oc1 oc2 (dn ++ wt))) → (AptAll (ledOf wl kl (wt.map fun x => .ref x.W) ((dn ++ wt).flatMap Nd.kv) cw ck k1 k2 oc1 oc2 (dn ++ wt))) → ((∀ x ∈ dn ++ wt, x.Ok w p loose mean mg mb k2)) → (PgPure bs cuts runs dn wt c r) → ((∃ P0 rest, dn ++ wt = P0 :: rest ∧ P0.R.f = pf)) → G (meas wt) { s with heap := h', toks := tk, gens := gn }) : ∀ n s', PgI w p loose mean mg mb A₀ outer base g s Lf wl kl k1 k2 oc1 oc2 pf bs tb cuts runs n s' → G n s' :=
  fun _ _ h => PgI.rec (motive := fun n s' _ => G n s') kk h
theorem page_ok (w : World) (p : Program) (loose : List Str) (mean : ExcName → Option Value) (mg mb : Str → Option Value) (cuts runs bs : Int) (t1 t2 t3 : Tok) (hcu : 0 ≤ cuts) (hru : 0 ≤ runs) (hbs0 : 0 ≤ bs) (hbs1 : bs < 30) :
    HSpecS 20 w p loose mean mg mb 158 [.int cuts t1, .int runs t2, .int bs t3] [] [(120, tabObj #[])] (PagePost w p loose mean mg mb bs cuts runs) := by
  intro dp un gd cn cs L a ccd cl outer base g s Q E B XB TB H hz hk hdp hun hb D hret
  have X := XB.keeps B.stays
  have T := TB.keeps B.stays
  w_on
  k_dflt refine' h_enter (binds := [(Str.ofString "cuts", .int cuts t1), (Str.ofString "runs", .int runs t2), (Str.ofString "base", .int bs t3)]) ?k1 ?k2 ?k3 ?k4 ?k5 ?k6 ?k7 ?k8 ?k9 ?kB ?_ ?c2 ?c3 ?c4 ?c5
  ((case k1 => assumption); (case k2 => assumption); (case k3 => assumption); (case k4 => assumption); (case k5 => assumption); (case k6 => k_is); (case k7 => k_is); (case k8 => ktr_room); (case k9 => exact BindsTo.of_eq rfl); (case c2 => decide); (case kB => exact locs rfl); (case c3 => exact rfl); (case c4 => exact rfl); (case c5 => exact rfl); k_whole; intro L' h' F' N' z' l1; (try k_lt l1); (simp only [List.reverse_cons, List.reverse_nil, List.nil_append, List.cons_append, lookup_if, lookup_no] at F'); revert L' h' F' N' z' l1; intros; (try dsimp only); (try k_unmd); (try k_fold))
  (try k_unmd); (try k_fold); repeat' (first | ((fail_if_success (with_reducible rename EnvDone => xE)); (fail_if_success (fail_if_success (with_reducible show wpAny _ _ (execs (_ :: _) _) _ _ _))); refine let_A ?_; intro _; refine let_env ?_; intro _; have _ := EnvDone.mk) | ((fail_if_success (fail_if_success (with_reducible show wpAny _ _ (call (Value.ref _) _ _) _ _ _))); refine stop_of ?_) | walk_at "S1")
  unfold Stop
  rename Fr _ _ _ _ => F1
  rename News _ _ _ _ => N1
  rename Obj.IsDictOf _ _ _ => d1
  rename (_ == sysModules) = false => lo1
  have dd : ∃ (D0 : Addr) (o0 : Obj) (ta tb : Tok), _ = D0 ∧ o0.IsDictOf (strKind PySem.Challenge.pw_xb0026_01 w) [(Str.ofString "lead", .str (txt []) ta), (Str.ofString "of", .str (Str.ofString "page") tb)] ∧ News g _ _ [(D0, o0), (120, tabObj #[])] ∧ D0 ≠ sysModules ∧ @LT.lt Nat _ 120 D0 := ⟨_, _, _, _, rfl, d1, N1, by rw [beq_eq_false_iff_ne] at lo1; exact lo1, by assumption⟩
  first | ((first | refine el_0_9 (dd) ?_ | refine el_1_8 (dd) ?_ | refine el_2_7 (dd) ?_ | refine el_3_6 (dd) ?_ | refine el_4_5 (dd) ?_ | refine el_5_4 (dd) ?_ | refine el_6_3 (dd) ?_ | refine el_7_2 (dd) ?_ | refine el_8_1 (dd) ?_); try clear dd; intro D0 o0 ta tb hD0 d2 N2 sys0 lt0) | obtain ⟨D0, o0, ta, tb, hD0, d2, N2, sys0, lt0⟩ := dd
  rw [hD0]
  k_dflt refine' hspec_use (touched := [(120, tabObj #[])]) (rest := [(D0, o0)]) ?B F1 ?X (fun p hp => N2 p ?perm) ?T ?hk (node_first w p loose mean mg mb (Str.ofString "page") _ D0) ?dis ?dp ?un ?_
  case B => assumption
  case X => assumption
  case T => assumption
  case hk => exact rfl
  case perm => revert p; k_allIn
  case dis =>
    intro q hq q' hq'
    obtain rfl := List.mem_singleton.mp hq
    obtain rfl := List.mem_singleton.mp hq'
    exact Nat.ne_of_gt lt0
  case dp => ktr_room
  case un => ktr_units
  first | (intro r4 tl4 upd4 h5 tk4 F4 N4 zq1 o4 pw4 zq2; clear zq1; (first | refine el_0_13 (zq2) ?_ | refine el_1_12 (zq2) ?_ | refine el_2_11 (zq2) ?_ | refine el_3_10 (zq2) ?_ | refine el_4_9 (zq2) ?_ | refine el_5_8 (zq2) ?_ | refine el_6_7 (zq2) ?_ | refine el_7_6 (zq2) ?_ | refine el_8_5 (zq2) ?_ | refine el_9_4 (zq2) ?_ | refine el_10_3 (zq2) ?_ | refine el_11_2 (zq2) ?_ | refine el_12_1 (zq2) ?_); try clear zq2; intro R k1 k2 oc1 oc2 zq3 e1 e2 zq4 R4 hoc zq5 zq6; subst zq3; subst zq4; subst zq5; subst zq6) | rintro r4 tl4 upd4 h5 tk4 F4 N4 - o4 pw4 ⟨R, k1, k2, oc1, oc2, rfl, e1, e2, rfl, R4, hoc, rfl, rfl⟩
  simp only [List.cons_append, List.nil_append] at N4 o4
  try dsimp only
  clear F1 N1 d1 lo1 N2
  refine restart (gn := s.gens) (s := s) F4 rfl rfl rfl rfl ?_
  intro tk1
  repeat (rename_i zz; first | clear zz | revert zz)
  intros
  (try k_unmd); (try k_fold); repeat' (first | ((fail_if_success (with_reducible rename EnvDone => xE)); (fail_if_success (fail_if_success (with_reducible show wpAny _ _ (execs (_ :: _) _) _ _ _))); refine let_A ?_; intro _; refine let_env ?_; intro _; have _ := EnvDone.mk) | ((fail_if_success (fail_if_success (with_reducible show wpAny _ _ (exec (Stmt.While _ _ _ _) _) _ _ _))); refine stop_of ?_) | walk_at "S1")
  unfold Stop
  rename Fr _ _ _ _ => F5
  rename News _ _ _ _ => N5
  rename_i Lf z1 z2 z3 zA zE z4 zA2 zE2 zX kl z5 z6 z7 T0 z8 z9 wl z10 z11 h7
  have NN : ∃ (tl ts tz : Tok), News g Lf h7 ((wl, listOf #[.ref T0] 0) :: (T0, tupO [.ref R.f, .str (txt []) tl, .int 0 ts, .int 5 tz]) :: (kl, listOf #[] 0) :: [(R.Ap, R.oAp), (k2, oc2), (R.D, R.oD), (R.f, R.fo), (k1, oc1), (R.Pt, listOf #[] 0), (R.c, R.oc), (120, tab2 k1 k2), (R.at_, o0)]) := ⟨_, _, _, N5⟩
  first | ((first | refine el_0_4 (NN) ?_ | refine el_1_3 (NN) ?_ | refine el_2_2 (NN) ?_ | refine el_3_1 (NN) ?_); try clear NN; intro tl ts tz N6) | obtain ⟨tl, ts, tz, N6⟩ := NN
  have F6 : Fr g Lf h7 (fun y => if y = Str.ofString "waiting" then some (Value.ref wl) else if y = Str.ofString "kept" then some (Value.ref kl) else if y = Str.ofString "page" then some (Value.ref R.f) else if y = Str.ofString "base" then some (Value.int bs t3) else if y = Str.ofString "runs" then some (Value.int runs t2) else if y = Str.ofString "cuts" then some (Value.int cuts t1) else none) := F5
  have l6 : ∀ p ∈ [(R.Ap, R.oAp), (k2, oc2), (R.D, R.oD), (R.f, R.fo), (k1, oc1), (R.Pt, listOf #[] 0), (R.c, R.oc), (120, tab2 k1 k2), (R.at_, o0)], @LT.lt Nat _ p.1 kl := by
    (repeat' (refine List.forall_mem_cons.mpr ⟨?_, ?_⟩)) <;> first | exact List.forall_mem_nil _ | (dsimp only; omega)
  have l7 : @LT.lt Nat _ kl T0 := by omega
  have l8 : @LT.lt Nat _ T0 wl := by omega
  refine restartE (gn := s.gens) (s := s) F6 rfl rfl rfl rfl ?_
  intro tk2
  clear F5 N5
  repeat (rename_i zz; first | clear zz | revert zz)
  intros
  refine wpAny_While (while_go (PgI w p loose mean mg mb (ktrTop dp un gd cn cs L a ccd cl outer) (envX cn cs L a ccd cl :: outer) base g s Lf wl kl k1 k2 oc1 oc2 R.f bs t3 cuts runs) ?turn 9 ?init)
  case init =>
    let x0 : Nd := ⟨R, #[], 0, o0, T0, tupO [.ref R.f, .str (txt []) tl, .int 0 ts, .int 5 tz], [], [], 0, 5, 0, []⟩
    first | ((first | refine el_0_2 (PgPure.init (bs := bs) (x := x0) hcu hru rfl rfl rfl e1) ?_ | refine el_1_1 (PgPure.init (bs := bs) (x := x0) hcu hru rfl rfl rfl e1) ?_); intro PI hm9) | obtain ⟨PI, hm9⟩ := PgPure.init (bs := bs) (x := x0) hcu hru rfl rfl rfl e1
    have A9 : AptAll ([(R.Ap, R.oAp), (k2, oc2), (R.D, R.oD), (R.f, R.fo), (k1, oc1), (R.Pt, listOf #[] 0), (R.c, R.oc)] ++ [(120, tabObj #[]), (R.at_, o0)]) := apt_join pw4 (List.pairwise_cons.mpr ⟨fun a ha => by rw [List.mem_singleton.mp ha]; exact Apt.lt lt0, List.pairwise_singleton _ _⟩) o4
    have B9 : AptAll ((wl, listOf #[.ref T0] 0) :: (T0, tupO [.ref R.f, .str (txt []) tl, .int 0 ts, .int 5 tz]) :: (kl, listOf #[] 0) :: [(R.Ap, R.oAp), (k2, oc2), (R.D, R.oD), (R.f, R.fo), (k1, oc1), (R.Pt, listOf #[] 0), (R.c, R.oc), (120, tab2 k1 k2), (R.at_, o0)]) := by
      have a0 := allLt_of l6
      have a1 : AllLt T0 ((kl, listOf #[] 0) :: [(R.Ap, R.oAp), (k2, oc2), (R.D, R.oD), (R.f, R.fo), (k1, oc1), (R.Pt, listOf #[] 0), (R.c, R.oc), (120, tab2 k1 k2), (R.at_, o0)]) := allLt_of fun q hq => by
        rcases List.mem_cons.mp hq with rfl | hq
        · exact l7
        · exact Nat.lt_trans (l6 q hq) l7
      have a2 : AllLt wl ((T0, tupO [.ref R.f, .str (txt []) tl, .int 0 ts, .int 5 tz]) :: (kl, listOf #[] 0) :: [(R.Ap, R.oAp), (k2, oc2), (R.D, R.oD), (R.f, R.fo), (k1, oc1), (R.Pt, listOf #[] 0), (R.c, R.oc), (120, tab2 k1 k2), (R.at_, o0)]) := allLt_of fun q hq => by
        rcases List.mem_cons.mp hq with rfl | hq
        · exact l8
        · exact Nat.lt_trans (allLt_mem a1 q hq) l8
      refine apt_fresh a2 (apt_fresh a1 (apt_fresh a0 ?_))
      unfold AptAll at A9 ⊢
      exact A9
    refine PgI.intro g h7 tk2 s.gens (fun y => none) [] [x0] 0 0 cuts runs t1 t2 rfl hb (Heap.SlotsOnly.refl _ _) D B X T ?F ?N ?PW ?ok PI ⟨x0, [], rfl, rfl⟩ hm9.symm
    case F =>
      refine fr_congr F6 fun z => ?_
      by_cases hz : z ∈ [Str.ofString "above", Str.ofString "lead", Str.ofString "start", Str.ofString "size", Str.ofString "sizes", Str.ofString "part", Str.ofString "number", Str.ofString "run", Str.ofString "below"]
      · rw [if_pos hz]
        simp only [List.mem_cons, List.not_mem_nil, or_false] at hz
        rcases hz with h | h | h | h | h | h | h | h | h <;> (rw [h]; rfl)
      · rw [if_neg hz]
    case N => exact fun q hq => N6 q ((init_perm _ _ _ _ _ _ _ _ _ _ _ _).mem_iff.mpr hq)
    case PW => exact apt_perm B9 (init_perm _ _ _ _ _ _ _ _ _ _ _ _)
    case ok =>
      intro y hy
      obtain rfl := List.mem_singleton.mp hy
      exact ⟨R4, ⟨ta, tb, d2⟩, sys0, ⟨tl, ts, tz, rfl⟩⟩
  case turn =>
    clear N6 F6 l6 l7 l8 R4 o4 pw4 d2 sys0 lt0 X T B D H
    (try clear zX); (try clear z11); (try clear z10); (try clear z9); (try clear z8); (try clear z7); (try clear z6); (try clear z5); (try clear z4); (try clear z3); (try clear z2); (try clear z1); (try clear h7); (try clear tk); (try clear tk1); (try clear tk2)
    refine PgI.all ?_
    intro g' h' tk gn u dn wt cw ck c r tc tr hbn SO D B X T F N PW ok PP hpf
    refine fold_while ?_
    intro QL RL EL
    cases wt with
    | nil =>
      unfold ledOf at N PW
      simp only [List.map_nil, List.append_nil] at N PW
      (try k_unmd); (try k_fold); repeat' (first | ((fail_if_success (with_reducible rename EnvDone => xE)); (fail_if_success (fail_if_success (with_reducible show wpAny _ _ (execs (_ :: _) _) _ _ _))); refine let_A ?_; intro _; refine let_env ?_; intro _; have _ := EnvDone.mk) | walk_at "S1")
      rename Fr _ _ _ _ => F2
      rename News _ _ _ _ => N2
      try dsimp only
      show Q _ _
      rename_i D2 h9 l9
      have A2 : AptAll ((D2, tupO [.ref R.f, .ref kl]) :: (wl, listOf #[] cw) :: (kl, listOf (List.toArray (dn.flatMap Nd.kv)) ck) :: (120, tab2 k1 k2) :: (k2, oc2) :: (k1, oc1) :: dn.flatMap Nd.led) := apt_fresh (by simp only [AllLt]; exact l9) PW
      have A3 := apt_perm A2 (nil_perm _ _ _ _ _ _ _)
      have dis := apt_split A3
      refine hret (.ref D2) ((D2, tupO [.ref R.f, .ref kl]) :: (kl, listOf (List.toArray (dn.flatMap Nd.kv)) ck) :: (k2, oc2) :: (k1, oc1) :: dn.flatMap Nd.led) [(120, tab2 k1 k2)] _ _ gn (SlotKeep.of_only SO F2.keep) (fun q hq => ?_) rfl (fun q hq q' hq' => ?_) (apt_right A3) hbn ⟨dn, D2, kl, ck, k1, k2, oc1, oc2, R.f, c, r, rfl, rfl, rfl, PP, fun y hy => ok y (List.mem_append_left _ hy), ?_⟩
      · have z := N2 q ((nil_perm _ _ _ _ _ _ _).mem_iff.mpr (by
          rcases List.mem_append.mp hq with h | h
          · exact List.mem_append_right _ h
          · rw [List.mem_singleton.mp h]
            exact .tail _ (.head _)))
        exact ⟨z.1, slots_none SO z.2.2⟩
      · obtain rfl := List.mem_singleton.mp hq'
        exact dis q hq (120, tab2 k1 k2) (.tail _ (.head _))
      · first | ((first | refine el_0_4 (hpf) ?_ | refine el_1_3 (hpf) ?_ | refine el_2_2 (hpf) ?_ | refine el_3_1 (hpf) ?_); try clear hpf; intro P0 rest0 e h) | obtain ⟨P0, rest0, e, h⟩ := hpf
        rw [List.append_nil] at e
        exact ⟨P0, rest0, e, h⟩
    | cons x wt =>
      unfold ledOf at N PW
      simp only [List.map_cons] at N PW
      have lp := led_perm dn x wt
      first | ((first | refine el_0_4 ((ok x (List.mem_append_right _ (.head _))).wt) ?_ | refine el_1_3 ((ok x (List.mem_append_right _ (.head _))).wt) ?_ | refine el_2_2 ((ok x (List.mem_append_right _ (.head _))).wt) ?_ | refine el_3_1 ((ok x (List.mem_append_right _ (.head _))).wt) ?_); intro tl ts tz hoW) | obtain ⟨tl, ts, tz, hoW⟩ := (ok x (List.mem_append_right _ (.head _))).wt
      have PW2 := apt_perm PW (((((lp.cons _).cons _).cons _).cons _).cons _)
      have N2 : News g' Lf h' _ := fun q hq => N q ((((((lp.cons _).cons _).cons _).cons _).cons _).mem_iff.mpr hq)
      unfold Nd.led at N2 PW2
      simp only [List.cons_append, hoW] at N2 PW2
      generalize hrest : x.K ++ List.flatMap _ (dn ++ wt) = rest at N2 PW2
      clear N PW lp
      have htot := PP.total
      rw [List.length_append, List.length_cons] at htot
      have hwl : (Value.ref x.W :: wt.map fun x => Value.ref x.W).length ≤ 1000 := by
        rw [List.length_cons, List.length_map]
        omega
      first | ((first | refine el_0_2 (apt_cons PW2) ?_ | refine el_1_1 (apt_cons PW2) ?_); intro aw P1) | obtain ⟨aw, P1⟩ := apt_cons PW2
      have w1 : @Ne Nat kl wl := aw (kl, _) (.head _)
      have w2 : @Ne Nat 120 wl := aw (120, _) (.tail _ (.head _))
      have w3 : @Ne Nat k2 wl := aw (k2, _) (.tail _ (.tail _ (.head _)))
      have w4 : @Ne Nat k1 wl := aw (k1, _) (.tail _ (.tail _ (.tail _ (.head _))))
      have w5 : @Ne Nat x.R.f wl := aw (x.R.f, _) (.tail _ (.tail _ (.tail _ (.tail _ (.head _)))))
      have w6 : @Ne Nat x.R.D wl := aw (x.R.D, _) (.tail _ (.tail _ (.tail _ (.tail _ (.tail _ (.head _))))))
      have w7 : @Ne Nat x.R.Ap wl := aw (x.R.Ap, _) (.tail _ (.tail _ (.tail _ (.tail _ (.tail _ (.tail _ (.head _)))))))
      have w8 : @Ne Nat x.R.c wl := aw (x.R.c, _) (.tail _ (.tail _ (.tail _ (.tail _ (.tail _ (.tail _ (.tail _ (.head _))))))))
      have w9 : @Ne Nat x.R.Pt wl := aw (x.R.Pt, _) (.tail _ (.tail _ (.tail _ (.tail _ (.tail _ (.tail _ (.tail _ (.tail _ (.head _)))))))))
      have w10 : @Ne Nat x.R.at_ wl := aw (x.R.at_, _) (.tail _ (.tail _ (.tail _ (.tail _ (.tail _ (.tail _ (.tail _ (.tail _ (.tail _ (.head _))))))))))
      have w11 : @Ne Nat x.W wl := aw (x.W, _) (.tail _ (.tail _ (.tail _ (.tail _ (.tail _ (.tail _ (.tail _ (.tail _ (.tail _ (.tail _ (.head _)))))))))))
      have w12 : ∀ q ∈ rest, q.1 ≠ wl := fun q hq => aw q (.tail _ (.tail _ (.tail _ (.tail _ (.tail _ (.tail _ (.tail _ (.tail _ (.tail _ (.tail _ (.tail _ hq)))))))))))
      clear aw
      (try k_unmd); (try k_fold); repeat' (first | ((fail_if_success (with_reducible rename EnvDone => xE)); (fail_if_success (fail_if_success (with_reducible show wpAny _ _ (execs (_ :: _) _) _ _ _))); refine let_A ?_; intro _; refine let_env ?_; intro _; have _ := EnvDone.mk) | ((fail_if_success (fail_if_success (with_reducible show wpAny _ _ (truthy (Value.ref _)) _ _ _))); (with_reducible show wpAny _ _ (truthy (Value.ref _)) _ _ _); k_dflt (refine' truthy_cons ?y9N ?y9m ?y9z ?_; (case y9N => k_asm); (case y9m => k_mem); (case y9z => with_reducible assumption); k_whole)) | ((fail_if_success (fail_if_success (with_reducible show wpAny _ _ (call (Value.builtin "list.pop") _ _) _ _ _))); dsimp only [List.nil_append, List.cons_append]; k_dflt ((with_reducible show wpAny _ _ (call (Value.builtin _) [Value.ref _, Value.int _ _]) _ _ _); refine' pop0 ?y9F ?y9N ?y9U ?y9z ?_; (case y9F => k_asm); (case y9N => k_asm); (case y9U => k_upd); (case y9z => with_reducible assumption); k_whole); intro _ _ _; (try k_sweep)) | ((fail_if_success (fail_if_success (with_reducible show wpAny _ _ (call (Value.ref _) _ _) _ _ _))); refine stop_of ?_) | walk_at "S1")
      · unfold Stop
        rename Fr _ _ _ _ => F3
        rename News _ _ _ _ => N3
        rename 1 < x.size => hsz
        first | ((first | refine el_0_5 (PP.sz x (.head _)) ?_ | refine el_1_4 (PP.sz x (.head _)) ?_ | refine el_2_3 (PP.sz x (.head _)) ?_ | refine el_3_2 (PP.sz x (.head _)) ?_ | refine el_4_1 (PP.sz x (.head _)) ?_); intro z1 z2 z3 z4 z5) | obtain ⟨z1, z2, z3, z4, z5⟩ := PP.sz x (.head _)
        k_dflt refine' hspecS_use (touched := []) B F3 XB TB N3 rfl hbn D (sizes_ok w p loose mean mg mb x.size c tz tc (by omega) z2 PP.c0) (fun _ _ _ h => nomatch h) ?dp ?un ?_
        case dp => ktr_room
        case un => ktr_units
        first | (intro r1 tl1 upd1 h4 tk4 gn4 g1 SO1 D1 B1 X1 T1 F4 N4 eu o4 pw4 hb4 zq10; (first | refine el_0_6 (zq10) ?_ | refine el_1_5 (zq10) ?_ | refine el_2_4 (zq10) ?_ | refine el_3_3 (zq10) ?_ | refine el_4_2 (zq10) ?_ | refine el_5_1 (zq10) ?_); try clear zq10; intro r0 ps cc zq11 zq12 hi; subst zq11; subst zq12) | rintro r1 tl1 upd1 h4 tk4 gn4 g1 SO1 D1 B1 X1 T1 F4 N4 eu o4 pw4 hb4 ⟨r0, ps, cc, rfl, rfl, hi⟩
        obtain rfl := List.map_eq_nil_iff.mp (show upd1.map (·.1) = [] from eu)
        simp only [List.cons_append, List.nil_append] at N4 o4
        have hne : dueOf x.size c ≠ [] := by
          unfold dueOf
          repeat' split
          all_goals
            intro q
            first
            | exact absurd (congrArg List.length q) (by simp only [List.length_replicate, List.length_nil]; omega)
            | cases q
        try dsimp only
        clear F3 N3 B X T D hbn
        refine restartE (gn := gn4) (s := s) F4 rfl rfl rfl rfl ?_
        intro tk5
        (try k_unmd); (try k_fold); repeat' (first | ((fail_if_success (with_reducible rename EnvDone => xE)); (fail_if_success (fail_if_success (with_reducible show wpAny _ _ (execs (_ :: _) _) _ _ _))); refine let_A ?_; intro _; refine let_env ?_; intro _; have _ := EnvDone.mk) | ((fail_if_success (fail_if_success (with_reducible show wpAny _ _ (exec (Stmt.For _ _ _ _ _) _) _ _ _))); (with_unfolding_all refine For_go ?_)) | ((fail_if_success (fail_if_success (with_reducible show wpAny _ _ (call (Value.ref _) _ _) _ _ _))); refine stop_of ?_) | walk_at "S1")
        unfold Stop
        rename Fr _ _ _ _ => F5
        rename News _ _ _ _ => N5
        rename_i q0 l9 q1 q2 h7
        have hfr : x.items = #[] := PP.fresh x (.head _)
        have FF : ∃ tcc, Fr g1 Lf h7 (fun y => if y = Str.ofString "cuts" then some (Value.int (c.fdiv 32) tcc) else if y = Str.ofString "sizes" then some (Value.ref r0) else if y = Str.ofString "size" then some (Value.int x.size tz) else if y = Str.ofString "start" then some (Value.int x.start ts) else if y = Str.ofString "lead" then some (Value.str (txt x.lead) tl) else if y = Str.ofString "above" then some (Value.ref x.R.f) else if y ∈ [Str.ofString "above", Str.ofString "lead", Str.ofString "start", Str.ofString "size", Str.ofString "sizes", Str.ofString "part", Str.ofString "number", Str.ofString "run", Str.ofString "below"] then u y else if y = Str.ofString "waiting" then some (Value.ref wl) else if y = Str.ofString "kept" then some (Value.ref kl) else if y = Str.ofString "page" then some (Value.ref R.f) else if y = Str.ofString "base" then some (Value.int bs t3) else if y = Str.ofString "runs" then some (Value.int r tr) else if y = Str.ofString "cuts" then some (Value.int c tc) else none) := ⟨_, F5⟩
        first | ((first | refine el_0_2 (FF) ?_ | refine el_1_1 (FF) ?_); try clear FF; intro tcc F5') | obtain ⟨tcc, F5'⟩ := FF
        have N5' := fun q hq => N5 q (.tail _ hq)
        clear N5 F5
        k_dflt refine' hspec_use (touched := [(r0, listOf (List.toArray ps) cc)]) B1 F5' X1 N5' T1 rfl (parts_ok w p loose mean mg mb r0 ps _ cc hi (dueOf_length (by omega) z2) x.size tz) ?dis ?dp ?un ?_
        case dis =>
          intro q hq q' hq'
          obtain rfl := List.mem_singleton.mp hq'
          exact (o4 _ (.head _) q hq).ne'
        case dp => ktr_room
        case un => ktr_units
        first | (intro r5 tl5 upd5 h6 tk6 F6 N6 zq13 o6 pw6 zq14; clear zq13; (first | refine el_0_7 (zq14) ?_ | refine el_1_6 (zq14) ?_ | refine el_2_5 (zq14) ?_ | refine el_3_4 (zq14) ?_ | refine el_4_3 (zq14) ?_ | refine el_5_2 (zq14) ?_ | refine el_6_1 (zq14) ?_); try clear zq14; intro l2 ps2 c2 zq15 zq16 hi2 zq17; subst zq15; subst zq16; subst zq17) | rintro r5 tl5 upd5 h6 tk6 F6 N6 - o6 pw6 ⟨l2, ps2, c2, rfl, rfl, hi2, rfl⟩
        simp only [List.cons_append, List.nil_append, hfr] at N6 o6 o4
        have hi3 : IntsAre ps2 (partsOf x.size c) := hi2
        try dsimp only
        clear hi2
        let kv0 := List.flatMap Nd.kv (dn ++ x :: wt)
        first | ((first | refine el_0_3 (parts_facts (n := x.size) (x := c) (by omega) z2 PP.c0) ?_ | refine el_1_2 (parts_facts (n := x.size) (x := c) (by omega) z2 PP.c0) ?_ | refine el_2_1 (parts_facts (n := x.size) (x := c) (by omega) z2 PP.c0) ?_); intro pf1 pf2 pf3) | obtain ⟨pf1, pf2, pf3⟩ := parts_facts (n := x.size) (x := c) (by omega) z2 PP.c0
        let rs0 : Ledger := (r0, listOf (List.toArray ps) cc) :: (k1, oc1) :: (x.W, tupO [Value.ref x.R.f, Value.str (txt x.lead) tl, Value.int x.start ts, Value.int x.size tz]) :: rest
        let lit : PgA × ((Int × Tok) × (Int × Tok)) → Ledger := fun a => (l2, listOf (List.toArray ps2) c2) :: (wl, listOf (List.toArray ((wt ++ a.1.ch).map fun x => Value.ref x.W)) a.1.cw) :: (kl, listOf (List.toArray (kv0 ++ a.1.ch.flatMap Nd.kv)) a.1.ck) :: (120, tab2 k1 k2) :: (k2, oc2) :: (x.R.f, x.R.fo) :: (x.R.D, x.R.oD) :: (x.R.Ap, x.R.oAp) :: (x.R.c, x.R.oc) :: (x.R.Pt, listOf (List.toArray (a.1.ch.map fun (y : Nd) => Value.ref y.R.f)) a.1.np) :: [(x.R.at_, x.oAt)]
        refine for_list (α := PgA × ((Int × Tok) × (Int × Tok))) (l := l2) (items := List.toArray ps2) (ol := listOf (List.toArray ps2) c2) [Str.ofString "part", Str.ofString "number", Str.ofString "run", Str.ofString "below"] lit
          (fun a y => if y = Str.ofString "cuts" then some (Value.int (c.fdiv 32) tcc) else if y = Str.ofString "sizes" then some (Value.ref r0) else if y = Str.ofString "size" then some (Value.int x.size tz) else if y = Str.ofString "start" then some (Value.int a.2.1.1 a.2.1.2) else if y = Str.ofString "lead" then some (Value.str (txt x.lead) tl) else if y = Str.ofString "above" then some (Value.ref x.R.f) else if y ∈ [Str.ofString "above", Str.ofString "lead", Str.ofString "start", Str.ofString "size", Str.ofString "sizes", Str.ofString "part", Str.ofString "number", Str.ofString "run", Str.ofString "below"] then u y else if y = Str.ofString "waiting" then some (Value.ref wl) else if y = Str.ofString "kept" then some (Value.ref kl) else if y = Str.ofString "page" then some (Value.ref R.f) else if y = Str.ofString "base" then some (Value.int bs t3) else if y = Str.ofString "runs" then some (Value.int a.2.2.1 a.2.2.2) else if y = Str.ofString "cuts" then some (Value.int c tc) else none)
          (fun i a rest' => rest' = a.1.ch.flatMap Nd.led ++ rs0 ∧ AptAll (lit a ++ rest') ∧ a.1.ch.map Nd.pn = kidsGo bs x.lead ((partsOf x.size c).take i) x.start r ∧ a.2.1.1 = x.start + ((partsOf x.size c).take i).sum ∧ a.2.2.1 = runsGo i r ∧ (∀ y ∈ a.1.ch, y.Ok w p loose mean mg mb k2 ∧ y.Below ∧ y.items = #[]) ∧ a.1.ch.length = i)
          (⟨[], cw + 1, ck, x.n⟩, ((x.start, ts), (r, tr))) rs0 ?pas rfl F6 ?N0 ⟨rfl, _, rfl⟩ (fun _ _ => rfl) ⟨rfl, ?apt0, rfl, by simp, rfl, (fun _ h => nomatch h), rfl⟩ ?side ?turn2 ?done2
        case pas => passes_own
        case side => exact fun i a rest' h m _ _ N => (N _ (.head _)).1
        case N0 =>
          intro q hq
          refine N6 q ((start_perm _ _ _ _ _ _ _ _ _ _ _ _ _ _ _).mem_iff.mpr ?_)
          simpa only [lit, rs0, kv0, List.append_nil, List.map_nil, List.flatMap_nil, List.cons_append, List.nil_append] using hq
        case apt0 =>
          have C1 := apt_ahead o4 (by simp only [List.map_cons]) PW2
          have C2 := apt_ahead o6 (by simp only [List.map_cons]) C1
          have C3 := apt_perm C2 (start_perm _ _ _ _ _ _ _ _ _ _ _ _ _ _ _)
          unfold AptAll at C3 ⊢
          simpa only [lit, rs0, List.map_cons, List.cons_append, List.nil_append] using C3
        case turn2 =>
          first | (intro I i v zq18 rest' u2 h8 tk8 oI hv zq19 hI F8 N8; (first | refine el_0_3 (zq18) ?_ | refine el_1_2 (zq18) ?_ | refine el_2_1 (zq18) ?_); try clear zq18; intro zq20 zq21 zq22; (first | refine el_0_4 (zq20) ?_ | refine el_1_3 (zq20) ?_ | refine el_2_2 (zq20) ?_ | refine el_3_1 (zq20) ?_); try clear zq20; intro ch cw' ck' np; (first | refine el_0_2 (zq21) ?_ | refine el_1_1 (zq21) ?_); try clear zq21; intro st tst; (first | refine el_0_2 (zq22) ?_ | refine el_1_1 (zq22) ?_); try clear zq22; intro rn trn; (first | refine el_0_7 (zq19) ?_ | refine el_1_6 (zq19) ?_ | refine el_2_5 (zq19) ?_ | refine el_3_4 (zq19) ?_ | refine el_4_3 (zq19) ?_ | refine el_5_2 (zq19) ?_ | refine el_6_1 (zq19) ?_); try clear zq19; intro zq23 apt hch hst hrn hok hlen; subst zq23) | rintro I i v ⟨⟨ch, cw', ck', np⟩, ⟨st, tst⟩, ⟨rn, trn⟩⟩ rest' u2 h8 tk8 oI hv ⟨rfl, apt, hch, hst, hrn, hok, hlen⟩ hI F8 N8
          refine fold_for ?_
          intro QL2 EL2
          try dsimp only at hch hst hrn hok hlen
          obtain ⟨pt, hpt⟩ : ∃ pt, (partsOf x.size c)[i]? = some pt := by
            have hlt : i < ps2.length := by
              rcases Nat.lt_or_ge i ps2.length with h | h
              · exact h
              · rw [List.getElem?_toArray, List.getElem?_eq_none h] at hv; cases hv
            exact ⟨_, List.getElem?_eq_getElem (by rw [← hi3.length]; exact hlt)⟩
          first | ((first | refine el_0_2 (hi3.get i pt hpt) ?_ | refine el_1_1 (hi3.get i pt hpt) ?_); intro ptt hpt') | obtain ⟨ptt, hpt'⟩ := hi3.get i pt hpt
          obtain rfl : v = .int pt ptt := by
            rw [List.getElem?_toArray, hpt'] at hv
            exact (Option.some.inj hv).symm
          have hlt := (List.getElem?_eq_some_iff.mp hpt).1
          have hpm := pf1 pt (List.mem_of_getElem? hpt)
          have hs1 := (sum_take (fun q hq => (pf1 q hq).1) i).1
          have hs2 := (sum_take (fun q hq => (pf1 q hq).1) (i + 1)).2
          rw [List.take_add_one, hpt, Option.toList_some, List.sum_append, List.sum_singleton, pf2] at hs2
          have hb1 : 1 ≤ pt ∧ pt ≤ 4 ∧ 0 ≤ st ∧ st + pt ≤ 5 ∧ 0 ≤ rn := ⟨hpm.1, by omega, by omega, by omega, by rw [hrn]; exact runsGo_nonneg _ PP.r0⟩
          first | ((first | refine el_0_5 (hb1) ?_ | refine el_1_4 (hb1) ?_ | refine el_2_3 (hb1) ?_ | refine el_3_2 (hb1) ?_ | refine el_4_1 (hb1) ?_); try clear hb1; intro b1 b2 b3 b4 b5) | obtain ⟨b1, b2, b3, b4, b5⟩ := hb1
          have b6 : st ≤ 4 := by omega
          have m1 : 0 ≤ rn.fmod 7 := by rw [Int.fmod_eq_emod_of_nonneg _ (by omega)]; exact Int.emod_nonneg _ (by omega)
          have m2 : rn.fmod 7 ≤ 6 := by rw [Int.fmod_eq_emod_of_nonneg _ (by omega)]; have := Int.emod_lt_of_pos rn (b := 7) (by omega); omega
          have m3 : 0 ≤ (rn.fdiv 7).fmod 3 ∧ (rn.fdiv 7).fmod 3 ≤ 2 := by
            rw [Int.fmod_eq_emod_of_nonneg _ (by omega)]
            have := Int.emod_lt_of_pos (rn.fdiv 7) (b := 3) (by omega)
            have := Int.emod_nonneg (rn.fdiv 7) (b := 3) (by omega)
            omega
          have m4 : -2 ^ 63 ≤ (rn.fdiv 7).fmod 3 * (if (pt == 1) = true then 1 else 0) := by split <;> omega
          have m5 : (rn.fdiv 7).fmod 3 * (if (pt == 1) = true then 1 else 0) ≤ ((1048576 : Nat) : Int) := by split <;> omega
          try dsimp only [lit, rs0] at F8 N8 hI apt
          have aptI := apt_snoc (oI := oI) apt hI
          rw [List.append_assoc] at aptI
          simp only [List.cons_append, List.nil_append] at N8 aptI
          generalize hT0 : List.flatMap Nd.led ch ++ _ = tail0 at N8 aptI
          generalize hT : tail0 ++ [(I, oI)] = tail at N8 aptI
          have L1 := apt_perm aptI (List.perm_append_comm_assoc [(l2, listOf (List.toArray ps2) c2), (wl, listOf (List.toArray ((wt ++ ch).map fun (x : Nd) => Value.ref x.W)) cw'), (kl, listOf (List.toArray (kv0 ++ ch.flatMap Nd.kv)) ck')] [(120, tab2 k1 k2), (k2, oc2), (x.R.f, x.R.fo), (x.R.D, x.R.oD), (x.R.Ap, x.R.oAp), (x.R.c, x.R.oc), (x.R.Pt, listOf (List.toArray (ch.map fun (y : Nd) => Value.ref y.R.f)) np), (x.R.at_, x.oAt)] tail)
          have disS := apt_split L1
          have hnd : ([120, k2, x.R.f, x.R.D, x.R.Ap, x.R.c, x.R.Pt, x.R.at_] : List Nat).Nodup := apt_left L1
          first | ((first | refine el_0_2 (apt_cons aptI) ?_ | refine el_1_1 (apt_cons aptI) ?_); intro al A1) | obtain ⟨al, A1⟩ := apt_cons aptI
          first | ((first | refine el_0_2 (apt_cons A1) ?_ | refine el_1_1 (apt_cons A1) ?_); intro aw' A2) | obtain ⟨aw', A2⟩ := apt_cons A1
          first | ((first | refine el_0_2 (apt_cons A2) ?_ | refine el_1_1 (apt_cons A2) ?_); intro ak A3) | obtain ⟨ak, A3⟩ := apt_cons A2
          have v0 : @Ne Nat l2 wl := fun q => al (wl, _) (.head _) q.symm
          have v1 : @Ne Nat l2 kl := fun q => al (kl, _) (.tail _ (.head _)) q.symm
          have k1' : @Ne Nat wl kl := fun q => aw' (kl, _) (.head _) q.symm
          have k2' : @Ne Nat 120 kl := ak (120, _) (.head _)
          have k3' : @Ne Nat k2 kl := ak (k2, _) (.tail _ (.head _))
          have k4' : @Ne Nat x.R.f kl := ak (x.R.f, _) (.tail _ (.tail _ (.head _)))
          have k5' : @Ne Nat x.R.D kl := ak (x.R.D, _) (.tail _ (.tail _ (.tail _ (.head _))))
          have k6' : @Ne Nat x.R.Ap kl := ak (x.R.Ap, _) (.tail _ (.tail _ (.tail _ (.tail _ (.head _)))))
          have k7' : @Ne Nat x.R.c kl := ak (x.R.c, _) (.tail _ (.tail _ (.tail _ (.tail _ (.tail _ (.head _))))))
          have k8' : @Ne Nat x.R.Pt kl := ak (x.R.Pt, _) (.tail _ (.tail _ (.tail _ (.tail _ (.tail _ (.tail _ (.head _)))))))
          have k9' : @Ne Nat x.R.at_ kl := ak (x.R.at_, _) (.tail _ (.tail _ (.tail _ (.tail _ (.tail _ (.tail _ (.tail _ (.head _))))))))
          have k10' : ∀ q ∈ tail, q.1 ≠ kl := fun q hq => ak q (.tail _ (.tail _ (.tail _ (.tail _ (.tail _ (.tail _ (.tail _ (.tail _ hq))))))))
          have w13 : ∀ q ∈ tail, q.1 ≠ wl := fun q hq => aw' q (.tail _ (.tail _ (.tail _ (.tail _ (.tail _ (.tail _ (.tail _ (.tail _ (.tail _ hq)))))))))
          clear al aw' ak A1 A2 A3
          clear F6 N6
          try dsimp only
          try k_fold
          (try k_unmd); (try k_fold); repeat' (first | ((fail_if_success (with_reducible rename EnvDone => xE)); (fail_if_success (fail_if_success (with_reducible show wpAny _ _ (execs (_ :: _) _) _ _ _))); refine let_A ?_; intro _; refine let_env ?_; intro _; have _ := EnvDone.mk) | ((fail_if_success (fail_if_success (with_reducible show wpAny _ _ (binaryOp Operator.Mult (Value.str _ _) (Value.int _ _)) _ _ _))); (with_reducible show wpAny _ _ (binaryOp Operator.Mult (Value.str _ _) (Value.int _ _)) _ _ _); (refine KXi.mul (by kxi_len) (by decide) (by with_reducible assumption) (by with_reducible assumption) ?_); intro _ _ _ _) | ((fail_if_success (fail_if_success (with_reducible show wpAny _ _ (call (Value.ref _) _ _) _ _ _))); refine stop_of ?_) | walk_at "S1")
          unfold Stop
          rename Fr _ _ _ _ => F9
          rename News _ _ _ _ => N9
          rename_i y1 y2 y3 h9
          rw [run_txt] at F9
          have FF : ∃ tnum trun, Fr g1 Lf h9 (fun y => if y = Str.ofString "run" then some (.str (txt (runOf rn pt)) trun) else if y = Str.ofString "number" then some (.int (maskOf bs st pt) tnum) else if y = Str.ofString "part" then some (.int pt ptt) else if y ∈ [Str.ofString "part", Str.ofString "number", Str.ofString "run", Str.ofString "below"] then u2 y else if y = Str.ofString "cuts" then some (Value.int (c.fdiv 32) tcc) else if y = Str.ofString "sizes" then some (Value.ref r0) else if y = Str.ofString "size" then some (Value.int x.size tz) else if y = Str.ofString "start" then some (Value.int st tst) else if y = Str.ofString "lead" then some (Value.str (txt x.lead) tl) else if y = Str.ofString "above" then some (Value.ref x.R.f) else if y ∈ [Str.ofString "above", Str.ofString "lead", Str.ofString "start", Str.ofString "size", Str.ofString "sizes", Str.ofString "part", Str.ofString "number", Str.ofString "run", Str.ofString "below"] then u y else if y = Str.ofString "waiting" then some (Value.ref wl) else if y = Str.ofString "kept" then some (Value.ref kl) else if y = Str.ofString "page" then some (Value.ref R.f) else if y = Str.ofString "base" then some (Value.int bs t3) else if y = Str.ofString "runs" then some (Value.int rn trn) else if y = Str.ofString "cuts" then some (Value.int c tc) else none) := ⟨_, _, F9⟩
          first | ((first | refine el_0_3 (FF) ?_ | refine el_1_2 (FF) ?_ | refine el_2_1 (FF) ?_); try clear FF; intro tnum trun F10) | obtain ⟨tnum, trun, F10⟩ := FF
          clear F9
          first | ((first | refine el_0_2 (mask_bounds b1 b2 b3 b4 hbs0 hbs1) ?_ | refine el_1_1 (mask_bounds b1 b2 b3 b4 hbs0 hbs1) ?_); intro q1 q2) | obtain ⟨q1, q2⟩ := mask_bounds b1 b2 b3 b4 hbs0 hbs1
          k_dflt refine' hspec_use (touched := []) B1 F10 X1 N9 T1 rfl (flags_ok w p loose mean mg mb (maskOf bs st pt) _ q1 q2) (fun _ _ _ h => nomatch h) ?dp ?un ?_
          case dp => ktr_room
          case un => ktr_units
          first | (intro r9 tl9 upd9 h10 tk10 F11 N11 eu9 zq24 zq25 zq26; clear zq24; clear zq25; (first | refine el_0_3 (zq26) ?_ | refine el_1_2 (zq26) ?_ | refine el_2_1 (zq26) ?_); try clear zq26; intro tg zq27 zq28; subst zq27; subst zq28) | rintro r9 tl9 upd9 h10 tk10 F11 N11 eu9 - - ⟨tg, rfl, rfl⟩
          obtain rfl := List.map_eq_nil_iff.mp (show upd9.map (·.1) = [] from eu9)
          simp only [List.cons_append, List.nil_append] at N11
          clear F10 N9
          have hPd := (ok x (List.mem_append_right _ (.head _))).ok.dict
          first | ((first | refine el_0_3 ((ok x (List.mem_append_right _ (.head _))).at_) ?_ | refine el_1_2 ((ok x (List.mem_append_right _ (.head _))).at_) ?_ | refine el_2_1 ((ok x (List.mem_append_right _ (.head _))).at_) ?_); intro atl atp hAt) | obtain ⟨atl, atp, hAt⟩ := (ok x (List.mem_append_right _ (.head _))).at_
          try dsimp only
          refine restartE (gn := gn4) (s := s) F11 rfl rfl rfl rfl ?_
          intro tk11
          (try k_unmd); (try k_fold); repeat' (first | ((fail_if_success (with_reducible rename EnvDone => xE)); (fail_if_success (fail_if_success (with_reducible show wpAny _ _ (execs (_ :: _) _) _ _ _))); refine let_A ?_; intro _; refine let_env ?_; intro _; have _ := EnvDone.mk) | ((fail_if_success (fail_if_success (with_reducible show wpAny _ _ (getAttr (Value.ref _) _ _) _ _ _))); k_dflt (refine' fnK_load ?y9F ?y9N ?y9hf ?y9hD ?y9n ?y9v ?y9mi ?y9hh ?_; (case y9F => k_asm); (case y9N => k_asm); (case y9hf => k_mem); (case y9hD => k_mem); (case y9n => assumption); (case y9v => exact rfl); (case y9mi => exact am_miss_of_fast (by kernel_rfl)); (case y9hh => exact rfl); k_whole; intro _; (try dsimp only))) | walk_at "S1")
          have hrl := runOf_length rn pt
          have hln : x.lead.length + (runOf rn pt).length ≤ 100000 := lead_run rn pt (PP.sz x (.head _))
          try dsimp only
          (try k_unmd); (try k_fold); repeat' (first | ((fail_if_success (with_reducible rename EnvDone => xE)); (fail_if_success (fail_if_success (with_reducible show wpAny _ _ (execs (_ :: _) _) _ _ _))); refine let_A ?_; intro _; refine let_env ?_; intro _; have _ := EnvDone.mk) | ((fail_if_success (fail_if_success (with_reducible show wpAny _ _ (binaryOp Operator.Add (Value.str _ _) (Value.str _ _)) _ _ _))); (with_reducible show wpAny _ _ (binaryOp Operator.Add (Value.str (txt _) _) (Value.str (txt _) _)) _ _ _); (refine add_txt ?y9z ?_; (case y9z => with_reducible assumption)); intro _ _) | ((fail_if_success (fail_if_success (with_reducible show wpAny _ _ (call (Value.ref _) _ _) _ _ _))); refine stop_of ?_) | walk_at "S1")
          unfold Stop
          rename Fr _ _ _ _ => F12
          rename News _ _ _ _ => N12
          have hoc' := hoc
          have N13 := fun q hq => N12 q ((List.perm_append_comm_assoc [(l2, listOf (List.toArray ps2) c2), (wl, listOf (List.toArray ((wt ++ ch).map fun (x : Nd) => Value.ref x.W)) cw'), (kl, listOf (List.toArray (kv0 ++ ch.flatMap Nd.kv)) ck')] [(120, tab2 k1 k2), (k2, oc2), (x.R.f, x.R.fo), (x.R.D, x.R.oD), (x.R.Ap, x.R.oAp), (x.R.c, x.R.oc), (x.R.Pt, listOf (List.toArray (ch.map fun (y : Nd) => Value.ref y.R.f)) np), (x.R.at_, x.oAt)] tail).mem_iff.mpr hq)
          have hch5 : (List.toArray (ch.map fun (y : Nd) => Value.ref y.R.f)).size ≤ 1000 := by
            rw [List.size_toArray, List.length_map]
            omega
          k_dflt refine' hspec_use (touched := [(120, tab2 k1 k2), (k2, oc2), (x.R.f, x.R.fo), (x.R.D, x.R.oD), (x.R.Ap, x.R.oAp), (x.R.c, x.R.oc), (x.R.Pt, listOf (List.toArray (ch.map fun (y : Nd) => Value.ref y.R.f)) np), (x.R.at_, x.oAt)]) B1 F12 X1 N13 T1 rfl (subel w p loose mean mg mb x.R _ _ (txt (x.lead ++ runOf rn pt)) _ k1 k2 oc2 hoc _ np hch5 (ok x (List.mem_append_right _ (.head _))).ok x.oAt (txt x.lead) atl atp hAt (ok x (List.mem_append_right _ (.head _))).sys hnd) disS ?dp ?un ?_
          case dp => ktr_room
          case un => ktr_units
          first | (intro r14 tl14 upd14 h14 tk14 F14 N14 zq29 o14 pw14 zq30; clear zq29; (first | refine el_0_10 (zq30) ?_ | refine el_1_9 (zq30) ?_ | refine el_2_8 (zq30) ?_ | refine el_3_7 (zq30) ?_ | refine el_4_6 (zq30) ?_ | refine el_5_5 (zq30) ?_ | refine el_6_4 (zq30) ?_ | refine el_7_3 (zq30) ?_ | refine el_8_2 (zq30) ?_ | refine el_9_1 (zq30) ?_); try clear zq30; intro Rn oR zq31 eT1 eT2 hRn hdR hsysR zq32 zq33; subst zq31; subst zq32; subst zq33) | rintro r14 tl14 upd14 h14 tk14 F14 N14 - o14 pw14 ⟨Rn, oR, rfl, eT1, eT2, hRn, hdR, hsysR, rfl, rfl⟩
          have AO := apt_join (show AptAll [(Rn.Ap, Rn.oAp), (Rn.D, Rn.oD), (Rn.f, Rn.fo), (Rn.Pt, listOf #[] 0), (Rn.c, Rn.oc), (Rn.at_, oR)] from pw14) L1 o14
          simp only [List.cons_append, List.nil_append] at N14 o14
          have ow : ∀ p ∈ [(Rn.Ap, Rn.oAp), (Rn.D, Rn.oD), (Rn.f, Rn.fo), (Rn.Pt, listOf #[] 0), (Rn.c, Rn.oc), (Rn.at_, oR)], p.1 ≠ wl := fun p hp => (o14 p hp (wl, _) (.tail _ (.tail _ (.tail _ (.tail _ (.tail _ (.tail _ (.tail _ (.tail _ (.tail _ (.head _))))))))))).ne
          have ok' : ∀ p ∈ [(Rn.Ap, Rn.oAp), (Rn.D, Rn.oD), (Rn.f, Rn.fo), (Rn.Pt, listOf #[] 0), (Rn.c, Rn.oc), (Rn.at_, oR)], p.1 ≠ kl := fun p hp => (o14 p hp (kl, _) (.tail _ (.tail _ (.tail _ (.tail _ (.tail _ (.tail _ (.tail _ (.tail _ (.tail _ (.tail _ (.head _)))))))))))).ne
          have ow0 : @Ne Nat Rn.Ap wl := ow _ (.head _)
          have ok0 : @Ne Nat Rn.Ap kl := ok' _ (.head _)
          have ow1 : @Ne Nat Rn.D wl := ow _ (.tail _ (.head _))
          have ok1 : @Ne Nat Rn.D kl := ok' _ (.tail _ (.head _))
          have ow2 : @Ne Nat Rn.f wl := ow _ (.tail _ (.tail _ (.head _)))
          have ok2 : @Ne Nat Rn.f kl := ok' _ (.tail _ (.tail _ (.head _)))
          have ow3 : @Ne Nat Rn.Pt wl := ow _ (.tail _ (.tail _ (.tail _ (.head _))))
          have ok3 : @Ne Nat Rn.Pt kl := ok' _ (.tail _ (.tail _ (.tail _ (.head _))))
          have ow4 : @Ne Nat Rn.c wl := ow _ (.tail _ (.tail _ (.tail _ (.tail _ (.head _)))))
          have ok4 : @Ne Nat Rn.c kl := ok' _ (.tail _ (.tail _ (.tail _ (.tail _ (.head _)))))
          have ow5 : @Ne Nat Rn.at_ wl := ow _ (.tail _ (.tail _ (.tail _ (.tail _ (.tail _ (.head _))))))
          have ok5 : @Ne Nat Rn.at_ kl := ok' _ (.tail _ (.tail _ (.tail _ (.tail _ (.tail _ (.head _))))))
          have hz1 : (List.toArray (kv0 ++ ch.flatMap Nd.kv)).size ≤ sizeLine := by
            have q1 := PP.kvs
            have q2 := kv_le (l := ch) fun y hy => by
              first | ((first | refine el_0_5 ((hok y hy).2.1.kept) ?_ | refine el_1_4 ((hok y hy).2.1.kept) ?_ | refine el_2_3 ((hok y hy).2.1.kept) ?_ | refine el_3_2 ((hok y hy).2.1.kept) ?_ | refine el_4_1 ((hok y hy).2.1.kept) ?_); intro U _ _ _ hk) | obtain ⟨U, _, _, _, hk⟩ := (hok y hy).2.1.kept
              rw [hk]; exact Nat.le_refl _
            rw [List.size_toArray, List.length_append, sizeLine_eq]
            have q3 : kv0.length ≤ 9 := q1
            omega
          have hz2 : (List.toArray ((wt ++ ch).map fun (x : Nd) => Value.ref x.W)).size ≤ sizeLine := by
            rw [List.size_toArray, List.length_map, List.length_append, sizeLine_eq]
            omega
          clear F12 N12 N13 disS L1
          try dsimp only
          refine restartE (gn := gn4) (s := s) F14 rfl rfl rfl rfl ?_
          intro tk15
          (try k_unmd); (try k_fold); repeat' (first | ((fail_if_success (with_reducible rename EnvDone => xE)); (fail_if_success (fail_if_success (with_reducible show wpAny _ _ (execs (_ :: _) _) _ _ _))); refine let_A ?_; intro _; refine let_env ?_; intro _; have _ := EnvDone.mk) | ((fail_if_success (fail_if_success (with_reducible show wpAny _ _ (binaryOp Operator.Add (Value.str _ _) (Value.str _ _)) _ _ _))); (with_reducible show wpAny _ _ (binaryOp Operator.Add (Value.str (txt _) _) (Value.str (txt _) _)) _ _ _); (refine add_txt ?y9z ?_; (case y9z => with_reducible assumption)); intro _ _) | ((fail_if_success (fail_if_success (with_reducible show wpAny _ _ (call (Value.builtin "list.append") _ _) _ _ _))); dsimp only [List.nil_append, List.cons_append]; (with_reducible show wpAny _ _ (call (Value.builtin _) [Value.ref _, _]) _ _ _); k_dflt (refine' append_K ?y9k1 ?y9k2 ?y9k3 ?_ ?y9z; (case y9k1 => k_asm); (case y9k2 => k_asm); (case y9k3 => k_upd); (case y9z => size_fits); k_whole); intro _ _ _; (try k_sweep)) | walk_at "S1")
          rename Fr _ _ _ _ => F15
          rename News _ _ _ _ => N15
          rename_i i1 i2 tA i3 T1 i4 lT1 i5 tB i7 T2 i8 lT2 i9 i10 h16
          let nd : Nd := ⟨Rn, #[], 0, oR, T2, tupO [.ref Rn.f, .str (txt (x.lead ++ runOf rn pt)) tB, .int st tst, .int pt ptt], [(T1, tupO [.ref Rn.f, .int (maskOf bs st pt) tnum, .str (txt (x.lead ++ runOf rn pt)) tA, .str (txt (runOf rn pt)) trun])], x.lead ++ runOf rn pt, st, pt, maskOf bs st pt, runOf rn pt⟩
          have eP : (List.toArray (ch.map fun (y : Nd) => Value.ref y.R.f)).push (Value.ref Rn.f) = List.toArray ((ch ++ [nd]).map fun (y : Nd) => Value.ref y.R.f) := by simp [nd]
          have eW : (List.toArray ((wt ++ ch).map fun (x : Nd) => Value.ref x.W)).push (Value.ref T2) = List.toArray ((wt ++ (ch ++ [nd])).map fun (x : Nd) => Value.ref x.W) := by simp [nd]
          have eK : (List.toArray (kv0 ++ ch.flatMap Nd.kv)).push (Value.ref T1) = List.toArray (kv0 ++ (ch ++ [nd]).flatMap Nd.kv) := by simp [nd, Nd.kv]
          rw [eP, eW, eK] at N15
          have AX := apt_fresh (T := T2) (o := nd.oW) (by simp only [List.cons_append, List.nil_append, AllLt]; exact lT2) (apt_fresh (T := T1) (o := tupO [.ref Rn.f, .int (maskOf bs st pt) tnum, .str (txt (x.lead ++ runOf rn pt)) tA, .str (txt (runOf rn pt)) trun]) (by simp only [List.cons_append, List.nil_append, AllLt]; exact lT1) AO)
          rw [← hT, ← hT0] at AX N15
          have eL : (ch ++ [nd]).flatMap Nd.led = ch.flatMap Nd.led ++ [(Rn.f, Rn.fo), (Rn.D, Rn.oD), (Rn.Ap, Rn.oAp), (Rn.c, Rn.oc), (Rn.Pt, listOf #[] 0), (Rn.at_, oR), (T2, nd.oW), (T1, tupO [.ref Rn.f, .int (maskOf bs st pt) tnum, .str (txt (x.lead ++ runOf rn pt)) tA, .str (txt (runOf rn pt)) trun])] := by
            rw [List.flatMap_append]
            rfl
          have apt2 := turn_apt (oP' := listOf (List.toArray ((ch ++ [nd]).map fun (y : Nd) => Value.ref y.R.f)) (np + 1)) (oW' := listOf (List.toArray ((wt ++ (ch ++ [nd])).map fun (x : Nd) => Value.ref x.W)) (cw' + 1)) (oK' := listOf (List.toArray (kv0 ++ (ch ++ [nd]).flatMap Nd.kv)) (ck' + 1)) AX
          have aptI2 := turn_aptI (oP' := listOf (List.toArray ((ch ++ [nd]).map fun (y : Nd) => Value.ref y.R.f)) (np + 1)) (oW' := listOf (List.toArray ((wt ++ (ch ++ [nd])).map fun (x : Nd) => Value.ref x.W)) (cw' + 1)) (oK' := listOf (List.toArray (kv0 ++ (ch ++ [nd]).flatMap Nd.kv)) (ck' + 1)) AX
          rw [← eL] at apt2 aptI2
          refine let_m F15 ?_
          clear F15
          intro m3 F15
          refine LS.intro2 (⟨ch ++ [nd], cw' + 1, ck' + 1, np + 1⟩ : PgA) (fun m => ((intOf (m (Str.ofString "start")), tokOf (m (Str.ofString "start"))), (intOf (m (Str.ofString "runs")), tokOf (m (Str.ofString "runs"))))) ((ch ++ [nd]).flatMap Nd.led ++ rs0) F15 N15 ?hs ?hm ?hI ⟨rfl, apt2, ?p1, ?p2, ?p3, ?p4, ?p5⟩
          case hs =>
            intro q hq
            rw [eL] at hq
            exact (turn_perm _ _ _ _ _ _ _ _ _ _ _ _ _ _ _ _ _ _ _ _ _ _).mem_iff.mp hq
          case hm =>
            intro z hz
            refine chEq (ks := [Str.ofString "cuts", Str.ofString "sizes", Str.ofString "size", Str.ofString "start", Str.ofString "lead", Str.ofString "above", Str.ofString "waiting", Str.ofString "kept", Str.ofString "page", Str.ofString "base", Str.ofString "runs"]) (l1 := [.one _ _, .one _ _, .one _ _, .one _ _, .one _ _, .one _ _, .many _ _, .one _ _, .one _ _, .one _ _, .one _ _, .one _ _, .one _ _, .many _ _, .one _ _, .one _ _, .one _ _, .one _ _, .one _ _, .one _ _]) (l2 := [.one _ _, .one _ _, .one _ _, .one _ _, .one _ _, .one _ _, .many _ _, .one _ _, .one _ _, .one _ _, .one _ _, .one _ _, .one _ _]) (b1 := fun _ => none) (b2 := fun _ => none) [[Str.ofString "runs"], [Str.ofString "start"], [Str.ofString "below"], [Str.ofString "run"], [Str.ofString "number"], [Str.ofString "part"], [Str.ofString "part", Str.ofString "number", Str.ofString "run", Str.ofString "below"], [Str.ofString "cuts"], [Str.ofString "sizes"], [Str.ofString "size"], [Str.ofString "start"], [Str.ofString "lead"], [Str.ofString "above"], [Str.ofString "above", Str.ofString "lead", Str.ofString "start", Str.ofString "size", Str.ofString "sizes", Str.ofString "part", Str.ofString "number", Str.ofString "run", Str.ofString "below"], [Str.ofString "waiting"], [Str.ofString "kept"], [Str.ofString "page"], [Str.ofString "base"], [Str.ofString "runs"], [Str.ofString "cuts"]] [[Str.ofString "cuts"], [Str.ofString "sizes"], [Str.ofString "size"], [Str.ofString "start"], [Str.ofString "lead"], [Str.ofString "above"], [Str.ofString "above", Str.ofString "lead", Str.ofString "start", Str.ofString "size", Str.ofString "sizes", Str.ofString "part", Str.ofString "number", Str.ofString "run", Str.ofString "below"], [Str.ofString "waiting"], [Str.ofString "kept"], [Str.ofString "page"], [Str.ofString "base"], [Str.ofString "runs"], [Str.ofString "cuts"]] rfl rfl (by decide +kernel) (by decide +kernel) ?_ rfl hz
            rfl
          case hI => exact aptI2
          case p1 =>
            show (ch ++ [nd]).map Nd.pn = _
            rw [List.map_append, hch, List.take_add_one, hpt, Option.toList_some, kidsGo_snoc, List.length_take, Nat.min_eq_left (Nat.le_of_lt hlt), ← hst, ← hrn]
            rfl
          case p2 =>
            show st + pt = _
            rw [List.take_add_one, hpt, Option.toList_some, List.sum_append, List.sum_singleton]
            omega
          case p3 =>
            show rn.fdiv 21 = _
            rw [runsGo_succ, ← hrn]
          case p4 =>
            intro y hy
            rcases List.mem_append.mp hy with h | h
            · exact hok y h
            · obtain rfl := List.mem_singleton.mp h
              exact ⟨⟨hRn, ⟨_, _, hdR⟩, hsysR, ⟨tB, tst, ptt, rfl⟩⟩, ⟨eT1, ⟨T1, tnum, tA, trun, rfl⟩⟩, rfl⟩
          case p5 =>
            show (ch ++ [nd]).length = i + 1
            rw [List.length_append, hlen]
            rfl
        case done2 =>
          first | (intro zq34 rest' u2 h8 tk8 zq35 F8 N8; (first | refine el_0_3 (zq34) ?_ | refine el_1_2 (zq34) ?_ | refine el_2_1 (zq34) ?_); try clear zq34; intro zq36 zq37 zq38; (first | refine el_0_4 (zq36) ?_ | refine el_1_3 (zq36) ?_ | refine el_2_2 (zq36) ?_ | refine el_3_1 (zq36) ?_); try clear zq36; intro ch cw' ck' np; (first | refine el_0_2 (zq37) ?_ | refine el_1_1 (zq37) ?_); try clear zq37; intro st tst; (first | refine el_0_2 (zq38) ?_ | refine el_1_1 (zq38) ?_); try clear zq38; intro rn trn; (first | refine el_0_7 (zq35) ?_ | refine el_1_6 (zq35) ?_ | refine el_2_5 (zq35) ?_ | refine el_3_4 (zq35) ?_ | refine el_4_3 (zq35) ?_ | refine el_5_2 (zq35) ?_ | refine el_6_1 (zq35) ?_); try clear zq35; intro zq39 apt hch hst hrn hok hlen; subst zq39) | rintro ⟨⟨ch, cw', ck', np⟩, ⟨st, tst⟩, ⟨rn, trn⟩⟩ rest' u2 h8 tk8 ⟨rfl, apt, hch, hst, hrn, hok, hlen⟩ F8 N8
          try dsimp only at hch hst hrn hok hlen
          have hsz2 : (List.toArray ps2).size = (partsOf x.size c).length := by rw [List.size_toArray, hi3.length]
          rw [hsz2] at hch hrn
          rw [List.take_of_length_le (Nat.le_refl _)] at hch
          let x' : Nd := { x with items := List.toArray (ch.map fun (y : Nd) => Value.ref y.R.f), n := np }
          first | ((first | refine el_0_2 (PP.step hsz (x' := x') rfl rfl rfl rfl hch fun y hy => (hok y hy).2) ?_ | refine el_1_1 (PP.step hsz (x' := x') rfl rfl rfl rfl hch fun y hy => (hok y hy).2) ?_); intro PS hms) | obtain ⟨PS, hms⟩ := PP.step hsz (x' := x') rfl rfl rfl rfl hch fun y hy => (hok y hy).2
          have hrest' : rest = x.K ++ (dn.flatMap Nd.led ++ wt.flatMap Nd.led) := by
            rw [← hrest, ← List.flatMap_append]
            rfl
          have eL : (dn ++ [x'] ++ (wt ++ ch)).flatMap Nd.led = dn.flatMap Nd.led ++ (((x.R.f, x.R.fo) :: (x.R.D, x.R.oD) :: (x.R.Ap, x.R.oAp) :: (x.R.c, x.R.oc) :: (x.R.Pt, listOf (List.toArray (ch.map fun (y : Nd) => Value.ref y.R.f)) np) :: (x.R.at_, x.oAt) :: (x.W, x.oW) :: x.K) ++ (wt.flatMap Nd.led ++ ch.flatMap Nd.led)) := by
            rw [List.flatMap_append, List.flatMap_append, List.flatMap_append, List.append_assoc, List.flatMap_singleton]
            rfl
          have eV : (dn ++ [x'] ++ (wt ++ ch)).flatMap Nd.kv = kv0 ++ ch.flatMap Nd.kv := by
            show _ = List.flatMap Nd.kv (dn ++ x :: wt) ++ _
            simp only [List.flatMap_append, List.flatMap_cons, List.flatMap_nil, List.append_assoc, List.append_nil]
            rfl
          have PD := done_perm (l2, listOf (List.toArray ps2) c2) (r0, listOf (List.toArray ps) cc) (wl, listOf (List.toArray ((wt ++ ch).map fun (x : Nd) => Value.ref x.W)) cw') (kl, listOf (List.toArray (kv0 ++ ch.flatMap Nd.kv)) ck') (120, tab2 k1 k2) (k2, oc2) (k1, oc1) (x.R.f, x.R.fo) (x.R.D, x.R.oD) (x.R.Ap, x.R.oAp) (x.R.c, x.R.oc) (x.R.Pt, listOf (List.toArray (ch.map fun (y : Nd) => Value.ref y.R.f)) np) (x.R.at_, x.oAt) (x.W, x.oW) x.K (ch.flatMap Nd.led) (dn.flatMap Nd.led) (wt.flatMap Nd.led)
          rw [← eL] at PD
          try dsimp only [lit, rs0] at F8 N8 apt
          rw [hrest', ← hoW] at N8 apt
          have N9 : News g1 Lf h8 (ledOf wl kl ((wt ++ ch).map fun x => .ref x.W) ((dn ++ [x'] ++ (wt ++ ch)).flatMap Nd.kv) cw' ck' k1 k2 oc1 oc2 (dn ++ [x'] ++ (wt ++ ch))) := fun q hq => by
            rw [eV] at hq
            exact N8 q (PD.mem_iff.mpr (List.mem_append_right _ hq))
          have A9 : AptAll (ledOf wl kl ((wt ++ ch).map fun x => .ref x.W) ((dn ++ [x'] ++ (wt ++ ch)).flatMap Nd.kv) cw' ck' k1 k2 oc1 oc2 (dn ++ [x'] ++ (wt ++ ch))) := by
            rw [eV]
            exact apt_right (apt_perm apt PD)
          clear F6 N6
          try dsimp only
          try k_fold
          (try k_unmd); (try k_fold); repeat' (first | ((fail_if_success (with_reducible rename EnvDone => xE)); (fail_if_success (fail_if_success (with_reducible show wpAny _ _ (execs (_ :: _) _) _ _ _))); refine let_A ?_; intro _; refine let_env ?_; intro _; have _ := EnvDone.mk) | walk_at "S1")
          show ∃ m, m < _ ∧ PgI _ _ _ _ _ _ _ _ _ _ _ _ _ _ _ _ _ _ _ _ _ _ _ m _
          refine ⟨_, hms, PgI.intro g1 _ _ gn4 _ (dn ++ [x']) (wt ++ ch) cw' ck' (c.fdiv 32) rn tcc trn rfl hb4 (SO.trans SO1) D1 B1 X1 T1 (pg_fr F8 rfl rfl rfl rfl rfl rfl ?e0) N9 A9 ?ok9 (hrn ▸ PS) ?pf9 rfl⟩
          case e0 =>
            intro z h0 h1 h2 h3 h4 h5 h6
            exact ch_offb (l := [.many _ _, .one _ _, .one _ _, .one _ _, .one _ _, .one _ _, .one _ _, .many _ _, .one _ _, .one _ _, .one _ _, .one _ _, .one _ _, .one _ _]) (m := fun _ => none) [[Str.ofString "part", Str.ofString "number", Str.ofString "run", Str.ofString "below"], [Str.ofString "cuts"], [Str.ofString "sizes"], [Str.ofString "size"], [Str.ofString "start"], [Str.ofString "lead"], [Str.ofString "above"], [Str.ofString "above", Str.ofString "lead", Str.ofString "start", Str.ofString "size", Str.ofString "sizes", Str.ofString "part", Str.ofString "number", Str.ofString "run", Str.ofString "below"], [Str.ofString "waiting"], [Str.ofString "kept"], [Str.ofString "page"], [Str.ofString "base"], [Str.ofString "runs"], [Str.ofString "cuts"]] (notin6 h0 h1 h2 h3 h4 h5 h6) rfl (by decide +kernel)
          case ok9 =>
            intro y hy
            rcases List.mem_append.mp hy with h | h
            · rcases List.mem_append.mp h with h | h
              · exact ok y (List.mem_append_left _ h)
              · obtain rfl := List.mem_singleton.mp h
                have z := ok x (List.mem_append_right _ (.head _))
                exact ⟨z.ok, z.at_, z.sys, z.wt⟩
            · rcases List.mem_append.mp h with h | h
              · exact ok y (List.mem_append_right _ (.tail _ h))
              · exact (hok y h).1
          case pf9 =>
            first | ((first | refine el_0_4 (hpf) ?_ | refine el_1_3 (hpf) ?_ | refine el_2_2 (hpf) ?_ | refine el_3_1 (hpf) ?_); try clear hpf; intro P0 rest0 e hP0) | obtain ⟨P0, rest0, e, hP0⟩ := hpf
            cases dn with
            | nil =>
              first | ((first | refine el_0_2 (List.cons.inj e) ?_ | refine el_1_1 (List.cons.inj e) ?_); intro zq40 zq41; subst zq40; subst zq41) | obtain ⟨rfl, rfl⟩ := List.cons.inj e
              exact ⟨x', _, rfl, hP0⟩
            | cons d dn =>
              first | ((first | refine el_0_2 (List.cons.inj e) ?_ | refine el_1_1 (List.cons.inj e) ?_); intro zq42 zq43; subst zq42; subst zq43) | obtain ⟨rfl, rfl⟩ := List.cons.inj e
              exact ⟨d, _, rfl, hP0⟩
      · rename Fr _ _ _ _ => F3
        rename News _ _ _ _ => N3
        rename ¬ 1 < x.size => hsz
        first | ((first | refine el_0_2 (PP.skip hsz) ?_ | refine el_1_1 (PP.skip hsz) ?_); intro PS hms) | obtain ⟨PS, hms⟩ := PP.skip hsz
        have hrest' : rest = x.K ++ (dn.flatMap Nd.led ++ wt.flatMap Nd.led) := by
          rw [← hrest, ← List.flatMap_append]
          rfl
        have eL : (dn ++ [x] ++ wt).flatMap Nd.led = dn.flatMap Nd.led ++ (((x.R.f, x.R.fo) :: (x.R.D, x.R.oD) :: (x.R.Ap, x.R.oAp) :: (x.R.c, x.R.oc) :: (x.R.Pt, listOf x.items x.n) :: (x.R.at_, x.oAt) :: (x.W, x.oW) :: x.K) ++ wt.flatMap Nd.led) := by
          rw [List.flatMap_append, List.flatMap_append, List.append_assoc, List.flatMap_singleton]
          rfl
        have eV : (dn ++ [x] ++ wt).flatMap Nd.kv = (dn ++ x :: wt).flatMap Nd.kv := by rw [List.append_assoc]; rfl
        rw [hrest', ← hoW] at N3 PW2
        have PD := fun (o1 o2 : Obj) => skip_perm (wl, o1) (kl, o2) (120, tab2 k1 k2) (k2, oc2) (k1, oc1) (x.R.f, x.R.fo) (x.R.D, x.R.oD) (x.R.Ap, x.R.oAp) (x.R.c, x.R.oc) (x.R.Pt, listOf x.items x.n) (x.R.at_, x.oAt) (x.W, x.oW) x.K (dn.flatMap Nd.led) (wt.flatMap Nd.led)
        rw [← eL] at PD
        show ∃ m, m < _ ∧ PgI _ _ _ _ _ _ _ _ _ _ _ _ _ _ _ _ _ _ _ _ _ _ _ m _
        refine ⟨_, hms, PgI.intro g' _ _ gn _ (dn ++ [x]) wt (cw + 1) ck c r tc tr rfl hbn SO D B X T (pg_fr F3 rfl rfl rfl rfl rfl rfl ?e0) ?N9 ?A9 ?ok9 PS ?pf9 rfl⟩
        case e0 =>
          intro z h0 h1 h2 h3 h4 h5 h6
          exact ch_offb (l := [.one _ _, .one _ _, .one _ _, .one _ _, .many _ _, .one _ _, .one _ _, .one _ _, .one _ _, .one _ _, .one _ _]) (m := fun _ => none) [[Str.ofString "size"], [Str.ofString "start"], [Str.ofString "lead"], [Str.ofString "above"], [Str.ofString "above", Str.ofString "lead", Str.ofString "start", Str.ofString "size", Str.ofString "sizes", Str.ofString "part", Str.ofString "number", Str.ofString "run", Str.ofString "below"], [Str.ofString "waiting"], [Str.ofString "kept"], [Str.ofString "page"], [Str.ofString "base"], [Str.ofString "runs"], [Str.ofString "cuts"]] (notin6 h0 h1 h2 h3 h4 h5 h6) rfl (by decide +kernel)
        case N9 =>
          intro q hq
          rw [eV] at hq
          exact N3 q ((PD _ _).mem_iff.mpr hq)
        case A9 =>
          rw [eV]
          have := apt_perm PW2 (PD _ _)
          unfold AptAll at this ⊢
          simp only [ledOf, List.map_cons] at this ⊢
          exact this
        case ok9 =>
          intro y hy
          refine ok y ?_
          rw [List.append_assoc] at hy
          exact hy
        case pf9 =>
          rw [List.append_assoc]
          exact hpf

end
-- WALK
section
open PySem PySem.Spec PySem.W PyProof.Rows PySem.Calls PyProof.V
noncomputable def toldL (ps : List (Addr × Nd)) : Ledger := ps.map fun q => (q.1, tupO [.str q.2.R.tag q.2.R.tt, .ref q.2.R.at_])
noncomputable def toldV (ps : List (Addr × Nd)) : List Value := ps.map fun q => .ref q.1
noncomputable def rowOf (pf : Addr) (dn : List Nd) : List Value := (Value.ref pf :: dn.flatMap fun x => x.items.toList).drop dn.length
theorem row_cons {bs cuts runs c r : Int} {dn wt : List Nd} {x P0 : Nd} {rest : List Nd} (P : PgPure bs cuts runs (dn ++ x :: wt) [] c r) (h0 : dn ++ x :: wt = P0 :: rest) : ∃ tl, rowOf P0.R.f dn = .ref x.R.f :: tl ∧ tl ++ x.items.toList = rowOf P0.R.f (dn ++ [x]) := by
  have hk := P.kids
  rw [List.append_nil] at hk
  have hb := P.bfs dn.length (by rw [List.length_append, List.length_cons]; omega)
  rw [List.take_left, sum_sizes] at hb
  have e1 : (Value.ref P0.R.f :: dn.flatMap fun x => x.items.toList) ++ ((x :: wt).flatMap fun x => x.items.toList) = (dn ++ x :: wt).map fun (y : Nd) => Value.ref y.R.f := by
    rw [List.cons_append, ← List.flatMap_append, hk, h0]
    rfl
  have hlt : dn.length < (Value.ref P0.R.f :: dn.flatMap fun x => x.items.toList).length := by
    rw [List.length_cons]
    omega
  have e2 : (Value.ref P0.R.f :: dn.flatMap fun x => x.items.toList)[dn.length]? = some (.ref x.R.f) := by
    have := congrArg (fun l => l[dn.length]?) e1
    skip
    rw [List.getElem?_append_left hlt] at this
    rw [this, List.getElem?_map, List.getElem?_append_right (Nat.le_refl _), Nat.sub_self]
    rfl
  first | ((first | refine el_0_2 (List.getElem?_eq_some_iff.mp e2) ?_ | refine el_1_1 (List.getElem?_eq_some_iff.mp e2) ?_); intro h1 e3) | obtain ⟨h1, e3⟩ := List.getElem?_eq_some_iff.mp e2
  refine ⟨(Value.ref P0.R.f :: dn.flatMap fun x => x.items.toList).drop (dn.length + 1), ?_, ?_⟩
  · unfold rowOf
    rw [List.drop_eq_getElem_cons h1, e3]
  · unfold rowOf
    rw [List.flatMap_append, List.length_append, List.length_singleton, ← List.cons_append, List.drop_append_of_le_length (by omega)]
    simp
theorem row_nil {bs cuts runs c r : Int} {dn : List Nd} {P0 : Nd} {rest : List Nd} (P : PgPure bs cuts runs dn [] c r) (h0 : dn = P0 :: rest) : rowOf P0.R.f dn = [] := by
  have hk := P.kids
  rw [List.append_nil] at hk
  unfold rowOf
  rw [hk, h0]
  simp
section
variable {prog : Program} {w : World} {A : Around} {E : Value → Shared → Prop} {s : Shared} {h₀ : Heap} {L D b : Addr} {m : Str → Option Value} {news : Ledger} {G : Obj → Ledger}
theorem ext_L {as : List Value} {its2 : Array Value} {n n2 : Nat} {Q : Value → Shared → Prop} (F : Fr h₀ L s.heap m) (N : News h₀ L s.heap news) (hb : (b, listOf its2 n2) ∈ news) (U : UpdF D (listOf (List.toArray as) n) news G) (hz : as.length + its2.size ≤ 100)
    (h : ∀ h' n', Fr h₀ L h' m → News h₀ L h' (G (listOf (List.toArray (as ++ its2.toList)) n')) → Q .none { s with heap := h' }) : wpAny (model prog w) A (call (.builtin "list.extend") [.ref D, .ref b]) Q E s := by
  have UU : ∀ o', Upd D (listOf (List.toArray as) n) o' news (G o') := fun o' => by
    clear F N hb h
    induction U with
    | head h => exact .head h
    | tail h _ ih => exact .tail h ih
  have hd : ¬(!(List.toArray as).isEmpty && Builtin.List.listTooLong ((List.toArray as).size + its2.size)) = true := by
    intro q
    rw [Bool.and_eq_true] at q
    have q2 := q.2
    unfold Builtin.List.listTooLong at q2
    rw [sizeLine_eq] at q2
    simp at q2
    omega
  have z1 : (List.toArray as).toList.length ≤ sizeLine := by
    rw [sizeLine_eq]
    show as.length ≤ _
    omega
  have z2 : (List.toArray as).size + its2.size ≤ sizeLine + 1 := by
    rw [sizeLine_eq, List.size_toArray]
    omega
  by_cases e0 : its2.toList = []
  · refine kxn_extend F N hb e0 (UU _) hd z1 z2 fun h' F' N' => h h' n F' ?_
    rw [e0, List.append_nil]
    exact N'
  · exact kl_extend (l := as ++ its2.toList) F N hb rfl (fun q => e0 (List.length_eq_zero_iff.mp q)) (UU _) hd z1 z2 fun h' F' N' => h h' (n + 1) F' N'
end
theorem walk_perm (T rl tl f D Ap c Pt at_ W : Addr × Obj) (K TL DN WT : Ledger) : (T :: rl :: tl :: f :: D :: Ap :: c :: Pt :: at_ :: W :: (K ++ (TL ++ (DN ++ WT)))).Perm (rl :: tl :: ((TL ++ [T]) ++ (DN ++ ((f :: D :: Ap :: c :: Pt :: at_ :: W :: K) ++ WT)))) :=
  Rf.perm (x := _) (l := [_, _, _, _, _, _, _, _, _]) (r := [_, _, _, _]) (.cons 0 (.cons 1 (.cons 2 (.cons 3 (.cons 4 (.cons 5 (.cons 6 (.cons 7 (.cons 8 (.cons 9 (.app (.leaf 0) (.app (.leaf 1) (.app (.leaf 2) (.leaf 3)))))))))))))) (.cons 1 (.cons 2 (.app (.app (.leaf 1) (.cons 0 .nil)) (.app (.leaf 2) (.app (.cons 3 (.cons 4 (.cons 5 (.cons 6 (.cons 7 (.cons 8 (.cons 9 (.leaf 0)))))))) (.leaf 3)))))) (by decide)
noncomputable def WkInv (g : Heap) (s : Shared) (Lf rl tl : Addr) (nodes : List Nd) (pf : Addr) (n : Nat) (s' : Shared) : Prop :=
  ∃ (h' : Heap) (tk : Nat) (u : Str → Option Value) (dn wt : List Nd) (ps : List (Addr × Nd)) (cr ct : Nat),
    s' = { s with heap := h', toks := tk } ∧ nodes = dn ++ wt ∧ ps.map (·.2) = dn ∧
    Fr g Lf h' (fun y => if y ∈ [Str.ofString "one"] then u y else if y = Str.ofString "row" then some (Value.ref rl) else if y = Str.ofString "told" then some (Value.ref tl) else if y = Str.ofString "page" then some (Value.ref pf) else none) ∧
    News g Lf h' ((rl, listOf (List.toArray (rowOf pf dn)) cr) :: (tl, listOf (List.toArray (toldV ps)) ct) :: (toldL ps ++ nodes.flatMap Nd.led)) ∧ AptAll ((rl, listOf (List.toArray (rowOf pf dn)) cr) :: (tl, listOf (List.toArray (toldV ps)) ct) :: (toldL ps ++ nodes.flatMap Nd.led)) ∧ n = wt.length
theorem walk_ok (w : World) (p : Program) (loose : List Str) (mean : ExcName → Option Value) (mg mb : Str → Option Value) (nodes : List Nd) {bs cuts runs c r : Int} (PP : PgPure bs cuts runs nodes [] c r) (k2 : Addr) (ok : ∀ x ∈ nodes, x.Ok w p loose mean mg mb k2) (AN : AptAll (nodes.flatMap Nd.led)) (P0 : Nd) (rest : List Nd) (hn : nodes = P0 :: rest) :
    HSpec 6 w p loose mean mg mb 165 [.ref P0.R.f] [] (nodes.flatMap Nd.led) (fun tl upd r => ∃ (t0 : Addr) (c0 : Nat) (ps : List (Addr × Nd)), r = .ref t0 ∧ ps.map (·.2) = nodes ∧ tl = (t0, listOf (List.toArray (toldV ps)) c0) :: toldL ps ∧ upd = nodes.flatMap Nd.led) := by
  intro dp un gd cn cs L a ccd cl outer base g s Q E B H hz X T hk hdp hun hret
  w_on
  generalize hNL : nodes.flatMap Nd.led = NL at *
  k_dflt refine' h_enter (binds := [(Str.ofString "page", .ref P0.R.f)]) ?k1 ?k2 ?k3 ?k4 ?k5 ?k6 ?k7 ?k8 ?k9 ?kB ?_ ?c2 ?c3 ?c4 ?c5
  ((case k1 => assumption); (case k2 => assumption); (case k3 => assumption); (case k4 => assumption); (case k5 => assumption); (case k6 => k_is); (case k7 => k_is); (case k8 => ktr_room); (case k9 => exact BindsTo.of_eq rfl); (case c2 => decide); (case kB => exact locs rfl); (case c3 => exact rfl); (case c4 => exact rfl); (case c5 => exact rfl); k_whole; intro L' h' F' N' z' l1; (try k_lt l1); (simp only [List.reverse_cons, List.reverse_nil, List.nil_append, List.cons_append, lookup_if, lookup_no] at F'); revert L' h' F' N' z' l1; intros; (try dsimp only); (try k_unmd); (try k_fold); (try (refine let_A ?_; intro _; refine let_env ?_; intro _)))
  (try k_unmd); (try k_fold); repeat' (first | ((fail_if_success (fail_if_success (with_reducible show wpAny _ _ (exec (Stmt.While _ _ _ _) _) _ _ _))); refine stop_of ?_) | walk_at "S1")
  unfold Stop
  rename Fr _ _ _ _ => F1
  rename News _ _ _ _ => N1
  rename_i Lf j1 j2 j3 aA aE tl0 j4 lA j5 rl0 j6 lB h7
  have wtl : nodes.length ≤ 9 := by
    have := PP.total
    rwa [List.append_nil] at this
  have hkids := PP.kids
  rw [List.append_nil] at hkids
  refine wpAny_While (while_go (WkInv g s Lf rl0 tl0 nodes P0.R.f) ?turn nodes.length ?init)
  case init =>
    refine ⟨h7, _, fun _ => none, [], nodes, [], 0, 0, rfl, rfl, rfl, ?F, ?N, ?A, rfl⟩
    case F =>
      refine fr_congr F1 fun z => ?_
      by_cases hz : z ∈ [Str.ofString "one"]
      · rw [if_pos hz, List.mem_singleton.mp hz]
        rfl
      · rw [if_neg hz]
    case N =>
      rw [hNL]
      exact N1
    case A =>
      rw [hNL]
      exact apt_fresh (show AllLt rl0 ((tl0, listOf (List.toArray (toldV [])) 0) :: NL) from lB) (apt_fresh (allLt_of lA) AN)
  case turn =>
    clear F1 N1 lA lB j1 j2 j3 j4 j5 j6 h7 H
    first | (intro n s' zq1; (try k_unmd); (try (first | (with_reducible refine fold_comp ?_; intro XL YL ZL) | (with_reducible refine fold_for ?_; intro QL EL) | (with_reducible refine fold_while ?_; intro QL RL EL) | k_fold)); (first | refine el_0_15 (zq1) ?_ | refine el_1_14 (zq1) ?_ | refine el_2_13 (zq1) ?_ | refine el_3_12 (zq1) ?_ | refine el_4_11 (zq1) ?_ | refine el_5_10 (zq1) ?_ | refine el_6_9 (zq1) ?_ | refine el_7_8 (zq1) ?_ | refine el_8_7 (zq1) ?_ | refine el_9_6 (zq1) ?_ | refine el_10_5 (zq1) ?_ | refine el_11_4 (zq1) ?_ | refine el_12_3 (zq1) ?_); (try clear zq1); intro h' tk u dn wt ps cr ct zq2 hdw hps F N PW zq3; subst zq2; subst zq3) | rintro n s' ⟨h', tk, u, dn, wt, ps, cr, ct, rfl, hdw, hps, F, N, PW, rfl⟩
    cases wt with
    | nil =>
      rw [List.append_nil] at hdw
      subst hdw
      rw [row_nil PP hn] at N PW
      rw [hNL] at N PW
      (try k_unmd); (try k_fold); repeat' (walk_at "S1")
      try dsimp only
      rename Fr _ _ _ _ => F2
      rename News _ _ _ _ => N2
      have dis := apt_split (a := (tl0, listOf (List.toArray (toldV ps)) ct) :: toldL ps) (b := NL) (apt_cons PW).2
      exact h_leave ((tl0, listOf (List.toArray (toldV ps)) ct) :: toldL ps) NL hret F2 N2 (fun q hq => List.mem_cons_of_mem _ hq) rfl (fun q hq q' hq' => (dis q' hq' q hq).symm) (apt_left (a := (tl0, listOf (List.toArray (toldV ps)) ct) :: toldL ps) (b := NL) (apt_cons PW).2) ⟨tl0, ct, ps, rfl, hps, rfl, rfl⟩
    | cons x wt =>
      have PP' := PP
      rw [hdw] at PP'
      first | ((first | refine el_0_3 (row_cons PP' (hdw ▸ hn)) ?_ | refine el_1_2 (row_cons PP' (hdw ▸ hn)) ?_ | refine el_2_1 (row_cons PP' (hdw ▸ hn)) ?_); intro rt er er2) | obtain ⟨rt, er, er2⟩ := row_cons PP' (hdw ▸ hn)
      rw [er] at N PW
      have lp := led_perm dn x wt
      have okx := ok x (by rw [hdw]; exact List.mem_append_right _ (.head _))
      have hPd := okx.ok.dict
      have PQ : ((toldL ps ++ nodes.flatMap Nd.led)).Perm (x.led ++ (toldL ps ++ (dn ++ wt).flatMap Nd.led)) := by
        rw [hdw]
        exact (lp.append_left _).trans (List.perm_append_comm_assoc _ _ _)
      have N2 : News g Lf h' _ := fun q hq => N q (((PQ.cons _).cons _).mem_iff.mpr hq)
      have PW2 := apt_perm PW ((PQ.cons _).cons _)
      unfold Nd.led at N2 PW2
      simp only [List.cons_append] at N2 PW2
      generalize hrest : x.K ++ (toldL ps ++ List.flatMap _ (dn ++ wt)) = rest' at N2 PW2
      clear N PW
      have hfl : ((dn ++ [x]).flatMap fun x => x.items.toList).length ≤ 9 := by
        have q1 := congrArg List.length hkids
        rw [hdw, show dn ++ x :: wt = (dn ++ [x]) ++ wt by simp, List.flatMap_append, List.length_append, List.length_map, List.length_tail] at q1
        rw [hdw, show dn ++ x :: wt = (dn ++ [x]) ++ wt by simp] at wtl
        omega
      have hrl : rt.length + 1 + x.items.size ≤ 20 := by
        have q2 := congrArg List.length er2
        unfold rowOf at q2
        rw [List.length_append, List.length_drop, List.length_cons] at q2
        have q3 := Nat.sub_le (((dn ++ [x]).flatMap fun (x : Nd) => x.items.toList).length + 1) (dn ++ [x]).length
        have q4 : x.items.toList.length = x.items.size := rfl
        rw [q4] at q2
        rw [← q2] at q3
        omega
      have hwl : (Value.ref x.R.f :: rt).length ≤ 1000 := by
        rw [List.length_cons]
        omega
      have hxt : rt.length + x.items.size ≤ 100 := by omega
      have hz2 : (List.toArray (toldV ps)).size ≤ sizeLine := by
        have q1 := congrArg List.length hps
        rw [List.length_map] at q1
        rw [hdw, List.length_append] at wtl
        rw [List.size_toArray, sizeLine_eq]
        unfold toldV
        rw [List.length_map]
        omega
      first | ((first | refine el_0_2 (apt_cons PW2) ?_ | refine el_1_1 (apt_cons PW2) ?_); intro ar P1) | obtain ⟨ar, P1⟩ := apt_cons PW2
      first | ((first | refine el_0_2 (apt_cons P1) ?_ | refine el_1_1 (apt_cons P1) ?_); intro at0 P2) | obtain ⟨at0, P2⟩ := apt_cons P1
      have r1 : @Ne Nat tl0 rl0 := ar (tl0, _) (.head _)
      have r2 : @Ne Nat x.R.f rl0 := ar (x.R.f, _) (.tail _ (.head _))
      have s2 : @Ne Nat x.R.f tl0 := at0 (x.R.f, _) (.head _)
      have r3 : @Ne Nat x.R.D rl0 := ar (x.R.D, _) (.tail _ (.tail _ (.head _)))
      have s3 : @Ne Nat x.R.D tl0 := at0 (x.R.D, _) (.tail _ (.head _))
      have r4 : @Ne Nat x.R.Ap rl0 := ar (x.R.Ap, _) (.tail _ (.tail _ (.tail _ (.head _))))
      have s4 : @Ne Nat x.R.Ap tl0 := at0 (x.R.Ap, _) (.tail _ (.tail _ (.head _)))
      have r5 : @Ne Nat x.R.c rl0 := ar (x.R.c, _) (.tail _ (.tail _ (.tail _ (.tail _ (.head _)))))
      have s5 : @Ne Nat x.R.c tl0 := at0 (x.R.c, _) (.tail _ (.tail _ (.tail _ (.head _))))
      have r6 : @Ne Nat x.R.Pt rl0 := ar (x.R.Pt, _) (.tail _ (.tail _ (.tail _ (.tail _ (.tail _ (.head _))))))
      have s6 : @Ne Nat x.R.Pt tl0 := at0 (x.R.Pt, _) (.tail _ (.tail _ (.tail _ (.tail _ (.head _)))))
      have r7 : @Ne Nat x.R.at_ rl0 := ar (x.R.at_, _) (.tail _ (.tail _ (.tail _ (.tail _ (.tail _ (.tail _ (.head _)))))))
      have s7 : @Ne Nat x.R.at_ tl0 := at0 (x.R.at_, _) (.tail _ (.tail _ (.tail _ (.tail _ (.tail _ (.head _))))))
      have r8 : @Ne Nat x.W rl0 := ar (x.W, _) (.tail _ (.tail _ (.tail _ (.tail _ (.tail _ (.tail _ (.tail _ (.head _))))))))
      have s8 : @Ne Nat x.W tl0 := at0 (x.W, _) (.tail _ (.tail _ (.tail _ (.tail _ (.tail _ (.tail _ (.head _)))))))
      have r9 : ∀ q ∈ rest', q.1 ≠ rl0 := fun q hq => ar q (.tail _ (.tail _ (.tail _ (.tail _ (.tail _ (.tail _ (.tail _ (.tail _ hq))))))))
      have s9 : ∀ q ∈ rest', q.1 ≠ tl0 := fun q hq => at0 q (.tail _ (.tail _ (.tail _ (.tail _ (.tail _ (.tail _ (.tail _ hq)))))))
      clear ar at0 P1 P2
      (try k_unmd); (try k_fold); repeat' (first | ((fail_if_success (fail_if_success (with_reducible show wpAny _ _ (truthy (Value.ref _)) _ _ _))); (with_reducible show wpAny _ _ (truthy (Value.ref _)) _ _ _); k_dflt (refine' truthy_cons ?y9N ?y9m ?y9z ?_; (case y9N => k_asm); (case y9m => k_mem); (case y9z => with_reducible assumption); k_whole)) | ((fail_if_success (fail_if_success (with_reducible show wpAny _ _ (call (Value.builtin "list.pop") _ _) _ _ _))); dsimp only [List.nil_append, List.cons_append]; k_dflt ((with_reducible show wpAny _ _ (call (Value.builtin _) [Value.ref _, Value.int _ _]) _ _ _); refine' pop0 ?y9F ?y9N ?y9U ?y9z ?_; (case y9F => k_asm); (case y9N => k_asm); (case y9U => k_upd); (case y9z => with_reducible assumption); k_whole); intro _ _ _; (try k_sweep)) | ((fail_if_success (fail_if_success (with_reducible show wpAny _ _ (getAttr (Value.ref _) _ _) _ _ _))); k_dflt (refine' fnK_load ?y9F ?y9N ?y9hf ?y9hD ?y9n ?y9v ?y9mi ?y9hh ?_; (case y9F => k_asm); (case y9N => k_asm); (case y9hf => k_mem); (case y9hD => k_mem); (case y9n => assumption); (case y9v => exact rfl); (case y9mi => exact am_miss_of_fast (by kernel_rfl)); (case y9hh => exact rfl); k_whole; intro _; (try dsimp only))) | ((fail_if_success (fail_if_success (with_reducible show wpAny _ _ (call (Value.builtin "list.extend") _ _) _ _ _))); dsimp only [List.nil_append, List.cons_append]; (with_reducible show wpAny _ _ (call (Value.builtin _) [Value.ref _, Value.ref _]) _ _ _); k_dflt (refine' ext_L ?y9F ?y9N ?y9b ?y9U ?y9z ?_; (case y9F => k_asm); (case y9N => k_asm); (case y9b => k_mem); (case y9U => k_updF); (case y9z => with_reducible assumption)); intro h' n' F' N'; (try dsimp only at N'); revert h' n' F' N'; intros; (try k_sweep)) | ((fail_if_success (fail_if_success (with_reducible show wpAny _ _ (call (Value.builtin "list.append") _ _) _ _ _))); dsimp only [List.nil_append, List.cons_append]; (with_reducible show wpAny _ _ (call (Value.builtin _) [Value.ref _, _]) _ _ _); k_dflt (refine' append_K ?y9k1 ?y9k2 ?y9k3 ?_ ?y9z; (case y9k1 => k_asm); (case y9k2 => k_asm); (case y9k3 => k_upd); (case y9z => size_fits); k_whole); intro _ _ _; (try k_sweep)) | walk_at "S1")
      rename Fr _ _ _ _ => F3
      rename News _ _ _ _ => N3
      rename_i n3 _ _ T h9 lT h10
      rw [List.push_toArray] at N3
      have eV : toldV (ps ++ [(T, x)]) = toldV ps ++ [Value.ref T] := by simp [toldV]
      have eT : toldL (ps ++ [(T, x)]) = toldL ps ++ [(T, tupO [.str x.R.tag x.R.tt, .ref x.R.at_])] := by simp [toldL]
      have PX := walk_perm (T, tupO [.str x.R.tag x.R.tt, .ref x.R.at_]) (rl0, listOf (List.toArray (rowOf P0.R.f (dn ++ [x]))) n3) (tl0, listOf (List.toArray (toldV (ps ++ [(T, x)]))) (ct + 1)) (x.R.f, x.R.fo) (x.R.D, x.R.oD) (x.R.Ap, x.R.oAp) (x.R.c, x.R.oc) (x.R.Pt, listOf x.items x.n) (x.R.at_, x.oAt) (x.W, x.oW) x.K (toldL ps) (dn.flatMap Nd.led) (wt.flatMap Nd.led)
      have eL : nodes.flatMap Nd.led = dn.flatMap Nd.led ++ (((x.R.f, x.R.fo) :: (x.R.D, x.R.oD) :: (x.R.Ap, x.R.oAp) :: (x.R.c, x.R.oc) :: (x.R.Pt, listOf x.items x.n) :: (x.R.at_, x.oAt) :: (x.W, x.oW) :: x.K) ++ wt.flatMap Nd.led) := by
        rw [hdw, List.flatMap_append, List.flatMap_cons]
        rfl
      have hrest' : rest' = x.K ++ (toldL ps ++ (dn.flatMap Nd.led ++ wt.flatMap Nd.led)) := by
        rw [← hrest, ← List.flatMap_append]
        rfl
      rw [← eT, ← eL] at PX
      rw [hrest', er2, ← eV] at N3
      rw [hrest'] at PW2 lT
      show ∃ m, m < _ ∧ WkInv _ _ _ _ _ _ _ m _
      refine ⟨wt.length, Nat.lt_succ_self _, _, _, fun y => some (.ref x.R.f), dn ++ [x], wt, ps ++ [(T, x)], n3, ct + 1, rfl, by rw [hdw]; simp, by rw [List.map_append, hps]; rfl, fr_congr F3 fun z => ?_, fun q hq => N3 q (PX.mem_iff.mpr hq), ?_, rfl⟩
      · by_cases hz : z = Str.ofString "one"
        · rw [hz]; rfl
        · simp only [List.mem_singleton, if_neg hz]
      · refine apt_perm ?_ PX
        have A1 := apt_fresh (T := T) (o := tupO [.str x.R.tag x.R.tt, .ref x.R.at_]) (l := (rl0, listOf (List.toArray (Value.ref x.R.f :: rt)) cr) :: (tl0, listOf (List.toArray (toldV ps)) ct) :: (x.R.f, x.R.fo) :: (x.R.D, x.R.oD) :: (x.R.Ap, x.R.oAp) :: (x.R.c, x.R.oc) :: (x.R.Pt, listOf x.items x.n) :: (x.R.at_, x.oAt) :: (x.W, x.oW) :: (x.K ++ (toldL ps ++ (dn.flatMap Nd.led ++ wt.flatMap Nd.led)))) (by simp only [AllLt]; exact lT) PW2
        unfold AptAll at A1 ⊢
        simp only [List.map_cons] at A1 ⊢
        exact A1

end
-- LAWB
section
open PySem PySem.Spec PySem.W PyProof.Rows PySem.Calls PyProof.V
noncomputable def lawDef : Stmt := (PySem.Challenge.pw_xb0026_01.main.body.getLast?).getD (.Pass ⟨0, 0, 0, 0⟩)
noncomputable def lawBody : List Stmt := match lawDef with
  | .FunctionDef _ _ b _ _ _ _ _ _ _ => b
  | _ => []
noncomputable def lawScope : Scope := match lawDef with
  | .FunctionDef _ _ _ _ _ _ s _ _ _ => s
  | _ => default
noncomputable abbrev lawEnv (L a : Addr) (ccd : Value) : Env := envOfC (Str.ofString "law") lawScope L a ccd
section
variable {prog : Program} {w : World} {A : Around} {E : Value → Shared → Prop} {s : Shared} {env : Env} {h₀ : Heap} {target iter : Expr} {body orelse : List Stmt} {pos : Pos} {Q : Flow → Shared → Prop}
/-- over a range of small ints that goes up by two -/
theorem for_range2 {α : Type} {r : Addr} {a0 b0 : Int} {t1 t2 t3 : Tok} {n : Nat} {m₀ : Str → Option Value} (xs : List Str) (lit : α → Ledger) (mm : α → Str → Option Value) (P : Nat → α → Ledger → Prop) (a₀ : α) (rest₀ : Ledger)
    (hE : PassesOwn (model prog w) A env E) (hh : A.handled = none) (F : Fr h₀ env.locals s.heap m₀) (N : News h₀ env.locals s.heap (lit a₀ ++ rest₀)) (hr : IsRange s.heap r a0 b0 2 t1 t2 t3) (hsmall : Builtin.Range.small a0 b0 2 = true) (hn : Builtin.Range.rangeSize a0 b0 2 = (n : Int))
    (hm : ∀ z, z ∉ xs → m₀ z = mm a₀ z) (hP : P 0 a₀ rest₀)
    (turn : ∀ I (i : Nat) ut a rest (u : Str → Option Value) h tk oI, i < n → P i a rest → (∀ p ∈ lit a ++ rest, Apt p.1 I) → Fr h₀ env.locals h (fun z => if z ∈ xs then u z else mm a z) → News h₀ env.locals h (lit a ++ (rest ++ [(I, oI)])) →
      wpAny (model prog w) A (assign target env (.int (a0 + (i : Int) * 2) ut)) (fun _ s₂ => wpAny (model prog w) A (execs body env) (LS h₀ env.locals I oI xs lit mm (P (i + 1)) { s with heap := h, toks := tk } Q) E s₂) E { s with heap := h, toks := tk })
    (done : ∀ a rest (u : Str → Option Value) h tk, P n a rest → Fr h₀ env.locals h (fun z => if z ∈ xs then u z else mm a z) → News h₀ env.locals h (lit a ++ rest) → wpAny (model prog w) A (execs orelse env) Q E { s with heap := h, toks := tk })
    (ht : ∀ it v, letOwnedTupleGo target it v = pure () := by intro _ _; rfl) :
    wpAny (model prog w) A (pyIter (.ref r)) (fun it s₂ => ForGo prog w A env target body orelse Q E it s₂) E s := by
  refine wpAny_pyIter_range hr hsmall ?_
  refine for_led (s := { s with heap := _ }) (side := []) xs lit mm P a₀ rest₀ (Walks.range hh s.heap.objs.size a0 2 n) ?_ (fun i h st => ⟨_, st⟩)
    (Heap.get?_none_of_le (Nat.le_trans F.above (Nat.le_of_lt F.ns.lt))) (Nat.ne_of_gt F.ns.lt) (F.push _) (fun p hp => ⟨Heap.get?_push_of_some _ (N p hp).1, (N p hp).2⟩) (fun p hp => Apt.lt (Heap.lt_size (N p hp).1)) hm hP hE
    (fun i a rest h m hP F N p hp => nomatch hp) ?_ done (ht _)
  · have e : a0 + ((0 : Nat) : Int) * 2 = a0 := by omega
    have e2 : (n : Int) - ((0 : Nat) : Int) = Builtin.Range.rangeSize a0 b0 2 := by rw [hn]; omega
    show IsRangeIter _ _ (a0 + ((0 : Nat) : Int) * 2) ((n : Int) - ((0 : Nat) : Int)) 2
    rw [e, e2]
    exact Heap.get?_push_size _ rfl
  · first | (intro i v a rest u h tk oI hi zq1 hP hI F' N'; (first | refine el_0_2 (zq1) ?_ | refine el_1_1 (zq1) ?_); (try clear zq1); intro ut zq2; subst zq2) | rintro i v a rest u h tk oI hi ⟨ut, rfl⟩ hP hI F' N'
    exact turn _ i ut a rest u h tk oI hi hP hI F' N'
end
noncomputable def inSet (n : Int) (u : Nat) : Bool := decide (Builtin.bitAnd (n.fdiv (2 ^ (0 + (u : Int)).toNat)) 1 ≠ 0)
noncomputable def insTo (n : Int) (j : Nat) : List Int := ((List.range j).filter (inSet n)).map fun (u : Nat) => 0 + (u : Int)
noncomputable def outTo (ins : List Int) (j : Nat) : List Int := ((List.range j).map fun (u : Nat) => 0 + (u : Int)).filter fun v => !(ins.any (· == v))
noncomputable def quadD (W : Int → Int → Int) (a c b d : Int) : Int := W a b + W c d - W a c - W b d
noncomputable def quadB (W : Int → Int → Int) (outs : List Int) (a c b : Int) : List Int := outs.map (quadD W a c b)
noncomputable def quadC (W : Int → Int → Int) (outs : List Int) (a c : Int) : List Int := outs.flatMap (quadB W outs a c)
noncomputable def quadA (W : Int → Int → Int) (ins outs : List Int) (a : Int) : List Int := ins.flatMap fun c => if a ≤ c then quadC W outs a c else []
noncomputable def quads (W : Int → Int → Int) (ins outs : List Int) : List Int := ins.flatMap (quadA W ins outs)
noncomputable def ownOf (wds : List Col) (n : Int) : List Int := (wds.filter fun x => [n, 31 - n].any (· == x.leaves)).map fun x => x.column
theorem insTo_succ (n : Int) (j : Nat) : insTo n (j + 1) = if inSet n j then insTo n j ++ [0 + (j : Int)] else insTo n j := by
  unfold insTo
  rw [List.range_succ, List.filter_append, List.map_append]
  by_cases h : inSet n j = true
  · simp [h]
  · simp [h]
theorem outTo_succ (ins : List Int) (j : Nat) : outTo ins (j + 1) = if ins.any (· == 0 + (j : Int)) then outTo ins j else outTo ins j ++ [0 + (j : Int)] := by
  unfold outTo
  rw [List.range_succ, List.map_append, List.filter_append, List.map_cons, List.map_nil, List.filter_cons, List.filter_nil]
  cases h : ins.any (· == 0 + (j : Int))
  · rfl
  · exact List.append_nil _
theorem insTo_mem {n : Int} {j : Nat} {v : Int} (h : v ∈ insTo n j) : 0 ≤ v ∧ v < j := by
  unfold insTo at h
  first | ((first | refine el_0_3 (List.mem_map.mp h) ?_ | refine el_1_2 (List.mem_map.mp h) ?_ | refine el_2_1 (List.mem_map.mp h) ?_); intro u hu zq3; subst zq3) | obtain ⟨u, hu, rfl⟩ := List.mem_map.mp h
  have := List.mem_range.mp (List.mem_filter.mp hu).1
  omega
theorem outTo_mem {ins : List Int} {j : Nat} {v : Int} (h : v ∈ outTo ins j) : 0 ≤ v ∧ v < j := by
  unfold outTo at h
  first | ((first | refine el_0_3 (List.mem_map.mp (List.mem_filter.mp h).1) ?_ | refine el_1_2 (List.mem_map.mp (List.mem_filter.mp h).1) ?_ | refine el_2_1 (List.mem_map.mp (List.mem_filter.mp h).1) ?_); intro u hu zq4; subst zq4) | obtain ⟨u, hu, rfl⟩ := List.mem_map.mp (List.mem_filter.mp h).1
  have := List.mem_range.mp hu
  omega
theorem quads_pos (W : Int → Int → Int) : ∀ k : Nat, k < 15 → 0 < (quads W (insTo (1 + (k : Int) * 2) 5) (outTo (insTo (1 + (k : Int) * 2) 5) 5)).length := by
  have hB : ∀ (V : Int → Int → Int) outs a c b, (quadB V outs a c b).length = outs.length := fun V outs a c b => by unfold quadB; rw [List.length_map]
  have hC : ∀ outs a c, (quadC W outs a c).length = (quadC (fun _ _ => 0) outs a c).length := fun outs a c => by unfold quadC; rw [List.length_flatMap, List.length_flatMap]; simp only [hB]
  have hA : ∀ ins outs a, (quadA W ins outs a).length = (quadA (fun _ _ => 0) ins outs a).length := fun ins outs a => by
    unfold quadA
    rw [List.length_flatMap, List.length_flatMap]
    congr 2
    funext c
    split
    · exact hC _ _ _
    · rfl
  have hQ : ∀ ins outs, (quads W ins outs).length = (quads (fun _ _ => 0) ins outs).length := fun ins outs => by unfold quads; rw [List.length_flatMap, List.length_flatMap]; simp only [hA]
  intro k hk
  rw [hQ]
  have : ∀ k : Fin 15, 0 < (quads (fun _ _ => 0) (insTo (1 + (k.val : Int) * 2) 5) (outTo (insTo (1 + (k.val : Int) * 2) 5) 5)).length := by decide +kernel
  exact this ⟨k, hk⟩
theorem ways_at {cols : List Col} {rows : List (Addr × List Value)} (hRows : RowsAre (wayRow cols) 5 rows) {x : Int} (hx : 0 ≤ x ∧ x < 5) :
    ∃ q ∈ rows, ((rows.map fun (q : Addr × List Value) => Value.ref q.1).reverse)[x.toNat]? = some (.ref q.1) ∧ ∀ y : Int, 0 ≤ y ∧ y < 5 → ∃ t, q.2[y.toNat]? = some (.int (wayOf cols x y) t) := by
  first | ((first | refine el_0_4 (rows_get hRows x.toNat (by omega)) ?_ | refine el_1_3 (rows_get hRows x.toNat (by omega)) ?_ | refine el_2_2 (rows_get hRows x.toNat (by omega)) ?_ | refine el_3_1 (rows_get hRows x.toNat (by omega)) ?_); intro q hq e hi) | obtain ⟨q, hq, e, hi⟩ := rows_get hRows x.toNat (by omega)
  refine ⟨q, hq, e, fun y hy => ?_⟩
  have ex : (0 + ((x.toNat : Nat) : Int)) = x := by omega
  have ey : (0 + ((y.toNat : Nat) : Int)) = y := by omega
  obtain ⟨t, ht⟩ := hi.get y.toNat (wayOf cols x y) (by
    unfold wayRow
    rw [List.getElem?_map, List.getElem?_range (by omega)]
    show some (wayOf cols (0 + ((x.toNat : Nat) : Int)) (0 + ((y.toNat : Nat) : Int))) = _
    rw [ex, ey])
  exact ⟨t, ht⟩
section
variable {prog : Program} {w : World} {A : Around} {E : Value → Shared → Prop} {s : Shared} {h₀ : Heap} {L l : Addr} {news : Ledger}
theorem notin_K {ys : List Value} {ns : List Int} {k : Int} {t : Tok} {Q : Value → Shared → Prop} (N : News h₀ L s.heap news) (hm : (l, LCg.lst ys) ∈ news) (hi : IntsAre ys ns) (h : Q (.bool (!(ns.any (· == k)))) s) :
    wpAny (model prog w) A (compareOp .NotIn (.int k t) (.ref l)) Q E s :=
  notin_list_ints ⟨_, (N _ hm).1, rfl, _, rfl⟩ hi h
end
theorem mem_swap3 {α : Type} {p a b c : α} {l : List α} (h : p ∈ a :: b :: c :: l) : p ∈ b :: c :: a :: l := by
  simp only [List.mem_cons] at h ⊢
  rcases h with h | h | h | h <;> simp only [h, true_or, or_true]
theorem mem_swap3' {α : Type} {p a b c : α} {l : List α} (h : p ∈ b :: c :: a :: l) : p ∈ a :: b :: c :: l := mem_swap3 (mem_swap3 h)
theorem ownOf_succ {wds : List Col} {n : Int} {k : Nat} {x : Col} (hx : wds[k]? = some x) : ownOf (wds.take (k + 1)) n = if [n, 31 - n].any (· == x.leaves) then ownOf (wds.take k) n ++ [x.column] else ownOf (wds.take k) n := by
  unfold ownOf
  rw [List.take_add_one, hx, Option.toList_some, List.filter_append, List.map_append, List.filter_cons, List.filter_nil]
  cases h : [n, 31 - n].any (· == x.leaves)
  · simp
  · simp
theorem apt_fst {I : Addr} {l l' : Ledger} (h : ∀ p ∈ l, Apt p.1 I) (e : l'.map Prod.fst = l.map Prod.fst) : ∀ p ∈ l', Apt p.1 I := fun p hp => by
  have : p.1 ∈ l.map Prod.fst := by rw [← e]; exact List.mem_map_of_mem hp
  first | ((first | refine el_0_3 (List.mem_map.mp this) ?_ | refine el_1_2 (List.mem_map.mp this) ?_ | refine el_2_1 (List.mem_map.mp this) ?_); intro q hq e') | obtain ⟨q, hq, e'⟩ := List.mem_map.mp this
  rw [← e']
  exact h q hq
theorem mem_end {α : Type} {p x y z a b c d e f g h i : α} {l : List α} (hp : p ∈ [a, b, c, d, e, f, g, h] ++ (l ++ [i])) : p ∈ x :: y :: z :: a :: b :: c :: d :: e :: f :: g :: h :: i :: l := by
  simp only [List.mem_cons, List.mem_append, List.not_mem_nil, or_false] at hp ⊢
  rcases hp with (q | q | q | q | q | q | q | q) | q | q <;> simp only [q, true_or, or_true]
theorem take_flatMap {α β : Type} {l : List α} {k : Nat} {x : α} (f : α → List β) (h : l[k]? = some x) : (l.take (k + 1)).flatMap f = (l.take k).flatMap f ++ f x := by
  rw [List.take_add_one, h, Option.toList_some, List.flatMap_append]
  simp
theorem take_map {α β : Type} {l : List α} {k : Nat} {x : α} (f : α → β) (h : l[k]? = some x) : (l.take (k + 1)).map f = (l.take k).map f ++ [f x] := by
  rw [List.take_add_one, h, Option.toList_some, List.map_append]
  rfl

end
-- LAWZ
section
open PySem PySem.Spec PySem.W PyProof.Rows PySem.Calls PyProof.V
theorem tail_ok (w : World) (p : Program) (loose : List Str) (mean : ExcName → Option Value) (mg mb : Str → Option Value) {A₀ : Around} {base g : Heap} {L a : Addr} {ccd : Value} {dp un : Nat} {gd : Option (List Code)} {s : Shared} {Q : Flow → Shared → Prop} {E : Value → Shared → Prop} {u0 : Str → Option Value}
    (B : Below A₀ base [] g) (X : (hd.heap_39 w.params).In g) (T : Top p loose mean mg mb g) (hdp : dp + 40 < recursionLimit) (hun : un + 800 < cLine) (hE : PassesOwn (model PySem.Challenge.pw_xb0026_01 w) (ktrTop dp un gd (Str.ofString "law") lawScope L a ccd (cellsFrom (L + 1) lawScope.names []) []) (lawEnv L a ccd) E)
    (wl : Addr) (cw : Nat) (wds cols : List Col) (D : Addr) (rows : List (Addr × List Value)) (ob ot oy os oi oo : Obj) (RS : Ledger)
    (hRows : RowsAre (wayRow cols) 5 rows)
    (F : Fr g L s.heap (fun y => if y = Str.ofString "widths" then some (Value.ref wl) else u0 y))
    (N : News g L s.heap ((L + 1 + 1 + 1 + 1 + 1 + 1, oo) :: (L + 1 + 1 + 1 + 1 + 1, oi) :: (L + 1 + 1 + 1 + 1, os) :: (L + 1 + 1 + 1, oy) :: (L + 1 + 1, ot) :: (L + 1, ob) :: (wl, listOf (List.toArray (wds.map fun x => Value.ref x.a)) cw) :: (D, LCg.lst (rows.map fun (q : Addr × List Value) => Value.ref q.1).reverse) :: RS))
    (PW : AptAll ((L + 1 + 1 + 1 + 1 + 1 + 1, oo) :: (L + 1 + 1 + 1 + 1 + 1, oi) :: (L + 1 + 1 + 1 + 1, os) :: (L + 1 + 1 + 1, oy) :: (L + 1 + 1, ot) :: (L + 1, ob) :: (wl, listOf (List.toArray (wds.map fun x => Value.ref x.a)) cw) :: (D, LCg.lst (rows.map fun (q : Addr × List Value) => Value.ref q.1).reverse) :: RS))
    (hrs : ∀ q ∈ rows, (q.1, LCg.lst q.2) ∈ RS) (hws : ∀ x ∈ wds, x.o ∈ RS) (hwl : wds.length ≤ 20)
    (hoo : ∃ v, CellO oo v) (hoi : ∃ v, CellO oi v) (hos : ∃ v, CellO os v) (hoy : oy.data = .cell (some (.ref D)))
    (pl : ∀ k : Nat, k < 15 → ∀ M : Int, M ∈ quads (wayOf cols) (insTo (1 + (k : Int) * 2) 5) (outTo (insTo (1 + (k : Int) * 2) 5) 5) → (∀ v ∈ quads (wayOf cols) (insTo (1 + (k : Int) * 2) 5) (outTo (insTo (1 + (k : Int) * 2) 5) 5), M ≤ v) → M ≠ 2 * (ownOf wds (1 + (k : Int) * 2)).sum → ownOf wds (1 + (k : Int) * 2) = [] ∧ M ≤ 0)
    (fin : ∀ h' tk m', Fr g L h' m' → Q (.ret (.bool true)) { s with heap := h', toks := tk }) :
    wpAny (model PySem.Challenge.pw_xb0026_01 w) (ktrTop dp un gd (Str.ofString "law") lawScope L a ccd (cellsFrom (L + 1) lawScope.names []) []) (execs (lawBody.drop 8) (lawEnv L a ccd)) Q E s := by
  first | ((first | refine el_0_2 (hoo) ?_ | refine el_1_1 (hoo) ?_); (try clear hoo); intro vo hoo) | obtain ⟨vo, hoo⟩ := hoo
  first | ((first | refine el_0_2 (hoi) ?_ | refine el_1_1 (hoi) ?_); (try clear hoi); intro vi hoi) | obtain ⟨vi, hoi⟩ := hoi
  first | ((first | refine el_0_2 (hos) ?_ | refine el_1_1 (hos) ?_); (try clear hos); intro vs hos) | obtain ⟨vs, hos⟩ := hos
  have hoo' : oo.data = .cell vo := hoo
  have hoi' : oi.data = .cell vi := hoi
  have hos' : os.data = .cell vs := hos
  w_on
  conv =>
    arg 3
    arg 1
    whnf
  unfold lawEnv at *
  conv in (occs := *) lawScope => all_goals whnf
  refine let_A ?_
  intro A9
  refine let_env ?_
  intro env9
  have q1 := apt_cons PW
  have q2 := apt_cons q1.2
  have q3 := apt_cons q2.2
  have q4 := apt_cons q3.2
  have n6 : ∀ q ∈ ((wl, listOf (List.toArray (wds.map fun x => Value.ref x.a)) cw) :: (D, LCg.lst (rows.map fun (q : Addr × List Value) => Value.ref q.1).reverse) :: RS), q.1 ≠ L + 1 + 1 + 1 + 1 + 1 + 1 := fun q hq => q1.1 q (.tail _ (.tail _ (.tail _ (.tail _ (.tail _ hq)))))
  have n5 : ∀ q ∈ ((wl, listOf (List.toArray (wds.map fun x => Value.ref x.a)) cw) :: (D, LCg.lst (rows.map fun (q : Addr × List Value) => Value.ref q.1).reverse) :: RS), q.1 ≠ L + 1 + 1 + 1 + 1 + 1 := fun q hq => q2.1 q (.tail _ (.tail _ (.tail _ (.tail _ hq))))
  have n4 : ∀ q ∈ ((wl, listOf (List.toArray (wds.map fun x => Value.ref x.a)) cw) :: (D, LCg.lst (rows.map fun (q : Addr × List Value) => Value.ref q.1).reverse) :: RS), q.1 ≠ L + 1 + 1 + 1 + 1 := fun q hq => q3.1 q (.tail _ (.tail _ (.tail _ hq)))
  clear q1 q2 q3 q4
  have w4 : @Ne Nat wl (L + 1 + 1 + 1 + 1) := n4 _ (.head _)
  have w5 : @Ne Nat wl (L + 1 + 1 + 1 + 1 + 1) := n5 _ (.head _)
  have w6 : @Ne Nat wl (L + 1 + 1 + 1 + 1 + 1 + 1) := n6 _ (.head _)
  have d4 : @Ne Nat D (L + 1 + 1 + 1 + 1) := n4 _ (.tail _ (.head _))
  have d5 : @Ne Nat D (L + 1 + 1 + 1 + 1 + 1) := n5 _ (.tail _ (.head _))
  have d6 : @Ne Nat D (L + 1 + 1 + 1 + 1 + 1 + 1) := n6 _ (.tail _ (.head _))
  have r4 : ∀ q ∈ RS, q.1 ≠ L + 1 + 1 + 1 + 1 := fun q hq => n4 q (.tail _ (.tail _ hq))
  have r5 : ∀ q ∈ RS, q.1 ≠ L + 1 + 1 + 1 + 1 + 1 := fun q hq => n5 q (.tail _ (.tail _ hq))
  have r6 : ∀ q ∈ RS, q.1 ≠ L + 1 + 1 + 1 + 1 + 1 + 1 := fun q hq => n6 q (.tail _ (.tail _ hq))
  clear n4 n5 n6 PW
  (try k_unmd); (try k_fold); repeat' (first | ((fail_if_success (fail_if_success (with_reducible show wpAny _ _ (exec (Stmt.For _ _ _ _ _) _) _ _ _))); (with_unfolding_all refine For_go ?_)) | walk_at "S1")
  rename IsRange _ _ _ _ _ _ _ _ => hR
  rename Fr _ _ _ _ => F1
  rename News _ _ _ _ => N1
  generalize hWO : listOf (List.toArray (wds.map fun x => Value.ref x.a)) cw = wO at *
  k_dflt refine' for_range2 (α := (Obj × Obj × Obj)) (n := 15) [Str.ofString "least", Str.ofString "own"] (fun q => [(L + 1 + 1 + 1 + 1 + 1 + 1, q.1), (L + 1 + 1 + 1 + 1 + 1, q.2.1), (L + 1 + 1 + 1 + 1, q.2.2), (L + 1 + 1 + 1, oy), (L + 1 + 1, ot), (L + 1, ob), (wl, wO), (D, LCg.lst (rows.map fun (q : Addr × List Value) => Value.ref q.1).reverse)]) (fun _ y => if y = Str.ofString "widths" then some (Value.ref wl) else u0 y) (fun i q rest => rest = RS ∧ (∃ v, CellO q.1 v) ∧ (∃ v, CellO q.2.1 v) ∧ (∃ v, CellO q.2.2 v)) (oo, oi, os) RS ?pas rfl F1 (fun p hp => N1 p (by simpa using hp)) hR (by decide +kernel) (by decide +kernel) (fun _ _ => rfl) ⟨rfl, ⟨_, hoo⟩, ⟨_, hoi⟩, ⟨_, hos⟩⟩ ?turn ?done
  case pas => exact hE
  case done =>
    first | (intro zq3 rest u h tk zq4 F2 N2; (try k_unmd); (try (first | (with_reducible refine fold_comp ?_; intro XL YL ZL) | (with_reducible refine fold_for ?_; intro QL EL) | (with_reducible refine fold_while ?_; intro QL RL EL) | k_fold)); (first | refine el_0_3 (zq3) ?_ | refine el_1_2 (zq3) ?_ | refine el_2_1 (zq3) ?_); (try clear zq3); intro o1 o2 o3; (first | refine el_0_4 (zq4) ?_ | refine el_1_3 (zq4) ?_ | refine el_2_2 (zq4) ?_ | refine el_3_1 (zq4) ?_); (try clear zq4); intro zq5 _ _ _; subst zq5) | rintro ⟨o1, o2, o3⟩ rest u h tk ⟨rfl, _, _, _⟩ F2 N2
    try dsimp only
    try k_fold
    (try k_unmd); (try k_fold); repeat' (walk_at "S1")
    try dsimp only
    exact fin _ _ _ F2
  case turn =>
    first | (intro I i ut zq6 rest u h tk oI hi zq7 hI F2 N2; (try k_unmd); (try (first | (with_reducible refine fold_comp ?_; intro XL YL ZL) | (with_reducible refine fold_for ?_; intro QL EL) | (with_reducible refine fold_while ?_; intro QL RL EL) | k_fold)); (first | refine el_0_3 (zq6) ?_ | refine el_1_2 (zq6) ?_ | refine el_2_1 (zq6) ?_); (try clear zq6); intro o1 o2 o3; (first | refine el_0_4 (zq7) ?_ | refine el_1_3 (zq7) ?_ | refine el_2_2 (zq7) ?_ | refine el_3_1 (zq7) ?_); (try clear zq7); intro zq8 zq9 zq10 zq11; subst zq8; (first | refine el_0_2 (zq9) ?_ | refine el_1_1 (zq9) ?_); (try clear zq9); intro v1 c1; (first | refine el_0_2 (zq10) ?_ | refine el_1_1 (zq10) ?_); (try clear zq10); intro v2 c2; (first | refine el_0_2 (zq11) ?_ | refine el_1_1 (zq11) ?_); (try clear zq11); intro v3 c3) | rintro I i ut ⟨o1, o2, o3⟩ rest u h tk oI hi ⟨rfl, ⟨v1, c1⟩, ⟨v2, c2⟩, ⟨v3, c3⟩⟩ hI F2 N2
    have c1' : o1.data = .cell v1 := c1
    have c2' : o2.data = .cell v2 := c2
    have c3' : o3.data = .cell v3 := c3
    clear c1 c2 c3 hoo hoi hos hoo' hoi' hos' F1 N1
    simp only [List.cons_append, List.nil_append] at N2 hI
    have i6 : @Ne Nat I (L + 1 + 1 + 1 + 1 + 1 + 1) := (hI _ (.head _)).ne'
    have i5 : @Ne Nat I (L + 1 + 1 + 1 + 1 + 1) := (hI _ (.tail _ (.head _))).ne'
    have i4 : @Ne Nat I (L + 1 + 1 + 1 + 1) := (hI _ (.tail _ (.tail _ (.head _)))).ne'
    have F3 : Fr g L h _ := F2
    have N3 : News g L h ((L + 1 + 1 + 1 + 1 + 1 + 1, o1) :: (L + 1 + 1 + 1 + 1 + 1, o2) :: (L + 1 + 1 + 1 + 1, o3) :: (L + 1 + 1 + 1, oy) :: (L + 1 + 1, ot) :: (L + 1, ob) :: (wl, wO) :: (D, LCg.lst (rows.map fun (q : Addr × List Value) => Value.ref q.1).reverse) :: (I, oI) :: rest) := fun p hp => N2 p (by
      exact Rf.sub (x := _) (l := [_, _, _, _, _, _, _, _]) (r := [_]) (.cons 0 (.cons 1 (.cons 2 (.cons 3 (.cons 4 (.cons 5 (.cons 6 (.cons 7 (.cons 8 (.leaf 0)))))))))) (.cons 0 (.cons 1 (.cons 2 (.cons 3 (.cons 4 (.cons 5 (.cons 6 (.cons 7 (.app (.leaf 0) (.cons 8 .nil)))))))))) (by decide) hp)
    clear F2 N2 hR
    repeat (rename_i zz; first | clear zz | revert zz)
    intros
    (try k_unmd); (try k_fold); repeat' (first | ((fail_if_success (fail_if_success (with_reducible show wpAny _ _ (eval (Expr.ListComp _ _ _ _) _) _ _ _))); k_dflt (refine comp_eval (by with_unfolding_all rfl) (by rfl) (by decide) ?_)) | walk_at "S1")
    rename IsRange _ _ _ _ _ _ _ _ => hR5
    rename Fr _ _ _ _ => F5
    rename News _ _ _ _ => N5
    first | ((first | refine el_0_3 (show ∃ nw, nw = _ ∧ News g _ _ nw from ⟨_, rfl, N5⟩) ?_ | refine el_1_2 (show ∃ nw, nw = _ ∧ News g _ _ nw from ⟨_, rfl, N5⟩) ?_ | refine el_2_1 (show ∃ nw, nw = _ ∧ News g _ _ nw from ⟨_, rfl, N5⟩) ?_); intro nw5 hnw5 N5') | obtain ⟨nw5, hnw5, N5'⟩ : ∃ nw, nw = _ ∧ News g _ _ nw := ⟨_, rfl, N5⟩
    k_dflt refine' comp_range0 (n := 5) nw5 (fun j ys => ys.length ≤ j ∧ IntsAre ys (insTo (1 + (i : Int) * 2) j)) rfl (by decide) rfl (by intro _ _ h; cases h) F5 (fun p hp => N5' p (by simpa using hp)) hR5 (by decide +kernel) (by decide +kernel) ⟨Nat.le_refl _, .nil⟩ ?turn1 ?done1
    case turn1 =>
      first | (intro I1 C1 D1 j vt ys h1 tk1 oI1 oC1 mC1 E1 hj zq12 hoff1 hIC1 hID1 hCD1 F6 N6 hC6; (try k_unmd); (try (first | (with_reducible refine fold_comp ?_; intro XL YL ZL) | (with_reducible refine fold_for ?_; intro QL EL) | (with_reducible refine fold_while ?_; intro QL RL EL) | k_fold)); (first | refine el_0_2 (zq12) ?_ | refine el_1_1 (zq12) ?_); (try clear zq12); intro hlen1 hi1) | rintro I1 C1 D1 j vt ys h1 tk1 oI1 oC1 mC1 E1 hj ⟨hlen1, hi1⟩ hoff1 hIC1 hID1 hCD1 F6 N6 hC6
      refine comp_name F6 N6 hC6 hIC1 (fun p hp => ?_) (by with_unfolding_all rfl) rfl ?_
      · rcases List.mem_cons.mp hp with rfl | hp
        · exact hCD1.sw
        · exact (hoff1 p hp).2.1
      intro h7 tk7 oC7 F7 N7 hC7
      first | ((first | refine el_0_3 (show ∃ m, m = _ ∧ LCg.NsObj oC7 m from ⟨_, rfl, hC7⟩) ?_ | refine el_1_2 (show ∃ m, m = _ ∧ LCg.NsObj oC7 m from ⟨_, rfl, hC7⟩) ?_ | refine el_2_1 (show ∃ m, m = _ ∧ LCg.NsObj oC7 m from ⟨_, rfl, hC7⟩) ?_); intro m7 hm7 hC7') | obtain ⟨m7, hm7, hC7'⟩ : ∃ m, m = _ ∧ LCg.NsObj oC7 m := ⟨_, rfl, hC7⟩
      clear hC7 N6 F6 hC6
      have hu7 : m7 (Str.ofString "u") = some (.int (0 + (j : Int)) vt) := by rw [hm7]; rfl
      clear hm7
      subst hnw5
      simp only [List.append_nil] at N7
      refine CompTests.one ?_
      refine restart (gn := s.gens) (s := s) F7 rfl rfl rfl rfl ?_
      intro tk8
      (try k_unmd); (try k_fold); repeat' (first | (first | refine CompEmit.last rfl ?_ | refine CompEmit.more rfl ?_) | walk_at "S1")
      · rename Fr _ _ _ _ => F9
        rename News _ _ _ _ => N9
        rename _ ≠ 0 => hb
        refine CE.intro ys () [] F9 N9 hC7' (fun p hp => by rw [List.append_nil] at hp; exact hp) trivial hoff1 (by rw [sizeLine_eq]; omega) ⟨rfl, ?l1, ?i1⟩
        case l1 =>
          rw [List.length_append, List.length_singleton]
          exact Nat.succ_le_succ hlen1
        case i1 =>
          have hbt : inSet (1 + (i : Int) * 2) j = true := decide_eq_true hb
          rw [insTo_succ, hbt, if_pos rfl]
          exact ints_snoc hi1
      · rename Fr _ _ _ _ => F9
        rename News _ _ _ _ => N9
        rename Builtin.bitAnd _ _ = 0 => hb
        refine CN.intro ys () [] F9 N9 hC7' (fun p hp => by rw [List.append_nil] at hp; exact hp) trivial hoff1 ⟨rfl, Nat.le_succ_of_le hlen1, ?i2⟩
        have hbf : inSet (1 + (i : Int) * 2) j = false := decide_eq_false (fun q => q hb)
        rw [insTo_succ, hbf]
        exact hi1
    case done1 =>
      intro C1 D1 oC1 mC1 ys h1 tk1 f1 hP1 hI1 hCD1 F6 N6 hC6
      first | ((first | refine el_0_2 (hP1) ?_ | refine el_1_1 (hP1) ?_); (try clear hP1); intro hlen1 hi1) | obtain ⟨hlen1, hi1⟩ := hP1
      refine' post_eval F6 N6 hC6 hCD1 (fun p hp => (hI1 p hp).1) ?_
      intro h2 F7 N7
      subst hnw5
      simp only [List.append_nil] at N7 hI1
      have e6 : @Ne Nat D1 (L + 1 + 1 + 1 + 1 + 1 + 1) := (hI1 _ (.head _)).2.ne'
      have e5 : @Ne Nat D1 (L + 1 + 1 + 1 + 1 + 1) := (hI1 _ (.tail _ (.head _))).2.ne'
      have e4 : @Ne Nat D1 (L + 1 + 1 + 1 + 1) := (hI1 _ (.tail _ (.tail _ (.head _)))).2.ne'
      clear N6 F6 hC6 F5 N5 N5' hR5
      refine restart (gn := s.gens) (s := s) F7 rfl rfl rfl rfl ?_
      intro tk3
      (try k_unmd); (try k_fold); repeat' (first | ((fail_if_success (fail_if_success (with_reducible show wpAny _ _ (eval (Expr.ListComp _ _ _ _) _) _ _ _))); k_dflt (refine comp_eval (by with_unfolding_all rfl) (by rfl) (by decide) ?_)) | walk_at "S1")
      rename IsRange _ _ _ _ _ _ _ _ => hR5
      rename Fr _ _ _ _ => F5
      rename News _ _ _ _ => N5
      first | ((first | refine el_0_3 (show ∃ nw, nw = _ ∧ News g _ _ nw from ⟨_, rfl, N5⟩) ?_ | refine el_1_2 (show ∃ nw, nw = _ ∧ News g _ _ nw from ⟨_, rfl, N5⟩) ?_ | refine el_2_1 (show ∃ nw, nw = _ ∧ News g _ _ nw from ⟨_, rfl, N5⟩) ?_); intro nw5 hnw5 N5') | obtain ⟨nw5, hnw5, N5'⟩ : ∃ nw, nw = _ ∧ News g _ _ nw := ⟨_, rfl, N5⟩
      k_dflt refine' comp_range0 (n := 5) nw5 (fun j ys2 => ys2.length ≤ j ∧ IntsAre ys2 (outTo (insTo (1 + (i : Int) * 2) 5) j)) rfl (by decide) rfl (by intro _ _ h; cases h) F5 (fun p hp => N5' p (by simpa using hp)) hR5 (by decide +kernel) (by decide +kernel) ⟨Nat.le_refl _, .nil⟩ ?turn2 ?done2
      case turn2 =>
        first | (intro I2 C2 D2 j vt ys2 h1 tk1 oI2 oC2 mC2 E1 hj zq13 hoff2 hIC2 hID2 hCD2 F6 N6 hC6; (try k_unmd); (try (first | (with_reducible refine fold_comp ?_; intro XL YL ZL) | (with_reducible refine fold_for ?_; intro QL EL) | (with_reducible refine fold_while ?_; intro QL RL EL) | k_fold)); (first | refine el_0_2 (zq13) ?_ | refine el_1_1 (zq13) ?_); (try clear zq13); intro hlen2 hi2) | rintro I2 C2 D2 j vt ys2 h1 tk1 oI2 oC2 mC2 E1 hj ⟨hlen2, hi2⟩ hoff2 hIC2 hID2 hCD2 F6 N6 hC6
        refine comp_name F6 N6 hC6 hIC2 (fun p hp => ?_) (by with_unfolding_all rfl) rfl ?_
        · rcases List.mem_cons.mp hp with rfl | hp
          · exact hCD2.sw
          · exact (hoff2 p hp).2.1
        intro h7 tk7 oC7 F8 N8 hC7
        first | ((first | refine el_0_3 (show ∃ m, m = _ ∧ LCg.NsObj oC7 m from ⟨_, rfl, hC7⟩) ?_ | refine el_1_2 (show ∃ m, m = _ ∧ LCg.NsObj oC7 m from ⟨_, rfl, hC7⟩) ?_ | refine el_2_1 (show ∃ m, m = _ ∧ LCg.NsObj oC7 m from ⟨_, rfl, hC7⟩) ?_); intro m7 hm7 hC7') | obtain ⟨m7, hm7, hC7'⟩ : ∃ m, m = _ ∧ LCg.NsObj oC7 m := ⟨_, rfl, hC7⟩
        clear hC7 N6 F6 hC6
        have hu7 : m7 (Str.ofString "u") = some (.int (0 + (j : Int)) vt) := by rw [hm7]; rfl
        clear hm7
        subst hnw5
        simp only [List.append_nil] at N8
        refine CompTests.one ?_
        refine restart (gn := s.gens) (s := s) F8 rfl rfl rfl rfl ?_
        intro tk8
        (try k_unmd); (try k_fold); repeat' (first | ((fail_if_success (fail_if_success (with_reducible show wpAny _ _ (compareOp CmpOp.NotIn (Value.int _ _) (Value.ref _)) _ _ _))); k_dflt (refine' notin_K ?y9N ?y9m ?y9i ?_; (case y9N => k_asm); (case y9m => k_mem); (case y9i => with_reducible assumption))) | (first | refine CompEmit.last rfl ?_ | refine CompEmit.more rfl ?_) | walk_at "S1")
        · rename Fr _ _ _ _ => F9
          rename News _ _ _ _ => N9
          rename List.any _ _ = true => hb
          refine CN.intro ys2 () [] F9 N9 hC7' (fun p hp => by rw [List.append_nil] at hp; exact hp) trivial hoff2 ⟨rfl, Nat.le_succ_of_le hlen2, ?i4⟩
          rw [outTo_succ, hb]
          exact hi2
        · rename Fr _ _ _ _ => F9
          rename News _ _ _ _ => N9
          rename List.any _ _ = false => hb
          refine CE.intro ys2 () [] F9 N9 hC7' (fun p hp => by rw [List.append_nil] at hp; exact hp) trivial hoff2 (by rw [sizeLine_eq]; omega) ⟨rfl, ?l3, ?i3⟩
          case l3 =>
            rw [List.length_append, List.length_singleton]
            exact Nat.succ_le_succ hlen2
          case i3 =>
            rw [outTo_succ, hb]
            exact ints_snoc hi2
      case done2 =>
        intro C2 D2 oC2 mC2 ys2 h1 tk1 f2 hP2 hI2 hCD2 F6 N6 hC6
        first | ((first | refine el_0_2 (hP2) ?_ | refine el_1_1 (hP2) ?_); (try clear hP2); intro hlen2 hi2) | obtain ⟨hlen2, hi2⟩ := hP2
        refine' post_eval F6 N6 hC6 hCD2 (fun p hp => (hI2 p hp).1) ?_
        intro h2 F8 N8
        subst hnw5
        simp only [List.append_nil] at N8 hI2
        have e26 : @Ne Nat D2 (L + 1 + 1 + 1 + 1 + 1 + 1) := (hI2 _ (.tail _ (.head _))).2.ne'
        clear N6 F6 hC6 F5 N5 N5' hR5
        have hQ := quads_pos (wayOf cols) i hi
        refine restart (gn := s.gens) (s := s) F8 rfl rfl rfl rfl ?_
        intro tk3
        (try k_unmd); (try k_fold); repeat' (first | ((fail_if_success (fail_if_success (with_reducible show wpAny _ _ (eval (Expr.ListComp _ _ _ _) _) _ _ _))); k_dflt (refine comp_eval (by with_unfolding_all rfl) (by rfl) (by decide) ?_)) | walk_at "S1")
        rename Fr _ _ _ _ => F5
        rename News _ _ _ _ => N5
        rename Obj.data _ = Data.cell (some (Value.ref D2)) => dO
        rename Obj.data _ = Data.cell (some (Value.ref D1)) => dI
        rename Obj.data _ = Data.cell (some (Value.int _ ut)) => dS
        generalize hIL : insTo (1 + (i : Int) * 2) 5 = insL at *
        generalize hOL : outTo insL 5 = outL at *
        rename IntsAre ys insL => hi1
        rename IntsAre ys2 outL => hi2
        have inM : ∀ v ∈ insL, 0 ≤ v ∧ v < 5 := fun v hv => by rw [← hIL] at hv; exact insTo_mem hv
        have ouM : ∀ v ∈ outL, 0 ≤ v ∧ v < 5 := fun v hv => by rw [← hOL] at hv; exact outTo_mem hv
        have inL : ys.length ≤ 5 := hlen1
        have ouL : ys2.length ≤ 5 := hlen2
        first | ((first | refine el_0_3 (show ∃ nw, nw = _ ∧ News g _ _ nw from ⟨_, rfl, N5⟩) ?_ | refine el_1_2 (show ∃ nw, nw = _ ∧ News g _ _ nw from ⟨_, rfl, N5⟩) ?_ | refine el_2_1 (show ∃ nw, nw = _ ∧ News g _ _ nw from ⟨_, rfl, N5⟩) ?_); intro nw5 hnw5 N5') | obtain ⟨nw5, hnw5, N5'⟩ : ∃ nw, nw = _ ∧ News g _ _ nw := ⟨_, rfl, N5⟩
        have hm1 : (D1, LCg.lst ys) ∈ nw5 := by rw [hnw5]; exact .tail _ (.head _)
        have hm2 : (D2, LCg.lst ys2) ∈ nw5 := by rw [hnw5]; exact .head _
        k_dflt refine' comp_list0 (l := D1) (ol := LCg.lst ys) (items := List.toArray ys) nw5 (fun j y3 => y3.length ≤ 125 * j ∧ IntsAre y3 ((insL.take j).flatMap (quadA (wayOf cols) insL outL))) rfl (by decide) rfl (by intro _ g' h; cases h; exact ⟨rfl, fun _ => rfl⟩) F5 (fun p hp => N5' p (by simpa using hp)) ⟨rfl, _, rfl⟩ ⟨Nat.le_refl _, .nil⟩ ?side3 ?turn3 ?done3
        case side3 => exact fun h _ N => (N _ (List.mem_append_left _ hm1)).1
        case turn3 =>
          first | (intro I3 C3 D3 j0 v y3 h3 tk3 oI3 oC3 mC3 E3 hv zq14 hoff3 hIC3 hID3 hCD3 F6 N6 hit3 hC6; (try k_unmd); (try (first | (with_reducible refine fold_comp ?_; intro XL YL ZL) | (with_reducible refine fold_for ?_; intro QL EL) | (with_reducible refine fold_while ?_; intro QL RL EL) | k_fold)); (first | refine el_0_2 (zq14) ?_ | refine el_1_1 (zq14) ?_); (try clear zq14); intro hlen3 hi3) | rintro I3 C3 D3 j0 v y3 h3 tk3 oI3 oC3 mC3 E3 hv ⟨hlen3, hi3⟩ hoff3 hIC3 hID3 hCD3 F6 N6 hit3 hC6
          rw [List.getElem?_toArray] at hv
          first | ((first | refine el_0_4 (ints_val hi1 hv) ?_ | refine el_1_3 (ints_val hi1 hv) ?_ | refine el_2_2 (ints_val hi1 hv) ?_ | refine el_3_1 (ints_val hi1 hv) ?_); intro av at3 hav zq15; subst zq15) | obtain ⟨av, at3, hav, rfl⟩ := ints_val hi1 hv
          have hj0 := (List.getElem?_eq_some_iff.mp hv).1
          have hA := inM av (List.mem_of_getElem? hav)
          refine comp_name F6 N6 hC6 hIC3 (fun p hp => ?_) (by with_unfolding_all rfl) rfl ?_
          · rcases List.mem_cons.mp hp with rfl | hp
            · exact hCD3.sw
            · exact (hoff3 p hp).2.1
          intro h7 tk7 oC7 F9 N9 hC7
          simp only [List.append_nil] at N9 hoff3
          refine CompTests.none ?_
          rw [if_pos rfl]
          refine CompEmit.more rfl ?_
          first | ((first | refine el_0_3 (show ∃ m, m = _ ∧ LCg.NsObj oC7 m from ⟨_, rfl, hC7⟩) ?_ | refine el_1_2 (show ∃ m, m = _ ∧ LCg.NsObj oC7 m from ⟨_, rfl, hC7⟩) ?_ | refine el_2_1 (show ∃ m, m = _ ∧ LCg.NsObj oC7 m from ⟨_, rfl, hC7⟩) ?_); intro m7 hm7 hC7') | obtain ⟨m7, hm7, hC7'⟩ : ∃ m, m = _ ∧ LCg.NsObj oC7 m := ⟨_, rfl, hC7⟩
          have hKa : m7 (Str.ofString "a") = some (.int av at3) := by rw [hm7]; rfl
          clear hC7 N6 F6 hC6 hm7
          have N9' := N9
          rw [hnw5] at N9'
          refine restart (gn := s.gens) (s := s) F9 rfl rfl rfl rfl ?_
          intro tk8
          (try k_unmd); (try k_fold); repeat' (walk_at "S1")
          k_dflt refine' comp_listN0 (l := D1) (ol := LCg.lst ys) (items := List.toArray ys) (oC₀ := oC7) (mC₀ := m7) ((I3, oI3) :: nw5) (fun m => m (Str.ofString "a") = some (.int av at3)) (fun j y4 => y4.length ≤ 125 * j0 + 25 * j ∧ IntsAre y4 ((insL.take j0).flatMap (quadA (wayOf cols) insL outL) ++ (insL.take j).flatMap (fun c => if av ≤ c then quadC (wayOf cols) outL av c else []))) y3 rfl (by intro g' h; cases h; exact ⟨rfl, fun _ => rfl⟩) rfl hCD3 F9 (fun p hp => N9 p (by rw [List.append_nil] at hp; exact mem_swap3' hp)) hC7' hKa ?NI4 ⟨rfl, _, rfl⟩ ⟨by omega, by rw [List.take_zero, List.flatMap_nil, List.append_nil]; exact hi3⟩ ?side4 ?turn4 ?done4
          case NI4 =>
            intro p hp
            rw [List.append_nil] at hp
            rcases List.mem_cons.mp hp with rfl | hp
            · exact ⟨hIC3, hID3⟩
            · exact (hoff3 p hp).2
          case side4 => exact fun h _ N => (N _ (List.mem_append_left _ (.tail _ hm1))).1
          case turn4 =>
            first | (intro I4 j1 v y4 h4 tk4 oI4 oC4 mC4 E4 hv zq16 hoff4 hIC4 hID4 F10 N10 hit4 hC10 hK10; (try k_unmd); (try (first | (with_reducible refine fold_comp ?_; intro XL YL ZL) | (with_reducible refine fold_for ?_; intro QL EL) | (with_reducible refine fold_while ?_; intro QL RL EL) | k_fold)); (first | refine el_0_2 (zq16) ?_ | refine el_1_1 (zq16) ?_); (try clear zq16); intro hlen4 hi4) | rintro I4 j1 v y4 h4 tk4 oI4 oC4 mC4 E4 hv ⟨hlen4, hi4⟩ hoff4 hIC4 hID4 F10 N10 hit4 hC10 hK10
            rw [List.getElem?_toArray] at hv
            first | ((first | refine el_0_4 (ints_val hi1 hv) ?_ | refine el_1_3 (ints_val hi1 hv) ?_ | refine el_2_2 (ints_val hi1 hv) ?_ | refine el_3_1 (ints_val hi1 hv) ?_); intro cv ct4 hcv zq17; subst zq17) | obtain ⟨cv, ct4, hcv, rfl⟩ := ints_val hi1 hv
            have hj1 := (List.getElem?_eq_some_iff.mp hv).1
            have hC := inM cv (List.mem_of_getElem? hcv)
            refine comp_name F10 N10 hC10 hIC4 (fun p hp => ?_) (by with_unfolding_all rfl) rfl ?_
            · rcases List.mem_cons.mp hp with rfl | hp
              · exact hCD3.sw
              · exact (hoff4 p hp).2.1
            intro h11 tk11 oC11 F11 N11 hC11
            simp only [List.append_nil] at N11 hoff4
            first | ((first | refine el_0_3 (show ∃ m, m = _ ∧ LCg.NsObj oC11 m from ⟨_, rfl, hC11⟩) ?_ | refine el_1_2 (show ∃ m, m = _ ∧ LCg.NsObj oC11 m from ⟨_, rfl, hC11⟩) ?_ | refine el_2_1 (show ∃ m, m = _ ∧ LCg.NsObj oC11 m from ⟨_, rfl, hC11⟩) ?_); intro m11 hm11 hC11') | obtain ⟨m11, hm11, hC11'⟩ : ∃ m, m = _ ∧ LCg.NsObj oC11 m := ⟨_, rfl, hC11⟩
            have hKc : m11 (Str.ofString "c") = some (.int cv ct4) := by rw [hm11]; rfl
            have hKa1 : m11 (Str.ofString "a") = some (.int av at3) := by
              rw [hm11]
              exact (if_neg (by decide +kernel)).trans hK10
            clear hC11 N10 F10 hC10 hm11 hK10
            have N11' := N11
            rw [hnw5] at N11'
            refine CompTests.one ?_
            refine restart (gn := s.gens) (s := s) F11 rfl rfl rfl rfl ?_
            intro tk12
            (try k_unmd); (try k_fold); repeat' (first | (first | refine CompEmit.last rfl ?_ | refine CompEmit.more rfl ?_) | walk_at "S1")
            · rename av ≤ cv => hle
              rename Fr _ _ _ _ => F12
              k_dflt refine' comp_listN0 (l := D2) (ol := LCg.lst ys2) (items := List.toArray ys2) (oC₀ := oC11) (mC₀ := m11) ((I4, oI4) :: (I3, oI3) :: nw5) (fun m => m (Str.ofString "a") = some (.int av at3) ∧ m (Str.ofString "c") = some (.int cv ct4)) (fun j y5 => y5.length ≤ 125 * j0 + 25 * j1 + 5 * j ∧ IntsAre y5 (((insL.take j0).flatMap (quadA (wayOf cols) insL outL) ++ (insL.take j1).flatMap (fun c => if av ≤ c then quadC (wayOf cols) outL av c else [])) ++ (outL.take j).flatMap (quadB (wayOf cols) outL av cv))) y4 rfl (by intro g' h; cases h; exact ⟨rfl, fun _ => rfl⟩) rfl hCD3 F12 (fun p hp => N11 p (by rw [List.append_nil] at hp; exact mem_swap3' hp)) hC11' ⟨hKa1, hKc⟩ ?NI5 ⟨rfl, _, rfl⟩ ⟨by omega, by rw [List.take_zero, List.flatMap_nil, List.append_nil]; exact hi4⟩ ?side5 ?turn5 ?done5
              case NI5 =>
                intro p hp
                rw [List.append_nil] at hp
                rcases List.mem_cons.mp hp with rfl | hp
                · exact ⟨hIC4, hID4⟩
                · exact (hoff4 p hp).2
              case side5 => exact fun h _ N => (N _ (List.mem_append_left _ (.tail _ (.tail _ hm2)))).1
              case turn5 =>
                first | (intro I5 j2 v y5 h5 tk5 oI5 oC5 mC5 E5 hv zq18 hoff5 hIC5 hID5 F13 N13 hit5 hC13 zq19; (try k_unmd); (try (first | (with_reducible refine fold_comp ?_; intro XL YL ZL) | (with_reducible refine fold_for ?_; intro QL EL) | (with_reducible refine fold_while ?_; intro QL RL EL) | k_fold)); (first | refine el_0_2 (zq18) ?_ | refine el_1_1 (zq18) ?_); (try clear zq18); intro hlen5 hi5; (first | refine el_0_2 (zq19) ?_ | refine el_1_1 (zq19) ?_); (try clear zq19); intro hK13a hK13c) | rintro I5 j2 v y5 h5 tk5 oI5 oC5 mC5 E5 hv ⟨hlen5, hi5⟩ hoff5 hIC5 hID5 F13 N13 hit5 hC13 ⟨hK13a, hK13c⟩
                rw [List.getElem?_toArray] at hv
                first | ((first | refine el_0_4 (ints_val hi2 hv) ?_ | refine el_1_3 (ints_val hi2 hv) ?_ | refine el_2_2 (ints_val hi2 hv) ?_ | refine el_3_1 (ints_val hi2 hv) ?_); intro bv bt5 hbv zq20; subst zq20) | obtain ⟨bv, bt5, hbv, rfl⟩ := ints_val hi2 hv
                have hj2 := (List.getElem?_eq_some_iff.mp hv).1
                have hB := ouM bv (List.mem_of_getElem? hbv)
                refine comp_name F13 N13 hC13 hIC5 (fun p hp => ?_) (by with_unfolding_all rfl) rfl ?_
                · rcases List.mem_cons.mp hp with rfl | hp
                  · exact hCD3.sw
                  · exact (hoff5 p hp).2.1
                intro h14 tk14 oC14 F14 N14 hC14
                simp only [List.append_nil] at N14 hoff5
                first | ((first | refine el_0_3 (show ∃ m, m = _ ∧ LCg.NsObj oC14 m from ⟨_, rfl, hC14⟩) ?_ | refine el_1_2 (show ∃ m, m = _ ∧ LCg.NsObj oC14 m from ⟨_, rfl, hC14⟩) ?_ | refine el_2_1 (show ∃ m, m = _ ∧ LCg.NsObj oC14 m from ⟨_, rfl, hC14⟩) ?_); intro m14 hm14 hC14') | obtain ⟨m14, hm14, hC14'⟩ : ∃ m, m = _ ∧ LCg.NsObj oC14 m := ⟨_, rfl, hC14⟩
                have hKb2 : m14 (Str.ofString "b") = some (.int bv bt5) := by rw [hm14]; rfl
                have hKa2 : m14 (Str.ofString "a") = some (.int av at3) := by
                  rw [hm14]
                  exact (if_neg (by decide +kernel)).trans hK13a
                have hKc2 : m14 (Str.ofString "c") = some (.int cv ct4) := by
                  rw [hm14]
                  exact (if_neg (by decide +kernel)).trans hK13c
                clear hC14 N13 F13 hC13 hm14 hK13a hK13c
                have N14' := N14
                rw [hnw5] at N14'
                refine CompTests.none ?_
                rw [if_pos rfl]
                refine CompEmit.more rfl ?_
                refine restart (gn := s.gens) (s := s) F14 rfl rfl rfl rfl ?_
                intro tk15
                (try k_unmd); (try k_fold); repeat' (walk_at "S1")
                rename Fr _ _ _ _ => F15
                k_dflt refine' comp_listN0 (l := D2) (ol := LCg.lst ys2) (items := List.toArray ys2) (oC₀ := oC14) (mC₀ := m14) ((I5, oI5) :: (I4, oI4) :: (I3, oI3) :: nw5) (fun m => m (Str.ofString "a") = some (.int av at3) ∧ m (Str.ofString "c") = some (.int cv ct4) ∧ m (Str.ofString "b") = some (.int bv bt5)) (fun j y6 => y6.length ≤ 125 * j0 + 25 * j1 + 5 * j2 + j ∧ IntsAre y6 ((((insL.take j0).flatMap (quadA (wayOf cols) insL outL) ++ (insL.take j1).flatMap (fun c => if av ≤ c then quadC (wayOf cols) outL av c else [])) ++ (outL.take j2).flatMap (quadB (wayOf cols) outL av cv)) ++ (outL.take j).map (quadD (wayOf cols) av cv bv))) y5 rfl (by intro g' h; cases h) rfl hCD3 F15 (fun p hp => N14 p (by rw [List.append_nil] at hp; exact mem_swap3' hp)) hC14' ⟨hKa2, hKc2, hKb2⟩ ?NI6 ⟨rfl, _, rfl⟩ ⟨by omega, by rw [List.take_zero, List.map_nil, List.append_nil]; exact hi5⟩ ?side6 ?turn6 ?done6
                case NI6 =>
                  intro p hp
                  rw [List.append_nil] at hp
                  rcases List.mem_cons.mp hp with rfl | hp
                  · exact ⟨hIC5, hID5⟩
                  · exact (hoff5 p hp).2
                case side6 => exact fun h _ N => (N _ (List.mem_append_left _ (.tail _ (.tail _ (.tail _ hm2))))).1
                case turn6 =>
                  first | (intro I6 j3 v y6 h6 tk6 oI6 oC6 mC6 E6 hv zq21 hoff6 hIC6 hID6 F16 N16 hit6 hC16 zq22; (try k_unmd); (try (first | (with_reducible refine fold_comp ?_; intro XL YL ZL) | (with_reducible refine fold_for ?_; intro QL EL) | (with_reducible refine fold_while ?_; intro QL RL EL) | k_fold)); (first | refine el_0_2 (zq21) ?_ | refine el_1_1 (zq21) ?_); (try clear zq21); intro hlen6 hi6; (first | refine el_0_3 (zq22) ?_ | refine el_1_2 (zq22) ?_ | refine el_2_1 (zq22) ?_); (try clear zq22); intro hK16a hK16c hK16b) | rintro I6 j3 v y6 h6 tk6 oI6 oC6 mC6 E6 hv ⟨hlen6, hi6⟩ hoff6 hIC6 hID6 F16 N16 hit6 hC16 ⟨hK16a, hK16c, hK16b⟩
                  rw [List.getElem?_toArray] at hv
                  first | ((first | refine el_0_4 (ints_val hi2 hv) ?_ | refine el_1_3 (ints_val hi2 hv) ?_ | refine el_2_2 (ints_val hi2 hv) ?_ | refine el_3_1 (ints_val hi2 hv) ?_); intro dv dt6 hdv zq23; subst zq23) | obtain ⟨dv, dt6, hdv, rfl⟩ := ints_val hi2 hv
                  have hj3 := (List.getElem?_eq_some_iff.mp hv).1
                  have hDv := ouM dv (List.mem_of_getElem? hdv)
                  refine comp_name F16 N16 hC16 hIC6 (fun p hp => ?_) (by with_unfolding_all rfl) rfl ?_
                  · rcases List.mem_cons.mp hp with rfl | hp
                    · exact hCD3.sw
                    · exact (hoff6 p hp).2.1
                  intro h17 tk17 oC17 F17 N17 hC17
                  simp only [List.append_nil] at N17 hoff6
                  first | ((first | refine el_0_3 (show ∃ m, m = _ ∧ LCg.NsObj oC17 m from ⟨_, rfl, hC17⟩) ?_ | refine el_1_2 (show ∃ m, m = _ ∧ LCg.NsObj oC17 m from ⟨_, rfl, hC17⟩) ?_ | refine el_2_1 (show ∃ m, m = _ ∧ LCg.NsObj oC17 m from ⟨_, rfl, hC17⟩) ?_); intro m17 hm17 hC17') | obtain ⟨m17, hm17, hC17'⟩ : ∃ m, m = _ ∧ LCg.NsObj oC17 m := ⟨_, rfl, hC17⟩
                  have hKd3 : m17 (Str.ofString "d") = some (.int dv dt6) := by rw [hm17]; rfl
                  have hKa3 : m17 (Str.ofString "a") = some (.int av at3) := by
                    rw [hm17]
                    exact (if_neg (by decide +kernel)).trans hK16a
                  have hKc3 : m17 (Str.ofString "c") = some (.int cv ct4) := by
                    rw [hm17]
                    exact (if_neg (by decide +kernel)).trans hK16c
                  have hKb3 : m17 (Str.ofString "b") = some (.int bv bt5) := by
                    rw [hm17]
                    exact (if_neg (by decide +kernel)).trans hK16b
                  clear hC17 N16 F16 hC16 hm17 hK16a hK16c hK16b
                  first | ((first | refine el_0_4 (ways_at hRows hA) ?_ | refine el_1_3 (ways_at hRows hA) ?_ | refine el_2_2 (ways_at hRows hA) ?_ | refine el_3_1 (ways_at hRows hA) ?_); intro qa hqa ea wa) | obtain ⟨qa, hqa, ea, wa⟩ := ways_at hRows hA
                  first | ((first | refine el_0_4 (ways_at hRows hC) ?_ | refine el_1_3 (ways_at hRows hC) ?_ | refine el_2_2 (ways_at hRows hC) ?_ | refine el_3_1 (ways_at hRows hC) ?_); intro qc hqc ec wc) | obtain ⟨qc, hqc, ec, wc⟩ := ways_at hRows hC
                  first | ((first | refine el_0_4 (ways_at hRows hB) ?_ | refine el_1_3 (ways_at hRows hB) ?_ | refine el_2_2 (ways_at hRows hB) ?_ | refine el_3_1 (ways_at hRows hB) ?_); intro qb hqb eb wb) | obtain ⟨qb, hqb, eb, wb⟩ := ways_at hRows hB
                  first | ((first | refine el_0_2 (wa bv hB) ?_ | refine el_1_1 (wa bv hB) ?_); intro u1 x1) | obtain ⟨u1, x1⟩ := wa bv hB
                  first | ((first | refine el_0_2 (wc dv hDv) ?_ | refine el_1_1 (wc dv hDv) ?_); intro u2 x2) | obtain ⟨u2, x2⟩ := wc dv hDv
                  first | ((first | refine el_0_2 (wa cv hC) ?_ | refine el_1_1 (wa cv hC) ?_); intro u3 x3) | obtain ⟨u3, x3⟩ := wa cv hC
                  first | ((first | refine el_0_2 (wb dv hDv) ?_ | refine el_1_1 (wb dv hDv) ?_); intro u4 x4) | obtain ⟨u4, x4⟩ := wb dv hDv
                  have hma := hrs qa hqa
                  have hmc := hrs qc hqc
                  have hmb := hrs qb hqb
                  subst hnw5
                  refine CompTests.none ?_
                  rw [if_pos rfl]
                  refine CompEmit.last rfl ?_
                  refine restart (gn := s.gens) (s := s) F17 rfl rfl rfl rfl ?_
                  intro tk18
                  (try k_unmd); (try k_fold); repeat' (first | ((fail_if_success (fail_if_success (with_reducible show wpAny _ _ (subscriptTail _ _ _ _) _ _ _))); (with_reducible show wpAny _ _ (subscriptTail _ _ (Value.ref _) (Value.int _ _)) _ _ _); ((with_unfolding_all refine' sub_K ?y9N ?y9m ?y9k0 ?y9k1 ?y9hit ?_ ?y9k6); (case y9N => k_asm); (case y9m => k_mem); (case y9hit => with_reducible assumption); (case y9k0 => omega); (case y9k1 => omega); (case y9k6 => with_unfolding_all rfl); k_whole)) | walk_at "S1")
                  rename Fr _ _ _ _ => F18
                  rename News _ _ _ _ => N18
                  refine CE.intro y6 () [] F18 N18 hC17' (fun p hp => by rw [List.append_nil] at hp; exact hp) ⟨hKa3, hKc3, hKb3⟩ (fun p hp => hoff6 p (by rw [List.append_nil] at hp; exact hp)) (by rw [sizeLine_eq]; omega) ⟨rfl, ?l6, ?i6⟩
                  case l6 =>
                    rw [List.length_append, List.length_singleton]
                    omega
                  case i6 =>
                    rw [take_map _ hdv, ← List.append_assoc]
                    exact ints_snoc hi6
                case done6 =>
                  intro y6 h6 tk6 oC6 mC6 hP6 hI6 F16 N16 hC16 hK16
                  first | ((first | refine el_0_2 (hP6) ?_ | refine el_1_1 (hP6) ?_); (try clear hP6); intro hlen6 hi6) | obtain ⟨hlen6, hi6⟩ := hP6
                  simp only [List.append_nil] at N16
                  have es2 : (List.toArray ys2).size = outL.length := by rw [List.size_toArray, hi2.length]
                  have es3 : (List.toArray ys2).size ≤ 5 := by rw [List.size_toArray]; exact ouL
                  rw [es2, List.take_length] at hi6
                  refine CN.intro y6 () [] F16 N16 hC16 (fun p hp => by rw [List.append_nil] at hp; exact mem_swap3 hp) ⟨hK16.1, hK16.2.1⟩ (fun p hp => hoff5 p (by rw [List.append_nil] at hp; exact hp)) ⟨rfl, by omega, ?i7⟩
                  rw [take_flatMap _ hbv, ← List.append_assoc]
                  exact hi6
              case done5 =>
                intro y6 h6 tk6 oC6 mC6 hP6 hI6 F16 N16 hC16 hK16
                first | ((first | refine el_0_2 (hP6) ?_ | refine el_1_1 (hP6) ?_); (try clear hP6); intro hlen6 hi6) | obtain ⟨hlen6, hi6⟩ := hP6
                simp only [List.append_nil] at N16
                have es2 : (List.toArray ys2).size = outL.length := by rw [List.size_toArray, hi2.length]
                have es3 : (List.toArray ys2).size ≤ 5 := by rw [List.size_toArray]; exact ouL
                rw [es2, List.take_length] at hi6
                refine CN.intro y6 () [] F16 N16 hC16 (fun p hp => by rw [List.append_nil] at hp; exact mem_swap3 hp) hK16.1 (fun p hp => hoff4 p (by rw [List.append_nil] at hp; exact hp)) ⟨rfl, by omega, ?i8⟩
                rw [take_flatMap _ hcv, ← List.append_assoc, if_pos hle]
                exact hi6
            · rename ¬ av ≤ cv => hle
              rename Fr _ _ _ _ => F12
              refine CN.intro y4 () [] F12 N11 hC11' (fun p hp => by rw [List.append_nil] at hp; exact hp) hKa1 (fun p hp => hoff4 p (by rw [List.append_nil] at hp; exact hp)) ⟨rfl, by omega, ?i9⟩
              rw [take_flatMap _ hcv, if_neg hle, List.append_nil]
              exact hi4
          case done4 =>
            intro y6 h6 tk6 oC6 mC6 hP6 hI6 F16 N16 hC16 hK16
            first | ((first | refine el_0_2 (hP6) ?_ | refine el_1_1 (hP6) ?_); (try clear hP6); intro hlen6 hi6) | obtain ⟨hlen6, hi6⟩ := hP6
            simp only [List.append_nil] at N16
            have es2 : (List.toArray ys).size = insL.length := by rw [List.size_toArray, hi1.length]
            have es3 : (List.toArray ys).size ≤ 5 := by rw [List.size_toArray]; exact inL
            rw [es2, List.take_length] at hi6
            refine CN.intro y6 () [] F16 N16 hC16 (fun p hp => by rw [List.append_nil] at hp; exact mem_swap3 hp) trivial (fun p hp => hoff3 p (by rw [List.append_nil] at hp; exact hp)) ⟨rfl, by omega, ?i10⟩
            rw [take_flatMap _ hav]
            exact hi6
        case done3 =>
          intro C3 D3 oC3 mC3 y3 h3 tk3 f3 hP3 hI3 hCD3 F6 N6 hC6
          first | ((first | refine el_0_2 (hP3) ?_ | refine el_1_1 (hP3) ?_); (try clear hP3); intro hlen3 hi3) | obtain ⟨hlen3, hi3⟩ := hP3
          refine' post_eval F6 N6 hC6 hCD3 (fun p hp => (hI3 p hp).1) ?_
          intro h4 F7 N7
          have es2 : (List.toArray ys).size = insL.length := by rw [List.size_toArray, hi1.length]
          rw [es2, List.take_length] at hi3
          have hi3' : IntsAre y3 (quads (wayOf cols) insL outL) := hi3
          have hlen3' : y3.length ≤ 625 := by omega
          clear hi3
          subst hnw5
          simp only [List.append_nil] at N7 hI3
          clear N6 F6 hC6 F5 N5 N5'
          refine restart (gn := s.gens) (s := s) F7 rfl rfl rfl rfl ?_
          intro tk4
          (try k_unmd); (try k_fold); repeat' (first | ((fail_if_success (fail_if_success (with_reducible show wpAny _ _ (exec (Stmt.Assign [_] (Expr.ListComp _ _ _ _) _) _) _ _ _))); k_dflt (refine comp_assign (by with_unfolding_all rfl) (by with_unfolding_all rfl) (by rfl) (by decide) ?_)) | walk_at "S1")
          rename Fr _ _ _ _ => F5
          rename News _ _ _ _ => N5
          rename (∀ (a : Int), _ → _ ≤ a) => hM2
          rename _ ∈ quads _ _ _ => hM1
          first | ((first | refine el_0_3 (show ∃ nw, nw = _ ∧ News g _ _ nw from ⟨_, rfl, N5⟩) ?_ | refine el_1_2 (show ∃ nw, nw = _ ∧ News g _ _ nw from ⟨_, rfl, N5⟩) ?_ | refine el_2_1 (show ∃ nw, nw = _ ∧ News g _ _ nw from ⟨_, rfl, N5⟩) ?_); intro nw6 hnw6 N5') | obtain ⟨nw6, hnw6, N5'⟩ : ∃ nw, nw = _ ∧ News g _ _ nw := ⟨_, rfl, N5⟩
          have hmw : (wl, wO) ∈ nw6 := by rw [hnw6]; k_mem
          have hmx : ∀ q ∈ rest, q ∈ nw6 := by
            intro q hq
            rw [hnw6]
            repeat (first | exact hq | refine List.Mem.tail _ ?_)
          k_dflt refine' comp_list0 (l := wl) (ol := wO) (items := List.toArray (wds.map fun x => Value.ref x.a)) nw6 (fun k y7 => y7.length ≤ k ∧ IntsAre y7 (ownOf (wds.take k) (1 + (i : Int) * 2))) rfl (by decide) rfl (by intro _ _ h; cases h) F5 (fun p hp => N5' p (by simpa using hp)) ⟨by rw [← hWO], cw, by rw [← hWO]⟩ ⟨Nat.le_refl _, .nil⟩ ?side7 ?turn7 ?done7
          case side7 => exact fun h _ N => (N _ (List.mem_append_left _ hmw)).1
          case turn7 =>
            first | (intro I7 C7 D7 k v y7 h9 tk9 oI7 oC7 mC7 E7 hv zq24 hoff7 hIC7 hID7 hCD7 F9 N9 hit7 hC9; (try k_unmd); (try (first | (with_reducible refine fold_comp ?_; intro XL YL ZL) | (with_reducible refine fold_for ?_; intro QL EL) | (with_reducible refine fold_while ?_; intro QL RL EL) | k_fold)); (first | refine el_0_2 (zq24) ?_ | refine el_1_1 (zq24) ?_); (try clear zq24); intro hlen7 hi7) | rintro I7 C7 D7 k v y7 h9 tk9 oI7 oC7 mC7 E7 hv ⟨hlen7, hi7⟩ hoff7 hIC7 hID7 hCD7 F9 N9 hit7 hC9
            have zq1 : ∃ x, wds[k]? = some x ∧ v = .ref x.a := by
              rw [List.getElem?_toArray, List.getElem?_map] at hv
              cases e : wds[k]? with
              | none => rw [e] at hv; cases hv
              | some x => rw [e] at hv; exact ⟨x, rfl, (Option.some.inj hv).symm⟩
            first | ((first | refine el_0_3 (zq1) ?_ | refine el_1_2 (zq1) ?_ | refine el_2_1 (zq1) ?_); (try clear zq1); intro x hx zq2; subst zq2) | obtain ⟨x, hx, rfl⟩ := zq1
            have hxm := List.mem_of_getElem? hx
            have zx := N9 x.o (.tail _ (.tail _ (.tail _ (List.mem_append_left _ (hmx _ (hws x hxm))))))
            refine comp_tuple (t := x.a) (l := wl) (j := k + 1) (xs := [(Str.ofString "leaves", _), (Str.ofString "width", _)]) (vs := [.int x.leaves x.t1, .int x.column x.t2]) F9 N9 hC9 hIC7 (fun p hp => ?_) hit7 rfl ⟨_, zx.1, rfl, _, rfl⟩ rfl ?kinds rfl ?_
            · rcases List.mem_cons.mp hp with rfl | hp
              · exact hCD7.sw
              · exact (hoff7 p hp).2.1
            case kinds =>
              intro q hq
              rcases List.mem_cons.mp hq with rfl | hq
              · with_unfolding_all rfl
              · obtain rfl := List.mem_singleton.mp hq
                with_unfolding_all rfl
            intro h10 tk10 oC10 F10 N10 hC10
            first | ((first | refine el_0_3 (show ∃ m, m = _ ∧ LCg.NsObj oC10 m from ⟨_, rfl, hC10⟩) ?_ | refine el_1_2 (show ∃ m, m = _ ∧ LCg.NsObj oC10 m from ⟨_, rfl, hC10⟩) ?_ | refine el_2_1 (show ∃ m, m = _ ∧ LCg.NsObj oC10 m from ⟨_, rfl, hC10⟩) ?_); intro m10 hm10 hC10') | obtain ⟨m10, hm10, hC10'⟩ : ∃ m, m = _ ∧ LCg.NsObj oC10 m := ⟨_, rfl, hC10⟩
            clear hC10 N9 F9 hC9 zx
            have hl10 : m10 (Str.ofString "leaves") = some (.int x.leaves x.t1) := by rw [hm10]; rfl
            have hc10 : m10 (Str.ofString "width") = some (.int x.column x.t2) := by rw [hm10]; rfl
            clear hm10
            subst hnw6
            simp only [List.append_nil] at N10
            refine CompTests.one ?_
            refine restart (gn := s.gens) (s := s) F10 rfl rfl rfl rfl ?_
            intro tk10'
            (try k_unmd); (try k_fold); repeat' (first | (first | refine CompEmit.last rfl ?_ | refine CompEmit.more rfl ?_) | walk_at "S1")
            · rename Fr _ _ _ _ => F11
              rename News _ _ _ _ => N11
              rename List.any _ _ = true => hb
              have hk20 := (List.getElem?_eq_some_iff.mp hx).1
              refine CE.intro y7 () [] F11 N11 hC10' (fun p hp => by rw [List.append_nil] at hp; exact .tail _ hp) trivial hoff7 (by rw [sizeLine_eq]; omega) ⟨rfl, ?l13, ?i13⟩
              case l13 =>
                rw [List.length_append, List.length_singleton]
                exact Nat.succ_le_succ hlen7
              case i13 =>
                rw [ownOf_succ hx, hb]
                exact ints_snoc hi7
            · rename Fr _ _ _ _ => F11
              rename News _ _ _ _ => N11
              rename List.any _ _ = false => hb
              refine CN.intro y7 () [] F11 N11 hC10' (fun p hp => by rw [List.append_nil] at hp; exact .tail _ hp) trivial hoff7 ⟨rfl, Nat.le_succ_of_le hlen7, ?i14⟩
              rw [ownOf_succ hx, hb]
              exact hi7
          case done7 =>
            intro C7 D7 oC7 mC7 y7 h7 tk7 f7 hP7 hI7 hCD7 F6 N6 hC6
            first | ((first | refine el_0_2 (hP7) ?_ | refine el_1_1 (hP7) ?_); (try clear hP7); intro hlen7 hi7) | obtain ⟨hlen7, hi7⟩ := hP7
            refine' post_assign ?pa1 ?pa2 ?pa3 ?pa4 ?pa5 ?pa6 ?pa7 ?_
            case pa3 => exact F6
            case pa4 => exact N6
            case pa5 => exact hC6
            case pa6 => exact hCD7
            case pa7 => exact fun p hp => (hI7 p hp).1
            case pa1 => rfl
            case pa2 => rfl
            intro h8 tk8 F7 N7
            have es2 : (List.toArray (wds.map fun x => Value.ref x.a)).size = wds.length := by rw [List.size_toArray, List.length_map]
            rw [es2, List.take_length] at hi7
            subst hnw6
            simp only [List.append_nil] at N7
            try dsimp only
            refine restart (gn := s.gens) (s := s) F7 rfl rfl rfl rfl ?_
            intro tk9
            have plk := fun M h1 h2 h3 => pl i hi M h1 h2 h3
            rw [hIL, hOL] at plk
            (try k_unmd); (try k_fold); repeat' (walk_at "S1")
            · exfalso
              rename 0 < _ => hpos
              rename _ ≠ 2 * _ => hne
              have := plk _ hM1 hM2 hne
              omega
            · rename Fr _ _ _ _ => F8
              rename News _ _ _ _ => N8
              refine LS.intro ((_, _, _) : Obj × Obj × Obj) rest F8 N8 (fun p hp => .tail _ (.tail _ (mem_end hp))) ?hm1 (apt_fst hI rfl) ⟨rfl, ⟨_, dO⟩, ⟨_, dI⟩, ⟨_, dS⟩⟩
              case hm1 =>
                intro z hz
                have z1 : z ≠ Str.ofString "own" := fun q => hz (by rw [q]; exact .tail _ (.head _))
                have z2 : z ≠ Str.ofString "least" := fun q => hz (by rw [q]; exact .head _)
                rw [if_neg z1, if_neg z2, if_neg hz]
            · exfalso
              rename decide _ = false => hno
              rename _ ≠ 2 * _ => hne
              exact of_decide_eq_false hno (plk _ hM1 hM2 hne).1
            · rename Fr _ _ _ _ => F8
              rename News _ _ _ _ => N8
              refine LS.intro ((_, _, _) : Obj × Obj × Obj) rest F8 N8 (fun p hp => .tail _ (mem_end hp)) ?hm2 (apt_fst hI rfl) ⟨rfl, ⟨_, dO⟩, ⟨_, dI⟩, ⟨_, dS⟩⟩
              case hm2 =>
                intro z hz
                have z1 : z ≠ Str.ofString "own" := fun q => hz (by rw [q]; exact .tail _ (.head _))
                have z2 : z ≠ Str.ofString "least" := fun q => hz (by rw [q]; exact .head _)
                rw [if_neg z1, if_neg z2, if_neg hz]

end
-- LAWK
section
open PySem PySem.Spec PySem.W PyProof.Rows PySem.Calls PyProof.V
structure Kt where
  x : Nd
  U : Addr
  tn : Tok
  tl : Tok
  tr : Tok
noncomputable def Kt.o (k : Kt) : Obj := tupO [.ref k.x.R.f, .int k.x.number k.tn, .str (txt k.x.lead) k.tl, .str (txt k.x.run) k.tr]
theorem exists_kts : ∀ {l : List Nd}, (∀ x ∈ l, x.Below) → ∃ ks : List Kt, ks.map (·.x) = l ∧ ∀ k ∈ ks, k.x.K = [(k.U, k.o)]
  | [], _ => ⟨[], rfl, fun _ h => nomatch h⟩
  | x :: l, h => by
    first | ((first | refine el_0_3 (exists_kts (l := l) fun y hy => h y (.tail _ hy)) ?_ | refine el_1_2 (exists_kts (l := l) fun y hy => h y (.tail _ hy)) ?_ | refine el_2_1 (exists_kts (l := l) fun y hy => h y (.tail _ hy)) ?_); intro ks e hk) | obtain ⟨ks, e, hk⟩ := exists_kts (l := l) fun y hy => h y (.tail _ hy)
    first | ((first | refine el_0_5 ((h x (.head _)).kept) ?_ | refine el_1_4 ((h x (.head _)).kept) ?_ | refine el_2_3 ((h x (.head _)).kept) ?_ | refine el_3_2 ((h x (.head _)).kept) ?_ | refine el_4_1 ((h x (.head _)).kept) ?_); intro U tn tl tr hK) | obtain ⟨U, tn, tl, tr, hK⟩ := (h x (.head _)).kept
    refine ⟨⟨x, U, tn, tl, tr⟩ :: ks, by rw [List.map_cons, e], fun k hk' => ?_⟩
    rcases List.mem_cons.mp hk' with rfl | hk'
    · exact hK
    · exact hk k hk'
/-- what the ledger holds of a kept node -/
structure KtIn (NL : Ledger) (w : World) (p : Program) (loose : List Str) (mean : ExcName → Option Value) (mg mb : Str → Option Value) (k2 : Addr) (k : Kt) : Prop where
  tup : (k.U, k.o) ∈ NL
  fn : (k.x.R.f, k.x.R.fo) ∈ NL
  dict : (k.x.R.D, k.x.R.oD) ∈ NL
  at_ : (k.x.R.at_, k.x.oAt) ∈ NL
  ok : k.x.Ok w p loose mean mg mb k2
section
variable {prog : Program} {w : World} {A : Around} {E : Value → Shared → Prop} {s : Shared} {t u : Tok} {Q : Value → Shared → Prop} {a : List Nat}
theorem add_x (hz : a.length ≤ 100000) (h : ∀ t' tk, Q (.str ⟨(a ++ [120]).toArray⟩ t') { s with toks := tk }) : wpAny (model prog w) A (binaryOp .Add (.str (txt a) t) (.str (Str.ofString "x") u)) Q E s := by
  refine SBL.add (fun t' c _ => ?_) ?_
  · have e : txt a ++ Str.ofString "x" = ⟨(a ++ [120]).toArray⟩ := by
      rw [show Str.ofString "x" = txt [120] from rfl, txt_app]
      rfl
    rw [e]
    exact h t' c
  · rw [sizeLine_eq]
    show a.toArray.size + 1 ≤ _
    rw [List.size_toArray]
    omega
end
section
variable {prog : Program} {w : World} {A : Around} {E : Value → Shared → Prop} {s : Shared} {h₀ : Heap} {L d : Addr} {news : Ledger} {Q : Value → Shared → Prop}
theorem sub_lead {value slice : PySem.Expr} {o : Obj} {x y : Str} {t tl tp : Tok} (N : News h₀ L s.heap news) (hm : (d, o) ∈ news) (hd : o.IsDictOf (strKind prog w) [(Str.ofString "lead", .str x tl), (Str.ofString "of", .str y tp)]) (hs : d ≠ sysModules) (h : ∀ t' tk, Q (.str x t') { s with toks := tk })
    (hq : subscripted slice false (.ref d) (.str (Str.ofString "lead") t) = operate [.ref d, .str (Str.ofString "lead") t] (getItem (.ref d) (.str (Str.ofString "lead") t)) := by with_unfolding_all rfl) (hg : ∀ r, letTemporaryGo value (.ref d) r = pure () := by intro _; with_unfolding_all rfl) :
    wpAny (model prog w) A (subscriptTail value slice (.ref d) (.str (Str.ofString "lead") t)) Q E s := by
  have T : StrTab prog w s.heap d [(.str (Str.ofString "lead"), .str x), (.str (Str.ofString "of"), .str y)] := TabAt.ofNews N hm (by rw [beq_eq_false_iff_ne]; exact hs) hd (.cons (Flat.str _ _) (.cons (Flat.str _ _) .nil))
  refine item_strTab T (dv := .str x) rfl (fun v hv => ?_) hq hg
  first | ((first | refine el_0_2 (hv.str_inv) ?_ | refine el_1_1 (hv.str_inv) ?_); intro t' zq1; subst zq1) | obtain ⟨t', rfl⟩ := hv.str_inv
  exact h t' _
end
noncomputable def colP (c : Col) : Int × Int := (c.leaves, c.column)

end
-- LAWX
section
open PySem PySem.Spec PySem.W PyProof.Rows PySem.Calls PyProof.V
theorem mid_ok (w : World) (p : Program) (loose : List Str) (mean : ExcName → Option Value) (mg mb : Str → Option Value) {A₀ : Around} {base g : Heap} {L a : Addr} {ccd : Value} {dp un : Nat} {gd : Option (List Code)} {s : Shared} {Q : Flow → Shared → Prop} {E : Value → Shared → Prop} {u0 : Str → Option Value}
    (B : Below A₀ base [] g) (X : (hd.heap_39 w.params).In g) (T : Top p loose mean mg mb g) (hdp : dp + 40 < recursionLimit) (hun : un + 800 < cLine) (hE : PassesOwn (model PySem.Challenge.pw_xb0026_01 w) (ktrTop dp un gd (Str.ofString "law") lawScope L a ccd (cellsFrom (L + 1) lawScope.names []) []) (lawEnv L a ccd) E)
    (kl k2 : Addr) (ck : Nat) (ks : List Kt) (bs tab : Int) (tbs ttab : Tok) (ob ot oy os oi oo : Obj) (NL : Ledger)
    (F : Fr g L s.heap (fun y => if y = Str.ofString "kept" then some (Value.ref kl) else u0 y))
    (N : News g L s.heap ((L + 1 + 1 + 1 + 1 + 1 + 1, oo) :: (L + 1 + 1 + 1 + 1 + 1, oi) :: (L + 1 + 1 + 1 + 1, os) :: (L + 1 + 1 + 1, oy) :: (L + 1 + 1, ot) :: (L + 1, ob) :: (kl, listOf (List.toArray (ks.map fun k => Value.ref k.U)) ck) :: NL))
    (PW : AptAll ((L + 1 + 1 + 1 + 1 + 1 + 1, oo) :: (L + 1 + 1 + 1 + 1 + 1, oi) :: (L + 1 + 1 + 1 + 1, os) :: (L + 1 + 1 + 1, oy) :: (L + 1 + 1, ot) :: (L + 1, ob) :: (kl, listOf (List.toArray (ks.map fun k => Value.ref k.U)) ck) :: NL))
    (hks : ∀ k ∈ ks, KtIn NL w p loose mean mg mb k2 k) (hkl : ks.length ≤ 20)
    (hb1 : 0 ≤ bs) (hb2 : bs < 30) (ht1 : 1 ≤ tab) (ht2 : tab ≤ 6) (hnum : ∀ k ∈ ks, 0 ≤ k.x.number ∧ k.x.number < 2 ^ 40)
    (hoo : ∃ v, CellO oo v) (hoi : ∃ v, CellO oi v) (hos : ∃ v, CellO os v) (hoy : ∃ v, CellO oy v) (hob : ob.data = .cell (some (.int bs tbs))) (hot : ot.data = .cell (some (.int tab ttab)))
    (next : ∀ (wds : List Col) (Dw : Addr) (h' : Heap) (tk : Nat), wds.map colP = ks.map (fun k => (k.x.number.fdiv (2 ^ bs.toNat), colsTo tab k.x.run)) →
      Fr g L h' (fun y => if y = Str.ofString "widths" then some (Value.ref Dw) else if y = Str.ofString "kept" then some (Value.ref kl) else u0 y) →
      News g L h' ((Dw, LCg.lst (wds.map fun x => Value.ref x.a)) :: (L + 1 + 1 + 1 + 1 + 1 + 1, oo) :: (L + 1 + 1 + 1 + 1 + 1, oi) :: (L + 1 + 1 + 1 + 1, os) :: (L + 1 + 1 + 1, oy) :: (L + 1 + 1, ot) :: (L + 1, ob) :: (kl, listOf (List.toArray (ks.map fun k => Value.ref k.U)) ck) :: (NL ++ (wds.map Col.o).reverse)) →
      AptAll ((Dw, LCg.lst (wds.map fun x => Value.ref x.a)) :: (L + 1 + 1 + 1 + 1 + 1 + 1, oo) :: (L + 1 + 1 + 1 + 1 + 1, oi) :: (L + 1 + 1 + 1 + 1, os) :: (L + 1 + 1 + 1, oy) :: (L + 1 + 1, ot) :: (L + 1, ob) :: (kl, listOf (List.toArray (ks.map fun k => Value.ref k.U)) ck) :: (NL ++ (wds.map Col.o).reverse)) →
      wpAny (model PySem.Challenge.pw_xb0026_01 w) (ktrTop dp un gd (Str.ofString "law") lawScope L a ccd (cellsFrom (L + 1) lawScope.names []) []) (execs (lawBody.drop 7) (lawEnv L a ccd)) Q E { s with heap := h', toks := tk }) :
    wpAny (model PySem.Challenge.pw_xb0026_01 w) (ktrTop dp un gd (Str.ofString "law") lawScope L a ccd (cellsFrom (L + 1) lawScope.names []) []) (execs (lawBody.drop 6) (lawEnv L a ccd)) Q E s := by
  first | ((first | refine el_0_2 (hoo) ?_ | refine el_1_1 (hoo) ?_); (try clear hoo); intro vo hoo) | obtain ⟨vo, hoo⟩ := hoo
  first | ((first | refine el_0_2 (hoi) ?_ | refine el_1_1 (hoi) ?_); (try clear hoi); intro vi hoi) | obtain ⟨vi, hoi⟩ := hoi
  first | ((first | refine el_0_2 (hos) ?_ | refine el_1_1 (hos) ?_); (try clear hos); intro vs hos) | obtain ⟨vs, hos⟩ := hos
  first | ((first | refine el_0_2 (hoy) ?_ | refine el_1_1 (hoy) ?_); (try clear hoy); intro vy hoy) | obtain ⟨vy, hoy⟩ := hoy
  have hoo' : oo.data = .cell vo := hoo
  have hoi' : oi.data = .cell vi := hoi
  have hos' : os.data = .cell vs := hos
  have hoy' : oy.data = .cell vy := hoy
  w_on
  conv =>
    arg 3
    arg 1
    whnf
  unfold lawEnv at *
  conv in (occs := *) lawScope => all_goals whnf
  refine let_A ?_
  intro A9
  refine let_env ?_
  intro env9
  (try k_unmd); (try k_fold); repeat' (first | ((fail_if_success (fail_if_success (with_reducible show wpAny _ _ (exec (Stmt.Assign [_] (Expr.ListComp _ _ _ _) _) _) _ _ _))); k_dflt (refine comp_assign (by with_unfolding_all rfl) (by with_unfolding_all rfl) (by rfl) (by decide) ?_)) | walk_at "S1")
  rename Fr _ _ _ _ => F1
  rename News _ _ _ _ => N1
  generalize hWO : listOf (List.toArray (ks.map fun k => Value.ref k.U)) ck = kO at *
  first | ((first | refine el_0_3 (show ∃ nw, nw = _ ∧ News g _ _ nw from ⟨_, rfl, N1⟩) ?_ | refine el_1_2 (show ∃ nw, nw = _ ∧ News g _ _ nw from ⟨_, rfl, N1⟩) ?_ | refine el_2_1 (show ∃ nw, nw = _ ∧ News g _ _ nw from ⟨_, rfl, N1⟩) ?_); intro nw hnw N1') | obtain ⟨nw, hnw, N1'⟩ : ∃ nw, nw = _ ∧ News g _ _ nw := ⟨_, rfl, N1⟩
  have PWn : AptAll nw := by rw [hnw]; exact PW
  have hmk : (kl, kO) ∈ nw := by rw [hnw]; k_mem
  have hmN : ∀ q ∈ NL, q ∈ nw := by
    intro q hq
    rw [hnw]
    repeat (first | exact hq | refine List.Mem.tail _ ?_)
  k_dflt refine' comp_list (α := Unit) (l := kl) (ol := kO) (items := List.toArray (ks.map fun k => Value.ref k.U)) (fun _ => nw) (fun j ys _ rest => ∃ ws : List Col, ws.map colP = (ks.take j).map (fun k => (k.x.number.fdiv (2 ^ bs.toNat), colsTo tab k.x.run)) ∧ ys = ws.map (fun x => Value.ref x.a) ∧ rest = (ws.map Col.o).reverse ∧ AptAll (nw ++ rest)) () [] rfl (by decide) rfl (by intro _ _ h; cases h) F1 (fun p hp => N1' p (by simpa using hp)) ⟨by rw [← hWO], ck, by rw [← hWO]⟩ ⟨[], rfl, rfl, rfl, by rw [List.append_nil]; exact PWn⟩ ?side1 ?turn1 ?done1
  case side1 => exact fun k y7 a rest7 h _ _ N => (N _ (List.mem_append_left _ hmk)).1
  case turn1 =>
    first | (intro I1 C1 D1 j v ys zq3 rest h1 tk1 oI1 oC1 mC1 E1 hv zq4 hoff hIC hID hCD F2 N2 hit hC2; (try k_unmd); (try (first | (with_reducible refine fold_comp ?_; intro XL YL ZL) | (with_reducible refine fold_for ?_; intro QL EL) | (with_reducible refine fold_while ?_; intro QL RL EL) | k_fold)); (first | refine el_0_5 (zq4) ?_ | refine el_1_4 (zq4) ?_ | refine el_2_3 (zq4) ?_ | refine el_3_2 (zq4) ?_ | refine el_4_1 (zq4) ?_); (try clear zq4); intro ws hws hys hrest hap) | rintro I1 C1 D1 j v ys ⟨⟩ rest h1 tk1 oI1 oC1 mC1 E1 hv ⟨ws, hws, hys, hrest, hap⟩ hoff hIC hID hCD F2 N2 hit hC2
    have zq1 : ∃ x, ks[j]? = some x ∧ v = .ref x.U := by
      rw [List.getElem?_toArray, List.getElem?_map] at hv
      cases e : ks[j]? with
      | none => rw [e] at hv; cases hv
      | some x => rw [e] at hv; exact ⟨x, rfl, (Option.some.inj hv).symm⟩
    first | ((first | refine el_0_3 (zq1) ?_ | refine el_1_2 (zq1) ?_ | refine el_2_1 (zq1) ?_); (try clear zq1); intro x hx zq2; subst zq2) | obtain ⟨x, hx, rfl⟩ := zq1
    have hxm := List.mem_of_getElem? hx
    have KI := hks x hxm
    first | ((first | refine el_0_2 (hnum x hxm) ?_ | refine el_1_1 (hnum x hxm) ?_); intro hn0 hn1) | obtain ⟨hn0, hn1⟩ := hnum x hxm
    have zx := N2 (x.U, x.o) (.tail _ (.tail _ (.tail _ (List.mem_append_left _ (hmN _ KI.tup)))))
    refine comp_tuple (t := x.U) (l := kl) (j := j + 1) (xs := [(Str.ofString "below", _), (Str.ofString "number", _), (Str.ofString "lead", _), (Str.ofString "run", _)]) (vs := [.ref x.x.R.f, .int x.x.number x.tn, .str (txt x.x.lead) x.tl, .str (txt x.x.run) x.tr]) F2 N2 hC2 hIC (fun p hp => ?_) hit rfl ⟨_, zx.1, rfl, _, rfl⟩ rfl ?kinds rfl ?_
    · rcases List.mem_cons.mp hp with rfl | hp
      · exact hCD.sw
      · exact (hoff p hp).2.1
    case kinds =>
      intro q hq
      simp only [List.mem_cons, List.not_mem_nil, or_false] at hq
      rcases hq with rfl | rfl | rfl | rfl <;> with_unfolding_all rfl
    intro h3 tk3 oC3 F3 N3 hC3
    first | ((first | refine el_0_3 (show ∃ m, m = _ ∧ LCg.NsObj oC3 m from ⟨_, rfl, hC3⟩) ?_ | refine el_1_2 (show ∃ m, m = _ ∧ LCg.NsObj oC3 m from ⟨_, rfl, hC3⟩) ?_ | refine el_2_1 (show ∃ m, m = _ ∧ LCg.NsObj oC3 m from ⟨_, rfl, hC3⟩) ?_); intro m3 hm3 hC3') | obtain ⟨m3, hm3, hC3'⟩ : ∃ m, m = _ ∧ LCg.NsObj oC3 m := ⟨_, rfl, hC3⟩
    clear hC3 N2 F2 hC2 zx
    have hu3 : m3 (Str.ofString "number") = some (.int x.x.number x.tn) := by rw [hm3]; rfl
    have hr3 : m3 (Str.ofString "run") = some (.str (txt x.x.run) x.tr) := by rw [hm3]; rfl
    clear hm3
    refine CompTests.none ?_
    rw [if_pos rfl]
    refine CompEmit.last rfl ?_
    have N3' := N3
    rw [hnw] at N3'
    simp only [List.cons_append] at N3'
    have N4 := N3'
    clear N3'
    refine restart (gn := s.gens) (s := s) F3 rfl rfl rfl rfl ?_
    intro tk4
    (try k_unmd); (try k_fold); repeat' (first | ((fail_if_success (fail_if_success (with_reducible show wpAny _ _ (call (Value.ref _) _ _) _ _ _))); refine stop_of ?_) | walk_at "S1")
    unfold Stop
    rename Fr _ _ _ _ => F5
    rename News _ _ _ _ => N5
    k_dflt refine' hspec_use (touched := []) ?B F5 ?X (fun p hp => N5 p hp) ?T ?hk (width_ok w p loose mean mg mb (txt x.x.run) _ tab _ ht1 ht2) ?dis ?dp ?un ?_
    case B => assumption
    case X => assumption
    case T => assumption
    case hk => exact rfl
    case dis => exact fun _ _ q hq => nomatch hq
    case dp => omega
    case un => omega
    intro r tl upd h6 tk6 F6 N6 e6 o6 pw6 P6
    first | ((first | refine el_0_3 (P6) ?_ | refine el_1_2 (P6) ?_ | refine el_2_1 (P6) ?_); (try clear P6); intro t6 zq5 zq6; subst zq5; subst zq6) | obtain ⟨t6, rfl, rfl⟩ := P6
    obtain rfl := List.map_eq_nil_iff.mp e6
    simp only [List.nil_append] at N6
    clear F5 N5 e6 o6 pw6
    refine restart (gn := s.gens) (s := s) F6 rfl rfl rfl rfl ?_
    intro tk7
    try k_fold
    (try k_unmd); (try k_fold); repeat' (walk_at "S1")
    rename Fr _ _ _ _ => F8
    rename News _ _ _ _ => N8
    rename_i D9 h9 l9
    have hwl : ws.length ≤ 20 := by
      have q := congrArg List.length hws
      rw [List.length_map, List.length_map, List.length_take] at q
      omega
    have l10 : AllLt D9 (nw ++ rest) := by rw [hnw]; exact l9.2.2.2
    refine CE.intro ys () ((D9, tupO [.int (x.x.number.fdiv (2 ^ bs.toNat)) tk4, .int (colsTo tab (txt x.x.run).cps.toList) t6]) :: rest) F8 N8 hC3' (fun p hp => ?hs) trivial (fun p hp => ?hI) (by rw [sizeLine_eq, hys, List.length_map]; omega) ⟨ws ++ [⟨D9, x.x.number.fdiv (2 ^ bs.toNat), colsTo tab x.x.run, tk4, t6⟩], ?h1, ?h2, ?h3, ?h4⟩
    case hs =>
      rw [hnw] at hp
      exact Rf.sub (x := _) (l := [_, _, _, _, _, _, _, _, _, _]) (r := [_, _]) (.cons 0 (.cons 1 (.cons 2 (.app (.cons 3 (.cons 4 (.cons 5 (.cons 6 (.cons 7 (.cons 8 (.cons 9 (.leaf 0)))))))) (.cons 10 (.leaf 1)))))) (.cons 10 (.cons 0 (.cons 1 (.cons 2 (.cons 3 (.cons 4 (.cons 5 (.cons 6 (.cons 7 (.cons 8 (.cons 9 (.app (.leaf 0) (.leaf 1))))))))))))) (by decide) hp
    case hI =>
      rcases List.mem_append.mp hp with h | h
      · exact hoff p (List.mem_append_left _ h)
      · rcases List.mem_cons.mp h with rfl | h
        · exact ⟨Apt.gt l9.1, Apt.gt l9.2.1, Apt.gt l9.2.2.1⟩
        · exact hoff p (List.mem_append_right _ h)
    case h1 =>
      rw [List.map_append, hws, take_map _ hx]
      rfl
    case h2 =>
      rw [hys, List.map_append]
      rfl
    case h3 =>
      rw [hrest, List.map_append, List.reverse_append]
      rfl
    case h4 => exact apt_perm (apt_fresh l10 hap) List.perm_middle.symm
  case done1 =>
    intro C1 D1 oC1 mC1 ys u1 rest h1 tk1 f1 hP1 hI1 hCD F2 N2 hC2
    first | ((first | refine el_0_5 (hP1) ?_ | refine el_1_4 (hP1) ?_ | refine el_2_3 (hP1) ?_ | refine el_3_2 (hP1) ?_ | refine el_4_1 (hP1) ?_); (try clear hP1); intro ws hws hys hrest hap) | obtain ⟨ws, hws, hys, hrest, hap⟩ := hP1
    have es2 : (List.toArray (ks.map fun k => Value.ref k.U)).size = ks.length := by rw [List.size_toArray, List.length_map]
    rw [es2, List.take_length] at hws
    refine' post_assign ?pa1 ?pa2 ?pa3 ?pa4 ?pa5 ?pa6 ?pa7 ?_
    case pa3 => exact F2
    case pa4 => exact N2
    case pa5 => exact hC2
    case pa6 => exact hCD
    case pa7 => exact fun p hp => (hI1 p hp).1
    case pa1 => rfl
    case pa2 => rfl
    intro h3 tk3 F3 N3
    subst hys
    have F4 : Fr g L h3 _ := F3
    have N4 : News g L h3 _ := N3
    rw [hrest] at N4 hap hI1
    have AP : AptAll ((D1, LCg.lst (ws.map fun x => Value.ref x.a)) :: (nw ++ (ws.map Col.o).reverse)) := List.pairwise_cons.mpr ⟨fun b hb => by
      first | ((first | refine el_0_3 (List.mem_map.mp hb) ?_ | refine el_1_2 (List.mem_map.mp hb) ?_ | refine el_2_1 (List.mem_map.mp hb) ?_); intro q hq zq7; subst zq7) | obtain ⟨q, hq, rfl⟩ := List.mem_map.mp hb
      exact (hI1 q hq).2.sw, hap⟩
    rw [hnw] at N4 AP
    simp only [List.cons_append] at N4 AP
    exact next ws D1 h3 tk3 hws F4 N4 AP

end
-- LAWY
section
open PySem PySem.Spec PySem.W PyProof.Rows PySem.Calls PyProof.V
theorem ways_perm {α : Type} (D2 kl Dw c6 c5 c4 c3 c2 c1 : α) (R NL : List α) : ((D2 :: R) ++ (Dw :: c6 :: c5 :: c4 :: c3 :: c2 :: c1 :: kl :: NL)).Perm (kl :: c6 :: c5 :: c4 :: c3 :: c2 :: c1 :: Dw :: D2 :: (NL ++ R)) :=
  Rf.perm (x := _) (l := [_, _, _, _, _, _, _, _]) (r := [_, _]) (.app (.cons 0 (.leaf 0)) (.cons 1 (.cons 2 (.cons 3 (.cons 4 (.cons 5 (.cons 6 (.cons 7 (.cons 8 (.leaf 1)))))))))) (.cons 8 (.cons 2 (.cons 3 (.cons 4 (.cons 5 (.cons 6 (.cons 7 (.cons 1 (.cons 0 (.app (.leaf 1) (.leaf 0))))))))))) (by decide)
theorem ways_stage (w : World) (p : Program) (loose : List Str) (mean : ExcName → Option Value) (mg mb : Str → Option Value) {A₀ : Around} {base g : Heap} {L a : Addr} {ccd : Value} {dp un : Nat} {gd : Option (List Code)} {s : Shared} {Q : Flow → Shared → Prop} {E : Value → Shared → Prop} {u0 : Str → Option Value}
    (B : Below A₀ base [] g) (X : (hd.heap_39 w.params).In g) (T : Top p loose mean mg mb g) (hdp : dp + 40 < recursionLimit) (hun : un + 800 < cLine) (hE : PassesOwn (model PySem.Challenge.pw_xb0026_01 w) (ktrTop dp un gd (Str.ofString "law") lawScope L a ccd (cellsFrom (L + 1) lawScope.names []) []) (lawEnv L a ccd) E)
    (kl k2 Dw : Addr) (ck : Nat) (ks : List Kt) (wds : List Col) (bs tab : Int) (tbs ttab : Tok) (ob ot oy os oi oo : Obj) (NL : Ledger)
    (F : Fr g L s.heap (fun y => if y = Str.ofString "widths" then some (Value.ref Dw) else if y = Str.ofString "kept" then some (Value.ref kl) else u0 y))
    (N : News g L s.heap ((Dw, LCg.lst (wds.map fun x => Value.ref x.a)) :: (L + 1 + 1 + 1 + 1 + 1 + 1, oo) :: (L + 1 + 1 + 1 + 1 + 1, oi) :: (L + 1 + 1 + 1 + 1, os) :: (L + 1 + 1 + 1, oy) :: (L + 1 + 1, ot) :: (L + 1, ob) :: (kl, listOf (List.toArray (ks.map fun k => Value.ref k.U)) ck) :: NL))
    (PW : AptAll ((Dw, LCg.lst (wds.map fun x => Value.ref x.a)) :: (L + 1 + 1 + 1 + 1 + 1 + 1, oo) :: (L + 1 + 1 + 1 + 1 + 1, oi) :: (L + 1 + 1 + 1 + 1, os) :: (L + 1 + 1 + 1, oy) :: (L + 1 + 1, ot) :: (L + 1, ob) :: (kl, listOf (List.toArray (ks.map fun k => Value.ref k.U)) ck) :: NL))
    (hks : ∀ k ∈ ks, KtIn NL w p loose mean mg mb k2 k) (hkl : ks.length ≤ 20) (hwd : ∀ x ∈ wds, x.o ∈ NL) (hwl : wds.length ≤ 20)
    (hb1 : 0 ≤ bs) (hb2 : bs < 30) (ht1 : 1 ≤ tab) (ht2 : tab ≤ 6) (hnum : ∀ k ∈ ks, 0 ≤ k.x.number ∧ k.x.number < 2 ^ 40)
    (hlead : ∀ k ∈ ks, (∀ c ∈ k.x.lead, c = 32 ∨ c = 9) ∧ k.x.lead.length ≤ 200)
    (hind : ∀ k ∈ ks, 0 ≤ indentOf tab (wsOf k.x.lead) ∧ indentOf tab (wsOf k.x.lead) < 2 ^ 40)
    (hoo : ∃ v, CellO oo v) (hoi : ∃ v, CellO oi v) (hos : ∃ v, CellO os v) (hoy : ∃ v, CellO oy v) (hob : ob.data = .cell (some (.int bs tbs))) (hot : ot.data = .cell (some (.int tab ttab)))
    (pl : ∀ cols : List Col, cols.map colP = ks.map (fun k => (k.x.number.fdiv (2 ^ bs.toNat), indentOf tab (wsOf k.x.lead))) → ∀ k : Nat, k < 15 → ∀ M : Int, M ∈ quads (wayOf cols) (insTo (1 + (k : Int) * 2) 5) (outTo (insTo (1 + (k : Int) * 2) 5) 5) → (∀ v ∈ quads (wayOf cols) (insTo (1 + (k : Int) * 2) 5) (outTo (insTo (1 + (k : Int) * 2) 5) 5), M ≤ v) → M ≠ 2 * (ownOf wds (1 + (k : Int) * 2)).sum → ownOf wds (1 + (k : Int) * 2) = [] ∧ M ≤ 0)
    (fin : ∀ h' tk m', Fr g L h' m' → Q (.ret (.bool true)) { s with heap := h', toks := tk }) :
    wpAny (model PySem.Challenge.pw_xb0026_01 w) (ktrTop dp un gd (Str.ofString "law") lawScope L a ccd (cellsFrom (L + 1) lawScope.names []) []) (execs (lawBody.drop 7) (lawEnv L a ccd)) Q E s := by
  first | ((first | refine el_0_2 (hoo) ?_ | refine el_1_1 (hoo) ?_); (try clear hoo); intro vo hoo) | obtain ⟨vo, hoo⟩ := hoo
  first | ((first | refine el_0_2 (hoi) ?_ | refine el_1_1 (hoi) ?_); (try clear hoi); intro vi hoi) | obtain ⟨vi, hoi⟩ := hoi
  first | ((first | refine el_0_2 (hos) ?_ | refine el_1_1 (hos) ?_); (try clear hos); intro vs hos) | obtain ⟨vs, hos⟩ := hos
  first | ((first | refine el_0_2 (hoy) ?_ | refine el_1_1 (hoy) ?_); (try clear hoy); intro vy hoy) | obtain ⟨vy, hoy⟩ := hoy
  have hoo' : oo.data = .cell vo := hoo
  have hoi' : oi.data = .cell vi := hoi
  have hos' : os.data = .cell vs := hos
  have hoy' : oy.data = .cell vy := hoy
  w_on
  conv =>
    arg 3
    arg 1
    whnf
  unfold lawEnv at *
  conv in (occs := *) lawScope => all_goals whnf
  refine let_A ?_
  intro A9
  refine let_env ?_
  intro env9
  (try k_unmd); (try k_fold); repeat' (first | ((fail_if_success (fail_if_success (with_reducible show wpAny _ _ (eval (Expr.ListComp _ _ _ _) _) _ _ _))); k_dflt (refine comp_eval (by with_unfolding_all rfl) (by rfl) (by decide) ?_)) | walk_at "S1")
  rename Fr _ _ _ _ => F1
  rename News _ _ _ _ => N1
  generalize hWO : listOf (List.toArray (ks.map fun k => Value.ref k.U)) ck = kO at *
  generalize hDO : LCg.lst (wds.map fun x => Value.ref x.a) = dO at *
  first | ((first | refine el_0_3 (show ∃ nw, nw = _ ∧ News g _ _ nw from ⟨_, rfl, N1⟩) ?_ | refine el_1_2 (show ∃ nw, nw = _ ∧ News g _ _ nw from ⟨_, rfl, N1⟩) ?_ | refine el_2_1 (show ∃ nw, nw = _ ∧ News g _ _ nw from ⟨_, rfl, N1⟩) ?_); intro nw hnw N1') | obtain ⟨nw, hnw, N1'⟩ : ∃ nw, nw = _ ∧ News g _ _ nw := ⟨_, rfl, N1⟩
  have PWn : AptAll nw := by rw [hnw]; exact PW
  have hmk : (kl, kO) ∈ nw := by rw [hnw]; k_mem
  have hmN : ∀ q ∈ NL, q ∈ nw := by
    intro q hq
    rw [hnw]
    repeat (first | exact hq | refine List.Mem.tail _ ?_)
  k_dflt refine' comp_list (α := Unit) (l := kl) (ol := kO) (items := List.toArray (ks.map fun k => Value.ref k.U)) (fun _ => nw) (fun j ys _ rest => ∃ ws : List Col, ws.map colP = (ks.take j).map (fun k => (k.x.number.fdiv (2 ^ bs.toNat), indentOf tab (wsOf k.x.lead))) ∧ ys = ws.map (fun x => Value.ref x.a) ∧ rest = (ws.map Col.o).reverse ∧ AptAll (nw ++ rest)) () [] rfl (by decide) rfl (by intro _ _ h; cases h) F1 (fun p hp => N1' p (by simpa using hp)) ⟨by rw [← hWO], ck, by rw [← hWO]⟩ ⟨[], rfl, rfl, rfl, by rw [List.append_nil]; exact PWn⟩ ?side1 ?turn1 ?done1
  case side1 => exact fun k y7 a rest7 h _ _ N => (N _ (List.mem_append_left _ hmk)).1
  case turn1 =>
    first | (intro I1 C1 D1 j v ys zq3 rest h1 tk1 oI1 oC1 mC1 E1 hv zq4 hoff hIC hID hCD F2 N2 hit hC2; (try k_unmd); (try (first | (with_reducible refine fold_comp ?_; intro XL YL ZL) | (with_reducible refine fold_for ?_; intro QL EL) | (with_reducible refine fold_while ?_; intro QL RL EL) | k_fold)); (first | refine el_0_5 (zq4) ?_ | refine el_1_4 (zq4) ?_ | refine el_2_3 (zq4) ?_ | refine el_3_2 (zq4) ?_ | refine el_4_1 (zq4) ?_); (try clear zq4); intro ws hws hys hrest hap) | rintro I1 C1 D1 j v ys ⟨⟩ rest h1 tk1 oI1 oC1 mC1 E1 hv ⟨ws, hws, hys, hrest, hap⟩ hoff hIC hID hCD F2 N2 hit hC2
    have zq1 : ∃ x, ks[j]? = some x ∧ v = .ref x.U := by
      rw [List.getElem?_toArray, List.getElem?_map] at hv
      cases e : ks[j]? with
      | none => rw [e] at hv; cases hv
      | some x => rw [e] at hv; exact ⟨x, rfl, (Option.some.inj hv).symm⟩
    first | ((first | refine el_0_3 (zq1) ?_ | refine el_1_2 (zq1) ?_ | refine el_2_1 (zq1) ?_); (try clear zq1); intro x hx zq2; subst zq2) | obtain ⟨x, hx, rfl⟩ := zq1
    have hxm := List.mem_of_getElem? hx
    have KI := hks x hxm
    first | ((first | refine el_0_2 (hnum x hxm) ?_ | refine el_1_1 (hnum x hxm) ?_); intro hn0 hn1) | obtain ⟨hn0, hn1⟩ := hnum x hxm
    have zx := N2 (x.U, x.o) (.tail _ (.tail _ (.tail _ (List.mem_append_left _ (hmN _ KI.tup)))))
    refine comp_tuple (t := x.U) (l := kl) (j := j + 1) (xs := [(Str.ofString "below", _), (Str.ofString "number", _), (Str.ofString "lead", _), (Str.ofString "run", _)]) (vs := [.ref x.x.R.f, .int x.x.number x.tn, .str (txt x.x.lead) x.tl, .str (txt x.x.run) x.tr]) F2 N2 hC2 hIC (fun p hp => ?_) hit rfl ⟨_, zx.1, rfl, _, rfl⟩ rfl ?kinds rfl ?_
    · rcases List.mem_cons.mp hp with rfl | hp
      · exact hCD.sw
      · exact (hoff p hp).2.1
    case kinds =>
      intro q hq
      simp only [List.mem_cons, List.not_mem_nil, or_false] at hq
      rcases hq with rfl | rfl | rfl | rfl <;> with_unfolding_all rfl
    intro h3 tk3 oC3 F3 N3 hC3
    first | ((first | refine el_0_3 (show ∃ m, m = _ ∧ LCg.NsObj oC3 m from ⟨_, rfl, hC3⟩) ?_ | refine el_1_2 (show ∃ m, m = _ ∧ LCg.NsObj oC3 m from ⟨_, rfl, hC3⟩) ?_ | refine el_2_1 (show ∃ m, m = _ ∧ LCg.NsObj oC3 m from ⟨_, rfl, hC3⟩) ?_); intro m3 hm3 hC3') | obtain ⟨m3, hm3, hC3'⟩ : ∃ m, m = _ ∧ LCg.NsObj oC3 m := ⟨_, rfl, hC3⟩
    clear hC3 N2 F2 hC2 zx
    have hu3 : m3 (Str.ofString "number") = some (.int x.x.number x.tn) := by rw [hm3]; rfl
    have hf3 : m3 (Str.ofString "below") = some (.ref x.x.R.f) := by rw [hm3]; rfl
    clear hm3
    refine CompTests.none ?_
    rw [if_pos rfl]
    refine CompEmit.last rfl ?_
    have N3' := N3
    rw [hnw] at N3'
    simp only [List.cons_append] at N3'
    have N4 := N3'
    clear N3'
    have hPd := KI.ok.ok.dict
    first | ((first | refine el_0_3 (KI.ok.at_) ?_ | refine el_1_2 (KI.ok.at_) ?_ | refine el_2_1 (KI.ok.at_) ?_); intro atl atp hAt) | obtain ⟨atl, atp, hAt⟩ := KI.ok.at_
    have hsy := KI.ok.sys
    have hf := KI.fn
    have hD := KI.dict
    have hat := KI.at_
    have hl100 : x.x.lead.length ≤ 100000 := by
      have := (hlead x hxm).2
      omega
    refine restart (gn := s.gens) (s := s) F3 rfl rfl rfl rfl ?_
    intro tk4
    (try k_unmd); (try k_fold); repeat' (first | ((fail_if_success (fail_if_success (with_reducible show wpAny _ _ (getAttr (Value.ref _) _ _) _ _ _))); k_dflt (refine' fnK_load ?y9F ?y9N ?y9hf ?y9hD ?y9n ?y9v ?y9mi ?y9hh ?_; (case y9F => k_asm); (case y9N => k_asm); (case y9hf => k_mem); (case y9hD => k_mem); (case y9n => assumption); (case y9v => exact rfl); (case y9mi => exact am_miss_of_fast (by kernel_rfl)); (case y9hh => exact rfl); k_whole; intro _; (try dsimp only))) | ((fail_if_success (fail_if_success (with_reducible show wpAny _ _ (subscriptTail _ _ _ _) _ _ _))); (with_reducible show wpAny _ _ (subscriptTail _ _ (Value.ref _) (Value.str _ _)) _ _ _); (with_unfolding_all refine' sub_lead ?y9N ?y9m ?y9d ?y9s ?_ ?y9q ?y9g; (case y9N => k_asm); (case y9m => k_mem); (case y9d => with_reducible assumption); (case y9s => with_reducible assumption); (case y9q => with_unfolding_all rfl); (case y9g => (intro _; with_unfolding_all rfl))); intro _ _) | ((fail_if_success (fail_if_success (with_reducible show wpAny _ _ (binaryOp Operator.Add (Value.str _ _) (Value.str _ _)) _ _ _))); (with_reducible show wpAny _ _ (binaryOp Operator.Add (Value.str (txt _) _) (Value.str (Str.ofString "x") _)) _ _ _); (refine add_x ?y9z ?_; (case y9z => with_reducible assumption)); intro _ _) | ((fail_if_success (fail_if_success (with_reducible show wpAny _ _ (call (Value.ref _) _ _) _ _ _))); refine stop_of ?_) | walk_at "S1")
    rename Fr _ _ _ _ => F5
    rename News _ _ _ _ => N5
    unfold Stop
    k_dflt refine' hspec_use (touched := []) ?B F5 ?X (fun p hp => N5 p hp) ?T ?hk (init_ok w p loose mean mg mb x.x.lead _ (hlead x hxm).1 (hlead x hxm).2) ?dis ?dp ?un ?_
    case B => assumption
    case X => assumption
    case T => assumption
    case hk => exact rfl
    case dis => exact fun _ _ q hq => nomatch hq
    case dp => omega
    case un => omega
    intro r tl upd h6 tk6 F6 N6 e6 o6 pw6 P6
    first | ((first | refine el_0_18 (P6) ?_ | refine el_1_17 (P6) ?_ | refine el_2_16 (P6) ?_ | refine el_3_15 (P6) ?_ | refine el_4_14 (P6) ?_ | refine el_5_13 (P6) ?_ | refine el_6_12 (P6) ?_ | refine el_7_11 (P6) ?_ | refine el_8_10 (P6) ?_ | refine el_9_9 (P6) ?_ | refine el_10_8 (P6) ?_ | refine el_11_7 (P6) ?_ | refine el_12_6 (P6) ?_); (try clear P6); intro xx dx T1 T0 vs6 tb6 n6 tn6 tnt6 smp6 a1 a2 a3 a4 a5 zq5 zq6 hvs6; subst zq5; subst zq6) | obtain ⟨xx, dx, T1, T0, vs6, tb6, n6, tn6, tnt6, smp6, a1, a2, a3, a4, a5, rfl, rfl, hvs6⟩ := P6
    obtain rfl := List.map_eq_nil_iff.mp e6
    simp only [List.nil_append, List.cons_append] at N6 o6 pw6
    have dxx : @Ne Nat xx dx := by
      have q1 := List.pairwise_cons.mp (List.pairwise_cons.mp (List.pairwise_cons.mp pw6).2).2
      exact (q1.1 dx (.head _)).ne
    clear F5 N5 e6 pw6
    refine restart (gn := s.gens) (s := s) F6 rfl rfl rfl rfl ?_
    intro tk7
    (try k_unmd); (try k_fold); repeat' (first | ((fail_if_success (fail_if_success (with_reducible show wpAny _ _ (call (Value.ref _) _ _) _ _ _))); refine stop_of ?_) | walk_at "S1")
    unfold Stop
    rename Fr _ _ _ _ => F8
    rename News _ _ _ _ => N8
    have hwc : (wsOf x.x.lead).cs.length ≤ 200 := by
      have q1 := (ws_le x.x.lead ⟨[], 0, 0, 0⟩).2
      have q2 := (hlead x hxm).2
      have q3 : (wsOf x.x.lead).cs.length ≤ max 0 (0 + x.x.lead.length) := q1
      omega
    k_dflt refine' hspec_use (touched := [(T1, _), (T0, _), (xx, _), (dx, _)]) ?B F8 ?X (fun p hp => N8 p hp) ?T ?hk (indent_ok w p loose mean mg mb xx dx T1 T0 vs6 _ smp6 (wsOf x.x.lead) tb6 tn6 tnt6 a1 a2 a3 a4 a5 ttab n6 tab ht1 ht2 hvs6 hwc dxx) ?dis ?dp ?un ?_
    case B => assumption
    case X => assumption
    case T => assumption
    case hk => exact rfl
    case dis =>
      intro q hq q' hq' e
      simp only [List.mem_cons, List.not_mem_nil, or_false] at hq'
      rcases hq' with rfl | rfl | rfl | rfl
      · exact (o6 _ (.head _) q hq).ne e.symm
      · exact (o6 _ (.tail _ (.head _)) q hq).ne e.symm
      · exact (o6 _ (.tail _ (.tail _ (.head _))) q hq).ne e.symm
      · exact (o6 _ (.tail _ (.tail _ (.tail _ (.head _)))) q hq).ne e.symm
    case dp => omega
    case un => omega
    intro r tl upd h9 tk9 F9 N9 e9 o9 pw9 P9
    first | ((first | refine el_0_3 (P9) ?_ | refine el_1_2 (P9) ?_ | refine el_2_1 (P9) ?_); (try clear P9); intro t9 zq7 zq8; subst zq7; subst zq8) | obtain ⟨t9, rfl, rfl⟩ := P9
    have N10 := fun q hq => N9 q (List.mem_append_right _ (List.mem_append_right _ hq))
    clear F8 N8 e9 o9 pw9 N9 o6
    refine restart (gn := s.gens) (s := s) F9 rfl rfl rfl rfl ?_
    intro tk10
    have N11 : News g L h9 _ := N10
    clear N10
    (try k_unmd); (try k_fold); repeat' (walk_at "S1")
    rename Fr _ _ _ _ => F12
    rename News _ _ _ _ => N12
    rename_i D9 h9 l9
    have hwl' : ws.length ≤ 20 := by
      have q := congrArg List.length hws
      rw [List.length_map, List.length_map, List.length_take] at q
      omega
    have l10 : AllLt D9 (nw ++ rest) := by rw [hnw]; exact l9.2.2.2
    refine CE.intro ys () ((D9, tupO [.int (x.x.number.fdiv (2 ^ bs.toNat)) tk4, .int (indentOf tab (wsOf x.x.lead)) t9]) :: rest) F12 N12 hC3' (fun p hp => ?hs) trivial (fun p hp => ?hI) (by rw [sizeLine_eq, hys, List.length_map]; omega) ⟨ws ++ [⟨D9, x.x.number.fdiv (2 ^ bs.toNat), indentOf tab (wsOf x.x.lead), tk4, t9⟩], ?h1, ?h2, ?h3, ?h4⟩
    case hs =>
      rw [hnw] at hp
      exact Rf.sub (x := _) (l := [_, _, _, _, _, _, _, _, _, _, _]) (r := [_, _]) (.cons 0 (.cons 1 (.cons 2 (.app (.cons 3 (.cons 4 (.cons 5 (.cons 6 (.cons 7 (.cons 8 (.cons 9 (.cons 10 (.leaf 0))))))))) (.cons 11 (.leaf 1)))))) (.cons 11 (.cons 0 (.cons 1 (.cons 2 (.cons 3 (.cons 4 (.cons 5 (.cons 6 (.cons 7 (.cons 8 (.cons 9 (.cons 10 (.app (.leaf 0) (.leaf 1)))))))))))))) (by decide) hp
    case hI =>
      rcases List.mem_append.mp hp with h | h
      · exact hoff p (List.mem_append_left _ h)
      · rcases List.mem_cons.mp h with rfl | h
        · exact ⟨Apt.gt l9.1, Apt.gt l9.2.1, Apt.gt l9.2.2.1⟩
        · exact hoff p (List.mem_append_right _ h)
    case h1 =>
      rw [List.map_append, hws, take_map _ hx]
      rfl
    case h2 =>
      rw [hys, List.map_append]
      rfl
    case h3 =>
      rw [hrest, List.map_append, List.reverse_append]
      rfl
    case h4 => exact apt_perm (apt_fresh l10 hap) List.perm_middle.symm
  case done1 =>
    intro C1 D1 oC1 mC1 ys u1 rest h1 tk1 f1 hP1 hI1 hCD F2 N2 hC2
    first | ((first | refine el_0_5 (hP1) ?_ | refine el_1_4 (hP1) ?_ | refine el_2_3 (hP1) ?_ | refine el_3_2 (hP1) ?_ | refine el_4_1 (hP1) ?_); (try clear hP1); intro ws hws hys hrest hap) | obtain ⟨ws, hws, hys, hrest, hap⟩ := hP1
    have es2 : (List.toArray (ks.map fun k => Value.ref k.U)).size = ks.length := by rw [List.size_toArray, List.length_map]
    rw [es2, List.take_length] at hws
    refine' post_eval F2 N2 hC2 hCD (fun p hp => (hI1 p hp).1) ?_
    intro h3 F3 N3
    subst hys
    rw [hrest] at N3 hap hI1
    have AP : AptAll ((D1, LCg.lst (ws.map fun x => Value.ref x.a)) :: (nw ++ (ws.map Col.o).reverse)) := List.pairwise_cons.mpr ⟨fun b hb => by
      first | ((first | refine el_0_3 (List.mem_map.mp hb) ?_ | refine el_1_2 (List.mem_map.mp hb) ?_ | refine el_2_1 (List.mem_map.mp hb) ?_); intro q hq zq9; subst zq9) | obtain ⟨q, hq, rfl⟩ := List.mem_map.mp hb
      exact (hI1 q hq).2.sw, hap⟩
    have AP' := AP
    rw [hnw] at N3 AP'
    simp only [List.cons_append] at N3 AP'
    refine restart (gn := s.gens) (s := s) F3 rfl rfl rfl rfl ?_
    intro tk4
    (try k_unmd); (try k_fold); repeat' (first | ((fail_if_success (fail_if_success (with_reducible show wpAny _ _ (call (Value.ref _) _ _) _ _ _))); refine stop_of ?_) | walk_at "S1")
    try unfold Stop
    rename Fr _ _ _ _ => F4
    rename News _ _ _ _ => N4
    have hcol : ∀ c ∈ ws, 0 ≤ c.leaves ∧ c.leaves < 2 ^ 40 ∧ 0 ≤ c.column ∧ c.column < 2 ^ 40 := by
      intro c hc
      have q1 : colP c ∈ ws.map colP := List.mem_map_of_mem hc
      rw [hws] at q1
      first | ((first | refine el_0_3 (List.mem_map.mp q1) ?_ | refine el_1_2 (List.mem_map.mp q1) ?_ | refine el_2_1 (List.mem_map.mp q1) ?_); intro k hk ek) | obtain ⟨k, hk, ek⟩ := List.mem_map.mp q1
      have e1 : k.x.number.fdiv (2 ^ bs.toNat) = c.leaves := congrArg Prod.fst ek
      have e2 : indentOf tab (wsOf k.x.lead) = c.column := congrArg Prod.snd ek
      first | ((first | refine el_0_2 (hnum k hk) ?_ | refine el_1_1 (hnum k hk) ?_); intro n0 n1) | obtain ⟨n0, n1⟩ := hnum k hk
      first | ((first | refine el_0_2 (hind k hk) ?_ | refine el_1_1 (hind k hk) ?_); intro i0 i1) | obtain ⟨i0, i1⟩ := hind k hk
      rw [← e1, ← e2]
      rw [Int.fdiv_eq_ediv_of_nonneg _ (Int.le_of_lt (kbt_pos bs.toNat))]
      exact ⟨Int.ediv_nonneg n0 (Int.le_of_lt (kbt_pos bs.toNat)), Int.lt_of_le_of_lt (Int.ediv_le_self _ n0) n1, i0, i1⟩
    have hwl20 : ws.length ≤ 20 := by
      have q := congrArg List.length hws
      rw [List.length_map, List.length_map] at q
      omega
    k_dflt refine' hspec_use (touched := (D1, listOf (List.toArray (ws.map fun x => Value.ref x.a)) (ws.map fun x => Value.ref x.a).length) :: ws.map Col.o) (rest := nw) ?B F4 ?X (fun p hp => N4 p ?perm) ?T ?hk (ways_ok w p loose mean mg mb D1 _ ws hwl20 hcol) ?dis ?dp ?un ?_
    case B => assumption
    case X => assumption
    case T => assumption
    case hk => exact rfl
    case perm =>
      rw [hnw] at hp
      simp only [List.cons_append, List.mem_cons, List.mem_append, List.mem_reverse] at hp ⊢
      rcases hp with h | h | h | h | h | h | h | h | h | h | h
      all_goals simp only [h, true_or, or_true]
    case dis =>
      intro q hq q' hq'
      have AD := (List.pairwise_cons.mp AP).1
      rcases List.mem_cons.mp hq' with rfl | hq'
      · exact (AD q.1 (List.mem_map_of_mem (List.mem_append_left _ hq))).ne'
      · exact (apt_split hap q' (List.mem_reverse.mpr hq') q hq).symm
    case dp => omega
    case un => omega
    intro r tl upd h9 tk9 F9 N9 e9 o9 pw9 P9
    first | ((first | refine el_0_6 (P9) ?_ | refine el_1_5 (P9) ?_ | refine el_2_4 (P9) ?_ | refine el_3_3 (P9) ?_ | refine el_4_2 (P9) ?_ | refine el_5_1 (P9) ?_); (try clear P9); intro hupd D2 rows hRows zq10 htl; subst zq10) | obtain ⟨hupd, D2, rows, hRows, rfl, htl⟩ := P9
    subst htl
    have AT : AptAll (((D2, LCg.lst (rows.map fun (q : Addr × List Value) => Value.ref q.1).reverse) :: rows.map fun q => (q.1, LCg.lst q.2)) ++ nw) := apt_join pw9 PWn fun q hq q' hq' => o9 q hq q' (List.mem_append_right _ hq')
    have NT : News g L h9 (((D2, LCg.lst (rows.map fun (q : Addr × List Value) => Value.ref q.1).reverse) :: rows.map fun q => (q.1, LCg.lst q.2)) ++ nw) := fun q hq => N9 q (by
      rcases List.mem_append.mp hq with h | h
      · exact List.mem_append_left _ h
      · exact List.mem_append_right _ (List.mem_append_right _ h))
    rw [hnw] at AT NT
    have PX := ways_perm (D2, LCg.lst (rows.map fun (q : Addr × List Value) => Value.ref q.1).reverse) (kl, kO) (Dw, dO) (L + 1 + 1 + 1 + 1 + 1 + 1, oo) (L + 1 + 1 + 1 + 1 + 1, oi) (L + 1 + 1 + 1 + 1, os) (L + 1 + 1 + 1, oy) (L + 1 + 1, ot) (L + 1, ob) (rows.map fun q => (q.1, LCg.lst q.2)) NL
    have AF := (apt_cons (apt_perm AT PX)).2
    have NF := fun q hq => NT q (PX.mem_iff.mpr (List.mem_cons_of_mem _ hq))
    have q1 := apt_cons AF
    have q2 := apt_cons q1.2
    have q3 := apt_cons q2.2
    have q4 := apt_cons q3.2
    have nD2 : @Ne Nat D2 (L + 1 + 1 + 1) := q4.1 (D2, LCg.lst (rows.map fun (q : Addr × List Value) => Value.ref q.1).reverse) (.tail _ (.tail _ (.tail _ (.head _))))
    have nDw : @Ne Nat Dw (L + 1 + 1 + 1) := q4.1 (Dw, dO) (.tail _ (.tail _ (.head _)))
    have nR : ∀ q ∈ NL ++ rows.map (fun (q : Addr × List Value) => (q.1, LCg.lst q.2)), q.1 ≠ L + 1 + 1 + 1 := fun q hq => q4.1 q (.tail _ (.tail _ (.tail _ (.tail _ hq))))
    clear q1 q2 q3 q4 NT AT N9 o9 pw9 e9
    refine restart (gn := s.gens) (s := s) F9 rfl rfl rfl rfl ?_
    intro tk10
    have N11 : News g L h9 _ := NF
    clear NF
    (try k_unmd); (try k_fold); repeat' (first | ((fail_if_success (fail_if_success (with_reducible show wpAny _ _ (execs (Stmt.For _ _ _ _ _ :: _) _) _ _ _))); (with_reducible show wpAny _ _ (execs (Stmt.For _ _ _ _ _ :: _) _) _ _ _); refine stop_of ?_) | walk_at "S1")
    try unfold Stop
    rename Fr _ _ _ _ => F12
    rename News _ _ _ _ => N12
    rename Obj.data _ = Data.cell (some (Value.ref D2)) => dY
    subst hDO
    refine restart (gn := s.gens) (s := s) F12 rfl rfl rfl rfl ?_
    intro tk13
    exact tail_ok w p loose mean mg mb (s := { s with heap := _, toks := tk13, gens := s.gens }) (by assumption) (by assumption) (by assumption) hdp hun hE Dw _ wds ws D2 rows ob ot _ os oi oo _ hRows F12 N12 AF (fun q hq => List.mem_append_right _ (List.mem_map_of_mem hq)) (fun x hx => List.mem_append_left _ (hwd x hx)) hwl ⟨_, hoo⟩ ⟨_, hoi⟩ ⟨_, hos⟩ dY (pl ws hws) (fun h' tk m' F' => fin h' tk m' F')

end
-- EQP
section
open PySem PySem.Spec PySem.W PyProof.Rows PySem.Calls PyProof.V
open PySem.SeqAt AutoSeq1 MeetsSeq MeetsSeq2 MeetsSeq3 SeqRoads2
section
variable {prog : Program} {w : World} {A : Around} {E : Value → Shared → Prop} {s : Shared}
/-- the two values are equal, in this program and this world -/
noncomputable def EqP (prog : Program) (w : World) (A : Around) (s : Shared) (y x : Value) : Prop := ∀ (E : Value → Shared → Prop) (Q : Bool → Shared → Prop), Q true s → wpAny (model prog w) A (eqBool y x) Q E s
theorem EqP.flat {y x : Value} {d : PyData} (f : Flat y d) (g : Flat x d) (hd : PyData.eqv d d = true) : EqP prog w A s y x := fun E Q hq => keq_flat f g prog w E Q (by rw [hd]; exact hq)
theorem EqP.refs {l b : Addr} (hne : l ≠ b) (h : ∀ (E Q : Value → Shared → Prop), Q (.bool true) s → wpAny (model prog w) A (richCompare .Eq (.ref l) (.ref b)) Q E s) : EqP prog w A s (.ref l) (.ref b) := fun E Q hq => by
  unfold eqBool
  refine wpAny_holding (wpAny_ite_split (fun e => absurd (by have := eq_of_beq e; injection this) hne) fun _ => ?_)
  exact wpAny_bind (h E _ (wpAny_truthy_bool hq))
/-- two pairs with equal parts -/
theorem pair_eqP {l b : Addr} {x1 x2 y1 y2 : Value} {Q : Value → Shared → Prop} (h1 : s.heap.get? l = some (tupO [x1, x2])) (h2 : s.heap.get? b = some (tupO [y1, y2])) (e1 : EqP prog w A.in1 s x1 y1) (e2 : EqP prog w A.in1 s x2 y2) (hu : A.units < cLine)
    (h : Q (.bool true) s) : wpAny (model prog w) A (richCompare .Eq (.ref l) (.ref b)) Q E s := by
  refine wpAny_richCompare_same_room (op := .Eq) ⟨_, h1, rfl⟩ ⟨_, h2, rfl⟩ F.slot_tuple_eq (call_meetsIn (S := fun A' R s' => A' = A ∧ s' = s ∧ R (.ok (.ret (.bool true))) s) F.slot_tuple_eq ⟨_, h1, rfl⟩ F.entry_tuple_eq (F.args_tuple_eq_2 _ _) (MeetsIn.of_wp ?_) ⟨rfl, rfl, (fun x => nomatch x), h⟩) hu
  first | (intro A' R s' zq1; (first | refine el_0_3 (zq1) ?_ | refine el_1_2 (zq1) ?_ | refine el_2_1 (zq1) ?_); (try clear zq1); intro zq2 zq3 hR; subst zq2; subst zq3) | rintro A' R s' ⟨rfl, rfl, hR⟩
  first | ((first | refine el_0_5 (s') ?_ | refine el_1_4 (s') ?_ | refine el_2_3 (s') ?_ | refine el_3_2 (s') ?_ | refine el_4_1 (s') ?_); (try clear s'); intro hp g d tk os) | obtain ⟨hp, g, d, tk, os⟩ := s'
  have f2 := AutoSeq1.sub_tuple_tuple
  unfold tupO at h1 h2
  wp_walk using wpAny_loadPart' h1, wpAny_loadPart' h2, wpAny_forIn_list _ (fun rest q s' => q.1 = none ∧ s' = ⟨hp, g, d, tk, os⟩ ∧ (rest = [(x1, y1), (x2, y2)] ∨ rest = [(x2, y2)] ∨ rest = [])) _
  case turn =>
    rintro ⟨y, x⟩ rest q s' ⟨hq, rfl, hz | hz | hz⟩
    · injection hz with hz1 hz2
      injection hz1 with hz3 hz4
      subst hz3 hz4
      refine wpAny_bind (e1 _ _ ?_)
      wp_walk
      exact ⟨rfl, rfl, .inr (.inl hz2)⟩
    · injection hz with hz1 hz2
      injection hz1 with hz3 hz4
      subst hz3 hz4
      refine wpAny_bind (e2 _ _ ?_)
      wp_walk
      exact ⟨rfl, rfl, .inr (.inr hz2)⟩
    · cases hz
  case fin =>
    first | (intro zq4 s' zq5; (first | refine el_0_2 (zq4) ?_ | refine el_1_1 (zq4) ?_); (try clear zq4); intro b1 b2; (first | refine el_0_3 (zq5) ?_ | refine el_1_2 (zq5) ?_ | refine el_2_1 (zq5) ?_); (try clear zq5); intro hq zq6 _; subst zq6) | rintro ⟨b1, b2⟩ s' ⟨hq, rfl, _⟩
    simp only at hq
    subst hq
    wp_walk
    exact ⟨_, rfl, by simpa [Builtin.Tuple.tupleCompareSizes] using hR⟩
  case h => exact ⟨rfl, rfl, .inl rfl⟩
/-- the loop of a list's != where every pair is equal -/
theorem ne_loopP {l b : Addr} {items items2 : Array Value} {n n2 : Nat} (hsz : items.size = items2.size) (k : Nat) : ∀ i : Nat, items.size = i + k →
    MeetsIn prog w (Builtin.«list.__eq__.loop» ⟨[.ref l, .ref b, rawInt i, rawInt 3], []⟩) (fun A' R s' => s'.heap.get? l = some (listOf items n) ∧ s'.heap.get? b = some (listOf items2 n2) ∧
      (∀ j (h1 : j < items.size) (h2 : j < items2.size), EqP prog w A'.in1 s' items[j] items2[j]) ∧ R (.ok (.ret (.bool false))) s') := by
  induction k with
  | zero =>
    first | (intro i hi A' R s' zq7; (first | refine el_0_4 (zq7) ?_ | refine el_1_3 (zq7) ?_ | refine el_2_2 (zq7) ?_ | refine el_3_1 (zq7) ?_); (try clear zq7); intro h1 h2 he hR) | rintro i hi A' R s' ⟨h1, h2, he, hR⟩
    unfold W.listOf at h1 h2
    first | ((first | refine el_0_5 (s') ?_ | refine el_1_4 (s') ?_ | refine el_2_3 (s') ?_ | refine el_3_2 (s') ?_ | refine el_4_1 (s') ?_); (try clear s'); intro hp g d tk os) | obtain ⟨hp, g, d, tk, os⟩ := s'
    have o1 : items[((i : Nat) : Int).toNat]? = none := Array.getElem?_eq_none (by rw [Int.toNat_natCast]; omega)
    have o2 : items2[((i : Nat) : Int).toNat]? = none := Array.getElem?_eq_none (by rw [Int.toNat_natCast]; omega)
    wp_walk using wpAny_loadPart' h1, wpAny_loadPart' h2
    rw [o1, o2]
    wp_walk using wpAny_loadPart' h1, wpAny_loadPart' h2
    show R (.ok (.ret (.bool (items.size != items2.size)))) _
    have e : (items.size != items2.size) = false := by simp [hsz]
    rw [e]
    exact hR
  | succ k ih =>
    first | (intro i hi A' R s' zq8; (first | refine el_0_4 (zq8) ?_ | refine el_1_3 (zq8) ?_ | refine el_2_2 (zq8) ?_ | refine el_3_1 (zq8) ?_); (try clear zq8); intro h1 h2 he hR) | rintro i hi A' R s' ⟨h1, h2, he, hR⟩
    have h1' := h1
    have h2' := h2
    unfold W.listOf at h1 h2
    have l1 : i < items.size := by omega
    have l2 : i < items2.size := by omega
    have o1 : items[((i : Nat) : Int).toNat]? = some items[i] := by rw [Int.toNat_natCast]; exact Array.getElem?_eq_getElem l1
    have o2 : items2[((i : Nat) : Int).toNat]? = some items2[i] := by rw [Int.toNat_natCast]; exact Array.getElem?_eq_getElem l2
    have ei : ((i : Int) + 1) = ((i + 1 : Nat) : Int) := by omega
    first | ((first | refine el_0_5 (s') ?_ | refine el_1_4 (s') ?_ | refine el_2_3 (s') ?_ | refine el_3_2 (s') ?_ | refine el_4_1 (s') ?_); (try clear s'); intro hp g d tk os) | obtain ⟨hp, g, d, tk, os⟩ := s'
    wp_walk using wpAny_loadPart' h1, wpAny_loadPart' h2
    rw [o1, o2]
    refine wpAny_bind (he i l1 l2 _ _ ?_)
    wp_walk
    rw [ei]
    refine ⟨plainId_quiet plain_eq_loop _, codeAny_builtin entry_eq_loop ?_⟩
    rw [Around.under_plainId plain_eq_loop _]
    exact ih (i + 1) (by omega) A' R _ ⟨h1', h2', he, hR⟩
/-- two lists whose items are equal, pair by pair: != is False -/
theorem lists_neP {l b : Addr} {items items2 : Array Value} {n n2 : Nat} {Q : Value → Shared → Prop} (h1 : s.heap.get? l = some (listOf items n)) (h2 : s.heap.get? b = some (listOf items2 n2)) (hsz : items.size = items2.size)
    (he : ∀ j (h1 : j < items.size) (h2 : j < items2.size), EqP prog w A.in1 s items[j] items2[j]) (hu : A.units < cLine) (h : Q (.bool false) s) : wpAny (model prog w) A (compareOp .NotEq (.ref l) (.ref b)) Q E s := by
  refine wpAny_richCompare_same_room (op := .NotEq) ⟨_, h1, rfl⟩ ⟨_, h2, rfl⟩ F.slot_list_ne (call_meetsIn (S := fun A' R s' => A' = A ∧ s' = s ∧ R (.ok (.ret (.bool false))) s) F.slot_list_ne ⟨_, h1, rfl⟩ F.entry_list_ne (F.args_list_ne_2 _ _) ?_ ⟨rfl, rfl, (fun x => nomatch x), h⟩) hu
  first | (intro A' R s' zq9; (first | refine el_0_3 (zq9) ?_ | refine el_1_2 (zq9) ?_ | refine el_2_1 (zq9) ?_); (try clear zq9); intro hA hs hR) | rintro A' R s' ⟨hA, hs, hR⟩
  subst hA
  subst hs
  have h1' := h1
  have h2' := h2
  unfold W.listOf at h1 h2
  first | ((first | refine el_0_5 (s') ?_ | refine el_1_4 (s') ?_ | refine el_2_3 (s') ?_ | refine el_3_2 (s') ?_ | refine el_4_1 (s') ?_); (try clear s'); intro hp g d tk os) | obtain ⟨hp, g, d, tk, os⟩ := s'
  have f3 := AutoSeq1.sub_list_list
  have hne : ¬ (items.size != items2.size) = true := by simp [hsz]
  wp_walk using wpAny_loadPart' h1, wpAny_loadPart' h2
  refine ⟨plainId_quiet plain_eq_loop _, codeAny_builtin entry_eq_loop ?_⟩
  rw [Around.under_plainId plain_eq_loop _]
  exact ne_loopP hsz items.size 0 (by omega) _ R _ ⟨h1', h2', he, hR⟩
theorem dict_eqP {a b : Addr} {oa ob : Obj} {x y : Str} {t1 t2 t3 t4 : Tok} (ha : s.heap.get? a = some oa) (hb : s.heap.get? b = some ob) (da : oa.IsDictOf (PySem.strKind prog w) [(Str.ofString "lead", .str x t1), (Str.ofString "of", .str y t2)])
    (db : ob.IsDictOf (PySem.strKind prog w) [(Str.ofString "lead", .str x t3), (Str.ofString "of", .str y t4)]) (la : a ≠ sysModules) (lb : b ≠ sysModules) (hu : A.units < cLine) (E Q : Value → Shared → Prop) (h : Q (.bool true) s) :
    wpAny (model prog w) A (richCompare .Eq (.ref a) (.ref b)) Q E s := by
  have ev : ∀ z : Str, PyData.eqv (.str z) (.str z) = true := fun z => by simp [PyData.eqv]
  have e1 : SeqAt.EqAt A.in1 s (.str x t1) (.str x t3) true := by
    have q := keq_flat (A := A.in1) (s := s) (Flat.str x t1) (Flat.str x t3)
    rw [ev] at q
    exact q
  have e2 : SeqAt.EqAt A.in1 s (.str y t2) (.str y t4) true := by
    have q := keq_flat (A := A.in1) (s := s) (Flat.str y t2) (Flat.str y t4)
    rw [ev] at q
    exact q
  exact keq_eq (r := true) (by rw [beq_eq_false_iff_ne]; exact la) (by rw [beq_eq_false_iff_ne]; exact lb) (Heap.dictOf_iff.mpr ⟨oa, ha, da⟩) (Heap.dictOf_iff.mpr ⟨ob, hb, db⟩) hu
    (fun _ => KeqHits.hit (e := true) (b := true) rfl e1 (KeqHits.hit (e := true) (b := true) rfl e2 KeqHits.nil)) h
section
variable {h₀ : Heap} {L a b : Addr} {news : Ledger} {Q : Value → Shared → Prop}
theorem eq_nil_K {xs : Array Value} {n k : Nat} (N : News h₀ L s.heap news) (ha : (a, listOf xs n) ∈ news) (hb : (b, listOf #[] k) ∈ news) (h0 : 0 < xs.size) (hu : A.units < cLine) (h : Q (.bool false) s) : wpAny (model prog w) A (compareOp .Eq (.ref a) (.ref b)) Q E s :=
  eq_list_lengthsAt ⟨_, (N _ ha).1, rfl, _, rfl⟩ ⟨_, (N _ hb).1, rfl, _, rfl⟩ (by rw [bne_iff_ne]; show xs.size ≠ 0; omega) hu h
end
structure Du where
  T : Addr
  tag : Str
  tt : Tok
  d : Addr
  od : Obj
  x : Str
  tx : Tok
  tp : Tok
noncomputable def Du.led (u : Du) : Ledger := [(u.T, tupO [.str u.tag u.tt, .ref u.d]), (u.d, u.od)]
structure Du.Ok (u : Du) (prog : Program) (w : World) : Prop where
  dict : u.od.IsDictOf (PySem.strKind prog w) [(Str.ofString "lead", .str u.x u.tx), (Str.ofString "of", .str (Str.ofString "page") u.tp)]
  sys : u.d ≠ sysModules
end

end
-- LAWV
section
open PySem PySem.Spec PySem.W PyProof.Rows PySem.Calls PyProof.V
theorem if_stage (w : World) (p : Program) (loose : List Str) (mean : ExcName → Option Value) (mg mb : Str → Option Value) {A₀ : Around} {base g : Heap} {L a : Addr} {ccd : Value} {dp un : Nat} {gd : Option (List Code)} {s : Shared} {Q : Flow → Shared → Prop} {E : Value → Shared → Prop} {u0 : Str → Option Value}
    (B : Below A₀ base [] g) (X : (hd.heap_39 w.params).In g) (T : Top p loose mean mg mb g) (hdp : dp + 40 < recursionLimit) (hun : un + 800 < cLine) (hE : PassesOwn (model PySem.Challenge.pw_xb0026_01 w) (ktrTop dp un gd (Str.ofString "law") lawScope L a ccd (cellsFrom (L + 1) lawScope.names []) []) (lawEnv L a ccd) E)
    (kl k2 dl : Addr) (ck cd : Nat) (nodes : List Nd) (P0 : Nd) (rest0 : List Nd) (ks : List Kt) (dus : List Du) (bs cuts runs c r : Int) (ob ot oy os oi oo : Obj)
    (PP : PgPure bs cuts runs nodes [] c r) (ok : ∀ x ∈ nodes, x.Ok w p loose mean mg mb k2) (hn : nodes = P0 :: rest0) (hks : ks.map (·.x) = rest0) (hkl : 0 < ks.length) (hdu : dus.map (fun d => (d.tag, d.x)) = nodes.map (fun x => (x.R.tag, txt x.lead))) (hdo : ∀ d ∈ dus, d.Ok PySem.Challenge.pw_xb0026_01 w)
    (F : Fr g L s.heap (fun y => if y = Str.ofString "due" then some (Value.ref dl) else if y = Str.ofString "kept" then some (Value.ref kl) else if y = Str.ofString "page" then some (Value.ref P0.R.f) else u0 y))
    (N : News g L s.heap ((L + 1 + 1 + 1 + 1 + 1 + 1, oo) :: (L + 1 + 1 + 1 + 1 + 1, oi) :: (L + 1 + 1 + 1 + 1, os) :: (L + 1 + 1 + 1, oy) :: (L + 1 + 1, ot) :: (L + 1, ob) :: (kl, listOf (List.toArray (ks.map fun k => Value.ref k.U)) ck) :: (dl, listOf (List.toArray (dus.map fun d => Value.ref d.T)) cd) :: (nodes.flatMap Nd.led ++ dus.flatMap Du.led)))
    (PW : AptAll ((L + 1 + 1 + 1 + 1 + 1 + 1, oo) :: (L + 1 + 1 + 1 + 1 + 1, oi) :: (L + 1 + 1 + 1 + 1, os) :: (L + 1 + 1 + 1, oy) :: (L + 1 + 1, ot) :: (L + 1, ob) :: (kl, listOf (List.toArray (ks.map fun k => Value.ref k.U)) ck) :: (dl, listOf (List.toArray (dus.map fun d => Value.ref d.T)) cd) :: (nodes.flatMap Nd.led ++ dus.flatMap Du.led)))
    (next : ∀ (h' : Heap) (tk : Nat),
      Fr g L h' (fun y => if y = Str.ofString "due" then some (Value.ref dl) else if y = Str.ofString "kept" then some (Value.ref kl) else if y = Str.ofString "page" then some (Value.ref P0.R.f) else u0 y) →
      News g L h' ((L + 1 + 1 + 1 + 1 + 1 + 1, oo) :: (L + 1 + 1 + 1 + 1 + 1, oi) :: (L + 1 + 1 + 1 + 1, os) :: (L + 1 + 1 + 1, oy) :: (L + 1 + 1, ot) :: (L + 1, ob) :: (kl, listOf (List.toArray (ks.map fun k => Value.ref k.U)) ck) :: (dl, listOf (List.toArray (dus.map fun d => Value.ref d.T)) cd) :: (nodes.flatMap Nd.led ++ dus.flatMap Du.led)) →
      wpAny (model PySem.Challenge.pw_xb0026_01 w) (ktrTop dp un gd (Str.ofString "law") lawScope L a ccd (cellsFrom (L + 1) lawScope.names []) []) (execs (lawBody.drop 6) (lawEnv L a ccd)) Q E { s with heap := h', toks := tk }) :
    wpAny (model PySem.Challenge.pw_xb0026_01 w) (ktrTop dp un gd (Str.ofString "law") lawScope L a ccd (cellsFrom (L + 1) lawScope.names []) []) (execs (lawBody.drop 5) (lawEnv L a ccd)) Q E s := by
  w_on
  conv =>
    arg 3
    arg 1
    whnf
  unfold lawEnv at *
  conv in (occs := *) lawScope => all_goals whnf
  refine let_A ?_
  intro A9
  refine let_env ?_
  intro env9
  have hk0 : 0 < (List.toArray (ks.map fun k => Value.ref k.U)).size := by rw [List.size_toArray, List.length_map]; exact hkl
  have hu0 : (ktrTop dp un gd (Str.ofString "law") lawScope L a ccd (cellsFrom (L + 1) lawScope.names []) []).units < cLine := by
    show un < cLine
    omega
  conv at hu0 in (occs := *) lawScope => all_goals whnf
  generalize hNL : nodes.flatMap Nd.led = NL at *
  (try k_unmd); (try k_fold); repeat' (first | ((fail_if_success (fail_if_success (with_reducible show wpAny _ _ (compareOp CmpOp.Eq (Value.ref _) (Value.ref _)) _ _ _))); k_dflt (refine' eq_nil_K ?y9N ?y9a ?y9b ?y9h0 ?y9u ?_; (case y9N => k_asm); (case y9a => k_mem); (case y9b => k_mem); (case y9h0 => with_reducible assumption); (case y9u => with_reducible assumption))) | ((fail_if_success (fail_if_success (with_reducible show wpAny _ _ (call (Value.ref _) _ _) _ _ _))); refine stop_of ?_) | walk_at "S1")
  try unfold Stop
  rename Fr _ _ _ _ => F1
  rename News _ _ _ _ => N1
  have AD : AptAll (NL ++ dus.flatMap Du.led) := (apt_cons (apt_cons (apt_cons (apt_cons (apt_cons (apt_cons (apt_cons (apt_cons PW).2).2).2).2).2).2).2).2
  have WS := walk_ok w p loose mean mg mb nodes PP k2 ok (by rw [hNL]; exact apt_left AD) P0 rest0 hn
  rw [hNL] at WS
  generalize hDL : dus.flatMap Du.led = DL at *
  generalize hkO : listOf (List.toArray (ks.map fun k => Value.ref k.U)) ck = kO at *
  k_dflt refine' hspec_use (touched := NL) (rest := (L + 1 + 1 + 1 + 1 + 1 + 1, oo) :: (L + 1 + 1 + 1 + 1 + 1, oi) :: (L + 1 + 1 + 1 + 1, os) :: (L + 1 + 1 + 1, oy) :: (L + 1 + 1, ot) :: (L + 1, ob) :: (kl, kO) :: (dl, listOf (List.toArray (dus.map fun d => Value.ref d.T)) cd) :: DL) ?B F1 ?X (fun q hq => N1 q ?perm) ?T ?hk WS ?dis ?dp ?un ?_
  case B => assumption
  case X => assumption
  case T => assumption
  case hk => exact rfl
  case perm =>
    exact Rf.sub (x := _) (l := [_, _, _, _, _, _, _, _]) (r := [_, _]) (.app (.leaf 0) (.cons 0 (.cons 1 (.cons 2 (.cons 3 (.cons 4 (.cons 5 (.cons 6 (.cons 7 (.leaf 1)))))))))) (.cons 8 (.cons 0 (.cons 1 (.cons 2 (.cons 3 (.cons 4 (.cons 5 (.cons 6 (.cons 7 (.app (.leaf 0) (.leaf 1))))))))))) (by decide) hq
  case dis =>
    intro q hq q' hq' e
    have h9 : ∀ q ∈ [(L + 1 + 1 + 1 + 1 + 1 + 1, oo), (L + 1 + 1 + 1 + 1 + 1, oi), (L + 1 + 1 + 1 + 1, os), (L + 1 + 1 + 1, oy), (L + 1 + 1, ot), (L + 1, ob), (kl, kO), (dl, listOf (List.toArray (dus.map fun d => Value.ref d.T)) cd)] ++ DL, ∀ q' ∈ NL, q.1 ≠ q'.1 := by
      intro q hq q' hq'
      rcases List.mem_append.mp hq with hq | hq
      · exact fun e => apt_split (a := [(L + 1 + 1 + 1 + 1 + 1 + 1, oo), (L + 1 + 1 + 1 + 1 + 1, oi), (L + 1 + 1 + 1 + 1, os), (L + 1 + 1 + 1, oy), (L + 1 + 1, ot), (L + 1, ob), (kl, kO), (dl, listOf (List.toArray (dus.map fun d => Value.ref d.T)) cd)]) (b := NL ++ DL) PW q' (List.mem_append_left _ hq') q hq e.symm
      · exact apt_split AD q hq q' hq'
    exact h9 q hq q' hq' e
  case dp => omega
  case un => omega
  intro r tl upd h6 tk6 F6 N6 e6 o6 pw6 P6
  first | ((first | refine el_0_7 (P6) ?_ | refine el_1_6 (P6) ?_ | refine el_2_5 (P6) ?_ | refine el_3_4 (P6) ?_ | refine el_4_3 (P6) ?_ | refine el_5_2 (P6) ?_ | refine el_6_1 (P6) ?_); (try clear P6); intro t0 c0 ps zq1 hps htl hupd; subst zq1) | obtain ⟨t0, c0, ps, rfl, hps, htl, hupd⟩ := P6
  subst htl
  subst hupd
  have N7 : News g L h6 ((t0, listOf (List.toArray (toldV ps)) c0) :: (L + 1 + 1 + 1 + 1 + 1 + 1, oo) :: (L + 1 + 1 + 1 + 1 + 1, oi) :: (L + 1 + 1 + 1 + 1, os) :: (L + 1 + 1 + 1, oy) :: (L + 1 + 1, ot) :: (L + 1, ob) :: (kl, kO) :: (dl, listOf (List.toArray (dus.map fun d => Value.ref d.T)) cd) :: (upd ++ DL ++ toldL ps)) := fun q hq => N6 q (by
    exact Rf.sub (x := _) (l := [_, _, _, _, _, _, _, _]) (r := [_, _, _]) (.cons 0 (.cons 1 (.cons 2 (.cons 3 (.cons 4 (.cons 5 (.cons 6 (.cons 7 (.cons 8 (.app (.app (.leaf 0) (.leaf 1)) (.leaf 2))))))))))) (.app (.cons 0 (.leaf 2)) (.app (.leaf 0) (.cons 1 (.cons 2 (.cons 3 (.cons 4 (.cons 5 (.cons 6 (.cons 7 (.cons 8 (.leaf 1))))))))))) (by decide) hq)
  clear N6 F1 N1
  refine restart (gn := s.gens) (s := s) F6 rfl rfl rfl rfl ?_
  intro tk7
  (try k_unmd); (try k_fold); repeat' (first | ((fail_if_success (fail_if_success (with_reducible show wpAny _ _ (compareOp CmpOp.NotEq (Value.ref _) (Value.ref _)) _ _ _))); refine stop_of ?_) | walk_at "S1")
  unfold Stop
  rename Fr _ _ _ _ => F8
  rename News _ _ _ _ => N8
  have hpl : ps.length = nodes.length := by rw [← hps, List.length_map]
  have hdl : dus.length = nodes.length := by
    have q := congrArg List.length hdu
    rw [List.length_map, List.length_map] at q
    exact q
  refine lists_neP (N8 _ (.head _)).1 (N8 (dl, listOf (List.toArray (dus.map fun d => Value.ref d.T)) cd) (.tail _ (.tail _ (.tail _ (.tail _ (.tail _ (.tail _ (.tail _ (.tail _ (.head _)))))))))).1 ?sz ?he hu0 ?_
  case sz =>
    unfold toldV
    rw [List.size_toArray, List.size_toArray, List.length_map, List.length_map, hpl, hdl]
  case he =>
    intro j h1 h2
    have h1' : j < ps.length := by
      have q := h1
      unfold toldV at q
      rw [List.size_toArray, List.length_map] at q
      exact q
    have h2' : j < dus.length := by
      have q := h2
      rw [List.size_toArray, List.length_map] at q
      exact q
    have hq : ps[j]? = some ps[j] := List.getElem?_eq_getElem h1'
    have hu : dus[j]? = some dus[j] := List.getElem?_eq_getElem h2'
    generalize ps[j] = q at hq
    generalize dus[j] = u at hu
    have eq1 : (List.toArray (toldV ps))[j]? = some (.ref q.1) := by
      unfold toldV
      rw [List.getElem?_toArray, List.getElem?_map, hq]
      rfl
    have eq2 : (List.toArray (dus.map fun d => Value.ref d.T))[j]? = some (.ref u.T) := by
      rw [List.getElem?_toArray, List.getElem?_map, hu]
      rfl
    rw [(Array.getElem?_eq_some_iff.mp eq1).2, (Array.getElem?_eq_some_iff.mp eq2).2]
    have hxj : nodes[j]? = some q.2 := by rw [← hps, List.getElem?_map, hq]; rfl
    have hm : (u.tag, u.x) = (q.2.R.tag, txt q.2.lead) := by
      have e := congrArg (fun l => l[j]?) hdu
      rw [List.getElem?_map, List.getElem?_map, hu, hxj] at e
      exact Option.some.inj e
    have hqm := List.mem_of_getElem? hq
    have hum := List.mem_of_getElem? hu
    have hxm := List.mem_of_getElem? hxj
    first | ((first | refine el_0_3 ((ok q.2 hxm).at_) ?_ | refine el_1_2 ((ok q.2 hxm).at_) ?_ | refine el_2_1 ((ok q.2 hxm).at_) ?_); intro tl tp hAt) | obtain ⟨tl, tp, hAt⟩ := (ok q.2 hxm).at_
    have m1 : (q.1, tupO [.str q.2.R.tag q.2.R.tt, .ref q.2.R.at_]) ∈ toldL ps := List.mem_map_of_mem hqm
    have m2 : (u.T, tupO [.str u.tag u.tt, .ref u.d]) ∈ DL := by rw [← hDL]; exact List.mem_flatMap.mpr ⟨u, hum, .head _⟩
    have m3 : (u.d, u.od) ∈ DL := by rw [← hDL]; exact List.mem_flatMap.mpr ⟨u, hum, .tail _ (.head _)⟩
    have m4 : (q.2.R.at_, q.2.oAt) ∈ upd := by rw [← hNL]; exact List.mem_flatMap.mpr ⟨q.2, hxm, .tail _ (.tail _ (.tail _ (.tail _ (.tail _ (.head _)))))⟩
    have in8 : ∀ z ∈ upd ++ DL ++ toldL ps, News g L h6 [z] := fun z hz y hy => by
      rw [List.mem_singleton.mp hy]
      exact N8 z (.tail _ (.tail _ (.tail _ (.tail _ (.tail _ (.tail _ (.tail _ (.tail _ (.tail _ hz)))))))))
    have g1 := (in8 _ (List.mem_append_right _ m1) _ (.head _)).1
    have g2 := (in8 _ (List.mem_append_left _ (List.mem_append_right _ m2)) _ (.head _)).1
    have g3 := (in8 _ (List.mem_append_left _ (List.mem_append_right _ m3)) _ (.head _)).1
    have g4 := (in8 _ (List.mem_append_left _ (List.mem_append_left _ m4)) _ (.head _)).1
    have ne1 : q.1 ≠ u.T := (o6 _ (.tail _ m1) _ (List.mem_append_right _ (.tail _ (.tail _ (.tail _ (.tail _ (.tail _ (.tail _ (.tail _ (.tail _ m2)))))))))).ne
    have ne2 : q.2.R.at_ ≠ u.d := fun e => apt_split AD _ m3 _ m4 e.symm
    have et : u.tag = q.2.R.tag := congrArg Prod.fst hm
    have ex : u.x = txt q.2.lead := congrArg Prod.snd hm
    have hdict := (hdo u hum).dict
    rw [ex] at hdict
    refine EqP.refs ne1 fun E' Q' h => pair_eqP g1 g2 ?e1 ?e2 ?u2 h
    case e1 =>
      rw [et]
      exact EqP.flat (Flat.str _ _) (Flat.str _ _) (by simp [PyData.eqv])
    case e2 => exact EqP.refs ne2 fun E' Q' h => dict_eqP g4 g3 hAt hdict (ok q.2 hxm).sys (hdo u hum).sys (by show un + 1 + 1 < cLine; omega) E' Q' h
    case u2 =>
      show un + 1 < cLine
      omega
  (try k_unmd); (try k_fold); repeat' (first | ((fail_if_success (fail_if_success (with_reducible show wpAny _ _ (execs (Stmt.Assign _ _ _ :: _) _) _ _ _))); (with_reducible show wpAny _ _ (execs (Stmt.Assign [Expr.Name (Str.ofString "widths") _] _ _ :: _) _) _ _ _); refine stop_of ?_) | walk_at "S1")
  unfold Stop
  refine restart (gn := s.gens) (s := s) F8 rfl rfl rfl rfl ?_
  intro tk9
  refine next h6 tk9 F8 fun q hq => N8 q (List.mem_cons_of_mem _ ?_)
  exact Rf.sub (x := _) (l := [_, _, _, _, _, _, _]) (r := [_, _, _]) (.cons 0 (.cons 1 (.cons 2 (.cons 3 (.cons 4 (.cons 5 (.cons 6 (.cons 7 (.app (.leaf 0) (.leaf 1)))))))))) (.cons 0 (.cons 1 (.cons 2 (.cons 3 (.cons 4 (.cons 5 (.cons 6 (.cons 7 (.app (.app (.leaf 0) (.leaf 1)) (.leaf 2)))))))))) (by decide) hq

end
-- FORT
section
open PySem PySem.Spec PySem.W PyProof.Rows PySem.Calls PyProof.V
section
variable {prog : Program} {w : World} {A : Around} {E : Value → Shared → Prop} {s : Shared} {env : Env} {h₀ : Heap} {target iter : Expr} {body orelse : List Stmt} {pos : Pos} {Q : Flow → Shared → Prop}
theorem for_ledT {α : Type} {I : Addr} {side : Ledger} {n : Nat} {Pv : Nat → Value → Prop} {St : Nat → Heap → Prop} {m₀ : Str → Option Value} (xs : List Str) (lit : α → Ledger) (mm : α → Str → Option Value) (P : Nat → α → Ledger → Prop) (a₀ : α) (rest₀ : Ledger)
    (W : Walks prog w A I (I :: side.map (·.1)) [I] n Pv St) (hst : St 0 s.heap) (hon : ∀ i h, St i h → ∃ o, h.get? I = some o) (hI₀ : h₀.get? I = none) (hIL : I ≠ env.locals) (F : Fr h₀ env.locals s.heap m₀) (N : News h₀ env.locals s.heap (lit a₀ ++ rest₀)) (hNI : ∀ p ∈ lit a₀ ++ rest₀, Apt p.1 I)
    (hm : ∀ z, z ∉ xs → m₀ z = mm a₀ z) (hP : P 0 a₀ rest₀) (hE : PassesOwn (model prog w) A env E)
    (hside : ∀ i a rest h m, P i a rest → Fr h₀ env.locals h m → News h₀ env.locals h (lit a ++ rest) → ∀ p ∈ side, h.get? p.1 = some p.2)
    (turn : ∀ i v a rest (u : Str → Option Value) h tk oI, i < n → Pv i v → P i a rest → (∀ p ∈ lit a ++ rest, Apt p.1 I) → St (i + 1) h → Fr h₀ env.locals h (fun z => if z ∈ xs then u z else mm a z) → News h₀ env.locals h (lit a ++ (rest ++ [(I, oI)])) →
      wpAny (model prog w) A (letOwnedTupleGo target (.ref I) v) (fun _ s₁ => wpAny (model prog w) A (assign target env v) (fun _ s₂ => wpAny (model prog w) A (execs body env) (LS h₀ env.locals I oI xs lit mm (P (i + 1)) { s with heap := h, toks := tk } Q) E s₂) E s₁) E { s with heap := h, toks := tk })
    (done : ∀ a rest (u : Str → Option Value) h tk, P n a rest → Fr h₀ env.locals h (fun z => if z ∈ xs then u z else mm a z) → News h₀ env.locals h (lit a ++ rest) → wpAny (model prog w) A (execs orelse env) Q E { s with heap := h, toks := tk }) :
    ForGo prog w A env target body orelse Q E (.ref I) s := by
  refine ⟨hE, codeAny_forLoop_any (fun k s' => ∃ h' tk m' a rest i, s' = { s with heap := h', toks := tk } ∧ St i h' ∧ Fr h₀ env.locals h' m' ∧ (∀ z, z ∉ xs → m' z = mm a z) ∧ News h₀ env.locals h' (lit a ++ rest) ∧ (∀ p ∈ lit a ++ rest, Apt p.1 I) ∧ P i a rest ∧ i ≤ n ∧ k = n + 1 - i) ?_ (n + 1)
    ⟨s.heap, s.toks, m₀, a₀, rest₀, 0, rfl, hst, F, hm, N, hNI, hP, Nat.zero_le _, rfl⟩⟩
  first | (intro k s' zq3; (first | refine el_0_15 (zq3) ?_ | refine el_1_14 (zq3) ?_ | refine el_2_13 (zq3) ?_ | refine el_3_12 (zq3) ?_ | refine el_4_11 (zq3) ?_ | refine el_5_10 (zq3) ?_ | refine el_6_9 (zq3) ?_ | refine el_7_8 (zq3) ?_ | refine el_8_7 (zq3) ?_ | refine el_9_6 (zq3) ?_ | refine el_10_5 (zq3) ?_ | refine el_11_4 (zq3) ?_ | refine el_12_3 (zq3) ?_); (try clear zq3); intro h' tk m' a rest i zq4 hst' F' hm' N' hNI' hP' hi zq5; subst zq4; subst zq5) | rintro k s' ⟨h', tk, m', a, rest, i, rfl, hst', F', hm', N', hNI', hP', hi, rfl⟩
  have fr : ∀ {h : Heap} {m : Str → Option Value} {a : α}, Fr h₀ env.locals h m → (∀ z, z ∉ xs → m z = mm a z) → Fr h₀ env.locals h (fun z => if z ∈ xs then m z else mm a z) := fun {h m a} F hm => by
    have e : (fun z => if z ∈ xs then m z else mm a z) = m := by
      funext z
      by_cases hz : z ∈ xs
      · rw [if_pos hz]
      · rw [if_neg hz, hm z hz]
    rw [e]; exact F
  have next : ∀ h₁ : Heap, (∀ b o, b ∉ [I] → h'.get? b = some o → h₁.get? b = some o) → Fr h₀ env.locals h₁ m' ∧ News h₀ env.locals h₁ (lit a ++ rest) := fun h₁ hk₁ =>
    ⟨⟨F'.ns.at' fun o e => hk₁ _ o (fun q => hIL (List.mem_singleton.mp q).symm) e, fun b o e => hk₁ b o (fun q => by rw [List.mem_singleton.mp q, hI₀] at e; cases e) (F'.keep b o e), F'.above⟩,
      fun p hp => ⟨hk₁ _ _ (fun q => hNI' p hp (List.mem_singleton.mp q)) (N' p hp).1, (N' p hp).2⟩⟩
  by_cases hlt : i < n
  · refine W.item i _ _ _ hlt hst' fun v h₁ tk₁ hPv hst₁ hk₁ => ?_
    first | ((first | refine el_0_2 (next h₁ hk₁) ?_ | refine el_1_1 (next h₁ hk₁) ?_); intro F₁ N₁) | obtain ⟨F₁, N₁⟩ := next h₁ hk₁
    first | ((first | refine el_0_2 (hon _ _ hst₁) ?_ | refine el_1_1 (hon _ _ hst₁) ?_); intro oI hoI) | obtain ⟨oI, hoI⟩ := hon _ _ hst₁
    have NI : News h₀ env.locals h₁ (lit a ++ (rest ++ [(I, oI)])) := fun p hp => by
      rw [← List.append_assoc] at hp
      rcases List.mem_append.mp hp with hp | hp
      · exact N₁ p hp
      · rw [List.mem_singleton.mp hp]; exact ⟨hoI, hIL, hI₀⟩
    refine wpAny_mono (turn i v a rest m' h₁ tk₁ oI hlt hPv hP' hNI' hst₁ (fr F₁ hm') NI) (fun _ s₁ h₁' => ?_) hE
    refine wpAny_mono h₁' (fun _ s₂ h₂ => ?_) hE
    refine wpAny_mono h₂ (fun f s₃ h₃ => ?_) hE
    have fin : (∃ h' tk m' a' rest', s₃ = { s with heap := h', toks := tk } ∧ Fr h₀ env.locals h' m' ∧ (∀ z, z ∉ xs → m' z = mm a' z) ∧ News h₀ env.locals h' (lit a' ++ (rest' ++ [(I, oI)])) ∧ (∀ p ∈ lit a' ++ rest', Apt p.1 I) ∧ P (i + 1) a' rest') →
        ∃ m, m < n + 1 - i ∧ ∃ h' tk m' a rest j, s₃ = { s with heap := h', toks := tk } ∧ St j h' ∧ Fr h₀ env.locals h' m' ∧ (∀ z, z ∉ xs → m' z = mm a z) ∧ News h₀ env.locals h' (lit a ++ rest) ∧ (∀ p ∈ lit a ++ rest, Apt p.1 I) ∧ P j a rest ∧ j ≤ n ∧ m = n + 1 - j := by
      first | (intro zq6; (first | refine el_0_11 (zq6) ?_ | refine el_1_10 (zq6) ?_ | refine el_2_9 (zq6) ?_ | refine el_3_8 (zq6) ?_ | refine el_4_7 (zq6) ?_ | refine el_5_6 (zq6) ?_ | refine el_6_5 (zq6) ?_ | refine el_7_4 (zq6) ?_ | refine el_8_3 (zq6) ?_ | refine el_9_2 (zq6) ?_ | refine el_10_1 (zq6) ?_); (try clear zq6); intro h₃' tk₃ m₃ a' rest' zq7 F₃ hm₃ N₃ hI₃ hP₃; subst zq7) | rintro ⟨h₃', tk₃, m₃, a', rest', rfl, F₃, hm₃, N₃, hI₃, hP₃⟩
      have N₄ : News h₀ env.locals h₃' (lit a' ++ rest') := fun p hp => N₃ p (by rw [← List.append_assoc]; exact List.mem_append_left _ hp)
      refine ⟨n + 1 - (i + 1), by omega, h₃', tk₃, m₃, a', rest', i + 1, rfl, W.frame _ _ _ hst₁ (fun b hb o e => ?_), F₃, hm₃, N₄, hI₃, hP₃, hlt, rfl⟩
      rcases List.mem_cons.mp hb with rfl | hb
      · have e2 := hoI.symm.trans e
        rw [← e2]
        exact (N₃ (_, oI) (by rw [← List.append_assoc]; exact List.mem_append_right _ (.head _))).1
      · first | ((first | refine el_0_3 (List.mem_map.mp hb) ?_ | refine el_1_2 (List.mem_map.mp hb) ?_ | refine el_2_1 (List.mem_map.mp hb) ?_); intro q hq zq8; subst zq8) | obtain ⟨q, hq, rfl⟩ := List.mem_map.mp hb
        have e1 := hside i a rest h₁ m' hP' F₁ N₁ q hq
        rw [← e1.symm.trans e]
        exact hside (i + 1) a' rest' h₃' m₃ hP₃ F₃ N₄ q hq
    cases f with
    | ret v => exact h₃
    | brk => exact h₃
    | next => exact fin h₃
    | cont => exact fin h₃
  · have hin : i = n := by omega
    subst hin
    refine W.done _ _ _ hst' fun h₁ tk₁ hk₁ => ?_
    first | ((first | refine el_0_2 (next h₁ hk₁) ?_ | refine el_1_1 (next h₁ hk₁) ?_); intro F₁ N₁) | obtain ⟨F₁, N₁⟩ := next h₁ hk₁
    exact wpAny_mono (done a rest m' h₁ tk₁ hP' (fr F₁ hm') N₁) (fun _ _ x => x) hE

/-- over a list, the target a tuple -/
theorem for_listT {α : Type} {l : Addr} {items : Array Value} {ol : Obj} {m₀ : Str → Option Value} (xs : List Str) (lit : α → Ledger) (mm : α → Str → Option Value) (P : Nat → α → Ledger → Prop) (a₀ : α) (rest₀ : Ledger)
    (hE : PassesOwn (model prog w) A env E) (hh : A.handled = none) (F : Fr h₀ env.locals s.heap m₀) (N : News h₀ env.locals s.heap (lit a₀ ++ rest₀)) (hol : ol.cls = .type "list" ∧ ∃ n, ol.data = .seq items n)
    (hm : ∀ z, z ∉ xs → m₀ z = mm a₀ z) (hP : P 0 a₀ rest₀)
    (hside : ∀ i a rest h m, P i a rest → Fr h₀ env.locals h m → News h₀ env.locals h (lit a ++ rest) → h.get? l = some ol)
    (turn : ∀ I i v a rest (u : Str → Option Value) h tk oI, items[i]? = some v → P i a rest → (∀ p ∈ lit a ++ rest, Apt p.1 I) → h.IsListIter I l (i + 1) → Fr h₀ env.locals h (fun z => if z ∈ xs then u z else mm a z) → News h₀ env.locals h (lit a ++ (rest ++ [(I, oI)])) →
      wpAny (model prog w) A (letOwnedTupleGo target (.ref I) v) (fun _ s₁ => wpAny (model prog w) A (assign target env v) (fun _ s₂ => wpAny (model prog w) A (execs body env) (LS h₀ env.locals I oI xs lit mm (P (i + 1)) { s with heap := h, toks := tk } Q) E s₂) E s₁) E { s with heap := h, toks := tk })
    (done : ∀ a rest (u : Str → Option Value) h tk, P items.size a rest → Fr h₀ env.locals h (fun z => if z ∈ xs then u z else mm a z) → News h₀ env.locals h (lit a ++ rest) → wpAny (model prog w) A (execs orelse env) Q E { s with heap := h, toks := tk }) :
    wpAny (model prog w) A (pyIter (.ref l)) (fun it s₂ => ForGo prog w A env target body orelse Q E it s₂) E s := by
  have hl : s.heap.IsList l items := ⟨ol, hside 0 a₀ rest₀ s.heap m₀ hP F N, hol.1, hol.2⟩
  have hlt : l < s.heap.objs.size := Heap.lt_size (hside 0 a₀ rest₀ s.heap m₀ hP F N)
  have hne : l ≠ s.heap.objs.size := Nat.ne_of_lt hlt
  refine wpAny_pyIter_list hl ?_
  have W := Walks.list (prog := prog) (w := w) hh s.heap.objs.size l hne items
  refine for_ledT (s := { s with heap := _ }) (side := [(l, ol)]) xs lit mm P a₀ rest₀ W ⟨⟨_, Heap.get?_push_size _ rfl, rfl, rfl⟩, hl.at fun o e => Heap.get?_push_of_some _ e⟩ (fun i h st => let ⟨o, e, _⟩ := st.1; ⟨o, e⟩)
    (Heap.get?_none_of_le (Nat.le_trans F.above (Nat.le_of_lt F.ns.lt))) (Nat.ne_of_gt F.ns.lt) (F.push _) (fun p hp => ⟨Heap.get?_push_of_some _ (N p hp).1, (N p hp).2⟩) (fun p hp => Apt.lt (Heap.lt_size (N p hp).1)) hm hP hE
    (fun i a rest h m hP F N p hp => by rw [List.mem_singleton.mp hp]; exact hside i a rest h m hP F N) ?_ done
  intro i v a rest u h tk oI _ hv hP hI st F' N'
  exact turn _ i v a rest u h tk oI hv hP hI st.1 F' N'
/-- the names of a tuple target bound in the frame -/
theorem frame_tuple {I t l : Addr} {xs : List (Str × Pos)} {x1} {px : Pos} {vs : List Value} {j : Nat} {h : Heap} {tk : Nat} {m : Str → Option Value} {news : Ledger} {K : Shared → Prop} (F : Fr h₀ env.locals h m) (N : News h₀ env.locals h news)
    (hit : h.IsListIter I l j) (hh : A.handled = none) (ht : IsTup h t vs.toArray) (hl : xs.length = vs.length) (hx : ∀ x ∈ xs, env.kindOf x.1 = some .local) (hp : (env.scope.kind == .class || (env.scope.kind == .module && env.locals != env.globals)) = false)
    (k : ∀ h' tk', Fr h₀ env.locals h' (setAll ((xs.map (·.1)).zip vs) m) → News h₀ env.locals h' news → K { s with heap := h', toks := tk' }) :
    wpAny (model prog w) A (letOwnedTupleGo (.Tuple (xs.map fun p => .Name p.1 p.2) x1 px) (.ref I) (.ref t)) (fun _ s₁ => wpAny (model prog w) A (assign (.Tuple (xs.map fun p => .Name p.1 p.2) x1 px) env (.ref t)) (fun _ s₂ => K s₂) E s₁) E { s with heap := h, toks := tk } := by
  refine wpAny_letOwnedTupleGo_listiter hit ?_
  have each : ∀ (xs : List (Str × Pos)) (env : Env), assignEach (xs.map fun p => Expr.Name p.1 p.2) env = xs.map fun p => (false, assign (Expr.Name p.1 p.2) env) := by
    intro xs env
    induction xs with
    | nil => rfl
    | cons p r ih => rw [List.map_cons, List.map_cons, ← ih]; rfl
  refine assign_Tuple_tuple hh ht (by rw [each]; simp [hl]) (by rw [each]; simp [List.findIdx?_eq_none_iff]) fun h₅ he => ?_
  have he' : ∀ b o, h.get? b = some o → h₅.get? b = some o := fun b o e => he b o (Nat.ne_of_lt (Heap.lt_size e)) e
  rw [each, List.map_map]
  have go : ∀ (xs : List (Str × Pos)) (vs : List Value), xs.length = vs.length → (∀ x ∈ xs, env.kindOf x.1 = some .local) → ∀ (h₅ : Heap) (tk : Nat) (m : Str → Option Value), Fr h₀ env.locals h₅ m → News h₀ env.locals h₅ news →
      (∀ h' tk', Fr h₀ env.locals h' (setAll ((xs.map (·.1)).zip vs) m) → News h₀ env.locals h' news → K { s with heap := h', toks := tk' }) →
      wpAny (model prog w) A (assignInOrder (xs.map ((fun x => x.2) ∘ fun p => (false, assign (Expr.Name p.1 p.2) env))) vs) (fun _ s₂ => K s₂) E { s with heap := h₅, toks := tk } := by
    intro xs
    induction xs with
    | nil =>
      intro vs _ _ h₅ tk m F N k
      exact assignInOrder_nil (k h₅ tk (by simpa [setAll] using F) N)
    | cons x r ih =>
      intro vs hl hx h₅ tk m F N k
      have zq1 : ∃ v r, vs = v :: r := by
        cases vs with
        | nil => simp at hl
        | cons v r => exact ⟨v, r, rfl⟩
      first | ((first | refine el_0_3 (zq1) ?_ | refine el_1_2 (zq1) ?_ | refine el_2_1 (zq1) ?_); (try clear zq1); intro v vs zq2; subst zq2) | obtain ⟨v, vs, rfl⟩ := zq1
      refine assignInOrder_cons ?_
      refine wpAny_assign_Name (wpAny_storeName_local (hx x (.head _)) F.ns (fun h₃ hn₃ hs₃ => ?_) hp)
      have hL₀ : h₀.get? env.locals = none := Heap.get?_none_of_le F.above
      exact ih vs (by simpa using hl) (fun y hy => hx y (.tail _ hy)) h₃ _ _ ⟨hn₃, fun b o e => hs₃.extBut b o (fun q => by rw [q, hL₀] at e; cases e) (F.keep b o e), F.above⟩ (fun p hp => ⟨hs₃.extBut _ _ (N p hp).2.1 (N p hp).1, (N p hp).2⟩) fun h' tk' F' N' => k h' tk' F' N'
  exact go xs vs hl hx h₅ _ m (F.keeps he') (fun p hp => ⟨he' _ _ (N p hp).1, (N p hp).2⟩) k
end

end
-- LAWU
section
open PySem PySem.Spec PySem.W PyProof.Rows PySem.Calls PyProof.V
theorem setAll_off {z : Str} : ∀ (l : List (Str × Value)) (m : Str → Option Value), z ∉ l.map (·.1) → setAll l m z = m z
  | [], _, _ => rfl
  | (x, v) :: l, m, h => by
    rw [setAll, setAll_off l _ (fun q => h (.tail _ q))]
    exact if_neg fun e => h (by rw [e]; exact .head _)
theorem due_stage (w : World) (p : Program) (loose : List Str) (mean : ExcName → Option Value) (mg mb : Str → Option Value) {A₀ : Around} {base g : Heap} {L a : Addr} {ccd : Value} {dp un : Nat} {gd : Option (List Code)} {s : Shared} {Q : Flow → Shared → Prop} {E : Value → Shared → Prop} {u0 : Str → Option Value}
    (B : Below A₀ base [] g) (X : (hd.heap_39 w.params).In g) (T : Top p loose mean mg mb g) (hdp : dp + 40 < recursionLimit) (hun : un + 800 < cLine) (hE : PassesOwn (model PySem.Challenge.pw_xb0026_01 w) (ktrTop dp un gd (Str.ofString "law") lawScope L a ccd (cellsFrom (L + 1) lawScope.names []) []) (lawEnv L a ccd) E)
    (kl dl pf : Addr) (ck cd : Nat) (ks : List Kt) (du0 : Du) (ob ot oy os oi oo : Obj) (NL : Ledger)
    (hks : ∀ k ∈ ks, (k.U, k.o) ∈ NL) (hkl : ks.length ≤ 20) (hnum : ∀ k ∈ ks, 0 < k.x.number ∧ k.x.number < 2 ^ 40)
    (F : Fr g L s.heap (fun y => if y = Str.ofString "due" then some (Value.ref dl) else if y = Str.ofString "kept" then some (Value.ref kl) else if y = Str.ofString "page" then some (Value.ref pf) else u0 y))
    (N : News g L s.heap ((dl, listOf (List.toArray ([du0].map fun d => Value.ref d.T)) cd) :: (L + 1 + 1 + 1 + 1 + 1 + 1, oo) :: (L + 1 + 1 + 1 + 1 + 1, oi) :: (L + 1 + 1 + 1 + 1, os) :: (L + 1 + 1 + 1, oy) :: (L + 1 + 1, ot) :: (L + 1, ob) :: (kl, listOf (List.toArray (ks.map fun k => Value.ref k.U)) ck) :: (NL ++ du0.led)))
    (PW : AptAll ((dl, listOf (List.toArray ([du0].map fun d => Value.ref d.T)) cd) :: (L + 1 + 1 + 1 + 1 + 1 + 1, oo) :: (L + 1 + 1 + 1 + 1 + 1, oi) :: (L + 1 + 1 + 1 + 1, os) :: (L + 1 + 1 + 1, oy) :: (L + 1 + 1, ot) :: (L + 1, ob) :: (kl, listOf (List.toArray (ks.map fun k => Value.ref k.U)) ck) :: (NL ++ du0.led)))
    (next : ∀ (dus : List Du) (cd' : Nat) (u0' : Str → Option Value) (h' : Heap) (tk : Nat), dus.map (fun d => (d.tag, d.x)) = ks.map (fun k => (Txt.join (Str.ofString ", ") (namesAll k.x.number), txt k.x.lead)) → (∀ d ∈ dus, d.Ok PySem.Challenge.pw_xb0026_01 w) →
      Fr g L h' (fun y => if y = Str.ofString "due" then some (Value.ref dl) else if y = Str.ofString "kept" then some (Value.ref kl) else if y = Str.ofString "page" then some (Value.ref pf) else u0' y) →
      News g L h' ((dl, listOf (List.toArray ((du0 :: dus).map fun d => Value.ref d.T)) cd') :: (L + 1 + 1 + 1 + 1 + 1 + 1, oo) :: (L + 1 + 1 + 1 + 1 + 1, oi) :: (L + 1 + 1 + 1 + 1, os) :: (L + 1 + 1 + 1, oy) :: (L + 1 + 1, ot) :: (L + 1, ob) :: (kl, listOf (List.toArray (ks.map fun k => Value.ref k.U)) ck) :: (NL ++ (du0 :: dus).flatMap Du.led)) →
      AptAll ((dl, listOf (List.toArray ((du0 :: dus).map fun d => Value.ref d.T)) cd') :: (L + 1 + 1 + 1 + 1 + 1 + 1, oo) :: (L + 1 + 1 + 1 + 1 + 1, oi) :: (L + 1 + 1 + 1 + 1, os) :: (L + 1 + 1 + 1, oy) :: (L + 1 + 1, ot) :: (L + 1, ob) :: (kl, listOf (List.toArray (ks.map fun k => Value.ref k.U)) ck) :: (NL ++ (du0 :: dus).flatMap Du.led)) →
      wpAny (model PySem.Challenge.pw_xb0026_01 w) (ktrTop dp un gd (Str.ofString "law") lawScope L a ccd (cellsFrom (L + 1) lawScope.names []) []) (execs (lawBody.drop 5) (lawEnv L a ccd)) Q E { s with heap := h', toks := tk }) :
    wpAny (model PySem.Challenge.pw_xb0026_01 w) (ktrTop dp un gd (Str.ofString "law") lawScope L a ccd (cellsFrom (L + 1) lawScope.names []) []) (execs (lawBody.drop 4) (lawEnv L a ccd)) Q E s := by
  w_on
  conv =>
    arg 3
    arg 1
    whnf
  unfold lawEnv at *
  conv in (occs := *) lawScope => all_goals whnf
  refine let_A ?_
  intro A9
  refine let_env ?_
  intro env9
  (try k_unmd); (try k_fold); repeat' (first | ((fail_if_success (fail_if_success (with_reducible show wpAny _ _ (exec (Stmt.For _ _ _ _ _) _) _ _ _))); (with_unfolding_all refine For_go ?_)) | walk_at "S1")
  rename Fr _ _ _ _ => F1
  rename News _ _ _ _ => N1
  generalize hkO : listOf (List.toArray (ks.map fun k => Value.ref k.U)) ck = kO at *
  first | ((first | refine el_0_2 (show ∃ FX : Ledger, FX = (L + 1 + 1 + 1 + 1 + 1 + 1, oo) :: (L + 1 + 1 + 1 + 1 + 1, oi) :: (L + 1 + 1 + 1 + 1, os) :: (L + 1 + 1 + 1, oy) :: (L + 1 + 1, ot) :: (L + 1, ob) :: (kl, kO) :: (NL ++ du0.led) from ⟨_, rfl⟩) ?_ | refine el_1_1 (show ∃ FX : Ledger, FX = (L + 1 + 1 + 1 + 1 + 1 + 1, oo) :: (L + 1 + 1 + 1 + 1 + 1, oi) :: (L + 1 + 1 + 1 + 1, os) :: (L + 1 + 1 + 1, oy) :: (L + 1 + 1, ot) :: (L + 1, ob) :: (kl, kO) :: (NL ++ du0.led) from ⟨_, rfl⟩) ?_); intro FX hFX) | obtain ⟨FX, hFX⟩ : ∃ FX : Ledger, FX = (L + 1 + 1 + 1 + 1 + 1 + 1, oo) :: (L + 1 + 1 + 1 + 1 + 1, oi) :: (L + 1 + 1 + 1 + 1, os) :: (L + 1 + 1 + 1, oy) :: (L + 1 + 1, ot) :: (L + 1, ob) :: (kl, kO) :: (NL ++ du0.led) := ⟨_, rfl⟩
  rw [← hFX] at N1 PW
  have hmk : (kl, kO) ∈ FX := by
    rw [hFX]
    exact .tail _ (.tail _ (.tail _ (.tail _ (.tail _ (.tail _ (.head _))))))
  have hmN : ∀ q ∈ NL, q ∈ FX := by
    intro q hq
    rw [hFX]
    exact .tail _ (.tail _ (.tail _ (.tail _ (.tail _ (.tail _ (.tail _ (List.mem_append_left _ hq)))))))
  k_dflt refine' for_listT (α := List Du × Nat) (l := kl) (ol := kO) (items := List.toArray (ks.map fun k => Value.ref k.U)) [Str.ofString "below", Str.ofString "number", Str.ofString "lead", Str.ofString "run"] (fun q => (dl, listOf (List.toArray ((du0 :: q.1).map fun d => Value.ref d.T)) q.2) :: FX) (fun _ y => if y = Str.ofString "due" then some (Value.ref dl) else if y = Str.ofString "kept" then some (Value.ref kl) else if y = Str.ofString "page" then some (Value.ref pf) else u0 y)
    (fun i q rest => rest = q.1.flatMap Du.led ∧ q.1.map (fun d => (d.tag, d.x)) = (ks.take i).map (fun k => (Txt.join (Str.ofString ", ") (namesAll k.x.number), txt k.x.lead)) ∧ (∀ d ∈ q.1, d.Ok PySem.Challenge.pw_xb0026_01 w) ∧ AptAll ((dl, listOf (List.toArray ((du0 :: q.1).map fun d => Value.ref d.T)) q.2) :: (FX ++ rest))) ([], cd) [] ?pas rfl F1 (fun p hp => N1 p (by rw [List.append_nil] at hp; exact hp)) ⟨by rw [← hkO], ck, by rw [← hkO]⟩ (fun _ _ => rfl) ⟨rfl, rfl, (fun _ h => nomatch h), by rw [List.append_nil]; exact PW⟩ ?side ?turn ?done
  case pas => exact hE
  case side => exact fun i q rest h m _ _ N => (N _ (List.mem_append_left _ (.tail _ hmk))).1
  case turn =>
    first | (intro I i v zq3 rest u h tk oI hv zq4 hI hit F2 N2; (try k_unmd); (try (first | (with_reducible refine fold_comp ?_; intro XL YL ZL) | (with_reducible refine fold_for ?_; intro QL EL) | (with_reducible refine fold_while ?_; intro QL RL EL) | k_fold)); (first | refine el_0_2 (zq3) ?_ | refine el_1_1 (zq3) ?_); (try clear zq3); intro dus cd'; (first | refine el_0_4 (zq4) ?_ | refine el_1_3 (zq4) ?_ | refine el_2_2 (zq4) ?_ | refine el_3_1 (zq4) ?_); (try clear zq4); intro hrest hmap hdo hap) | rintro I i v ⟨dus, cd'⟩ rest u h tk oI hv ⟨hrest, hmap, hdo, hap⟩ hI hit F2 N2
    have zq1 : ∃ x, ks[i]? = some x ∧ v = .ref x.U := by
      rw [List.getElem?_toArray, List.getElem?_map] at hv
      cases e : ks[i]? with
      | none => rw [e] at hv; cases hv
      | some x => rw [e] at hv; exact ⟨x, rfl, (Option.some.inj hv).symm⟩
    first | ((first | refine el_0_3 (zq1) ?_ | refine el_1_2 (zq1) ?_ | refine el_2_1 (zq1) ?_); (try clear zq1); intro x hx zq2; subst zq2) | obtain ⟨x, hx, rfl⟩ := zq1
    have hxm := List.mem_of_getElem? hx
    first | ((first | refine el_0_2 (hnum x hxm) ?_ | refine el_1_1 (hnum x hxm) ?_); intro hn0 hn1) | obtain ⟨hn0, hn1⟩ := hnum x hxm
    have zx := N2 (x.U, x.o) (List.mem_append_left _ (.tail _ (hmN _ (hks x hxm))))
    refine frame_tuple (t := x.U) (l := kl) (j := i + 1) (xs := [(Str.ofString "below", _), (Str.ofString "number", _), (Str.ofString "lead", _), (Str.ofString "run", _)]) (vs := [.ref x.x.R.f, .int x.x.number x.tn, .str (txt x.x.lead) x.tl, .str (txt x.x.run) x.tr]) F2 N2 hit rfl ⟨_, zx.1, rfl, _, rfl⟩ rfl ?kinds rfl ?_
    case kinds =>
      intro q hq
      simp only [List.mem_cons, List.not_mem_nil, or_false] at hq
      rcases hq with rfl | rfl | rfl | rfl <;> with_unfolding_all rfl
    intro h3 tk3 F3 N3
    first | ((first | refine el_0_2 (show ∃ v0, v0 = setAll ([Str.ofString "below", Str.ofString "number", Str.ofString "lead", Str.ofString "run"].zip [Value.ref x.x.R.f, .int x.x.number x.tn, .str (txt x.x.lead) x.tl, .str (txt x.x.run) x.tr]) (fun z => if z ∈ [Str.ofString "below", Str.ofString "number", Str.ofString "lead", Str.ofString "run"] then u z else if z = Str.ofString "due" then some (Value.ref dl) else if z = Str.ofString "kept" then some (Value.ref kl) else if z = Str.ofString "page" then some (Value.ref pf) else u0 z) from ⟨_, rfl⟩) ?_ | refine el_1_1 (show ∃ v0, v0 = setAll ([Str.ofString "below", Str.ofString "number", Str.ofString "lead", Str.ofString "run"].zip [Value.ref x.x.R.f, .int x.x.number x.tn, .str (txt x.x.lead) x.tl, .str (txt x.x.run) x.tr]) (fun z => if z ∈ [Str.ofString "below", Str.ofString "number", Str.ofString "lead", Str.ofString "run"] then u z else if z = Str.ofString "due" then some (Value.ref dl) else if z = Str.ofString "kept" then some (Value.ref kl) else if z = Str.ofString "page" then some (Value.ref pf) else u0 z) from ⟨_, rfl⟩) ?_); intro v0 hv0) | obtain ⟨v0, hv0⟩ : ∃ v0, v0 = setAll ([Str.ofString "below", Str.ofString "number", Str.ofString "lead", Str.ofString "run"].zip [Value.ref x.x.R.f, .int x.x.number x.tn, .str (txt x.x.lead) x.tl, .str (txt x.x.run) x.tr]) (fun z => if z ∈ [Str.ofString "below", Str.ofString "number", Str.ofString "lead", Str.ofString "run"] then u z else if z = Str.ofString "due" then some (Value.ref dl) else if z = Str.ofString "kept" then some (Value.ref kl) else if z = Str.ofString "page" then some (Value.ref pf) else u0 z) := ⟨_, rfl⟩
    have hoff : ∀ z, z ∉ [Str.ofString "below", Str.ofString "number", Str.ofString "lead", Str.ofString "run"] → v0 z = if z = Str.ofString "due" then some (Value.ref dl) else if z = Str.ofString "kept" then some (Value.ref kl) else if z = Str.ofString "page" then some (Value.ref pf) else u0 z := by
      intro z hz
      rw [hv0, setAll_off _ _ hz, if_neg hz]
    have F4 : Fr g L h3 (fun y => if y = Str.ofString "lead" then some (Value.str (txt x.x.lead) x.tl) else if y = Str.ofString "number" then some (Value.int x.x.number x.tn) else if y = Str.ofString "due" then some (Value.ref dl) else v0 y) := by
      refine fr_congr F3 fun z => ?_
      show _ = setAll _ _ z
      by_cases h1 : z = Str.ofString "lead"
      · subst h1; rfl
      rw [if_neg h1]
      by_cases h2 : z = Str.ofString "number"
      · subst h2; rfl
      rw [if_neg h2]
      by_cases h3 : z = Str.ofString "due"
      · subst h3; rfl
      rw [if_neg h3, hv0]
      rfl
    clear F3 F2 N2 zx
    have hI' := hI
    rw [hFX] at N3 hI'
    simp only [List.cons_append] at N3 hI'
    have hap' := hap
    rw [hFX] at hap'
    simp only [List.cons_append] at hap'
    have a0 := (apt_cons hap').1
    have d6 : @Ne Nat (L + 1 + 1 + 1 + 1 + 1 + 1) dl := a0 (_, oo) (.head _)
    have d5 : @Ne Nat (L + 1 + 1 + 1 + 1 + 1) dl := a0 (_, oi) (.tail _ (.head _))
    have d4 : @Ne Nat (L + 1 + 1 + 1 + 1) dl := a0 (_, os) (.tail _ (.tail _ (.head _)))
    have d3 : @Ne Nat (L + 1 + 1 + 1) dl := a0 (_, oy) (.tail _ (.tail _ (.tail _ (.head _))))
    have d2 : @Ne Nat (L + 1 + 1) dl := a0 (_, ot) (.tail _ (.tail _ (.tail _ (.tail _ (.head _)))))
    have d1 : @Ne Nat (L + 1) dl := a0 (_, ob) (.tail _ (.tail _ (.tail _ (.tail _ (.tail _ (.head _))))))
    have d0 : @Ne Nat kl dl := a0 (kl, kO) (.tail _ (.tail _ (.tail _ (.tail _ (.tail _ (.tail _ (.head _)))))))
    have dI : @Ne Nat I dl := (hI' (dl, _) (.head _)).ne'
    have dN : ∀ q ∈ NL ++ du0.led ++ (rest ++ [(I, oI)]), q.1 ≠ dl := by
      intro q hq
      rcases List.mem_append.mp hq with hq | hq
      · exact a0 q (.tail _ (.tail _ (.tail _ (.tail _ (.tail _ (.tail _ (.tail _ (List.mem_append_left _ hq))))))))
      · rcases List.mem_append.mp hq with hq | hq
        · exact a0 q (.tail _ (.tail _ (.tail _ (.tail _ (.tail _ (.tail _ (.tail _ (List.mem_append_right _ hq))))))))
        · rw [List.mem_singleton.mp hq]; exact dI
    have hlen : dus.length ≤ 20 := by
      have q := congrArg List.length hmap
      rw [List.length_map, List.length_map, List.length_take] at q
      have q' : dus.length = min i ks.length := q
      omega
    have hz : (List.toArray ((du0 :: dus).map fun d => Value.ref d.T)).size ≤ sizeLine := by
      rw [List.size_toArray, List.length_map, List.length_cons, sizeLine_eq]
      omega
    clear a0 hap'
    have N4 : News g L h3 _ := N3
    clear N3
    refine restart (gn := s.gens) (s := s) F4 rfl rfl rfl rfl ?_
    intro tk4
    (try k_unmd); (try k_fold); repeat' (first | ((fail_if_success (fail_if_success (with_reducible show wpAny _ _ (call (Value.ref _) _ _) _ _ _))); refine stop_of ?_) | walk_at "S1")
    try unfold Stop
    rename Fr _ _ _ _ => F5
    rename News _ _ _ _ => N5
    k_dflt refine' hspec_use (touched := []) ?B F5 ?X (fun p hp => N5 p hp) ?T ?hk (words_ok w p loose mean mg mb x.x.number _ hn0 hn1) ?dis ?dp ?un ?_
    case B => assumption
    case X => assumption
    case T => assumption
    case hk => exact rfl
    case dis => exact fun _ _ q hq => nomatch hq
    case dp => omega
    case un => omega
    intro r tl upd h6 tk6 F6 N6 e6 o6 pw6 P6
    first | ((first | refine el_0_3 (P6) ?_ | refine el_1_2 (P6) ?_ | refine el_2_1 (P6) ?_); (try clear P6); intro t6 zq5 zq6; subst zq5; subst zq6) | obtain ⟨t6, rfl, rfl⟩ := P6
    obtain rfl := List.map_eq_nil_iff.mp e6
    simp only [List.nil_append] at N6
    clear F5 N5 e6 o6 pw6
    refine restart (gn := s.gens) (s := s) F6 rfl rfl rfl rfl ?_
    intro tk7
    (try k_unmd); (try k_fold); repeat' (first | ((fail_if_success (fail_if_success (with_reducible show wpAny _ _ (call (Value.builtin "list.append") _ _) _ _ _))); dsimp only [List.nil_append, List.cons_append]; (with_reducible show wpAny _ _ (call (Value.builtin _) [Value.ref _, _]) _ _ _); k_dflt (refine' append_K ?y9k1 ?y9k2 ?y9k3 ?_ ?y9z; (case y9k1 => k_asm); (case y9k2 => k_asm); (case y9k3 => k_upd); (case y9z => size_fits); k_whole); intro _ _ _; (try k_sweep)) | walk_at "S1")
    rename Fr _ _ _ _ => F8
    rename News _ _ _ _ => N8
    rename Obj.IsDictOf _ _ _ => e1
    rename (_ == sysModules) = false => lo1
    rename @LT.lt Nat _ h6.objs.size _ ∧ _ => l2
    rename @LT.lt Nat _ dl h6.objs.size ∧ _ => l1
    rename Heap => h8
    rw [List.push_toArray] at N8
    have NN : ∃ (D9 D1 : Addr) (o9 : Obj) (ta tb : Tok), o9.IsDictOf (PySem.strKind PySem.Challenge.pw_xb0026_01 w) [(Str.ofString "lead", .str (txt x.x.lead) ta), (Str.ofString "of", .str (Str.ofString "page") tb)] ∧ D1 ≠ sysModules ∧
        News g L h8 ((D9, tupO [.str (Txt.join (Str.ofString ", ") (namesAll x.x.number)) t6, .ref D1]) :: (D1, o9) :: (dl, listOf (List.toArray ((du0 :: dus).map (fun d => Value.ref d.T) ++ [Value.ref D9])) (cd' + 1)) :: (FX ++ (rest ++ [(I, oI)]))) ∧
        AllLt D1 ((dl, listOf (List.toArray ((du0 :: dus).map (fun d => Value.ref d.T) ++ [Value.ref D9])) (cd' + 1)) :: (FX ++ (rest ++ [(I, oI)]))) ∧ AllLt D9 ((D1, o9) :: (dl, listOf (List.toArray ((du0 :: dus).map (fun d => Value.ref d.T) ++ [Value.ref D9])) (cd' + 1)) :: (FX ++ (rest ++ [(I, oI)]))) := by
      rw [hFX]
      exact ⟨_, _, _, _, _, e1, by rw [beq_eq_false_iff_ne] at lo1; exact lo1, N8, l1, l2⟩
    clear e1 lo1 l1 l2 N8
    first | ((first | refine el_0_10 (NN) ?_ | refine el_1_9 (NN) ?_ | refine el_2_8 (NN) ?_ | refine el_3_7 (NN) ?_ | refine el_4_6 (NN) ?_ | refine el_5_5 (NN) ?_ | refine el_6_4 (NN) ?_ | refine el_7_3 (NN) ?_ | refine el_8_2 (NN) ?_ | refine el_9_1 (NN) ?_); (try clear NN); intro D9 D1 o9 ta tb hdict hsys N9 l1 l2) | obtain ⟨D9, D1, o9, ta, tb, hdict, hsys, N9, l1, l2⟩ := NN
    have eV : (du0 :: dus).map (fun d => Value.ref d.T) ++ [Value.ref D9] = (du0 :: (dus ++ [⟨D9, Txt.join (Str.ofString ", ") (namesAll x.x.number), t6, D1, o9, txt x.x.lead, ta, tb⟩])).map (fun d => Value.ref d.T) := by simp
    rw [eV] at N9 l1 l2
    have eL : (dus ++ [(⟨D9, Txt.join (Str.ofString ", ") (namesAll x.x.number), t6, D1, o9, txt x.x.lead, ta, tb⟩ : Du)]).flatMap Du.led = rest ++ [(D9, tupO [.str (Txt.join (Str.ofString ", ") (namesAll x.x.number)) t6, .ref D1]), (D1, o9)] := by
      rw [List.flatMap_append, ← hrest]
      rfl
    have i1 := allLt_mem l1 (I, oI) (.tail _ (List.mem_append_right _ (List.mem_append_right _ (.head _))))
    have i9 := allLt_mem l2 (I, oI) (.tail _ (.tail _ (List.mem_append_right _ (List.mem_append_right _ (.head _)))))
    refine LS.intro ((dus ++ [⟨D9, Txt.join (Str.ofString ", ") (namesAll x.x.number), t6, D1, o9, txt x.x.lead, ta, tb⟩], cd' + 1) : List Du × Nat) (rest ++ [(D9, tupO [.str (Txt.join (Str.ofString ", ") (namesAll x.x.number)) t6, .ref D1]), (D1, o9)]) F8 N9 (fun p hp => ?hs) ?hm (fun p hp => ?hI) ⟨eL.symm, ?h1, ?h2, ?h3⟩
    case hs =>
      exact Rf.sub (x := _) (l := [_, _, _]) (r := [_, _]) (.app (.cons 0 (.leaf 0)) (.app (.app (.leaf 1) (.cons 2 (.cons 1 .nil))) (.cons 3 .nil))) (.cons 2 (.cons 1 (.cons 0 (.app (.leaf 0) (.app (.leaf 1) (.cons 3 .nil)))))) (by decide) hp
    case hm =>
      intro z hz
      have z1 : z ≠ Str.ofString "lead" := fun q => hz (by rw [q]; exact .tail _ (.tail _ (.head _)))
      have z2 : z ≠ Str.ofString "number" := fun q => hz (by rw [q]; exact .tail _ (.head _))
      rw [if_neg z1, if_neg z2, hoff z hz]
      by_cases h3 : z = Str.ofString "due"
      · rw [if_pos h3, if_pos h3]
      · rw [if_neg h3]
    case hI =>
      simp only [List.cons_append, List.mem_cons, List.mem_append, List.not_mem_nil, or_false] at hp
      rcases hp with rfl | h | h | rfl | rfl
      · exact (hI (dl, listOf (List.toArray ((du0 :: dus).map fun d => Value.ref d.T)) cd') (.head _) : Apt dl I)
      · exact hI p (.tail _ (List.mem_append_left _ h))
      · exact hI p (.tail _ (List.mem_append_right _ h))
      · exact Apt.gt i9
      · exact Apt.gt i1
    case h1 =>
      rw [List.map_append, hmap, take_map _ hx]
      rfl
    case h2 =>
      intro d hd
      rcases List.mem_append.mp hd with hd | hd
      · exact hdo d hd
      · rw [List.mem_singleton.mp hd]
        exact ⟨hdict, hsys⟩
    case h3 =>
      have A1 : AptAll ((dl, listOf (List.toArray ((du0 :: (dus ++ [⟨D9, Txt.join (Str.ofString ", ") (namesAll x.x.number), t6, D1, o9, txt x.x.lead, ta, tb⟩])).map fun d => Value.ref d.T)) (cd' + 1)) :: (FX ++ rest)) := hap
      have A2 := apt_fresh (T := D1) (o := o9) (allLt_of fun q hq => allLt_mem l1 q (by
        exact Rf.sub (x := _) (l := [_]) (r := [_, _]) (.cons 0 (.app (.leaf 0) (.leaf 1))) (.cons 0 (.app (.leaf 0) (.app (.leaf 1) (.cons 1 .nil)))) (by decide) hq)) A1
      have A3 := apt_fresh (T := D9) (o := tupO [.str (Txt.join (Str.ofString ", ") (namesAll x.x.number)) t6, .ref D1]) (allLt_of fun q hq => allLt_mem l2 q (by
        exact Rf.sub (x := _) (l := [_, _]) (r := [_, _]) (.cons 0 (.cons 1 (.app (.leaf 0) (.leaf 1)))) (.cons 0 (.cons 1 (.app (.leaf 0) (.app (.leaf 1) (.cons 2 .nil))))) (by decide) hq)) A2
      refine apt_perm A3 (perm_add fun cnt one e0 ec ea => ?_)
      simp only [ec, ea, e0]
      omega
  case done =>
    first | (intro zq7 rest u h tk zq8 F2 N2; (try k_unmd); (try (first | (with_reducible refine fold_comp ?_; intro XL YL ZL) | (with_reducible refine fold_for ?_; intro QL EL) | (with_reducible refine fold_while ?_; intro QL RL EL) | k_fold)); (first | refine el_0_2 (zq7) ?_ | refine el_1_1 (zq7) ?_); (try clear zq7); intro dus cd'; (first | refine el_0_4 (zq8) ?_ | refine el_1_3 (zq8) ?_ | refine el_2_2 (zq8) ?_ | refine el_3_1 (zq8) ?_); (try clear zq8); intro hrest hmap hdo hap) | rintro ⟨dus, cd'⟩ rest u h tk ⟨hrest, hmap, hdo, hap⟩ F2 N2
    have es2 : (List.toArray (ks.map fun k => Value.ref k.U)).size = ks.length := by rw [List.size_toArray, List.length_map]
    rw [es2, List.take_length] at hmap
    try dsimp only
    (try k_unmd); (try k_fold); repeat' (first | ((fail_if_success (fail_if_success (with_reducible show wpAny _ _ (execs (Stmt.If _ _ _ _ :: _) _) _ _ _))); (with_reducible show wpAny _ _ (execs (Stmt.If _ _ _ _ :: _) _) _ _ _); refine stop_of ?_) | walk_at "S1")
    try unfold Stop
    have F3 : Fr g L h (fun y => if y = Str.ofString "due" then some (Value.ref dl) else if y = Str.ofString "kept" then some (Value.ref kl) else if y = Str.ofString "page" then some (Value.ref pf) else if y ∈ [Str.ofString "below", Str.ofString "number", Str.ofString "lead", Str.ofString "run"] then u y else u0 y) := by
      refine fr_congr F2 fun z => ?_
      by_cases h1 : z = Str.ofString "due"
      · subst h1; rfl
      by_cases h2 : z = Str.ofString "kept"
      · subst h2; rfl
      by_cases h3 : z = Str.ofString "page"
      · subst h3; rfl
      rw [if_neg h1, if_neg h2, if_neg h3, if_neg h1, if_neg h2, if_neg h3]
    have eA : NL ++ (du0 :: dus).flatMap Du.led = (NL ++ du0.led) ++ rest := by rw [hrest, List.flatMap_cons, List.append_assoc]
    rw [hFX] at hap N2
    refine restart (gn := s.gens) (s := s) F3 rfl rfl rfl rfl ?_
    intro tk4
    refine next dus cd' _ h tk4 hmap hdo F3 ?_ ?_
    · rw [eA]
      exact N2
    · rw [eA]
      exact hap

end
-- HEAPS
section
open PySem PySem.Spec PySem.W PyProof.Rows PySem.Calls PyProof.V
/-- as HSpec, of a ground that holds G -/
noncomputable def HSpecG (G : Heap → Prop) (k : Nat) (w : World) (p : Program) (loose : List Str) (mean : ExcName → Option Value) (mg mb : Str → Option Value) (f : Addr) (vs : List Value) (Post : Ledger → Value → Prop) : Prop :=
  ∀ (dp un : Nat) (gd : Option (List Code)) (cn : Str) (cs : Scope) (L a : Addr) (ccd : Value) (cl : List (Str × Addr)) (outer : List Env) (base g : Heap) (s : Shared) (Q E : Value → Shared → Prop),
    Below (ktrTop dp un gd cn cs L a ccd cl outer) base (envX cn cs L a ccd cl :: outer) g → Hid g s.heap [] → g.objs.size = s.heap.objs.size → (hd.heap_39 w.params).In g → Top p loose mean mg mb g → G g → cs.kind = .function → dp + k < recursionLimit → un + 20 * k < cLine →
    (∀ r tl h' tk', Hid g h' tl → (tl.map (·.1)).Pairwise Apt → Post tl r → Q r { s with heap := h', toks := tk' }) →
    wpAny (model PySem.Challenge.pw_xb0026_01 w) (ktrTop dp un gd cn cs L a ccd cl outer) (call (.ref f) vs) Q E s
section
variable {G : Heap → Prop} {k : Nat} {w : World} {p : Program} {loose : List Str} {mean : ExcName → Option Value} {mg mb : Str → Option Value} {f : Addr} {vs : List Value} {rest : Ledger} {Post : Ledger → Value → Prop}
  {dp un : Nat} {gd : Option (List Code)} {cn : Str} {cs : Scope} {a : Addr} {ccd : Value} {cl : List (Str × Addr)} {outer : List Env} {A₀ : Around} {base h₀ : Heap} {L : Addr} {m : Str → Option Value} {s : Shared} {Q E : Value → Shared → Prop}
theorem hspecG_use (B : Below A₀ base outer h₀) (F : Fr h₀ L s.heap m) (X : (hd.heap_39 w.params).In h₀) (N : News h₀ L s.heap rest) (T : Top p loose mean mg mb h₀) (hG : ∀ g, (∀ b o, h₀.get? b = some o → g.get? b = some o) → G g) (hk : cs.kind = .function)
    (S : HSpecG G k w p loose mean mg mb f vs Post) (hd : dp + k < recursionLimit) (hu : un + 20 * k < cLine)
    (ret : ∀ r tl h' tk', Fr h₀ L h' m → News h₀ L h' (tl ++ rest) → (∀ p ∈ tl, ∀ q ∈ rest, Apt p.1 q.1) → (tl.map (·.1)).Pairwise Apt → Post tl r → Q r { s with heap := h', toks := tk' }) :
    wpAny (model PySem.Challenge.pw_xb0026_01 w) (ktrTop dp un gd cn cs L a ccd cl outer) (call (.ref f) vs) Q E s := by
  have Nt : News h₀ L s.heap [] := fun p hp => nomatch hp
  first | ((first | refine el_0_4 (groundX (R := fun _ _ => True) (A := ktrTop dp un gd cn cs L a ccd cl outer) (env := envX cn cs L a ccd cl) B F Nt rfl rfl hk) ?_ | refine el_1_3 (groundX (R := fun _ _ => True) (A := ktrTop dp un gd cn cs L a ccd cl outer) (env := envX cn cs L a ccd cl) B F Nt rfl rfl hk) ?_ | refine el_2_2 (groundX (R := fun _ _ => True) (A := ktrTop dp un gd cn cs L a ccd cl outer) (env := envX cn cs L a ccd cl) B F Nt rfl rfl hk) ?_ | refine el_3_1 (groundX (R := fun _ _ => True) (A := ktrTop dp un gd cn cs L a ccd cl outer) (env := envX cn cs L a ccd cl) B F Nt rfl rfl hk) ?_); intro FG BG st _) | obtain ⟨FG, BG, st, _⟩ := groundX (R := fun _ _ => True) (A := ktrTop dp un gd cn cs L a ccd cl outer) (env := envX cn cs L a ccd cl) B F Nt rfl rfl hk
  have gsz := hideAll_size (([] : Ledger).map (·.1)) s.heap
  refine S dp un gd cn cs L a ccd cl outer base (hideAll s.heap (([] : Ledger).map (·.1))) s Q E BG ⟨fun b o e => of_hideAll _ e, fun p hp => nomatch hp⟩ gsz (X.keeps fun b o e => st b o e) (T.keeps fun b o e => st b o e) (hG _ fun b o e => st b o e) hk hd hu ?_
  intro r tl h' tk' H pw P
  have gL : ∀ b, (hideAll s.heap (([] : Ledger).map (·.1))).get? b = none → h₀.get? b = none := fun b hb => by
    cases q : h₀.get? b with
    | none => rfl
    | some o => rw [st b o q] at hb; cases hb
  have nL : ∀ b, (hideAll s.heap (([] : Ledger).map (·.1))).get? b = none → b ≠ L := fun b hb q => by
    first | ((first | refine el_0_5 (FG.ns) ?_ | refine el_1_4 (FG.ns) ?_ | refine el_2_3 (FG.ns) ?_ | refine el_3_2 (FG.ns) ?_ | refine el_4_1 (FG.ns) ?_); intro oL es ep hL _) | obtain ⟨oL, es, ep, hL, _⟩ := FG.ns
    rw [q, hL] at hb; cases hb
  refine ret r tl h' tk' ⟨?_, fun b o e' => H.keep b o (st b o e'), F.above⟩ (fun p hp => ?_) (fun p hp q hq => ?_) pw P
  · first | ((first | refine el_0_5 (FG.ns) ?_ | refine el_1_4 (FG.ns) ?_ | refine el_2_3 (FG.ns) ?_ | refine el_3_2 (FG.ns) ?_ | refine el_4_1 (FG.ns) ?_); intro oL es ep hL r) | obtain ⟨oL, es, ep, hL, r⟩ := FG.ns
    exact ⟨oL, es, ep, H.keep _ _ hL, r⟩
  · rcases List.mem_append.mp hp with hp | hp
    · exact ⟨(H.led p hp).1, nL _ (H.led p hp).2, gL _ (H.led p hp).2⟩
    · have z := N p hp
      exact ⟨H.keep _ _ (hideAll_get _ z.1 fun q => nomatch q), z.2⟩
  · intro e'
    have z := N q hq
    have y := (H.led p hp).2
    have x := hideAll_get (([] : Ledger).map (·.1)) z.1 fun q' => nomatch q'
    rw [e', x] at y
    cases y
end
theorem heap_bound {ns : List Int} {k : Nat} {x B B' : Int} (h : ∀ j, 0 ≤ ns.getD j 0 ∧ ns.getD j 0 ≤ B) (h0 : 0 ≤ x) (h1 : x ≤ B') (hB : B ≤ B') (j : Nat) : 0 ≤ (ns.set k x).getD j 0 ∧ (ns.set k x).getD j 0 ≤ B' := by
  have hj := h j
  rw [List.getD_eq_getElem?_getD] at hj ⊢
  rw [List.getElem?_set]
  by_cases hk : k = j
  · subst hk
    rw [if_pos rfl]
    by_cases hl : k < ns.length
    · rw [if_pos hl]
      exact ⟨h0, h1⟩
    · rw [if_neg hl, Option.getD_none]
      exact ⟨Int.le_refl _, by omega⟩
  · rw [if_neg hk]
    exact ⟨hj.1, by omega⟩
theorem ints_three {vs : List Value} {ns : List Int} (h : IntsAre vs ns) (hl : ns.length = 3) : ∃ a b c t1 t2 t3, vs = [.int a t1, .int b t2, .int c t3] ∧ ns = [a, b, c] := by
  cases h with
  | nil => cases hl
  | cons a t1 h =>
    cases h with
    | nil => cases hl
    | cons b t2 h =>
      cases h with
      | nil => cases hl
      | cons c t3 h =>
        cases h with
        | nil => exact ⟨a, b, c, t1, t2, t3, rfl, rfl⟩
        | cons _ _ _ => simp at hl
theorem heaps_ok (w : World) (p : Program) (loose : List Str) (mean : ExcName → Option Value) (mg mb : Str → Option Value) (sc : Addr) (vs : List Value) (ns : List Int) (hi : IntsAre vs ns) (hl63 : ns.length ≤ 63) :
    HSpecG (fun g => g.IsList sc vs.toArray) 4 w p loose mean mg mb 118 [.ref sc] (fun tl r => ∃ (hl : Addr) (n : Nat) (c r' pl : Int) (t1 t2 t3 : Tok), r = .ref hl ∧ tl = [(hl, listOf #[.int c t1, .int r' t2, .int pl t3] n)] ∧ (0 ≤ c ∧ c < 2 ^ 60) ∧ (0 ≤ r' ∧ r' < 2 ^ 60) ∧ (0 ≤ pl ∧ pl < 2 ^ 60)) := by
  intro dp un gd cn cs L a ccd cl outer base g s Q E B H hz X T hsc hk hdp hun hret
  have hlen := hi.length
  w_on
  k_dflt refine' h_enter (touched := []) (binds := [(Str.ofString "script", .ref sc)]) ?k1 ?k2 ?k3 ?k4 ?k5 ?k6 ?k7 ?k8 ?k9 ?kB ?_ ?c2 ?c3 ?c4 ?c5
  ((case k1 => assumption); (case k2 => assumption); (case k3 => assumption); (case k4 => assumption); (case k5 => assumption); (case k6 => k_is); (case k7 => k_is); (case k8 => ktr_room); (case k9 => exact BindsTo.of_eq rfl); (case c2 => decide); (case kB => exact locs rfl); (case c3 => exact rfl); (case c4 => exact rfl); (case c5 => exact rfl); k_whole; intro L' h' F' N' z' l1; (try k_lt l1); (simp only [List.reverse_cons, List.reverse_nil, List.nil_append, List.cons_append, lookup_if, lookup_no] at F'); revert L' h' F' N' z' l1; intros; (try dsimp only); (try k_unmd); (try k_fold); (try (refine let_A ?_; intro _; refine let_env ?_; intro _)))
  (try k_unmd); (try k_fold); repeat' (first | ((fail_if_success (fail_if_success (with_reducible show wpAny _ _ (exec (Stmt.For _ _ _ _ _) _) _ _ _))); (with_unfolding_all refine For_go ?_)) | walk_at "S1")
  rename IsRange _ _ _ _ _ _ _ _ => hR
  rename Fr _ _ _ _ => F1
  rename News _ _ _ _ => N1
  rename_i Lf hA zA lA aA aE hl0 hB lB hC FC NC hD tkD tD uD vD kD
  first | ((first | refine el_0_4 (show ∃ vs0 n0, IntsAre vs0 [264070, 13192622629, 97] ∧ News g Lf hD [(hl0, listOf (List.toArray vs0) n0)] from ⟨_, _, .cons _ _ (.cons _ _ (.cons _ _ .nil)), N1⟩) ?_ | refine el_1_3 (show ∃ vs0 n0, IntsAre vs0 [264070, 13192622629, 97] ∧ News g Lf hD [(hl0, listOf (List.toArray vs0) n0)] from ⟨_, _, .cons _ _ (.cons _ _ (.cons _ _ .nil)), N1⟩) ?_ | refine el_2_2 (show ∃ vs0 n0, IntsAre vs0 [264070, 13192622629, 97] ∧ News g Lf hD [(hl0, listOf (List.toArray vs0) n0)] from ⟨_, _, .cons _ _ (.cons _ _ (.cons _ _ .nil)), N1⟩) ?_ | refine el_3_1 (show ∃ vs0 n0, IntsAre vs0 [264070, 13192622629, 97] ∧ News g Lf hD [(hl0, listOf (List.toArray vs0) n0)] from ⟨_, _, .cons _ _ (.cons _ _ (.cons _ _ .nil)), N1⟩) ?_); intro vs0 n0 hi0 N2) | obtain ⟨vs0, n0, hi0, N2⟩ : ∃ vs0 n0, IntsAre vs0 [264070, 13192622629, 97] ∧ News g Lf hD [(hl0, listOf (List.toArray vs0) n0)] := ⟨_, _, .cons _ _ (.cons _ _ (.cons _ _ .nil)), N1⟩
  clear NC N1
  k_dflt refine' for_range (α := List Value × List Int) (n := ns.length) [Str.ofString "k"] (fun q => [(hl0, listOf (List.toArray q.1) n0)]) (fun _ y => if y = Str.ofString "heaps" then some (.ref hl0) else if y = Str.ofString "script" then some (.ref sc) else none)
    (fun i q rest => rest = [] ∧ IntsAre q.1 q.2 ∧ q.2.length = 3 ∧ ∀ j, 0 ≤ q.2.getD j 0 ∧ q.2.getD j 0 ≤ 13192622629 + (i : Int) * 1000000000000) (vs0, [264070, 13192622629, 97]) [] ?pas rfl F1 (fun p hp => N2 p (by rw [List.append_nil] at hp; exact hp)) hR (small_one (by omega) (by omega) (by omega) (by omega)) ?size (fun _ _ => rfl) ⟨rfl, hi0, rfl, ?init⟩ ?turn ?done
  case pas => passes_own
  case size =>
    rw [rangeSize_one]
    split <;> omega
  case init =>
    intro j
    rcases j with _ | _ | _ | j
    · simp
    · simp
    · simp
    · simp
  case turn =>
    first | (intro I i ut zq1 rest u h tk oI hil zq2 hI F2 N2; (try k_unmd); (try (first | (with_reducible refine fold_comp ?_; intro XL YL ZL) | (with_reducible refine fold_for ?_; intro QL EL) | (with_reducible refine fold_while ?_; intro QL RL EL) | k_fold)); (first | refine el_0_2 (zq1) ?_ | refine el_1_1 (zq1) ?_); (try clear zq1); intro hv hn; (first | refine el_0_4 (zq2) ?_ | refine el_1_3 (zq2) ?_ | refine el_2_2 (zq2) ?_ | refine el_3_1 (zq2) ?_); (try clear zq2); intro zq3 hi1 hl3 hb; subst zq3) | rintro I i ut ⟨hv, hn⟩ rest u h tk oI hil ⟨rfl, hi1, hl3, hb⟩ hI F2 N2
    simp only [List.cons_append, List.nil_append] at N2
    have nI : @Ne Nat I hl0 := (hI _ (.head _)).ne'
    have hsc' : h.IsList sc vs.toArray := hsc.at fun o e => F2.keep _ _ e
    have hfm : 0 ≤ (0 + (i : Int)).fmod 3 ∧ (0 + (i : Int)).fmod 3 < 3 := by
      rw [Int.fmod_eq_emod_of_nonneg _ (by decide)]
      omega
    have hk0 : 0 ≤ (0 + (i : Int)) ∧ (0 + (i : Int)) < (ns.length : Int) := by omega
    try dsimp only
    try k_fold
    (try k_unmd); (try k_fold); repeat' (walk_at "S1")
    rename Fr _ _ _ _ => F3
    rename News _ _ _ _ => N3
    rename IntsAre (List.set _ _ _) (List.set _ _ _) => hi2
    rename List.length (List.set _ _ _) = _ => hl2
    have hy : 0 ≤ (ns.getD (0 + (i : Int)).toNat 0).fmod (10 ^ Int.toNat 12) ∧ (ns.getD (0 + (i : Int)).toNat 0).fmod (10 ^ Int.toNat 12) < 1000000000000 := by
      have e : (10 : Int) ^ Int.toNat 12 = 1000000000000 := by decide
      rw [e, Int.fmod_eq_emod_of_nonneg _ (by decide)]
      omega
    have hx := hb ((0 + (i : Int)).fmod 3).toNat
    refine LS.intro ((_, _) : List Value × List Int) [] F3 N3 (fun p hp => hp) ?hm (apt_fst hI rfl) ⟨rfl, hi2, hl2.trans hl3, ?bound⟩
    case hm =>
      intro z hz
      have z1 : z ≠ Str.ofString "k" := fun q => hz (by rw [q]; exact .head _)
      rw [if_neg z1, if_neg hz]
    case bound =>
      refine heap_bound hb ?_ ?_ ?_
      · dsimp only at hx ⊢
        omega
      · dsimp only at hx ⊢
        omega
      · omega
  case done =>
    first | (intro zq4 rest u h tk zq5 F2 N2; (try k_unmd); (try (first | (with_reducible refine fold_comp ?_; intro XL YL ZL) | (with_reducible refine fold_for ?_; intro QL EL) | (with_reducible refine fold_while ?_; intro QL RL EL) | k_fold)); (first | refine el_0_2 (zq4) ?_ | refine el_1_1 (zq4) ?_); (try clear zq4); intro hv hn; (first | refine el_0_4 (zq5) ?_ | refine el_1_3 (zq5) ?_ | refine el_2_2 (zq5) ?_ | refine el_3_1 (zq5) ?_); (try clear zq5); intro zq6 hi1 hl3 hb; subst zq6) | rintro ⟨hv, hn⟩ rest u h tk ⟨rfl, hi1, hl3, hb⟩ F2 N2
    try dsimp only
    try k_fold
    (try k_unmd); (try k_fold); repeat' (walk_at "S1")
    try dsimp only
    first | ((first | refine el_0_8 (ints_three hi1 hl3) ?_ | refine el_1_7 (ints_three hi1 hl3) ?_ | refine el_2_6 (ints_three hi1 hl3) ?_ | refine el_3_5 (ints_three hi1 hl3) ?_ | refine el_4_4 (ints_three hi1 hl3) ?_ | refine el_5_3 (ints_three hi1 hl3) ?_ | refine el_6_2 (ints_three hi1 hl3) ?_ | refine el_7_1 (ints_three hi1 hl3) ?_); intro x1 x2 x3 q1 q2 q3 e1 e2) | obtain ⟨x1, x2, x3, q1, q2, q3, e1, e2⟩ := ints_three hi1 hl3
    try dsimp only at e1 e2 hb N2
    subst e1
    subst e2
    have b0 := hb 0
    have b1 := hb 1
    have b2 := hb 2
    simp only [List.getD_cons_zero, List.getD_cons_succ] at b0 b1 b2
    have hN := N2 (hl0, listOf (List.toArray [Value.int x1 q1, .int x2 q2, .int x3 q3]) n0) (.head _)
    refine hret (.ref hl0) [(hl0, listOf (List.toArray [Value.int x1 q1, .int x2 q2, .int x3 q3]) n0)] h tk ⟨F2.keep, fun p hp => ?_⟩ (List.pairwise_singleton _ _) ⟨hl0, n0, x1, x2, x3, q1, q2, q3, rfl, rfl, ⟨b0.1, by omega⟩, ⟨b1.1, by omega⟩, ⟨b2.1, by omega⟩⟩
    rw [List.mem_singleton.mp hp]
    exact ⟨hN.1, hN.2.2⟩

end
-- LAWT
section
open PySem PySem.Spec PySem.W PyProof.Rows PySem.Calls PyProof.V
theorem put_get {h : Heap} {P : Addr} {o : Obj} (hP : P < h.objs.size) (ho : o.isFreed = false) : (h.update P fun _ => o).get? P = some o := by
  refine Heap.get?_some_iff.mpr ⟨?_, ho⟩
  first | ((first | refine el_0_2 (h) ?_ | refine el_1_1 (h) ?_); (try clear h); intro objs l) | obtain ⟨objs, l⟩ := h
  simp only [Heap.update, Array.getElem?_modify, if_true]
  rw [Array.getElem?_eq_getElem hP]
  rfl
/-- what the ledger holds at P is laid into the ground -/
theorem ground_add {A₀ : Around} {base h₁ h' : Heap} {L P : Addr} {oP : Obj} {K : Frag} {p : Program} {loose : List Str} {mean : ExcName → Option Value} {mg mb : Str → Option Value} {m : Str → Option Value} {rest : Ledger} (B : Below A₀ base [] h₁) (X : K.In h₁) (T : Top p loose mean mg mb h₁) (F : Fr h₁ L h' m) (N : News h₁ L h' ((P, oP) :: rest))
    (hP : P < h₁.objs.size) (ho : oP.isFreed = false) (hr : ∀ q ∈ rest, q.1 ≠ P) :
    ∃ g₂ : Heap, Below A₀ base [] g₂ ∧ K.In g₂ ∧ Top p loose mean mg mb g₂ ∧ Fr g₂ L h' m ∧ News g₂ L h' rest ∧ g₂.get? P = some oP ∧ (∀ b o, h₁.get? b = some o → g₂.get? b = some o) := by
  have e := put_get hP ho
  have other : ∀ b, b ≠ P → (h₁.update P fun _ => oP).get? b = h₁.get? b := fun b hb => Heap.get?_update_other h₁ _ hb.symm
  have z := N _ (.head _)
  have st : ∀ b o, h₁.get? b = some o → (h₁.update P fun _ => oP).get? b = some o := fun b o q => by
    rw [other b fun q' => by rw [q', z.2.2] at q; cases q]
    exact q
  have sz : (h₁.update P fun _ => oP).objs.size = h₁.objs.size := by
    first | ((first | refine el_0_2 (h₁) ?_ | refine el_1_1 (h₁) ?_); (try clear h₁); intro objs l) | obtain ⟨objs, l⟩ := h₁
    exact Array.size_modify
  refine ⟨h₁.update P fun _ => oP, ⟨B.stack, fun b o q => st b o (B.stays b o q), trivial⟩, X.keeps st, T.keeps st, ⟨F.ns, fun b o q => ?_, by rw [sz]; exact F.above⟩, fun q hq => ?_, e, st⟩
  · by_cases hb : b = P
    · rw [hb] at q ⊢
      rw [e] at q
      cases q
      exact z.1
    · rw [other b hb] at q
      exact F.keep b o q
  · have y := N q (.tail _ hq)
    exact ⟨y.1, y.2.1, by rw [other _ (hr q hq)]; exact y.2.2⟩
/-- what the walk asks of the numbers -/
noncomputable def PLaw : Prop := ∀ (nodes : List Nd) (P0 : Nd) (rest0 : List Nd) (bs cuts runs c r tab : Int), PgPure bs cuts runs nodes [] c r → nodes = P0 :: rest0 → 0 ≤ bs → bs < 30 → 0 ≤ cuts → 0 ≤ runs → 1 ≤ tab → tab ≤ 6 →
  (P0.lead = [] ∧ 0 < rest0.length ∧ rest0.length ≤ 20) ∧ (∀ x ∈ rest0, (0 < x.number ∧ x.number < 2 ^ 40) ∧ ((∀ c ∈ x.lead, c = 32 ∨ c = 9) ∧ x.lead.length ≤ 200) ∧ (0 ≤ indentOf tab (wsOf x.lead) ∧ indentOf tab (wsOf x.lead) < 2 ^ 40)) ∧
  ∀ wds cols : List Col, wds.map colP = rest0.map (fun x => (x.number.fdiv (2 ^ bs.toNat), colsTo tab x.run)) → cols.map colP = rest0.map (fun x => (x.number.fdiv (2 ^ bs.toNat), indentOf tab (wsOf x.lead))) →
    ∀ k : Nat, k < 15 → ∀ M : Int, M ∈ quads (wayOf cols) (insTo (1 + (k : Int) * 2) 5) (outTo (insTo (1 + (k : Int) * 2) 5) 5) → (∀ v ∈ quads (wayOf cols) (insTo (1 + (k : Int) * 2) 5) (outTo (insTo (1 + (k : Int) * 2) 5) 5), M ≤ v) → M ≠ 2 * (ownOf wds (1 + (k : Int) * 2)).sum → ownOf wds (1 + (k : Int) * 2) = [] ∧ M ≤ 0
theorem law_ok (hPL : PLaw) (w : World) (p : Program) (loose : List Str) (mean : ExcName → Option Value) (mg mb : Str → Option Value) {A₀ : Around} {base g : Heap} {L a : Addr} {ccd : Value} {dp un : Nat} {gd : Option (List Code)} {s : Shared} {Q : Flow → Shared → Prop} {E : Value → Shared → Prop} {u0 : Str → Option Value}
    (B : Below A₀ base [] g) (XB : (hd.heap_39 w.params).In base) (TB : Top p loose mean mg mb base) (hdp : dp + 40 < recursionLimit) (hun : un + 800 < cLine) (hE : PassesOwn (model PySem.Challenge.pw_xb0026_01 w) (ktrTop dp un gd (Str.ofString "law") lawScope L a ccd (cellsFrom (L + 1) lawScope.names []) []) (lawEnv L a ccd) E) (hgen : AllBare s.gens)
    (sc : Addr) (vs : List Value) (ns : List Int) (hi : IntsAre vs ns) (hl63 : ns.length ≤ 63) (hsc : g.IsList sc vs.toArray) (ob ot oy os oi oo : Obj)
    (F : Fr g L s.heap (fun y => if y = Str.ofString "script" then some (Value.ref sc) else u0 y))
    (N : News g L s.heap [(L + 1 + 1 + 1 + 1 + 1 + 1, oo), (L + 1 + 1 + 1 + 1 + 1, oi), (L + 1 + 1 + 1 + 1, os), (L + 1 + 1 + 1, oy), (L + 1 + 1, ot), (L + 1, ob), (120, tabObj #[])]) (h120 : 120 < g.objs.size)
    (hoo : ∃ v, CellO oo v) (hoi : ∃ v, CellO oi v) (hos : ∃ v, CellO os v) (hoy : ∃ v, CellO oy v) (hob : ∃ v, CellO ob v) (hot : ∃ v, CellO ot v)
    (fin : ∀ h' tk gn k1 k2, (∀ b o, g.get? b = some o → h'.get? b = some o) → h'.get? 120 = some (tab2 k1 k2) → AllBare gn → Q (.ret (.bool true)) { s with heap := h', toks := tk, gens := gn }) :
    wpAny (model PySem.Challenge.pw_xb0026_01 w) (ktrTop dp un gd (Str.ofString "law") lawScope L a ccd (cellsFrom (L + 1) lawScope.names []) []) (execs (lawBody.drop 0) (lawEnv L a ccd)) Q E s := by
  first | ((first | refine el_0_2 (hoo) ?_ | refine el_1_1 (hoo) ?_); (try clear hoo); intro vo hoo) | obtain ⟨vo, hoo⟩ := hoo
  first | ((first | refine el_0_2 (hoi) ?_ | refine el_1_1 (hoi) ?_); (try clear hoi); intro vi hoi) | obtain ⟨vi, hoi⟩ := hoi
  first | ((first | refine el_0_2 (hos) ?_ | refine el_1_1 (hos) ?_); (try clear hos); intro vs' hos) | obtain ⟨vs', hos⟩ := hos
  first | ((first | refine el_0_2 (hoy) ?_ | refine el_1_1 (hoy) ?_); (try clear hoy); intro vy hoy) | obtain ⟨vy, hoy⟩ := hoy
  first | ((first | refine el_0_2 (hob) ?_ | refine el_1_1 (hob) ?_); (try clear hob); intro vb hob) | obtain ⟨vb, hob⟩ := hob
  first | ((first | refine el_0_2 (hot) ?_ | refine el_1_1 (hot) ?_); (try clear hot); intro vt hot) | obtain ⟨vt, hot⟩ := hot
  have hoo' : oo.data = .cell vo := hoo
  have hoi' : oi.data = .cell vi := hoi
  have hos' : os.data = .cell vs' := hos
  have hoy' : oy.data = .cell vy := hoy
  have hob' : ob.data = .cell vb := hob
  have hot' : ot.data = .cell vt := hot
  have X := XB.keeps B.stays
  have T := TB.keeps B.stays
  have h120L : @LT.lt Nat _ 120 L := Nat.lt_of_lt_of_le h120 F.above
  w_on
  conv =>
    arg 3
    arg 1
    whnf
  unfold lawEnv at *
  conv in (occs := *) lawScope => all_goals whnf
  refine let_A ?_
  intro A9
  refine let_env ?_
  intro env9
  (try k_unmd); (try k_fold); repeat' (first | ((fail_if_success (fail_if_success (with_reducible show wpAny _ _ (call (Value.ref _) _ _) _ _ _))); refine stop_of ?_) | walk_at "S1")
  unfold Stop
  rename Fr _ _ _ _ => F1
  rename News _ _ _ _ => N1
  k_dflt refine' hspecG_use (G := fun g => g.IsList sc vs.toArray) ?B F1 ?X N1 ?T ?G ?hk (heaps_ok w p loose mean mg mb sc vs ns hi hl63) ?dp ?un ?_
  case B => assumption
  case X => assumption
  case T => assumption
  case G => exact fun g' k => hsc.at fun o e => k _ _ e
  case hk => exact rfl
  case dp => omega
  case un => omega
  intro r tl h2 tk2 F2 N2 o2 pw2 P2
  first | ((first | refine el_0_13 (P2) ?_ | refine el_1_12 (P2) ?_ | refine el_2_11 (P2) ?_ | refine el_3_10 (P2) ?_ | refine el_4_9 (P2) ?_ | refine el_5_8 (P2) ?_ | refine el_6_7 (P2) ?_ | refine el_7_6 (P2) ?_ | refine el_8_5 (P2) ?_ | refine el_9_4 (P2) ?_ | refine el_10_3 (P2) ?_ | refine el_11_2 (P2) ?_ | refine el_12_1 (P2) ?_); (try clear P2); intro hl0 n0 cu ru pl q1 q2 q3 zq2 zq3 zq4 zq5 zq6; subst zq2; subst zq3; (first | refine el_0_2 (zq4) ?_ | refine el_1_1 (zq4) ?_); (try clear zq4); intro c0 c1; (first | refine el_0_2 (zq5) ?_ | refine el_1_1 (zq5) ?_); (try clear zq5); intro r0 r1; (first | refine el_0_2 (zq6) ?_ | refine el_1_1 (zq6) ?_); (try clear zq6); intro p0 p1) | obtain ⟨hl0, n0, cu, ru, pl, q1, q2, q3, rfl, rfl, ⟨c0, c1⟩, ⟨r0, r1⟩, ⟨p0, p1⟩⟩ := P2
  simp only [List.cons_append, List.nil_append] at N2
  clear F1 N1
  have e4 : @Ne Nat hl0 (L + 1) := (o2 _ (.head _) _ (.tail _ (.tail _ (.tail _ (.tail _ (.tail _ (.head _))))))).ne
  have e5 : @Ne Nat hl0 (L + 1 + 1) := (o2 _ (.head _) _ (.tail _ (.tail _ (.tail _ (.tail _ (.head _)))))).ne
  refine restart (gn := s.gens) (s := s) F2 rfl rfl rfl rfl ?_
  intro tk3
  (try k_unmd); (try k_fold); repeat' (walk_at "S1")
  try unfold Stop
  rename Fr _ _ _ _ => F3
  rename News _ _ _ _ => N3
  rename Obj.data _ = Data.cell (some (Value.int (Int.fmod pl 30) _)) => dB
  rename Obj.data _ = Data.cell (some (Value.int (1 + _) _)) => dT
  rename Heap => h3
  have NN : ∃ (oB oT : Obj) (tB tT : Tok), oB.data = .cell (some (.int (pl.fmod 30) tB)) ∧ oT.data = .cell (some (.int (1 + (pl.fdiv 30).fmod 6) tT)) ∧
      News g L h3 ([(120, tabObj #[])] ++ [(L + 1 + 1 + 1 + 1 + 1 + 1, oo), (L + 1 + 1 + 1 + 1 + 1, oi), (L + 1 + 1 + 1 + 1, os), (L + 1 + 1 + 1, oy), (L + 1 + 1, oT), (L + 1, oB)]) := ⟨_, _, _, _, dB, dT, fun p hp => N3 p (by
    exact Rf.sub (x := _) (l := [_, _, _, _, _, _, _, _]) (r := []) (.app (.cons 0 .nil) (.cons 6 (.cons 5 (.cons 4 (.cons 3 (.cons 2 (.cons 1 .nil))))))) (.cons 8 (.cons 7 (.cons 6 (.cons 5 (.cons 4 (.cons 3 (.cons 2 (.cons 1 (.cons 0 .nil))))))))) (by decide) hp)⟩
  clear N3 dB dT
  first | ((first | refine el_0_7 (NN) ?_ | refine el_1_6 (NN) ?_ | refine el_2_5 (NN) ?_ | refine el_3_4 (NN) ?_ | refine el_4_3 (NN) ?_ | refine el_5_2 (NN) ?_ | refine el_6_1 (NN) ?_); (try clear NN); intro oB oT tB tT dB dT N4) | obtain ⟨oB, oT, tB, tT, dB, dT, N4⟩ := NN
  have hbs : 0 ≤ pl.fmod 30 ∧ pl.fmod 30 < 30 := by
    rw [Int.fmod_eq_emod_of_nonneg _ (by decide)]
    omega
  have htab : 1 ≤ 1 + (pl.fdiv 30).fmod 6 ∧ 1 + (pl.fdiv 30).fmod 6 ≤ 6 := by
    rw [Int.fmod_eq_emod_of_nonneg _ (by decide)]
    omega
  generalize 1 + (pl.fdiv 30).fmod 6 = tab at *
  generalize pl.fmod 30 = bs at *
  k_dflt refine' hspecS_use (touched := [(120, tabObj #[])]) ?B F3 ?X ?T N4 ?hk ?gen ?D (page_ok w p loose mean mg mb cu ru bs _ _ _ c0 r0 hbs.1 hbs.2) ?dis ?dp ?un ?_
  case B => assumption
  case X => assumption
  case T => assumption
  case hk => exact rfl
  case gen => exact hgen
  case D => exact fun b hb => nomatch hb
  case dis =>
    intro q hq q' hq' e
    rw [List.mem_singleton.mp hq'] at e
    have e' : q.1 = 120 := e
    simp only [List.mem_cons, List.not_mem_nil, or_false] at hq
    rcases hq with rfl | rfl | rfl | rfl | rfl | rfl <;> (simp only at e'; have h9 : (120 : Nat) < L := h120L; have e9 : _ = (120 : Nat) := e'; omega)
  case dp => omega
  case un => omega
  intro r tl upd h5 tk5 gn5 g1 only5 D5 B5 X5 T5 F5 N5 e5' o5 pw5 hb5 P5
  first | ((first | refine el_0_20 (P5) ?_ | refine el_1_19 (P5) ?_ | refine el_2_18 (P5) ?_ | refine el_3_17 (P5) ?_ | refine el_4_16 (P5) ?_ | refine el_5_15 (P5) ?_ | refine el_6_14 (P5) ?_ | refine el_7_13 (P5) ?_ | refine el_8_12 (P5) ?_ | refine el_9_11 (P5) ?_ | refine el_10_10 (P5) ?_ | refine el_11_9 (P5) ?_ | refine el_12_8 (P5) ?_); (try clear P5); intro nodes T0 kl ck k1 k2 oc1 oc2 pf c r' zq7 htl hupd PP ok P0 rest0 hn hpf; subst zq7) | obtain ⟨nodes, T0, kl, ck, k1, k2, oc1, oc2, pf, c, r', rfl, htl, hupd, PP, ok, P0, rest0, hn, hpf⟩ := P5
  subst htl
  subst hupd
  subst hpf
  first | ((first | refine el_0_3 (hPL nodes P0 rest0 bs cu ru c r' tab PP hn hbs.1 hbs.2 c0 r0 htab.1 htab.2) ?_ | refine el_1_2 (hPL nodes P0 rest0 bs cu ru c r' tab PP hn hbs.1 hbs.2 c0 r0 htab.1 htab.2) ?_ | refine el_2_1 (hPL nodes P0 rest0 bs cu ru c r' tab PP hn hbs.1 hbs.2 c0 r0 htab.1 htab.2) ?_); intro zq8 hnd hpl; (first | refine el_0_3 (zq8) ?_ | refine el_1_2 (zq8) ?_ | refine el_2_1 (zq8) ?_); (try clear zq8); intro hl0' hr0 hr20) | obtain ⟨⟨hl0', hr0, hr20⟩, hnd, hpl⟩ := hPL nodes P0 rest0 bs cu ru c r' tab PP hn hbs.1 hbs.2 c0 r0 htab.1 htab.2
  have zq1 : P0.K = [] ∧ P0.R.tag = Str.ofString "page" ∧ ∀ x ∈ rest0, x.Below := by
    first | ((first | refine el_0_6 (PP.head) ?_ | refine el_1_5 (PP.head) ?_ | refine el_2_4 (PP.head) ?_ | refine el_3_3 (PP.head) ?_ | refine el_4_2 (PP.head) ?_ | refine el_5_1 (PP.head) ?_); intro Q0 rs e1 e2 e3 e4) | obtain ⟨Q0, rs, e1, e2, e3, e4⟩ := PP.head
    rw [List.append_nil, hn] at e1
    cases e1
    exact ⟨e2, e3, e4⟩
  first | ((first | refine el_0_3 (zq1) ?_ | refine el_1_2 (zq1) ?_ | refine el_2_1 (zq1) ?_); (try clear zq1); intro hPK hPt hbel) | obtain ⟨hPK, hPt, hbel⟩ := zq1
  first | ((first | refine el_0_3 (exists_kts hbel) ?_ | refine el_1_2 (exists_kts hbel) ?_ | refine el_2_1 (exists_kts hbel) ?_); intro ks hks hkK) | obtain ⟨ks, hks, hkK⟩ := exists_kts hbel
  have hkv : nodes.flatMap Nd.kv = ks.map fun k => Value.ref k.U := by
    rw [hn, List.flatMap_cons, show P0.kv = [] by unfold Nd.kv; rw [hPK]; rfl, List.nil_append, ← hks]
    clear hks hbel hnd hpl
    induction ks with
    | nil => rfl
    | cons k ks ih =>
      rw [List.map_cons, List.flatMap_cons, ih fun k' hk' => hkK k' (.tail _ hk')]
      show k.x.kv ++ _ = _
      unfold Nd.kv
      rw [hkK k (.head _)]
      rfl
  have hkin : ∀ k ∈ ks, KtIn (nodes.flatMap Nd.led) w p loose mean mg mb k2 k := by
    intro k hk
    have hx : k.x ∈ nodes := by
      rw [hn, ← hks]
      exact .tail _ (List.mem_map_of_mem hk)
    have mem : ∀ q ∈ k.x.led, q ∈ nodes.flatMap Nd.led := fun q hq => List.mem_flatMap.mpr ⟨k.x, hx, hq⟩
    refine ⟨mem _ ?_, mem _ (.head _), mem _ (.tail _ (.head _)), mem _ (.tail _ (.tail _ (.tail _ (.tail _ (.tail _ (.head _)))))), ok k.x hx⟩
    unfold Nd.led
    rw [hkK k hk]
    exact .tail _ (.tail _ (.tail _ (.tail _ (.tail _ (.tail _ (.tail _ (.head _)))))))
  rw [hkv] at N5 o5 pw5
  have h120g : 120 < g1.objs.size := by rw [only5.1]; exact h120
  generalize hkO : listOf (List.toArray (ks.map fun k => Value.ref k.U)) ck = kO at *
  have N6 : News g1 L h5 ((120, tab2 k1 k2) :: (T0, tupO [.ref P0.R.f, .ref kl]) :: (L + 1 + 1 + 1 + 1 + 1 + 1, oo) :: (L + 1 + 1 + 1 + 1 + 1, oi) :: (L + 1 + 1 + 1 + 1, os) :: (L + 1 + 1 + 1, oy) :: (L + 1 + 1, oT) :: (L + 1, oB) :: (kl, kO) :: nodes.flatMap Nd.led) := fun q hq => N5 q (by
    exact Rf.sub (x := _) (l := [_, _, _, _, _, _, _, _, _, _]) (r := [_]) (.cons 0 (.cons 1 (.cons 2 (.cons 3 (.cons 4 (.cons 5 (.cons 6 (.cons 7 (.cons 8 (.leaf 0)))))))))) (.app (.cons 1 (.cons 8 (.cons 9 (.cons 10 (.leaf 0))))) (.app (.cons 0 .nil) (.cons 2 (.cons 3 (.cons 4 (.cons 5 (.cons 6 (.cons 7 .nil)))))))) (by decide) hq)
  have o6 : ∀ q ∈ (T0, tupO [.ref P0.R.f, .ref kl]) :: (kl, kO) :: nodes.flatMap Nd.led, ∀ q' ∈ [(120, tabObj #[])] ++ [(L + 1 + 1 + 1 + 1 + 1 + 1, oo), (L + 1 + 1 + 1 + 1 + 1, oi), (L + 1 + 1 + 1 + 1, os), (L + 1 + 1 + 1, oy), (L + 1 + 1, oT), (L + 1, oB)], Apt q.1 q'.1 := fun q hq q' hq' => o5 q (by
    exact Rf.sub (x := _) (l := [_, _, _]) (r := [_]) (.cons 0 (.cons 1 (.leaf 0))) (.cons 0 (.cons 1 (.cons 2 (.cons 3 (.leaf 0))))) (by decide) hq) q' hq'
  have hcl : ∀ q ∈ [(L + 1 + 1 + 1 + 1 + 1 + 1, oo), (L + 1 + 1 + 1 + 1 + 1, oi), (L + 1 + 1 + 1 + 1, os), (L + 1 + 1 + 1, oy), (L + 1 + 1, oT), (L + 1, oB)], @LT.lt Nat _ L q.1 := by
    intro q hq
    have h9 : ∀ k : Nat, @LT.lt Nat _ L (L + k + 1) := fun k => Nat.lt_succ_of_le (Nat.le_add_right L k)
    simp only [List.mem_cons, List.not_mem_nil, or_false] at hq
    rcases hq with rfl | rfl | rfl | rfl | rfl | rfl
    · exact h9 5
    · exact h9 4
    · exact h9 3
    · exact h9 2
    · exact h9 1
    · exact h9 0
  obtain ⟨g2, B7, X7, T7, F7, N7, get7, st7⟩ := ground_add B5 X5 T5 F5 N6 h120g rfl (fun q hq e => by
    have e' : q.1 = 120 := e
    rcases List.mem_cons.mp hq with rfl | hq
    · exact (o6 _ (.head _) _ (.head _)).ne e'
    · have q2 : q ∈ [(L + 1 + 1 + 1 + 1 + 1 + 1, oo), (L + 1 + 1 + 1 + 1 + 1, oi), (L + 1 + 1 + 1 + 1, os), (L + 1 + 1 + 1, oy), (L + 1 + 1, oT), (L + 1, oB)] ++ ((kl, kO) :: nodes.flatMap Nd.led) := hq
      rcases List.mem_append.mp q2 with hq | hq
      · have := hcl q hq
        rw [e'] at this
        exact absurd h120L (Nat.lt_asymm this)
      · exact (o6 q (.tail _ hq) _ (.head _)).ne e')
  have AC : AptAll [(L + 1 + 1 + 1 + 1 + 1 + 1, oo), (L + 1 + 1 + 1 + 1 + 1, oi), (L + 1 + 1 + 1 + 1, os), (L + 1 + 1 + 1, oy), (L + 1 + 1, oT), (L + 1, oB)] :=
    Desc.apt (l := [L + 1 + 1 + 1 + 1 + 1 + 1, L + 1 + 1 + 1 + 1 + 1, L + 1 + 1 + 1 + 1, L + 1 + 1 + 1, L + 1 + 1, L + 1]) ⟨Nat.lt_succ_self _, Nat.lt_succ_self _, Nat.lt_succ_self _, Nat.lt_succ_self _, Nat.lt_succ_self _, trivial⟩
  have A0 : AptAll ((L + 1 + 1 + 1 + 1 + 1 + 1, oo) :: (L + 1 + 1 + 1 + 1 + 1, oi) :: (L + 1 + 1 + 1 + 1, os) :: (L + 1 + 1 + 1, oy) :: (L + 1 + 1, oT) :: (L + 1, oB) :: (kl, kO) :: nodes.flatMap Nd.led) := by
    refine apt_join (a := [(L + 1 + 1 + 1 + 1 + 1 + 1, oo), (L + 1 + 1 + 1 + 1 + 1, oi), (L + 1 + 1 + 1 + 1, os), (L + 1 + 1 + 1, oy), (L + 1 + 1, oT), (L + 1, oB)]) (b := (kl, kO) :: nodes.flatMap Nd.led) AC ?_ (fun q hq q' hq' => (o6 q' (.tail _ hq') q (List.mem_append_right _ hq)).sw)
    have P1 : AptAll ((T0, tupO [.ref P0.R.f, .ref kl]) :: (kl, kO) :: (k2, oc2) :: (k1, oc1) :: nodes.flatMap Nd.led) := pw5
    have P2 := (apt_cons P1).2
    refine List.pairwise_cons.mpr ⟨fun b hb => ?_, (apt_cons (apt_cons (apt_cons P2).2).2).2⟩
    exact (List.pairwise_cons.mp P2).1 b (.tail _ (.tail _ hb))
  generalize hNL : nodes.flatMap Nd.led = NL at *
  have old : ∀ b o, g.get? b = some o → g2.get? b = some o := fun b o e => st7 b o ((only5.2.1 b (fun hm => nomatch hm)).trans e)
  clear N5 N6 o5 pw5 F5 X5 T5 B5 D5 N4
  refine restart (gn := gn5) (s := s) F7 rfl rfl rfl rfl ?_
  intro tk8
  try dsimp only
  (try k_unmd); (try k_fold); repeat' (first | ((fail_if_success (fail_if_success (with_reducible show wpAny _ _ (execs (Stmt.For _ _ _ _ _ :: _) _) _ _ _))); (with_reducible show wpAny _ _ (execs (Stmt.For _ _ _ _ _ :: _) _) _ _ _); refine stop_of ?_) | walk_at "S1")
  try unfold Stop
  rename Fr _ _ _ _ => F9
  rename News _ _ _ _ => N9
  rename Obj.IsDictOf _ _ _ => d1
  rename (_ == sysModules) = false => lo1
  rename_i l7 D9 hA l9 dl hB l8 h9
  have NN : ∃ (D1 : Addr) (o1 : Obj) (tt ta tb : Tok), o1.IsDictOf (PySem.strKind PySem.Challenge.pw_xb0026_01 w) [(Str.ofString "lead", .str (Str.ofString "") ta), (Str.ofString "of", .str (Str.ofString "page") tb)] ∧ D1 ≠ sysModules ∧
      News g2 L h9 ((dl, listOf (List.toArray [Value.ref D9]) 0) :: (D9, tupO [.str (Str.ofString "page") tt, .ref D1]) :: (D1, o1) :: (T0, tupO [.ref P0.R.f, .ref kl]) :: (L + 1 + 1 + 1 + 1 + 1 + 1, oo) :: (L + 1 + 1 + 1 + 1 + 1, oi) :: (L + 1 + 1 + 1 + 1, os) :: (L + 1 + 1 + 1, oy) :: (L + 1 + 1, oT) :: (L + 1, oB) :: (kl, kO) :: NL) ∧
      AllLt D1 ((L + 1 + 1 + 1 + 1 + 1 + 1, oo) :: (L + 1 + 1 + 1 + 1 + 1, oi) :: (L + 1 + 1 + 1 + 1, os) :: (L + 1 + 1 + 1, oy) :: (L + 1 + 1, oT) :: (L + 1, oB) :: (kl, kO) :: NL) ∧
      AllLt D9 ((D1, o1) :: (L + 1 + 1 + 1 + 1 + 1 + 1, oo) :: (L + 1 + 1 + 1 + 1 + 1, oi) :: (L + 1 + 1 + 1 + 1, os) :: (L + 1 + 1 + 1, oy) :: (L + 1 + 1, oT) :: (L + 1, oB) :: (kl, kO) :: NL) ∧
      AllLt dl ((D9, tupO [.str (Str.ofString "page") tt, .ref D1]) :: (D1, o1) :: (L + 1 + 1 + 1 + 1 + 1 + 1, oo) :: (L + 1 + 1 + 1 + 1 + 1, oi) :: (L + 1 + 1 + 1 + 1, os) :: (L + 1 + 1 + 1, oy) :: (L + 1 + 1, oT) :: (L + 1, oB) :: (kl, kO) :: NL) :=
    ⟨_, _, _, _, _, d1, by rw [beq_eq_false_iff_ne] at lo1; exact lo1, N9, l7.2, ⟨l9.1, l9.2.2⟩, ⟨l8.1, l8.2.1, l8.2.2.2⟩⟩
  clear d1 lo1 N9 l7 l9 l8
  first | ((first | refine el_0_11 (NN) ?_ | refine el_1_10 (NN) ?_ | refine el_2_9 (NN) ?_ | refine el_3_8 (NN) ?_ | refine el_4_7 (NN) ?_ | refine el_5_6 (NN) ?_ | refine el_6_5 (NN) ?_ | refine el_7_4 (NN) ?_ | refine el_8_3 (NN) ?_ | refine el_9_2 (NN) ?_ | refine el_10_1 (NN) ?_); (try clear NN); intro D1 o1 tt ta tb hdict hsys N9 l7 l9 l8) | obtain ⟨D1, o1, tt, ta, tb, hdict, hsys, N9, l7, l9, l8⟩ := NN
  have A1 := apt_fresh (T := dl) (o := listOf (List.toArray [Value.ref D9]) 0) l8 (apt_fresh (T := D9) (o := tupO [.str (Str.ofString "page") tt, .ref D1]) l9 (apt_fresh (T := D1) (o := o1) l7 A0))
  first | ((first | refine el_0_2 (show ∃ du0 : Du, du0 = ⟨D9, Str.ofString "page", tt, D1, o1, Str.ofString "", ta, tb⟩ from ⟨_, rfl⟩) ?_ | refine el_1_1 (show ∃ du0 : Du, du0 = ⟨D9, Str.ofString "page", tt, D1, o1, Str.ofString "", ta, tb⟩ from ⟨_, rfl⟩) ?_); intro du0 hdu0) | obtain ⟨du0, hdu0⟩ : ∃ du0 : Du, du0 = ⟨D9, Str.ofString "page", tt, D1, o1, Str.ofString "", ta, tb⟩ := ⟨_, rfl⟩
  have hled : du0.led = [(D9, tupO [.str (Str.ofString "page") tt, .ref D1]), (D1, o1)] := by rw [hdu0]; rfl
  have hdok : du0.Ok PySem.Challenge.pw_xb0026_01 w := by rw [hdu0]; exact ⟨hdict, hsys⟩
  have hdT : (dl, listOf (List.toArray [Value.ref D9]) 0) = (dl, listOf (List.toArray ([du0].map fun d => Value.ref d.T)) 0) := by rw [hdu0]; rfl
  rw [hdT] at N9 A1
  have N10 : News g2 L h9 ((dl, listOf (List.toArray ([du0].map fun d => Value.ref d.T)) 0) :: (L + 1 + 1 + 1 + 1 + 1 + 1, oo) :: (L + 1 + 1 + 1 + 1 + 1, oi) :: (L + 1 + 1 + 1 + 1, os) :: (L + 1 + 1 + 1, oy) :: (L + 1 + 1, oT) :: (L + 1, oB) :: (kl, kO) :: (NL ++ du0.led)) := fun q hq => N9 q (by
    rw [hled] at hq
    exact Rf.sub (x := _) (l := [_, _, _, _, _, _, _, _, _, _]) (r := [_]) (.cons 0 (.cons 1 (.cons 2 (.cons 3 (.cons 4 (.cons 5 (.cons 6 (.cons 7 (.app (.leaf 0) (.cons 9 (.cons 8 .nil))))))))))) (.cons 0 (.cons 9 (.cons 8 (.cons 10 (.cons 1 (.cons 2 (.cons 3 (.cons 4 (.cons 5 (.cons 6 (.cons 7 (.leaf 0)))))))))))) (by decide) hq)
  have A2 : AptAll ((dl, listOf (List.toArray ([du0].map fun d => Value.ref d.T)) 0) :: (L + 1 + 1 + 1 + 1 + 1 + 1, oo) :: (L + 1 + 1 + 1 + 1 + 1, oi) :: (L + 1 + 1 + 1 + 1, os) :: (L + 1 + 1 + 1, oy) :: (L + 1 + 1, oT) :: (L + 1, oB) :: (kl, kO) :: (NL ++ du0.led)) := by
    rw [hled]
    refine apt_perm A1 (perm_add fun cnt one e0 ec ea => ?_)
    simp only [ec, ea, e0]
    omega
  clear N9 A1 l7 l9 l8
  have hk20 : ks.length ≤ 20 := by
    have q := congrArg List.length hks
    rw [List.length_map] at q
    omega
  have hxk : ∀ k ∈ ks, k.x ∈ rest0 := fun k hk => by rw [← hks]; exact List.mem_map_of_mem hk
  subst hkO
  refine restart (gn := gn5) (s := s) F9 rfl rfl rfl rfl ?_
  intro tk10
  refine due_stage w p loose mean mg mb (s := { s with heap := h9, toks := tk10, gens := gn5 }) B7 X7 T7 hdp hun hE kl dl P0.R.f ck 0 ks du0 oB oT oy os oi oo NL (fun k hk => (hkin k hk).tup) hk20 (fun k hk => (hnd k.x (hxk k hk)).1) F9 N10 A2 ?_
  intro dus cd' u0' h11 tk11 hdm hdo F11 N11 A11
  have PD : List.Perm ((dl, listOf (List.toArray ((du0 :: dus).map fun d => Value.ref d.T)) cd') :: (L + 1 + 1 + 1 + 1 + 1 + 1, oo) :: (L + 1 + 1 + 1 + 1 + 1, oi) :: (L + 1 + 1 + 1 + 1, os) :: (L + 1 + 1 + 1, oy) :: (L + 1 + 1, oT) :: (L + 1, oB) :: (kl, listOf (List.toArray (ks.map fun k => Value.ref k.U)) ck) :: (NL ++ (du0 :: dus).flatMap Du.led)) ((L + 1 + 1 + 1 + 1 + 1 + 1, oo) :: (L + 1 + 1 + 1 + 1 + 1, oi) :: (L + 1 + 1 + 1 + 1, os) :: (L + 1 + 1 + 1, oy) :: (L + 1 + 1, oT) :: (L + 1, oB) :: (kl, listOf (List.toArray (ks.map fun k => Value.ref k.U)) ck) :: (dl, listOf (List.toArray ((du0 :: dus).map fun d => Value.ref d.T)) cd') :: (NL ++ (du0 :: dus).flatMap Du.led)) := Rf.perm (x := _) (l := [_, _, _, _, _, _, _]) (r := [_, _]) (.cons 0 (.cons 1 (.cons 2 (.cons 3 (.cons 4 (.cons 5 (.cons 6 (.cons 7 (.app (.leaf 0) (.leaf 1)))))))))) (.cons 1 (.cons 2 (.cons 3 (.cons 4 (.cons 5 (.cons 6 (.cons 7 (.cons 0 (.app (.leaf 0) (.leaf 1)))))))))) (by decide)
  have hdm2 : (du0 :: dus).map (fun d => (d.tag, d.x)) = nodes.map (fun x => (x.R.tag, txt x.lead)) := by
    rw [hn, List.map_cons, List.map_cons, hdm, hdu0, hPt, hl0', ← hks, List.map_map]
    refine List.cons_eq_cons.mpr ⟨rfl, List.map_congr_left fun k hk => ?_⟩
    show _ = (k.x.R.tag, txt k.x.lead)
    rw [(hbel k.x (hxk k hk)).tag]
  have A12 := apt_perm A11 PD
  have N12 : News g2 L h11 _ := fun q hq => N11 q (PD.mem_iff.mpr hq)
  refine if_stage w p loose mean mg mb (s := { s with heap := h11, toks := tk11, gens := gn5 }) B7 X7 T7 hdp hun hE kl k2 dl ck cd' nodes P0 rest0 ks (du0 :: dus) bs cu ru c r' oB oT oy os oi oo PP ok hn hks (by
    have q := congrArg List.length hks
    rw [List.length_map] at q
    omega) hdm2 (fun d hd => ?_) F11 (by rw [hNL]; exact N12) (by rw [hNL]; exact A12) ?_
  · rcases List.mem_cons.mp hd with rfl | hd
    · exact hdok
    · exact hdo d hd
  rw [hNL]
  intro h13 tk13 F13 N13
  have F14 : Fr g2 L h13 (fun y => if y = Str.ofString "kept" then some (Value.ref kl) else (if y = Str.ofString "due" then some (Value.ref dl) else if y = Str.ofString "kept" then some (Value.ref kl) else if y = Str.ofString "page" then some (Value.ref P0.R.f) else u0' y)) := by
    refine fr_congr F13 fun z => ?_
    by_cases h1 : z = Str.ofString "kept"
    · subst h1; rfl
    · rw [if_neg h1]
  have N14 : News g2 L h13 ((L + 1 + 1 + 1 + 1 + 1 + 1, oo) :: (L + 1 + 1 + 1 + 1 + 1, oi) :: (L + 1 + 1 + 1 + 1, os) :: (L + 1 + 1 + 1, oy) :: (L + 1 + 1, oT) :: (L + 1, oB) :: (kl, listOf (List.toArray (ks.map fun k => Value.ref k.U)) ck) :: NL) := fun q hq => N13 q (by
    exact Rf.sub (x := _) (l := [_, _, _, _, _, _, _]) (r := [_, _]) (.cons 0 (.cons 1 (.cons 2 (.cons 3 (.cons 4 (.cons 5 (.cons 6 (.leaf 0)))))))) (.cons 0 (.cons 1 (.cons 2 (.cons 3 (.cons 4 (.cons 5 (.cons 6 (.cons 7 (.app (.leaf 0) (.leaf 1)))))))))) (by decide) hq)
  refine mid_ok w p loose mean mg mb (s := { s with heap := h13, toks := tk13, gens := gn5 }) B7 X7 T7 hdp hun hE kl k2 ck ks bs tab tB tT oB oT oy os oi oo NL F14 N14 A0 hkin hk20 hbs.1 hbs.2 htab.1 htab.2 (fun k hk => ⟨Int.le_of_lt (hnd k.x (hxk k hk)).1.1, (hnd k.x (hxk k hk)).1.2⟩) ⟨_, hoo⟩ ⟨_, hoi⟩ ⟨_, hos⟩ ⟨_, hoy⟩ dB dT ?_
  intro wds Dw h15 tk15 hw F15 N15 A15
  have hwl : wds.length ≤ 20 := by
    have q := congrArg List.length hw
    rw [List.length_map, List.length_map] at q
    omega
  refine ways_stage w p loose mean mg mb (s := { s with heap := h15, toks := tk15, gens := gn5 }) B7 X7 T7 hdp hun hE kl k2 Dw ck ks wds bs tab tB tT oB oT oy os oi oo (NL ++ (wds.map Col.o).reverse) F15 N15 A15 (fun k hk => ?_) hk20 (fun x hx => List.mem_append_right _ (List.mem_reverse.mpr (List.mem_map_of_mem hx))) hwl hbs.1 hbs.2 htab.1 htab.2 (fun k hk => ⟨Int.le_of_lt (hnd k.x (hxk k hk)).1.1, (hnd k.x (hxk k hk)).1.2⟩)
    (fun k hk => (hnd k.x (hxk k hk)).2.1) (fun k hk => (hnd k.x (hxk k hk)).2.2) ⟨_, hoo⟩ ⟨_, hoi⟩ ⟨_, hos⟩ ⟨_, hoy⟩ dB dT (fun cols hc => hpl wds cols (by rw [← hks, List.map_map]; exact hw) (by rw [← hks, List.map_map]; exact hc))
    (fun h' tk m' F' => fin h' tk gn5 k1 k2 (fun b o e => F'.keep _ _ (old b o e)) (F'.keep _ _ get7) hb5)
  have K := hkin k hk
  exact ⟨List.mem_append_left _ K.tup, List.mem_append_left _ K.fn, List.mem_append_left _ K.dict, List.mem_append_left _ K.at_, K.ok⟩

end
-- TOP
section
open PySem PySem.Spec PySem.W PyProof.Rows PySem.Calls PyProof.V
theorem kn_postG {M : Model} {A : Around} {cd : Code} {s s₁ : Shared} {cw : ClaimW} {cl : Str → Option Addr} {mean : ExcName → Option Value} {args : List WData} {tabs : List (Addr × Addr)} (hT : TabsAt tabs s₁.heap) (hr : ∀ x, cw.raises args x = false)
    (hd : ∀ h : Heap, ∃ d, ReadsW cw.records cl h (.bool true) d [] ∧ cw.post args d args = true)
    (h : codeAny M A cd (fun r s' => r = .ok (.ret (.bool true)) ∧ (∀ b o, (ghostOf s₁.heap tabs).get? b = some o → s'.heap.get? b = some o) ∧ s'.os = s₁.os ∧ AllBare s'.gens ∧ GrownAll tabs s'.heap) s) : codeAny M A cd (GoodWG cw cl mean args s₁) s := by
  refine codeAny_mono h fun r s' hq => ?_
  first | ((first | refine el_0_5 (hq) ?_ | refine el_1_4 (hq) ?_ | refine el_2_3 (hq) ?_ | refine el_3_2 (hq) ?_ | refine el_4_1 (hq) ?_); (try clear hq); intro zq1 hk hos hg hgr; subst zq1) | obtain ⟨rfl, hk, hos, hg, hgr⟩ := hq
  first | ((first | refine el_0_3 (hd s'.heap) ?_ | refine el_1_2 (hd s'.heap) ?_ | refine el_2_1 (hd s'.heap) ?_); intro d r1 r2) | obtain ⟨d, r1, r2⟩ := hd s'.heap
  have part : ∀ b o, s₁.heap.get? b = some o → s'.heap.get? b = some o ∨ (isCodeTable s₁.heap b ∧ o = tabObj #[] ∧ ∃ ps, s'.heap.get? b = some (tabObj ps)) := fun b o e => by
    by_cases hb : b ∈ tabs.map (·.2)
    · first | ((first | refine el_0_3 (List.mem_map.mp hb) ?_ | refine el_1_2 (List.mem_map.mp hb) ?_ | refine el_2_1 (List.mem_map.mp hb) ?_); intro q hq zq2; subst zq2) | obtain ⟨q, hq, rfl⟩ := List.mem_map.mp hb
      have e2 := (hT q hq).2
      rw [e] at e2
      exact .inr ⟨((hT q hq).1.tab (hT q hq).2).isCodeTable, Option.some.inj e2, hgr.get q hq⟩
    · exact .inl (hk b o (ghost_ne e hb))
  refine ⟨.inl ⟨.bool true, d, [], rfl, hr, r1, r2, fun _ => ⟨List.nodup_nil, fun a ha => nomatch ha⟩⟩, ⟨fun b o e => ?_, fun b o e => ?_⟩, hos, hg⟩
  · rcases part b o e with h1 | ⟨ht, rfl, ps, hP⟩
    · exact .inl h1
    · exact .inr (.inl ⟨ht, rfl, #[], ps, rfl, by rw [Array.empty_append]; exact hP⟩)
  · rcases part b o e with h1 | ⟨ht, rfl, ps, hP⟩
    · exact ⟨o, h1⟩
    · exact ⟨_, hP⟩
theorem top_of (hPL : PLaw) : PySem.Challenge.rw_xb0026_01.Holds := hd (by
  k_fill
  intro w s₀ s₁ mg mb G Y fa o pm cd doc dV kV ho hd1 hcd hD hmg hg args vals as hpre hlay hrd hwl hlo
  have KX := km_in_of Y
  km_tabs Y
  have X := (Ground.X G).1
  have V := (Ground.X G).2
  refine Ground.open G ?_
  intro T B D TE TW
  try (refine guard_noD D (by decide +kernel) ?_; clear D)
  km_lay T hmg ho hd1 cd
  clear hmg
  wrow_args hpre hlay hrd hwl hlo
  first | refine callC_kw (enter_call ?_) | refine enter_call ?_
  w_top on
  refine kn_postG hT9 ?raises ?post ?_
  case raises => exact fun _ => rfl
  case post =>
    intro h0
    refine ⟨_, ReadsW.bool true, ?_⟩
    generalize [ofPy _] = zs
    first | (with_unfolding_all rfl) | kernel_rfl | (kernel_rfl!)
  w_call any ho hd1 hcd hD T F
  clear hd1
  kn_ghosts F T
  k_drop
  rename Heap.IsList (ghostOf _ _) _ _ => hsc
  rename IntsAre _ _ => hI
  rename ¬ (_ < _) => hlen
  rename Frag.In _ _ => X9
  rename Below _ _ _ _ => B9
  rename Top topProg _ _ _ _ _ => T9
  rename Fr _ _ _ _ => F9
  rename News _ _ _ _ => N9
  rename 120 < _ => l9
  rename_i c6 c5 c4 c3 c2 c1 d6 d5 d4 d3 d2 d1 CE9
  have hs : (ghostOf s₁.heap [(124, 120)]).objs.size = s₁.heap.objs.size := hideAll_size _ _
  have F10 : Fr (ghostOf s₁.heap [(124, 120)]) s₁.heap.objs.size _ (fun y => if y = Str.ofString "script" then some (Value.ref _) else _) := fr_congr F9 fun z => by
    by_cases h1 : z = Str.ofString "script"
    · subst h1
      rfl
    · rw [if_neg h1]
  k_dflt refine' law_ok hPL w _ _ _ mg mb (dp := callerA.depth + 1) (un := callerA.units + 3) (base := ghostOf s₁.heap [(124, 120)]) ?B ?X ?T ?dp ?un ?E ?gen _ _ _ hI ?hl hsc c1 c2 c3 c4 c5 c6 F10 ?N ?h120 ⟨_, d6⟩ ⟨_, d5⟩ ⟨_, d4⟩ ⟨_, d3⟩ ⟨_, d1⟩ ⟨_, d2⟩ ?fin
  case B => exact B9
  case X => exact X9
  case T => exact T9
  case dp => decide +kernel
  case un => decide +kernel
  case E => passes_own
  case gen => exact AllBare.of_eq hg
  case hl => omega
  case N => exact N9
  case h120 =>
    rw [hs]
    exact l9
  case fin =>
    intro h' tk gn k1 k2 hk h120 hb
    exact ⟨rfl, hk, rfl, hb, ⟨_, h120⟩, trivial⟩)

end
-- PLA
section
open PySem PySem.Spec PySem.W PyProof.Rows PySem.Calls PyProof.V
-- the columns of a lead
theorem sum_skip (f : Nat → Int) (T : Nat) (hf : ∀ i, i < T → f i = 0) : ∀ n : Nat, ((List.range n).map f).sum = ((List.range (n - T)).map fun j => f (T + j)).sum
  | 0 => by simp
  | n + 1 => by
    rw [List.range_succ, List.map_append, List.sum_append, sum_skip f T hf n]
    by_cases h : n < T
    · rw [show n + 1 - T = 0 by omega, show n - T = 0 by omega]
      simp [hf n h]
    · rw [show n + 1 - T = (n - T) + 1 by omega, List.range_succ, List.map_append, List.sum_append]
      simp only [List.map_cons, List.map_nil]
      rw [show T + (n - T) = n by omega]
noncomputable def tabSum (tab : Int) (cs : List Int) (n : Nat) : Int := ((List.range n).map fun (i : Nat) => (i : Int) / tab * cs.getD i 0).sum
theorem tabSum_more (tab : Int) (cs : List Int) : ∀ k : Nat, tabSum tab cs (cs.length + k) = tabSum tab cs cs.length
  | 0 => rfl
  | k + 1 => by
    unfold tabSum
    rw [← Nat.add_assoc, List.range_succ, List.map_append, List.sum_append]
    have h := tabSum_more tab cs k
    unfold tabSum at h
    rw [h]
    simp
theorem il_tabSum {tab : Int} (h1 : 1 ≤ tab) (cs : List Int) : ilTo tab cs ((cs.length : Int) - tab).toNat = tabSum tab cs cs.length := by
  first | ((first | refine el_0_2 (show ∃ T : Nat, tab = T from ⟨tab.toNat, by omega⟩) ?_ | refine el_1_1 (show ∃ T : Nat, tab = T from ⟨tab.toNat, by omega⟩) ?_); intro T zq1; subst zq1) | obtain ⟨T, rfl⟩ : ∃ T : Nat, tab = T := ⟨tab.toNat, by omega⟩
  unfold tabSum
  rw [sum_skip _ T (fun i hi => by rw [Int.ediv_eq_zero_of_lt (by omega) (by omega), Int.zero_mul]) cs.length]
  unfold ilTo
  rw [show ((cs.length : Int) - (T : Int)).toNat = cs.length - T by omega]
  refine congrArg List.sum (List.map_congr_left fun j _ => ?_)
  rw [Int.fdiv_eq_ediv_of_nonneg _ (by omega)]
  rw [show ((T : Int) + (j : Int)).toNat = T + j by omega, show ((T + j : Nat) : Int) = (T : Int) + (j : Int) by omega]
theorem getD_bump (cs : List Int) (b i : Nat) : (bump cs b).getD i 0 = cs.getD i 0 + if i = b then 1 else 0 := by
  have hg : ∀ j, (grown cs b).getD j 0 = cs.getD j 0 := by
    intro j
    unfold grown
    split
    · rename_i h
      rw [List.getD_eq_getElem?_getD, List.getD_eq_getElem?_getD]
      by_cases hj : j < cs.length
      · rw [List.getElem?_append_left hj]
      · rw [List.getElem?_append_right (by omega), List.getElem?_replicate, List.getElem?_eq_none (by omega : cs.length ≤ j)]
        split <;> rfl
    · rfl
  have hl : b < (grown cs b).length := by
    unfold grown
    split
    · rw [List.length_append, List.length_replicate]; omega
    · omega
  unfold bump
  rw [List.getD_eq_getElem?_getD, List.getElem?_set]
  by_cases h : b = i
  · subst h
    rw [if_pos rfl, if_pos hl, if_pos rfl, Option.getD_some, hg]
  · rw [if_neg h, if_neg (fun q => h q.symm), ← List.getD_eq_getElem?_getD, hg, Int.add_zero]
theorem sum_delta (g : Nat → Int) (b : Nat) : ∀ n : Nat, b < n → ((List.range n).map fun i => g i * if i = b then 1 else 0).sum = g b
  | 0, h => absurd h (Nat.not_lt_zero _)
  | n + 1, h => by
    rw [List.range_succ, List.map_append, List.sum_append]
    by_cases hb : b < n
    · rw [sum_delta g b n hb]
      simp only [List.map_cons, List.map_nil, List.sum_cons, List.sum_nil]
      rw [if_neg (by omega)]
      omega
    · have : b = n := by omega
      subst this
      have hz : ∀ k : Nat, k ≤ b → ((List.range k).map fun i => g i * if i = b then 1 else 0).sum = 0 := by
        intro k
        induction k with
        | zero => intro _; rfl
        | succ k ih =>
          intro hk
          rw [List.range_succ, List.map_append, List.sum_append, ih (by omega)]
          simp only [List.map_cons, List.map_nil, List.sum_cons, List.sum_nil]
          rw [if_neg (by omega)]
          omega
      rw [hz b (Nat.le_refl _)]
      simp
theorem sum_add (f g : Nat → Int) : ∀ n : Nat, ((List.range n).map fun i => f i + g i).sum = ((List.range n).map f).sum + ((List.range n).map g).sum
  | 0 => rfl
  | n + 1 => by
    rw [List.range_succ, List.map_append, List.sum_append, sum_add f g n, List.map_append, List.sum_append, List.map_append, List.sum_append]
    simp only [List.map_cons, List.map_nil, List.sum_cons, List.sum_nil]
    omega
theorem tabSum_bump (tab : Int) (cs : List Int) (b : Nat) : tabSum tab (bump cs b) (bump cs b).length = tabSum tab cs cs.length + (b : Int) / tab := by
  have e1 := tabSum_more tab (bump cs b) (cs.length + b + 1)
  have e2 := tabSum_more tab cs ((bump cs b).length + b + 1)
  rw [← e1, ← e2, show (bump cs b).length + (cs.length + b + 1) = cs.length + ((bump cs b).length + b + 1) by omega]
  generalize hn : cs.length + ((bump cs b).length + b + 1) = n
  have hbn : b < n := by omega
  unfold tabSum
  rw [← sum_delta (fun i => (i : Int) / tab) b n hbn, ← sum_add]
  refine congrArg List.sum (List.map_congr_left fun i _ => ?_)
  rw [getD_bump, Int.mul_add]
theorem indent_step {tab : Int} (h1 : 1 ≤ tab) (W : WS) (c : Nat) : indentOf tab (wsStep W c) = colStep tab (indentOf tab W) c := by
  unfold indentOf colStep wsStep
  rw [il_tabSum h1 W.cs]
  by_cases hc : c = 32
  · rw [if_pos hc, if_pos hc]
    show ((W.b + 1 : Nat) : Int) + tab * (ilTo tab W.cs ((W.cs.length : Int) - tab).toNat + W.nt) = _
    rw [il_tabSum h1 W.cs]
    omega
  · rw [if_neg hc, if_neg hc]
    show ((0 : Nat) : Int) + tab * (ilTo tab (bump W.cs W.b) (((bump W.cs W.b).length : Int) - tab).toNat + ((W.nt + 1 : Nat) : Int)) = _
    rw [il_tabSum h1 (bump W.cs W.b), tabSum_bump]
    generalize tabSum tab W.cs W.cs.length = S
    have hm : ((W.b : Int) + tab * (S + (W.nt : Int))).fmod tab = (W.b : Int) % tab := by
      rw [Int.fmod_eq_emod_of_nonneg _ (by omega), Int.add_mul_emod_self_left]
    rw [hm]
    have hd := Int.mul_ediv_add_emod (W.b : Int) tab
    have e3 : tab * (S + (W.b : Int) / tab + ((W.nt + 1 : Nat) : Int)) = tab * (S + (W.nt : Int)) + tab * ((W.b : Int) / tab) + tab := by
      rw [show S + (W.b : Int) / tab + ((W.nt + 1 : Nat) : Int) = (S + (W.nt : Int)) + (W.b : Int) / tab + 1 by omega, Int.mul_add, Int.mul_add, Int.mul_one]
    rw [e3]
    omega
theorem indent_fold {tab : Int} (h1 : 1 ≤ tab) : ∀ (l : List Nat) (W : WS), indentOf tab (l.foldl wsStep W) = l.foldl (colStep tab) (indentOf tab W)
  | [], _ => rfl
  | c :: l, W => by rw [List.foldl_cons, List.foldl_cons, indent_fold h1 l, indent_step h1]
theorem indent_cols {tab : Int} (h1 : 1 ≤ tab) (l : List Nat) : indentOf tab (wsOf l) = colsTo tab l := by
  unfold wsOf colsTo
  rw [indent_fold h1]
  have : indentOf tab ⟨[], 0, 0, 0⟩ = 0 := by
    unfold indentOf
    rw [il_tabSum h1]
    simp [tabSum]
  rw [this]
theorem cols_from {tab : Int} (h1 : 1 ≤ tab) {x : Int} (hx : x % tab = 0) : ∀ (l : List Nat) (y : Int), l.foldl (colStep tab) (x + y) = x + l.foldl (colStep tab) y
  | [], _ => rfl
  | c :: l, y => by
    have e : colStep tab (x + y) c = x + colStep tab y c := by
      unfold colStep
      rw [Int.fmod_eq_emod_of_nonneg _ (by omega), Int.fmod_eq_emod_of_nonneg _ (by omega)]
      have : (x + y) % tab = y % tab := by rw [Int.add_emod, hx, Int.zero_add, Int.emod_emod_of_dvd _ (Int.dvd_refl _)]
      rw [this]
      omega
    rw [List.foldl_cons, List.foldl_cons, e, cols_from h1 hx l]
theorem cols_app {tab : Int} (h1 : 1 ≤ tab) {a b : List Nat} (ha : colsTo tab a % tab = 0) : colsTo tab (a ++ b) = colsTo tab a + colsTo tab b := by
  unfold colsTo at *
  rw [List.foldl_append]
  have := cols_from h1 ha b 0
  rw [Int.add_zero] at this
  exact this
theorem cols_tab {tab : Int} (h1 : 1 ≤ tab) (a : List Nat) : colsTo tab (a ++ [9]) % tab = 0 := by
  unfold colsTo
  rw [List.foldl_append]
  generalize a.foldl (colStep tab) 0 = y
  show colStep tab y 9 % tab = 0
  unfold colStep
  rw [if_neg (by decide), Int.fmod_eq_emod_of_nonneg _ (by omega)]
  have hd := Int.mul_ediv_add_emod y tab
  rw [show y + (tab - y % tab) = tab * (y / tab + 1) by rw [Int.mul_add]; omega]
  exact Int.mul_emod_right _ _
theorem cols_bounds {tab : Int} (h1 : 1 ≤ tab) (h2 : tab ≤ 6) : ∀ (l : List Nat) (y : Int), 0 ≤ y → y ≤ l.foldl (colStep tab) y ∧ l.foldl (colStep tab) y ≤ y + 6 * (l.length : Int)
  | [], y, _ => ⟨Int.le_refl _, by simp⟩
  | c :: l, y, hy => by
    have e : y ≤ colStep tab y c ∧ colStep tab y c ≤ y + 6 := by
      unfold colStep
      rw [Int.fmod_eq_emod_of_nonneg _ (by omega)]
      have a1 := Int.emod_nonneg y (b := tab) (by omega)
      have a2 := Int.emod_lt_of_pos y (b := tab) (by omega)
      split <;> omega
    have ih := cols_bounds h1 h2 l (colStep tab y c) (by omega)
    rw [List.foldl_cons, List.length_cons]
    omega
theorem cols_nonneg {tab : Int} (h1 : 1 ≤ tab) (h2 : tab ≤ 6) (l : List Nat) : 0 ≤ colsTo tab l ∧ colsTo tab l ≤ 6 * (l.length : Int) := by
  have := cols_bounds h1 h2 l 0 (Int.le_refl _)
  unfold colsTo
  omega

end
-- PLB
section
open PySem PySem.Spec PySem.W PyProof.Rows PySem.Calls PyProof.V
-- the shapes of a page
structure SN where
  st : Nat
  sz : Nat
  anc : List Nat
noncomputable def outsN : Nat → List (List Nat)
  | 2 => [[1, 1]]
  | 3 => [[1, 1, 1], [1, 2], [2, 1]]
  | 4 => [[1, 1, 1, 1], [1, 3], [1, 1, 2], [1, 2, 1], [2, 2], [2, 1, 1], [3, 1]]
  | 5 => [[1, 1, 1, 1, 1], [1, 4], [1, 1, 3], [1, 2, 2], [2, 2, 1], [2, 3], [2, 1, 2], [2, 1, 1, 1], [3, 2], [3, 1, 1], [4, 1]]
  | _ => []
noncomputable def partsBy (n f s q : Int) : List Int := partsGo ((if q = 0 then List.replicate n.toNat f else if q = 1 then [f] else if q = 2 then [f, s] else f :: List.replicate (n - 1).toNat s) ++ [n]) n
theorem parts_by (n x : Int) : partsOf n x = partsBy n (firstOf n x) (secondOf x) (quarterOf x) := rfl
theorem parts_in {n : Nat} {x : Int} (h1 : 2 ≤ n) (h2 : n ≤ 5) (h3 : 0 ≤ x) : ∃ ps ∈ outsN n, partsOf n x = ps.map fun (p : Nat) => (p : Int) := by
  first | ((first | refine el_0_6 (sizes_bounds (n := n) (x := x) (by omega) (by omega) h3) ?_ | refine el_1_5 (sizes_bounds (n := n) (x := x) (by omega) (by omega) h3) ?_ | refine el_2_4 (sizes_bounds (n := n) (x := x) (by omega) (by omega) h3) ?_ | refine el_3_3 (sizes_bounds (n := n) (x := x) (by omega) (by omega) h3) ?_ | refine el_4_2 (sizes_bounds (n := n) (x := x) (by omega) (by omega) h3) ?_ | refine el_5_1 (sizes_bounds (n := n) (x := x) (by omega) (by omega) h3) ?_); intro q0 q3 f1 fn s1 s2) | obtain ⟨q0, q3, f1, fn, s1, s2⟩ := sizes_bounds (n := n) (x := x) (by omega) (by omega) h3
  rw [parts_by]
  generalize firstOf n x = f at *
  generalize secondOf x = s at *
  generalize quarterOf x = q at *
  first | ((first | refine el_0_2 (show ∃ k : Nat, f = k from ⟨f.toNat, by omega⟩) ?_ | refine el_1_1 (show ∃ k : Nat, f = k from ⟨f.toNat, by omega⟩) ?_); intro f' zq1; subst zq1) | obtain ⟨f', rfl⟩ : ∃ k : Nat, f = k := ⟨f.toNat, by omega⟩
  first | ((first | refine el_0_2 (show ∃ k : Nat, s = k from ⟨s.toNat, by omega⟩) ?_ | refine el_1_1 (show ∃ k : Nat, s = k from ⟨s.toNat, by omega⟩) ?_); intro s' zq2; subst zq2) | obtain ⟨s', rfl⟩ : ∃ k : Nat, s = k := ⟨s.toNat, by omega⟩
  first | ((first | refine el_0_2 (show ∃ k : Nat, q = k from ⟨q.toNat, by omega⟩) ?_ | refine el_1_1 (show ∃ k : Nat, q = k from ⟨q.toNat, by omega⟩) ?_); intro q' zq3; subst zq3) | obtain ⟨q', rfl⟩ : ∃ k : Nat, q = k := ⟨q.toNat, by omega⟩
  have key : ∀ n : Fin 6, ∀ f : Fin 6, ∀ s : Fin 3, ∀ q : Fin 4, 2 ≤ n.val → 1 ≤ f.val → f.val < n.val → 1 ≤ s.val → ((outsN n.val).any fun ps => decide (partsBy (n.val : Int) (f.val : Int) (s.val : Int) (q.val : Int) = ps.map fun (p : Nat) => (p : Int))) = true := by decide +kernel
  have := key ⟨n, by omega⟩ ⟨f', by omega⟩ ⟨s', by omega⟩ ⟨q', by omega⟩ h1 (by show 1 ≤ f'; omega) (by show f' < n; omega) (by show 1 ≤ s'; omega)
  first | ((first | refine el_0_3 (List.any_eq_true.mp this) ?_ | refine el_1_2 (List.any_eq_true.mp this) ?_ | refine el_2_1 (List.any_eq_true.mp this) ?_); intro ps hps e) | obtain ⟨ps, hps, e⟩ := List.any_eq_true.mp this
  exact ⟨ps, hps, of_decide_eq_true e⟩
noncomputable def kidsS (anc : List Nat) : List Nat → Nat → Nat → List SN
  | [], _, _ => []
  | p :: ps, st, i => ⟨st, p, i :: anc⟩ :: kidsS anc ps (st + p) (i + 1)
noncomputable def growS : Nat → List SN → Nat → List (List SN)
  | 0, _, _ => [[]]
  | _ + 1, [], _ => [[]]
  | f + 1, P :: q, i => if 1 < P.sz then (outsN P.sz).flatMap fun ps => (growS f (q ++ kidsS P.anc ps P.st i) (i + ps.length)).map fun S => kidsS P.anc ps P.st i ++ S
      else growS f q i
noncomputable def proj (tab : Int) (P : PN) : Int × Int × Int := (P.start, P.size, colsTo tab P.lead)
noncomputable def projS (w : Nat → Int) (s : SN) : Int × Int × Int := ((s.st : Int), (s.sz : Int), (s.anc.map w).sum)
theorem kidsGo_length (base : Int) (lead : List Nat) : ∀ (ps : List Int) (st r : Int), (kidsGo base lead ps st r).length = ps.length
  | [], _, _ => rfl
  | p :: ps, st, r => by rw [kidsGo, List.length_cons, List.length_cons, kidsGo_length base lead ps]
theorem kids_proj {tab : Int} (h1 : 1 ≤ tab) (base : Int) (lead : List Nat) (anc : List Nat) (w : Nat → Int) (hc : colsTo tab lead = (anc.map w).sum) (hm : colsTo tab lead % tab = 0) :
    ∀ (ps : List Nat) (st : Nat) (r : Int) (i : Nat), (∀ k x, (kidsGo base lead (ps.map fun (p : Nat) => (p : Int)) st r)[k]? = some x → w (i + k) = colsTo tab x.run) →
      (kidsGo base lead (ps.map fun (p : Nat) => (p : Int)) st r).map (proj tab) = (kidsS anc ps st i).map (projS w)
  | [], _, _, _, _ => rfl
  | p :: ps, st, r, i, hw => by
    rw [List.map_cons, kidsGo, kidsS, List.map_cons, List.map_cons]
    have h0 := hw 0 (kidOf base lead p st r) (by rw [List.map_cons, kidsGo]; rfl)
    have e : (st : Int) + (p : Int) = ((st + p : Nat) : Int) := by omega
    refine List.cons_eq_cons.mpr ⟨?_, ?_⟩
    · unfold proj projS kidOf
      dsimp only
      rw [cols_app h1 hm, List.map_cons, List.sum_cons, hc]
      have h0' : w i = colsTo tab (runOf r p) := h0
      rw [h0']
      exact Prod.ext rfl (Prod.ext rfl (Int.add_comm _ _))
    · rw [e]
      refine kids_proj h1 base lead anc w hc hm ps (st + p) (r.fdiv 21) (i + 1) fun k x hx => ?_
      rw [← e] at hx
      rw [show i + 1 + k = i + (k + 1) by omega]
      exact hw (k + 1) x (by rw [List.map_cons, kidsGo]; exact hx)
/-- the whole nodes are cut again: their leads end in a tab -/
noncomputable def EvenQ (tab : Int) (l : List PN) : Prop := ∀ P ∈ l, 1 < P.size → colsTo tab P.lead % tab = 0
theorem kids_even {tab : Int} (h1 : 1 ≤ tab) (base : Int) (lead : List Nat) : ∀ (ps : List Int) (st r : Int), EvenQ tab (kidsGo base lead ps st r)
  | [], _, _ => fun _ h => nomatch h
  | p :: ps, st, r => fun P hP hs => by
    rw [kidsGo] at hP
    rcases List.mem_cons.mp hP with rfl | hP
    · have hp : ¬ p = 1 := fun e => by
        have : (1 : Int) < p := hs
        omega
      show colsTo tab (lead ++ runOf r p) % tab = 0
      unfold runOf
      rw [if_neg hp, Int.mul_zero]
      rw [show (0 : Int).toNat = 0 from rfl, List.replicate_zero, List.append_nil, ← List.append_assoc]
      exact cols_tab h1 _
    · exact kids_even h1 base lead ps _ _ P hP hs
theorem fdiv_nonneg' {a b : Int} (h : 0 ≤ a) (hb : 0 < b) : 0 ≤ a.fdiv b := by
  rw [Int.fdiv_eq_ediv_of_nonneg _ (by omega)]
  exact Int.ediv_nonneg h (by omega)
theorem grow_shape {tab : Int} (h1 : 1 ≤ tab) (base : Int) (tot : List PN) (w : Nat → Int) (hw : ∀ k x, tot[k]? = some x → w k = colsTo tab x.run) :
    ∀ (f : Nat) (qC : List PN) (qS : List SN) (cuts runs : Int) (out : List PN), 0 ≤ cuts → 0 ≤ runs → qC.map (proj tab) = qS.map (projS w) → (∀ s ∈ qS, s.sz ≤ 5) → EvenQ tab qC → tot = out ++ grow base f qC cuts runs →
      ∃ S ∈ growS f qS out.length, (grow base f qC cuts runs).map (proj tab) = S.map (projS w)
  | 0, _, _, _, _, _, _, _, _, _, _, _ => ⟨[], by simp [growS], rfl⟩
  | f + 1, [], qS, _, _, _, _, _, hq, _, _, _ => by
    have : qS = [] := by
      cases qS with
      | nil => rfl
      | cons a b => simp at hq
    subst this
    exact ⟨[], by simp [growS], rfl⟩
  | f + 1, P :: q, qS, cuts, runs, out, hc, hr, hq, h5, he, ht => by
    cases qS with
    | nil => simp at hq
    | cons s qs =>
      rw [List.map_cons, List.map_cons] at hq
      first | ((first | refine el_0_2 (List.cons_eq_cons.mp hq) ?_ | refine el_1_1 (List.cons_eq_cons.mp hq) ?_); intro hP hq') | obtain ⟨hP, hq'⟩ := List.cons_eq_cons.mp hq
      unfold proj projS at hP
      injection hP with e1 hP
      injection hP with e2 e3
      have he' : EvenQ tab q := fun Q hQ => he Q (.tail _ hQ)
      have h5' : ∀ s ∈ qs, s.sz ≤ 5 := fun s hs => h5 s (.tail _ hs)
      have hs5 := h5 s (.head _)
      rw [grow, growS]
      rw [grow] at ht
      by_cases hs : 1 < P.size
      · rw [if_pos hs] at ht ⊢
        rw [if_pos (by omega : 1 < s.sz)]
        first | ((first | refine el_0_3 (parts_in (n := s.sz) (x := cuts) (by omega) hs5 hc) ?_ | refine el_1_2 (parts_in (n := s.sz) (x := cuts) (by omega) hs5 hc) ?_ | refine el_2_1 (parts_in (n := s.sz) (x := cuts) (by omega) hs5 hc) ?_); intro ps hps ep) | obtain ⟨ps, hps, ep⟩ := parts_in (n := s.sz) (x := cuts) (by omega) hs5 hc
        rw [← e2] at ep
        rw [ep, e1] at ht ⊢
        have hkp := kids_proj h1 base P.lead s.anc w e3 (he P (.head _) hs) ps s.st runs out.length (fun k x hx => hw _ _ (by
          rw [ht, List.getElem?_append_right (by omega), show out.length + k - out.length = k by omega, List.getElem?_append_left (List.getElem?_eq_some_iff.mp hx).1]
          exact hx))
        have hle : (ps.map fun (p : Nat) => (p : Int)).length = ps.length := List.length_map ..
        have hso : ∀ s' ∈ kidsS s.anc ps s.st out.length, s'.sz ≤ 5 := by
          have hle5 : ∀ n : Fin 6, ((outsN n.val).all fun ps => ps.all fun p => decide (p ≤ 5)) = true := by decide +kernel
          have hp5 : ∀ p ∈ ps, p ≤ 5 := fun p hp => of_decide_eq_true (List.all_eq_true.mp (List.all_eq_true.mp (hle5 ⟨s.sz, by omega⟩) ps hps) p hp)
          have go : ∀ (ps : List Nat) (st i : Nat), (∀ p ∈ ps, p ≤ 5) → ∀ s' ∈ kidsS s.anc ps st i, s'.sz ≤ 5 := by
            intro ps
            induction ps with
            | nil => intro _ _ _ s' h; cases h
            | cons p ps ih =>
              intro st i hp s' h
              rw [kidsS] at h
              rcases List.mem_cons.mp h with rfl | h
              · exact hp p (.head _)
              · exact ih _ _ (fun p' hp' => hp p' (.tail _ hp')) s' h
          exact go ps s.st out.length hp5
        obtain ⟨S, hS, eS⟩ := grow_shape h1 base tot w hw f (q ++ kidsGo base P.lead (ps.map fun (p : Nat) => (p : Int)) s.st runs) (qs ++ kidsS s.anc ps s.st out.length) (cuts.fdiv 32) (runsGo (ps.map fun (p : Nat) => (p : Int)).length runs) (out ++ kidsGo base P.lead (ps.map fun (p : Nat) => (p : Int)) s.st runs)
          (fdiv_nonneg' hc (by omega)) (runsGo_nonneg _ hr) (by rw [List.map_append, List.map_append, hq', hkp]) (fun s' hs' => by
            rcases List.mem_append.mp hs' with h | h
            · exact h5' s' h
            · exact hso s' h) (fun Q hQ hs' => by
            rcases List.mem_append.mp hQ with h | h
            · exact he' Q h hs'
            · exact kids_even h1 base P.lead _ _ _ Q h hs') (by rw [List.append_assoc]; exact ht)
        rw [List.length_append, kidsGo_length, hle] at hS
        refine ⟨kidsS s.anc ps s.st out.length ++ S, List.mem_flatMap.mpr ⟨ps, hps, List.mem_map.mpr ⟨S, hS, rfl⟩⟩, ?_⟩
        rw [List.map_append, List.map_append, hkp, eS]
      · rw [if_neg hs] at ht ⊢
        rw [if_neg (by omega : ¬ 1 < s.sz)]
        exact grow_shape h1 base tot w hw f q qs cuts runs out hc hr hq' h5' he' ht

end
-- PLC
section
open PySem PySem.Spec PySem.W PyProof.Rows PySem.Calls PyProof.V
-- linear forms over the edges
noncomputable def lin (w : Nat → Int) (c : Nat → SN → Int) : Nat → List SN → Int
  | _, [] => 0
  | k, e :: r => c k e * w k + lin w c (k + 1) r
noncomputable def allGo (p : Nat → SN → Bool) : Nat → List SN → Bool
  | _, [] => true
  | k, e :: r => p k e && allGo p (k + 1) r
theorem lin_le {w : Nat → Int} (hw : ∀ k, 0 ≤ w k) {c c' : Nat → SN → Int} : ∀ (S : List SN) (k : Nat), allGo (fun k e => decide (c k e ≤ c' k e)) k S = true → lin w c k S ≤ lin w c' k S
  | [], _, _ => Int.le_refl _
  | e :: S, k, h => by
    rw [allGo, Bool.and_eq_true] at h
    have h1 := Int.mul_le_mul_of_nonneg_right (of_decide_eq_true h.1) (hw k)
    have h2 := lin_le hw S (k + 1) h.2
    rw [lin, lin]
    omega
theorem lin_eq {w : Nat → Int} {c c' : Nat → SN → Int} : ∀ (S : List SN) (k : Nat), allGo (fun k e => decide (c k e = c' k e)) k S = true → lin w c k S = lin w c' k S
  | [], _, _ => rfl
  | e :: S, k, h => by
    rw [allGo, Bool.and_eq_true] at h
    rw [lin, lin, of_decide_eq_true h.1, lin_eq S (k + 1) h.2]
theorem lin_zero {w : Nat → Int} : ∀ (S : List SN) (k : Nat), lin w (fun _ _ => 0) k S = 0
  | [], _ => rfl
  | e :: S, k => by rw [lin, lin_zero S, Int.zero_mul]; rfl
theorem lin_comb3 {w : Nat → Int} {c c1 c2 c3 : Nat → SN → Int} (h : ∀ k e, c k e = c1 k e + c2 k e - 2 * c3 k e) : ∀ (S : List SN) (k : Nat), lin w c k S = lin w c1 k S + lin w c2 k S - 2 * lin w c3 k S
  | [], _ => rfl
  | e :: S, k => by
    rw [lin, lin, lin, lin, lin_comb3 h S, h, Int.sub_mul, Int.add_mul, Int.mul_assoc]
    omega
theorem lin_comb4 {w : Nat → Int} {c c1 c2 c3 c4 : Nat → SN → Int} (h : ∀ k e, c k e = c1 k e + c2 k e - c3 k e - c4 k e) : ∀ (S : List SN) (k : Nat), lin w c k S = lin w c1 k S + lin w c2 k S - lin w c3 k S - lin w c4 k S
  | [], _ => rfl
  | e :: S, k => by
    rw [lin, lin, lin, lin, lin, lin_comb4 h S, h, Int.sub_mul, Int.sub_mul, Int.add_mul]
    omega
theorem lin_two {w : Nat → Int} {c c1 : Nat → SN → Int} (h : ∀ k e, c k e = 2 * c1 k e) : ∀ (S : List SN) (k : Nat), lin w c k S = 2 * lin w c1 k S
  | [], _ => rfl
  | e :: S, k => by
    rw [lin, lin, lin_two h S, h, Int.mul_assoc]
    omega
theorem lin_delta {w : Nat → Int} (a : Nat) : ∀ (S : List SN) (k : Nat), lin w (fun j _ => if a = j then 1 else 0) k S = if k ≤ a ∧ a < k + S.length then w a else 0
  | [], k => by
    rw [lin, if_neg (by rw [List.length_nil]; omega)]
  | e :: S, k => by
    rw [lin, lin_delta a S, List.length_cons]
    by_cases h : a = k
    · subst h
      rw [if_pos rfl, if_neg (by omega), if_pos (by omega)]
      omega
    · rw [if_neg h, Int.zero_mul, Int.zero_add]
      by_cases h2 : k + 1 ≤ a ∧ a < k + 1 + S.length
      · rw [if_pos h2, if_pos (by omega)]
      · rw [if_neg h2, if_neg (by omega)]
theorem lin_plus {w : Nat → Int} {c c1 c2 : Nat → SN → Int} (h : ∀ k e, c k e = c1 k e + c2 k e) : ∀ (S : List SN) (k : Nat), lin w c k S = lin w c1 k S + lin w c2 k S
  | [], _ => rfl
  | e :: S, k => by
    rw [lin, lin, lin, lin_plus h S, h, Int.add_mul]
    omega
theorem anc_lin {w : Nat → Int} (S : List SN) : ∀ anc : List Nat, (∀ a ∈ anc, a < S.length) → (anc.map w).sum = lin w (fun k _ => (anc.count k : Int)) 0 S
  | [], _ => by
    rw [show (fun (k : Nat) (_ : SN) => (([] : List Nat).count k : Int)) = fun _ _ => 0 from rfl, lin_zero]
    rfl
  | a :: anc, h => by
    have ih := anc_lin (w := w) S anc fun b hb => h b (.tail _ hb)
    rw [List.map_cons, List.sum_cons, ih]
    have e := lin_plus (w := w) (c := fun k _ => ((a :: anc).count k : Int)) (c1 := fun k _ => if a = k then 1 else 0) (c2 := fun k _ => (anc.count k : Int)) (fun k e => by
      rw [List.count_cons]
      by_cases hk : a = k
      · subst hk
        rw [if_pos rfl, if_pos (by simp)]
        omega
      · rw [if_neg hk, if_neg (by simpa using hk)]
        omega) S 0
    rw [e, lin_delta, if_pos ⟨Nat.zero_le _, by have := h a (.head _); omega⟩]
-- bits
noncomputable def inM (e : SN) (u : Nat) : Bool := Nat.ble e.st u && Nat.blt u (e.st + e.sz)
noncomputable def both (e : SN) (u v : Nat) : Bool := inM e u && inM e v
noncomputable def ind (b : Bool) : Int := bif b then 1 else 0
noncomputable def sepI (e : SN) (u v : Nat) : Int := ind (inM e u != inM e v)
noncomputable def con (e : SN) (a c b d : Nat) : Int := sepI e a b + sepI e c d - sepI e a c - sepI e b d
noncomputable def maskI (e : SN) : Int := ((2 ^ e.sz - 1 : Int)) * 2 ^ e.st
noncomputable def maskN (e : SN) : Nat := (2 ^ e.sz - 1) * 2 ^ e.st
noncomputable def colOf (w : Nat → Int) (e : SN) : Int := (e.anc.map w).sum
noncomputable def chkD (S : List SN) (u v : Nat) : Bool := (S.all fun e => !both e u v || allGo (fun k x => decide ((e.anc.count k : Int) ≤ ind (both x u v))) 0 S) && (!(S.any fun e => both e u v) || S.any fun e => both e u v && allGo (fun k x => decide ((e.anc.count k : Int) = ind (both x u v))) 0 S)
noncomputable def chkA (S : List SN) : Bool := S.all fun e => e.anc.all fun a => decide (a < S.length)
theorem lin_none {w : Nat → Int} {p : SN → Bool} : ∀ (S : List SN) (k : Nat), S.any p = false → lin w (fun _ e => ind (p e)) k S = 0
  | [], _, _ => rfl
  | e :: S, k, h => by
    rw [List.any_cons, Bool.or_eq_false_iff] at h
    rw [lin, lin_none S _ h.2, h.1]
    simp [ind]
theorem lin_ind_nonneg {w : Nat → Int} (hw : ∀ k, 0 ≤ w k) {p : SN → Bool} : ∀ (S : List SN) (k : Nat), 0 ≤ lin w (fun _ e => ind (p e)) k S
  | [], _ => Int.le_refl _
  | e :: S, k => by
    have h1 := lin_ind_nonneg hw (p := p) S (k + 1)
    have h2 := hw k
    rw [lin]
    have h3 : ind (p e) * w k = 0 ∨ ind (p e) * w k = w k := by
      cases p e
      · exact .inl (Int.zero_mul _)
      · exact .inr (Int.one_mul _)
    omega
theorem deep_shape {w : Nat → Int} (hw : ∀ k, 0 ≤ w k) {S : List SN} {u v : Nat} (hA : chkA S = true) (hD : chkD S u v = true) : (((S.filter fun e => both e u v).map (colOf w))).foldl max 0 = lin w (fun _ e => ind (both e u v)) 0 S := by
  unfold chkD at hD
  rw [Bool.and_eq_true] at hD
  have hanc : ∀ e ∈ S, colOf w e = lin w (fun k _ => (e.anc.count k : Int)) 0 S := fun e he => anc_lin S e.anc fun a ha => of_decide_eq_true (List.all_eq_true.mp (List.all_eq_true.mp hA e he) a ha)
  symm
  refine max_of ?_ ?_
  · cases hany : S.any fun e => both e u v with
    | false =>
      rw [lin_none S 0 hany]
      exact .head _
    | true =>
      have h2 := hD.2
      rw [hany, Bool.not_true, Bool.false_or] at h2
      first | ((first | refine el_0_3 (List.any_eq_true.mp h2) ?_ | refine el_1_2 (List.any_eq_true.mp h2) ?_ | refine el_2_1 (List.any_eq_true.mp h2) ?_); intro e he h3) | obtain ⟨e, he, h3⟩ := List.any_eq_true.mp h2
      rw [Bool.and_eq_true] at h3
      rw [← lin_eq S 0 h3.2, ← hanc e he]
      exact .tail _ (List.mem_map_of_mem (List.mem_filter.mpr ⟨he, h3.1⟩))
  · intro a ha
    rcases List.mem_cons.mp ha with rfl | ha
    · exact lin_ind_nonneg hw S 0
    · first | ((first | refine el_0_3 (List.mem_map.mp ha) ?_ | refine el_1_2 (List.mem_map.mp ha) ?_ | refine el_2_1 (List.mem_map.mp ha) ?_); intro e he zq1; subst zq1) | obtain ⟨e, he, rfl⟩ := List.mem_map.mp ha
      first | ((first | refine el_0_2 (List.mem_filter.mp he) ?_ | refine el_1_1 (List.mem_filter.mp he) ?_); intro he hb) | obtain ⟨he, hb⟩ := List.mem_filter.mp he
      have h1 := List.all_eq_true.mp hD.1 e he
      rw [hb, Bool.not_true, Bool.false_or] at h1
      rw [hanc e he]
      exact lin_le hw S 0 h1
theorem bits_ok {st sz u v : Nat} (h : st + sz ≤ 5) (hu : u < 5) (hv : v < 5) : decide (Builtin.bitAnd (Builtin.bitAnd (((2 ^ sz - 1 : Int) * 2 ^ st).fdiv (2 ^ u)) (((2 ^ sz - 1 : Int) * 2 ^ st).fdiv (2 ^ v))) 1 ≠ 0) = (Nat.ble st u && Nat.blt u (st + sz) && (Nat.ble st v && Nat.blt v (st + sz))) := by
  have key : ∀ st : Fin 6, ∀ sz : Fin 6, ∀ u : Fin 5, ∀ v : Fin 5, st.val + sz.val ≤ 5 → decide (Builtin.bitAnd (Builtin.bitAnd (((2 ^ sz.val - 1 : Int) * 2 ^ st.val).fdiv (2 ^ u.val)) (((2 ^ sz.val - 1 : Int) * 2 ^ st.val).fdiv (2 ^ v.val))) 1 ≠ 0) = (Nat.ble st.val u.val && Nat.blt u.val (st.val + sz.val) && (Nat.ble st.val v.val && Nat.blt v.val (st.val + sz.val))) := by decide +kernel
  exact key ⟨st, by omega⟩ ⟨sz, by omega⟩ ⟨u, hu⟩ ⟨v, hv⟩ h
theorem seen_shape {w : Nat → Int} {u v : Int} (hu : 0 ≤ u ∧ u < 5) (hv : 0 ≤ v ∧ v < 5) : ∀ {cols : List Col} {S : List SN}, cols.map colP = S.map (fun e => (maskI e, colOf w e)) → (∀ e ∈ S, e.st + e.sz ≤ 5) → seen cols u v = (S.filter fun e => both e u.toNat v.toNat).map (colOf w)
  | [], [], _, _ => rfl
  | [], _ :: _, h, _ => by simp at h
  | _ :: _, [], h, _ => by simp at h
  | c :: cols, e :: S, h, h5 => by
    rw [List.map_cons, List.map_cons] at h
    first | ((first | refine el_0_2 (List.cons_eq_cons.mp h) ?_ | refine el_1_1 (List.cons_eq_cons.mp h) ?_); intro h1 h2) | obtain ⟨h1, h2⟩ := List.cons_eq_cons.mp h
    have ih := seen_shape hu hv h2 fun e he => h5 e (.tail _ he)
    have e1 : c.leaves = maskI e := congrArg Prod.fst h1
    have e2 : c.column = colOf w e := congrArg Prod.snd h1
    have hb := bits_ok (h5 e (.head _)) (u := u.toNat) (v := v.toNat) (by omega) (by omega)
    unfold seen at ih ⊢
    rw [List.filter_cons, List.filter_cons, e1]
    have hb' : decide (Builtin.bitAnd (Builtin.bitAnd ((maskI e).fdiv (2 ^ u.toNat)) ((maskI e).fdiv (2 ^ v.toNat))) 1 ≠ 0) = both e u.toNat v.toNat := hb
    rw [hb']
    cases both e u.toNat v.toNat
    · exact ih
    · rw [if_pos rfl, if_pos rfl, List.map_cons, List.map_cons, ih, e2]
theorem way_shape {w : Nat → Int} (hw : ∀ k, 0 ≤ w k) {cols : List Col} {S : List SN} (hc : cols.map colP = S.map (fun e => (maskI e, colOf w e))) (h5 : ∀ e ∈ S, e.st + e.sz ≤ 5) (hA : chkA S = true) (hD : ∀ u v : Nat, u < 5 → v < 5 → chkD S u v = true)
    {u v : Int} (hu : 0 ≤ u ∧ u < 5) (hv : 0 ≤ v ∧ v < 5) : wayOf cols u v = lin w (fun _ e => sepI e u.toNat v.toNat) 0 S := by
  have dp : ∀ {u v : Int}, 0 ≤ u ∧ u < 5 → 0 ≤ v ∧ v < 5 → deepOf cols u v = lin w (fun _ e => ind (both e u.toNat v.toNat)) 0 S := fun {u v} hu hv => by
    unfold deepOf
    rw [seen_shape hu hv hc h5]
    exact deep_shape hw hA (hD _ _ (by omega) (by omega))
  unfold wayOf
  rw [dp hu hu, dp hv hv, dp hu hv]
  refine (lin_comb3 (fun k e => ?_) S 0).symm
  unfold sepI both
  cases inM e u.toNat <;> cases inM e v.toNat <;> decide
theorem quad_shape {w : Nat → Int} (hw : ∀ k, 0 ≤ w k) {cols : List Col} {S : List SN} (hc : cols.map colP = S.map (fun e => (maskI e, colOf w e))) (h5 : ∀ e ∈ S, e.st + e.sz ≤ 5) (hA : chkA S = true) (hD : ∀ u v : Nat, u < 5 → v < 5 → chkD S u v = true)
    {a c b d : Int} (ha : 0 ≤ a ∧ a < 5) (hc' : 0 ≤ c ∧ c < 5) (hb : 0 ≤ b ∧ b < 5) (hd : 0 ≤ d ∧ d < 5) : quadD (wayOf cols) a c b d = lin w (fun _ e => con e a.toNat c.toNat b.toNat d.toNat) 0 S := by
  unfold quadD
  rw [way_shape hw hc h5 hA hD ha hb, way_shape hw hc h5 hA hD hc' hd, way_shape hw hc h5 hA hD ha hc', way_shape hw hc h5 hA hD hb hd]
  exact (lin_comb4 (fun k e => rfl) S 0).symm
-- the own edges
noncomputable def idxMap (w : Nat → Int) : Nat → List SN → List (Int × Int)
  | _, [] => []
  | k, e :: r => (maskI e, w k) :: idxMap w (k + 1) r
noncomputable def ownI (n : Int) (e : SN) : Bool := [n, 31 - n].any (· == maskI e)
theorem own_shape {w : Nat → Int} {n : Int} : ∀ {wds : List Col} {S : List SN} {k : Nat}, wds.map colP = idxMap w k S → (ownOf wds n).sum = lin w (fun _ e => ind (ownI n e)) k S ∧ (S.any (ownI n) = false → ownOf wds n = [])
  | [], [], _, _ => ⟨rfl, fun _ => rfl⟩
  | [], _ :: _, _, h => by simp [idxMap] at h
  | _ :: _, [], _, h => by simp [idxMap] at h
  | c :: wds, e :: S, k, h => by
    rw [List.map_cons, idxMap] at h
    first | ((first | refine el_0_2 (List.cons_eq_cons.mp h) ?_ | refine el_1_1 (List.cons_eq_cons.mp h) ?_); intro h1 h2) | obtain ⟨h1, h2⟩ := List.cons_eq_cons.mp h
    first | ((first | refine el_0_2 (own_shape (n := n) h2) ?_ | refine el_1_1 (own_shape (n := n) h2) ?_); intro i1 i2) | obtain ⟨i1, i2⟩ := own_shape (n := n) h2
    have e1 : c.leaves = maskI e := congrArg Prod.fst h1
    have e2 : c.column = w k := congrArg Prod.snd h1
    unfold ownOf at i1 i2 ⊢
    rw [List.filter_cons, lin, e1]
    rw [show ([n, 31 - n].any fun x => x == maskI e) = ownI n e from rfl]
    cases ho : ownI n e
    · refine ⟨?_, fun hf => ?_⟩
      · rw [show ind false = 0 from rfl, Int.zero_mul, Int.zero_add]
        exact i1
      · rw [List.any_cons, Bool.or_eq_false_iff] at hf
        exact i2 hf.2
    · refine ⟨?_, fun hf => ?_⟩
      · rw [if_pos rfl, List.map_cons, List.sum_cons, i1, e2, show ind true = 1 from rfl, Int.one_mul]
      · rw [List.any_cons, Bool.or_eq_false_iff, ho] at hf
        cases hf.1

end
-- PLD
section
open PySem PySem.Spec PySem.W PyProof.Rows PySem.Calls PyProof.V
noncomputable def insT : List (List Nat) := [[0], [0, 1], [0, 2], [0, 1, 2], [0, 3], [0, 1, 3], [0, 2, 3], [0, 1, 2, 3], [0, 4], [0, 1, 4], [0, 2, 4], [0, 1, 2, 4], [0, 3, 4], [0, 1, 3, 4], [0, 2, 3, 4]]
noncomputable def outT : List (List Nat) := [[1, 2, 3, 4], [2, 3, 4], [1, 3, 4], [3, 4], [1, 2, 4], [2, 4], [1, 4], [4], [1, 2, 3], [2, 3], [1, 3], [3], [1, 2], [2], [1]]
noncomputable def insN (k : Nat) : List Nat := insT.getD k []
noncomputable def outN (k : Nat) : List Nat := outT.getD k []
theorem ins_is : ∀ k : Nat, k < 15 → insTo (1 + (k : Int) * 2) 5 = (insN k).map (fun (u : Nat) => (u : Int)) ∧ outTo (insTo (1 + (k : Int) * 2) 5) 5 = (outN k).map (fun (u : Nat) => (u : Int)) := by
  have key : ∀ k : Fin 15, insTo (1 + (k.val : Int) * 2) 5 = (insN k.val).map (fun (u : Nat) => (u : Int)) ∧ outTo (insTo (1 + (k.val : Int) * 2) 5) 5 = (outN k.val).map (fun (u : Nat) => (u : Int)) := by decide +kernel
  intro k hk
  exact key ⟨k, hk⟩
theorem ins_lt : ∀ k : Nat, k < 15 → (∀ u ∈ insN k, u < 5) ∧ (∀ u ∈ outN k, u < 5) := by
  have key : ∀ k : Fin 15, (∀ u ∈ insN k.val, u < 5) ∧ (∀ u ∈ outN k.val, u < 5) := by decide +kernel
  intro k hk
  exact key ⟨k, hk⟩
noncomputable def ownN (k : Nat) (e : SN) : Bool := Nat.beq (maskN e) (1 + k * 2) || Nat.beq (maskN e) (31 - (1 + k * 2))
theorem own_is {k : Nat} (hk : k < 15) {e : SN} (h5 : e.st + e.sz ≤ 5) : ownI (1 + (k : Int) * 2) e = ownN k e := by
  have key : ∀ k : Fin 15, ∀ st : Fin 6, ∀ sz : Fin 6, st.val + sz.val ≤ 5 → ownI (1 + (k.val : Int) * 2) ⟨st.val, sz.val, []⟩ = ownN k.val ⟨st.val, sz.val, []⟩ := by decide +kernel
  exact key ⟨k, hk⟩ ⟨e.st, by omega⟩ ⟨e.sz, by omega⟩ h5
noncomputable def sepN (e : SN) (u v : Nat) : Nat := bif inM e u != inM e v then 1 else 0
theorem sep_is (e : SN) (u v : Nat) : sepI e u v = (sepN e u v : Int) := by
  unfold sepI sepN ind
  cases inM e u != inM e v <;> rfl
noncomputable def conGe (e : SN) (a c b d : Nat) : Bool := Nat.ble (sepN e a c + sepN e b d) (sepN e a b + sepN e c d)
noncomputable def conZero (e : SN) (a c b d : Nat) : Bool := Nat.beq (sepN e a c + sepN e b d) (sepN e a b + sepN e c d)
noncomputable def conTwo (e : SN) (a c b d : Nat) : Bool := Nat.beq (sepN e a c + sepN e b d + 2) (sepN e a b + sepN e c d)
noncomputable def conLe (e : SN) (a c b d : Nat) : Bool := Nat.ble (sepN e a b + sepN e c d) (sepN e a c + sepN e b d)
theorem con_ge {e : SN} {a c b d : Nat} (h : conGe e a c b d = true) : 0 ≤ con e a c b d := by
  have := Nat.le_of_ble_eq_true h
  unfold con
  rw [sep_is, sep_is, sep_is, sep_is]
  omega
theorem con_zero {e : SN} {a c b d : Nat} (h : conZero e a c b d = true) : con e a c b d = 0 := by
  have := Nat.eq_of_beq_eq_true h
  unfold con
  rw [sep_is, sep_is, sep_is, sep_is]
  omega
theorem con_two {e : SN} {a c b d : Nat} (h : conTwo e a c b d = true) : con e a c b d = 2 := by
  have := Nat.eq_of_beq_eq_true h
  unfold con
  rw [sep_is, sep_is, sep_is, sep_is]
  omega
theorem con_le {e : SN} {a c b d : Nat} (h : conLe e a c b d = true) : con e a c b d ≤ 0 := by
  have := Nat.le_of_ble_eq_true h
  unfold con
  rw [sep_is, sep_is, sep_is, sep_is]
  omega
noncomputable def qall (k : Nat) (p : Nat → Nat → Nat → Nat → Bool) : Bool := (insN k).all fun a => (insN k).all fun c => !(Nat.ble a c) || (outN k).all fun b => (outN k).all fun d => p a c b d
noncomputable def qany (k : Nat) (p : Nat → Nat → Nat → Nat → Bool) : Bool := (insN k).any fun a => (insN k).any fun c => Nat.ble a c && (outN k).any fun b => (outN k).any fun d => p a c b d
theorem qall_get {k : Nat} {p : Nat → Nat → Nat → Nat → Bool} (h : qall k p = true) {a c b d : Nat} (ha : a ∈ insN k) (hc : c ∈ insN k) (hac : a ≤ c) (hb : b ∈ outN k) (hd : d ∈ outN k) : p a c b d = true := by
  have h1 := List.all_eq_true.mp (List.all_eq_true.mp h a ha) c hc
  rw [Nat.ble_eq_true_of_le hac, Bool.not_true, Bool.false_or] at h1
  exact List.all_eq_true.mp (List.all_eq_true.mp h1 b hb) d hd
theorem qany_get {k : Nat} {p : Nat → Nat → Nat → Nat → Bool} (h : qany k p = true) : ∃ a c b d, a ∈ insN k ∧ c ∈ insN k ∧ a ≤ c ∧ b ∈ outN k ∧ d ∈ outN k ∧ p a c b d = true := by
  first | ((first | refine el_0_3 (List.any_eq_true.mp h) ?_ | refine el_1_2 (List.any_eq_true.mp h) ?_ | refine el_2_1 (List.any_eq_true.mp h) ?_); intro a ha h) | obtain ⟨a, ha, h⟩ := List.any_eq_true.mp h
  first | ((first | refine el_0_3 (List.any_eq_true.mp h) ?_ | refine el_1_2 (List.any_eq_true.mp h) ?_ | refine el_2_1 (List.any_eq_true.mp h) ?_); intro c hc h) | obtain ⟨c, hc, h⟩ := List.any_eq_true.mp h
  rw [Bool.and_eq_true] at h
  first | ((first | refine el_0_2 (h) ?_ | refine el_1_1 (h) ?_); (try clear h); intro h0 h) | obtain ⟨h0, h⟩ := h
  first | ((first | refine el_0_3 (List.any_eq_true.mp h) ?_ | refine el_1_2 (List.any_eq_true.mp h) ?_ | refine el_2_1 (List.any_eq_true.mp h) ?_); intro b hb h) | obtain ⟨b, hb, h⟩ := List.any_eq_true.mp h
  first | ((first | refine el_0_3 (List.any_eq_true.mp h) ?_ | refine el_1_2 (List.any_eq_true.mp h) ?_ | refine el_2_1 (List.any_eq_true.mp h) ?_); intro d hd h) | obtain ⟨d, hd, h⟩ := List.any_eq_true.mp h
  exact ⟨a, c, b, d, ha, hc, Nat.le_of_ble_eq_true h0, hb, hd, h⟩
noncomputable def chkK (S : List SN) (k : Nat) : Bool :=
  bif S.any (ownN k) then (S.all fun e => bif ownN k e then qall k (conTwo e) else qall k (conGe e)) && qany k fun a c b d => S.all fun e => ownN k e || conZero e a c b d
  else qany k fun a c b d => S.all fun e => conLe e a c b d
noncomputable def chkAll (S : List SN) : Bool := chkA S && (S.all fun e => Nat.ble (e.st + e.sz) 5 && Nat.ble 1 e.sz) && (Nat.ble 1 S.length && Nat.ble S.length 20) && ((List.range 5).all fun u => (List.range 5).all fun v => chkD S u v) && (List.range 15).all fun k => chkK S k
theorem all_ok : ((growS 20 [⟨0, 5, []⟩] 0).all chkAll) = true := by decide +kernel

end
-- PLE
section
open PySem PySem.Spec PySem.W PyProof.Rows PySem.Calls PyProof.V
theorem allGo_of {p : Nat → SN → Bool} : ∀ (S : List SN) (k : Nat), (∀ j, ∀ e ∈ S, p j e = true) → allGo p k S = true
  | [], _, _ => rfl
  | e :: S, k, h => by
    rw [allGo, h k e (.head _), allGo_of S (k + 1) fun j e he => h j e (.tail _ he)]
    rfl
theorem mem_quads {W : Int → Int → Int} {ins outs : List Int} {M : Int} : M ∈ quads W ins outs ↔ ∃ a c b d, a ∈ ins ∧ c ∈ ins ∧ a ≤ c ∧ b ∈ outs ∧ d ∈ outs ∧ M = quadD W a c b d := by
  unfold quads
  rw [List.mem_flatMap]
  constructor
  · first | (intro zq1; (first | refine el_0_3 (zq1) ?_ | refine el_1_2 (zq1) ?_ | refine el_2_1 (zq1) ?_); (try clear zq1); intro a ha h) | rintro ⟨a, ha, h⟩
    unfold quadA at h
    first | ((first | refine el_0_3 (List.mem_flatMap.mp h) ?_ | refine el_1_2 (List.mem_flatMap.mp h) ?_ | refine el_2_1 (List.mem_flatMap.mp h) ?_); intro c hc h) | obtain ⟨c, hc, h⟩ := List.mem_flatMap.mp h
    by_cases hac : a ≤ c
    · rw [if_pos hac] at h
      unfold quadC at h
      first | ((first | refine el_0_3 (List.mem_flatMap.mp h) ?_ | refine el_1_2 (List.mem_flatMap.mp h) ?_ | refine el_2_1 (List.mem_flatMap.mp h) ?_); intro b hb h) | obtain ⟨b, hb, h⟩ := List.mem_flatMap.mp h
      unfold quadB at h
      first | ((first | refine el_0_3 (List.mem_map.mp h) ?_ | refine el_1_2 (List.mem_map.mp h) ?_ | refine el_2_1 (List.mem_map.mp h) ?_); intro d hd zq2; subst zq2) | obtain ⟨d, hd, rfl⟩ := List.mem_map.mp h
      exact ⟨a, c, b, d, ha, hc, hac, hb, hd, rfl⟩
    · rw [if_neg hac] at h
      cases h
  · first | (intro zq3; (first | refine el_0_10 (zq3) ?_ | refine el_1_9 (zq3) ?_ | refine el_2_8 (zq3) ?_ | refine el_3_7 (zq3) ?_ | refine el_4_6 (zq3) ?_ | refine el_5_5 (zq3) ?_ | refine el_6_4 (zq3) ?_ | refine el_7_3 (zq3) ?_ | refine el_8_2 (zq3) ?_ | refine el_9_1 (zq3) ?_); (try clear zq3); intro a c b d ha hc hac hb hd zq4; subst zq4) | rintro ⟨a, c, b, d, ha, hc, hac, hb, hd, rfl⟩
    refine ⟨a, ha, List.mem_flatMap.mpr ⟨c, hc, ?_⟩⟩
    rw [if_pos hac]
    exact List.mem_flatMap.mpr ⟨b, hb, List.mem_map_of_mem hd⟩
theorem split_law {w : Nat → Int} (hw : ∀ k, 0 ≤ w k) {S : List SN} (hS : chkAll S = true) {cols wds : List Col} (hc : cols.map colP = S.map (fun e => (maskI e, colOf w e))) (hd : wds.map colP = idxMap w 0 S)
    (k : Nat) (hk : k < 15) (M : Int) (hM : M ∈ quads (wayOf cols) (insTo (1 + (k : Int) * 2) 5) (outTo (insTo (1 + (k : Int) * 2) 5) 5)) (hmin : ∀ v ∈ quads (wayOf cols) (insTo (1 + (k : Int) * 2) 5) (outTo (insTo (1 + (k : Int) * 2) 5) 5), M ≤ v)
    (hne : M ≠ 2 * (ownOf wds (1 + (k : Int) * 2)).sum) : ownOf wds (1 + (k : Int) * 2) = [] ∧ M ≤ 0 := by
  unfold chkAll at hS
  simp only [Bool.and_eq_true] at hS
  first | ((first | refine el_0_2 (hS) ?_ | refine el_1_1 (hS) ?_); (try clear hS); intro zq5 hK; (first | refine el_0_2 (zq5) ?_ | refine el_1_1 (zq5) ?_); (try clear zq5); intro zq6 hD; (first | refine el_0_2 (zq6) ?_ | refine el_1_1 (zq6) ?_); (try clear zq6); intro zq7 _; (first | refine el_0_2 (zq7) ?_ | refine el_1_1 (zq7) ?_); (try clear zq7); intro hA hB) | obtain ⟨⟨⟨⟨hA, hB⟩, _⟩, hD⟩, hK⟩ := hS
  have h5 : ∀ e ∈ S, e.st + e.sz ≤ 5 := fun e he => by
    have := List.all_eq_true.mp hB e he
    rw [Bool.and_eq_true] at this
    exact Nat.le_of_ble_eq_true this.1
  have hD' : ∀ u v : Nat, u < 5 → v < 5 → chkD S u v = true := fun u v hu hv => List.all_eq_true.mp (List.all_eq_true.mp hD u (List.mem_range.mpr hu)) v (List.mem_range.mpr hv)
  have hKk := List.all_eq_true.mp hK k (List.mem_range.mpr hk)
  first | ((first | refine el_0_2 (ins_is k hk) ?_ | refine el_1_1 (ins_is k hk) ?_); intro eI eO) | obtain ⟨eI, eO⟩ := ins_is k hk
  first | ((first | refine el_0_2 (ins_lt k hk) ?_ | refine el_1_1 (ins_lt k hk) ?_); intro lI lO) | obtain ⟨lI, lO⟩ := ins_lt k hk
  rw [eO, eI] at hM hmin
  first | ((first | refine el_0_2 (own_shape (n := 1 + (k : Int) * 2) hd) ?_ | refine el_1_1 (own_shape (n := 1 + (k : Int) * 2) hd) ?_); intro o1 o2) | obtain ⟨o1, o2⟩ := own_shape (n := 1 + (k : Int) * 2) hd
  have eown : ∀ e ∈ S, ownI (1 + (k : Int) * 2) e = ownN k e := fun e he => own_is hk (h5 e he)
  have val : ∀ {a c b d : Nat}, a ∈ insN k → c ∈ insN k → b ∈ outN k → d ∈ outN k → quadD (wayOf cols) (a : Int) c b d = lin w (fun _ e => con e a c b d) 0 S := fun {a c b d} ha hc' hb hd' => by
    have q1 := lI a ha
    have q2 := lI c hc'
    have q3 := lO b hb
    have q4 := lO d hd'
    rw [quad_shape hw hc h5 hA hD' (a := (a : Int)) (c := (c : Int)) (b := (b : Int)) (d := (d : Int)) ⟨by omega, by omega⟩ ⟨by omega, by omega⟩ ⟨by omega, by omega⟩ ⟨by omega, by omega⟩]
    rfl
  have inq : ∀ {a c b d : Nat}, a ∈ insN k → c ∈ insN k → a ≤ c → b ∈ outN k → d ∈ outN k → M ≤ lin w (fun _ e => con e a c b d) 0 S := fun {a c b d} ha hc' hac hb hd' => by
    rw [← val ha hc' hb hd']
    exact hmin _ (mem_quads.mpr ⟨a, c, b, d, List.mem_map_of_mem ha, List.mem_map_of_mem hc', by omega, List.mem_map_of_mem hb, List.mem_map_of_mem hd', rfl⟩)
  unfold chkK at hKk
  cases hown : S.any (ownN k) with
  | false =>
    rw [hown, cond_false] at hKk
    first | ((first | refine el_0_10 (qany_get hKk) ?_ | refine el_1_9 (qany_get hKk) ?_ | refine el_2_8 (qany_get hKk) ?_ | refine el_3_7 (qany_get hKk) ?_ | refine el_4_6 (qany_get hKk) ?_ | refine el_5_5 (qany_get hKk) ?_ | refine el_6_4 (qany_get hKk) ?_ | refine el_7_3 (qany_get hKk) ?_ | refine el_8_2 (qany_get hKk) ?_ | refine el_9_1 (qany_get hKk) ?_); intro a c b d ha hc' hac hb hd' hq) | obtain ⟨a, c, b, d, ha, hc', hac, hb, hd', hq⟩ := qany_get hKk
    have hno : S.any (ownI (1 + (k : Int) * 2)) = false := by
      rw [List.any_eq_false] at hown ⊢
      intro e he
      rw [eown e he]
      exact hown e he
    refine ⟨o2 hno, Int.le_trans (inq ha hc' hac hb hd') ?_⟩
    have := lin_le hw (c := fun _ e => con e a c b d) (c' := fun _ _ => 0) S 0 (allGo_of S 0 fun j e he => decide_eq_true (con_le (List.all_eq_true.mp hq e he)))
    rw [lin_zero] at this
    exact this
  | true =>
    exfalso
    rw [hown, cond_true, Bool.and_eq_true] at hKk
    first | ((first | refine el_0_2 (hKk) ?_ | refine el_1_1 (hKk) ?_); (try clear hKk); intro k1 k2) | obtain ⟨k1, k2⟩ := hKk
    have two : lin w (fun _ e => 2 * ind (ownI (1 + (k : Int) * 2) e)) 0 S = 2 * (ownOf wds (1 + (k : Int) * 2)).sum := by
      rw [o1]
      exact lin_two (fun _ _ => rfl) S 0
    have hcon : ∀ {a c b d : Nat}, a ∈ insN k → c ∈ insN k → a ≤ c → b ∈ outN k → d ∈ outN k → ∀ e ∈ S, (ownN k e = true → con e a c b d = 2) ∧ (ownN k e = false → 0 ≤ con e a c b d) := fun {a c b d} ha hc' hac hb hd' e he => by
      have h1 := List.all_eq_true.mp k1 e he
      refine ⟨fun ho => ?_, fun ho => ?_⟩
      · rw [ho, cond_true] at h1
        exact con_two (qall_get h1 ha hc' hac hb hd')
      · rw [ho, cond_false] at h1
        exact con_ge (qall_get h1 ha hc' hac hb hd')
    refine hne (Int.le_antisymm ?_ ?_)
    · first | ((first | refine el_0_10 (qany_get k2) ?_ | refine el_1_9 (qany_get k2) ?_ | refine el_2_8 (qany_get k2) ?_ | refine el_3_7 (qany_get k2) ?_ | refine el_4_6 (qany_get k2) ?_ | refine el_5_5 (qany_get k2) ?_ | refine el_6_4 (qany_get k2) ?_ | refine el_7_3 (qany_get k2) ?_ | refine el_8_2 (qany_get k2) ?_ | refine el_9_1 (qany_get k2) ?_); intro a c b d ha hc' hac hb hd' hq) | obtain ⟨a, c, b, d, ha, hc', hac, hb, hd', hq⟩ := qany_get k2
      refine Int.le_trans (inq ha hc' hac hb hd') ?_
      rw [← two]
      refine lin_le hw S 0 (allGo_of S 0 fun j e he => decide_eq_true ?_)
      have h1 := List.all_eq_true.mp hq e he
      first | ((first | refine el_0_2 (hcon ha hc' hac hb hd' e he) ?_ | refine el_1_1 (hcon ha hc' hac hb hd' e he) ?_); intro c1 c2) | obtain ⟨c1, c2⟩ := hcon ha hc' hac hb hd' e he
      rw [eown e he]
      cases ho : ownN k e with
      | true =>
        rw [c1 ho]
        decide
      | false =>
        rw [ho, Bool.false_or] at h1
        rw [con_zero h1]
        decide
    · first | ((first | refine el_0_10 (mem_quads.mp hM) ?_ | refine el_1_9 (mem_quads.mp hM) ?_ | refine el_2_8 (mem_quads.mp hM) ?_ | refine el_3_7 (mem_quads.mp hM) ?_ | refine el_4_6 (mem_quads.mp hM) ?_ | refine el_5_5 (mem_quads.mp hM) ?_ | refine el_6_4 (mem_quads.mp hM) ?_ | refine el_7_3 (mem_quads.mp hM) ?_ | refine el_8_2 (mem_quads.mp hM) ?_ | refine el_9_1 (mem_quads.mp hM) ?_); intro a' c' b' d' ha hc' hac hb hd' zq8; subst zq8) | obtain ⟨a', c', b', d', ha, hc', hac, hb, hd', rfl⟩ := mem_quads.mp hM
      first | ((first | refine el_0_3 (List.mem_map.mp ha) ?_ | refine el_1_2 (List.mem_map.mp ha) ?_ | refine el_2_1 (List.mem_map.mp ha) ?_); intro a ha2 zq9; subst zq9) | obtain ⟨a, ha2, rfl⟩ := List.mem_map.mp ha
      first | ((first | refine el_0_3 (List.mem_map.mp hc') ?_ | refine el_1_2 (List.mem_map.mp hc') ?_ | refine el_2_1 (List.mem_map.mp hc') ?_); intro c hc2 zq10; subst zq10) | obtain ⟨c, hc2, rfl⟩ := List.mem_map.mp hc'
      first | ((first | refine el_0_3 (List.mem_map.mp hb) ?_ | refine el_1_2 (List.mem_map.mp hb) ?_ | refine el_2_1 (List.mem_map.mp hb) ?_); intro b hb2 zq11; subst zq11) | obtain ⟨b, hb2, rfl⟩ := List.mem_map.mp hb
      first | ((first | refine el_0_3 (List.mem_map.mp hd') ?_ | refine el_1_2 (List.mem_map.mp hd') ?_ | refine el_2_1 (List.mem_map.mp hd') ?_); intro d hd2 zq12; subst zq12) | obtain ⟨d, hd2, rfl⟩ := List.mem_map.mp hd'
      rw [val ha2 hc2 hb2 hd2, ← two]
      refine lin_le hw S 0 (allGo_of S 0 fun j e he => decide_eq_true ?_)
      first | ((first | refine el_0_2 (hcon ha2 hc2 (by omega) hb2 hd2 e he) ?_ | refine el_1_1 (hcon ha2 hc2 (by omega) hb2 hd2 e he) ?_); intro c1 c2) | obtain ⟨c1, c2⟩ := hcon ha2 hc2 (by omega) hb2 hd2 e he
      rw [eown e he]
      cases ho : ownN k e with
      | true =>
        rw [c1 ho]
        decide
      | false => exact c2 ho
-- what the page's nodes are
noncomputable def InQ (P : PN) : Prop := 1 ≤ P.size ∧ P.size ≤ 5 ∧ 0 ≤ P.start ∧ P.start + P.size ≤ 5 ∧ (∀ c ∈ P.lead, c = 32 ∨ c = 9) ∧ (P.lead.length : Int) ≤ 9 * (5 - P.size)
theorem run_signs (rn p : Int) : ∀ c ∈ runOf rn p, c = 32 ∨ c = 9 := by
  intro c hc
  unfold runOf at hc
  rcases List.mem_append.mp hc with hc | hc
  · rcases List.mem_append.mp hc with hc | hc
    · exact .inl (List.eq_of_mem_replicate hc)
    · exact .inr (List.mem_singleton.mp hc)
  · exact .inl (List.eq_of_mem_replicate hc)
theorem kids_out (base : Int) (lead : List Nat) (hl : ∀ c ∈ lead, c = 32 ∨ c = 9) : ∀ (ps : List Int) (st r : Int), ∀ x ∈ kidsGo base lead ps st r, (∀ c ∈ x.lead, c = 32 ∨ c = 9) ∧ x.number = maskOf base x.start x.size
  | [], _, _, x, hx => by cases hx
  | p :: ps, st, r, x, hx => by
    rw [kidsGo] at hx
    rcases List.mem_cons.mp hx with rfl | hx
    · refine ⟨fun c hc => ?_, rfl⟩
      rcases List.mem_append.mp hc with hc | hc
      · exact hl c hc
      · exact run_signs r p c hc
    · exact kids_out base lead hl ps _ _ x hx
theorem grow_out (base : Int) : ∀ (f : Nat) (q : List PN) (cuts runs : Int), 0 ≤ cuts → (∀ P ∈ q, InQ P) → ∀ x ∈ grow base f q cuts runs, InQ x ∧ x.size ≤ 4 ∧ x.number = maskOf base x.start x.size
  | 0, _, _, _, _, _, x, hx => by cases hx
  | f + 1, [], _, _, _, _, x, hx => by cases hx
  | f + 1, P :: q, cuts, runs, hc, hq, x, hx => by
    first | ((first | refine el_0_6 (hq P (.head _)) ?_ | refine el_1_5 (hq P (.head _)) ?_ | refine el_2_4 (hq P (.head _)) ?_ | refine el_3_3 (hq P (.head _)) ?_ | refine el_4_2 (hq P (.head _)) ?_ | refine el_5_1 (hq P (.head _)) ?_); intro p1 p2 p3 p4 p5 p6) | obtain ⟨p1, p2, p3, p4, p5, p6⟩ := hq P (.head _)
    have hq' : ∀ P ∈ q, InQ P := fun Q hQ => hq Q (.tail _ hQ)
    rw [grow] at hx
    by_cases hs : 1 < P.size
    · rw [if_pos hs] at hx
      first | ((first | refine el_0_3 (parts_facts (n := P.size) (x := cuts) (by omega) p2 hc) ?_ | refine el_1_2 (parts_facts (n := P.size) (x := cuts) (by omega) p2 hc) ?_ | refine el_2_1 (parts_facts (n := P.size) (x := cuts) (by omega) p2 hc) ?_); intro f1 f2 f3) | obtain ⟨f1, f2, f3⟩ := parts_facts (n := P.size) (x := cuts) (by omega) p2 hc
      have hk : ∀ y ∈ kidsGo base P.lead (partsOf P.size cuts) P.start runs, InQ y ∧ y.size ≤ 4 ∧ y.number = maskOf base y.start y.size := fun y hy => by
        first | ((first | refine el_0_4 (kids_sz base P.lead (partsOf P.size cuts) P.start runs (fun q hq => (f1 q hq).1) y hy) ?_ | refine el_1_3 (kids_sz base P.lead (partsOf P.size cuts) P.start runs (fun q hq => (f1 q hq).1) y hy) ?_ | refine el_2_2 (kids_sz base P.lead (partsOf P.size cuts) P.start runs (fun q hq => (f1 q hq).1) y hy) ?_ | refine el_3_1 (kids_sz base P.lead (partsOf P.size cuts) P.start runs (fun q hq => (f1 q hq).1) y hy) ?_); intro s1 s2 s3 s4) | obtain ⟨s1, s2, s3, s4⟩ := kids_sz base P.lead (partsOf P.size cuts) P.start runs (fun q hq => (f1 q hq).1) y hy
        first | ((first | refine el_0_2 (kids_out base P.lead p5 _ _ _ y hy) ?_ | refine el_1_1 (kids_out base P.lead p5 _ _ _ y hy) ?_); intro t1 t2) | obtain ⟨t1, t2⟩ := kids_out base P.lead p5 _ _ _ y hy
        have := f1 _ s1
        exact ⟨⟨by omega, by omega, by omega, by omega, t1, by omega⟩, by omega, t2⟩
      rcases List.mem_append.mp hx with hx | hx
      · exact hk x hx
      · exact grow_out base f _ _ _ (fdiv_nonneg' hc (by omega)) (fun Q hQ => by
          rcases List.mem_append.mp hQ with h | h
          · exact hq' Q h
          · exact (hk Q h).1) x hx
    · rw [if_neg hs] at hx
      exact grow_out base f q cuts runs hc hq' x hx
theorem mask_shift {bs : Int} (h0 : 0 ≤ bs) {st sz : Nat} : (maskOf bs (st : Int) (sz : Int)).fdiv (2 ^ bs.toNat) = ((2 ^ sz - 1 : Int)) * 2 ^ st := by
  unfold maskOf
  rw [Int.toNat_natCast, show (bs + (st : Int)).toNat = st + bs.toNat by omega, Int.pow_add, ← Int.mul_assoc, Int.fdiv_eq_ediv_of_nonneg _ (Int.le_of_lt (kbt_pos bs.toNat))]
  exact Int.mul_ediv_cancel _ (Int.ne_of_gt (kbt_pos bs.toNat))
theorem idx_shape {tab bs : Int} (h0 : 0 ≤ bs) {w : Nat → Int} : ∀ {G : List PN} {S : List SN} {k : Nat}, G.map (proj tab) = S.map (projS w) → (∀ x ∈ G, x.number = maskOf bs x.start x.size) → (∀ (j : Nat) (x : PN), G[j]? = some x → w (k + j) = colsTo tab x.run) →
    G.map (fun (x : PN) => (x.number.fdiv (2 ^ bs.toNat), colsTo tab x.run)) = idxMap w k S ∧ G.map (fun (x : PN) => (x.number.fdiv (2 ^ bs.toNat), colsTo tab x.lead)) = S.map (fun e => (maskI e, colOf w e))
  | [], [], _, _, _, _ => ⟨rfl, rfl⟩
  | [], _ :: _, _, h, _, _ => by simp at h
  | _ :: _, [], _, h, _, _ => by simp at h
  | x :: G, e :: S, k, h, hn, hw => by
    rw [List.map_cons, List.map_cons] at h
    first | ((first | refine el_0_2 (List.cons_eq_cons.mp h) ?_ | refine el_1_1 (List.cons_eq_cons.mp h) ?_); intro h1 h2) | obtain ⟨h1, h2⟩ := List.cons_eq_cons.mp h
    unfold proj projS at h1
    injection h1 with e1 h1
    injection h1 with e2 e3
    obtain ⟨i1, i2⟩ := idx_shape (k := k + 1) h0 h2 (fun y hy => hn y (.tail _ hy)) fun j y hy => by
      rw [show k + 1 + j = k + (j + 1) by omega]
      exact hw (j + 1) y hy
    have em : x.number.fdiv (2 ^ bs.toNat) = maskI e := by
      rw [hn x (.head _), e1, e2, mask_shift h0]
      rfl
    have hw0 : w k = colsTo tab x.run := hw 0 x rfl
    rw [List.map_cons, List.map_cons, List.map_cons, idxMap, i1, i2, em, e3, hw0]
    exact ⟨rfl, rfl⟩
theorem plaw : PLaw := by
  intro nodes P0 rest0 bs cuts runs c r tab PP hn b0 b1 c0 r0 t1 t2
  first | ((first | refine el_0_3 (PP.full) ?_ | refine el_1_2 (PP.full) ?_ | refine el_2_1 (PP.full) ?_); intro f hf hfull) | obtain ⟨f, hf, hfull⟩ := PP.full
  rw [List.append_nil, hn, List.map_cons] at hfull
  have hg0 : ∀ f c r, grow bs f [] c r = [] := fun f c r => by cases f <;> rfl
  rw [show ([] : List Nd).map Nd.pn = [] from rfl, hg0, List.append_nil] at hfull
  first | ((first | refine el_0_2 (List.cons_eq_cons.mp hfull) ?_ | refine el_1_1 (List.cons_eq_cons.mp hfull) ?_); intro hP0 hG) | obtain ⟨hP0, hG⟩ := List.cons_eq_cons.mp hfull
  have hroot : InQ rootPN := ⟨by decide, by decide, by decide, by decide, (fun c h => nomatch h), by decide⟩
  have hout := grow_out bs 20 [rootPN] cuts runs c0 (fun P hP => by rw [List.mem_singleton.mp hP]; exact hroot)
  generalize hGG : grow bs 20 [rootPN] cuts runs = G at *
  first | ((first | refine el_0_2 (show ∃ w : Nat → Int, w = fun k => colsTo tab ((G[k]?.map PN.run).getD []) from ⟨_, rfl⟩) ?_ | refine el_1_1 (show ∃ w : Nat → Int, w = fun k => colsTo tab ((G[k]?.map PN.run).getD []) from ⟨_, rfl⟩) ?_); intro w hwd0) | obtain ⟨w, hwd0⟩ : ∃ w : Nat → Int, w = fun k => colsTo tab ((G[k]?.map PN.run).getD []) := ⟨_, rfl⟩
  have hw0 : ∀ k, 0 ≤ w k := fun k => by rw [hwd0]; exact (cols_nonneg t1 t2 _).1
  have hw : ∀ (k : Nat) (x : PN), G[k]? = some x → w k = colsTo tab x.run := fun k x hx => by
    rw [hwd0]
    show colsTo tab ((G[k]?.map PN.run).getD []) = _
    rw [hx]
    rfl
  clear hwd0
  obtain ⟨S, hS, eS⟩ := grow_shape t1 bs G w hw 20 [rootPN] [⟨0, 5, []⟩] cuts runs [] c0 r0 rfl (fun s hs => by rw [List.mem_singleton.mp hs]; exact Nat.le_refl 5) (fun P hP _ => by rw [List.mem_singleton.mp hP]; exact Int.zero_emod _) hGG.symm
  rw [hGG] at eS
  have hchk := List.all_eq_true.mp all_ok S hS
  have hlen : G.length = S.length := by
    have q := congrArg List.length eS
    rw [List.length_map, List.length_map] at q
    exact q
  have hl2 : rest0.length = S.length := by
    have q := congrArg List.length hG
    rw [List.length_map] at q
    omega
  have hlS : 1 ≤ S.length ∧ S.length ≤ 20 := by
    have q := hchk
    unfold chkAll at q
    simp only [Bool.and_eq_true] at q
    exact ⟨Nat.le_of_ble_eq_true q.1.1.2.1, Nat.le_of_ble_eq_true q.1.1.2.2⟩
  refine ⟨⟨congrArg PN.lead hP0, by omega, by omega⟩, fun x hx => ?_, fun wds cols hwd hcl => ?_⟩
  · have hxG : x.pn ∈ G := by rw [← hG]; exact List.mem_map_of_mem hx
    first | ((first | refine el_0_3 (hout x.pn hxG) ?_ | refine el_1_2 (hout x.pn hxG) ?_ | refine el_2_1 (hout x.pn hxG) ?_); intro zq13 p7 p8; (first | refine el_0_6 (zq13) ?_ | refine el_1_5 (zq13) ?_ | refine el_2_4 (zq13) ?_ | refine el_3_3 (zq13) ?_ | refine el_4_2 (zq13) ?_ | refine el_5_1 (zq13) ?_); (try clear zq13); intro p1 p2 p3 p4 p5 p6) | obtain ⟨⟨p1, p2, p3, p4, p5, p6⟩, p7, p8⟩ := hout x.pn hxG
    have hm := mask_bounds (bs := bs) p1 p7 p3 p4 b0 b1
    have hn9 : x.number = maskOf bs x.start x.size := p8
    have hll : (x.lead.length : Int) ≤ 9 * (5 - x.size) := p6
    have hp1 : 1 ≤ x.size := p1
    have hcn := cols_nonneg t1 t2 x.lead
    rw [hn9, indent_cols t1]
    have hbig : (2 : Int) ^ 40 = 1099511627776 := by decide
    exact ⟨hm, ⟨p5, by omega⟩, hcn.1, by omega⟩
  · have hnum : ∀ x ∈ G, x.number = maskOf bs x.start x.size := fun x hx => (hout x hx).2.2
    obtain ⟨i1, i2⟩ := idx_shape (k := 0) b0 eS hnum fun j x hx => by
      rw [Nat.zero_add]
      exact hw j x hx
    have e1 : wds.map colP = idxMap w 0 S := by
      rw [hwd, ← i1, ← hG, List.map_map]
      rfl
    have e2 : cols.map colP = S.map (fun e => (maskI e, colOf w e)) := by
      rw [hcl, ← i2, ← hG, List.map_map]
      exact List.map_congr_left fun x _ => by
        show (x.number.fdiv _, indentOf tab (wsOf x.lead)) = (x.number.fdiv _, colsTo tab x.lead)
        rw [indent_cols t1]
    intro k hk M hM hmin hne
    exact split_law hw0 hchk e2 e1 k hk M hM hmin hne

end
end
theorem top_holds : PySem.Challenge.rw_xb0026_01.Holds := top_of plaw
end Mine
theorem PySem.Challenge.cw_xb0026_01_holds : PySem.Challenge.rw_xb0026_01.Holds :=
  Mine.top_holds
