import PyProof.Rows.All
import Wide.All
import OpenK.AllK
import Wide.FinOn
import Lean
import PySem.Challenge.RW_rl0126_01
set_option Elab.async false
set_option maxRecDepth 100000
set_option linter.unusedVariables false
set_option pp.deepTerms false
namespace Mine
theorem lT : type_of% @Nat.le_trans:=@Nat.le_trans
theorem lmc {α} {a b : α} {l : List α} (h : a ∈ b :: l) : a = b \/ a ∈ l:=List.mem_cons.mp h
theorem lmm {α β} {f : α -> β} {l : List α} {b : β} (h : b ∈ l.map f) : ∃ a, a ∈ l /\ f a = b:=List.mem_map.mp h
theorem lms {α} {a b : α} (h : a ∈ [b]) : a = b:=List.mem_singleton.mp h
theorem lA : type_of% @List.length_append:=@List.length_append
theorem lS : type_of% @List.length_singleton:=@List.length_singleton
theorem apN : type_of% @List.append_nil:=@List.append_nil
theorem apA : type_of% @List.append_assoc:=@List.append_assoc
theorem lC : type_of% @List.length_cons:=@List.length_cons
theorem mpC : type_of% @List.map_cons:=@List.map_cons
theorem gE : type_of% @List.getElem?_eq_getElem:=@List.getElem?_eq_getElem
theorem gL : type_of% @List.getLast?_eq_some_getLast:=@List.getLast?_eq_some_getLast
theorem lO : type_of% @Nat.le_of_lt:=@Nat.le_of_lt
theorem lAl : type_of% @List.mem_append_left:=@List.mem_append_left
theorem fC : type_of% @List.flatMap_cons:=@List.flatMap_cons
theorem lTk : type_of% @List.length_take:=@List.length_take
theorem lDr : type_of% @List.length_drop:=@List.length_drop
theorem lLt : type_of% @Nat.lt_of_lt_of_le:=@Nat.lt_of_lt_of_le
theorem lLe : type_of% @Nat.lt_of_le_of_lt:=@Nat.lt_of_le_of_lt
theorem fCo : type_of% @List.flatten_cons:=@List.flatten_cons
theorem lMa : type_of% @List.length_map:=@List.length_map
theorem neg1 (n : Nat) : ((-1 : Int) + (n : Int)).toNat = n - 1:=by
 cases n with
 | zero=>rfl
 | succ k=>exact congrArg Int.toNat (show (-1 : Int) + ((k + 1 : Nat) : Int) = (k : Int) by omega)
theorem i64 {n : Nat} (h : n <= 1000000) : -2 ^ 63 <= (n : Int) /\ (n : Int) < 2 ^ 63:=⟨Int.le_trans (by decide) (Int.natCast_nonneg _), Int.lt_of_le_of_lt (Int.ofNat_le.mpr h) (by decide)⟩
theorem lo_e (n : Nat) (i : Int) : max 0 (min (if i < 0 then i + n else i) (n : Int)) = (((if i < 0 then (i + n).toNat else min i.toNat n) : Nat) : Int):=by
 split
 ·next h=>rw [Int.toNat_eq_max, Int.min_eq_left (by omega), Int.max_comm]
 ·next h =>
  obtain ⟨k, rfl⟩:=Int.eq_ofNat_of_zero_le (Int.not_lt.mp h)
  rw [Int.toNat_natCast]
  rcases Nat.le_total k n with q | q
  ·rw [Int.min_eq_left (Int.ofNat_le.mpr q), Nat.min_eq_left q]; exact Int.max_eq_right (Int.natCast_nonneg _)
  ·rw [Int.min_eq_right (Int.ofNat_le.mpr q), Nat.min_eq_right q]; exact Int.max_eq_right (Int.natCast_nonneg _)
theorem hi_e (n : Nat) (i : Int) : (if i < 0 then (i + n).toNat else min i.toNat n) <= n:=by
 split
 ·next h=>exact Int.toNat_le.mpr (by omega)
 ·exact Nat.min_le_right _ _
section
universe u0 u1 u2 u3 u4 u5 u6 u7
variable {G : Prop} {α0 : Sort u0} {α1 : Sort u1} {α2 : Sort u2} {α3 : Sort u3} {α4 : Sort u4} {α5 : Sort u5} {α6 : Sort u6} {α7 : Sort u7} {A1 A2 A3 A4 A5 A6 A7 A8 : Prop} {B1 B2 B3 B4 B5 B6 : α0 -> Prop} {C1 C2 C3 C4 C5 C6 C7 C8 C9 : α0 -> α1 -> Prop} {D1 D2 D3 D4 D5 D6 D7 : α0 -> α1 -> α2 -> Prop} {E1 E2 E3 E4 E5 E6 E7 E8 E9 E10 E11 : α0 -> α1 -> α2 -> α3 -> Prop} {F1 F2 F3 F4 F5 : α0 -> α1 -> α2 -> α3 -> α4 -> Prop} {G1 G2 G3 G4 G5 G6 : α0 -> α1 -> α2 -> α3 -> α4 -> α5 -> Prop} {H1 H2 H3 H4 : α0 -> α1 -> α2 -> α3 -> α4 -> α5 -> α6 -> Prop} {I1 I2 I3 I4 I5 I6 : α0 -> α1 -> α2 -> α3 -> α4 -> α5 -> α6 -> α7 -> Prop}
theorem xa (e : A1 /\ A2) (k : A1 -> A2 -> G) : G:=k e.1 e.2
theorem xa2 (e : A1 /\ A2 /\ A3) (k : A1 -> A2 -> A3 -> G) : G:=k e.1 e.2.1 e.2.2
theorem xa3 (e : A1 /\ A2 /\ A3 /\ A4) (k : A1 -> A2 -> A3 -> A4 -> G) : G:=k e.1 e.2.1 e.2.2.1 e.2.2.2
theorem xa4 (e : A1 /\ A2 /\ A3 /\ A4 /\ A5) (k : A1 -> A2 -> A3 -> A4 -> A5 -> G) : G:=k e.1 e.2.1 e.2.2.1 e.2.2.2.1 e.2.2.2.2
theorem xa5 (e : A1 /\ A2 /\ A3 /\ A4 /\ A5 /\ A6) (k : A1 -> A2 -> A3 -> A4 -> A5 -> A6 -> G) : G:=k e.1 e.2.1 e.2.2.1 e.2.2.2.1 e.2.2.2.2.1 e.2.2.2.2.2
theorem xa6 (e : A1 /\ A2 /\ A3 /\ A4 /\ A5 /\ A6 /\ A7) (k : A1 -> A2 -> A3 -> A4 -> A5 -> A6 -> A7 -> G) : G:=k e.1 e.2.1 e.2.2.1 e.2.2.2.1 e.2.2.2.2.1 e.2.2.2.2.2.1 e.2.2.2.2.2.2
theorem xa7 (e : A1 /\ A2 /\ A3 /\ A4 /\ A5 /\ A6 /\ A7 /\ A8) (k : A1 -> A2 -> A3 -> A4 -> A5 -> A6 -> A7 -> A8 -> G) : G:=k e.1 e.2.1 e.2.2.1 e.2.2.2.1 e.2.2.2.2.1 e.2.2.2.2.2.1 e.2.2.2.2.2.2.1 e.2.2.2.2.2.2.2
theorem xa4e4a2 (e : A1 /\ A2 /\ A3 /\ A4 /\ (∃ x0 x1 x2 x3, E1 x0 x1 x2 x3 /\ E2 x0 x1 x2 x3 /\ E3 x0 x1 x2 x3)) (k : A1 -> A2 -> A3 -> A4 -> ∀ x0 x1 x2 x3, E1 x0 x1 x2 x3 -> E2 x0 x1 x2 x3 -> E3 x0 x1 x2 x3 -> G) : G:=e.2.2.2.2.elim fun x0 e0=>e0.elim fun x1 e1=>e1.elim fun x2 e2=>e2.elim fun x3 e3=>k e.1 e.2.1 e.2.2.1 e.2.2.2.1 x0 x1 x2 x3 e3.1 e3.2.1 e3.2.2
theorem xa2ea4 (e : A1 /\ A2 /\ (∃ x0, B1 x0 /\ B2 x0 /\ B3 x0 /\ B4 x0 /\ B5 x0)) (k : A1 -> A2 -> ∀ x0, B1 x0 -> B2 x0 -> B3 x0 -> B4 x0 -> B5 x0 -> G) : G:=e.2.2.elim fun x0 e0=>k e.1 e.2.1 x0 e0.1 e0.2.1 e0.2.2.1 e0.2.2.2.1 e0.2.2.2.2
theorem xa2e2a (e : A1 /\ A2 /\ (∃ x0 x1, C1 x0 x1 /\ C2 x0 x1)) (k : A1 -> A2 -> ∀ x0 x1, C1 x0 x1 -> C2 x0 x1 -> G) : G:=e.2.2.elim fun x0 e0=>e0.elim fun x1 e1=>k e.1 e.2.1 x0 x1 e1.1 e1.2
theorem xa2e2a2 (e : A1 /\ A2 /\ (∃ x0 x1, C1 x0 x1 /\ C2 x0 x1 /\ C3 x0 x1)) (k : A1 -> A2 -> ∀ x0 x1, C1 x0 x1 -> C2 x0 x1 -> C3 x0 x1 -> G) : G:=e.2.2.elim fun x0 e0=>e0.elim fun x1 e1=>k e.1 e.2.1 x0 x1 e1.1 e1.2.1 e1.2.2
theorem xa2e3a (e : A1 /\ A2 /\ (∃ x0 x1 x2, D1 x0 x1 x2 /\ D2 x0 x1 x2)) (k : A1 -> A2 -> ∀ x0 x1 x2, D1 x0 x1 x2 -> D2 x0 x1 x2 -> G) : G:=e.2.2.elim fun x0 e0=>e0.elim fun x1 e1=>e1.elim fun x2 e2=>k e.1 e.2.1 x0 x1 x2 e2.1 e2.2
theorem xa2e3a2 (e : A1 /\ A2 /\ (∃ x0 x1 x2, D1 x0 x1 x2 /\ D2 x0 x1 x2 /\ D3 x0 x1 x2)) (k : A1 -> A2 -> ∀ x0 x1 x2, D1 x0 x1 x2 -> D2 x0 x1 x2 -> D3 x0 x1 x2 -> G) : G:=e.2.2.elim fun x0 e0=>e0.elim fun x1 e1=>e1.elim fun x2 e2=>k e.1 e.2.1 x0 x1 x2 e2.1 e2.2.1 e2.2.2
theorem xa2e3a5 (e : A1 /\ A2 /\ (∃ x0 x1 x2, D1 x0 x1 x2 /\ D2 x0 x1 x2 /\ D3 x0 x1 x2 /\ D4 x0 x1 x2 /\ D5 x0 x1 x2 /\ D6 x0 x1 x2)) (k : A1 -> A2 -> ∀ x0 x1 x2, D1 x0 x1 x2 -> D2 x0 x1 x2 -> D3 x0 x1 x2 -> D4 x0 x1 x2 -> D5 x0 x1 x2 -> D6 x0 x1 x2 -> G) : G:=e.2.2.elim fun x0 e0=>e0.elim fun x1 e1=>e1.elim fun x2 e2=>k e.1 e.2.1 x0 x1 x2 e2.1 e2.2.1 e2.2.2.1 e2.2.2.2.1 e2.2.2.2.2.1 e2.2.2.2.2.2
theorem xa2e3a6 (e : A1 /\ A2 /\ (∃ x0 x1 x2, D1 x0 x1 x2 /\ D2 x0 x1 x2 /\ D3 x0 x1 x2 /\ D4 x0 x1 x2 /\ D5 x0 x1 x2 /\ D6 x0 x1 x2 /\ D7 x0 x1 x2)) (k : A1 -> A2 -> ∀ x0 x1 x2, D1 x0 x1 x2 -> D2 x0 x1 x2 -> D3 x0 x1 x2 -> D4 x0 x1 x2 -> D5 x0 x1 x2 -> D6 x0 x1 x2 -> D7 x0 x1 x2 -> G) : G:=e.2.2.elim fun x0 e0=>e0.elim fun x1 e1=>e1.elim fun x2 e2=>k e.1 e.2.1 x0 x1 x2 e2.1 e2.2.1 e2.2.2.1 e2.2.2.2.1 e2.2.2.2.2.1 e2.2.2.2.2.2.1 e2.2.2.2.2.2.2
theorem xae (e : A1 /\ (∃ x0, B1 x0)) (k : A1 -> ∀ x0, B1 x0 -> G) : G:=e.2.elim fun x0 e0=>k e.1 x0 e0
theorem xae2 (e : A1 /\ (∃ x0 x1, C1 x0 x1)) (k : A1 -> ∀ x0 x1, C1 x0 x1 -> G) : G:=e.2.elim fun x0 e0=>e0.elim fun x1 e1=>k e.1 x0 x1 e1
theorem xae2a3 (e : A1 /\ (∃ x0 x1, C1 x0 x1 /\ C2 x0 x1 /\ C3 x0 x1 /\ C4 x0 x1)) (k : A1 -> ∀ x0 x1, C1 x0 x1 -> C2 x0 x1 -> C3 x0 x1 -> C4 x0 x1 -> G) : G:=e.2.elim fun x0 e0=>e0.elim fun x1 e1=>k e.1 x0 x1 e1.1 e1.2.1 e1.2.2.1 e1.2.2.2
theorem xe (e : ∃ x0, B1 x0) (k : ∀ x0, B1 x0 -> G) : G:=e.elim fun x0 e0=>k x0 e0
theorem xea (e : ∃ x0, B1 x0 /\ B2 x0) (k : ∀ x0, B1 x0 -> B2 x0 -> G) : G:=e.elim fun x0 e0=>k x0 e0.1 e0.2
theorem xea2 (e : ∃ x0, B1 x0 /\ B2 x0 /\ B3 x0) (k : ∀ x0, B1 x0 -> B2 x0 -> B3 x0 -> G) : G:=e.elim fun x0 e0=>k x0 e0.1 e0.2.1 e0.2.2
theorem xea3 (e : ∃ x0, B1 x0 /\ B2 x0 /\ B3 x0 /\ B4 x0) (k : ∀ x0, B1 x0 -> B2 x0 -> B3 x0 -> B4 x0 -> G) : G:=e.elim fun x0 e0=>k x0 e0.1 e0.2.1 e0.2.2.1 e0.2.2.2
theorem xea4 (e : ∃ x0, B1 x0 /\ B2 x0 /\ B3 x0 /\ B4 x0 /\ B5 x0) (k : ∀ x0, B1 x0 -> B2 x0 -> B3 x0 -> B4 x0 -> B5 x0 -> G) : G:=e.elim fun x0 e0=>k x0 e0.1 e0.2.1 e0.2.2.1 e0.2.2.2.1 e0.2.2.2.2
theorem xea5 (e : ∃ x0, B1 x0 /\ B2 x0 /\ B3 x0 /\ B4 x0 /\ B5 x0 /\ B6 x0) (k : ∀ x0, B1 x0 -> B2 x0 -> B3 x0 -> B4 x0 -> B5 x0 -> B6 x0 -> G) : G:=e.elim fun x0 e0=>k x0 e0.1 e0.2.1 e0.2.2.1 e0.2.2.2.1 e0.2.2.2.2.1 e0.2.2.2.2.2
theorem xeae (e : ∃ x0, B1 x0 /\ (∃ x1, C1 x0 x1)) (k : ∀ x0, B1 x0 -> ∀ x1, C1 x0 x1 -> G) : G:=e.elim fun x0 e0=>e0.2.elim fun x1 e1=>k x0 e0.1 x1 e1
theorem xe2 (e : ∃ x0 x1, C1 x0 x1) (k : ∀ x0 x1, C1 x0 x1 -> G) : G:=e.elim fun x0 e0=>e0.elim fun x1 e1=>k x0 x1 e1
theorem xe2a (e : ∃ x0 x1, C1 x0 x1 /\ C2 x0 x1) (k : ∀ x0 x1, C1 x0 x1 -> C2 x0 x1 -> G) : G:=e.elim fun x0 e0=>e0.elim fun x1 e1=>k x0 x1 e1.1 e1.2
theorem xe2a2 (e : ∃ x0 x1, C1 x0 x1 /\ C2 x0 x1 /\ C3 x0 x1) (k : ∀ x0 x1, C1 x0 x1 -> C2 x0 x1 -> C3 x0 x1 -> G) : G:=e.elim fun x0 e0=>e0.elim fun x1 e1=>k x0 x1 e1.1 e1.2.1 e1.2.2
theorem xe2a8 (e : ∃ x0 x1, C1 x0 x1 /\ C2 x0 x1 /\ C3 x0 x1 /\ C4 x0 x1 /\ C5 x0 x1 /\ C6 x0 x1 /\ C7 x0 x1 /\ C8 x0 x1 /\ C9 x0 x1) (k : ∀ x0 x1, C1 x0 x1 -> C2 x0 x1 -> C3 x0 x1 -> C4 x0 x1 -> C5 x0 x1 -> C6 x0 x1 -> C7 x0 x1 -> C8 x0 x1 -> C9 x0 x1 -> G) : G:=e.elim fun x0 e0=>e0.elim fun x1 e1=>k x0 x1 e1.1 e1.2.1 e1.2.2.1 e1.2.2.2.1 e1.2.2.2.2.1 e1.2.2.2.2.2.1 e1.2.2.2.2.2.2.1 e1.2.2.2.2.2.2.2.1 e1.2.2.2.2.2.2.2.2
theorem xe3a3 (e : ∃ x0 x1 x2, D1 x0 x1 x2 /\ D2 x0 x1 x2 /\ D3 x0 x1 x2 /\ D4 x0 x1 x2) (k : ∀ x0 x1 x2, D1 x0 x1 x2 -> D2 x0 x1 x2 -> D3 x0 x1 x2 -> D4 x0 x1 x2 -> G) : G:=e.elim fun x0 e0=>e0.elim fun x1 e1=>e1.elim fun x2 e2=>k x0 x1 x2 e2.1 e2.2.1 e2.2.2.1 e2.2.2.2
theorem xe3a6 (e : ∃ x0 x1 x2, D1 x0 x1 x2 /\ D2 x0 x1 x2 /\ D3 x0 x1 x2 /\ D4 x0 x1 x2 /\ D5 x0 x1 x2 /\ D6 x0 x1 x2 /\ D7 x0 x1 x2) (k : ∀ x0 x1 x2, D1 x0 x1 x2 -> D2 x0 x1 x2 -> D3 x0 x1 x2 -> D4 x0 x1 x2 -> D5 x0 x1 x2 -> D6 x0 x1 x2 -> D7 x0 x1 x2 -> G) : G:=e.elim fun x0 e0=>e0.elim fun x1 e1=>e1.elim fun x2 e2=>k x0 x1 x2 e2.1 e2.2.1 e2.2.2.1 e2.2.2.2.1 e2.2.2.2.2.1 e2.2.2.2.2.2.1 e2.2.2.2.2.2.2
theorem xe4a10 (e : ∃ x0 x1 x2 x3, E1 x0 x1 x2 x3 /\ E2 x0 x1 x2 x3 /\ E3 x0 x1 x2 x3 /\ E4 x0 x1 x2 x3 /\ E5 x0 x1 x2 x3 /\ E6 x0 x1 x2 x3 /\ E7 x0 x1 x2 x3 /\ E8 x0 x1 x2 x3 /\ E9 x0 x1 x2 x3 /\ E10 x0 x1 x2 x3 /\ E11 x0 x1 x2 x3) (k : ∀ x0 x1 x2 x3, E1 x0 x1 x2 x3 -> E2 x0 x1 x2 x3 -> E3 x0 x1 x2 x3 -> E4 x0 x1 x2 x3 -> E5 x0 x1 x2 x3 -> E6 x0 x1 x2 x3 -> E7 x0 x1 x2 x3 -> E8 x0 x1 x2 x3 -> E9 x0 x1 x2 x3 -> E10 x0 x1 x2 x3 -> E11 x0 x1 x2 x3 -> G) : G:=e.elim fun x0 e0=>e0.elim fun x1 e1=>e1.elim fun x2 e2=>e2.elim fun x3 e3=>k x0 x1 x2 x3 e3.1 e3.2.1 e3.2.2.1 e3.2.2.2.1 e3.2.2.2.2.1 e3.2.2.2.2.2.1 e3.2.2.2.2.2.2.1 e3.2.2.2.2.2.2.2.1 e3.2.2.2.2.2.2.2.2.1 e3.2.2.2.2.2.2.2.2.2.1 e3.2.2.2.2.2.2.2.2.2.2
theorem xe5a4 (e : ∃ x0 x1 x2 x3 x4, F1 x0 x1 x2 x3 x4 /\ F2 x0 x1 x2 x3 x4 /\ F3 x0 x1 x2 x3 x4 /\ F4 x0 x1 x2 x3 x4 /\ F5 x0 x1 x2 x3 x4) (k : ∀ x0 x1 x2 x3 x4, F1 x0 x1 x2 x3 x4 -> F2 x0 x1 x2 x3 x4 -> F3 x0 x1 x2 x3 x4 -> F4 x0 x1 x2 x3 x4 -> F5 x0 x1 x2 x3 x4 -> G) : G:=e.elim fun x0 e0=>e0.elim fun x1 e1=>e1.elim fun x2 e2=>e2.elim fun x3 e3=>e3.elim fun x4 e4=>k x0 x1 x2 x3 x4 e4.1 e4.2.1 e4.2.2.1 e4.2.2.2.1 e4.2.2.2.2
theorem xe6a4 (e : ∃ x0 x1 x2 x3 x4 x5, G1 x0 x1 x2 x3 x4 x5 /\ G2 x0 x1 x2 x3 x4 x5 /\ G3 x0 x1 x2 x3 x4 x5 /\ G4 x0 x1 x2 x3 x4 x5 /\ G5 x0 x1 x2 x3 x4 x5) (k : ∀ x0 x1 x2 x3 x4 x5, G1 x0 x1 x2 x3 x4 x5 -> G2 x0 x1 x2 x3 x4 x5 -> G3 x0 x1 x2 x3 x4 x5 -> G4 x0 x1 x2 x3 x4 x5 -> G5 x0 x1 x2 x3 x4 x5 -> G) : G:=e.elim fun x0 e0=>e0.elim fun x1 e1=>e1.elim fun x2 e2=>e2.elim fun x3 e3=>e3.elim fun x4 e4=>e4.elim fun x5 e5=>k x0 x1 x2 x3 x4 x5 e5.1 e5.2.1 e5.2.2.1 e5.2.2.2.1 e5.2.2.2.2
theorem xe6a5 (e : ∃ x0 x1 x2 x3 x4 x5, G1 x0 x1 x2 x3 x4 x5 /\ G2 x0 x1 x2 x3 x4 x5 /\ G3 x0 x1 x2 x3 x4 x5 /\ G4 x0 x1 x2 x3 x4 x5 /\ G5 x0 x1 x2 x3 x4 x5 /\ G6 x0 x1 x2 x3 x4 x5) (k : ∀ x0 x1 x2 x3 x4 x5, G1 x0 x1 x2 x3 x4 x5 -> G2 x0 x1 x2 x3 x4 x5 -> G3 x0 x1 x2 x3 x4 x5 -> G4 x0 x1 x2 x3 x4 x5 -> G5 x0 x1 x2 x3 x4 x5 -> G6 x0 x1 x2 x3 x4 x5 -> G) : G:=e.elim fun x0 e0=>e0.elim fun x1 e1=>e1.elim fun x2 e2=>e2.elim fun x3 e3=>e3.elim fun x4 e4=>e4.elim fun x5 e5=>k x0 x1 x2 x3 x4 x5 e5.1 e5.2.1 e5.2.2.1 e5.2.2.2.1 e5.2.2.2.2.1 e5.2.2.2.2.2
theorem xe7a3 (e : ∃ x0 x1 x2 x3 x4 x5 x6, H1 x0 x1 x2 x3 x4 x5 x6 /\ H2 x0 x1 x2 x3 x4 x5 x6 /\ H3 x0 x1 x2 x3 x4 x5 x6 /\ H4 x0 x1 x2 x3 x4 x5 x6) (k : ∀ x0 x1 x2 x3 x4 x5 x6, H1 x0 x1 x2 x3 x4 x5 x6 -> H2 x0 x1 x2 x3 x4 x5 x6 -> H3 x0 x1 x2 x3 x4 x5 x6 -> H4 x0 x1 x2 x3 x4 x5 x6 -> G) : G:=e.elim fun x0 e0=>e0.elim fun x1 e1=>e1.elim fun x2 e2=>e2.elim fun x3 e3=>e3.elim fun x4 e4=>e4.elim fun x5 e5=>e5.elim fun x6 e6=>k x0 x1 x2 x3 x4 x5 x6 e6.1 e6.2.1 e6.2.2.1 e6.2.2.2
theorem xe8a4 (e : ∃ x0 x1 x2 x3 x4 x5 x6 x7, I1 x0 x1 x2 x3 x4 x5 x6 x7 /\ I2 x0 x1 x2 x3 x4 x5 x6 x7 /\ I3 x0 x1 x2 x3 x4 x5 x6 x7 /\ I4 x0 x1 x2 x3 x4 x5 x6 x7 /\ I5 x0 x1 x2 x3 x4 x5 x6 x7) (k : ∀ x0 x1 x2 x3 x4 x5 x6 x7, I1 x0 x1 x2 x3 x4 x5 x6 x7 -> I2 x0 x1 x2 x3 x4 x5 x6 x7 -> I3 x0 x1 x2 x3 x4 x5 x6 x7 -> I4 x0 x1 x2 x3 x4 x5 x6 x7 -> I5 x0 x1 x2 x3 x4 x5 x6 x7 -> G) : G:=e.elim fun x0 e0=>e0.elim fun x1 e1=>e1.elim fun x2 e2=>e2.elim fun x3 e3=>e3.elim fun x4 e4=>e4.elim fun x5 e5=>e5.elim fun x6 e6=>e6.elim fun x7 e7=>k x0 x1 x2 x3 x4 x5 x6 x7 e7.1 e7.2.1 e7.2.2.1 e7.2.2.2.1 e7.2.2.2.2
theorem xe8a5 (e : ∃ x0 x1 x2 x3 x4 x5 x6 x7, I1 x0 x1 x2 x3 x4 x5 x6 x7 /\ I2 x0 x1 x2 x3 x4 x5 x6 x7 /\ I3 x0 x1 x2 x3 x4 x5 x6 x7 /\ I4 x0 x1 x2 x3 x4 x5 x6 x7 /\ I5 x0 x1 x2 x3 x4 x5 x6 x7 /\ I6 x0 x1 x2 x3 x4 x5 x6 x7) (k : ∀ x0 x1 x2 x3 x4 x5 x6 x7, I1 x0 x1 x2 x3 x4 x5 x6 x7 -> I2 x0 x1 x2 x3 x4 x5 x6 x7 -> I3 x0 x1 x2 x3 x4 x5 x6 x7 -> I4 x0 x1 x2 x3 x4 x5 x6 x7 -> I5 x0 x1 x2 x3 x4 x5 x6 x7 -> I6 x0 x1 x2 x3 x4 x5 x6 x7 -> G) : G:=e.elim fun x0 e0=>e0.elim fun x1 e1=>e1.elim fun x2 e2=>e2.elim fun x3 e3=>e3.elim fun x4 e4=>e4.elim fun x5 e5=>e5.elim fun x6 e6=>e6.elim fun x7 e7=>k x0 x1 x2 x3 x4 x5 x6 x7 e7.1 e7.2.1 e7.2.2.1 e7.2.2.2.1 e7.2.2.2.2.1 e7.2.2.2.2.2
end
end Mine
namespace Mine
open PySem.Sre
noncomputable def wsC : Array Nat:=#[14, 4, 0, 1, 4294967295, 17, 0, 24, 11, 1, 4294967295, 13, 6, 16, 32, 16, 9, 0, 1, 17, 1, 1]
noncomputable def isW (c : Nat) : Bool:=c == 32 || c == 9
theorem acc_eq (c : Nat) (seen : Seen) : accepts wsC 11 c seen = if (c == 32) = true then .ok (true, seen.add 16) else if (c == 9) = true then .ok (true, (seen.add 16).add 16) else .ok (false, ((seen.add 16).add 16).add 0):=by kernel_rfl
theorem acc_ws (c : Nat) (seen : Seen) : ∃ s', accepts wsC 11 c seen = .ok (isW c, s'):=by
 rw [acc_eq]
 unfold isW
 cases c == 32 with
 | true=>exact ⟨_, rfl⟩
 | false=>cases c == 9 with
  | true=>exact ⟨_, rfl⟩
  | false=>exact ⟨_, rfl⟩
theorem run_ws (x : List Nat) : ∀ n p found seen, p + n <= x.length -> ∃ s', run wsC x.toArray 11 n p found seen = .ok (found + (((x.drop p).take n).takeWhile isW).length, s')
 | 0, p, found, seen, h=>⟨seen, by simp [PySem.Sre.run]⟩
 | n + 1, p, found, seen, h=>by
  have hp : p < x.length:=by lia
  obtain ⟨s1, e1⟩:=acc_ws (x.toArray.getD p 0) seen
  have eg : x.toArray.getD p 0 = x[p]:=by simp [hp]
  rw [List.drop_eq_getElem_cons hp, List.take_succ_cons]
  unfold run
  rw [e1, eg]
  show ∃ s', (if isW x[p] = true then run wsC x.toArray 11 n (p + 1) (found + 1) s1 else .ok (found, s1)) = _
  cases hw : isW x[p] with
  | false=>exact ⟨s1, by rw [List.takeWhile_cons_of_neg (by simp [hw])]; rfl⟩
  | true =>
   obtain ⟨s2, e2⟩:=run_ws x n (p + 1) (found + 1) s1 (by lia)
   refine ⟨s2, ?_⟩
   rw [if_pos rfl, e2, List.takeWhile_cons_of_pos hw, lC]
   congr 2; lia
noncomputable def mA (x : List Nat) (s : Nat) (f : Bool) (seen : Seen) (m0 m1 : Option Nat) : M :=
 { code:=wsC, text:=x.toArray, lim:=x.length, start:=s, lastStart:=x.length, pc:=5, pos:=s, handed:=s, outermost:=f, marks:=#[m0, m1], frames:=[{ wait:=.nextStart, pc:=5, pos:=s, outermost:=f }], weight:=1, seen:=seen }
noncomputable def mB (x : List Nat) (s : Nat) (f : Bool) (seen : Seen) (m1 : Option Nat) : M :=
 { code:=wsC, text:=x.toArray, lim:=x.length, start:=s, lastStart:=x.length, pc:=7, pos:=s, handed:=s, outermost:=f, marks:=#[some s, m1], lastmark:=0, frames:=[{ wait:=.nextStart, pc:=5, pos:=s, outermost:=f }], weight:=1, seen:=seen }
theorem step_A (x s f seen m0 m1) : (mA x s f seen m0 m1).step = mB x s f (seen.add 17) m1:=by kernel_rfl
theorem step_B (x : List Nat) (s f seen m1) : (mB x s f seen m1).step = (if (1 : Int) > (x.length : Int) - (s : Int) then ({ mB x s f (seen.add 24) m1 with } : M).say false else
  match run wsC x.toArray 11 (min 4294967295 ((x.length : Int) - (s : Int)).toNat) s 0 ((seen.add 24).add 13) with
  | .error why=>(mB x s f (seen.add 24) m1).stick why
  | .ok (n, sn)=>if n < 1 then (mB x s f sn m1).say false else ({ mB x s f sn m1 with pos:=s + n } : M).afterRun .giveBack n (({ mB x s f sn m1 with pos:=s + n } : M).keep false)):=by
 kernel_rfl
theorem say_false (x : List Nat) (s f seen m1) (h : s < x.length) : ((mB x s f seen m1).say false).step = mA x (s + 1) false seen (some s) m1:=by
 show (if s < x.length then _ else _) = _
 rw [if_pos h]
 kernel_rfl
theorem say_end (x : List Nat) (s f seen m1) (h : ¬ s < x.length) : ((mB x s f seen m1).say false).step.step.outcome = some .failed:=by
 have e : ((mB x s f seen m1).say false).step = { ((mB x s f seen m1).say false) with frames:=[], weight:=0, pc:=5 }:=by
  show (if s < x.length then _ else _) = _
  rw [if_neg h]
  kernel_rfl
 rw [e]; kernel_rfl
end Mine
namespace Mine
open PySem.Sre
noncomputable def mC (x : List Nat) (s n : Nat) (f : Bool) (seen : Seen) (m1 : Option Nat) : M :=
 { code:=wsC, text:=x.toArray, lim:=x.length, start:=s, lastStart:=x.length, pc:=19, pos:=s + n, handed:=s + n, outermost:=f, marks:=#[some s, m1], lastmark:=0, frames:=[{ wait:=.giveBack, pc:=7, pos:=s + n, outermost:=f, count:=n, kept:={ lastmark:=0, lastindex:=-1, whole:=false, marks:=#[] } }, { wait:=.nextStart, pc:=5, pos:=s, outermost:=f }], weight:=2, seen:=seen }
theorem after_run (x : List Nat) (s n f seen m1) : ({ mB x s f seen m1 with pos:=s + n } : M).afterRun .giveBack n (({ mB x s f seen m1 with pos:=s + n } : M).keep false) = mC x s n f seen m1:=by kernel_rfl
theorem run_C (x : List Nat) (s n f seen m1) : ∃ e : M, (mC x s n f seen m1).runFor 5 = e /\ e.outcome = some .matched /\ e.start = s /\ e.handed = s + n /\ e.lastmark = 1 /\ e.marks = #[some s, some (s + n)]:=by
 refine ⟨_, rfl, ?_, ?_, ?_, ?_, ?_⟩ <;> cases f <;> kernel_rfl
theorem runFor_step (n : Nat) (m : M) (h : m.outcome = none) : m.runFor (n + 1) = m.step.runFor n:=by
 show (if m.outcome.isSome = true then m else _) = _
 rw [h]; rfl
theorem runFor_done (n : Nat) (m : M) (h : m.outcome.isSome = true) : m.runFor n = m:=by
 cases n with
 | zero=>rfl
 | succ n=>show (if m.outcome.isSome = true then m else _) = _; rw [if_pos h]
theorem runFor_add : ∀ (a b : Nat) (m : M), m.runFor (a + b) = (m.runFor a).runFor b
 | 0, b, m=>by rw [Nat.zero_add]; rfl
 | a + 1, b, m=>by
  cases h : m.outcome.isSome with
  | true=>rw [runFor_done _ m h, runFor_done _ m h, runFor_done _ m h]
  | false =>
   have h' : m.outcome = none:=by simpa using h
   rw [show a + 1 + b = (a + b) + 1 by lia, runFor_step _ m h', runFor_step _ m h', runFor_add a b]
inductive FindsT (x : List Nat) (p : Nat) (e : M) : Prop
 | no (_ : p = x.length) (_ : e.outcome = some .failed)
 | yes (_ : p ≠ x.length) (w : Nat) (_ : w = ((x.drop p).takeWhile isW).length) (_ : 0 < w) (_ : p + w <= x.length) (_ : e.outcome = some .matched) (_ : e.start = p) (_ : e.handed = p + w) (_ : e.lastmark = 1) (_ : e.marks = #[some p, some (p + w)])
noncomputable def Finds (x : List Nat) (s : Nat) (e : M) : Prop:=FindsT x (s + ((x.drop s).takeWhile fun c=>!isW c).length) e
theorem runFor_two (m : M) (h : m.outcome = none) : m.runFor 2 = m.step.step:=by
 rw [runFor_step _ _ h]
 cases h2 : m.step.outcome.isSome with
 | true =>
  rw [runFor_done _ _ h2]
  have : ∀ m' : M, m'.outcome.isSome = true -> m'.step = m':=fun m' q=>by unfold M.step; rw [if_pos q]
  exact (this _ h2).symm
 | false=>rw [runFor_step _ _ (by simpa using h2)]; rfl
noncomputable def mI (x : List Nat) : M:={ code:=wsC, text:=x.toArray, lim:=x.length, start:=x.length, pc:=5, pos:=x.length, handed:=x.length, marks:=#[none, none], seen:=({} : Seen).add 14 }
theorem search (x : List Nat) (hx : x.length <= 1000000) : ∀ (k s : Nat) (f : Bool) (seen : Seen) (m0 m1 : Option Nat), x.length - s = k -> s <= x.length -> ∃ N, N <= 3 * k + 7 /\ ((mA x s f seen m0 m1).runFor N).outcome.isSome = true /\ Finds x s ((mA x s f seen m0 m1).runFor N):=by
 intro k
 induction k with
 | zero =>
  intro s f seen m0 m1 hk hs
  have e : s = x.length:=Nat.le_antisymm hs (Nat.sub_eq_zero_iff_le.mp hk)
  subst e
  have h4 : (mA x x.length f seen m0 m1).runFor 4 = ((mB x x.length f ((seen.add 17).add 24) m1).say false).step.step:=by
   rw [runFor_step _ _ rfl, step_A, runFor_step _ _ rfl, step_B, if_pos (by simp)]
   exact runFor_two _ rfl
  have ho:=say_end x x.length f ((seen.add 17).add 24) m1 (by simp)
  refine ⟨4, by decide, by rw [h4, ho]; rfl, ?_⟩
  exact .no (by rw [List.drop_length]; rfl) (by rw [h4]; exact ho)
 | succ k ih =>
  intro s f seen m0 m1 hk hs
  have hlt : s < x.length:=Nat.lt_of_sub_eq_succ hk
  refine xe (run_ws x (x.length - s) s 0 (((seen.add 17).add 24).add 13) (Nat.le_of_eq (Nat.add_sub_cancel' hs))) fun sn er=>?_
  have emin : min 4294967295 (((x.length : Int) - (s : Int)).toNat) = x.length - s:=by rw [Int.toNat_sub]; exact Nat.min_eq_right (lT (Nat.sub_le _ _) (lT hx (by decide)))
  have eB : (mB x s f (seen.add 17) m1).step = if (0 + (((x.drop s).take (x.length - s)).takeWhile isW).length) < 1 then (mB x s f sn m1).say false else mC x s (0 + (((x.drop s).take (x.length - s)).takeWhile isW).length) f sn m1:=by
   rw [step_B, if_neg (by lia), emin, er]
   show (if _ then _ else _) = _
   rw [after_run]
  have etk : (x.drop s).take (x.length - s) = x.drop s:=List.take_of_length_le (by simp)
  rw [etk, Nat.zero_add] at eB
  have ed : x.drop s = x[s] :: x.drop (s + 1):=List.drop_eq_getElem_cons hlt
  cases hw : isW x[s] with
  | false =>
   have e0 : ((x.drop s).takeWhile isW).length = 0:=by rw [ed, List.takeWhile_cons_of_neg (by simp [hw])]; rfl
   rw [e0, if_pos (by simp)] at eB
   refine xea2 (ih (s + 1) false sn (some s) m1 (by rw [Nat.sub_add_eq, hk]; rfl) (by assumption)) fun N hN ho hF=>?_
   have e3 : (mA x s f seen m0 m1).runFor (N + 3) = (mA x (s + 1) false sn (some s) m1).runFor N:=by
    rw [runFor_step _ _ rfl, step_A, runFor_step _ _ rfl, eB, runFor_step _ _ rfl, say_false x s f sn m1 hlt]
   have et : ((x.drop s).takeWhile fun c=>!isW c).length = ((x.drop (s + 1)).takeWhile fun c=>!isW c).length + 1:=by
    rw [ed, List.takeWhile_cons_of_pos (by simp [hw])]; rfl
   refine ⟨N + 3, Nat.add_le_add_right hN 3, by rw [e3]; exact ho, ?_⟩
   rw [e3]
   unfold Finds at hF ⊢
   rw [et]
   have a1 : s + (((x.drop (s + 1)).takeWhile fun c=>!isW c).length + 1) = s + 1 + ((x.drop (s + 1)).takeWhile fun c=>!isW c).length:=by lia
   rw [a1]; exact hF
  | true =>
   have e1 : ((x.drop s).takeWhile isW).length = ((x.drop (s + 1)).takeWhile isW).length + 1:=by rw [ed, List.takeWhile_cons_of_pos hw]; rfl
   rw [e1, if_neg (by lia), <- e1] at eB
   refine xea5 (run_C x s ((x.drop s).takeWhile isW).length f sn m1) fun e he o1 o2 o3 o4 o5=>?_
   have e7 : (mA x s f seen m0 m1).runFor 7 = e:=by
    rw [runFor_step _ _ rfl, step_A, runFor_step _ _ rfl, eB, he]
   have et : ((x.drop s).takeWhile fun c=>!isW c).length = 0:=by rw [ed, List.takeWhile_cons_of_neg (by simp [hw])]; rfl
   have hle : ((x.drop s).takeWhile isW).length <= x.length - s:=by
    have:=(List.takeWhile_sublist (l:=x.drop s) isW).length_le
    simpa using this
   refine ⟨7, by simp, by rw [e7, o1]; rfl, ?_⟩
   rw [e7]
   unfold Finds
   rw [et]
   exact .yes (Nat.ne_of_lt hlt) _ rfl (by show 0 < ((x.drop s).takeWhile isW).length; rw [e1]; exact Nat.succ_pos _) (Nat.add_le_of_le_sub' hs hle) o1 o2 o3 o4 o5
theorem forSearch_run (x : List Nat) (hx : x.length <= 1000000) (s : Nat) (hs : s <= x.length) : ∃ N, N <= 3 * x.length + 7 /\ ((forSearch wsC x.toArray 1 s x.length false).runFor N).outcome.isSome = true /\ Finds x s ((forSearch wsC x.toArray 1 s x.length false).runFor N):=by
 by_cases h : s < x.length
 ·have e : ∃ seen, forSearch wsC x.toArray 1 s x.length false = mA x s true seen none none:=by
   refine ⟨({} : Seen).add 14, ?_⟩
   unfold forSearch
   show (if (decide (s > x.length) || decide (x.length - s < 1)) = true then _ else _) = _
   rw [if_neg (by rw [decide_eq_false (Nat.not_lt_of_le hs), decide_eq_false (Nat.not_lt_of_le (Nat.sub_pos_of_lt h))]; decide)]
   kernel_rfl
  refine xe e fun seen e=>?_
  rw [e]
  refine xea2 (search x hx (x.length - s) s true seen none none rfl hs) fun N a b c=>?_
  exact ⟨N, lT a (Nat.add_le_add_right (Nat.mul_le_mul_left 3 (Nat.sub_le _ _)) 7), b, c⟩
 ·have es : s = x.length:=Nat.le_antisymm hs (Nat.le_of_not_lt h)
  subst es
  have e : forSearch wsC x.toArray 1 x.length x.length false = (mI x).say false:=by
   unfold forSearch
   show (if (decide (x.length > x.length) || decide (x.length - x.length < 1)) = true then _ else _) = _
   rw [if_pos (by simp)]
   kernel_rfl
  have f2 : ((mI x).say false).outcome = none:=rfl
  have st : ((mI x).say false).step.outcome = some .failed:=by kernel_rfl
  refine ⟨1, by simp, ?_, ?_⟩
  ·rw [e, runFor_step _ _ f2]; show ((mI x).say false).step.outcome.isSome = true; rw [st]; rfl
  ·exact .no (by rw [List.drop_length]; rfl) (by rw [e, runFor_step _ _ f2]; exact st)
end Mine
open PySem PySem.W PyProof.Rows PySem.Calls
namespace Mine
theorem wB : type_of% @wpAny_bind:=@wpAny_bind
theorem wP : type_of% @wpAny_pure:=@wpAny_pure
theorem wM : type_of% @wpAny_mono:=@wpAny_mono
theorem hpo : type_of% @Heap.get?_push_of_some:=@Heap.get?_push_of_some
theorem sE : type_of% @sizeLine_eq:=@sizeLine_eq
noncomputable abbrev PW:=PySem.Challenge.pw_rl0126_01
noncomputable def absOf : Stmt -> Arguments × List Stmt × Scope
 | .FunctionDef _ a b _ _ _ s _ _ _=>(a, b, s)
 | .ClassDef _ _ _ b _ _ s _ _ _ _=>(⟨[], [], none, [], [], none, []⟩, b, s)
 | .If _ b _ _=>(⟨[], [], none, [], [], none, []⟩, b, default)
 | .For _ _ b _ _=>(⟨[], [], none, [], [], none, []⟩, b, default)
 | _=>(⟨[], [], none, [], [], none, []⟩, [], default)
noncomputable def bodyOf (s : Stmt) : List Stmt:=(absOf s).2.1
noncomputable def argsOf (s : Stmt) : Arguments:=(absOf s).1
noncomputable def scopeOf (s : Stmt) : Scope:=(absOf s).2.2
noncomputable def topSt (k : Nat) : Stmt:=PW.main.body.getD k (.Pass default)
noncomputable def subSt (k j : Nat) : Stmt:=(bodyOf (topSt k)).getD j (.Pass default)
structure Cx where
 w : World
 d : Drawn
 os : OsState
noncomputable abbrev Gs:=Array GenState
abbrev PV:=Value -> Heap -> Gs -> Prop
abbrev PF:=Flow -> Heap -> Gs -> Prop
abbrev PB:=Bool -> Heap -> Gs -> Prop
abbrev PL:=List Value -> Heap -> Gs -> Prop
abbrev PH:=Heap -> Gs -> Prop
noncomputable def W (c : Cx) (A : Around) {α : Type} (t : Sem α) (Q : α -> Heap -> Gs -> Prop) (h : Heap) (g : Gs) : Prop :=
 ∀ tk, wpAny (model PW c.w) A t (fun a s'=>s'.drawn = c.d /\ s'.os = c.os /\ Q a s'.heap s'.gens) (fun _ _=>False) ⟨h, g, c.d, tk, c.os⟩
section
variable {c : Cx} {A : Around} {α β : Type} {h : Heap} {g : Gs}
theorem W.mono {t : Sem α} {Q Q' : α -> Heap -> Gs -> Prop} (x : W c A t Q h g) (y : ∀ a h g, Q a h g -> Q' a h g) : W c A t Q' h g :=
 fun tk=>wM (x tk) (fun a _ z=>⟨z.1, z.2.1, y a _ _ z.2.2⟩) fun _ _ z=>z
theorem W.at {t : Sem α} {Q : α -> Heap -> Gs -> Prop} {E : Value -> Shared -> Prop} {s : Shared} (x : W c A t Q s.heap s.gens) (h1 : s.drawn = c.d) (h2 : s.os = c.os) :
  wpAny (model PW c.w) A t (fun a s'=>s'.drawn = c.d /\ s'.os = c.os /\ Q a s'.heap s'.gens) E s:=by
 obtain ⟨h, g, d, tk, os⟩:=s
 dsimp only at x h1 h2
 subst h1 h2
 exact wM (x tk) (fun _ _ z=>z) fun _ _ z=>z.elim
theorem W.bind {m : Sem α} {f : α -> Sem β} {Q : β -> Heap -> Gs -> Prop} (x : W c A m (fun a h1 g1=>W c A (f a) Q h1 g1) h g) : W c A (m >>= f) Q h g :=
 fun tk=>wB (wM (x tk) (fun _ _ z=>z.2.2.at z.1 z.2.1) fun _ _ z=>z)
theorem W.pure {a : α} {Q : α -> Heap -> Gs -> Prop} (x : Q a h g) : W c A (pure a) Q h g:=fun _=>wP ⟨rfl, rfl, x⟩
theorem W.holding {vs : List Value} {m : Sem α} {Q : α -> Heap -> Gs -> Prop} (x : W c A m Q h g) : W c A (holding vs m) Q h g:=fun tk=>wpAny_holding (x tk)
theorem W.standAt {pos : Pos} {Q : Unit -> Heap -> Gs -> Prop} (x : Q () h g) : W c A (standAt pos) Q h g:=fun _=>wpAny_standAt ⟨rfl, rfl, x⟩
theorem W.rule {tag : String} {Q : Unit -> Heap -> Gs -> Prop} (x : Q () h g) : W c A (rule tag) Q h g:=fun _=>wpAny_rule ⟨rfl, rfl, x⟩
noncomputable def WC (c : Cx) (A : Around) (k : Code) (Q : PV) (h : Heap) (g : Gs) : Prop :=
 ∀ tk, codeAny (model PW c.w) A k (fun r s'=>∃ v, r = .ok (.ret v) /\ s'.drawn = c.d /\ s'.os = c.os /\ Q v s'.heap s'.gens) ⟨h, g, c.d, tk, c.os⟩
theorem WC.call {f : Value} {pos : List Value} {kw : List (Str × Value)} {Q : PV} (x : WC c A (.call f ⟨pos, kw⟩) Q h g) : W c A (call f pos kw) Q h g :=
 fun tk=>wpAny_call (codeAny_mono (x tk) fun _ _ ⟨_, e, z⟩=>by subst e; exact z)
theorem W.post {t : Sem α} {Q : α -> Heap -> Gs -> Prop} {P : α -> Shared -> Prop} {E : Value -> Shared -> Prop} {s : Shared} (x : W c A t Q s.heap s.gens) (h1 : s.drawn = c.d) (h2 : s.os = c.os)
  (y : ∀ a h g tk, Q a h g -> P a ⟨h, g, c.d, tk, c.os⟩) : wpAny (model PW c.w) A t P E s:=by
 refine wM (x.at (E:=E) h1 h2) (fun a s' z=>?_) fun _ _ z=>z
 obtain ⟨h, g, d, tk, os⟩:=s'
 obtain ⟨z1, z2, z3⟩:=z
 dsimp only at z1 z2 z3
 subst z1 z2
 exact y a h g tk z3
end
section
variable {c : Cx} {A : Around} {h : Heap} {g : Gs} {env : Env}
theorem W.nil {Q : PF} (x : Q .next h g) : W c A (execs [] env) Q h g:=W.pure x
theorem W.cons {st : Stmt} {rest : List Stmt} {Q : PF}
  (x : W c A (exec st env) (fun f h1 g1=>match f with | .next=>W c A (execs rest env) Q h1 g1 | f=>Q f h1 g1) h g) : W c A (execs (st :: rest) env) Q h g:=by
 refine W.bind (x.mono fun f h1 g1 z=>?_)
 cases f <;> first | exact z | exact W.pure z
theorem W.assign {x : Str} {p1 pos : Pos} {e : Expr} {Q : PF} (y : W c A (eval e env) (fun v h1 g1=>W c A (storeName env x v) (fun _=>Q .next) h1 g1) h g)
  (hs : swapsWith e (some (.Name x p1)) pos.line env = Pure.pure false:=by kernel_rfl) : W c A (exec (.Assign [.Name x p1] e pos) env) Q h g :=
 fun tk=>wpAny_Assign_Name (wM (y tk) (fun _ _ z=>(z.2.2.at z.1 z.2.1)) fun _ _ z=>z) hs
theorem W.ret {e : Expr} {pos : Pos} {Q : PF} (y : W c A (eval e env) (fun v=>Q (.ret v)) h g) : W c A (exec (.Return (some e) pos) env) Q h g :=
 fun tk=>wpAny_Return_some (y tk)
theorem W.binop {l r : Expr} {op : Operator} {pos : Pos} {Q : PV}
  (y : W c A (eval l env) (fun a h1 g1=>W c A (eval r env) (fun b h2 g2=>W c A (binaryOp op a b) Q h2 g2) h1 g1) h g) : W c A (eval (.BinOp l op r pos) env) Q h g :=
 fun tk=>wpAny_BinOp (wM (y tk) (fun _ _ z=>wM (z.2.2.at z.1 z.2.1) (fun _ _ z=>z.2.2.at z.1 z.2.1) fun _ _ z=>z) fun _ _ z=>z)
theorem W.cint {i : Int} {k : Nat} {pos : Pos} {Q : PV} (y : ∀ t, Q (.int i t) h g) : W c A (eval (.Constant (.int i) k pos) env) Q h g:=fun tk=>wpAny_Constant_int ⟨rfl, rfl, y tk⟩
theorem W.cstr {i : Str} {k : Nat} {pos : Pos} {Q : PV} (y : ∀ t, Q (.str i t) h g) : W c A (eval (.Constant (.str i) k pos) env) Q h g:=fun tk=>Calls.Constant_str ⟨rfl, rfl, y tk⟩
theorem W.cnone {k : Nat} {pos : Pos} {Q : PV} (y : Q .none h g) : W c A (eval (.Constant .none k pos) env) Q h g:=fun _=>Constant_none ⟨rfl, rfl, y⟩
theorem W.if_ {test : Expr} {body orelse : List Stmt} {pos : Pos} {Q : PF}
  (y : W c A (isTrue test env (eval test env)) (fun b h1 g1=>if b = true then W c A (execs body env) Q h1 g1 else W c A (execs orelse env) Q h1 g1) h g) : W c A (exec (.If test body orelse pos) env) Q h g :=
 fun tk=>wpAny_If (wM (y tk) (fun b _ z=>by
  have z3:=z.2.2
  cases b
  ·rw [if_neg Bool.false_ne_true] at z3 ⊢; exact z3.at z.1 z.2.1
  ·rw [if_pos rfl] at z3 ⊢; exact z3.at z.1 z.2.1) fun _ _ z=>z)
theorem W.cmp1 {l r : Expr} {op : CmpOp} {pos : Pos} {whole : Sem Value} {Q : PB}
  (y : W c A (eval l env) (fun a h1 g1=>W c A (eval r env) (fun b h2 g2=>W c A (compareOp op a b) (fun v h3 g3=>W c A (truthy v) Q h3 g3) h2 g2) h1 g1) h g)
  (hb : behindInMarks op r = false:=by kernel_rfl) : W c A (isTrue (.Compare l [op] [r] pos) env whole) Q h g :=
 fun tk=>wpAny_isTrue_Compare1 (wM (y tk) (fun _ _ z=>wM (z.2.2.at z.1 z.2.1) (fun _ _ z=>wM (z.2.2.at z.1 z.2.1) (fun _ _ z=>z.2.2.at z.1 z.2.1) fun _ _ z=>z) fun _ _ z=>z) fun _ _ z=>z) hb
theorem W.tbool {b : Bool} {Q : PB} (y : Q b h g) : W c A (truthy (.bool b)) Q h g:=fun _=>wpAny_truthy_bool ⟨rfl, rfl, y⟩
theorem W.sub {value slice : Expr} {pos : Pos} {Q : PV}
  (y : W c A (eval value env) (fun o h1 g1=>W c A (eval slice env) (fun i h2 g2=>W c A (subscriptTail value slice o i) Q h2 g2) h1 g1) h g) : W c A (eval (.Subscript value slice pos) env) Q h g :=
 fun tk=>Subscript_ (wM (y tk) (fun _ _ z=>wM (z.2.2.at z.1 z.2.1) (fun _ _ z=>z.2.2.at z.1 z.2.1) fun _ _ z=>z) fun _ _ z=>z)
theorem W.call_ {func : Expr} {args : List Expr} {pos : Pos} {Q : PV}
  (y : W c A (eval func env) (fun f h1 g1=>W c A (callWith pos f [] (backTo pos (starEach args env)) []) Q h1 g1) h g)
  (he : eval (.Call func args [] pos) env = (do callWith pos (<- eval func env) [] (backTo pos (starEach args env)) (backToKw pos (keywordEach [] env))):=by kernel_rfl) : W c A (eval (.Call func args [] pos) env) Q h g :=
 fun tk=>Call_ (wM (y tk) (fun _ _ z=>z.2.2.at z.1 z.2.1) fun _ _ z=>z) he
theorem W.mod {a b : Int} {t u : Tok} {Q : PV} (hb : b ≠ 0) (y : ∀ t, Q (.int (a.fmod b) t) h g) : W c A (binaryOp .Mod (.int a t) (.int b u)) Q h g:=fun tk=>mod_int' hb ⟨rfl, rfl, y tk⟩
theorem W.fdiv {a b : Int} {t u : Tok} {Q : PV} (hb : b ≠ 0) (hp : Builtin.divisionGoesByPylong a b = false) (y : ∀ t, Q (.int (a.fdiv b) t) h g) : W c A (binaryOp .FloorDiv (.int a t) (.int b u)) Q h g :=
 fun tk=>floordiv_int hb ⟨rfl, rfl, y tk⟩ (.inl hp)
theorem W.add {a b : Int} {t u : Tok} {Q : PV} (y : ∀ t, Q (.int (a + b) t) h g) : W c A (binaryOp .Add (.int a t) (.int b u)) Q h g:=fun tk=>add_int ⟨rfl, rfl, y tk⟩
theorem W.subi {a b : Int} {t u : Tok} {Q : PV} (y : ∀ t, Q (.int (a - b) t) h g) : W c A (binaryOp .Sub (.int a t) (.int b u)) Q h g:=fun tk=>sub_int ⟨rfl, rfl, y tk⟩
theorem W.lt {a b : Int} {t u : Tok} {Q : PV} (y : Q (.bool (decide (a < b))) h g) : W c A (compareOp .Lt (.int a t) (.int b u)) Q h g:=fun _=>lt_int ⟨rfl, rfl, y⟩
theorem W.gt {a b : Int} {t u : Tok} {Q : PV} (y : Q (.bool (decide (a > b))) h g) : W c A (compareOp .Gt (.int a t) (.int b u)) Q h g:=fun _=>gt_int ⟨rfl, rfl, y⟩
theorem W.le {a b : Int} {t u : Tok} {Q : PV} (y : Q (.bool (decide (a <= b))) h g) : W c A (compareOp .LtE (.int a t) (.int b u)) Q h g:=fun _=>le_int ⟨rfl, rfl, y⟩
theorem W.ieq {a b : Int} {t u : Tok} {Q : PV} (y : Q (.bool (a == b)) h g) : W c A (compareOp .Eq (.int a t) (.int b u)) Q h g:=fun _=>eq_int ⟨rfl, rfl, y⟩
end
noncomputable def z (s : String) : Str:=Str.ofString s
noncomputable def vs (l : List Nat) (t : Nat) : Value:=.str ⟨⟨l⟩⟩ t
noncomputable def v (s : String) (t : Nat) : Value:=.str (z s) t
noncomputable def e (P : Params) (s : String) (t : Nat) (v : Value) : DictEntry:=⟨PyData.keyHash P (z s), .str (z s) t, v⟩
noncomputable def i (n : Int) : Value:=.int n 0
noncomputable def i0 : Value:=.int 0 0
noncomputable def bt : Value:=.bool true
noncomputable def r (n : Nat) : Value:=.ref n
noncomputable def fnD (st : Stmt) (name qual : Str) (gl : Addr) (clo : List (Str × Addr)) (df kd doc pm code ct : Value) (bi : Addr) : FuncData :=
 { name:=name, qualname:=qual, params:=argsOf st, body:=.stmts (bodyOf st), scope:=scopeOf st, globals:=gl, closure:=clo, defaults:=df, kwdefaults:=kd, doc:=doc, pyModule:=pm, annotations:=none, code:=code, closureTuple:=ct, builtins:=bi }
abbrev OP:=Params -> Obj
noncomputable def tu (l : List Value) : Obj:=⟨.type "tuple", none, .seq ⟨l⟩ 0, ⟨[]⟩⟩
noncomputable def sq (c : String) (l : List Value) : Obj:=⟨.type c, none, .seq ⟨l⟩ 0, ⟨[]⟩⟩
noncomputable def fi (c : String) (l : List Value) : Obj:=⟨.type c, none, .fields ⟨l⟩, ⟨[]⟩⟩
noncomputable def co (l : List Value) : Obj:=⟨.type "code", none, .fields ⟨l⟩, ⟨[]⟩⟩
noncomputable def tb : Obj:=⟨.none, none, .fields ⟨[]⟩, ⟨[]⟩⟩
noncomputable def fn (f : FuncData) : Obj:=⟨.none, none, .func f, ⟨[]⟩⟩
noncomputable def ft (f : FuncData) : Obj:=⟨.type "function", none, .func f, ⟨[]⟩⟩
noncomputable section
def o0 : OP:=fun P=>⟨(.type "dict"), none, (.dict ⟨[e P "__name__" 1 (v "builtins" 160), e P "__doc__" 2 (.builtin "builtins.__doc__:str#opaque"), e P "__package__" 3 (.builtin "builtins.__package__:str#opaque"), e P "__loader__" 4 (.builtin "builtins.__loader__:shared#opaque"), e P "__spec__" 5 (.builtin "builtins.__spec__#opaque"), e P "__build_class__" 6 (.builtin "__build_class__"), e P "__\x69mport__" 7 (.builtin "__import__"), e P "abs" 8 (.builtin "abs"), e P "all" 9 (.builtin "all"), e P "any" 10 (.builtin "any"), e P "ascii" 11 (.builtin "ascii"), e P "bin" 12 (.builtin "bin"), e P "breakpoint" 13 (.builtin "breakpoint"), e P "callable" 14 (.builtin "callable"), e P "chr" 15 (.builtin "chr"), e P "compile" 16 (.builtin "compile"), e P "delattr" 17 (.builtin "delattr"), e P "dir" 18 (.builtin "dir"), e P "divmod" 19 (.builtin "divmod"), e P "eval" 20 (.builtin "eval"), e P "exec" 21 (.builtin "exec"), e P "format" 22 (.builtin "format"), e P "getattr" 23 (.builtin "getattr"), e P "globals" 24 (.builtin "globals"), e P "hasattr" 25 (.builtin "hasattr"), e P "hash" 26 (.builtin "hash"), e P "hex" 27 (.builtin "hex"), e P "id" 28 (.builtin "id"), e P "input" 29 (.builtin "input"), e P "isinstance" 30 (.builtin "isinstance"), e P "issubclass" 31 (.builtin "issubclass"), e P "iter" 32 (.builtin "iter"), e P "aiter" 33 (.builtin "aiter"), e P "len" 34 (.builtin "len"), e P "locals" 35 (.builtin "locals"), e P "max" 36 (.builtin "max"), e P "min" 37 (.builtin "min"), e P "next" 38 (.builtin "next"), e P "anext" 39 (.builtin "anext"), e P "oct" 40 (.builtin "oct"), e P "ord" 41 (.builtin "ord"), e P "pow" 42 (.builtin "pow"), e P "print" 43 (.builtin "print"), e P "repr" 44 (.builtin "repr"), e P "round" 45 (.builtin "round"), e P "setattr" 46 (.builtin "setattr"), e P "sorted" 47 (.builtin "sorted"), e P "sum" 48 (.builtin "sum"), e P "vars" 49 (.builtin "vars"), e P "None" 50 .none, e P "Ellipsis" 51 .ellipsis, e P "NotImplemented" 52 .notImplemented, e P "False" 53 (.bool false), e P "True" 54 bt, e P "bool" 55 (.type "bool"), e P "memoryview" 56 (.type "memoryview"), e P "bytearray" 57 (.type "bytearray"), e P "bytes" 58 (.type "bytes"), e P "classmethod" 59 (.type "classmethod"), e P "complex" 60 (.type "complex"), e P "dict" 61 (.type "dict"), e P "enumerate" 62 (.type "enumerate"), e P "filter" 63 (.type "filter"), e P "float" 64 (.type "float"), e P "frozenset" 65 (.type "frozenset"), e P "property" 66 (.type "property"), e P "int" 67 (.type "int"), e P "list" 68 (.type "list"), e P "map" 69 (.type "map"), e P "object" 70 (.type "object"), e P "range" 71 (.type "range"), e P "reversed" 72 (.type "reversed"), e P "set" 73 (.type "set"), e P "slice" 74 (.type "slice"), e P "staticmethod" 75 (.type "staticmethod"), e P "str" 76 (.type "str"), e P "super" 77 (.type "super"), e P "tuple" 78 (.type "tuple"), e P "type" 79 (.type "type"), e P "zip" 80 (.type "zip"), e P "__debug__" 81 bt, e P "BaseException" 82 (.type "BaseException"), e P "BaseExceptionGroup" 83 (.type "BaseExceptionGroup"), e P "Exception" 84 (.type "Exception"), e P "GeneratorExit" 85 (.type "GeneratorExit"), e P "KeyboardInterrupt" 86 (.type "KeyboardInterrupt"), e P "SystemExit" 87 (.type "SystemExit"), e P "ArithmeticError" 88 (.type "ArithmeticError"), e P "AssertionError" 89 (.type "AssertionError"), e P "AttributeError" 90 (.type "AttributeError"), e P "BufferError" 91 (.type "BufferError"), e P "EOFError" 92 (.type "EOFError"), e P "ImportError" 93 (.type "ImportError"), e P "LookupError" 94 (.type "LookupError"), e P "MemoryError" 95 (.type "MemoryError"), e P "NameError" 96 (.type "NameError"), e P "OSError" 97 (.type "OSError"), e P "ReferenceError" 98 (.type "ReferenceError"), e P "RuntimeError" 99 (.type "RuntimeError"), e P "StopAsyncIteration" 100 (.type "StopAsyncIteration"), e P "StopIteration" 101 (.type "StopIteration"), e P "SyntaxError" 102 (.type "SyntaxError"), e P "SystemError" 103 (.type "SystemError"), e P "TypeError" 104 (.type "TypeError"), e P "ValueError" 105 (.type "ValueError"), e P "Warning" 106 (.type "Warning"), e P "FloatingPointError" 107 (.type "FloatingPointError"), e P "OverflowError" 108 (.type "OverflowError"), e P "ZeroDivisionError" 109 (.type "ZeroDivisionError"), e P "BytesWarning" 110 (.type "BytesWarning"), e P "DeprecationWarning" 111 (.type "DeprecationWarning"), e P "EncodingWarning" 112 (.type "EncodingWarning"), e P "FutureWarning" 113 (.type "FutureWarning"), e P "ImportWarning" 114 (.type "ImportWarning"), e P "PendingDeprecationWarning" 115 (.type "PendingDeprecationWarning"), e P "ResourceWarning" 116 (.type "ResourceWarning"), e P "RuntimeWarning" 117 (.type "RuntimeWarning"), e P "SyntaxWarning" 118 (.type "SyntaxWarning"), e P "UnicodeWarning" 119 (.type "UnicodeWarning"), e P "UserWarning" 120 (.type "UserWarning"), e P "BlockingIOError" 121 (.type "BlockingIOError"), e P "ChildProcessError" 122 (.type "ChildProcessError"), e P "ConnectionError" 123 (.type "ConnectionError"), e P "FileExistsError" 124 (.type "FileExistsError"), e P "FileNotFoundError" 125 (.type "FileNotFoundError"), e P "InterruptedError" 126 (.type "InterruptedError"), e P "IsADirectoryError" 127 (.type "IsADirectoryError"), e P "NotADirectoryError" 128 (.type "NotADirectoryError"), e P "PermissionError" 129 (.type "PermissionError"), e P "ProcessLookupError" 130 (.type "ProcessLookupError"), e P "TimeoutError" 131 (.type "TimeoutError"), e P "IndentationError" 132 (.type "IndentationError"), e P "_IncompleteInputError" 133 (.type "_IncompleteInputError"), e P "IndexError" 134 (.type "IndexError"), e P "KeyError" 135 (.type "KeyError"), e P "ModuleNotFoundError" 136 (.type "ModuleNotFoundError"), e P "NotImplementedError" 137 (.type "NotImplementedError"), e P "PythonFinalizationError" 138 (.type "PythonFinalizationError"), e P "RecursionError" 139 (.type "RecursionError"), e P "UnboundLocalError" 140 (.type "UnboundLocalError"), e P "UnicodeError" 141 (.type "UnicodeError"), e P "BrokenPipeError" 142 (.type "BrokenPipeError"), e P "ConnectionAbortedError" 143 (.type "ConnectionAbortedError"), e P "ConnectionRefusedError" 144 (.type "ConnectionRefusedError"), e P "ConnectionResetError" 145 (.type "ConnectionResetError"), e P "TabError" 146 (.type "TabError"), e P "UnicodeDecodeError" 147 (.type "UnicodeDecodeError"), e P "UnicodeEncodeError" 148 (.type "UnicodeEncodeError"), e P "UnicodeTranslateError" 149 (.type "UnicodeTranslateError"), e P "ExceptionGroup" 150 (.type "ExceptionGroup"), e P "EnvironmentError" 151 (.type "OSError"), e P "IOError" 152 (.type "OSError"), e P "open" 153 (.builtin "open"), e P "quit" 154 (.builtin "builtins.quit#opaque"), e P "exit" 155 (.builtin "builtins.exit#opaque"), e P "copyright" 156 (.builtin "builtins.copyright#opaque"), e P "credits" 157 (.builtin "builtins.credits#opaque"), e P "license" 158 (.builtin "builtins.license#opaque"), e P "help" 159 (.builtin "builtins.help#opaque")]⟩ 159), ⟨[]⟩⟩
def o1 : OP:=fun P=>⟨(.type "dict"), none, (.dict ⟨[e P "builtins" 162 (r 4), e P "__main__" 163 (r 5), e P "_sre" 244 (r 12)]⟩ 3), ⟨[]⟩⟩
def o2 : OP:=fun P=>⟨.none, none, (.dict ⟨[e P "\x69mport.loaded._sre" 183 bt, e P "class._frozen_\x69mportlib.BuiltinImporter" 185 (r 14), e P "watched.\x69mport" 206 (r 18), e P "class._frozen_\x69mportlib.ModuleSpec" 216 (r 22), e P "sys.modules.booked-epoch" 245 (i 3), e P "\x69mport.later-laid._sre" 270 bt, e P "watched.library" 272 (r 27), e P "watched.library-objects" 0 (v "\x0c" 0), e P "watched.library-deep._sre" 273 (.str ⟨⟨[4, 0, 0, 11, 4, 0, 0, 11, 4, 0, 0, 3, 4, 0, 0, 11, 8, 4, 100, 105, 99, 116, 2]⟩⟩ 0)]⟩ 9), ⟨[]⟩⟩
def o3 : OP:=fun P=>⟨(.type "dict"), none, (.dict ⟨[e P "__name__" 165 (v "law_rl0126_01" 2141), e P "__doc__" 166 .none, e P "__package__" 167 .none, e P "__loader__" 168 (.builtin "__main__.__loader__#opaque"), e P "__spec__" 169 .none, e P "__annotations__" 170 (r 6), e P "__builtins__" 171 (r 4), e P "__file__" 173 (v "/claim/cut.py" 172), e P "__cached__" 174 .none, e P "_sre" 275 (r 12), e P "_wall" 288 (r 38), e P "_twin_re_1" 318 (r 43), e P "NL_header" 320 (v "\n" 319), e P "EMPTYSTRING" 322 (v "" 321), e P "_ValueFormatter" 432 (r 116), e P "_Accumulator" 528 (r 200), e P "CRLF" 530 (v "\r\n" 529), e P "NL_quoprimime" 532 (v "\n" 531), e P "_QUOPRI_MAP" 1560 (r 207), e P "_QUOPRI_HEADER_MAP" 1561 (r 212), e P "_QUOPRI_BODY_MAP" 1562 (r 214), e P "ascii_lowercase" 1564 (v "abcdefghijklmnopqrstuvwxyz" 1563), e P "ascii_uppercase" 1566 (v "ABCDEFGHIJKLMNOPQRSTUVWXYZ" 1565), e P "ascii_letters" 1568 (v "abcdefghijklmnopqrstuvwxyzABCDEFGHIJKLMNOPQRSTUVWXYZ" 1567), e P "digits" 1570 (v "0123456789" 1569), e P "hexdigits" 1575 (v "0123456789abcdefABCDEF" 1574), e P "_max_append" 2085 (r 228), e P "unquote" 2092 (r 235), e P "quote" 2099 (r 242), e P "_QUOPRI_BODY_ENCODE_MAP" 2100 (r 244), e P "body_encode" 2127 (r 255), e P "decode" 2140 (r 263), e P "_law_laid" 2152 (r 270), e P "_law_spelled" 2160 (r 277), e P "_law_places" 2170 (r 284), e P "_law_rows" 2176 (r 289), e P "_law_bars" 2182 (r 294), e P "_law_folded" 2193 (r 301), e P "law" 2199 (r 306)]⟩ 41), ⟨[]⟩⟩
def o4 : OP:=fun P=>⟨(.type "module"), (some 0), .plain, ⟨[]⟩⟩
def o5 : OP:=fun P=>⟨(.type "module"), (some 3), .plain, ⟨[]⟩⟩
def o6 : OP:=fun P=>⟨(.type "dict"), none, (.dict ⟨[]⟩ 0), ⟨[]⟩⟩
def o7 : OP:=fun P=>tu []
def o8 : OP:=fun P=>tb
def o9 : OP:=fun P=>co [(v "<module>" 176), (v "<module>" 177), (v "/claim/cut.py" 178), (i 1), i0, i0, i0, i0, (r 7), (.bool false), (i 175), (r 8), .none, .none, .none, .none, (i 179), (i 1), (v "/claim/cut.py" 180)]
def o10 : OP:=fun P=>⟨(.type "frame"), none, .plain, ⟨[(some (r 9)), (some (r 3)), (some (r 3)), none, (some (v "__main__" 164)), none, (some (r 0))]⟩⟩
def o11 : OP:=fun P=>⟨(.type "dict"), none, (.dict ⟨[e P "__name__" 247 (v "_sre" 246), e P "__doc__" 248 .none, e P "__package__" 250 (v "" 249), e P "__loader__" 251 (.builtin "off-the-table:_sre.__loader__:shared#opaque"), e P "__spec__" 252 (.builtin "off-the-table:_sre.__spec__:shared#opaque"), e P "compile" 253 (.builtin "_sre.compile"), e P "template" 254 (.builtin "off-the-table:_sre.template:shared#opaque"), e P "getcodesize" 255 (.builtin "off-the-table:_sre.getcodesize:shared#opaque"), e P "ascii_iscased" 256 (.builtin "off-the-table:_sre.ascii_iscased:shared#opaque"), e P "unicode_iscased" 257 (.builtin "off-the-table:_sre.unicode_iscased:shared#opaque"), e P "ascii_tolower" 258 (.builtin "off-the-table:_sre.ascii_tolower:shared#opaque"), e P "unicode_tolower" 259 (.builtin "off-the-table:_sre.unicode_tolower:shared#opaque"), e P "MAGIC" 261 (.int 20230612 260), e P "CODESIZE" 263 (.int 4 262), e P "MAXREPEAT" 265 (.int 4294967295 264), e P "MAXGROUPS" 267 (.int 1073741823 266), e P "copyright" 269 (v " SRE 2.2.2 Copyright (c) 1997-2002 by Secret Labs AB " 268)]⟩ 17), ⟨[]⟩⟩
def o12 : OP:=fun P=>⟨(.type "module"), (some 11), .plain, ⟨[]⟩⟩
def o13 : OP:=fun P=>⟨(.type "dict"), none, (.dict ⟨[e P "__module__" 189 (v "_frozen_\x69mportlib" 186), e P "__firstlineno__" 190 (.int 971 187), e P "__doc__" 191 (.builtin "_frozen_importlib.BuiltinImporter.__doc__:str#opaque"), e P "_ORIGIN" 192 (v "built-in" 188), e P "find_spec" 193 (.builtin "_frozen_importlib.BuiltinImporter.find_spec#opaque"), e P "create_module" 194 (.builtin "_frozen_importlib.BuiltinImporter.create_module#opaque"), e P "exec_module" 195 (.builtin "_frozen_importlib.BuiltinImporter.exec_module#opaque"), e P "get_code" 196 (.builtin "_frozen_importlib.BuiltinImporter.get_code#opaque"), e P "get_source" 197 (.builtin "_frozen_importlib.BuiltinImporter.get_source#opaque"), e P "is_package" 198 (.builtin "_frozen_importlib.BuiltinImporter.is_package#opaque"), e P "load_module" 199 (.builtin "_frozen_importlib.BuiltinImporter.load_module#opaque"), e P "__static_attributes__" 200 (r 15), e P "__dict__" 202 (r 16), e P "__weakref__" 204 (r 17)]⟩ 14), ⟨[]⟩⟩
def o14 : OP:=fun P=>⟨(.type "type"), none, (.cls { name:=(z "BuiltinImporter"), bases:=[(.type "object")], mro:=[(r 14), (.type "object")], ns:=13, qualname:=(z "BuiltinImporter"), hasDict:=true, slotNames:=[], subclasses:=[], abstract:=false, collection:=none, hasDel:=false }), ⟨[]⟩⟩
def o15 : OP:=fun P=>tu []
def o16 : OP:=fun P=>fi "getset_descriptor" [(v "__dict__" 201), (r 14), (.builtin "function.__dict__"), (.builtin "function.__dict__#set")]
def o17 : OP:=fun P=>fi "getset_descriptor" [(v "__weakref__" 203), (r 14), (.builtin "ExceptionGroup.__weakref__"), .none]
def o18 : OP:=fun P=>⟨.none, none, (.seq ⟨[(i 13), (vs [6,189,10,95,95,109,111,100,117,108,101,95,95,6,186,17,95,102,114,111,122,101,110,95,105,109,112,111,114,116,108,105,98,6,190,15,95,95,102,105,114,115,116,108,105,110,101,110,111,95,95,4,187,0,971,6,191,7,95,95,100,111,99,95,95,9,52,95,102,114,111,122,101,110,95,105,109,112,111,114,116,108,105,98,46,66,117,105,108,116,105,110,73,109,112,111,114,116,101,114,46,95,95,100,111,99,95,95,58,115,116,114,35,111,112,97,113,117,101,6,192,7,95,79,82,73,71,73,78,6,188,8,98,117,105,108,116,45,105,110,6,193,9,102,105,110,100,95,115,112,101,99,9,50,95,102,114,111,122,101,110,95,105,109,112,111,114,116,108,105,98,46,66,117,105,108,116,105,110,73,109,112,111,114,116,101,114,46,102,105,110,100,95,115,112,101,99,35,111,112,97,113,117,101,6,194,13,99,114,101,97,116,101,95,109,111,100,117,108,101,9,54,95,102,114,111,122,101,110,95,105,109,112,111,114,116,108,105,98,46,66,117,105,108,116,105,110,73,109,112,111,114,116,101,114,46,99,114,101,97,116,101,95,109,111,100,117,108,101,35,111,112,97,113,117,101,6,195,11,101,120,101,99,95,109,111,100,117,108,101,9,52,95,102,114,111,122,101,110,95,105,109,112,111,114,116,108,105,98,46,66,117,105,108,116,105,110,73,109,112,111,114,116,101,114,46,101,120,101,99,95,109,111,100,117,108,101,35,111,112,97,113,117,101,6,196,8,103,101,116,95,99,111,100,101,9,49,95,102,114,111,122,101,110,95,105,109,112,111,114,116,108,105,98,46,66,117,105,108,116,105,110,73,109,112,111,114,116,101,114,46,103,101,116,95,99,111,100,101,35,111,112,97,113,117,101,6,197,10,103,101,116,95,115,111,117,114,99,101,9,51,95,102,114,111,122,101,110,95,105,109,112,111,114,116,108,105,98,46,66,117,105,108,116,105,110,73,109,112,111,114,116,101,114,46,103,101,116,95,115,111,117,114,99,101,35,111,112,97,113,117,101,6,198,10,105,115,95,112,97,99,107,97,103,101,9,51,95,102,114,111,122,101,110,95,105,109,112,111,114,116,108,105,98,46,66,117,105,108,116,105,110,73,109,112,111,114,116,101,114,46,105,115,95,112,97,99,107,97,103,101,35,111,112,97,113,117,101,6,199,11,108,111,97,100,95,109,111,100,117,108,101,9,52,95,102,114,111,122,101,110,95,105,109,112,111,114,116,108,105,98,46,66,117,105,108,116,105,110,73,109,112,111,114,116,101,114,46,108,111,97,100,95,109,111,100,117,108,101,35,111,112,97,113,117,101,6,200,21,95,95,115,116,97,116,105,99,95,97,116,116,114,105,98,117,116,101,115,95,95,4,0,0,15,6,202,8,95,95,100,105,99,116,95,95,4,0,0,16,6,204,11,95,95,119,101,97,107,114,101,102,95,95,4,0,0,17] 0), bt, bt, (v "" 205), (i 21), (vs [6,227,10,95,95,109,111,100,117,108,101,95,95,6,217,17,95,102,114,111,122,101,110,95,105,109,112,111,114,116,108,105,98,6,228,15,95,95,102,105,114,115,116,108,105,110,101,110,111,95,95,4,218,0,562,6,229,7,95,95,100,111,99,95,95,9,47,95,102,114,111,122,101,110,95,105,109,112,111,114,116,108,105,98,46,77,111,100,117,108,101,83,112,101,99,46,95,95,100,111,99,95,95,58,115,116,114,35,111,112,97,113,117,101,6,230,8,95,95,105,110,105,116,95,95,9,44,95,102,114,111,122,101,110,95,105,109,112,111,114,116,108,105,98,46,77,111,100,117,108,101,83,112,101,99,46,95,95,105,110,105,116,95,95,35,111,112,97,113,117,101,6,231,8,95,95,114,101,112,114,95,95,9,44,95,102,114,111,122,101,110,95,105,109,112,111,114,116,108,105,98,46,77,111,100,117,108,101,83,112,101,99,46,95,95,114,101,112,114,95,95,35,111,112,97,113,117,101,6,232,6,95,95,101,113,95,95,9,42,95,102,114,111,122,101,110,95,105,109,112,111,114,116,108,105,98,46,77,111,100,117,108,101,83,112,101,99,46,95,95,101,113,95,95,35,111,112,97,113,117,101,6,233,6,99,97,99,104,101,100,9,42,95,102,114,111,122,101,110,95,105,109,112,111,114,116,108,105,98,46,77,111,100,117,108,101,83,112,101,99,46,99,97,99,104,101,100,35,111,112,97,113,117,101,6,234,6,112,97,114,101,110,116,9,42,95,102,114,111,122,101,110,95,105,109,112,111,114,116,108,105,98,46,77,111,100,117,108,101,83,112,101,99,46,112,97,114,101,110,116,35,111,112,97,113,117,101,6,235,12,104,97,115,95,108,111,99,97,116,105,111,110,9,48,95,102,114,111,122,101,110,95,105,109,112,111,114,116,108,105,98,46,77,111,100,117,108,101,83,112,101,99,46,104,97,115,95,108,111,99,97,116,105,111,110,35,111,112,97,113,117,101,6,236,21,95,95,115,116,97,116,105,99,95,97,116,116,114,105,98,117,116,101,115,95,95,4,0,0,23,6,238,8,95,95,100,105,99,116,95,95,4,0,0,24,6,240,11,95,95,119,101,97,107,114,101,102,95,95,4,0,0,25,6,241,8,95,95,104,97,115,104,95,95,0] 0), bt, bt, (v "" 242)]⟩ 1), ⟨[]⟩⟩
def o19 : OP:=fun P=>sq "list" []
def o20 : OP:=fun P=>⟨(.type "dict"), none, (.dict ⟨[e P "name" 208 (v "_sre" 207), e P "loader" 209 (r 14), e P "origin" 210 (v "built-in" 184), e P "loader_state" 211 .none, e P "submodule_search_locations" 212 .none, e P "_uninitialized_submodules" 213 (r 19), e P "_set_fileattr" 214 (.bool false), e P "_cached" 215 .none, e P "_initializing" 243 (.bool false)]⟩ 9), ⟨[]⟩⟩
def o21 : OP:=fun P=>⟨(.type "dict"), none, (.dict ⟨[e P "__module__" 227 (v "_frozen_\x69mportlib" 217), e P "__firstlineno__" 228 (.int 562 218), e P "__doc__" 229 (.builtin "_frozen_importlib.ModuleSpec.__doc__:str#opaque"), e P "__init__" 230 (.builtin "_frozen_importlib.ModuleSpec.__init__#opaque"), e P "__repr__" 231 (.builtin "_frozen_importlib.ModuleSpec.__repr__#opaque"), e P "__eq__" 232 (.builtin "_frozen_importlib.ModuleSpec.__eq__#opaque"), e P "cached" 233 (.builtin "_frozen_importlib.ModuleSpec.cached#opaque"), e P "parent" 234 (.builtin "_frozen_importlib.ModuleSpec.parent#opaque"), e P "has_location" 235 (.builtin "_frozen_importlib.ModuleSpec.has_location#opaque"), e P "__static_attributes__" 236 (r 23), e P "__dict__" 238 (r 24), e P "__weakref__" 240 (r 25), e P "__hash__" 241 .none]⟩ 13), ⟨[]⟩⟩
def o22 : OP:=fun P=>⟨(.type "type"), none, (.cls { name:=(z "ModuleSpec"), bases:=[(.type "object")], mro:=[(r 22), (.type "object")], ns:=21, qualname:=(z "ModuleSpec"), hasDict:=true, slotNames:=[], subclasses:=[], abstract:=false, collection:=none, hasDel:=false }), ⟨[]⟩⟩
def o23 : OP:=fun P=>tu [(v "_cached" 219), (v "_set_fileattr" 220), (v "_uninitialized_submodules" 221), (v "loader" 222), (v "loader_state" 223), (v "name" 224), (v "origin" 225), (v "submodule_search_locations" 226)]
def o24 : OP:=fun P=>fi "getset_descriptor" [(v "__dict__" 237), (r 22), (.builtin "function.__dict__"), (.builtin "function.__dict__#set")]
def o25 : OP:=fun P=>fi "getset_descriptor" [(v "__weakref__" 239), (r 22), (.builtin "ExceptionGroup.__weakref__"), .none]
def o26 : OP:=fun P=>⟨(r 22), (some 20), .plain, ⟨[]⟩⟩
def o27 : OP:=fun P=>⟨.none, none, (.seq ⟨[(i 11), (vs [6,247,8,95,95,110,97,109,101,95,95,6,246,4,95,115,114,101,6,248,7,95,95,100,111,99,95,95,0,6,250,11,95,95,112,97,99,107,97,103,101,95,95,6,249,0,6,251,10,95,95,108,111,97,100,101,114,95,95,4,0,0,14,6,252,8,95,95,115,112,101,99,95,95,4,0,0,26,6,253,7,99,111,109,112,105,108,101,9,12,95,115,114,101,46,99,111,109,112,105,108,101,6,254,8,116,101,109,112,108,97,116,101,9,13,95,115,114,101,46,116,101,109,112,108,97,116,101,6,255,11,103,101,116,99,111,100,101,115,105,122,101,9,16,95,115,114,101,46,103,101,116,99,111,100,101,115,105,122,101,6,256,13,97,115,99,105,105,95,105,115,99,97,115,101,100,9,18,95,115,114,101,46,97,115,99,105,105,95,105,115,99,97,115,101,100,6,257,15,117,110,105,99,111,100,101,95,105,115,99,97,115,101,100,9,20,95,115,114,101,46,117,110,105,99,111,100,101,95,105,115,99,97,115,101,100,6,258,13,97,115,99,105,105,95,116,111,108,111,119,101,114,9,18,95,115,114,101,46,97,115,99,105,105,95,116,111,108,111,119,101,114,6,259,15,117,110,105,99,111,100,101,95,116,111,108,111,119,101,114,9,20,95,115,114,101,46,117,110,105,99,111,100,101,95,116,111,108,111,119,101,114,6,261,5,77,65,71,73,67,4,260,0,20230612,6,263,8,67,79,68,69,83,73,90,69,4,262,0,4,6,265,9,77,65,88,82,69,80,69,65,84,4,264,0,4294967295,6,267,9,77,65,88,71,82,79,85,80,83,4,266,0,1073741823,6,269,9,99,111,112,121,114,105,103,104,116,6,268,53,32,83,82,69,32,50,46,50,46,50,32,67,111,112,121,114,105,103,104,116,32,40,99,41,32,49,57,57,55,45,50,48,48,50,32,98,121,32,83,101,99,114,101,116,32,76,97,98,115,32,65,66,32] 0), bt, (.bool false), (v "_sre" 271)]⟩ 0), ⟨[]⟩⟩
def o28 : OP:=fun P=>tu []
def o29 : OP:=fun P=>⟨.none, none, (.fields ⟨[(i 2), i0, (r 37), (i 9), i0, (r 49), (i 81), i0, (r 127), (i 133), i0, (r 227), (i 142), i0, (r 234), (i 144), i0, (r 241), (i 150), i0, (r 254), (i 188), i0, (r 262), (i 219), i0, (r 269), (i 229), i0, (r 276), (i 234), i0, (r 283), (i 241), i0, (r 288), (i 255), i0, (r 293), (i 260), i0, (r 300), (i 264), i0, (r 305)]⟩), ⟨[]⟩⟩
def o30 : OP:=fun P=>co [(v "<module>" 277), (v "<module>" 278), (v "/claim/cut.py" 279), (i 1), i0, i0, i0, i0, (r 28), (.bool false), (i 276), (r 29), .none, .none, .none, .none, (i 280), (i 1), (v "/claim/cut.py" 281)]
def o31 : OP:=fun P=>⟨(.type "frame"), none, .plain, ⟨[(some (r 30)), (some (r 3)), (some (r 3)), none, (some (v "__main__" 164)), none, (some (r 0))]⟩⟩
def o32 : OP:=fun P=>tu []
def o33 : OP:=fun P=>tb
def o34 : OP:=fun P=>tu [(v "k" 285)]
def o35 : OP:=fun P=>tu []
def o36 : OP:=fun P=>fn (fnD (topSt 1) (z "_wall") (z "_wall") 0 [] .none .none .none .none .none .none 0)
def o37 : OP:=fun P=>co [(v "_wall" 282), (v "_wall" 283), (v "/claim/cut.py" 284), (i 2), (i 1), i0, i0, (i 3), (r 32), bt, (i 276), (r 33), .none, (r 34), (r 35), (r 36), (i 286), (i 2), (v "/claim/cut.py" 287)]
def o38 : OP:=fun P=>ft (fnD (topSt 1) (z "_wall") (z "_wall") 3 [] .none .none .none (v "__main__" 164) (r 37) .none 0)
def o39 : OP:=fun P=>sq "list" [(.int 14 294), (.int 4 295), (.int 0 296), (.int 1 297), (.int 4294967295 298), (.int 17 299), (.int 0 300), (.int 24 301), (.int 11 302), (.int 1 303), (.int 4294967295 304), (.int 13 305), (.int 6 306), (.int 16 307), (.int 32 308), (.int 16 309), (.int 9 310), (.int 0 311), (.int 1 312), (.int 17 313), (.int 1 314), (.int 1 315)]
def o40 : OP:=fun P=>⟨(.type "dict"), none, (.dict ⟨[]⟩ 0), ⟨[]⟩⟩
def o41 : OP:=fun P=>tu [.none, .none]
def o42 : OP:=fun P=>tu [(i 14), (i 4), i0, (i 1), (i 4294967295), (i 17), i0, (i 24), (i 11), (i 1), (i 4294967295), (i 13), (i 6), (i 16), (i 32), (i 16), (i 9), i0, (i 1), (i 17), (i 1), (i 1)]
def o43 : OP:=fun P=>fi "re.Pattern" [(v "([ \t]+)" 292), (.int 32 317), (i 1), .none, .none, (r 42), i0]
def o44 : OP:=fun P=>tu []
def o45 : OP:=fun P=>fi "builtin_function_or_method" [(.builtin "type.__prepare__"), (.type "type")]
def o46 : OP:=fun P=>⟨(.type "dict"), none, (.dict ⟨[e P "__module__" 330 (v "cpy313.email.header" 289), e P "__qualname__" 332 (v "_ValueFormatter" 331), e P "__firstlineno__" 334 (.int 9 333), e P "__init__" 345 (r 57), e P "_str" 353 (r 64), e P "__str__" 360 (r 71), e P "newline" 368 (r 78), e P "add_transition" 375 (r 85), e P "feed" 385 (r 92), e P "_maxlengths" 392 (r 99), e P "_ascii_split" 404 (r 106), e P "_append_chunk" 418 (r 113), e P "__static_attributes__" 425 (r 114)]⟩ 13), ⟨[]⟩⟩
def o47 : OP:=fun P=>tu []
def o48 : OP:=fun P=>⟨.none, none, (.fields ⟨[(i 11), (i 4), (r 56), (i 19), (i 4), (r 63), (i 23), (i 4), (r 70), (i 26), (i 4), (r 77), (i 37), (i 4), (r 84), (i 40), (i 4), (r 91), (i 43), (i 4), (r 98), (i 46), (i 4), (r 105), (i 55), (i 4), (r 112)]⟩), ⟨[]⟩⟩
def o49 : OP:=fun P=>co [(v "_ValueFormatter" 325), (v "_ValueFormatter" 326), (v "/claim/cut.py" 327), (i 9), i0, i0, i0, i0, (r 47), (.bool false), (i 276), (r 48), .none, .none, .none, .none, (i 328), (i 9), (v "/claim/cut.py" 329)]
def o50 : OP:=fun P=>⟨(.type "frame"), none, .plain, ⟨[(some (r 49)), (some (r 3)), (some (r 46)), none, (some (v "cpy313.email.header" 289)), none, (some (r 0))]⟩⟩
def o51 : OP:=fun P=>tu []
def o52 : OP:=fun P=>tb
def o53 : OP:=fun P=>tu [(v "self" 338), (v "headerlen" 339), (v "maxlen" 340), (v "continuation_ws" 341), (v "splitchars" 342)]
def o54 : OP:=fun P=>tu []
def o55 : OP:=fun P=>fn (fnD (subSt 6 0) (z "__init__") (z "_ValueFormatter.__init__") 0 [] .none .none .none .none .none .none 0)
def o56 : OP:=fun P=>co [(v "__init__" 335), (v "_ValueFormatter.__init__" 336), (v "/claim/cut.py" 337), (i 11), (i 5), i0, i0, (i 3), (r 51), bt, (i 276), (r 52), .none, (r 53), (r 54), (r 55), (i 343), (i 11), (v "/claim/cut.py" 344)]
def o57 : OP:=fun P=>ft (fnD (subSt 6 0) (z "__init__") (z "_ValueFormatter.__init__") 3 [] .none .none .none (v "cpy313.email.header" 289) (r 56) .none 0)
def o58 : OP:=fun P=>tu []
def o59 : OP:=fun P=>tb
def o60 : OP:=fun P=>tu [(v "self" 349), (v "linesep" 350)]
def o61 : OP:=fun P=>tu []
def o62 : OP:=fun P=>fn (fnD (subSt 6 1) (z "_str") (z "_ValueFormatter._str") 0 [] .none .none .none .none .none .none 0)
def o63 : OP:=fun P=>co [(v "_str" 346), (v "_ValueFormatter._str" 347), (v "/claim/cut.py" 348), (i 19), (i 2), i0, i0, (i 3), (r 58), bt, (i 276), (r 59), .none, (r 60), (r 61), (r 62), (i 351), (i 19), (v "/claim/cut.py" 352)]
def o64 : OP:=fun P=>ft (fnD (subSt 6 1) (z "_str") (z "_ValueFormatter._str") 3 [] .none .none .none (v "cpy313.email.header" 289) (r 63) .none 0)
def o65 : OP:=fun P=>tu []
def o66 : OP:=fun P=>tb
def o67 : OP:=fun P=>tu [(v "self" 357)]
def o68 : OP:=fun P=>tu []
def o69 : OP:=fun P=>fn (fnD (subSt 6 2) (z "__str__") (z "_ValueFormatter.__str__") 0 [] .none .none .none .none .none .none 0)
def o70 : OP:=fun P=>co [(v "__str__" 354), (v "_ValueFormatter.__str__" 355), (v "/claim/cut.py" 356), (i 23), (i 1), i0, i0, (i 3), (r 65), bt, (i 276), (r 66), .none, (r 67), (r 68), (r 69), (i 358), (i 23), (v "/claim/cut.py" 359)]
def o71 : OP:=fun P=>ft (fnD (subSt 6 2) (z "__str__") (z "_ValueFormatter.__str__") 3 [] .none .none .none (v "cpy313.email.header" 289) (r 70) .none 0)
def o72 : OP:=fun P=>tu []
def o73 : OP:=fun P=>tb
def o74 : OP:=fun P=>tu [(v "self" 364), (v "end_of_line" 365)]
def o75 : OP:=fun P=>tu []
def o76 : OP:=fun P=>fn (fnD (subSt 6 3) (z "newline") (z "_ValueFormatter.newline") 0 [] .none .none .none .none .none .none 0)
def o77 : OP:=fun P=>co [(v "newline" 361), (v "_ValueFormatter.newline" 362), (v "/claim/cut.py" 363), (i 26), (i 1), i0, i0, (i 3), (r 72), bt, (i 276), (r 73), .none, (r 74), (r 75), (r 76), (i 366), (i 26), (v "/claim/cut.py" 367)]
def o78 : OP:=fun P=>ft (fnD (subSt 6 3) (z "newline") (z "_ValueFormatter.newline") 3 [] .none .none .none (v "cpy313.email.header" 289) (r 77) .none 0)
def o79 : OP:=fun P=>tu []
def o80 : OP:=fun P=>tb
def o81 : OP:=fun P=>tu [(v "self" 372)]
def o82 : OP:=fun P=>tu []
def o83 : OP:=fun P=>fn (fnD (subSt 6 4) (z "add_transition") (z "_ValueFormatter.add_transition") 0 [] .none .none .none .none .none .none 0)
def o84 : OP:=fun P=>co [(v "add_transition" 369), (v "_ValueFormatter.add_transition" 370), (v "/claim/cut.py" 371), (i 37), (i 1), i0, i0, (i 3), (r 79), bt, (i 276), (r 80), .none, (r 81), (r 82), (r 83), (i 373), (i 37), (v "/claim/cut.py" 374)]
def o85 : OP:=fun P=>ft (fnD (subSt 6 4) (z "add_transition") (z "_ValueFormatter.add_transition") 3 [] .none .none .none (v "cpy313.email.header" 289) (r 84) .none 0)
def o86 : OP:=fun P=>tu []
def o87 : OP:=fun P=>tb
def o88 : OP:=fun P=>tu [(v "self" 379), (v "fws" 380), (v "string" 381), (v "charset" 382)]
def o89 : OP:=fun P=>tu []
def o90 : OP:=fun P=>fn (fnD (subSt 6 5) (z "feed") (z "_ValueFormatter.feed") 0 [] .none .none .none .none .none .none 0)
def o91 : OP:=fun P=>co [(v "feed" 376), (v "_ValueFormatter.feed" 377), (v "/claim/cut.py" 378), (i 40), (i 4), i0, i0, (i 3), (r 86), bt, (i 276), (r 87), .none, (r 88), (r 89), (r 90), (i 383), (i 40), (v "/claim/cut.py" 384)]
def o92 : OP:=fun P=>ft (fnD (subSt 6 5) (z "feed") (z "_ValueFormatter.feed") 3 [] .none .none .none (v "cpy313.email.header" 289) (r 91) .none 0)
def o93 : OP:=fun P=>tu []
def o94 : OP:=fun P=>tb
def o95 : OP:=fun P=>tu [(v "self" 389)]
def o96 : OP:=fun P=>tu []
def o97 : OP:=fun P=>fn (fnD (subSt 6 6) (z "_maxlengths") (z "_ValueFormatter._maxlengths") 0 [] .none .none .none .none .none .none 0)
def o98 : OP:=fun P=>co [(v "_maxlengths" 386), (v "_ValueFormatter._maxlengths" 387), (v "/claim/cut.py" 388), (i 43), (i 1), i0, i0, (i 3), (r 93), bt, (i 276), (r 94), .none, (r 95), (r 96), (r 97), (i 390), (i 43), (v "/claim/cut.py" 391)]
def o99 : OP:=fun P=>ft (fnD (subSt 6 6) (z "_maxlengths") (z "_ValueFormatter._maxlengths") 3 [] .none .none .none (v "cpy313.email.header" 289) (r 98) .none 0)
def o100 : OP:=fun P=>tu []
def o101 : OP:=fun P=>tb
def o102 : OP:=fun P=>tu [(v "self" 396), (v "fws" 397), (v "string" 398), (v "splitchars" 399), (v "parts" 400), (v "part" 401)]
def o103 : OP:=fun P=>tu []
def o104 : OP:=fun P=>fn (fnD (subSt 6 7) (z "_ascii_split") (z "_ValueFormatter._ascii_split") 0 [] .none .none .none .none .none .none 0)
def o105 : OP:=fun P=>co [(v "_ascii_split" 393), (v "_ValueFormatter._ascii_split" 394), (v "/claim/cut.py" 395), (i 46), (i 4), i0, i0, (i 3), (r 100), bt, (i 276), (r 101), .none, (r 102), (r 103), (r 104), (i 402), (i 46), (v "/claim/cut.py" 403)]
def o106 : OP:=fun P=>ft (fnD (subSt 6 7) (z "_ascii_split") (z "_ValueFormatter._ascii_split") 3 [] .none .none .none (v "cpy313.email.header" 289) (r 105) .none 0)
def o107 : OP:=fun P=>tu []
def o108 : OP:=fun P=>tb
def o109 : OP:=fun P=>tu [(v "self" 408), (v "fws" 409), (v "string" 410), (v "ch" 411), (v "i" 412), (v "prevpart" 413), (v "part" 414), (v "remainder" 415)]
def o110 : OP:=fun P=>tu []
def o111 : OP:=fun P=>fn (fnD (subSt 6 8) (z "_append_chunk") (z "_ValueFormatter._append_chunk") 0 [] .none .none .none .none .none .none 0)
def o112 : OP:=fun P=>co [(v "_append_chunk" 405), (v "_ValueFormatter._append_chunk" 406), (v "/claim/cut.py" 407), (i 55), (i 3), i0, i0, (i 3), (r 107), bt, (i 276), (r 108), .none, (r 109), (r 110), (r 111), (i 416), (i 55), (v "/claim/cut.py" 417)]
def o113 : OP:=fun P=>ft (fnD (subSt 6 8) (z "_append_chunk") (z "_ValueFormatter._append_chunk") 3 [] .none .none .none (v "cpy313.email.header" 289) (r 112) .none 0)
def o114 : OP:=fun P=>tu [(v "_continuation_ws" 419), (v "_continuation_ws_len" 420), (v "_current_line" 421), (v "_lines" 422), (v "_maxlen" 423), (v "_splitchars" 424)]
def o115 : OP:=fun P=>⟨(.type "dict"), none, (.dict ⟨[e P "__module__" 330 (v "cpy313.email.header" 289), e P "__firstlineno__" 334 (.int 9 333), e P "__init__" 345 (r 57), e P "_str" 353 (r 64), e P "__str__" 360 (r 71), e P "newline" 368 (r 78), e P "add_transition" 375 (r 85), e P "feed" 385 (r 92), e P "_maxlengths" 392 (r 99), e P "_ascii_split" 404 (r 106), e P "_append_chunk" 418 (r 113), e P "__static_attributes__" 425 (r 114), e P "__dict__" 427 (r 117), e P "__weakref__" 429 (r 118), e P "__doc__" 430 .none]⟩ 4), ⟨[]⟩⟩
def o116 : OP:=fun P=>⟨(.type "type"), none, (.cls { name:=(z "_ValueFormatter"), bases:=[(.type "object")], mro:=[(r 116), (.type "object")], ns:=115, qualname:=(z "_ValueFormatter"), hasDict:=true, slotNames:=[], subclasses:=[], abstract:=false, collection:=none, hasDel:=false }), ⟨[none, none, (some (v "_ValueFormatter" 323)), (some (v "_ValueFormatter" 331)), (some (.builtin "object.__new__")), (some bt)]⟩⟩
def o117 : OP:=fun P=>fi "getset_descriptor" [(v "__dict__" 426), (r 116), (.builtin "function.__dict__"), (.builtin "function.__dict__#set")]
def o118 : OP:=fun P=>fi "getset_descriptor" [(v "__weakref__" 428), (r 116), (.builtin "ExceptionGroup.__weakref__"), .none]
def o119 : OP:=fun P=>fi "super" [(r 116), (r 116), (r 116)]
def o120 : OP:=fun P=>fi "builtin_function_or_method" [(.builtin "object.__init_subclass__"), (r 116)]
def o121 : OP:=fun P=>tu [(.type "list")]
def o122 : OP:=fun P=>fi "builtin_function_or_method" [(.builtin "type.__prepare__"), (.type "type")]
def o123 : OP:=fun P=>⟨(.type "dict"), none, (.dict ⟨[e P "__module__" 440 (v "cpy313.email.header" 289), e P "__qualname__" 442 (v "_Accumulator" 441), e P "__firstlineno__" 444 (.int 81 443), e P "__init__" 454 (r 137), e P "push" 463 (r 144), e P "pop_from" 473 (r 152), e P "pop" 481 (r 160), e P "__len__" 488 (r 167), e P "__str__" 495 (r 174), e P "reset" 503 (r 182), e P "is_onlyws" 510 (r 189), e P "part_count" 518 (r 197), e P "__static_attributes__" 520 (r 198), e P "__classcell__" 521 (r 124)]⟩ 14), ⟨[]⟩⟩
def o124 : OP:=fun P=>⟨(.type "cell"), none, (.cell (some (r 200))), ⟨[]⟩⟩
def o125 : OP:=fun P=>tu []
def o126 : OP:=fun P=>⟨.none, none, (.fields ⟨[(i 83), (i 4), (r 136), (i 87), (i 4), (r 143), (i 90), (i 4), (r 151), (i 95), (i 4), (r 159), (i 100), (i 4), (r 166), (i 103), (i 4), (r 173), (i 106), (i 4), (r 181), (i 112), (i 4), (r 188), (i 115), (i 4), (r 196)]⟩), ⟨[]⟩⟩
def o127 : OP:=fun P=>co [(v "_Accumulator" 435), (v "_Accumulator" 436), (v "/claim/cut.py" 437), (i 81), i0, i0, i0, i0, (r 125), (.bool false), (i 276), (r 126), .none, .none, .none, .none, (i 438), (i 81), (v "/claim/cut.py" 439)]
def o128 : OP:=fun P=>⟨(.type "frame"), none, .plain, ⟨[(some (r 127)), (some (r 3)), (some (r 123)), none, (some (v "cpy313.email.header" 289)), none, (some (r 0))]⟩⟩
def o129 : OP:=fun P=>tu [(.int 0 445)]
def o130 : OP:=fun P=>tu [(r 124)]
def o131 : OP:=fun P=>tu [(v "__class__" 449)]
def o132 : OP:=fun P=>tb
def o133 : OP:=fun P=>tu [(v "self" 450), (v "initial_size" 451)]
def o134 : OP:=fun P=>tu []
def o135 : OP:=fun P=>fn (fnD (subSt 7 0) (z "__init__") (z "_Accumulator.__init__") 0 [] .none .none .none .none .none .none 0)
def o136 : OP:=fun P=>co [(v "__init__" 446), (v "_Accumulator.__init__" 447), (v "/claim/cut.py" 448), (i 83), (i 2), i0, i0, (i 3), (r 131), bt, (i 276), (r 132), .none, (r 133), (r 134), (r 135), (i 452), (i 83), (v "/claim/cut.py" 453)]
def o137 : OP:=fun P=>ft (fnD (subSt 7 0) (z "__init__") (z "_Accumulator.__init__") 3 [((z "__class__"), 124)] (r 129) .none .none (v "cpy313.email.header" 289) (r 136) (r 130) 0)
def o138 : OP:=fun P=>tu []
def o139 : OP:=fun P=>tb
def o140 : OP:=fun P=>tu [(v "self" 458), (v "fws" 459), (v "string" 460)]
def o141 : OP:=fun P=>tu []
def o142 : OP:=fun P=>fn (fnD (subSt 7 1) (z "push") (z "_Accumulator.push") 0 [] .none .none .none .none .none .none 0)
def o143 : OP:=fun P=>co [(v "push" 455), (v "_Accumulator.push" 456), (v "/claim/cut.py" 457), (i 87), (i 3), i0, i0, (i 3), (r 138), bt, (i 276), (r 139), .none, (r 140), (r 141), (r 142), (i 461), (i 87), (v "/claim/cut.py" 462)]
def o144 : OP:=fun P=>ft (fnD (subSt 7 1) (z "push") (z "_Accumulator.push") 3 [] .none .none .none (v "cpy313.email.header" 289) (r 143) .none 0)
def o145 : OP:=fun P=>tu [(.int 0 464)]
def o146 : OP:=fun P=>tu []
def o147 : OP:=fun P=>tb
def o148 : OP:=fun P=>tu [(v "self" 468), (v "i" 469), (v "popped" 470)]
def o149 : OP:=fun P=>tu []
def o150 : OP:=fun P=>fn (fnD (subSt 7 2) (z "pop_from") (z "_Accumulator.pop_from") 0 [] .none .none .none .none .none .none 0)
def o151 : OP:=fun P=>co [(v "pop_from" 465), (v "_Accumulator.pop_from" 466), (v "/claim/cut.py" 467), (i 90), (i 2), i0, i0, (i 3), (r 146), bt, (i 276), (r 147), .none, (r 148), (r 149), (r 150), (i 471), (i 90), (v "/claim/cut.py" 472)]
def o152 : OP:=fun P=>ft (fnD (subSt 7 2) (z "pop_from") (z "_Accumulator.pop_from") 3 [] (r 145) .none .none (v "cpy313.email.header" 289) (r 151) .none 0)
def o153 : OP:=fun P=>tu [(r 124)]
def o154 : OP:=fun P=>tu [(v "__class__" 477)]
def o155 : OP:=fun P=>tb
def o156 : OP:=fun P=>tu [(v "self" 478)]
def o157 : OP:=fun P=>tu []
def o158 : OP:=fun P=>fn (fnD (subSt 7 3) (z "pop") (z "_Accumulator.pop") 0 [] .none .none .none .none .none .none 0)
def o159 : OP:=fun P=>co [(v "pop" 474), (v "_Accumulator.pop" 475), (v "/claim/cut.py" 476), (i 95), (i 1), i0, i0, (i 3), (r 154), bt, (i 276), (r 155), .none, (r 156), (r 157), (r 158), (i 479), (i 95), (v "/claim/cut.py" 480)]
def o160 : OP:=fun P=>ft (fnD (subSt 7 3) (z "pop") (z "_Accumulator.pop") 3 [((z "__class__"), 124)] .none .none .none (v "cpy313.email.header" 289) (r 159) (r 153) 0)
def o161 : OP:=fun P=>tu []
def o162 : OP:=fun P=>tb
def o163 : OP:=fun P=>tu [(v "self" 485)]
def o164 : OP:=fun P=>tu []
def o165 : OP:=fun P=>fn (fnD (subSt 7 4) (z "__len__") (z "_Accumulator.__len__") 0 [] .none .none .none .none .none .none 0)
def o166 : OP:=fun P=>co [(v "__len__" 482), (v "_Accumulator.__len__" 483), (v "/claim/cut.py" 484), (i 100), (i 1), i0, i0, (i 3), (r 161), bt, (i 276), (r 162), .none, (r 163), (r 164), (r 165), (i 486), (i 100), (v "/claim/cut.py" 487)]
def o167 : OP:=fun P=>ft (fnD (subSt 7 4) (z "__len__") (z "_Accumulator.__len__") 3 [] .none .none .none (v "cpy313.email.header" 289) (r 166) .none 0)
def o168 : OP:=fun P=>tu []
def o169 : OP:=fun P=>tb
def o170 : OP:=fun P=>tu [(v "self" 492)]
def o171 : OP:=fun P=>tu []
def o172 : OP:=fun P=>fn (fnD (subSt 7 5) (z "__str__") (z "_Accumulator.__str__") 0 [] .none .none .none .none .none .none 0)
def o173 : OP:=fun P=>co [(v "__str__" 489), (v "_Accumulator.__str__" 490), (v "/claim/cut.py" 491), (i 103), (i 1), i0, i0, (i 3), (r 168), bt, (i 276), (r 169), .none, (r 170), (r 171), (r 172), (i 493), (i 103), (v "/claim/cut.py" 494)]
def o174 : OP:=fun P=>ft (fnD (subSt 7 5) (z "__str__") (z "_Accumulator.__str__") 3 [] .none .none .none (v "cpy313.email.header" 289) (r 173) .none 0)
def o175 : OP:=fun P=>tu [.none]
def o176 : OP:=fun P=>tu []
def o177 : OP:=fun P=>tb
def o178 : OP:=fun P=>tu [(v "self" 499), (v "startval" 500)]
def o179 : OP:=fun P=>tu []
def o180 : OP:=fun P=>fn (fnD (subSt 7 6) (z "reset") (z "_Accumulator.reset") 0 [] .none .none .none .none .none .none 0)
def o181 : OP:=fun P=>co [(v "reset" 496), (v "_Accumulator.reset" 497), (v "/claim/cut.py" 498), (i 106), (i 2), i0, i0, (i 3), (r 176), bt, (i 276), (r 177), .none, (r 178), (r 179), (r 180), (i 501), (i 106), (v "/claim/cut.py" 502)]
def o182 : OP:=fun P=>ft (fnD (subSt 7 6) (z "reset") (z "_Accumulator.reset") 3 [] (r 175) .none .none (v "cpy313.email.header" 289) (r 181) .none 0)
def o183 : OP:=fun P=>tu []
def o184 : OP:=fun P=>tb
def o185 : OP:=fun P=>tu [(v "self" 507)]
def o186 : OP:=fun P=>tu []
def o187 : OP:=fun P=>fn (fnD (subSt 7 7) (z "is_onlyws") (z "_Accumulator.is_onlyws") 0 [] .none .none .none .none .none .none 0)
def o188 : OP:=fun P=>co [(v "is_onlyws" 504), (v "_Accumulator.is_onlyws" 505), (v "/claim/cut.py" 506), (i 112), (i 1), i0, i0, (i 3), (r 183), bt, (i 276), (r 184), .none, (r 185), (r 186), (r 187), (i 508), (i 112), (v "/claim/cut.py" 509)]
def o189 : OP:=fun P=>ft (fnD (subSt 7 7) (z "is_onlyws") (z "_Accumulator.is_onlyws") 3 [] .none .none .none (v "cpy313.email.header" 289) (r 188) .none 0)
def o190 : OP:=fun P=>tu [(r 124)]
def o191 : OP:=fun P=>tu [(v "__class__" 514)]
def o192 : OP:=fun P=>tb
def o193 : OP:=fun P=>tu [(v "self" 515)]
def o194 : OP:=fun P=>tu []
def o195 : OP:=fun P=>fn (fnD (subSt 7 8) (z "part_count") (z "_Accumulator.part_count") 0 [] .none .none .none .none .none .none 0)
def o196 : OP:=fun P=>co [(v "part_count" 511), (v "_Accumulator.part_count" 512), (v "/claim/cut.py" 513), (i 115), (i 1), i0, i0, (i 3), (r 191), bt, (i 276), (r 192), .none, (r 193), (r 194), (r 195), (i 516), (i 115), (v "/claim/cut.py" 517)]
def o197 : OP:=fun P=>ft (fnD (subSt 7 8) (z "part_count") (z "_Accumulator.part_count") 3 [((z "__class__"), 124)] .none .none .none (v "cpy313.email.header" 289) (r 196) (r 190) 0)
def o198 : OP:=fun P=>tu [(v "_initial_size" 519)]
def o199 : OP:=fun P=>⟨(.type "dict"), none, (.dict ⟨[e P "__module__" 440 (v "cpy313.email.header" 289), e P "__firstlineno__" 444 (.int 81 443), e P "__init__" 454 (r 137), e P "push" 463 (r 144), e P "pop_from" 473 (r 152), e P "pop" 481 (r 160), e P "__len__" 488 (r 167), e P "__str__" 495 (r 174), e P "reset" 503 (r 182), e P "is_onlyws" 510 (r 189), e P "part_count" 518 (r 197), e P "__static_attributes__" 520 (r 198), e P "__dict__" 523 (r 201), e P "__weakref__" 525 (r 202), e P "__doc__" 526 .none]⟩ 5), ⟨[]⟩⟩
def o200 : OP:=fun P=>⟨(.type "type"), none, (.cls { name:=(z "_Accumulator"), bases:=[(.type "list")], mro:=[(r 200), (.type "list"), (.type "object")], ns:=199, qualname:=(z "_Accumulator"), hasDict:=true, slotNames:=[], subclasses:=[], abstract:=false, collection:=none, hasDel:=false }), ⟨[(some (r 121)), none, (some (v "_Accumulator" 433)), (some (v "_Accumulator" 441)), (some (.builtin "list.__new__")), (some bt)]⟩⟩
def o201 : OP:=fun P=>fi "getset_descriptor" [(v "__dict__" 522), (r 200), (.builtin "function.__dict__"), (.builtin "function.__dict__#set")]
def o202 : OP:=fun P=>fi "getset_descriptor" [(v "__weakref__" 524), (r 200), (.builtin "ExceptionGroup.__weakref__"), .none]
def o203 : OP:=fun P=>fi "super" [(r 200), (r 200), (r 200)]
def o204 : OP:=fun P=>fi "builtin_function_or_method" [(.builtin "object.__init_subclass__"), (r 200)]
def o205 : OP:=fun P=>fi "range" [(.int 0 534), (.int 256 533), (.int 1 535)]
def o206 : OP:=fun P=>fi "range_iterator" [(i 256), i0, (i 1)]
def o207 : OP:=fun P=>⟨(.type "list"), none, (.seq ⟨[(v "=00" 539), (v "=01" 543), (v "=02" 547), (v "=03" 551), (v "=04" 555), (v "=05" 559), (v "=06" 563), (v "=07" 567), (v "=08" 571), (v "=09" 575), (v "=0A" 579), (v "=0B" 583), (v "=0C" 587), (v "=0D" 591), (v "=0E" 595), (v "=0F" 599), (v "=10" 603), (v "=11" 607), (v "=12" 611), (v "=13" 615), (v "=14" 619), (v "=15" 623), (v "=16" 627), (v "=17" 631), (v "=18" 635), (v "=19" 639), (v "=1A" 643), (v "=1B" 647), (v "=1C" 651), (v "=1D" 655), (v "=1E" 659), (v "=1F" 663), (v "=20" 667), (v "=21" 671), (v "=22" 675), (v "=23" 679), (v "=24" 683), (v "=25" 687), (v "=26" 691), (v "=27" 695), (v "=28" 699), (v "=29" 703), (v "=2A" 707), (v "=2B" 711), (v "=2C" 715), (v "=2D" 719), (v "=2E" 723), (v "=2F" 727), (v "=30" 731), (v "=31" 735), (v "=32" 739), (v "=33" 743), (v "=34" 747), (v "=35" 751), (v "=36" 755), (v "=37" 759), (v "=38" 763), (v "=39" 767), (v "=3A" 771), (v "=3B" 775), (v "=3C" 779), (v "=3D" 783), (v "=3E" 787), (v "=3F" 791), (v "=40" 795), (v "=41" 799), (v "=42" 803), (v "=43" 807), (v "=44" 811), (v "=45" 815), (v "=46" 819), (v "=47" 823), (v "=48" 827), (v "=49" 831), (v "=4A" 835), (v "=4B" 839), (v "=4C" 843), (v "=4D" 847), (v "=4E" 851), (v "=4F" 855), (v "=50" 859), (v "=51" 863), (v "=52" 867), (v "=53" 871), (v "=54" 875), (v "=55" 879), (v "=56" 883), (v "=57" 887), (v "=58" 891), (v "=59" 895), (v "=5A" 899), (v "=5B" 903), (v "=5C" 907), (v "=5D" 911), (v "=5E" 915), (v "=5F" 919), (v "=60" 923), (v "=61" 927), (v "=62" 931), (v "=63" 935), (v "=64" 939), (v "=65" 943), (v "=66" 947), (v "=67" 951), (v "=68" 955), (v "=69" 959), (v "=6A" 963), (v "=6B" 967), (v "=6C" 971), (v "=6D" 975), (v "=6E" 979), (v "=6F" 983), (v "=70" 987), (v "=71" 991), (v "=72" 995), (v "=73" 999), (v "=74" 1003), (v "=75" 1007), (v "=76" 1011), (v "=77" 1015), (v "=78" 1019), (v "=79" 1023), (v "=7A" 1027), (v "=7B" 1031), (v "=7C" 1035), (v "=7D" 1039), (v "=7E" 1043), (v "=7F" 1047), (v "=80" 1051), (v "=81" 1055), (v "=82" 1059), (v "=83" 1063), (v "=84" 1067), (v "=85" 1071), (v "=86" 1075), (v "=87" 1079), (v "=88" 1083), (v "=89" 1087), (v "=8A" 1091), (v "=8B" 1095), (v "=8C" 1099), (v "=8D" 1103), (v "=8E" 1107), (v "=8F" 1111), (v "=90" 1115), (v "=91" 1119), (v "=92" 1123), (v "=93" 1127), (v "=94" 1131), (v "=95" 1135), (v "=96" 1139), (v "=97" 1143), (v "=98" 1147), (v "=99" 1151), (v "=9A" 1155), (v "=9B" 1159), (v "=9C" 1163), (v "=9D" 1167), (v "=9E" 1171), (v "=9F" 1175), (v "=A0" 1179), (v "=A1" 1183), (v "=A2" 1187), (v "=A3" 1191), (v "=A4" 1195), (v "=A5" 1199), (v "=A6" 1203), (v "=A7" 1207), (v "=A8" 1211), (v "=A9" 1215), (v "=AA" 1219), (v "=AB" 1223), (v "=AC" 1227), (v "=AD" 1231), (v "=AE" 1235), (v "=AF" 1239), (v "=B0" 1243), (v "=B1" 1247), (v "=B2" 1251), (v "=B3" 1255), (v "=B4" 1259), (v "=B5" 1263), (v "=B6" 1267), (v "=B7" 1271), (v "=B8" 1275), (v "=B9" 1279), (v "=BA" 1283), (v "=BB" 1287), (v "=BC" 1291), (v "=BD" 1295), (v "=BE" 1299), (v "=BF" 1303), (v "=C0" 1307), (v "=C1" 1311), (v "=C2" 1315), (v "=C3" 1319), (v "=C4" 1323), (v "=C5" 1327), (v "=C6" 1331), (v "=C7" 1335), (v "=C8" 1339), (v "=C9" 1343), (v "=CA" 1347), (v "=CB" 1351), (v "=CC" 1355), (v "=CD" 1359), (v "=CE" 1363), (v "=CF" 1367), (v "=D0" 1371), (v "=D1" 1375), (v "=D2" 1379), (v "=D3" 1383), (v "=D4" 1387), (v "=D5" 1391), (v "=D6" 1395), (v "=D7" 1399), (v "=D8" 1403), (v "=D9" 1407), (v "=DA" 1411), (v "=DB" 1415), (v "=DC" 1419), (v "=DD" 1423), (v "=DE" 1427), (v "=DF" 1431), (v "=E0" 1435), (v "=E1" 1439), (v "=E2" 1443), (v "=E3" 1447), (v "=E4" 1451), (v "=E5" 1455), (v "=E6" 1459), (v "=E7" 1463), (v "=E8" 1467), (v "=E9" 1471), (v "=EA" 1475), (v "=EB" 1479), (v "=EC" 1483), (v "=ED" 1487), (v "=EE" 1491), (v "=EF" 1495), (v "=F0" 1499), (v "=F1" 1503), (v "=F2" 1507), (v "=F3" 1511), (v "=F4" 1515), (v "=F5" 1519), (v "=F6" 1523), (v "=F7" 1527), (v "=F8" 1531), (v "=F9" 1535), (v "=FA" 1539), (v "=FB" 1543), (v "=FC" 1547), (v "=FD" 1551), (v "=FE" 1555), (v "=FF" 1559)]⟩ 256), ⟨[]⟩⟩
def o208 : OP:=fun P=>⟨(.type "dict"), none, (.dict ⟨[]⟩ 2), ⟨[]⟩⟩
def o209 : OP:=fun P=>tu []
def o210 : OP:=fun P=>fi "StopIteration" [(r 209), .none, .none, .none, (.bool false), .none]
def o211 : OP:=fun P=>fi "slice" [.none, .none, .none]
def o212 : OP:=fun P=>sq "list" [(v "=00" 539), (v "=01" 543), (v "=02" 547), (v "=03" 551), (v "=04" 555), (v "=05" 559), (v "=06" 563), (v "=07" 567), (v "=08" 571), (v "=09" 575), (v "=0A" 579), (v "=0B" 583), (v "=0C" 587), (v "=0D" 591), (v "=0E" 595), (v "=0F" 599), (v "=10" 603), (v "=11" 607), (v "=12" 611), (v "=13" 615), (v "=14" 619), (v "=15" 623), (v "=16" 627), (v "=17" 631), (v "=18" 635), (v "=19" 639), (v "=1A" 643), (v "=1B" 647), (v "=1C" 651), (v "=1D" 655), (v "=1E" 659), (v "=1F" 663), (v "_" 1786), (v "!" 1590), (v "=22" 675), (v "=23" 679), (v "=24" 683), (v "=25" 687), (v "=26" 691), (v "=27" 695), (v "=28" 699), (v "=29" 703), (v "*" 1593), (v "+" 1596), (v "=2C" 715), (v "-" 1587), (v "=2E" 723), (v "/" 1599), (v "0" 1758), (v "1" 1761), (v "2" 1764), (v "3" 1767), (v "4" 1770), (v "5" 1773), (v "6" 1776), (v "7" 1779), (v "8" 1782), (v "9" 1785), (v "=3A" 771), (v "=3B" 775), (v "=3C" 779), (v "=3D" 783), (v "=3E" 787), (v "=3F" 791), (v "=40" 795), (v "A" 1680), (v "B" 1683), (v "C" 1686), (v "D" 1689), (v "E" 1692), (v "F" 1695), (v "G" 1698), (v "H" 1701), (v "I" 1704), (v "J" 1707), (v "K" 1710), (v "L" 1713), (v "M" 1716), (v "N" 1719), (v "O" 1722), (v "P" 1725), (v "Q" 1728), (v "R" 1731), (v "S" 1734), (v "T" 1737), (v "U" 1740), (v "V" 1743), (v "W" 1746), (v "X" 1749), (v "Y" 1752), (v "Z" 1755), (v "=5B" 903), (v "=5C" 907), (v "=5D" 911), (v "=5E" 915), (v "=5F" 919), (v "=60" 923), (v "a" 1602), (v "b" 1605), (v "c" 1608), (v "d" 1611), (v "e" 1614), (v "f" 1617), (v "g" 1620), (v "h" 1623), (v "i" 1626), (v "j" 1629), (v "k" 1632), (v "l" 1635), (v "m" 1638), (v "n" 1641), (v "o" 1644), (v "p" 1647), (v "q" 1650), (v "r" 1653), (v "s" 1656), (v "t" 1659), (v "u" 1662), (v "v" 1665), (v "w" 1668), (v "x" 1671), (v "y" 1674), (v "z" 1677), (v "=7B" 1031), (v "=7C" 1035), (v "=7D" 1039), (v "=7E" 1043), (v "=7F" 1047), (v "=80" 1051), (v "=81" 1055), (v "=82" 1059), (v "=83" 1063), (v "=84" 1067), (v "=85" 1071), (v "=86" 1075), (v "=87" 1079), (v "=88" 1083), (v "=89" 1087), (v "=8A" 1091), (v "=8B" 1095), (v "=8C" 1099), (v "=8D" 1103), (v "=8E" 1107), (v "=8F" 1111), (v "=90" 1115), (v "=91" 1119), (v "=92" 1123), (v "=93" 1127), (v "=94" 1131), (v "=95" 1135), (v "=96" 1139), (v "=97" 1143), (v "=98" 1147), (v "=99" 1151), (v "=9A" 1155), (v "=9B" 1159), (v "=9C" 1163), (v "=9D" 1167), (v "=9E" 1171), (v "=9F" 1175), (v "=A0" 1179), (v "=A1" 1183), (v "=A2" 1187), (v "=A3" 1191), (v "=A4" 1195), (v "=A5" 1199), (v "=A6" 1203), (v "=A7" 1207), (v "=A8" 1211), (v "=A9" 1215), (v "=AA" 1219), (v "=AB" 1223), (v "=AC" 1227), (v "=AD" 1231), (v "=AE" 1235), (v "=AF" 1239), (v "=B0" 1243), (v "=B1" 1247), (v "=B2" 1251), (v "=B3" 1255), (v "=B4" 1259), (v "=B5" 1263), (v "=B6" 1267), (v "=B7" 1271), (v "=B8" 1275), (v "=B9" 1279), (v "=BA" 1283), (v "=BB" 1287), (v "=BC" 1291), (v "=BD" 1295), (v "=BE" 1299), (v "=BF" 1303), (v "=C0" 1307), (v "=C1" 1311), (v "=C2" 1315), (v "=C3" 1319), (v "=C4" 1323), (v "=C5" 1327), (v "=C6" 1331), (v "=C7" 1335), (v "=C8" 1339), (v "=C9" 1343), (v "=CA" 1347), (v "=CB" 1351), (v "=CC" 1355), (v "=CD" 1359), (v "=CE" 1363), (v "=CF" 1367), (v "=D0" 1371), (v "=D1" 1375), (v "=D2" 1379), (v "=D3" 1383), (v "=D4" 1387), (v "=D5" 1391), (v "=D6" 1395), (v "=D7" 1399), (v "=D8" 1403), (v "=D9" 1407), (v "=DA" 1411), (v "=DB" 1415), (v "=DC" 1419), (v "=DD" 1423), (v "=DE" 1427), (v "=DF" 1431), (v "=E0" 1435), (v "=E1" 1439), (v "=E2" 1443), (v "=E3" 1447), (v "=E4" 1451), (v "=E5" 1455), (v "=E6" 1459), (v "=E7" 1463), (v "=E8" 1467), (v "=E9" 1471), (v "=EA" 1475), (v "=EB" 1479), (v "=EC" 1483), (v "=ED" 1487), (v "=EE" 1491), (v "=EF" 1495), (v "=F0" 1499), (v "=F1" 1503), (v "=F2" 1507), (v "=F3" 1511), (v "=F4" 1515), (v "=F5" 1519), (v "=F6" 1523), (v "=F7" 1527), (v "=F8" 1531), (v "=F9" 1535), (v "=FA" 1539), (v "=FB" 1543), (v "=FC" 1547), (v "=FD" 1551), (v "=FE" 1555), (v "=FF" 1559)]
def o213 : OP:=fun P=>fi "slice" [.none, .none, .none]
def o214 : OP:=fun P=>sq "list" [(v "=00" 539), (v "=01" 543), (v "=02" 547), (v "=03" 551), (v "=04" 555), (v "=05" 559), (v "=06" 563), (v "=07" 567), (v "=08" 571), (v "\t" 2074), (v "=0A" 579), (v "=0B" 583), (v "=0C" 587), (v "=0D" 591), (v "=0E" 595), (v "=0F" 599), (v "=10" 603), (v "=11" 607), (v "=12" 611), (v "=13" 615), (v "=14" 619), (v "=15" 623), (v "=16" 627), (v "=17" 631), (v "=18" 635), (v "=19" 639), (v "=1A" 643), (v "=1B" 647), (v "=1C" 651), (v "=1D" 655), (v "=1E" 659), (v "=1F" 663), (v " " 1792), (v "!" 1795), (v "\"" 1798), (v "#" 1801), (v "$" 1804), (v "%" 1807), (v "&" 1810), (v "'" 1813), (v "(" 1816), (v ")" 1819), (v "*" 1822), (v "+" 1825), (v "," 1828), (v "-" 1831), (v "." 1834), (v "/" 1837), (v "0" 1840), (v "1" 1843), (v "2" 1846), (v "3" 1849), (v "4" 1852), (v "5" 1855), (v "6" 1858), (v "7" 1861), (v "8" 1864), (v "9" 1867), (v ":" 1870), (v ";" 1873), (v "<" 1876), (v "=3D" 783), (v ">" 1879), (v "?" 1882), (v "@" 1885), (v "A" 1888), (v "B" 1891), (v "C" 1894), (v "D" 1897), (v "E" 1900), (v "F" 1903), (v "G" 1906), (v "H" 1909), (v "I" 1912), (v "J" 1915), (v "K" 1918), (v "L" 1921), (v "M" 1924), (v "N" 1927), (v "O" 1930), (v "P" 1933), (v "Q" 1936), (v "R" 1939), (v "S" 1942), (v "T" 1945), (v "U" 1948), (v "V" 1951), (v "W" 1954), (v "X" 1957), (v "Y" 1960), (v "Z" 1963), (v "[" 1966), (v "\\" 1969), (v "]" 1972), (v "^" 1975), (v "_" 1978), (v "`" 1981), (v "a" 1984), (v "b" 1987), (v "c" 1990), (v "d" 1993), (v "e" 1996), (v "f" 1999), (v "g" 2002), (v "h" 2005), (v "i" 2008), (v "j" 2011), (v "k" 2014), (v "l" 2017), (v "m" 2020), (v "n" 2023), (v "o" 2026), (v "p" 2029), (v "q" 2032), (v "r" 2035), (v "s" 2038), (v "t" 2041), (v "u" 2044), (v "v" 2047), (v "w" 2050), (v "x" 2053), (v "y" 2056), (v "z" 2059), (v "{" 2062), (v "|" 2065), (v "}" 2068), (v "~" 2071), (v "=7F" 1047), (v "=80" 1051), (v "=81" 1055), (v "=82" 1059), (v "=83" 1063), (v "=84" 1067), (v "=85" 1071), (v "=86" 1075), (v "=87" 1079), (v "=88" 1083), (v "=89" 1087), (v "=8A" 1091), (v "=8B" 1095), (v "=8C" 1099), (v "=8D" 1103), (v "=8E" 1107), (v "=8F" 1111), (v "=90" 1115), (v "=91" 1119), (v "=92" 1123), (v "=93" 1127), (v "=94" 1131), (v "=95" 1135), (v "=96" 1139), (v "=97" 1143), (v "=98" 1147), (v "=99" 1151), (v "=9A" 1155), (v "=9B" 1159), (v "=9C" 1163), (v "=9D" 1167), (v "=9E" 1171), (v "=9F" 1175), (v "=A0" 1179), (v "=A1" 1183), (v "=A2" 1187), (v "=A3" 1191), (v "=A4" 1195), (v "=A5" 1199), (v "=A6" 1203), (v "=A7" 1207), (v "=A8" 1211), (v "=A9" 1215), (v "=AA" 1219), (v "=AB" 1223), (v "=AC" 1227), (v "=AD" 1231), (v "=AE" 1235), (v "=AF" 1239), (v "=B0" 1243), (v "=B1" 1247), (v "=B2" 1251), (v "=B3" 1255), (v "=B4" 1259), (v "=B5" 1263), (v "=B6" 1267), (v "=B7" 1271), (v "=B8" 1275), (v "=B9" 1279), (v "=BA" 1283), (v "=BB" 1287), (v "=BC" 1291), (v "=BD" 1295), (v "=BE" 1299), (v "=BF" 1303), (v "=C0" 1307), (v "=C1" 1311), (v "=C2" 1315), (v "=C3" 1319), (v "=C4" 1323), (v "=C5" 1327), (v "=C6" 1331), (v "=C7" 1335), (v "=C8" 1339), (v "=C9" 1343), (v "=CA" 1347), (v "=CB" 1351), (v "=CC" 1355), (v "=CD" 1359), (v "=CE" 1363), (v "=CF" 1367), (v "=D0" 1371), (v "=D1" 1375), (v "=D2" 1379), (v "=D3" 1383), (v "=D4" 1387), (v "=D5" 1391), (v "=D6" 1395), (v "=D7" 1399), (v "=D8" 1403), (v "=D9" 1407), (v "=DA" 1411), (v "=DB" 1415), (v "=DC" 1419), (v "=DD" 1423), (v "=DE" 1427), (v "=DF" 1431), (v "=E0" 1435), (v "=E1" 1439), (v "=E2" 1443), (v "=E3" 1447), (v "=E4" 1451), (v "=E5" 1455), (v "=E6" 1459), (v "=E7" 1463), (v "=E8" 1467), (v "=E9" 1471), (v "=EA" 1475), (v "=EB" 1479), (v "=EC" 1483), (v "=ED" 1487), (v "=EE" 1491), (v "=EF" 1495), (v "=F0" 1499), (v "=F1" 1503), (v "=F2" 1507), (v "=F3" 1511), (v "=F4" 1515), (v "=F5" 1519), (v "=F6" 1523), (v "=F7" 1527), (v "=F8" 1531), (v "=F9" 1535), (v "=FA" 1539), (v "=FB" 1543), (v "=FC" 1547), (v "=FD" 1551), (v "=FE" 1555), (v "=FF" 1559)]
def o215 : OP:=fun P=>fi "bytes_iterator" [.none, (i 67)]
def o216 : OP:=fun P=>tu []
def o217 : OP:=fun P=>fi "StopIteration" [(r 216), .none, .none, .none, (.bool false), .none]
def o218 : OP:=fun P=>fi "bytes_iterator" [.none, (i 95)]
def o219 : OP:=fun P=>tu []
def o220 : OP:=fun P=>fi "StopIteration" [(r 219), .none, .none, .none, (.bool false), .none]
def o221 : OP:=fun P=>tu [(v "" 2075)]
def o222 : OP:=fun P=>tu []
def o223 : OP:=fun P=>tb
def o224 : OP:=fun P=>tu [(v "L" 2079), (v "s" 2080), (v "maxlen" 2081), (v "extra" 2082)]
def o225 : OP:=fun P=>tu []
def o226 : OP:=fun P=>fn (fnD (topSt 22) (z "_max_append") (z "_max_append") 0 [] .none .none .none .none .none .none 0)
def o227 : OP:=fun P=>co [(v "_max_append" 2076), (v "_max_append" 2077), (v "/claim/cut.py" 2078), (i 133), (i 4), i0, i0, (i 3), (r 222), bt, (i 276), (r 223), .none, (r 224), (r 225), (r 226), (i 2083), (i 133), (v "/claim/cut.py" 2084)]
def o228 : OP:=fun P=>ft (fnD (topSt 22) (z "_max_append") (z "_max_append") 3 [] (r 221) .none .none (v "cpy313.email.quoprimime" 1576) (r 227) .none 0)
def o229 : OP:=fun P=>tu []
def o230 : OP:=fun P=>tb
def o231 : OP:=fun P=>tu [(v "s" 2089)]
def o232 : OP:=fun P=>tu []
def o233 : OP:=fun P=>fn (fnD (topSt 23) (z "unquote") (z "unquote") 0 [] .none .none .none .none .none .none 0)
def o234 : OP:=fun P=>co [(v "unquote" 2086), (v "unquote" 2087), (v "/claim/cut.py" 2088), (i 142), (i 1), i0, i0, (i 3), (r 229), bt, (i 276), (r 230), .none, (r 231), (r 232), (r 233), (i 2090), (i 142), (v "/claim/cut.py" 2091)]
def o235 : OP:=fun P=>ft (fnD (topSt 23) (z "unquote") (z "unquote") 3 [] .none .none .none (v "cpy313.email.quoprimime" 1576) (r 234) .none 0)
def o236 : OP:=fun P=>tu []
def o237 : OP:=fun P=>tb
def o238 : OP:=fun P=>tu [(v "c" 2096)]
def o239 : OP:=fun P=>tu []
def o240 : OP:=fun P=>fn (fnD (topSt 24) (z "quote") (z "quote") 0 [] .none .none .none .none .none .none 0)
def o241 : OP:=fun P=>co [(v "quote" 2093), (v "quote" 2094), (v "/claim/cut.py" 2095), (i 144), (i 1), i0, i0, (i 3), (r 236), bt, (i 276), (r 237), .none, (r 238), (r 239), (r 240), (i 2097), (i 144), (v "/claim/cut.py" 2098)]
def o242 : OP:=fun P=>ft (fnD (topSt 24) (z "quote") (z "quote") 3 [] .none .none .none (v "cpy313.email.quoprimime" 1576) (r 241) .none 0)
def o243 : OP:=fun P=>fi "slice" [.none, .none, .none]
def o244 : OP:=fun P=>sq "list" [(v "=00" 539), (v "=01" 543), (v "=02" 547), (v "=03" 551), (v "=04" 555), (v "=05" 559), (v "=06" 563), (v "=07" 567), (v "=08" 571), (v "\t" 2074), (v "\n" 2107), (v "=0B" 583), (v "=0C" 587), (v "\r" 2104), (v "=0E" 595), (v "=0F" 599), (v "=10" 603), (v "=11" 607), (v "=12" 611), (v "=13" 615), (v "=14" 619), (v "=15" 623), (v "=16" 627), (v "=17" 631), (v "=18" 635), (v "=19" 639), (v "=1A" 643), (v "=1B" 647), (v "=1C" 651), (v "=1D" 655), (v "=1E" 659), (v "=1F" 663), (v " " 1792), (v "!" 1795), (v "\"" 1798), (v "#" 1801), (v "$" 1804), (v "%" 1807), (v "&" 1810), (v "'" 1813), (v "(" 1816), (v ")" 1819), (v "*" 1822), (v "+" 1825), (v "," 1828), (v "-" 1831), (v "." 1834), (v "/" 1837), (v "0" 1840), (v "1" 1843), (v "2" 1846), (v "3" 1849), (v "4" 1852), (v "5" 1855), (v "6" 1858), (v "7" 1861), (v "8" 1864), (v "9" 1867), (v ":" 1870), (v ";" 1873), (v "<" 1876), (v "=3D" 783), (v ">" 1879), (v "?" 1882), (v "@" 1885), (v "A" 1888), (v "B" 1891), (v "C" 1894), (v "D" 1897), (v "E" 1900), (v "F" 1903), (v "G" 1906), (v "H" 1909), (v "I" 1912), (v "J" 1915), (v "K" 1918), (v "L" 1921), (v "M" 1924), (v "N" 1927), (v "O" 1930), (v "P" 1933), (v "Q" 1936), (v "R" 1939), (v "S" 1942), (v "T" 1945), (v "U" 1948), (v "V" 1951), (v "W" 1954), (v "X" 1957), (v "Y" 1960), (v "Z" 1963), (v "[" 1966), (v "\\" 1969), (v "]" 1972), (v "^" 1975), (v "_" 1978), (v "`" 1981), (v "a" 1984), (v "b" 1987), (v "c" 1990), (v "d" 1993), (v "e" 1996), (v "f" 1999), (v "g" 2002), (v "h" 2005), (v "i" 2008), (v "j" 2011), (v "k" 2014), (v "l" 2017), (v "m" 2020), (v "n" 2023), (v "o" 2026), (v "p" 2029), (v "q" 2032), (v "r" 2035), (v "s" 2038), (v "t" 2041), (v "u" 2044), (v "v" 2047), (v "w" 2050), (v "x" 2053), (v "y" 2056), (v "z" 2059), (v "{" 2062), (v "|" 2065), (v "}" 2068), (v "~" 2071), (v "=7F" 1047), (v "=80" 1051), (v "=81" 1055), (v "=82" 1059), (v "=83" 1063), (v "=84" 1067), (v "=85" 1071), (v "=86" 1075), (v "=87" 1079), (v "=88" 1083), (v "=89" 1087), (v "=8A" 1091), (v "=8B" 1095), (v "=8C" 1099), (v "=8D" 1103), (v "=8E" 1107), (v "=8F" 1111), (v "=90" 1115), (v "=91" 1119), (v "=92" 1123), (v "=93" 1127), (v "=94" 1131), (v "=95" 1135), (v "=96" 1139), (v "=97" 1143), (v "=98" 1147), (v "=99" 1151), (v "=9A" 1155), (v "=9B" 1159), (v "=9C" 1163), (v "=9D" 1167), (v "=9E" 1171), (v "=9F" 1175), (v "=A0" 1179), (v "=A1" 1183), (v "=A2" 1187), (v "=A3" 1191), (v "=A4" 1195), (v "=A5" 1199), (v "=A6" 1203), (v "=A7" 1207), (v "=A8" 1211), (v "=A9" 1215), (v "=AA" 1219), (v "=AB" 1223), (v "=AC" 1227), (v "=AD" 1231), (v "=AE" 1235), (v "=AF" 1239), (v "=B0" 1243), (v "=B1" 1247), (v "=B2" 1251), (v "=B3" 1255), (v "=B4" 1259), (v "=B5" 1263), (v "=B6" 1267), (v "=B7" 1271), (v "=B8" 1275), (v "=B9" 1279), (v "=BA" 1283), (v "=BB" 1287), (v "=BC" 1291), (v "=BD" 1295), (v "=BE" 1299), (v "=BF" 1303), (v "=C0" 1307), (v "=C1" 1311), (v "=C2" 1315), (v "=C3" 1319), (v "=C4" 1323), (v "=C5" 1327), (v "=C6" 1331), (v "=C7" 1335), (v "=C8" 1339), (v "=C9" 1343), (v "=CA" 1347), (v "=CB" 1351), (v "=CC" 1355), (v "=CD" 1359), (v "=CE" 1363), (v "=CF" 1367), (v "=D0" 1371), (v "=D1" 1375), (v "=D2" 1379), (v "=D3" 1383), (v "=D4" 1387), (v "=D5" 1391), (v "=D6" 1395), (v "=D7" 1399), (v "=D8" 1403), (v "=D9" 1407), (v "=DA" 1411), (v "=DB" 1415), (v "=DC" 1419), (v "=DD" 1423), (v "=DE" 1427), (v "=DF" 1431), (v "=E0" 1435), (v "=E1" 1439), (v "=E2" 1443), (v "=E3" 1447), (v "=E4" 1451), (v "=E5" 1455), (v "=E6" 1459), (v "=E7" 1463), (v "=E8" 1467), (v "=E9" 1471), (v "=EA" 1475), (v "=EB" 1479), (v "=EC" 1483), (v "=ED" 1487), (v "=EE" 1491), (v "=EF" 1495), (v "=F0" 1499), (v "=F1" 1503), (v "=F2" 1507), (v "=F3" 1511), (v "=F4" 1515), (v "=F5" 1519), (v "=F6" 1523), (v "=F7" 1527), (v "=F8" 1531), (v "=F9" 1535), (v "=FA" 1539), (v "=FB" 1543), (v "=FC" 1547), (v "=FD" 1551), (v "=FE" 1555), (v "=FF" 1559)]
def o245 : OP:=fun P=>fi "bytes_iterator" [.none, (i 2)]
def o246 : OP:=fun P=>tu []
def o247 : OP:=fun P=>fi "StopIteration" [(r 246), .none, .none, .none, (.bool false), .none]
def o248 : OP:=fun P=>tu [(.int 76 2108), (v "\n" 531)]
def o249 : OP:=fun P=>tu []
def o250 : OP:=fun P=>tb
def o251 : OP:=fun P=>tu [(v "body" 2112), (v "maxlinelen" 2113), (v "eol" 2114), (v "soft_break" 2115), (v "maxlinelen1" 2116), (v "encoded_body" 2117), (v "append" 2118), (v "line" 2119), (v "start" 2120), (v "laststart" 2121), (v "stop" 2122), (v "room" 2123), (v "q" 2124)]
def o252 : OP:=fun P=>tu []
def o253 : OP:=fun P=>fn (fnD (topSt 28) (z "body_encode") (z "body_encode") 0 [] .none .none .none .none .none .none 0)
def o254 : OP:=fun P=>co [(v "body_encode" 2109), (v "body_encode" 2110), (v "/claim/cut.py" 2111), (i 150), (i 3), i0, i0, (i 3), (r 249), bt, (i 276), (r 250), .none, (r 251), (r 252), (r 253), (i 2125), (i 150), (v "/claim/cut.py" 2126)]
def o255 : OP:=fun P=>ft (fnD (topSt 28) (z "body_encode") (z "body_encode") 3 [] (r 248) .none .none (v "cpy313.email.quoprimime" 1576) (r 254) .none 0)
def o256 : OP:=fun P=>tu [(v "\n" 531)]
def o257 : OP:=fun P=>tu []
def o258 : OP:=fun P=>tb
def o259 : OP:=fun P=>tu [(v "encoded" 2131), (v "eol" 2132), (v "decoded" 2133), (v "line" 2134), (v "i" 2135), (v "n" 2136), (v "c" 2137)]
def o260 : OP:=fun P=>tu []
def o261 : OP:=fun P=>fn (fnD (topSt 29) (z "decode") (z "decode") 0 [] .none .none .none .none .none .none 0)
def o262 : OP:=fun P=>co [(v "decode" 2128), (v "decode" 2129), (v "/claim/cut.py" 2130), (i 188), (i 2), i0, i0, (i 3), (r 257), bt, (i 276), (r 258), .none, (r 259), (r 260), (r 261), (i 2138), (i 188), (v "/claim/cut.py" 2139)]
def o263 : OP:=fun P=>ft (fnD (topSt 29) (z "decode") (z "decode") 3 [] (r 256) .none .none (v "cpy313.email.quoprimime" 1576) (r 262) .none 0)
def o264 : OP:=fun P=>tu []
def o265 : OP:=fun P=>tb
def o266 : OP:=fun P=>tu [(v "number" 2146), (v "figure" 2147), (v "octet" 2148), (v "sign" 2149)]
def o267 : OP:=fun P=>tu []
def o268 : OP:=fun P=>fn (fnD (topSt 31) (z "_law_laid") (z "_law_laid") 0 [] .none .none .none .none .none .none 0)
def o269 : OP:=fun P=>co [(v "_law_laid" 2143), (v "_law_laid" 2144), (v "/claim/cut.py" 2145), (i 219), (i 1), i0, i0, (i 3), (r 264), bt, (i 276), (r 265), .none, (r 266), (r 267), (r 268), (i 2150), (i 219), (v "/claim/cut.py" 2151)]
def o270 : OP:=fun P=>ft (fnD (topSt 31) (z "_law_laid") (z "_law_laid") 3 [] .none .none .none (v "law_rl0126_01" 2141) (r 269) .none 0)
def o271 : OP:=fun P=>tu []
def o272 : OP:=fun P=>tb
def o273 : OP:=fun P=>tu [(v "sign" 2156), (v "code" 2157)]
def o274 : OP:=fun P=>tu []
def o275 : OP:=fun P=>fn (fnD (topSt 32) (z "_law_spelled") (z "_law_spelled") 0 [] .none .none .none .none .none .none 0)
def o276 : OP:=fun P=>co [(v "_law_spelled" 2153), (v "_law_spelled" 2154), (v "/claim/cut.py" 2155), (i 229), (i 1), i0, i0, (i 3), (r 271), bt, (i 276), (r 272), .none, (r 273), (r 274), (r 275), (i 2158), (i 229), (v "/claim/cut.py" 2159)]
def o277 : OP:=fun P=>ft (fnD (topSt 32) (z "_law_spelled") (z "_law_spelled") 3 [] .none .none .none (v "law_rl0126_01" 2141) (r 276) .none 0)
def o278 : OP:=fun P=>tu []
def o279 : OP:=fun P=>tb
def o280 : OP:=fun P=>tu [(v "pieces" 2164), (v "splitter" 2165), (v "places" 2166), (v "p" 2167)]
def o281 : OP:=fun P=>tu []
def o282 : OP:=fun P=>fn (fnD (topSt 33) (z "_law_places") (z "_law_places") 0 [] .none .none .none .none .none .none 0)
def o283 : OP:=fun P=>co [(v "_law_places" 2161), (v "_law_places" 2162), (v "/claim/cut.py" 2163), (i 234), (i 2), i0, i0, (i 3), (r 278), bt, (i 276), (r 279), .none, (r 280), (r 281), (r 282), (i 2168), (i 234), (v "/claim/cut.py" 2169)]
def o284 : OP:=fun P=>ft (fnD (topSt 33) (z "_law_places") (z "_law_places") 3 [] .none .none .none (v "law_rl0126_01" 2141) (r 283) .none 0)
def o285 : OP:=fun P=>tu []
def o286 : OP:=fun P=>tb
def o287 : OP:=fun P=>fn (fnD (topSt 34) (z "_law_rows") (z "_law_rows") 0 [] .none .none .none .none .none .none 0)
def o288 : OP:=fun P=>co [(v "_law_rows" 2171), (v "_law_rows" 2172), (v "/claim/cut.py" 2173), (i 241), (i 4), i0, i0, (i 3), (r 285), bt, (i 276), (r 286), .none, .none, .none, (r 287), (i 2174), (i 241), (v "/claim/cut.py" 2175)]
def o289 : OP:=fun P=>ft (fnD (topSt 34) (z "_law_rows") (z "_law_rows") 3 [] .none .none .none (v "law_rl0126_01" 2141) (r 288) .none 0)
def o290 : OP:=fun P=>tu []
def o291 : OP:=fun P=>tb
def o292 : OP:=fun P=>fn (fnD (topSt 35) (z "_law_bars") (z "_law_bars") 0 [] .none .none .none .none .none .none 0)
def o293 : OP:=fun P=>co [(v "_law_bars" 2177), (v "_law_bars" 2178), (v "/claim/cut.py" 2179), (i 255), (i 3), i0, i0, (i 3), (r 290), bt, (i 276), (r 291), .none, .none, .none, (r 292), (i 2180), (i 255), (v "/claim/cut.py" 2181)]
def o294 : OP:=fun P=>ft (fnD (topSt 35) (z "_law_bars") (z "_law_bars") 3 [] .none .none .none (v "law_rl0126_01" 2141) (r 293) .none 0)
def o295 : OP:=fun P=>tu []
def o296 : OP:=fun P=>tb
def o297 : OP:=fun P=>tu [(v "line" 2186), (v "room" 2187), (v "splitter" 2188), (v "ending" 2189), (v "maker" 2190)]
def o298 : OP:=fun P=>tu []
def o299 : OP:=fun P=>fn (fnD (topSt 36) (z "_law_folded") (z "_law_folded") 0 [] .none .none .none .none .none .none 0)
def o300 : OP:=fun P=>co [(v "_law_folded" 2183), (v "_law_folded" 2184), (v "/claim/cut.py" 2185), (i 260), (i 4), i0, i0, (i 3), (r 295), bt, (i 276), (r 296), .none, (r 297), (r 298), (r 299), (i 2191), (i 260), (v "/claim/cut.py" 2192)]
def o301 : OP:=fun P=>ft (fnD (topSt 36) (z "_law_folded") (z "_law_folded") 3 [] .none .none .none (v "law_rl0126_01" 2141) (r 300) .none 0)
def o302 : OP:=fun P=>tu []
def o303 : OP:=fun P=>tb
def o304 : OP:=fun P=>fn (fnD (topSt 37) (z "law") (z "law") 0 [] .none .none .none .none .none .none 0)
def o305 : OP:=fun P=>co [(v "law" 2194), (v "law" 2195), (v "/claim/cut.py" 2196), (i 264), (i 1), i0, i0, (i 3), (r 302), bt, (i 276), (r 303), .none, .none, .none, (r 304), (i 2197), (i 264), (v "/claim/cut.py" 2198)]
def o306 : OP:=fun P=>ft (fnD (topSt 37) (z "law") (z "law") 3 [] .none .none .none (v "law_rl0126_01" 2141) (r 305) .none 0)
def o3v1 : OP:=fun P=>⟨(.type "dict"), none, (.dict ⟨[e P "__name__" 165 (v "cpy313.email.quoprimime" 1576), e P "__doc__" 166 .none, e P "__package__" 167 .none, e P "__loader__" 168 (.builtin "__main__.__loader__#opaque"), e P "__spec__" 169 .none, e P "__annotations__" 170 (r 6), e P "__builtins__" 171 (r 4), e P "__file__" 173 (v "/claim/cut.py" 172), e P "__cached__" 174 .none, e P "_sre" 275 (r 12), e P "_wall" 288 (r 38), e P "_twin_re_1" 318 (r 43), e P "NL_header" 320 (v "\n" 319), e P "EMPTYSTRING" 322 (v "" 321), e P "_ValueFormatter" 432 (r 116), e P "_Accumulator" 528 (r 200), e P "CRLF" 530 (v "\r\n" 529), e P "NL_quoprimime" 532 (v "\n" 531), e P "_QUOPRI_MAP" 1560 (r 207), e P "_QUOPRI_HEADER_MAP" 1561 (r 212), e P "_QUOPRI_BODY_MAP" 1562 (r 214), e P "ascii_lowercase" 1564 (v "abcdefghijklmnopqrstuvwxyz" 1563), e P "ascii_uppercase" 1566 (v "ABCDEFGHIJKLMNOPQRSTUVWXYZ" 1565), e P "ascii_letters" 1568 (v "abcdefghijklmnopqrstuvwxyzABCDEFGHIJKLMNOPQRSTUVWXYZ" 1567), e P "digits" 1570 (v "0123456789" 1569), e P "hexdigits" 1575 (v "0123456789abcdefABCDEF" 1574), e P "c" 1586 (.int 9 2072)]⟩ 27), ⟨[]⟩⟩
def o29v1 : OP:=fun P=>⟨.none, none, (.fields ⟨[(i 2), i0, (r 37), (i 9), i0, (r 49), (i 81), i0, (r 127)]⟩), ⟨[]⟩⟩
def o3v2 : OP:=fun P=>⟨(.type "dict"), none, (.dict ⟨[e P "__name__" 165 (v "cpy313.email.quoprimime" 1576), e P "__doc__" 166 .none, e P "__package__" 167 .none, e P "__loader__" 168 (.builtin "__main__.__loader__#opaque"), e P "__spec__" 169 .none, e P "__annotations__" 170 (r 6), e P "__builtins__" 171 (r 4), e P "__file__" 173 (v "/claim/cut.py" 172), e P "__cached__" 174 .none, e P "_sre" 275 (r 12), e P "_wall" 288 (r 38), e P "_twin_re_1" 318 (r 43), e P "NL_header" 320 (v "\n" 319), e P "EMPTYSTRING" 322 (v "" 321), e P "_ValueFormatter" 432 (r 116), e P "_Accumulator" 528 (r 200), e P "CRLF" 530 (v "\r\n" 529), e P "NL_quoprimime" 532 (v "\n" 531), e P "_QUOPRI_MAP" 1560 (r 207), e P "_QUOPRI_HEADER_MAP" 1561 (r 212), e P "_QUOPRI_BODY_MAP" 1562 (r 214), e P "ascii_lowercase" 1564 (v "abcdefghijklmnopqrstuvwxyz" 1563), e P "ascii_uppercase" 1566 (v "ABCDEFGHIJKLMNOPQRSTUVWXYZ" 1565), e P "ascii_letters" 1568 (v "abcdefghijklmnopqrstuvwxyzABCDEFGHIJKLMNOPQRSTUVWXYZ" 1567), e P "digits" 1570 (v "0123456789" 1569), e P "hexdigits" 1575 (v "0123456789abcdefABCDEF" 1574), e P "c" 1586 (.int 57 1783)]⟩ 27), ⟨[]⟩⟩
def o212v1 : OP:=fun P=>sq "list" [(v "=00" 539), (v "=01" 543), (v "=02" 547), (v "=03" 551), (v "=04" 555), (v "=05" 559), (v "=06" 563), (v "=07" 567), (v "=08" 571), (v "=09" 575), (v "=0A" 579), (v "=0B" 583), (v "=0C" 587), (v "=0D" 591), (v "=0E" 595), (v "=0F" 599), (v "=10" 603), (v "=11" 607), (v "=12" 611), (v "=13" 615), (v "=14" 619), (v "=15" 623), (v "=16" 627), (v "=17" 631), (v "=18" 635), (v "=19" 639), (v "=1A" 643), (v "=1B" 647), (v "=1C" 651), (v "=1D" 655), (v "=1E" 659), (v "=1F" 663), (v "=20" 667), (v "!" 1590), (v "=22" 675), (v "=23" 679), (v "=24" 683), (v "=25" 687), (v "=26" 691), (v "=27" 695), (v "=28" 699), (v "=29" 703), (v "*" 1593), (v "+" 1596), (v "=2C" 715), (v "-" 1587), (v "=2E" 723), (v "/" 1599), (v "0" 1758), (v "1" 1761), (v "2" 1764), (v "3" 1767), (v "4" 1770), (v "5" 1773), (v "6" 1776), (v "7" 1779), (v "8" 1782), (v "9" 1785), (v "=3A" 771), (v "=3B" 775), (v "=3C" 779), (v "=3D" 783), (v "=3E" 787), (v "=3F" 791), (v "=40" 795), (v "A" 1680), (v "B" 1683), (v "C" 1686), (v "D" 1689), (v "E" 1692), (v "F" 1695), (v "G" 1698), (v "H" 1701), (v "I" 1704), (v "J" 1707), (v "K" 1710), (v "L" 1713), (v "M" 1716), (v "N" 1719), (v "O" 1722), (v "P" 1725), (v "Q" 1728), (v "R" 1731), (v "S" 1734), (v "T" 1737), (v "U" 1740), (v "V" 1743), (v "W" 1746), (v "X" 1749), (v "Y" 1752), (v "Z" 1755), (v "=5B" 903), (v "=5C" 907), (v "=5D" 911), (v "=5E" 915), (v "=5F" 919), (v "=60" 923), (v "a" 1602), (v "b" 1605), (v "c" 1608), (v "d" 1611), (v "e" 1614), (v "f" 1617), (v "g" 1620), (v "h" 1623), (v "i" 1626), (v "j" 1629), (v "k" 1632), (v "l" 1635), (v "m" 1638), (v "n" 1641), (v "o" 1644), (v "p" 1647), (v "q" 1650), (v "r" 1653), (v "s" 1656), (v "t" 1659), (v "u" 1662), (v "v" 1665), (v "w" 1668), (v "x" 1671), (v "y" 1674), (v "z" 1677), (v "=7B" 1031), (v "=7C" 1035), (v "=7D" 1039), (v "=7E" 1043), (v "=7F" 1047), (v "=80" 1051), (v "=81" 1055), (v "=82" 1059), (v "=83" 1063), (v "=84" 1067), (v "=85" 1071), (v "=86" 1075), (v "=87" 1079), (v "=88" 1083), (v "=89" 1087), (v "=8A" 1091), (v "=8B" 1095), (v "=8C" 1099), (v "=8D" 1103), (v "=8E" 1107), (v "=8F" 1111), (v "=90" 1115), (v "=91" 1119), (v "=92" 1123), (v "=93" 1127), (v "=94" 1131), (v "=95" 1135), (v "=96" 1139), (v "=97" 1143), (v "=98" 1147), (v "=99" 1151), (v "=9A" 1155), (v "=9B" 1159), (v "=9C" 1163), (v "=9D" 1167), (v "=9E" 1171), (v "=9F" 1175), (v "=A0" 1179), (v "=A1" 1183), (v "=A2" 1187), (v "=A3" 1191), (v "=A4" 1195), (v "=A5" 1199), (v "=A6" 1203), (v "=A7" 1207), (v "=A8" 1211), (v "=A9" 1215), (v "=AA" 1219), (v "=AB" 1223), (v "=AC" 1227), (v "=AD" 1231), (v "=AE" 1235), (v "=AF" 1239), (v "=B0" 1243), (v "=B1" 1247), (v "=B2" 1251), (v "=B3" 1255), (v "=B4" 1259), (v "=B5" 1263), (v "=B6" 1267), (v "=B7" 1271), (v "=B8" 1275), (v "=B9" 1279), (v "=BA" 1283), (v "=BB" 1287), (v "=BC" 1291), (v "=BD" 1295), (v "=BE" 1299), (v "=BF" 1303), (v "=C0" 1307), (v "=C1" 1311), (v "=C2" 1315), (v "=C3" 1319), (v "=C4" 1323), (v "=C5" 1327), (v "=C6" 1331), (v "=C7" 1335), (v "=C8" 1339), (v "=C9" 1343), (v "=CA" 1347), (v "=CB" 1351), (v "=CC" 1355), (v "=CD" 1359), (v "=CE" 1363), (v "=CF" 1367), (v "=D0" 1371), (v "=D1" 1375), (v "=D2" 1379), (v "=D3" 1383), (v "=D4" 1387), (v "=D5" 1391), (v "=D6" 1395), (v "=D7" 1399), (v "=D8" 1403), (v "=D9" 1407), (v "=DA" 1411), (v "=DB" 1415), (v "=DC" 1419), (v "=DD" 1423), (v "=DE" 1427), (v "=DF" 1431), (v "=E0" 1435), (v "=E1" 1439), (v "=E2" 1443), (v "=E3" 1447), (v "=E4" 1451), (v "=E5" 1455), (v "=E6" 1459), (v "=E7" 1463), (v "=E8" 1467), (v "=E9" 1471), (v "=EA" 1475), (v "=EB" 1479), (v "=EC" 1483), (v "=ED" 1487), (v "=EE" 1491), (v "=EF" 1495), (v "=F0" 1499), (v "=F1" 1503), (v "=F2" 1507), (v "=F3" 1511), (v "=F4" 1515), (v "=F5" 1519), (v "=F6" 1523), (v "=F7" 1527), (v "=F8" 1531), (v "=F9" 1535), (v "=FA" 1539), (v "=FB" 1543), (v "=FC" 1547), (v "=FD" 1551), (v "=FE" 1555), (v "=FF" 1559)]
def o214v1 : OP:=fun P=>sq "list" [(v "=00" 539), (v "=01" 543), (v "=02" 547), (v "=03" 551), (v "=04" 555), (v "=05" 559), (v "=06" 563), (v "=07" 567), (v "=08" 571), (v "=09" 575), (v "=0A" 579), (v "=0B" 583), (v "=0C" 587), (v "=0D" 591), (v "=0E" 595), (v "=0F" 599), (v "=10" 603), (v "=11" 607), (v "=12" 611), (v "=13" 615), (v "=14" 619), (v "=15" 623), (v "=16" 627), (v "=17" 631), (v "=18" 635), (v "=19" 639), (v "=1A" 643), (v "=1B" 647), (v "=1C" 651), (v "=1D" 655), (v "=1E" 659), (v "=1F" 663), (v "=20" 667), (v "=21" 671), (v "=22" 675), (v "=23" 679), (v "=24" 683), (v "=25" 687), (v "=26" 691), (v "=27" 695), (v "=28" 699), (v "=29" 703), (v "=2A" 707), (v "=2B" 711), (v "=2C" 715), (v "=2D" 719), (v "=2E" 723), (v "=2F" 727), (v "=30" 731), (v "=31" 735), (v "=32" 739), (v "=33" 743), (v "=34" 747), (v "=35" 751), (v "=36" 755), (v "=37" 759), (v "=38" 763), (v "=39" 767), (v "=3A" 771), (v "=3B" 775), (v "=3C" 779), (v "=3D" 783), (v "=3E" 787), (v "=3F" 791), (v "=40" 795), (v "=41" 799), (v "=42" 803), (v "=43" 807), (v "=44" 811), (v "=45" 815), (v "=46" 819), (v "=47" 823), (v "=48" 827), (v "=49" 831), (v "=4A" 835), (v "=4B" 839), (v "=4C" 843), (v "=4D" 847), (v "=4E" 851), (v "=4F" 855), (v "=50" 859), (v "=51" 863), (v "=52" 867), (v "=53" 871), (v "=54" 875), (v "=55" 879), (v "=56" 883), (v "=57" 887), (v "=58" 891), (v "=59" 895), (v "=5A" 899), (v "=5B" 903), (v "=5C" 907), (v "=5D" 911), (v "=5E" 915), (v "=5F" 919), (v "=60" 923), (v "=61" 927), (v "=62" 931), (v "=63" 935), (v "=64" 939), (v "=65" 943), (v "=66" 947), (v "=67" 951), (v "=68" 955), (v "=69" 959), (v "=6A" 963), (v "=6B" 967), (v "=6C" 971), (v "=6D" 975), (v "=6E" 979), (v "=6F" 983), (v "=70" 987), (v "=71" 991), (v "=72" 995), (v "=73" 999), (v "=74" 1003), (v "=75" 1007), (v "=76" 1011), (v "=77" 1015), (v "=78" 1019), (v "=79" 1023), (v "=7A" 1027), (v "=7B" 1031), (v "=7C" 1035), (v "=7D" 1039), (v "=7E" 1043), (v "=7F" 1047), (v "=80" 1051), (v "=81" 1055), (v "=82" 1059), (v "=83" 1063), (v "=84" 1067), (v "=85" 1071), (v "=86" 1075), (v "=87" 1079), (v "=88" 1083), (v "=89" 1087), (v "=8A" 1091), (v "=8B" 1095), (v "=8C" 1099), (v "=8D" 1103), (v "=8E" 1107), (v "=8F" 1111), (v "=90" 1115), (v "=91" 1119), (v "=92" 1123), (v "=93" 1127), (v "=94" 1131), (v "=95" 1135), (v "=96" 1139), (v "=97" 1143), (v "=98" 1147), (v "=99" 1151), (v "=9A" 1155), (v "=9B" 1159), (v "=9C" 1163), (v "=9D" 1167), (v "=9E" 1171), (v "=9F" 1175), (v "=A0" 1179), (v "=A1" 1183), (v "=A2" 1187), (v "=A3" 1191), (v "=A4" 1195), (v "=A5" 1199), (v "=A6" 1203), (v "=A7" 1207), (v "=A8" 1211), (v "=A9" 1215), (v "=AA" 1219), (v "=AB" 1223), (v "=AC" 1227), (v "=AD" 1231), (v "=AE" 1235), (v "=AF" 1239), (v "=B0" 1243), (v "=B1" 1247), (v "=B2" 1251), (v "=B3" 1255), (v "=B4" 1259), (v "=B5" 1263), (v "=B6" 1267), (v "=B7" 1271), (v "=B8" 1275), (v "=B9" 1279), (v "=BA" 1283), (v "=BB" 1287), (v "=BC" 1291), (v "=BD" 1295), (v "=BE" 1299), (v "=BF" 1303), (v "=C0" 1307), (v "=C1" 1311), (v "=C2" 1315), (v "=C3" 1319), (v "=C4" 1323), (v "=C5" 1327), (v "=C6" 1331), (v "=C7" 1335), (v "=C8" 1339), (v "=C9" 1343), (v "=CA" 1347), (v "=CB" 1351), (v "=CC" 1355), (v "=CD" 1359), (v "=CE" 1363), (v "=CF" 1367), (v "=D0" 1371), (v "=D1" 1375), (v "=D2" 1379), (v "=D3" 1383), (v "=D4" 1387), (v "=D5" 1391), (v "=D6" 1395), (v "=D7" 1399), (v "=D8" 1403), (v "=D9" 1407), (v "=DA" 1411), (v "=DB" 1415), (v "=DC" 1419), (v "=DD" 1423), (v "=DE" 1427), (v "=DF" 1431), (v "=E0" 1435), (v "=E1" 1439), (v "=E2" 1443), (v "=E3" 1447), (v "=E4" 1451), (v "=E5" 1455), (v "=E6" 1459), (v "=E7" 1463), (v "=E8" 1467), (v "=E9" 1471), (v "=EA" 1475), (v "=EB" 1479), (v "=EC" 1483), (v "=ED" 1487), (v "=EE" 1491), (v "=EF" 1495), (v "=F0" 1499), (v "=F1" 1503), (v "=F2" 1507), (v "=F3" 1511), (v "=F4" 1515), (v "=F5" 1519), (v "=F6" 1523), (v "=F7" 1527), (v "=F8" 1531), (v "=F9" 1535), (v "=FA" 1539), (v "=FB" 1543), (v "=FC" 1547), (v "=FD" 1551), (v "=FE" 1555), (v "=FF" 1559)]
def o3v3 : OP:=fun P=>⟨(.type "dict"), none, (.dict ⟨[e P "__name__" 165 (v "cpy313.email.header" 289), e P "__doc__" 166 .none, e P "__package__" 167 .none, e P "__loader__" 168 (.builtin "__main__.__loader__#opaque"), e P "__spec__" 169 .none, e P "__annotations__" 170 (r 6), e P "__builtins__" 171 (r 4), e P "__file__" 173 (v "/claim/cut.py" 172), e P "__cached__" 174 .none, e P "_sre" 275 (r 12), e P "_wall" 288 (r 38), e P "_twin_re_1" 318 (r 43), e P "NL_header" 320 (v "\n" 319), e P "EMPTYSTRING" 322 (v "" 321), e P "_ValueFormatter" 432 (r 116), e P "_Accumulator" 528 (r 200), e P "CRLF" 530 (v "\r\n" 529), e P "NL_quoprimime" 532 (v "\n" 531), e P "_QUOPRI_MAP" 1560 (r 207)]⟩ 19), ⟨[]⟩⟩
def o3v4 : OP:=fun P=>⟨(.type "dict"), none, (.dict ⟨[e P "__name__" 165 (v "cpy313.email.header" 289), e P "__doc__" 166 .none, e P "__package__" 167 .none, e P "__loader__" 168 (.builtin "__main__.__loader__#opaque"), e P "__spec__" 169 .none, e P "__annotations__" 170 (r 6), e P "__builtins__" 171 (r 4), e P "__file__" 173 (v "/claim/cut.py" 172), e P "__cached__" 174 .none, e P "_sre" 275 (r 12), e P "_wall" 288 (r 38), e P "_twin_re_1" 318 (r 43), e P "NL_header" 320 (v "\n" 319), e P "EMPTYSTRING" 322 (v "" 321), e P "_ValueFormatter" 432 (r 116), e P "_Accumulator" 528 (r 200), e P "CRLF" 530 (v "\r\n" 529), e P "NL_quoprimime" 532 (v "\n" 531)]⟩ 18), ⟨[]⟩⟩
def o3v5 : OP:=fun P=>⟨(.type "dict"), none, (.dict ⟨[e P "__name__" 165 (v "__main__" 164), e P "__doc__" 166 .none, e P "__package__" 167 .none, e P "__loader__" 168 (.builtin "__main__.__loader__#opaque"), e P "__spec__" 169 .none, e P "__annotations__" 170 (r 6), e P "__builtins__" 171 (r 4), e P "__file__" 173 (v "/claim/cut.py" 172), e P "__cached__" 174 .none, e P "_sre" 275 (r 12)]⟩ 10), ⟨[]⟩⟩
def o29v2 : OP:=fun P=>tb
end
section
set_option maxHeartbeats 0
noncomputable def n (o : OP) (P : Params) (a b : BT) : BT:=.node (o P) a b
noncomputable def l (o : OP) (P : Params) : BT:=.node (o P) .nil .nil
noncomputable def treeSf (P : Params) : BT:=(n o0 P (n o1 P (n o3 P (n o7 P (n o15 P (n o31 P (n o63 P (n o127 P (l o255 P) .nil) (l o191 P)) (n o95 P (n o159 P (l o287 P) .nil) (l o223 P))) (n o47 P (n o79 P (n o143 P (l o271 P) .nil) (l o207 P)) (n o111 P (n o175 P (l o303 P) .nil) (l o239 P)))) (n o23 P (n o39 P (n o71 P (n o135 P (l o263 P) .nil) (l o199 P)) (n o103 P (n o167 P (l o295 P) .nil) (l o231 P))) (n o55 P (n o87 P (n o151 P (l o279 P) .nil) (l o215 P)) (n o119 P (l o183 P) (l o247 P))))) (n o11 P (n o19 P (n o35 P (n o67 P (n o131 P (l o259 P) .nil) (l o195 P)) (n o99 P (n o163 P (l o291 P) .nil) (l o227 P))) (n o51 P (n o83 P (n o147 P (l o275 P) .nil) (l o211 P)) (n o115 P (l o179 P) (l o243 P)))) (n o27 P (n o43 P (n o75 P (n o139 P (l o267 P) .nil) (l o203 P)) (n o107 P (n o171 P (l o299 P) .nil) (l o235 P))) (n o59 P (n o91 P (n o155 P (l o283 P) .nil) (l o219 P)) (n o123 P (l o187 P) (l o251 P)))))) (n o5 P (n o9 P (n o17 P (n o33 P (n o65 P (n o129 P (l o257 P) .nil) (l o193 P)) (n o97 P (n o161 P (l o289 P) .nil) (l o225 P))) (n o49 P (n o81 P (n o145 P (l o273 P) .nil) (l o209 P)) (n o113 P (n o177 P (l o305 P) .nil) (l o241 P)))) (n o25 P (n o41 P (n o73 P (n o137 P (l o265 P) .nil) (l o201 P)) (n o105 P (n o169 P (l o297 P) .nil) (l o233 P))) (n o57 P (n o89 P (n o153 P (l o281 P) .nil) (l o217 P)) (n o121 P (l o185 P) (l o249 P))))) (n o13 P (n o21 P (n o37 P (n o69 P (n o133 P (l o261 P) .nil) (l o197 P)) (n o101 P (n o165 P (l o293 P) .nil) (l o229 P))) (n o53 P (n o85 P (n o149 P (l o277 P) .nil) (l o213 P)) (n o117 P (l o181 P) (l o245 P)))) (n o29 P (n o45 P (n o77 P (n o141 P (l o269 P) .nil) (l o205 P)) (n o109 P (n o173 P (l o301 P) .nil) (l o237 P))) (n o61 P (n o93 P (n o157 P (l o285 P) .nil) (l o221 P)) (n o125 P (l o189 P) (l o253 P))))))) (n o2 P (n o4 P (n o8 P (n o16 P (n o32 P (n o64 P (n o128 P (l o256 P) .nil) (l o192 P)) (n o96 P (n o160 P (l o288 P) .nil) (l o224 P))) (n o48 P (n o80 P (n o144 P (l o272 P) .nil) (l o208 P)) (n o112 P (n o176 P (l o304 P) .nil) (l o240 P)))) (n o24 P (n o40 P (n o72 P (n o136 P (l o264 P) .nil) (l o200 P)) (n o104 P (n o168 P (l o296 P) .nil) (l o232 P))) (n o56 P (n o88 P (n o152 P (l o280 P) .nil) (l o216 P)) (n o120 P (l o184 P) (l o248 P))))) (n o12 P (n o20 P (n o36 P (n o68 P (n o132 P (l o260 P) .nil) (l o196 P)) (n o100 P (n o164 P (l o292 P) .nil) (l o228 P))) (n o52 P (n o84 P (n o148 P (l o276 P) .nil) (l o212 P)) (n o116 P (l o180 P) (l o244 P)))) (n o28 P (n o44 P (n o76 P (n o140 P (l o268 P) .nil) (l o204 P)) (n o108 P (n o172 P (l o300 P) .nil) (l o236 P))) (n o60 P (n o92 P (n o156 P (l o284 P) .nil) (l o220 P)) (n o124 P (l o188 P) (l o252 P)))))) (n o6 P (n o10 P (n o18 P (n o34 P (n o66 P (n o130 P (l o258 P) .nil) (l o194 P)) (n o98 P (n o162 P (l o290 P) .nil) (l o226 P))) (n o50 P (n o82 P (n o146 P (l o274 P) .nil) (l o210 P)) (n o114 P (n o178 P (l o306 P) .nil) (l o242 P)))) (n o26 P (n o42 P (n o74 P (n o138 P (l o266 P) .nil) (l o202 P)) (n o106 P (n o170 P (l o298 P) .nil) (l o234 P))) (n o58 P (n o90 P (n o154 P (l o282 P) .nil) (l o218 P)) (n o122 P (l o186 P) (l o250 P))))) (n o14 P (n o22 P (n o38 P (n o70 P (n o134 P (l o262 P) .nil) (l o198 P)) (n o102 P (n o166 P (l o294 P) .nil) (l o230 P))) (n o54 P (n o86 P (n o150 P (l o278 P) .nil) (l o214 P)) (n o118 P (l o182 P) (l o246 P)))) (n o30 P (n o46 P (n o78 P (n o142 P (l o270 P) .nil) (l o206 P)) (n o110 P (n o174 P (l o302 P) .nil) (l o238 P))) (n o62 P (n o94 P (n o158 P (l o286 P) .nil) (l o222 P)) (n o126 P (l o190 P) (l o254 P))))))))
noncomputable def treeS21 (P : Params) : BT:=(n o0 P (n o1 P (n o3v1 P (n o7 P (n o15 P (n o31 P (n o63 P (l o127 P) (l o191 P)) (n o95 P (l o159 P) .nil)) (n o47 P (n o79 P (l o143 P) (l o207 P)) (n o111 P (l o175 P) .nil))) (n o23 P (n o39 P (n o71 P (l o135 P) (l o199 P)) (n o103 P (l o167 P) .nil)) (n o55 P (n o87 P (l o151 P) (l o215 P)) (n o119 P (l o183 P) .nil)))) (n o11 P (n o19 P (n o35 P (n o67 P (l o131 P) (l o195 P)) (n o99 P (l o163 P) .nil)) (n o51 P (n o83 P (l o147 P) (l o211 P)) (n o115 P (l o179 P) .nil))) (n o27 P (n o43 P (n o75 P (l o139 P) (l o203 P)) (n o107 P (l o171 P) .nil)) (n o59 P (n o91 P (l o155 P) (l o219 P)) (n o123 P (l o187 P) .nil))))) (n o5 P (n o9 P (n o17 P (n o33 P (n o65 P (l o129 P) (l o193 P)) (n o97 P (l o161 P) .nil)) (n o49 P (n o81 P (l o145 P) (l o209 P)) (n o113 P (l o177 P) .nil))) (n o25 P (n o41 P (n o73 P (l o137 P) (l o201 P)) (n o105 P (l o169 P) .nil)) (n o57 P (n o89 P (l o153 P) (l o217 P)) (n o121 P (l o185 P) .nil)))) (n o13 P (n o21 P (n o37 P (n o69 P (l o133 P) (l o197 P)) (n o101 P (l o165 P) .nil)) (n o53 P (n o85 P (l o149 P) (l o213 P)) (n o117 P (l o181 P) .nil))) (n o29v1 P (n o45 P (n o77 P (l o141 P) (l o205 P)) (n o109 P (l o173 P) .nil)) (n o61 P (n o93 P (l o157 P) .nil) (n o125 P (l o189 P) .nil)))))) (n o2 P (n o4 P (n o8 P (n o16 P (n o32 P (n o64 P (l o128 P) (l o192 P)) (n o96 P (l o160 P) .nil)) (n o48 P (n o80 P (l o144 P) (l o208 P)) (n o112 P (l o176 P) .nil))) (n o24 P (n o40 P (n o72 P (l o136 P) (l o200 P)) (n o104 P (l o168 P) .nil)) (n o56 P (n o88 P (l o152 P) (l o216 P)) (n o120 P (l o184 P) .nil)))) (n o12 P (n o20 P (n o36 P (n o68 P (l o132 P) (l o196 P)) (n o100 P (l o164 P) .nil)) (n o52 P (n o84 P (l o148 P) (l o212 P)) (n o116 P (l o180 P) .nil))) (n o28 P (n o44 P (n o76 P (l o140 P) (l o204 P)) (n o108 P (l o172 P) .nil)) (n o60 P (n o92 P (l o156 P) (l o220 P)) (n o124 P (l o188 P) .nil))))) (n o6 P (n o10 P (n o18 P (n o34 P (n o66 P (l o130 P) (l o194 P)) (n o98 P (l o162 P) .nil)) (n o50 P (n o82 P (l o146 P) (l o210 P)) (n o114 P (l o178 P) .nil))) (n o26 P (n o42 P (n o74 P (l o138 P) (l o202 P)) (n o106 P (l o170 P) .nil)) (n o58 P (n o90 P (l o154 P) (l o218 P)) (n o122 P (l o186 P) .nil)))) (n o14 P (n o22 P (n o38 P (n o70 P (l o134 P) (l o198 P)) (n o102 P (l o166 P) .nil)) (n o54 P (n o86 P (l o150 P) (l o214 P)) (n o118 P (l o182 P) .nil))) (n o30 P (n o46 P (n o78 P (l o142 P) (l o206 P)) (n o110 P (l o174 P) .nil)) (n o62 P (n o94 P (l o158 P) .nil) (n o126 P (l o190 P) .nil)))))))
noncomputable def treeS19 (P : Params) : BT:=(n o0 P (n o1 P (n o3v2 P (n o7 P (n o15 P (n o31 P (n o63 P (l o127 P) (l o191 P)) (n o95 P (l o159 P) .nil)) (n o47 P (n o79 P (l o143 P) (l o207 P)) (n o111 P (l o175 P) .nil))) (n o23 P (n o39 P (n o71 P (l o135 P) (l o199 P)) (n o103 P (l o167 P) .nil)) (n o55 P (n o87 P (l o151 P) (l o215 P)) (n o119 P (l o183 P) .nil)))) (n o11 P (n o19 P (n o35 P (n o67 P (l o131 P) (l o195 P)) (n o99 P (l o163 P) .nil)) (n o51 P (n o83 P (l o147 P) (l o211 P)) (n o115 P (l o179 P) .nil))) (n o27 P (n o43 P (n o75 P (l o139 P) (l o203 P)) (n o107 P (l o171 P) .nil)) (n o59 P (n o91 P (l o155 P) .nil) (n o123 P (l o187 P) .nil))))) (n o5 P (n o9 P (n o17 P (n o33 P (n o65 P (l o129 P) (l o193 P)) (n o97 P (l o161 P) .nil)) (n o49 P (n o81 P (l o145 P) (l o209 P)) (n o113 P (l o177 P) .nil))) (n o25 P (n o41 P (n o73 P (l o137 P) (l o201 P)) (n o105 P (l o169 P) .nil)) (n o57 P (n o89 P (l o153 P) (l o217 P)) (n o121 P (l o185 P) .nil)))) (n o13 P (n o21 P (n o37 P (n o69 P (l o133 P) (l o197 P)) (n o101 P (l o165 P) .nil)) (n o53 P (n o85 P (l o149 P) (l o213 P)) (n o117 P (l o181 P) .nil))) (n o29v1 P (n o45 P (n o77 P (l o141 P) (l o205 P)) (n o109 P (l o173 P) .nil)) (n o61 P (n o93 P (l o157 P) .nil) (n o125 P (l o189 P) .nil)))))) (n o2 P (n o4 P (n o8 P (n o16 P (n o32 P (n o64 P (l o128 P) (l o192 P)) (n o96 P (l o160 P) .nil)) (n o48 P (n o80 P (l o144 P) (l o208 P)) (n o112 P (l o176 P) .nil))) (n o24 P (n o40 P (n o72 P (l o136 P) (l o200 P)) (n o104 P (l o168 P) .nil)) (n o56 P (n o88 P (l o152 P) (l o216 P)) (n o120 P (l o184 P) .nil)))) (n o12 P (n o20 P (n o36 P (n o68 P (l o132 P) (l o196 P)) (n o100 P (l o164 P) .nil)) (n o52 P (n o84 P (l o148 P) (l o212v1 P)) (n o116 P (l o180 P) .nil))) (n o28 P (n o44 P (n o76 P (l o140 P) (l o204 P)) (n o108 P (l o172 P) .nil)) (n o60 P (n o92 P (l o156 P) .nil) (n o124 P (l o188 P) .nil))))) (n o6 P (n o10 P (n o18 P (n o34 P (n o66 P (l o130 P) (l o194 P)) (n o98 P (l o162 P) .nil)) (n o50 P (n o82 P (l o146 P) (l o210 P)) (n o114 P (l o178 P) .nil))) (n o26 P (n o42 P (n o74 P (l o138 P) (l o202 P)) (n o106 P (l o170 P) .nil)) (n o58 P (n o90 P (l o154 P) .nil) (n o122 P (l o186 P) .nil)))) (n o14 P (n o22 P (n o38 P (n o70 P (l o134 P) (l o198 P)) (n o102 P (l o166 P) .nil)) (n o54 P (n o86 P (l o150 P) (l o214v1 P)) (n o118 P (l o182 P) .nil))) (n o30 P (n o46 P (n o78 P (l o142 P) (l o206 P)) (n o110 P (l o174 P) .nil)) (n o62 P (n o94 P (l o158 P) .nil) (n o126 P (l o190 P) .nil)))))))
noncomputable def treeS10 (P : Params) : BT:=(n o0 P (n o1 P (n o3v3 P (n o7 P (n o15 P (n o31 P (n o63 P (l o127 P) (l o191 P)) (n o95 P (l o159 P) .nil)) (n o47 P (n o79 P (l o143 P) (l o207 P)) (n o111 P (l o175 P) .nil))) (n o23 P (n o39 P (n o71 P (l o135 P) (l o199 P)) (n o103 P (l o167 P) .nil)) (n o55 P (n o87 P (l o151 P) .nil) (n o119 P (l o183 P) .nil)))) (n o11 P (n o19 P (n o35 P (n o67 P (l o131 P) (l o195 P)) (n o99 P (l o163 P) .nil)) (n o51 P (n o83 P (l o147 P) .nil) (n o115 P (l o179 P) .nil))) (n o27 P (n o43 P (n o75 P (l o139 P) (l o203 P)) (n o107 P (l o171 P) .nil)) (n o59 P (n o91 P (l o155 P) .nil) (n o123 P (l o187 P) .nil))))) (n o5 P (n o9 P (n o17 P (n o33 P (n o65 P (l o129 P) (l o193 P)) (n o97 P (l o161 P) .nil)) (n o49 P (n o81 P (l o145 P) (l o209 P)) (n o113 P (l o177 P) .nil))) (n o25 P (n o41 P (n o73 P (l o137 P) (l o201 P)) (n o105 P (l o169 P) .nil)) (n o57 P (n o89 P (l o153 P) .nil) (n o121 P (l o185 P) .nil)))) (n o13 P (n o21 P (n o37 P (n o69 P (l o133 P) (l o197 P)) (n o101 P (l o165 P) .nil)) (n o53 P (n o85 P (l o149 P) .nil) (n o117 P (l o181 P) .nil))) (n o29v1 P (n o45 P (n o77 P (l o141 P) (l o205 P)) (n o109 P (l o173 P) .nil)) (n o61 P (n o93 P (l o157 P) .nil) (n o125 P (l o189 P) .nil)))))) (n o2 P (n o4 P (n o8 P (n o16 P (n o32 P (n o64 P (l o128 P) (l o192 P)) (n o96 P (l o160 P) .nil)) (n o48 P (n o80 P (l o144 P) (l o208 P)) (n o112 P (l o176 P) .nil))) (n o24 P (n o40 P (n o72 P (l o136 P) (l o200 P)) (n o104 P (l o168 P) .nil)) (n o56 P (n o88 P (l o152 P) .nil) (n o120 P (l o184 P) .nil)))) (n o12 P (n o20 P (n o36 P (n o68 P (l o132 P) (l o196 P)) (n o100 P (l o164 P) .nil)) (n o52 P (n o84 P (l o148 P) .nil) (n o116 P (l o180 P) .nil))) (n o28 P (n o44 P (n o76 P (l o140 P) (l o204 P)) (n o108 P (l o172 P) .nil)) (n o60 P (n o92 P (l o156 P) .nil) (n o124 P (l o188 P) .nil))))) (n o6 P (n o10 P (n o18 P (n o34 P (n o66 P (l o130 P) (l o194 P)) (n o98 P (l o162 P) .nil)) (n o50 P (n o82 P (l o146 P) (l o210 P)) (n o114 P (l o178 P) .nil))) (n o26 P (n o42 P (n o74 P (l o138 P) (l o202 P)) (n o106 P (l o170 P) .nil)) (n o58 P (n o90 P (l o154 P) .nil) (n o122 P (l o186 P) .nil)))) (n o14 P (n o22 P (n o38 P (n o70 P (l o134 P) (l o198 P)) (n o102 P (l o166 P) .nil)) (n o54 P (n o86 P (l o150 P) .nil) (n o118 P (l o182 P) .nil))) (n o30 P (n o46 P (n o78 P (l o142 P) (l o206 P)) (n o110 P (l o174 P) .nil)) (n o62 P (n o94 P (l o158 P) .nil) (n o126 P (l o190 P) .nil)))))))
noncomputable def treeS9 (P : Params) : BT:=(n o0 P (n o1 P (n o3v4 P (n o7 P (n o15 P (n o31 P (n o63 P (l o127 P) (l o191 P)) (n o95 P (l o159 P) .nil)) (n o47 P (n o79 P (l o143 P) .nil) (n o111 P (l o175 P) .nil))) (n o23 P (n o39 P (n o71 P (l o135 P) (l o199 P)) (n o103 P (l o167 P) .nil)) (n o55 P (n o87 P (l o151 P) .nil) (n o119 P (l o183 P) .nil)))) (n o11 P (n o19 P (n o35 P (n o67 P (l o131 P) (l o195 P)) (n o99 P (l o163 P) .nil)) (n o51 P (n o83 P (l o147 P) .nil) (n o115 P (l o179 P) .nil))) (n o27 P (n o43 P (n o75 P (l o139 P) (l o203 P)) (n o107 P (l o171 P) .nil)) (n o59 P (n o91 P (l o155 P) .nil) (n o123 P (l o187 P) .nil))))) (n o5 P (n o9 P (n o17 P (n o33 P (n o65 P (l o129 P) (l o193 P)) (n o97 P (l o161 P) .nil)) (n o49 P (n o81 P (l o145 P) .nil) (n o113 P (l o177 P) .nil))) (n o25 P (n o41 P (n o73 P (l o137 P) (l o201 P)) (n o105 P (l o169 P) .nil)) (n o57 P (n o89 P (l o153 P) .nil) (n o121 P (l o185 P) .nil)))) (n o13 P (n o21 P (n o37 P (n o69 P (l o133 P) (l o197 P)) (n o101 P (l o165 P) .nil)) (n o53 P (n o85 P (l o149 P) .nil) (n o117 P (l o181 P) .nil))) (n o29v1 P (n o45 P (n o77 P (l o141 P) .nil) (n o109 P (l o173 P) .nil)) (n o61 P (n o93 P (l o157 P) .nil) (n o125 P (l o189 P) .nil)))))) (n o2 P (n o4 P (n o8 P (n o16 P (n o32 P (n o64 P (l o128 P) (l o192 P)) (n o96 P (l o160 P) .nil)) (n o48 P (n o80 P (l o144 P) .nil) (n o112 P (l o176 P) .nil))) (n o24 P (n o40 P (n o72 P (l o136 P) (l o200 P)) (n o104 P (l o168 P) .nil)) (n o56 P (n o88 P (l o152 P) .nil) (n o120 P (l o184 P) .nil)))) (n o12 P (n o20 P (n o36 P (n o68 P (l o132 P) (l o196 P)) (n o100 P (l o164 P) .nil)) (n o52 P (n o84 P (l o148 P) .nil) (n o116 P (l o180 P) .nil))) (n o28 P (n o44 P (n o76 P (l o140 P) (l o204 P)) (n o108 P (l o172 P) .nil)) (n o60 P (n o92 P (l o156 P) .nil) (n o124 P (l o188 P) .nil))))) (n o6 P (n o10 P (n o18 P (n o34 P (n o66 P (l o130 P) (l o194 P)) (n o98 P (l o162 P) .nil)) (n o50 P (n o82 P (l o146 P) .nil) (n o114 P (l o178 P) .nil))) (n o26 P (n o42 P (n o74 P (l o138 P) (l o202 P)) (n o106 P (l o170 P) .nil)) (n o58 P (n o90 P (l o154 P) .nil) (n o122 P (l o186 P) .nil)))) (n o14 P (n o22 P (n o38 P (n o70 P (l o134 P) (l o198 P)) (n o102 P (l o166 P) .nil)) (n o54 P (n o86 P (l o150 P) .nil) (n o118 P (l o182 P) .nil))) (n o30 P (n o46 P (n o78 P (l o142 P) .nil) (n o110 P (l o174 P) .nil)) (n o62 P (n o94 P (l o158 P) .nil) (n o126 P (l o190 P) .nil)))))))
noncomputable def treeSb (P : Params) : BT:=(n o0 P (n o1 P (n o3v5 P (n o7 P (n o15 P (l o31 P) .nil) (l o23 P)) (n o11 P (l o19 P) (l o27 P))) (n o5 P (n o9 P (l o17 P) (l o25 P)) (n o13 P (l o21 P) (l o29v2 P)))) (n o2 P (n o4 P (n o8 P (l o16 P) (l o24 P)) (n o12 P (l o20 P) (l o28 P))) (n o6 P (n o10 P (l o18 P) (l o26 P)) (n o14 P (l o22 P) (l o30 P)))))
noncomputable def treeS0 (P : Params) : BT:=(n o0 P (n o1 P (n o3v5 P (n o7 P (l o15 P) (l o23 P)) (n o11 P (l o19 P) (l o27 P))) (n o5 P (n o9 P (l o17 P) (l o25 P)) (n o13 P (l o21 P) .nil))) (n o2 P (n o4 P (n o8 P (l o16 P) (l o24 P)) (n o12 P (l o20 P) .nil)) (n o6 P (n o10 P (l o18 P) (l o26 P)) (n o14 P (l o22 P) .nil))))
noncomputable def envT : Env:={ scope:=PW.main.scope, locals:=mainNs, globals:=mainNs, cells:=[], code:=.ref 30, frame:=some 31 }
noncomputable def bT : List Stmt:=behindTheImports PW
noncomputable def cT : Code:=.body bT envT
noncomputable def p0 : Pos:=⟨0, 0, 0, 0⟩
noncomputable def fT : List Frame:=[topFrame p0]
noncomputable def sT (tr : Params -> BT) (n toks : Nat) (w : World) (os : OsState) : SharedT:=⟨tr w.params, n, {}, #[], {}, toks, os⟩
noncomputable abbrev runQ:=PySem.W.Fast.tw10110043849684766642
noncomputable abbrev goQ:=PySem.W.Fast.tw10295753902157049106
noncomputable abbrev tabQ:=PySem.W.Fast.tw14364793385576792824
theorem runE : segRunT = runQ:=Fast.te10110043849684766642
theorem goE : segGoT = goQ:=Fast.te10295753902157049106
theorem tabE : treeTable = tabQ:=Fast.te14364793385576792824
end
section
set_option maxHeartbeats 0
noncomputable def oe11 (P : Params) : Obj:=⟨(.type "dict"), none, (.dict ⟨[e P "__name__" 247 (v "_sre" 246), e P "__doc__" 248 .none, e P "__package__" 250 (v "" 249), e P "__loader__" 251 (r 14), e P "__spec__" 252 (r 26), e P "compile" 253 (.builtin "_sre.compile"), e P "template" 254 (.builtin "_sre.template"), e P "getcodesize" 255 (.builtin "_sre.getcodesize"), e P "ascii_iscased" 256 (.builtin "_sre.ascii_iscased"), e P "unicode_iscased" 257 (.builtin "_sre.unicode_iscased"), e P "ascii_tolower" 258 (.builtin "_sre.ascii_tolower"), e P "unicode_tolower" 259 (.builtin "_sre.unicode_tolower"), e P "MAGIC" 261 (.int 20230612 260), e P "CODESIZE" 263 (.int 4 262), e P "MAXREPEAT" 265 (.int 4294967295 264), e P "MAXGROUPS" 267 (.int 1073741823 266), e P "copyright" 269 (v " SRE 2.2.2 Copyright (c) 1997-2002 by Secret Labs AB " 268)]⟩ 17), ⟨[]⟩⟩
noncomputable def oc2 (P : Params) : Obj:=⟨.none, none, (.dict ⟨[e P "\x69mport.loaded._sre" 183 bt, e P "class._frozen_\x69mportlib.BuiltinImporter" 185 (r 14), e P "watched.\x69mport" 206 (r 18), e P "class._frozen_\x69mportlib.ModuleSpec" 216 (r 22), e P "sys.modules.booked-epoch" 245 (i 3), e P "\x69mport.later-laid._sre" 270 bt]⟩ 6), ⟨[]⟩⟩
noncomputable def oc3 (P : Params) : Obj:=⟨(.type "dict"), none, (.dict ⟨[e P "__name__" 165 (v "__main__" 164), e P "__doc__" 166 .none, e P "__package__" 167 .none, e P "__loader__" 168 (.builtin "__main__.__loader__#opaque"), e P "__spec__" 169 .none, e P "__annotations__" 170 (r 6), e P "__builtins__" 171 (r 4), e P "__file__" 173 (v "/claim/cut.py" 172), e P "__cached__" 174 .none]⟩ 9), ⟨[]⟩⟩
noncomputable def oc20 (P : Params) : Obj:=⟨(.type "dict"), none, (.dict ⟨[e P "name" 208 (v "_sre" 207), e P "loader" 209 (r 14), e P "origin" 210 (v "built-in" 184), e P "loader_state" 211 .none, e P "submodule_search_locations" 212 .none, e P "_uninitialized_submodules" 213 (r 19), e P "_set_fileattr" 214 (.bool false), e P "_cached" 215 .none, e P "_initializing" 243 bt]⟩ 9), ⟨[]⟩⟩
noncomputable def treeSc (P : Params) : BT:=(.node (o0 P) (.node (o1 P) (.node (oc3 P) (.node (o7 P) (.node (o15 P) .nil .nil) (.node (o23 P) .nil .nil)) (.node (oe11 P) (.node (o19 P) .nil .nil) .nil)) (.node (o5 P) (.node (o9 P) (.node (o17 P) .nil .nil) (.node (o25 P) .nil .nil)) (.node (o13 P) (.node (o21 P) .nil .nil) .nil))) (.node (oc2 P) (.node (o4 P) (.node (o8 P) (.node (o16 P) .nil .nil) (.node (o24 P) .nil .nil)) (.node (o12 P) (.node (oc20 P) .nil .nil) .nil)) (.node (o6 P) (.node (o10 P) (.node (o18 P) .nil .nil) (.node (o26 P) .nil .nil)) (.node (o14 P) (.node (o22 P) .nil .nil) .nil))))
noncomputable def treeSe (P : Params) : BT:=(.node (o0 P) (.node (o1 P) (.node (o3v5 P) (.node (o7 P) (.node (o15 P) .nil .nil) (.node (o23 P) .nil .nil)) (.node (oe11 P) (.node (o19 P) .nil .nil) (.node (o27 P) .nil .nil))) (.node (o5 P) (.node (o9 P) (.node (o17 P) .nil .nil) (.node (o25 P) .nil .nil)) (.node (o13 P) (.node (o21 P) .nil .nil) .nil))) (.node (o2 P) (.node (o4 P) (.node (o8 P) (.node (o16 P) .nil .nil) (.node (o24 P) .nil .nil)) (.node (o12 P) (.node (o20 P) .nil .nil) .nil)) (.node (o6 P) (.node (o10 P) (.node (o18 P) .nil .nil) (.node (o26 P) .nil .nil)) (.node (o14 P) (.node (o22 P) .nil .nil) .nil))))
noncomputable def hpT (tr : Params -> BT) (n : Nat) (w : World) : Heap:=absHeap (tr w.params) n {}
noncomputable abbrev impQ:=PySem.W.Fast.tw14789777615569096658
noncomputable abbrev endQ:=PySem.W.Fast.tw10274390034422433532
theorem impE : impGoT = impQ:=Fast.te14789777615569096658
theorem endE : importEnds = endQ:=Fast.te10274390034422433532
noncomputable def oQ : Program:=opening PW
noncomputable def stO (os : OsState) : SharedT:=⟨.nil, 0, {}, #[], {}, 1, os⟩
noncomputable def thO (w : World) (os : OsState) : Thread:=((impQ tabQ oQ w 726 (stO os) (start oQ).2).map (·.2)).getD (start oQ).2
theorem opA : ∀ w : World, (fun os=>impQ tabQ oQ w 726 (stO os) (start oQ).2) = fun os=>some (sT treeSc 27 271 w os, thO w os):=by
 intro w
 kernel_rfl
noncomputable def thP (w : World) (os : OsState) : Thread:=((impQ tabQ oQ w 72 (sT treeSc 27 271 w os) (thO w os)).map (·.2)).getD (start oQ).2
theorem opB : ∀ w : World, (fun os=>impQ tabQ oQ w 72 (sT treeSc 27 271 w os) (thO w os)) = fun os=>some (sT treeSe 28 276 w os, thP w os):=by
 intro w
 kernel_rfl
theorem opB2 : ∀ w : World, (fun os=>endQ tabQ oQ w 1 (sT treeSe 28 276 w os).abs (thP w os)) = fun os=>some (sT treeSe 28 276 w os).abs:=by
 intro w
 kernel_rfl
theorem opC : (stO (start oQ).1.os).abs = (start oQ).1:=by kernel_rfl
theorem opD : ∀ w : World, (fun os=>Option.map (fun s=>(s.heap, s.gens, s.drawn, s.toks)) (Fast.tw14289696077712309145 PW ⟨hpT treeSe 28 w, #[], {}, 276, os⟩)) = fun _=>some (hpT treeS0 28 w, #[], {}, 276):=by
 intro w
 kernel_rfl
theorem sizeQ : ∀ w : World, ((hpT treeS0 28 w).isNs mainGlobals && (#[] : Array GenState).size == 0, (hpT treeS0 28 w).objs.size, (hpT treeS0 28 w).nsMap mainGlobals "__annotations__") = (true, 28, some (.ref 6)):=by
 intro w
 kernel_rfl
theorem preQ : ∀ w : World, (fun os=>Fast.tw15667345088766844465 tabQ PW w 28 (some (.ref 6)) 12 ⟨hpT treeS0 28 w, #[], {}, 276, os⟩ (topStub PW)) = fun os=>some ((sT treeSb 32 282 w os).abs, ⟨Fast.tw11892475500146522536 tabQ cT, cT, p0, fT⟩):=by
 intro w
 kernel_rfl
theorem open_ : ∀ w : World, (fencedOpening treeTable PW w 40000).map (fun s=>(s.heap, s.gens, s.drawn, s.toks)) = some (hpT treeS0 28 w, #[], {}, 276):=by
 refine open_cut (p:=PW) (N:=40000) (M:=726 + (72 + 1)) (He:=fun P=>absHeap (treeSe P) 28 {}) (H₀:=fun P=>absHeap (treeS0 P) 28 {}) (ge:=#[]) (g₀:=#[]) (de:={}) (d₀:={}) (ke:=276) (k₀:=276) (fun w=>?_) (by decide) (fun w=>?_)
 ·obtain ⟨os, ho⟩ : ∃ os, (start oQ).1.os = os:=⟨_, rfl⟩
  have a : impQ tabQ oQ w 726 (stO os) (start oQ).2 = some (sT treeSc 27 271 w os, thO w os):=congrFun (opA w) os
  have b : impQ tabQ oQ w 72 (sT treeSc 27 271 w os) (thO w os) = some (sT treeSe 28 276 w os, thP w os):=congrFun (opB w) os
  have b2 : endQ tabQ oQ w 1 (sT treeSe 28 276 w os).abs (thP w os) = some (sT treeSe 28 276 w os).abs:=congrFun (opB2 w) os
  rw [<- impE, <- tabE] at a b
  rw [<- endE, <- tabE] at b2
  have a2:=impGo_of a
  rw [<- ho, opC] at a2
  rw [<- ho] at b b2
  exact imp_go a2 (imp_go (impGo_of b) b2)
 ·have d:=opD w
  rw [<- Fast.te14289696077712309145] at d
  exact d
end
section
set_option maxHeartbeats 0
theorem segA : ∀ (w : World), (fun os=>runQ tabQ PW w 28 (some (.ref 6)) 1 1200 (sT treeSb 32 282 w os) (piecesOf ((bT.drop 0).take 9) envT cT p0 fT)) =
  fun os=>some (.next, sT treeS9 205 533 w os, cT, ⟨118, 0, 118, 13⟩):=by
 intro w
 kernel_rfl
end
section
set_option maxHeartbeats 0
noncomputable def gB (w : World) (os : OsState) : SharedT × Thread:=(goQ tabQ PW ((w.withFollow "special-get-raises" false).withFollow "comprehension-iter-twice" true) 28 (some (.ref 6)) 1 42 (sT treeS9 205 533 w os) (piecesOf ((bT.drop 9).take 1) envT cT ⟨118, 0, 118, 13⟩ fT)).getD ((sT treeS9 205 533 w os), topStub PW)
theorem segB2 : ∀ (w : World), (fun os=>runQ tabQ PW w 28 (some (.ref 6)) 1 9600 (gB w os).1 (gB w os).2) = fun os=>some (.next, sT treeS10 211 1561 w os, cT, ⟨119, 0, 119, 11⟩):=by
 intro w
 kernel_rfl
theorem segB1_0 : ∀ (w : World), (fun os=>goQ tabQ PW ((w.withFollow "special-get-raises" true).withFollow "comprehension-iter-twice" true) 28 (some (.ref 6)) 1 42 (sT treeS9 205 533 ((w.withFollow "special-get-raises" true).withFollow "comprehension-iter-twice" true) os) (piecesOf ((bT.drop 9).take 1) envT cT ⟨118, 0, 118, 13⟩ fT)) = fun os=>some ((gB ((w.withFollow "special-get-raises" true).withFollow "comprehension-iter-twice" true) os).1, (gB ((w.withFollow "special-get-raises" true).withFollow "comprehension-iter-twice" true) os).2):=by
 intro w
 kernel_rfl
theorem segB1_1 : ∀ (w : World), (fun os=>goQ tabQ PW ((w.withFollow "special-get-raises" false).withFollow "comprehension-iter-twice" true) 28 (some (.ref 6)) 1 42 (sT treeS9 205 533 ((w.withFollow "special-get-raises" false).withFollow "comprehension-iter-twice" true) os) (piecesOf ((bT.drop 9).take 1) envT cT ⟨118, 0, 118, 13⟩ fT)) = fun os=>some ((gB ((w.withFollow "special-get-raises" false).withFollow "comprehension-iter-twice" true) os).1, (gB ((w.withFollow "special-get-raises" false).withFollow "comprehension-iter-twice" true) os).2):=by
 intro w
 kernel_rfl
theorem segB1_2 : ∀ (w : World), (fun os=>goQ tabQ PW ((w.withFollow "special-get-raises" true).withFollow "comprehension-iter-twice" false) 28 (some (.ref 6)) 1 52 (sT treeS9 205 533 ((w.withFollow "special-get-raises" true).withFollow "comprehension-iter-twice" false) os) (piecesOf ((bT.drop 9).take 1) envT cT ⟨118, 0, 118, 13⟩ fT)) = fun os=>some ((gB ((w.withFollow "special-get-raises" true).withFollow "comprehension-iter-twice" false) os).1, (gB ((w.withFollow "special-get-raises" true).withFollow "comprehension-iter-twice" false) os).2):=by
 intro w
 kernel_rfl
theorem segB1_3 : ∀ (w : World), (fun os=>goQ tabQ PW ((w.withFollow "special-get-raises" false).withFollow "comprehension-iter-twice" false) 28 (some (.ref 6)) 1 52 (sT treeS9 205 533 ((w.withFollow "special-get-raises" false).withFollow "comprehension-iter-twice" false) os) (piecesOf ((bT.drop 9).take 1) envT cT ⟨118, 0, 118, 13⟩ fT)) = fun os=>some ((gB ((w.withFollow "special-get-raises" false).withFollow "comprehension-iter-twice" false) os).1, (gB ((w.withFollow "special-get-raises" false).withFollow "comprehension-iter-twice" false) os).2):=by
 intro w
 kernel_rfl
end
section
set_option maxHeartbeats 0
theorem segC : ∀ (w : World), (fun os=>runQ tabQ PW w 28 (some (.ref 6)) 1 4000 (sT treeS10 211 1561 w os) (piecesOf ((bT.drop 10).take 9) envT cT ⟨119, 0, 119, 11⟩ fT)) =
  fun os=>some (.next, sT treeS19 218 1786 w os, cT, ⟨128, 9, 128, 74⟩):=by
 refine byRow2 "special-get-raises" (fun w=>?_) fun w=>?_
 ·kernel_rfl
 ·kernel_rfl
end
section
set_option maxHeartbeats 0
theorem segD : ∀ (w : World), (fun os=>runQ tabQ PW w 28 (some (.ref 6)) 1 9000 (sT treeS19 218 1786 w os) (piecesOf ((bT.drop 19).take 2) envT cT ⟨128, 9, 128, 74⟩ fT)) =
  fun os=>some (.next, sT treeS21 221 2075 w os, cT, ⟨131, 9, 131, 110⟩):=by
 refine byRow2 "special-get-raises" (fun w=>?_) fun w=>?_
 ·kernel_rfl
 ·kernel_rfl
end
section
set_option maxHeartbeats 0
theorem segE : ∀ (w : World), (fun os=>runQ tabQ PW w 28 (some (.ref 6)) 1 9000 (sT treeS21 221 2075 w os) (piecesOf ((bT.drop 21).take 16) envT cT ⟨131, 9, 131, 110⟩ fT)) =
  fun os=>some (.next, sT treeSf 307 2200 w os, cT, ⟨264, 0, 288, 61⟩):=by
 refine byRow2 "special-get-raises" (fun w=>?_) fun w=>?_
 ·kernel_rfl
 ·kernel_rfl
end
section
set_option maxHeartbeats 0
theorem segRun_mono {tb : String -> Option Builtin} {p : Program} {w : World} {n₀ : Nat} {ann : Option Value} {b : Nat} (k : Nat) : ∀ (n : Nat) (s : Shared) (t : Thread) (r : Flow × Shared × Code × Pos), segRun tb p w n₀ ann b n s t = some r -> segRun tb p w n₀ ann b (n + k) s t = some r
 | 0, _, _, _, h=>by simp [segRun] at h
 | n + 1, s, t, r, h=>by
  rw [show n + 1 + k = n + k + 1 by lia]
  unfold segRun at h ⊢
  cases ht : endAt b t with
  | some f=>rw [ht] at h; exact h
  | none =>
   rw [ht] at h
   cases hk : stepOk n₀ ann t with
   | false=>rw [hk] at h; cases h
   | true =>
    rw [hk] at h
    cases hs : step (denote tb) p w s t with
    | halt o s'=>rw [hs] at h; cases h
    | go s' t'=>rw [hs] at h; exact segRun_mono k n s' t' r h
theorem segOf {w : World} {os : OsState} {n : Nat} {s s' : SharedT} {t : Thread} {q : Pos} (h : runQ tabQ PW w 28 (some (.ref 6)) 1 n s t = some (.next, s', cT, q)) : segRun treeTable PW w 28 (some (.ref 6)) 1 n s.abs t = some (.next, s'.abs, cT, q):=by
 rw [<- runE, <- tabE] at h
 exact segRun_of h
theorem cutJoin {w : World} {k N M : Nat} {s s1 s2 : SharedT} {t t1 : Thread} {q : Pos} (h1 : goQ tabQ PW w 28 (some (.ref 6)) 1 k s t = some (s1, t1)) (h2 : runQ tabQ PW w 28 (some (.ref 6)) 1 N s1 t1 = some (.next, s2, cT, q)) (hM : k + N <= M) :
  segRun treeTable PW w 28 (some (.ref 6)) 1 M s.abs t = some (.next, s2.abs, cT, q):=by
 rw [<- goE, <- tabE] at h1
 rw [<- runE, <- tabE] at h2
 have:=seg_go (segGo_of h1) (segRun_of h2)
 have:=segRun_mono (M - (k + N)) _ _ _ _ this
 rwa [Nat.add_sub_cancel' hM] at this
noncomputable abbrev annT : Option Value:=some (.ref 6)
theorem segB : ∀ (w : World) (os : OsState), segRun treeTable PW w 28 annT 1 9652 (sT treeS9 205 533 w os).abs (piecesOf ((bT.drop 9).take 1) envT cT ⟨118, 0, 118, 13⟩ fT) = some (.next, (sT treeS10 211 1561 w os).abs, cT, ⟨119, 0, 119, 11⟩):=by
 refine byRow2 "comprehension-iter-twice" (fun w=>?_) fun w=>?_
 ·revert w
  refine byRow2 "special-get-raises" (fun w os=>?_) fun w os=>?_
  ·exact cutJoin (congrFun (segB1_3 w) os) (congrFun (segB2 _) os) (by decide)
  ·exact cutJoin (congrFun (segB1_2 w) os) (congrFun (segB2 _) os) (by decide)
 ·revert w
  refine byRow2 "special-get-raises" (fun w os=>?_) fun w os=>?_
  ·exact cutJoin (congrFun (segB1_1 w) os) (congrFun (segB2 _) os) (by decide)
  ·exact cutJoin (congrFun (segB1_0 w) os) (congrFun (segB2 _) os) (by decide)
theorem topQ : topRun = Fast.tw14082659384304107361:=Fast.te14082659384304107361
theorem topGoQ : topGo = Fast.tw15667345088766844465:=Fast.te15667345088766844465
theorem denE : denote = Fast.tw11892475500146522536:=Fast.te11892475500146522536
theorem finQ : ∀ w : World, (fun os=>Fast.tw14082659384304107361 tabQ PW w 28 annT 2 (sT treeSf 307 2200 w os).abs ⟨doneF .next, cT, ⟨264, 0, 288, 61⟩, fT⟩) = fun os=>some (sT treeSf 307 2200 w os).abs:=by
 intro w
 kernel_rfl
theorem blockQ : ∀ w : World, (fun os=>Fast.tw14374325043358763698 tabQ PW w 28 annT 1 1 (sT treeSb 32 282 w os).abs (blockOf bT envT cT p0 fT)) = fun os=>some (.next, (sT treeSb 32 282 w os).abs, cT, p0):=by
 intro w
 kernel_rfl
theorem segRunQ : segRun = Fast.tw14374325043358763698:=Fast.te14374325043358763698
theorem bSplit : bT = (bT.drop 0).take 9 ++ ((bT.drop 9).take 1 ++ ((bT.drop 10).take 9 ++ ((bT.drop 19).take 2 ++ ((bT.drop 21).take 16 ++ [])))):=by kernel_rfl
theorem topRunT (w : World) (os : OsState) : topRun treeTable PW w 28 annT (12 + (1 + (1200 + (9652 + (4000 + (9000 + (9000 + 2))))))) ⟨hpT treeS0 28 w, #[], {}, 276, os⟩ (topStub PW) = some (sT treeSf 307 2200 w os).abs:=by
 have fin : topRun treeTable PW w 28 annT 2 (sT treeSf 307 2200 w os).abs ⟨doneF .next, cT, ⟨264, 0, 288, 61⟩, [topFrame p0]⟩ = some (sT treeSf 307 2200 w os).abs:=by
  rw [topQ, tabE]; exact congrFun (finQ w) os
 have blk : segRun treeTable PW w 28 annT 1 1 (sT treeSb 32 282 w os).abs (blockOf bT envT cT p0 [topFrame p0]) = some (.next, (sT treeSb 32 282 w os).abs, cT, p0):=by
  rw [segRunQ, tabE]; exact congrFun (blockQ w) os
 have pre : topGo treeTable PW w 28 annT 12 ⟨hpT treeS0 28 w, #[], {}, 276, os⟩ (topStub PW) = some ((sT treeSb 32 282 w os).abs, ⟨denote treeTable (.body bT envT), cT, p0, [topFrame p0]⟩):=by
  rw [topGoQ, denE, tabE]; exact congrFun (preQ w) os
 have k5:=piece_app (segOf (os:=os) (congrFun (segE w) os)) (piece_nil (env:=envT) fin)
 have k4:=piece_app (segOf (os:=os) (congrFun (segD w) os)) k5
 have k3:=piece_app (segOf (os:=os) (congrFun (segC w) os)) k4
 have k2:=piece_app (segB w os) k3
 have k1:=piece_app (segOf (os:=os) (congrFun (segA w) os)) k2
 rw [<- bSplit] at k1
 exact go_top pre (piece_block blk k1)
end
noncomputable def KM (P : Params) : Frag:=[(0, o0 P), (1, o1 P), (2, o2 P), (3, o3 P), (4, o4 P), (5, o5 P), (6, o6 P), (7, o7 P), (8, o8 P), (9, o9 P), (10, o10 P), (11, o11 P), (12, o12 P), (13, o13 P), (14, o14 P), (15, o15 P), (16, o16 P), (17, o17 P), (18, o18 P), (19, o19 P), (20, o20 P), (21, o21 P), (22, o22 P), (23, o23 P), (24, o24 P), (25, o25 P), (26, o26 P), (27, o27 P), (28, o28 P), (29, o29 P), (30, o30 P), (31, o31 P), (32, o32 P), (33, o33 P), (34, o34 P), (35, o35 P), (36, o36 P), (37, o37 P), (38, o38 P), (39, o39 P), (40, o40 P), (41, o41 P), (42, o42 P), (43, o43 P), (44, o44 P), (45, o45 P), (46, o46 P), (47, o47 P), (48, o48 P), (49, o49 P), (50, o50 P), (51, o51 P), (52, o52 P), (53, o53 P), (54, o54 P), (55, o55 P), (56, o56 P), (57, o57 P), (58, o58 P), (59, o59 P), (60, o60 P), (61, o61 P), (62, o62 P), (63, o63 P), (64, o64 P), (65, o65 P), (66, o66 P), (67, o67 P), (68, o68 P), (69, o69 P), (70, o70 P), (71, o71 P), (72, o72 P), (73, o73 P), (74, o74 P), (75, o75 P), (76, o76 P), (77, o77 P), (78, o78 P), (79, o79 P), (80, o80 P), (81, o81 P), (82, o82 P), (83, o83 P), (84, o84 P), (85, o85 P), (86, o86 P), (87, o87 P), (88, o88 P), (89, o89 P), (90, o90 P), (91, o91 P), (92, o92 P), (93, o93 P), (94, o94 P), (95, o95 P), (96, o96 P), (97, o97 P), (98, o98 P), (99, o99 P), (100, o100 P), (101, o101 P), (102, o102 P), (103, o103 P), (104, o104 P), (105, o105 P), (106, o106 P), (107, o107 P), (108, o108 P), (109, o109 P), (110, o110 P), (111, o111 P), (112, o112 P), (113, o113 P), (114, o114 P), (115, o115 P), (116, o116 P), (117, o117 P), (118, o118 P), (119, o119 P), (120, o120 P), (121, o121 P), (122, o122 P), (123, o123 P), (124, o124 P), (125, o125 P), (126, o126 P), (127, o127 P), (128, o128 P), (129, o129 P), (130, o130 P), (131, o131 P), (132, o132 P), (133, o133 P), (134, o134 P), (135, o135 P), (136, o136 P), (137, o137 P), (138, o138 P), (139, o139 P), (140, o140 P), (141, o141 P), (142, o142 P), (143, o143 P), (144, o144 P), (145, o145 P), (146, o146 P), (147, o147 P), (148, o148 P), (149, o149 P), (150, o150 P), (151, o151 P), (152, o152 P), (153, o153 P), (154, o154 P), (155, o155 P), (156, o156 P), (157, o157 P), (158, o158 P), (159, o159 P), (160, o160 P), (161, o161 P), (163, o163 P), (164, o164 P), (165, o165 P), (166, o166 P), (167, o167 P), (168, o168 P), (170, o170 P), (171, o171 P), (172, o172 P), (173, o173 P), (174, o174 P), (175, o175 P), (176, o176 P), (177, o177 P), (178, o178 P), (179, o179 P), (180, o180 P), (181, o181 P), (182, o182 P), (183, o183 P), (184, o184 P), (185, o185 P), (186, o186 P), (187, o187 P), (188, o188 P), (189, o189 P), (190, o190 P), (191, o191 P), (192, o192 P), (193, o193 P), (194, o194 P), (195, o195 P), (196, o196 P), (197, o197 P), (198, o198 P), (199, o199 P), (200, o200 P), (201, o201 P), (202, o202 P), (203, o203 P), (204, o204 P), (205, o205 P), (206, o206 P), (207, o207 P), (208, o208 P), (209, o209 P), (210, o210 P), (211, o211 P), (212, o212 P), (213, o213 P), (214, o214 P), (215, o215 P), (216, o216 P), (217, o217 P), (218, o218 P), (219, o219 P), (220, o220 P), (221, o221 P), (222, o222 P), (223, o223 P), (224, o224 P), (225, o225 P), (226, o226 P), (227, o227 P), (228, o228 P), (229, o229 P), (230, o230 P), (231, o231 P), (232, o232 P), (233, o233 P), (234, o234 P), (235, o235 P), (236, o236 P), (237, o237 P), (238, o238 P), (239, o239 P), (240, o240 P), (241, o241 P), (242, o242 P), (243, o243 P), (244, o244 P), (245, o245 P), (246, o246 P), (247, o247 P), (248, o248 P), (249, o249 P), (250, o250 P), (251, o251 P), (252, o252 P), (253, o253 P), (254, o254 P), (255, o255 P), (256, o256 P), (257, o257 P), (258, o258 P), (259, o259 P), (260, o260 P), (261, o261 P), (262, o262 P), (263, o263 P), (264, o264 P), (265, o265 P), (266, o266 P), (267, o267 P), (268, o268 P), (269, o269 P), (270, o270 P), (271, o271 P), (272, o272 P), (273, o273 P), (274, o274 P), (275, o275 P), (276, o276 P), (277, o277 P), (278, o278 P), (279, o279 P), (280, o280 P), (281, o281 P), (282, o282 P), (283, o283 P), (284, o284 P), (285, o285 P), (286, o286 P), (287, o287 P), (288, o288 P), (289, o289 P), (290, o290 P), (291, o291 P), (292, o292 P), (293, o293 P), (294, o294 P), (295, o295 P), (296, o296 P), (297, o297 P), (298, o298 P), (299, o299 P), (300, o300 P), (301, o301 P), (302, o302 P), (303, o303 P), (304, o304 P), (305, o305 P), (306, o306 P)]
noncomputable def Sub (G h : Heap) : Prop:=∀ b o, G.get? b = some o -> h.get? b = some o
theorem Sub.refl (h : Heap) : Sub h h:=fun _ _ e=>e
theorem Sub.trans {a b c : Heap} (x : Sub a b) (y : Sub b c) : Sub a c:=fun _ _ e=>y _ _ (x _ _ e)
theorem Sub.none {G h : Heap} (x : Sub G h) {a : Addr} (e : h.get? a = none) : G.get? a = none:=by
 cases q : G.get? a with
 | none=>rfl
 | some o=>rw [x _ _ q] at e; cases e
theorem fresh_size (h : Heap) : h.get? h.objs.size = none:=by
 cases q : h.get? h.objs.size with
 | none=>rfl
 | some o=>exact absurd (Heap.lt_size q) (Nat.lt_irrefl _)
structure Own (G h : Heap) (l : List (Addr × Obj)) : Prop where
 at_ : ∀ p ∈ l, h.get? p.1 = some p.2 /\ G.get? p.1 = none
 nd : (l.map (·.1)).Nodup
theorem Own.nil {G h : Heap} : Own G h []:=⟨fun _ m=>(nomatch m), List.nodup_nil⟩
noncomputable abbrev Fm:=List (Str × Option Value)
noncomputable def fm : Fm -> Str -> Option Value
 | [], _=>none
 | p :: l, y=>if y = p.1 then p.2 else fm l y
noncomputable def namesOk : List Str -> Bool
 | []=>true
 | x :: l=>!l.contains x && namesOk l
inductive Has : Fm -> Str -> Value -> Prop
 | here {x v l} : Has ((x, some v) :: l) x v
 | there {p x v l} : Has l x v -> Has (p :: l) x v
inductive Put : Fm -> Str -> Value -> Fm -> Prop
 | here {x o v l} : Put ((x, o) :: l) x v ((x, some v) :: l)
 | there {p x v l l'} : Put l x v l' -> Put (p :: l) x v (p :: l')
theorem Has.mem {l : Fm} {x : Str} {v : Value} (h : Has l x v) : x ∈ l.map (·.1):=by
 induction h with
 | here=>exact .head _
 | there _ ih=>exact .tail _ ih
theorem Put.mem {l l' : Fm} {x : Str} {v : Value} (h : Put l x v l') : x ∈ l.map (·.1):=by
 induction h with
 | here=>exact .head _
 | there _ ih=>exact .tail _ ih
theorem namesOk_cons {x : Str} {l : List Str} (h : namesOk (x :: l) = true) : x ∉ l /\ namesOk l = true:=by
 simp only [namesOk, Bool.and_eq_true, Bool.not_eq_true', List.contains_eq_mem, decide_eq_false_iff_not] at h
 exact h
theorem Has.get {l : Fm} {x : Str} {v : Value} (h : Has l x v) : namesOk (l.map (·.1)) = true -> fm l x = some v:=by
 induction h with
 | here=>intro _; simp [fm]
 | @there p x v l h ih =>
  intro n
  refine xa (namesOk_cons n) fun a b=>?_
  have : x ≠ p.1:=fun e=>a (by have:=h.mem; rw [e] at this; exact this)
  rw [fm, if_neg this]; exact ih b
theorem Put.set {l l' : Fm} {x : Str} {v : Value} (h : Put l x v l') : namesOk (l.map (·.1)) = true -> (fun y=>if y = x then some v else fm l y) = fm l':=by
 induction h with
 | here=>intro _; funext y; simp only [fm]; split <;> rfl
 | @there p x v l l' h ih =>
  intro n
  refine xa (namesOk_cons n) fun a b=>?_
  have hx : x ≠ p.1:=fun e=>a (by have:=h.mem; rw [e] at this; exact this)
  funext y
  have:=congrFun (ih b) y
  simp only [fm] at this ⊢
  by_cases hy : y = x
  ·subst hy; rw [if_pos rfl] at this ⊢; rw [if_neg hx]; exact this
  ·rw [if_neg hy] at this ⊢; rw [this]
theorem fm_binds (l : List (Str × Value)) (r : List Str) (y : Str) : l.lookup y = fm (l.map (fun p=>(p.1, some p.2)) ++ r.map fun x=>(x, none)) y:=by
 induction l with
 | nil =>
  induction r with
  | nil=>rfl
  | cons x r ih =>
   show none = (if y = x then none else fm (r.map fun x=>(x, none)) y)
   split
   ·rfl
   ·exact ih
 | cons p l ih =>
  simp only [List.lookup, mpC, List.cons_append, fm]
  by_cases h : y = p.1
  ·rw [if_pos h, h]; simp
  ·rw [if_neg h, <- ih, beq_eq_false_iff_ne.mpr h]
structure Led (G : Heap) (L : Addr) (h : Heap) (f : Fm) (l : List (Addr × Obj)) : Prop where
 ns : h.Ns L (fm f)
 sub : Sub G h
 lo : G.get? L = none
 nw : ∀ p ∈ l, h.get? p.1 = some p.2 /\ p.1 ≠ L /\ G.get? p.1 = none
 nd : (l.map (·.1)).Nodup
 nm : namesOk (f.map (·.1)) = true
theorem Led.own {G h : Heap} {L : Addr} {f : Fm} {l} (D : Led G L h f l) : Own G h l:=⟨fun p hp=>⟨(D.nw p hp).1, (D.nw p hp).2.2⟩, D.nd⟩
theorem Led.inK {G h : Heap} {L : Addr} {f : Fm} {l} {K : Frag} (D : Led G L h f l) (X : K.In G) : K.In h:=X.keeps D.sub
theorem Led.get {G h : Heap} {L a : Addr} {o : Obj} {f : Fm} {l} (D : Led G L h f l) (m : (a, o) ∈ l) : h.get? a = some o:=(D.nw _ m).1
theorem Led.drop {G h : Heap} {L : Addr} {f : Fm} {l l' : List (Addr × Obj)} (D : Led G L h f l) (s : l'.Sublist l) : Led G L h f l' :=
 ⟨D.ns, D.sub, D.lo, fun p hp=>D.nw p (s.subset hp), (s.map _).nodup D.nd, D.nm⟩
theorem Led.base {G G' h : Heap} {L : Addr} {f : Fm} {l : List (Addr × Obj)} (D : Led G' L h f l) (s : Sub G G') : Led G L h f l :=
 ⟨D.ns, s.trans D.sub, s.none D.lo, fun p hp=>⟨(D.nw p hp).1, (D.nw p hp).2.1, s.none (D.nw p hp).2.2⟩, D.nd, D.nm⟩
theorem Led.add {G h : Heap} {L a : Addr} {o : Obj} {f : Fm} {l : List (Addr × Obj)} (D : Led G L h f l) (e : h.get? a = some o) (n : a ≠ L) (n' : G.get? a = none) (nl : a ∉ l.map (·.1)) : Led G L h f ((a, o) :: l) :=
 ⟨D.ns, D.sub, D.lo, fun p hp=>by
  rcases lmc hp with rfl | hp
  ·exact ⟨e, n, n'⟩
  ·exact D.nw p hp, List.nodup_cons.mpr ⟨nl, D.nd⟩, D.nm⟩
theorem Led.grow {G h h' : Heap} {L : Addr} {f : Fm} {l : List (Addr × Obj)} (D : Led G L h f l) (k : ∀ b o, h.get? b = some o -> h'.get? b = some o) : Led G L h' f l :=
 ⟨D.ns.keeps k, D.sub.trans k, D.lo, fun p hp=>⟨k _ _ (D.nw p hp).1, (D.nw p hp).2⟩, D.nd, D.nm⟩
theorem Led.lt {G h : Heap} {L : Addr} {f : Fm} {l : List (Addr × Obj)} (D : Led G L h f l) {p : Addr × Obj} (hp : p ∈ l) : p.1 < h.objs.size:=Heap.lt_size (D.nw p hp).1
theorem Led.push {G h : Heap} {L : Addr} {f : Fm} {l : List (Addr × Obj)} (D : Led G L h f l) (o : Obj) (hf : o.isFreed = false:=by rfl) : Led G L (h.push o) f ((h.objs.size, o) :: l) :=
 (D.grow fun _ _ e=>hpo _ e).add (Heap.get?_push_size _ hf) (Nat.ne_of_gt D.ns.lt) (D.sub.none (fresh_size h)) fun q=>by
  refine xea (lmm q) fun p hp e=>?_
  exact Nat.ne_of_lt (D.lt hp) e
theorem Led.but {G h h' : Heap} {L : Addr} {f : Fm} {l : List (Addr × Obj)} {wr : List Addr} (D : Led G L h f l) (k : ∀ b o, b ∉ wr -> h.get? b = some o -> h'.get? b = some o) (nL : L ∉ wr) (nl : ∀ p ∈ l, p.1 ∉ wr) (ng : ∀ b ∈ wr, G.get? b = none) : Led G L h' f l:=by
 obtain ⟨o, es, ep, e, r⟩:=D.ns
 exact ⟨⟨o, es, ep, k _ _ nL e, r⟩, fun b o e=>k _ _ (fun m=>by rw [ng b m] at e; cases e) (D.sub _ _ e), D.lo, fun p hp=>⟨k _ _ (nl p hp) (D.nw p hp).1, (D.nw p hp).2⟩, D.nd, D.nm⟩
inductive Chg (a : Addr) (o' : Obj) : List (Addr × Obj) -> Obj -> List (Addr × Obj) -> Prop
 | here {o l} : Chg a o' ((a, o) :: l) o ((a, o') :: l)
 | there {p o l l'} : Chg a o' l o l' -> Chg a o' (p :: l) o (p :: l')
theorem Chg.keys {a : Addr} {o o' : Obj} {l l'} (c : Chg a o' l o l') : l'.map (·.1) = l.map (·.1):=by
 induction c with
 | here=>rfl
 | there _ ih=>simp only [mpC, ih]
theorem Chg.old {a : Addr} {o o' : Obj} {l l'} (c : Chg a o' l o l') : (a, o) ∈ l:=by
 induction c with
 | here=>exact .head _
 | there _ ih=>exact .tail _ ih
theorem Chg.mem {a : Addr} {o o' : Obj} {l l'} (c : Chg a o' l o l') : (l.map (·.1)).Nodup -> ∀ p ∈ l', p = (a, o') \/ (p ∈ l /\ p.1 ≠ a):=by
 induction c with
 | @here o l =>
  intro n p hp
  rcases lmc hp with rfl | hp
  ·exact .inl rfl
  ·refine .inr ⟨.tail _ hp, fun e=>?_⟩
   exact (List.nodup_cons.mp n).1 (by have:=List.mem_map_of_mem (f:=Prod.fst) hp; rw [e] at this; exact this)
 | @there q o l l' c ih =>
  intro n p hp
  refine xa (List.nodup_cons.mp n) fun n1 n2=>?_
  rcases lmc hp with rfl | hp
  ·exact .inr ⟨.head _, fun e=>n1 (by have:=List.mem_map_of_mem (f:=Prod.fst) c.old; show p.1 ∈ _; rw [e]; exact this)⟩
  ·rcases ih n2 p hp with e | ⟨e1, e2⟩
   ·exact .inl e
   ·exact .inr ⟨.tail _ e1, e2⟩
theorem Led.upd {G h h' : Heap} {L a : Addr} {f : Fm} {l l' : List (Addr × Obj)} {o o' : Obj} (D : Led G L h f l) (c : Chg a o' l o l') (h1 : h'.get? a = some o') (h2 : ∀ b o, b ≠ a -> h.get? b = some o -> h'.get? b = some o) : Led G L h' f l':=by
 have A:=D.nw _ c.old
 obtain ⟨oL, es, ep, e, r⟩:=D.ns
 refine ⟨⟨oL, es, ep, h2 _ _ (Ne.symm A.2.1) e, r⟩, fun b o e=>h2 b o (fun z=>by rw [z, A.2.2] at e; cases e) (D.sub b o e), D.lo, fun p hp=>?_, c.keys ▸ D.nd, D.nm⟩
 rcases c.mem D.nd p hp with rfl | ⟨e1, e2⟩
 ·exact ⟨h1, A.2⟩
 ·have P:=D.nw p e1
  exact ⟨h2 _ _ e2 P.1, P.2⟩
theorem upd_get {h : Heap} {a : Addr} {o : Obj} {F : Obj -> Obj} (e : h.get? a = some o) (hf : (F o).isFreed = false) : (h.update a F).get? a = some (F o) /\ ∀ b x, b ≠ a -> h.get? b = some x -> (h.update a F).get? b = some x :=
 ⟨Heap.get?_update_self _ e hf, fun _ _ n q=>(Heap.get?_update_ne _ _ _ _ n).trans q⟩
theorem Led.lend {G h : Heap} {L : Addr} {f : Fm} {l r : List (Addr × Obj)} (D : Led G L h f (l ++ r)) :
  Sub (hideAll h (l.map (·.1))) h /\ Own (hideAll h (l.map (·.1))) h l /\ Sub G (hideAll h (l.map (·.1))) /\
  ∀ h' l', Sub (hideAll h (l.map (·.1))) h' -> Own (hideAll h (l.map (·.1))) h' l' -> Led G L h' f (l' ++ r):=by
 have hG : Sub G (hideAll h (l.map (·.1))):=fun b o e=>hideAll_get _ (D.sub b o e) fun q=>by
  refine xea (lmm q) fun p hp e62=>?_; obtain rfl:=e62
  rw [(D.nw p (lAl _ hp)).2.2] at e; cases e
 refine ⟨fun b o e=>of_hideAll _ e, ⟨fun p hp=>⟨(D.nw p (lAl _ hp)).1, hideAll_none _ (List.mem_map_of_mem hp)⟩, ?_⟩, hG, fun h' l' S O=>?_⟩
 ·have:=D.nd; rw [List.map_append] at this; exact (List.nodup_append.mp this).1
 ·have nL : L ∉ l.map (·.1):=fun q=>by
   refine xea (lmm q) fun p hp e=>?_
   exact (D.nw p (lAl _ hp)).2.1 e
  have hr : ∀ p ∈ r, h'.get? p.1 = some p.2 /\ (hideAll h (l.map (·.1))).get? p.1 = some p.2:=fun p hp=>by
   have : (hideAll h (l.map (·.1))).get? p.1 = some p.2:=hideAll_get _ (D.nw p (List.mem_append_right _ hp)).1 fun q=>by
    have n:=D.nd; rw [List.map_append] at n
    exact (List.nodup_append.mp n).2.2 _ q _ (List.mem_map_of_mem hp) rfl
   exact ⟨S _ _ this, this⟩
  obtain ⟨oL, es, ep, e, rr⟩:=D.ns
  have eL:=hideAll_get (l.map (·.1)) e nL
  refine ⟨⟨oL, es, ep, S _ _ eL, rr⟩, hG.trans S, D.lo, fun p hp=>?_, ?_, D.nm⟩
  ·rcases List.mem_append.mp hp with q | q
   ·have P:=O.at_ p q
    refine ⟨P.1, fun z=>?_, hG.none P.2⟩
    rw [z, eL] at P; cases P.2
   ·exact ⟨(hr p q).1, (D.nw p (List.mem_append_right _ q)).2⟩
  ·rw [List.map_append]
   refine List.nodup_append.mpr ⟨O.nd, ?_, fun a ha b hb e=>?_⟩
   ·have:=D.nd; rw [List.map_append] at this; exact (List.nodup_append.mp this).2.1
   ·subst e
    refine xea (lmm ha) fun p hp e92=>?_; obtain rfl:=e92
    refine xea (lmm hb) fun p' hp' e'=>?_
    have:=(hr p' hp').2
    rw [e', (O.at_ p hp).2] at this; cases this
theorem Led.rebase {G h : Heap} {L : Addr} {f : Fm} {l : List (Addr × Obj)} (D : Led G L h f l) :
  Led (hideAll h (L :: l.map (·.1))) L h f l /\ Sub G (hideAll h (L :: l.map (·.1))) /\ ∀ b o, h.get? b = some o -> b ≠ L -> b ∉ l.map (·.1) -> (hideAll h (L :: l.map (·.1))).get? b = some o:=by
 refine ⟨⟨D.ns, fun b o e=>of_hideAll _ e, hideAll_none _ (.head _), fun p hp=>⟨(D.nw p hp).1, (D.nw p hp).2.1, hideAll_none _ (.tail _ (List.mem_map_of_mem hp))⟩, D.nd, D.nm⟩, fun b o e=>hideAll_get _ (D.sub b o e) fun q=>?_, fun b o e n1 n2=>hideAll_get _ e fun q=>?_⟩
 ·rcases lmc q with rfl | q
  ·rw [D.lo] at e; cases e
  ·refine xea (lmm q) fun p hp e112=>?_; obtain rfl:=e112
   rw [(D.nw p hp).2.2] at e; cases e
 ·rcases lmc q with q | q
  ·exact n1 q
  ·exact n2 q
theorem ns_in {K : Frag} {h : Heap} {a : Addr} {cl : Value} {d : Option Addr} {es : Array DictEntry} {ep : Nat} {sl : Array (Option Value)} (X : K.In h) (e : K.lookup a = some ⟨cl, d, .dict es ep, sl⟩)
  (hk : (es.toList.all fun x=>match x.key with | .str _ _=>true | _=>false) = true) : h.Ns a (nsFind es) :=
 ⟨_, es, ep, X _ _ e, rfl, fun x hx=>by
  have:=List.all_eq_true.mp hk x (Array.mem_toList_iff.mpr hx)
  revert this
  cases hq : x.key <;> intro this <;> first | (exact ⟨_, _, rfl⟩) | (cases this; done), fun _=>rfl⟩
noncomputable def esOf (o : Obj) : Array DictEntry:=match o.data with | .dict es _=>es | _=>#[]
noncomputable def gl (P : Params) (x : Str) : Option Value:=nsFind (esOf (o3 P)) x
noncomputable def bl (P : Params) (x : Str) : Option Value:=nsFind (esOf (o0 P)) x
noncomputable abbrev TopIn (P : Params) (h : Heap) : Prop:=(KM P).In h
theorem km3 (P : Params) : (KM P).lookup 3 = some (o3 P):=by kernel_rfl
theorem km2 (P : Params) : (KM P).lookup 2 = some (o2 P):=by kernel_rfl
theorem km0 (P : Params) : (KM P).lookup 0 = some (o0 P):=by kernel_rfl
theorem top_g {P : Params} {h : Heap} (X : TopIn P h) : h.Ns mainGlobals (gl P):=ns_in X (km3 P) (by kernel_rfl)
theorem top_b {P : Params} {h : Heap} (X : TopIn P h) : h.Ns builtinsNs (bl P):=ns_in X (km0 P) (by kernel_rfl)
theorem top_lim {P : Params} {h : Heap} (X : TopIn P h) : h.NoLimit:=⟨_, ns_in X (km2 P) (by kernel_rfl), by kernel_rfl⟩
structure Room (A : Around) (k : Nat) : Prop where
 depth : A.depth + k < recursionLimit
 units : A.units + 10 * k < cLine
 hh : A.handled = none
theorem Room.deeper {A : Around} {k : Nat} {env : Env} (r : Room A (k + 1)) : Room (A.deeper env) k :=
 ⟨by have:=r.depth; show A.depth + 1 + k < _; lia, by have:=r.units; show A.units + 3 + 10 * k < _; lia, r.hh⟩
theorem Room.less {A : Around} {k j : Nat} (r : Room A k) (h : j <= k) : Room A j:=⟨by have:=r.depth; lia, by have:=r.units; lia, r.hh⟩
theorem Room.in1 {A : Around} {k : Nat} (r : Room A (k + 1)) : Room A.in1 k:=⟨by have:=r.depth; show A.depth + k < _; exact lO (by assumption), by have:=r.units; show A.units + 1 + 10 * k < _; lia, r.hh⟩
theorem ifSplit {b : Bool} {P Q : Prop} (x : b = true -> P) (y : b = false -> Q) : if b = true then P else Q:=by
 cases b
 ·exact y rfl
 ·exact x rfl
noncomputable def retOf : Flow -> Value | .ret v=>v | _=>.none
theorem enter {c : Cx} {A : Around} {G h : Heap} {g : Gs} {f : Addr} {o : Obj} {fd : FuncData} {body : List Stmt} {args : Args} {binds : List (Str × Value)} (f0 : Fm) {l : List (Addr × Obj)} {Q : PV} {k : Nat}
  (X : TopIn c.w.params G) (S : Sub G h) (O : Own G h l) (r : Room A (k + 1)) (ho : (KM c.w.params).lookup f = some o) (hd : o.data = .func fd) (hcd : codeIn (KM c.w.params) fd.code fd.qualname = true) (hb : fd.body = .stmts body)
  (hbind : ∀ s : Shared, s.heap = h -> BindsTo s fd args binds)
  (hcell : (fd.scope.names.all fun x=>x.2 != .cell) = true) (hloc : ((binds.map (·.1)).all fun x=>fd.scope.names.lookup x == some .local) = true)
  (hnm : namesOk (f0.map (·.1)) = true) (rest : List Str) (hf : (binds.reverse.map fun p=>(p.1, some p.2)) ++ rest.map (fun x=>((x, none) : Str × Option Value)) = f0)
  (hsc : (fd.scope.isCoroutine, fd.scope.isGenerator, fd.scope.kind) = (false, false, ScopeKind.function))
  (y : ∀ h₁ L, Led G L h₁ f0 l -> Room (A.deeper (callEnv fd L f)) k -> L = h.objs.size ->
   W c (A.deeper (callEnv fd L f)) (execs body (callEnv fd L f)) (fun fl h' g'=>Q (retOf fl) h' g') h₁ g) : WC c A (.call (.ref f) args) Q h g:=by
 intro tk
 have Xh:=X.keeps S
 have e1 : fd.scope.isCoroutine = false:=congrArg (·.1) hsc
 have e2 : fd.scope.isGenerator = false:=congrArg (·.2.1) hsc
 have e3 : fd.scope.kind = .function:=congrArg (·.2.2) hsc
 refine codeAny_call_def (fd:=fd) (body:=body) (binds:=binds) (by have:=r.depth; lia) (Xh _ _ ho) hd (top_lim Xh) (codeRec_of Xh hcd) hb (hbind _ rfl) (fun x hx=>?_) (fun x hx=>?_) (fun h₁ hns hk=>?_) e1 e2 e3
 ·have:=List.all_eq_true.mp hcell x hx
  intro e; rw [e] at this; cases this
 ·have:=List.all_eq_true.mp hloc x.1 (List.mem_map_of_mem hx)
  simpa using this
 ·have D : Led G h.objs.size h₁ f0 l:=by
   refine ⟨?_, S.trans hk, S.none (fresh_size h), fun p hp=>⟨hk _ _ (O.at_ p hp).1, Nat.ne_of_lt (Heap.lt_size (O.at_ p hp).1), (O.at_ p hp).2⟩, O.nd, hnm⟩
   have : (fun x=>binds.reverse.lookup x) = fm f0:=by rw [<- hf]; exact funext fun y=>fm_binds _ _ y
   rw [<- this]; exact hns
  refine wM ((y h₁ _ D r.deeper rfl) (tk + binds.length)) (fun fl s' z=>?_) fun _ _ z=>z.elim
  refine ⟨_, rfl, z.1, z.2.1, ?_⟩
  cases fl <;> exact z.2.2
section
variable {c : Cx} {A : Around} {G h : Heap} {g : Gs} {env : Env} {L : Addr} {f : Fm} {l : List (Addr × Obj)}
theorem W.rd {x : Str} {pos : Pos} {v : Value} {Q : PV} (D : Led G L h f l) (hx : Has f x v) (y : Q v h g) (hL : L = env.locals:=by kernel_rfl)
  (hk : env.scope.kind = .function:=by kernel_rfl) (hl : env.kindOf x = some .local:=by kernel_rfl) (hd : (x == ("__debug__" : Str)) = false:=by kernel_rfl) :
  W c A (eval (.Name x pos) env) Q h g:=fun tk =>
 wpAny_Name (wpAny_loadName_local (m:=fm f) hk hl (hL ▸ D.ns) (hx.get D.nm) ⟨rfl, rfl, y⟩) hd
theorem W.ldn {x : Str} {v : Value} {Q : PV} (D : Led G L h f l) (hx : Has f x v) (y : Q v h g) (hL : L = env.locals:=by kernel_rfl)
  (hk : env.scope.kind = .function:=by kernel_rfl) (hl : env.kindOf x = some .local:=by kernel_rfl) :
  W c A (loadName env x) Q h g:=fun tk =>
 wpAny_loadName_local (m:=fm f) hk hl (hL ▸ D.ns) (hx.get D.nm) ⟨rfl, rfl, y⟩
theorem W.wr0 {x : Str} {v : Value} {f' : Fm} {Q : Unit -> Heap -> Gs -> Prop} (D : Led G L h f l) (hx : Put f x v f') (y : ∀ h', Heap.SameBut L h h' -> Led G L h' f' l -> Q () h' g) (hL : L = env.locals:=by kernel_rfl)
  (hk : (env.scope.kind == ScopeKind.class || env.scope.kind == ScopeKind.module && env.locals != env.globals) = false:=by kernel_rfl)
  (hl : env.kindOf x = some .local:=by kernel_rfl) : W c A (storeName env x v) Q h g:=fun tk=>by
 subst hL
 exact wpAny_storeName_local (m:=fm f) hl D.ns (fun h' hn hs=>⟨rfl, rfl, y h' hs (by
  have hn' : h'.Ns env.locals (fm f'):=by rw [<- hx.set D.nm]; exact hn
  have keep : ∀ b o, b ≠ env.locals -> h.get? b = some o -> h'.get? b = some o:=fun b o n e=>(hs.2 b n).trans e
  refine ⟨hn', fun b o e=>keep b o (fun z=>?_) (D.sub b o e), D.lo, fun p hp=>⟨keep _ _ (D.nw p hp).2.1 (D.nw p hp).1, (D.nw p hp).2⟩, D.nd, ?_⟩
  ·subst z; rw [D.lo] at e; cases e
  ·have : f'.map (·.1) = f.map (·.1):=by
    clear y hl hk hn hn' hs keep D
    induction hx with
    | here=>rfl
    | there _ ih=>simp only [mpC, ih]
   rw [this]; exact D.nm)⟩) hk
theorem W.wr {x : Str} {v : Value} {f' : Fm} {Q : Unit -> Heap -> Gs -> Prop} (D : Led G L h f l) (hx : Put f x v f') (y : ∀ h', Led G L h' f' l -> Q () h' g) (hL : L = env.locals:=by kernel_rfl)
  (hk : (env.scope.kind == ScopeKind.class || env.scope.kind == ScopeKind.module && env.locals != env.globals) = false:=by kernel_rfl)
  (hl : env.kindOf x = some .local:=by kernel_rfl) : W c A (storeName env x v) Q h g:=W.wr0 D hx (fun h' _ D=>y h' D) hL hk hl
theorem W.glob {x : Str} {pos : Pos} {v : Value} {Q : PV} (X : TopIn c.w.params G) (D : Led G L h f l) (hv : gl c.w.params x = some v) (y : Q v h g)
  (hk : env.scope.kind = .function:=by kernel_rfl) (hl : env.kindOf x = some .globalImplicit:=by kernel_rfl) (hd : (x == ("__debug__" : Str)) = false:=by kernel_rfl) (hg : env.globals = mainGlobals:=by kernel_rfl) :
  W c A (eval (.Name x pos) env) Q h g:=fun tk =>
 Calls.Name_function_global hk hl (Calls.loadGlobal_global (env:=env) (mg:=gl c.w.params) (hg ▸ top_g (D.inK X)) hv ⟨rfl, rfl, y⟩) hd
theorem W.blt {x : Str} {pos : Pos} {v : Value} {Q : PV} (X : TopIn c.w.params G) (D : Led G L h f l) (hv : bl c.w.params x = some v) (y : Q v h g) (hn : gl c.w.params x = none:=by kernel_rfl)
  (hk : env.scope.kind = .function:=by kernel_rfl) (hl : env.kindOf x = some .globalImplicit:=by kernel_rfl) (hd : (x == ("__debug__" : Str)) = false:=by kernel_rfl) (hg : (env.globals, env.builtins) = (mainGlobals, builtinsNs):=by kernel_rfl) :
  W c A (eval (.Name x pos) env) Q h g:=fun tk =>
 have g1 : env.globals = mainGlobals:=congrArg Prod.fst hg
 have g2 : env.builtins = builtinsNs:=congrArg Prod.snd hg
 Calls.Name_function_global hk hl (Calls.loadGlobal_builtin (env:=env) (mg:=gl c.w.params) (mb:=bl c.w.params) (g1 ▸ top_g (D.inK X)) hn
  (g2 ▸ top_b (D.inK X)) hv ⟨rfl, rfl, y⟩) hd
end
section
variable {c : Cx} {A : Around} {h : Heap} {g : Gs} {env : Env}
theorem W.item {value slice : Expr} {x : Str} {i : Int} {t u : Tok} {Q : PV} (h0 : 0 <= i) (h1 : i < x.length) (hs : x.length < 2 ^ 62) (y : ∀ t, Q (.str (Txt.item x i) t) h g)
  (e1 : subscripted slice false (.str x t) (.int i u) = operate [.str x t, .int i u] (getItem (.str x t) (.int i u)):=by kernel_rfl) (e2 : ∀ r, letTemporaryGo value (.str x t) r = Pure.pure ():=by intro _; kernel_rfl) :
  W c A (subscriptTail value slice (.str x t) (.int i u)) Q h g:=fun tk =>
 item_str (fitsSsize_of (N:=9223372036854775808) (by lia) (by lia) (by decide)) (by lia) h1 (fun _=>⟨rfl, rfl, y tk⟩) e1 e2
theorem W.sadd {x y : Str} {t u : Tok} {Q : PV} (hs : x.length + y.length <= sizeLine) (k : ∀ t, Q (.str (x ++ y) t) h g) : W c A (binaryOp .Add (.str x t) (.str y u)) Q h g :=
 fun _=>add_str (fun t' _=>⟨rfl, rfl, k t'⟩) hs
theorem W.smul {x : Str} {n : Int} {t u : Tok} {Q : PV} (hs : MulOk x n) (k : ∀ t, Q (.str (Txt.mul x n) t) h g) : W c A (binaryOp .Mult (.str x t) (.int n u)) Q h g :=
 fun _=>SB.mul hs (fun t' _=>⟨rfl, rfl, k t'⟩)
theorem W.chr {i : Int} {t : Tok} {Q : PV} (h0 : 0 <= i) (h1 : i <= 1114111) (k : ∀ t, Q (.str ⟨#[i.toNat]⟩ t) h g) : W c A (call (.builtin "chr") [.int i t]) Q h g :=
 fun tk=>chr_of_range h0 h1 ⟨rfl, rfl, k tk⟩
theorem W.callB {pos : Pos} {id : String} {e : Expr} {rest : List Expr} {Q : PV}
  (y : W c A (spliced (backTo pos (starEach (e :: rest) env))) (fun vs h1 g1=>W c A (call (.builtin id) vs) Q h1 g1) h g)
  (h1 : starEach (e :: rest) env = (false, eval e env) :: starEach rest env:=by kernel_rfl) (h2 : ((backTo pos (starEach rest env)).any fun x=>x.fst) = false:=by kernel_rfl) :
  W c A (callWith pos (.builtin id) [] (backTo pos (starEach (e :: rest) env)) []) Q h g :=
 fun tk=>PyProof.Rows.callWith_builtin1 (wM (y tk) (fun _ _ z=>z.2.2.at z.1 z.2.1) fun _ _ z=>z) h1 h2
theorem W.spl {pos : Pos} {e : Expr} {rest : List Expr} {Q : PL}
  (y : W c A (eval e env) (fun v h1 g1=>W c A (spliced (backTo pos (starEach rest env))) (fun vs=>Q (v :: vs)) h1 g1) h g)
  (h1 : starEach (e :: rest) env = (false, eval e env) :: starEach rest env:=by kernel_rfl) : W c A (spliced (backTo pos (starEach (e :: rest) env))) Q h g :=
 fun tk=>spliced_more (wM (y tk) (fun _ _ z=>z.2.2.at z.1 z.2.1) fun _ _ z=>z) h1
theorem W.spl0 {pos : Pos} {Q : PL} (y : Q [] h g) : W c A (spliced (backTo pos (starEach [] env))) Q h g:=fun _=>spliced_none ⟨rfl, rfl, y⟩
end
noncomputable def WF (c : Cx) (A : Around) (k : Code) (Q : PF) (h : Heap) (g : Gs) : Prop :=
 ∀ tk, codeAny (model PW c.w) A k (fun r s'=>∃ f, r = .ok f /\ s'.drawn = c.d /\ s'.os = c.os /\ Q f s'.heap s'.gens) ⟨h, g, c.d, tk, c.os⟩
section
variable {c : Cx} {A : Around} {h : Heap} {g : Gs} {env : Env}
theorem WF.at {k : Code} {Q : PF} {s : Shared} (x : WF c A k Q s.heap s.gens) (h1 : s.drawn = c.d) (h2 : s.os = c.os) :
  codeAny (model PW c.w) A k (fun r s'=>∃ f, r = .ok f /\ s'.drawn = c.d /\ s'.os = c.os /\ Q f s'.heap s'.gens) s:=by
 obtain ⟨h, g, d, tk, os⟩:=s
 dsimp only at x h1 h2
 subst h1 h2
 exact x tk
theorem W.while_ {test : Expr} {body orelse : List Stmt} {pos : Pos} {Q : PF} (x : WF c A (.whileLoop test body orelse env) Q h g) : W c A (exec (.While test body orelse pos) env) Q h g :=
 fun tk=>wpAny_While (codeAny_mono (x tk) fun _ _ ⟨_, e, z⟩=>by subst e; exact z)
theorem W.for_ {target iter : Expr} {body orelse : List Stmt} {pos : Pos} {Q : PF}
  (x : W c A (eval iter env) (fun v h1 g1=>W c A (pyIter v) (fun it h2 g2=>WF c A (.forLoop target it body orelse env) Q h2 g2) h1 g1) h g)
  (hs : ∀ x, foldedSetIterable iter env x = Pure.pure x:=by intro _; kernel_rfl) : W c A (exec (.For target iter body orelse pos) env) Q h g :=
 fun tk=>wpAny_For (wM (x tk) (fun _ _ z=>wM (z.2.2.at z.1 z.2.1) (fun _ _ z=>codeAny_mono (z.2.2.at z.1 z.2.1) fun _ _ ⟨_, e, z⟩=>by subst e; exact z) fun _ _ z=>z) fun _ _ z=>z) hs
theorem WF.while_ {test : Expr} {body orelse : List Stmt} {Q : PF} (I : Nat -> Heap -> Gs -> Prop) (n : Nat) (i0 : I n h g)
  (turn : ∀ n h g, I n h g -> W c A (isTrue test env (eval test env)) (fun b h1 g1=>if b = true then W c A (execs body env) (fun fl h2 g2=>match fl with
   | .next | .cont=>∃ m, m < n /\ I m h2 g2
   | .brk=>Q .next h2 g2
   | .ret v=>Q (.ret v) h2 g2) h1 g1 else W c A (execs orelse env) Q h1 g1) h g) : WF c A (.whileLoop test body orelse env) Q h g:=fun tk=>by
 refine codeAny_whileLoop (fun n s=>s.drawn = c.d /\ s.os = c.os /\ I n s.heap s.gens) (fun n s hI=>?_) n ⟨rfl, rfl, i0⟩
 refine wM ((turn n s.heap s.gens hI.2.2).at (E:=fun _ _=>False) hI.1 hI.2.1) (fun b s₂ z=>?_) fun _ _ z=>z.elim
 cases b with
 | true =>
  rw [if_pos rfl]
  have z3:=z.2.2
  rw [if_pos rfl] at z3
  refine wM (z3.at (E:=fun _ _=>False) z.1 z.2.1) (fun fl s₃ y=>?_) fun _ _ z=>z.elim
  refine xa2 y fun y1 y2 y3=>?_
  cases fl with
  | next=>refine xea y3 fun m hm y3=>?_; exact ⟨m, hm, y1, y2, y3⟩
  | cont=>refine xea y3 fun m hm y3=>?_; exact ⟨m, hm, y1, y2, y3⟩
  | brk=>exact ⟨_, rfl, y1, y2, y3⟩
  | ret v=>exact ⟨_, rfl, y1, y2, y3⟩
 | false =>
  rw [if_neg Bool.false_ne_true]
  have z3:=z.2.2
  rw [if_neg Bool.false_ne_true] at z3
  exact wM (z3.at (E:=fun _ _=>False) z.1 z.2.1) (fun fl s₃ y=>⟨_, rfl, y⟩) fun _ _ z=>z.elim
theorem WF.for_ {target : Expr} {body orelse : List Stmt} {Q : PF} {I : Addr} {fp wr : List Addr} {n : Nat} {P : Nat -> Value -> Prop} {St : Nat -> Heap -> Prop} (Wk : Walks PW c.w A I fp wr n P St)
  (inv : Nat -> Heap -> Gs -> Prop) (i0 : inv 0 h g) (s0 : St 0 h)
  (turn : ∀ i v h h' g, i < n -> P i v -> inv i h g -> St (i + 1) h' -> (∀ b o, b ∉ wr -> h.get? b = some o -> h'.get? b = some o) ->
   W c A (letOwnedTupleGo target (.ref I) v) (fun _ h1 g1=>W c A (assign target env v) (fun _ h2 g2=>W c A (execs body env) (fun fl h3 g3=>match fl with
   | .next | .cont=>inv (i + 1) h3 g3 /\ St (i + 1) h3
   | .brk=>Q .next h3 g3
   | .ret v=>Q (.ret v) h3 g3) h2 g2) h1 g1) h' g)
  (done : ∀ h h' g, inv n h g -> St n h -> (∀ b o, b ∉ wr -> h.get? b = some o -> h'.get? b = some o) -> W c A (execs orelse env) Q h' g) : WF c A (.forLoop target (.ref I) body orelse env) Q h g:=fun tk=>by
 refine codeAny_forLoop_any (fun k s=>s.drawn = c.d /\ s.os = c.os /\ ∃ i, i <= n /\ k = n - i /\ inv i s.heap s.gens /\ St i s.heap) (fun k s hI=>?_) n ⟨rfl, rfl, 0, Nat.zero_le _, rfl, i0, s0⟩
 obtain ⟨e1, e2, i, hi, rfl, hv, hst⟩:=hI
 by_cases hlt : i < n
 ·refine Wk.item i _ _ _ hlt hst fun v h' tk' hP hst' hk=>?_
  refine wM ((turn i v s.heap h' s.gens hlt hP hv hst' hk).at (s:={ s with heap:=h', toks:=tk' }) (E:=fun _ _=>False) e1 e2) (fun _ s₂ z=>?_) fun _ _ z=>z.elim
  refine wM (z.2.2.at (E:=fun _ _=>False) z.1 z.2.1) (fun _ s₂ z=>?_) fun _ _ z=>z.elim
  refine wM (z.2.2.at (E:=fun _ _=>False) z.1 z.2.1) (fun fl s₃ y=>?_) fun _ _ z=>z.elim
  refine xa2 y fun y1 y2 y3=>?_
  cases fl with
  | next=>exact ⟨n - (i + 1), Nat.sub_succ_lt_self _ _ hlt, y1, y2, i + 1, hlt, rfl, y3⟩
  | cont=>exact ⟨n - (i + 1), Nat.sub_succ_lt_self _ _ hlt, y1, y2, i + 1, hlt, rfl, y3⟩
  | brk=>exact ⟨_, rfl, y1, y2, y3⟩
  | ret v=>exact ⟨_, rfl, y1, y2, y3⟩
 ·obtain rfl : i = n:=by lia
  refine Wk.done _ _ _ hst fun h' tk' hk=>?_
  exact wM ((done s.heap h' s.gens hv hst hk).at (s:={ s with heap:=h', toks:=tk' }) (E:=fun _ _=>False) e1 e2) (fun fl s₃ y=>⟨_, rfl, y⟩) fun _ _ z=>z.elim
theorem W.assignName {x : Str} {pos : Pos} {v : Value} {Q : Unit -> Heap -> Gs -> Prop} (y : W c A (storeName env x v) Q h g) : W c A (PySem.assign (.Name x pos) env v) Q h g:=fun tk=>wpAny_assign_Name (y tk)
end
noncomputable abbrev lst (vs : List Value) (n : Nat) : Obj:=⟨.type "list", none, .seq vs.toArray n, #[]⟩
theorem isList_lst {h : Heap} {a : Addr} {vs : List Value} {n : Nat} (e : h.get? a = some (lst vs n)) : h.IsList a vs.toArray:=⟨_, e, rfl, n, rfl⟩
section
variable {c : Cx} {A : Around} {G h : Heap} {g : Gs} {env : Env} {L : Addr} {f : Fm} {l : List (Addr × Obj)}
end
noncomputable def tests (ifs : List Expr) (env : Env) : Sem Bool:=forIn ifs true fun c r=>if r = true then do let ok <- isTrue c env (eval c env); pure (ForInStep.yield ok) else pure (ForInStep.yield r)
section
variable {c : Cx} {A : Around} {h : Heap} {g : Gs} {env : Env}
theorem W.tests0 {Q : PB} (y : Q true h g) : W c A (tests [] env) Q h g:=fun _=>wpAny_tests_nil ⟨rfl, rfl, y⟩
theorem W.tests1 {e : Expr} {Q : PB} (y : W c A (isTrue e env (eval e env)) Q h g) : W c A (tests [e] env) Q h g:=fun tk=>wpAny_tests_one (y tk)
end
section
variable {c : Cx} {A : Around} {G h : Heap} {g : Gs} {env : Env} {L : Addr} {f : Fm} {l : List (Addr × Obj)}
theorem W.app {a : Addr} {vs : List Value} {n : Nat} {v : Value} {Q : PV} (e : h.get? a = some (lst vs n)) (hz : vs.length <= sizeLine)
  (y : ∀ h' m, h'.get? a = some (lst (vs ++ [v]) m) -> (∀ b o, b ≠ a -> h.get? b = some o -> h'.get? b = some o) -> Q .none h' g) : W c A (call (.builtin "list.append") [.ref a, v]) Q h g:=fun tk=>by
 refine wpAny_list_append_plain (items:=vs.toArray) (x:=v) (hsz:=by simpa using hz) ⟨n, e⟩ fun h' hl hs=>⟨rfl, rfl, ?_⟩
 obtain ⟨m, e'⟩:=hl
 exact y h' m (by simpa using e') fun b o nb eb=>(hs.2 b nb).trans eb
inductive CI (g0 : Gs) (l0 : List (Addr × Obj)) (P : List Value -> Prop) (ys : List Value) : List (Addr × Obj) -> Gs -> Prop
 | mk (_ : P ys) : CI g0 l0 P ys l0 g0
inductive CompOK (c : Cx) (A : Around) (elt : Expr) (x : Str) (ifs : List Expr) (ce : Addr -> Env) (G : Heap) (L : Addr) (f : Fm) (K : Addr -> List Value -> List (Addr × Obj) -> Heap -> Gs -> Prop) (it : Value) (h : Heap) (g : Gs) : Prop
 | mk (I : Addr) (fp wr : List Addr) (n : Nat) (P : Nat -> Value -> Prop) (St : Nat -> Heap -> Prop) (l : List (Addr × Obj)) (_ : it = .ref I) (_ : Walks PW c.w A I fp wr n P St) (_ : n <= sizeLine) (_ : St 0 h) (_ : Led G L h f l) (_ : ∀ i h, St i h -> ∀ b ∈ fp, ∃ o, h.get? b = some o) (_ : ∀ b ∈ fp, b ≠ L /\ b ∉ l.map (·.1)) (_ : ∀ b ∈ wr, G.get? b = none)
  (inv : Nat -> List Value -> List (Addr × Obj) -> Gs -> Prop) (_ : inv 0 [] l g)
  (_ : ∀ i v ys G' C h l g, i < n -> P i v -> Sub G G' -> inv i ys l g -> ys.length <= i -> Led G' C h [(x, some v)] l ->
   W c A (tests ifs (ce C)) (fun b h1 g1=>if b = true then W c A (eval elt (ce C)) (fun y h2 g2=>∃ l', Led G' C h2 [(x, some v)] l' /\ inv (i + 1) (ys ++ [y]) l' g2) h1 g1 else ∃ l', Led G' C h1 [(x, some v)] l' /\ inv (i + 1) ys l' g1) h g)
  (_ : ∀ D h' ys l' g', inv n ys l' g' -> ys.length <= n -> (∃ m, Led G L h' f ((D, lst ys m) :: l')) -> K D ys l' h' g')
inductive CompJ (c : Cx) (G : Heap) (L D C : Addr) (f : Fm) (x : Str) (n : Nat) (fp : List Addr) (St : Nat -> Heap -> Prop) (inv : Nat -> List Value -> List (Addr × Obj) -> Gs -> Prop) (k : Nat) (s : Shared) : Prop
 | mk (_ : s.drawn = c.d) (_ : s.os = c.os) (i : Nat) (ys : List Value) (l : List (Addr × Obj)) (_ : i <= n) (_ : k = n - i) (_ : inv i ys l s.gens) (_ : ys.length <= i) (m : Nat) (_ : s.heap.get? D = some (lst ys m)) (ox : Option Value) (_ : s.heap.Ns C (fm [(x, ox)])) (_ : St i s.heap) (_ : Led G L s.heap f l)
  (_ : ∀ b ∈ fp, b ∉ l.map (·.1)) (_ : D ∉ l.map (·.1)) (_ : C ∉ l.map (·.1))
theorem comp_core {elt iter : Expr} {x : Str} {px : Pos} {ifs : List Expr} {scope : Scope} {cl : List (Str × Addr)} {pos : Pos} {it : Value} {K : Addr -> List Value -> List (Addr × Obj) -> Heap -> Gs -> Prop} {s₂ : Shared} {RR : Value -> Addr -> Result -> Shared -> Prop} {E : Value -> Shared -> Prop}
  (O : CompOK c A elt x ifs (fun C=>compEnvC scope cl C env) G L f K it s₂.heap s₂.gens) (e1 : s₂.drawn = c.d) (e2 : s₂.os = c.os)
  (hcell : ∀ y ∈ scope.names, y.2 ≠ .cell) (hkind : scope.kind = .function) (hx : scope.names.lookup x = some .local)
  (hRR : ∀ D C ys l' (s' : Shared) m, s'.drawn = c.d -> s'.os = c.os -> s'.heap.Ns C m -> (∀ h'', Heap.SameBut C s'.heap h'' -> K D ys l' h'' s'.gens) -> (∀ h'', Heap.SameBut C s'.heap h'' -> ∃ m, Led G L h'' f ((D, lst ys m) :: l')) -> RR (.ref D) C (.ok .next) s') :
  wpAny (model PW c.w) A (newList []) (fun acc s₃=>wpAny (model PW c.w) A (newFunctionEnv scope env.globals cl [] env.qual none .none (some env)) (fun cenv s₄ =>
   codeAny (model PW c.w) A (.compStart (.ListComp elt [⟨.Name x px, iter, ifs, 0⟩] scope pos) 0 it acc { cenv with scope:=relabel scope env }) (RR acc cenv.locals) s₄) E s₃) E s₂:=by
 obtain ⟨I, fp, wr, n, P, St, l, rfl, Wk, hsz, hst, D₀, hfp, hfo, hwr, inv, i0, turn, fin⟩:=O
 obtain ⟨h₂, g₂, d₂, tk₂, os₂⟩:=s₂
 dsimp only at *
 subst e1 e2
 refine wpAny_newObj_type (wpAny_newFunctionEnv hcell (by intro y hy; simp at hy) (fun h₁ hns₁ hsb₁=>?_) hkind)
 dsimp only at hns₁ hsb₁ ⊢
 generalize hH2 : h₂.push { cls:=.type "list", dict:=none, data:=.seq ([] : List Value).toArray } = H2 at hns₁ hsb₁ ⊢
 have hC : H2.objs.size = h₂.objs.size + 1:=by rw [<- hH2, Heap.size_push]
 have hDC : h₂.objs.size ≠ H2.objs.size:=by rw [hC]; exact Nat.ne_of_lt (Nat.lt_succ_self _)
 have below : ∀ b, b < h₂.objs.size -> b ≠ H2.objs.size /\ b ≠ h₂.objs.size:=fun b hb=>⟨by rw [hC]; exact Nat.ne_of_lt (Nat.lt_succ_of_lt hb), Nat.ne_of_lt hb⟩
 have old : ∀ b o, h₂.get? b = some o -> h₁.get? b = some o:=fun b o e=>hsb₁.extBut b o (below b (Heap.lt_size e)).1 (hpo _ (hH2 ▸ hpo _ e))
 have hacc : h₁.get? h₂.objs.size = some (lst [] 0):=hsb₁.extBut _ _ hDC (hpo _ (hH2 ▸ Heap.get?_push_size _ rfl))
 have hst₁ : St 0 h₁:=Wk.frame _ _ _ hst fun b _ o e=>old b o e
 generalize hDD : h₂.objs.size = D at *
 generalize hCC : H2.objs.size = C at *
 have fpN : ∀ b ∈ fp, b ≠ D /\ b ≠ C:=fun b hb=>let ⟨o, e⟩:=hfp 0 _ hst b hb; have:=below b (hDD ▸ Heap.lt_size e); ⟨this.2, this.1⟩
 have fresh : ∀ b, (b = D \/ b = C) -> h₂.get? b = none:=fun b hb=>by
  cases e : h₂.get? b with
  | none=>rfl
  | some o=>have:=below b (hDD ▸ Heap.lt_size e); rcases hb with hb | hb <;> simp_all
 have wrN : ∀ b ∈ wr, b ≠ D /\ b ≠ C:=fun b hb=>fpN b (Wk.sub b hb)
 have loop : codeAny (model PW c.w) A (.compLoop (.ListComp elt [⟨.Name x px, iter, ifs, 0⟩] scope pos) 0 (.ref I) (.ref D) (compEnvC scope cl C env)) (RR (.ref D) C) ⟨h₁, g₂, c.d, tk₂ + ([] : List (Str × Value)).length, c.os⟩:=by
  have nDL : D ≠ L:=fun e=>by obtain ⟨o, _, _, q, _⟩:=D₀.ns; rw [<- e, fresh D (.inl rfl)] at q; cases q
  have nCL : C ≠ L:=fun e=>by obtain ⟨o, _, _, q, _⟩:=D₀.ns; rw [<- e, fresh C (.inr rfl)] at q; cases q
  have nl₀ : ∀ b, (b = D \/ b = C) -> b ∉ l.map (·.1):=fun b hb m=>by
   refine xea (lmm m) fun p hp e=>?_
   have:=(D₀.nw p hp).1; rw [e, fresh b hb] at this; cases this
  refine codeAny_compLoop_tests (CompJ c G L D C f x n fp St inv) ?_ n
   ⟨rfl, rfl, 0, [], l, Nat.zero_le _, rfl, i0, Nat.le_refl _, 0, hacc, none, by
    obtain ⟨o, es, ep, q1, q2, q3, q4⟩:=hns₁
    exact ⟨o, es, ep, q1, q2, q3, fun y=>by rw [q4]; simp only [fm]; split <;> rfl⟩, hst₁, D₀.grow old, fun b hb=>(hfo b hb).2, nl₀ D (.inl rfl), nl₀ C (.inr rfl)⟩
  rintro k s ⟨e1, e2, i, ys, l, hi, rfl, v1, v2, m, v3, ox, v4, v5, v6, v7, v8, v9⟩
  by_cases hlt : i < n
  ·refine Wk.item i _ _ _ hlt v5 fun v h' tk' hP hst' hk=>?_
   have kD : h'.get? D = some (lst ys m):=hk _ _ (fun q=>(wrN _ q).1 rfl) v3
   have kC : h'.Ns C (fm [(x, ox)]):=by
    obtain ⟨o, es, ep, q1, r⟩:=v4
    exact ⟨o, es, ep, hk _ _ (fun q=>(wrN _ q).2 rfl) q1, r⟩
   have D' : Led G L h' f l:=v6.but (wr:=wr) hk (fun q=>(hfo _ (Wk.sub _ q)).1 rfl) (fun p hp q=>v7 _ (Wk.sub _ q) (List.mem_map_of_mem hp)) hwr
   have F0 : Led (hideAll h' (C :: l.map (·.1))) C h' [(x, ox)] l:=by
    refine ⟨kC, fun b o e=>of_hideAll _ e, hideAll_none _ (.head _), fun p hp=>⟨(D'.nw p hp).1, fun e=>v9 (e ▸ List.mem_map_of_mem hp), hideAll_none _ (.tail _ (List.mem_map_of_mem hp))⟩, D'.nd, by simp [namesOk]⟩
   have keepG : ∀ b o, h'.get? b = some o -> b ≠ C -> b ∉ l.map (·.1) -> (hideAll h' (C :: l.map (·.1))).get? b = some o:=fun b o e n1 n2=>hideAll_get _ e fun q=>by
    rcases lmc q with q | q
    ·exact n1 q
    ·exact n2 q
   have SG : Sub G (hideAll h' (C :: l.map (·.1))):=fun b o e=>keepG b o (D'.sub _ _ e) (fun q=>by
     subst q; have:=D₀.sub _ _ e; rw [fresh _ (.inr rfl)] at this; cases this) fun q=>by
    obtain ⟨p, hp, rfl⟩:=lmm q
    rw [(D'.nw p hp).2.2] at e; cases e
   refine W.post (c:=c) (A:=A) (s:={ s with heap:=h', toks:=tk' }) (Q:=fun _ h2 g2=>Led (hideAll h' (C :: l.map (·.1))) C h2 [(x, some v)] l /\ g2 = s.gens) (W.assignName (W.wr F0 .here (fun h2 D2=>⟨D2, rfl⟩) rfl (by simp [compEnvC, relabel, hkind]) (lookup_relabel_local hx))) e1 e2 fun _ h2 g2 tk2 z=>?_
   obtain ⟨D2, rfl⟩:=z
   refine W.post (c:=c) (s:=⟨h2, s.gens, c.d, tk2, c.os⟩) (turn i v ys _ C h2 l s.gens hlt hP SG v1 v2 D2) rfl rfl fun b h3 g3 tk3 z=>?_
   have back : ∀ h4 l', Led (hideAll h' (C :: l.map (·.1))) C h4 [(x, some v)] l' -> Led G L h4 f l' /\ h4.get? D = some (lst ys m) /\ St (i + 1) h4 /\ (∀ b ∈ fp, b ∉ l'.map (·.1)) /\ D ∉ l'.map (·.1) /\ C ∉ l'.map (·.1):=fun h4 l' D4=>by
    have kk : ∀ b o, h'.get? b = some o -> b ≠ C -> b ∉ l.map (·.1) -> h4.get? b = some o /\ b ∉ l'.map (·.1):=fun b o e n1 n2=>⟨D4.sub _ _ (keepG b o e n1 n2), fun q=>by
     refine xea (lmm q) fun p hp e'=>?_
     have:=(D4.nw p hp).2.2; rw [e', keepG b o e n1 n2] at this; cases this⟩
    obtain ⟨oL, es, ep, qL, rL⟩:=D'.ns
    have nL : L ∉ l.map (·.1):=fun q=>by
     refine xea (lmm q) fun p hp e=>?_
     exact (D'.nw p hp).2.1 e
    have kL:=kk L oL qL (Ne.symm nCL) nL
    have fo:=hfp _ _ hst'
    refine ⟨⟨⟨oL, es, ep, kL.1, rL⟩, SG.trans D4.sub, D'.lo, fun p hp=>⟨(D4.nw p hp).1, fun e=>?_, SG.none (D4.nw p hp).2.2⟩, D4.nd, D'.nm⟩, (kk D _ kD hDC v8).1, Wk.frame _ _ _ hst' fun b hb o e=>(kk b o e (fpN b hb).2 (v7 b hb)).1, fun b hb=>?_, (kk D _ kD hDC v8).2, fun q=>?_⟩
    ·exact kL.2 (e ▸ List.mem_map_of_mem hp)
    ·refine xe (fo b hb) fun o e=>?_; exact (kk b o e (fpN b hb).2 (v7 b hb)).2
    ·refine xea (lmm q) fun p hp e'=>?_
     exact (D4.nw p hp).2.1 e'
   cases b with
   | false =>
    rw [if_neg Bool.false_ne_true] at z
    refine xea z fun l' D4 z=>?_
    refine xa5 (back _ _ D4) fun y1 y2 y3 y4 y5 y6=>?_
    exact ⟨n - (i + 1), Nat.sub_succ_lt_self _ _ hlt, rfl, rfl, i + 1, ys, l', hlt, rfl, z, Nat.le_succ_of_le v2, m, y2, _, D4.ns, y3, y1, y4, y5, y6⟩
   | true =>
    rw [if_pos rfl] at z
    rw [if_pos rfl]
    refine W.post (c:=c) (s:=⟨h3, g3, c.d, tk3, c.os⟩) z rfl rfl fun y h4 g4 tk4 z=>?_
    refine xea z fun l' D4 z=>?_
    refine xa5 (back _ _ D4) fun y1 y2 y3 y4 y5 y6=>?_
    refine W.post (c:=c) (s:=⟨h4, g4, c.d, tk4, c.os⟩) (Q:=fun _ h5 g5=>g5 = g4 /\ ∃ m', h5.get? D = some (lst (ys ++ [y]) m') /\ ∀ b o, b ≠ D -> h4.get? b = some o -> h5.get? b = some o) (W.app y2 (by lia) fun h' m' q1 q2=>⟨rfl, m', q1, q2⟩) rfl rfl fun _ h5 g5 tk5 q=>?_
    obtain ⟨rfl, m', q1, q2⟩:=q
    refine ⟨n - (i + 1), Nat.sub_succ_lt_self _ _ hlt, rfl, rfl, i + 1, ys ++ [y], l', hlt, rfl, z, by rw [lA]; exact Nat.succ_le_succ v2, m', q1, some v, ?_, Wk.frame _ _ _ y3 fun b hb o e=>q2 b o (fpN b hb).1 e, y1.but (wr:=[D]) (fun b o nb e=>q2 b o (fun q=>nb (List.mem_singleton.mpr q)) e) (fun q=>nDL (lms q).symm) (fun p hp q=>y5 (lms q ▸ List.mem_map_of_mem hp)) (fun b q=>?_), y4, y5, y6⟩
    ·obtain ⟨o, es, ep, e, r⟩:=D4.ns
     exact ⟨o, es, ep, q2 _ _ (Ne.symm hDC) e, r⟩
    ·rw [lms q]; exact D₀.sub.none (fresh D (.inl rfl))
  ·obtain rfl : i = n:=by lia
   refine Wk.done _ _ _ v5 fun h' tk' hk=>?_
   have kD : h'.get? D = some (lst ys m):=hk _ _ (fun q=>(wrN _ q).1 rfl) v3
   have kC : h'.Ns C (fm [(x, ox)]):=by
    obtain ⟨o, es, ep, q1, r⟩:=v4
    exact ⟨o, es, ep, hk _ _ (fun q=>(wrN _ q).2 rfl) q1, r⟩
   have D' : Led G L h' f l:=v6.but (wr:=wr) hk (fun q=>(hfo _ (Wk.sub _ q)).1 rfl) (fun p hp q=>v7 _ (Wk.sub _ q) (List.mem_map_of_mem hp)) hwr
   have fin' : ∀ h'', Heap.SameBut C h' h'' -> ∃ m, Led G L h'' f ((D, lst ys m) :: l):=fun h'' hs=>by
    have D'' : Led G L h'' f l:=D'.but (wr:=[C]) (fun b o nb e=>(hs.2 b fun q=>nb (List.mem_singleton.mpr q)).trans e) (fun q=>nCL (lms q).symm) (fun p hp q=>v9 (lms q ▸ List.mem_map_of_mem hp)) (fun b q=>by rw [lms q]; exact D₀.sub.none (fresh C (.inr rfl)))
    exact ⟨m, D''.add ((hs.2 _ hDC).trans kD) nDL (D₀.sub.none (fresh D (.inl rfl))) v8⟩
   exact hRR D C ys l { s with heap:=h', toks:=tk' } _ e1 e2 kC (fun h'' hs=>fin D h'' ys l _ v1 v2 (fin' h'' hs)) fin'
 exact codeAny_compStart_list loop (Wk.self 0 _ _ _ hst₁ loop)
theorem names_ok {names : List (Str × NameKind)} (h : (names.all fun x=>x.2 != .local || names.lookup x.1 == some .local) = true) : ∀ x ∈ names, x.2 = .local -> names.lookup x.1 = some .local:=fun x hx e=>by
 have:=List.all_eq_true.mp h x hx
 rw [e] at this
 simpa using this
theorem cells_ok {names : List (Str × NameKind)} (h : (names.all fun x=>x.2 != .cell) = true) : ∀ x ∈ names, x.2 ≠ .cell:=fun x hx e=>by
 have:=List.all_eq_true.mp h x hx
 rw [e] at this; cases this
theorem W.lc {elt iter : Expr} {x : Str} {px : Pos} {ifs : List Expr} {scope : Scope} (cl : List (Str × Addr)) {pos : Pos} {Q : PV}
  (y : W c A (eval iter env) (fun v h1 g1=>W c A (pyIter v) (fun it h2 g2=>CompOK c A elt x ifs (fun C=>compEnvC scope cl C env) G L f (fun D ys l' h' g'=>Q (.ref D) h' g') it h2 g2) h1 g1) h g)
  (hclos : closureFor scope env = Pure.pure cl:=by kernel_rfl) (h1 : (scope.names.all fun x=>x.2 != .cell) = true:=by kernel_rfl) (h2 : scope.kind = .function:=by kernel_rfl)
  (h3 : (scope.names.all fun x=>x.2 != .local || scope.names.lookup x.1 == some .local) = true:=by kernel_rfl) (h4 : scope.names.lookup x = some .local:=by kernel_rfl)
  (hs : ∀ x, foldedSetIterable iter env x = Pure.pure x:=by intro _; kernel_rfl) : W c A (eval (.ListComp elt [⟨.Name x px, iter, ifs, 0⟩] scope pos) env) Q h g:=fun tk=>by
 rw [eval_ListComp]
 refine wpAny_comprehension_free (use:=none) rfl hs hclos h2 (names_ok h3) (wM (y tk) (fun xv s₁ z=>wM (z.2.2.at z.1 z.2.1) (fun it s₂ z=>?_) fun _ _ e=>e) fun _ _ e=>e)
 refine comp_core (RR:=fun acc C=>compPost (model PW c.w) A (fun _ _=>False) none (fun v s'=>s'.drawn = c.d /\ s'.os = c.os /\ Q v s'.heap s'.gens) acc C) z.2.2 z.1 z.2.1 (cells_ok h1) h2 h4 ?_
 intro D C ys l' s' m e1 e2 hn hK _
 exact ⟨m, hn, fun h' hs'=>⟨e1, e2, hK h' hs'⟩⟩
theorem W.lcAssign {elt iter : Expr} {x y : Str} {px py : Pos} {ifs : List Expr} {scope : Scope} (cl : List (Str × Addr)) {pos spos : Pos} {Q : PF} (f' : Addr -> Fm) (hput : ∀ D, Put f y (.ref D) (f' D))
  (z : W c A (eval iter env) (fun v h1 g1=>W c A (pyIter v) (fun it h2 g2=>CompOK c A elt x ifs (fun C=>compEnvC scope cl C env) G L f (fun D ys l' _ g'=>∀ m h'', Led G L h'' (f' D) ((D, lst ys m) :: l') -> Q .next h'' g') it h2 g2) h1 g1) h g)
  (hL : L = env.locals:=by kernel_rfl)
  (hsw : swapsWith (.ListComp elt [⟨.Name x px, iter, ifs, 0⟩] scope pos) (some (.Name y py)) spos.line env = Pure.pure true:=by kernel_rfl)
  (hclos : closureFor scope env = Pure.pure cl:=by kernel_rfl) (h1 : (scope.names.all fun x=>x.2 != .cell) = true:=by kernel_rfl) (h2 : scope.kind = .function:=by kernel_rfl)
  (h3 : (scope.names.all fun x=>x.2 != .local || scope.names.lookup x.1 == some .local) = true:=by kernel_rfl) (h4 : scope.names.lookup x = some .local:=by kernel_rfl)
  (hy : env.kindOf y = some .local:=by kernel_rfl) (hp : (env.scope.kind == .class || (env.scope.kind == .module && env.locals != env.globals)) = false:=by kernel_rfl)
  (hs : ∀ x, foldedSetIterable iter env x = Pure.pure x:=by intro _; kernel_rfl) : W c A (exec (.Assign [.Name y py] (.ListComp elt [⟨.Name x px, iter, ifs, 0⟩] scope pos) spos) env) Q h g:=fun tk=>by
 rw [exec_Assign_Name_used _ _ _ _ hsw]
 refine wB (wpAny_standAt (wB ?_))
 show wpAny _ A (do let _ <- comprehension (.ListComp elt [⟨.Name x px, iter, ifs, 0⟩] scope pos) scope env _ (newList []) false (eval iter env) (some (PySem.assign (.Name y py) env))) _ _ _
 refine wB (wM (wpAny_comprehension_free (use:=some (PySem.assign (.Name y py) env)) (Q:=fun _ s'=>s'.drawn = c.d /\ s'.os = c.os /\ Q .next s'.heap s'.gens) rfl hs hclos h2 (names_ok h3)
  (wM (z tk) (fun xv s₁ z=>wM (z.2.2.at z.1 z.2.1) (fun it s₂ z=>?_) fun _ _ e=>e) fun _ _ e=>e)) (fun _ s' hq=>wP (wP hq)) fun _ _ e=>e)
 refine comp_core (RR:=fun acc C=>compPost (model PW c.w) A (fun _ _=>False) (some (PySem.assign (.Name y py) env)) (fun _ s'=>s'.drawn = c.d /\ s'.os = c.os /\ Q .next s'.heap s'.gens) acc C) z.2.2 z.1 z.2.1 (cells_ok h1) h2 h4 ?_
 intro D C ys l' s' m e1 e2 hn hK hD
 have K0:=hK s'.heap ⟨rfl, fun _ _=>rfl⟩
 refine xe (hD s'.heap ⟨rfl, fun _ _=>rfl⟩) fun m' D0=>?_
 have hF : ({ s'.heap with objs:=s'.heap.objs.setIfInBounds C ⟨.none, none, .freed, #[]⟩ } : Heap).get? C = none:=by
  unfold Heap.get?
  rw [Array.getElem?_setIfInBounds_self_of_lt hn.lt]
 obtain ⟨m₁, D1⟩:=hD { s'.heap with objs:=s'.heap.objs.setIfInBounds C ⟨.none, none, .freed, #[]⟩ } ⟨by simp, fun b hb=>by
   show Heap.get? ⟨_, _⟩ b = _
   unfold Heap.get?
   rw [Array.getElem?_setIfInBounds_ne (Ne.symm hb)]⟩
 have nCL : C ≠ L:=fun e=>by
  obtain ⟨o, es, ep, q, r, _⟩:=D1.ns
  rw [<- e, hF] at q; cases q
 have nCG : G.get? C = none:=D1.sub.none hF
 have nCl : ∀ p ∈ ((D, lst ys m₁) :: l'), p.1 ≠ C:=fun p hp e=>by
  have:=(D1.nw p hp).1
  rw [e, hF] at this; cases this
 show wpAny _ A (PySem.assign (.Name y py) env (.ref D)) _ _ _
 refine wM ((W.assignName (Q:=fun _ h2 g2=>g2 = s'.gens /\ (∃ m, h2.Ns C m) /\ Led G L h2 (f' D) ((D, lst ys m') :: l')) (W.wr0 D0 (hput D) (fun h2 hs2 D2=>⟨rfl, ⟨m, hn.sameBut hs2 nCL⟩, D2⟩) hL hp hy)).at (E:=fun _ _=>False) e1 e2) (fun _ s₂ w=>?_) fun _ _ e=>e
 refine xa4 w fun w1 w2 w3 z203 w5=>?_; refine xe z203 fun mC wC=>?_
 refine ⟨mC, wC, fun h3 hs3=>⟨w1, w2, ?_⟩⟩
 rw [w3]
 refine K0 m' h3 (w5.but (wr:=[C]) (fun b o nb e=>(hs3.2 b fun q=>nb (List.mem_singleton.mpr q)).trans e) (fun q=>nCL (lms q).symm) (fun p hp q=>?_) (fun b q=>by rw [lms q]; exact nCG))
 rcases lmc hp with rfl | hp
 ·exact nCl _ (.head _) (lms q)
 ·exact nCl _ (.tail _ hp) (lms q)
end
noncomputable def T (l : List Nat) : Str:=⟨l.toArray⟩
theorem T_of (s : Str) : T s.cps.toList = s:=by
 obtain ⟨a⟩:=s
 show (⟨a.toList.toArray⟩ : Str) = ⟨a⟩
 rw [Array.toArray_toList]
theorem T_append (a b : List Nat) : T a ++ T b = T (a ++ b):=by
 show (⟨a.toArray ++ b.toArray⟩ : Str) = ⟨(a ++ b).toArray⟩
 rw [List.append_toArray]
theorem T_length (a : List Nat) : (T a).length = a.length:=by show a.toArray.size = _; exact List.size_toArray
theorem T_inj {a b : List Nat} : T a = T b ↔ a = b:=⟨fun h=>by injection h with h; injection h, fun h=>by rw [h]⟩
theorem T_beq (a b : List Nat) : (T a == T b) = decide (a = b):=by
 rw [Bool.eq_iff_iff, beq_iff_eq, decide_eq_true_iff]; exact T_inj
theorem T_bne (a b : List Nat) : (T a != T b) = !decide (a = b):=by
 show (!(T a == T b)) = _
 rw [T_beq]
noncomputable def Ss (vs : List Value) (xs : List (List Nat)) : Prop:=StrsAre vs (xs.map fun x=>T x)
noncomputable def Is (vs : List Value) (xs : List Int) : Prop:=vs.length = xs.length /\ ∀ i (h : i < vs.length) (h' : i < xs.length), ∃ t, vs[i] = .int xs[i] t
theorem Ss.len {vs xs} (h : Ss vs xs) : vs.length = xs.length:=by
 unfold Ss at h
 induction xs generalizing vs with
 | nil=>cases h; rfl
 | cons x xs ih=>cases h with | cons _ _ h=>simp [ih h]
theorem Ss.nil : Ss [] []:=StrsAre.nil
theorem Ss.cons {vs xs x t} (h : Ss vs xs) : Ss (.str (T x) t :: vs) (x :: xs):=StrsAre.cons _ _ h
theorem Ss.append {vs xs vs' xs'} (h : Ss vs xs) (h' : Ss vs' xs') : Ss (vs ++ vs') (xs ++ xs'):=by
 induction xs generalizing vs with
 | nil=>cases h; exact h'
 | cons x xs ih=>cases h with | cons _ t h=>exact Ss.cons (ih h)
theorem Ss.get {vs xs} (h : Ss vs xs) {i : Nat} {v : Value} (e : vs[i]? = some v) : ∃ x t, xs[i]? = some x /\ v = .str (T x) t:=by
 induction xs generalizing vs i with
 | nil=>cases h; simp at e
 | cons x xs ih =>
  cases h with
  | cons _ t h =>
   cases i with
   | zero=>simp at e; exact ⟨x, t, by simp, e.symm⟩
   | succ i=>simp at e; simpa using ih h e
theorem Ss.at {vs xs} (h : Ss vs xs) {i : Nat} {x : List Nat} (e : xs[i]? = some x) : ∃ t, vs[i]? = some (.str (T x) t):=by
 induction xs generalizing vs i with
 | nil=>simp at e
 | cons x xs ih =>
  cases h with
  | cons _ t h =>
   cases i with
   | zero=>simp at e; exact ⟨t, by simp [e]⟩
   | succ i=>simp at e; simpa using ih h e
theorem Ss.take {vs xs} (h : Ss vs xs) (n : Nat) : Ss (vs.take n) (xs.take n):=by
 induction xs generalizing vs n with
 | nil=>cases h; simpa using Ss.nil
 | cons x xs ih =>
  cases h with
  | cons _ t h =>
   cases n with
   | zero=>exact Ss.nil
   | succ n=>exact Ss.cons (ih h n)
theorem Ss.drop {vs xs} (h : Ss vs xs) (n : Nat) : Ss (vs.drop n) (xs.drop n):=by
 induction xs generalizing vs n with
 | nil=>cases h; simpa using Ss.nil
 | cons x xs ih =>
  cases h with
  | cons _ t h' =>
   cases n with
   | zero=>exact Ss.cons h'
   | succ n=>exact ih h' n
theorem Ss.strs {vs xs} (h : Ss vs xs) : StrsAre vs.toArray.toList (xs.map fun x=>T x):=h
theorem Is.nil : Is [] []:=⟨rfl, fun _ h=>(nomatch h)⟩
theorem Is.cons {vs xs x t} (h : Is vs xs) : Is (.int x t :: vs) (x :: xs):=⟨by simp [h.1], fun i h1 h2=>by
 cases i with
 | zero=>exact ⟨t, rfl⟩
 | succ i=>exact h.2 i (by simpa using h1) (by simpa using h2)⟩
theorem Is.un {vs xs v x} (h : Is (v :: vs) (x :: xs)) : (∃ t, v = .int x t) /\ Is vs xs :=
 ⟨h.2 0 (by simp) (by simp), by have:=h.1; simpa using this, fun i h1 h2=>h.2 (i + 1) (by simpa using h1) (by simpa using h2)⟩
theorem Is.len {vs xs} (h : Is vs xs) : vs.length = xs.length:=h.1
theorem Is.append {vs xs vs' xs'} (h : Is vs xs) (h' : Is vs' xs') : Is (vs ++ vs') (xs ++ xs'):=by
 induction xs generalizing vs with
 | nil=>obtain rfl:=List.length_eq_zero_iff.mp h.1; exact h'
 | cons x xs ih =>
  cases vs with
  | nil=>exact absurd h.1 (by simp)
  | cons v vs=>obtain ⟨⟨t, rfl⟩, h2⟩:=h.un; exact Is.cons (ih h2)
theorem Is.get {vs xs} (h : Is vs xs) {i : Nat} {v : Value} (e : vs[i]? = some v) : ∃ x t, xs[i]? = some x /\ v = .int x t:=by
 obtain ⟨hi, e⟩:=List.getElem?_eq_some_iff.mp e
 have h2 : i < xs.length:=h.1 ▸ hi
 obtain ⟨t, q⟩:=h.2 i hi h2
 exact ⟨xs[i], t, gE h2, by rw [<- e, q]⟩
theorem Is.at {vs xs} (h : Is vs xs) {i : Nat} {x : Int} (e : xs[i]? = some x) : ∃ t, vs[i]? = some (.int x t):=by
 obtain ⟨hi, e⟩:=List.getElem?_eq_some_iff.mp e
 have h2 : i < vs.length:=h.1.symm ▸ hi
 obtain ⟨t, q⟩:=h.2 i h2 hi
 exact ⟨t, by rw [gE h2, q, e]⟩
section
variable {c : Cx} {A : Around} {G h : Heap} {g : Gs} {env : Env} {L : Addr} {f : Fm} {l : List (Addr × Obj)}
theorem W.cstrT {i : Str} {k : Nat} {pos : Pos} {Q : PV} (y : ∀ t, Q (.str (T i.cps.toList) t) h g) : W c A (eval (.Constant (.str i) k pos) env) Q h g:=W.cstr fun t=>by have:=y t; rwa [T_of] at this
theorem W.tand {x : Expr} {rest : List Expr} {pos : Pos} {whole : Sem Value} {Q : PB}
  (y : W c A (isTrue x env (eval x env)) (fun b h1 g1=>if b = true then W c A (isTrue (.BoolOp .And rest pos) env whole) Q h1 g1 else Q false h1 g1) h g) : W c A (isTrue (.BoolOp .And (x :: rest) pos) env whole) Q h g :=
 fun tk=>isTrue_and (wM (y tk) (fun b s z=>by
  obtain ⟨z1, z2, z3⟩:=z
  cases b
  ·rw [if_neg Bool.false_ne_true] at z3 ⊢; exact ⟨z1, z2, z3⟩
  ·rw [if_pos rfl] at z3 ⊢; exact z3.at z1 z2) fun _ _ z=>z)
theorem W.tor {x : Expr} {rest : List Expr} {pos : Pos} {whole : Sem Value} {Q : PB}
  (y : W c A (isTrue x env (eval x env)) (fun b h1 g1=>if b = true then Q true h1 g1 else W c A (isTrue (.BoolOp .Or rest pos) env whole) Q h1 g1) h g) : W c A (isTrue (.BoolOp .Or (x :: rest) pos) env whole) Q h g :=
 fun tk=>isTrue_or (wM (y tk) (fun b s z=>by
  obtain ⟨z1, z2, z3⟩:=z
  cases b
  ·rw [if_neg Bool.false_ne_true] at z3 ⊢; exact z3.at z1 z2
  ·rw [if_pos rfl] at z3 ⊢; exact ⟨z1, z2, z3⟩) fun _ _ z=>z)
theorem W.tand0 {pos : Pos} {whole : Sem Value} {Q : PB} (y : Q true h g) : W c A (isTrue (.BoolOp .And [] pos) env whole) Q h g:=W.pure y
theorem W.tor0 {pos : Pos} {whole : Sem Value} {Q : PB} (y : Q false h g) : W c A (isTrue (.BoolOp .Or [] pos) env whole) Q h g:=W.pure y
theorem W.tnot {x : Expr} {pos : Pos} {whole : Sem Value} {Q : PB} (y : W c A (isTrue x env (eval x env)) (fun b=>Q (!b)) h g) : W c A (isTrue (.UnaryOp .Not x pos) env whole) Q h g :=
 fun tk=>isTrue_not (y tk)
theorem W.tplain {e : Expr} {whole : Sem Value} {Q : PB} (y : W c A whole (fun v h1 g1=>W c A (truthy v) Q h1 g1) h g)
  (he : PySem.isTrue e env whole = (do let v <- whole; PySem.standAt e.pos; PySem.holding [v] (truthy v)):=by kernel_rfl) : W c A (isTrue e env whole) Q h g :=
 fun tk=>isTrue_plain (wM (y tk) (fun _ _ z=>z.2.2.at z.1 z.2.1) fun _ _ z=>z) he
theorem W.tchain2 {l r₁ r₂ : Expr} {op₁ op₂ : CmpOp} {pos : Pos} {whole : Sem Value} {Q : PB}
  (y : W c A (eval l env) (fun a h1 g1=>W c A (testChain pos a [op₁, op₂] [eval r₁ env, eval r₂ env]) Q h1 g1) h g)
  (hm : lastMarks [op₁, op₂] [r₁, r₂] = false:=by kernel_rfl) (he : evalEach [] env = []:=by kernel_rfl) : W c A (isTrue (.Compare l [op₁, op₂] [r₁, r₂] pos) env whole) Q h g :=
 fun tk=>isTrue_chain (wM (y tk) (fun _ _ z=>by rw [he]; exact z.2.2.at z.1 z.2.1) fun _ _ z=>z) hm
theorem W.ifexp {test body orelse : Expr} {pos : Pos} {Q : PV}
  (y : W c A (isTrue test env (eval test env)) (fun b h1 g1=>if b = true then W c A (eval body env) Q h1 g1 else W c A (eval orelse env) Q h1 g1) h g) : W c A (eval (.IfExp test body orelse pos) env) Q h g :=
 fun tk=>IfExp_ (wM (y tk) (fun b s z=>by
  obtain ⟨z1, z2, z3⟩:=z
  cases b
  ·rw [if_neg Bool.false_ne_true] at z3 ⊢; exact z3.at z1 z2
  ·rw [if_pos rfl] at z3 ⊢; exact z3.at z1 z2) fun _ _ z=>z)
theorem W.unary {op : UnaryOp} {x : Expr} {pos : Pos} {Q : PV} (y : W c A (eval x env) (fun v h1 g1=>W c A (unaryOp op v) Q h1 g1) h g) : W c A (eval (.UnaryOp op x pos) env) Q h g :=
 fun tk=>UnaryOp_ (wM (y tk) (fun _ _ z=>z.2.2.at z.1 z.2.1) fun _ _ z=>z)
theorem W.neg {a : Int} {t : Tok} {Q : PV} (y : ∀ t, Q (.int (-a) t) h g) : W c A (unaryOp .USub (.int a t)) Q h g:=fun tk=>neg_int ⟨rfl, rfl, y tk⟩
theorem W.not_ {v : Value} {Q : PV} (y : W c A (truthy v) (fun b=>Q (.bool !b)) h g) : W c A (unaryOp .Not v) Q h g:=fun tk=>not_of (y tk)
theorem W.eand {e₁ e₂ : Expr} {rest : List Expr} {pos : Pos} {Q : PV}
  (y : W c A (eval e₁ env) (fun v h1 g1=>W c A (truthy v) (fun b h2 g2=>if b = true then W c A (eval (.BoolOp .And (e₂ :: rest) pos) env) Q h2 g2 else Q v h2 g2) h1 g1) h g) : W c A (eval (.BoolOp .And (e₁ :: e₂ :: rest) pos) env) Q h g :=
 fun tk=>BoolOp_and (wM (y tk) (fun v s z=>wM (z.2.2.at z.1 z.2.1) (fun b s z=>by
  obtain ⟨z1, z2, z3⟩:=z
  cases b
  ·rw [if_neg Bool.false_ne_true] at z3 ⊢; exact ⟨z1, z2, z3⟩
  ·rw [if_pos rfl] at z3 ⊢; exact z3.at z1 z2) fun _ _ z=>z) fun _ _ z=>z)
theorem W.cmpv {l r : Expr} {op : CmpOp} {pos : Pos} {Q : PV}
  (y : W c A (eval l env) (fun a h1 g1=>W c A (eval r env) (fun b h2 g2=>W c A (compareOp op a b) Q h2 g2) h1 g1) h g)
  (hb : behindInMarks op r = false:=by kernel_rfl) : W c A (eval (.Compare l [op] [r] pos) env) Q h g :=
 fun tk=>wpAny_Compare1 (wM (y tk) (fun _ _ z=>wM (z.2.2.at z.1 z.2.1) (fun _ _ z=>z.2.2.at z.1 z.2.1) fun _ _ z=>z) fun _ _ z=>z) hb
theorem W.eqs {x y : List Nat} {t u : Tok} {Q : PV} (k : Q (.bool (decide (x = y))) h g) : W c A (compareOp .Eq (.str (T x) t) (.str (T y) u)) Q h g:=fun _=>eq_str ⟨rfl, rfl, by rwa [T_beq]⟩
theorem W.nes {x y : List Nat} {t u : Tok} {Q : PV} (k : Q (.bool (!decide (x = y))) h g) : W c A (compareOp .NotEq (.str (T x) t) (.str (T y) u)) Q h g:=fun _=>ne_str ⟨rfl, rfl, by rwa [T_bne]⟩
theorem W.lens {x : List Nat} {t : Tok} {Q : PV} (hz : x.length <= sizeLine) (k : ∀ t, Q (.int x.length t) h g) : W c A (call (.builtin "len") [.str (T x) t]) Q h g :=
 fun tk=>len_str (by rw [T_length, sE] at *; lia) ⟨rfl, rfl, by have:=k (tk + 1); rw [<- T_length] at this; exact this⟩
theorem W.ord {x : Nat} {t : Tok} {Q : PV} (k : ∀ t, Q (.int x t) h g) : W c A (call (.builtin "ord") [.str (T [x]) t]) Q h g :=
 fun tk=>ord_of_one rfl ⟨rfl, rfl, k tk⟩
theorem W.saddT {x y : List Nat} {t u : Tok} {Q : PV} (hs : x.length + y.length <= sizeLine) (k : ∀ t, Q (.str (T (x ++ y)) t) h g) : W c A (binaryOp .Add (.str (T x) t) (.str (T y) u)) Q h g :=
 W.sadd (by rw [T_length, T_length]; exact hs) fun t=>by rw [T_append]; exact k t
theorem W.iaddT {x y : List Nat} {t u : Tok} {Q : PV} (hs : x.length + y.length <= sizeLine) (k : ∀ t, Q (.str (T (x ++ y)) t) h g) : W c A (inplaceOp .Add (.str (T x) t) (.str (T y) u)) Q h g :=
 fun _=>iadd_str (fun t' _=>⟨rfl, rfl, by rw [T_append]; exact k t'⟩) (by rw [T_length, T_length]; exact hs)
theorem T_mul (a : List Nat) (n : Nat) : Txt.mul (T a) n = T (List.replicate n a).flatten:=by
 unfold Txt.mul
 by_cases h0 : n = 0
 ·subst h0; rfl
 rw [if_neg (by lia)]
 by_cases h1 : ((n : Int) == 1 || (T a).length == 0) = true
 ·rw [if_pos h1]
  rcases Bool.or_eq_true _ _ |>.mp h1 with e | e
  ·have : n = 1:=by have:=eq_of_beq e; lia
   subst this; simp
  ·have : a = []:=by have:=eq_of_beq e; rw [T_length] at this; exact List.length_eq_zero_iff.mp this
   subst this; simp
 ·rw [if_neg h1]
  have : ∀ (k : Nat) (b : List Nat), (List.replicate k (T a).cps).foldl (· ++ ·) b.toArray = (b ++ (List.replicate k a).flatten).toArray:=by
   intro k
   induction k with
   | zero=>intro b; simp
   | succ k ih =>
    intro b
    rw [List.replicate_succ, List.foldl_cons, List.replicate_succ, fCo, <- apA, <- ih (b ++ a)]
    show List.foldl _ (b.toArray ++ a.toArray) _ = _
    rw [List.append_toArray]
  have:=this n []
  simp only [Int.toNat_natCast]
  show (⟨_⟩ : Str) = _
  exact congrArg Str.mk (by simpa using this)
end
theorem T_get (a : List Nat) (i : Nat) : (T a).cps[i]? = a[i]?:=by show a.toArray[i]? = _; simp
theorem pick_run {α : Type} (l : List α) (a k : Nat) : ((List.range k).map fun i=>a + i).filterMap (fun i=>l[i]?) = (l.drop a).take k:=by
 rw [List.filterMap_map]
 show (List.range k).filterMap (fun i=>l[a + i]?) = _
 have : ∀ m : List α, ∀ k, (List.range k).filterMap (fun i=>m[i]?) = m.take k:=by
  intro m k
  induction k with
  | zero=>simp
  | succ k ih =>
   rw [List.range_succ, List.filterMap_append, ih]
   by_cases hk : k < m.length
   ·rw [List.take_add_one]; simp [gE hk]
   ·rw [List.take_of_length_le (by lia), List.take_of_length_le (by lia)]
    simp [List.getElem?_eq_none (show m.length <= k by lia)]
 rw [<- this (l.drop a) k]
 congr 1
 funext i
 rw [List.getElem?_drop]
noncomputable def loOf (n : Nat) : Option Int -> Nat
 | none=>0
 | some i=>if i < 0 then (i + n).toNat else min i.toNat n
noncomputable def hiOf (n : Nat) : Option Int -> Nat
 | none=>n
 | some i=>if i < 0 then (i + n).toNat else min i.toNat n
noncomputable def cutL {α : Type} (x : List α) (l u : Option Int) : List α:=(x.take (hiOf x.length u)).drop (loOf x.length l)
theorem idx_run (l u : Option Int) (n : Nat) : Builtin.Str.strSliceIndices l u 1 n = (List.range (hiOf n u - loOf n l)).map fun i=>loOf n l + i:=by
 have e1 : ∀ i : Int, max 0 (min (if i < 0 then i + n else i) (n : Int)) = ((loOf n (some i) : Nat) : Int):=fun i=>lo_e n i
 have e2 : ∀ i : Int, max 0 (min (if i < 0 then i + n else i) (n : Int)) = ((hiOf n (some i) : Nat) : Int):=fun i=>lo_e n i
 unfold Builtin.Str.strSliceIndices
 simp only [show (1 : Int) > 0 from by decide, if_true]
 cases l with
 | none =>
  cases u with
  | none=>exact sliceRange_one 0 n
  | some j=>dsimp only; rw [e2 j]; exact sliceRange_one 0 _
 | some i =>
  cases u with
  | none=>dsimp only; rw [e1 i]; exact sliceRange_one _ n
  | some j=>dsimp only; rw [e1 i, e2 j]; exact sliceRange_one _ _
theorem T_slice (x : List Nat) (l u : Option Int) : Txt.slice (T x) l u = T (cutL x l u):=by
 have key : (Builtin.Str.strSliceIndices l u 1 (T x).length).filterMap (fun i=>(T x).cps[i]?) = cutL x l u:=by
  rw [T_length, idx_run]
  simp only [T_get]
  rw [pick_run]
  unfold cutL
  rw [List.drop_take]
 unfold Txt.slice
 split
 ·rename_i h
  have hl : (Builtin.Str.strSliceIndices l u 1 (T x).length).length = x.length:=by simpa [T_length] using h
  rw [T_length, idx_run, lMa, List.length_range] at hl
  have h2 : hiOf x.length u <= x.length:=by
   cases u with
   | none=>exact Nat.le_refl _
   | some i=>exact hi_e _ i
  have : cutL x l u = x:=by
   unfold cutL
   by_cases hx : x.length = 0
   ·rw [List.length_eq_zero_iff.mp hx]; simp
   ·have a1 : hiOf x.length u = x.length:=Nat.le_antisymm h2 (lT (Nat.le_of_eq hl.symm) (Nat.sub_le _ _))
    have a2 : loOf x.length l = 0:=by lia
    rw [a1, a2]; simp
  rw [this]
 ·exact congrArg (fun l : List Nat=>(⟨l.toArray⟩ : Str)) key
theorem T_item (x : List Nat) (i : Nat) (h : i < x.length) : Txt.item (T x) i = T [x[i]]:=by
 unfold Txt.item Txt.charAt
 have : seqIndex? (i : Int) (T x).length = some i:=by
  unfold seqIndex?; rw [T_length]; simp; rw [if_neg (Int.not_lt.mpr (Int.natCast_nonneg i))]; exact ⟨⟨Int.natCast_nonneg i, Int.ofNat_lt.mpr h⟩, rfl⟩
 rw [this, Option.bind_some, T_get, gE h]; rfl
theorem T_last (x : List Nat) (h : x ≠ []) : Txt.item (T x) (-1) = T [x.getLast h]:=by
 have hl:=List.length_pos_iff.mpr h
 unfold Txt.item Txt.charAt
 have : seqIndex? (-1) (T x).length = some (x.length - 1):=by
  unfold seqIndex?; rw [T_length]
  have e : (-1 : Int) + (x.length : Int) = ((x.length - 1 : Nat) : Int):=by rw [Int.add_comm, Int.ofNat_sub hl]; rfl
  simp; rw [e]; exact ⟨⟨Int.natCast_nonneg _, Int.ofNat_lt.mpr (Nat.sub_lt hl Nat.one_pos)⟩, rfl⟩
 rw [this, Option.bind_some, T_get, List.getLast_eq_getElem, gE (Nat.sub_lt hl Nat.one_pos)]; rfl
theorem T_join (s : List Nat) (ys : List (List Nat)) : Txt.join (T s) (ys.map fun x=>T x) = T (s.intercalate ys):=by
 unfold Txt.join
 rw [StrLaws.glued_eq_join]
 induction ys with
 | nil=>rfl
 | cons y ys ih =>
  cases ys with
  | nil=>show T y = _; simp [List.intercalate]
  | cons z ys =>
   show T y ++ T s ++ Str.join (T s) ((z :: ys).map fun x=>T x) = _
   rw [ih, T_append, T_append]
   simp [List.intercalate, apA]
theorem cut_listOf (vs : List Value) (l u : Option Int) : slicePick vs.toArray l u none = (cutL vs l u).toArray:=by
 have key : sliceRange (sliceBounds l u none vs.toArray.size).1 (sliceBounds l u none vs.toArray.size).2.1 (sliceBounds l u none vs.toArray.size).2.2 = (List.range (hiOf vs.length u - loOf vs.length l)).map fun i=>loOf vs.length l + i:=by
  rw [List.size_toArray, <- idx_run]
  cases l <;> cases u <;> rfl
 unfold slicePick
 rw [key]
 simp only [List.getElem?_toArray]
 rw [pick_run]
 unfold cutL
 rw [List.drop_take]
section
variable {c : Cx} {A : Around} {G h : Heap} {g : Gs} {env : Env} {L : Addr} {f : Fm} {l : List (Addr × Obj)}
theorem W.itemT {value slice : Expr} {x : List Nat} {i : Int} {t u : Tok} {Q : PV} (h0 : 0 <= i) (h1 : i.toNat < x.length) (hs : x.length <= sizeLine) (y : ∀ t, Q (.str (T [x[i.toNat]]) t) h g)
  (e1 : subscripted slice false (.str (T x) t) (.int i u) = operate [.str (T x) t, .int i u] (getItem (.str (T x) t) (.int i u)):=by kernel_rfl) (e2 : ∀ r, letTemporaryGo value (.str (T x) t) r = Pure.pure ():=by intro _; kernel_rfl) :
  W c A (subscriptTail value slice (.str (T x) t) (.int i u)) Q h g :=
 W.item h0 (by rw [T_length]; lia) (by rw [T_length]; rw [sE] at hs; exact lLe hs (by decide)) (fun t=>by
  have:=T_item x i.toNat h1
  rw [Int.toNat_of_nonneg h0] at this; rw [this]; exact y t) e1 e2
theorem W.lastT {value slice : Expr} {x : List Nat} {t u : Tok} {Q : PV} (h1 : x ≠ []) (hs : x.length <= sizeLine) (y : ∀ t, Q (.str (T [x.getLast h1]) t) h g)
  (e1 : subscripted slice false (.str (T x) t) (.int (-1) u) = operate [.str (T x) t, .int (-1) u] (getItem (.str (T x) t) (.int (-1) u)):=by kernel_rfl) (e2 : ∀ r, letTemporaryGo value (.str (T x) t) r = Pure.pure ():=by intro _; kernel_rfl) :
  W c A (subscriptTail value slice (.str (T x) t) (.int (-1) u)) Q h g:=fun tk =>
 have hl:=List.length_pos_iff.mpr h1
 item_str (by decide) (by rw [T_length]; lia) (by rw [T_length]; lia) (fun _=>⟨rfl, rfl, by rw [T_last x h1]; exact y tk⟩) e1 e2
theorem W.smulT {x : List Nat} {n : Nat} {t u : Tok} {Q : PV} (hs : MulOk (T x) n) (k : ∀ t, Q (.str (T (List.replicate n x).flatten) t) h g) : W c A (binaryOp .Mult (.str (T x) t) (.int n u)) Q h g :=
 W.smul hs fun t=>by rw [T_mul]; exact k t
theorem W.expr {e : Expr} {pos : Pos} {Q : PF} (y : W c A (eval e env) (fun v h1 g1=>v = .none /\ Q .next h1 g1) h g)
  (hi : interactive env = false:=by kernel_rfl) (hs : swapsWith e none pos.line env = Pure.pure false:=by kernel_rfl) : W c A (exec (.Expr e pos) env) Q h g :=
 fun tk=>wpAny_Expr (wM (y tk) (fun _ _ z=>by refine xa3 z fun z1 z2 e02 z3=>?_; obtain rfl:=e02; exact ⟨z1, z2, z3⟩) fun _ _ z=>z) hi hs
theorem W.aug {x : Str} {pos' pos : Pos} {op : Operator} {value : Expr} {Q : PF}
  (y : W c A (loadName env x) (fun old h1 g1=>W c A (eval value env) (fun v h2 g2=>W c A (inplaceOp op old v) (fun r h3 g3=>W c A (storeName env x r) (fun _=>Q .next) h3 g3) h2 g2) h1 g1) h g) :
  W c A (exec (.AugAssign (.Name x pos') op value pos) env) Q h g :=
 fun tk=>wpAny_AugAssign_Name (wM (y tk) (fun _ _ z=>wM (z.2.2.at z.1 z.2.1) (fun _ _ z=>wM (z.2.2.at z.1 z.2.1) (fun _ _ z=>z.2.2.at z.1 z.2.1) fun _ _ z=>z) fun _ _ z=>z) fun _ _ z=>z)
theorem W.meth {o : Expr} {name : Str} {apos pos : Pos} {args : List Expr} {Q : PV}
  (y : W c A (eval o env) (fun ov h1 g1=>W c A (getMethod ov name (do return (<- importBound o env).getD true)) (fun p h2 g2=>W c A (callWith pos p.1 p.2 (backTo pos (starEach args env)) []) Q h2 g2) h1 g1) h g)
  (hbase : attributeBase o name env (eval o env) = eval o env:=by kernel_rfl) (hk : backToKw pos (keywordEach [] env) = []:=by kernel_rfl)
  (hfew : methodCallForm (args.length + ([] : List Keyword).length) (backTo pos (starEach args env)) [] = true:=by kernel_rfl)
  (hline : (apos.endLine == pos.line) = true:=by kernel_rfl) : W c A (eval (.Call (.Attribute o name apos) args [] pos) env) Q h g:=by
 rw [arm_eval_Call, hbase, hk]
 have hpos : methodCallPos true o env apos pos = Pure.pure pos:=by unfold methodCallPos; simp [hline]
 refine W.bind (y.mono fun ov h1 g1 y=>W.bind (W.standAt ?_))
 unfold methodCall
 rw [hfew]
 refine W.bind (W.holding ?_)
 show W c A (getMethod ov name _) _ _ _
 refine y.mono fun p h2 g2 y=>?_
 rw [hpos]
 exact W.bind (W.pure y)
theorem W.mStr {x : Str} {t : Tok} {name : Str} {id : String} {pl : Sem Bool} {Q : Value × List Value -> Heap -> Gs -> Prop} (slot : Slot "str" name id) (ty : typeOf (.builtin id) = Pure.pure (.type "method_descriptor")) (y : Q (.builtin id, [.str x t]) h g) :
  W c A (getMethod (.str x t) name pl) Q h g:=fun tk=>getMethod_builtin (typeIs_str _ _ _) F.plainAttrs_str slot ty (fun _ e=>nomatch e) ⟨rfl, rfl, y⟩
theorem W.mApp {a : Addr} {vs : List Value} {n : Nat} {pl : Sem Bool} {Q : Value × List Value -> Heap -> Gs -> Prop} (e : h.get? a = some (lst vs n)) (y : Q (.builtin "list.append", [.ref a]) h g) :
  W c A (getMethod (.ref a) "append" pl) Q h g:=fun tk=>Calls.getMethod_list_append e rfl rfl ⟨rfl, rfl, y⟩
theorem W.callM1 {pos : Pos} {id : String} {v : Value} {e : Expr} {rest : List Expr} {Q : PV}
  (y : W c A (spliced (backTo pos (starEach (e :: rest) env))) (fun vs h1 g1=>W c A (call (.builtin id) (v :: vs)) Q h1 g1) h g)
  (h1 : starEach (e :: rest) env = (false, eval e env) :: starEach rest env:=by kernel_rfl) (h2 : ((backTo pos (starEach rest env)).any fun x=>x.fst) = false:=by kernel_rfl) :
  W c A (callWith pos (.builtin id) [v] (backTo pos (starEach (e :: rest) env)) []) Q h g:=fun tk=>by
 have y:=y tk
 rw [h1] at y ⊢
 exact callWith_builtin (by show (false || (backTo pos (starEach rest env)).any (·.1)) = false; rw [h2]; rfl) (evalArgs_plain (wM y (fun _ _ z=>z.2.2.at z.1 z.2.1) fun _ _ z=>z))
theorem W.callM0 {pos : Pos} {id : String} {v : Value} {Q : PV} (y : W c A (call (.builtin id) [v]) Q h g) : W c A (callWith pos (.builtin id) [v] (backTo pos (starEach [] env)) []) Q h g:=fun tk =>
 callWith_builtin rfl (PySem.evalArgs_none (y tk))
theorem W.lenl {a : Addr} {vs : List Value} {n : Nat} {Q : PV} (e : h.get? a = some (lst vs n)) (hz : vs.length <= sizeLine) (k : ∀ t, Q (.int vs.length t) h g) : W c A (call (.builtin "len") [.ref a]) Q h g :=
 fun tk=>len_list (isList_lst e) (by rw [sE] at hz; simp; lia) ⟨rfl, rfl, by have:=k (tk + 1); simpa using this⟩
theorem W.iteml {value slice : Expr} {a : Addr} {vs : List Value} {n : Nat} {i : Int} {u : Tok} {v : Value} {Q : PV} (e : h.get? a = some (lst vs n)) (h0 : 0 <= i) (h2 : i < 2 ^ 63) (h1 : vs[i.toNat]? = some v) (y : Q v h g)
  (e1 : subscripted slice false (.ref a) (.int i u) = operate [.ref a, .int i u] (getItem (.ref a) (.int i u)):=by kernel_rfl) (e2 : ∀ r, letTemporaryGo value (.ref a) r = Pure.pure ():=by intro _; kernel_rfl) :
  W c A (subscriptTail value slice (.ref a) (.int i u)) Q h g:=fun tk=>item_listL (isList_lst e) h0 h2 h1 ⟨rfl, rfl, y⟩ e1 e2
theorem W.lastl {value slice : Expr} {a : Addr} {vs : List Value} {n : Nat} {u : Tok} {v : Value} {Q : PV} (e : h.get? a = some (lst vs n)) (h1 : vs.getLast? = some v) (y : Q v h g)
  (e1 : subscripted slice false (.ref a) (.int (-1) u) = operate [.ref a, .int (-1) u] (getItem (.ref a) (.int (-1) u)):=by kernel_rfl) (e2 : ∀ r, letTemporaryGo value (.ref a) r = Pure.pure ():=by intro _; kernel_rfl) :
  W c A (subscriptTail value slice (.ref a) (.int (-1) u)) Q h g:=fun tk=>by
 have hl : 0 < vs.length:=by cases vs <;> simp at h1 ⊢
 refine subscriptTail_builtin (isList_lst e).typeIs list_getitem_lookup (wpAny_getItem_list_neg (x:=v) (isList_lst e) (by decide) (by simp; lia) (by decide) ?_ ⟨rfl, rfl, y⟩) e1 e2
 rw [List.size_toArray, List.getElem?_toArray, <- h1, List.getLast?_eq_getElem?]
 congr 1; exact neg1 _
end
section
variable {c : Cx} {A : Around} {G h : Heap} {g : Gs} {env : Env} {L : Addr} {f : Fm} {l : List (Addr × Obj)}
theorem WF.walk {x : Str} {px : Pos} {body orelse : List Stmt} {Q : PF} {I : Addr} {fp wr : List Addr} {n : Nat} {P : Nat -> Value -> Prop} {St : Nat -> Heap -> Prop} (Wk : Walks PW c.w A I fp wr n P St) (D : Led G L h f l)
  (s0 : St 0 h) (hfp : ∀ i h, St i h -> ∀ b ∈ fp, ∃ o, h.get? b = some o) (hfo : ∀ b ∈ fp, b ≠ L /\ b ∉ l.map (·.1)) (hwr : ∀ b ∈ wr, G.get? b = none)
  (inv : Nat -> Fm -> List (Addr × Obj) -> Gs -> Prop) (i0 : inv 0 f l g)
  (turn : ∀ i v G' h f l g, i < n -> P i v -> Sub G G' -> inv i f l g -> Led G' L h f l ->
   W c A (storeName env x v) (fun _ h2 g2=>W c A (execs body env) (fun fl h3 g3=>match fl with
   | .next | .cont=>∃ f' l', Led G' L h3 f' l' /\ inv (i + 1) f' l' g3
   | .brk=>Q .next h3 g3
   | .ret v=>Q (.ret v) h3 g3) h2 g2) h g)
  (done : ∀ h f l g, inv n f l g -> Led G L h f l -> W c A (execs orelse env) Q h g) :
  WF c A (.forLoop (.Name x px) (.ref I) body orelse env) Q h g:=by
 have move : ∀ (h h' : Heap) f l, Led G L h f l -> (∀ b ∈ fp, b ∉ l.map (·.1)) -> (∀ b o, b ∉ wr -> h.get? b = some o -> h'.get? b = some o) -> Led G L h' f l:=fun h h' f l D nl hk =>
  D.but (wr:=wr) hk (fun m=>(hfo _ (Wk.sub _ m)).1 rfl) (fun p hp m=>nl _ (Wk.sub _ m) (List.mem_map_of_mem hp)) hwr
 refine WF.for_ Wk (fun i h g=>∃ f l, Led G L h f l /\ inv i f l g /\ ∀ b ∈ fp, b ∉ l.map (·.1)) ⟨f, l, D, i0, fun b hb=>(hfo b hb).2⟩ s0 (fun i v h h' g hlt hP hI hst hk=>?_) fun h h' g hI hst hk=>?_
 ·refine xe2a2 hI fun f l D hinv n1=>?_
  have D':=move h h' f l D n1 hk
  refine xa2 D'.rebase fun R SR KR=>?_
  have y:=turn i v _ h' f l g hlt hP SR hinv R
  refine W.pure (W.assignName (y.mono fun _ h2 g2 y=>y.mono fun fl h3 g3 y=>?_))
  have fin : (∃ f' l', Led (hideAll h' (L :: l.map (·.1))) L h3 f' l' /\ inv (i + 1) f' l' g3) -> (∃ f l, Led G L h3 f l /\ inv (i + 1) f l g3 /\ ∀ b ∈ fp, b ∉ l.map (·.1)) /\ St (i + 1) h3:=by
   intro z2r0; refine xe2a z2r0 fun f' l' D3 v3=>?_
   have kk : ∀ b ∈ fp, ∀ o, h'.get? b = some o -> (hideAll h' (L :: l.map (·.1))).get? b = some o:=fun b hb o e=>KR b o e (hfo b hb).1 (n1 b hb)
   refine ⟨⟨f', l', D3.base SR, v3, fun b hb m=>?_⟩, Wk.frame _ _ _ hst fun b hb o e=>D3.sub _ _ (kk b hb o e)⟩
   refine xea (lmm m) fun p hp e32=>?_; obtain rfl:=e32
   refine xe (hfp _ _ hst _ hb) fun o e=>?_
   have:=(D3.nw p hp).2.2; rw [kk _ hb _ e] at this; cases this
  cases fl with
  | next=>exact fin y
  | cont=>exact fin y
  | brk=>exact y
  | ret v=>exact y
 ·refine xe2a2 hI fun f l D hinv n1=>?_
  exact done h' f l g hinv (move h h' f l D n1 hk)
theorem W.newl {vs : List Value} {Q : PV} (D : Led G L h f l) (hz : vs.length <= sizeLine) (y : ∀ h' a, Led G L h' f ((a, lst vs 0) :: l) -> Q (.ref a) h' g) : W c A (newList vs) Q h g:=fun tk =>
 wpAny_newObj_type ⟨rfl, rfl, y _ _ (D.push (lst vs 0))⟩ (by show vs.toArray.size <= sizeLine; rw [List.size_toArray]; exact hz)
theorem W.list_ {elts : List Expr} {pos : Pos} {Q : PV} (y : W c A (spliced (backTo pos (starEach elts env))) (fun vs h1 g1=>W c A (newList vs) Q h1 g1) h g) : W c A (eval (.List elts pos) env) Q h g :=
 fun tk=>List_ (wM (y tk) (fun _ _ z=>z.2.2.at z.1 z.2.1) fun _ _ z=>z)
theorem W.tuple_ {elts : List Expr} {k : Nat} {pos : Pos} {Q : PV} (y : W c A (spliced (backTo pos (starEach elts env))) (fun vs h1 g1=>W c A (newTuple vs) Q h1 g1) h g) : W c A (eval (.Tuple elts k pos) env) Q h g :=
 fun tk=>Tuple_ (wM (y tk) (fun _ _ z=>z.2.2.at z.1 z.2.1) fun _ _ z=>z)
noncomputable abbrev tup (vs : List Value) : Obj:=⟨.type "tuple", none, .seq vs.toArray 0, #[]⟩
theorem W.newt {vs : List Value} {Q : PV} (D : Led G L h f l) (hz : vs.length <= sizeLine) (y : ∀ h' a, Led G L h' f ((a, tup vs) :: l) -> Q (.ref a) h' g) : W c A (newTuple vs) Q h g:=fun tk =>
 wpAny_newObj_type ⟨rfl, rfl, y _ _ (D.push (tup vs))⟩ (by show vs.toArray.size <= sizeLine; rw [List.size_toArray]; exact hz)
theorem W.newt0 {vs : List Value} {Q : PV} (D : Led G L h f l) (hz : vs.length <= sizeLine) (y : ∀ h' a, Led G L h' f l -> IsTup h' a vs.toArray -> Q (.ref a) h' g) : W c A (newTuple vs) Q h g :=
 W.newt D hz fun h' a D'=>y h' a (D'.drop (List.sublist_cons_self _ _)) ⟨_, D'.get (.head _), rfl, 0, rfl⟩
theorem any_T (xs : List (List Nat)) (x : List Nat) : ((xs.map fun y=>T y).any fun y=>y == T x) = decide (x ∈ xs):=by
 rw [Bool.eq_iff_iff, List.any_eq_true, decide_eq_true_iff]
 constructor
 ·intro z6r0; refine xea z6r0 fun y m e=>?_
  refine xea (lmm m) fun z hz e72=>?_; obtain rfl:=e72
  rw [<- T_inj.mp (eq_of_beq e)]; exact hz
 ·intro m
  exact ⟨T x, List.mem_map_of_mem m, beq_self_eq_true _⟩
theorem W.intup {a : Addr} {vs : List Value} {xs : List (List Nat)} {x : List Nat} {t : Tok} {Q : PV} (ht : IsTup h a vs.toArray) (hs : Ss vs xs) (k : Q (.bool (decide (x ∈ xs))) h g) : W c A (compareOp .In (.str (T x) t) (.ref a)) Q h g :=
 fun tk=>in_tuple_strs ht hs ⟨rfl, rfl, by rw [any_T]; exact k⟩
theorem W.nintup {a : Addr} {vs : List Value} {xs : List (List Nat)} {x : List Nat} {t : Tok} {Q : PV} (ht : IsTup h a vs.toArray) (hs : Ss vs xs) (k : Q (.bool (!decide (x ∈ xs))) h g) : W c A (compareOp .NotIn (.str (T x) t) (.ref a)) Q h g :=
 fun tk=>notin_tuple_strs ht hs ⟨rfl, rfl, by rw [any_T]; exact k⟩
noncomputable def SlOn (c : Cx) (A : Around) (o a b : Value) (Q : PV) (h : Heap) (g : Gs) : Prop :=
 ∀ tk, ItemOn (model PW c.w) A (fun _ _=>False) o (.ref h.objs.size) (fun v s'=>s'.drawn = c.d /\ s'.os = c.os /\ Q v s'.heap s'.gens) ⟨h.push { cls:=.type "slice", data:=.fields #[a, b, .none] }, g, c.d, tk, c.os⟩
theorem W.slice {value : Expr} {lower upper : Option Expr} {p pos : Pos} {Q : PV}
  (y : W c A (eval value env) (fun o h1 g1=>W c A (evalPart lower env) (fun a h2 g2=>W c A (evalPart upper env) (fun b h3 g3=>SlOn c A o a b Q h3 g3) h2 g2) h1 g1) h g)
  (ht : ∀ o r, letTemporaryGo value o r = Pure.pure ():=by intro _ _; kernel_rfl) : W c A (eval (.Subscript value (.Slice lower upper none p) pos) env) Q h g :=
 fun tk=>Subscript_Slice (wM (y tk) (fun o s z=>wpAny_Slice (wM (z.2.2.at z.1 z.2.1) (fun a s z=>wM (z.2.2.at z.1 z.2.1) (fun b s z=>evalPart_none_step (by
  obtain ⟨h3, g3, d3, tk3, os3⟩:=s
  refine xa2 z fun z1 z2 z3=>?_
  dsimp only at z1 z2 z3
  subst z1 z2
  exact z3 tk3)) fun _ _ z=>z) fun _ _ z=>z)) fun _ _ z=>z) ht
theorem W.part0 {Q : PV} (y : Q .none h g) : W c A (evalPart none env) Q h g:=fun tk=>evalPart_none_step ⟨rfl, rfl, y⟩
theorem W.part1 {e : Expr} {Q : PV} (y : W c A (eval e env) Q h g) : W c A (evalPart (some e) env) Q h g:=fun tk=>evalPart_some_step (y tk)
noncomputable def partOf : Value -> Option Int | .int i _=>some i | _=>none
theorem Led.kept (P : Heap -> Prop) (hP : ∀ h, P h -> True) (D : Led G L h f l) : KeptH (fun h'=>Led G L h' f l):=fun h' ob D'=>D'.grow fun _ _ e=>hpo _ e
theorem SlOn.str {x : List Nat} {t : Tok} {a b : Value} {Q : PV} (D : Led G L h f l) (ha : a = .none \/ ∃ i u, a = .int i u) (hb : b = .none \/ ∃ i u, b = .int i u) (hz : x.length <= sizeLine)
  (y : ∀ h' t, Led G L h' f l -> Q (.str (T (cutL x (partOf a) (partOf b))) t) h' g) : SlOn c A (.str (T x) t) a b Q h g:=fun tk=>by
 have hk : KeptH (fun h'=>Led G L h' f l):=D.kept (fun _=>True) fun _ _=>trivial
 have hz' : (T x).length <= sizeLine:=by rw [T_length]; exact hz
 have fin : ∀ h' t' k lo hi, Led G L h' f l -> lo = partOf a -> hi = partOf b -> (⟨h', g, c.d, k, c.os⟩ : Shared).drawn = c.d /\ (⟨h', g, c.d, k, c.os⟩ : Shared).os = c.os /\ Q (.str (Txt.slice (T x) lo hi) t') h' g:=by
  rintro h' t' k lo hi D' rfl rfl
  exact ⟨rfl, rfl, by rw [T_slice]; exact y h' t' D'⟩
 rcases ha with rfl | ⟨i, u, rfl⟩ <;> rcases hb with rfl | ⟨j, v, rfl⟩
 ·exact SBH.sliceItem_nn (s:=⟨h, g, c.d, tk, c.os⟩) hk D (fun h' t' k D'=>fin h' t' k none none D' rfl rfl) hz'
 ·exact SBH.sliceItem_ns (s:=⟨h, g, c.d, tk, c.os⟩) hk D (fun h' t' k D'=>fin h' t' k none (some j) D' rfl rfl) hz'
 ·exact SBH.sliceItem_sn (s:=⟨h, g, c.d, tk, c.os⟩) hk D (fun h' t' k D'=>fin h' t' k (some i) none D' rfl rfl) hz'
 ·exact SBH.sliceItem_ss (s:=⟨h, g, c.d, tk, c.os⟩) hk D (fun h' t' k D'=>fin h' t' k (some i) (some j) D' rfl rfl) hz'
theorem isPart_of {a : Value} (ha : a = .none \/ ∃ i u, a = .int i u) : IsPart a (partOf a):=by
 rcases ha with rfl | ⟨i, u, rfl⟩
 ·exact .none
 ·exact .int i u
theorem SlOn.list {m : Addr} {vs : List Value} {n : Nat} {a b : Value} {Q : PV} (D : Led G L h f l) (e : h.get? m = some (lst vs n)) (ha : a = .none \/ ∃ i u, a = .int i u) (hb : b = .none \/ ∃ i u, b = .int i u) (hz : vs.length <= sizeLine)
  (y : ∀ h' d, Led G L h' f ((d, lst (cutL vs (partOf a) (partOf b)) 0) :: l) -> Q (.ref d) h' g) : SlOn c A (.ref m) a b Q h g:=fun tk=>by
 have D1:=D.grow (h':=h.push { cls:=.type "slice", data:=.fields #[a, b, .none] }) fun _ _ e=>hpo _ e
 have il:=isList_lst (hpo { cls:=.type "slice", data:=.fields #[a, b, .none] } e)
 refine ⟨"list", _, list_getitem_lookup, il.typeIs, wpAny_getItem_list_slice il (Heap.IsSliceOf.new _ _ _ _) (isPart_of ha) (isPart_of hb) .none (by simp) ⟨rfl, rfl, ?_⟩ (by simpa using hz)⟩
 rw [cut_listOf]
 exact y _ _ (D1.push (lst (cutL vs (partOf a) (partOf b)) 0))
theorem W.join {s : List Nat} {a : Addr} {vs : List Value} {n : Nat} {xs : List (List Nat)} {t : Tok} {Q : PV} (e : h.get? a = some (lst vs n)) (hs : Ss vs xs) (hz : (xs.map (·.length)).sum + xs.length * s.length <= 16777216)
  (y : ∀ t, Q (.str (T (s.intercalate xs)) t) h g) : W c A (call (.builtin "str.join") [.str (T s) t, .ref a]) Q h g:=fun tk =>
 join_list (isList_lst e) hs.strs (by
  rw [List.map_map, lMa, T_length]
  have : (fun x : Str=>x.length) ∘ (fun x=>T x) = fun x : List Nat=>x.length:=funext fun x=>T_length x
  rw [this]; exact hz) fun t' k=>⟨rfl, rfl, by rw [T_join]; exact y t'⟩
theorem W.addl {a b : Addr} {vs ws : List Value} {n m : Nat} {Q : PV} (D : Led G L h f l) (e1 : h.get? a = some (lst vs n)) (e2 : h.get? b = some (lst ws m)) (hz : vs.length + ws.length <= sizeLine)
  (y : ∀ h' d, Led G L h' f ((d, lst (vs ++ ws) 0) :: l) -> Q (.ref d) h' g) : W c A (binaryOp .Add (.ref a) (.ref b)) Q h g:=fun tk =>
 P.add_list e1 e2 ⟨rfl, rfl, by have:=y _ _ (D.push (lst (vs ++ ws) 0)); rw [List.append_toArray]; exact this⟩ (by simpa using hz)
theorem Is.items {vs : List Value} {ns : List Int} (hi : Is vs ns) : ∃ xs : Array (Int × Tok), vs.toArray = intItems xs /\ xs.toList.map (·.1) = ns:=by
 induction ns generalizing vs with
 | nil=>obtain rfl:=List.length_eq_zero_iff.mp hi.1; exact ⟨#[], by unfold intItems; simp, rfl⟩
 | cons n ns ih =>
  cases vs with
  | nil=>exact absurd hi.1 (by simp)
  | cons v vs =>
   refine xa hi.un fun z100 hi2=>?_; refine xe z100 fun t e10q01=>?_; obtain rfl:=e10q01
   refine xea (ih hi2) fun xs e1 e2=>?_
   refine ⟨((n, t) :: xs.toList).toArray, ?_, by simp [e2]⟩
   unfold intItems at e1 ⊢
   have : vs = (Array.map (fun p=>Value.int p.1 p.2) xs).toList:=by rw [<- e1]
   rw [this]; simp
theorem W.sum {a : Addr} {vs : List Value} {n : Nat} {ns : List Int} {Q : PV} (hh : A.handled = none) (D : Led G L h f l) (e : h.get? a = some (lst vs n)) (hi : Is vs ns) (y : ∀ h' t, Led G L h' f l -> Q (.int ns.sum t) h' g) :
  W c A (call (.builtin "sum") [.ref a]) Q h g:=fun tk=>by
 refine xea hi.items fun xs e1 e2=>?_
 refine sum_intListG (xs:=xs) hh (e1 ▸ isList_lst e) fun h' tk' t' hk=>⟨rfl, rfl, ?_⟩
 rw [preSum_eq, List.take_of_length_le (by simp), e2]
 exact y h' t' (D.grow hk)
theorem W.max {a : Addr} {vs : List Value} {n : Nat} {ns : List Int} {Q : PV} (hh : A.handled = none) (D : Led G L h f l) (e : h.get? a = some (lst vs n)) (hi : Is vs ns) (hne : ns ≠ []) (y : ∀ h' t M, Led G L h' f l -> M ∈ ns -> (∀ a ∈ ns, a <= M) -> Q (.int M t) h' g) :
  W c A (call (.builtin "max") [.ref a]) Q h g:=fun tk=>by
 refine xea hi.items fun xs e1 e2=>?_
 have hsz : 0 < xs.size:=by
  have:=List.length_pos_iff.mpr hne
  rw [<- e2] at this; simpa using this
 refine max_intList (xs:=xs) hh (e1 ▸ isList_lst e) hsz fun v h' tk' hv hk=>?_
 refine xe (intItems_at hv) fun t e141=>?_; obtain rfl:=e141
 refine xa (argBest_gt (numAt xs) (xs.size - 1)) fun h1 h2=>?_
 refine ⟨rfl, rfl, y h' t _ (D.grow hk) ?_ fun a ha=>?_⟩
 ·rw [numAt_eq, e2]; exact getD_mem (by rw [<- e2, lMa, Array.length_toList]; exact lLe h1 (Nat.sub_lt hsz Nat.one_pos))
 ·refine xea (mem_getD ha) fun j hj e162=>?_; obtain rfl:=e162
  rw [<- e2, lMa, Array.length_toList] at hj
  rw [<- e2, <- numAt_eq]; exact h2 j (Nat.le_sub_one_of_lt hj)
theorem W.callT {pos : Pos} {id : String} {e : Expr} {rest : List Expr} {Q : PV}
  (y : W c A (spliced (backTo pos (starEach (e :: rest) env))) (fun vs h1 g1=>W c A (call (.type id) vs) Q h1 g1) h g)
  (h1 : starEach (e :: rest) env = (false, eval e env) :: starEach rest env:=by kernel_rfl) (h2 : ((backTo pos (starEach rest env)).any fun x=>x.fst) = false:=by kernel_rfl) :
  W c A (callWith pos (.type id) [] (backTo pos (starEach (e :: rest) env)) []) Q h g:=fun tk=>by
 have y:=y tk
 rw [h1] at y ⊢
 exact PySem.callWith_type (by show (false || (backTo pos (starEach rest env)).any (·.1)) = false; rw [h2]; rfl) (evalArgs_plain (wM y (fun _ _ z=>z.2.2.at z.1 z.2.1) fun _ _ z=>z))
end
theorem noPylong {a b : Int} (h : b.natAbs < 2 ^ 30) : Builtin.divisionGoesByPylong a b = false:=by
 unfold Builtin.divisionGoesByPylong
 have : b.natAbs.log2 < 30 \/ b.natAbs = 0:=by
  by_cases h0 : b.natAbs = 0
  ·exact .inr h0
  ·exact .inl ((Nat.log2_lt h0).mpr h)
 simp only [Bool.and_eq_false_iff, decide_eq_false_iff_not]
 left
 split <;> rcases this with h | h <;> simp_all <;> lia
theorem toQ {Q : PV} {x y : List Nat} {t : Tok} {h : Heap} {g : Gs} (e : y = x) (k : Q (.str (T x) t) h g) : Q (.str (T y) t) h g:=e ▸ k
theorem iteT {P Q : Prop} (x : P) : if true = true then P else Q:=by rw [if_pos rfl]; exact x
theorem iteF {P Q : Prop} (x : Q) : if false = true then P else Q:=by rw [if_neg Bool.false_ne_true]; exact x
theorem mulOk {x : Str} {n : Nat} (h1 : n <= 16777216) (hs : x.length * n <= 16777216) : MulOk x n:=by
 refine ⟨?_, fun a _=>?_, fun a _=>?_⟩
 ·simp; lia
 ·have : (x.length : Int) <= (2 ^ 63 - 1) / (n : Int):=by
   rw [Int.le_ediv_iff_mul_le (by omega)]
   have : (x.length : Int) * n = ((x.length * n : Nat) : Int):=by simp
   rw [this]; lia
  lia
 ·unfold Builtin.Str.tooLong; simp; exact hs
section
variable {c : Cx} {A : Around} {G h : Heap} {g : Gs} {env : Env} {L : Addr} {f : Fm} {l : List (Addr × Obj)}
theorem W.modE {a b : Int} {t u : Tok} {Q : PV} (hb : 0 < b) (y : ∀ t, Q (.int (a % b) t) h g) : W c A (binaryOp .Mod (.int a t) (.int b u)) Q h g :=
 W.mod (by lia) fun t=>by rw [Int.fmod_eq_emod_of_nonneg _ (by lia)]; exact y t
theorem W.divE {a b : Int} {t u : Tok} {Q : PV} (hb : 0 < b) (hp : Builtin.divisionGoesByPylong a b = false) (y : ∀ t, Q (.int (a / b) t) h g) : W c A (binaryOp .FloorDiv (.int a t) (.int b u)) Q h g :=
 W.fdiv (by lia) hp fun t=>by rw [Int.fdiv_eq_ediv_of_nonneg _ (by lia)]; exact y t
theorem W.smulI {x : List Nat} {n : Int} {t u : Tok} {Q : PV} (h0 : 0 <= n) (h1 : n <= 16777216) (hs : x.length * n.toNat <= 16777216) (k : ∀ t, Q (.str (T (List.replicate n.toNat x).flatten) t) h g) : W c A (binaryOp .Mult (.str (T x) t) (.int n u)) Q h g:=by
 refine xe (⟨n.toNat, by lia⟩ : ∃ m : Nat, n = m) fun m e01=>?_; obtain rfl:=e01
 exact W.smulT (mulOk (by lia) (by rw [T_length]; simpa using hs)) fun t=>by simpa using k t
theorem W.chrT {i : Int} {t : Tok} {Q : PV} (h0 : 0 <= i) (h1 : i <= 1114111) (k : ∀ t, Q (.str (T [i.toNat]) t) h g) : W c A (call (.builtin "chr") [.int i t]) Q h g:=W.chr h0 h1 k
theorem W.ifL {test : Expr} {body orelse : List Stmt} {pos : Pos} {Q : PF} (P : Prop) [Decidable P] (D : Led G L h f l)
  (y : W c A (isTrue test env (eval test env)) (fun b h1 g1=>b = decide P /\ g1 = g /\ Led G L h1 f l) h g)
  (yes : ∀ h1, P -> Led G L h1 f l -> W c A (execs body env) Q h1 g) (no : ∀ h1, ¬ P -> Led G L h1 f l -> W c A (execs orelse env) Q h1 g) : W c A (exec (.If test body orelse pos) env) Q h g :=
 W.if_ (y.mono fun b h1 g1 z=>by
  obtain ⟨rfl, rfl, z⟩:=z
  exact ifSplit (fun e=>yes _ (of_decide_eq_true e) z) (fun e=>no _ (of_decide_eq_false e) z))
theorem W.tlink {pos : Pos} {a : Value} {op op' : CmpOp} {r r' : Sem Value} {Q : PB}
  (y : W c A r (fun b h1 g1=>W c A (compareOp op a b) (fun v h2 g2=>W c A (truthy v) (fun t h3 g3=>if t = true then W c A (testChain pos b [op'] [r']) Q h3 g3 else Q false h3 g3) h2 g2) h1 g1) h g) : W c A (testChain pos a [op, op'] [r, r']) Q h g :=
 fun tk=>test_link (wM (y tk) (fun _ _ z=>wM (z.2.2.at z.1 z.2.1) (fun _ _ z=>wM (z.2.2.at z.1 z.2.1) (fun b s z=>by
  refine xa2 z fun z1 z2 z3=>?_
  cases b
  ·rw [if_neg Bool.false_ne_true] at z3 ⊢; exact ⟨z1, z2, z3⟩
  ·rw [if_pos rfl] at z3 ⊢; exact z3.at z1 z2) fun _ _ z=>z) fun _ _ z=>z) fun _ _ z=>z)
theorem W.tlast {pos : Pos} {a : Value} {op : CmpOp} {r : Sem Value} {Q : PB}
  (y : W c A r (fun b h1 g1=>W c A (compareOp op a b) (fun v h2 g2=>W c A (truthy v) Q h2 g2) h1 g1) h g) : W c A (testChain pos a [op] [r]) Q h g :=
 fun tk=>test_last (wM (y tk) (fun _ _ z=>wM (z.2.2.at z.1 z.2.1) (fun _ _ z=>z.2.2.at z.1 z.2.1) fun _ _ z=>z) fun _ _ z=>z)
noncomputable def fdOf (o : Obj) : FuncData:=match o.data with | .func fd=>fd | _=>fnD (.Pass default) default default 0 [] .none .none .none .none .none .none 0
theorem enterF {Q : PV} {k : Nat} {args : Args} (N : Addr) (o : Obj) (body : List Stmt) (binds : List (Str × Value)) (rest : List Str) (f0 : Fm)
  (X : TopIn c.w.params G) (S : Sub G h) (O : Own G h l) (r : Room A (k + 1)) (hf : (binds.reverse.map fun p=>(p.1, some p.2)) ++ rest.map (fun x=>((x, none) : Str × Option Value)) = f0)
  (hbind : ∀ s : Shared, s.heap = h -> BindsTo s (fdOf o) args binds)
  (y : ∀ h₁ L, Led G L h₁ f0 l -> Room (A.deeper (callEnv (fdOf o) L N)) k -> L = h.objs.size ->
   W c (A.deeper (callEnv (fdOf o) L N)) (execs body (callEnv (fdOf o) L N)) (fun fl h' g'=>Q (retOf fl) h' g') h₁ g)
  (ho : (KM c.w.params).lookup N = some o:=by kernel_rfl) (hd : o.data = .func (fdOf o):=by kernel_rfl) (hcd : codeIn (KM c.w.params) (fdOf o).code (fdOf o).qualname = true:=by kernel_rfl) (hb : (fdOf o).body = .stmts body:=by kernel_rfl)
  (hcell : ((fdOf o).scope.names.all fun x=>x.2 != .cell) = true:=by kernel_rfl) (hloc : ((binds.map (·.1)).all fun x=>(fdOf o).scope.names.lookup x == some .local) = true:=by kernel_rfl)
  (hnm : namesOk (f0.map (·.1)) = true:=by kernel_rfl) 
  (hsc : ((fdOf o).scope.isCoroutine, (fdOf o).scope.isGenerator, (fdOf o).scope.kind) = (false, false, ScopeKind.function):=by kernel_rfl) : WC c A (.call (.ref N) args) Q h g :=
 enter f0 X S O r ho hd hcd hb hbind hcell hloc hnm rest hf hsc y
end
section
variable {c : Cx} {A : Around} {G h : Heap} {g : Gs} {env : Env} {L : Addr} {f : Fm} {l : List (Addr × Obj)}
theorem Led.ne {a : Addr} (D : Led G L h f l) : h.objs.size ≠ L /\ h.objs.size ∉ l.map (·.1) /\ G.get? h.objs.size = none :=
 ⟨Nat.ne_of_gt D.ns.lt, fun q=>by
  refine xea (lmm q) fun p hp e=>?_
  exact Nat.ne_of_lt (D.lt hp) e, D.sub.none (fresh_size h)⟩
theorem W.range2 {a b : Int} {t u : Tok} {Q : PV} (D : Led G L h f l) (y : ∀ h' r v, Led G L h' f l -> IsRange h' r a b 1 t u v -> Q (.ref r) h' g) : W c A (call (.type "range") [.int a t, .int b u]) Q h g:=fun tk =>
 call_range_2 ⟨rfl, rfl, y _ _ _ (D.grow fun _ _ e=>hpo _ e) (IsRange.new h a b 1 t u tk)⟩
theorem W.forRange {x : Str} {px : Pos} {body orelse : List Stmt} {Q : PF} {r : Addr} {a b : Int} {t u v : Tok} (hh : A.handled = none) (D : Led G L h f l) (hr : IsRange h r a b 1 t u v) (n : Nat) (hn : (n : Int) = if a < b then b - a else 0) (ha : -(2 ^ 62) <= a /\ a < 2 ^ 62 /\ -(2 ^ 62) <= b /\ b < 2 ^ 62)
  (inv : Nat -> Fm -> List (Addr × Obj) -> Gs -> Prop) (i0 : inv 0 f l g)
  (turn : ∀ i t G' h f l g, i < n -> Sub G G' -> inv i f l g -> Led G' L h f l ->
   W c A (storeName env x (.int (a + (i : Int)) t)) (fun _ h2 g2=>W c A (execs body env) (fun fl h3 g3=>match fl with
   | .next | .cont=>∃ f' l', Led G' L h3 f' l' /\ inv (i + 1) f' l' g3
   | .brk=>Q .next h3 g3
   | .ret v=>Q (.ret v) h3 g3) h2 g2) h g)
  (done : ∀ h f l g, inv n f l g -> Led G L h f l -> W c A (execs orelse env) Q h g) :
  W c A (pyIter (.ref r)) (fun it h2 g2=>WF c A (.forLoop (.Name x px) it body orelse env) Q h2 g2) h g:=fun tk=>by
 have hsz : Builtin.Range.rangeSize a b 1 = (n : Int):=by rw [rangeSize_one, hn]
 refine wpAny_pyIter_range hr (small_one ha.1 ha.2.1 ha.2.2.1 ha.2.2.2) ⟨rfl, rfl, ?_⟩
 have N:=D.ne (a:=0)
 have D1:=D.grow (h':=h.push { cls:=.type "range_iterator", data:=.fields #[rawInt a, rawInt (Builtin.Range.rangeSize a b 1), rawInt 1] }) fun _ _ e=>hpo _ e
 refine WF.walk (Walks.range hh h.objs.size a 1 n) D1 ?_ (fun i h st b hb=>by obtain rfl:=lms hb; exact ⟨_, st⟩) (fun b hb=>by rw [lms hb]; exact ⟨N.1, N.2.1⟩) (fun b hb=>by rw [lms hb]; exact N.2.2) inv i0 (fun i v G' h f l g hi hP S hv D=>?_) done
 ·show Heap.get? _ _ = some _
  rw [hsz]
  have e : (h.push { cls:=.type "range_iterator", data:=.fields #[rawInt a, rawInt (n : Int), rawInt 1] }).get? h.objs.size = _:=Heap.get?_push_size _ rfl
  simpa using e
 ·obtain ⟨t, rfl⟩:=hP
  have:=turn i t G' h f l g hi S hv D
  rw [Int.mul_one]; exact this
theorem W.forStr {x : Str} {px : Pos} {body orelse : List Stmt} {Q : PF} {s : List Nat} {t : Tok} (hh : A.handled = none) (D : Led G L h f l)
  (inv : Nat -> Fm -> List (Addr × Obj) -> Gs -> Prop) (i0 : inv 0 f l g)
  (turn : ∀ i ch t G' h f l g, s[i]? = some ch -> Sub G G' -> inv i f l g -> Led G' L h f l ->
   W c A (storeName env x (.str (T [ch]) t)) (fun _ h2 g2=>W c A (execs body env) (fun fl h3 g3=>match fl with
   | .next | .cont=>∃ f' l', Led G' L h3 f' l' /\ inv (i + 1) f' l' g3
   | .brk=>Q .next h3 g3
   | .ret v=>Q (.ret v) h3 g3) h2 g2) h g)
  (done : ∀ h f l g, inv s.length f l g -> Led G L h f l -> W c A (execs orelse env) Q h g) :
  W c A (pyIter (.str (T s) t)) (fun it h2 g2=>WF c A (.forLoop (.Name x px) it body orelse env) Q h2 g2) h g:=fun tk=>by
 have N:=D.ne (a:=0)
 have fin : ∀ (o : Obj) (ty : String), (∀ I, Walks PW c.w A I [I] [I] (T s).cps.size (SignAt (T s)) (fun i h=>h.IsStrIter I ty (T s) t i)) -> (h.push o).IsStrIter h.objs.size ty (T s) t 0 ->
   WF c A (.forLoop (.Name x px) (.ref h.objs.size) body orelse env) Q (h.push o) g:=fun o ty Wk st=>by
  have D1:=D.grow (h':=h.push o) fun _ _ e=>hpo _ e
  have el : (T s).cps.size = s.length:=T_length s
  refine WF.walk (Wk _) D1 st (fun i h st b hb=>by obtain rfl:=lms hb; obtain ⟨o, e, _⟩:=st; exact ⟨o, e⟩) (fun b hb=>by rw [lms hb]; exact ⟨N.1, N.2.1⟩) (fun b hb=>by rw [lms hb]; exact N.2.2) inv i0 (fun i v G' h f l g hi hP S hv D=>?_) (el ▸ done)
  obtain ⟨ch, u, e1, rfl⟩:=hP
  rw [T_get] at e1
  exact turn i ch u G' h f l g e1 S hv D
 cases ha : (T s).cps.all (· < 128)
 ·exact wpAny_pyIter_wide ha ⟨rfl, rfl, fin _ _ (fun I=>Walks.strWide hh I (T s) t) ⟨_, Heap.get?_push_size _ rfl, rfl, rfl⟩⟩
 ·exact wpAny_pyIter_ascii ha ⟨rfl, rfl, fin _ _ (fun I=>Walks.strAscii hh I (T s) t) ⟨_, Heap.get?_push_size _ rfl, rfl, rfl⟩⟩
theorem W.forList {x : Str} {px : Pos} {body orelse : List Stmt} {Q : PF} {a : Addr} {vs : List Value} {m : Nat} (hh : A.handled = none) (D : Led G L h f l) (e : G.get? a = some (lst vs m))
  (inv : Nat -> Fm -> List (Addr × Obj) -> Gs -> Prop) (i0 : inv 0 f l g)
  (turn : ∀ i v G' h f l g, vs[i]? = some v -> Sub G G' -> inv i f l g -> Led G' L h f l ->
   W c A (storeName env x v) (fun _ h2 g2=>W c A (execs body env) (fun fl h3 g3=>match fl with
   | .next | .cont=>∃ f' l', Led G' L h3 f' l' /\ inv (i + 1) f' l' g3
   | .brk=>Q .next h3 g3
   | .ret v=>Q (.ret v) h3 g3) h2 g2) h g)
  (done : ∀ h f l g, inv vs.length f l g -> Led G L h f l -> W c A (execs orelse env) Q h g) :
  W c A (pyIter (.ref a)) (fun it h2 g2=>WF c A (.forLoop (.Name x px) it body orelse env) Q h2 g2) h g:=fun tk=>by
 have N:=D.ne (a:=0)
 have ea:=D.sub _ _ e
 have na : a ≠ h.objs.size:=Nat.ne_of_lt (Heap.lt_size ea)
 have nL : a ≠ L:=fun z=>by have:=D.lo; rw [<- z, e] at this; cases this
 have nl : a ∉ l.map (·.1):=fun q=>by
  refine xea (lmm q) fun p hp z=>?_
  have:=(D.nw p hp).2.2; rw [z, e] at this; cases this
 refine wpAny_pyIter_list (isList_lst ea) ⟨rfl, rfl, ?_⟩
 have D1:=D.grow (h':=h.push { cls:=.type "list_iterator", data:=.fields #[.ref a, .int 0 0] }) fun _ _ e=>hpo _ e
 refine WF.walk (Walks.list hh h.objs.size a na vs.toArray) D1 ⟨⟨_, Heap.get?_push_size _ rfl, rfl, rfl⟩, isList_lst (hpo _ ea)⟩ (fun i h st b hb=>?_) (fun b hb=>?_) (fun b hb=>by rw [lms hb]; exact N.2.2) inv i0 (fun i v G' h f l g hi hP S hv D=>?_) ?_
 ·rcases lmc hb with rfl | hb
  ·obtain ⟨o, e, _⟩:=st.1; exact ⟨o, e⟩
  ·obtain rfl:=lms hb; obtain ⟨o, e, _⟩:=st.2; exact ⟨o, e⟩
 ·rcases lmc hb with rfl | hb
  ·exact ⟨N.1, N.2.1⟩
  ·obtain rfl:=lms hb; exact ⟨nL, nl⟩
 ·exact turn i v G' h f l g (by simpa using hP) S hv D
 ·simpa using done
theorem W.callF {pos : Pos} {N : Addr} {o : Obj} {e : Expr} {rest : List Expr} {Q : PV} (X : TopIn c.w.params G)
  (y : W c A (spliced (backTo pos (starEach (e :: rest) env))) (fun vs h1 g1=>Sub G h1 /\ WC c A (.call (.ref N) ⟨vs, []⟩) Q h1 g1) h g)
  (ho : (KM c.w.params).lookup N = some o) (hd : o.data = .func (fdOf o))
  (h1 : starEach (e :: rest) env = (false, eval e env) :: starEach rest env:=by kernel_rfl) : W c A (callWith pos (.ref N) [] (backTo pos (starEach (e :: rest) env)) []) Q h g:=fun tk =>
 callWith_def hd (wM (y tk) (fun vs s z=>⟨(X.keeps z.2.2.1) _ _ ho, (z.2.2.2.call).at z.1 z.2.1⟩) fun _ _ z=>z) h1
end
theorem T_toList (x : List Nat) : (T x).cps.toList = x:=by show x.toArray.toList = x; simp
theorem T_lstrip (x : List Nat) (h : ∀ c, x.head? = some c -> Unicode.isSpace c = false) : Txt.lstrip (T x) = T x:=by
 unfold Txt.lstrip Txt.stripBy
 refine if_pos ?_
 unfold stripSame stripLo stripHi
 have : x.takeWhile Unicode.isSpace = []:=by
  cases x with
  | nil=>rfl
  | cons a x=>rw [List.takeWhile_cons, h a rfl]; rfl
 simp [T_toList, this]
theorem T_rstrip (x : List Nat) (h : ∀ c, x.getLast? = some c -> Unicode.isSpace c = false) : Txt.rstrip (T x) = T x:=by
 unfold Txt.rstrip Txt.stripBy
 refine if_pos ?_
 unfold stripSame stripLo stripHi
 have : x.reverse.takeWhile Unicode.isSpace = []:=by
  cases e : x.reverse with
  | nil=>rfl
  | cons a y =>
   have : x.getLast? = some a:=by rw [<- List.head?_reverse, e]; rfl
   rw [List.takeWhile_cons, h a this]; rfl
 simp [T_toList, this]
section
variable {c : Cx} {A : Around} {G h : Heap} {g : Gs} {env : Env} {L : Addr} {f : Fm} {l : List (Addr × Obj)}
theorem W.isiStr {x : Str} {t : Tok} {Q : PV} (y : Q (.bool true) h g) : W c A (call (.builtin "isinstance") [.str x t, .type "str"]) Q h g:=fun tk=>IsiPair.str_str ⟨rfl, rfl, y⟩
theorem W.tName {x : Str} {p : Pos} {whole : Sem Value} {Q : PB} (y : W c A whole (fun v h1 g1=>W c A (truthy v) Q h1 g1) h g) : W c A (isTrue (.Name x p) env whole) Q h g:=W.tplain y rfl
theorem W.tCall {e : Expr} {a k p} {whole : Sem Value} {Q : PB} (y : W c A whole (fun v h1 g1=>W c A (truthy v) Q h1 g1) h g) : W c A (isTrue (.Call e a k p) env whole) Q h g:=W.tplain y rfl
theorem W.tSub {e i : Expr} {p} {whole : Sem Value} {Q : PB} (y : W c A whole (fun v h1 g1=>W c A (truthy v) Q h1 g1) h g) : W c A (isTrue (.Subscript e i p) env whole) Q h g:=W.tplain y rfl
theorem W.tAttr {e : Expr} {i : Str} {p} {whole : Sem Value} {Q : PB} (y : W c A whole (fun v h1 g1=>W c A (truthy v) Q h1 g1) h g) : W c A (isTrue (.Attribute e i p) env whole) Q h g:=W.tplain y rfl
theorem W.trl {a : Addr} {vs : List Value} {n : Nat} {Q : PB} (e : h.get? a = some (lst vs n)) (hz : vs.length <= sizeLine) (y : Q (!vs.isEmpty) h g) : W c A (truthy (.ref a)) Q h g:=fun tk =>
 wpAny_truthy_list (isList_lst e) (by rw [sE] at hz; simp; lia) ⟨rfl, rfl, by simpa using y⟩
theorem W.trs {x : List Nat} {t : Tok} {Q : PB} (hz : x.length <= sizeLine) (y : Q (!x.isEmpty) h g) : W c A (truthy (.str (T x) t)) Q h g:=fun tk =>
 P.truthy_str (by rw [T_length, sE] at *; lia) ⟨rfl, rfl, by
  have : (((T x).length : Int) != 0) = !x.isEmpty:=by rw [T_length]; cases x <;> simp; lia
  rw [this]; exact y⟩
theorem W.augSub {o i value : Expr} {tpos pos : Pos} {op : Operator} {Q : PF}
  (y : W c A (eval o env) (fun ov h1 g1=>W c A (eval i env) (fun iv h2 g2=>W c A (getItem ov iv) (fun old h3 g3=>W c A (eval value env) (fun v h4 g4=>W c A (inplaceOp op old v) (fun new h5 g5=>W c A (setItem ov iv new) (fun _=>Q .next) h5 g5) h4 g4) h3 g3) h2 g2) h1 g1) h g)
  (hi : ∀ ov iv new, augStore i ov iv new = (do PySem.holding [new, ov, iv] (setItem ov iv new); release [new, ov, iv] []; Pure.pure .next):=by intros; kernel_rfl) : W c A (exec (.AugAssign (.Subscript o i tpos) op value pos) env) Q h g :=
 fun tk=>wpAny_AugAssign_SubscriptAny (wM (y tk) (fun _ _ z=>wM (z.2.2.at z.1 z.2.1) (fun _ _ z=>wM (z.2.2.at z.1 z.2.1) (fun _ _ z=>wM (z.2.2.at z.1 z.2.1) (fun _ _ z=>wM (z.2.2.at z.1 z.2.1) (fun _ _ z=>z.2.2.at z.1 z.2.1) fun _ _ z=>z) fun _ _ z=>z) fun _ _ z=>z) fun _ _ z=>z) fun _ _ z=>z) hi
theorem W.getLast {a : Addr} {vs : List Value} {n : Nat} {u : Tok} {v : Value} {Q : PV} (e : h.get? a = some (lst vs n)) (h1 : vs.getLast? = some v) (y : Q v h g) : W c A (getItem (.ref a) (.int (-1) u)) Q h g:=fun tk=>by
 have hl : 0 < vs.length:=by cases vs <;> simp at h1 ⊢
 refine wpAny_getItem_list_neg (x:=v) (isList_lst e) (by decide) (by simp; lia) (by decide) ?_ ⟨rfl, rfl, y⟩
 rw [List.size_toArray, List.getElem?_toArray, <- h1, List.getLast?_eq_getElem?]
 congr 1; exact neg1 _
theorem W.setLast {a : Addr} {vs : List Value} {n : Nat} {u : Tok} {v : Value} {Q : Unit -> Heap -> Gs -> Prop} (e : h.get? a = some (lst vs n)) (h1 : vs ≠ []) (y : ∀ h', h'.get? a = some (lst (vs.dropLast ++ [v]) n) -> (∀ b o, b ≠ a -> h.get? b = some o -> h'.get? b = some o) -> Q () h' g) :
  W c A (setItem (.ref a) (.int (-1) u) v) Q h g:=fun tk=>by
 have hl:=List.length_pos_iff.mpr h1
 refine ki_setBack (n:=n) (items:=vs.toArray) e (by decide) (by simp; lia) (by decide) ⟨rfl, rfl, ?_⟩
 have U:=upd_get (F:=Obj.mapSeq (·.setIfInBounds ((-1 : Int) + (vs.toArray.size : Int)).toNat v)) e rfl
 refine y _ (U.1.trans ?_) U.2
 congr 1
 show (⟨_, _, .seq _ (if _ then _ else _), _⟩ : Obj) = _
 rw [if_pos (by simp)]
 congr 2
 rw [show ((-1 : Int) + (vs.toArray.size : Int)).toNat = vs.length - 1 by rw [List.size_toArray]; exact neg1 _]
 simp
 refine xe2 (⟨vs.dropLast, vs.getLast h1, (List.dropLast_concat_getLast h1).symm⟩ : ∃ ws w, vs = ws ++ [w]) fun ws w e02=>?_; obtain rfl:=e02
 simp
theorem W.lstrip {x : List Nat} {t : Tok} {Q : PV} (hz : x.length <= sizeLine) (hx : ∀ c, x.head? = some c -> Unicode.isSpace c = false) (y : ∀ t, Q (.str (T x) t) h g) : W c A (call (.builtin "str.lstrip") [.str (T x) t]) Q h g:=fun tk =>
 SC.lstrip (fun t' k=>⟨rfl, rfl, by rw [T_lstrip x hx]; exact y t'⟩) (by rw [T_length]; exact hz)
theorem W.rstrip {x : List Nat} {t : Tok} {Q : PV} (hz : x.length <= sizeLine) (hx : ∀ c, x.getLast? = some c -> Unicode.isSpace c = false) (y : ∀ t, Q (.str (T x) t) h g) : W c A (call (.builtin "str.rstrip") [.str (T x) t]) Q h g:=fun tk =>
 SC.rstrip (fun t' k=>⟨rfl, rfl, by rw [T_rstrip x hx]; exact y t'⟩) (by rw [T_length]; exact hz)
end
noncomputable def cel (o : Obj) (v : Option Value) : Obj:={ o with data:=.cell v }
theorem cel_of {o : Obj} {v : Option Value} (e : o.data = .cell v) : o = cel o v:=by
 obtain ⟨a, b, d, s⟩:=o
 dsimp only at e; subst e; rfl
theorem fm_rest (A : Fm) (r : List Str) (y : Str) : fm (A ++ r.map fun x=>(x, none)) y = fm A y:=by
 induction A with
 | nil =>
  induction r with
  | nil=>rfl
  | cons x r ih =>
   show (if y = x then none else fm (r.map fun x=>(x, none)) y) = none
   split
   ·rfl
   ·exact ih
 | cons p A ih=>simp only [List.cons_append, fm, ih]
theorem bindL_fm (k : Str -> Option NameKind) (binds : List (Str × Value)) : ∀ f : Fm, bindL k binds (fm f) = fm (((binds.filter fun p=>decide (k p.1 = some .local)).reverse.map fun p=>(p.1, some p.2)) ++ f):=by
 induction binds with
 | nil=>intro f; rfl
 | cons p r ih =>
  intro f
  obtain ⟨n, v⟩:=p
  unfold bindL
  by_cases h : k n = some .local
  ·rw [if_pos h]
   have : (fun y=>if y = n then some v else fm f y) = fm ((n, some v) :: f):=rfl
   rw [this, ih]
   simp [h]
  ·rw [if_neg h, ih]
   simp [h]
noncomputable def cellsAt (L : Addr) : Nat -> List (Str × Option Value) -> List (Str × Addr)
 | _, []=>[]
 | i, p :: r=>(p.1, L + i) :: cellsAt L (i + 1) r
theorem cellsAt_mem (L : Addr) : ∀ (cs : List (Str × Option Value)) (k i : Nat) (p : Str × Option Value), cs[i]? = some p -> (p.1, L + (k + i)) ∈ cellsAt L k cs
 | [], _, _, _, e=>by simp at e
 | q :: cs, k, 0, p, e=>by simp at e; subst e; exact .head _
 | q :: cs, k, i + 1, p, e=>by
  have:=cellsAt_mem L cs (k + 1) i p (by simpa using e)
  rw [show k + (i + 1) = k + 1 + i by lia]
  exact .tail _ this
theorem cellsAt_keys (L : Addr) : ∀ (cs : List (Str × Option Value)) (k : Nat), (cellsAt L k cs).map (·.1) = cs.map (·.1)
 | [], _=>rfl
 | q :: cs, k=>by simp only [cellsAt, mpC, cellsAt_keys L cs]
theorem namesOk_nodup : ∀ l : List Str, namesOk l = true -> l.Nodup
 | [], _=>List.nodup_nil
 | x :: l, h=>let ⟨a, b⟩:=namesOk_cons h; List.nodup_cons.mpr ⟨a, namesOk_nodup l b⟩
theorem fresh_ge {h : Heap} {a : Addr} (e : h.objs.size <= a) : h.get? a = none:=by
 cases q : h.get? a with
 | none=>rfl
 | some o=>exact absurd (Heap.lt_size q) (Nat.not_lt.mpr e)
theorem zip_addr (L : Addr) (cs : List (Str × Option Value)) (F : (Str × Option Value) × Nat -> Obj) : (cs.zipIdx.map fun p=>(L + (p.2 + 1), F p)).map (·.1) = (List.range cs.length).map fun i=>L + (i + 1):=by
 rw [List.map_map]
 have : ((fun x : Addr × Obj=>x.1) ∘ fun p : (Str × Option Value) × Nat=>(L + (p.2 + 1), F p)) = (fun i=>L + (i + 1)) ∘ Prod.snd:=rfl
 rw [this, <- List.map_map, List.zipIdx_map_snd, List.range_eq_range']
section
variable {c : Cx} {A : Around} {G h : Heap} {g : Gs} {env : Env} {L : Addr} {f : Fm} {l : List (Addr × Obj)}
theorem W.rdC (k : Nat) {x : Str} {pos : Pos} {o : Obj} {v : Value} {Q : PV} (D : Led G L h f l) (hm : (L + k, cel o (some v)) ∈ l) (y : Q v h g)
  (hc : env.cells.lookup x = some (L + k):=by kernel_rfl) (hk : env.scope.kind = .function:=by kernel_rfl) (hl : env.kindOf x = some .cell:=by kernel_rfl) (hd : (x == ("__debug__" : Str)) = false:=by kernel_rfl) :
  W c A (eval (.Name x pos) env) Q h g:=fun tk =>
 wpAny_Name (wpAny_loadName_cell hk hl hc ⟨_, D.get hm, rfl⟩ ⟨rfl, rfl, y⟩) hd
theorem W.wrC (k : Nat) {x : Str} {o : Obj} {v : Value} {v0 : Option Value} {l' : Obj -> List (Addr × Obj)} {Q : Unit -> Heap -> Gs -> Prop} (D : Led G L h f l) (hm : ∀ o', Chg (L + k) (cel o' (some v)) l (cel o v0) (l' o')) (y : ∀ h' o', Led G L h' f (l' o') -> Q () h' g)
  (hc : env.cells.lookup x = some (L + k):=by kernel_rfl) (hk : env.scope.kind = .function:=by kernel_rfl) (hl : env.kindOf x = some .cell:=by kernel_rfl) : W c A (storeName env x v) Q h g:=fun tk=>by
 refine wpAny_storeName_cell hk hl hc ⟨_, D.get (hm o).old, rfl⟩ fun h' hv hs=>⟨rfl, rfl, ?_⟩
 obtain ⟨o', e', d'⟩:=hv
 refine y h' o' (D.upd (hm o') (by rw [<- cel_of d']; exact e') fun b ob nb eb=>(hs.2 b nb).trans eb)
theorem enterC {Q : PV} {k : Nat} {args : Args} (N : Addr) (o : Obj) (body : List Stmt) (binds lb : List (Str × Value)) (rest : List Str) (f0 : Fm) (cs : List (Str × Option Value))
  (X : TopIn c.w.params G) (S : Sub G h) (O : Own G h l) (r : Room A (k + 1)) (hf : (lb.reverse.map fun p=>(p.1, some p.2)) ++ rest.map (fun x=>((x, none) : Str × Option Value)) = f0)
  (hbind : ∀ s : Shared, s.heap = h -> BindsTo s (fdOf o) args binds)
  (y : ∀ h₁ L (os : Nat -> Obj), Led G L h₁ f0 ((cs.zipIdx.map fun p=>(L + (p.2 + 1), cel (os p.2) p.1.2)) ++ l) -> Room (A.deeper (callEnvC (fdOf o) L N)) k -> L = h.objs.size ->
   W c (A.deeper (callEnvC (fdOf o) L N)) (execs body (callEnvC (fdOf o) L N)) (fun fl h' g'=>Q (retOf fl) h' g') h₁ g)
  (ho : (KM c.w.params).lookup N = some o:=by kernel_rfl) (hd : o.data = .func (fdOf o):=by kernel_rfl) (hcd : codeIn (KM c.w.params) (fdOf o).code (fdOf o).qualname = true:=by kernel_rfl) (hb : (fdOf o).body = .stmts body:=by kernel_rfl)
  (hcl : (fdOf o).closure = []:=by kernel_rfl)
  (hlb : (binds.filter fun p=>decide ((fdOf o).scope.names.lookup p.1 = some .local)) = lb:=by kernel_rfl)
  (hkd : ∀ n, (binds.all fun x=>(fdOf o).scope.names.lookup x.1 == some .local || ((fdOf o).scope.names.lookup x.1 == some .cell && ((cellsFrom n (fdOf o).scope.names []).lookup x.1).isSome)) = true:=by intro _; kernel_rfl)
  (hcs : ∀ n, (cellsFrom (n + 1) (fdOf o).scope.names []).reverse = cellsAt n 1 cs:=by intro _; kernel_rfl)
  (hcn : namesOk (cs.map (·.1)) = true:=by kernel_rfl)
  (hcv : (cs.map fun p=>bindC (fun x=>(fdOf o).scope.names.lookup x) binds (fun _=>none) p.1) = cs.map (·.2):=by kernel_rfl)
  (hnm : namesOk (f0.map (·.1)) = true:=by kernel_rfl) 
  (hsc : ((fdOf o).scope.isCoroutine, (fdOf o).scope.isGenerator, (fdOf o).scope.kind) = (false, false, ScopeKind.function):=by kernel_rfl) : WC c A (.call (.ref N) args) Q h g:=by
 intro tk
 have Xh:=X.keeps S
 have e1 : (fdOf o).scope.isCoroutine = false:=congrArg (·.1) hsc
 have e2 : (fdOf o).scope.isGenerator = false:=congrArg (·.2.1) hsc
 have e3 : (fdOf o).scope.kind = .function:=congrArg (·.2.2) hsc
 refine codeAny_call_function (by have:=r.depth; lia) (Xh _ _ ho) hd e1 e2 hb (codeRec_of Xh hcd) (hbind _ rfl _ _ _ _ ?_)
 rw [hcl]
 refine wpAny_newFunctionEnv_cells e3 (fun x hx=>?_) fun env' he s' x=>?_
 ·have:=List.all_eq_true.mp (hkd (h.objs.size + 1)) x hx
  simp only [Bool.or_eq_true, Bool.and_eq_true, beq_iff_eq] at this
  exact this
 subst he
 refine ⟨(top_lim Xh).keeps x.toInCall.keep, codeAny_func ?_⟩
 refine xe2a x.done fun h₁ tk' e32 _=>?_; obtain rfl:=e32
 have hk₁ : ∀ b ob, h.get? b = some ob -> h₁.get? b = some ob:=x.toInCall.keep
 have hns:=x.toInCall.ns
 have cell:=x.cell
 dsimp only at hns cell
 have look : ∀ (i : Nat) (p : Str × Option Value), cs[i]? = some p -> (cellsFrom (h.objs.size + 1) (fdOf o).scope.names []).lookup p.1 = some (h.objs.size + (i + 1)):=fun i p e=>by
  refine lookup_of_mem_nodup ?_ ?_
  ·rw [<- List.reverse_reverse (cellsFrom _ _ _), hcs, List.map_reverse, cellsAt_keys]
   exact (List.reverse_perm _).nodup_iff.mpr (namesOk_nodup _ hcn)
  ·rw [<- List.reverse_reverse (cellsFrom _ _ _), hcs]
   have:=cellsAt_mem h.objs.size cs 1 i p e
   rw [Nat.add_comm 1 i] at this
   exact List.mem_reverse.mpr this
 have val : ∀ (i : Nat) (p : Str × Option Value), cs[i]? = some p -> bindC (fun x=>(fdOf o).scope.names.lookup x) binds (fun _=>none) p.1 = p.2:=fun i p e=>by
  have:=congrArg (fun z : List (Option Value)=>z[i]?) hcv
  simp only [List.getElem?_map, e, Option.map_some] at this
  exact Option.some.inj this
 let os : Nat -> Obj:=fun i=>(h₁.get? (h.objs.size + (i + 1))).getD default
 have D : Led G h.objs.size h₁ f0 ((cs.zipIdx.map fun p=>(h.objs.size + (p.2 + 1), cel (os p.2) p.1.2)) ++ l):=by
  refine ⟨?_, S.trans hk₁, S.none (fresh_size h), fun p hp=>?_, ?_, hnm⟩
  ·have e : bindL (newEnv (fdOf o).scope h.objs.size (fdOf o).globals (cellsFrom (h.objs.size + 1) (fdOf o).scope.names []) ((fdOf o).qualname ++ ".<locals>.") (some N) (fdOf o).code none (fdOf o).builtins).kindOf binds (fun _=>none) = fm f0:=by
    have:=bindL_fm (fun x=>(fdOf o).scope.names.lookup x) binds []
    rw [hlb] at this
    rw [<- hf]
    refine Eq.trans this (funext fun y=>?_)
    rw [apN]; exact (fm_rest _ _ _).symm
   exact e ▸ hns
  ·rcases List.mem_append.mp hp with hp | hp
   ·refine xea (lmm hp) fun q hq e42=>?_; obtain rfl:=e42
    obtain ⟨p, i⟩:=q
    have e:=List.mem_zipIdx_iff_getElem?.mp hq
    obtain ⟨ob, eo, ed⟩:=cell p.1 _ (look i p e)
    have ev : ob.data = .cell p.2:=ed.trans (congrArg Data.cell (val i p e))
    have eos : os i = ob:=by show (h₁.get? _).getD default = _; rw [eo]; rfl
    refine ⟨?_, Nat.ne_of_gt (Nat.lt_add_of_pos_right (Nat.succ_pos i)), S.none (fresh_ge (Nat.le_add_right _ _))⟩
    show h₁.get? (h.objs.size + (i + 1)) = some (cel (os i) p.2)
    rw [eos, <- cel_of ev]; exact eo
   ·exact ⟨hk₁ _ _ (O.at_ p hp).1, Nat.ne_of_lt (Heap.lt_size (O.at_ p hp).1), (O.at_ p hp).2⟩
  ·rw [List.map_append, zip_addr]
   refine List.nodup_append.mpr ⟨?_, O.nd, fun a ha b hb e=>?_⟩
   ·refine List.pairwise_map.mpr (List.Pairwise.imp ?_ List.nodup_range)
    intro a b nab e; exact nab (Nat.succ.inj (Nat.add_left_cancel e))
   ·refine xea (lmm ha) fun i _ e72=>?_; obtain rfl:=e72
    refine xea (lmm hb) fun p hp e82=>?_; obtain rfl:=e82
    have:=Heap.lt_size (O.at_ p hp).1
    rw [<- e] at this
    exact absurd this (Nat.not_lt.mpr (Nat.le_add_right _ _))
 refine wM ((y h₁ _ os D r.deeper rfl) tk') (fun fl s' z=>?_) fun _ _ z=>z.elim
 refine ⟨_, rfl, z.1, z.2.1, ?_⟩
 cases fl <;> exact z.2.2
end
theorem depth_ints (ns : List Int) : PyData.depthAll (ns.map PyData.int) = 0:=by
 induction ns with
 | nil=>rfl
 | cons n ns ih=>show max 0 (PyData.depthAll (ns.map PyData.int)) = 0; rw [ih]; rfl
theorem lay_ints (ns : List Int) : PyData.canLayAll0 (ns.map PyData.int) = true:=by
 induction ns with
 | nil=>rfl
 | cons n ns ih=>exact ih
theorem Is.reads {h : Heap} {vs : List Value} {ns : List Int} (hi : Is vs ns) : ∃ as, ReadsAll h vs (ns.map PyData.int) as:=by
 induction ns generalizing vs with
 | nil=>obtain rfl:=List.length_eq_zero_iff.mp hi.1; exact ⟨_, .nil⟩
 | cons n ns ih =>
  cases vs with
  | nil=>exact absurd hi.1 (by simp)
  | cons v vs =>
   obtain ⟨⟨t, rfl⟩, hi2⟩:=hi.un
   refine xe (ih hi2) fun as r=>?_
   exact ⟨_, .cons (.int n t) r⟩
theorem eqv_ints : ∀ ns ms : List Int, PyData.eqvAll (ns.map PyData.int) (ms.map PyData.int) = decide (ns = ms)
 | [], []=>rfl
 | [], m :: ms=>rfl
 | n :: ns, []=>rfl
 | n :: ns, m :: ms=>by
  show (n == m && PyData.eqvAll (ns.map PyData.int) (ms.map PyData.int)) = _
  rw [eqv_ints ns ms, Bool.eq_iff_iff]; simp
section
variable {c : Cx} {A : Around} {G h : Heap} {g : Gs} {env : Env} {L : Addr} {f : Fm} {l : List (Addr × Obj)}
theorem W.nel {a b : Addr} {vs ws : List Value} {n m : Nat} {ns ms : List Int} {Q : PV} (e1 : h.get? a = some (lst vs n)) (e2 : h.get? b = some (lst ws m)) (hi : Is vs ns) (hj : Is ws ms) (hu : A.units + 1 < cLine)
  (y : Q (.bool (!decide (ns = ms))) h g) : W c A (compareOp .NotEq (.ref a) (.ref b)) Q h g:=fun tk=>by
 refine xe (hi.reads (h:=h)) fun as ra=>?_
 refine xe (hj.reads (h:=h)) fun bs rb=>?_
 refine SeqAt.compareNe_reads (da:=.list (ns.map .int)) (db:=.list (ms.map .int)) (.list e1 rfl rfl ra) (.list e2 rfl rfl rb) (lay_ints ns) (lay_ints ms) ?_ ⟨rfl, rfl, ?_⟩
 ·show A.units + min (PyData.depthAll (ns.map .int) + 1) (PyData.depthAll (ms.map .int) + 1) < cLine
  rw [depth_ints, depth_ints]; exact hu
 ·show Q (.bool (!PyData.eqvAll (ns.map .int) (ms.map .int))) h g
  rw [eqv_ints]; exact y
theorem Led.freeze {a : Addr} {o : Obj} {l1 l2 : List (Addr × Obj)} (D : Led G L h f (l1 ++ (a, o) :: l2)) : ∃ G2, Sub G G2 /\ G2.get? a = some o /\ Led G2 L h f (l1 ++ l2):=by
 have nd:=D.nd
 rw [List.map_append, mpC] at nd
 refine xa2 (List.nodup_append.mp nd) fun _ n2 n3=>?_
 have P:=D.nw (a, o) (List.mem_append_right _ (.head _))
 have D2:=D.drop (l':=l1 ++ l2) (List.Sublist.append_left (List.sublist_cons_self _ _) _)
 refine xa2 D2.rebase fun R SR KR=>?_
 refine ⟨_, SR, KR _ _ P.1 P.2.1 fun q=>?_, R⟩
 rw [List.map_append] at q
 rcases List.mem_append.mp q with q | q
 ·exact n3 _ q _ (.head _) rfl
 ·exact (List.nodup_cons.mp n2).1 q
theorem W.compAt {elt : Expr} {x : Str} {ifs : List Expr} {ce : Addr -> Env} {a : Addr} {vs : List Value} {m : Nat} {K : Addr -> List Value -> List (Addr × Obj) -> Heap -> Gs -> Prop} (hh : A.handled = none) (D : Led G L h f l) (ea : h.get? a = some (lst vs m)) (nL : a ≠ L) (nl : a ∉ l.map (·.1)) (hz : vs.length <= sizeLine)
  (inv : Nat -> List Value -> List (Addr × Obj) -> Gs -> Prop) (i0 : inv 0 [] l g)
  (turn : ∀ i v ys G' C h l g, vs[i]? = some v -> Sub G G' -> inv i ys l g -> ys.length <= i -> Led G' C h [(x, some v)] l ->
   W c A (tests ifs (ce C)) (fun b h1 g1=>if b = true then W c A (eval elt (ce C)) (fun y h2 g2=>∃ l', Led G' C h2 [(x, some v)] l' /\ inv (i + 1) (ys ++ [y]) l' g2) h1 g1 else ∃ l', Led G' C h1 [(x, some v)] l' /\ inv (i + 1) ys l' g1) h g)
  (fin : ∀ D h' ys l' g', inv vs.length ys l' g' -> ys.length <= vs.length -> (∃ m, Led G L h' f ((D, lst ys m) :: l')) -> K D ys l' h' g') :
  W c A (pyIter (.ref a)) (fun it h2 g2=>CompOK c A elt x ifs ce G L f K it h2 g2) h g:=fun tk=>by
 have N:=D.ne (a:=0)
 have na : a ≠ h.objs.size:=Nat.ne_of_lt (Heap.lt_size ea)
 refine wpAny_pyIter_list (isList_lst ea) ⟨rfl, rfl, ?_⟩
 have D1:=D.grow (h':=h.push { cls:=.type "list_iterator", data:=.fields #[.ref a, .int 0 0] }) fun _ _ e=>hpo _ e
 refine ⟨_, _, _, _, _, _, l, rfl, Walks.list hh h.objs.size a na vs.toArray, by simpa using hz, ⟨⟨_, Heap.get?_push_size _ rfl, rfl, rfl⟩, isList_lst (hpo _ ea)⟩, D1, (fun i h st b hb=>?_), (fun b hb=>?_), (fun b hb=>by rw [lms hb]; exact N.2.2), inv, i0, (fun i v ys G' C h l g hi hP S hv hy D=>turn i v ys G' C h l g (by simpa using hP) S hv hy D), by simpa using fin⟩
 ·rcases lmc hb with rfl | hb
  ·obtain ⟨o, e, _⟩:=st.1; exact ⟨o, e⟩
  ·obtain rfl:=lms hb; obtain ⟨o, e, _⟩:=st.2; exact ⟨o, e⟩
 ·rcases lmc hb with rfl | hb
  ·exact ⟨N.1, N.2.1⟩
  ·obtain rfl:=lms hb; exact ⟨nL, nl⟩
theorem W.compList {elt : Expr} {x : Str} {ifs : List Expr} {ce : Addr -> Env} {a : Addr} {vs : List Value} {m : Nat} {K : Addr -> List Value -> List (Addr × Obj) -> Heap -> Gs -> Prop} (hh : A.handled = none) (D : Led G L h f l) (e : G.get? a = some (lst vs m)) (hz : vs.length <= sizeLine)
  (inv : Nat -> List Value -> List (Addr × Obj) -> Gs -> Prop) (i0 : inv 0 [] l g)
  (turn : ∀ i v ys G' C h l g, vs[i]? = some v -> Sub G G' -> inv i ys l g -> ys.length <= i -> Led G' C h [(x, some v)] l ->
   W c A (tests ifs (ce C)) (fun b h1 g1=>if b = true then W c A (eval elt (ce C)) (fun y h2 g2=>∃ l', Led G' C h2 [(x, some v)] l' /\ inv (i + 1) (ys ++ [y]) l' g2) h1 g1 else ∃ l', Led G' C h1 [(x, some v)] l' /\ inv (i + 1) ys l' g1) h g)
  (fin : ∀ D h' ys l' g', inv vs.length ys l' g' -> ys.length <= vs.length -> (∃ m, Led G L h' f ((D, lst ys m) :: l')) -> K D ys l' h' g') :
  W c A (pyIter (.ref a)) (fun it h2 g2=>CompOK c A elt x ifs ce G L f K it h2 g2) h g:=by
 refine W.compAt hh D (D.sub _ _ e) (fun z=>?_) (fun q=>?_) hz inv i0 turn fin
 ·have:=D.lo; rw [<- z, e] at this; cases this
 ·refine xea (lmm q) fun p hp z=>?_
  have:=(D.nw p hp).2.2; rw [z, e] at this; cases this
theorem W.compStr {elt : Expr} {x : Str} {ifs : List Expr} {ce : Addr -> Env} {s : List Nat} {t : Tok} {K : Addr -> List Value -> List (Addr × Obj) -> Heap -> Gs -> Prop} (hh : A.handled = none) (D : Led G L h f l) (hz : s.length <= sizeLine)
  (inv : Nat -> List Value -> List (Addr × Obj) -> Gs -> Prop) (i0 : inv 0 [] l g)
  (turn : ∀ i ch t ys G' C h l g, s[i]? = some ch -> Sub G G' -> inv i ys l g -> ys.length <= i -> Led G' C h [(x, some (.str (T [ch]) t))] l ->
   W c A (tests ifs (ce C)) (fun b h1 g1=>if b = true then W c A (eval elt (ce C)) (fun y h2 g2=>∃ l', Led G' C h2 [(x, some (.str (T [ch]) t))] l' /\ inv (i + 1) (ys ++ [y]) l' g2) h1 g1 else ∃ l', Led G' C h1 [(x, some (.str (T [ch]) t))] l' /\ inv (i + 1) ys l' g1) h g)
  (fin : ∀ D h' ys l' g', inv s.length ys l' g' -> ys.length <= s.length -> (∃ m, Led G L h' f ((D, lst ys m) :: l')) -> K D ys l' h' g') :
  W c A (pyIter (.str (T s) t)) (fun it h2 g2=>CompOK c A elt x ifs ce G L f K it h2 g2) h g:=fun tk=>by
 have N:=D.ne (a:=0)
 have el : (T s).cps.size = s.length:=T_length s
 have go : ∀ (o : Obj) (ty : String), (∀ I, Walks PW c.w A I [I] [I] (T s).cps.size (SignAt (T s)) (fun i h=>h.IsStrIter I ty (T s) t i)) -> (h.push o).IsStrIter h.objs.size ty (T s) t 0 ->
   CompOK c A elt x ifs ce G L f K (.ref h.objs.size) (h.push o) g:=fun o ty Wk st=>by
  have D1:=D.grow (h':=h.push o) fun _ _ e=>hpo _ e
  refine ⟨_, _, _, _, _, _, l, rfl, Wk _, by rw [el]; exact hz, st, D1, (fun i h st b hb=>by obtain rfl:=lms hb; obtain ⟨o, e, _⟩:=st; exact ⟨o, e⟩), (fun b hb=>by rw [lms hb]; exact ⟨N.1, N.2.1⟩), (fun b hb=>by rw [lms hb]; exact N.2.2), inv, i0, (fun i v ys G' C h l g hi hP S hv hy D=>?_), el ▸ fin⟩
  obtain ⟨ch, u, e1, rfl⟩:=hP
  rw [T_get] at e1
  exact turn i ch u ys G' C h l g e1 S hv hy D
 cases ha : (T s).cps.all (· < 128)
 ·exact wpAny_pyIter_wide ha ⟨rfl, rfl, go _ _ (fun I=>Walks.strWide hh I (T s) t) ⟨_, Heap.get?_push_size _ rfl, rfl, rfl⟩⟩
 ·exact wpAny_pyIter_ascii ha ⟨rfl, rfl, go _ _ (fun I=>Walks.strAscii hh I (T s) t) ⟨_, Heap.get?_push_size _ rfl, rfl, rfl⟩⟩
end
theorem W.testL {c : Cx} {A : Around} {G h : Heap} {g : Gs} {L : Addr} {f : Fm} {l : List (Addr × Obj)} {m : Sem Bool} {Y N : PH} (P : Prop) [Decidable P] (D : Led G L h f l)
  (y : W c A m (fun b h1 g1=>b = decide P /\ g1 = g /\ Led G L h1 f l) h g)
  (yes : ∀ h1, P -> Led G L h1 f l -> Y h1 g) (no : ∀ h1, ¬ P -> Led G L h1 f l -> N h1 g) : W c A m (fun b h1 g1=>if b = true then Y h1 g1 else N h1 g1) h g :=
 y.mono fun b h1 g1 z=>by
  obtain ⟨rfl, rfl, z⟩:=z
  exact ifSplit (fun e=>yes _ (of_decide_eq_true e) z) (fun e=>no _ (of_decide_eq_false e) z)
noncomputable def notLC (e : Expr) : Bool:=!(Nat.beq e.ctorIdx 8)
section
variable {c : Cx} {A : Around} {G h : Heap} {g : Gs} {env : Env} {L : Addr} {f : Fm} {l : List (Addr × Obj)}
theorem W.assignN {x : Str} {p1 pos : Pos} {e : Expr} {Q : PF} (hn : notLC e = true) (y : W c A (eval e env) (fun v h1 g1=>W c A (storeName env x v) (fun _=>Q .next) h1 g1) h g)
  (hs : swapsWith e (some (.Name x p1)) pos.line env = Pure.pure false:=by kernel_rfl) : W c A (exec (.Assign [.Name x p1] e pos) env) Q h g:=W.assign y hs
theorem W.rdA {a : Addr} {x : Str} {pos : Pos} {o : Obj} {v : Value} {Q : PV} (D : Led G L h f l) (hm : (a, cel o (some v)) ∈ l) (y : Q v h g)
  (hc : env.cells.lookup x = some a:=by kernel_rfl) (hk : env.scope.kind = .function:=by kernel_rfl) (hl : env.kindOf x = some .cell:=by kernel_rfl) (hd : (x == ("__debug__" : Str)) = false:=by kernel_rfl) :
  W c A (eval (.Name x pos) env) Q h g:=fun tk =>
 wpAny_Name (wpAny_loadName_cell hk hl hc ⟨_, D.get hm, rfl⟩ ⟨rfl, rfl, y⟩) hd
theorem W.lcD {elt iter : Expr} {x : Str} {px : Pos} {ifs : List Expr} {scope : Scope} (D : Led G L h f l) (cl : List (Str × Addr)) {pos : Pos} {Q : PV}
  (y : W c A (eval iter env) (fun v h1 g1=>W c A (pyIter v) (fun it h2 g2=>CompOK c A elt x ifs (fun C=>compEnvC scope cl C env) G L f (fun D ys l' h' g'=>Q (.ref D) h' g') it h2 g2) h1 g1) h g)
  (hclos : closureFor scope env = Pure.pure cl:=by kernel_rfl) (h1 : (scope.names.all fun x=>x.2 != .cell) = true:=by kernel_rfl) (h2 : scope.kind = .function:=by kernel_rfl)
  (h3 : (scope.names.all fun x=>x.2 != .local || scope.names.lookup x.1 == some .local) = true:=by kernel_rfl) (h4 : scope.names.lookup x = some .local:=by kernel_rfl)
  (hs : ∀ x, foldedSetIterable iter env x = Pure.pure x:=by intro _; kernel_rfl) : W c A (eval (.ListComp elt [⟨.Name x px, iter, ifs, 0⟩] scope pos) env) Q h g:=W.lc cl y hclos h1 h2 h3 h4 hs
theorem W.lcAssignD {elt iter : Expr} {x y : Str} {px py : Pos} {ifs : List Expr} {scope : Scope} (D : Led G L h f l) (cl : List (Str × Addr)) {pos spos : Pos} {Q : PF} (f' : Addr -> Fm) (hput : ∀ D, Put f y (.ref D) (f' D))
  (z : W c A (eval iter env) (fun v h1 g1=>W c A (pyIter v) (fun it h2 g2=>CompOK c A elt x ifs (fun C=>compEnvC scope cl C env) G L f (fun D ys l' _ g'=>∀ m h'', Led G L h'' (f' D) ((D, lst ys m) :: l') -> Q .next h'' g') it h2 g2) h1 g1) h g)
  (hL : L = env.locals:=by kernel_rfl)
  (hsw : swapsWith (.ListComp elt [⟨.Name x px, iter, ifs, 0⟩] scope pos) (some (.Name y py)) spos.line env = Pure.pure true:=by kernel_rfl)
  (hclos : closureFor scope env = Pure.pure cl:=by kernel_rfl) (h1 : (scope.names.all fun x=>x.2 != .cell) = true:=by kernel_rfl) (h2 : scope.kind = .function:=by kernel_rfl)
  (h3 : (scope.names.all fun x=>x.2 != .local || scope.names.lookup x.1 == some .local) = true:=by kernel_rfl) (h4 : scope.names.lookup x = some .local:=by kernel_rfl)
  (hy : env.kindOf y = some .local:=by kernel_rfl) (hp : (env.scope.kind == .class || (env.scope.kind == .module && env.locals != env.globals)) = false:=by kernel_rfl)
  (hs : ∀ x, foldedSetIterable iter env x = Pure.pure x:=by intro _; kernel_rfl) : W c A (exec (.Assign [.Name y py] (.ListComp elt [⟨.Name x px, iter, ifs, 0⟩] scope pos) spos) env) Q h g :=
 W.lcAssign cl f' hput z hL hsw hclos h1 h2 h3 h4 hy hp hs
end
section
variable {c : Cx} {A : Around} {G h : Heap} {g : Gs} {env : Env} {L : Addr} {f : Fm} {l : List (Addr × Obj)}
theorem WF.pairsH {x y : Str} {px py pt : Pos} {x1 : Nat} {body orelse : List Stmt} {Q : PF} {I : Addr} {fp wr : List Addr} {n : Nat} {Pt : Nat -> Array Value -> Prop} {St : Nat -> Heap -> Prop} {Mid : Nat -> Addr -> Heap -> Prop} (hh : A.handled = none)
  (Wk : WalksT PW c.w A I fp wr n Pt St Mid) (P2 : Nat -> Value -> Value -> Prop) (h2 : ∀ i vals, Pt i vals -> ∃ v0 v1, vals = #[v0, v1] /\ P2 i v0 v1) (D : Led G L h f l)
  (s0 : St 0 h) (hfp : ∀ i h, St i h -> ∀ b ∈ fp, ∃ o, h.get? b = some o) (hfo : ∀ b ∈ fp, b ≠ L /\ b ∉ l.map (·.1)) (hwr : ∀ b ∈ wr, G.get? b = none)
  (inv : Nat -> Fm -> List (Addr × Obj) -> Gs -> Prop) (i0 : inv 0 f l g) (K : Nat -> List (Addr × Obj) -> Heap -> Prop) (k0 : K 0 l h) (kmv : ∀ i l h h', K i l h -> (∀ b o, b ∉ wr -> h.get? b = some o -> h'.get? b = some o) -> K i l h')
  (turn : ∀ i v0 v1 G' h f l g, i < n -> P2 i v0 v1 -> Sub G G' -> inv i f l g -> Led G' L h f l -> K i l h -> (∀ b o, h.get? b = some o -> b ≠ L -> b ∉ l.map (·.1) -> G'.get? b = some o) -> (∀ b ∈ fp, ∃ o, G'.get? b = some o) ->
   W c A (storeName env x v0) (fun _ h1 g1=>W c A (storeName env y v1) (fun _ h2 g2=>W c A (execs body env) (fun fl h3 g3=>match fl with
   | .next | .cont=>∃ f' l', Led G' L h3 f' l' /\ inv (i + 1) f' l' g3 /\ K (i + 1) l' h3
   | .brk=>Q .next h3 g3
   | .ret v=>Q (.ret v) h3 g3) h2 g2) h1 g1) h g)
  (done : ∀ h f l g, inv n f l g -> Led G L h f l -> K n l h -> W c A (execs orelse env) Q h g)
  (he : (assignEach [.Name x px, .Name y py] env).map (·.2) = [PySem.assign (.Name x px) env, PySem.assign (.Name y py) env]:=by kernel_rfl)
  (hn : (assignEach [.Name x px, .Name y py] env).length = 2:=by kernel_rfl) (hstar : (assignEach [.Name x px, .Name y py] env).findIdx? (·.1) = none:=by kernel_rfl) :
  WF c A (.forLoop (.Tuple [.Name x px, .Name y py] x1 pt) (.ref I) body orelse env) Q h g:=fun tk=>by
 have move : ∀ (h h' : Heap) f l, Led G L h f l -> (∀ b ∈ fp, b ∉ l.map (·.1)) -> (∀ b o, b ∉ wr -> h.get? b = some o -> h'.get? b = some o) -> Led G L h' f l:=fun h h' f l D nl hk =>
  D.but (wr:=wr) hk (fun m=>(hfo _ (Wk.sub _ m)).1 rfl) (fun p hp m=>nl _ (Wk.sub _ m) (List.mem_map_of_mem hp)) hwr
 refine codeAny_forLoop_any (fun k s=>s.drawn = c.d /\ s.os = c.os /\ ∃ i f l, i <= n /\ k = n - i /\ Led G L s.heap f l /\ inv i f l s.gens /\ K i l s.heap /\ (∀ b ∈ fp, b ∉ l.map (·.1)) /\ St i s.heap) (fun k s hI=>?_) n ⟨rfl, rfl, 0, f, l, Nat.zero_le _, rfl, D, i0, k0, fun b hb=>(hfo b hb).2, s0⟩
 refine xa2e3a6 hI fun e1 e2 i f l hi e06 D hv kv n1 hst=>?_; obtain rfl:=e06
 by_cases hlt : i < n
 ·refine Wk.item i _ _ _ hlt hst fun Tt vals h₁ tk₁ hPt _ hT hMid hk₁=>?_
  refine xe2a (h2 i vals hPt) fun v0 v1 e12 hP2=>?_; obtain rfl:=e12
  refine Wk.go _ x1 pt i Tt _ _ _ hMid fun h₂ hst₂ hk₂=>?_
  have ht₂ : h₂.IsTuple Tt #[v0, v1]:=hT.at fun o e=>hk₂ Tt o (Wk.apart i Tt h₁ hMid) e
  refine wpAny_assign_Tuple hh ht₂ hn hstar fun h₃ hx₃=>?_
  replace hx₃ : Heap.ExtBut h₂.objs.size h₂ h₃:=hx₃
  have up₃ : ∀ b o, h₂.get? b = some o -> h₃.get? b = some o:=fun b o x=>hx₃ b o (Nat.ne_of_lt (Heap.lt_size x)) x
  have D' : Led G L h₃ f l:=move s.heap h₃ f l D n1 fun b o hb x=>up₃ b o (hk₂ b o hb (hk₁ b o hb x))
  have hst₃ : St (i + 1) h₃:=Wk.frame _ _ _ hst₂ fun b _ o e=>up₃ b o e
  refine xa2 D'.rebase fun R SR KR=>?_
  have kv' : K i l h₃:=kmv _ _ _ _ kv fun b o hb x=>up₃ b o (hk₂ b o hb (hk₁ b o hb x))
  have yy:=turn i v0 v1 _ h₃ f l s.gens hlt hP2 SR hv R kv' KR (fun b hb=>let ⟨o, e⟩:=hfp _ _ hst₃ b hb; ⟨o, KR b o e (hfo b hb).1 (n1 b hb)⟩)
  rw [he]
  show wpAny _ A (do PySem.holding [v1] (PySem.assign (.Name x px) env v0); do PySem.holding [] (PySem.assign (.Name y py) env v1); Pure.pure ()) _ _ _
  refine wB (wpAny_holding (wM ((W.assignName yy).at (s:=⟨h₃, s.gens, s.drawn, tk₁, s.os⟩) (E:=fun _ _=>False) e1 e2) (fun _ s₂ z=>?_) fun _ _ z=>z.elim))
  refine wB (wpAny_holding (wM ((W.assignName z.2.2).at (E:=fun _ _=>False) z.1 z.2.1) (fun _ s₃ z=>wP ?_) fun _ _ z=>z.elim))
  refine wM (z.2.2.at (E:=fun _ _=>False) z.1 z.2.1) (fun fl s₄ w=>?_) fun _ _ z=>z.elim
  refine xa2 w fun w1 w2 w3=>?_
  have fin : (∃ f' l', Led (hideAll h₃ (L :: l.map (·.1))) L s₄.heap f' l' /\ inv (i + 1) f' l' s₄.gens /\ K (i + 1) l' s₄.heap) -> ∃ m, m < n - i /\ s₄.drawn = c.d /\ s₄.os = c.os /\ ∃ i f l, i <= n /\ m = n - i /\ Led G L s₄.heap f l /\ inv i f l s₄.gens /\ K i l s₄.heap /\ (∀ b ∈ fp, b ∉ l.map (·.1)) /\ St i s₄.heap:=by
   intro z4r0; refine xe2a2 z4r0 fun f' l' D3 v3 k3=>?_
   have kk : ∀ b ∈ fp, ∀ o, h₃.get? b = some o -> (hideAll h₃ (L :: l.map (·.1))).get? b = some o:=fun b hb o e=>KR b o e (hfo b hb).1 (n1 b hb)
   refine ⟨n - (i + 1), Nat.sub_succ_lt_self _ _ hlt, w1, w2, i + 1, f', l', hlt, rfl, D3.base SR, v3, k3, fun b hb m=>?_, Wk.frame _ _ _ hst₃ fun b hb o e=>D3.sub _ _ (kk b hb o e)⟩
   refine xea (lmm m) fun p hp e52=>?_; obtain rfl:=e52
   refine xe (hfp _ _ hst₃ _ hb) fun o e=>?_
   have:=(D3.nw p hp).2.2; rw [kk _ hb _ e] at this; cases this
  cases fl with
  | next=>exact fin w3
  | cont=>exact fin w3
  | brk=>exact ⟨_, rfl, w1, w2, w3⟩
  | ret v=>exact ⟨_, rfl, w1, w2, w3⟩
 ·obtain rfl : i = n:=by lia
  refine Wk.done _ _ _ hst fun h' tk' hk=>?_
  exact wM ((done h' f l s.gens hv (move s.heap h' f l D n1 hk) (kmv _ _ _ _ kv hk)).at (s:={ s with heap:=h', toks:=tk' }) (E:=fun _ _=>False) e1 e2) (fun fl s₃ y=>⟨_, rfl, y⟩) fun _ _ z=>z.elim
theorem zipApart (s a b : Nat) (h1 : a < s) (h2 : b < s) : ZipApart (s + 4) (s + 2) (s + 3) s (s + 1) a b:=by
 constructor <;> exact fun e=>absurd (show (_ : Nat) = _ from e) (by lia)
noncomputable def ZipAt (G : Heap) (L : Addr) (l : List (Addr × Obj)) (h : Heap) (z a b : Addr) (vs ws : List Value) : Prop :=
 ∃ TI TO i1 i2, ZipApart z TI TO i1 i2 a b /\ IsZip h z TI TO .none /\ IsPair h TI (.ref i1) (.ref i2) /\ IsPair h TO .none .none /\ h.IsListIter i1 a 0 /\ h.IsListIter i2 b 0 /\ ∀ q ∈ [z, TI, TO, i1, i2], q ≠ L /\ q ∉ l.map (·.1) /\ G.get? q = none
theorem W.zip2 {a b : Addr} {vs ws : List Value} {n m : Nat} {Q : PV} (D : Led G L h f l) (ea : G.get? a = some (lst vs n)) (eb : G.get? b = some (lst ws m))
  (y : ∀ h' z, Led G L h' f l -> ZipAt G L l h' z a b vs ws -> Q (.ref z) h' g) : W c A (call (.type "zip") [.ref a, .ref b]) Q h g:=fun tk=>by
 have la:=Heap.lt_size (D.sub _ _ ea)
 have lb:=Heap.lt_size (D.sub _ _ eb)
 refine call_zip_2 (isList_lst (D.sub _ _ ea)) (isList_lst (D.sub _ _ eb)) fun h' z1 z2 z3 z4 z5 _ hk=>⟨rfl, rfl, y _ _ (D.grow hk) ⟨_, _, _, _, ?_, z1, z2, z3, z4, z5, fun q hq=>?_⟩⟩
 ·exact zipApart _ _ _ la lb
 ·have ge : h.objs.size <= q:=by
   simp only [List.mem_cons, List.not_mem_nil, or_false] at hq
   rcases hq with rfl | rfl | rfl | rfl | rfl <;> first | exact Nat.le_refl _ | exact Nat.le_add_right _ _
  exact ⟨Nat.ne_of_gt (lLt D.ns.lt ge), fun mm=>by
   refine xea (lmm mm) fun p hp e=>?_
   exact absurd (e ▸ D.lt hp) (Nat.not_lt.mpr ge), D.sub.none (fresh_ge ge)⟩
theorem W.forZip {x y : Str} {px py pt : Pos} {x1 : Nat} {body orelse : List Stmt} {Q : PF} {z a b : Addr} {vs ws : List Value} {n m : Nat} (hh : A.handled = none) (D : Led G L h f l) (ea : G.get? a = some (lst vs n)) (eb : G.get? b = some (lst ws m)) (hz : ZipAt G L l h z a b vs ws)
  (inv : Nat -> Fm -> List (Addr × Obj) -> Gs -> Prop) (i0 : inv 0 f l g)
  (turn : ∀ i v0 v1 G' h f l g, vs[i]? = some v0 -> ws[i]? = some v1 -> Sub G G' -> inv i f l g -> Led G' L h f l ->
   W c A (storeName env x v0) (fun _ h1 g1=>W c A (storeName env y v1) (fun _ h2 g2=>W c A (execs body env) (fun fl h3 g3=>match fl with
   | .next | .cont=>∃ f' l', Led G' L h3 f' l' /\ inv (i + 1) f' l' g3 /\ True
   | .brk=>Q .next h3 g3
   | .ret v=>Q (.ret v) h3 g3) h2 g2) h1 g1) h g)
  (done : ∀ h f l g, inv (min vs.length ws.length) f l g -> Led G L h f l -> W c A (execs orelse env) Q h g)
  (he : (assignEach [.Name x px, .Name y py] env).map (·.2) = [PySem.assign (.Name x px) env, PySem.assign (.Name y py) env]:=by kernel_rfl)
  (hn : (assignEach [.Name x px, .Name y py] env).length = 2:=by kernel_rfl) (hstar : (assignEach [.Name x px, .Name y py] env).findIdx? (·.1) = none:=by kernel_rfl) :
  W c A (pyIter (.ref z)) (fun it h2 g2=>WF c A (.forLoop (.Tuple [.Name x px, .Name y py] x1 pt) it body orelse env) Q h2 g2) h g:=fun tk=>by
 obtain ⟨TI, TO, i1, i2, ap, z1, z2, z3, z4, z5, nq⟩:=hz
 refine wpAny_pyIter_zip z1 ⟨rfl, rfl, ?_⟩
 have nin : ∀ q o, G.get? q = some o -> q ≠ L /\ q ∉ l.map (·.1):=by
  intro q o e
  constructor
  ·intro z
   have:=D.lo
   rw [<- z, e] at this; cases this
  ·intro mm
   refine xea (lmm mm) fun p hp z=>?_
   have:=(D.nw p hp).2.2
   rw [z, e] at this; cases this
 refine WF.pairsH hh (WalksT.zip2 hh z TI TO i1 i2 a b ap vs.toArray ws.toArray) (fun i v0 v1=>vs[i]? = some v0 /\ ws[i]? = some v1) (fun i vals ⟨v0, v1, q1, q2, q3⟩=>⟨v0, v1, q3, by simpa using q1, by simpa using q2⟩) D
  ⟨z1, z2, ⟨_, _, z3⟩, z4, z5, isList_lst (D.sub _ _ ea), isList_lst (D.sub _ _ eb)⟩ (fun i h st q hq=>?_) (fun q hq=>?_) (fun q hq=>?_) inv i0 (fun _ _ _=>True) trivial (fun _ _ _ _ _ _=>trivial) (fun i v0 v1 G' h f l g hi hP S hv D _ _ _=>turn i v0 v1 G' h f l g hP.1 hP.2 S hv D) (fun h f l g i D _=>done h f l g (by simpa using i) D) he hn hstar
 ·refine xa6 st fun s1 s2 z102 z103 z104 z105 z106=>?_; refine xe2 z102 fun _ _ s3=>?_; obtain ⟨o4, s4, _⟩:=z103; obtain ⟨o5, s5, _⟩:=z104; obtain ⟨o6, s6, _⟩:=z105; obtain ⟨o7, s7, _⟩:=z106
  simp only [List.mem_cons, List.not_mem_nil, or_false] at hq
  rcases hq with rfl | rfl | rfl | rfl | rfl | rfl | rfl
  ·exact ⟨_, s1⟩
  ·exact ⟨_, s2⟩
  ·exact ⟨_, s3⟩
  ·exact ⟨_, s4⟩
  ·exact ⟨_, s5⟩
  ·exact ⟨_, s6⟩
  ·exact ⟨_, s7⟩
 ·simp only [List.mem_cons, List.not_mem_nil, or_false] at hq
  rcases hq with rfl | rfl | rfl | rfl | rfl | rfl | rfl
  ·exact ⟨(nq _ (by simp)).1, (nq _ (by simp)).2.1⟩
  ·exact ⟨(nq _ (by simp)).1, (nq _ (by simp)).2.1⟩
  ·exact ⟨(nq _ (by simp)).1, (nq _ (by simp)).2.1⟩
  ·exact ⟨(nq _ (by simp)).1, (nq _ (by simp)).2.1⟩
  ·exact ⟨(nq _ (by simp)).1, (nq _ (by simp)).2.1⟩
  ·exact nin _ _ ea
  ·exact nin _ _ eb
 ·simp only [List.mem_cons, List.not_mem_nil, or_false] at hq
  rcases hq with rfl | rfl | rfl | rfl
  ·exact (nq _ (by simp)).2.2
  ·exact (nq _ (by simp)).2.2
  ·exact (nq _ (by simp)).2.2
  ·exact (nq _ (by simp)).2.2
end
section
open PySem.NumText
theorem wp_text16 {M : Model} {A : Around} {E : Value -> Shared -> Prop} {s : Shared} {Q : Value -> Shared -> Prop} {v : Value} {text : List Nat} {n : Int}
  (hs : (text.takeWhile (· != 0)).length <= 640) (hr : (int_private% "readNumeral") 0 16 (text.takeWhile (· != 0)) = (int_private% "Numeral.value") n)
  (ha : ((text.takeWhile (· != 0)).length == text.length) = true) (h : Q (.int n s.toks) { s with toks:=s.toks + 1 }) :
  wpAny M A ((int_private% "intFromText") v text 16) Q E s:=by
 obtain ⟨hp, g, d, tk, os⟩:=s
 repeat (any_goals (first
  | assumption
  | (with_reducible refine wpAny_ite_true (decide_eq_true hs) ?_)
  | (with_reducible refine wpAny_ite_true (decide_eq_true ha) ?_)
  | wp_step))
 all_goals (try rw [hr])
 all_goals (try dsimp only)
 repeat (any_goals (first
  | assumption
  | (with_reducible refine wpAny_ite_true (decide_eq_true hs) ?_)
  | (with_reducible refine wpAny_ite_true (decide_eq_true ha) ?_)
  | wp_step))
set_option maxHeartbeats 4000000 in
theorem gives16 {x : Str} {u v : Tok} {n : Int} (hs : ((numTextOf x).takeWhile (· != 0)).length <= 640) (hr : (int_private% "readNumeral") 0 16 ((numTextOf x).takeWhile (· != 0)) = (int_private% "Numeral.value") n)
  (ha : (((numTextOf x).takeWhile (· != 0)).length == (numTextOf x).length) = true) : Gives (Builtin.«int.__new__» ⟨[.type "int", .str x u, .int 16 v], []⟩) (.int n) :=
 .of_wp fun M A E s Q h=>by
  obtain ⟨hp, g, d, tk, os⟩:=s
  have f1:=F.conv_sub_int
  have f2:=F.madeHere_int
  have f6 : typeOf (.str x u) = pure (.type "str"):=rfl
  have hk:=KIN.Hid.mk (And.intro hs (And.intro hr ha))
  clear hs hr ha
  repeat (any_goals (first
   | assumption
   | ((with_reducible show wpAny _ _ ((int_private% "intFromText") _ _ _) _ _ _); refine wp_text16 hk.out.1 hk.out.2.1 hk.out.2.2 ?_)
   | wp_step))
  all_goals first | exact ⟨_, rfl, h⟩ | skip
theorem typeCall_int2 (a b : Value) : checkTypeCall "int" ⟨[a, b], []⟩ = pure ():=by kernel_rfl
theorem newCall_int2 (a b : Value) : checkBuiltinCall "int.__new__" ⟨[.type "int", a, b], []⟩ = pure ():=by kernel_rfl
noncomputable def hexd (k : Nat) : Nat:=if k < 10 then 48 + k else 55 + k
noncomputable def num16 (k : Nat) : List Nat:=(numTextOf (T [hexd (k / 16), hexd (k % 16)])).takeWhile (· != 0)
theorem read16 (i j : Nat) (hi : i < 16) (hj : j < 16) : (int_private% "readNumeral") 0 16 ((numTextOf (T [hexd i, hexd j])).takeWhile (· != 0)) = (int_private% "Numeral.value") ((16 * i + j : Nat) : Int) /\
  ((numTextOf (T [hexd i, hexd j])).takeWhile (· != 0)).length <= 640 /\ (((numTextOf (T [hexd i, hexd j])).takeWhile (· != 0)).length == (numTextOf (T [hexd i, hexd j])).length) = true:=by
 have e : ((List.range 256).map fun k=>((int_private% "readNumeral") 0 16 (num16 k), Nat.ble (num16 k).length 640, ((num16 k).length == (numTextOf (T [hexd (k / 16), hexd (k % 16)])).length))) = (List.range 256).map fun (k : Nat)=>((int_private% "Numeral.value") (k : Int), true, true):=by kernel_rfl
 have q:=List.map_inj_left.mp e (16 * i + j) (List.mem_range.mpr (by lia))
 unfold num16 at q
 rw [show (16 * i + j) / 16 = i by lia, show (16 * i + j) % 16 = j by lia] at q
 exact ⟨congrArg (·.1) q, Nat.le_of_ble_eq_true (congrArg (·.2.1) q), congrArg (·.2.2) q⟩
theorem W.int16 {c : Cx} {A : Around} {h : Heap} {g : Gs} {i j : Nat} {t u : Tok} {Q : PV} (hi : i < 16) (hj : j < 16) (y : ∀ t, Q (.int ((16 * i + j : Nat) : Int) t) h g) : W c A (call (.type "int") [.str (T [hexd i, hexd j]) t, .int 16 u]) Q h g:=fun tk=>by
 refine xa2 (read16 i j hi hj) fun r1 r2 r3=>?_
 exact callType_new F.called_int F.newNe_int (typeCall_int2 _ _) (newCall_int2 _ _) (fun obj=>F.args_object_init_3 obj _ _) F.entry_int_new (gives16 r2 r1 r3).meets (show (Made.int _).post _ _ from ⟨rfl, rfl, rfl, y _⟩)
end
theorem strsFrom_are (xs : List (List Nat)) : ∀ t, Ss (strsFrom t (xs.map fun x=>T x)) xs:=by
 induction xs with
 | nil=>intro t; exact Ss.nil
 | cons x xs ih=>intro t; exact Ss.cons (ih _)
section
variable {c : Cx} {A : Around} {G h : Heap} {g : Gs} {env : Env} {L : Addr} {f : Fm} {l : List (Addr × Obj)}
theorem W.splitlines {x : List Nat} {ls : List (List Nat)} {t : Tok} {Q : PV} (D : Led G L h f l) (hl : linesOf (T x) = ls.map fun x=>T x) (hz : x.length <= sizeLine) (hz2 : ls.length <= sizeLine)
  (y : ∀ h' a vs, Ss vs ls -> Led G L h' f ((a, lst vs 0) :: l) -> Q (.ref a) h' g) : W c A (call (.builtin "str.splitlines") [.str (T x) t]) Q h g:=fun tk=>by
 have hc : (lineCuts (T x)).length = ls.length:=by
  have:=congrArg List.length hl
  simpa [linesOf] using this
 refine call_meets F.slot_str_splitlines (typeIs_str _ _ _) F.entry_str_splitlines (F.args_str_splitlines_1 _) (meets_str_splitlines (T x) t (by rw [T_length]; exact hz) (by rw [hc]; exact hz2)) ?_
 by_cases he : (lineCuts (T x) == [(0, (T x).length)]) = true
 ·rw [if_pos he]
  have e1 : lineCuts (T x) = [(0, (T x).length)]:=eq_of_beq he
  have e2 : ls.map (fun x=>T x) = [T x]:=by
   rw [<- hl]; unfold linesOf; rw [e1]
   show [(⟨(T x).cps.extract 0 (T x).cps.size⟩ : Str)] = [T x]
   rw [Array.extract_size]
  obtain ⟨z, rfl⟩ : ∃ z, ls = [z]:=by
   cases ls with
   | nil=>cases e2
   | cons z zs=>cases zs with
    | nil=>exact ⟨z, rfl⟩
    | cons _ _=>simp at e2
  have ez : z = x:=by simpa [T_inj] using e2
  subst ez
  exact ⟨rfl, rfl, y _ _ _ (Ss.cons (t:=t) Ss.nil) (D.push (lst [.str (T z) t] 0))⟩
 ·rw [if_neg he]
  refine ⟨rfl, rfl, ?_⟩
  rw [hl]
  exact y _ _ _ (strsFrom_are ls tk) (D.push (lst (strsFrom tk (ls.map fun x=>T x)) 0))
end
theorem wp_lookup {prog : Program} {w : World} {A : Around} {E : Value -> Shared -> Prop} {s : Shared} {a : Addr} {items : Array Value} {n : Nat} {y : Str} {u : Tok} {Q : Builtin.Str.Mapped -> Shared -> Prop} (hl : s.heap.IsList a items) (hx : items[n]? = some (.str y u)) (hn : n < 2 ^ 62)
  (h : Q (.text y) { s with toks:=s.toks + 1 }) : wpAny (model prog w) A (Builtin.Str.tableLookup (.ref a) n) Q E s:=by
 unfold Builtin.Str.tableLookup
 refine wB (wpAny_attempt (wB (wpAny_mkInt ?_)))
 refine wpAny_getItem_list (x:=.str y u) hl (by simp) (by lia) (by simpa using hx) ?_
 repeat (any_goals (first | assumption | wp_step))
inductive trInv (x : Str) (F : Nat -> List Nat) (s : Shared) (rest : List Nat) : List Str × Nat × Bool × List (Nat × Option Nat) × Bool -> Shared -> Prop
 | mk (pieces : List Str) (total : Nat) (fast : Bool) (known : List (Nat × Option Nat)) (tk : Tok) (pre : List Nat) (_ : pre ++ rest = x.cps.toList) (_ : pieces.reverse.flatMap (fun p=>p.cps.toList) = pre.flatMap F) (_ : total = (pre.flatMap F).length) (_ : ∀ c d, List.lookup c known = some d -> ∃ e, d = some e /\ F c = [e]) : trInv x F s rest (pieces, total, fast, known, false) { s with toks:=tk }
theorem foldl_cps (l : List Str) : ∀ b : List Nat, l.foldl (fun acc p=>acc ++ p.cps) b.toArray = (b ++ l.flatMap fun p=>p.cps.toList).toArray:=by
 induction l with
 | nil=>intro b; simp
 | cons p l ih =>
  intro b
  rw [List.foldl_cons, fC, <- apA, <- ih]
  congr 1
  rw [<- List.append_toArray, Array.toArray_toList]
theorem tooLong_no {n : Nat} (h : n <= 16777216) : Builtin.Str.tooLong n = false:=by unfold Builtin.Str.tooLong; simp; exact h
theorem meets_translate (x : Str) (t : Tok) (a : Addr) (items : Array Value) (F : Nat -> List Nat) (hx : x.length ≠ 0) :
  Meets (Builtin.«str.translate» ⟨[.str x t, .ref a], []⟩) (fun A R s=>s.heap.IsList a items /\ (∀ n ∈ x.cps, ∃ u, items[n]? = some (.str (T (F n)) u)) /\ (∀ n ∈ x.cps, n < 256) /\ (x.cps.toList.flatMap F).length <= 16777216 /\ (∀ t' tk, R (.ok (.ret (.str (T (x.cps.toList.flatMap F)) t'))) { s with toks:=tk })):=by
 refine .of_wp fun prog w A R s h=>?_
 refine xa4 h fun hl hi hb hlen hq=>?_
 unfold Builtin.«str.translate»
 iterate 16 (first | assumption | wp_step)
 show wpAny _ _ (if (x.length == 0) = true then _ else _) _ _ _
 rw [if_neg (by simpa using hx)]
 refine wB (MeetsSeq2.wpAny_forIn_array _ (trInv x F s) _ ?_ ?_ _ _ (.mk _ _ _ _ _ [] rfl rfl rfl fun c d e=>by simp at e))
 ·rintro n rest _ _ ⟨pieces, total, fast, known, tk, pre, hp, h1, h2, h4⟩
  dsimp only
  have hn : n ∈ x.cps:=by rw [<- Array.mem_toList_iff, <- hp]; exact List.mem_append_right _ (.head _)
  refine xe (hi n hn) fun u hu=>?_
  have hn256:=hb n hn
  have hpre : (pre.flatMap F).length <= 16777216:=by
   refine lT ?_ hlen
   rw [<- hp, List.flatMap_append, lA]; exact Nat.le_add_right _ _
  rw [if_neg (by rw [h2, tooLong_no hpre]; exact Bool.false_ne_true)]
  have fin : ∀ tk' (p : Str) m fast' known', p.cps.toList = F n -> m = total + (F n).length -> (∀ c d, List.lookup c known' = some d -> ∃ e, d = some e /\ F c = [e]) -> trInv x F s rest (p :: pieces, m, fast', known', false) { s with toks:=tk' }:=by
   intro tk' p m fast' known' e1 e2 e3
   refine .mk _ _ _ _ _ (pre ++ [n]) (by rw [apA]; exact hp) ?_ ?_ e3
   ·show ((p :: pieces).reverse.flatMap fun p=>p.cps.toList) = _
    rw [List.reverse_cons, List.flatMap_append, List.flatMap_append, h1]
    simp [e1]
   ·show m = _
    rw [e2, h2, List.flatMap_append, lA]; simp
  have slow : ∀ tk' known', (∀ c d, List.lookup c known' = some d -> ∃ e, d = some e /\ F c = [e]) -> wpAny (model prog w) A.in1 (do
    let m <- Builtin.Str.tableLookup (Value.ref a) n
    match m with
     | Builtin.Str.Mapped.keep=>pure (ForInStep.yield ((⟨#[n]⟩ : Str) :: pieces, total + 1, false, known', false))
     | Builtin.Str.Mapped.drop=>pure (ForInStep.yield (pieces, total, false, known', true))
     | Builtin.Str.Mapped.char d=>pure (ForInStep.yield ((⟨#[d]⟩ : Str) :: pieces, total + 1, false, known', false))
     | Builtin.Str.Mapped.text t=>pure (ForInStep.yield (t :: pieces, total + t.length, false, known', false)))
    (fun r s'=>match r with | .yield b'=>trInv x F s rest b' s' | .done b'=>False) (fun e s'=>R (.error e) s') { s with toks:=tk' }:=by
   intro tk' known' hk
   refine wB (wp_lookup hl hu (by exact lLt hn256 (by decide)) (wP ?_))
   exact fin _ (T (F n)) _ _ _ (T_toList _) (by rw [T_length]) hk
  cases fast with
  | false =>
   rw [if_neg Bool.false_ne_true]
   try rw [if_neg Bool.false_ne_true]
   refine wM (slow tk known h4) (fun r s' z=>?_) fun _ _ z=>z
   cases r with
   | yield b'=>exact z
   | done b'=>exact z.elim
  | true =>
   rw [if_pos rfl]
   cases hk : List.lookup n known with
   | some d =>
    refine xea (h4 n d hk) fun e e31 he=>?_; obtain rfl:=e31
    refine wB (wP (wP ?_))
    exact fin _ ⟨#[e]⟩ _ _ _ (by rw [he]) (by rw [he]; rfl) h4
   | none =>
    refine wB (wp_lookup hl hu (by exact lLt hn256 (by decide)) ?_)
    dsimp only
    by_cases h1' : ((T (F n)).length == 1 && (T (F n)).cps.all fun x=>decide (x < 128)) = true
    ·have hlen1 : (F n).length = 1:=by
      have:=(Bool.and_eq_true _ _ |>.mp h1').1
      rw [T_length] at this; exact eq_of_beq this
     refine xe (List.length_eq_one_iff.mp hlen1) fun e he=>?_
     have h0 : (T (F n)).cps[0]? = some e:=by rw [T_get, he]; rfl
     rw [if_pos h1', h0]
     refine wB (wP (wP ?_))
     refine fin _ ⟨#[e]⟩ _ _ _ (by rw [he]) (by rw [he]; rfl) fun c d q=>?_
     rw [List.lookup_cons] at q
     by_cases hc : c = n
     ·subst hc; simp at q; exact ⟨e, q.symm, he⟩
     ·rw [beq_eq_false_iff_ne.mpr hc] at q; exact h4 c d q
    ·rw [if_neg h1']
     refine wB (wP (wB (wpAny_rule ?_)))
     try rw [if_neg Bool.false_ne_true]
     refine wM (slow (tk + 1) known h4) (fun r s' z=>?_) fun _ _ z=>z
     cases r with
     | yield b'=>exact z
     | done b'=>exact z.elim
 ·rintro _ _ ⟨pieces, total, fast, known, tk, pre, hp, h1, h2, _⟩
  dsimp only
  rw [apN] at hp
  rw [hp] at h1 h2
  have e : (⟨pieces.reverse.foldl (fun acc p=>acc ++ p.cps) #[]⟩ : Str) = T (x.cps.toList.flatMap F):=by
   have:=foldl_cps pieces.reverse []
   rw [List.nil_append, h1] at this
   show (⟨_⟩ : Str) = ⟨_⟩
   rw [<- this]
  rw [if_neg (by rw [h2, tooLong_no hlen]; exact Bool.false_ne_true), e]
  show wpAny _ _ (do ret (<- mkStr _)) _ _ _
  exact wB (wpAny_mkStr (wP ⟨_, rfl, hq _ _⟩) (by rw [T_length, sE]; exact hlen))
theorem W.translate {c : Cx} {A : Around} {h : Heap} {g : Gs} {x : List Nat} {t : Tok} {a : Addr} {items : List Value} {n : Nat} (F : Nat -> List Nat) {Q : PV} (e : h.get? a = some (lst items n)) (hx : x ≠ []) (hi : ∀ k ∈ x, ∃ u, items[k]? = some (.str (T (F k)) u)) (hb : ∀ k ∈ x, k < 256) (hz : (x.flatMap F).length <= 16777216)
  (y : ∀ t, Q (.str (T (x.flatMap F)) t) h g) : W c A (call (.builtin "str.translate") [.str (T x) t, .ref a]) Q h g:=fun tk=>by
 have em : ∀ k, k ∈ (T x).cps ↔ k ∈ x:=fun k=>by rw [<- Array.mem_toList_iff, T_toList]
 refine call_meets PySem.F.slot_str_translate (typeIs_str _ _ _) PySem.F.entry_str_translate (PySem.F.args_str_translate_2 _ _) (meets_translate (T x) t a items.toArray F (by rw [T_length]; exact fun q=>hx (List.length_eq_zero_iff.mp q))) ⟨isList_lst e, fun k hk=>?_, fun k hk=>hb k ((em k).mp hk), by rw [T_toList]; exact hz, fun t' tk'=>⟨rfl, rfl, by rw [T_toList]; exact y t'⟩⟩
 refine xe (hi k ((em k).mp hk)) fun u q=>?_
 exact ⟨u, by simpa using q⟩
section
variable {c : Cx} {A : Around} {G h : Heap} {g : Gs} {env : Env} {L : Addr} {f : Fm} {l : List (Addr × Obj)}
theorem W.iaddI {a b : Int} {t u : Tok} {Q : PV} (y : ∀ t, Q (.int (a + b) t) h g) : W c A (inplaceOp .Add (.int a t) (.int b u)) Q h g:=fun tk=>PyProof.Rows.iadd_int ⟨rfl, rfl, y tk⟩
theorem W.cont_ {pos : Pos} {Q : PF} (y : Q .cont h g) : W c A (exec (.Continue pos) env) Q h g:=fun tk=>wpAny_Continue ⟨rfl, rfl, y⟩
theorem W.brk_ {pos : Pos} {Q : PF} (y : Q .brk h g) : W c A (exec (.Break pos) env) Q h g:=fun tk=>wpAny_Break ⟨rfl, rfl, y⟩
theorem W.inS {x y : List Nat} {t u : Tok} {Q : PV} {b : Bool} (e : Txt.contains (T x) (T y) = b) (k : Q (.bool b) h g) : W c A (compareOp .In (.str (T y) u) (.str (T x) t)) Q h g:=fun tk=>SB.contains ⟨rfl, rfl, by rw [e]; exact k⟩
theorem W.ninS {x y : List Nat} {t u : Tok} {Q : PV} {b : Bool} (e : Txt.contains (T x) (T y) = b) (k : Q (.bool (!b)) h g) : W c A (compareOp .NotIn (.str (T y) u) (.str (T x) t)) Q h g:=fun tk=>SB.notContains ⟨rfl, rfl, by rw [e]; exact k⟩
theorem W.endsIs {x y : List Nat} {t u : Tok} {Q : PV} (k : Q (.bool true) h g) : W c A (call (.builtin "str.endswith") [.str (T (x ++ y)) t, .str (T y) u]) Q h g:=fun tk=>by
 rw [<- T_append]; exact KT.ends_K ⟨rfl, rfl, k⟩
end
noncomputable def inS (x : List Nat) (k : Nat) : Bool:=!(Builtin.Str.occurrences ⟨x.toArray⟩ ⟨#[k]⟩ 0 x.length 1).isEmpty
theorem inS_eq (x : List Nat) (k : Nat) : Txt.contains (T x) (T [k]) = inS x k:=by
 unfold inS Txt.contains T
 simp [Str.length]
theorem in_crlf (k : Nat) (h : k < 128) : Txt.contains (T [13, 10]) (T [k]) = decide (k = 10 \/ k = 13):=by
 rw [inS_eq]
 have : ∀ k : Fin 128, inS [13, 10] k.val = decide (k.val = 10 \/ k.val = 13):=by decide +kernel
 exact this ⟨k, h⟩
theorem in_ws (k : Nat) (h : k < 128) : Txt.contains (T [32, 9]) (T [k]) = decide (k = 32 \/ k = 9):=by
 rw [inS_eq]
 have : ∀ k : Fin 128, inS [32, 9] k.val = decide (k.val = 32 \/ k.val = 9):=by decide +kernel
 exact this ⟨k, h⟩
noncomputable def hexS : List Nat:=[48, 49, 50, 51, 52, 53, 54, 55, 56, 57, 97, 98, 99, 100, 101, 102, 65, 66, 67, 68, 69, 70]
theorem in_hex (k : Nat) (h : k < 16) : Txt.contains (T hexS) (T [hexd k]) = true:=by
 rw [inS_eq]
 have : ∀ k : Fin 16, inS hexS (hexd k.val) = true:=by decide +kernel
 exact this ⟨k, h⟩
section
variable {c : Cx} {A : Around} {h : Heap} {g : Gs} {env : Env} {Q : PV} {F : PF} {B : PB} {U : Unit -> Heap -> Gs -> Prop}
end
section
variable {c : Cx} {A : Around} {h : Heap} {g : Gs} {env : Env} {st : Stmt} {rest : List Stmt} {Q Q0 F : PF}
noncomputable def Hid (Q F : PF) : Prop:=∀ f h g, Q f h g -> F f h g
noncomputable def onTo (c : Cx) (A : Around) (rest : List Stmt) (env : Env) (Q : PF) : Flow -> Heap -> Gs -> Prop:=fun f h g=>match f with | .next=>W c A (execs rest env) Q h g | f=>Q f h g
theorem Hid.use {f : Flow} (i : Hid Q F) (y : Q f h g) : F f h g:=i _ _ _ y
theorem Hid.next (i : Hid (onTo c A rest env Q) F) (y : W c A (execs rest env) Q h g) : F .next h g:=i _ _ _ y
theorem Hid.ret {v : Value} (i : Hid (onTo c A rest env Q) F) (y : Q (.ret v) h g) : F (.ret v) h g:=i _ _ _ y
theorem Hid.brk (i : Hid (onTo c A rest env Q) F) (y : Q .brk h g) : F .brk h g:=i _ _ _ y
theorem Hid.cont (i : Hid (onTo c A rest env Q) F) (y : Q .cont h g) : F .cont h g:=i _ _ _ y
theorem W.consI (_ : Hid Q0 Q) (k : ∀ F, Hid (onTo c A rest env Q) F -> W c A (exec st env) F h g) : W c A (execs (st :: rest) env) Q h g :=
 W.cons ((k _ fun _ _ _ x=>x).mono fun f _ _ z=>by cases f <;> exact z)
theorem W.consN (k : ∀ F, Hid Q F -> W c A (execs (st :: rest) env) F h g) : W c A (execs (st :: rest) env) Q h g:=k _ fun _ _ _ x=>x
end
section
variable {c : Cx} {A : Around} {G h : Heap} {g : Gs} {env : Env} {L : Addr} {f : Fm} {l : List (Addr × Obj)} {pos : Pos} {Q : PV}
theorem W.gB (s : String) (X : TopIn c.w.params G) (D : Led G L h f l) (y : Q (.builtin s) h g) (hv : bl c.w.params (Str.ofString s) = some (.builtin s):=by kernel_rfl) (hn : gl c.w.params (Str.ofString s) = none:=by kernel_rfl)
  (hk : env.scope.kind = .function:=by kernel_rfl) (hl : env.kindOf (Str.ofString s) = some .globalImplicit:=by kernel_rfl) (hd : (Str.ofString s == ("__debug__" : Str)) = false:=by kernel_rfl) (hg : (env.globals, env.builtins) = (mainGlobals, builtinsNs):=by kernel_rfl) :
  W c A (eval (.Name (Str.ofString s) pos) env) Q h g:=W.blt X D hv y hn hk hl hd hg
end
section
theorem ifN {b : Bool} {P Q : Prop} (e : b = false) (y : Q) : if b = true then P else Q:=by rw [e]; exact y
theorem ifP {b : Bool} {P Q : Prop} (e : b = true) (y : P) : if b = true then P else Q:=by rw [e]; exact y
section
variable (c : Cx) (A : Around) (env : Env)
abbrev K1 {α β : Type} (m : α -> Sem β) (Q : β -> Heap -> Gs -> Prop) : α -> Heap -> Gs -> Prop:=fun v h g=>W c A (m v) Q h g
abbrev Knx (Q : PF) : Unit -> Heap -> Gs -> Prop:=fun _=>Q .next
abbrev Krt (Q : PF) : Value -> Heap -> Gs -> Prop:=fun v=>Q (.ret v)
abbrev Kex (Q : PF) : Value -> Heap -> Gs -> Prop:=fun v h g=>v = .none /\ Q .next h g
abbrev Kst (x : Str) (Q : PF) : Value -> Heap -> Gs -> Prop:=fun v h g=>W c A (storeName env x v) (Knx Q) h g
abbrev Ki2 (op : Operator) (x : Str) (old : Value) (Q : PF) : Value -> Heap -> Gs -> Prop:=fun v h g=>W c A (inplaceOp op old v) (Kst c A env x Q) h g
abbrev Ki1 (e : Expr) (op : Operator) (x : Str) (Q : PF) : Value -> Heap -> Gs -> Prop:=fun v h g=>W c A (eval e env) (Ki2 c A env op x v Q) h g
variable (Q : PV) (B : PB)
abbrev Kbi (r : Expr) (op : Operator) : Value -> Heap -> Gs -> Prop:=fun a h g=>W c A (eval r env) (K1 c A (binaryOp op a) Q) h g
abbrev Ksu (value slice : Expr) : Value -> Heap -> Gs -> Prop:=fun a h g=>W c A (eval slice env) (K1 c A (subscriptTail value slice a) Q) h g
abbrev Kcl (pos : Pos) (args : List Expr) : Value -> Heap -> Gs -> Prop:=fun f h g=>W c A (callWith pos f [] (backTo pos (starEach args env)) []) Q h g
abbrev Kcw (pos : Pos) (args : List Expr) : Value × List Value -> Heap -> Gs -> Prop:=fun p h g=>W c A (callWith pos p.1 p.2 (backTo pos (starEach args env)) []) Q h g
abbrev Kme (o : Expr) (name : Str) (pos : Pos) (args : List Expr) : Value -> Heap -> Gs -> Prop:=fun v h g=>W c A (getMethod v name (do return (<- importBound o env).getD true)) (Kcw c A env Q pos args) h g
abbrev Kca (f : Value) : List Value -> Heap -> Gs -> Prop:=fun vs h g=>W c A (call f vs) Q h g
abbrev Kcv (f v : Value) : List Value -> Heap -> Gs -> Prop:=fun vs h g=>W c A (call f (v :: vs)) Q h g
abbrev Kco (v : Value) (P : PL) : List Value -> Heap -> Gs -> Prop:=fun vs=>P (v :: vs)
abbrev Ksp (pos : Pos) (rest : List Expr) (P : PL) : Value -> Heap -> Gs -> Prop:=fun v h g=>W c A (spliced (backTo pos (starEach rest env))) (Kco v P) h g
abbrev Kc2 (op : CmpOp) (a : Value) : Value -> Heap -> Gs -> Prop:=fun b h g=>W c A (compareOp op a b) (K1 c A truthy B) h g
abbrev Kc1 (r : Expr) (op : CmpOp) : Value -> Heap -> Gs -> Prop:=fun a h g=>W c A (eval r env) (Kc2 c A B op a) h g
abbrev Kan (rest : List Expr) (pos : Pos) (whole : Sem Value) : Bool -> Heap -> Gs -> Prop:=fun b h g=>if b = true then W c A (isTrue (.BoolOp .And rest pos) env whole) B h g else B false h g
abbrev Kor (rest : List Expr) (pos : Pos) (whole : Sem Value) : Bool -> Heap -> Gs -> Prop:=fun b h g=>if b = true then B true h g else W c A (isTrue (.BoolOp .Or rest pos) env whole) B h g
abbrev Kno : Bool -> Heap -> Gs -> Prop:=fun b=>B (!b)
abbrev Kif (body orelse : Expr) : Bool -> Heap -> Gs -> Prop:=fun b h g=>if b = true then W c A (eval body env) Q h g else W c A (eval orelse env) Q h g
abbrev Ks3 (o a : Value) : Value -> Heap -> Gs -> Prop:=fun b h g=>SlOn c A o a b Q h g
abbrev Ks2 (u : Option Expr) (o : Value) : Value -> Heap -> Gs -> Prop:=fun a h g=>W c A (evalPart u env) (Ks3 c A Q o a) h g
abbrev Ks1 (l u : Option Expr) : Value -> Heap -> Gs -> Prop:=fun o h g=>W c A (evalPart l env) (Ks2 c A env Q u o) h g
end
section
variable {c : Cx} {A : Around} {h : Heap} {g : Gs} {env : Env} {Q : PV} {F : PF} {B : PB} {P : PL} {pos : Pos} {whole : Sem Value}
theorem W.asg {x : Str} {p1 : Pos} {e : Expr} (y : W c A (eval e env) (Kst c A env x F) h g)
  (hn : notLC e = true:=by decide) (hs : swapsWith e (some (.Name x p1)) pos.line env = Pure.pure false:=by kernel_rfl) : W c A (exec (.Assign [.Name x p1] e pos) env) F h g:=W.assignN hn y hs
theorem W.ret1 {e : Expr} (y : W c A (eval e env) (Krt F) h g) : W c A (exec (.Return (some e) pos) env) F h g:=W.ret y
theorem W.expr1 {e : Expr} (y : W c A (eval e env) (Kex F) h g)
  (hi : interactive env = false:=by kernel_rfl) (hs : swapsWith e none pos.line env = Pure.pure false:=by kernel_rfl) : W c A (exec (.Expr e pos) env) F h g:=W.expr y hi hs
theorem W.aug1 {x : Str} {pos' : Pos} {op : Operator} {value : Expr} (y : W c A (loadName env x) (Ki1 c A env value op x F) h g) : W c A (exec (.AugAssign (.Name x pos') op value pos) env) F h g:=W.aug y
theorem W.binop1 {l r : Expr} {op : Operator} (y : W c A (eval l env) (Kbi c A env Q r op) h g) : W c A (eval (.BinOp l op r pos) env) Q h g:=W.binop y
theorem W.sub1 {value slice : Expr} (y : W c A (eval value env) (Ksu c A env Q value slice) h g) : W c A (eval (.Subscript value slice pos) env) Q h g:=W.sub y
theorem W.slice1 {value : Expr} {lower upper : Option Expr} {p : Pos} (y : W c A (eval value env) (Ks1 c A env Q lower upper) h g) (ht : ∀ o r, letTemporaryGo value o r = Pure.pure ():=by intro _ _; kernel_rfl) : W c A (eval (.Subscript value (.Slice lower upper none p) pos) env) Q h g:=W.slice y ht
theorem W.meth1 {o : Expr} {name : Str} {apos : Pos} {args : List Expr} (y : W c A (eval o env) (Kme c A env Q o name pos args) h g)
  (q : attributeBase o name env (eval o env) = eval o env:=by kernel_rfl) (hk : (backToKw pos (keywordEach [] env), methodCallForm (args.length + ([] : List Keyword).length) (backTo pos (starEach args env)) [], apos.endLine == pos.line) = ([], true, true):=by kernel_rfl) : W c A (eval (.Call (.Attribute o name apos) args [] pos) env) Q h g :=
 W.meth y q (congrArg (·.1) hk) (congrArg (·.2.1) hk) (congrArg (·.2.2) hk)
theorem W.call1 {func : Expr} {args : List Expr} (y : W c A (eval func env) (Kcl c A env Q pos args) h g)
  (he : eval (.Call func args [] pos) env = (do callWith pos (<- eval func env) [] (backTo pos (starEach args env)) (backToKw pos (keywordEach [] env))):=by kernel_rfl) : W c A (eval (.Call func args [] pos) env) Q h g:=W.call_ y he
theorem W.unary1 {op : UnaryOp} {x : Expr} (y : W c A (eval x env) (K1 c A (unaryOp op) Q) h g) : W c A (eval (.UnaryOp op x pos) env) Q h g:=W.unary y
theorem W.ifexp1 {test body orelse : Expr} (y : W c A (isTrue test env (eval test env)) (Kif c A env Q body orelse) h g) : W c A (eval (.IfExp test body orelse pos) env) Q h g:=W.ifexp y
theorem W.list1 {elts : List Expr} (y : W c A (spliced (backTo pos (starEach elts env))) (K1 c A newList Q) h g) : W c A (eval (.List elts pos) env) Q h g:=W.list_ y
theorem W.tuple1 {elts : List Expr} {k : Nat} (y : W c A (spliced (backTo pos (starEach elts env))) (K1 c A newTuple Q) h g) : W c A (eval (.Tuple elts k pos) env) Q h g:=W.tuple_ y
theorem W.callB1 {id : String} {e : Expr} {rest : List Expr} (y : W c A (spliced (backTo pos (starEach (e :: rest) env))) (Kca c A Q (.builtin id)) h g)
  (h1 : starEach (e :: rest) env = (false, eval e env) :: starEach rest env:=by kernel_rfl) (h2 : ((backTo pos (starEach rest env)).any fun x=>x.fst) = false:=by kernel_rfl) :
  W c A (callWith pos (.builtin id) [] (backTo pos (starEach (e :: rest) env)) []) Q h g:=W.callB y h1 h2
theorem W.callT1 {id : String} {e : Expr} {rest : List Expr} (y : W c A (spliced (backTo pos (starEach (e :: rest) env))) (Kca c A Q (.type id)) h g)
  (h1 : starEach (e :: rest) env = (false, eval e env) :: starEach rest env:=by kernel_rfl) (h2 : ((backTo pos (starEach rest env)).any fun x=>x.fst) = false:=by kernel_rfl) :
  W c A (callWith pos (.type id) [] (backTo pos (starEach (e :: rest) env)) []) Q h g:=W.callT y h1 h2
theorem W.callM11 {id : String} {v : Value} {e : Expr} {rest : List Expr} (y : W c A (spliced (backTo pos (starEach (e :: rest) env))) (Kcv c A Q (.builtin id) v) h g)
  (h1 : starEach (e :: rest) env = (false, eval e env) :: starEach rest env:=by kernel_rfl) (h2 : ((backTo pos (starEach rest env)).any fun x=>x.fst) = false:=by kernel_rfl) :
  W c A (callWith pos (.builtin id) [v] (backTo pos (starEach (e :: rest) env)) []) Q h g:=W.callM1 y h1 h2
theorem W.spl1 {e : Expr} {rest : List Expr} (y : W c A (eval e env) (Ksp c A env pos rest P) h g) (h1 : starEach (e :: rest) env = (false, eval e env) :: starEach rest env:=by kernel_rfl) : W c A (spliced (backTo pos (starEach (e :: rest) env))) P h g:=W.spl y h1
theorem W.cmp11 {l r : Expr} {op : CmpOp} (y : W c A (eval l env) (Kc1 c A env B r op) h g) (hb : behindInMarks op r = false:=by kernel_rfl) : W c A (isTrue (.Compare l [op] [r] pos) env whole) B h g:=W.cmp1 y hb
theorem W.tand1 {x : Expr} {rest : List Expr} (y : W c A (isTrue x env (eval x env)) (Kan c A env B rest pos whole) h g) : W c A (isTrue (.BoolOp .And (x :: rest) pos) env whole) B h g:=W.tand y
theorem W.tor1 {x : Expr} {rest : List Expr} (y : W c A (isTrue x env (eval x env)) (Kor c A env B rest pos whole) h g) : W c A (isTrue (.BoolOp .Or (x :: rest) pos) env whole) B h g:=W.tor y
theorem W.tnot1 {x : Expr} (y : W c A (isTrue x env (eval x env)) (Kno B) h g) : W c A (isTrue (.UnaryOp .Not x pos) env whole) B h g:=W.tnot y
theorem W.tName1 {x : Str} {p : Pos} (y : W c A whole (K1 c A truthy B) h g) : W c A (isTrue (.Name x p) env whole) B h g:=W.tName y
theorem W.tCall1 {e : Expr} {a k p} (y : W c A whole (K1 c A truthy B) h g) : W c A (isTrue (.Call e a k p) env whole) B h g:=W.tCall y
theorem W.tSub1 {e i : Expr} {p} (y : W c A whole (K1 c A truthy B) h g) : W c A (isTrue (.Subscript e i p) env whole) B h g:=W.tSub y
theorem W.tAttr1 {e : Expr} {i : Str} {p} (y : W c A whole (K1 c A truthy B) h g) : W c A (isTrue (.Attribute e i p) env whole) B h g:=W.tAttr y
end
section
variable {c : Cx} {A : Around} {h : Heap} {g : Gs} {env : Env} {Q : PV}
theorem W.mod_ {a b : Int} {t u : Tok} (y : ∀ t, Q (.int (a % b) t) h g) (hb : 0 < b:=by decide) : W c A (binaryOp .Mod (.int a t) (.int b u)) Q h g:=W.modE hb y
theorem W.div_ {a b : Int} {t u : Tok} (y : ∀ t, Q (.int (a / b) t) h g) (hb : 0 < b:=by decide) (hp : b.natAbs < 2 ^ 30:=by decide) : W c A (binaryOp .FloorDiv (.int a t) (.int b u)) Q h g:=W.divE hb (noPylong hp) y
theorem W.iteT {P Q : Prop} (x : P) : if true = true then P else Q:=Mine.iteT x
theorem W.iteF {P Q : Prop} (x : Q) : if false = true then P else Q:=Mine.iteF x
end
def rq (e : Env) (x : Str) : Addr × ScopeKind × Option NameKind × Bool:=(e.locals, e.scope.kind, e.kindOf x, x == ("__debug__" : Str))
def rl (L : Addr) : Addr × ScopeKind × Option NameKind × Bool:=(L, .function, some .local, false)
def gq (e : Env) (x : Str) : ScopeKind × Option NameKind × Bool × Addr × Addr:=(e.scope.kind, e.kindOf x, x == ("__debug__" : Str), e.globals, e.builtins)
def gz : ScopeKind × Option NameKind × Bool × Addr × Addr:=(.function, some .globalImplicit, false, mainGlobals, builtinsNs)
section
variable {c : Cx} {A : Around} {G h : Heap} {g : Gs} {env : Env} {L : Addr} {f : Fm} {l : List (Addr × Obj)} {pos : Pos} {Q : PV} {x : Str} {v : Value}
theorem W.rd1 (D : Led G L h f l) (hx : Has f x v) (y : Q v h g) (q : rq env x = rl L:=by kernel_rfl) : W c A (eval (.Name x pos) env) Q h g :=
 W.rd D hx y (congrArg (·.1) q).symm (congrArg (·.2.1) q) (congrArg (·.2.2.1) q) (congrArg (·.2.2.2) q)
theorem W.ldn1 (D : Led G L h f l) (hx : Has f x v) (y : Q v h g) (q : rq env x = rl L:=by kernel_rfl) : W c A (loadName env x) Q h g :=
 W.ldn D hx y (congrArg (·.1) q).symm (congrArg (·.2.1) q) (congrArg (·.2.2.1) q)
theorem W.wr1 {f' : Fm} {Q : Unit -> Heap -> Gs -> Prop} (D : Led G L h f l) (hx : Put f x v f') (y : ∀ h', Led G L h' f' l -> Q () h' g) (q : rq env x = rl L:=by kernel_rfl) : W c A (storeName env x v) Q h g :=
 W.wr D hx y (congrArg (·.1) q).symm (by have e : env.scope.kind = .function:=congrArg (·.2.1) q; rw [e]; rfl) (congrArg (·.2.2.1) q)
theorem W.blt1 (X : TopIn c.w.params G) (D : Led G L h f l) (y : Q v h g) (p : (bl c.w.params x, gl c.w.params x) = (some v, none)) (q : gq env x = gz) : W c A (eval (.Name x pos) env) Q h g :=
 W.blt X D (congrArg (·.1) p) y (congrArg (·.2) p) (congrArg (·.1) q) (congrArg (·.2.1) q) (congrArg (·.2.2.1) q) (congrArg (·.2.2.2) q)
theorem W.glob1 (X : TopIn c.w.params G) (D : Led G L h f l) (y : Q v h g) (p : gl c.w.params x = some v) (q : gq env x = gz) : W c A (eval (.Name x pos) env) Q h g :=
 W.glob X D p y (congrArg (·.1) q) (congrArg (·.2.1) q) (congrArg (·.2.2.1) q) (congrArg (·.2.2.2.1) q)
theorem W.hB (s : String) (X : TopIn c.w.params G) (D : Led G L h f l) (y : Q (.builtin s) h g) (p : (bl c.w.params (Str.ofString s), gl c.w.params (Str.ofString s)) = (some (.builtin s), none):=by kernel_rfl) (q : gq env (Str.ofString s) = gz:=by kernel_rfl) :
  W c A (eval (.Name (Str.ofString s) pos) env) Q h g:=W.blt1 X D y p q
theorem W.hT (s : String) (X : TopIn c.w.params G) (D : Led G L h f l) (y : Q (.type s) h g) (p : (bl c.w.params (Str.ofString s), gl c.w.params (Str.ofString s)) = (some (.type s), none):=by kernel_rfl) (q : gq env (Str.ofString s) = gz:=by kernel_rfl) :
  W c A (eval (.Name (Str.ofString s) pos) env) Q h g:=W.blt1 X D y p q
theorem W.hR (s : String) (n : Nat) (X : TopIn c.w.params G) (D : Led G L h f l) (y : Q (.ref n) h g) (p : gl c.w.params (Str.ofString s) = some (.ref n):=by kernel_rfl) (q : gq env (Str.ofString s) = gz:=by kernel_rfl) :
  W c A (eval (.Name (Str.ofString s) pos) env) Q h g:=W.glob1 X D y p q
theorem W.hHex (X : TopIn c.w.params G) (D : Led G L h f l) (y : Q (.str (T [48, 49, 50, 51, 52, 53, 54, 55, 56, 57, 97, 98, 99, 100, 101, 102, 65, 66, 67, 68, 69, 70]) 1574) h g) (q : gq env (Str.ofString "hexdigits") = gz:=by kernel_rfl) :
  W c A (eval (.Name (Str.ofString "hexdigits") pos) env) Q h g:=W.glob1 X D y (by kernel_rfl) q
theorem W.hCrlf (X : TopIn c.w.params G) (D : Led G L h f l) (y : Q (.str (T [13, 10]) 529) h g) (q : gq env (Str.ofString "CRLF") = gz:=by kernel_rfl) :
  W c A (eval (.Name (Str.ofString "CRLF") pos) env) Q h g:=W.glob1 X D y (by kernel_rfl) q
theorem W.hEmp (X : TopIn c.w.params G) (D : Led G L h f l) (y : Q (.str (T []) 321) h g) (q : gq env (Str.ofString "EMPTYSTRING") = gz:=by kernel_rfl) :
  W c A (eval (.Name (Str.ofString "EMPTYSTRING") pos) env) Q h g:=W.glob1 X D y (by kernel_rfl) q
end
set_option compiler.extract_closed false
namespace Mc
abbrev S:=Lean.Syntax
def k_ (n : String) (l : List S) : S:=.node .none n.toName l.toArray
def p_ (n : String) : List S -> S:=k_ ("Lean.Parser." ++ n)
def t_ (n w : String) (l : List S) : S:=p_ ("Tactic." ++ n) (.atom .none w :: l)
def nu : List S -> S:=k_ "null"
def id_ (n : String) : S:=.ident .none n.toRawSubstring n.toName []
def lo (n : String) : S:=.ident .none n.toRawSubstring (Lean.addMacroScope `m n.toName 1) []
def at_ (n : String) : S:=.atom .none n
def st_ (n : String) : S:=k_ "str" [at_ n.quote]
def nm_ (n : String) : S:=k_ "num" [at_ n]
def ho : S:=p_ "Term.hole" [at_ "_"]
def q_ (n : S) : S:=p_ "Term.syntheticHole" [at_ "?", n]
def qo : S:=q_ (at_ "_")
def ap (f : String) (l : List S) : S:=p_ "Term.app" [id_ f, nu l]
def na (n : String) (x : S) : S:=p_ "Term.namedArgument" [at_ "(", id_ n, at_ ":=", x, at_ ")"]
def os_ (x : String) : S:=ap "Str.ofString" [st_ x]
def ts (l : List S) : S:=p_ "Tactic.tacticSeq" [p_ "Tactic.tacticSeq1Indented" [nu (l.intersperse (at_ ";"))]]
def pa (l : List S) : S:=t_ "paren" "(" [ts l, at_ ")"]
def fs (l : List S) : S:=t_ "first" "first" [nu (l.map fun t=>k_ "group" [at_ "|", ts [t]])]
def wr (t : S) : S:=t_ "withReducible" "with_reducible" [ts [t]]
def rf (x : S) : S:=wr (t_ "refine" "refine" [x])
def ot (n : String) : S:=rf (ap n [qo])
def rep (t : S) : S:=t_ "tacticRepeat_" "repeat" [ts [t]]
def int (n : String) : S:=t_ "intro" "intro" [nu [lo n]]
def ren (x n : S) : S:=t_ "rename" "rename" [x, at_ "=>", n]
def shw (x : S) : S:=t_ "show" "show" [ap "W" [ho, ho, x, ho, ho, ho]]
def wk (k : String) : S:=k_ "PyProof.Rows.tacticWalk_at_" [at_ "walk_at", st_ k]
def hs (n : String) (l : List S) (t : S) : S:=pa [wr (t_ "refine'" "refine'" [ap n (l ++ [q_ (id_ "hs"), qo])]), t_ "case" "case" [nu [p_ "Tactic.caseArg" [k_ "Lean.binderIdent" [id_ "hs"], nu []]], at_ "=>", ts [t, t_ "done" "done" []]]]
def two (a b : String) : S:=rep (fs [wr (t_ "exact" "exact" [id_ a]), wr (t_ "apply" "apply" [id_ b])])
def hid (n : String) : S:=hs n [] (wr (t_ "assumption" "assumption" []))
def sh (q a : S) : S:=pa [wr (shw q), a]
def zD : S:=lo "zD"
def led : S:=wr (ren (ap "Led" [ho, ho, ho, ho, ho]) zD)
def cl (l : List String) : List S:=t_ "clear" "clear" [nu [zD]] :: l.map int
def alt (n k : String) : S :=
 let x:="W." ++ n
 if k == "" then ot x else if k == "t" then pa [ot x, int "zt"]
 else if k == "s" then rf (ap "W.mStr" [na "name" (os_ n), id_ ("PySem.F.slot_str_" ++ n), id_ ("PySem.F.type_str_" ++ n), qo])
 else pa [rf (ap x (List.replicate (k.toNat! + 1) qo)), t_ "rotateLeft" "rotate_left" [nu [nm_ k]], int "zt"]
def fd (l : List String) (i : Nat) : String:=l.getD i ""
def alts (s : String) : List S:=(s.splitOn " ").map fun x=>let l:=x.splitOn ":"; alt (fd l 0) (fd l 1)
def rows (s : String) : List S:=(s.splitOn "%").map fun x=>let l:=x.splitOn "/"; let a:=fs (alts (fd l 2)); if fd l 1 == "0" then a else sh (ap (fd l 0) (List.replicate (fd l 1).toNat! ho)) a
def glb (s : String) : List S:=(s.splitOn "%").map fun x=>let l:=x.splitOn "/"; rf (ap ("W.h" ++ fd l 0) ((if fd l 0 == "R" then [st_ (fd l 1), nm_ (fd l 2)] else if fd l 1 == "" then [] else [st_ (fd l 1)]) ++ [lo "zX", zD, qo]))
def cel5 (s : String) : List S:=(s.splitOn "%").flatMap fun y=>let l:=y.splitOn "/"; let n:=fd l 0; let x:=fd l 1; [hs "W.rdC" [nm_ n, na "x" (os_ x), zD] (wk "mem"), pa (hs "W.wrC" [nm_ n, na "x" (os_ x), zD] (pa [int "zo", wk "chg"]) :: cl ["zh", "zo", "zD"])]
def ex_ (a : S) : S:=shw (ap "execs" [a, ho])
def mac (k : String) : Option S :=
 if k == "s" then fs (sh (ap "execs" [ho, ho]) (fs [wk "k", ot "W.nil"]) :: sh (ap "eval" [ap "PySem.Expr.Name" [ho, ho], ho]) (fs [wk "rd", wk "g"]) :: sh (ap "storeName" [ho, ho, ho]) (wk "wr") ::
  (rows "exec/2/asg ret1 expr1 aug1 augSub cont_ brk_%eval/2/cint:t cstrT:t binop1 slice1 sub1 meth1 call1 unary1 ifexp1 list1 tuple1%callWith/5/callB1 callT1 callM0 callM11%spliced/1/spl1 spl0%isTrue/3/cmp11 tchain2 tand1 tor1 tand0 tor0 tnot1 tName1 tCall1 tSub1 tAttr1%truthy/1/tbool%evalPart/2/part0 part1%binaryOp/3/add:t subi:t mod_:t div_:t saddT:1 smulI:3%compareOp/3/lt gt le ieq eqs nes%getMethod/3/join:s lstrip:s rstrip:s isspace:s endswith:s split:s splitlines:s translate:s%call/3/isiStr ord:t lens:1 chrT:2%/0/iteT iteF tlink tlast neg:t iaddI:t" ++ [wk "u", wk "rd", wk "c"]))
 else if k == "S" then rep (wk "s")
 else if k == "has" then two "Has.here" "Has.there"
 else if k == "put" then two "Put.here" "Put.there"
 else if k == "mem" then two "List.mem_cons_self" "List.mem_cons_of_mem"
 else if k == "chg" then two "Chg.here" "Chg.there"
 else if k == "rd" then pa [led, fs [hs "W.rd1" [zD] (wk "has"), hs "W.ldn1" [zD] (wk "has")]]
 else if k == "wr" then pa (led :: hs "W.wr1" [zD] (wk "put") :: cl ["zh", "zD"])
 else if k == "g" then pa [led, wr (ren (ap "TopIn" [ho, ho]) (lo "zX")), fs (glb "B/len%B/ord%B/chr%T/range%B/max%B/sum%T/zip%T/list%B/iter%T/str%T/int%B/isinstance%R/_law_laid/270%R/_law_spelled/277%R/_law_places/284%R/_law_rows/289%R/_law_bars/294%R/_law_folded/301%R/_max_append/228%R/unquote/235%R/quote/242%R/body_encode/255%R/decode/263%R/_ValueFormatter/116%R/_Accumulator/200%R/_QUOPRI_MAP/207%R/_QUOPRI_BODY_ENCODE_MAP/244%Hex%Crlf%Emp%R/_twin_re_1/43")]
 else if k == "u" then fs (["next", "ret", "brk", "cont", "use"].map fun n=>hid ("Hid." ++ n))
 else if k == "x" then fs [ex_ (ap "List.cons" [ho, ho]), ex_ (id_ "List.nil"), pa [wk "u", wk "x"]]
 else if k == "n" then rep (fs [wk "u", ot "W.nil"])
 else if k == "k" then fs [pa [hid "W.consI", int "zF", int "zi"], pa [ot "W.consN", int "zF", int "zi", wk "k"], pa [wk "u", wk "k"]]
 else if k == "D" then ren (ap "Led" [ho, ho, ho, ho, ho]) (id_ "D")
 else if k == "X" then ren (ap "TopIn" [ho, ho]) (id_ "X")
 else if k == "c5" then pa [led, fs (cel5 "1/room%2/ends%3/begin%4/cut")]
 else none
def run (k : String) : Lean.MacroM (Lean.TSyntax `tactic):=match mac k with
 | some x=>pure ⟨x⟩
 | none=>Lean.Macro.throwUnsupported
end Mc
set_option compiler.extract_closed true
end
section
local macro_rules | `(tactic| walk_at $s:str)=>Mc.run s.getString
section
set_option maxHeartbeats 0
noncomputable def qV : Program:={ PW with main:={ PW.main with body:=PW.main.body.drop 37 } }
noncomputable def looseV : List Str:=(PW.boundNames.filter fun n=>!startupNames.contains n && n != Str.ofString "law")
noncomputable def asV : List Addr:=[0, 1, 2, 3, 4, 5, 6, 7, 8, 9, 10, 11, 12, 13, 14, 15, 16, 17, 18, 19, 20, 21, 22, 23, 24, 25, 26, 27, 28, 29, 30, 31, 32, 33, 34, 35, 36, 37, 38, 39, 40, 41, 42, 43, 44, 45, 46, 47, 48, 49, 50, 51, 52, 53, 54, 55, 56, 57, 58, 59, 60, 61, 62, 63, 64, 65, 66, 67, 68, 69, 70, 71, 72, 73, 74, 75, 76, 77, 78, 79, 80, 81, 82, 83, 84, 85, 86, 87, 88, 89, 90, 91, 92, 93, 94, 95, 96, 97, 98, 99, 100, 101, 102, 103, 104, 105, 106, 107, 108, 109, 110, 111, 112, 113, 114, 115, 116, 117, 118, 119, 120, 121, 122, 123, 124, 125, 126, 127, 128, 129, 130, 131, 132, 133, 134, 135, 136, 137, 138, 139, 140, 141, 142, 143, 144, 145, 146, 147, 148, 149, 150, 151, 152, 153, 154, 155, 156, 157, 158, 159, 160, 161, 163, 164, 165, 166, 167, 168, 170, 171, 172, 173, 174, 175, 176, 177, 178, 179, 180, 181, 182, 183, 184, 185, 186, 187, 188, 189, 190, 191, 192, 193, 194, 195, 196, 197, 198, 199, 200, 201, 202, 203, 204, 205, 206, 207, 208, 209, 210, 211, 212, 213, 214, 215, 216, 217, 218, 219, 220, 221, 222, 223, 224, 225, 226, 227, 228, 229, 230, 231, 232, 233, 234, 235, 236, 237, 238, 239, 240, 241, 242, 243, 244, 245, 246, 247, 248, 249, 250, 251, 252, 253, 254, 255, 256, 257, 258, 259, 260, 261, 262, 263, 264, 265, 266, 267, 268, 269, 270, 271, 272, 273, 274, 275, 276, 277, 278, 279, 280, 281, 282, 283, 284, 285, 286, 287, 288, 289, 290, 291, 292, 293, 294, 295, 296, 297, 298, 299, 300, 301, 302, 303, 304, 305, 306]
noncomputable def KW (P : Params) : Frag:=(162, o162 P) :: (169, o169 P) :: KM P
noncomputable def asW : List Addr:=162 :: 169 :: asV
theorem asE : ∀ P, asW = (KW P).map (·.1):=by intro P; kernel_rfl
noncomputable def h0V (w : World) : Heap:=hpT treeS0 28 w
noncomputable def s1V (w : World) (os : OsState) : Shared:=⟨hpT treeSf 307 w, #[], {}, 2200, os⟩
theorem lookA : ∀ w : World, (fun os=>(staticsOk (Fast.tw5923862056798008813 PW.main.body) (h0V w) (s1V w os).heap)) = fun _=>true:=by
 intro w
 kernel_rfl
theorem lookB : ∀ w : World, (fun os=>(namesBound PW (s1V w os).heap)) = fun _=>true:=by
 intro w
 kernel_rfl
theorem lookC : ∀ w : World, (fun os=>(gensDone (s1V w os))) = fun _=>true:=by
 intro w
 kernel_rfl
theorem lookD : ∀ w : World, (fun os=>(laidKept (h0V w) (s1V w os).heap)) = fun _=>true:=by
 intro w
 kernel_rfl
theorem lookE : ∀ w : World, (fun os=>Fast.tw4187177175401517315 qV looseV (Fast.tw5923862056798008813 PW.main.body) (fun _=>true) true (s1V w os)) = fun _=>openGood qV looseV:=by
 intro w
 kernel_rfl
theorem lookF : ∀ w : World, (fun os=>X.obsZ asW (s1V w os)) = fun _=>X.valZ KW 307 2200 w:=by
 intro w
 kernel_rfl
end
section
set_option maxHeartbeats 0
theorem leftV : LeftO PW qV looseV (fun _=>true) (X.obsZ asW) (X.valZ KW 307 2200) 40000 true:=by
 refine LeftO.of_pieces (H₀:=fun P=>absHeap (treeS0 P) 28 {}) (H₁:=fun P=>absHeap (treeSf P) 307 {}) (gs₀:=#[]) (gs₁:=#[]) (d₀:={}) (d₁:={}) (k₀:=276) (k₁:=2200) (m₀:=28) (ann:=annT) open_ sizeQ (fun w os=>topRunT w os) (by decide +kernel) (fun w=>?_)
 funext os
 have a:=congrFun (lookA w) os
 have b:=congrFun (lookB w) os
 have c:=congrFun (lookC w) os
 have d:=congrFun (lookD w) os
 have e:=congrFun (lookE w) os
 have f:=congrFun (lookF w) os
 refine Prod.ext ?_ (Prod.ext ?_ f)
 ·show (staticsOk (importedModules PW.main.body) (h0V w) (s1V w os).heap && namesBound PW (s1V w os).heap && gensDone (s1V w os) && laidKept (h0V w) (s1V w os).heap) = true
  rw [Fast.te5923862056798008813]
  exact (congr (congrArg and (congr (congrArg and (congr (congrArg and a) b)) c)) d)
 ·show openSeen qV looseV (importedModules PW.main.body) (fun _=>true) true (s1V w os) = _
  rw [Fast.te4187177175401517315, Fast.te5923862056798008813]
  exact e
end
noncomputable abbrev Sp:=Nat × Nat × Nat
noncomputable def lbStep (x : List Nat) (i : Nat) (st : Array Sp × Nat) : Array Sp × Nat :=
 if (decide (st.2 <= i) && Unicode.isLineBreak (x.getD i 0)) = true then (st.1.push (st.2, i, if (x.getD i 0 == 13 && x[i + 1]? == some 10) = true then i + 2 else i + 1), if (x.getD i 0 == 13 && x[i + 1]? == some 10) = true then i + 2 else i + 1) else st
theorem spans_fold (x : List Nat) : Builtin.Str.lineSpans (T x) = (if ((List.range x.length).foldl (fun st i=>lbStep x i st) (#[], 0)).2 < x.length then ((List.range x.length).foldl (fun st i=>lbStep x i st) (#[], 0)).1.push (((List.range x.length).foldl (fun st i=>lbStep x i st) (#[], 0)).2, x.length, x.length) else ((List.range x.length).foldl (fun st i=>lbStep x i st) (#[], 0)).1).toList:=by
 unfold Builtin.Str.lineSpans
 have gd : ∀ i, (T x).cps.getD i 0 = x.getD i 0:=fun i=>by
  rw [Array.getD_eq_getD_getElem?, T_get, List.getD_eq_getElem?_getD]
 simp only [Std.Legacy.Range.forIn_eq_forIn_range', Std.Legacy.Range.size, Id.run, gd, T_get, T_length]
 have e : (fun (i : Nat) (st : Array Sp × Nat)=>(if (decide (st.snd <= i) && Unicode.isLineBreak (x.getD i 0)) = true then
   (pure (ForInStep.yield (st.fst.push (st.snd, i, if (x.getD i 0 == 13 && x[i + 1]? == some 10) = true then i + 2 else i + 1), if (x.getD i 0 == 13 && x[i + 1]? == some 10) = true then i + 2 else i + 1)) : Id (ForInStep (Array Sp × Nat)))
   else pure (ForInStep.yield (st.fst, st.snd)))) = fun i st=>pure (ForInStep.yield (lbStep x i st)):=by
  funext i st; unfold lbStep; split <;> rfl
 rw [e, List.forIn_pure_yield_eq_foldl]
 simp [List.range_eq_range']
 rfl
noncomputable def goS : Nat -> Nat -> List Nat -> List Sp × Nat
 | _, start, []=>([], start)
 | off, start, c :: r =>
  if (decide (start <= off) && Unicode.isLineBreak c) = true then
   ((start, off, if (c == 13 && r.head? == some 10) = true then off + 2 else off + 1) :: (goS (off + 1) (if (c == 13 && r.head? == some 10) = true then off + 2 else off + 1) r).1, (goS (off + 1) (if (c == 13 && r.head? == some 10) = true then off + 2 else off + 1) r).2)
  else goS (off + 1) start r
theorem fold_goS : ∀ (r pre : List Nat) (acc : Array Sp) (start : Nat), (List.range' pre.length r.length).foldl (fun st i=>lbStep (pre ++ r) i st) (acc, start) = (acc ++ (goS pre.length start r).1.toArray, (goS pre.length start r).2)
 | [], pre, acc, start=>by simp [goS]
 | c :: r, pre, acc, start=>by
  rw [lC, List.range'_succ, List.foldl_cons]
  have h1 : (pre ++ c :: r).getD pre.length 0 = c:=by simp [List.getD]
  have h2 : (pre ++ c :: r)[pre.length + 1]? = r.head?:=by
   rw [List.getElem?_append_right (by simp)]
   cases r <;> simp
  have e : pre ++ c :: r = (pre ++ [c]) ++ r:=by simp
  have ih:=fun acc start=>fold_goS r (pre ++ [c]) acc start
  rw [<- e] at ih
  simp only [lA, lC, List.length_nil, Nat.zero_add] at ih
  unfold goS
  by_cases hc : (decide (start <= pre.length) && Unicode.isLineBreak c) = true
  ·have : lbStep (pre ++ c :: r) pre.length (acc, start) = (acc.push (start, pre.length, if (c == 13 && r.head? == some 10) = true then pre.length + 2 else pre.length + 1), if (c == 13 && r.head? == some 10) = true then pre.length + 2 else pre.length + 1):=by
    unfold lbStep; rw [h1, h2]; exact if_pos hc
   rw [this, ih, if_pos hc]
   simp
  ·have : lbStep (pre ++ c :: r) pre.length (acc, start) = (acc, start):=by
    unfold lbStep; rw [h1]; exact if_neg hc
   rw [this, ih, if_neg hc]
noncomputable def linesN : List Nat -> List Nat -> List (List Nat)
 | cur, []=>if cur = [] then [] else [cur]
 | cur, 13 :: 10 :: r=>cur :: linesN [] r
 | cur, c :: r=>if Unicode.isLineBreak c = true then cur :: linesN [] r else linesN (cur ++ [c]) r
noncomputable def outS (x : List Nat) (q : List Sp × Nat) : List (List Nat):=(q.1.map fun p=>(x.take p.2.1).drop p.1) ++ (if q.2 < x.length then [x.drop q.2] else [])
theorem outS_cons (x : List Nat) (p : Sp) (q : List Sp × Nat) : outS x (p :: q.1, q.2) = ((x.take p.2.1).drop p.1) :: outS x q:=rfl
theorem goS_lines : ∀ (n : Nat) (r pre : List Nat) (start : Nat), r.length <= n -> start <= pre.length -> outS (pre ++ r) (goS pre.length start r) = linesN (pre.drop start) r
 | _, [], pre, start, _, hs=>by
  unfold goS outS linesN
  simp only [List.map_nil, List.nil_append, apN]
  by_cases h : start < pre.length
  ·rw [if_pos h, if_neg (by intro e; have:=congrArg List.length e; simp at this; lia)]
  ·rw [if_neg h, if_pos (List.drop_eq_nil_of_le (by lia))]
 | n + 1, c :: r, pre, start, hn, hs=>by
  have e : pre ++ c :: r = (pre ++ [c]) ++ r:=by simp
  have hr : r.length <= n:=by simpa using hn
  have tk : (List.take pre.length (pre ++ c :: r)) = pre:=by simp
  by_cases hb : Unicode.isLineBreak c = true
  ·have hc : (decide (start <= pre.length) && Unicode.isLineBreak c) = true:=by simp [hs, hb]
   unfold goS
   rw [if_pos hc, outS_cons]
   dsimp only
   rw [tk]
   by_cases h2 : (c == 13 && r.head? == some 10) = true
   ·rw [if_pos h2]
    obtain ⟨a1, a2⟩:=Bool.and_eq_true _ _ |>.mp h2
    obtain rfl : c = 13:=eq_of_beq a1
    obtain ⟨r', rfl⟩ : ∃ r', r = 10 :: r':=by
     cases r with
     | nil=>simp at a2
     | cons d r'=>simp at a2; exact ⟨r', by rw [a2]⟩
    have g : goS (pre.length + 1) (pre.length + 2) (10 :: r') = goS (pre.length + 2) (pre.length + 2) r':=by
     unfold goS
     rw [if_neg (by simp)]
     cases r' <;> rfl
    rw [g]
    have ih:=goS_lines n r' (pre ++ [13, 10]) (pre.length + 2) (by simp at hr; exact lO (by assumption)) (by simp)
    have e3 : pre ++ [13, 10] ++ r' = pre ++ 13 :: 10 :: r':=by simp
    rw [e3] at ih
    have l3 : (pre ++ [13, 10]).length = pre.length + 2:=by simp
    rw [l3] at ih
    rw [ih]
    have d0 : List.drop (pre.length + 2) (pre ++ [13, 10]) = []:=List.drop_eq_nil_of_le (by simp)
    rw [d0]
    rfl
   ·rw [if_neg h2]
    have ih:=goS_lines n r (pre ++ [c]) (pre.length + 1) hr (by simp)
    rw [<- e] at ih
    have l3 : (pre ++ [c]).length = pre.length + 1:=by simp
    rw [l3] at ih
    rw [ih]
    have d0 : List.drop (pre.length + 1) (pre ++ [c]) = []:=List.drop_eq_nil_of_le (by simp)
    rw [d0]
    have : linesN (pre.drop start) (c :: r) = pre.drop start :: linesN [] r:=by
     rw [linesN, if_pos hb]
     rintro r' rfl rfl
     simp at h2
    rw [this]
  ·have hc : ¬ (decide (start <= pre.length) && Unicode.isLineBreak c) = true:=by simp [hb]
   rw [goS, if_neg hc]
   have ih:=goS_lines n r (pre ++ [c]) start hr (by simp; lia)
   rw [<- e] at ih
   have l3 : (pre ++ [c]).length = pre.length + 1:=by simp
   rw [l3] at ih
   rw [ih]
   have : linesN (pre.drop start) (c :: r) = linesN (pre.drop start ++ [c]) r:=by
    rw [linesN, if_neg hb]
    rintro r' rfl rfl
    exact hb (by decide)
   rw [this, List.drop_append_of_le_length hs]
 | 0, c :: r, pre, start, hn, hs=>by simp at hn
theorem lines_of (x : List Nat) : linesOf (T x) = (linesN [] x).map fun y=>T y:=by
 have f:=fold_goS x [] #[] 0
 simp only [List.length_nil, List.nil_append] at f
 have g:=goS_lines x.length x [] 0 (Nat.le_refl _) (Nat.le_refl _)
 simp only [List.length_nil, List.nil_append, List.drop_zero] at g
 rw [<- g]
 unfold linesOf lineCuts
 rw [spans_fold, List.range_eq_range', f]
 have st : ∀ i j, (⟨(T x).cps.extract i j⟩ : Str) = T ((x.take j).drop i):=fun i j=>by
  show (⟨x.toArray.extract i j⟩ : Str) = ⟨_⟩
  congr 1
  simp [List.drop_take]
 unfold outS
 generalize goS 0 0 x = q
 obtain ⟨q1, q2⟩:=q
 dsimp only
 by_cases h : q2 < x.length
 ·rw [if_pos h, if_pos h]
  simp only [Array.toList_push, List.map_append, List.map_map, mpC, List.map_nil]
  congr 1
  ·simp
   intro a b c' m
   exact st a b
  ·simp
   have:=st q2 x.length
   rw [List.take_length] at this
   exact this
 ·rw [if_neg h, if_neg h]
  simp
  intro a b c' m
  exact st a b
section
open PySem.StrLaws Builtin Builtin.Str
noncomputable def splitN : List Nat -> List Nat -> List (List Nat)
 | acc, []=>[acc]
 | acc, c :: r=>if c = 10 then acc :: splitN [] r else splitN (acc ++ [c]) r
noncomputable def pos10 : Nat -> List Nat -> List Nat
 | _, []=>[]
 | p, c :: r=>if c = 10 then p :: pos10 (p + 1) r else pos10 (p + 1) r
theorem subAt10 (x : List Nat) (i : Nat) : subAt (T x) (T [10]) i = decide (x[i]? = some 10):=by
 rw [Bool.eq_iff_iff, decide_eq_true_iff]
 unfold subAt T
 simp only [Str.length, List.size_toArray, lS, beq_iff_eq]
 rw [<- Array.toList_inj]
 simp only [List.extract_toArray, List.extract_eq_take_drop, Nat.add_sub_cancel_left]
 constructor
 ·intro h
  have:=congrArg (fun z : List Nat=>z[0]?) h
  simpa using this
 ·intro h
  obtain ⟨a, b⟩:=List.getElem?_eq_some_iff.mp h
  rw [List.drop_eq_getElem_cons a, b]; rfl
theorem occ10 (x : List Nat) : ∀ (r pre : List Nat) (st : Array Nat × Nat), pre ++ r = x -> st.1.size <= pre.length -> st.2 <= pre.length ->
  (forIn (List.range' pre.length (r.length + 1)) st (occBody (T x) (T [10]) x.length (x.length + 1))).run.fst.toList = st.1.toList ++ pos10 pre.length r
 | [], pre, st, hx, h1, h2=>by
  rw [apN] at hx; subst hx
  have e : List.range' pre.length (([] : List Nat).length + 1) = [pre.length]:=rfl
  rw [e, List.forIn_cons]
  unfold occBody
  rw [if_neg (fun q=>by have:=q.1.2; rw [T_length, lS] at this; lia)]
  simp [pos10]
 | c :: r, pre, st, hx, h1, h2=>by
  have e : List.range' pre.length ((c :: r).length + 1) = pre.length :: List.range' (pre ++ [c]).length (r.length + 1):=by
   rw [lC, List.range'_succ, lA, lS]
  have hg : x[pre.length]? = some c:=by rw [<- hx]; simp
  have hlen : x.length = pre.length + r.length + 1:=by rw [<- hx]; simp; rfl
  have hx' : (pre ++ [c]) ++ r = x:=by rw [<- hx]; simp
  rw [e, List.forIn_cons]
  unfold occBody
  rw [subAt10, hg, T_length, lS]
  by_cases hc : c = 10
  ·subst hc
   rw [if_pos ⟨⟨⟨by lia, h2⟩, by lia⟩, by simp⟩]
   have ih:=occ10 x r (pre ++ [10]) (st.1.push pre.length, pre.length + 1) hx' (by rw [Array.size_push, lA]; simp; omega) (by rw [lA]; simp)
   rw [lA, lS] at ih ⊢
   show (forIn _ _ (occBody (T x) (T [10]) x.length (x.length + 1))).run.fst.toList = _
   rw [ih, Array.toList_push, pos10, if_pos rfl, apA]; rfl
  ·rw [if_neg (fun q=>hc (by simpa using q.2))]
   have ih:=occ10 x r (pre ++ [c]) st hx' (by rw [lA]; lia) (by rw [lA]; lia)
   rw [lA, lS] at ih ⊢
   show (forIn _ _ (occBody (T x) (T [10]) x.length (x.length + 1))).run.fst.toList = _
   rw [ih, pos10, if_neg hc]
theorem occ_T (x : List Nat) : occurrences (T x) (T [10]) 0 (T x).length ((T x).length + 1) = pos10 0 x:=by
 rw [occ_eq, T_length, Nat.sub_zero]
 have:=occ10 x x [] (#[], 0) rfl (Nat.zero_le _) (Nat.zero_le _)
 simpa using this
theorem sub_T (x : List Nat) (i j : Nat) : strSub (T x) i j = T ((x.take j).drop i):=by
 unfold strSub T
 congr 1
 rw [<- Array.toList_inj]
 simp [List.drop_take]
theorem parts_T (x : List Nat) : ∀ (r pre : List Nat) (a : Nat), pre ++ r = x -> a <= pre.length -> partsFrom (T x) 1 a (pos10 pre.length r) = (splitN (pre.drop a) r).map fun y=>T y
 | [], pre, a, hx, ha=>by
  rw [apN] at hx; subst hx
  show [strSub (T pre) a (T pre).length] = [T (pre.drop a)]
  rw [sub_T, T_length, List.take_length]
 | c :: r, pre, a, hx, ha=>by
  have hx' : (pre ++ [c]) ++ r = x:=by rw [<- hx]; simp
  rw [pos10, splitN]
  by_cases hc : c = 10
  ·rw [if_pos hc, if_pos hc]
   show strSub (T x) a pre.length :: partsFrom (T x) 1 (pre.length + 1) _ = _
   have ih:=parts_T x r (pre ++ [c]) (pre.length + 1) hx' (by simp)
   rw [lA, lS, List.drop_of_length_le (by simp)] at ih
   rw [ih, sub_T, <- hx, List.take_left, mpC]
  ·rw [if_neg hc, if_neg hc]
   have ih:=parts_T x r (pre ++ [c]) a hx' (by rw [lA]; lia)
   rw [lA, lS, List.drop_append_of_le_length ha] at ih
   exact ih
theorem between_T (x : List Nat) : partsBetween (T x) (occurrences (T x) (T [10]) 0 (T x).length ((T x).length + 1)) (T [10]).length = (splitN [] x).map fun y=>T y:=by
 rw [occ_T, partsBetween_eq]
 exact parts_T x x [] 0 rfl (Nat.le_refl _)
theorem splitN_len : ∀ (r acc : List Nat), (splitN acc r).length <= r.length + 1
 | [], acc=>by simp [splitN]
 | c :: r, acc=>by
  rw [splitN]
  split
  ·have:=splitN_len r []; simp; omega
  ·have:=splitN_len r (acc ++ [c]); simp; lia
theorem W.split10 {c : Cx} {A : Around} {G h : Heap} {g : Gs} {L : Addr} {f : Fm} {l : List (Addr × Obj)} {x : List Nat} {t u : Tok} {Q : PV} (D : Led G L h f l) (hz : x.length <= 1000000)
  (y : ∀ h' a vs, Ss vs (splitN [] x) -> Led G L h' f ((a, lst vs 0) :: l) -> Q (.ref a) h' g) : W c A (call (.builtin "str.split") [.str (T x) t, .str (T [10]) u]) Q h g:=fun tk=>by
 have hb:=between_T x
 have hy : ((T [10]).length == 0) = false:=rfl
 have hl:=splitN_len x []
 have one : splitN [] x = [x] -> W c A (Pure.pure (Value.ref h.objs.size)) Q (h.push (lst [.str (T x) t] 0)) g:=fun e=>W.pure (y _ _ _ (by rw [e]; exact Ss.cons Ss.nil) (D.push (lst [.str (T x) t] 0)))
 cases h1 : (decide ((T x).length < (T [10]).length) || decide (strKind (T x) < strKind (T [10])))
 ·cases hf : (occurrences (T x) (T [10]) 0 (T x).length ((T x).length + 1)).isEmpty
  ·refine call_meets PySem.F.slot_str_split (typeIs_str _ _ _) PySem.F.entry_str_split (PySem.F.args_str_split_2 _ _) (meets_str_split_sep (T x) (T [10]) t u h1 hy hf (by rw [T_length, sE]; exact lT hz (by decide)) (by rw [hb, lMa, sE]; lia)) ?_
   refine ⟨rfl, rfl, ?_⟩
   rw [hb]
   exact y _ _ _ (strsFrom_are (splitN [] x) tk) (D.push (lst (strsFrom tk ((splitN [] x).map fun y=>T y)) 0))
  ·refine call_meets PySem.F.slot_str_split (typeIs_str _ _ _) PySem.F.entry_str_split (PySem.F.args_str_split_2 _ _) (meets_str_split_not_found (T x) (T [10]) t u h1 hy hf) ?_
   have e : splitN [] x = [x]:=by
    rw [List.isEmpty_iff.mp hf, partsBetween_eq] at hb
    have hb' : [strSub (T x) 0 (T x).length] = (splitN [] x).map fun y=>T y:=hb
    rw [sub_T, T_length, List.take_length, List.drop_zero] at hb'
    obtain ⟨z, hz⟩ : ∃ z, splitN [] x = [z]:=by
     cases e : splitN [] x with
     | nil=>rw [e] at hb'; cases hb'
     | cons z zs=>cases zs with
      | nil=>exact ⟨z, rfl⟩
      | cons _ _=>rw [e] at hb'; simp at hb'
    rw [hz] at hb' ⊢
    have : T x = T z:=by simpa using hb'
    rw [T_inj.mp this]
   exact ⟨rfl, rfl, y _ _ _ (by rw [e]; exact Ss.cons Ss.nil) (D.push (lst [.str (T x) t] 0))⟩
 ·refine call_meets PySem.F.slot_str_split (typeIs_str _ _ _) PySem.F.entry_str_split (PySem.F.args_str_split_2 _ _) (meets_str_split_cannot_occur (T x) (T [10]) t u h1) ?_
  have e : splitN [] x = [x]:=by
   have k1 : Builtin.Str.strKind (T [10]) = 1:=by kernel_rfl
   have k2 : 1 <= Builtin.Str.strKind (T x):=by unfold Builtin.Str.strKind; split <;> (try split) <;> simp
   rw [k1, T_length, T_length, lS] at h1
   have : x.length = 0:=by
    simp only [Bool.or_eq_true, decide_eq_true_eq] at h1
    lia
   rw [List.length_eq_zero_iff.mp this]; rfl
  exact ⟨rfl, rfl, y _ _ _ (by rw [e]; exact Ss.cons Ss.nil) (D.push (lst [.str (T x) t] 0))⟩
end
theorem Is.take {vs : List Value} {xs : List Int} (h : Is vs xs) (n : Nat) : Is (vs.take n) (xs.take n):=by
 refine ⟨by rw [lTk, lTk, h.1], fun i h1 h2=>?_⟩
 rw [lTk] at h1 h2
 refine xe (h.2 i (lLt h1 (Nat.min_le_right _ _)) (lLt h2 (Nat.min_le_right _ _))) fun t e=>?_
 exact ⟨t, by rw [List.getElem_take, List.getElem_take]; exact e⟩
theorem Is.of_get {vs : List Value} {xs : List Int} (hl : vs.length = xs.length) (hg : ∀ (i : Nat) (v : Value), vs[i]? = some v -> ∃ (x : Int) (t : Tok), xs[i]? = some x /\ v = Value.int x t) : Is vs xs:=by
 refine ⟨hl, fun i h1 h2=>?_⟩
 refine xe2a (hg i _ (gE h1)) fun x t e1 e2=>?_
 rw [gE h2] at e1
 rw [Option.some.inj e1]; exact ⟨t, e2⟩
section
variable {c : Cx} {A : Around} {G h : Heap} {g : Gs} {env : Env} {L : Addr} {f : Fm} {l : List (Addr × Obj)}
theorem W.pow6 {t u : Tok} {Q : PV} (y : ∀ t, Q (.int 1000000 t) h g) : W c A (binaryOp .Pow (.int 10 t) (.int 6 u)) Q h g :=
 fun tk=>pow_int_small (by decide) (by decide) (by decide) ⟨rfl, rfl, y tk⟩
theorem W.listR {r : Addr} {n : Nat} {t u v : Tok} {Q : PV} (hh : A.handled = none) (D : Led G L h f l) (hr : IsRange h r 1 (n : Int) 1 t u v) (hn : n <= 10000)
  (y : ∀ h' a vs m, Is vs ((List.range (n - 1)).map fun i : Nat=>((i + 1 : Nat) : Int)) -> Led G L h' f ((a, lst vs m) :: l) -> Q (.ref a) h' g) : W c A (call (.type "list") [.ref r]) Q h g:=fun tk=>by
 have hsz : Builtin.Range.rangeSize 1 (n : Int) 1 = ((n - 1 : Nat) : Int):=by 
  rw [rangeSize_one]; split
  ·next q=>exact (Int.ofNat_sub (Int.ofNat_le.mp (show ((1 : Nat) : Int) <= _ from Int.le_of_lt q))).symm
  ·next q=>exact (congrArg Int.ofNat (Nat.sub_eq_zero_of_le (Nat.le_of_not_lt fun z=>q (Int.ofNat_lt.mpr z)))).symm
 refine call_list_range (s:=⟨h, g, c.d, tk, c.os⟩) hh hr (small_one (by decide) (by decide) (by simp) (by lia)) hsz (by omega) fun h' tk' acc' c' hk hS' hacc=>⟨rfl, rfl, ?_⟩
 have N:=D.ne (a:=0)
 refine y h' h.objs.size acc'.toList c' (Is.of_get ?_ fun i v hv=>?_) ((D.grow hk).add (by simpa using hS') N.1 N.2.2 N.2.1)
 ·simp [hacc.1]
 ·have hv' : acc'[i]? = some v:=by simpa using hv
  refine xe (hacc.2 i v hv') fun tk e21=>?_; obtain rfl:=e21
  have hi : i < n - 1:=by
   have:=(Array.getElem?_eq_some_iff.mp hv').1
   rw [hacc.1] at this; exact this
  exact ⟨((i + 1 : Nat) : Int), tk, by rw [List.getElem?_map, List.getElem?_range hi]; rfl, by congr 1; lia⟩
theorem W.compListH {elt : Expr} {x : Str} {ifs : List Expr} {ce : Addr -> Env} {a : Addr} {vs : List Value} {m : Nat} {K : Addr -> List Value -> List (Addr × Obj) -> Heap -> Gs -> Prop} (hh : A.handled = none) (D : Led G L h f ((a, lst vs m) :: l)) (hz : vs.length <= sizeLine)
  (inv : Nat -> List Value -> List (Addr × Obj) -> Gs -> Prop) (i0 : inv 0 [] l g)
  (turn : ∀ i v ys G' C h l g, vs[i]? = some v -> Sub G G' -> inv i ys l g -> ys.length <= i -> Led G' C h [(x, some v)] l ->
   W c A (tests ifs (ce C)) (fun b h1 g1=>if b = true then W c A (eval elt (ce C)) (fun y h2 g2=>∃ l', Led G' C h2 [(x, some v)] l' /\ inv (i + 1) (ys ++ [y]) l' g2) h1 g1 else ∃ l', Led G' C h1 [(x, some v)] l' /\ inv (i + 1) ys l' g1) h g)
  (fin : ∀ D h' ys l' g', inv vs.length ys l' g' -> ys.length <= vs.length -> (∃ m, Led G L h' f ((D, lst ys m) :: l')) -> K D ys l' h' g') :
  W c A (pyIter (.ref a)) (fun it h2 g2=>CompOK c A elt x ifs ce G L f K it h2 g2) h g :=
 W.compAt hh (D.drop (List.sublist_cons_self _ _)) (D.get (.head _)) (D.nw _ (.head _)).2.1 (by have:=D.nd; rw [mpC] at this; exact (List.nodup_cons.mp this).1) hz inv i0 turn fin
end
section
open Builtin Builtin.ObjectAttr
noncomputable def DOf (f : Fm) (o : Obj) : Prop:=∃ es ep, o.data = .dict es ep /\ StrKeys es /\ UniqKeys es /\ ∀ y, nsFind es y = fm f y
theorem DOf.ns {f : Fm} {o : Obj} {h : Heap} {a : Addr} (d : DOf f o) (e : h.get? a = some o) : h.Ns1 a (fm f):=by
 obtain ⟨es, ep, d1, d2, d3⟩:=d
 exact ⟨o, es, ep, e, d1, d2, d3⟩
theorem DOf.of {f : Fm} {h : Heap} {a : Addr} (n : h.Ns1 a (fm f)) : ∃ o, h.get? a = some o /\ DOf f o:=by
 obtain ⟨o, es, ep, e, d⟩:=n
 exact ⟨o, e, es, ep, d⟩
theorem nodup_len : ∀ (l m : List Str), l.Nodup -> (∀ x ∈ l, x ∈ m) -> l.length <= m.length
 | [], _, _, _=>Nat.zero_le _
 | x :: l, m, n, h=>by
  refine xa (List.nodup_cons.mp n) fun n1 n2=>?_
  have hx:=h x (.head _)
  have ih:=nodup_len l (m.erase x) n2 fun y hy=>(List.mem_erase_of_ne (a:=y) (b:=x) (by intro e; subst e; exact n1 hy)).mpr (h y (.tail _ hy))
  have:=List.length_erase_of_mem hx
  have:=List.length_pos_of_mem hx
  simp only [lC]; lia
theorem fm_mem (f : Fm) : ∀ (y : Str) (v : Value), fm f y = some v -> y ∈ f.map (·.1):=by
 induction f with
 | nil=>intro y v e; cases e
 | cons p f ih =>
  intro y v e
  unfold fm at e
  by_cases h : y = p.1
  ·rw [h]; exact .head _
  ·rw [if_neg h] at e; exact .tail _ (ih y v e)
noncomputable def keyN (v : Value) : Str:=match v with | .str x _=>x | _=>default
theorem DOf.size {f : Fm} {o : Obj} (d : DOf f o) (hf : f.length <= 1000) : o.data.pastItsLine = none:=by
 obtain ⟨es, ep, d1, d2, d3, d4⟩:=d
 rw [d1]
 refine pastItsLine_dict ?_
 have : (es.toList.map fun e=>keyN e.key).length <= (f.map (·.1)).length:=by
  refine nodup_len _ _ ?_ fun x hx=>?_
  ·refine List.pairwise_map.mpr (d3.imp_of_mem fun {a b} ha hb hab e=>?_)
   refine xe2 (d2 a (Array.mem_toList_iff.mp ha)) fun n t q=>?_
   refine xe2 (d2 b (Array.mem_toList_iff.mp hb)) fun n' t' q'=>?_
   rw [q, q'] at e
   have e' : n = n':=e
   subst e'
   exact hab n (by rw [q]; simp [Value.isStr]) (by rw [q']; simp [Value.isStr])
  ·refine xea (lmm hx) fun e he e62=>?_; obtain rfl:=e62
   refine xe2 (d2 e (Array.mem_toList_iff.mp he)) fun n t q=>?_
   have:=d4 n
   have hs : (es.toList.find? (fun v=>v.key.isStr n)).isSome = true:=by
    rw [List.find?_isSome]; exact ⟨e, he, by rw [q]; simp [Value.isStr]⟩
   unfold nsFind findBy at this
   rw [<- Array.find?_toList] at this
   refine xe (Option.isSome_iff_exists.mp hs) fun e' he'=>?_
   rw [he'] at this
   rw [q]
   exact fm_mem f n e'.val this.symm
 rw [lMa, lMa] at this
 rw [sE]
 have : es.size = es.toList.length:=rfl
 lia
theorem DOf.look {f : Fm} {o : Obj} (d : DOf f o) (y : Str) : lookIn y o = some (fm f y):=by
 obtain ⟨es, ep, d1, d2, _, d3⟩:=d
 unfold lookIn
 rw [d1]
 dsimp only
 have hr : es.toList.any (·.refKey) = false:=by
  rw [List.any_eq_false]
  intro e he
  refine xe2 (d2 e (Array.mem_toList_iff.mp he)) fun n t h=>?_
  simp [DictEntry.refKey, h]
 have:=d3 y
 unfold nsFind findBy at this
 rw [hr, <- this, <- Array.find?_toList]
 cases es.toList.find? (·.key.isStr y) <;> rfl
structure Cls (P : Params) (C : Addr) : Prop where
 cd : ∃ cd, clsIn (KM P) C = some cd /\ cd.hasDict = true /\ cd.mro.isEmpty = false /\ cd.mro.contains (.type "object") = true /\ ∀ self, refuseLoop self "__setattr__" cd.mro = pure ()
 gt : findIn (KM P) (.ref C) "__getattr__" = some none
 sa : findIn (KM P) (.ref C) "__setattr__" = some (some (.builtin "object.__setattr__"))
noncomputable def cdOf (o : Obj) : ClassData:=match o.data with | .cls cd=>cd | _=>{ name:=default, bases:=[], mro:=[], ns:=0 }
theorem cls116 (P : Params) : Cls P 116:=⟨⟨cdOf (o116 P), by kernel_rfl, by kernel_rfl, by kernel_rfl, by kernel_rfl, fun _=>by kernel_rfl⟩, by kernel_rfl, by kernel_rfl⟩
theorem cls200 (P : Params) : Cls P 200:=⟨⟨cdOf (o200 P), by kernel_rfl, by kernel_rfl, by kernel_rfl, by kernel_rfl, fun _=>by kernel_rfl⟩, by kernel_rfl, by kernel_rfl⟩
section
variable {c : Cx} {A : Around} {G h : Heap} {g : Gs} {env : Env} {L : Addr} {f : Fm} {l : List (Addr × Obj)}
structure Ins (h : Heap) (x C dx : Addr) (ox od : Obj) : Prop where
 x : h.get? x = some ox
 d : h.get? dx = some od
 cls : ox.cls = .ref C
 dict : ox.dict = some dx
 no : notCls ox = true
theorem Ins.at {h : Heap} {x C dx : Addr} {ox od : Obj} (I : Ins h x C dx ox od) : InstAt h x ox C (some od):=⟨I.x, I.cls, I.no, by rw [I.dict]; exact I.d⟩
theorem W.getA {x C dx : Addr} {ox od : Obj} {fd : Fm} {name : Str} {v : Value} {expr : Bool} {Q : PV} (X : TopIn c.w.params G) (S : Sub G h) (Y : Cls c.w.params C) (ga : findIn (KM c.w.params) (.ref C) "__getattribute__" = some (some (.builtin "object.__getattribute__"))) (I : Ins h x C dx ox od) (d : DOf fd od) (hx : fm fd name = some v) (hv : handedIn v = true)
  (hn : findIn (KM c.w.params) (.ref C) name = some none) (y : Q v h g) : W c A (getAttr (.ref x) name expr) Q h g:=fun tk=>by
 refine xea4 Y.cd fun cd h1 h2 h3 h4 h5=>?_
 refine get_value (s:=⟨h, g, c.d, tk, c.os⟩) (X.keeps S) I.at ga ?_ hv ⟨rfl, rfl, y⟩
 unfold findObj W.ownOf
 rw [h1, Option.bind_some, hn, Option.bind_some]
 dsimp only [Option.bind_some]
 rw [h2, if_pos rfl, d.look, hx]
 rfl
theorem W.attr {e : Expr} {attr : Str} {pos : Pos} {Q : PV} (y : W c A (eval e env) (fun o h1 g1=>W c A (getAttr o attr true) Q h1 g1) h g)
  (he : eval (.Attribute e attr pos) env = (do
   let o <- eval e env
   PySem.standAt pos.atName
   let r <- PySem.holding [o] (getAttr o attr true)
   letTemporaryGo e o r
   Pure.pure r):=by kernel_rfl) : W c A (eval (.Attribute e attr pos) env) Q h g :=
 fun tk=>Attribute_any_ (wM (y tk) (fun _ _ z=>z.2.2.at z.1 z.2.1) fun _ _ z=>z) he
theorem W.assignA {o : Expr} {attr : Str} {pos' pos : Pos} {value : Expr} {Q : PF}
  (y : W c A (eval value env) (fun v h1 g1=>W c A (eval o env) (fun ov h2 g2=>W c A (setAttr ov attr v) (fun _=>Q .next) h2 g2) h1 g1) h g)
  (hs : swapsWith value (some (.Attribute o attr pos')) pos.line env = Pure.pure false:=by kernel_rfl) : W c A (exec (.Assign [.Attribute o attr pos'] value pos) env) Q h g :=
 fun tk=>plainObj_wpAny_Assign_Attribute (wM (y tk) (fun _ _ z=>wM (z.2.2.at z.1 z.2.1) (fun _ _ z=>z.2.2.at z.1 z.2.1) fun _ _ z=>z) fun _ _ z=>z) hs
theorem W.setA {x C dx : Addr} {ox od : Obj} {fd fd' : Fm} {name : Str} {v : Value} {Q : Unit -> Heap -> Gs -> Prop} (X : TopIn c.w.params G) (S : Sub G h) (Y : Cls c.w.params C) (I : Ins h x C dx ox od) (d : DOf fd od) (hx : (fun y=>if y = name then some v else fm fd y) = fm fd') (hz : fd'.length <= 1000)
  (hn : takerIn (KM c.w.params) C name = some none)
  (y : ∀ h' od', DOf fd' od' -> h'.get? dx = some od' -> (∀ b o, b ≠ dx -> h.get? b = some o -> h'.get? b = some o) -> Q () h' g) : W c A (setAttr (.ref x) name v) Q h g:=fun tk=>by
 refine xea4 Y.cd fun cd h1 h2 h3 h4 h5=>?_
 have Xh:=X.keeps S
 have IA:=I.at
 refine set_plain (s:=⟨h, g, c.d, tk, c.os⟩) Xh IA Y.sa ?_
 have SF:=PySem.F.store_object
 have sub : Looks (model PW c.w) h (isInstance (.ref x) (.type "object")) true:=IA.type.andThen (looks_mroIn Xh (by unfold mroIn; rw [h1, Option.bind_some, if_neg (by rw [h3]; decide), h4]))
 refine codeAny_call_builtin SF.slot.plain SF.entry (@check_slot (model PW c.w) _ _ ⟨h, g, c.d, tk + 1, c.os⟩ "object.__setattr__" "object" "__setattr__" (.ref x) [.str name tk, v] [] _ SF.kind SF.split sub (SF.args (.ref x) (.str name tk) v) ?_)
 refine xea (Option.bind_eq_some_iff.mp hn) fun attr ha hr=>?_
 have hm : Looks (model PW c.w) h (mroOf (.ref C)) cd.mro:=(looks_clsIn Xh h1).andThen .now
 have L3 : Looks (model PW c.w) h (storeTaker? attr) none:=by
  cases attr with
  | none=>exact .now
  | some a =>
   refine xea (Option.map_eq_some_iff.mp hr) fun b hb q=>?_
   refine (looks_takesIn Xh hb).andThen ?_
   cases b
   ·exact .now
   ·cases q
 rw [osa_eq, refuse_eq]
 refine wB (wB (IA.type.here (wB (hm.here ?_))))
 rw [h5]
 refine wP (wB (IA.type.here (wB ((looks_findIn Xh ha).here (wB (L3.here ?_))))))
 obtain ⟨hx1, hx2, hcl, hdd, hno⟩:=I
 obtain ⟨oc, odi, oda, osl⟩:=ox
 dsimp only at hcl hdd
 subst hcl hdd
 refine wB (wP (wB (wB (wpAny_loadPart hx1 (wB ((looks_clsIn Xh h1).here ?_))))))
 rw [h2]
 refine wP (a:=some dx) (wB (wP (wB ?_)))
 refine wpAny_nsSet1 (d.ns hx2) fun h' hn' hs'=>?_
 refine xea (DOf.of (f:=fd') (by rw [<- hx]; exact hn')) fun od' e' d'=>?_
 refine wB (wpAny_lookBehind e' (d'.size hz) (wP ?_))
 exact ⟨rfl, rfl, y h' od' d' e' fun b o nb e=>(hs'.2 b nb).trans e⟩
theorem W.methF {x C dx : Addr} {ox od : Obj} {fd : Fm} {name : Str} {pl : Sem Bool} {fa : Addr} {Q : Value × List Value -> Heap -> Gs -> Prop} (ga : String) (X : TopIn c.w.params G) (S : Sub G h) (Y : Cls c.w.params C)
  (hga : findIn (KM c.w.params) (.ref C) "__getattribute__" = some (some (.builtin ga))) (hcan : (Manifest.canonical ga != "object.__getattribute__") = false) (I : Ins h x C dx ox od) (d : DOf fd od) (hx : fm fd name = none)
  (hn : findIn (KM c.w.params) (.ref C) name = some (some (.ref fa))) (ht : typeIn (KM c.w.params) (.ref fa) = some (.type "function")) (y : Q (.ref fa, [.ref x]) h g) : W c A (getMethod (.ref x) name pl) Q h g:=fun tk=>by
 have Xh:=X.keeps S
 have IA:=I.at
 unfold getMethod specialOf
 refine wB (wB (IA.type.here ((looks_findIn Xh hga).here ?_)))
 dsimp only
 rw [hcan, if_neg (by decide)]
 refine wB (wB (IA.type.here ((looks_findIn Xh Y.gt).here ?_)))
 refine wB (wB (IA.type.here ((looks_findIn Xh hn).here (wB ((looks_typeIn Xh ht).here ?_)))))
 rw [if_neg (by decide +kernel)]
 refine wB (wpAny_loadPart I.x ?_)
 rw [I.dict]
 refine wB (wB (wpAny_loadPart I.d ?_))
 rw [nsLook_of (d.look name), hx]
 exact wP (wB (wpAny_rule (wP ⟨rfl, rfl, y⟩)))
theorem W.methB {x C dx : Addr} {ox od : Obj} {fd : Fm} {name : Str} {pl : Sem Bool} {id : String} {Q : Value × List Value -> Heap -> Gs -> Prop} (ga : String) (X : TopIn c.w.params G) (S : Sub G h) (Y : Cls c.w.params C)
  (hga : findIn (KM c.w.params) (.ref C) "__getattribute__" = some (some (.builtin ga))) (hcan : (Manifest.canonical ga != "object.__getattribute__") = false) (I : Ins h x C dx ox od) (d : DOf fd od) (hx : fm fd name = none)
  (hn : findIn (KM c.w.params) (.ref C) name = some (some (.builtin id))) (ht : typeIn (KM c.w.params) (.builtin id) = some (.type "method_descriptor")) (y : Q (.builtin id, [.ref x]) h g) : W c A (getMethod (.ref x) name pl) Q h g:=fun tk=>by
 have Xh:=X.keeps S
 have IA:=I.at
 unfold getMethod specialOf
 refine wB (wB (IA.type.here ((looks_findIn Xh hga).here ?_)))
 dsimp only
 rw [hcan, if_neg (by decide)]
 refine wB (wB (IA.type.here ((looks_findIn Xh Y.gt).here ?_)))
 refine wB (wB (IA.type.here ((looks_findIn Xh hn).here (wB ((looks_typeIn Xh ht).here ?_)))))
 rw [if_neg (by decide +kernel)]
 refine wB (wpAny_loadPart I.x ?_)
 rw [I.dict]
 refine wB (wB (wpAny_loadPart I.d ?_))
 rw [nsLook_of (d.look name), hx]
 exact wP (wB (wpAny_rule (wP ⟨rfl, rfl, y⟩)))
theorem lga_entry : entryFor table "list.__getattribute__" = some Builtin.«object.__getattribute__» :=
 entryFor_alias (id':="object.__getattribute__") (by rw [fastTable_eq_tree]; kernel_rfl) (by decide +kernel) (by decide +kernel) (by rw [fastTable_eq_tree]; kernel_rfl)
theorem lga_kind : builtinKind "list.__getattribute__" = some .slot:=by decide +kernel
theorem lga_split : splitId "list.__getattribute__" = some ("list", "__getattribute__"):=by decide +kernel
theorem lga_plain : plainId "list.__getattribute__" = true:=by decide +kernel
theorem lga_args (a b : Value) : argsOk "list.__getattribute__" ⟨[a, b], []⟩:=by unfold argsOk; kernel_rfl
theorem lga_bind (self : Value) : bindSpecial (.builtin "list.__getattribute__") self = Pure.pure (.builtin "list.__getattribute__", [self]) :=
 (Slot.of (T:="list") (name:="__getattribute__") (owner:="list") (n:="__getattribute__") (by rw [typeLookup_type, builtinLookup_eq_fast]; kernel_rfl) (by decide +kernel) (by decide +kernel) (by decide +kernel)
  (.inl (by decide +kernel)) (by rw [isSubtype_type]; kernel_rfl)).bind self
theorem W.getL {x C dx : Addr} {ox od : Obj} {fd : Fm} {name : Str} {v : Value} {expr : Bool} {Q : PV} (X : TopIn c.w.params G) (S : Sub G h) (Y : Cls c.w.params C)
  (ga : findIn (KM c.w.params) (.ref C) "__getattribute__" = some (some (.builtin "list.__getattribute__"))) (hl : mroIn (KM c.w.params) C (.type "list") = some true) (I : Ins h x C dx ox od) (d : DOf fd od) (hx : fm fd name = some v) (hv : handedIn v = true)
  (hn : findIn (KM c.w.params) (.ref C) name = some none) (y : Q v h g) : W c A (getAttr (.ref x) name expr) Q h g:=fun tk=>by
 refine xea4 Y.cd fun cd h1 h2 h3 h4 h5=>?_
 have Xh:=X.keeps S
 have IA:=I.at
 have ff : findObj (KM c.w.params) C (some od) name = some (.value v):=by
  unfold findObj W.ownOf
  rw [h1, Option.bind_some, hn, Option.bind_some]
  dsimp only [Option.bind_some]
  rw [h2, if_pos rfl, d.look, hx]
  rfl
 have L0:=IA.type (M:=model PW c.w)
 have L1:=looks_findIn (M:=model PW c.w) Xh ga
 have L2:=looks_find (M:=model PW c.w) Xh IA ff
 have LI : Looks (model PW c.w) h (isInstance (.ref x) (.type "list")) true:=L0.andThen (looks_mroIn Xh hl)
 unfold getAttr getAttrBy
 refine wB (wpAny_mkText (wpAny_holding (wB (L0.at (wB (L1.at ?_))))))
 show wpAny _ _ (getAttrByItsOwn _ _ _ _ _ _) _ _ _
 unfold getAttrByItsOwn hookBefore
 refine wB ((looks_findIn Xh Y.gt).at ?_)
 refine wB (wpAny_attempt (wpAny_holding ?_))
 unfold callGetattribute
 rw [show (expr && onTheHeap (.builtin "list.__getattribute__")) = false by cases expr <;> rfl, if_neg (by decide)]
 unfold boundAndCalled
 rw [lga_bind]
 refine wB (wP (wpAny_call ?_))
 refine codeAny_call_builtin lga_plain lga_entry (@check_slot (model PW c.w) _ _ _ "list.__getattribute__" "list" "__getattribute__" (.ref x) [.str name tk] [] _ lga_kind lga_split LI (lga_args _ _) ?_)
 refine wB (wP (wB (wP (wB (L0.at (wB (L2.at ?_)))))))
 refine wP ?_
 show wpAny _ _ (handedOut v) _ _ _
 rw [handedOut_of hv]; exact wP ⟨rfl, rfl, y⟩
end
end
section
open Builtin Builtin.ObjectAttr
theorem check_meth {M : Model} {A : Around} {E : Value -> Shared -> Prop} {s : Shared} {i owner n : String} {self : Value} {rest : List Value} {kw : List (Str × Value)} {Q : Unit -> Shared -> Prop}
  (hk : builtinKind i = some .method) (hs : splitId i = some (owner, n)) (hi : Looks M s.heap (isInstance self (.type owner)) true) (ha : argsOk i ⟨self :: rest, kw⟩) (q : Q () s) :
  wpAny M A (checkBuiltinCall i ⟨self :: rest, kw⟩) Q E s:=by
 simp only [checkBuiltinCall, hk, hs]
 refine wB (hi.here ?_)
 cases hsig : Manifest.signature? i with
 | none=>exact wP q
 | some sig =>
  simp only [argsOk, hsig] at ha
  have h2 : Bind.checkArgs i sig ⟨self :: rest, kw⟩ = pure ():=ha
  show wpAny M A (Bind.checkArgs i sig ⟨self :: rest, kw⟩) Q E s
  rw [h2]; exact wP q
structure LB (id : String) (b : Builtin) : Prop where
 plain : plainId id = true
 entry : entryFor table id = some b
 kind : builtinKind id = some .slot \/ builtinKind id = some .method
 split : ∃ n, splitId id = some ("list", n)
theorem lb_getitem : LB "list.__getitem__" Builtin.«list.__getitem__»:=⟨by decide +kernel, entryFor_of_tree (by kernel_rfl), by decide +kernel, ⟨"__getitem__", by decide +kernel⟩⟩
theorem lb_setitem : LB "list.__setitem__" Builtin.«list.__setitem__»:=⟨by decide +kernel, entryFor_of_tree (by kernel_rfl), by decide +kernel, ⟨"__setitem__", by decide +kernel⟩⟩
theorem lb_append : LB "list.append" Builtin.«list.append»:=⟨by decide +kernel, entryFor_of_tree (by kernel_rfl), by decide +kernel, ⟨"append", by decide +kernel⟩⟩
theorem lb_pop : LB "list.pop" Builtin.«list.pop»:=⟨by decide +kernel, entryFor_of_tree (by kernel_rfl), by decide +kernel, ⟨"pop", by decide +kernel⟩⟩
theorem lb_len : LB "list.__len__" Builtin.«list.__len__»:=⟨by decide +kernel, entryFor_of_tree (by kernel_rfl), by decide +kernel, ⟨"__len__", by decide +kernel⟩⟩
theorem lb_iter : LB "list.__iter__" Builtin.«list.__iter__»:=⟨by decide +kernel, entryFor_of_tree (by kernel_rfl), by decide +kernel, ⟨"__iter__", by decide +kernel⟩⟩
theorem lb_init : LB "list.__init__" Builtin.«list.__init__»:=⟨by decide +kernel, entryFor_of_tree (by kernel_rfl), by decide +kernel, ⟨"__init__", by decide +kernel⟩⟩
section
variable {c : Cx} {A : Around} {G h : Heap} {g : Gs} {env : Env} {L : Addr} {f : Fm} {l : List (Addr × Obj)}
noncomputable abbrev accO (dy : Addr) (vs : List Value) (n : Nat) : Obj:=⟨.ref 200, some dy, .seq vs.toArray n, #[]⟩
noncomputable abbrev fSz (v : Option Value) : Fm:=[("_initial_size", v)]
structure Acc (h : Heap) (y dy : Addr) (vs : List Value) (n : Nat) (od : Obj) (sz : Option Value) : Prop where
 x : h.get? y = some (accO dy vs n)
 d : h.get? dy = some od
 f : DOf (fSz sz) od
theorem Acc.ins {y dy : Addr} {vs : List Value} {n : Nat} {od : Obj} {sz : Option Value} (a : Acc h y dy vs n od sz) : Ins h y 200 dy (accO dy vs n) od:=⟨a.x, a.d, rfl, rfl, rfl⟩
theorem lists200 (P : Params) : mroIn (KM P) 200 (.type "list") = some true:=by kernel_rfl
theorem callSub {M : Model} {E : Value -> Shared -> Prop} {s : Shared} {id : String} {b : Builtin} {self : Value} {rest : List Value} {R : Result -> Shared -> Prop} {w : World} (B : LB id b) (hi : Looks (model PW w) s.heap (isInstance self (.type "list")) true) (ha : argsOk id ⟨self :: rest, []⟩)
  (hc : wpAny (model PW w) A.in1 (b ⟨self :: rest, []⟩) (fun fin s'=>match fin with | .done f=>R (.ok f) s' | .again c'=>c'.quiet = true /\ codeAny (model PW w) A c' R s') (fun e s'=>R (.error e) s') s) : codeAny (model PW w) A (.call (.builtin id) ⟨self :: rest, []⟩) R s:=by
 refine xe B.split fun n hn=>?_
 refine codeAny_call_builtin B.plain B.entry ?_
 rcases B.kind with k | k
 ·exact check_slot k hn hi ha hc
 ·exact check_meth k hn hi ha hc
theorem Acc.lst {y dy : Addr} {vs : List Value} {n : Nat} {od : Obj} {sz : Option Value} (X : TopIn c.w.params h) (a : Acc h y dy vs n od sz) : Looks (model PW c.w) h (isInstance (.ref y) (.type "list")) true :=
 a.ins.at.type.andThen (looks_mroIn X (lists200 _))
theorem W.appS {y dy : Addr} {vs : List Value} {n : Nat} {od : Obj} {sz : Option Value} {v : Value} {Q : PV} (X : TopIn c.w.params G) (S : Sub G h) (a : Acc h y dy vs n od sz) (hz : vs.length <= 100000)
  (k : ∀ h' n', h'.get? y = some (accO dy (vs ++ [v]) n') -> (∀ b o, b ≠ y -> h.get? b = some o -> h'.get? b = some o) -> Q .none h' g) : W c A (call (.builtin "list.append") [.ref y, v]) Q h g:=fun tk=>by
 refine wpAny_call (callSub (M:=model PW c.w) (E:=fun _ _=>False) lb_append (Acc.lst (X.keeps S) a) (by unfold argsOk; kernel_rfl) ?_)
 show wpAny _ _ (updateSeq y (·.push v) >>= fun _=>PySem.ret .none) _ _ _
 refine wB (wpAny_updateSeq a.x rfl (wP ?_) (by simp [sE]; exact lT hz (by decide)) (by simp [sE]; exact lT hz (by decide)))
 have U:=upd_get (F:=Obj.mapSeq (·.push v)) a.x rfl
 refine ⟨rfl, rfl, k _ (n + 1) (U.1.trans ?_) U.2⟩
 congr 1
 show (⟨_, _, .seq _ (if _ then _ else _), _⟩ : Obj) = _
 rw [if_neg (by simp)]
 simp
theorem seqKey {y dy : Addr} {vs : List Value} {n : Nat} {od : Obj} {sz : Option Value} {k : Value} {name : Str} {E : Value -> Shared -> Prop} {s : Shared} {Q : Value -> Shared -> Prop} (X : TopIn c.w.params s.heap) (a : Acc s.heap y dy vs n od sz) (q : Q k s) :
  wpAny (model PW c.w) A (sequenceKey (.ref y) k name) Q E s:=by
 have T:=a.ins.at.type (M:=model PW c.w)
 unfold sequenceKey
 refine wB (T.here ?_)
 refine wB ((anyM_none X (l:=seqItemTypes) (C:=200) (by kernel_rfl)).here ?_)
 rw [if_pos (show (!false) = true from rfl)]
 exact wP q
theorem specSub {y dy : Addr} {vs : List Value} {n : Nat} {od : Obj} {sz : Option Value} {name : Str} {id : String} {b : Builtin} {args : List Value} {E : Value -> Shared -> Prop} {s : Shared} {Q : Option Value -> Shared -> Prop} (X : TopIn c.w.params s.heap) (a : Acc s.heap y dy vs n od sz) (B : LB id b)
  (hf : findIn (KM c.w.params) (.ref 200) name = some (some (.builtin id))) (hb : ∀ self, bindSpecial (.builtin id) self = Pure.pure (.builtin id, [self])) (ha : argsOk id ⟨.ref y :: args, []⟩)
  (q : wpAny (model PW c.w) A.in1 (b ⟨.ref y :: args, []⟩) (fun fin s'=>∃ v, fin = .done (.ret v) /\ Q (some v) s') E s) : wpAny (model PW c.w) A (callSpecial? (.ref y) name args) Q E s:=by
 have T:=a.ins.at.type (M:=model PW c.w)
 unfold callSpecial? specialOf
 refine wB (wB (T.here ((looks_findIn X hf).here (wpAny_holding ?_))))
 rw [hb]
 refine wB (wP (wB (wpAny_call ?_)))
 refine callSub (M:=model PW c.w) (E:=E) B (Acc.lst X a) ha (wM q (fun fin s' z=>?_) fun _ _ z=>z)
 obtain ⟨v, rfl, z⟩:=z
 exact wP z
theorem W.getIS {y dy : Addr} {vs : List Value} {n : Nat} {od : Obj} {sz : Option Value} {i : Int} {t : Tok} {v : Value} {Q : PV} (X : TopIn c.w.params G) (S : Sub G h) (a : Acc h y dy vs n od sz) (h0 : 0 <= i) (h2 : i < 2 ^ 63) (hv : vs[i.toNat]? = some v)
  (k : Q v h g) : W c A (getItem (.ref y) (.int i t)) Q h g:=fun tk=>by
 have Xh:=X.keeps S
 unfold getItem
 refine wpAny_holding (wB (seqKey (s:=⟨h, g, c.d, tk, c.os⟩) Xh a (wB (specSub (s:=⟨h, g, c.d, tk, c.os⟩) Xh a lb_getitem (by kernel_rfl) slot_list_getitem.bind (args_list_getitem _ _) ?_))))
 show wpAny _ _ (Builtin.List.listSubscript? (.int i t) >>= _) _ _ _
 refine wB (wpAny_listSubscript_int (fitsIndex_of h0 h2) ?_)
 clear h2
 refine xe (Int.eq_ofNat_of_zero_le h0) fun j e21=>?_; obtain rfl:=e21
 have hx' : vs.toArray[j]? = some v:=by simpa using hv
 show wpAny _ _ ((seqItemAt y j >>= fun r=>Pure.pure (r.map (j, ·))) >>= _) _ _ _
 refine wB (wB (wpAny_seqItemAt a.x rfl (wP ?_)))
 rw [hx']
 first
  | exact wB (wP (wP ⟨v, rfl, wP ⟨rfl, rfl, k⟩⟩))
  | exact wP ⟨v, rfl, wP ⟨rfl, rfl, k⟩⟩
theorem getSl {y dy sl : Addr} {vs : List Value} {n : Nat} {od : Obj} {sz : Option Value} {vl vu : Value} {lo hi : Option Int} {E : Value -> Shared -> Prop} {s : Shared} {Q : Value -> Shared -> Prop} (X : TopIn c.w.params s.heap) (a : Acc s.heap y dy vs n od sz) (hs : s.heap.IsSliceOf sl vl vu .none) (pl : IsPart vl lo) (pu : IsPart vu hi) (hz : vs.length <= 100000)
  (q : Q (.ref s.heap.objs.size) { s with heap:=s.heap.push (lst (cutL vs lo hi) 0) }) : wpAny (model PW c.w) A (getItem (.ref y) (.ref sl)) Q E s:=by
 obtain ⟨os, hos, hcs, hds⟩:=id hs
 have hTs : s.TypeIs (.ref sl) "slice":=⟨os, hos, hcs⟩
 unfold getItem
 refine wpAny_holding (wB (seqKey X a (wB (specSub X a lb_getitem (by kernel_rfl) slot_list_getitem.bind (args_list_getitem _ _) ?_))))
 show wpAny _ _ (Builtin.List.listSubscript? (.ref sl) >>= _) _ _ s
 refine wB ?_
 unfold Builtin.List.listSubscript?
 refine wB (wpAny_specialOf hTs slice_no_index ?_)
 dsimp only
 refine wP ?_
 show wpAny _ _ (typeOf (.ref sl) >>= _) _ _ s
 refine wB (wpAny_typeOf hTs ?_)
 rw [if_neg (by decide)]
 rw [listSliceParts_eq]
 refine wB (wB (wpAny_field hos hds (x:=Value.none) rfl (wB (wpAny_listPart (k:=none) .none ?_))))
 rw [if_neg (show ¬ ((rawPart none == rawInt 0) = true) from Bool.false_ne_true)]
 refine wB (wpAny_field hos hds (x:=vl) rfl (wB (wpAny_listPart pl ?_)))
 refine wB (wpAny_field hos hds (x:=vu) rfl (wB (wpAny_listPart pu (wP ?_))))
 refine wB (m:=Builtin.List.listItems (.ref y)) ?_
 unfold Builtin.List.listItems
 refine wB (wpAny_seqItems a.x rfl (wP ?_))
 refine wB (wpAny_of_eq (sliceIndices_raw lo hi none vs.toArray.size (by simp)) ?_)
 refine wB (wpAny_newObj_type (wP ⟨_, rfl, wP ?_⟩) (lT (slicePick_size_le vs.toArray lo hi none) (by simp [sE]; exact lT hz (by decide))))
 have e:=cut_listOf vs lo hi
 unfold slicePick at e
 rw [e]
 exact q
end
end
section
open Builtin Builtin.ObjectAttr
theorem sb_from (i : Nat) (n : Nat) (h : i <= n) : sliceBounds (some (i : Int)) none none n = ((i : Int), (n : Int), 1):=by
 unfold sliceBounds
 have : ¬ ((i : Int) < 0):=by simp
 simp [this]; lia
theorem sb_all (n : Nat) : sliceBounds none none none n = (0, (n : Int), 1):=by
 unfold sliceBounds; simp
theorem sb_to0 (n : Nat) : sliceBounds none (some 0) none n = (0, 0, 1):=by
 unfold sliceBounds; simp; rfl
theorem mapSeq_data {o : Obj} {xs : Array Value} {n : Nat} {F : Array Value -> Array Value} (hd : o.data = .seq xs n) : ∃ m, Obj.mapSeq F o = { o with data:=.seq (F xs) m }:=by
 obtain ⟨a, b, d, s⟩:=o
 dsimp only at hd; subst hd
 exact ⟨_, rfl⟩
section
variable {M : Model} {A : Around} {E : Value -> Shared -> Prop} {s : Shared}
theorem setSl {a sl z : Addr} {o : Obj} {vs zs : List Value} {n : Nat} {vl vu : Value} {lo hi : Option Int} {st sp : Nat} {Q : Fin -> Shared -> Prop} (ho : s.heap.get? a = some o) (hd : o.data = .seq vs.toArray n) (hs : s.heap.IsSliceOf sl vl vu .none) (pl : IsPart vl lo) (pu : IsPart vu hi)
  (hb : sliceBounds lo hi none vs.length = ((st : Int), (sp : Int), 1)) (hz : s.heap.IsList z zs.toArray) (hne : (a == z) = false) (h1 : vs.length <= 100000) (h2 : zs.length <= 100000)
  (q : ∀ h' m, h'.get? a = some { o with data:=.seq (vs.take st ++ zs ++ vs.drop (max st sp)).toArray m } -> (∀ b ob, b ≠ a -> s.heap.get? b = some ob -> h'.get? b = some ob) -> Q (.done (.ret .none)) { s with heap:=h' }) :
  wpAny M A (Builtin.«list.__setitem__» ⟨[.ref a, .ref sl, .ref z], []⟩) Q E s:=by
 obtain ⟨os, hos, hcs, hds⟩:=id hs
 have hTs : s.TypeIs (.ref sl) "slice":=⟨os, hos, hcs⟩
 have hTz : s.TypeIs (.ref z) "list":=hz.typeIs
 obtain ⟨oz, hoz, hcz, nz, hdz⟩:=id hz
 show wpAny _ _ (Builtin.List.listSubscript? (.ref sl) >>= _) _ _ s
 refine wB ?_
 unfold Builtin.List.listSubscript?
 refine wB (wpAny_specialOf hTs slice_no_index ?_)
 refine wP ?_
 show wpAny _ _ (typeOf (.ref sl) >>= _) _ _ s
 refine wB (wpAny_typeOf hTs ?_)
 rw [if_neg (by decide)]
 rw [listSliceParts_eq]
 refine wB (wB (wpAny_field hos hds (x:=Value.none) rfl (wB (wpAny_listPart (k:=none) .none ?_))))
 rw [if_neg (show ¬ ((rawPart none == rawInt 0) = true) from Bool.false_ne_true)]
 refine wB (wpAny_field hos hds (x:=vl) rfl (wB (wpAny_listPart pl ?_)))
 refine wB (wpAny_field hos hds (x:=vu) rfl (wB (wpAny_listPart pu (wP ?_))))
 dsimp only
 rw [show Builtin.List.listSameRef (.ref a) (.ref z) = false from hne, if_neg (by decide)]
 have new : ∀ (Q' : Array Value -> Shared -> Prop), Q' zs.toArray s -> wpAny M A (Builtin.List.listAllItems (.ref z) "must assign iterable to extended slice") Q' E s:=fun Q' q'=>by
  unfold Builtin.List.listAllItems
  refine wB (wpAny_typeOf hTz ?_)
  rw [if_pos (by decide)]
  unfold Builtin.List.listItems
  exact wB (wpAny_seqItems hoz hdz (wP q'))
 refine wB (new _ ?_)
 refine wB (m:=Builtin.List.listItems (.ref a)) ?_
 unfold Builtin.List.listItems
 refine wB (wpAny_seqItems ho hd (wP ?_))
 refine wB (wpAny_of_eq (sliceIndices_raw lo hi none vs.toArray.size (by simp)) ?_)
 rw [List.size_toArray, hb]
 dsimp only
 rw [if_pos (by decide)]
 refine wB (wpAny_rule ?_)
 rw [if_neg (by unfold Builtin.List.listTooLong; rw [sE]; simp; lia)]
 obtain ⟨m, hm⟩:=mapSeq_data (F:=fun xs=>xs.extract 0 (st : Int).toNat ++ zs.toArray ++ xs.extract (max (st : Int) (sp : Int)).toNat xs.size) hd
 have hu:=upd_get (F:=Obj.mapSeq fun xs=>xs.extract 0 (st : Int).toNat ++ zs.toArray ++ xs.extract (max (st : Int) (sp : Int)).toNat xs.size) ho (by rw [hm]; rfl)
 have em : (max (st : Int) (sp : Int)).toNat = max st sp:=by
  rcases Nat.le_total st sp with q | q
  ·rw [Int.max_eq_right (Int.ofNat_le.mpr q), Nat.max_eq_right q]; rfl
  ·rw [Int.max_eq_left (Int.ofNat_le.mpr q), Nat.max_eq_left q]; rfl
 have ex : (vs.toArray.extract 0 (st : Int).toNat ++ zs.toArray ++ vs.toArray.extract (max (st : Int) (sp : Int)).toNat vs.toArray.size) = (vs.take st ++ zs ++ vs.drop (max st sp)).toArray:=by
  rw [em]
  apply Array.ext'
  simp [List.take_of_length_le]
 refine wB (wpAny_updateSeq ho hd ?_ (by simp [sE]; exact lT h1 (by decide)) (by rw [ex]; simp [sE]; exact lT (Nat.add_le_add (lT (Nat.min_le_right _ _) h1) (Nat.add_le_add h2 (lT (Nat.sub_le _ _) h1))) (by decide)))
 refine wB (wpAny_letGo (wP ?_))
 refine q _ m (hu.1.trans ?_) hu.2
 rw [hm, ex]
end
end
section
open Builtin Builtin.ObjectAttr
noncomputable abbrev supO (y : Addr) : Obj:={ cls:=.type "super", dict:=none, data:=.fields #[.ref 200, .ref y, .ref 200], slots:=#[] }
noncomputable abbrev bndO (T : String) (id : String) (y : Addr) : Obj:={ cls:=.type T, dict:=none, data:=.fields #[.builtin id, .ref y], slots:=#[] }
structure SupB (T g B id : String) : Prop where
 ty : fastBuiltinType id = Pure.pure (.type T)
 slot : Slot T "__get__" g
 get : ∀ {M : Model} {A : Around} {E : Value -> Shared -> Prop} {s : Shared} {y : Addr} {Q : Fin -> Shared -> Prop}, Looks M s.heap (isInstance (.ref y) (.type "list")) true -> Q (.done (.ret (.ref s.heap.objs.size))) { s with heap:=s.heap.push (bndO B id y) } ->
  ∃ b, entryFor table g = some b /\ wpAny M A (b ⟨[.builtin id, .ref y, .ref 200], []⟩) Q E s
 args : ∀ y, argsOk g ⟨[.builtin id, .ref y, .ref 200], []⟩
theorem slot_md : Slot "method_descriptor" "__get__" "method_descriptor.__get__":=.of (owner:="method_descriptor") (n:="__get__") (by rw [typeLookup_type, builtinLookup_eq_fast]; kernel_rfl) (by decide +kernel) (by decide +kernel) (by decide +kernel)
 (by first | exact .inl (by decide +kernel) | exact .inr (by decide +kernel)) (by rw [isSubtype_type]; kernel_rfl)
theorem slot_wd : Slot "wrapper_descriptor" "__get__" "wrapper_descriptor.__get__":=.of (owner:="wrapper_descriptor") (n:="__get__") (by rw [typeLookup_type, builtinLookup_eq_fast]; kernel_rfl) (by decide +kernel) (by decide +kernel) (by decide +kernel)
 (by first | exact .inl (by decide +kernel) | exact .inr (by decide +kernel)) (by rw [isSubtype_type]; kernel_rfl)
theorem entry_md : entryFor table "method_descriptor.__get__" = some Builtin.«method_descriptor.__get__»:=entryFor_of_tree (by kernel_rfl)
theorem entry_wd : entryFor table "wrapper_descriptor.__get__" = some Builtin.«wrapper_descriptor.__get__»:=entryFor_of_tree (by kernel_rfl)
theorem args_md (a b c : Value) : argsOk "method_descriptor.__get__" ⟨[a, b, c], []⟩:=by unfold argsOk; kernel_rfl
theorem args_wd (a b c : Value) : argsOk "wrapper_descriptor.__get__" ⟨[a, b, c], []⟩:=by unfold argsOk; kernel_rfl
theorem sup_pop : SupB "method_descriptor" "method_descriptor.__get__" "builtin_function_or_method" "list.pop" where
 ty:=by kernel_rfl
 slot:=slot_md
 args:=fun _=>args_md _ _ _
 get:=fun {M A E s y Q} hi q=>by
  obtain ⟨hp, g, d, t, os⟩:=s
  refine ⟨_, entry_md, ?_⟩
  have hh : Manifest.toldItsClass.contains "list.pop" = false:=by decide +kernel
  have e1 : (Value.ref y == Value.none) = false:=rfl
  have e2 : (Value.ref 200 == Value.none) = false:=rfl
  have e3 : ".".intercalate ("list.pop".cutAt '.').dropLast = "list":=by decide +kernel
  have hi' : Looks M hp (isInstance (.ref y) (.type (".".intercalate ("list.pop".cutAt '.').dropLast))) true:=by rw [e3]; exact hi
  unfold Builtin.«method_descriptor.__get__»
  refine wB (m:=(_ : Sem (Value × Option Value × Option Value))) (wP ?_)
  simp only [e1, e2, hh, Bool.false_eq_true, if_false]
  repeat lk
  exact q
theorem sup_len : SupB "wrapper_descriptor" "wrapper_descriptor.__get__" "method-wrapper" "list.__len__" where
 ty:=by kernel_rfl
 slot:=slot_wd
 args:=fun _=>args_wd _ _ _
 get:=fun {M A E s y Q} hi q=>by
  obtain ⟨hp, g, d, t, os⟩:=s
  refine ⟨_, entry_wd, ?_⟩
  have hh : Manifest.toldItsClass.contains "list.__len__" = false:=by decide +kernel
  have e1 : (Value.ref y == Value.none) = false:=rfl
  have e2 : (Value.ref 200 == Value.none) = false:=rfl
  have e3 : ".".intercalate ("list.__len__".cutAt '.').dropLast = "list":=by decide +kernel
  have hi' : Looks M hp (isInstance (.ref y) (.type (".".intercalate ("list.__len__".cutAt '.').dropLast))) true:=by rw [e3]; exact hi
  unfold Builtin.«wrapper_descriptor.__get__»
  refine wB (m:=(_ : Sem (Value × Option Value × Option Value))) (wP ?_)
  simp only [e1, e2, Bool.false_eq_true, if_false]
  repeat lk
  exact q
theorem sup_init : SupB "wrapper_descriptor" "wrapper_descriptor.__get__" "method-wrapper" "list.__init__" where
 ty:=by kernel_rfl
 slot:=slot_wd
 args:=fun _=>args_wd _ _ _
 get:=fun {M A E s y Q} hi q=>by
  obtain ⟨hp, g, d, t, os⟩:=s
  refine ⟨_, entry_wd, ?_⟩
  have hh : Manifest.toldItsClass.contains "list.__init__" = false:=by decide +kernel
  have e1 : (Value.ref y == Value.none) = false:=rfl
  have e2 : (Value.ref 200 == Value.none) = false:=rfl
  have e3 : ".".intercalate ("list.__init__".cutAt '.').dropLast = "list":=by decide +kernel
  have hi' : Looks M hp (isInstance (.ref y) (.type (".".intercalate ("list.__init__".cutAt '.').dropLast))) true:=by rw [e3]; exact hi
  unfold Builtin.«wrapper_descriptor.__get__»
  refine wB (m:=(_ : Sem (Value × Option Value × Option Value))) (wP ?_)
  simp only [e1, e2, Bool.false_eq_true, if_false]
  repeat lk
  exact q
section
variable {c : Cx} {A : Around} {E : Value -> Shared -> Prop} {h : Heap} {g : Gs} {d : Drawn} {t : Nat} {os : OsState}
theorem super_ga {T gg B id : String} {so y : Addr} {name : Str} {tk : Tok} {Q : Fin -> Shared -> Prop} (Y : SupB T gg B id) (X : TopIn c.w.params h) (hso : h.get? so = some (supO y)) (hi : Looks (model PW c.w) h (isInstance (.ref y) (.type "list")) true) (hy : y ≠ 200)
  (hf : ks_superIn (KM c.w.params) 200 200 name = some (some (.builtin id))) (hn : (name == ("__class__" : Str)) = false) (ho : nsIn (KM c.w.params) cStatics "thirdparty.any" = some none)
  (q : Q (.done (.ret (.ref h.objs.size))) ⟨h.push (bndO B id y), g, d, t, os⟩) :
  wpAny (model PW c.w) A (Builtin.«super.__getattribute__» ⟨[.ref so, .str name tk], []⟩) Q E ⟨h, g, d, t, os⟩:=by
 have hno:=looks_opaque (M:=model PW c.w) X ho (C:=200)
 refine xea (Option.bind_eq_some_iff.mp hf) fun cd hc hm=>?_
 have hC : Looks (model PW c.w) h (mroOf (.ref 200)) cd.mro:=(looks_clsIn X hc).andThen .now
 have hne : (Value.ref y == Value.ref 200) = false:=by simpa using hy
 have hT : Looks (model PW c.w) h (typeOf (.builtin id)) (.type T):=Looks.of_pure (by show builtinType id = _; rw [builtinType_eq_fast]; exact Y.ty)
 have hlk:=Y.slot.lookup
 have hdt : (supO y).data = .fields #[.ref 200, .ref y, .ref 200]:=rfl
 have f0 : (#[.ref 200, .ref y, .ref 200] : Array Value)[0]? = some (.ref 200):=rfl
 have f1 : (#[.ref 200, .ref y, .ref 200] : Array Value)[1]? = some (.ref y):=rfl
 have f2 : (#[.ref 200, .ref y, .ref 200] : Array Value)[2]? = some (.ref 200):=rfl
 have get : ∀ (Q' : Value -> Shared -> Prop) (E' : Value -> Shared -> Prop) (A' : Around), Q' (.ref h.objs.size) ⟨h.push (bndO B id y), g, d, t, os⟩ -> wpAny (model PW c.w) A' (call (.builtin gg) [.builtin id, .ref y, .ref 200]) Q' E' ⟨h, g, d, t, os⟩:=fun Q' E' A' q'=>by
  refine xea (Y.get (M:=model PW c.w) (A:=A'.in1) (E:=E') (s:=⟨h, g, d, t, os⟩) (y:=y) (Q:=fun fin s'=>∃ v, fin = .done (.ret v) /\ Q' v s') hi ⟨_, rfl, q'⟩) fun b hb w=>?_
  exact wpAny_call_entry Y.slot (show Shared.TypeIs _ (.builtin id) T by show builtinType id = _; rw [builtinType_eq_fast]; exact Y.ty) hb w (Y.args y)
 unfold Builtin.«super.__getattribute__»
 repeat (first
  | (with_reducible refine wpAny_field hso hdt f0 ?_) | (with_reducible refine wpAny_field hso hdt f1 ?_) | (with_reducible refine wpAny_field hso hdt f2 ?_)
  | (with_reducible refine ks_wpAny_notOpaque hno ?_)
  | (with_reducible refine Looks.at hC ?_)
  | (refine ks_forIn_along X (fun _ _=>rfl) rfl ?_ hm)
  | (with_reducible refine Looks.at hT ?_)
  | (with_reducible refine get _ _ _ ?_)
  | (simp only [hn, hne, Bool.or_false, Bool.false_eq_true, if_false])
  | wp_step
  | dsimp only)
 all_goals exact q
theorem super_meth {T gg B id : String} {so y : Addr} {name : Str} {pl : Sem Bool} {Q : Value × List Value -> Shared -> Prop} (Y : SupB T gg B id) (X : TopIn c.w.params h) (hso : h.get? so = some (supO y)) (hi : Looks (model PW c.w) h (isInstance (.ref y) (.type "list")) true) (hy : y ≠ 200)
  (hf : ks_superIn (KM c.w.params) 200 200 name = some (some (.builtin id))) (hn : (name == ("__class__" : Str)) = false)
  (q : Q (.ref h.objs.size, []) ⟨h.push (bndO B id y), g, d, t + 1, os⟩) : wpAny (model PW c.w) A (getMethod (.ref so) name pl) Q E ⟨h, g, d, t, os⟩:=by
 have hcan:=PySem.F.ks_canon_super_ga
 have hlk:=PySem.F.ks_slot_super_ga.lookup
 have hT : ∀ t', (⟨h, g, d, t', os⟩ : Shared).TypeIs (.ref so) "super":=fun _=>⟨_, hso, rfl⟩
 unfold getMethod
 refine wB (wpAny_specialOf (hT _) hlk ?_)
 show wpAny _ _ (if (Manifest.canonical "super.__getattribute__" != "object.__getattribute__") = true then _ else _) _ _ _
 rw [if_pos hcan]
 unfold getAttr getAttrBy
 refine wB (wB (wpAny_mkText (wpAny_holding (wB (wpAny_typeOf (hT _) (wB (wpAny_of_eq hlk ?_)))))))
 show wpAny _ _ (getAttrByItsOwn (.ref so) (.str name t) (.type "super") (.builtin "super.__getattribute__") true false) _ _ _
 unfold getAttrByItsOwn hookBefore callGetattribute boundAndCalled
 refine wB (wpAny_of_eq (show (if onTheHeap (.type "super") then typeLookup (.type "super") "__getattr__" else Pure.pure none) = Pure.pure none from rfl) ?_)
 refine wB (wpAny_attempt (wpAny_holding ?_))
 show wpAny _ _ (bindSpecial (.builtin "super.__getattribute__") (.ref so) >>= _) _ _ _
 refine wB (wpAny_of_eq (PySem.F.ks_slot_super_ga.bind _) ?_)
 refine wM (Q:=fun v s'=>v = .ref h.objs.size /\ s' = ⟨h.push (bndO B id y), g, d, t + 1, os⟩) (E:=fun _ _=>False)
  (wpAny_call_entry PySem.F.ks_slot_super_ga (hT _) PySem.F.ks_entry_super_ga (super_ga Y X hso hi hy hf hn (by kernel_rfl) ⟨_, rfl, rfl, rfl⟩) (PySem.F.ks_gaArgs_super _ _)) (fun v s' hv=>?_) fun _ _ z=>z.elim
 obtain ⟨rfl, rfl⟩:=hv
 exact wP (wP q)
end
end
section
open Builtin Builtin.ObjectAttr
section
variable {c : Cx} {A : Around} {E : Value -> Shared -> Prop} {s : Shared} {env : Env}
theorem bound0 {T id : String} {u y : Addr} {b : Builtin} {pos : Pos} {Q : Value -> Shared -> Prop} (hu : s.heap.get? u = some (bndO T id y)) (hT : T = "builtin_function_or_method" \/ T = "method-wrapper") (hp : plainId id = true) (hb : entryFor table id = some b)
  (hc : ∀ {Q' : Unit -> Shared -> Prop} {A' : Around} {E' : Value -> Shared -> Prop}, Q' () s -> wpAny (model PW c.w) A' (checkBoundCall id ⟨[.ref y], []⟩) Q' E' s)
  (q : ∀ A', wpAny (model PW c.w) A' (b ⟨[.ref y], []⟩) (fun fin s'=>∃ v, fin = .done (.ret v) /\ Q v s') E s) : wpAny (model PW c.w) A (callWith pos (.ref u) [] (backTo pos (starEach [] env)) []) Q E s:=by
 unfold callWith
 refine wB (wpAny_holding (PySem.evalArgs_none (wB (wpAny_standAt ?_))))
 have he : (backTo pos (starEach [] env)).any (·.1) = false:=rfl
 refine wB (m:=keeperOf (.ref u)) ?_
 unfold keeperOf
 refine wB (wpAny_load hu ?_)
 have t1 : (Value.type T != Value.type "method") = true:=by rcases hT with rfl | rfl <;> decide
 have t2 : (Value.type T == Value.type "builtin_function_or_method" || Value.type T == Value.type "method-wrapper") = true:=by rcases hT with rfl | rfl <;> decide
 have t3 : (Value.type T == Value.type "method" || Value.type T == Value.type "builtin_function_or_method" || Value.type T == Value.type "method-wrapper") = true:=by rcases hT with rfl | rfl <;> decide
 dsimp only
 rw [if_pos t1, if_pos t2]
 refine wP ?_
 refine wB (wM (Q:=Q) (E:=E) ?_ (fun r s₂ hr=>wB (wpAny_holding (wpAny_point (wP hr)))) fun _ _ x=>x)
 refine wpAny_call (codeAny_of_tree ?_)
 show wpAny _ _ (callAny (.ref u) _) _ _ _
 unfold callAny
 refine wB (wpAny_load hu ?_)
 dsimp only
 rw [if_pos t3]
 show wpAny _ _ (if (Value.type T != Value.type "method") = true then (checkBoundCall id ⟨[.ref y], []⟩ >>= fun _=>again (.builtin id ⟨[.ref y], []⟩)) else _) _ _ _
 rw [if_pos t1]
 refine wB (hc (wP ⟨plainId_quiet hp _, codeAny_builtin hb (wM (q _) (fun fin s' z=>?_) fun _ _ z=>z)⟩))
 obtain ⟨v, rfl, z⟩:=z
 exact z
theorem chk_slot {id : String} {y : Addr} (h : checkBoundCall id ⟨[.ref y], []⟩ = Pure.pure ()) {Q' : Unit -> Shared -> Prop} {A' : Around} {E' : Value -> Shared -> Prop} (q : Q' () s) : wpAny (model PW c.w) A' (checkBoundCall id ⟨[.ref y], []⟩) Q' E' s:=by rw [h]; exact wP q
theorem chk_len (y : Addr) : checkBoundCall "list.__len__" ⟨[.ref y], []⟩ = Pure.pure ():=by kernel_rfl
theorem chk_init (y : Addr) : checkBoundCall "list.__init__" ⟨[.ref y], []⟩ = Pure.pure ():=by kernel_rfl
variable {y dy : Addr} {vs : List Value} {n : Nat} {od : Obj} {sz : Option Value}
theorem run_len {Q : Fin -> Shared -> Prop} {o : Obj} {xs : Array Value} (hx : s.heap.get? y = some o) (hd : o.data = .seq xs n) (q : Q (.done (.ret (.int xs.size s.toks))) { s with toks:=s.toks + 1 }) : wpAny (model PW c.w) A (Builtin.«list.__len__» ⟨[.ref y], []⟩) Q E s:=by
 obtain ⟨hp, g, d, t, os⟩:=s
 unfold Builtin.«list.__len__» seqSize
 refine wB (wP ?_)
 dsimp only
 refine wB (wB (wpAny_loadPart hx ?_))
 rw [hd]
 refine wP ?_
 exact wB (wpAny_mkInt (wP q))
theorem run_init {Q : Fin -> Shared -> Prop} {o : Obj} {xs : Array Value} (hx : s.heap.get? y = some o) (hd : o.data = .seq xs n) (hz : xs.size <= 100000)
  (q : ∀ h' m, h'.get? y = some { o with data:=.seq #[] m } -> (∀ b ob, b ≠ y -> s.heap.get? b = some ob -> h'.get? b = some ob) -> Q (.done (.ret .none)) { s with heap:=h' }) : wpAny (model PW c.w) A (Builtin.«list.__init__» ⟨[.ref y], []⟩) Q E s:=by
 obtain ⟨m, hm⟩:=mapSeq_data (F:=fun _=>#[]) hd
 have hu:=upd_get (F:=Obj.mapSeq fun _=>#[]) hx (by rw [hm]; rfl)
 have q':=q _ m (hu.1.trans (by rw [hm])) hu.2
 show wpAny _ _ (Builtin.List.listItems (.ref y) >>= _) _ _ _
 unfold Builtin.List.listItems
 refine wB (wB (wpAny_seqItems hx hd (wP ?_)))
 refine wB (wpAny_updateSeq hx hd ?_ (by rw [sE]; exact lT hz (by decide)) (by simp [sE]))
 exact wB (wpAny_letGo (wP q'))
theorem run_pop {Q : Fin -> Shared -> Prop} {o : Obj} {v : Value} (hx : s.heap.get? y = some o) (hd : o.data = .seq (vs ++ [v]).toArray n) (hz : vs.length <= 100000)
  (q : ∀ h' m, h'.get? y = some { o with data:=.seq vs.toArray m } -> (∀ b ob, b ≠ y -> s.heap.get? b = some ob -> h'.get? b = some ob) -> Q (.done (.ret v)) { s with heap:=h' }) : wpAny (model PW c.w) A (Builtin.«list.pop» ⟨[.ref y], []⟩) Q E s:=by
 obtain ⟨m, hm⟩:=mapSeq_data (F:=fun xs=>xs.eraseIdxIfInBounds vs.length) hd
 have hu:=upd_get (F:=Obj.mapSeq fun xs=>xs.eraseIdxIfInBounds vs.length) hx (by rw [hm]; rfl)
 have ee : (vs ++ [v]).toArray.eraseIdxIfInBounds vs.length = vs.toArray:=by
  unfold Array.eraseIdxIfInBounds
  simp [List.eraseIdx_append_of_length_le]
 rw [ee] at hm
 have q':=q _ m (hu.1.trans (by rw [hm])) hu.2
 unfold Builtin.«list.pop»
 refine wB (m:=selfAndSome "list.pop" "pop" 0 1 ⟨[.ref y], []⟩) (wP ?_)
 dsimp only
 refine wB (wP ?_)
 rw [if_neg (by decide)]
 unfold Builtin.List.listItems
 refine wB (wB (wpAny_seqItems hx hd (wP ?_)))
 rw [if_neg (by simp)]
 have e1 : seqIndex? (-1) (vs ++ [v]).toArray.size = some vs.length:=by
  unfold seqIndex?; simp; lia
 rw [e1]
 simp only [Option.bind_some]
 rw [show (vs ++ [v]).toArray[vs.length]? = some v by simp]
 simp only [Option.map_some]
 refine wB (wpAny_updateSeq hx hd ?_ (by simp [sE]; exact lT hz (by decide)) (by rw [ee]; simp [sE]; exact lT hz (by decide)))
 exact wP q'
end
end
section
open Builtin Builtin.ObjectAttr
section
variable {c : Cx} {A : Around} {G h : Heap} {g : Gs} {env : Env} {L : Addr} {f : Fm} {l : List (Addr × Obj)}
theorem sigPop_some : (Manifest.signature? "list.pop").isSome = true:=by decide +kernel
noncomputable def sigPop : Manifest.Signature:=(Manifest.signature? "list.pop").get sigPop_some
theorem chk_pop {E : Value -> Shared -> Prop} {s : Shared} {y dy : Addr} {vs : List Value} {n : Nat} {od : Obj} {sz : Option Value} {Q : Unit -> Shared -> Prop} (X : TopIn c.w.params s.heap) (a : Acc s.heap y dy vs n od sz) (q : Q () s) : wpAny (model PW c.w) A (checkBoundCall "list.pop" ⟨[.ref y], []⟩) Q E s:=by
 have T:=a.ins.at.type (M:=model PW c.w)
 have I1 : Looks (model PW c.w) s.heap (isInstance (.ref y) (.type "module")) false:=T.andThen (looks_mroIn X (by kernel_rfl))
 have I2 : Looks (model PW c.w) s.heap (typeOf (.ref 200)) (.type "type"):=looks_typeIn X (by kernel_rfl)
 have I3 : Looks (model PW c.w) s.heap (isType (.ref y)) false:=fun A E Q s' k q=>ks_wpAny_isType_inst (h:=s'.heap) (k _ _ a.x) (fun _ e=>nomatch e) q
 have I4 : Looks (model PW c.w) s.heap (classData 200) (cdOf (o200 c.w.params)):=looks_clsIn X (by kernel_rfl)
 obtain ⟨hp, g, d, t, os⟩:=s
 have hs : Manifest.signature? "list.pop" = some sigPop:=by unfold sigPop; rw [Option.some_get]
 have hk : builtinKind "list.pop" = some .method:=by decide +kernel
 have hv : Manifest.varargsMethods.contains "list.pop" = false:=by decide +kernel
 unfold checkBoundCall
 rw [hs, hk]
 dsimp only
 rw [if_neg (by decide)]
 refine wB (I1.at ?_)
 rw [hv]
 refine wB (I3.at ?_)
 refine wB (T.at ?_)
 dsimp only
 refine wB (I4.at ?_)
 refine wB (I2.at ?_)
 rw [if_pos (by decide)]
 exact wpAny_of_eq (a:=()) (by kernel_rfl) q
theorem enterAt {Q : PV} {k : Nat} {args : Args} (N : Addr) (o : Obj) (body : List Stmt) (binds : List (Str × Value)) (rest : List Str) (f0 : Fm)
  (X : TopIn c.w.params G) (S : Sub G h) (O : Own G h l) (r : Room A (k + 1)) (hf : (binds.reverse.map fun p=>(p.1, some p.2)) ++ rest.map (fun x=>((x, none) : Str × Option Value)) = f0)
  (hbind : ∀ s : Shared, s.heap = h -> BindsTo s (fdOf o) args binds)
  (y : ∀ h₁ L tk, Led G L h₁ f0 l -> Room (A.deeper (callEnv (fdOf o) L N)) k -> L = h.objs.size ->
   PySem.wpAt (model PW c.w) (A.deeper (callEnv (fdOf o) L N)) (.func body (callEnv (fdOf o) L N)) (execs body (callEnv (fdOf o) L N)) (fun fl s'=>s'.drawn = c.d /\ s'.os = c.os /\ Q (retOf fl) s'.heap s'.gens) (fun _ _=>False) ⟨h₁, g, c.d, tk, c.os⟩)
  (ho : (KM c.w.params).lookup N = some o:=by kernel_rfl) (hd : o.data = .func (fdOf o):=by kernel_rfl) (hcd : codeIn (KM c.w.params) (fdOf o).code (fdOf o).qualname = true:=by kernel_rfl) (hb : (fdOf o).body = .stmts body:=by kernel_rfl)
  (hcell : ((fdOf o).scope.names.all fun x=>x.2 != .cell) = true:=by kernel_rfl) (hloc : ((binds.map (·.1)).all fun x=>(fdOf o).scope.names.lookup x == some .local) = true:=by kernel_rfl)
  (hnm : namesOk (f0.map (·.1)) = true:=by kernel_rfl) 
  (hsc : ((fdOf o).scope.isCoroutine, (fdOf o).scope.isGenerator, (fdOf o).scope.kind) = (false, false, ScopeKind.function):=by kernel_rfl) : WC c A (.call (.ref N) args) Q h g:=by
 intro tk
 have Xh:=X.keeps S
 have e1 : (fdOf o).scope.isCoroutine = false:=congrArg (·.1) hsc
 have e2 : (fdOf o).scope.isGenerator = false:=congrArg (·.2.1) hsc
 have e3 : (fdOf o).scope.kind = .function:=congrArg (·.2.2) hsc
 refine ks_codeAny_call_defAt (fd:=fdOf o) (body:=body) (binds:=binds) (by have:=r.depth; lia) (Xh _ _ ho) hd (top_lim Xh) (codeRec_of Xh hcd) hb (hbind _ rfl) (fun x hx=>?_) (fun x hx=>?_) (fun h₁ hns hk=>?_) e1 e2 e3
 ·have:=List.all_eq_true.mp hcell x hx
  intro e; rw [e] at this; cases this
 ·have:=List.all_eq_true.mp hloc x.1 (List.mem_map_of_mem hx)
  simpa using this
 ·have D : Led G h.objs.size h₁ f0 l:=by
   refine ⟨?_, S.trans hk, S.none (fresh_size h), fun p hp=>⟨hk _ _ (O.at_ p hp).1, Nat.ne_of_lt (Heap.lt_size (O.at_ p hp).1), (O.at_ p hp).2⟩, O.nd, hnm⟩
   have : (fun x=>binds.reverse.lookup x) = fm f0:=by rw [<- hf]; exact funext fun y=>fm_binds _ _ y
   rw [<- this]; exact hns
  refine PySem.wpAt_mono (y h₁ _ (tk + binds.length) D r.deeper rfl) (fun fl s' z=>?_) fun _ _ z=>z.elim
  cases fl <;> exact ⟨_, rfl, z.1, z.2.1, z.2.2⟩
theorem cell124 (P : Params) : ∃ o : Obj, (KM P).lookup 124 = some o /\ o.data = .cell (some (.ref 200)):=⟨o124 P, by kernel_rfl, by kernel_rfl⟩
theorem methCall_eq {o : Expr} {name : Str} {apos pos : Pos} {env : Env} (hline : (apos.endLine == pos.line) = true) : eval (.Call (.Attribute o name apos) [] [] pos) env = (do
   let ov <- attributeBase o name env (eval o env)
   PySem.standAt apos.atName
   let (f, first) <- PySem.holding [ov] (getMethod ov name (do return (<- importBound o env).getD true))
   callWith pos f first (backTo pos (starEach [] env)) []):=by
 have hpos : methodCallPos true o env apos pos = Pure.pure pos:=by unfold methodCallPos; simp [hline]
 have hfew : methodCallForm (([] : List Expr).length + ([] : List Keyword).length) (backTo pos (starEach [] env)) [] = true:=by kernel_rfl
 rw [arm_eval_Call]
 unfold methodCall
 rw [show backToKw pos (keywordEach [] env) = [] by kernel_rfl, hfew, hpos]
 rfl
theorem supCall {T gg B id : String} {bi : Builtin} {name : Str} {N : Addr} {o : Obj} {body : List Stmt} {p0 p1 apos pos : Pos} {y dy : Addr} {vs : List Value} {n : Nat} {od : Obj} {sz : Option Value} {tk : Nat} {P : Value -> Shared -> Prop}
  (Y : SupB T gg B id) (hB : B = "builtin_function_or_method" \/ B = "method-wrapper") (LL : LB id bi) (X : TopIn c.w.params G) (D : Led G L h f l) (hs : Has f (Str.ofString "self") (.ref y)) (a : Acc h y dy vs n od sz)
  (hchk : ∀ {Q' : Unit -> Shared -> Prop} {A' : Around} {E' : Value -> Shared -> Prop} {s : Shared}, TopIn c.w.params s.heap -> Acc s.heap y dy vs n od sz -> Q' () s -> wpAny (model PW c.w) A' (checkBoundCall id ⟨[.ref y], []⟩) Q' E' s)
  (q : ∀ h2 tk A', (∀ b ob, h.get? b = some ob -> h2.get? b = some ob) -> wpAny (model PW c.w) A' (bi ⟨[.ref y], []⟩) (fun fin s'=>∃ v, fin = .done (.ret v) /\ P v s') (fun _ _=>False) ⟨h2, g, c.d, tk, c.os⟩)
  (ho : (KM c.w.params).lookup N = some o:=by kernel_rfl) (hd : o.data = .func (fdOf o):=by kernel_rfl)
  (hks : (callEnv (fdOf o) L N).kindOf "super" = some .globalImplicit:=by kernel_rfl) (hkc : (callEnv (fdOf o) L N).kindOf "__class__" = some .free:=by kernel_rfl) (hka : (callEnv (fdOf o) L N).kindOf (Str.ofString "self") = some .local:=by kernel_rfl)
  (hat : (name == ("__class__" : Str)) = false:=by kernel_rfl) (hp : ((fdOf o).params.posonlyargs ++ (fdOf o).params.args).head?.map (·.arg) = some (Str.ofString "self"):=by kernel_rfl)
  (hco : ∃ cc oc vs file tf, (callEnv (fdOf o) L N).code = .ref cc /\ (KM c.w.params).lookup cc = some oc /\ oc.data = .fields vs /\ vs[2]? = some (.str file tf) /\ ((PW.main.file : Str) == file) = true)
  (hf : ks_superIn (KM c.w.params) 200 200 name = some (some (.builtin id)):=by kernel_rfl) (hk : (callEnv (fdOf o) L N).scope.kind = .function:=by kernel_rfl) (hcells : (callEnv (fdOf o) L N).cells.lookup (Str.ofString "__class__") = some 124:=by kernel_rfl)
  (hgl : ((callEnv (fdOf o) L N).globals, (callEnv (fdOf o) L N).builtins) = (mainGlobals, builtinsNs):=by kernel_rfl)
  (hline : (apos.endLine == pos.line) = true:=by kernel_rfl) :
  PySem.wpAt (model PW c.w) A (.func body (callEnv (fdOf o) L N)) (eval (.Call (.Attribute (.Call (.Name (Str.ofString "super") p0) [] [] p1) name apos) [] [] pos) (callEnv (fdOf o) L N)) P (fun _ _=>False) ⟨h, g, c.d, tk, c.os⟩:=by
 have Xh:=D.inK X
 refine xe5a4 hco fun cc oc vsc file tf q1 q2 q3 q4 q5=>?_
 refine xea (Option.map_eq_some_iff.mp hp) fun ar har hna=>?_
 refine xea (cell124 c.w.params) fun oK hK1 hK2=>?_
 have g1 : (callEnv (fdOf o) L N).globals = mainGlobals:=congrArg Prod.fst hgl
 have g2 : (callEnv (fdOf o) L N).builtins = builtinsNs:=congrArg Prod.snd hgl
 have ne : y ≠ 200:=fun e=>by
  have:=a.x
  rw [e, Xh 200 (o200 c.w.params) (by kernel_rfl)] at this
  have:=congrArg (fun o=>o.map Obj.cls) this
  cases this
 refine ks_wpAt_MethodCall ?_ (methCall_eq hline)
 refine ks_wpAt_super_base (env:=callEnv (fdOf o) L N) hks hkc hat rfl (Xh _ _ ho) hd har q1 (Xh _ _ q2) q3 q4 q5 (by kernel_rfl) ?_
 refine ks_loadName_global hk hks (loadGlobal_builtin (env:=callEnv (fdOf o) L N) (mg:=gl c.w.params) (mb:=bl c.w.params) (v:=.type "super") (g1 ▸ top_g Xh) (by kernel_rfl) (g2 ▸ top_b Xh) (by kernel_rfl) ⟨rfl, ?_⟩)
 refine wpAny_loadName_free (v:=.ref 200) hk hkc hcells ⟨_, Xh _ _ hK1, hK2⟩ ?_
 rw [hna]
 refine wpAny_loadName_local (m:=fm f) hk hka (show Heap.Ns h (callEnv (fdOf o) L N).locals (fm f) from D.ns) (hs.get D.nm) ?_
 have h200:=Xh 200 (o200 c.w.params) (by kernel_rfl)
 refine ks_wpAny_isType_cls h200 (cd:=cdOf (o200 c.w.params)) (by kernel_rfl) ⟨rfl, ?_⟩
 refine ks_wpAny_call_super h200 (cdD:=cdOf (o200 c.w.params)) (by kernel_rfl) a.x rfl (fun _ e=>nomatch e) (looks_mroIn Xh (by kernel_rfl)) (fun h2 e2 k2=>?_)
 have X2 : TopIn c.w.params h2:=Xh.keeps k2
 have a2 : Acc h2 y dy vs n od sz:=⟨k2 _ _ a.x, k2 _ _ a.d, a.f⟩
 refine super_meth Y X2 e2 (Acc.lst X2 a2) ne hf hat ?_
 have k3 : ∀ b ob, h2.get? b = some ob -> (h2.push (bndO B id y)).get? b = some ob:=fun b ob e=>hpo _ e
 have X3 : TopIn c.w.params (h2.push (bndO B id y)):=X2.keeps k3
 have a3 : Acc (h2.push (bndO B id y)) y dy vs n od sz:=⟨k3 _ _ a2.x, k3 _ _ a2.d, a.f⟩
 exact bound0 (T:=B) (id:=id) (b:=bi) (s:=⟨h2.push (bndO B id y), g, c.d, tk + 1, c.os⟩) (Heap.get?_push_size _ rfl) hB LL.plain LL.entry (fun q'=>hchk X3 a3 q') fun A'=>q _ _ A' fun b ob e=>k3 _ _ (k2 _ _ e)
end
end
section
open Builtin Builtin.ObjectAttr
noncomputable def AccAt (h : Heap) (y dy : Addr) (vs : List Value) : Prop:=∃ n, h.get? y = some (accO dy vs n)
section
variable {w : World} {A : Around} {E : Value -> Shared -> Prop} {s : Shared}
theorem acc_next {it y dy : Addr} {i : Nat} {vs : List Value} {x : Value} {Q : Option Value -> Shared -> Prop} (hit : s.heap.IsListIter it y i) (hl : AccAt s.heap y dy vs) (hx : vs[i]? = some x)
  (hQ : ∀ h', h'.IsListIter it y (i + 1) -> Heap.SameBut it s.heap h' -> Q (some x) { s with heap:=h' }) : wpAny (model PW w) A (pyNext (.ref it)) Q E s:=by
 obtain ⟨o, ho, hc, hd⟩:=id hit
 obtain ⟨n, hy⟩:=hl
 unfold pyNext
 refine wB (wpAny_attempt (wpAny_callSpecial?_slot (name:=Str.ofString "__next__") hit.typeIs slot_listiter_next (wpAny_call_entry slot_listiter_next hit.typeIs entry_listiter_next ?_ (args_listiter_next _))))
 show wpAny _ _ (field (.ref it) 0 >>= _) _ _ s
 refine wB (wpAny_field ho hd (x:=.ref y) rfl ?_)
 show wpAny _ _ (if (Value.ref y == Value.none) = true then _ else _) _ _ s
 rw [if_neg (show ¬ ((Value.ref y == Value.none) = true) from Bool.false_ne_true)]
 show wpAny _ _ (field (.ref it) 1 >>= _) _ _ s
 refine wB (wpAny_field ho hd (x:=.int i 0) rfl ?_)
 show wpAny _ _ (seqItems? (.ref y) >>= _) _ _ s
 refine wB (wpAny_seqItems hy rfl ?_)
 have hx' : vs.toArray[i]? = some x:=by simpa using hx
 simp only [Int.toNat_natCast, hx']
 refine wB (wpAny_setField ho hd (by simp) (wP ⟨x, rfl, wP (hQ _ ?_ (Heap.SameBut.update ..))⟩))
 exact ⟨_, Heap.get?_update_self _ ho (Obj.isFreed_of_fields (Obj.data_mapFields hd _)), (Obj.cls_mapFields ..).trans hc, by rw [Obj.data_mapFields hd]; simp [rawInt]⟩
theorem acc_end {it y dy : Addr} {vs : List Value} {i : Nat} {Q : Option Value -> Shared -> Prop} (hh : A.handled = none) (hit : s.heap.IsListIter it y i) (hl : AccAt s.heap y dy vs) (hx : vs[i]? = none)
  (hQ : ∀ h', Heap.ExtBut it s.heap h' -> Q none { s with heap:=h' }) : wpAny (model PW w) A (pyNext (.ref it)) Q E s:=by
 obtain ⟨o, ho, hc, hd⟩:=id hit
 obtain ⟨n, hy⟩:=hl
 unfold pyNext
 refine wB (wpAny_attempt (wpAny_callSpecial?_slot (name:=Str.ofString "__next__") hit.typeIs slot_listiter_next (wpAny_call_entry slot_listiter_next hit.typeIs entry_listiter_next ?_ (args_listiter_next _))))
 show wpAny _ _ (field (.ref it) 0 >>= _) _ _ s
 refine wB (wpAny_field ho hd (x:=.ref y) rfl ?_)
 show wpAny _ _ (if (Value.ref y == Value.none) = true then _ else _) _ _ s
 rw [if_neg (show ¬ ((Value.ref y == Value.none) = true) from Bool.false_ne_true)]
 show wpAny _ _ (field (.ref it) 1 >>= _) _ _ s
 refine wB (wpAny_field ho hd (x:=.int i 0) rfl ?_)
 show wpAny _ _ (seqItems? (.ref y) >>= _) _ _ s
 refine wB (wpAny_seqItems hy rfl ?_)
 have hx' : vs.toArray[i]? = none:=by simpa using hx
 simp only [Int.toNat_natCast, hx']
 refine wB (wpAny_rule (wB (wpAny_setField ho hd (by simp) ?_)))
 show wpAny _ _ (newExc (.type "StopIteration") [] >>= _) _ _ _
 refine wB ?_
 simp only [newExc, newTuple]
 refine wB (wpAny_newObj_type ?_ (by size_fits))
 refine wB (m:=firstArgMember _ _) (wpAny_of_eq (a:=Value.none) (by first | rfl | (simp only [firstArgMember]; rfl)) ?_)
 refine wpAny_newObj_type ?_ (by size_fits)
 simp only [raiseNew]
 refine wB (wpAny_handled ?_)
 rw [show A.in1.handled = none from hh]
 refine wB (wP (wpAny_throw ?_))
 refine wB (wpAny_isInstance (T:="StopIteration") (b:=true) ⟨_, Heap.get?_push_size _ rfl, rfl⟩ isSubtype_stop ?_)
 exact wP (hQ _ (((Heap.SameBut.update ..).extBut.push _).push _))
theorem AccAt.ext {h h' : Heap} {y dy it : Addr} {vs : List Value} (a : AccAt h y dy vs) (x : Heap.ExtBut it h h') (ne : y ≠ it) : AccAt h' y dy vs:=let ⟨n, e⟩:=a; ⟨n, x _ _ ne e⟩
theorem acc_walks (hh : A.handled = none) (I y dy : Addr) (hne : y ≠ I) (vs : List Value) (Ts : Nat -> Addr) (vals : Nat -> Array Value) (hit : ∀ j, j < vs.length -> vs[j]? = some (.ref (Ts j))) (hTI : ∀ j, j < vs.length -> Ts j ≠ I) :
  WalksU PW w A I (I :: y :: (List.range vs.length).map Ts) [I] vs.length (fun j v=>v = vals j)
   (fun j h=>h.IsListIter I y j /\ AccAt h y dy vs /\ ∀ k, k < vs.length -> h.IsTuple (Ts k) (vals k))
   (fun j T h=>(j < vs.length /\ T = Ts j) /\ h.IsListIter I y (j + 1) /\ AccAt h y dy vs /\ ∀ k, k < vs.length -> h.IsTuple (Ts k) (vals k)) where
 sub:=fun b hb=>by simp at hb; simp [hb]
 frame:=fun _ _ _ st hk=>⟨st.1.at fun o e=>hk I (by simp) o e, let ⟨n, e⟩:=st.2.1; ⟨n, hk y (by simp) _ e⟩,
  fun k hk'=>(st.2.2 k hk').at fun o e=>hk (Ts k) (List.mem_cons_of_mem _ (List.mem_cons_of_mem _ (List.mem_map.mpr ⟨k, List.mem_range.mpr hk', rfl⟩))) o e⟩
 item:=fun i s Q E hi st hQ=>by
  refine acc_next st.1 st.2.1 (hit i hi) fun h' hit' hs'=>?_
  have tup : ∀ k, k < vs.length -> h'.IsTuple (Ts k) (vals k):=fun k hk'=>(st.2.2 k hk').extBut hs'.extBut (hTI k hk')
  exact hQ (Ts i) (vals i) h' s.toks rfl (tup i hi) ⟨⟨hi, rfl⟩, hit', st.2.1.ext hs'.extBut hne, tup⟩ fun b o hb e=>hs'.extBut b o (fun h=>hb (by simp [h])) e
 go:=fun _ _ _ _ _ s Q _ hm hQ=>wpAny_letOwnedTupleGo_listiter hm.2.1 (hQ s.heap hm.2 fun _ _ _ e=>e)
 apart:=fun j T _ hm hmem=>hTI j hm.1.1 (hm.1.2 ▸ lms hmem)
 done:=fun s Q E st hQ=>acc_end hh st.1 st.2.1 (by simp) fun h' he'=>hQ h' s.toks fun b o hb e=>he' b o (fun h=>hb (by simp [h])) e
 self:=fun _ _ _ _ st hQ=>wpAny_pyIter_listiter st.1 hQ
end
section
variable {c : Cx} {A : Around} {G h : Heap} {g : Gs} {E : Value -> Shared -> Prop} {s : Shared}
theorem acc_iter {y dy : Addr} {vs : List Value} {n : Nat} {od : Obj} {sz : Option Value} {Q : Value -> Shared -> Prop} (X : TopIn c.w.params s.heap) (a : Acc s.heap y dy vs n od sz)
  (q : Q (.ref s.heap.objs.size) { s with heap:=s.heap.push { cls:=.type "list_iterator", data:=.fields #[.ref y, .int 0 0] } }) : wpAny (model PW c.w) A (pyIter (.ref y)) Q E s:=by
 have T:=a.ins.at.type (M:=model PW c.w)
 have F:=looks_findIn (M:=model PW c.w) X (show findIn (KM c.w.params) (.ref 200) (Str.ofString "__iter__") = some (some (.builtin "list.__iter__")) by kernel_rfl)
 unfold pyIter specialOf
 refine wB (wB (T.here (F.here ?_)))
 dsimp only
 unfold callSpecialIfBoundUnlessNone? bindSpecialIfBound? specialOf
 have call_ : wpAny (model PW c.w) A (call (.builtin "list.__iter__") [.ref y]) (fun v s'=>v = .ref s.heap.objs.size /\ s' = { s with heap:=s.heap.push { cls:=.type "list_iterator", data:=.fields #[.ref y, .int 0 0] } }) E s:=by
  refine wpAny_call (callSub (M:=model PW c.w) (E:=E) lb_iter (Acc.lst X a) (args_list_iter _) ?_)
  show wpAny _ _ (do PySem.ret (<- newFields "list_iterator" [.ref y, rawInt 0])) _ _ s
  exact wB (wpAny_newObj_type (wP ⟨rfl, rfl⟩))
 have rest : wpAny (model PW c.w) A (call (.builtin "list.__iter__") [.ref y] >>= fun v=>Pure.pure (some v)) (fun r s'=>r = some (.ref s.heap.objs.size) /\ s' = { s with heap:=s.heap.push { cls:=.type "list_iterator", data:=.fields #[.ref y, .int 0 0] } }) E s :=
  wB (wM call_ (fun v s' z=>wP ⟨by rw [z.1], z.2⟩) fun _ _ z=>z)
 have fin : wpAny (model PW c.w) A (PySem.holding [Value.ref y] (call (.builtin "list.__iter__") [.ref y] >>= fun v=>Pure.pure (some v))) (fun r s'=>r = some (.ref s.heap.objs.size) /\ s' = { s with heap:=s.heap.push { cls:=.type "list_iterator", data:=.fields #[.ref y, .int 0 0] } }) E s:=wpAny_holding rest
 have hb:=slot_list_iter.bind (.ref y)
 refine wB (wM (Q:=fun r s'=>r = some (.ref s.heap.objs.size) /\ s' = { s with heap:=s.heap.push { cls:=.type "list_iterator", data:=.fields #[.ref y, .int 0 0] } }) ?_ (fun r s' z=>?_) fun _ _ z=>z)
 ·refine wpAny_holding (wB (wB (wB (T.here (F.here ?_)))))
  dsimp only
  rw [hb]
  refine wB (wpAny_askSetting ?_)
  split
  ·refine wB (wP (wP ?_))
   dsimp only
   rw [if_neg (by decide)]
   exact rest
  ·refine wpAny_tryCatch (wB (wP (wP ?_)))
   dsimp only
   rw [if_neg (by decide)]
   exact rest
 ·obtain ⟨rfl, rfl⟩:=z
  dsimp only
  have hT : ({ s with heap:=s.heap.push { cls:=.type "list_iterator", data:=.fields #[.ref y, .int 0 0] } } : Shared).TypeIs (.ref s.heap.objs.size) "list_iterator":=⟨_, Heap.get?_push_size _ rfl, rfl⟩
  exact wB (wpAny_specialOf hT slot_listiter_next.lookup (wP q))
end
end
section
open Builtin Builtin.ObjectAttr
noncomputable abbrev tabO (ps : Array Value) : Obj:={ cls:=.none, data:=.fields ps }
structure GenW (c : Cx) (A : Around) (a : Addr) (n : Nat) (F : Nat -> Value -> Prop) (B : Nat) (h : Heap) (g : Gs) : Prop where
 ex : ∃ fp wr gi C fp0 wr0 pz n0 F0, WalksS PW c.w A.in4 a fp wr (GenOnlyQ gi) n F (GenAt PW c.w A.in4 a gi C fp0 wr0 pz n0 F0) /\ (∀ s : Shared, s.heap = h -> s.gens = g -> GenAt PW c.w A.in4 a gi C fp0 wr0 pz n0 F0 0 s) /\ a ∈ fp /\ (∀ b ∈ fp, b < h.objs.size) /\ ∀ b ∈ wr, B <= b
noncomputable def isS : Value -> Bool | .str _ _=>true | _=>false
noncomputable def isI : Value -> Bool | .int _ _=>true | _=>false
noncomputable def isB : Value -> Bool | .bool _=>true | _=>false
theorem isS_of {v : Value} (e : isS v = true) : ∃ x t, v = .str x t:=by cases v <;> first | exact ⟨_, _, rfl⟩ | cases e
theorem isI_of {v : Value} (e : isI v = true) : ∃ x t, v = .int x t:=by cases v <;> first | exact ⟨_, _, rfl⟩ | cases e
theorem isB_of {v : Value} (e : isB v = true) : ∃ x, v = .bool x:=by cases v <;> first | exact ⟨_, rfl⟩ | cases e
noncomputable def codeTab (o : Obj) (P : Addr) : Bool:=match o.data with
 | .fields vs=>o.cls == .type "code" && vs[11]? == some (.ref P) && isS (vs.getD 18 .none) && isI (vs.getD 7 .none) && isB (vs.getD 9 .none) && isI (vs.getD 10 .none)
 | _=>false
theorem codeTab_of {h : Heap} {cc P : Addr} {o : Obj} {ps : Array Value} (e : codeTab o P = true) (ho : h.get? cc = some o) (hP : h.get? P = some (tabO ps)) (ht : TriplesOk ps.toList) (ne : cc ≠ P) : h.IsCode cc P ps /\ h.TableAt cc P ps:=by
 unfold codeTab at e
 split at e
 ·rename_i vs hd
  simp only [Bool.and_eq_true, beq_iff_eq] at e
  refine xa e fun z00 e6=>?_; refine xa z00 fun z0q00 e5=>?_; refine xa z0q00 fun z0q0q00 e4=>?_; refine xa z0q0q00 fun z0q0q0q00 e3=>?_; refine xa z0q0q0q00 fun e1 e2=>?_
  have e2' : vs.getD 11 .none = .ref P:=by rw [Array.getD_eq_getD_getElem?, e2]; rfl
  refine xe2 (isS_of e3) fun _ _ q3=>?_
  refine xe2 (isI_of e4) fun _ _ q4=>?_
  refine xe (isB_of e5) fun _ q5=>?_
  refine xe2 (isI_of e6) fun _ _ q6=>?_
  exact ⟨⟨o, vs, _, _, _, _, _, _, _, _, ho, hd, e2', q3, q4, q5, q6, hP, rfl, ht, ne⟩, ⟨o, vs, ho, e1, hd, e2⟩, hP⟩
 ·cases e
section
variable {c : Cx} {A : Around} {E : Value -> Shared -> Prop} {s : Shared} {env : Env}
theorem genCode {cc P : Addr} {o : Obj} {ps : Array Value} {pos : Pos} {q : Str} {scope : Scope} {Q : Value -> Shared -> Prop} (hc : env.code = .ref cc) (e : codeTab o P = true) (ho : s.heap.get? cc = some o) (hP : s.heap.get? P = some (tabO ps)) (ht : TriplesOk ps.toList) (ne : cc ≠ P)
  (k : ∀ v h' tk ps', Heap.ExtBut P s.heap h' -> h'.get? P = some (tabO ps') -> TriplesOk ps'.toList -> Q v { s with heap:=h', toks:=tk }) : wpAny (model PW c.w) A (genexprCode env pos q scope) Q E s:=by
 refine xa (codeTab_of e ho hP ht ne) fun x1 x2=>?_
 cases hf : codeAmong pos ps.toList with
 | some v=>exact wpAny_genexprCode_hit hc x1 hf (k v s.heap s.toks ps (fun _ _ _ e=>e) hP ht)
 | none =>
  refine wpAny_genexprCodeX hc x1 x2 hf fun c' h' tk hx _ _ y1 _ y2 _=>?_
  obtain ⟨_, _, _, _, _, _, _, _, _, _, _, _, _, _, _, _, _, _, _, w, _⟩:=y1
  exact k _ h' tk _ hx y2.2 w
theorem top_bf {P : Params} {h : Heap} (X : TopIn P h) {Q : Addr -> Shared -> Prop} {s : Shared} (hs : s.heap = h) (q : Q builtinsNs s) (w : World) : wpAny (model PW w) A (builtinsFor mainGlobals builtinsNs) Q E s:=by
 subst hs
 exact wpAny_builtinsFor (m:=gl P) (bm:=4) (o:=o4 P) (top_g X) (by kernel_rfl) (by decide) (X _ _ (by kernel_rfl)) (by kernel_rfl) (by kernel_rfl) (by kernel_rfl) q
end
end
section
open Builtin Builtin.ObjectAttr
section
variable {c : Cx} {A : Around} {E : Value -> Shared -> Prop} {s : Shared} {env : Env}
theorem genAt_move {w : World} {A : Around} {a : Addr} {gi : Nat} {C : Addr} {fp wr : List Addr} {pz : Nat -> Bool} {n0 : Nat} {F : Nat -> Value -> Prop} {j : Nat} {s s' : Shared} (x : GenAt PW w A a gi C fp wr pz n0 F j s) (e1 : s'.heap = s.heap) (e2 : s'.gens = s.gens) : GenAt PW w A a gi C fp wr pz n0 F j s':=by
 obtain ⟨x1, x2, gs, x3, x4⟩:=x
 unfold GenAt
 rw [e1, e2]
 exact ⟨x1, x2, gs, x3, x4⟩
theorem genT {elt : Expr} {xa xb : Str} {pa pb pt ip : Pos} {kt : Nat} {scope : Scope} {gpos : Pos} {cc P : Addr} {oc : Obj} {ps : Array Value} {y dy : Addr} {vs : List Value} {n : Nat} {od : Obj} {sz : Option Value} {Ts : Nat -> Addr} {vals : Nat -> Array Value} {F : Nat -> Value -> Prop} {x : Str} {Q : Value -> Shared -> Prop}
  (hh : A.handled = none) (hroom : A.depth < recursionLimit) (X : TopIn c.w.params s.heap) (a : Acc s.heap y dy vs n od sz) (hit : ∀ j, j < vs.length -> vs[j]? = some (.ref (Ts j))) (hT : ∀ j, j < vs.length -> s.heap.IsTuple (Ts j) (vals j)) (hsz : ∀ j, ∃ va vb, vals j = #[va, vb])
  (hc : env.code = .ref cc) (hk : (KM c.w.params).lookup cc = some oc) (e : codeTab oc P = true) (hP : s.heap.get? P = some (tabO ps)) (ht : TriplesOk ps.toList) (nP : (KM c.w.params).lookup P = none) (nPy : P ≠ y) (nPd : P ≠ dy) (nPT : ∀ j, j < vs.length -> P ≠ Ts j)
  (hself : ∀ {Q' : Value -> Shared -> Prop}, Q' (.ref y) s -> wpAny (model PW c.w) A (eval (.Name x ip) env) Q' E s)
  (helt : ∀ (C : Addr) (code : Value) (A' : Around) (E' : Value -> Shared -> Prop) (i : Nat) (va vb : Value) (s₂ : Shared) (m₂ : Str -> Option Value), A'.handled = none -> #[va, vb] = vals i -> i < vs.length -> s₂.heap.Ns C m₂ -> m₂ xa = some va -> m₂ xb = some vb -> TopIn c.w.params s₂.heap ->
   wpAny (model PW c.w) A' (eval elt (genEnv scope [] C code builtinsNs env)) (fun v s₃=>F i v /\ Keeps s₂ s₃) E' s₂)
  (q : ∀ a' h5 tk gs ps', gs.bare = true -> (∀ b o, b ≠ P -> s.heap.get? b = some o -> h5.get? b = some o) -> h5.get? P = some (tabO ps') -> TriplesOk ps'.toList -> s.heap.objs.size <= a' -> GenW c A a' vs.length F s.heap.objs.size h5 (s.gens.push gs) -> Q (.ref a') { s with gens:=s.gens.push gs, toks:=tk, heap:=h5 })
  (hg : (env.globals, env.builtins) = (mainGlobals, builtinsNs):=by kernel_rfl)
  (hco : scope.isCoroutine = false:=by kernel_rfl) (hclos : closureFor scope env = Pure.pure []:=by kernel_rfl) (hcell : (scope.names.all fun x=>x.2 != .cell) = true:=by kernel_rfl) (h0 : scope.names.lookup (".0" : Str) = some NameKind.local:=by kernel_rfl)
  (hxa : scope.names.lookup xa = some .local:=by kernel_rfl) (hxb : scope.names.lookup xb = some .local:=by kernel_rfl) (hab : (xa == xb) = false:=by kernel_rfl) (hkind : scope.kind = .function:=by kernel_rfl)
  (hs : ∀ v, genFold (.Name x ip) env v = Pure.pure v:=by intro _; kernel_rfl) :
  wpAny (model PW c.w) A (eval (.GeneratorExp elt [⟨.Tuple [.Name xa pa, .Name xb pb] kt pt, .Name x ip, [], 0⟩] scope gpos) env) Q E s:=by
 have g1 : env.globals = mainGlobals:=congrArg Prod.fst hg
 have g2 : env.builtins = builtinsNs:=congrArg Prod.snd hg
 have ncc : cc ≠ P:=fun h=>by rw [h, nP] at hk; cases hk
 refine wpAny_GeneratorExp_walksQT (cl:=[]) hh hco hclos (cells_ok hcell) h0 hxa hxb (fun e=>by rw [e] at hab; simp at hab) hkind hroom (hself ?_) hs
 refine acc_iter X a ⟨?_, ?_⟩
 ·exact (top_lim X).keeps fun _ _ e=>hpo _ e
 generalize hH : s.heap.push { cls:=.type "list_iterator", data:=.fields #[.ref y, .int 0 0] } = H
 have up : ∀ b o, s.heap.get? b = some o -> H.get? b = some o:=fun b o e=>hH ▸ hpo _ e
 have hI : H.get? s.heap.objs.size = some { cls:=.type "list_iterator", data:=.fields #[.ref y, .int 0 0] }:=hH ▸ Heap.get?_push_size _ rfl
 have hHs : H.objs.size = s.heap.objs.size + 1:=by rw [<- hH, Heap.size_push]
 have XH:=X.keeps up
 refine genCode (s:=⟨H, s.gens, s.drawn, s.toks, s.os⟩) hc e (XH _ _ hk) (up _ _ hP) ht ncc fun code h3 tk3 ps' hx3 hP3 ht3=>?_
 have nPI : P ≠ s.heap.objs.size:=Nat.ne_of_lt (Heap.lt_size hP)
 have up3 : ∀ b o, b ≠ P -> s.heap.get? b = some o -> h3.get? b = some o:=fun b o nb eb=>hx3 b o nb (up b o eb)
 have X3 : TopIn c.w.params h3:=fun b o eb=>up3 b o (fun h=>by rw [h, nP] at eb; cases eb) (X b o eb)
 rw [g1, g2]
 refine top_bf X3 rfl ?_ c.w
 have lt3 : ∀ b o, s.heap.get? b = some o -> b ≠ P -> b < h3.objs.size:=fun b o eb nb=>Heap.lt_size (up3 b o nb eb)
 have hI3 : h3.get? s.heap.objs.size = some { cls:=.type "list_iterator", data:=.fields #[.ref y, .int 0 0] }:=hx3 _ _ (Ne.symm nPI) hI
 have yI : y ≠ s.heap.objs.size:=Nat.ne_of_lt (Heap.lt_size a.x)
 have a3 : AccAt h3 y dy vs:=⟨n, up3 _ _ (Ne.symm nPy) a.x⟩
 have T3 : ∀ k, k < vs.length -> h3.IsTuple (Ts k) (vals k):=fun k hk'=>by
  obtain ⟨o, eo, r⟩:=hT k hk'
  exact ⟨o, up3 _ _ (Ne.symm (nPT k hk')) eo, r⟩
 have TI : ∀ j, j < vs.length -> Ts j ≠ s.heap.objs.size:=fun j hj=>by
  obtain ⟨o, eo, _⟩:=hT j hj
  exact Nat.ne_of_lt (Heap.lt_size eo)
 refine ⟨s.heap.objs.size, _, _, vs.length, fun j v=>j < vs.length /\ v = vals j, _, _, fun _=>true, F, rfl, fun A' hA'=>(acc_walks hA' s.heap.objs.size y dy yI vs Ts vals hit TI).bound, fun i v hv=>by rw [hv.2]; exact hsz i, ⟨⟨_, hI3, rfl, rfl⟩, a3, T3⟩, fun b hb=>?_, top_lim X3, fun hm=>?_, fun href hkp=>⟨fun A' E' i va vb s₂ m₂ hA hP2 hn ha hb hk2=>?_, fun A' E' i va vb s₂ m₂ hA hP2 _ hn ha hb hk2=>?_⟩, fun a' h5 tk gs hbare hlt hsz5 hk5 WS hGA=>?_⟩
 ·rcases lmc hb with rfl | hb
  ·exact Heap.lt_size hI3
  rcases lmc hb with rfl | hb
  ·obtain ⟨_, e3⟩:=a3; exact Heap.lt_size e3
  ·refine xea (lmm hb) fun k hk' e42=>?_; obtain rfl:=e42
   obtain ⟨o, eo, _⟩:=T3 k (List.mem_range.mp hk')
   exact Heap.lt_size eo
 ·have:=lms hm
  have h2:=Heap.lt_size (X 2 (o2 c.w.params) (by kernel_rfl))
  rw [<- this] at h2
  exact Nat.lt_irrefl _ h2
 ·exact wP ⟨rfl, s₂.heap, s₂.toks, rfl, fun _ _ e=>e⟩
 ·refine helt _ code A' E' i va vb s₂ m₂ hA hP2.2 hP2.1 hn ha hb fun b o eb=>?_
  have e1:=X3 b o eb
  refine hk2 b (List.mem_range.mpr (Heap.lt_size e1)) (fun hm=>?_) o (hkp b o e1)
  have:=lms hm
  have h2:=Heap.lt_size (X b o eb)
  rw [this] at h2
  exact Nat.lt_irrefl _ h2
 ·have hpass : (passing (fun _=>true) vs.length 0).length = vs.length:=by
   unfold passing; rw [List.drop_zero, List.filter_eq_self.mpr (fun _ _=>rfl), List.length_range]
  have hlt1 : h3.objs.size < a':=hlt
  have hlt2 : h5.objs.size = a' + 1:=hsz5
  have hz3 : s.heap.objs.size < h3.objs.size:=Heap.lt_size hI3
  refine q a' h5 tk gs ps' hbare (fun b o nb eb=>hk5 _ _ (up3 b o nb eb)) (hk5 _ _ hP3) ht3 (lO (Nat.lt_trans hz3 hlt)) ⟨a' :: h3.objs.size :: List.range h3.objs.size, [h3.objs.size, s.heap.objs.size], s.gens.size, h3.objs.size, List.range h3.objs.size, _, fun _=>true, vs.length, F, ?_, fun s' e1 e2=>genAt_move hGA e1 e2, .head _, fun b hb=>?_, fun b hb=>?_⟩
  ·have W:=WS
   rw [hpass] at W
   refine ⟨W.sub, W.grefl, W.gtrans, W.frame, fun i s Q E hi st k=>W.item i s Q E hi st fun v s' hv=>?_, W.done, W.self⟩
   obtain ⟨i', hi', hv⟩:=hv
   have : i' = i:=by
    have e0 : passing (fun _=>true) vs.length 0 = List.range vs.length:=by unfold passing; rw [List.drop_zero, List.filter_eq_self.mpr (fun _ _=>rfl)]
    rw [e0, List.getElem?_range hi] at hi'
    exact (Option.some.inj hi').symm
   subst this
   exact k v s' hv
  ·rcases lmc hb with rfl | hb
   ·show _ < h5.objs.size; lia
   rcases lmc hb with rfl | hb
   ·show h3.objs.size < _; lia
   ·exact Nat.lt_trans (List.mem_range.mp hb) (hlt2 ▸ Nat.lt_succ_of_lt hlt1)
  ·rcases lmc hb with rfl | hb
   ·exact lO hz3
   ·rw [lms hb]; exact Nat.le_refl _
end
end
section
open Builtin Builtin.ObjectAttr
section
variable {w : World} {A : Around} {E : Value -> Shared -> Prop} {s : Shared} {c : Cx}
theorem sum2_args (a b : Value) : argsOk "sum" ⟨[a, b], []⟩:=by unfold argsOk; kernel_rfl
theorem sum_start0 {I : Addr} {fp wr : List Addr} {G : Gs -> Gs -> Prop} {n : Nat} {P : Nat -> Value -> Prop} {St : Nat -> Shared -> Prop} {val : Nat -> Int} {t : Tok} {Q : Value -> Shared -> Prop}
  (Wk : WalksS PW w A.in1 I fp wr G n P St) (hst : St 0 s) (hfp : ∀ b ∈ fp, b < s.heap.objs.size) (hval : ∀ i v, P i v -> ∃ t, v = .int (val i) t) (hfit : ∀ j, j < n -> InLong (val j) /\ InLong (preSum val (j + 1)))
  (hQ : ∀ s' t', Moved wr G s s' -> Q (.int (preSum val n) t') s') : wpAny (model PW w) A (PySem.call (.builtin "sum") [.ref I, .int 0 t]) Q E s:=by
 refine call_function_tree F.kind_sum F.plain_sum F.entry_sum (sum2_args _ _) ?_
 unfold Builtin.«sum»
 simp only [lC, List.length_nil]
 rw [if_neg (by decide)]
 refine wB (wpAny_of_eq (show Builtin.Builtins.bindParams "sum" ["start"] 0 ⟨[.int 0 t], []⟩ = Pure.pure [some (.int 0 t)] from rfl) ?_)
 refine wB (Wk.self 0 s _ _ hst ?_)
 refine wB (wB (wpAny_rule (wP (wB (wpAny_mkInt (wB (wP ?_)))))))
 refine wB (wP ?_)
 refine wB (wB (wB (wpAny_isInstance (T:="int") (b:=false) (typeIs_int _ _ _) PySem.sub_int_str ?_)))
 refine wP (wB (wB (wpAny_isInstance (T:="int") (b:=false) (typeIs_int _ _ _) PySem.sub_int_bytes ?_)))
 refine wP (wB (wB (wpAny_isInstance (T:="int") (b:=false) (typeIs_int _ _ _) PySem.sub_int_bytearray ?_)))
 refine wP (wP ?_)
 refine wB (wpAny_newObj_type ?_)
 have hSf : s.heap.objs.size ∉ fp:=fun hm=>Nat.lt_irrefl _ (hfp _ hm)
 refine wP ⟨plainId_quiet F.plain_sum_loop _, codeAny_sum_loopS Wk val hval hfit s.heap.objs.size hSf n 0 _ s.toks 0 rfl (Nat.zero_le _)
  (Wk.frame 0 s _ _ hst (by first | exact Nat.le_refl _ | exact Nat.le_succ _ | omega) fun b _ o e=>hpo _ e) (Heap.get?_push_size _ rfl) fun s' t' hm=>?_⟩
 exact hQ s' t' (hm.drop_new (by first | exact Nat.le_refl _ | exact Nat.le_succ _ | omega))
variable {G h : Heap} {g : Gs} {env : Env} {L : Addr} {f : Fm} {l : List (Addr × Obj)}
theorem Led.moved {G h h' : Heap} {L : Addr} {f : Fm} {l : List (Addr × Obj)} {wr : List Addr} {B : Nat} (D : Led G L h f l) (k : ∀ b o, b ∉ wr -> h.get? b = some o -> h'.get? b = some o) (hB : ∀ b ∈ wr, B <= b) (hL : L < B) (hl : ∀ p ∈ l, p.1 < B) (hG : ∀ b, B <= b -> G.get? b = none) : Led G L h' f l :=
 D.but k (fun m=>Nat.lt_irrefl _ (lLt hL (hB _ m))) (fun p hp m=>Nat.lt_irrefl _ (lLt (hl p hp) (hB _ m))) fun b m=>hG b (hB b m)
theorem get_past {h : Heap} {b : Addr} (e : h.objs.size <= b) : h.get? b = none:=by
 cases q : h.get? b with
 | none=>rfl
 | some o=>exact absurd (Heap.lt_size q) (Nat.not_lt.mpr e)
theorem Led.past {G h : Heap} {L : Addr} {f : Fm} {l : List (Addr × Obj)} (D : Led G L h f l) : L < h.objs.size /\ (∀ p ∈ l, p.1 < h.objs.size) /\ ∀ b, h.objs.size <= b -> G.get? b = none :=
 ⟨D.ns.lt, fun p hp=>D.lt hp, fun b e=>D.sub.none (get_past e)⟩
theorem W.sumG {a : Addr} {n : Nat} {F : Nat -> Value -> Prop} {B : Nat} {val : Nat -> Int} {t : Tok} {Q : PV} (X : GenW c A a n F B h g) (D : Led G L h f l) (hL : L < B) (hl : ∀ p ∈ l, p.1 < B) (hG : ∀ b, B <= b -> G.get? b = none)
  (hval : ∀ i v, F i v -> ∃ t, v = .int (val i) t) (hfit : ∀ j, j < n -> InLong (val j) /\ InLong (preSum val (j + 1)))
  (y : ∀ h' g' t', Led G L h' f l -> (AllBare g -> AllBare g') -> Q (.int (preSum val n) t') h' g') : W c A (PySem.call (.builtin "sum") [.ref a, .int 0 t]) Q h g:=fun tk=>by
 obtain ⟨fp, wr, gi, C, fp0, wr0, pz, n0, F0, Wk, hst, ha, hfp, hwr⟩:=X
 exact sum_start0 (s:=⟨h, g, c.d, tk, c.os⟩) Wk.in4_1 (hst _ rfl rfl) hfp hval hfit fun s' t' hm=>⟨hm.drawn, hm.os, y _ _ _ (D.moved hm.heap hwr hL hl hG) fun hb=>AllBare.movedS hb hm⟩
theorem W.joinG {a : Addr} {n : Nat} {F : Nat -> Value -> Prop} {B : Nat} {tx : Nat -> List Nat} {sep : List Nat} {t : Tok} {Q : PV} (X : GenW c A a n F B h g) (D : Led G L h f l) (hL : L < B) (hl : ∀ p ∈ l, p.1 < B) (hG : ∀ b, B <= b -> G.get? b = none)
  (htx : ∀ i v, F i v -> ∃ t, v = .str (T (tx i)) t) (hok : JoinOk (T sep) ((List.range n).map fun j=>T (tx j)) = true) (hsz : n <= sizeLine)
  (y : ∀ h' g' t', Led G L h' f l -> (AllBare g -> AllBare g') -> Q (.str (T (sep.intercalate ((List.range n).map tx))) t') h' g') : W c A (PySem.call (.builtin "str.join") [.str (T sep) t, .ref a]) Q h g:=fun tk=>by
 obtain ⟨fp, wr, gi, C, fp0, wr0, pz, n0, F0, Wk, hst, ha, hfp, hwr⟩:=X
 have mv : ∀ s', Moved wr (GenOnlyQ gi) ⟨h, g, c.d, tk, c.os⟩ s' -> AllBare g -> AllBare s'.gens:=fun s' hm hb=>AllBare.movedS (s:=⟨h, g, c.d, tk, c.os⟩) hb hm
 refine SC.joinGen (s:=⟨h, g, c.d, tk, c.os⟩) Wk.in4_2 (fun i s hs=>?_) (hst _ rfl rfl) hfp ha (fun j v hv=>let ⟨u, e⟩:=htx j v hv; ⟨_, u, e⟩) (fun s' lt hm hacc=>?_) hsz
 ·exact hs.1.typeIs
 have hl' : lt.map (·.1) = (List.range n).map fun j=>T (tx j):=by
  apply List.ext_getElem?
  intro j
  have hsz : lt.length = n:=by simpa [strValues] using hacc.1
  by_cases hj : j < n
  ·have hj' : j < lt.length:=hsz ▸ hj
   obtain ⟨u, hv⟩:=htx j _ (hacc.2 j (.str lt[j].1 lt[j].2) (by simp [strValues, gE hj']))
   injection hv with h1 _
   simp [gE hj', hj, h1]
  ·rw [List.getElem?_eq_none (by simpa [hsz] using Nat.le_of_not_lt hj), List.getElem?_eq_none (by simpa using Nat.le_of_not_lt hj)]
 rw [hl']
 refine ⟨hok, fun t' k=>⟨hm.drawn, hm.os, ?_⟩⟩
 have:=T_join sep ((List.range n).map tx)
 rw [List.map_map] at this
 have e : (List.range n).map (fun j=>T (tx j)) = (List.range n).map ((fun x=>T x) ∘ tx):=rfl
 rw [e, this]
 exact y _ _ _ (D.moved hm.heap hwr hL hl hG) (mv s' hm)
end
end
section
open Builtin Builtin.ObjectAttr
variable {Np : Addr -> Prop}
noncomputable abbrev Pr:=List Nat × List Nat
noncomputable abbrev AccL (y dy : Addr) (vs : List Value) (n : Nat) (od : Obj) (ps qs : Array Value) : List (Addr × Obj):=[(y, accO dy vs n), (dy, od), (162, tabO ps), (169, tabO qs)]
structure AccF (od : Obj) (ps qs : Array Value) : Prop where
 d : ∃ t, DOf (fSz (some (.int 0 t))) od
 p : TriplesOk ps.toList
 q : TriplesOk qs.toList
noncomputable def Tup (Np : Addr -> Prop) (h : Heap) (v : Value) (p : Pr) : Prop:=∃ a t u, v = .ref a /\ h.IsTuple a #[.str (T p.1) t, .str (T p.2) u] /\ ¬ Np a
noncomputable def NpIn (Np : Addr -> Prop) (G : Heap) : Prop:=∀ a, Np a -> ∃ o, G.get? a = some o
theorem NpIn.keeps {G G' : Heap} (x : NpIn Np G) (S : Sub G G') : NpIn Np G':=fun a q=>let ⟨o, e⟩:=x a q; ⟨o, S _ _ e⟩
theorem NpIn.out {G : Heap} (x : NpIn Np G) {a : Addr} (e : G.get? a = none) : ¬ Np a:=fun q=>by refine xe (x a q) fun o e2=>?_; rw [e] at e2; cases e2
inductive Tups (Np : Addr -> Prop) (h : Heap) : List Value -> List Pr -> Prop
 | nil : Tups Np h [] []
 | cons {v p vs xs} : Tup Np h v p -> Tups Np h vs xs -> Tups Np h (v :: vs) (p :: xs)
theorem Tup.keeps {h h' : Heap} {v : Value} {p : Pr} (x : Tup Np h v p) (S : Sub h h') : Tup Np h' v p:=by
 obtain ⟨a, t, u, e, ⟨o, eo, r⟩, nn⟩:=x
 exact ⟨a, t, u, e, ⟨o, S _ _ eo, r⟩, nn⟩
theorem Tups.keeps {h h' : Heap} {vs : List Value} {xs : List Pr} (x : Tups Np h vs xs) (S : Sub h h') : Tups Np h' vs xs:=by
 induction x with
 | nil=>exact .nil
 | cons a _ ih=>exact .cons (a.keeps S) ih
theorem Tups.len {h : Heap} {vs : List Value} {xs : List Pr} (x : Tups Np h vs xs) : vs.length = xs.length:=by
 induction x with
 | nil=>rfl
 | cons _ _ ih=>simp [ih]
theorem Tups.append {h : Heap} {vs ws : List Value} {xs ys : List Pr} (x : Tups Np h vs xs) (z : Tups Np h ws ys) : Tups Np h (vs ++ ws) (xs ++ ys):=by
 induction x with
 | nil=>exact z
 | cons a _ ih=>exact .cons a ih
theorem Tups.get {h : Heap} {vs : List Value} {xs : List Pr} (x : Tups Np h vs xs) {i : Nat} {p : Pr} (e : xs[i]? = some p) : ∃ v, vs[i]? = some v /\ Tup Np h v p:=by
 induction x generalizing i with
 | nil=>simp at e
 | cons a _ ih=>cases i with
  | zero=>simp at e; subst e; exact ⟨_, rfl, a⟩
  | succ i=>simpa using ih (by simpa using e)
theorem Tups.take {h : Heap} {vs : List Value} {xs : List Pr} (x : Tups Np h vs xs) (k : Nat) : Tups Np h (vs.take k) (xs.take k):=by
 induction x generalizing k with
 | nil=>simp; exact .nil
 | cons a _ ih=>cases k with
  | zero=>exact .nil
  | succ k=>exact .cons a (ih k)
theorem Tups.drop {h : Heap} {vs : List Value} {xs : List Pr} (x : Tups Np h vs xs) (k : Nat) : Tups Np h (vs.drop k) (xs.drop k):=by
 induction x generalizing k with
 | nil=>simp; exact .nil
 | cons a r ih=>cases k with
  | zero=>exact .cons a r
  | succ k=>exact ih k
theorem Tups.snoc {h : Heap} {vs : List Value} {xs : List Pr} {n : Nat} (x : Tups Np h vs xs) (hn : xs.length = n + 1) : ∃ ws v p, vs = ws ++ [v] /\ xs.getLast? = some p /\ Tup Np h v p /\ Tups Np h ws (xs.dropLast):=by
 have h1:=x.len
 have hv : vs ≠ []:=fun e=>by rw [e] at h1; simp at h1; lia
 have hx : xs ≠ []:=fun e=>by rw [e] at hn; simp at hn
 refine xea (x.get (i:=xs.length - 1) (p:=xs.getLast hx) (by rw [<- List.getLast?_eq_getElem?, gL hx])) fun v ev tv=>?_
 refine ⟨vs.dropLast, v, xs.getLast hx, ?_, gL hx, tv, ?_⟩
 ·have : vs.getLast hv = v:=by
   have:=gL hv
   rw [List.getLast?_eq_getElem?, h1, ev] at this
   exact (Option.some.inj this).symm
  rw [<- this, List.dropLast_concat_getLast]
 ·rw [List.dropLast_eq_take, List.dropLast_eq_take, h1]; exact x.take _
noncomputable def AccI (Np : Addr -> Prop) (G h : Heap) (y dy : Addr) (xs : List Pr) : Prop:=∃ vs n od ps qs, Own G h (AccL y dy vs n od ps qs) /\ AccF od ps qs /\ Tups Np h vs xs
theorem Tups.hideD {h : Heap} {vs : List Value} {xs : List Pr} {ad : List Addr} (x : Tups Np h vs xs) (n : ∀ a ∈ ad, ∀ o, h.get? a = some o -> (∀ xs n, o.data = .seq xs n -> o.cls ≠ .type "tuple")) : Tups Np (hideAll h ad) vs xs:=by
 induction x with
 | nil=>exact .nil
 | cons a _ ih =>
  obtain ⟨b, t, u, e, ⟨o, eo, r⟩, nn⟩:=a
  refine xae (id r) fun r1 k r2=>?_
  exact .cons ⟨b, t, u, e, ⟨o, hideAll_get _ eo fun m=>n b m o eo _ _ r2 r1, r⟩, nn⟩ ih
theorem Own.notTup {G h : Heap} {y dy : Addr} {vs : List Value} {n : Nat} {od : Obj} {ps qs : Array Value} (O : Own G h (AccL y dy vs n od ps qs)) (F : AccF od ps qs) : ∀ a ∈ (AccL y dy vs n od ps qs).map (·.1), ∀ o, h.get? a = some o -> ∀ xs n, o.data = .seq xs n -> o.cls ≠ .type "tuple":=by
 intro a ha o eo zs k hd hc
 refine xea (lmm ha) fun p hp e62=>?_; obtain rfl:=e62
 have e:=(O.at_ p hp).1
 rw [eo] at e
 have e:=Option.some.inj e
 obtain ⟨t, es, ep, d, _⟩:=F.d
 simp only [AccL, List.mem_cons, List.not_mem_nil, or_false] at hp
 rcases hp with rfl | rfl | rfl | rfl
 ·rw [e] at hc; cases hc
 ·dsimp only at e; rw [e, d] at hd; cases hd
 ·rw [e] at hc; cases hc
 ·rw [e] at hc; cases hc
theorem AccI.open {G h : Heap} {y dy : Addr} {xs : List Pr} (S : Sub G h) (I : AccI Np G h y dy xs) : ∃ G' vs n od ps qs, Sub G G' /\ Sub G' h /\ Own G' h (AccL y dy vs n od ps qs) /\ AccF od ps qs /\ Tups Np G' vs xs:=by
 obtain ⟨vs, n, od, ps, qs, O, F, T⟩:=I
 refine ⟨hideAll h ((AccL y dy vs n od ps qs).map (·.1)), vs, n, od, ps, qs, fun b o e=>hideAll_get _ (S b o e) fun q=>?_, fun b o e=>of_hideAll _ e, ⟨fun p hp=>⟨(O.at_ p hp).1, hideAll_none _ (List.mem_map_of_mem hp)⟩, O.nd⟩, F, T.hideD (O.notTup F)⟩
 refine xea (lmm q) fun p hp e92=>?_; obtain rfl:=e92
 rw [(O.at_ p hp).2] at e; cases e
theorem Own.base {G G' h : Heap} {l : List (Addr × Obj)} (O : Own G' h l) (s : Sub G G') : Own G h l:=⟨fun p hp=>⟨(O.at_ p hp).1, s.none (O.at_ p hp).2⟩, O.nd⟩
theorem AccI.base {G G' h : Heap} {y dy : Addr} {xs : List Pr} (I : AccI Np G' h y dy xs) (s : Sub G G') : AccI Np G h y dy xs:=by
 obtain ⟨vs, n, od, ps, qs, O, F, T⟩:=I
 exact ⟨vs, n, od, ps, qs, O.base s, F, T⟩
noncomputable def noTup (o : Obj) : Bool:=o.cls != .type "tuple"
theorem Led.notTup {G h : Heap} {L : Addr} {f : Fm} {r : List (Addr × Obj)} (D : Led G L h f r) (hr : ∀ p ∈ r, ∀ xs n, p.2.data = .seq xs n -> p.2.cls ≠ .type "tuple") : ∀ a ∈ L :: r.map (·.1), ∀ o, h.get? a = some o -> ∀ xs n, o.data = .seq xs n -> o.cls ≠ .type "tuple":=by
 intro a ha o eo zs k hd
 rcases lmc ha with rfl | ha
 ·obtain ⟨o', es, ep, e, d, _⟩:=D.ns
  rw [eo] at e
  rw [Option.some.inj e, d] at hd; cases hd
 ·refine xea (lmm ha) fun p hp e122=>?_; obtain rfl:=e122
  have e:=D.get hp
  rw [eo] at e
  rw [Option.some.inj e] at hd ⊢
  exact hr p hp _ _ hd
theorem AccF.notTup {y dy : Addr} {vs : List Value} {n : Nat} {od : Obj} {ps qs : Array Value} {r : List (Addr × Obj)} (F : AccF od ps qs) (hr : (r.all fun p=>noTup p.2) = true) : ∀ p ∈ AccL y dy vs n od ps qs ++ r, ∀ xs n, p.2.data = .seq xs n -> p.2.cls ≠ .type "tuple":=by
 intro p hp zs k hd hc
 rcases List.mem_append.mp hp with hp | hp
 ·obtain ⟨t, es, ep, d, _⟩:=F.d
  simp only [AccL, List.mem_cons, List.not_mem_nil, or_false] at hp
  rcases hp with rfl | rfl | rfl | rfl
  ·cases hc
  ·dsimp only at hd; rw [d] at hd; cases hd
  ·cases hc
  ·cases hc
 ·have:=List.all_eq_true.mp hr p hp
  unfold noTup at this
  rw [hc] at this
  simp at this
theorem Led.rebaseA {G h : Heap} {L : Addr} {f : Fm} {r : List (Addr × Obj)} {y dy : Addr} {vs : List Value} {n : Nat} {od : Obj} {ps qs : Array Value} {xs : List Pr} (D : Led G L h f (AccL y dy vs n od ps qs ++ r)) (F : AccF od ps qs) (T : Tups Np h vs xs) (hr : (r.all fun p=>noTup p.2) = true) :
  ∃ G2, Sub G G2 /\ Led G2 L h f (AccL y dy vs n od ps qs ++ r) /\ Tups Np G2 vs xs /\ ∀ ws zs, Tups Np h ws zs -> Tups Np G2 ws zs :=
 ⟨_, D.rebase.2.1, D.rebase.1, T.hideD (D.notTup (F.notTup hr)), fun _ _ T2=>T2.hideD (D.notTup (F.notTup hr))⟩
theorem Led.lendA {G h : Heap} {L : Addr} {f : Fm} {r : List (Addr × Obj)} {y dy : Addr} {vs : List Value} {n : Nat} {od : Obj} {ps qs : Array Value} {xs : List Pr} (D : Led G L h f (AccL y dy vs n od ps qs ++ r)) (F : AccF od ps qs) (T : Tups Np G vs xs) (hr : (r.all fun p=>noTup p.2) = true) :
  ∃ G1, Sub G1 h /\ Sub G G1 /\ AccI Np G1 h y dy xs /\ ∀ h' xs', Sub G1 h' -> AccI Np G1 h' y dy xs' -> ∃ G2 vs' n' od' ps' qs', Sub G G2 /\ Led G2 L h' f (AccL y dy vs' n' od' ps' qs' ++ r) /\ AccF od' ps' qs' /\ Tups Np G2 vs' xs' /\ ∀ ws zs, Tups Np h' ws zs -> Tups Np G2 ws zs:=by
 refine xa3 D.lend fun a1 a2 a3 a4=>?_
 refine ⟨_, a1, a3, ⟨vs, n, od, ps, qs, a2, F, T.keeps D.sub⟩, fun h' xs' S' I'=>?_⟩
 obtain ⟨vs', n', od', ps', qs', O', F', T'⟩:=I'
 refine xea3 ((a4 _ _ S' O').rebaseA F' T' hr) fun G2 c1 c2 c3 c4=>?_
 exact ⟨G2, vs', n', od', ps', qs', c1, c2, F', c3, c4⟩
theorem AccF.acc {G h : Heap} {L : Addr} {f : Fm} {r : List (Addr × Obj)} {y dy : Addr} {vs : List Value} {n : Nat} {od : Obj} {ps qs : Array Value} (F : AccF od ps qs) (D : Led G L h f (AccL y dy vs n od ps qs ++ r)) : ∃ t, Acc h y dy vs n od (some (.int 0 t)) :=
 let ⟨t, d⟩:=F.d
 ⟨t, D.get (.head _), D.get (.tail _ (.head _)), d⟩
theorem AccO.accI {G h : Heap} {y dy : Addr} {vs : List Value} {n : Nat} {od : Obj} {ps qs : Array Value} {xs : List Pr} (O : Own G h (AccL y dy vs n od ps qs)) (F : AccF od ps qs) (T : Tups Np h vs xs) : AccI Np G h y dy xs:=⟨vs, n, od, ps, qs, O, F, T⟩
end
section
open Builtin Builtin.ObjectAttr
section
variable {c : Cx} {A : Around} {G h : Heap} {g : Gs} {env : Env} {L : Addr} {f : Fm} {l : List (Addr × Obj)}
theorem W.callF1 {pos : Pos} {N : Addr} {o : Obj} {v : Value} {e : Expr} {rest : List Expr} {Q : PV} (X : TopIn c.w.params G)
  (y : W c A (spliced (backTo pos (starEach (e :: rest) env))) (fun vs h1 g1=>Sub G h1 /\ WC c A (.call (.ref N) ⟨v :: vs, []⟩) Q h1 g1) h g)
  (ho : (KM c.w.params).lookup N = some o) (hd : o.data = .func (fdOf o))
  (h1 : starEach (e :: rest) env = (false, eval e env) :: starEach rest env:=by kernel_rfl) : W c A (callWith pos (.ref N) [v] (backTo pos (starEach (e :: rest) env)) []) Q h g:=fun tk=>by
 have y:=y tk
 rw [h1] at y ⊢
 exact callWith_function (o:=o) (fd:=fdOf o) (evalArgs_plain (wM y (fun vs s z=>⟨⟨(X.keeps z.2.2.1) _ _ ho, hd⟩, (z.2.2.2.call).at z.1 z.2.1⟩) fun _ _ z=>z))
theorem W.callF0 {pos : Pos} {N : Addr} {o : Obj} {first : List Value} {Q : PV} (X : TopIn c.w.params G) (S : Sub G h)
  (y : WC c A (.call (.ref N) ⟨first, []⟩) Q h g) (ho : (KM c.w.params).lookup N = some o) (hd : o.data = .func (fdOf o)) : W c A (callWith pos (.ref N) first (backTo pos (starEach [] env)) []) Q h g:=fun tk=>by
 refine callWith_function (o:=o) (fd:=fdOf o) (PySem.evalArgs_none ⟨⟨(X.keeps S) _ _ ho, hd⟩, ?_⟩)
 rw [apN]
 exact y.call tk
theorem acc_getattribute (P : Params) : findIn (KM P) (.ref 200) "__getattribute__" = some (some (.builtin "list.__getattribute__")):=by kernel_rfl
theorem W.methA {y dy : Addr} {vs : List Value} {n : Nat} {od : Obj} {sz : Option Value} {name : Str} {pl : Sem Bool} {fa : Addr} {Q : Value × List Value -> Heap -> Gs -> Prop} (X : TopIn c.w.params G) (S : Sub G h) (a : Acc h y dy vs n od sz)
  (y1 : Q (.ref fa, [.ref y]) h g) (hx : fm (fSz sz) name = none:=by kernel_rfl)
  (hn : findIn (KM c.w.params) (.ref 200) name = some (some (.ref fa)):=by kernel_rfl) (ht : typeIn (KM c.w.params) (.ref fa) = some (.type "function"):=by kernel_rfl) : W c A (getMethod (.ref y) name pl) Q h g :=
 W.methF "list.__getattribute__" X S (cls200 _) (acc_getattribute _) (by decide +kernel) a.ins a.f hx hn ht y1
theorem W.methAB {y dy : Addr} {vs : List Value} {n : Nat} {od : Obj} {sz : Option Value} {name : Str} {pl : Sem Bool} {id : String} {Q : Value × List Value -> Heap -> Gs -> Prop} (X : TopIn c.w.params G) (S : Sub G h) (a : Acc h y dy vs n od sz)
  (y1 : Q (.builtin id, [.ref y]) h g) (hx : fm (fSz sz) name = none:=by kernel_rfl)
  (hn : findIn (KM c.w.params) (.ref 200) name = some (some (.builtin id)):=by kernel_rfl) (ht : typeIn (KM c.w.params) (.builtin id) = some (.type "method_descriptor"):=by kernel_rfl) : W c A (getMethod (.ref y) name pl) Q h g :=
 W.methB "list.__getattribute__" X S (cls200 _) (acc_getattribute _) (by decide +kernel) a.ins a.f hx hn ht y1
theorem W.getSz {y dy : Addr} {vs : List Value} {n : Nat} {od : Obj} {v : Value} {expr : Bool} {Q : PV} (X : TopIn c.w.params G) (S : Sub G h) (a : Acc h y dy vs n od (some v)) (hv : handedIn v = true) (y1 : Q v h g) : W c A (getAttr (.ref y) "_initial_size" expr) Q h g :=
 W.getL X S (cls200 _) (acc_getattribute _) (lists200 _) a.ins a.f (by kernel_rfl) hv (by kernel_rfl) y1
end
end
section
open Builtin Builtin.ObjectAttr
section
variable {c : Cx} {A : Around} {G h : Heap} {g : Gs} {env : Env} {L : Addr} {f : Fm} {l : List (Addr × Obj)} {E : Value -> Shared -> Prop} {s : Shared}
theorem sub_two (slice : Expr) (o i : Value) : subscripted slice false o i = operate [i, o] (getItem o i) \/ subscripted slice false o i = operate [o, i] (getItem o i):=by
 cases slice with
 | Slice a b st p=>cases st with
  | none=>exact .inl rfl
  | some _=>exact .inr rfl
 | _=>exact .inr rfl
theorem subTailA {value slice : Expr} {y dy : Addr} {vs : List Value} {n : Nat} {od : Obj} {sz : Option Value} {i : Value} {Q : Value -> Shared -> Prop} (X : TopIn c.w.params s.heap) (a : Acc s.heap y dy vs n od sz) (q : wpAny (model PW c.w) A (getItem (.ref y) i) Q E s) :
  wpAny (model PW c.w) A (subscriptTail value slice (.ref y) i) Q E s:=by
 have T:=a.ins.at.type (M:=model PW c.w)
 unfold subscriptTail getitemInPython specialOf
 refine wB (wB (wB (T.here ((looks_findIn X (r:=some (.builtin "list.__getitem__")) (by kernel_rfl)).here ?_))))
 refine wP ?_
 refine wB ?_
 have fin : wpAny (model PW c.w) A (getItem (.ref y) i) (fun r s₃=>wpAny (model PW c.w) A (letTemporaryGo value (.ref y) r >>= fun _=>Pure.pure r) Q E s₃) E s :=
  wM q (fun r s₃ h₃=>wB (wpAny_letTemporaryGo (wP h₃))) fun _ _ x=>x
 rcases sub_two slice (.ref y) i with e | e <;> rw [e] <;> exact wpAny_operating fin
theorem W.subG {value slice : Expr} {pos : Pos} {Q : PV} (y : W c A (eval value env) (fun o h1 g1=>W c A (eval slice env) (fun i h2 g2=>W c A (subscriptTail value slice o i) Q h2 g2) h1 g1) h g) : W c A (eval (.Subscript value slice pos) env) Q h g :=
 fun tk=>Subscript_ (wM (y tk) (fun _ _ z=>wM (z.2.2.at z.1 z.2.1) (fun _ _ z=>z.2.2.at z.1 z.2.1) fun _ _ z=>z) fun _ _ z=>z)
theorem W.subAcc {value slice : Expr} {y dy : Addr} {vs : List Value} {n : Nat} {od : Obj} {sz : Option Value} {i : Value} {Q : PV} (X : TopIn c.w.params G) (S : Sub G h) (a : Acc h y dy vs n od sz) (q : W c A (getItem (.ref y) i) Q h g) : W c A (subscriptTail value slice (.ref y) i) Q h g :=
 fun tk=>subTailA (s:=⟨h, g, c.d, tk, c.os⟩) (X.keeps S) a (q tk)
theorem W.sl {lower upper : Option Expr} {p : Pos} {Q : PV} (y : W c A (evalPart lower env) (fun a h2 g2=>W c A (evalPart upper env) (fun b h3 g3=>Q (.ref h3.objs.size) (h3.push { cls:=.type "slice", data:=.fields #[a, b, .none] }) g3) h2 g2) h g) : W c A (eval (.Slice lower upper none p) env) Q h g :=
 fun tk=>wpAny_Slice (wM (y tk) (fun a s z=>wM (z.2.2.at z.1 z.2.1) (fun b s z=>evalPart_none_step z) fun _ _ z=>z) fun _ _ z=>z)
theorem W.getSlA {y dy sl : Addr} {vs : List Value} {n : Nat} {od : Obj} {sz : Option Value} {vl vu : Value} {lo hi : Option Int} {Q : PV} (X : TopIn c.w.params G) (D : Led G L h f l) (a : Acc h y dy vs n od sz) (hs : h.IsSliceOf sl vl vu .none) (pl : IsPart vl lo) (pu : IsPart vu hi) (hz : vs.length <= 100000)
  (q : ∀ h' z, Led G L h' f ((z, lst (cutL vs lo hi) 0) :: l) -> Q (.ref z) h' g) : W c A (getItem (.ref y) (.ref sl)) Q h g:=fun tk =>
 getSl (s:=⟨h, g, c.d, tk, c.os⟩) (X.keeps D.sub) a hs pl pu hz ⟨rfl, rfl, q _ _ (D.push _)⟩
theorem W.assignS {o i value : Expr} {pos' pos : Pos} {Q : PF}
  (y : W c A (eval value env) (fun v h1 g1=>W c A (eval o env) (fun ov h2 g2=>W c A (eval i env) (fun iv h3 g3=>W c A (setItem ov iv v) (fun _=>Q .next) h3 g3) h2 g2) h1 g1) h g)
  (hs : swapsWith value (some (.Subscript o i pos')) pos.line env = Pure.pure false:=by kernel_rfl) : W c A (exec (.Assign [.Subscript o i pos'] value pos) env) Q h g :=
 fun tk=>wpAny_Assign_Subscript (wM (y tk) (fun _ _ z=>wM (z.2.2.at z.1 z.2.1) (fun _ _ z=>wM (z.2.2.at z.1 z.2.1) (fun _ _ z=>z.2.2.at z.1 z.2.1) fun _ _ z=>z) fun _ _ z=>z) fun _ _ z=>z) hs
theorem W.setSlA {y dy sl z : Addr} {vs zs : List Value} {n m : Nat} {od : Obj} {sz : Option Value} {vl vu : Value} {lo hi : Option Int} {st sp : Nat} {Q : Unit -> Heap -> Gs -> Prop} (X : TopIn c.w.params G) (S : Sub G h) (a : Acc h y dy vs n od sz) (hs : h.IsSliceOf sl vl vu .none) (pl : IsPart vl lo) (pu : IsPart vu hi)
  (hb : sliceBounds lo hi none vs.length = ((st : Int), (sp : Int), 1)) (hz : h.get? z = some (lst zs m)) (h1 : vs.length <= 100000) (h2 : zs.length <= 100000)
  (q : ∀ h' m, h'.get? y = some (accO dy (vs.take st ++ zs ++ vs.drop (Max.max st sp)) m) -> (∀ b ob, b ≠ y -> h.get? b = some ob -> h'.get? b = some ob) -> Q () h' g) : W c A (setItem (.ref y) (.ref sl) (.ref z)) Q h g:=fun tk=>by
 have Xh:=X.keeps S
 have ne : (y == z) = false:=by
  rw [beq_eq_false_iff_ne]
  rintro rfl
  have:=a.x
  rw [hz] at this
  have:=congrArg (fun o=>o.map Obj.cls) this
  cases this
 unfold setItem
 refine wpAny_holding (wB (seqKey (s:=⟨h, g, c.d, tk, c.os⟩) Xh a (wB (specSub (s:=⟨h, g, c.d, tk, c.os⟩) Xh a lb_setitem (by kernel_rfl) slot_list_setitem.bind (args_list_setitem _ _ _) ?_))))
 refine setSl (s:=⟨h, g, c.d, tk, c.os⟩) a.x rfl hs pl pu hb (isList_lst hz) ne h1 h2 fun h' m e k=>⟨_, rfl, ?_⟩
 exact wP ⟨rfl, rfl, q h' m e k⟩
end
end
section
open Builtin Builtin.ObjectAttr
variable {Np : Addr -> Prop}
section
variable {c : Cx} {A : Around} {G h : Heap} {g : Gs} {env : Env} {L : Addr} {f : Fm} {l : List (Addr × Obj)}
theorem W.rdN {x : Str} {pos : Pos} {v : Value} {m : Str -> Option Value} {Q : PV} (n : h.Ns env.locals m) (hx : m x = some v) (y : Q v h g) (hk : env.scope.kind = .function:=by kernel_rfl) (hl : env.kindOf x = some .local:=by kernel_rfl) (hd : (x == ("__debug__" : Str)) = false:=by kernel_rfl) :
  W c A (eval (.Name x pos) env) Q h g:=fun tk=>wpAny_Name (wpAny_loadName_local (m:=m) hk hl n hx ⟨rfl, rfl, y⟩) hd
theorem W.bltN {x : Str} {pos : Pos} {v : Value} {Q : PV} (X : TopIn c.w.params h) (hv : bl c.w.params x = some v) (y : Q v h g) (hn : gl c.w.params x = none:=by kernel_rfl)
  (hk : env.scope.kind = .function:=by kernel_rfl) (hl : env.kindOf x = some .globalImplicit:=by kernel_rfl) (hd : (x == ("__debug__" : Str)) = false:=by kernel_rfl) (hg : (env.globals, env.builtins) = (mainGlobals, builtinsNs):=by kernel_rfl) :
  W c A (eval (.Name x pos) env) Q h g:=fun tk =>
 have g1 : env.globals = mainGlobals:=congrArg Prod.fst hg
 have g2 : env.builtins = builtinsNs:=congrArg Prod.snd hg
 Calls.Name_function_global hk hl (Calls.loadGlobal_builtin (env:=env) (mg:=gl c.w.params) (mb:=bl c.w.params) (g1 ▸ top_g X) hn (g2 ▸ top_b X) hv ⟨rfl, rfl, y⟩) hd
theorem W.globN {x : Str} {pos : Pos} {v : Value} {Q : PV} (X : TopIn c.w.params h) (hv : gl c.w.params x = some v) (y : Q v h g)
  (hk : env.scope.kind = .function:=by kernel_rfl) (hl : env.kindOf x = some .globalImplicit:=by kernel_rfl) (hd : (x == ("__debug__" : Str)) = false:=by kernel_rfl) (hg : env.globals = mainGlobals:=by kernel_rfl) :
  W c A (eval (.Name x pos) env) Q h g:=fun tk =>
 Calls.Name_function_global hk hl (Calls.loadGlobal_global (env:=env) (mg:=gl c.w.params) (hg ▸ top_g X) hv ⟨rfl, rfl, y⟩) hd
theorem quietW {w : World} {A' : Around} {E' : Value -> Shared -> Prop} {t : Sem Value} {F : Value -> Prop} {s : Shared} (y : W ⟨w, s.drawn, s.os⟩ A' t (fun v h' g'=>F v /\ g' = s.gens /\ Sub s.heap h') s.heap s.gens) :
  wpAny (model PW w) A' t (fun v s'=>F v /\ Keeps s s') E' s :=
 wM (y s.toks) (fun v s' z=>by
  refine xa4 z fun z1 z2 z3 z4 z5=>?_
  obtain ⟨a, b, d, e, o⟩:=s'
  dsimp only at z1 z2 z4 z5; subst z1 z2 z4
  exact ⟨z3, a, e, rfl, z5⟩) fun _ _ z=>z.elim
theorem W.genA {elt : Expr} {xa xb : Str} {pa pb pt ip : Pos} {kt : Nat} {scope : Scope} {gpos : Pos} {cc P : Addr} {oc : Obj} {ps : Array Value} {y dy : Addr} {vs : List Value} {n : Nat} {od : Obj} {sz : Option Value} {xs : List Pr} {F : Pr -> Value -> Prop} {x : Str} {l' : Array Value -> List (Addr × Obj)} {Q : PV}
  (hh : A.handled = none) (hroom : A.depth < recursionLimit) (X : TopIn c.w.params G) (D : Led G L h f l) (a : Acc h y dy vs n od sz) (TT : Tups Np G vs xs) (hx : Has f x (.ref y))
  (hc : env.code = .ref cc) (hk : (KM c.w.params).lookup cc = some oc) (e : codeTab oc P = true) (cg : ∀ ps', Chg P (tabO ps') l (tabO ps) (l' ps')) (ht : TriplesOk ps.toList) (nP : (KM c.w.params).lookup P = none)
  (helt : ∀ (C : Addr) (code : Value) (A' : Around) (p : Pr) (t u : Tok) (c' : Cx) (h₂ : Heap) (g₂ : Gs) (m₂ : Str -> Option Value), c'.w = c.w -> A'.handled = none -> p ∈ xs -> h₂.Ns C m₂ -> m₂ xa = some (.str (T p.1) t) -> m₂ xb = some (.str (T p.2) u) -> TopIn c'.w.params h₂ ->
   W c' A' (eval elt (genEnv scope [] C code builtinsNs env)) (fun v h' g'=>F p v /\ g' = g₂ /\ Sub h₂ h') h₂ g₂)
  (q : ∀ a' h5 gs ps', gs.bare = true -> Led G L h5 f (l' ps') -> TriplesOk ps'.toList -> GenW c A a' xs.length (fun i v=>∃ p, xs[i]? = some p /\ F p v) h.objs.size h5 (g.push gs) -> Q (.ref a') h5 (g.push gs))
  (hL : L = env.locals:=by kernel_rfl) (hkf : env.scope.kind = .function:=by kernel_rfl) (hlx : env.kindOf x = some .local:=by kernel_rfl) (hdb : (x == ("__debug__" : Str)) = false:=by kernel_rfl)
  (hg : (env.globals, env.builtins) = (mainGlobals, builtinsNs):=by kernel_rfl)
  (hco : scope.isCoroutine = false:=by kernel_rfl) (hclos : closureFor scope env = Pure.pure []:=by kernel_rfl) (hcell : (scope.names.all fun x=>x.2 != .cell) = true:=by kernel_rfl) (h0 : scope.names.lookup (".0" : Str) = some NameKind.local:=by kernel_rfl)
  (hxa : scope.names.lookup xa = some .local:=by kernel_rfl) (hxb : scope.names.lookup xb = some .local:=by kernel_rfl) (hab : (xa == xb) = false:=by kernel_rfl) (hkind : scope.kind = .function:=by kernel_rfl)
  (hs : ∀ v, genFold (.Name x ip) env v = Pure.pure v:=by intro _; kernel_rfl) :
  W c A (eval (.GeneratorExp elt [⟨.Tuple [.Name xa pa, .Name xb pb] kt pt, .Name x ip, [], 0⟩] scope gpos) env) Q h g:=fun tk=>by
 have TH:=TT.keeps D.sub
 have eT:=TT.len
 have hP : h.get? P = some (tabO ps):=D.get (cg ps).old
 have ch : ∀ j, ∃ z : Addr × Array Value, (∃ va vb, z.2 = #[va, vb]) /\ (j < vs.length -> vs[j]? = some (.ref z.1) /\ h.IsTuple z.1 z.2 /\ ∃ p t u, xs[j]? = some p /\ z.2 = #[.str (T p.1) t, .str (T p.2) u]):=fun j=>by
  by_cases hj : j < vs.length
  ·obtain ⟨v, ev, b, t, u, e1, e2, _⟩:=TH.get (gE (l:=xs) (i:=j) (by lia))
   subst e1
   exact ⟨(b, _), ⟨_, _, rfl⟩, fun _=>⟨ev, e2, _, t, u, gE (by lia), rfl⟩⟩
  ·exact ⟨(0, #[.none, .none]), ⟨_, _, rfl⟩, fun q=>absurd q hj⟩
 refine xe (Classical.axiomOfChoice ch) fun fz hz=>?_
 have neP : ∀ b o, h.get? b = some o -> o.data ≠ (tabO ps).data -> P ≠ b:=fun b o e1 n e2=>by
  subst e2; rw [hP] at e1; exact n (by rw [<- Option.some.inj e1])
 refine genT (s:=⟨h, g, c.d, tk, c.os⟩) (Ts:=fun j=>(fz j).1) (vals:=fun j=>(fz j).2) (F:=fun i v=>∃ p, xs[i]? = some p /\ F p v) (y:=y) (dy:=dy) (vs:=vs) (n:=n) (od:=od) (sz:=sz) (x:=x) hh hroom (D.inK X) a (fun j hj=>((hz j).2 hj).1) (fun j hj=>((hz j).2 hj).2.1) (fun j=>(hz j).1) hc hk e hP ht nP ?_ ?_ ?_ ?_ ?_ ?_ hg hco hclos hcell h0 hxa hxb hab hkind hs
 ·exact neP _ _ a.x (by rintro q; cases q)
 ·obtain ⟨es, ep, d, _⟩:=a.f
  exact neP _ _ a.d (by rw [d]; rintro q; cases q)
 ·intro j hj
  obtain ⟨o, eo, _, k, d⟩:=((hz j).2 hj).2.1
  exact neP _ _ eo (by rw [d]; rintro q; cases q)
 ·intro Q' q'
  exact wpAny_Name (wpAny_loadName_local (m:=fm f) hkf hlx (hL ▸ D.ns) (hx.get D.nm) q') hdb
 ·intro C code A' E' i va vb s₂ m₂ hA ev hi hn ha hb X2
  refine xa2e3a ((hz i).2 hi) fun _ _ p t u ep e2=>?_
  rw [e2] at ev
  injection ev with ev; injection ev with ev1 ev; injection ev with ev2 _
  subst ev1 ev2
  refine wM (quietW (w:=c.w) (helt C code A' p t u ⟨c.w, s₂.drawn, s₂.os⟩ s₂.heap s₂.gens m₂ rfl hA (List.mem_of_getElem? ep) hn ha hb X2)) (fun v s' z=>⟨⟨p, ep, z.1⟩, z.2⟩) fun _ _ z=>z
 ·intro a' h5 tk' gs ps' hb hk5 hP5 ht5 hle hG
  refine ⟨rfl, rfl, q a' h5 gs ps' hb (D.upd (cg ps') hP5 fun b o nb eb=>hk5 b o nb eb) ht5 ?_⟩
  have:=hG
  rw [eT] at this
  exact this
end
end
section
open Builtin Builtin.ObjectAttr
section
variable {c : Cx} {A : Around} {G h : Heap} {g : Gs} {env : Env} {L : Addr} {f : Fm} {l : List (Addr × Obj)} {y dy : Addr} {vs : List Value} {n : Nat} {od : Obj} {sz : Option Value}
theorem lenBody {E : Value -> Shared -> Prop} {s : Shared} {Q : Fin -> Shared -> Prop} (X : TopIn c.w.params s.heap) (a : Acc s.heap y dy vs n od sz)
  (q : wpAny (model PW c.w) A (call (.ref 167) [.ref y]) (fun r s'=>∃ (m : Nat) (t : Tok), r = .int m t /\ m < 2 ^ 63 /\ Q (.done (.ret (.int m s'.toks))) { s' with toks:=s'.toks + 1 }) E s) : wpAny (model PW c.w) A (Builtin.«len» ⟨[.ref y], []⟩) Q E s:=by
 unfold Builtin.«len»
 refine wB (m:=oneArg "len" _) (wP ?_)
 refine wB (m:=callSpecial? (.ref y) (Str.ofString "__len__")) (special_fn X a.ins.at (by kernel_rfl) (by kernel_rfl) (wM q (fun r s' hr=>?_) fun _ _ y=>y))
 refine xe2a2 hr fun m u e02 h1 hq=>?_; obtain rfl:=e02
 refine wB (wpAny_holding (wP ?_))
 refine wB (wpAny_letGo ?_)
 show wpAny _ _ (if (m : Int) < 0 then _ else _) _ _ _
 rw [if_neg (by simp)]
 show wpAny _ _ (if (m : Int) >= 2 ^ 63 then _ else _) _ _ _
 rw [if_neg (by lia)]
 exact wB (wpAny_mkInt (wP hq))
theorem W.lenA {Q : PV} (X : TopIn c.w.params G) (S : Sub G h) (a : Acc h y dy vs n od sz) (q : WC c A.in1 (.call (.ref 167) ⟨[.ref y], []⟩) (fun r h' g'=>∃ (m : Nat) (t : Tok), r = .int m t /\ m < 2 ^ 63 /\ ∀ t', Q (.int m t') h' g') h g) :
  W c A (call (.builtin "len") [.ref y]) Q h g:=fun tk=>by
 refine Calls.call_function_entry kind_len plain_len entry_len (args_len1 _) ?_
 refine lenBody (s:=⟨h, g, c.d, tk, c.os⟩) (X.keeps S) a (wM (q.call tk) (fun r s' z=>?_) fun _ _ z=>z)
 refine xa2e2a2 z fun z1 z2 m t e14 hm z3=>?_; obtain rfl:=e14
 exact ⟨m, t, rfl, hm, _, rfl, z1, z2, z3 _⟩
theorem W.truthA {Q : PB} (X : TopIn c.w.params G) (S : Sub G h) (a : Acc h y dy vs n od sz) (q : WC c A.in1 (.call (.ref 167) ⟨[.ref y], []⟩) (fun r h' g'=>∃ (m : Nat) (t : Tok), r = .int m t /\ m < 2 ^ 63 /\ Q (decide (m ≠ 0)) h' g') h g) :
  W c A (truthy (.ref y)) Q h g:=fun tk=>by
 have T:=a.ins.at.type (M:=model PW c.w)
 have Xh:=X.keeps S
 have key : wpAny (model PW c.w) A (runValue (.builtin "len" ⟨[.ref y], []⟩)) (fun r s'=>s'.drawn = c.d /\ s'.os = c.os /\ ∃ (m : Nat) (t : Tok), r = .int m t /\ Q (decide (m ≠ 0)) s'.heap s'.gens) (fun _ _=>False) ⟨h, g, c.d, tk, c.os⟩:=by
  refine wpAny_runValue (codeAny_builtin entry_len ?_)
  rw [Around.under_plainId plain_len _]
  refine lenBody (s:=⟨h, g, c.d, tk, c.os⟩) Xh a (wM (q.call tk) (fun r s' z=>?_) fun _ _ z=>z)
  refine xa2e2a2 z fun z1 z2 m t e24 hm z3=>?_; obtain rfl:=e24
  exact ⟨m, t, rfl, hm, z1, z2, m, _, rfl, z3⟩
 unfold truthy callSpecial? specialOf
 refine wB (wB (wB (T.here ((looks_findIn Xh (r:=none) (name:=Str.ofString "__bool__") (by kernel_rfl)).here (wP ?_)))))
 refine wB (wB (T.here ((looks_findIn Xh (r:=some (.ref 167)) (name:=Str.ofString "__len__") (by kernel_rfl)).here ?_)))
 rw [if_neg (by simp)]
 refine wB (wM key (fun r s' z=>?_) fun _ _ z=>z)
 refine xa2e2a z fun z1 z2 m t e34 z3=>?_; obtain rfl:=e34
 refine wP ⟨z1, z2, ?_⟩
 have : ((m : Int) != 0) = decide (m ≠ 0):=by rw [Bool.eq_iff_iff]; simp
 rw [this]; exact z3
theorem W.strA {Q : PV} (X : TopIn c.w.params G) (S : Sub G h) (a : Acc h y dy vs n od sz) (hu : A.in1.in1.units < cLine) (q : WC c A.in1.in1 (.call (.ref 174) ⟨[.ref y], []⟩) (fun r h' g'=>∃ x t, r = .str x t /\ Q r h' g') h g) :
  W c A (call (.type "str") [.ref y]) Q h g:=fun tk=>by
 refine kso_call (K:=KM c.w.params) (s:=⟨h, g, c.d, tk, c.os⟩) hu (X.keeps S) a.ins.at (f:=174) (by kernel_rfl) (by kernel_rfl) (wM (q.call tk) (fun r s' z=>?_) fun _ _ z=>z)
 refine xa2e2a z fun z1 z2 x t e44 z3=>?_; obtain rfl:=e44
 exact ⟨z1, z2, z3⟩
end
end
section
open Builtin Builtin.ObjectAttr
set_option maxHeartbeats 4000000
structure MakesL (M : Model) (h : Heap) (C : Addr) : Prop where
 obj : ∃ oc od cd sl, h.get? C = some ⟨oc, od, .cls cd, sl⟩ /\ cd.abstract = false /\ cd.hasDel = false /\ cd.mro.isEmpty = false /\ cd.hasDict = true
 made : Looks M h (Bind.madeBy (.ref C)) (some "list.__new__")
 base : Looks M h (Bind.staticBase (.ref C)) (.ref C)
 self : Looks M h (isSubtype (.ref C) (.ref C)) true
 top : Looks M h (isSubtype (.ref C) (.type "list")) true
 call : Looks M h (specialOf (.ref C) "__call__") (some (.builtin "type.__call__"))
 typ : Looks M h (isInstance (.ref C) (.type "type")) true
theorem makesL {P : Params} {M : Model} {h : Heap} (X : TopIn P h) : MakesL M h 200:=by
 have ho : (KM P).lookup 200 = some (o200 P):=by kernel_rfl
 have hd : (o200 P).data = .cls (cdOf (o200 P)):=by kernel_rfl
 have hc : clsIn (KM P) 200 = some (cdOf (o200 P)):=by kernel_rfl
 have hm : Looks M h (mroOf (.ref 200)) (cdOf (o200 P)).mro:=(looks_clsIn X hc).andThen .now
 have em : (cdOf (o200 P)).mro = [.ref 200, .type "list", .type "object"]:=by kernel_rfl
 have made : Looks M h (Bind.madeBy (.ref 200)) (some "list.__new__"):=by
  intro A Q E s k q
  unfold Bind.madeBy
  refine wB (hm A _ E s k ?_)
  rw [em, List.forIn_cons]
  refine wB (wB (wB (wB (wpAny_loadPart (k _ _ (X _ _ ho)) (wP ?_)))))
  dsimp only
  rw [show (o200 P).slots[4]?.join = some (.builtin "list.__new__") from by kernel_rfl]
  exact wP (wP (wP q))
 refine ⟨⟨_, _, cdOf (o200 P), _, X _ _ ho, by kernel_rfl, by kernel_rfl, by kernel_rfl, by kernel_rfl⟩, made, ?_, looks_mroIn X (by kernel_rfl), looks_mroIn X (by kernel_rfl), looks_specialIn X (by kernel_rfl), looks_instIn X (by kernel_rfl)⟩
 intro A Q E s k q
 unfold Bind.staticBase
 refine wB (hm A _ E s k ?_)
 rw [em, List.forIn_cons]
 exact wB (wB (wB (made A _ E s k (wP (wP (wP q))))))
theorem ln_kind : builtinKind "list.__new__" = some .builtinFn:=by decide +kernel
theorem ln_split : splitId "list.__new__" = some ("list", "__new__"):=by decide +kernel
theorem ln_args (C : Addr) (rest : List Value) : (match Manifest.signature? "list.__new__" with | some sig=>Bind.checkArgs "list.__new__" sig ⟨.ref C :: rest, []⟩ | none=>Pure.pure ()) = Pure.pure ():=by kernel_rfl
noncomputable abbrev accDict : Obj:={ cls:=.type "dict", data:=.dict #[] }
section
variable {w : World} {A : Around} {C : Addr} {R : Result -> Shared -> Prop} {h : Heap} {g : Array GenState} {d : Drawn} {t : Nat} {os : OsState}
theorem new_L {rest : List Value} (Y : MakesL (model PW w) h C)
  (hq : R (.ok (.ret (.ref (h.objs.size + 1)))) ⟨(h.push accDict).push ⟨.ref C, some h.objs.size, .seq #[] 0, #[]⟩, g, d, t, os⟩) :
  codeAny (model PW w) A (.call (.builtin "list.__new__") ⟨.ref C :: rest, []⟩) R ⟨h, g, d, t, os⟩:=by
 obtain ⟨⟨oc, od, cd, sl, hC, e1, e2, e4, e5⟩, made, base, self, top, call, typ⟩:=Y
 refine codeAny_call_builtin_code (Code.quiet_builtin _ (by decide +kernel)) ?_
 simp only [checkBuiltinCall, ln_kind, ln_split]
 have here : Looks (model PW w) h (Bind.madeHere "list.__new__" (.ref C)) ():=base.andThen (made.andThen (Looks.of_pure (by simp only [Option.map_some, bne_self_eq_false, Bool.false_eq_true, if_false])))
 have args:=ln_args C rest
 repeat (first | simp only [bne_self_eq_false, Bool.false_eq_true, if_false] | lk)
 refine codeAny_builtin_stack PySem.F.entry_list_new rfl fun p st=>?_
 rw [Around.under_plainId PySem.F.plain_list_new _]
 dsimp only
 simp only [PySem.owner_list_new]
 have hC':=hpo (⟨.ref C, some h.objs.size, .seq #[] 0, #[]⟩ : Obj) (hpo accDict hC)
 repeat (first | simp only [bne_self_eq_false, Bool.false_eq_true, if_false] | lk)
 rw [e2]
 refine wP (wP ?_)
 show R _ _
 rw [Heap.size_push]
 exact hq
theorem makeL_core {rest : List Value} {init : Value} (Y : MakesL (model PW w) h C) (hi : Looks (model PW w) h (typeLookup (.ref C) "__init__") (some init))
  (hb : ∀ self, Looks (model PW w) h (bindSpecial init self) (init, [self]))
  (hq : codeAny (model PW w) (A.under (.builtin "type.__call__" ⟨.ref C :: rest, []⟩)) (.call init ⟨.ref (h.objs.size + 1) :: rest, []⟩) (InitBack (h.objs.size + 1) R) ⟨(h.push accDict).push ⟨.ref C, some h.objs.size, .seq #[] 0, #[]⟩, g, d, t, os⟩) :
  codeAny (model PW w) A (.call (.ref C) ⟨rest, []⟩) R ⟨h, g, d, t, os⟩:=by
 have Y':=Y
 obtain ⟨⟨oc, od, cd, sl, hC, e1, e2, e4, e5⟩, made, base, self, top, call, typ⟩:=Y
 refine codeAny_of_tree ?_
 show wpAny _ _ (callAny (.ref C) _) _ _ _
 refine nd_load hC ?_
 show wpAny _ _ (callAny.viaDunder (.ref C) _) _ _ _
 unfold callAny.viaDunder
 refine wB (call.at ?_)
 dsimp only
 rw [tc_bind]
 refine wB (wP (wB (wP ?_)))
 refine wP (a:=Fin.again (.call (.builtin "type.__call__") ⟨.ref C :: rest, []⟩)) (And.intro rfl ?_)
 refine codeAny_call_builtin_at (Code.quiet_builtin _ (by decide +kernel)) entry_typeCall (check_slot tc_kind tc_split typ (tc_args _ _ _) ?_)
 unfold Builtin.«type.__call__»
 have hm : Looks (model PW w) h (mroOf (.ref C)) cd.mro:=((Looks.ld (part:=none) hC).andThen .now).andThen .now
 repeat (first | simp only [e4, Bool.false_eq_true, if_false] | with_reducible refine wpAny_call ?_ | lk)
 refine new_L Y' ?_
 have k : ∀ b o, h.get? b = some o -> ((h.push accDict).push ⟨.ref C, some h.objs.size, .seq #[] 0, #[]⟩).get? b = some o:=fun b o e=>hpo _ (hpo _ e)
 have hx : ((h.push accDict).push ⟨.ref C, some h.objs.size, .seq #[] 0, #[]⟩).get? (h.objs.size + 1) = some ⟨.ref C, some h.objs.size, .seq #[] 0, #[]⟩:=by heap_get
 have t1 : Looks (model PW w) ((h.push accDict).push ⟨.ref C, some h.objs.size, .seq #[] 0, #[]⟩) (typeOf (.ref (h.objs.size + 1))) (.ref C):=(Looks.ld hx).andThen .now
 have s1:=self.keeps k
 have i1:=hi.keeps k
 have b1:=(hb (.ref (h.objs.size + 1))).keeps k
 unfold isInstance callSpecial? specialOf
 repeat (first | with_reducible refine wpAny_call ?_ | lk)
 refine codeAny_mono hq fun r s' z=>?_
 rcases r with e | (v | _ | _ | _) <;> first | exact z | exact z.elim | skip
 obtain ⟨rfl, z⟩:=z
 exact wP (wP z)
end
end
section
variable {Np : Addr -> Prop}
noncomputable def prLen (p : Pr) : Nat:=p.1.length + p.2.length
noncomputable def total (xs : List Pr) : Nat:=(xs.map prLen).sum
theorem total_le (xs : List Pr) (k : Nat) : total (xs.take k) <= total xs:=by
 induction xs generalizing k with
 | nil=>simp [total]
 | cons a as ih=>cases k with
  | zero=>simp [total]
  | succ k=>have:=ih k; simp only [total, List.take_succ_cons, mpC, List.sum_cons] at this ⊢; lia
theorem prLen_le {xs : List Pr} {p : Pr} (h : p ∈ xs) : prLen p <= total xs:=by
 induction xs with
 | nil=>cases h
 | cons a as ih =>
  simp only [total, mpC, List.sum_cons]
  rcases lmc h with rfl | h
  ·simp
  ·have:=ih h; unfold total at this; lia
theorem preSum_tot (xs : List Pr) (k : Nat) : preSum (fun i=>((xs[i]?.map fun p=>(prLen p : Int)).getD 0)) k = total (xs.take k):=by
 induction k with
 | zero=>simp [preSum, total]
 | succ k ih =>
  rw [preSum, ih, List.take_add_one]
  cases e : xs[k]? with
  | none=>simp [total]
  | some p=>simp [total]
theorem len_spec {c : Cx} {A : Around} {G h : Heap} {g : Gs} {y dy : Addr} {xs : List Pr} {Q : PV} (X : TopIn c.w.params G) (S : Sub G h) (I : AccI Np G h y dy xs) (r : Room A 2) (hz : total xs <= 100000)
  (k : ∀ h' g' t, Sub G h' -> AccI Np G h' y dy xs -> (AllBare g -> AllBare g') -> Q (.int (total xs) t) h' g') : WC c A (.call (.ref 167) ⟨[.ref y], []⟩) Q h g:=by
 refine xe6a4 (I.open S) fun G1 vs n od ps qs S1 S2 O F TT=>?_
 replace X:=X.keeps S1
 clear S
 have S:=S2
 have eT:=TT.len
 refine enterF (k:=1) 167 (o167 c.w.params) (bodyOf (subSt 7 4)) [("self", .ref y)] [] [("self", some (.ref y))] X S O r rfl (fun s _=>BindsTo.of_eq (by kernel_rfl)) ?_
 intro h₁ L D r' hL
 walk_at "x"
 walk_at "S"
 walk_at "D"
 walk_at "X"
 refine xe (F.acc (r:=[]) D) fun t0 AC=>?_
 refine W.genA (F:=fun p v=>∃ t, v = .int (prLen p : Int) t) (l':=fun ps'=>AccL y dy vs n od ps' qs) r'.hh (by have:=r'.depth; exact lO (by assumption)) X D AC TT .here (cc:=166) (oc:=o166 c.w.params) (by kernel_rfl) (by kernel_rfl) (P:=162) (by kernel_rfl) (fun _=>.there (.there .here)) F.p (by kernel_rfl) ?_ ?_
 ·intro C code A' p t u c' h₂ g₂ m₂ hw hA hp hn ha hb X2
  have:=prLen_le hp
  unfold prLen at this
  refine W.binop ?_
  refine W.call_ ?_
  refine W.bltN (x:=Str.ofString "len") (v:=.builtin "len") X2 (by kernel_rfl) ?_
  refine W.callB ?_
  refine W.spl ?_
  refine W.rdN hn ha ?_
  refine W.spl0 ?_
  refine W.lens (by rw [sE]; lia) fun t1=>?_
  refine W.call_ ?_
  refine W.bltN (x:=Str.ofString "len") (v:=.builtin "len") X2 (by kernel_rfl) ?_
  refine W.callB ?_
  refine W.spl ?_
  refine W.rdN hn hb ?_
  refine W.spl0 ?_
  refine W.lens (by rw [sE]; lia) fun t2=>?_
  refine W.add fun t3=>⟨⟨t3, ?_⟩, rfl, Sub.refl _⟩
  unfold prLen; simp
 ·intro a' h5 gs ps' hbare D5 T5 GW
  refine xa2 D.past fun pL pl pG=>?_
  clear D AC
  walk_at "S"
  refine W.attr ?_
  walk_at "S"
  rename Led _ _ _ _ _=>D5
  have F5 : AccF od ps' qs:=⟨F.d, T5, F.q⟩
  refine xe (F5.acc (r:=[]) D5) fun t1 AC=>?_
  refine W.getSz X D5.sub AC (by kernel_rfl) ?_
  walk_at "S"
  rename Led _ _ _ _ _=>D6
  refine W.sumG (val:=fun i=>((xs[i]?.map fun p=>(prLen p : Int)).getD 0)) GW D6 pL (fun p hp=>?_) pG (fun i v hv=>?_) (fun j hj=>?_) fun h7 g7 t7 D7 b7=>?_
  ·have:=pl
   simp only [AccL, List.mem_cons, List.not_mem_nil, or_false] at hp this
   rcases hp with rfl | rfl | rfl | rfl
   ·exact this (y, _) (.inl rfl)
   ·exact this (dy, _) (.inr (.inl rfl))
   ·exact this (162, tabO ps) (.inr (.inr (.inl rfl)))
   ·exact this (169, tabO qs) (.inr (.inr (.inr rfl)))
  ·refine xeae hv fun p e t e43=>?_; obtain rfl:=e43
   exact ⟨t, by rw [e]; rfl⟩
  ·rw [preSum_tot]
   have:=total_le xs (j + 1)
   have h8 : xs[j]? = some xs[j]:=gE hj
   have:=prLen_le (List.getElem_mem hj)
   rw [h8]
   simp only [Option.map_some, Option.getD_some]
   exact ⟨i64 (lT this (lT hz (by decide))), i64 (lT ‹total (xs.take (j + 1)) <= _› (lT hz (by decide)))⟩
  ·walk_at "S"
   rw [preSum_tot, List.take_length]
   exact k _ _ _ (S1.trans D7.sub) (AccI.base (AccO.accI D7.own F5 (TT.keeps D7.sub)) S1) fun hb=>b7 (hb.push hbare)
end
section
variable {Np : Addr -> Prop}
noncomputable def flat (xs : List Pr) : List Nat:=(xs.map fun p=>p.1 ++ p.2).flatten
theorem inter0 (ys : List (List Nat)) : ([] : List Nat).intercalate ys = ys.flatten:=by
 unfold List.intercalate
 induction ys with
 | nil=>rfl
 | cons y ys ih=>cases ys with
  | nil=>simp [List.intersperse]
  | cons z zs=>simp only [List.intersperse, fCo, List.nil_append] at ih ⊢; rw [ih]
theorem flat_eq (xs : List Pr) : ([] : List Nat).intercalate ((List.range xs.length).map fun i=>((xs[i]?.map fun p=>p.1 ++ p.2).getD [])) = flat xs:=by
 rw [inter0]; unfold flat
 congr 1
 apply List.ext_getElem (by simp)
 intro i h1 h2
 have h3 : i < xs.length:=by simpa using h1
 simp [gE h3]
theorem foldl0 (ys : List Str) (n : Nat) : ys.toArray.foldl (fun a (b : Str)=>a + b.length + (T []).length) n = n + (ys.map (·.length)).sum:=by
 rw [List.foldl_toArray]
 induction ys generalizing n with
 | nil=>simp
 | cons y ys ih=>rw [List.foldl_cons, ih, mpC, List.sum_cons, show (T []).length = 0 from rfl]; lia
theorem joinOk0 (xs : List Pr) (h : total xs <= 100000) : JoinOk (T []) ((List.range xs.length).map fun j=>T ((xs[j]?.map fun p=>p.1 ++ p.2).getD [])) = true:=by
 unfold JoinOk
 rw [foldl0]
 have e : ((List.range xs.length).map fun j=>T ((xs[j]?.map fun p=>p.1 ++ p.2).getD [])) = xs.map fun p=>T (p.1 ++ p.2):=by
  apply List.ext_getElem (by simp)
  intro i h1 h2
  have h3 : i < xs.length:=by simpa using h1
  simp [gE h3]
 rw [e, List.map_map]
 have e2 : (List.map ((fun x : Str=>x.length) ∘ fun p : Pr=>T (p.1 ++ p.2)) xs).sum = total xs:=by
  unfold total
  congr 1
  refine List.map_congr_left fun p _=>?_
  show (T (p.1 ++ p.2)).length = _
  rw [T_length]; simp [prLen]
 rw [e2]
 unfold Builtin.Str.tooLong
 simp [sE]
 exact lT h (by decide)
theorem strA_spec {c : Cx} {A : Around} {G h : Heap} {g : Gs} {y dy : Addr} {xs : List Pr} {Q : PV} (X : TopIn c.w.params G) (S : Sub G h) (I : AccI Np G h y dy xs) (r : Room A 2) (hz : total xs <= 100000) (hl : xs.length <= 100000)
  (k : ∀ h' g' t, Sub G h' -> AccI Np G h' y dy xs -> (AllBare g -> AllBare g') -> Q (.str (T (flat xs)) t) h' g') : WC c A (.call (.ref 174) ⟨[.ref y], []⟩) Q h g:=by
 refine xe6a4 (I.open S) fun G1 vs n od ps qs S1 S2 O F TT=>?_
 replace X:=X.keeps S1
 clear S
 have S:=S2
 have eT:=TT.len
 refine enterF (k:=1) 174 (o174 c.w.params) (bodyOf (subSt 7 5)) [("self", .ref y)] [] [("self", some (.ref y))] X S O r rfl (fun s _=>BindsTo.of_eq (by kernel_rfl)) ?_
 intro h₁ L D r' hL
 walk_at "x"
 walk_at "S"
 walk_at "D"
 walk_at "X"
 refine xe (F.acc (r:=[]) D) fun t0 AC=>?_
 refine W.genA (F:=fun p v=>∃ t, v = .str (T (p.1 ++ p.2)) t) (l':=fun qs'=>AccL y dy vs n od ps qs') r'.hh (by have:=r'.depth; exact lO (by assumption)) X D AC TT .here (cc:=173) (oc:=o173 c.w.params) (by kernel_rfl) (by kernel_rfl) (P:=169) (by kernel_rfl) (fun _=>.there (.there (.there .here))) F.q (by kernel_rfl) ?_ ?_
 ·intro C code A' p t u c' h₂ g₂ m₂ hw hA hp hn ha hb X2
  have:=prLen_le hp
  unfold prLen at this
  refine W.meth ?_
  refine W.globN (x:=Str.ofString "EMPTYSTRING") (v:=.str (T []) 321) X2 (by kernel_rfl) ?_
  refine W.mStr (name:=Str.ofString "join") PySem.F.slot_str_join PySem.F.type_str_join ?_
  refine W.callM1 ?_
  refine W.spl ?_
  refine W.tuple_ ?_
  refine W.spl ?_
  refine W.rdN hn ha ?_
  refine W.spl ?_
  refine W.rdN hn hb ?_
  refine W.spl0 ?_
  intro tk
  refine wpAny_newObj_type ⟨rfl, rfl, ?_⟩ (by show (2 : Nat) <= _; rw [sE]; simp)
  refine W.spl0 ?_
  intro tk2
  refine join_tuple (ys:=[T p.1, T p.2]) ⟨_, Heap.get?_push_size _ rfl, rfl, 0, rfl⟩ (.cons _ _ (.cons _ _ .nil)) (by simp [T_length]; lia) fun t' k=>⟨rfl, rfl, ⟨t', ?_⟩, rfl, fun b o e=>hpo _ e⟩
  have:=T_join [] [p.1, p.2]
  rw [inter0] at this
  simp only [mpC, List.map_nil, fCo, List.flatten_nil, apN] at this
  rw [this]
 ·intro a' h5 gs ps' hbare D5 T5 GW
  refine xa2 D.past fun pL pl pG=>?_
  clear D AC
  walk_at "S"
  rename Led _ _ _ _ _=>D6
  have F5 : AccF od ps ps':=⟨F.d, F.p, T5⟩
  refine W.joinG (sep:=[]) (tx:=fun i=>((xs[i]?.map fun p=>p.1 ++ p.2).getD [])) GW D6 pL (fun p hp=>?_) pG (fun i v hv=>?_) (by exact joinOk0 xs hz) (by rw [sE]; exact lT hl (by decide)) fun h7 g7 t7 D7 b7=>?_
  ·have:=pl
   simp only [AccL, List.mem_cons, List.not_mem_nil, or_false] at hp this
   rcases hp with rfl | rfl | rfl | rfl
   ·exact this (y, _) (.inl rfl)
   ·exact this (dy, _) (.inr (.inl rfl))
   ·exact this (162, tabO ps) (.inr (.inr (.inl rfl)))
   ·exact this (169, tabO qs) (.inr (.inr (.inr rfl)))
  ·refine xeae hv fun p e t e33=>?_; obtain rfl:=e33
   exact ⟨t, by rw [e]; rfl⟩
  ·walk_at "S"
   rw [flat_eq]
   exact k _ _ _ (S1.trans D7.sub) (AccI.base (AccO.accI D7.own F5 (TT.keeps D7.sub)) S1) fun hb=>b7 (hb.push hbare)
end
section
variable {Np : Addr -> Prop}
theorem W.eone {c : Cx} {A : Around} {h : Heap} {g : Gs} {env : Env} {op : BoolOp} {e : Expr} {pos : Pos} {Q : PV} (y : W c A (eval e env) Q h g) : W c A (eval (.BoolOp op [e] pos) env) Q h g:=fun tk=>BoolOp_one (y tk)
theorem W.eor {c : Cx} {A : Around} {h : Heap} {g : Gs} {env : Env} {e₁ e₂ : Expr} {rest : List Expr} {pos : Pos} {Q : PV}
  (y : W c A (eval e₁ env) (fun v h1 g1=>W c A (truthy v) (fun b h2 g2=>if b = true then Q v h2 g2 else W c A (eval (.BoolOp .Or (e₂ :: rest) pos) env) Q h2 g2) h1 g1) h g) : W c A (eval (.BoolOp .Or (e₁ :: e₂ :: rest) pos) env) Q h g :=
 fun tk=>BoolOp_or (wM (y tk) (fun v s z=>wM (z.2.2.at z.1 z.2.1) (fun b s z=>by
  refine xa2 z fun z1 z2 z3=>?_
  cases b
  ·rw [if_neg Bool.false_ne_true] at z3 ⊢; exact z3.at z1 z2
  ·rw [if_pos rfl] at z3 ⊢; exact ⟨z1, z2, z3⟩) fun _ _ z=>z) fun _ _ z=>z)
theorem W.isspace {c : Cx} {A : Around} {h : Heap} {g : Gs} {x : List Nat} {t : Tok} {Q : PV} (k : Q (.bool (Txt.isspace (T x))) h g) : W c A (call (.builtin "str.isspace") [.str (T x) t]) Q h g:=fun tk=>PySem.SC.isspace ⟨rfl, rfl, k⟩
set_option maxHeartbeats 1000000 in
theorem onlyws_spec {c : Cx} {A : Around} {G h : Heap} {g : Gs} {y dy : Addr} {xs : List Pr} {Q : PV} (X : TopIn c.w.params G) (S : Sub G h) (I : AccI Np G h y dy xs) (r : Room A 5) (hz : total xs <= 100000) (hl : xs.length <= 100000)
  (k : ∀ h' g', Sub G h' -> AccI Np G h' y dy xs -> (AllBare g -> AllBare g') -> Q (.bool (decide (total xs = 0) || Txt.isspace (T (flat xs)))) h' g') : WC c A (.call (.ref 189) ⟨[.ref y], []⟩) Q h g:=by
 refine xe6a4 (I.open S) fun G1 vs n od ps qs S1 S2 O F TT=>?_
 replace X:=X.keeps S1
 clear S
 have S:=S2
 refine enterF (k:=4) 189 (o189 c.w.params) (bodyOf (subSt 7 7)) [("self", .ref y)] [] [("self", some (.ref y))] X S O r rfl (fun s _=>BindsTo.of_eq (by kernel_rfl)) ?_
 intro h₁ L D r' hL
 walk_at "x"
 walk_at "S"
 refine W.eand ?_
 refine W.cmpv ?_
 refine W.attr ?_
 walk_at "S"
 walk_at "D"
 refine xe (F.acc (r:=[]) D) fun t0 AC=>?_
 refine W.getSz X D.sub AC (by kernel_rfl) ?_
 walk_at "S"
 walk_at "D"
 refine W.eone ?_
 refine W.eor ?_
 walk_at "S"
 refine W.not_ ?_
 walk_at "D"
 refine xe (F.acc (r:=[]) D) fun t0 AC=>?_
 refine xea3 (Led.lendA (r:=[]) D F TT rfl) fun G2 c1 c2 c3 c4=>?_
 refine W.truthA X D.sub AC (len_spec (X.keeps c2) c1 c3 (r'.in1.less (by simp)) hz fun h2 g2 t2 S2 I2 b2=>⟨_, _, rfl, by exact lLe hz (by decide), ?_⟩)
 refine xe6a4 (c4 _ _ S2 I2) fun G3 vs3 n3 od3 ps3 qs3 d1 D3 F3 TT3 d5=>?_
 replace X:=X.keeps d1
 replace S1:=S1.trans d1
 clear D AC c4 d5 F TT O S2 I2 c3 c1 c2
 walk_at "S"
 refine ifSplit ?_ ?_ <;> intro hc
 ·have hx : total xs = 0:=by simpa using hc
  have:=k h2 g2 (S1.trans D3.sub) (AccI.base (AccO.accI D3.own F3 (TT3.keeps D3.sub)) S1) b2
  repeat walk_at "u"
  simpa [hx, retOf] using this
 ·have hx : total xs ≠ 0:=by simpa using hc
  refine W.eone ?_
  walk_at "S"
  walk_at "D"
  walk_at "X"
  refine xe (F3.acc (r:=[]) D) fun t0 AC=>?_
  refine xea3 (Led.lendA (r:=[]) D F3 TT3 rfl) fun G2 c1 c2 c3 c4=>?_
  refine W.strA X D.sub AC (by have:=r'.in1.in1.units; lia) (strA_spec (X.keeps c2) c1 c3 (r'.in1.in1.less (by simp)) hz hl fun h3 g3 t3 S3 I3 b3=>⟨_, _, rfl, ?_⟩)
  refine xe6a4 (c4 _ _ S3 I3) fun G4 vs4 n4 od4 ps4 qs4 d1 D4 F4 TT4 d5=>?_
  walk_at "S"
  refine W.isspace ?_
  have:=k h3 g3 ((S1.trans d1).trans D4.sub) (AccI.base (AccO.accI D4.own F4 (TT4.keeps D4.sub)) (S1.trans d1)) fun hb=>b3 (b2 hb)
  repeat walk_at "u"
  simpa [hx, retOf] using this
end
section
variable {Np : Addr -> Prop}
theorem count_spec {c : Cx} {A : Around} {G h : Heap} {g : Gs} {y dy : Addr} {xs : List Pr} {Q : PV} (X : TopIn c.w.params G) (S : Sub G h) (I : AccI Np G h y dy xs) (r : Room A 1)
  (k : ∀ h' t, Sub G h' -> AccI Np G h' y dy xs -> Q (.int xs.length t) h' g) : WC c A (.call (.ref 197) ⟨[.ref y], []⟩) Q h g:=by
 refine xe6a4 (I.open S) fun G1 vs n od ps qs S1 S2 O F TT=>?_
 replace X:=X.keeps S1
 refine enterAt (k:=0) 197 (o197 c.w.params) (bodyOf (subSt 7 8)) [("self", .ref y)] [] [("self", some (.ref y))] X S2 O r rfl (fun s _=>BindsTo.of_eq (by kernel_rfl)) ?_
 intro h1 L tk D r' hL
 show PySem.wpAt _ _ _ (execs (_ :: _) _) _ _ _
 refine ks_wpAt_execs_cons (ks_wpAt_Return_some ?_)
 refine xe (F.acc (r:=[]) D) fun t0 AC=>?_
 refine supCall sup_len (.inr rfl) lb_len X D .here AC (fun _ _ q'=>chk_slot (chk_len _) q') (fun h2 tk2 A' k2=>?_) (hco:=⟨196, o196 c.w.params, _, _, _, by kernel_rfl, by kernel_rfl, rfl, rfl, by kernel_rfl⟩)
 refine run_len (s:=⟨h2, g, c.d, tk2, c.os⟩) (k2 _ _ AC.x) rfl ⟨_, rfl, rfl, rfl, ?_⟩
 have D2:=D.grow k2
 have e:=TT.len
 have:=k h2 tk2 (S1.trans D2.sub) ((AccO.accI D2.own F (TT.keeps D2.sub)).base S1)
 rw [<- e] at this
 simpa [retOf] using this
theorem wAt {c : Cx} {A : Around} {code : Code} {h : Heap} {g : Gs} {tk : Nat} {st : Stmt} {rest : List Stmt} {env : Env} {Q : Flow -> Shared -> Prop}
  (w : W c A (exec st env) (fun fl h' g'=>∀ tk', match fl with | .next=>PySem.wpAt (model PW c.w) A code (execs rest env) Q (fun _ _=>False) ⟨h', g', c.d, tk', c.os⟩ | f=>Q f ⟨h', g', c.d, tk', c.os⟩) h g) :
  PySem.wpAt (model PW c.w) A code (execs (st :: rest) env) Q (fun _ _=>False) ⟨h, g, c.d, tk, c.os⟩ :=
 ks_wpAt_execs_cons (wpAt_of_any (wM (w tk) (fun fl s' z=>by
  refine xa2 z fun z1 z2 z3=>?_
  obtain ⟨a, b, d, e, o⟩:=s'
  dsimp only at z1 z2 z3; subst z1 z2
  cases fl <;> exact z3 e) fun _ _ z=>z.elim))
theorem pop_spec {c : Cx} {A : Around} {G h : Heap} {g : Gs} {y dy : Addr} {xs : List Pr} {Q : PV} (X : TopIn c.w.params G) (S : Sub G h) (I : AccI Np G h y dy xs) (r : Room A 2) (hz : xs.length <= 100000) (hN : NpIn Np G)
  (k : ∀ h' v, Sub G h' -> AccI Np G h' y dy xs.dropLast -> Tup Np h' v (xs.getLast?.getD ([], [])) -> Q v h' g) : WC c A (.call (.ref 160) ⟨[.ref y], []⟩) Q h g:=by
 refine xe6a4 (I.open S) fun G1 vs n od ps qs S1 S2 O F TT=>?_
 replace X:=X.keeps S1
 clear S
 have eT:=TT.len
 refine enterAt (k:=1) 160 (o160 c.w.params) (bodyOf (subSt 7 3)) [("self", .ref y)] [] [("self", some (.ref y))] X S2 O r rfl (fun s _=>BindsTo.of_eq (by kernel_rfl)) ?_
 intro h1 L tk D r' hL
 show PySem.wpAt _ _ _ (execs (_ :: _) _) _ _ _
 refine wAt (W.if_ ?_)
 walk_at "S"
 walk_at "D"
 refine xe (F.acc (r:=[]) D) fun t0 AC=>?_
 refine W.methA (fa:=197) X (Led.sub ‹_›) AC ?_
 refine xea3 (Led.lendA (r:=[]) D F TT rfl) fun G2 c1 c2 c3 c4=>?_
 refine W.callF0 (o:=o197 c.w.params) X D.sub ?_ (by kernel_rfl) (by kernel_rfl)
 refine count_spec (X.keeps c2) c1 c3 r' fun h2 t2 S2 I2=>?_
 refine xe6a4 (c4 _ _ S2 I2) fun G3 vs3 n3 od3 ps3 qs3 d1 D3 F3 TT3 d5=>?_
 replace X:=X.keeps d1
 replace S1:=S1.trans d1
 clear D AC c4 d5 F TT O S2 I2 c3 c1 c2
 walk_at "S"
 refine ifSplit ?_ ?_ <;> intro hc
 ·have hx : xs = []:=by
   cases xs with
   | nil=>rfl
   | cons a b=>simp at hc; lia
  subst hx
  walk_at "S"
  refine W.newt ‹Led _ _ _ _ _› (by simp [sE]) fun h3 aT D4=>?_
  clear D3
  walk_at "S"
  rename Led _ _ _ _ _=>D4
  intro tk'
  refine ⟨rfl, rfl, k _ _ (S1.trans D4.sub) (AccI.base (AccO.accI (D4.drop (l':=AccL y dy vs3 n3 od3 ps3 qs3) (List.sublist_cons_self _ _)).own F3 (TT3.keeps D4.sub)) S1) ⟨aT, _, _, rfl, ⟨tup _, D4.get (.head _), rfl, 0, rfl⟩, hN.out (S1.none (D4.nw (aT, _) (.head _)).2.2)⟩⟩
 ·have hx : xs ≠ []:=by rintro rfl; simp at hc
  walk_at "S"
  walk_at "D"
  intro tk'
  show PySem.wpAt _ _ _ (execs (_ :: _) _) _ _ _
  refine ks_wpAt_execs_cons (ks_wpAt_Return_some ?_)
  refine xe (F3.acc (r:=[]) D) fun t0 AC=>?_
  refine xe (⟨xs.length - 1, (Nat.sub_add_cancel (List.length_pos_iff.mpr hx)).symm⟩ : ∃ m, xs.length = m + 1) fun m hm=>?_
  refine xe3a3 (TT3.snoc hm) fun ws v p e103 ep tv TW=>?_; obtain rfl:=e103
  refine supCall sup_pop (.inl rfl) lb_pop X D .here AC (fun X' a' q'=>chk_pop X' a' q') (fun h4 tk4 A' k4=>?_) (hco:=⟨159, o159 c.w.params, _, _, _, by kernel_rfl, by kernel_rfl, rfl, rfl, by kernel_rfl⟩)
  refine run_pop (s:=⟨h4, g, c.d, tk4, c.os⟩) (k4 _ _ AC.x) rfl (by have:=TW.len; simp at this; rw [this]; exact lT (Nat.sub_le _ _) hz) fun h5 m5 e5 k5=>⟨_, rfl, rfl, rfl, ?_⟩
  have D5:=(D.grow k4).upd (o':=accO dy ws m5) .here e5 k5
  refine k _ _ (S1.trans D5.sub) (AccI.base (AccO.accI D5.own F3 (TW.keeps D5.sub)) S1) ?_
  rw [ep]
  exact tv.keeps D5.sub
end
section
variable {Np : Addr -> Prop}
theorem push_spec {c : Cx} {A : Around} {G h : Heap} {g : Gs} {y dy : Addr} {xs : List Pr} {a b : List Nat} {t u : Tok} {Q : PV} (X : TopIn c.w.params G) (S : Sub G h) (I : AccI Np G h y dy xs) (r : Room A 1) (hz : xs.length <= 100000) (hN : NpIn Np G)
  (k : ∀ h', Sub G h' -> AccI Np G h' y dy (xs ++ [(a, b)]) -> Q .none h' g) : WC c A (.call (.ref 144) ⟨[.ref y, .str (T a) t, .str (T b) u], []⟩) Q h g:=by
 refine xe6a4 (I.open S) fun G1 vs n od ps qs S1 S2 O F TT=>?_
 replace X:=X.keeps S1
 clear S
 have S:=S2
 refine enterF (k:=0) 144 (o144 c.w.params) (bodyOf (subSt 7 1)) [("self", .ref y), ("fws", .str (T a) t), ("string", .str (T b) u)] [] [("string", some (.str (T b) u)), ("fws", some (.str (T a) t)), ("self", some (.ref y))] X S O r rfl (fun s _=>BindsTo.of_eq (by kernel_rfl)) ?_
 intro h₁ L D r' hL
 walk_at "x"
 walk_at "S"
 walk_at "D"
 refine xe (F.acc (r:=[]) D) fun t0 AC=>?_
 refine W.methAB (id:="list.append") X (Led.sub ‹_›) AC ?_
 walk_at "S"
 refine W.newt ‹Led _ _ _ _ _› (by simp [sE]) fun h2 aT D2=>?_
 walk_at "S"
 rename Led _ _ _ _ _=>D2
 refine xe (F.acc (r:=[]) (D2.drop (List.sublist_cons_self _ _))) fun t1 AC2=>?_
 refine W.appS X (Led.sub ‹_›) AC2 (by have:=TT.len; lia) fun h3 n3 e3 k3=>?_
 have D3:=D2.upd (o':=accO dy (vs ++ [.ref aT]) n3) (.there .here) e3 k3
 walk_at "S"
 refine ⟨rfl, ?_⟩
 walk_at "S"
 refine k _ (S1.trans D3.sub) (AccI.base (AccO.accI (D3.drop (l':=AccL y dy (vs ++ [.ref aT]) n3 od ps qs) (List.sublist_cons_self _ _)).own F ((TT.keeps D3.sub).append (.cons ⟨aT, t, u, rfl, ⟨tup _, D3.get (.head _), rfl, 0, rfl⟩, hN.out (S1.none (D3.nw (aT, _) (.head _)).2.2)⟩ .nil))) S1)
end
section
variable {Np : Addr -> Prop}
theorem W.isNone {c : Cx} {A : Around} {h : Heap} {g : Gs} {Q : PV} (k : Q (.bool true) h g) : W c A (compareOp .Is .none .none) Q h g:=fun tk=>wpAny_is_self (by decide) ⟨rfl, rfl, k⟩
theorem W.isRef {c : Cx} {A : Around} {h : Heap} {g : Gs} {a : Addr} {Q : PV} (k : Q (.bool false) h g) : W c A (compareOp .Is (.ref a) .none) Q h g:=fun tk=>is_ref_none ⟨rfl, rfl, k⟩
theorem AccF.accM {G h : Heap} {L : Addr} {f : Fm} {l : List (Addr × Obj)} {y dy : Addr} {vs : List Value} {n : Nat} {od : Obj} {ps qs : Array Value} (F : AccF od ps qs) (D : Led G L h f l) (m1 : (y, accO dy vs n) ∈ l) (m2 : (dy, od) ∈ l) : ∃ t, Acc h y dy vs n od (some (.int 0 t)) :=
 let ⟨t, d⟩:=F.d
 ⟨t, D.get m1, D.get m2, d⟩
theorem slice_set {c : Cx} {A : Around} {G h : Heap} {g : Gs} {L : Addr} {f : Fm} {y dy z : Addr} {l : List (Addr × Obj)} {l' : Nat -> List (Addr × Obj)} {vs zs : List Value} {n m : Nat} {od : Obj} {ps qs : Array Value} {va vb : Value} {lo hi : Option Int} {st sp : Nat} {Q : Unit -> Heap -> Gs -> Prop} (X : TopIn c.w.params G) (D : Led G L h f l) (F : AccF od ps qs) (m2 : (dy, od) ∈ l)
  (cg : ∀ m, Chg y (accO dy (vs.take st ++ zs ++ vs.drop (Max.max st sp)) m) l (accO dy vs n) (l' m)) (ez : h.get? z = some (lst zs m)) (h1 : vs.length <= 100000) (h2 : zs.length <= 100000) (pl : IsPart va lo) (pu : IsPart vb hi) (hb : sliceBounds lo hi none vs.length = ((st : Int), (sp : Int), 1))
  (q : ∀ h' m, Led G L h' f (l' m) -> Q () h' g) : W c A (setItem (.ref y) (.ref h.objs.size) (.ref z)) Q (h.push { cls:=.type "slice", data:=.fields #[va, vb, .none] }) g:=by
 have D1:=D.grow (h':=h.push { cls:=.type "slice", data:=.fields #[va, vb, .none] }) fun _ _ e=>hpo _ e
 refine xe (F.accM D1 (cg 0).old m2) fun t0 AC=>?_
 exact W.setSlA X D1.sub AC (Heap.IsSliceOf.new _ _ _ _) pl pu hb (hpo _ ez) h1 h2 fun h' m e k=>q h' m (D1.upd (cg m) e k)
theorem size_set {c : Cx} {A : Around} {G h : Heap} {g : Gs} {L : Addr} {f : Fm} {y dy : Addr} {l : List (Addr × Obj)} {l' : Obj -> List (Addr × Obj)} {vs : List Value} {n : Nat} {od : Obj} {ps qs : Array Value} {t : Tok} {Q : Unit -> Heap -> Gs -> Prop} (X : TopIn c.w.params G) (D : Led G L h f l) (F : AccF od ps qs) (m1 : (y, accO dy vs n) ∈ l)
  (cg : ∀ od', Chg dy od' l od (l' od')) (q : ∀ h' od', Led G L h' f (l' od') -> AccF od' ps qs -> Q () h' g) : W c A (setAttr (.ref y) "_initial_size" (.int 0 t)) Q h g:=by
 refine xe (F.accM D m1 (cg od).old) fun t0 AC=>?_
 refine W.setA X D.sub (cls200 _) AC.ins AC.f (fd':=fSz (some (.int 0 t))) (funext fun y=>?_) (by simp [fSz]) (by kernel_rfl) fun h' od' d e k=>q h' od' (D.upd (cg od') e k) ⟨⟨t, d⟩, F.p, F.q⟩
 show (if y = Str.ofString "_initial_size" then _ else _) = _
 unfold fSz fm fm
 split <;> rename_i h1
 ·rfl
 ·rfl
theorem reset0_spec {c : Cx} {A : Around} {G h : Heap} {g : Gs} {y dy : Addr} {xs : List Pr} {Q : PV} (X : TopIn c.w.params G) (S : Sub G h) (I : AccI Np G h y dy xs) (r : Room A 1) (hz : xs.length <= 100000)
  (k : ∀ h', Sub G h' -> AccI Np G h' y dy [] -> Q .none h' g) : WC c A (.call (.ref 182) ⟨[.ref y], []⟩) Q h g:=by
 refine xe6a4 (I.open S) fun G1 vs n od ps qs S1 S2 O F TT=>?_
 replace X:=X.keeps S1
 clear S
 have S:=S2
 have eT:=TT.len
 refine enterF (k:=0) 182 (o182 c.w.params) (bodyOf (subSt 7 6)) [("self", .ref y), ("startval", .none)] [] [("startval", some (.none)), ("self", some (.ref y))] X S O r rfl (fun s hs=>BindsTo.of_defaults (T:=175) (o:=o175 c.w.params) (by kernel_rfl) (hs ▸ (X.keeps S) _ _ (by kernel_rfl : (KM c.w.params).lookup 175 = some (o175 c.w.params))) rfl rfl rfl) ?_
 intro h₁ L D r' hL
 walk_at "x"
 walk_at "S"
 refine W.if_ ?_
 walk_at "S"
 refine W.cnone ?_
 refine W.isNone ?_
 walk_at "S"
 refine W.newl ‹Led _ _ _ _ _› (by simp [sE]) fun h2 aZ D2=>?_
 walk_at "S"
 refine W.assignS ?_
 walk_at "S"
 refine W.sl ?_
 walk_at "S"
 rename Led _ _ _ _ _=>D3
 refine slice_set (n:=n) (l':=fun m=>(aZ, lst [] 0) :: AccL y dy [] m od ps qs) X D3 F (.tail _ (.tail _ (.head _))) (fun m=>?_) (D3.get (.head _)) (by lia) (by simp) .none .none (st:=0) (sp:=vs.length) (sb_all _) fun h4 m4 D4=>?_
 ·have e' : vs.take 0 ++ [] ++ vs.drop (Max.max 0 vs.length) = []:=by simp
  rw [e']; exact .there .here
 walk_at "S"
 refine W.assignA ?_
 walk_at "S"
 rename Led _ _ _ _ _=>D5
 refine size_set (l':=fun od'=>(aZ, lst [] 0) :: AccL y dy [] m4 od' ps qs) X D5 F (.tail _ (.head _)) (fun _=>.there (.there .here)) fun h6 od6 D6 F6=>?_
 walk_at "S"
 exact k _ (S1.trans D6.sub) (AccI.base (AccO.accI (D6.drop (l':=AccL y dy [] m4 od6 ps qs) (List.sublist_cons_self _ _)).own F6 .nil) S1)
theorem reset1_spec {c : Cx} {A : Around} {G h : Heap} {g : Gs} {y dy z : Addr} {zs : List Value} {m : Nat} {xs ys : List Pr} {Q : PV} (X : TopIn c.w.params G) (S : Sub G h) (I : AccI Np G h y dy xs) (r : Room A 1) (hz : xs.length <= 100000) (ez : G.get? z = some (lst zs m)) (T : Tups Np G zs ys) (hy : ys.length <= 100000)
  (k : ∀ h', Sub G h' -> AccI Np G h' y dy ys -> Q .none h' g) : WC c A (.call (.ref 182) ⟨[.ref y, .ref z], []⟩) Q h g:=by
 refine xe6a4 (I.open S) fun G1 vs n od ps qs S1 S2 O F TT=>?_
 replace X:=X.keeps S1
 clear S
 have S:=S2
 have eT:=TT.len
 have eT2:=T.len
 refine enterF (k:=0) 182 (o182 c.w.params) (bodyOf (subSt 7 6)) [("self", .ref y), ("startval", .ref z)] [] [("startval", some (.ref z)), ("self", some (.ref y))] X S O r rfl (fun s hs=>BindsTo.of_defaults (T:=175) (o:=o175 c.w.params) (by kernel_rfl) (hs ▸ (X.keeps S) _ _ (by kernel_rfl : (KM c.w.params).lookup 175 = some (o175 c.w.params))) rfl rfl rfl) ?_
 intro h₁ L D r' hL
 walk_at "x"
 walk_at "S"
 refine W.if_ ?_
 walk_at "S"
 refine W.cnone ?_
 refine W.isRef ?_
 walk_at "S"
 refine W.assignS ?_
 walk_at "S"
 refine W.sl ?_
 walk_at "S"
 rename Led _ _ _ _ _=>D3
 refine slice_set (n:=n) (l':=fun m=>AccL y dy zs m od ps qs) X D3 F (.tail _ (.head _)) (fun m=>?_) (D3.sub _ _ (S1 _ _ ez)) (by lia) (by lia) .none .none (st:=0) (sp:=vs.length) (sb_all _) fun h4 m4 D4=>?_
 ·have e' : vs.take 0 ++ zs ++ vs.drop (Max.max 0 vs.length) = zs:=by simp
  rw [e']; exact .here
 walk_at "S"
 refine W.assignA ?_
 walk_at "S"
 rename Led _ _ _ _ _=>D5
 refine size_set (l':=fun od'=>AccL y dy zs m4 od' ps qs) X D5 F (.head _) (fun _=>.there .here) fun h6 od6 D6 F6=>?_
 walk_at "S"
 exact k _ (S1.trans D6.sub) (AccI.base (AccO.accI D6.own F6 (T.keeps (S1.trans D6.sub))) S1)
end
section
variable {Np : Addr -> Prop}
theorem cutL_drop {α : Type} (vs : List α) (i : Nat) (hi : i <= vs.length) : cutL vs (some (i : Int)) none = vs.drop i:=by
 unfold cutL loOf hiOf
 simp
 rw [if_neg (by simp)]; simp
theorem popfrom_spec {c : Cx} {A : Around} {G h : Heap} {g : Gs} {y dy : Addr} {i : Nat} {t : Tok} {xs : List Pr} {Q : PV} (X : TopIn c.w.params G) (S : Sub G h) (I : AccI Np G h y dy xs) (r : Room A 1) (hz : xs.length <= 100000) (hi : i <= xs.length)
  (k : ∀ h' z zs, Sub G h' -> AccI Np G h' y dy (xs.take i) -> h'.get? z = some (lst zs 0) -> G.get? z = none -> Tups Np h' zs (xs.drop i) -> Q (.ref z) h' g) : WC c A (.call (.ref 152) ⟨[.ref y, .int i t], []⟩) Q h g:=by
 refine xe6a4 (I.open S) fun G1 vs n od ps qs S1 S2 O F TT=>?_
 replace X:=X.keeps S1
 clear S
 have S:=S2
 have eT:=TT.len
 refine enterF (k:=0) 152 (o152 c.w.params) (bodyOf (subSt 7 2)) [("self", .ref y), ("i", .int i t)] [Str.ofString "popped"] [("i", some (.int i t)), ("self", some (.ref y)), ("popped", none)] X S O r rfl (fun s hs=>BindsTo.of_defaults (T:=145) (o:=o145 c.w.params) (by kernel_rfl) (hs ▸ (X.keeps S) _ _ (by kernel_rfl : (KM c.w.params).lookup 145 = some (o145 c.w.params))) rfl rfl rfl) ?_
 intro h₁ L D r' hL
 walk_at "x"
 walk_at "k"
 refine W.assignN (by decide) ?_
 refine W.subG ?_
 walk_at "S"
 refine W.sl ?_
 walk_at "S"
 rename Led _ _ _ _ _=>D1
 refine xe (F.accM (D1.grow (h':=h₁.push { cls:=.type "slice", data:=.fields #[.int i t, .none, .none] }) fun _ _ e=>hpo _ e) (.head _) (.tail _ (.head _))) fun t0 AC=>?_
 have D2:=D1.grow (h':=h₁.push { cls:=.type "slice", data:=.fields #[.int i t, .none, .none] }) fun _ _ e=>hpo _ e
 refine W.subAcc X D2.sub AC ?_
 refine W.getSlA X D2 AC (Heap.IsSliceOf.new _ _ _ _) (.int _ _) .none (by lia) fun h3 z D3=>?_
 rw [cutL_drop vs i (by lia)] at D3
 clear D1 D2
 walk_at "S"
 refine W.assignS ?_
 walk_at "S"
 refine W.newl ‹Led _ _ _ _ _› (by simp [sE]) fun h4 aZ D4=>?_
 walk_at "S"
 refine W.sl ?_
 walk_at "S"
 rename Led _ _ _ _ _=>D5
 refine slice_set (n:=n) (l':=fun m=>(aZ, lst [] 0) :: (z, lst (vs.drop i) 0) :: AccL y dy (vs.take i) m od ps qs) X D5 F (.tail _ (.tail _ (.tail _ (.head _)))) (fun m=>?_) (D5.get (.head _)) (by lia) (by simp) (.int _ _) .none (st:=i) (sp:=vs.length) (sb_from i _ (by lia)) fun h6 m6 D6=>?_
 ·have e' : vs.take i ++ [] ++ vs.drop (Max.max i vs.length) = vs.take i:=by rw [Nat.max_eq_right (by lia)]; simp
  rw [e']; exact .there (.there .here)
 walk_at "S"
 rename Led _ _ _ _ _=>D7
 exact k _ z (vs.drop i) (S1.trans D7.sub) (AccI.base (AccO.accI (D7.drop (l':=AccL y dy (vs.take i) m6 od ps qs) (.cons _ (.cons _ (List.Sublist.refl _)))).own F ((TT.keeps D7.sub).take i)) S1) (D7.get (.tail _ (.head _))) (S1.none (D7.nw (z, _) (.tail _ (.head _))).2.2) ((TT.keeps D7.sub).drop i)
end
section
variable {Np : Addr -> Prop}
theorem size_set0 {c : Cx} {A : Around} {G h : Heap} {g : Gs} {L : Addr} {f : Fm} {y dy : Addr} {l : List (Addr × Obj)} {l' : Obj -> List (Addr × Obj)} {vs : List Value} {n : Nat} {od : Obj} {t : Tok} {Q : Unit -> Heap -> Gs -> Prop} (X : TopIn c.w.params G) (D : Led G L h f l) (d0 : DOf (fSz none) od) (m1 : (y, accO dy vs n) ∈ l)
  (cg : ∀ od', Chg dy od' l od (l' od')) (q : ∀ h' od', Led G L h' f (l' od') -> DOf (fSz (some (.int 0 t))) od' -> Q () h' g) : W c A (setAttr (.ref y) "_initial_size" (.int 0 t)) Q h g:=by
 refine W.setA X D.sub (cls200 _) (x:=y) (dx:=dy) (ox:=accO dy vs n) (od:=od) ⟨D.get m1, D.get (cg od).old, rfl, rfl, rfl⟩ d0 (fd':=fSz (some (.int 0 t))) (funext fun y=>?_) (by simp [fSz]) (by kernel_rfl) fun h' od' d e k=>q h' od' (D.upd (cg od') e k) d
 show (if y = Str.ofString "_initial_size" then _ else _) = _
 unfold fSz fm fm
 split <;> rename_i h1
 ·rfl
 ·rfl
theorem accDict_of : DOf (fSz none) accDict:=⟨#[], 0, rfl, fun e he=>by simp at he, by unfold UniqKeys; simp, fun y=>by unfold fSz fm fm; split <;> rfl⟩
theorem init_spec {c : Cx} {A : Around} {G h : Heap} {g : Gs} {y dy : Addr} {n : Nat} {t : Tok} {ps qs : Array Value} {Q : PV} (X : TopIn c.w.params G) (S : Sub G h) (O : Own G h (AccL y dy [] n accDict ps qs)) (hp : TriplesOk ps.toList) (hq : TriplesOk qs.toList) (r : Room A 1)
  (k : ∀ h', Sub G h' -> AccI Np G h' y dy [] -> Q .none h' g) : WC c A (.call (.ref 137) ⟨[.ref y, .int 0 t], []⟩) Q h g:=by
 refine enterAt (k:=0) 137 (o137 c.w.params) (bodyOf (subSt 7 0)) [("self", .ref y), ("initial_size", .int 0 t)] [] [("initial_size", some (.int 0 t)), ("self", some (.ref y))] X S O r rfl (fun s hs=>BindsTo.of_defaults (T:=129) (o:=o129 c.w.params) (by kernel_rfl) (hs ▸ (X.keeps S) _ _ (by kernel_rfl : (KM c.w.params).lookup 129 = some (o129 c.w.params))) rfl rfl rfl) ?_
 intro h1 L tk D r' hL
 show PySem.wpAt _ _ _ (execs (_ :: _) _) _ _ _
 refine wAt (W.assignA ?_)
 walk_at "S"
 walk_at "D"
 refine size_set0 (l':=fun od'=>AccL y dy [] n od' ps qs) X D accDict_of (.head _) (fun _=>.there .here) fun h2 od D2 dd=>?_
 intro tk'
 show PySem.wpAt _ _ _ (execs (_ :: _) _) _ _ _
 refine ks_wpAt_execs_cons (ks_wpAt_Expr_any ?_ (by kernel_rfl) (by kernel_rfl))
 have AC : Acc h2 y dy [] n od (some (.int 0 t)):=⟨D2.get (.head _), D2.get (.tail _ (.head _)), dd⟩
 refine supCall sup_init (.inr rfl) lb_init X D2 (.there .here) AC (fun _ _ q'=>chk_slot (chk_init _) q') (fun h4 tk4 A' k4=>?_) (hco:=⟨136, o136 c.w.params, _, _, _, by kernel_rfl, by kernel_rfl, rfl, rfl, by kernel_rfl⟩)
 refine run_init (s:=⟨h4, g, c.d, tk4, c.os⟩) (k4 _ _ AC.x) rfl (by simp) fun h5 m5 e5 k5=>⟨_, rfl, ?_⟩
 have D5:=(D2.grow k4).upd (o':=accO dy [] m5) .here e5 k5
 show PySem.wpAt _ _ _ (execs [] _) _ _ _
 refine wpAt_of_any (wP ?_)
 exact ⟨rfl, rfl, k _ D5.sub (AccO.accI D5.own ⟨⟨t, dd⟩, hp, hq⟩ .nil)⟩
end
section
open Builtin Builtin.ObjectAttr
variable {Np : Addr -> Prop}
theorem newAcc_spec {c : Cx} {A : Around} {G h : Heap} {g : Gs} {t : Tok} {ps qs : Array Value} {Q : PV} (X : TopIn c.w.params G) (S : Sub G h) (O : Own G h [(162, tabO ps), (169, tabO qs)]) (hp : TriplesOk ps.toList) (hq : TriplesOk qs.toList) (r : Room A 2)
  (k : ∀ h' y dy, Sub G h' -> AccI Np G h' y dy [] -> Q (.ref y) h' g) : W c A (call (.ref 200) [.int 0 t]) Q h g:=fun tk=>by
 have Xh:=X.keeps S
 refine wpAny_call (makeL_core (makesL Xh) (looks_findIn Xh (r:=some (.ref 137)) (by kernel_rfl)) (fun self=>bind_fn Xh self (by kernel_rfl)) ?_)
 have e1 : (Code.builtin "type.__call__" ⟨[.ref 200, .int 0 t], []⟩).weight = 1:=by kernel_rfl
 have e2 : (Code.builtin "type.__call__" ⟨[.ref 200, .int 0 t], []⟩).cUnits = 1:=by kernel_rfl
 have r2 : Room (A.under (.builtin "type.__call__" ⟨[.ref 200, .int 0 t], []⟩)) 1:=⟨by
  have:=r.depth
  show A.depth + (Code.builtin "type.__call__" ⟨[.ref 200, .int 0 t], []⟩).weight + 1 < _
  rw [e1]; omega, by
  have:=r.units
  show A.units + (Code.builtin "type.__call__" ⟨[.ref 200, .int 0 t], []⟩).cUnits + 10 * 1 < _
  rw [e2]; lia, r.hh⟩
 have k1 : ∀ b o, h.get? b = some o -> (h.push accDict).get? b = some o:=fun b o e=>hpo _ e
 have k2 : ∀ b o, (h.push accDict).get? b = some o -> ((h.push accDict).push (accO h.objs.size [] 0)).get? b = some o:=fun b o e=>hpo _ e
 have lt:=fun p hp=>Heap.lt_size (O.at_ p hp).1
 have hs : (h.push accDict).objs.size = h.objs.size + 1:=Heap.size_push ..
 have O2 : Own G ((h.push accDict).push (accO h.objs.size [] 0)) (AccL (h.objs.size + 1) h.objs.size [] 0 accDict ps qs):=by
  refine ⟨fun p hp=>?_, ?_⟩
  ·simp only [AccL, List.mem_cons, List.not_mem_nil, or_false] at hp
   rcases hp with rfl | rfl | rfl | rfl
   ·refine ⟨?_, S.none (get_past (Nat.le_succ _))⟩
    have:=Heap.get?_push_size (h.push accDict) (o:=accO h.objs.size [] 0) rfl
    rwa [hs] at this
   ·exact ⟨k2 _ _ (Heap.get?_push_size _ rfl), S.none (get_past (Nat.le_refl _))⟩
   ·exact ⟨k2 _ _ (k1 _ _ (O.at_ _ (.head _)).1), (O.at_ _ (.head _)).2⟩
   ·exact ⟨k2 _ _ (k1 _ _ (O.at_ _ (.tail _ (.head _))).1), (O.at_ _ (.tail _ (.head _))).2⟩
  ·have l1:=lt (162, tabO ps) (.head _)
   have l2:=lt (169, tabO qs) (.tail _ (.head _))
   dsimp only at l1 l2
   simp only [AccL, mpC, List.map_nil, List.nodup_cons, List.mem_cons, List.not_mem_nil, or_false, not_or, not_false_eq_true, List.nodup_nil, and_true]
   exact ⟨⟨Nat.succ_ne_self _, Nat.ne_of_gt (Nat.lt_succ_of_lt l1), Nat.ne_of_gt (Nat.lt_succ_of_lt l2)⟩, ⟨Nat.ne_of_gt l1, Nat.ne_of_gt l2⟩, by decide⟩
 refine codeAny_mono (init_spec (c:=c) (G:=G) (g:=g) (Q:=fun v h' g'=>v = .none /\ Q (.ref (h.objs.size + 1)) h' g') X ((S.trans k1).trans k2) O2 hp hq r2 (fun h' S' I'=>⟨rfl, k _ _ _ S' I'⟩) tk) fun r s' z=>?_
 refine xea4 z fun v e01 z1 z2 e04 z3=>?_; obtain rfl:=e01; obtain rfl:=e04
 exact ⟨rfl, z1, z2, z3⟩
end
section
open Builtin Builtin.ObjectAttr
noncomputable def FmtG (G : Heap) (mk dk : Addr) (fd : Fm) : Prop:=∃ od, Ins G mk 116 dk (instObj 116 dk) od /\ DOf fd od
theorem FmtG.keeps {G G' : Heap} {mk dk : Addr} {fd : Fm} (x : FmtG G mk dk fd) (S : Sub G G') : FmtG G' mk dk fd :=
 let ⟨od, I, d⟩:=x
 ⟨od, ⟨S _ _ I.x, S _ _ I.d, I.cls, I.dict, I.no⟩, d⟩
noncomputable abbrev fF (room : Nat) (t1 : Tok) (sp : List Nat) (t2 t3 t4 : Tok) (la y : Addr) : Fm :=
 [("_maxlen", some (.int room t1)), ("_continuation_ws", some (.str (T [32]) t2)), ("_continuation_ws_len", some (.int 1 t3)), ("_splitchars", some (.str (T sp) t4)), ("_lines", some (.ref la)), ("_current_line", some (.ref y))]
section
variable {c : Cx} {A : Around} {G h : Heap} {g : Gs} {env : Env} {L : Addr} {f : Fm} {l : List (Addr × Obj)}
theorem W.fa {mk dk : Addr} {fd : Fm} {attr : Str} {v : Value} {p0 pos : Pos} {Q : PV} (X : TopIn c.w.params G) (D : Led G L h f l) (FG : FmtG G mk dk fd) (hs : Has f (Str.ofString "self") (.ref mk)) (hv : fm fd attr = some v) (hh : handedIn v = true) (y : Q v h g)
  (hn : findIn (KM c.w.params) (.ref 116) attr = some none:=by kernel_rfl)
  (hL : L = env.locals:=by kernel_rfl) (hk : env.scope.kind = .function:=by kernel_rfl) (hl : env.kindOf (Str.ofString "self") = some .local:=by kernel_rfl)
  (he : eval (.Attribute (.Name (Str.ofString "self") p0) attr pos) env = (do
   let o <- eval (.Name (Str.ofString "self") p0) env
   PySem.standAt pos.atName
   let r <- PySem.holding [o] (getAttr o attr true)
   letTemporaryGo (.Name (Str.ofString "self") p0) o r
   Pure.pure r):=by kernel_rfl) : W c A (eval (.Attribute (.Name (Str.ofString "self") p0) attr pos) env) Q h g:=by
 obtain ⟨od, I, d⟩:=FG
 refine W.attr ?_ he
 refine W.rd D hs ?_ hL hk hl (by kernel_rfl)
 exact W.getA X D.sub (cls116 _) (by kernel_rfl) (x:=mk) (dx:=dk) (ox:=instObj 116 dk) (od:=od) ⟨D.sub _ _ I.x, D.sub _ _ I.d, I.cls, I.dict, I.no⟩ d hv hh hn y
theorem W.fmeth {mk dk : Addr} {fd : Fm} {name : Str} {pl : Sem Bool} {fa : Addr} {Q : Value × List Value -> Heap -> Gs -> Prop} (X : TopIn c.w.params G) (S : Sub G h) (FG : FmtG G mk dk fd) (hx : fm fd name = none) (y : Q (.ref fa, [.ref mk]) h g)
  (hn : findIn (KM c.w.params) (.ref 116) name = some (some (.ref fa)):=by kernel_rfl) (ht : typeIn (KM c.w.params) (.ref fa) = some (.type "function"):=by kernel_rfl) : W c A (getMethod (.ref mk) name pl) Q h g:=by
 obtain ⟨od, I, d⟩:=FG
 exact W.methF "object.__getattribute__" X S (cls116 _) (by kernel_rfl) (by decide +kernel) (x:=mk) (dx:=dk) (ox:=instObj 116 dk) (od:=od) ⟨S _ _ I.x, S _ _ I.d, I.cls, I.dict, I.no⟩ d hx hn ht y
theorem W.range3 {n : Nat} {t u z : Tok} {Q : PV} (D : Led G L h f l) (hn : n <= 1000000) (y : ∀ h' r, Led G L h' f l -> IsRange h' r n 0 (-1) t u z -> Q (.ref r) h' g) : W c A (call (.type "range") [.int n t, .int 0 u, .int (-1) z]) Q h g:=fun tk =>
 call_range_3 (by decide) ⟨rfl, rfl, y _ _ (D.grow fun _ _ e=>hpo _ e) (IsRange.new h n 0 (-1) t u z)⟩ (.inl (PyProof.noPylong_small (by decide)))
theorem W.forRangeD {x : Str} {px : Pos} {body orelse : List Stmt} {Q : PF} {r : Addr} {n : Nat} {t u v : Tok} (hh : A.handled = none) (D : Led G L h f l) (hr : IsRange h r (n : Int) 0 (-1) t u v) (hn : n <= 1000000)
  (inv : Nat -> Fm -> List (Addr × Obj) -> Gs -> Prop) (i0 : inv 0 f l g)
  (turn : ∀ i t G' h f l g, i < n -> Sub G G' -> inv i f l g -> Led G' L h f l ->
   W c A (storeName env x (.int ((n : Int) - (i : Int)) t)) (fun _ h2 g2=>W c A (execs body env) (fun fl h3 g3=>match fl with
   | .next | .cont=>∃ f' l', Led G' L h3 f' l' /\ inv (i + 1) f' l' g3
   | .brk=>Q .next h3 g3
   | .ret v=>Q (.ret v) h3 g3) h2 g2) h g)
  (done : ∀ h f l g, inv n f l g -> Led G L h f l -> W c A (execs orelse env) Q h g) :
  W c A (pyIter (.ref r)) (fun it h2 g2=>WF c A (.forLoop (.Name x px) it body orelse env) Q h2 g2) h g:=fun tk=>by
 have hsz : Builtin.Range.rangeSize n 0 (-1) = (n : Int):=by
  unfold Builtin.Range.rangeSize
  simp
  lia
 have hsm : Builtin.Range.small n 0 (-1) = true:=by
  unfold Builtin.Range.small Builtin.Range.rangeFitsLong
  simp only [hsz]
  simp
  lia
 refine wpAny_pyIter_range hr hsm ⟨rfl, rfl, ?_⟩
 have N:=D.ne (a:=0)
 have D1:=D.grow (h':=h.push { cls:=.type "range_iterator", data:=.fields #[rawInt n, rawInt (Builtin.Range.rangeSize n 0 (-1)), rawInt (-1)] }) fun _ _ e=>hpo _ e
 refine WF.walk (Walks.range hh h.objs.size n (-1) n) D1 ?_ (fun i h st b hb=>by obtain rfl:=lms hb; exact ⟨_, st⟩) (fun b hb=>by rw [lms hb]; exact ⟨N.1, N.2.1⟩) (fun b hb=>by rw [lms hb]; exact N.2.2) inv i0 (fun i v G' h f l g hi hP S hv D=>?_) done
 ·show Heap.get? _ _ = some _
  rw [hsz]
  have e : (h.push { cls:=.type "range_iterator", data:=.fields #[rawInt n, rawInt (n : Int), rawInt (-1)] }).get? h.objs.size = _:=Heap.get?_push_size _ rfl
  simpa using e
 ·obtain ⟨t, rfl⟩:=hP
  have:=turn i t G' h f l g hi S hv D
  rw [show (n : Int) + (i : Int) * (-1) = (n : Int) - (i : Int) by lia]; exact this
end
end
section
open Builtin Builtin.ObjectAttr
variable {Np Nq : Addr -> Prop}
section
variable {c : Cx} {A : Around} {G h : Heap} {g : Gs} {env : Env} {L : Addr} {f : Fm} {l : List (Addr × Obj)}
theorem Tup.reads {v : Value} {p : Pr} (t : Tup Np h v p) : ∃ as, Reads h v (.tuple [.str (T p.1), .str (T p.2)]) as:=by
 obtain ⟨a, u, w, rfl, ⟨o, eo, ec, n, ed⟩, _⟩:=t
 exact ⟨_, .tuple eo ec ed (.cons (.str _ _) (.cons (.str _ _) .nil))⟩
theorem W.netup {v w : Value} {p q : Pr} {Q : PV} (t1 : Tup Np h v p) (t2 : Tup Nq h w q) (hu : A.units + 2 < cLine) (hl : PyData.strOk (T p.1) = true /\ PyData.strOk (T p.2) = true /\ PyData.strOk (T q.1) = true /\ PyData.strOk (T q.2) = true)
  (y : Q (.bool (!decide (p = q))) h g) : W c A (compareOp .NotEq v w) Q h g:=fun tk=>by
 refine xe t1.reads fun as ra=>?_
 refine xe t2.reads fun bs rb=>?_
 refine SeqAt.compareNe_reads (s:=⟨h, g, c.d, tk, c.os⟩) ra rb ?_ ?_ ?_ ⟨rfl, rfl, ?_⟩
 ·simp [PyData.canLay0, PyData.canLayAll0, hl]
 ·simp [PyData.canLay0, PyData.canLayAll0, hl]
 ·simp [PyData.depth, PyData.depthAll]; exact lO (by assumption)
 ·have e : PyData.eqv (.tuple [.str (T p.1), .str (T p.2)]) (.tuple [.str (T q.1), .str (T q.2)]) = decide (p = q):=by
   show ((T p.1 == T q.1) && ((T p.2 == T q.2) && true)) = _
   rw [T_beq, T_beq, Bool.eq_iff_iff]
   simp [Prod.ext_iff]
  rw [e]; exact y
noncomputable abbrev FmtL (y dy la : Addr) (vs : List Value) (n : Nat) (od : Obj) (ps qs : Array Value) (vl : List Value) (ml : Nat) : List (Addr × Obj):=AccL y dy vs n od ps qs ++ [(la, lst vl ml)]
noncomputable def FmtI (Np : Addr -> Prop) (G h : Heap) (y dy la : Addr) (xs : List Pr) (ls : List (List Nat)) : Prop:=∃ vs n od ps qs vl ml, Own G h (FmtL y dy la vs n od ps qs vl ml) /\ AccF od ps qs /\ Tups Np h vs xs /\ Ss vl ls
theorem Own.notTupF {y dy la : Addr} {vs : List Value} {n : Nat} {od : Obj} {ps qs : Array Value} {vl : List Value} {ml : Nat} (O : Own G h (FmtL y dy la vs n od ps qs vl ml)) (F : AccF od ps qs) : ∀ a ∈ (FmtL y dy la vs n od ps qs vl ml).map (·.1), ∀ o, h.get? a = some o -> ∀ xs n, o.data = .seq xs n -> o.cls ≠ .type "tuple":=by
 intro a ha o eo zs k hd
 refine xea (lmm ha) fun p hp e32=>?_; obtain rfl:=e32
 have e:=(O.at_ p hp).1
 rw [eo] at e
 rw [Option.some.inj e] at hd ⊢
 exact F.notTup (r:=[(la, lst vl ml)]) rfl p hp zs k hd
theorem FmtI.open {y dy la : Addr} {xs : List Pr} {ls : List (List Nat)} (S : Sub G h) (I : FmtI Np G h y dy la xs ls) : ∃ G' vs n od ps qs vl ml, Sub G G' /\ Sub G' h /\ Own G' h (FmtL y dy la vs n od ps qs vl ml) /\ AccF od ps qs /\ Tups Np G' vs xs /\ Ss vl ls:=by
 obtain ⟨vs, n, od, ps, qs, vl, ml, O, F, T, Z⟩:=I
 refine ⟨hideAll h ((FmtL y dy la vs n od ps qs vl ml).map (·.1)), vs, n, od, ps, qs, vl, ml, fun b o e=>hideAll_get _ (S b o e) fun q=>?_, fun b o e=>of_hideAll _ e, ⟨fun p hp=>⟨(O.at_ p hp).1, hideAll_none _ (List.mem_map_of_mem hp)⟩, O.nd⟩, F, T.hideD (O.notTupF F), Z⟩
 refine xea (lmm q) fun p hp e52=>?_; obtain rfl:=e52
 rw [(O.at_ p hp).2] at e; cases e
theorem FmtI.base {G' : Heap} {y dy la : Addr} {xs : List Pr} {ls : List (List Nat)} (I : FmtI Np G' h y dy la xs ls) (s : Sub G G') : FmtI Np G h y dy la xs ls:=by
 obtain ⟨vs, n, od, ps, qs, vl, ml, O, F, T, Z⟩:=I
 exact ⟨vs, n, od, ps, qs, vl, ml, O.base s, F, T, Z⟩
theorem Led.fmtI {y dy la : Addr} {vs : List Value} {n : Nat} {od : Obj} {ps qs : Array Value} {vl : List Value} {ml : Nat} {xs : List Pr} {ls : List (List Nat)} {r : List (Addr × Obj)} (D : Led G L h f (FmtL y dy la vs n od ps qs vl ml ++ r)) (F : AccF od ps qs) (TT : Tups Np h vs xs) (Z : Ss vl ls) : FmtI Np G h y dy la xs ls :=
 ⟨vs, n, od, ps, qs, vl, ml, (D.drop (l':=FmtL y dy la vs n od ps qs vl ml) (List.sublist_append_left _ _)).own, F, TT, Z⟩
theorem Led.lendF {y dy la : Addr} {vs : List Value} {n : Nat} {od : Obj} {ps qs : Array Value} {vl : List Value} {ml : Nat} {xs : List Pr} {ls : List (List Nat)} {r : List (Addr × Obj)} (D : Led G L h f (FmtL y dy la vs n od ps qs vl ml ++ r)) (F : AccF od ps qs) (TT : Tups Np G vs xs) (Z : Ss vl ls) (hr : (r.all fun p=>noTup p.2) = true) :
  ∃ G1, Sub G1 h /\ Sub G G1 /\ FmtI Np G1 h y dy la xs ls /\ ∀ h' xs' ls', Sub G1 h' -> FmtI Np G1 h' y dy la xs' ls' -> ∃ G2 vs' n' od' ps' qs' vl' ml', Sub G G2 /\ Led G2 L h' f (FmtL y dy la vs' n' od' ps' qs' vl' ml' ++ r) /\ AccF od' ps' qs' /\ Tups Np G2 vs' xs' /\ Ss vl' ls':=by
 refine xa3 D.lend fun a1 a2 a3 a4=>?_
 refine ⟨_, a1, a3, ⟨vs, n, od, ps, qs, vl, ml, a2, F, TT.keeps D.sub, Z⟩, fun h' xs' ls' S' I'=>?_⟩
 obtain ⟨vs', n', od', ps', qs', vl', ml', O', F', T', Z'⟩:=I'
 have D':=a4 _ _ S' O'
 rw [apA] at D'
 refine xea3 (D'.rebaseA F' T' (r:=[(la, lst vl' ml')] ++ r) (by rw [List.all_append, hr]; rfl)) fun G2 c1 c2 c3 c4=>?_
 refine ⟨G2, vs', n', od', ps', qs', vl', ml', c1, ?_, F', c3, Z'⟩
 rw [apA]; exact c2
end
end
section
variable {Np : Addr -> Prop}
noncomputable def newl (xs : List Pr) (ls : List (List Nat)) : List (List Nat) :=
 if total xs > 0 then if Txt.isspace (T (flat xs)) = true /\ ls ≠ [] then ls.dropLast ++ [ls.getLastD [] ++ flat xs] else ls ++ [flat xs] else ls
noncomputable def fitted (xs : List Pr) : List Pr:=if xs.getLast?.getD ([], []) = ([32], []) then xs.dropLast else xs.dropLast ++ [xs.getLast?.getD ([], [])]
section
variable {c : Cx} {A : Around} {G h : Heap} {g : Gs} {L mk dk y dy la : Addr} {fd : Fm} {v : Value} {vs : List Value} {n : Nat} {od : Obj} {ps qs : Array Value} {vl : List Value} {ml : Nat} {xs : List Pr} {ls : List (List Nat)}
theorem nl_reset {Q : PF} (X : TopIn c.w.params G) (FG : FmtG G mk dk fd)
  (hcl : fm fd (Str.ofString "_current_line") = some (.ref y)) (D : Led G L h [("self", some (.ref mk)), ("end_of_line", some v)] (FmtL y dy la vs n od ps qs vl ml)) (F : AccF od ps qs) (TT : Tups Np G vs xs) (Z : Ss vl ls) (r : Room A 7)
  (hxl : xs.length <= 50000)
  (k : ∀ h', Sub G h' -> FmtI Np G h' y dy la [] ls -> Q .next h' g) :
  W c A (execs ((bodyOf (subSt 6 3)).drop 3) (callEnv (fdOf (o78 c.w.params)) L 78)) Q h g:=by
 walk_at "x"
 walk_at "k"
 refine W.expr ?_
 refine W.meth ?_
 refine W.fa X D FG .here hcl rfl ?_
 refine xe (F.acc (r:=[(la, lst vl ml)]) D) fun t0 AC=>?_
 refine W.methA (fa:=182) X D.sub AC ?_
 refine xea3 (Led.lendA (r:=[(la, lst vl ml)]) D F TT rfl) fun G2 c1 c2 c3 c4=>?_
 refine W.callF0 (o:=o182 c.w.params) X D.sub ?_ (by kernel_rfl) (by kernel_rfl)
 refine reset0_spec (X.keeps c2) c1 c3 (r.less (by simp)) (by exact lT hxl (by decide)) fun h2 S2 I2=>⟨rfl, ?_⟩
 refine xe6a4 (c4 _ _ S2 I2) fun G3 vs3 n3 od3 ps3 qs3 d1 D3 F3 TT3 d5=>?_
 walk_at "n"
 exact k h2 (d1.trans D3.sub) ((D3.fmtI (r:=[]) F3 (TT3.keeps D3.sub) Z).base d1)
theorem W.strCur {f : Fm} {Q : PV} (X : TopIn c.w.params G) (D : Led G L h f (FmtL y dy la vs n od ps qs vl ml)) (F : AccF od ps qs) (TT : Tups Np G vs xs) (r : Room A 4) (hz : total xs <= 100000) (hl : xs.length <= 100000)
  (y1 : ∀ h' g' G2 vs' n' od' ps' qs' t, Sub G G2 -> Led G2 L h' f (FmtL y dy la vs' n' od' ps' qs' vl ml) -> AccF od' ps' qs' -> Tups Np G2 vs' xs -> (AllBare g -> AllBare g') -> Q (.str (T (flat xs)) t) h' g') :
  W c A (call (.type "str") [.ref y]) Q h g:=by
 refine xe (F.acc (r:=[(la, lst vl ml)]) D) fun t0 AC=>?_
 refine xea3 (Led.lendA (r:=[(la, lst vl ml)]) D F TT rfl) fun G2 c1 c2 c3 c4=>?_
 refine W.strA X D.sub AC (by have:=r.in1.in1.units; lia) (strA_spec (X.keeps c2) c1 c3 (r.in1.in1.less (by simp)) hz hl fun h3 g3 t3 S3 I3 b3=>⟨_, _, rfl, ?_⟩)
 refine xe6a4 (c4 _ _ S3 I3) fun G4 vs4 n4 od4 ps4 qs4 d1 D4 F4 TT4 d5=>?_
 exact y1 h3 g3 G4 vs4 n4 od4 ps4 qs4 t3 d1 D4 F4 TT4 b3
noncomputable def ifElse : Stmt -> List Stmt | .If _ _ b _=>b | _=>[]
noncomputable def nlIf : Stmt:=(bodyOf ((bodyOf (subSt 6 3)).getD 2 (.Pass default))).getD 0 (.Pass default)
theorem nl_app {f : Fm} {K : PF} (X : TopIn c.w.params G) (FG : FmtG G mk dk fd)
  (hcl : fm fd (Str.ofString "_current_line") = some (.ref y)) (hli : fm fd (Str.ofString "_lines") = some (.ref la)) (hs : Has f (Str.ofString "self") (.ref mk)) (D : Led G L h f (FmtL y dy la vs n od ps qs vl ml)) (F : AccF od ps qs) (TT : Tups Np G vs xs) (Z : Ss vl ls) (r : Room A 7)
  (hz : total xs <= 50000) (hxl : xs.length <= 50000) (hll : ls.length <= 100000)
  (y1 : ∀ h' g' G2 vs' n' od' ps' qs' vl' ml', Sub G G2 -> Led G2 L h' f (FmtL y dy la vs' n' od' ps' qs' vl' ml') -> AccF od' ps' qs' -> Tups Np G2 vs' xs -> Ss vl' (ls ++ [flat xs]) -> (AllBare g -> AllBare g') -> K .next h' g') :
  W c A (execs (ifElse nlIf) (callEnv (fdOf (o78 c.w.params)) L 78)) K h g:=by
 walk_at "x"
 have ez:=Z.len
 walk_at "k"
 refine W.expr ?_
 refine W.meth ?_
 refine W.fa X D FG hs hli rfl ?_
 refine W.mApp (D.get (.tail _ (.tail _ (.tail _ (.tail _ (.head _)))))) ?_
 refine W.callM1 ?_
 refine W.spl ?_
 walk_at "S"
 walk_at "X"
 walk_at "D"
 refine W.fa X D FG hs hcl rfl ?_
 walk_at "S"
 refine (W.strCur X D F TT (r.less (by simp)) (by exact lT hz (by decide)) (by exact lT hxl (by decide)) fun h2 g2 G2 vs2 n2 od2 ps2 qs2 t2 d2 D2 F2 T2 b2=>?_)
 walk_at "S"
 rename Led _ _ _ _ _=>D2
 refine W.app (D2.get (.tail _ (.tail _ (.tail _ (.tail _ (.head _)))))) (by rw [sE]; lia) fun h3 m3 e3 k3=>⟨rfl, ?_⟩
 have D3:=D2.upd (o':=lst (vl ++ [.str (T (flat xs)) t2]) m3) (.there (.there (.there (.there .here)))) e3 k3
 walk_at "n"
 exact y1 h3 g2 G2 vs2 n2 od2 ps2 qs2 _ m3 d2 D3 F2 T2 (Z.append (.cons .nil)) b2
set_option maxHeartbeats 1000000 in
theorem nl_rest {Q : PF} (X : TopIn c.w.params G) (FG : FmtG G mk dk fd)
  (hcl : fm fd (Str.ofString "_current_line") = some (.ref y)) (hli : fm fd (Str.ofString "_lines") = some (.ref la)) (D : Led G L h [("self", some (.ref mk)), ("end_of_line", some v)] (FmtL y dy la vs n od ps qs vl ml)) (F : AccF od ps qs) (TT : Tups Np G vs xs) (Z : Ss vl ls) (r : Room A 7)
  (hz : total xs <= 50000) (hxl : xs.length <= 50000) (hll : ls.length <= 100000) (hlm : ∀ x ∈ ls, x.length <= 50000)
  (k : ∀ h' g', Sub G h' -> FmtI Np G h' y dy la [] (newl xs ls) -> (AllBare g -> AllBare g') -> Q .next h' g') :
  W c A (execs ((bodyOf (subSt 6 3)).drop 2) (callEnv (fdOf (o78 c.w.params)) L 78)) Q h g:=by
 walk_at "x"
 walk_at "k"
 refine W.if_ ?_
 walk_at "S"
 walk_at "D"
 walk_at "X"
 refine W.fa X D FG .here hcl rfl ?_
 walk_at "S"
 refine xe (F.acc (r:=[(la, lst vl ml)]) D) fun t0 AC=>?_
 refine xea3 (Led.lendA (r:=[(la, lst vl ml)]) D F TT rfl) fun G2 c1 c2 c3 c4=>?_
 refine W.lenA X D.sub AC (len_spec (X.keeps c2) c1 c3 (r.in1.less (by simp)) (by exact lT hz (by decide)) fun h2 g2 t2 S2 I2 b2=>⟨_, _, rfl, by exact lLe hz (by decide), fun t'=>?_⟩)
 refine xe6a4 (c4 _ _ S2 I2) fun G3 vs3 n3 od3 ps3 qs3 d1 D3 F3 TT3 d5=>?_
 replace X:=X.keeps d1
 replace FG:=FG.keeps d1
 clear D AC c4 d5 F TT S2 I2 c3 c1 c2
 walk_at "S"
 refine ifSplit ?_ ?_ <;> intro hc
 ·have ht : total xs > 0:=by simp at hc; omega
  walk_at "k"
  refine W.if_ ?_
  walk_at "S"
  refine W.fa X D3 FG .here hcl rfl ?_
  refine xe (F3.acc (r:=[(la, lst vl ml)]) D3) fun t0 AC=>?_
  refine W.methA (fa:=189) X D3.sub AC ?_
  refine xea3 (Led.lendA (r:=[(la, lst vl ml)]) D3 F3 TT3 rfl) fun G2 c1 c2 c3 c4=>?_
  refine W.callF0 (o:=o189 c.w.params) X D3.sub ?_ (by kernel_rfl) (by kernel_rfl)
  refine onlyws_spec (X.keeps c2) c1 c3 (r.less (by simp)) (by exact lT hz (by decide)) (by exact lT hxl (by decide)) fun h4 g4 S4 I4 b4=>?_
  refine xe6a4 (c4 _ _ S4 I4) fun G5 vs5 n5 od5 ps5 qs5 d5 D5 F5 TT5 d6=>?_
  replace X:=X.keeps d5
  replace FG:=FG.keeps d5
  clear D3 AC c4 F3 TT3 S4 I4 c3 c1 c2 d6
  walk_at "S"
  walk_at "X"
  have el : vl.length = ls.length:=Z.len
  rename Flow -> Heap -> Gs -> Prop=>F1
  have app : ¬(Txt.isspace (T (flat xs)) = true /\ ls ≠ []) -> W c A (execs (ifElse nlIf) (callEnv (fdOf (o78 c.w.params)) L 78)) F1 h4 g4:=fun hn=>by
   refine nl_app X FG hcl hli .here D5 F5 TT5 Z r hz hxl hll fun h6 g6 G6 vs6 n6 od6 ps6 qs6 vl6 ml6 d6 D6 F6 T6 Z6 b6=>?_
   walk_at "n"
   refine nl_reset (g:=g6) (X.keeps d6) (FG.keeps d6) hcl D6 F6 T6 Z6 r hxl fun h' S' I'=>?_
   walk_at "n"
   have e : newl xs ls = ls ++ [flat xs]:=by unfold newl; rw [if_pos ht, if_neg hn]
   exact k h' g6 (d1.trans (d5.trans (d6.trans S'))) (by rw [e]; exact ((I'.base d6).base d5).base d1) fun hb=>b6 (b4 (b2 hb))
  refine ifSplit ?_ ?_ <;> intro hs
  ·have hs' : Txt.isspace (T (flat xs)) = true:=by
    rcases Bool.or_eq_true_iff.mp hs with q | q
    ·have:=of_decide_eq_true q; lia
    ·exact q
   refine W.tand ?_
   refine W.tAttr ?_
   refine W.fa X D5 FG .here hli rfl ?_
   refine W.trl (D5.get (.tail _ (.tail _ (.tail _ (.tail _ (.head _)))))) (by rw [sE]; lia) ?_
   cases vl with
   | nil =>
    have e0 : ls = []:=by cases ls with | nil=>rfl | cons a b=>simp at el
    walk_at "S"
    exact app (fun q=>q.2 e0)
   | cons v0 vl0 =>
    have e0 : ls ≠ []:=by rintro rfl; simp at el
    refine xe (⟨_, gL (by simp)⟩ : ∃ lv, (v0 :: vl0).getLast? = some lv) fun lv hlv=>?_
    refine xe2a (Z.get (i:=ls.length - 1) (v:=lv) (by rw [<- el, <- List.getLast?_eq_getElem?]; exact hlv)) fun x t ex e133=>?_; obtain rfl:=e133
    have exl : x.length <= 50000:=hlm x (List.mem_of_getElem? ex)
    have eL : ls.getLastD [] = x:=by rw [<- List.getLast?_eq_getElem?] at ex; rw [List.getLastD_eq_getLast?, ex]; rfl
    rw [if_pos (by rfl)]
    walk_at "S"
    refine W.fa X D5 FG .here hli rfl ?_
    walk_at "S"
    refine W.getLast (D5.get (.tail _ (.tail _ (.tail _ (.tail _ (.head _)))))) hlv ?_
    walk_at "S"
    rename Led _ _ _ _ _=>D5
    walk_at "X"
    refine W.fa X D5 FG .here hcl rfl ?_
    walk_at "S"
    refine (W.strCur X D5 F5 TT5 (r.less (by simp)) (by exact lT hz (by decide)) (by exact lT hxl (by decide)) fun h6 g6 G6 vs6 n6 od6 ps6 qs6 t6 d6 D6 F6 T6 b6=>?_)
    have efl : (flat xs).length = total xs:=by
     unfold flat total; rw [List.length_flatten, List.map_map]; congr 1
     refine List.map_congr_left fun p _=>?_
     simp [prLen]
    refine W.iaddT (by rw [sE]; lia) fun t7=>?_
    refine W.setLast (D6.get (.tail _ (.tail _ (.tail _ (.tail _ (.head _)))))) (by simp) fun h8 e8 k8=>?_
    have D8:=D6.upd (o':=lst ((v0 :: vl0).dropLast ++ [.str (T (x ++ flat xs)) t7]) ml) (.there (.there (.there (.there .here)))) e8 k8
    walk_at "n"
    have Z8 : Ss ((v0 :: vl0).dropLast ++ [.str (T (x ++ flat xs)) t7]) (ls.dropLast ++ [x ++ flat xs]):=by
     rw [List.dropLast_eq_take, List.dropLast_eq_take (l:=ls), el]
     exact (Z.take _).append (.cons .nil)
    refine nl_reset (g:=g6) (X.keeps d6) (FG.keeps d6) hcl D8 F6 T6 Z8 r hxl fun h' S' I'=>?_
    walk_at "n"
    have e : newl xs ls = ls.dropLast ++ [x ++ flat xs]:=by unfold newl; rw [if_pos ht, if_pos ⟨hs', e0⟩, eL]
    exact k h' g6 (d1.trans (d5.trans (d6.trans S'))) (by rw [e]; exact ((I'.base d6).base d5).base d1) fun hb=>b6 (b4 (b2 hb))
  ·have hs' : ¬(Txt.isspace (T (flat xs)) = true /\ ls ≠ []):=fun q=>by rw [q.1] at hs; simp at hs
   exact app hs'
 ·walk_at "n"
  refine nl_reset (g:=g2) X FG hcl D3 F3 TT3 Z r hxl fun h' S' I'=>?_
  ·walk_at "n"
   have e : newl xs ls = ls:=by unfold newl; rw [if_neg (by simp at hc; lia)]
   exact k h' g2 (d1.trans S') (by rw [e]; exact I'.base d1) b2
end
end
section
open Builtin Builtin.ObjectAttr
section
variable {c : Cx} {A : Around} {G h : Heap} {g : Gs} {env : Env} {L : Addr} {f : Fm} {l : List (Addr × Obj)} {y dy : Addr} {vs : List Value} {n : Nat} {od : Obj} {sz : Option Value}
theorem W.bindL {name : Str} {fa : Addr} {Q : PV} (X : TopIn c.w.params G) (S : Sub G h) (a : Acc h y dy vs n od sz)
  (q : Q (.ref h.objs.size) (h.push (methodObj (.ref fa) (.ref y))) g) (hx : fm (fSz sz) name = none:=by kernel_rfl)
  (hn : findIn (KM c.w.params) (.ref 200) name = some (some (.ref fa)):=by kernel_rfl) (hf : typeIn (KM c.w.params) (.ref fa) = some (.type "function"):=by kernel_rfl)
  (hg : specialIn (KM c.w.params) (.ref fa) "__get__" = some (some (.builtin "function.__get__")):=by kernel_rfl) (ht : takesIn (KM c.w.params) (.ref fa) = some false:=by kernel_rfl) (hcn : copiedNames.contains name = false:=by kernel_rfl) : W c A (getAttr (.ref y) name true) Q h g:=fun tk=>by
 refine xea4 ((cls200 c.w.params).cd) fun cd h1 h2 h3 h4 h5=>?_
 have Xh:=X.keeps S
 have IA:=a.ins.at
 have ff : findObj (KM c.w.params) 200 (some od) name = some (.bind (.builtin "function.__get__") (.ref fa)):=by
  unfold findObj W.ownOf
  rw [h1, Option.bind_some, hn, Option.bind_some]
  dsimp only [Option.bind_some]
  rw [hg, Option.bind_some]
  dsimp only [Option.bind_some]
  rw [ht, Option.bind_some]
  dsimp only [Option.bind_some]
  rw [h2, if_pos rfl, a.f.look, hx]
  dsimp only [Option.bind_some]
  rw [hcn]
  rfl
 have L0:=IA.type (M:=model PW c.w)
 have L1:=looks_findIn (M:=model PW c.w) Xh (acc_getattribute c.w.params)
 have L2:=looks_find (M:=model PW c.w) Xh IA ff
 have LI:=Acc.lst (c:=c) Xh a
 unfold getAttr getAttrBy
 refine wB (wpAny_mkText (wpAny_holding (wB (L0.at (wB (L1.at ?_))))))
 show wpAny _ _ (getAttrByItsOwn _ _ _ _ _ _) _ _ _
 unfold getAttrByItsOwn hookBefore
 refine wB ((looks_findIn Xh (cls200 c.w.params).gt).at ?_)
 refine wB (wpAny_attempt (wpAny_holding ?_))
 unfold callGetattribute
 rw [show (true && onTheHeap (.builtin "list.__getattribute__")) = false from rfl, if_neg (by decide)]
 unfold boundAndCalled
 rw [lga_bind]
 refine wB (wP (wpAny_call ?_))
 refine codeAny_call_builtin lga_plain lga_entry (@check_slot (model PW c.w) _ _ _ "list.__getattribute__" "list" "__getattribute__" (.ref y) [.str name tk] [] _ lga_kind lga_split LI (lga_args _ _) ?_)
 refine wB (wP (wB (wP (wB (L0.at (wB (L2.at ?_)))))))
 refine wB (wpAny_holding (wpAny_call (fn_get (s:=⟨h, g, c.d, _, c.os⟩) Xh hf ?_)))
 exact wP (wP ⟨rfl, rfl, q⟩)
theorem W.methStar {o : Expr} {name : Str} {apos pos p : Pos} {e : Expr} {Q : PV}
  (q : W c A (eval o env) (fun ov h1 g1=>W c A (getAttr ov name true) (fun v h2 g2=>W c A (callWith pos v [] (backTo pos (starEach [.Starred e p] env)) []) Q h2 g2) h1 g1) h g)
  (hbase : attributeBase o name env (eval o env) = eval o env:=by kernel_rfl) (hk : backToKw pos (keywordEach [] env) = []:=by kernel_rfl)
  (hfew : methodCallForm ([Expr.Starred e p].length + ([] : List Keyword).length) (backTo pos (starEach [.Starred e p] env)) [] = false:=by kernel_rfl) : W c A (eval (.Call (.Attribute o name apos) [.Starred e p] [] pos) env) Q h g:=by
 rw [arm_eval_Call, hbase, hk]
 have hpos : methodCallPos false o env apos pos = Pure.pure pos:=by unfold methodCallPos; simp
 refine W.bind (q.mono fun ov h1 g1 q=>W.bind (W.standAt ?_))
 unfold methodCall
 rw [hfew]
 refine W.bind (W.holding ?_)
 show W c A (getAttr ov name true >>= fun v=>Pure.pure (v, [])) _ _ _
 refine W.bind (q.mono fun v h2 g2 q=>W.pure ?_)
 rw [hpos]
 exact W.bind (W.pure q)
theorem W.callStar {pos p : Pos} {N q0 : Addr} {self : Value} {e : Expr} {Q : PV} (X : TopIn c.w.params G) (D : Led G L h f l) (hm : h.get? q0 = some (methodObj (.ref N) self))
  (y : W c A (eval e env) (fun v h1 g1=>h1 = h /\ g1 = g /\ ∃ (pr : Pr) (t u : Tok) (a : Addr), v = .ref a /\ h.IsTuple a #[.str (T pr.1) t, .str (T pr.2) u] /\ ∀ h2, Led G L h2 f l -> (∀ b o, h.get? b = some o -> h2.get? b = some o) -> WC c A (.call (.ref N) ⟨[self, .str (T pr.1) t, .str (T pr.2) u], []⟩) Q h2 g) h g)
  (hk : fnIn (KM c.w.params) N = true:=by kernel_rfl) (he : starEach [.Starred e p] env = [(true, eval e env)]:=by kernel_rfl) : W c A (callWith pos (.ref q0) [] (backTo pos (starEach [.Starred e p] env)) []) Q h g:=fun tk=>by
 rw [he]
 refine ks_call rfl (keeps_M (K:=KM c.w.params) (q:=q0) (f:=N) (self:=self) hk) (ks_lone (wM (y tk) (fun v s z=>?_) fun _ _ z=>z))
 refine xa4e4a2 z fun z1 z2 z3 z4 pr t u a e18 ht z5=>?_; obtain rfl:=e18
 obtain ⟨h', g', d', tk', os'⟩:=s
 dsimp only at z1 z2 z3 z4; subst z1 z2 z3 z4
 obtain ⟨o, eo, ec, n, ed⟩:=ht
 have hT' : (⟨h', g', c.d, tk', c.os⟩ : Shared).TypeIs (.ref a) "tuple":=⟨o, eo, ec⟩
 unfold StarOf notIterableAtAll
 refine wB (wpAny_specialOf hT' PySem.F.slot_tuple_iter.lookup (wP ⟨rfl, ?_⟩))
 refine wpAny_collect_seq a (.inr rfl) eo ec ed (fun h2 k2=>⟨⟨k2 _ _ hm, (D.grow k2).inK X⟩, ?_⟩) (by show (2 : Nat) <= _; rw [sE]; simp)
 refine wpAny_call (method_call (s:=⟨h2, g', c.d, tk', c.os⟩) (k2 _ _ hm) ?_)
 refine codeAny_mono (z5 h2 (D.grow k2) k2 tk') fun r s' z=>?_
 refine xea3 z fun v e41 w1 w2 w3=>?_; obtain rfl:=e41
 exact ⟨w1, w2, w3⟩
end
end
section
open Builtin Builtin.ObjectAttr
section
variable {c : Cx} {A : Around} {G h : Heap} {g : Gs} {env : Env} {L : Addr} {f : Fm} {l : List (Addr × Obj)}
theorem count_keep {y dy : Addr} {vs : List Value} {n : Nat} {od : Obj} {ps qs : Array Value} {Q : PV} (X : TopIn c.w.params G) (S : Sub G h) (O : Own G h l) (m1 : (y, accO dy vs n) ∈ l) (m2 : (dy, od) ∈ l) (F : AccF od ps qs) (r : Room A 1)
  (k : ∀ h' t, Sub G h' -> Own G h' l -> Q (.int vs.length t) h' g) : WC c A (.call (.ref 197) ⟨[.ref y], []⟩) Q h g:=by
 refine enterAt (k:=0) 197 (o197 c.w.params) (bodyOf (subSt 7 8)) [("self", .ref y)] [] [("self", some (.ref y))] X S O r rfl (fun s _=>BindsTo.of_eq (by kernel_rfl)) ?_
 intro h1 L tk D r' hL
 show PySem.wpAt _ _ _ (execs (_ :: _) _) _ _ _
 refine ks_wpAt_execs_cons (ks_wpAt_Return_some ?_)
 refine xe F.d fun t0 d0=>?_
 have AC : Acc h1 y dy vs n od (some (.int 0 t0)):=⟨D.get m1, D.get m2, d0⟩
 refine supCall sup_len (.inr rfl) lb_len X D .here AC (fun _ _ q'=>chk_slot (chk_len _) q') (fun h2 tk2 A' k2=>?_) (hco:=⟨196, o196 c.w.params, _, _, _, by kernel_rfl, by kernel_rfl, rfl, rfl, by kernel_rfl⟩)
 refine run_len (s:=⟨h2, g, c.d, tk2, c.os⟩) (k2 _ _ AC.x) rfl ⟨_, rfl, rfl, rfl, ?_⟩
 have D2:=D.grow k2
 have:=k h2 tk2 D2.sub D2.own
 simpa [retOf] using this
theorem W.tupI {value slice : Expr} {a : Addr} {vs : List Value} {i : Nat} {u : Tok} {v : Value} {Q : PV} (ht : h.IsTuple a vs.toArray) (hi : i < 1000) (hv : vs[i]? = some v) (y : Q v h g)
  (hs : subscripted slice false (.ref a) (.int (i : Int) u) = operate [.ref a, .int (i : Int) u] (getItem (.ref a) (.int (i : Int) u)):=by kernel_rfl) : W c A (subscriptTail value slice (.ref a) (.int (i : Int) u)) Q h g:=fun tk =>
 subscriptTail_builtinR (s:=⟨h, g, c.d, tk, c.os⟩) (x:=v) (IsTup.typeIs ht) slot_tuple_getitem.lookup (PyProof.Rows.getItem_tuple (s:=⟨h, g, c.d, tk, c.os⟩) (j:=i) ht (by simp) (by lia) (by
  have:=(List.getElem?_eq_some_iff.mp hv).1
  unfold seqIndex?; simp; rw [if_neg (Int.not_lt.mpr (Int.natCast_nonneg i))]; exact ⟨⟨Int.natCast_nonneg i, Int.ofNat_lt.mpr this⟩, rfl⟩) (by simpa using hv) ⟨rfl, rfl, rfl, y⟩) hs
theorem W.asg2 {x y : Str} {px py pt pos : Pos} {k : Nat} {value : Expr} {Q : PF} (hh : A.handled = none)
  (q : W c A (eval value env) (fun v h1 g1=>∃ a v0 v1, v = .ref a /\ h1.IsTuple a #[v0, v1] /\ ∀ h2, (∀ b o, h1.get? b = some o -> h2.get? b = some o) -> W c A (storeName env x v0) (fun _ h3 g3=>W c A (storeName env y v1) (fun _=>Q .next) h3 g3) h2 g1) h g)
  (hs : swapsWithSole [.Tuple [.Name x px, .Name y py] k pt] value pos.line env = Pure.pure false:=by kernel_rfl) (hw : swappedStores [.Tuple [.Name x px, .Name y py] k pt] value env = Pure.pure none:=by kernel_rfl)
  (he : (assignEach [.Name x px, .Name y py] env).map (·.2) = [PySem.assign (.Name x px) env, PySem.assign (.Name y py) env]:=by kernel_rfl)
  (hn : (assignEach [.Name x px, .Name y py] env).length = 2:=by kernel_rfl) (hstar : (assignEach [.Name x px, .Name y py] env).findIdx? (·.1) = none:=by kernel_rfl) :
  W c A (exec (.Assign [.Tuple [.Name x px, .Name y py] k pt] value pos) env) Q h g:=fun tk=>by
 refine Assign_Tuple (wM (q tk) (fun v s z=>?_) fun _ _ z=>z) hs hw
 refine xa2e3a2 z fun z1 z2 a v0 v1 e15 ht z3=>?_; obtain rfl:=e15
 obtain ⟨h', g', d', tk', os'⟩:=s
 dsimp only at z1 z2 ht z3; subst z1 z2
 refine assign_Tuple_tuple (s:=⟨h', g', c.d, tk', c.os⟩) hh ht hn hstar fun h2 hx=>?_
 have yy:=z3 h2 fun b o e=>hx b o (Nat.ne_of_lt (Heap.lt_size e)) e
 rw [he]
 show wpAny _ A (do PySem.holding [v1] (PySem.assign (.Name x px) env v0); do PySem.holding [] (PySem.assign (.Name y py) env v1); Pure.pure ()) _ _ _
 refine wB (wpAny_holding (wM ((W.assignName yy).at (s:=⟨h2, g', c.d, tk', c.os⟩) (E:=fun _ _=>False) rfl rfl) (fun _ s₂ z=>?_) fun _ _ z=>z.elim))
 refine wB (wpAny_holding (wM ((W.assignName z.2.2).at (E:=fun _ _=>False) z.1 z.2.1) (fun _ s₃ z=>wP z) fun _ _ z=>z.elim))
end
end
section
variable {Np : Addr -> Prop}
noncomputable def isCut (k : Nat) (p q : Pr) : Bool:=(Txt.isspace (T [k]) && q.1.head? == some k) || p.2.getLast? == some k
noncomputable def cutAt (xs : List Pr) (k i : Nat) : Bool:=match xs[i-1]?, xs[i]? with | some p, some q=>isCut k p q | _, _=>false
noncomputable def findCut (xs : List Pr) (k : Nat) : Nat -> Option Nat
 | 0=>none
 | i + 1=>if cutAt xs k (i + 1) = true then some (i + 1) else findCut xs k i
noncomputable def appendF (room : Nat) (sp : List Nat) (st : List Pr × List (List Nat)) (p : Pr) : List Pr × List (List Nat) :=
 if total (st.1 ++ [p]) > room then match sp.head?.bind fun k=>findCut (st.1 ++ [p]) k ((st.1 ++ [p]).length - 1) with
  | some i=>((st.1 ++ [p]).drop i, st.2 ++ [flat ((st.1 ++ [p]).take i)])
  | none=>(st.1 ++ [p], st.2)
 else (st.1 ++ [p], st.2)
noncomputable def forElse : Stmt -> List Stmt | .For _ _ _ b _=>b | _=>[]
noncomputable def acIf : Stmt:=(bodyOf (subSt 6 8)).getD 1 (.Pass default)
noncomputable def acFor : Stmt:=(bodyOf acIf).getD 0 (.Pass default)
noncomputable def acIn : Stmt:=(bodyOf acFor).getD 0 (.Pass default)
noncomputable abbrev acF (s0 v1 : Option Value) (mk : Addr) (ch i v2 v3 : Option Value) : Fm:=[("string", s0), ("fws", v1), ("self", some (.ref mk)), ("ch", ch), ("i", i), ("prevpart", v2), ("part", v3), ("remainder", none)]
section
variable {c : Cx} {A : Around} {G h : Heap} {g : Gs} {L mk dk y dy la : Addr} {fd : Fm} {vs : List Value} {n : Nat} {od : Obj} {ps qs : Array Value} {vl : List Value} {ml : Nat} {xs : List Pr} {ls : List (List Nat)}
set_option maxHeartbeats 1000000 in
theorem ac_prev {k j : Nat} {s0 v1 v2 v3 : Option Value} {tc tj : Tok} {p : Pr} {K : PF} (X : TopIn c.w.params G) (FG : FmtG G mk dk fd)
  (hcl : fm fd (Str.ofString "_current_line") = some (.ref y)) (D : Led G L h (acF s0 v1 mk (some (.str (T [k]) tc)) (some (.int j tj)) v2 v3) (FmtL y dy la vs n od ps qs vl ml)) (F : AccF od ps qs) (TT : Tups Np G vs xs) (hj : 1 <= j) (hj2 : j < xs.length) (hxl : xs.length <= 50000) (hz : total xs <= 100000) (hp : xs[j - 1]? = some p)
  (yb : (p.2.getLast? == some k) = true -> ∀ h' v1 v2, Led G L h' (acF s0 v1 mk (some (.str (T [k]) tc)) (some (.int j tj)) v2 v3) (FmtL y dy la vs n od ps qs vl ml) -> K .brk h' g)
  (yn : (p.2.getLast? == some k) = false -> ∀ h' v1 v2, Led G L h' (acF s0 v1 mk (some (.str (T [k]) tc)) (some (.int j tj)) v2 v3) (FmtL y dy la vs n od ps qs vl ml) -> K .next h' g) :
  W c A (execs ((bodyOf acIn).drop 1) (callEnv (fdOf (o113 c.w.params)) L 113)) K h g:=by
 obtain ⟨vp, evp, ap, tp, up, rfl, hvp, _⟩:=TT.get hp
 have lp:=prLen_le (List.mem_of_getElem? hp)
 unfold prLen at lp
 walk_at "x"
 walk_at "S"
 refine W.fa X D FG (.there (.there .here)) hcl rfl ?_
 walk_at "S"
 walk_at "D"
 refine xe (F.acc (r:=[(la, lst vl ml)]) D) fun t0 AC=>?_
 refine W.subAcc X D.sub AC ?_
 refine W.getIS X D.sub AC (by lia) (by lia) (v:=.ref ap) (by rw [show ((j : Int) - 1).toNat = j - 1 by simp]; exact evp) ?_
 walk_at "S"
 obtain ⟨op, eop, rop⟩:=hvp
 refine W.tupI (i:=1) (vs:=[.str (T p.1) tp, .str (T p.2) up]) ⟨op, D.sub _ _ eop, rop⟩ (by decide) rfl ?_
 walk_at "S"
 refine W.if_ ?_
 walk_at "S"
 refine W.trs (by rw [sE]; lia) ?_
 cases e2 : p.2 with
 | nil =>
  refine ifN rfl ?_
  walk_at "S"
  walk_at "D"
  exact yn (by rw [e2]; rfl) _ _ _ D
 | cons a as =>
  refine ifP rfl ?_
  have hne : p.2 ≠ []:=by rw [e2]; simp
  have eg : (p.2.getLast? == some k) = decide ([p.2.getLast hne] = [k]):=by
   rw [gL hne, Bool.eq_iff_iff]; simp
  walk_at "S"
  refine W.lastT hne (by rw [sE]; lia) fun t5=>?_
  walk_at "S"
  walk_at "D"
  refine ifSplit ?_ ?_ <;> intro hc
  ·walk_at "S"
   exact yb (by rw [eg]; exact hc) _ _ _ D
  ·walk_at "S"
   exact yn (by rw [eg]; exact hc) _ _ _ D
set_option maxHeartbeats 1000000 in
theorem ac_turn {k j : Nat} {s0 v1 v2 v3 : Option Value} {tc tj : Tok} {K : PF} (X : TopIn c.w.params G) (FG : FmtG G mk dk fd)
  (hcl : fm fd (Str.ofString "_current_line") = some (.ref y)) (D : Led G L h (acF s0 v1 mk (some (.str (T [k]) tc)) (some (.int j tj)) v2 v3) (FmtL y dy la vs n od ps qs vl ml)) (F : AccF od ps qs) (TT : Tups Np G vs xs) (hj : 1 <= j) (hj2 : j < xs.length) (hxl : xs.length <= 50000) (hz : total xs <= 100000)
  (yb : cutAt xs k j = true -> ∀ h' v1 v2, Led G L h' (acF s0 v1 mk (some (.str (T [k]) tc)) (some (.int j tj)) v2 v3) (FmtL y dy la vs n od ps qs vl ml) -> K .brk h' g)
  (yn : cutAt xs k j = false -> ∀ h' v1 v2, Led G L h' (acF s0 v1 mk (some (.str (T [k]) tc)) (some (.int j tj)) v2 v3) (FmtL y dy la vs n od ps qs vl ml) -> K .next h' g) :
  W c A (execs (bodyOf acIn) (callEnv (fdOf (o113 c.w.params)) L 113)) K h g:=by
 refine xe (⟨_, gE (by omega)⟩ : ∃ p, xs[j - 1]? = some p) fun p hp=>?_
 refine xe (⟨_, gE (by omega)⟩ : ∃ q, xs[j]? = some q) fun q hq=>?_
 have ecut : cutAt xs k j = isCut k p q:=by unfold cutAt; rw [hp, hq]
 obtain ⟨vp, evp, ap, tp, up, rfl, hvp, _⟩:=TT.get hp
 obtain ⟨vq, evq, aq, tq, uq, rfl, hvq, _⟩:=TT.get hq
 have lp:=prLen_le (List.mem_of_getElem? hp)
 have lq:=prLen_le (List.mem_of_getElem? hq)
 unfold prLen at lp lq
 walk_at "x"
 walk_at "k"
 refine W.if_ ?_
 walk_at "S"
 refine W.isspace ?_
 walk_at "S"
 refine ifSplit ?_ ?_ <;> intro hc
 ·walk_at "k"
  refine W.assignN (by decide) ?_
  walk_at "S"
  walk_at "D"
  refine W.fa X D FG (.there (.there .here)) hcl rfl ?_
  walk_at "S"
  walk_at "D"
  refine xe (F.acc (r:=[(la, lst vl ml)]) D) fun t0 AC=>?_
  refine W.subAcc X D.sub AC ?_
  refine W.getIS X D.sub AC (by simp) (by lia) (v:=.ref aq) (by rw [show (j : Int).toNat = j by rfl]; exact evq) ?_
  walk_at "S"
  obtain ⟨oq, eoq, roq⟩:=hvq
  refine W.tupI (i:=0) (vs:=[.str (T q.1) tq, .str (T q.2) uq]) ⟨oq, D.sub _ _ eoq, roq⟩ (by decide) rfl ?_
  walk_at "S"
  refine W.if_ ?_
  walk_at "S"
  refine W.trs (by rw [sE]; lia) ?_
  cases e2 : q.1 with
  | nil =>
   refine ifN rfl ?_
   refine iteF ?_
   walk_at "n"
   walk_at "D"
   walk_at "X"
   have e0 : cutAt xs k j = (p.2.getLast? == some k):=by rw [ecut]; unfold isCut; rw [hc, e2]; simp
   exact ac_prev X FG hcl D F TT hj hj2 hxl hz hp (fun z _ _ _ D=>by walk_at "n"; exact yb (e0.trans z) _ _ _ D) (fun z _ _ _ D=>by walk_at "n"; exact yn (e0.trans z) _ _ _ D)
  | cons a as =>
   refine ifP rfl ?_
   have h0 : (0 : Int).toNat < q.1.length:=by rw [e2]; simp
   have eg : (q.1.head? == some k) = decide ([q.1[(0 : Int).toNat]] = [k]):=by
    have hq1 : q.1.head? = some q.1[(0 : Int).toNat]:=by rw [List.head?_eq_getElem?]; exact gE h0
    rw [hq1, Bool.eq_iff_iff]; simp
   walk_at "S"
   refine W.itemT (by decide) h0 (by rw [sE]; lia) fun t5=>?_
   walk_at "S"
   walk_at "D"
   walk_at "X"
   refine ifSplit ?_ ?_ <;> intro hd
   ·walk_at "S"
    exact yb (by rw [ecut]; unfold isCut; rw [hc, eg, hd]; rfl) _ _ _ D
   ·refine iteF ?_
    walk_at "n"
    have e0 : cutAt xs k j = (p.2.getLast? == some k):=by rw [ecut]; unfold isCut; rw [hc, eg, hd]; simp
    exact ac_prev X FG hcl D F TT hj hj2 hxl hz hp (fun z _ _ _ D=>by walk_at "n"; exact yb (e0.trans z) _ _ _ D) (fun z _ _ _ D=>by walk_at "n"; exact yn (e0.trans z) _ _ _ D)
 ·walk_at "n"
  walk_at "D"
  have e0 : cutAt xs k j = (p.2.getLast? == some k):=by rw [ecut]; unfold isCut; rw [hc]; simp
  exact ac_prev X FG hcl D F TT hj hj2 hxl hz hp (fun z _ _ _ D=>by walk_at "n"; exact yb (e0.trans z) _ _ _ D) (fun z _ _ _ D=>by walk_at "n"; exact yn (e0.trans z) _ _ _ D)
end
end
section
open Builtin Builtin.ObjectAttr
variable {Np : Addr -> Prop}
theorem Led.lendAL {G h : Heap} {L : Addr} {f : Fm} {r : List (Addr × Obj)} {y dy : Addr} {vs : List Value} {n : Nat} {od : Obj} {ps qs : Array Value} {xs : List Pr} (D : Led G L h f (AccL y dy vs n od ps qs ++ r)) (F : AccF od ps qs) (T : Tups Np G vs xs) (hr : (r.all fun p=>noTup p.2) = true) :
  ∃ G1, Sub G1 h /\ Sub G G1 /\ AccI Np G1 h y dy xs /\ ∀ h' xs', Sub G1 h' -> AccI Np G1 h' y dy xs' -> ∃ G2 vs' n' od' ps' qs', Sub G G2 /\ Led G2 L h' f (AccL y dy vs' n' od' ps' qs' ++ r) /\ AccF od' ps' qs' /\ Tups Np G2 vs' xs' /\ (∀ ws zs, Tups Np h' ws zs -> Tups Np G2 ws zs) /\
   ∀ z zs m, h'.get? z = some (lst zs m) -> G1.get? z = none -> G2.get? z = some (lst zs m):=by
 refine xa3 D.lend fun a1 a2 a3 a4=>?_
 refine ⟨_, a1, a3, ⟨vs, n, od, ps, qs, a2, F, T.keeps D.sub⟩, fun h' xs' S' I'=>?_⟩
 obtain ⟨vs', n', od', ps', qs', O', F', T'⟩:=I'
 have D':=a4 _ _ S' O'
 refine xa2 D'.rebase fun b1 b2 b3=>?_
 refine ⟨_, vs', n', od', ps', qs', b2, b1, F', T'.hideD (D'.notTup (F'.notTup hr)), fun _ _ T2=>T2.hideD (D'.notTup (F'.notTup hr)), fun z zs m e g1=>b3 z _ e (fun q=>?_) fun q=>?_⟩
 ·subst q
  obtain ⟨oL, es, ep, eL, rr⟩:=D.ns
  have:=hideAll_get ((AccL y dy vs n od ps qs).map (·.1)) eL fun q=>by
   refine xea (lmm q) fun p hp e=>?_
   exact (D.nw p (lAl _ hp)).2.1 e
  rw [g1] at this; cases this
 ·refine xea (lmm q) fun p hp e52=>?_; obtain rfl:=e52
  rcases List.mem_append.mp hp with hp | hp
  ·have e2:=(O'.at_ p hp).1
   rw [e] at e2
   have e2:=(Option.some.inj e2).symm
   obtain ⟨t, es, ep, d, _⟩:=F'.d
   simp only [AccL, List.mem_cons, List.not_mem_nil, or_false] at hp
   rcases hp with rfl | rfl | rfl | rfl
   ·cases congrArg Obj.cls e2
   ·dsimp only at e2; rw [e2] at d; cases d
   ·cases congrArg Obj.cls e2
   ·cases congrArg Obj.cls e2
  ·have nd:=D.nd
   rw [List.map_append] at nd
   have:=hideAll_get ((AccL y dy vs n od ps qs).map (·.1)) (D.nw p (List.mem_append_right _ hp)).1 fun q =>
    (List.nodup_append.mp nd).2.2 _ q _ (List.mem_map_of_mem hp) rfl
   rw [g1] at this; cases this
end
section
variable {Np : Addr -> Prop}
section
variable {c : Cx} {A : Around} {G h : Heap} {g : Gs} {L mk dk y dy la : Addr} {fd : Fm} {vs : List Value} {n : Nat} {od : Obj} {ps qs : Array Value} {vl : List Value} {ml : Nat} {xs : List Pr} {ls : List (List Nat)}
set_option maxHeartbeats 1000000 in
theorem ac_found {j : Nat} {s0 v1 v2 v3 ch : Option Value} {tj : Tok} {K : PF} (X : TopIn c.w.params G) (FG : FmtG G mk dk fd)
  (hcl : fm fd (Str.ofString "_current_line") = some (.ref y)) (hli : fm fd (Str.ofString "_lines") = some (.ref la)) (D : Led G L h (acF s0 v1 mk ch (some (.int j tj)) v2 v3) (FmtL y dy la vs n od ps qs vl ml)) (F : AccF od ps qs) (TT : Tups Np G vs xs) (Z : Ss vl ls) (r : Room A 7) (hj2 : j <= xs.length) (hxl : xs.length <= 50000) (hz : total xs <= 100000) (hll : ls.length <= 100000)
  (k : ∀ h' g', Sub G h' -> FmtI Np G h' y dy la (xs.drop j) (ls ++ [flat (xs.take j)]) -> (AllBare g -> AllBare g') -> K .next h' g') :
  W c A (execs ((bodyOf acIf).drop 1) (callEnv (fdOf (o113 c.w.params)) L 113)) K h g:=by
 have ez:=Z.len
 walk_at "x"
 walk_at "k"
 refine W.assignN (by decide) ?_
 refine W.meth ?_
 refine W.fa X D FG (.there (.there .here)) hcl rfl ?_
 refine xe (F.acc (r:=[(la, lst vl ml)]) D) fun t0 AC=>?_
 refine W.methA (fa:=152) X D.sub AC ?_
 refine xea3 (Led.lendAL (r:=[(la, lst vl ml)]) D F TT rfl) fun G2 c1 c2 c3 c4=>?_
 refine W.callF1 (o:=o152 c.w.params) X ?_ (by kernel_rfl) (by kernel_rfl)
 walk_at "S"
 walk_at "D"
 refine ⟨D.sub, popfrom_spec (X.keeps c2) c1 c3 (r.less (by simp)) (by exact lT hxl (by decide)) hj2 fun h2 z zs S2 I2 e2 g2 T2=>?_⟩
 refine xe6a5 (c4 _ _ S2 I2) fun G3 vs3 n3 od3 ps3 qs3 d1 D3 F3 TT3 d5 d6=>?_
 have T3:=d5 _ _ T2
 have e3:=d6 _ _ _ e2 g2
 replace X:=X.keeps d1
 replace FG:=FG.keeps d1
 clear D AC c4 d5 d6 F TT S2 I2 c3 c1 c2 T2 e2 g2
 refine W.wr D3 (.there (.there (.there (.there (.there (.there (.there .here))))))) fun h4 D4=>?_
 clear D3
 walk_at "k"
 refine W.expr ?_
 refine W.meth ?_
 refine W.fa X D4 FG (.there (.there .here)) hli rfl ?_
 refine W.mApp (D4.get (.tail _ (.tail _ (.tail _ (.tail _ (.head _)))))) ?_
 refine W.callM1 ?_
 refine W.spl ?_
 walk_at "S"
 walk_at "X"
 rename Led _ _ _ _ _=>D4
 refine W.fa X D4 FG (.there (.there .here)) hcl rfl ?_
 walk_at "S"
 have ht : total (xs.take j) <= total xs:=total_le xs j
 refine (W.strCur X D4 F3 TT3 (r.less (by simp)) (by lia) (by simp; lia) fun h5 g5 G5 vs5 n5 od5 ps5 qs5 t5 d5 D5 F5 T5 b5=>?_)
 walk_at "S"
 rename Led _ _ _ _ _=>D5
 refine W.app (D5.get (.tail _ (.tail _ (.tail _ (.tail _ (.head _)))))) (by rw [sE]; lia) fun h6 m6 e6 k6=>⟨rfl, ?_⟩
 have D6:=D5.upd (o':=lst (vl ++ [.str (T (flat (xs.take j))) t5]) m6) (.there (.there (.there (.there .here)))) e6 k6
 replace X:=X.keeps d5
 replace FG:=FG.keeps d5
 clear D5 D4
 walk_at "k"
 refine W.expr ?_
 refine W.meth ?_
 refine W.fa X D6 FG (.there (.there .here)) hcl rfl ?_
 refine xe (F5.acc (r:=[(la, lst (vl ++ [.str (T (flat (xs.take j))) t5]) m6)]) D6) fun t0 AC=>?_
 refine W.methA (fa:=182) X D6.sub AC ?_
 refine xea3 (Led.lendA (r:=[(la, lst (vl ++ [.str (T (flat (xs.take j))) t5]) m6)]) D6 F5 T5 rfl) fun G2 c1 c2 c3 c4=>?_
 refine W.callF1 (o:=o182 c.w.params) X ?_ (by kernel_rfl) (by kernel_rfl)
 walk_at "S"
 rename Led _ _ _ _ _=>D6
 refine ⟨D6.sub, reset1_spec (X.keeps c2) c1 c3 (r.less (by simp)) (by simp; lia) (c2 _ _ (d5 _ _ e3)) (T3.keeps (d5.trans c2)) (by simp; lia) fun h7 S7 I7=>⟨rfl, ?_⟩⟩
 refine xe6a4 (c4 _ _ S7 I7) fun G8 vs8 n8 od8 ps8 qs8 d8 D8 F8 TT8 _=>?_
 walk_at "n"
 exact k h7 g5 (d1.trans (d5.trans (d8.trans D8.sub))) ((((D8.fmtI (r:=[]) F8 (TT8.keeps D8.sub) (Z.append (.cons .nil))).base d8).base d5).base d1) b5
end
end
section
variable {Np : Addr -> Prop}
section
variable {c : Cx} {A : Around} {G h : Heap} {g : Gs} {L mk dk y dy la : Addr} {fd : Fm} {vs : List Value} {n : Nat} {od : Obj} {ps qs : Array Value} {vl : List Value} {ml : Nat} {xs : List Pr} {ls : List (List Nat)}
theorem W.ret0 {env : Env} {pos : Pos} {Q : PF} (y : Q (.ret .none) h g) : W c A (exec (.Return none pos) env) Q h g:=fun tk=>wpAny_Return_none ⟨rfl, rfl, y⟩
set_option maxHeartbeats 1000000 in
theorem ac_else {s0 v1 v2 v3 ch vi : Option Value} {Q : PF} (X : TopIn c.w.params G) (FG : FmtG G mk dk fd)
  (hcl : fm fd (Str.ofString "_current_line") = some (.ref y)) (D : Led G L h (acF s0 v1 mk ch vi v2 v3) (FmtL y dy la vs n od ps qs vl ml)) (F : AccF od ps qs) (TT : Tups Np G vs xs) (Z : Ss vl ls) (r : Room A 7) (hne : xs ≠ []) (hxl : xs.length <= 50000) (hN : NpIn Np G)
  (k : ∀ h', Sub G h' -> FmtI Np G h' y dy la xs ls -> Q (.ret .none) h' g) :
  W c A (execs (forElse acFor) (callEnv (fdOf (o113 c.w.params)) L 113)) Q h g:=by
 walk_at "x"
 walk_at "k"
 refine W.asg2 r.hh ?_
 refine W.meth ?_
 refine W.fa X D FG (.there (.there .here)) hcl rfl ?_
 refine xe (F.acc (r:=[(la, lst vl ml)]) D) fun t0 AC=>?_
 refine W.methA (fa:=160) X D.sub AC ?_
 refine xea3 (Led.lendA (r:=[(la, lst vl ml)]) D F TT rfl) fun G2 c1 c2 c3 c4=>?_
 refine W.callF0 (o:=o160 c.w.params) X D.sub ?_ (by kernel_rfl) (by kernel_rfl)
 refine pop_spec (X.keeps c2) c1 c3 (r.less (by simp)) (by exact lT hxl (by decide)) (hN.keeps c2) fun h2 v S2 I2 T2=>?_
 refine xe6a4 (c4 _ _ S2 I2) fun G3 vs3 n3 od3 ps3 qs3 d1 D3 F3 TT3 d5=>?_
 obtain ⟨aV, tV, uV, rfl, hV, _⟩:=T2
 replace X:=X.keeps d1
 replace hN:=hN.keeps d1
 replace FG:=FG.keeps d1
 clear D AC c4 d5 F TT S2 I2 c3 c1 c2
 refine ⟨aV, _, _, rfl, hV, fun h4 k4=>?_⟩
 have D4:=D3.grow k4
 clear D3
 refine W.wr D4 (.there .here) fun h5 D5=>?_
 refine W.wr D5 (.there (.there (.there (.there (.there (.there .here)))))) fun h6 D6=>?_
 clear D4 D5
 walk_at "k"
 refine W.if_ ?_
 refine W.cmp1 ?_
 refine W.attr ?_
 refine W.fa X D6 FG (.there (.there .here)) hcl rfl ?_
 refine xe (F3.acc (r:=[(la, lst vl ml)]) D6) fun t0 AC=>?_
 refine W.getSz X D6.sub AC (by kernel_rfl) ?_
 walk_at "S"
 rename Led _ _ _ _ _=>D6
 rw [if_neg (by decide)]
 walk_at "n"
 walk_at "k"
 refine W.expr ?_
 refine W.meth ?_
 refine W.fa X D6 FG (.there (.there .here)) hcl rfl ?_
 refine xe (F3.acc (r:=[(la, lst vl ml)]) D6) fun t0 AC=>?_
 refine W.methA (fa:=144) X D6.sub AC ?_
 refine xea3 (Led.lendA (r:=[(la, lst vl ml)]) D6 F3 TT3 rfl) fun G2 c1 c2 c3 c4=>?_
 refine W.callF1 (o:=o144 c.w.params) X ?_ (by kernel_rfl) (by kernel_rfl)
 walk_at "S"
 rename Led _ _ _ _ _=>D6
 refine ⟨D6.sub, push_spec (X.keeps c2) c1 c3 (r.less (by simp)) (by simp; exact lT hxl (by decide)) (hN.keeps c2) fun h7 S7 I7=>⟨rfl, ?_⟩⟩
 refine xe6a4 (c4 _ _ S7 I7) fun G8 vs8 n8 od8 ps8 qs8 d8 D8 F8 TT8 _=>?_
 walk_at "k"
 refine W.ret0 ?_
 have ex : xs.dropLast ++ [((xs.getLast?.getD ([], [])).1, (xs.getLast?.getD ([], [])).2)] = xs:=by
  rw [gL hne]
  exact List.dropLast_concat_getLast hne
 rw [ex] at TT8
 walk_at "n"
 exact k h7 (d1.trans (d8.trans D8.sub)) (((D8.fmtI (r:=[]) F8 (TT8.keeps D8.sub) Z).base d8).base d1)
end
end
section
variable {Np : Addr -> Prop}
theorem Led.lend0 {G h : Heap} {L : Addr} {f : Fm} {l : List (Addr × Obj)} (D : Led G L h f l) : ∃ G1, Sub G1 h /\ Own G1 h l /\ Sub G G1 /\ ∀ h' l', Sub G1 h' -> Own G1 h' l' -> Led G L h' f l':=by
 have D' : Led G L h f (l ++ []):=by rw [apN]; exact D
 refine xa3 D'.lend fun a b c d=>?_
 refine ⟨_, a, b, c, fun h' l' x y=>?_⟩
 have:=d h' l' x y
 rwa [apN] at this
inductive AppS (y dy la mk : Addr) (vs : List Value) (n : Nat) (od : Obj) (ps qs : Array Value) (vl : List Value) (ml : Nat) (xs : List Pr) (a b sp : List Nat) (u : Tok) (g0 : Gs) (i : Nat) : Fm -> List (Addr × Obj) -> Gs -> Prop
 | mk (v1 ch vi v2 v3 : Option Value) (_ : 0 < i -> ∀ k, sp.head? = some k -> findCut (xs ++ [(a, b)]) k ((xs ++ [(a, b)]).length - 1) = none) : AppS y dy la mk vs n od ps qs vl ml xs a b sp u g0 i (acF (some (.str (T b) u)) v1 mk ch vi v2 v3) (FmtL y dy la vs n od ps qs vl ml) g0
inductive AppR (y dy la mk : Addr) (vs : List Value) (n : Nat) (od : Obj) (ps qs : Array Value) (vl : List Value) (ml : Nat) (xs : List Pr) (a b : List Nat) (ch : Nat) (tc u : Tok) (v3 : Option Value) (g0 : Gs) (i : Nat) : Fm -> List (Addr × Obj) -> Gs -> Prop
 | mk (v1 vi v2 : Option Value) (_ : findCut (xs ++ [(a, b)]) ch (vs.length - 1) = findCut (xs ++ [(a, b)]) ch (vs.length - 1 - i)) : AppR y dy la mk vs n od ps qs vl ml xs a b ch tc u v3 g0 i (acF (some (.str (T b) u)) v1 mk (some (.str (T [ch]) tc)) vi v2 v3) (FmtL y dy la vs n od ps qs vl ml) g0
section
variable {c : Cx} {A : Around} {G h : Heap} {g : Gs} {mk dk y dy la : Addr} {fd : Fm} {xs : List Pr} {ls : List (List Nat)}
set_option maxHeartbeats 2000000 in
theorem append_spec {a b sp : List Nat} {t u t1 t4 : Tok} {room : Nat} {Q : PV} (X : TopIn c.w.params G) (S : Sub G h) (FG : FmtG G mk dk fd)
  (hcl : fm fd (Str.ofString "_current_line") = some (.ref y)) (hli : fm fd (Str.ofString "_lines") = some (.ref la)) (hmx : fm fd (Str.ofString "_maxlen") = some (.int room t1)) (hsp : fm fd (Str.ofString "_splitchars") = some (.str (T sp) t4)) (hs1 : sp.length <= 1)
  (I : FmtI Np G h y dy la xs ls) (r : Room A 8) (hz : total xs + prLen (a, b) <= 50000) (hxl : xs.length + 1 <= 40000) (hll : ls.length <= 100000) (hN : NpIn Np G)
  (k : ∀ h' g', Sub G h' -> FmtI Np G h' y dy la (appendF room sp (xs, ls) (a, b)).1 (appendF room sp (xs, ls) (a, b)).2 -> (AllBare g -> AllBare g') -> Q .none h' g') : WC c A (.call (.ref 113) ⟨[.ref mk, .str (T a) t, .str (T b) u], []⟩) Q h g:=by
 refine xe8a5 (I.open S) fun G1 vs n od ps qs vl ml S1 S2 O F TT Z=>?_
 replace X:=X.keeps S1
 replace FG:=FG.keeps S1
 replace hN:=hN.keeps S1
 clear S
 have S:=S2
 refine enterF (k:=7) 113 (o113 c.w.params) (bodyOf (subSt 6 8)) [("self", .ref mk), ("fws", .str (T a) t), ("string", .str (T b) u)] [Str.ofString "ch", Str.ofString "i", Str.ofString "prevpart", Str.ofString "part", Str.ofString "remainder"] [("string", some (.str (T b) u)), ("fws", some (.str (T a) t)), ("self", some (.ref mk)), ("ch", none), ("i", none), ("prevpart", none), ("part", none), ("remainder", none)] X S O r rfl (fun s _=>BindsTo.of_eq (by kernel_rfl)) ?_
 intro h₁ L D r' hL
 walk_at "x"
 walk_at "k"
 refine W.expr ?_
 refine W.meth ?_
 refine W.fa X D FG (.there (.there .here)) hcl rfl ?_
 refine xe (F.acc (r:=[(la, lst vl ml)]) D) fun t0 AC=>?_
 refine W.methA (fa:=144) X D.sub AC ?_
 refine xea3 (Led.lendA (r:=[(la, lst vl ml)]) D F TT rfl) fun G2 c1 c2 c3 c4=>?_
 refine W.callF1 (o:=o144 c.w.params) X ?_ (by kernel_rfl) (by kernel_rfl)
 walk_at "S"
 walk_at "D"
 refine ⟨D.sub, push_spec (X.keeps c2) c1 c3 (r'.less (by simp)) (by exact lO (lLt hxl (by decide))) (hN.keeps c2) fun h2 S2 I2=>⟨rfl, ?_⟩⟩
 refine xe6a4 (c4 _ _ S2 I2) fun G3 vs3 n3 od3 ps3 qs3 d1 D3 F3 TT3 _=>?_
 replace X:=X.keeps d1
 replace FG:=FG.keeps d1
 replace hN:=hN.keeps d1
 replace S1:=S1.trans d1
 clear D AC c4 F TT S2 I2 c3 c1 c2
 have et : total (xs ++ [(a, b)]) = total xs + prLen (a, b):=by simp [total]
 walk_at "k"
 refine W.if_ ?_
 walk_at "S"
 walk_at "D"
 walk_at "X"
 refine W.fa X D FG (.there (.there .here)) hcl rfl ?_
 walk_at "S"
 refine xe (F3.acc (r:=[(la, lst vl ml)]) D) fun t0 AC=>?_
 refine xea3 (Led.lendA (r:=[(la, lst vl ml)]) D F3 TT3 rfl) fun G2 c1 c2 c3 c4=>?_
 refine W.lenA X D.sub AC (len_spec (X.keeps c2) c1 c3 (r'.in1.less (by simp)) (by lia) fun h4 g4 t2 S4 I4 b4=>⟨_, _, rfl, by lia, fun t'=>?_⟩)
 refine xe6a4 (c4 _ _ S4 I4) fun G5 vs5 n5 od5 ps5 qs5 d5 D5 F5 TT5 _=>?_
 replace X:=X.keeps d5
 replace FG:=FG.keeps d5
 replace hN:=hN.keeps d5
 replace S1:=S1.trans d5
 clear D AC c4 F3 TT3 S4 I4 c3 c1 c2
 walk_at "S"
 rename Led _ _ _ _ _=>D5
 refine W.fa X D5 FG (.there (.there .here)) hmx rfl ?_
 walk_at "S"
 refine ifSplit ?_ ?_ <;> intro hc
 ·have ht : total (xs ++ [(a, b)]) > room:=by simp at hc; omega
  walk_at "k"
  refine W.for_ ?_
  refine W.fa X D5 FG (.there (.there .here)) hsp rfl ?_
  refine W.forStr r'.hh D5 (AppS y dy la mk vs5 n5 od5 ps5 qs5 vl ml xs a b sp u g4)
   ⟨_, _, _, _, _, fun q=>absurd q (Nat.lt_irrefl 0)⟩ ?_ ?_
  ·rintro i ch tc G6 h6 f6 l6 g6 hi SG ⟨v1, cho, vi, v2, v3, _⟩ D6
   have hi0 : i = 0:=by have:=(List.getElem?_eq_some_iff.mp hi).1; lia
   subst hi0
   have hhd : sp.head? = some ch:=by rw [List.head?_eq_getElem?]; exact hi
   have X6:=X.keeps SG
   have FG6:=FG.keeps SG
   have TT6:=TT5.keeps SG
   have eT:=TT6.len
   have hn1 : 1 <= vs5.length:=by rw [eT]; simp
   refine W.wr D6 (.there (.there (.there .here))) fun h7 D7=>?_
   clear D6 D5 FG
   walk_at "x"
   walk_at "k"
   refine W.for_ ?_
   walk_at "S"
   rename Led _ _ _ _ _=>D7
   rename TopIn _ _=>X6
   refine W.fa X6 D7 FG6 (.there (.there .here)) hcl rfl ?_
   refine xe (F5.acc (r:=[(la, lst vl ml)]) D7) fun t0 AC=>?_
   refine W.methA (fa:=197) X6 D7.sub AC ?_
   refine xea3 D7.lend0 fun G8 e1 e2 e3 e4=>?_
   refine W.callF0 (o:=o197 c.w.params) X6 D7.sub ?_ (by kernel_rfl) (by kernel_rfl)
   refine count_keep (X6.keeps e3) e1 e2 (.head _) (.tail _ (.head _)) F5 (r'.less (by simp)) fun h9 t9 S9 O9=>?_
   have D9:=e4 _ _ S9 O9
   clear e1 e2 e4 AC D7
   walk_at "S"
   rename Led _ _ _ _ _=>D9
   have e1 : vs5.length - 1 = (xs ++ [(a, b)]).length - 1:=by rw [eT]
   rw [show ((vs5.length : Int) - 1) = ((vs5.length - 1 : Nat) : Int) from (Int.ofNat_sub hn1).symm]
   have hlx : (xs ++ [(a, b)]).length <= 40000:=by simp; lia
   refine W.range3 D9 (lT (Nat.sub_le _ _) (by rw [eT]; exact lT hlx (by decide))) fun h10 rr D10 hr=>?_
   walk_at "S"
   refine W.forRangeD r'.hh D10 hr (by lia) (AppR y dy la mk vs5 n5 od5 ps5 qs5 vl ml xs a b ch tc u v3 g4)
    ⟨_, _, _, rfl⟩ ?_ ?_
   ·rintro i ti G11 h11 f11 l11 g11 hi2 SG11 ⟨v1', vi', v2', hfc⟩ D11
    rw [show (((vs5.length - 1 : Nat) : Int) - (i : Int)) = ((vs5.length - 1 - i : Nat) : Int) from (Int.ofNat_sub (lO hi2)).symm]
    refine W.wr D11 (.there (.there (.there (.there .here)))) fun h12 D12=>?_
    have es : findCut (xs ++ [(a, b)]) ch (vs5.length - 1 - i) = if cutAt (xs ++ [(a, b)]) ch (vs5.length - 1 - i) = true then some (vs5.length - 1 - i) else findCut (xs ++ [(a, b)]) ch (vs5.length - 1 - (i + 1)):=by
     refine xe (⟨vs5.length - 1 - i - 1, (Nat.sub_add_cancel (Nat.sub_pos_of_lt hi2)).symm⟩ : ∃ m, vs5.length - 1 - i = m + 1) fun m hm=>?_
     rw [hm, show vs5.length - 1 - (i + 1) = m by rw [Nat.sub_add_eq, hm]; rfl]
     rfl
    refine ac_turn (k:=ch) (j:=vs5.length - 1 - i) (v1:=v1') (v2:=v2') (X6.keeps SG11) (FG6.keeps SG11) hcl D12 F5 (TT6.keeps SG11) (Nat.sub_pos_of_lt hi2) (by rw [<- eT]; exact lLe (Nat.sub_le _ _) (Nat.sub_lt hn1 Nat.one_pos)) (by exact lT hlx (by decide)) (by lia) (fun z h' v1 v2 D'=>?_) (fun z h' v1 v2 D'=>?_)
    ·rw [if_pos z] at es
     rw [es] at hfc
     have e : appendF room sp (xs, ls) (a, b) = ((xs ++ [(a, b)]).drop (vs5.length - 1 - i), ls ++ [flat ((xs ++ [(a, b)]).take (vs5.length - 1 - i))]):=by
      unfold appendF
      rw [if_pos ht, hhd]
      show (match findCut (xs ++ [(a, b)]) ch ((xs ++ [(a, b)]).length - 1) with | some i=>_ | none=>_) = _
      rw [<- e1, hfc]
     walk_at "k"
     refine W.brk_ ?_
     walk_at "n"
     refine ac_found ((X6.keeps SG11)) (FG6.keeps SG11) hcl hli D' F5 (TT6.keeps SG11) Z r' (by rw [<- eT]; exact lT (Nat.sub_le _ _) (Nat.sub_le _ _)) (by exact lT hlx (by decide)) (by lia) hll fun h13 g13 S13 I13 b13=>?_
     walk_at "n"
     exact k h13 g13 (S1.trans (SG.trans (SG11.trans S13))) (by rw [e]; exact (((I13.base SG11).base SG).base S1)) fun hb=>b13 (b4 hb)
    ·exact ⟨_, _, D', _, _, _, by rw [hfc, es, if_neg (by rw [z]; decide)]⟩
   ·rintro h11 f11 l11 g11 ⟨v1', vi', v2', hfc⟩ D11
    rw [Nat.sub_self] at hfc
    walk_at "k"
    refine W.cont_ ?_
    walk_at "n"
    exact ⟨_, _, D11, _, _, _, _, _, fun _ k0 hk0=>by rw [hhd] at hk0; cases hk0; rw [<- e1, hfc]; rfl⟩
  ·rintro h6 f6 l6 g6 ⟨v1, cho, vi, v2, v3, hno⟩ D6
   have e : appendF room sp (xs, ls) (a, b) = (xs ++ [(a, b)], ls):=by
    unfold appendF
    rw [if_pos ht]
    cases esp : sp with
    | nil=>rfl
    | cons k0 ks =>
     have:=hno (by rw [esp]; simp) k0 (by rw [esp]; rfl)
     show (match findCut (xs ++ [(a, b)]) k0 ((xs ++ [(a, b)]).length - 1) with | some i=>_ | none=>_) = _
     rw [this]
   refine ac_else X FG hcl D6 F5 TT5 Z r' (by simp) (by simp; exact lO (lLt hxl (by decide))) hN fun h7 S7 I7=>?_
   walk_at "n"
   exact k h7 _ (S1.trans S7) (by rw [e]; exact I7.base S1) b4
 ·walk_at "n"
  have e : appendF room sp (xs, ls) (a, b) = (xs ++ [(a, b)], ls):=by unfold appendF; rw [if_neg (by simp at hc ⊢; omega)]
  walk_at "n"
  exact k h4 g4 (S1.trans D5.sub) (by rw [e]; exact (D5.fmtI (r:=[]) F5 (TT5.keeps D5.sub) Z).base S1) b4
end
end
section
open Builtin Builtin.Re
theorem slot_split : Slot "re.Pattern" "split" "re.Pattern.split":=.of (owner:="re.Pattern") (n:="split") (by rw [typeLookup_type, builtinLookup_eq_fast]; kernel_rfl) (by decide +kernel) (by decide +kernel) (by decide +kernel) (.inr (by decide +kernel)) (by rw [isSubtype_type]; kernel_rfl)
theorem entry_split : entryFor table "re.Pattern.split" = some Builtin.«re.Pattern.split»:=entryFor_of_tree (by kernel_rfl)
theorem args_split (a b : Value) : argsOk "re.Pattern.split" ⟨[a, b], []⟩:=by unfold argsOk; kernel_rfl
theorem type_split : typeOf (.builtin "re.Pattern.split") = Pure.pure (.type "method_descriptor"):=by show builtinType _ = _; rw [builtinType_eq_fast]; kernel_rfl
section
variable {c : Cx} {A : Around} {G h : Heap} {g : Gs} {env : Env} {L : Addr} {f : Fm} {l : List (Addr × Obj)}
theorem forInW {α β : Type} {fn : α -> β -> Sem (ForInStep β)} (I : Nat -> β -> Heap -> Gs -> Prop) {Q : β -> Heap -> Gs -> Prop}
  (turn : ∀ x k b h g, I (k + 1) b h g -> W c A (fn x b) (fun r h' g'=>∃ b', r = .yield b' /\ I k b' h' g') h g) (fin : ∀ b h g, I 0 b h g -> Q b h g) : ∀ (l : List α) (b : β) (h : Heap) (g : Gs), I l.length b h g -> W c A (forIn l b fn) Q h g
 | [], b, h, g, i=>by rw [List.forIn_nil]; exact W.pure (fin _ _ _ i)
 | x :: l, b, h, g, i=>by
  rw [List.forIn_cons]
  refine W.bind ((turn x l.length b h g i).mono fun r h' g' z=>?_)
  obtain ⟨b', rfl, z⟩:=z
  exact forInW I turn fin l b' h' g' z
theorem drive : ∀ (T : Nat) (m : Sre.M) (N : Nat), N + 1 <= 4 * T -> (m.runFor N).outcome.isSome = true -> ∀ {Q : Sre.M -> Heap -> Gs -> Prop}, Q (m.runFor N) h g -> W c A (reDrive T m) Q h g
 | 0, m, N, hN, ho, Q, q=>by (exfalso; lia)
 | T + 1, m, N, hN, ho, Q, q=>by
  unfold reDrive
  show W c A (if (m.runFor 4).outcome.isSome = true then Pure.pure (m.runFor 4) else do PySem.rule "sre.turn"; reDrive T (m.runFor 4)) Q h g
  by_cases hle : N <= 4
  ·have e : m.runFor 4 = m.runFor N:=by
    rw [show 4 = N + (4 - N) from (Nat.add_sub_cancel' hle).symm, runFor_add, runFor_done _ _ ho]
   rw [e, if_pos ho]
   exact W.pure q
  ·have e : m.runFor N = (m.runFor 4).runFor (N - 4):=by rw [<- runFor_add]; congr 1; exact (Nat.add_sub_cancel' (lO (Nat.lt_of_not_le hle))).symm
   cases h4 : (m.runFor 4).outcome.isSome with
   | true =>
    rw [if_pos rfl]
    rw [e, runFor_done _ _ h4] at q
    exact W.pure q
   | false =>
    rw [if_neg (by decide)]
    rw [e] at ho q
    exact W.bind (W.rule (drive T _ (N - 4) (by rw [<- Nat.sub_add_comm (lO (Nat.lt_of_not_le hle))]; exact Nat.sub_le_of_le_add hN) ho q))
theorem toEnd {m : Sre.M} {N : Nat} {Q : Option Sre.M -> Heap -> Gs -> Prop} (hN : N <= 100000000) (ho : (m.runFor N).outcome = some .matched \/ (m.runFor N).outcome = some .failed) (q1 : (m.runFor N).outcome = some .matched -> Q (some (m.runFor N)) h g) (q2 : (m.runFor N).outcome = some .failed -> Q none h g) : W c A (reRunToEnd m) Q h g:=by
 unfold reRunToEnd
 refine W.bind (drive (2 ^ 64) m N (by exact lLe hN (by decide)) (by rcases ho with h | h <;> rw [h] <;> rfl) ?_)
 refine W.bind (forInW (fun _ _ h' g'=>h' = h /\ g' = g) (fun x k b h' g' i=>?_) (fun b h' g' i=>?_) _ _ _ _ ⟨rfl, rfl⟩)
 ·obtain ⟨rfl, rfl⟩:=i
  split
  ·exact W.bind (W.rule (W.pure ⟨_, rfl, rfl, rfl⟩))
  ·exact W.pure ⟨_, rfl, rfl, rfl⟩
 ·obtain ⟨rfl, rfl⟩:=i
  rcases ho with h | h
  ·have q:=q1 h
   rw [h]
   exact W.pure q
  ·have q:=q2 h
   rw [h]
   exact W.pure q
noncomputable def reSplit : Nat -> List Nat -> List (List Nat)
 | 0, x=>[x]
 | n + 1, x =>
  if (x.takeWhile fun c=>!isW c).length = x.length then [x]
  else x.takeWhile (fun c=>!isW c) :: (x.drop (x.takeWhile fun c=>!isW c).length).takeWhile isW :: reSplit n (x.drop ((x.takeWhile fun c=>!isW c).length + ((x.drop (x.takeWhile fun c=>!isW c).length).takeWhile isW).length))
end
end
section
open Builtin Builtin.Re
section
variable {c : Cx} {A : Around} {G h : Heap} {g : Gs} {env : Env} {L : Addr} {f : Fm} {l : List (Addr × Obj)}
theorem W.eq {α : Type} {t : Sem α} {a : α} {Q : α -> Heap -> Gs -> Prop} (e : t = Pure.pure a) (q : Q a h g) : W c A t Q h g:=by rw [e]; exact W.pure q
theorem W.ld {a : Addr} {o : Obj} {Q : Obj -> Heap -> Gs -> Prop} (e : h.get? a = some o) (q : Q o h g) : W c A (load a) Q h g:=fun tk=>wpAny_load e ⟨rfl, rfl, q⟩
theorem W.builtin {id T : String} {name : Str} {b : Builtin} {self : Value} {rest : List Value} {Q : PV} (slot : Slot T name id) (hT : ∀ s : Shared, s.heap = h -> s.TypeIs self T) (entry : entryFor table id = some b) (ha : argsOk id ⟨self :: rest, []⟩)
  (y : W c A.in1 (b ⟨self :: rest, []⟩) (fun fin h' g'=>∃ v, fin = .done (.ret v) /\ Q v h' g') h g) : W c A (call (.builtin id) (self :: rest)) Q h g:=fun tk=>by
 refine wpAny_call (codeAny_call_builtin slot.plain entry (slot.check _ _ _ _ _ _ _ _ (hT _ rfl) ha (wM (y tk) (fun fin s' z=>?_) fun _ _ z=>z.elim)))
 obtain ⟨z1, z2, v, rfl, z3⟩:=z
 exact ⟨z1, z2, z3⟩
theorem W.whole {x : List Nat} {t : Tok} {Q : ReTarget -> Heap -> Gs -> Prop} (X : TopIn c.w.params h) (q : Q ⟨.ref 43, .str (T x) t, wsC, x.toArray, 0, 1, 0, x.length⟩ h g) : W c A (reWholeTarget (.ref 43) (.str (T x) t)) Q h g:=by
 unfold reWholeTarget fieldsOf
 refine W.bind (W.bind (W.ld (X 43 (o43 c.w.params) (by kernel_rfl)) (W.pure ?_)))
 unfold reTextOf asStr?
 refine W.bind (W.bind (W.pure (W.pure ?_)))
 dsimp only
 show W c A (reRawItems (.ref 42) >>= _) _ _ _
 unfold reRawItems seqItems?
 refine W.bind (W.bind (W.bind (W.ld (X 42 (o42 c.w.params) (by kernel_rfl)) (W.pure (W.pure (W.pure ?_))))))
 have e : ∀ c', c' = wsC -> Q ⟨.ref 43, .str (T x) t, c', x.toArray, 0, 1, 0, x.length⟩ h g:=fun c' hc=>by subst hc; exact q
 exact e _ (by kernel_rfl)
theorem reSplit_len : ∀ (n : Nat) (x : List Nat), (reSplit n x).length <= 2 * n + 1
 | 0, x=>by simp [reSplit]
 | n + 1, x=>by
  unfold reSplit
  split
  ·simp
  ·have:=reSplit_len n (x.drop ((x.takeWhile fun c=>!isW c).length + ((x.drop (x.takeWhile fun c=>!isW c).length).takeWhile isW).length))
   simp only [lC]; lia
theorem ext_T (x : List Nat) (a b : Nat) : (⟨x.toArray.extract a b⟩ : Str) = T ((x.drop a).take (b - a)):=by
 rw [List.extract_toArray, List.extract_eq_take_drop]; rfl
theorem W.slice0 {x : List Nat} {a b : Nat} {Q : PV} (hx : x.length <= 1000000) (q : ∀ t, Q (.str (T ((x.drop a).take (b - a))) t) h g) : W c A (reSlice x.toArray 0 a b) Q h g:=fun tk=>by
 show wpAny _ _ (mkStr ⟨x.toArray.extract a b⟩) _ _ _
 rw [ext_T]
 exact wpAny_mkStr ⟨rfl, rfl, q _⟩ (by rw [T_length, sE, lTk, lDr]; exact lT (Nat.min_le_right _ _) (lT (Nat.sub_le _ _) (lT hx (by decide))))
inductive SpI (x : List Nat) (k : Nat) : Array Value × Nat × Nat × Bool × Int × Bool -> Prop
 | over (out : Array Value) (start : Nat) (must : Bool) (n : Int) (done : List (List Nat)) (m : Nat) (_ : start <= x.length) (_ : must = false) (_ : Ss out.toList done) (_ : done ++ reSplit (m + 1) (x.drop start) = reSplit (x.length + 1) x) (_ : (x.drop start).length <= m) (_ : reSplit (m + 1) (x.drop start) = [x.drop start]) : SpI x k (out, start, start, must, n, true)
 | go (out : Array Value) (start : Nat) (must : Bool) (n : Int) (done : List (List Nat)) (m : Nat) (_ : start <= x.length) (_ : must = false) (_ : Ss out.toList done) (_ : done ++ reSplit (m + 1) (x.drop start) = reSplit (x.length + 1) x) (_ : (x.drop start).length <= m) (_ : x.length - start + 1 <= k) : SpI x k (out, start, start, must, n, false)
theorem split_step {x : List Nat} {start p w m k : Nat} {done R : List (List Nat)} (hp : start + ((x.drop start).takeWhile fun c=>!isW c).length = p) (hw : w = ((x.drop p).takeWhile isW).length) (w0 : 0 < w) (w1 : p + w <= x.length)
  (i5 : done ++ reSplit (m + 1) (x.drop start) = R) (i6 : (x.drop start).length <= m) (i7 : x.length - start + 1 <= k + 1) :
  (done ++ [(x.drop start).take (p - start), (x.drop p).take (p + w - p)]) ++ reSplit (m - 1 + 1) (x.drop (p + w)) = R /\ (x.drop (p + w)).length <= m - 1 /\ x.length - (p + w) + 1 <= k:=by
 have sp : start <= p:=by rw [<- hp]; exact Nat.le_add_right _ _
 rw [lDr] at i6
 have s1 : start < x.length:=lLe sp (lLt (Nat.lt_add_of_pos_right w0) w1)
 have em : m = (m - 1) + 1:=(Nat.sub_add_cancel (lT (Nat.sub_pos_of_lt s1) i6)).symm
 have s2 : x.length - (p + w) <= x.length - start - 1:=Nat.sub_le_sub_left (lLe sp (Nat.lt_add_of_pos_right w0)) _
 have a1 : (x.drop start).take (p - start) = (x.drop start).takeWhile fun c=>!isW c:=by
  rw [<- hp, Nat.add_sub_cancel_left]
  exact (List.prefix_iff_eq_take.mp (List.takeWhile_prefix _)).symm
 have a2 : (x.drop p).take (p + w - p) = (x.drop p).takeWhile isW:=by
  rw [Nat.add_sub_cancel_left, hw]
  exact (List.prefix_iff_eq_take.mp (List.takeWhile_prefix _)).symm
 have eu : reSplit (m + 1) (x.drop start) = (x.drop start).take (p - start) :: (x.drop p).take (p + w - p) :: reSplit m (x.drop (p + w)):=by
  rw [a1, a2]
  conv=>lhs; unfold reSplit
  rw [if_neg (by rw [lDr]; exact fun e=>absurd w1 (Nat.not_le_of_gt (by rw [<- hp, e, Nat.add_sub_cancel' (lO s1)]; exact Nat.lt_add_of_pos_right w0))), List.drop_drop, List.drop_drop, <- Nat.add_assoc, hp, <- hw]
 refine ⟨?_, by rw [lDr]; exact lT s2 (Nat.sub_le_sub_right i6 1), Nat.le_of_succ_le_succ (lT (Nat.succ_le_succ (Nat.succ_le_of_lt (lLe s2 (Nat.sub_lt (Nat.sub_pos_of_lt s1) Nat.one_pos)))) i7)⟩
 rw [<- em, apA, <- i5, eu]; rfl
theorem W.split {x : List Nat} {t : Tok} {Q : PV} (X : TopIn c.w.params G) (D : Led G L h f l) (hx : x.length <= 1000000)
  (y : ∀ h' d vs, Led G L h' f ((d, lst vs 0) :: l) -> Ss vs (reSplit (x.length + 1) x) -> Q (.ref d) h' g) : W c A (call (.builtin "re.Pattern.split") [.ref 43, .str (T x) t]) Q h g:=by
 have Xh:=D.inK X
 refine W.builtin slot_split (fun s e=>⟨_, by rw [e]; exact Xh 43 (o43 c.w.params) (by kernel_rfl), by kernel_rfl⟩) entry_split (args_split _ _) ?_
 unfold Builtin.«re.Pattern.split»
 refine W.bind (W.eq (a:=[some (.str (T x) t), none]) (by kernel_rfl) ?_)
 dsimp only
 refine W.bind (W.pure ?_)
 refine W.bind (W.whole Xh ?_)
 dsimp only
 refine W.bind (forInW (fun k b h' g'=>h' = h /\ g' = g /\ SpI x k b) (fun a k b h' g' i=>?_) (fun b h' g' i=>?_) _ _ _ _ ⟨rfl, rfl, ?_⟩)
 ·obtain ⟨rfl, rfl, i⟩:=i
  cases i with
  | over out start must n done m i2 i3 i4 i5 i6 i7 =>
   subst i3
   dsimp only
   rw [if_neg (by decide)]
   exact W.pure ⟨_, rfl, rfl, rfl, .over _ _ _ _ done m i2 rfl i4 i5 i6 i7⟩
  | go out start must n done m i2 i3 i4 i5 i6 i7 =>
   subst i3
   dsimp only
   rw [if_pos (by decide)]
   obtain ⟨N, hN, ho, hF⟩:=forSearch_run x hx start i2
   unfold Finds at hF
   rw [if_neg (by simp)]
   generalize hp : start + ((x.drop start).takeWhile fun c=>!isW c).length = p at hF
   refine W.bind (toEnd (N:=N) (lT hN (lT (Nat.add_le_add_right (Nat.mul_le_mul_left 3 hx) 7) (by decide))) ?_ (fun hm=>?_) fun hm=>?_)
   ·cases hF with
    | no _ q=>exact .inr q
    | yes _ _ _ _ _ q=>exact .inl q
   ·cases hF with
    | no _ q=>rw [q] at hm; cases hm
    | yes hne w hw w0 w1 q1 q2 q3 q4 q5 =>
    dsimp only
    refine W.bind (W.slice0 hx fun t1=>?_)
    refine W.bind ?_
    rw [show List.range 1 = [0] from rfl, List.forIn_cons]
    unfold reMachineGroup
    rw [q5, q4, q2, q3, if_neg (by decide)]
    show W c A.in1 (((if p + w < p then reWrongSpan else reSlice x.toArray 0 p (p + w)) >>= _) >>= _) _ _ _
    rw [if_neg (by simp)]
    refine W.bind (W.bind (W.slice0 hx fun t2=>W.pure ?_))
    dsimp only
    rw [List.forIn_nil]
    have z:=split_step hp hw w0 w1 i5 i6 i7
    refine W.pure (W.pure ⟨_, rfl, rfl, rfl, .go _ _ _ _ _ (m - 1) w1 ?_ ?_ z.1 z.2.1 z.2.2⟩)
    ·show ((p + w) == p) = false
     rw [beq_eq_false_iff_ne]; exact Nat.ne_of_gt (Nat.lt_add_of_pos_right w0)
    ·show Ss ((out.push _).push _).toList _
     rw [Array.toList_push, Array.toList_push, apA]
     exact i4.append (Ss.cons (Ss.cons Ss.nil))
   ·cases hF with
    | no he _ =>
     dsimp only
     refine W.pure ⟨_, rfl, rfl, rfl, .over _ _ _ _ done m i2 rfl i4 i5 i6 ?_⟩
     show reSplit (m + 1) (x.drop start) = _
     unfold reSplit
     rw [if_pos (by rw [lDr]; exact Nat.eq_sub_of_add_eq' (hp.trans he))]
    | yes _ _ _ _ _ q=>rw [q] at hm; cases hm
 ·obtain ⟨rfl, rfl, i⟩:=i
  cases i with
  | go out start must n done m i2 i3 i4 i5 i6 i7=>cases i7
  | over out start must n done m i2 i3 i4 i5 i6 i7 =>
   subst i3
   dsimp only
   rw [if_neg (by decide)]
   refine W.bind (W.slice0 hx fun t1=>?_)
   have e1 : (x.drop start).take (x.length - start) = x.drop start:=List.take_of_length_le (by simp)
   rw [e1]
   have hS : Ss (out.push (.str (T (x.drop start)) t1)).toList (reSplit (x.length + 1) x):=by
    rw [<- i5, i7, Array.toList_push]; exact i4.append (.cons .nil)
   refine W.bind (W.newl D (by have:=hS.len; rw [sE, this]; exact lT (reSplit_len _ _) (lT (Nat.add_le_add_right (Nat.mul_le_mul_left 2 (Nat.succ_le_succ hx)) 1) (by decide))) fun h2 d D2=>W.pure ⟨_, rfl, y h2 d _ D2 hS⟩)
 ·refine .go _ _ _ _ [] x.length (Nat.zero_le _) rfl Ss.nil rfl (by simp) ?_
  rw [List.length_range]
  show x.length - 0 + 1 <= 2 * x.toArray.size + 3
  rw [List.size_toArray]; lia
end
end
section
open Builtin
structure ZAp (z TI TO i1 l1 : Addr) : Prop where
 TIz : TI ≠ z
 TOz : TO ≠ z
 i1z : i1 ≠ z
 TITO : TI ≠ TO
 TIi1 : TI ≠ i1
 TOi1 : TO ≠ i1
 l1z : l1 ≠ z
 l1TO : l1 ≠ TO
 l1i1 : l1 ≠ i1
section
variable {w : World} {A : Around} {E : Value -> Shared -> Prop} {s : Shared}
theorem zs_item {z TI TO i1 l1 : Addr} {k1 : Nat} {xs : Array Value} {x y a b : Value} {Q : Value -> Shared -> Prop} (D : ZAp z TI TO i1 l1)
  (hz : IsZip s.heap z TI TO .none) (hTI : IsPair s.heap TI (.ref i1) (.ref i1)) (hTO : IsPair s.heap TO a b)
  (h1 : s.heap.IsListIter i1 l1 k1) (hl1 : s.heap.IsList l1 xs) (hx : xs[k1]? = some x) (hy : xs[k1 + 1]? = some y)
  (hQ : ∀ h', IsZip h' z TI TO (rawInt s.heap.objs.size) -> IsPair h' TO x y -> h'.IsListIter i1 l1 (k1 + 2) -> IsPair h' s.heap.objs.size x y -> h'.objs.size = s.heap.objs.size + 1 ->
   (∀ c o, c ≠ z -> c ≠ TO -> c ≠ i1 -> s.heap.get? c = some o -> h'.get? c = some o) -> Q (.ref s.heap.objs.size) { s with heap:=h' }) :
  wpAny (model PW w) A (Builtin.«zip.__next__» ⟨[.ref z], []⟩) (fun fin s'=>∃ v, fin = .done (.ret v) /\ Q v s') E s:=by
 show wpAny _ _ (field (.ref z) 2 >>= _) _ _ _
 refine wB (wpAny_field hz rfl (x:=.bool false) rfl ?_)
 show wpAny _ _ (field (.ref z) 3 >>= _) _ _ _
 refine wB (wpAny_field hz rfl (x:=.ref TI) rfl ?_)
 refine wB (wpAny_seqItems hTI rfl ?_)
 show wpAny _ _ (Builtin.SmallTypes.ownedTupleIsFree (.ref z) >>= _) _ _ _
 refine wB ?_
 unfold Builtin.SmallTypes.ownedTupleIsFree
 refine wB (wpAny_field hz rfl (x:=.none) rfl (wP ?_))
 simp only [if_true]
 refine wB (wpAny_rule ?_)
 refine wB (wpAny_field hz rfl (x:=.ref TO) rfl ?_)
 refine wB (wpAny_setField_rec hz (by simp) fun h₁ hz₁ hs₁=>?_)
 replace hz₁ : IsZip h₁ z TI TO .ellipsis:=hz₁
 refine wB ?_
 simp only [List.zipIdx_cons, List.zipIdx_nil, List.forIn_cons, List.forIn_nil]
 refine wB (wB (wpAny_onRaise ?_))
 show wpAny _ _ (Builtin.SmallTypes.nextOf (.ref i1) >>= _) _ _ _
 refine wB (wpAny_nextOf_list_item (h1.extBut hs₁.extBut D.i1z) (hl1.extBut hs₁.extBut D.l1z) hx fun h₂ h1₂ hs₂=>wP ?_)
 have hTO₂ : IsPair h₂ TO a b:=hs₂.extBut _ _ D.TOi1 (hs₁.extBut _ _ D.TOz hTO)
 have hl₂:=(hl1.extBut hs₁.extBut D.l1z).extBut hs₂.extBut D.l1i1
 refine wB (wpAny_seqItems hTO₂ rfl ?_)
 refine wB (wpAny_updateSeq_pair hTO₂ fun h₃ hTO₃ hs₃=>?_)
 replace hTO₃ : IsPair h₃ TO x b:=hTO₃
 refine wB (wpAny_letGo (wP ?_))
 refine wB (wB (wpAny_onRaise ?_))
 show wpAny _ _ (Builtin.SmallTypes.nextOf (.ref i1) >>= _) _ _ _
 refine wB (wpAny_nextOf_list_item (h1₂.extBut hs₃.extBut D.TOi1.symm) (hl₂.extBut hs₃.extBut D.l1TO) hy fun h₄ h2₄ hs₄=>wP ?_)
 have hTO₄ : IsPair h₄ TO x b:=hs₄.extBut _ _ D.TOi1 hTO₃
 refine wB (wpAny_seqItems hTO₄ rfl ?_)
 refine wB (wpAny_updateSeq_pair hTO₄ fun h₅ hTO₅ hs₅=>?_)
 replace hTO₅ : IsPair h₅ TO x y:=hTO₅
 refine wB (wpAny_letGo (wP (wP ?_)))
 refine wB (wpAny_seqItems hTO₅ rfl ?_)
 refine wB (wpAny_newTuple ?_)
 have hsz : h₅.objs.size = s.heap.objs.size:=by rw [hs₅.1, hs₄.1, hs₃.1, hs₂.1, hs₁.1]
 have hz₅ : IsZip h₅ z TI TO .ellipsis:=hs₅.extBut _ _ D.TOz.symm (hs₄.extBut _ _ D.i1z.symm (hs₃.extBut _ _ D.TOz.symm (hs₂.extBut _ _ D.i1z.symm hz₁)))
 have hk₅ : ∀ c o, c ≠ z -> c ≠ TO -> c ≠ i1 -> s.heap.get? c = some o -> h₅.get? c = some o:=fun c o c1 c2 c3 e =>
  hs₅.extBut _ _ c2 (hs₄.extBut _ _ c3 (hs₃.extBut _ _ c2 (hs₂.extBut _ _ c3 (hs₁.extBut _ _ c1 e))))
 have h1₅ : h₅.IsListIter i1 l1 (k1 + 2):=h2₄.extBut hs₅.extBut D.TOi1.symm
 have hzlt : z < h₅.objs.size:=Heap.lt_size hz₅
 show wpAny _ _ (Builtin.SmallTypes.ownedTupleHandOut (.ref z) (.ref h₅.objs.size) >>= _) _ _ _
 refine wB ?_
 unfold Builtin.SmallTypes.ownedTupleHandOut
 have hz₆ : IsZip (h₅.push { cls:=.type "tuple", data:=.seq #[x, y] }) z TI TO .ellipsis:=hpo _ hz₅
 refine wB (wpAny_setField_rec hz₆ (by simp) fun h₇ hz₇ hs₇=>?_)
 replace hz₇ : IsZip h₇ z TI TO (rawInt h₅.objs.size):=hz₇
 refine wpAny_setField_rec hz₇ (by simp) fun h₈ hz₈ hs₈=>?_
 replace hz₈ : IsZip h₈ z TI TO (rawInt h₅.objs.size):=hz₈
 have up : ∀ c o, c ≠ z -> h₅.get? c = some o -> h₈.get? c = some o:=fun c o c1 e=>hs₈.extBut _ _ c1 (hs₇.extBut _ _ c1 (hpo _ e))
 have hT₈ : IsPair h₈ h₅.objs.size x y:=hs₈.extBut _ _ (Nat.ne_of_gt hzlt) (hs₇.extBut _ _ (Nat.ne_of_gt hzlt) (Heap.get?_push_size _ rfl))
 have hz8 : h₈.objs.size = h₅.objs.size + 1:=by rw [hs₈.1, hs₇.1, Heap.size_push]
 rw [hsz] at hz₈ hT₈ hz8
 refine wP ⟨_, rfl, ?_⟩
 show Q (.ref h₅.objs.size) _
 rw [hsz]
 exact hQ h₈ hz₈ (up _ _ D.TOz hTO₅) (h1₅.at fun o e=>up _ o D.i1z e) hT₈ hz8 fun c o c1 c2 c3 e=>up c o c1 (hk₅ c o c1 c2 c3 e)
theorem zs_end {z TI TO i1 l1 : Addr} {k1 : Nat} {xs : Array Value} {a b : Value} {Q : Fin -> Shared -> Prop} (hh : A.handled = none) (D : ZAp z TI TO i1 l1)
  (hz : IsZip s.heap z TI TO .none) (hTI : IsPair s.heap TI (.ref i1) (.ref i1)) (hTO : IsPair s.heap TO a b)
  (h1 : s.heap.IsListIter i1 l1 k1) (hl1 : s.heap.IsList l1 xs) (hx : xs[k1]? = none)
  (hE : ∀ h' e, (∀ c o, c ≠ z -> c ≠ TO -> c ≠ i1 -> s.heap.get? c = some o -> h'.get? c = some o) -> (∃ o, h'.get? e = some o /\ o.cls = .type "StopIteration") -> E (.ref e) { s with heap:=h' }) :
  wpAny (model PW w) A (Builtin.«zip.__next__» ⟨[.ref z], []⟩) Q E s:=by
 show wpAny _ _ (field (.ref z) 2 >>= _) _ _ _
 refine wB (wpAny_field hz rfl (x:=.bool false) rfl ?_)
 show wpAny _ _ (field (.ref z) 3 >>= _) _ _ _
 refine wB (wpAny_field hz rfl (x:=.ref TI) rfl ?_)
 refine wB (wpAny_seqItems hTI rfl ?_)
 show wpAny _ _ (Builtin.SmallTypes.ownedTupleIsFree (.ref z) >>= _) _ _ _
 refine wB ?_
 unfold Builtin.SmallTypes.ownedTupleIsFree
 refine wB (wpAny_field hz rfl (x:=.none) rfl (wP ?_))
 simp only [if_true]
 refine wB (wpAny_rule ?_)
 refine wB (wpAny_field hz rfl (x:=.ref TO) rfl ?_)
 refine wB (wpAny_setField_rec hz (by simp) fun h₁ hz₁ hs₁=>?_)
 replace hz₁ : IsZip h₁ z TI TO .ellipsis:=hz₁
 refine wB ?_
 simp only [List.zipIdx_cons, List.zipIdx_nil, List.forIn_cons, List.forIn_nil]
 refine wB (wB (wpAny_onRaise ?_))
 show wpAny _ _ (Builtin.SmallTypes.nextOf (.ref i1) >>= _) _ _ _
 refine wB (wpAny_nextOf_list_end hh (h1.extBut hs₁.extBut D.i1z) (hl1.extBut hs₁.extBut D.l1z) hx fun h₂ e hs₂ he=>?_)
 refine xea he fun oe hoe hce=>?_
 have hz₂ : IsZip h₂ z TI TO .ellipsis:=hs₂ _ _ D.i1z.symm hz₁
 have hez : e ≠ z:=fun x=>by subst x; rw [hz₂] at hoe; cases hoe; simp at hce
 refine wpAny_setField_rec hz₂ (by simp) fun h₃ _ hs₃=>hE h₃ e (fun c o c1 _ c3 x=>hs₃.extBut _ _ c1 (hs₂ _ _ c3 (hs₁.extBut _ _ c1 x))) ⟨oe, hs₃.extBut _ _ hez hoe, hce⟩
theorem zs_walks (hh : A.handled = none) (z TI TO i1 l1 : Addr) (D : ZAp z TI TO i1 l1) (xs : Array Value) (n : Nat) (hn : xs.size = 2 * n) :
  WalksT PW w A z [z, TI, TO, i1, l1] [z, TO, i1] n
   (fun i vals=>∃ x y, xs[2 * i]? = some x /\ xs[2 * i + 1]? = some y /\ vals = #[x, y])
   (fun i h=>IsZip h z TI TO .none /\ IsPair h TI (.ref i1) (.ref i1) /\ (∃ a b, IsPair h TO a b) /\ h.IsListIter i1 l1 (2 * i) /\ h.IsList l1 xs)
   (fun i T h=>IsZip h z TI TO (rawInt T) /\ IsPair h TI (.ref i1) (.ref i1) /\ (∃ a b, IsPair h TO a b) /\ h.IsListIter i1 l1 (2 * (i + 1)) /\ h.IsList l1 xs /\
    T ≠ z /\ T ≠ TO /\ T ≠ i1) where
 sub:=fun c hc=>by simp at hc ⊢; rcases hc with rfl | rfl | rfl <;> simp
 frame:=fun i h h' hst hk=>by
  refine xa4 hst fun hz hTI z12 h1 hl1=>?_; refine xe2 z12 fun a b hTO=>?_
  exact ⟨hk z (by simp) _ hz, hk TI (by simp) _ hTI, ⟨a, b, hk TO (by simp) _ hTO⟩, h1.at fun o e=>hk i1 (by simp) o e, hl1.at fun o e=>hk l1 (by simp) o e⟩
 item:=fun i s Q E hi hst hQ=>by
  refine xa4 hst fun hz hTI z22 h1 hl1=>?_; refine xe2 z22 fun a b hTO=>?_
  have hix : 2 * i < xs.size:=by lia
  have hiy : 2 * i + 1 < xs.size:=by lia
  have hT : s.TypeIs (.ref z) "zip":=⟨_, hz, rfl⟩
  have lt : ∀ {c o}, s.heap.get? c = some o -> s.heap.objs.size ≠ c:=fun e=>Nat.ne_of_gt (Heap.lt_size e)
  unfold pyNext
  refine wB (wpAny_attempt (wpAny_callSpecial?_slot (name:=Str.ofString "__next__") hT F.slot_zip_next
   (wpAny_call_entry F.slot_zip_next hT F.entry_zip_next
    (zs_item D hz hTI hTO h1 hl1 (Array.getElem?_eq_getElem hix) (Array.getElem?_eq_getElem hiy) fun h' a1 a2 a3 a5 a6 hk=>wP ?_) (F.args_zip_next_1 _))))
  exact hQ s.heap.objs.size #[xs[2 * i], xs[2 * i + 1]] h' s.toks ⟨_, _, Array.getElem?_eq_getElem hix, Array.getElem?_eq_getElem hiy, rfl⟩ (Nat.le_refl _) ⟨_, a5, rfl, _, rfl⟩
   ⟨a1, hk _ _ D.TIz D.TITO D.TIi1 hTI, ⟨_, _, a2⟩, a3, hl1.at fun o e=>hk _ o D.l1z D.l1TO D.l1i1 e, lt hz, lt hTO, (by obtain ⟨_, e, _⟩:=h1; exact lt e)⟩
   fun c o hc e=>hk c o (fun x=>hc (by simp [x])) (fun x=>hc (by simp [x])) (fun x=>hc (by simp [x])) e
 go:=fun elts k pos i T s Q E hm hQ=>by
  refine xa5 hm fun hz hTI z42 h1 hl1 _=>?_; refine xe2 z42 fun a b hTO=>?_
  refine wpAny_letOwnedTupleGo_zip hz fun h' hz' hs'=>hQ h' ⟨hz', hs'.extBut _ _ D.TIz hTI, ⟨a, b, hs'.extBut _ _ D.TOz hTO⟩, h1.extBut hs'.extBut D.i1z,
   hl1.extBut hs'.extBut D.l1z⟩ fun c o hc e=>hs'.extBut _ _ (fun x=>hc (by simp [x])) e
 apart:=fun i T h hm hT=>by
  refine xa7 hm fun _ _ _ _ _ t1 t2 t3=>?_
  simp at hT
  rcases hT with rfl | rfl | rfl
  ·exact t1 rfl
  ·exact t2 rfl
  ·exact t3 rfl
 done:=fun s Q E hst hQ=>by
  refine xa4 hst fun hz hTI z62 h1 hl1=>?_; refine xe2 z62 fun a b hTO=>?_
  have hT : s.TypeIs (.ref z) "zip":=⟨_, hz, rfl⟩
  unfold pyNext
  refine wB (wpAny_attempt (wpAny_callSpecial?_slot (name:=Str.ofString "__next__") hT F.slot_zip_next
   (wpAny_call_entry F.slot_zip_next hT F.entry_zip_next (zs_end hh D hz hTI hTO h1 hl1 (Array.getElem?_eq_none (by lia)) fun h' e hk he=>?_) (F.args_zip_next_1 _))))
  refine xea he fun o ho hc=>?_
  refine wB (wpAny_isInstance (T:="StopIteration") (b:=true) ⟨o, ho, hc⟩ isSubtype_stop ?_)
  exact wP (hQ _ s.toks fun c o hc e=>hk c o (fun x=>hc (by simp [x])) (fun x=>hc (by simp [x])) (fun x=>hc (by simp [x])) e)
 self:=fun i s Q E hst h=>wpAny_pyIter_zip hst.1 h
end
end
section
open Builtin
theorem args_iter0 (a : Value) : argsOk "iter" ⟨[a], []⟩:=by unfold argsOk; kernel_rfl
theorem entry_iter0 : entryFor table "iter" = some Builtin.«iter»:=entryFor_of_fast (by kernel_rfl)
section
variable {c : Cx} {A : Around} {G h : Heap} {g : Gs} {env : Env} {L : Addr} {f : Fm} {l : List (Addr × Obj)}
theorem W.iterL {a : Addr} {vs : List Value} {n : Nat} {Q : PV} (D : Led G L h f l) (e : h.get? a = some (lst vs n))
  (y : ∀ h' I, Led G L h' f ((I, { cls:=.type "list_iterator", data:=.fields #[.ref a, .int 0 0] }) :: l) -> Q (.ref I) h' g) : W c A (call (.builtin "iter") [.ref a]) Q h g:=fun tk=>by
 refine call_function_entry (by decide +kernel) (by decide +kernel) entry_iter0 (args_iter0 _) ?_
 unfold Builtin.«iter»
 refine wB (m:=someArgs "iter" 1 2 _) (wpAny_of_eq (a:=[Value.ref a]) (by kernel_rfl) ?_)
 show wpAny _ _ (pyIter (.ref a) >>= _) _ _ _
 refine wB (wpAny_pyIter_list (isList_lst e) ?_)
 exact wP ⟨_, rfl, rfl, rfl, y _ _ (D.push _)⟩
theorem W.mul2 {a : Addr} {v : Value} {n : Nat} {u : Tok} {Q : PV} (D : Led G L h f l) (e : h.get? a = some (lst [v] n)) (y : ∀ h' d, Led G L h' f ((d, lst [v, v] 0) :: l) -> Q (.ref d) h' g) : W c A (binaryOp .Mult (.ref a) (.int 2 u)) Q h g:=fun tk =>
 wpAny_binaryOp_repeat_ref (T:="list") (U:="int") (by decide) ⟨_, e, rfl⟩ (fun s'=>typeIs_int s' 2 u) noFill_list_mul PySem.F.fills_int_mul PySem.F.slot_int_rmul repeat_list PySem.F.slot_int_index.lookup
  (call_meets PySem.F.slot_int_rmul (typeIs_int _ 2 u) PySem.F.entry_int_rmul (PySem.F.args_int_rmul_2 _ _) (int___rmul___int_list 2 u a #[v] n)
   ⟨e, rfl, ⟨_, e, rfl⟩, call_meets PySem.F.slot_list_mul ⟨_, e, rfl⟩ PySem.F.entry_list_mul (PySem.F.args_list_mul_2 _ _)
    (AutoListH.list___mul___list_int_3 a #[v] n 2 u (by simp [Builtin.List.listFitsIndex]) (by simp) (by simp [Builtin.List.listTooLong, sE]))
    ⟨e, rfl, rfl, y _ _ (D.push (lst [v, v] 0))⟩⟩)
theorem W.pop0 {a : Addr} {v : Value} {vs : List Value} {n : Nat} {u : Tok} {Q : PV} (e : h.get? a = some (lst (v :: vs) n)) (hz : vs.length <= 1000000)
  (y : ∀ h' m, h'.get? a = some (lst vs m) -> (∀ b o, b ≠ a -> h.get? b = some o -> h'.get? b = some o) -> Q v h' g) : W c A (call (.builtin "list.pop") [.ref a, .int 0 u]) Q h g:=fun tk=>by
 have U:=upd_get (F:=Obj.mapSeq fun xs=>xs.eraseIdxIfInBounds 0) e rfl
 refine call_meets PySem.F.slot_list_pop ⟨_, e, rfl⟩ PySem.F.entry_list_pop (PySem.F.args_list_pop_2 _ _) (PySem.MeetsSeq.list_pop_at a _ n 0 u 0 v (by decide) (by unfold seqIndex?; simp) (by simp) (by simp [sE]; exact lT hz (by decide))) ⟨e, rfl, rfl, y _ (n + 1) (U.1.trans ?_) U.2⟩
 congr 1
 show (⟨_, _, .seq _ (if _ then _ else _), _⟩ : Obj) = _
 have e2 : (fun xs : Array Value=>xs.eraseIdxIfInBounds 0) (v :: vs).toArray = vs.toArray:=kl_erase [] vs v
 rw [e2, if_neg (by simp)]
theorem W.setPre {a sl z : Addr} {vs zs : List Value} {n m : Nat} {t : Tok} {Q : Unit -> Heap -> Gs -> Prop} (e : h.get? a = some (lst vs n)) (hs : h.IsSliceOf sl .none (.int 0 t) .none) (hz : h.get? z = some (lst zs m)) (hne : a ≠ z) (h1 : vs.length <= 100000) (h2 : zs.length <= 100000)
  (q : ∀ h' m, h'.get? a = some (lst (zs ++ vs) m) -> (∀ b ob, b ≠ a -> h.get? b = some ob -> h'.get? b = some ob) -> Q () h' g) : W c A (setItem (.ref a) (.ref sl) (.ref z)) Q h g:=fun tk=>by
 have hl:=isList_lst e
 unfold setItem
 try with_reducible refine wpAny_holding ?_
 first | refine wB (wP ?_) | skip
 refine wB (wpAny_sequenceKey (Heap.IsList.typeIs (s:=⟨h, g, c.d, tk, c.os⟩) hl) (by decide) ?_)
 refine wB (wpAny_callSpecial?_slot (name:=Str.ofString "__setitem__") (Heap.IsList.typeIs (s:=⟨h, g, c.d, tk, c.os⟩) hl) slot_list_setitem
  (wpAny_call_entry slot_list_setitem (Heap.IsList.typeIs (s:=⟨h, g, c.d, tk, c.os⟩) hl) entry_list_setitem ?_ (args_list_setitem _ _ _)))
 refine setSl (s:=⟨h, g, c.d, tk, c.os⟩) e rfl hs .none (.int _ _) (st:=0) (sp:=0) (sb_to0 _) (isList_lst hz) (beq_eq_false_iff_ne.mpr hne) h1 h2 fun h' m e k=>⟨_, rfl, ?_⟩
 exact wP ⟨rfl, rfl, q h' m (by simpa using e) k⟩
theorem W.callStarT {pos p : Pos} {T : String} {e : Expr} {Q : PV} (X : TopIn c.w.params G) (D : Led G L h f l)
  (y : W c A (eval e env) (fun v h1 g1=>∃ a vs n l1, v = .ref a /\ vs.length <= 1000 /\ Led G L h1 f l1 /\ (a, lst vs n) ∈ l1 /\ ∀ h2, Led G L h2 f l1 -> W c A (call (.type T) vs) Q h2 g1) h g)
  (he : starEach [.Starred e p] env = [(true, eval e env)]:=by kernel_rfl) : W c A (callWith pos (.type T) [] (backTo pos (starEach [.Starred e p] env)) []) Q h g:=fun tk=>by
 rw [he]
 refine ks_call (P:=fun _=>True) rfl (fun h' _=>⟨.machine, .inr (.inl rfl), Looks.of_pure (by kernel_rfl)⟩) (ks_lone (wM (y tk) (fun v s z=>?_) fun _ _ z=>z))
 obtain ⟨z1, z2, a, vs, n, l1, rfl, hz, D1, hm, z5⟩:=z
 obtain ⟨h', g', d', tk', os'⟩:=s
 dsimp only at z1 z2 D1 z5; subst z1 z2
 have ea:=D1.get hm
 have hT' : (⟨h', g', c.d, tk', c.os⟩ : Shared).TypeIs (.ref a) "list":=⟨_, ea, rfl⟩
 unfold StarOf notIterableAtAll
 refine wB (wpAny_specialOf hT' PySem.F.slot_list_iter.lookup (wP ⟨rfl, ?_⟩))
 refine wpAny_collect_seq a (.inl rfl) ea rfl rfl (fun h2 k2=>⟨trivial, ?_⟩) (by rw [List.size_toArray, sE]; exact lT hz (by decide))
 exact z5 h2 (D1.grow k2) tk'
end
end
section
open Builtin
noncomputable abbrev zsH1 (h : Heap) (I : Addr) : Heap:=h.push { cls:=.type "tuple", data:=.seq #[.ref I, .ref I] }
noncomputable abbrev zsH2 (h : Heap) (I : Addr) : Heap:=(zsH1 h I).push { cls:=.type "tuple", data:=.seq #[.none, .none] }
noncomputable abbrev zsH3 (h : Heap) (I : Addr) : Heap:=(zsH2 h I).push { cls:=.type "zip", data:=.fields #[.none, .bool false, .bool false, .ref h.objs.size, .ref (zsH1 h I).objs.size] }
theorem meets_zs (I p : Addr) (i : Nat) :
  Meets (Builtin.«zip.__new__» ⟨[.type "zip", .ref I, .ref I], []⟩) (fun _ R s=>s.heap.IsListIter I p i /\
   R (.ok (.ret (.ref (zsH2 s.heap I).objs.size))) { s with heap:=zsH3 s.heap I }) :=
 .of_wp fun prog w A R s h=>by
  obtain ⟨hp, g, d, tk, os⟩:=s; refine xa h fun hI h=>?_
  have hsub:=sub_zip
  have hI1 : Heap.IsListIter (Shared.heap ⟨hp, g, d, tk, os⟩) I p i:=hI
  wp_walk using wpAny_pyIter_listiter hI1
  exact ⟨_, rfl, h⟩
section
variable {c : Cx} {A : Around} {G h : Heap} {g : Gs} {env : Env} {L : Addr} {f : Fm} {l : List (Addr × Obj)}
noncomputable abbrev itO (p : Addr) (i : Nat) : Obj:={ cls:=.type "list_iterator", data:=.fields #[.ref p, .int i 0] }
end
end
section
variable {Np : Addr -> Prop}
noncomputable def pairUp : List (List Nat) -> List Pr
 | a :: b :: r=>(a, b) :: pairUp r
 | _=>[]
noncomputable def partsOf (x : List Nat) : List (List Nat):=if (reSplit (x.length + 1) x).headD [] ≠ [] then [] :: reSplit (x.length + 1) x else (reSplit (x.length + 1) x).tail
noncomputable def chunksOf (x : List Nat) : List Pr:=pairUp (partsOf x)
noncomputable def foldA (room : Nat) (sp : List Nat) (cs : List Pr) : List Pr × List (List Nat):=cs.foldl (appendF room sp) ([], [])
theorem reSplit_odd : ∀ (n : Nat) (x : List Nat), ∃ k, (reSplit n x).length = 2 * k + 1
 | 0, x=>⟨0, rfl⟩
 | n + 1, x=>by
  unfold reSplit
  split
  ·exact ⟨0, rfl⟩
  ·obtain ⟨k, hk⟩:=reSplit_odd n (x.drop ((x.takeWhile fun c=>!isW c).length + ((x.drop (x.takeWhile fun c=>!isW c).length).takeWhile isW).length))
   exact ⟨k + 1, by simp only [lC, hk]; rfl⟩
theorem reSplit_flat : ∀ (n : Nat) (x : List Nat), (reSplit n x).flatten = x
 | 0, x=>by simp [reSplit]
 | n + 1, x=>by
  unfold reSplit
  split
  ·simp
  ·rw [fCo, fCo, reSplit_flat n, <- List.drop_drop]
   have e1 : x.takeWhile (fun c=>!isW c) = x.take (x.takeWhile fun c=>!isW c).length:=List.prefix_iff_eq_take.mp (List.takeWhile_prefix _)
   have e2:=List.prefix_iff_eq_take.mp (List.takeWhile_prefix (l:=x.drop (x.takeWhile fun c=>!isW c).length) isW)
   have e3 : List.takeWhile isW (List.drop (List.takeWhile (fun c=>!isW c) x).length x) ++ List.drop (List.takeWhile isW (List.drop (List.takeWhile (fun c=>!isW c) x).length x)).length (List.drop (List.takeWhile (fun c=>!isW c) x).length x) = List.drop (List.takeWhile (fun c=>!isW c) x).length x:=by
    conv=>lhs; arg 1; rw [e2]
    exact List.take_append_drop _ _
   rw [e3]
   conv=>lhs; arg 1; rw [e1]
   exact List.take_append_drop _ _
theorem partsOf_flat (x : List Nat) : (partsOf x).flatten = x:=by
 unfold partsOf
 have e:=reSplit_flat (x.length + 1) x
 split
 ·simpa using e
 ·rename_i h
  obtain ⟨k, hk⟩:=reSplit_odd (x.length + 1) x
  cases hs : reSplit (x.length + 1) x with
  | nil=>rw [hs] at hk; simp at hk
  | cons a r =>
   rw [hs] at h e
   have : a = []:=by simpa using h
   subst this
   simpa using e
theorem partsOf_even (x : List Nat) : ∃ k, (partsOf x).length = 2 * k:=by
 unfold partsOf
 obtain ⟨k, hk⟩:=reSplit_odd (x.length + 1) x
 split
 ·exact ⟨k + 1, by simp [hk]; rfl⟩
 ·exact ⟨k, by simp [hk]⟩
theorem pairUp_len : ∀ (k : Nat) (l : List (List Nat)), l.length = 2 * k -> (pairUp l).length = k
 | 0, [], _=>rfl
 | k + 1, a :: b :: r, h=>by
  have:=pairUp_len k r (by simp at h; lia)
  simp [pairUp, this]
 | k + 1, [a], h=>by simp at h; lia
 | k + 1, [], h=>by simp at h
 | 0, a :: r, h=>by simp at h
theorem pairUp_get (i : Nat) : ∀ (l : List (List Nat)) (a b : List Nat), l[2 * i]? = some a -> l[2 * i + 1]? = some b -> (pairUp l)[i]? = some (a, b):=by
 induction i with
 | zero =>
  intro l a b h1 h2
  rcases l with _ | ⟨a', _ | ⟨b', r⟩⟩
  ·simp at h1
  ·simp at h2
  ·simp at h1 h2; subst h1 h2; rfl
 | succ i ih =>
  intro l a b h1 h2
  rcases l with _ | ⟨a', _ | ⟨b', r⟩⟩
  ·simp at h1
  ·simp at h2
  have:=ih r a b (by rw [show 2 * (i + 1) = 2 * i + 2 by rfl] at h1; simpa using h1) (by rw [show 2 * (i + 1) + 1 = 2 * i + 1 + 2 by rfl] at h2; simpa using h2)
  simpa [pairUp] using this
theorem total_pairUp : ∀ l : List (List Nat), total (pairUp l) <= l.flatten.length
 | []=>by simp [pairUp, total]
 | [a]=>by simp [pairUp, total]
 | a :: b :: r=>by
  have:=total_pairUp r
  simp only [pairUp, total, mpC, List.sum_cons, fCo, lA, prLen] at this ⊢
  lia
theorem total_drop (xs : List Pr) (k : Nat) : total (xs.drop k) <= total xs:=by
 induction xs generalizing k with
 | nil=>simp
 | cons a as ih=>cases k with
  | zero=>simp
  | succ k=>have:=ih k; simp only [total, List.drop_succ_cons, mpC, List.sum_cons] at this ⊢; lia
theorem total_snoc (xs : List Pr) (p : Pr) : total (xs ++ [p]) = total xs + prLen p:=by simp [total]
theorem appendF_le (room : Nat) (sp : List Nat) (st : List Pr × List (List Nat)) (p : Pr) : total (appendF room sp st p).1 <= total st.1 + prLen p /\ (appendF room sp st p).1.length <= st.1.length + 1 /\ (appendF room sp st p).2.length <= st.2.length + 1:=by
 have et : total (st.1 ++ [p]) = total st.1 + prLen p:=by simp [total]
 unfold appendF
 split
 ·split
  ·rename_i i _
   have:=total_drop (st.1 ++ [p]) i
   exact ⟨lT this (Nat.le_of_eq et), by simp <;> lia, by simp⟩
  ·exact ⟨Nat.le_of_eq et, by simp, by simp⟩
 ·exact ⟨Nat.le_of_eq et, by simp, by simp⟩
theorem foldA_le (room : Nat) (sp : List Nat) (cs : List Pr) : ∀ i, i <= cs.length -> total (foldA room sp (cs.take i)).1 <= total (cs.take i) /\ (foldA room sp (cs.take i)).1.length <= i /\ (foldA room sp (cs.take i)).2.length <= i
 | 0, _=>by simp [foldA, total]
 | i + 1, h=>by
  have ih:=foldA_le room sp cs i (by exact lO (by assumption))
  have e : cs.take (i + 1) = cs.take i ++ [cs[i]]:=by rw [List.take_add_one, gE (by assumption)]; rfl
  have ef : foldA room sp (cs.take (i + 1)) = appendF room sp (foldA room sp (cs.take i)) cs[i]:=by unfold foldA; rw [e, List.foldl_append]; rfl
  have et : total (cs.take (i + 1)) = total (cs.take i) + prLen cs[i]:=by rw [e, total_snoc]
  have:=appendF_le room sp (foldA room sp (cs.take i)) cs[i]
  rw [ef, et]
  exact ⟨lT this.1 (Nat.add_le_add_right ih.1 _), lT this.2.1 (Nat.succ_le_succ ih.2.1), lT this.2.2 (Nat.succ_le_succ ih.2.2)⟩
theorem W.exprAny {c : Cx} {A : Around} {h : Heap} {g : Gs} {env : Env} {e : Expr} {pos : Pos} {Q : PF} (y : W c A (eval e env) (fun _=>Q .next) h g)
  (hi : interactive env = false:=by kernel_rfl) (hs : swapsWith e none pos.line env = Pure.pure false:=by kernel_rfl) : W c A (exec (.Expr e pos) env) Q h g :=
 fun tk=>wpAny_Expr_any (y tk) hi hs
theorem plain_pattern : PlainAttrs "re.Pattern":=⟨⟨_, (by rw [typeLookup_type, builtinLookup_eq_fast]; kernel_rfl : typeLookup (.type "re.Pattern") "__getattribute__" = Pure.pure (some (.builtin "object.__getattribute__"))), by decide +kernel⟩, by rw [typeLookup_type, builtinLookup_eq_fast]; kernel_rfl⟩
theorem W.mRe {c : Cx} {A : Around} {h : Heap} {g : Gs} {G : Heap} {pl : Sem Bool} {Q : Value × List Value -> Heap -> Gs -> Prop} (X : TopIn c.w.params G) (S : Sub G h) (y : Q (.builtin "re.Pattern.split", [.ref 43]) h g) : W c A (getMethod (.ref 43) "split" pl) Q h g:=fun tk=>by
 have e:=(X.keeps S) 43 (o43 c.w.params) (by kernel_rfl)
 exact getMethod_builtin (s:=⟨h, g, c.d, tk, c.os⟩) ⟨_, e, by kernel_rfl⟩ plain_pattern slot_split type_split (fun a q=>by cases q; exact ⟨_, e, by kernel_rfl⟩) ⟨rfl, rfl, y⟩
theorem W.mList {c : Cx} {A : Around} {h : Heap} {g : Gs} {a : Addr} {vs : List Value} {n : Nat} {name : Str} {id : String} {pl : Sem Bool} {Q : Value × List Value -> Heap -> Gs -> Prop} (slot : Slot "list" name id) (ty : typeOf (.builtin id) = Pure.pure (.type "method_descriptor")) (e : h.get? a = some (lst vs n)) (y : Q (.builtin id, [.ref a]) h g) : W c A (getMethod (.ref a) name pl) Q h g:=fun tk =>
 getMethod_builtin (s:=⟨h, g, c.d, tk, c.os⟩) ⟨_, e, rfl⟩ PySem.F.plainAttrs_list slot ty (fun _ q=>by cases q; exact ⟨_, e, rfl⟩) ⟨rfl, rfl, y⟩
end
section
open Builtin
variable {Np : Addr -> Prop}
section
variable {c : Cx} {A : Around} {G h : Heap} {g : Gs} {env : Env} {L : Addr} {f : Fm} {l : List (Addr × Obj)}
theorem W.forZipSH {x y : Str} {px py pt : Pos} {x1 : Nat} {body orelse : List Stmt} {Q : PF} {I a : Addr} {vs : List Value} {m k : Nat} (hh : A.handled = none) (D : Led G L h f ((I, itO a 0) :: l)) (ea : G.get? a = some (lst vs m)) (hk : vs.length = 2 * k)
  (inv : Nat -> Fm -> List (Addr × Obj) -> Gs -> Prop) (i0 : inv 0 f l g) (K : (Addr -> Prop) -> Nat -> List (Addr × Obj) -> Heap -> Prop) (k0 : ∀ Np h', K Np 0 l h') (kmv : ∀ (wr : List Addr) i l h h', K (· ∈ wr) i l h -> (∀ b o, b ∉ wr -> h.get? b = some o -> h'.get? b = some o) -> K (· ∈ wr) i l h')
  (turn : ∀ Np i v0 v1 G' h f l g, vs[2 * i]? = some v0 -> vs[2 * i + 1]? = some v1 -> Sub G G' -> inv i f l g -> Led G' L h f l -> K Np i l h -> (∀ b o, h.get? b = some o -> b ≠ L -> b ∉ l.map (·.1) -> G'.get? b = some o) -> NpIn Np G' ->
   W c A (storeName env x v0) (fun _ h1 g1=>W c A (storeName env y v1) (fun _ h2 g2=>W c A (execs body env) (fun fl h3 g3=>match fl with
   | .next | .cont=>∃ f' l', Led G' L h3 f' l' /\ inv (i + 1) f' l' g3 /\ K Np (i + 1) l' h3
   | .brk=>Q .next h3 g3
   | .ret v=>Q (.ret v) h3 g3) h2 g2) h1 g1) h g)
  (done : ∀ Np h f l g, inv k f l g -> Led G L h f l -> K Np k l h -> W c A (execs orelse env) Q h g)
  (he : (assignEach [.Name x px, .Name y py] env).map (·.2) = [PySem.assign (.Name x px) env, PySem.assign (.Name y py) env]:=by kernel_rfl)
  (hn : (assignEach [.Name x px, .Name y py] env).length = 2:=by kernel_rfl) (hstar : (assignEach [.Name x px, .Name y py] env).findIdx? (·.1) = none:=by kernel_rfl) :
  W c A (call (.type "zip") [.ref I, .ref I]) (fun v h1 g1=>W c A (pyIter v) (fun it h2 g2=>WF c A (.forLoop (.Tuple [.Name x px, .Name y py] x1 pt) it body orelse env) Q h2 g2) h1 g1) h g:=fun tk=>by
 have eI:=D.get (.head _)
 have hI : h.IsListIter I a 0:=⟨_, eI, rfl, rfl⟩
 refine callType_new F.called_zip (by decide) (F.typeCall_zip_2 _ _) (F.newCall_zip_2 _ _) (fun obj=>F.args_object_init_3 obj _ _) F.entry_zip_new (meets_zs I a 0) ⟨hI, ?_⟩
 show _ /\ _
 have s1 : (zsH1 h I).objs.size = h.objs.size + 1:=Heap.size_push ..
 have s2 : (zsH2 h I).objs.size = h.objs.size + 2:=by rw [Heap.size_push, s1]
 have g3 : (zsH3 h I).get? (zsH2 h I).objs.size = some _:=Heap.get?_push_size _ rfl
 have g2 : (zsH3 h I).get? (zsH1 h I).objs.size = some _:=hpo _ (Heap.get?_push_size _ rfl)
 have g1 : (zsH3 h I).get? h.objs.size = some _:=hpo _ (hpo _ (Heap.get?_push_size _ rfl))
 have up : ∀ b o, h.get? b = some o -> (zsH3 h I).get? b = some o:=fun b o e=>hpo _ (hpo _ (hpo _ e))
 rw [s2] at g3
 rw [s1] at g2 g3
 rw [s2]
 refine ⟨⟨_, g3, rfl⟩, rfl, rfl, ?_⟩
 show W c A (pyIter (.ref (h.objs.size + 2))) _ (zsH3 h I) g
 intro tk2
 have z3 : IsZip (zsH3 h I) (h.objs.size + 2) h.objs.size (h.objs.size + 1) .none:=g3
 refine wpAny_pyIter_zip z3 ⟨rfl, rfl, ?_⟩
 have D3:=D.grow up
 have D4 : Led G L (zsH3 h I) f l:=D3.drop (List.sublist_cons_self _ _)
 have la : a < h.objs.size:=Heap.lt_size (D.sub _ _ ea)
 have lI : I < h.objs.size:=Heap.lt_size eI
 have nI:=D.nw (I, itO a 0) (.head _)
 have ndI : I ∉ l.map (·.1):=by have:=D.nd; rw [mpC] at this; exact (List.nodup_cons.mp this).1
 have nin : a ≠ L /\ a ∉ l.map (·.1):=by
  constructor
  ·intro z
   have:=D.lo
   rw [<- z, ea] at this; cases this
  ·intro mm
   refine xea (lmm mm) fun p hp z=>?_
   have:=(D.nw p (.tail _ hp)).2.2
   rw [z, ea] at this; cases this
 have new : ∀ q, h.objs.size <= q -> q ≠ L /\ q ∉ l.map (·.1) /\ G.get? q = none:=fun q ge=>⟨Nat.ne_of_gt (lLt D.ns.lt ge), fun mm=>by
   refine xea (lmm mm) fun p hp e=>?_
   exact absurd (e ▸ D.lt (.tail _ hp)) (Nat.not_lt.mpr ge), D.sub.none (fresh_ge ge)⟩
 have aI : a ≠ I:=by
  intro z
  have:=nI.2.2
  rw [<- z, ea] at this; cases this
 refine WF.pairsH hh (zs_walks hh (h.objs.size + 2) h.objs.size (h.objs.size + 1) I a ⟨?_, ?_, ?_, ?_, ?_, ?_, ?_, ?_, ?_⟩ vs.toArray k (by simpa using hk)) (fun i v0 v1=>vs[2 * i]? = some v0 /\ vs[2 * i + 1]? = some v1) (fun i vals ⟨v0, v1, q1, q2, q3⟩=>⟨v0, v1, q3, by simpa using q1, by simpa using q2⟩) D4
  ⟨z3, g1, ⟨_, _, g2⟩, ⟨_, D3.get (.head _), rfl, rfl⟩, isList_lst (D4.sub _ _ ea)⟩ (fun i h st q hq=>?_) (fun q hq=>?_) (fun q hq=>?_) inv i0 (K (· ∈ [h.objs.size + 2, h.objs.size + 1, I])) (k0 _ _) (kmv _) (fun i v0 v1 G' h' f l g hi hP S hv D kk KR hf=>turn _ i v0 v1 G' h' f l g hP.1 hP.2 S hv D kk KR (fun b hb=>hf b (by simp only [List.mem_cons, List.not_mem_nil, or_false] at hb ⊢; rcases hb with rfl | rfl | rfl <;> simp))) (fun h' f l g i D kk=>done _ h' f l g i D kk) he hn hstar
 ·exact Nat.ne_of_lt (show h.objs.size < h.objs.size + 2 by simp)
 ·exact Nat.ne_of_lt (show h.objs.size + 1 < h.objs.size + 2 by simp)
 ·exact Nat.ne_of_lt (show I < h.objs.size + 2 from lLt lI (by simp))
 ·exact Nat.ne_of_lt (show h.objs.size < h.objs.size + 1 by simp)
 ·exact Nat.ne_of_gt lI
 ·exact Nat.ne_of_gt (Nat.lt_succ_of_lt lI)
 ·exact Nat.ne_of_lt (show a < h.objs.size + 2 from lLt la (by simp))
 ·exact Nat.ne_of_lt (Nat.lt_succ_of_lt la)
 ·exact aI
 ·refine xa4 st fun s1 s2 z92 z93 z94=>?_; refine xe2 z92 fun _ _ s3=>?_; obtain ⟨o4, s4, _⟩:=z93; obtain ⟨o5, s5, _⟩:=z94
  simp only [List.mem_cons, List.not_mem_nil, or_false] at hq
  rcases hq with rfl | rfl | rfl | rfl | rfl
  ·exact ⟨_, s1⟩
  ·exact ⟨_, s2⟩
  ·exact ⟨_, s3⟩
  ·exact ⟨_, s4⟩
  ·exact ⟨_, s5⟩
 ·simp only [List.mem_cons, List.not_mem_nil, or_false] at hq
  rcases hq with rfl | rfl | rfl | rfl | rfl
  ·exact ⟨(new _ (Nat.le_add_right _ _)).1, (new _ (Nat.le_add_right _ _)).2.1⟩
  ·exact ⟨(new _ (Nat.le_refl _)).1, (new _ (Nat.le_refl _)).2.1⟩
  ·exact ⟨(new _ (Nat.le_add_right _ _)).1, (new _ (Nat.le_add_right _ _)).2.1⟩
  ·exact ⟨nI.2.1, ndI⟩
  ·exact nin
 ·simp only [List.mem_cons, List.not_mem_nil, or_false] at hq
  rcases hq with rfl | rfl | rfl
  ·exact (new _ (Nat.le_add_right _ _)).2.2
  ·exact (new _ (Nat.le_add_right _ _)).2.2
  ·exact nI.2.2
theorem Tups.into {vs : List Value} {xs : List Pr} (x : Tups Np h vs xs) (D : Led G L h f l) (hr : ∀ p ∈ l, ∀ xs n, p.2.data = .seq xs n -> p.2.cls ≠ .type "tuple") (KR : ∀ b o, h.get? b = some o -> b ≠ L -> b ∉ l.map (·.1) -> G.get? b = some o) : Tups Np G vs xs:=by
 have nt:=D.notTup hr
 induction x with
 | nil=>exact .nil
 | cons a _ ih =>
  obtain ⟨b, t, u, e, ⟨o, eo, r⟩, nn⟩:=a
  refine xae (id r) fun r1 k r2=>?_
  exact .cons ⟨b, t, u, e, ⟨o, KR b o eo (fun q=>nt b (q ▸ .head _) o eo _ _ r2 r1) (fun q=>nt b (.tail _ q) o eo _ _ r2 r1), r⟩, nn⟩ ih
theorem Tups.move {h' : Heap} {wr : List Addr} {vs : List Value} {xs : List Pr} (x : Tups (· ∈ wr) h vs xs) (k : ∀ b o, b ∉ wr -> h.get? b = some o -> h'.get? b = some o) : Tups (· ∈ wr) h' vs xs:=by
 induction x with
 | nil=>exact .nil
 | cons a _ ih =>
  obtain ⟨b, t, u, e, ⟨o, eo, r⟩, nn⟩:=a
  exact .cons ⟨b, t, u, e, ⟨o, k b o nn eo, r⟩, nn⟩ ih
end
end
section
variable {Np : Addr -> Prop}
section
variable {c : Cx} {A : Around} {G h : Heap} {g : Gs} {L mk dk y dy la : Addr} {fd : Fm} {vs : List Value} {n : Nat} {od : Obj} {ps qs : Array Value} {vl : List Value} {ml : Nat}
theorem Tups.forget {h : Heap} {vs : List Value} {xs : List Pr} (x : Tups Np h vs xs) : Tups (fun _=>False) h vs xs:=by
 induction x with
 | nil=>exact .nil
 | cons a _ ih =>
  obtain ⟨b, t, u, e, r, nn⟩:=a
  exact .cons ⟨b, t, u, e, r, id⟩ ih
inductive SpF (s0 s1 : Option Value) (mk p : Addr) (g : Gs) (i : Nat) : Fm -> List (Addr × Obj) -> Gs -> Prop
 | mk {g' : Gs} {l : List (Addr × Obj)} (_ : AllBare g -> AllBare g') (s2 s5 : Option Value) : SpF s0 s1 mk p g i [("splitchars", s0), ("string", s1), ("fws", s2), ("self", some (.ref mk)), ("parts", some (.ref p)), ("part", s5)] l g'
inductive SpK (y dy la : Addr) (room : Nat) (sp x : List Nat) (Np : Addr -> Prop) (i : Nat) (l : List (Addr × Obj)) (h : Heap) : Prop
 | mk (vs : List Value) (n : Nat) (od : Obj) (ps qs : Array Value) (vl : List Value) (ml : Nat) (_ : l = FmtL y dy la vs n od ps qs vl ml) (_ : AccF od ps qs) (_ : Tups Np h vs (foldA room sp ((chunksOf x).take i)).1) (_ : Ss vl (foldA room sp ((chunksOf x).take i)).2)
set_option maxHeartbeats 1000000 in
theorem sp_for {x sp : List Nat} {s0 s1 s2 : Option Value} {p : Addr} {vp : List Value} {mp room : Nat} {t1 t4 : Tok} {Q : PF} (X : TopIn c.w.params G) (FG : FmtG G mk dk fd)
  (hcl : fm fd (Str.ofString "_current_line") = some (.ref y)) (hli : fm fd (Str.ofString "_lines") = some (.ref la)) (hmx : fm fd (Str.ofString "_maxlen") = some (.int room t1)) (hsp : fm fd (Str.ofString "_splitchars") = some (.str (T sp) t4)) (hs1 : sp.length <= 1) (hna : fm fd (Str.ofString "_append_chunk") = none)
  (ep : G.get? p = some (lst vp mp)) (hS : Ss vp (partsOf x)) (hx : x.length <= 10000)
  (D : Led G L h [("splitchars", s0), ("string", s1), ("fws", s2), ("self", some (.ref mk)), ("parts", some (.ref p)), ("part", none)] (FmtL y dy la vs n od ps qs vl ml)) (F : AccF od ps qs) (TT : Tups Np G vs []) (Z : Ss vl []) (r : Room A 9)
  (k : ∀ h' g', Sub G h' -> FmtI (fun _=>False) G h' y dy la (foldA room sp (chunksOf x)).1 (foldA room sp (chunksOf x)).2 -> (AllBare g -> AllBare g') -> Q .next h' g') :
  W c A (execs ((bodyOf (subSt 6 7)).drop 2) (callEnv (fdOf (o106 c.w.params)) L 106)) Q h g:=by
 refine xe (partsOf_even x) fun kk hkk=>?_
 have hvl : vp.length = 2 * kk:=by rw [hS.len]; exact hkk
 have hcl2 : (chunksOf x).length = kk:=pairUp_len kk _ hkk
 have htot : total (chunksOf x) <= x.length:=by have:=total_pairUp (partsOf x); rw [partsOf_flat] at this; exact this
 walk_at "x"
 walk_at "k"
 refine W.for_ ?_
 refine W.call_ ?_
 refine W.blt (x:=Str.ofString "zip") (v:=.type "zip") X D (by kernel_rfl) ?_
 refine W.callStarT X D ?_
 walk_at "S"
 walk_at "D"
 refine W.iterL D (D.sub _ _ ep) fun h2 I D2=>?_
 walk_at "S"
 refine W.newl D2 (by simp [sE]) fun h3 d1 D3=>?_
 walk_at "S"
 refine W.mul2 D3 (D3.get (.head _)) fun h4 d2 D4=>?_
 refine ⟨d2, _, _, _, rfl, by simp, D4, .head _, fun h5 D5=>?_⟩
 have D6:=D5.drop (l':=(I, itO p 0) :: FmtL y dy la vs n od ps qs vl ml) (.cons _ (.cons _ (List.Sublist.refl _)))
 have hv0 : vs = []:=by cases TT; rfl
 have hl0 : vl = []:=by have:=Z.len; simpa using this
 subst hv0 hl0
 clear D2 D3 D4 D5 D
 refine W.forZipSH r.hh D6 ep hvl (SpF s0 s1 mk p g)
  ⟨id, _, _⟩ (SpK y dy la room sp x)
  (fun Np h'=>⟨_, _, _, _, _, _, _, rfl, F, .nil, .nil⟩) (fun wr i l h h' ⟨vs, n, od, ps, qs, vl, ml, a, b, c, d⟩ k=>⟨vs, n, od, ps, qs, vl, ml, a, b, c.move k, d⟩) ?_ ?_
 ·intro Nz i v0 v1 G' h f l g' q0 q1 SG z2r12 D z2r14 KR hN; obtain ⟨hb, s2', s5'⟩:=z2r12; obtain ⟨vs, n, od, ps, qs, vl, ml, rfl, F, TTh, Z⟩:=z2r14
  have TT:=TTh.into D (F.notTup (r:=[(la, lst vl ml)]) rfl) KR
  refine xe2a (hS.get q0) fun a ta ea e33=>?_; obtain rfl:=e33
  refine xe2a (hS.get q1) fun b tb eb e43=>?_; obtain rfl:=e43
  have ec : (chunksOf x)[i]? = some (a, b):=pairUp_get i _ a b ea eb
  have hi : i < (chunksOf x).length:=(List.getElem?_eq_some_iff.mp ec).1
  refine xa2 (foldA_le room sp (chunksOf x) i (by exact lO (by assumption))) fun b1 b2 b3=>?_
  have ek : (chunksOf x).take (i + 1) = (chunksOf x).take i ++ [(a, b)]:=by rw [List.take_add_one, ec]; rfl
  have ef : foldA room sp ((chunksOf x).take (i + 1)) = appendF room sp (foldA room sp ((chunksOf x).take i)) (a, b):=by unfold foldA; rw [ek, List.foldl_append]; rfl
  have et : total ((chunksOf x).take (i + 1)) = total ((chunksOf x).take i) + prLen (a, b):=by rw [ek, total_snoc]
  have et2:=total_le (chunksOf x) (i + 1)
  have hkx : kk <= 10003:=by
   have h1:=reSplit_len (x.length + 1) x
   have h2 : (partsOf x).length <= (reSplit (x.length + 1) x).length + 1:=by
    unfold partsOf
    split
    ·simp
    ·rw [List.length_tail]; exact lT (Nat.sub_le _ _) (Nat.le_succ _)
   lia
  refine W.wr D (.there (.there .here)) fun h6 D7=>?_
  refine W.wr D7 (.there (.there (.there (.there (.there .here))))) fun h7 D8=>?_
  clear D D7 D6
  walk_at "X"
  have X':=X.keeps SG
  walk_at "k"
  refine W.expr ?_
  refine W.meth ?_
  refine W.rd D8 (.there (.there (.there .here))) ?_
  refine W.fmeth (fa:=113) X' D8.sub (FG.keeps SG) hna ?_
  refine xea3 (Led.lendF (r:=[]) (by rw [apN]; exact D8) F TT Z rfl) fun G2 c1 c2 c3 c4=>?_
  refine W.callF1 (o:=o113 c.w.params) X' ?_ (by kernel_rfl) (by kernel_rfl)
  refine W.spl ?_
  refine W.rd D8 (.there (.there .here)) ?_
  refine W.spl ?_
  refine W.rd D8 (.there (.there (.there (.there (.there .here))))) ?_
  refine W.spl0 ?_
  refine ⟨D8.sub, append_spec (X'.keeps c2) c1 ((FG.keeps SG).keeps c2) hcl hli hmx hsp hs1 c3 (r.less (by simp)) (lT (Nat.add_le_add_right b1 _) (lT (Nat.le_of_eq et.symm) (lT et2 (lT htot (lT hx (by decide)))))) (lT (Nat.add_le_add_right b2 1) (lT hi (lT (Nat.le_of_eq hcl2) (lT hkx (by decide))))) (lT b3 (lT (lO hi) (lT (Nat.le_of_eq hcl2) (lT hkx (by decide))))) (hN.keeps c2) fun h9 g9 S9 I9 b9=>⟨rfl, ?_⟩⟩
  refine xe8a4 (c4 _ _ _ S9 I9) fun G3 vs3 n3 od3 ps3 qs3 vl3 ml3 d1 D9 F9 TT9 Z9=>?_
  walk_at "n"
  rw [apN] at D9
  exact ⟨_, _, D9.base d1, ⟨fun q=>b9 (hb q), _, _⟩, vs3, n3, od3, ps3, qs3, vl3, ml3, rfl, F9, by rw [ef]; exact TT9.keeps D9.sub, by rw [ef]; exact Z9⟩
 ·intro Nz h f l g' z8r5 D z8r7; obtain ⟨hb, s2', s5'⟩:=z8r5; obtain ⟨vs, n, od, ps, qs, vl, ml, rfl, F, TTh, Z⟩:=z8r7
  walk_at "n"
  walk_at "n"
  have ea : (chunksOf x).take kk = chunksOf x:=List.take_of_length_le (by lia)
  rw [ea] at TTh Z
  walk_at "n"
  exact k h g' D.sub ⟨vs, n, od, ps, qs, vl, ml, D.own, F, TTh.forget, Z⟩ hb
end
end
theorem litNone : (Str.ofString "").cps.toList = []:=by kernel_rfl
theorem pre_set {c : Cx} {A : Around} {G h : Heap} {g : Gs} {L : Addr} {f : Fm} {p z : Addr} {l : List (Addr × Obj)} {l' : Nat -> List (Addr × Obj)} {vs zs : List Value} {n m0 : Nat} {t : Tok} {Q : Unit -> Heap -> Gs -> Prop} (D : Led G L h f l) (cg : ∀ m, Chg p (lst (zs ++ vs) m) l (lst vs n) (l' m)) (ez : (z, lst zs m0) ∈ l) (hne : p ≠ z) (h1 : vs.length <= 100000) (h2 : zs.length <= 100000)
  (q : ∀ h' m, Led G L h' f (l' m) -> Q () h' g) : W c A (setItem (.ref p) (.ref h.objs.size) (.ref z)) Q (h.push { cls:=.type "slice", data:=.fields #[.none, .int 0 t, .none] }) g:=by
 have D6:=D.grow (h':=h.push { cls:=.type "slice", data:=.fields #[.none, .int 0 t, .none] }) fun _ _ e=>hpo _ e
 exact W.setPre (D6.get (cg 0).old) (Heap.IsSliceOf.new _ _ _ _) (D6.get ez) hne h1 h2 fun h' m e k=>q h' m (D6.upd (cg m) e k)
set_option maxHeartbeats 1000000 in
theorem split_spec {c : Cx} {A : Around} {G h : Heap} {g : Gs} {mk dk y dy la : Addr} {fd : Fm} {x sp : List Nat} {t u w t1 t4 : Tok} {room : Nat} {sx : Value} {Q : PV} (X : TopIn c.w.params G) (S : Sub G h) (FG : FmtG G mk dk fd)
  (hcl : fm fd (Str.ofString "_current_line") = some (.ref y)) (hli : fm fd (Str.ofString "_lines") = some (.ref la)) (hmx : fm fd (Str.ofString "_maxlen") = some (.int room t1)) (hsp : fm fd (Str.ofString "_splitchars") = some (.str (T sp) t4)) (hs1 : sp.length <= 1) (hna : fm fd (Str.ofString "_append_chunk") = none)
  (hx : x.length <= 10000) (I : FmtI Np G h y dy la [] []) (r : Room A 10)
  (k : ∀ h' g', Sub G h' -> FmtI (fun _=>False) G h' y dy la (foldA room sp (chunksOf x)).1 (foldA room sp (chunksOf x)).2 -> (AllBare g -> AllBare g') -> Q .none h' g') : WC c A (.call (.ref 106) ⟨[.ref mk, .str (T []) t, .str (T x) u, sx], []⟩) Q h g:=by
 refine xe8a5 (I.open S) fun G1 vs n od ps qs vl ml S1 S2 O F TT Z=>?_
 replace X:=X.keeps S1
 replace FG:=FG.keeps S1
 clear S
 have S:=S2
 refine enterF (k:=9) 106 (o106 c.w.params) (bodyOf (subSt 6 7)) [("self", .ref mk), ("fws", .str (T []) t), ("string", .str (T x) u), ("splitchars", sx)] [Str.ofString "parts", Str.ofString "part"] [("splitchars", some (sx)), ("string", some (.str (T x) u)), ("fws", some (.str (T []) t)), ("self", some (.ref mk)), ("parts", none), ("part", none)] X S O r rfl (fun s _=>BindsTo.of_eq (by kernel_rfl)) ?_
 intro h₁ L D r' hL
 walk_at "x"
 walk_at "k"
 refine W.assignN (by decide) ?_
 refine W.meth ?_
 refine W.glob (x:=Str.ofString "_twin_re_1") (v:=.ref 43) X D (by kernel_rfl) ?_
 refine W.mRe X D.sub ?_
 refine W.callM1 ?_
 refine W.spl ?_
 refine W.binop ?_
 refine W.rd D (.there (.there .here)) ?_
 refine W.rd D (.there .here) ?_
 refine W.saddT (by rw [sE]; simp; exact lT hx (by decide)) fun t2=>?_
 rw [List.nil_append]
 refine W.spl0 ?_
 refine W.split X D (by exact lT hx (by decide)) fun h2 p vp D2 hS=>?_
 clear D
 refine W.wr D2 (.there (.there (.there (.there .here)))) fun h3 D3=>?_
 clear D2
 refine xe (reSplit_odd (x.length + 1) x) fun kk hkk=>?_
 have hlen:=hS.len
 have hle:=reSplit_len (x.length + 1) x
 obtain ⟨q0, qr, eq⟩ : ∃ a r, reSplit (x.length + 1) x = a :: r:=by
  cases e : reSplit (x.length + 1) x with
  | nil=>rw [e] at hkk; simp at hkk
  | cons a r=>exact ⟨a, r, rfl⟩
 have hfl:=reSplit_flat (x.length + 1) x
 have hq0 : q0.length <= x.length:=by rw [eq] at hfl; rw [<- hfl]; simp
 refine xe (hS.at (i:=0) (x:=q0) (by rw [eq]; rfl)) fun t0 et0=>?_
 walk_at "k"
 refine W.if_ ?_
 walk_at "S"
 rename Led _ _ _ _ _=>D3
 refine W.iteml (D3.get (.head _)) (by decide) (by decide) (v:=.str (T q0) t0) (by simpa using et0) ?_
 refine W.trs (by rw [sE]; lia) ?_
 refine ifSplit ?_ ?_ <;> intro hc
 ·have ep : partsOf x = [] :: reSplit (x.length + 1) x:=by
   unfold partsOf
   rw [if_pos]
   rw [eq]; simpa using hc
  walk_at "k"
  refine W.assignS ?_
  walk_at "S"
  refine W.newl ‹Led _ _ _ _ _› (by simp [sE]) fun h4 z D4=>?_
  walk_at "S"
  refine W.sl ?_
  walk_at "S"
  rename Led _ _ _ _ _=>D5
  walk_at "X"
  have hpz : p ≠ z:=fun e=>(List.nodup_cons.mp D5.nd).1 (e ▸ (.head _ : p ∈ p :: _))
  refine pre_set (l':=fun m=>(z, lst [_] 0) :: (p, lst ([_] ++ vp) m) :: FmtL y dy la vs n od ps qs vl ml) D5 (fun m=>.there .here) (.head _) hpz (by lia) (by simp) fun h7 m7 D7=>?_
  walk_at "n"
  have D8:=D7.drop (List.sublist_cons_self _ _)
  refine xea2 (Led.freeze (l1:=[]) D8) fun G9 S9 e9 D9=>?_
  have hS9 : ∀ tt, Ss ([.str (T (Str.ofString "").cps.toList) tt] ++ vp) (partsOf x):=fun tt=>by
   rw [ep, litNone]; exact Ss.cons hS
  refine sp_for (X.keeps S9) (FG.keeps S9) hcl hli hmx hsp hs1 hna e9 (hS9 _) hx D9 F (TT.keeps S9) Z r' fun h' g' S' I' b'=>by walk_at "n"; exact k h' g' (S1.trans (S9.trans S')) ((I'.base S9).base S1) b'
 ·have hq : q0 = []:=by simpa using hc
  subst hq
  have ep : partsOf x = qr:=by
   unfold partsOf
   rw [if_neg]
   ·rw [eq]; rfl
   ·rw [eq]; simp
  walk_at "k"
  refine W.exprAny ?_
  refine W.meth ?_
  refine W.rd D3 (.there (.there (.there (.there .here)))) ?_
  refine W.mList (name:=Str.ofString "pop") PySem.F.slot_list_pop PySem.F.type_list_pop (D3.get (.head _)) ?_
  refine W.callM1 ?_
  walk_at "S"
  rename Led _ _ _ _ _=>D5
  walk_at "X"
  obtain ⟨v0, vr, rfl⟩ : ∃ v0 vr, vp = v0 :: vr:=by
   cases vp with
   | nil=>rw [eq] at hlen; simp at hlen
   | cons a b=>exact ⟨a, b, rfl⟩
  have hSr : Ss vr (partsOf x):=by
   have:=hS.drop 1
   rw [ep]; rw [eq] at this; exact this
  refine W.pop0 (D5.get (.head _)) (by rw [lC] at hlen; lia) fun h7 m7 e7 k7=>?_
  have D7:=D5.upd .here e7 k7
  walk_at "n"
  refine xea2 (Led.freeze (l1:=[]) D7) fun G9 S9 e9 D9=>?_
  refine sp_for (X.keeps S9) (FG.keeps S9) hcl hli hmx hsp hs1 hna e9 hSr hx D9 F (TT.keeps S9) Z r' fun h' g' S' I' b'=>by walk_at "n"; exact k h' g' (S1.trans (S9.trans S')) ((I'.base S9).base S1) b'
section
variable {Np : Addr -> Prop}
theorem litSpc : (Str.ofString " ").cps.toList = [32]:=by kernel_rfl
theorem litNo : (Str.ofString "").cps.toList = []:=by kernel_rfl
noncomputable def okS (x : List Nat) : Prop:=∀ k ∈ x, k < 1114112
theorem strOk_T {x : List Nat} (h : okS x) : PyData.strOk (T x) = true:=by
 show x.toArray.all (· < 0x110000) = true
 rw [List.all_toArray, List.all_eq_true]
 intro k hk; simpa using h k hk
set_option maxHeartbeats 1000000 in
theorem newline_spec {c : Cx} {A : Around} {G h : Heap} {g : Gs} {mk dk y dy la : Addr} {fd : Fm} {xs : List Pr} {ls : List (List Nat)} {Q : PV} (X : TopIn c.w.params G) (S : Sub G h) (FG : FmtG G mk dk fd)
  (hcl : fm fd (Str.ofString "_current_line") = some (.ref y)) (hli : fm fd (Str.ofString "_lines") = some (.ref la)) (I : FmtI Np G h y dy la xs ls) (r : Room A 8)
  (hz : total xs <= 50000) (hxl : xs.length <= 40000) (hll : ls.length <= 100000) (hlm : ∀ x ∈ ls, x.length <= 50000) (hok : ∀ p ∈ xs, okS p.1 /\ okS p.2) (hN : NpIn Np G)
  (k : ∀ h' g', Sub G h' -> FmtI Np G h' y dy la [] (newl (fitted xs) ls) -> (AllBare g -> AllBare g') -> Q .none h' g') : WC c A (.call (.ref 78) ⟨[.ref mk], []⟩) Q h g:=by
 refine xe8a5 (I.open S) fun G1 vs n od ps qs vl ml S1 S2 O F TT Z=>?_
 replace X:=X.keeps S1
 replace FG:=FG.keeps S1
 replace hN:=hN.keeps S1
 clear S
 have S:=S2
 refine enterF (k:=7) 78 (o78 c.w.params) (bodyOf (subSt 6 3)) [("self", .ref mk)] [Str.ofString "end_of_line"] [("self", some (.ref mk)), ("end_of_line", none)] X S O r rfl (fun s _=>BindsTo.of_eq (by kernel_rfl)) ?_
 intro h₁ L D r' hL
 walk_at "x"
 walk_at "k"
 refine W.assignN (by decide) ?_
 refine W.meth ?_
 refine W.fa X D FG .here hcl rfl ?_
 refine xe (F.acc (r:=[(la, lst vl ml)]) D) fun t0 AC=>?_
 refine W.methA (fa:=160) X D.sub AC ?_
 refine xea3 (Led.lendA (r:=[(la, lst vl ml)]) D F TT rfl) fun G2 c1 c2 c3 c4=>?_
 refine W.callF0 (o:=o160 c.w.params) X D.sub ?_ (by kernel_rfl) (by kernel_rfl)
 refine pop_spec (X.keeps c2) c1 c3 (r'.less (by simp)) (by exact lT hxl (by decide)) (hN.keeps c2) fun h2 v S2 I2 T2=>?_
 refine xe6a4 (c4 _ _ S2 I2) fun G3 vs3 n3 od3 ps3 qs3 d1 D3 F3 TT3 d5=>?_
 have T3:=d5 [v] [_] (.cons T2 .nil)
 replace X:=X.keeps d1
 replace FG:=FG.keeps d1
 replace hN:=hN.keeps d1
 replace S1:=S1.trans d1
 clear D AC c4 d5 F TT S2 I2 c3 c1 c2
 walk_at "S"
 refine W.if_ ?_
 walk_at "S"
 refine W.newt ‹Led _ _ _ _ _› (by simp [sE]) fun h4 aT D4=>?_
 have hp : okS (xs.getLast?.getD ([], [])).1 /\ okS (xs.getLast?.getD ([], [])).2:=by
  cases e : xs.getLast? with
  | none=>exact ⟨fun _ h=>(nomatch h), fun _ h=>(nomatch h)⟩
  | some p=>exact hok p (List.mem_of_getLast? e)
 have T3' : Tup Np G3 v (xs.getLast?.getD ([], [])):=by cases T3 with | cons a _=>exact a
 refine W.netup (Nq:=fun _=>False) (q:=((Str.ofString " ").cps.toList, (Str.ofString "").cps.toList)) (T3'.keeps D4.sub) ⟨aT, _, _, rfl, ⟨tup _, D4.get (.head _), rfl, 0, rfl⟩, id⟩ (by have:=r'.units; lia) ⟨strOk_T hp.1, strOk_T hp.2, by kernel_rfl, by kernel_rfl⟩ ?_
 rw [litSpc, litNo]
 have D5:=D4.drop (List.sublist_cons_self _ _)
 clear D4
 walk_at "S"
 have hpl : prLen (xs.getLast?.getD ([], [])) <= total xs:=by
  cases e : xs.getLast? with
  | none=>simp [prLen]
  | some p=>exact prLen_le (List.mem_of_getLast? e)
 have htd : total xs.dropLast + (if xs = [] then 0 else prLen (xs.getLast?.getD ([], []))) = total xs:=by
  cases e : xs.getLast? with
  | none=>have:=List.getLast?_eq_none_iff.mp e; subst this; simp [total]
  | some p =>
   have hx : xs ≠ []:=by rintro rfl; simp at e
   rw [if_neg hx]
   have e2 : xs = xs.dropLast ++ [p]:=by
    rw [gL hx] at e
    rw [<- Option.some.inj e]; exact (List.dropLast_concat_getLast hx).symm
   conv=>rhs; rw [e2]
   simp [total]
 have htl : total xs.dropLast <= total xs:=by lia
 refine ifSplit ?_ ?_ <;> intro hc
 ·have hne : xs.getLast?.getD ([], []) ≠ ([32], []):=by simpa using hc
  have ef : fitted xs = xs.dropLast ++ [xs.getLast?.getD ([], [])]:=by unfold fitted; rw [if_neg hne]
  have ht : total (fitted xs) <= 50000:=by
   rw [ef]
   have : total (xs.dropLast ++ [xs.getLast?.getD ([], [])]) = total xs.dropLast + prLen (xs.getLast?.getD ([], [])):=by simp [total]
   rw [this]
   split at htd
   ·rename_i hx; subst hx; simp [prLen, total]
   ·lia
  rename Led _ _ _ _ _=>D5
  walk_at "X"
  walk_at "k"
  refine W.expr ?_
  refine W.methStar ?_
  refine W.fa X D5 FG .here hcl rfl ?_
  refine xe (F3.acc (r:=[(la, lst vl ml)]) D5) fun t0 AC=>?_
  refine W.bindL (fa:=144) X D5.sub AC ?_
  have D7:=D5.grow (h':=h4.push (methodObj (.ref 144) (.ref y))) fun _ _ e=>hpo _ e
  refine W.callStar X D7 (Heap.get?_push_size _ rfl) ?_
  refine W.rd D7 (.there .here) ?_
  obtain ⟨aV, tV, uV, rfl, hV, _⟩:=T3'
  refine ⟨rfl, rfl, xs.getLast?.getD ([], []), tV, uV, aV, rfl, ?_, fun h6 D6 k6=>?_⟩
  ·obtain ⟨o, eo, r⟩:=hV
   exact ⟨o, D7.sub _ _ eo, r⟩
  refine xea3 (Led.lendA (r:=[(la, lst vl ml)]) D6 F3 TT3 rfl) fun G2 c1 c2 c3 c4=>?_
  refine push_spec (X.keeps c2) c1 c3 (r'.less (by simp)) (by simp; exact lT hxl (by decide)) (hN.keeps c2) fun h7 S7 I7=>⟨rfl, ?_⟩
  refine xe6a4 (c4 _ _ S7 I7) fun G8 vs8 n8 od8 ps8 qs8 d8 D8 F8 TT8 _=>?_
  walk_at "n"
  refine nl_rest (X.keeps d8) (FG.keeps d8) hcl hli D8 F8 TT8 Z r' (by rw [<- ef]; omega) (by simp; exact lT hxl (by decide)) hll hlm fun h' g' S' I' b'=>by walk_at "n"; exact k h' g' (S1.trans (d8.trans S')) (by rw [ef]; exact (I'.base d8).base S1) b'
 ·have hne : xs.getLast?.getD ([], []) = ([32], []):=by simpa using hc
  have ef : fitted xs = xs.dropLast:=by unfold fitted; rw [if_pos hne]
  walk_at "n"
  rename Led _ _ _ _ _=>D5
  walk_at "X"
  refine nl_rest X FG hcl hli D5 F3 TT3 Z r' (by lia) (by simp; exact lT hxl (by decide)) hll hlm fun h' g' S' I' b'=>by walk_at "n"; exact k h' g' (S1.trans S') (by rw [ef]; exact I'.base S1) b'
end
set_option maxHeartbeats 1000000 in
theorem strF_spec {c : Cx} {A : Around} {G h : Heap} {g : Gs} {mk dk y dy la : Addr} {fd : Fm} {xs : List Pr} {ls : List (List Nat)} {sep : List Nat} {t : Tok} {Q : PV} (X : TopIn c.w.params G) (S : Sub G h) (FG : FmtG G mk dk fd)
  (hcl : fm fd (Str.ofString "_current_line") = some (.ref y)) (hli : fm fd (Str.ofString "_lines") = some (.ref la)) (hnl : fm fd (Str.ofString "newline") = none) (I : FmtI Np G h y dy la xs ls) (r : Room A 9)
  (hz : total xs <= 50000) (hxl : xs.length <= 40000) (hll : ls.length <= 100000) (hlm : ∀ x ∈ ls, x.length <= 50000) (hok : ∀ p ∈ xs, okS p.1 /\ okS p.2) (hN : NpIn Np G)
  (hj : ((newl (fitted xs) ls).map (·.length)).sum + (newl (fitted xs) ls).length * sep.length <= 16777216)
  (k : ∀ h' g' t xs' ls', Sub G h' -> FmtI Np G h' y dy la xs' ls' -> (AllBare g -> AllBare g') -> Q (.str (T (sep.intercalate (newl (fitted xs) ls))) t) h' g') : WC c A (.call (.ref 64) ⟨[.ref mk, .str (T sep) t], []⟩) Q h g:=by
 refine xe8a5 (I.open S) fun G1 vs n od ps qs vl ml S1 S2 O F TT Z=>?_
 replace X:=X.keeps S1
 replace FG:=FG.keeps S1
 replace hN:=hN.keeps S1
 clear S
 have S:=S2
 refine enterF (k:=8) 64 (o64 c.w.params) (bodyOf (subSt 6 1)) [("self", .ref mk), ("linesep", .str (T sep) t)] [] [("linesep", some (.str (T sep) t)), ("self", some (.ref mk))] X S O r rfl (fun s _=>BindsTo.of_eq (by kernel_rfl)) ?_
 intro h₁ L D r' hL
 walk_at "x"
 walk_at "k"
 refine W.exprAny ?_
 refine W.meth ?_
 refine W.rd D (.there .here) ?_
 refine W.fmeth (fa:=78) X D.sub FG hnl ?_
 refine xea3 (Led.lendF (r:=[]) (by rw [apN]; exact D) F TT Z rfl) fun G2 c1 c2 c3 c4=>?_
 refine W.callF0 (o:=o78 c.w.params) X D.sub ?_ (by kernel_rfl) (by kernel_rfl)
 refine newline_spec (X.keeps c2) c1 (FG.keeps c2) hcl hli c3 r' hz hxl hll hlm hok (hN.keeps c2) fun h9 g9 S9 I9 b9=>?_
 refine xe8a4 (c4 _ _ _ S9 I9) fun G3 vs3 n3 od3 ps3 qs3 vl3 ml3 d1 D9 F9 TT9 Z9=>?_
 rw [apN] at D9
 clear D
 walk_at "k"
 refine W.ret ?_
 refine W.meth ?_
 refine W.rd D9 .here ?_
 refine W.mStr (name:=Str.ofString "join") PySem.F.slot_str_join PySem.F.type_str_join ?_
 refine W.callM1 ?_
 refine W.spl ?_
 refine W.fa (X.keeps d1) D9 (FG.keeps d1) (.there .here) hli rfl ?_
 refine W.spl0 ?_
 refine W.join (D9.get (.tail _ (.tail _ (.tail _ (.tail _ (.head _)))))) Z9 hj fun t9=>?_
 walk_at "n"
 exact k h9 g9 t9 _ _ (S1.trans (d1.trans D9.sub)) ((Led.fmtI (r:=[]) (by rw [apN]; exact D9) F9 (TT9.keeps D9.sub) Z9).base (S1.trans d1)) b9
noncomputable abbrev fN : Fm:=[("_maxlen", none), ("_continuation_ws", none), ("_continuation_ws_len", none), ("_splitchars", none), ("_lines", none), ("_current_line", none)]
theorem emptyDict_of : DOf fN emptyDict:=⟨#[], 0, rfl, fun e he=>by simp at he, by unfold UniqKeys; simp, fun y=>by
 simp only [fN, fm]
 repeat (first | rfl | split)⟩
theorem attr_set {c : Cx} {A : Around} {G h : Heap} {g : Gs} {L : Addr} {f : Fm} {mk dk : Addr} {l : List (Addr × Obj)} {l' : Obj -> List (Addr × Obj)} {od : Obj} {fd fd' : Fm} {name : Str} {v : Value} {Q : Unit -> Heap -> Gs -> Prop} (X : TopIn c.w.params G) (D : Led G L h f l) (m1 : (mk, instObj 116 dk) ∈ l) (d : DOf fd od)
  (cg : ∀ od', Chg dk od' l od (l' od')) (hp : Put fd name v fd') (hz : fd'.length <= 1000) (q : ∀ h' od', Led G L h' f (l' od') -> DOf fd' od' -> Q () h' g) (hnm : namesOk (fd.map (·.1)) = true:=by kernel_rfl) (hn : takerIn (KM c.w.params) 116 name = some none:=by kernel_rfl) : W c A (setAttr (.ref mk) name v) Q h g :=
 W.setA X D.sub (cls116 _) (x:=mk) (dx:=dk) (ox:=instObj 116 dk) (od:=od) ⟨D.get m1, D.get (cg od).old, rfl, rfl, rfl⟩ d (hp.set hnm) hz hn fun h' od' d' e k=>q h' od' (D.upd (cg od') e k) d'
theorem W.callC {c : Cx} {A : Around} {G h : Heap} {g : Gs} {env : Env} {pos : Pos} {C : Addr} {e : Expr} {rest : List Expr} {Q : PV} (X : TopIn c.w.params G) (y : W c A (spliced (backTo pos (starEach (e :: rest) env))) (fun vs h1 g1=>Sub G h1 /\ W c A (call (.ref C) vs) Q h1 g1) h g) (S : Sub G h) (hk : keepIn (KM c.w.params) (.ref C) = true:=by kernel_rfl)
  (he : starEach (e :: rest) env = (false, eval e env) :: starEach rest env:=by kernel_rfl) (hplain : (backTo pos (starEach rest env)).any (·.1) = false:=by kernel_rfl) : W c A (callWith pos (.ref C) [] (backTo pos (starEach (e :: rest) env)) []) Q h g:=fun tk =>
 callWith_K (K:=KM c.w.params) (h₀:=h) (X.keeps S) hk (wM (y tk) (fun vs s z=>⟨X.keeps z.2.2.1, z.2.2.2.at z.1 z.2.1⟩) fun _ _ z=>z) he hplain
theorem Led.perm {G h : Heap} {L : Addr} {f : Fm} {l l' : List (Addr × Obj)} (D : Led G L h f l) (p : l.Perm l') : Led G L h f l' :=
 ⟨D.ns, D.sub, D.lo, fun q hq=>D.nw q (p.mem_iff.mpr hq), (p.map _).nodup_iff.mp D.nd, D.nm⟩
set_option maxHeartbeats 1000000 in
theorem vinit_spec {c : Cx} {A : Around} {G h : Heap} {g : Gs} {mk dk : Addr} {sp : List Nat} {room : Nat} {t0 t1 t2 t4 : Tok} {ps qs : Array Value} {Q : PV} (X : TopIn c.w.params G) (S : Sub G h) (O : Own G h [(mk, instObj 116 dk), (dk, emptyDict), (162, tabO ps), (169, tabO qs)]) (hp : TriplesOk ps.toList) (hq : TriplesOk qs.toList) (r : Room A 5)
  (k : ∀ h' y dy la od vs n od2 ps' qs' t3, Sub G h' -> Own G h' (AccL y dy vs n od2 ps' qs' ++ [(la, lst [] 0), (mk, instObj 116 dk), (dk, od)]) -> DOf (fF room t1 sp t2 t3 t4 la y) od -> AccF od2 ps' qs' -> Tups (fun _=>False) h' vs [] -> Q .none h' g) :
  WC c A (.call (.ref 57) ⟨[.ref mk, .int 0 t0, .int room t1, .str (T [32]) t2, .str (T sp) t4], []⟩) Q h g:=by
 refine enterF (k:=4) 57 (o57 c.w.params) (bodyOf (subSt 6 0)) [("self", .ref mk), ("headerlen", .int 0 t0), ("maxlen", .int room t1), ("continuation_ws", .str (T [32]) t2), ("splitchars", .str (T sp) t4)] [] [("splitchars", some (.str (T sp) t4)), ("continuation_ws", some (.str (T [32]) t2)), ("maxlen", some (.int room t1)), ("headerlen", some (.int 0 t0)), ("self", some (.ref mk))] X S O r rfl (fun s _=>BindsTo.of_eq (by kernel_rfl)) ?_
 intro h₁ L D r' hL
 walk_at "x"
 walk_at "k"
 refine W.assignA ?_
 walk_at "S"
 walk_at "D"
 refine attr_set (l':=fun od=>[(mk, instObj 116 dk), (dk, od), (162, tabO ps), (169, tabO qs)]) X D (.head _) emptyDict_of (fun _=>.there .here) .here (by simp) fun h2 o2 D2 d2=>?_
 clear D
 walk_at "k"
 refine W.assignA ?_
 walk_at "S"
 rename Led _ _ _ _ _=>D2
 refine attr_set (l':=fun od=>[(mk, instObj 116 dk), (dk, od), (162, tabO ps), (169, tabO qs)]) X D2 (.head _) d2 (fun _=>.there .here) (.there .here) (by simp) fun h3 o3 D3 d3=>?_
 clear D2
 walk_at "k"
 refine W.assignA ?_
 walk_at "S"
 rotate_left
 ·rw [sE]; decide
 rename Led _ _ _ _ _=>D3
 walk_at "X"
 refine attr_set (l':=fun od=>[(mk, instObj 116 dk), (dk, od), (162, tabO ps), (169, tabO qs)]) X D3 (.head _) d3 (fun _=>.there .here) (.there (.there .here)) (by simp) fun h4 o4 D4 d4=>?_
 clear D3
 walk_at "k"
 refine W.assignA ?_
 walk_at "S"
 rename Led _ _ _ _ _=>D4
 refine attr_set (l':=fun od=>[(mk, instObj 116 dk), (dk, od), (162, tabO ps), (169, tabO qs)]) X D4 (.head _) d4 (fun _=>.there .here) (.there (.there (.there .here))) (by simp) fun h5 o5 D5 d5=>?_
 clear D4
 walk_at "k"
 refine W.assignA ?_
 walk_at "S"
 rename Led _ _ _ _ _=>D5
 refine W.newl D5 (by simp [sE]) fun h6 la D6=>?_
 walk_at "S"
 rename Led _ _ _ _ _=>D6
 refine attr_set (l':=fun od=>[(la, lst [] 0), (mk, instObj 116 dk), (dk, od), (162, tabO ps), (169, tabO qs)]) X D6 (.tail _ (.head _)) d5 (fun _=>.there (.there .here)) (.there (.there (.there (.there .here)))) (by simp) fun h7 o7 D7 d7=>?_
 clear D5 D6
 walk_at "k"
 refine W.assignA ?_
 refine W.call_ ?_
 refine W.glob (x:=Str.ofString "_Accumulator") (v:=.ref 200) X D7 (by kernel_rfl) ?_
 refine W.callC X ?_ D7.sub
 refine W.spl ?_
 refine W.rd D7 (.there (.there (.there .here))) ?_
 refine W.spl0 ?_
 refine ⟨D7.sub, ?_⟩
 have D8 : Led G L h7 _ ([(162, tabO ps), (169, tabO qs)] ++ [(la, lst [] 0), (mk, instObj 116 dk), (dk, o7)]):=D7.perm (List.perm_append_comm (l₁:=[(la, lst [] 0), (mk, instObj 116 dk), (dk, o7)]) (l₂:=[(162, tabO ps), (169, tabO qs)]))
 refine xa3 D8.lend fun a1 a2 a3 a4=>?_
 refine newAcc_spec (Np:=fun _=>False) (X.keeps a3) a1 a2 hp hq (r'.less (by simp)) fun h9 y dy S9 I9=>?_
 obtain ⟨vs, n, od2, ps', qs', O9, F9, T9⟩:=I9
 have D9:=a4 _ _ S9 O9
 walk_at "S"
 rename Led _ _ _ _ _=>D9
 refine attr_set (l':=fun od=>AccL y dy vs n od2 ps' qs' ++ [(la, lst [] 0), (mk, instObj 116 dk), (dk, od)]) X D9 (.tail _ (.tail _ (.tail _ (.tail _ (.tail _ (.head _)))))) d7 (fun _=>.there (.there (.there (.there (.there (.there .here)))))) (.there (.there (.there (.there (.there .here))))) (by simp) fun h10 o10 D10 d10=>?_
 walk_at "n"
 exact k h10 y dy la o10 vs n od2 ps' qs' _ D10.sub D10.own d10 F9 (by cases T9; exact .nil)
section
open Builtin Builtin.ObjectAttr
theorem newVF_spec {c : Cx} {A : Around} {G h : Heap} {g : Gs} {sp : List Nat} {room : Nat} {t0 t1 t2 t4 : Tok} {ps qs : Array Value} {Q : PV} (X : TopIn c.w.params G) (S : Sub G h) (O : Own G h [(162, tabO ps), (169, tabO qs)]) (hp : TriplesOk ps.toList) (hq : TriplesOk qs.toList) (r : Room A 6)
  (k : ∀ h' mk dk y dy la od vs n od2 ps' qs' t3, Sub G h' -> Own G h' (AccL y dy vs n od2 ps' qs' ++ [(la, lst [] 0), (mk, instObj 116 dk), (dk, od)]) -> DOf (fF room t1 sp t2 t3 t4 la y) od -> AccF od2 ps' qs' -> Tups (fun _=>False) h' vs [] -> Q (.ref mk) h' g) :
  W c A (call (.ref 116) [.int 0 t0, .int room t1, .str (T [32]) t2, .str (T sp) t4]) Q h g:=fun tk=>by
 have Xh:=X.keeps S
 have Y:=makes_of (M:=model PW c.w) Xh (C:=116) (by kernel_rfl)
 refine wpAny_call (make_core Y (looks_findIn Xh (r:=some (.ref 57)) (by kernel_rfl)) (fun self=>bind_fn Xh self (by kernel_rfl)) (.inl (by decide)) ?_)
 have e1 : (Code.builtin "type.__call__" ⟨[.ref 116, .int 0 t0, .int room t1, .str (T [32]) t2, .str (T sp) t4], []⟩).weight = 1:=by kernel_rfl
 have e2 : (Code.builtin "type.__call__" ⟨[.ref 116, .int 0 t0, .int room t1, .str (T [32]) t2, .str (T sp) t4], []⟩).cUnits = 1:=by kernel_rfl
 have r2 : Room (A.under (.builtin "type.__call__" ⟨[.ref 116, .int 0 t0, .int room t1, .str (T [32]) t2, .str (T sp) t4], []⟩)) 5:=⟨by
  have:=r.depth
  show A.depth + (Code.builtin "type.__call__" ⟨[.ref 116, .int 0 t0, .int room t1, .str (T [32]) t2, .str (T sp) t4], []⟩).weight + 5 < _
  rw [e1]; omega, by
  have:=r.units
  show A.units + (Code.builtin "type.__call__" ⟨[.ref 116, .int 0 t0, .int room t1, .str (T [32]) t2, .str (T sp) t4], []⟩).cUnits + 10 * 5 < _
  rw [e2]; lia, r.hh⟩
 have k1 : ∀ b o, h.get? b = some o -> (h.push emptyDict).get? b = some o:=fun b o e=>hpo _ e
 have k2 : ∀ b o, (h.push emptyDict).get? b = some o -> ((h.push emptyDict).push (instObj 116 h.objs.size)).get? b = some o:=fun b o e=>hpo _ e
 have lt:=fun p hp=>Heap.lt_size (O.at_ p hp).1
 have hs : (h.push emptyDict).objs.size = h.objs.size + 1:=Heap.size_push ..
 have O2 : Own G ((h.push emptyDict).push (instObj 116 h.objs.size)) [(h.objs.size + 1, instObj 116 h.objs.size), (h.objs.size, emptyDict), (162, tabO ps), (169, tabO qs)]:=by
  refine ⟨fun p hp=>?_, ?_⟩
  ·simp only [List.mem_cons, List.not_mem_nil, or_false] at hp
   rcases hp with rfl | rfl | rfl | rfl
   ·refine ⟨?_, S.none (get_past (Nat.le_succ _))⟩
    have:=Heap.get?_push_size (h.push emptyDict) (o:=instObj 116 h.objs.size) rfl
    rwa [hs] at this
   ·exact ⟨k2 _ _ (Heap.get?_push_size _ rfl), S.none (get_past (Nat.le_refl _))⟩
   ·exact ⟨k2 _ _ (k1 _ _ (O.at_ _ (.head _)).1), (O.at_ _ (.head _)).2⟩
   ·exact ⟨k2 _ _ (k1 _ _ (O.at_ _ (.tail _ (.head _))).1), (O.at_ _ (.tail _ (.head _))).2⟩
  ·have l1:=lt (162, tabO ps) (.head _)
   have l2:=lt (169, tabO qs) (.tail _ (.head _))
   dsimp only at l1 l2
   simp only [mpC, List.map_nil, List.nodup_cons, List.mem_cons, List.not_mem_nil, or_false, not_or, not_false_eq_true, List.nodup_nil, and_true]
   exact ⟨⟨Nat.succ_ne_self _, Nat.ne_of_gt (Nat.lt_succ_of_lt l1), Nat.ne_of_gt (Nat.lt_succ_of_lt l2)⟩, ⟨Nat.ne_of_gt l1, Nat.ne_of_gt l2⟩, by decide⟩
 refine codeAny_mono (vinit_spec (c:=c) (G:=G) (g:=g) (Q:=fun v h' g'=>v = .none /\ Q (.ref (h.objs.size + 1)) h' g') X ((S.trans k1).trans k2) O2 hp hq r2 (fun h' y dy la od vs n od2 ps' qs' t3 S' O' d F' T'=>⟨rfl, k _ _ _ _ _ _ _ _ _ _ _ _ _ S' O' d F' T'⟩) tk) fun r s' z=>?_
 refine xea4 z fun v e01 z1 z2 e04 z3=>?_; obtain rfl:=e01; obtain rfl:=e04
 exact ⟨rfl, z1, z2, z3⟩
end
section
open Builtin Builtin.ObjectAttr
section
variable {c : Cx} {A : Around} {G h : Heap} {g : Gs} {env : Env} {L : Addr} {f : Fm} {l : List (Addr × Obj)} {E : Value -> Shared -> Prop} {s : Shared}
noncomputable abbrev apB (a : Addr) : Obj:=bndO "builtin_function_or_method" "list.append" a
theorem plain_append : plainId "list.append" = true:=by decide +kernel
theorem sigAp_some : (Manifest.signature? "list.append").isSome = true:=by decide +kernel
noncomputable def sigAp : Manifest.Signature:=(Manifest.signature? "list.append").get sigAp_some
theorem chk_append {a : Addr} {vs : List Value} {n : Nat} {v : Value} {Q : Unit -> Shared -> Prop} (ha : s.heap.get? a = some (lst vs n)) (q : Q () s) : wpAny (model PW c.w) A (checkBoundCall "list.append" ⟨[.ref a, v], []⟩) Q E s:=by
 have hT : s.TypeIs (.ref a) "list":=⟨_, ha, rfl⟩
 have hs : Manifest.signature? "list.append" = some sigAp:=by unfold sigAp; rw [Option.some_get]
 have hk : builtinKind "list.append" = some .method:=by decide +kernel
 have hv : Manifest.varargsMethods.contains "list.append" = false:=by decide +kernel
 unfold checkBoundCall
 rw [hs, hk]
 dsimp only
 rw [if_neg (by decide)]
 refine wB (wpAny_isInstance (T:="list") (b:=false) hT (by rw [isSubtype_type]; kernel_rfl) ?_)
 rw [hv]
 refine wB ?_
 unfold isType
 refine wB (m:=load a) (wpAny_load ha (wP ?_))
 dsimp only
 rw [if_neg (by decide)]
 refine wB (wpAny_typeOf hT ?_)
 dsimp only
 exact wpAny_of_eq (a:=()) (by kernel_rfl) q
theorem W.callAp {u a : Addr} {pos : Pos} {e : Expr} {vs : List Value} {n : Nat} {Q : PV}
  (y : W c A (spliced (backTo pos (starEach [e] env))) (fun ws h1 g1=>∃ v, ws = [v] /\ h1.get? u = some (apB a) /\ h1.get? a = some (lst vs n) /\ vs.length <= 1000000 /\ ∀ h' m, h'.get? a = some (lst (vs ++ [v]) m) -> (∀ b o, b ≠ a -> h1.get? b = some o -> h'.get? b = some o) -> Q .none h' g1) h g)
  (h1 : starEach [e] env = [(false, eval e env)]:=by kernel_rfl) : W c A (callWith pos (.ref u) [] (backTo pos (starEach [e] env)) []) Q h g:=fun tk=>by
 have y:=y tk
 rw [h1] at y ⊢
 unfold callWith
 refine wB (wpAny_holding (evalArgs_plain (wM y (fun ws s z=>?_) fun _ _ z=>z)))
 refine xa2ea4 z fun z1 z2 v e03 hu ha hz k=>?_; obtain rfl:=e03
 obtain ⟨h', g', d', tk', os'⟩:=s
 dsimp only at z1 z2 hu ha k; subst z1 z2
 refine wB (wpAny_standAt ?_)
 have he : (backTo pos [(false, eval e env)]).any (·.1) = false:=rfl
 refine wB (m:=keeperOf (.ref u)) ?_
 unfold keeperOf
 refine wB (wpAny_load hu ?_)
 have t1 : (Value.type "builtin_function_or_method" != Value.type "method") = true:=by decide
 have t2 : (Value.type "builtin_function_or_method" == Value.type "builtin_function_or_method" || Value.type "builtin_function_or_method" == Value.type "method-wrapper") = true:=by decide
 have t3 : (Value.type "builtin_function_or_method" == Value.type "method" || Value.type "builtin_function_or_method" == Value.type "builtin_function_or_method" || Value.type "builtin_function_or_method" == Value.type "method-wrapper") = true:=by decide
 dsimp only
 rw [if_pos t1, if_pos t2]
 refine wP ?_
 refine wB (wM (Q:=fun a s'=>s'.drawn = c.d /\ s'.os = c.os /\ Q a s'.heap s'.gens) (E:=fun _ _=>False) ?_ (fun r s₂ hr=>wB (wpAny_holding (wpAny_point (wP hr)))) fun _ _ x=>x)
 refine wpAny_call (codeAny_of_tree ?_)
 show wpAny _ _ (callAny (.ref u) _) _ _ _
 unfold callAny
 refine wB (wpAny_load hu ?_)
 dsimp only
 rw [if_pos t3]
 show wpAny _ _ (if (Value.type "builtin_function_or_method" != Value.type "method") = true then (checkBoundCall "list.append" ⟨[.ref a, v], []⟩ >>= fun _=>again (.builtin "list.append" ⟨[.ref a, v], []⟩)) else _) _ _ _
 rw [if_pos t1]
 refine wB (chk_append ha ?_)
 refine wP ⟨plainId_quiet plain_append _, codeAny_builtin lb_append.entry ?_⟩
 show wpAny _ _ (updateSeq a (·.push v) >>= fun _=>PySem.ret .none) _ _ _
 refine wB (wpAny_updateSeq ha rfl (wP ?_) (by simp [sE]; exact lT hz (by decide)) (by simp [sE]; exact lT hz (by decide)))
 have U:=upd_get (F:=Obj.mapSeq (·.push v)) ha rfl
 refine ⟨rfl, rfl, k _ (n + 1) (U.1.trans ?_) U.2⟩
 congr 1
 show (⟨_, _, .seq _ (if _ then _ else _), _⟩ : Obj) = _
 rw [if_neg (by simp)]
 simp
end
end
section
open Builtin Builtin.ObjectAttr
theorem lk_list_append : typeLookup (.type "list") "append" = pure (some (.builtin "list.append")):=by rw [typeLookup_type, builtinLookup_eq_fast]; kernel_rfl
theorem md_no_set : typeLookup (.type "method_descriptor") "__set__" = pure none:=by rw [typeLookup_type, builtinLookup_eq_fast]; kernel_rfl
theorem md_no_del : typeLookup (.type "method_descriptor") "__delete__" = pure none:=by rw [typeLookup_type, builtinLookup_eq_fast]; kernel_rfl
theorem ty_append : ∀ {s : Shared}, s.TypeIs (.builtin "list.append") "method_descriptor":=fun {s}=>by show builtinType "list.append" = _; rw [builtinType_eq_fast]; kernel_rfl
section
variable {c : Cx} {A : Around} {h : Heap} {g : Gs}
theorem md_get {M : Model} {A : Around} {E : Value -> Shared -> Prop} {s : Shared} {y : Addr} {Q : Fin -> Shared -> Prop} (hi : Looks M s.heap (isInstance (.ref y) (.type "list")) true) (q : Q (.done (.ret (.ref s.heap.objs.size))) { s with heap:=s.heap.push (apB y) }) :
  wpAny M A (Builtin.«method_descriptor.__get__» ⟨[.builtin "list.append", .ref y, .type "list"], []⟩) Q E s:=by
 obtain ⟨hp, g, d, t, os⟩:=s
 have hh : Manifest.toldItsClass.contains "list.append" = false:=by decide +kernel
 have e1 : (Value.ref y == Value.none) = false:=rfl
 have e2 : (Value.type "list" == Value.none) = false:=rfl
 have e3 : ".".intercalate ("list.append".cutAt '.').dropLast = "list":=by decide +kernel
 have hi' : Looks M hp (isInstance (.ref y) (.type (".".intercalate ("list.append".cutAt '.').dropLast))) true:=by rw [e3]; exact hi
 unfold Builtin.«method_descriptor.__get__»
 refine wB (m:=(_ : Sem (Value × Option Value × Option Value))) (wP ?_)
 simp only [e1, e2, hh, Bool.false_eq_true, if_false]
 repeat lk
 exact q
theorem ap_entry {A : Around} {E : Value -> Shared -> Prop} {d : Drawn} {t : Nat} {os : OsState} {tk : Tok} {a : Addr} {vs : List Value} {n : Nat} {Q : Fin -> Shared -> Prop} (hx : h.get? a = some (lst vs n)) (hq : Q (.done (.ret (.ref h.objs.size))) ⟨h.push (apB a), g, d, t, os⟩) :
  wpAny (model PW c.w) A (Builtin.«object.__getattribute__» ⟨[.ref a, .str "append" tk], []⟩) Q E ⟨h, g, d, t, os⟩:=by
 have hT : (⟨h, g, d, t, os⟩ : Shared).TypeIs (.ref a) "list":=⟨_, hx, rfl⟩
 have hT5 : (⟨h, g, d, t, os⟩ : Shared).TypeIs (.builtin "list.append") "method_descriptor":=ty_append
 have f4:=lk_list_append
 have f6:=slot_md.lookup
 have f7:=md_no_set
 have f8:=md_no_del
 have hi : Looks (model PW c.w) h (isInstance (.ref a) (.type "list")) true:=fun A E Q s' k q=>wpAny_isInstance (T:="list") (b:=true) ⟨_, k _ _ hx, rfl⟩ (by rw [isSubtype_type]; kernel_rfl) q
 unfold Builtin.«object.__getattribute__»
 repeat (any_goals (first | assumption | wp_step))
 refine codeAny_call_builtin slot_md.plain entry_md (slot_md.check _ _ _ _ _ _ _ _ hT5 (args_md _ _ _) (md_get hi ?_))
 repeat (any_goals (first | assumption | wp_step))
theorem W.getAp {c : Cx} {A : Around} {h : Heap} {g : Gs} {a : Addr} {vs : List Value} {n : Nat} {Q : PV} (e : h.get? a = some (lst vs n)) (q : Q (.ref h.objs.size) (h.push (apB a)) g) : W c A (getAttr (.ref a) "append" true) Q h g:=fun tk=>by
 have hT : ∀ tk', (⟨h, g, c.d, tk', c.os⟩ : Shared).TypeIs (.ref a) "list":=fun _=>⟨_, e, rfl⟩
 have f3:=PySem.F.slot_list_getattribute.lookup
 have f4:=PySem.F.slot_list_getattribute.bind (.ref a)
 have f5:=list_getattr_none
 unfold getAttr getAttrBy
 repeat (any_goals (first | assumption | exact hT _ | ((with_reducible show wpAny _ _ (call (Value.builtin "list.__getattribute__") _ _) _ _ _); refine wpAny_call_entry PySem.F.slot_list_getattribute (hT _) am_entry_list_getattribute (ap_entry e ⟨_, rfl, ?_⟩) (PySem.F.args_list_getattribute_2 _ _)) | wp_step))
 all_goals exact ⟨rfl, rfl, q⟩
end
end
noncomputable abbrev plainS (x : Nat) : Prop:=x = 9 \/ (32 <= x /\ x <= 126 /\ x ≠ 61)
noncomputable def spelled (x : Nat) : List Nat:=if plainS x then [x] else [61, hexd (x / 16), hexd (x % 16)]
noncomputable def hexU : List Nat:=[48, 49, 50, 51, 52, 53, 54, 55, 56, 57, 65, 66, 67, 68, 69, 70]
theorem litHex : (Str.ofString "0123456789ABCDEF").cps.toList = hexU:=by kernel_rfl
theorem litTab : (Str.ofString "\t").cps.toList = [9]:=by kernel_rfl
theorem litEq : (Str.ofString "=").cps.toList = [61]:=by kernel_rfl
theorem hexU_get (k : Nat) (h : k < 16) (h' : k < (Str.ofString "0123456789ABCDEF").cps.toList.length) : (Str.ofString "0123456789ABCDEF").cps.toList[k] = hexd k:=by
 have e : (Str.ofString "0123456789ABCDEF").cps.toList[k]? = some (hexd k):=by
  rw [litHex]
  have : ∀ k : Fin 16, hexU[k.val]? = some (hexd k.val):=by decide
  exact this ⟨k, h⟩
 rw [gE h'] at e
 exact Option.some.inj e
theorem spelled_spec {c : Cx} {A : Around} {G h : Heap} {g : Gs} {x : Nat} {t : Tok} {Q : PV} (X : TopIn c.w.params G) (S : Sub G h) (r : Room A 1) (hx : x < 256)
  (y : ∀ h' t, Sub G h' -> Q (.str (T (spelled x)) t) h' g) : WC c A (.call (.ref 277) ⟨[.str (T [x]) t], []⟩) Q h g:=by
 refine enterF (k:=0) 277 (o277 c.w.params) (bodyOf (topSt 32)) [("sign", .str (T [x]) t)] [Str.ofString "code"] [("sign", some (.str (T [x]) t)), ("code", none)] X S Own.nil r rfl (fun s _=>BindsTo.of_eq (by kernel_rfl)) ?_
 intro h₁ L D r' hL
 walk_at "x"
 have fin : ∀ (z : List Nat) h' t f, Led G L h' f [] -> z = spelled x -> Q (.str (T z) t) h' g:=fun z h' t f D e=>e ▸ y h' t D.sub
 have sp : ¬ plainS x -> spelled x = [61, hexd (x / 16), hexd (x % 16)]:=fun h=>if_neg h
 walk_at "S"
 refine W.ifL (plainS x) (by assumption) ?_ ?_ ?_
 ·walk_at "S"
  refine ifSplit (fun hc=>?_) (fun hc=>?_)
  ·rw [decide_eq_true_iff, litTab] at hc
   exact ⟨(decide_eq_true (.inl (by simpa using hc))).symm, rfl, by assumption⟩
  ·rw [decide_eq_false_iff_not, litTab] at hc
   have h9 : x ≠ 9:=fun e=>hc (by rw [e])
   walk_at "S"
   refine ifSplit (fun hd=>?_) (fun hd=>?_)
   ·rw [decide_eq_true_iff] at hd
    walk_at "S"
    refine ifSplit (fun he=>?_) (fun he=>?_)
    ·rw [decide_eq_true_iff] at he
     walk_at "S"
     refine ifSplit (fun hf=>?_) (fun hf=>?_)
     ·walk_at "S"
      refine ⟨(decide_eq_true (.inr ⟨by lia, by lia, fun e=>?_⟩)).symm, rfl, by assumption⟩
      subst e; rw [litEq] at hf; simp at hf
     ·walk_at "S"
      refine ⟨(decide_eq_false (fun hp=>?_)).symm, rfl, by assumption⟩
      rcases hp with hp | hp
      ·exact h9 hp
      ·rw [litEq] at hf; simp at hf; exact hp.2.2 hf
    ·rw [decide_eq_false_iff_not] at he
     walk_at "S"
     exact ⟨(decide_eq_false (fun hp=>by rcases hp with hp | hp <;> lia)).symm, rfl, by assumption⟩
   ·rw [decide_eq_false_iff_not] at hd
    walk_at "S"
    exact ⟨(decide_eq_false (fun hp=>by rcases hp with hp | hp <;> lia)).symm, rfl, by assumption⟩
 ·intro h1 hp D
  walk_at "S"
  exact fin _ _ _ _ (by assumption) (if_pos hp).symm
 ·intro h1 hp D
  walk_at "S"
  have h16 : ((x : Int) / 16).toNat = x / 16:=by rfl
  have h17 : ((x : Int) % 16).toNat = x % 16:=by rfl
  have l1 : ((x : Int) / 16).toNat < (Str.ofString "0123456789ABCDEF").cps.toList.length:=by rw [litHex]; show _ < 16; lia
  have l2 : ((x : Int) % 16).toNat < (Str.ofString "0123456789ABCDEF").cps.toList.length:=by rw [litHex]; show _ < 16; lia
  refine W.itemT (by lia) l1 (by rw [litHex]; decide) ?_
  intro t2
  walk_at "S"
  ·refine W.itemT (by lia) l2 (by rw [litHex]; decide) ?_
   intro t3
   walk_at "S"
   ·refine fin _ _ _ _ (by assumption) ?_
    rw [sp hp, litEq, hexU_get _ (by assumption), hexU_get _ (by assumption), h16, h17]; rfl
   ·rw [litEq, sE]; show 3 <= _; simp
  ·rw [litEq, sE]; show 2 <= _; simp
section
local macro_rules | `(tactic| walk_at "c")=>Mc.run "c5"
noncomputable def endAt (xs : List (List Nat)) (b : Nat) : Nat:=(xs.take b).flatten.length
noncomputable def nextCut (xs : List (List Nat)) (room b : Nat) (free : List Nat) : Nat:=((free.headD 0) :: free.filter fun p=>decide (endAt xs p <= room + endAt xs b)).max?.getD 0
noncomputable def rowsGo (xs : List (List Nat)) (room last : Nat) : Nat -> Nat -> List Nat -> List (List Nat)
 | 0, b, _=>[(xs.drop b).flatten]
 | k + 1, b, free=>if free ≠ [] /\ endAt xs xs.length > last + endAt xs b then ((xs.take (nextCut xs room b free)).drop b).flatten :: rowsGo xs room last k (nextCut xs room b free) (free.filter fun p=>decide (nextCut xs room b free < p)) else [(xs.drop b).flatten]
noncomputable def rowsOf (xs : List (List Nat)) (ps : List Nat) (room last : Nat) : List (List Nat):=rowsGo xs room last ps.length 0 ps
theorem inter_nil (xs : List (List Nat)) : ([] : List Nat).intercalate xs = xs.flatten:=by
 induction xs with
 | nil=>rfl
 | cons x xs ih =>
  cases xs with
  | nil=>simp [List.intercalate]
  | cons y ys=>simp only [List.intercalate, List.intersperse_cons_cons, fCo, List.nil_append] at ih ⊢; rw [ih]
theorem endAt_succ (xs : List (List Nat)) (i : Nat) (x : List Nat) (e : xs[i]? = some x) : endAt xs (i + 1) = endAt xs i + x.length:=by
 unfold endAt
 rw [List.take_add_one, e]; simp
noncomputable def endsTo (xs : List (List Nat)) (i : Nat) : List Int:=(List.range (i + 1)).map fun j=>(endAt xs j : Int)
noncomputable def nats (ps : List Nat) : List Int:=ps.map fun n : Nat=>(n : Int)
theorem endsTo_succ (xs : List (List Nat)) (i : Nat) : endsTo xs (i + 1) = endsTo xs i ++ [(endAt xs (i + 1) : Int)]:=by
 unfold endsTo; rw [List.range_succ, List.map_append]; rfl
theorem endsTo_get (xs : List (List Nat)) (n i : Nat) (h : i <= n) : (endsTo xs n)[i]? = some (endAt xs i : Int):=by
 unfold endsTo; rw [List.getElem?_map, List.getElem?_range (by lia)]; rfl
theorem endsTo_last (xs : List (List Nat)) (n : Nat) : (endsTo xs n).getLast? = some (endAt xs n : Int):=by
 rw [List.getLast?_eq_getElem?]
 have : (endsTo xs n).length - 1 = n:=by simp [endsTo]
 rw [this]; exact endsTo_get xs n n (Nat.le_refl _)
theorem Is.last {vs xs} (h : Is vs xs) {x : Int} (e : xs.getLast? = some x) : ∃ t, vs.getLast? = some (.int x t):=by
 rw [List.getLast?_eq_getElem?] at e ⊢
 rw [h.len]; exact h.at e
theorem nextCut_spec (xs : List (List Nat)) (room b : Nat) (free : List Nat) (hf : free ≠ []) (M : Int) (h1 : M ∈ nats ((free.headD 0) :: free.filter fun p=>decide (endAt xs p <= room + endAt xs b))) (h2 : ∀ a ∈ nats ((free.headD 0) :: free.filter fun p=>decide (endAt xs p <= room + endAt xs b)), a <= M) :
  M = nextCut xs room b free:=by
 obtain ⟨m, hm, rfl⟩:=lmm h1
 unfold nextCut
 have : ((free.headD 0) :: free.filter fun p=>decide (endAt xs p <= room + endAt xs b)).max? = some m:=by
  rw [List.max?_eq_some_iff]
  exact ⟨hm, fun a ha=>by have:=h2 a (List.mem_map_of_mem ha); lia⟩
 rw [this]; rfl
theorem nextCut_mem (xs : List (List Nat)) (room b : Nat) (free : List Nat) (hf : free ≠ []) : nextCut xs room b free ∈ free:=by
 obtain ⟨a, l, rfl⟩ : ∃ a l, free = a :: l:=by cases free with | nil=>exact absurd rfl hf | cons a l=>exact ⟨a, l, rfl⟩
 unfold nextCut
 cases e : ((List.headD (a :: l) 0) :: (a :: l).filter fun p=>decide (endAt xs p <= room + endAt xs b)).max? with
 | none=>simp at e
 | some m =>
  rw [List.max?_eq_some_iff] at e
  rcases lmc e.1 with q | q
  ·exact q ▸ .head _
  ·exact (List.mem_filter.mp q).1
theorem Ss.cut {vs xs} (h : Ss vs xs) (l u) : Ss (cutL vs l u) (cutL xs l u):=by
 unfold cutL; rw [h.len]; exact (h.take _).drop _
theorem cutL_nat {α} (x : List α) (a b : Nat) (hb : b <= x.length) (ha : a <= x.length) : cutL x (some (a : Int)) (some (b : Int)) = (x.take b).drop a:=by
 unfold cutL loOf hiOf; dsimp only
 rw [if_neg (by simp), if_neg (by simp), Int.toNat_natCast, Int.toNat_natCast, Nat.min_eq_left hb, Nat.min_eq_left ha]
theorem cutL_from {α} (x : List α) (a : Nat) (ha : a <= x.length) : cutL x (some (a : Int)) none = x.drop a:=by
 unfold cutL loOf hiOf; dsimp only
 rw [if_neg (by simp), Int.toNat_natCast, Nat.min_eq_left ha, List.take_length]
theorem litE : (Str.ofString "").cps.toList = []:=by kernel_rfl
theorem joinOk (ys : List (List Nat)) (s : List Nat) (h : ∀ x ∈ ys, x.length <= 3) (hl : ys.length <= 1000) (hs : s.length <= 3) : (ys.map (·.length)).sum + ys.length * s.length <= 16777216:=by
 have : ∀ zs : List (List Nat), (∀ x ∈ zs, x.length <= 3) -> (zs.map (·.length)).sum <= 3 * zs.length:=by
  intro zs
  induction zs with
  | nil=>intro _; simp
  | cons y zs ih=>intro h; have:=ih fun x hx=>h x (.tail _ hx); have:=h y (.head _); rw [mpC, List.sum_cons, lC]; lia
 have:=this ys h
 have : ys.length * s.length <= 1000 * 3:=Nat.mul_le_mul hl hs
 lia
inductive RowI (G2 : Heap) (L aL aP aR aE : Addr) (last room : Nat) (u t : Tok) (po : Option Value) (oa o2 : Obj) (xs : List (List Nat)) (ps : List Nat) (k : Nat) (h : Heap) : Prop
 | mk (G3 : Heap) (aF : Addr) (vF : List Value) (mF : Nat) (free : List Nat) (b : Nat) (tb : Tok) (vR : List Value) (mR : Nat) (rows : List (List Nat)) (o3 o4 : Obj) (v4 : Option Value) (_ : Sub G2 G3) (_ : G3.get? aF = some (lst vF mF)) (_ : Is vF (nats free)) (_ : ∀ p ∈ free, p < xs.length) (_ : free.length <= k) (_ : b <= xs.length)
  (_ : Led G3 L h [("last", some (.int last u)), ("places", some (.ref aL)), ("pieces", some (.ref aP)), ("piece", po), ("rows", some (.ref aR)), ("free", some (.ref aF))]
     [(aR, lst vR mR), (L + 1, cel oa (some (.int room t))), (L + 2, cel o2 (some (.ref aE))), (L + 3, cel o3 (some (.int (b : Nat) tb))), (L + 4, cel o4 v4)]) (_ : Ss vR rows) (_ : rows ++ rowsGo xs room last k b free = rowsOf xs ps room last) (_ : rows.length + k <= ps.length)
inductive EndI (L aL aP aE : Addr) (last room : Nat) (u t : Tok) (oa ob oc : Obj) (xs : List (List Nat)) (g0 : Gs) (i : Nat) : Fm -> List (Addr × Obj) -> Gs -> Prop
 | mk (ve : List Value) (me : Nat) (o2 : Obj) (po : Option Value) (_ : Is ve (endsTo xs i)) : EndI L aL aP aE last room u t oa ob oc xs g0 i [("last", some (.int last u)), ("places", some (.ref aL)), ("pieces", some (.ref aP)), ("piece", po), ("rows", none), ("free", none)] [(aE, lst ve me), (L + 1, cel oa (some (.int room t))), (L + 2, cel o2 (some (.ref aE))), (L + 3, cel ob none), (L + 4, cel oc none)] g0
set_option maxHeartbeats 4000000 in
theorem rows_spec {c : Cx} {A : Around} {G h : Heap} {g : Gs} {aP aL : Addr} {vp vl : List Value} {mp ml : Nat} {xs : List (List Nat)} {ps : List Nat} {room last : Nat} {t u : Tok} {Q : PV} (X : TopIn c.w.params G) (S : Sub G h) (r : Room A 2)
  (ep : G.get? aP = some (lst vp mp)) (hp : Ss vp xs) (el : G.get? aL = some (lst vl ml)) (hl : Is vl (nats ps)) (hps : ∀ p ∈ ps, p < xs.length) (hlen : xs.length <= 1000) (hx : ∀ x ∈ xs, x.length <= 3) (hpl : ps.length <= 1000)
  (y : ∀ h' D m vs', Sub G h' -> Own G h' [(D, lst vs' m)] -> Ss vs' (rowsOf xs ps room last) -> Q (.ref D) h' g) : WC c A (.call (.ref 289) ⟨[.ref aP, .ref aL, .int room t, .int last u], []⟩) Q h g:=by
 refine enterC (k:=1) 289 (o289 c.w.params) (bodyOf (topSt 34)) [("pieces", .ref aP), ("places", .ref aL), ("room", .int room t), ("last", .int last u)] [("pieces", .ref aP), ("places", .ref aL), ("last", .int last u)]
  [Str.ofString "piece", Str.ofString "rows", Str.ofString "free"] [("last", some (.int last u)), ("places", some (.ref aL)), ("pieces", some (.ref aP)), ("piece", none), ("rows", none), ("free", none)]
  [("room", some (.int room t)), ("ends", none), ("begin", none), ("cut", none)] X S Own.nil r rfl (fun s _=>BindsTo.of_eq (by kernel_rfl)) ?_
 intro h₁ L os D0 r' hL
 walk_at "x"
 have D : Led G L h₁ [("last", some (.int last u)), ("places", some (.ref aL)), ("pieces", some (.ref aP)), ("piece", none), ("rows", none), ("free", none)] [(L + 1, cel (os 0) (some (.int room t))), (L + 2, cel (os 1) none), (L + 3, cel (os 2) none), (L + 4, cel (os 3) none)]:=D0
 clear D0
 have e1:=hp.len
 walk_at "S"
 refine W.newl (by assumption) (by simp [sE]) fun h2 aE D2=>?_
 clear D
 walk_at "S"
 refine W.for_ ?_
 walk_at "S"
 refine W.forList r'.hh (by assumption) ep
  (EndI L aL aP aE last room u t (os 0) (os 2) (os 3) xs g)
  ⟨_, _, _, _, Is.cons Is.nil⟩ ?_ ?_
 ·rintro i v G' h f l g' hi SG ⟨ve, me, o2, po, hI⟩ D
  obtain ⟨x, tx, hxi, rfl⟩:=hp.get hi
  have hx3:=hx x (List.mem_of_getElem? hxi)
  have hi' : i < xs.length:=(List.getElem?_eq_some_iff.mp hxi).1
  refine xe (hI.last (endsTo_last xs i)) fun tl ul=>?_
  have XG : TopIn c.w.params G':=(by assumption : TopIn c.w.params G).keeps SG
  walk_at "S"
  refine W.mApp (Led.get ‹_› (.head _)) ?_
  walk_at "S"
  refine W.lastl (Led.get ‹_› (.head _)) ul ?_
  walk_at "S"
  rotate_left
  ·rw [sE]; exact lT hx3 (by decide)
  refine W.app (Led.get ‹_› (.head _)) (by have:=hI.len; rw [sE, this]; simp [endsTo]; lia) fun h6 m6 e6 k6=>⟨rfl, ?_⟩
  have D6:=Led.upd (by assumption : Led G' L _ _ ((aE, lst ve me) :: _)) .here e6 k6
  walk_at "S"
  refine ⟨_, _, D6, _, _, _, _, ?_⟩
  rw [endsTo_succ]
  refine hI.append ?_
  have:=endAt_succ xs i x hxi
  rw [show ((endAt xs (i + 1) : Nat) : Int) = (endAt xs i : Int) + (x.length : Int) by lia]
  exact Is.cons Is.nil
 ·rintro h f l g' ⟨ve, me, o2, po, hI⟩ D
  rw [e1] at hI
  walk_at "S"
  refine W.newl (by assumption) (by simp [sE]) fun h3 aR D3=>?_
  clear D
  walk_at "S"
  refine xea2 (Led.freeze (l1:=[(aR, lst [] 0)]) (by assumption : Led G L _ _ ([(aR, lst [] 0)] ++ (aE, lst ve me) :: _))) fun G2 S2 eE D2=>?_
  refine W.while_ (WF.while_ (fun k h g''=>g'' = g /\ RowI G2 L aL aP aR aE last room u t po (os 0) o2 xs ps k h) ps.length ?_ ?_)
  ·refine ⟨rfl, G2, aL, vl, ml, ps, 0, _, [], 0, [], _, _, none, Sub.refl _, S2 _ _ el, hl, hps, Nat.le_refl _, Nat.zero_le _, D2, Ss.nil, rfl, by simp⟩
  ·rintro k h4 g'' ⟨rfl, G3, aF, vF, mF, free, b, tb, vR, mR, rows, o3, o4, v4, S3, eF, hF, hfr, hfk, hb, D4, hR, hgo, hrk⟩
   have eE3:=S3 _ _ eE
   have X3 : TopIn c.w.params G3:=(by assumption : TopIn c.w.params G).keeps (S2.trans S3)
   have eP3:=S3 _ _ (S2 _ _ ep)
   refine xe (hI.last (endsTo_last xs xs.length)) fun tl ul=>?_
   refine xe (hI.at (endsTo_get xs xs.length b hb)) fun tb' ub=>?_
   refine W.testL (free ≠ [] /\ endAt xs xs.length > last + endAt xs b) D4 ?_ ?_ ?_
   ·walk_at "S"
    refine W.newl (by assumption) (by simp [sE]) fun h5 aN D5=>?_
    refine W.nel (D5.sub _ _ eF) (D5.get (.head _)) hF Is.nil (lLe (Nat.add_le_add_left (by decide) _) r'.units) ?_
    walk_at "S"
    have D6:=D5.drop (List.sublist_cons_self _ _)
    clear D5
    refine ifSplit (fun hc=>?_) (fun hc=>?_)
    ·walk_at "S"
     refine W.lastl (Led.sub ‹_› _ _ eE3) ul ?_
     walk_at "S"
     refine W.iteml (Led.sub ‹_› _ _ eE3) (by simp) (Int.lt_of_le_of_lt (Int.ofNat_le.mpr (lT hb hlen)) (by decide)) (by rw [Int.toNat_natCast]; exact ub) ?_
     walk_at "S"
     refine ifSplit (fun hd=>?_) (fun hd=>?_)
     ·walk_at "S"
      refine ⟨(decide_eq_true ⟨fun e=>?_, ?_⟩).symm, rfl, by assumption⟩
      ·subst e; simp [nats] at hc
      ·exact Int.ofNat_lt.mp (Int.add_lt_of_lt_sub_right (of_decide_eq_true hd))
     ·refine ⟨(decide_eq_false fun q=>?_).symm, rfl, by assumption⟩
      exact of_decide_eq_false hd (Int.lt_sub_right_of_add_lt (Int.ofNat_lt.mpr q.2))
    ·refine ⟨(decide_eq_false fun q=>?_).symm, rfl, by assumption⟩
     have : nats free = []:=by simpa using hc
     exact q.1 (List.map_eq_nil_iff.mp this)
   ·intro h5 hP D5
    clear D4
    walk_at "x"
    obtain ⟨p0, fr, hfree⟩ : ∃ p0 fr, free = p0 :: fr:=by
     cases free with
     | nil=>exact absurd rfl hP.1
     | cons a l=>exact ⟨a, l, rfl⟩
    refine xe (hF.at (i:=0) (x:=(p0 : Int)) (by rw [hfree]; rfl)) fun t0 u0=>?_
    have lenF : vF.length <= 1000:=by have:=hF.len; simp only [nats, lMa] at this; lia
    walk_at "S"
    refine W.iteml (Led.sub ‹_› _ _ eF) (by decide) (by simp) u0 ?_
    walk_at "S"
    refine W.newl (by assumption) (by simp [sE]) fun h6 aN D6=>?_
    refine W.lcD D6 [("room", L + 1), ("ends", L + 2), ("begin", L + 3)] ?_
    walk_at "S"
    refine W.compList r'.hh (by assumption) eF (by rw [sE]; exact lT lenF (by decide)) (fun i ys l' g'=>CI g'' ([(aN, lst [.int p0 t0] 0), (aR, lst vR mR), (L + 1, cel (os 0) (some (.int room t))), (L + 2, cel o2 (some (.ref aE))), (L + 3, cel o3 (some (.int (b : Nat) tb))), (L + 4, cel o4 v4)]) (fun ys=>Is ys (nats ((free.take i).filter fun p=>decide (endAt xs p <= room + endAt xs b)))) ys l' g')
     ⟨Is.nil⟩ ?_ ?_
    ·rintro i v ys G' C h7 l' g7 hi SG ⟨hy⟩ hyl D7
     obtain ⟨p', tp, hpi, rfl⟩:=hF.get hi
     obtain ⟨pn, hpn, rfl⟩ : ∃ pn, free[i]? = some pn /\ p' = (pn : Int):=by
      simp only [nats, List.getElem?_map, Option.map_eq_some_iff] at hpi
      refine xea hpi fun pn a1 a2=>?_; exact ⟨pn, a1, a2.symm⟩
     have hpl2:=hfr pn (List.mem_of_getElem? hpn)
     refine xe (hI.at (endsTo_get xs xs.length pn (by exact lO (by assumption)))) fun tq uq=>?_
     have etk : free.take (i + 1) = free.take i ++ [pn]:=by rw [List.take_add_one, hpn]; rfl
     refine W.tests1 ?_
     walk_at "S"
     refine W.rdA (a:=L + 2) (by assumption) (by walk_at "mem") ?_
     walk_at "S"
     refine W.iteml (Led.sub ‹_› _ _ (SG _ _ eE3)) (by simp) (Int.lt_of_le_of_lt (Int.ofNat_le.mpr (lT (lO hpl2) hlen)) (by decide)) (by rw [Int.toNat_natCast]; exact uq) ?_
     walk_at "S"
     refine W.rdA (a:=L + 2) (by assumption) (by walk_at "mem") ?_
     walk_at "S"
     refine W.rdA (a:=L + 3) (by assumption) (by walk_at "mem") ?_
     refine W.iteml (Led.sub ‹_› _ _ (SG _ _ eE3)) (by simp) (Int.lt_of_le_of_lt (Int.ofNat_le.mpr (lT hb hlen)) (by decide)) (by rw [Int.toNat_natCast]; exact ub) ?_
     walk_at "S"
     refine W.rdA (a:=L + 1) (by assumption) (by walk_at "mem") ?_
     walk_at "S"
     refine ifSplit (fun hc=>?_) (fun hc=>?_)
     ·have hc:=of_decide_eq_true hc
      walk_at "S"
      refine ⟨_, (by assumption), ⟨?_⟩⟩
      rw [etk, List.filter_append, List.filter_cons, if_pos (decide_eq_true (Int.ofNat_le.mp (Int.le_add_of_sub_right_le hc)))]
      unfold nats
      rw [List.map_append]
      exact hy.append (Is.cons Is.nil)
     ·have hc:=of_decide_eq_false hc
      refine ⟨_, (by assumption), ⟨?_⟩⟩
      rw [etk, List.filter_append, List.filter_cons, if_neg (by rw [decide_eq_true_iff]; exact fun q=>hc (Int.sub_right_le_of_le_add (Int.ofNat_le.mpr q)))]
      simpa using hy
    ·rintro aC h7 ys l' g7 ⟨hy⟩ hyl ⟨m7, D7⟩
     have elF : vF.length = free.length:=by have:=hF.len; simpa [nats] using this
     rw [elF, List.take_length] at hy
     refine W.addl D7 (D7.get (by walk_at "mem")) (D7.get (by walk_at "mem")) (by have:=hyl; rw [sE]; simp; lia) fun h8 aX D8=>?_
     clear D7
     walk_at "S"
     refine W.max r'.hh (by assumption) (Led.get ‹_› (by walk_at "mem")) ((Is.cons (t:=t0) (x:=(p0 : Int)) Is.nil).append hy) (by simp) fun h9 tM M D9 hM1 hM2=>?_
     have hMc : M = nextCut xs room b free:=nextCut_spec xs room b free hP.1 M (by rw [hfree] at hM1 ⊢; exact hM1) (by rw [hfree] at hM2 ⊢; exact hM2)
     have hcm:=nextCut_mem xs room b free hP.1
     have hcl:=hfr _ hcm
     rw [hMc]
     generalize hcc : nextCut xs room b free = cu at *
     have D10:=D9.drop (l':=[(aR, lst vR mR), (L + 1, cel (os 0) (some (.int room t))), (L + 2, cel o2 (some (.ref aE))), (L + 3, cel o3 (some (.int (b : Nat) tb))), (L + 4, cel o4 v4)]) (by
      refine .cons _ (.cons _ (.cons _ (List.Sublist.refl _))))
     clear D8 D9
     walk_at "S"
     refine W.mApp (Led.get ‹_› (by walk_at "mem")) ?_
     walk_at "S"
     refine SlOn.list (by assumption) (Led.sub ‹_› _ _ eP3) (.inr ⟨_, _, rfl⟩) (.inr ⟨_, _, rfl⟩) (by rw [sE, e1]; exact lT hlen (by decide)) fun h11 aS D11=>?_
     replace D11 : Led G3 L h11 _ ((aS, lst (cutL vp (some (b : Int)) (some (cu : Int))) 0) :: [(aR, lst vR mR), (L + 1, cel (os 0) (some (.int room t))), (L + 2, cel o2 (some (.ref aE))), (L + 3, cel o3 (some (.int (b : Nat) tb))), (L + 4, cel _ (some (.int (cu : Int) tM)))]):=D11
     have hcut:=hp.cut (some (b : Int)) (some (cu : Int))
     rw [cutL_nat xs b cu (by exact lO (by assumption)) hb] at hcut
     walk_at "S"
     refine W.join (Led.get ‹_› (by walk_at "mem")) hcut (joinOk _ _ (fun x q=>hx x (List.mem_of_mem_take (List.mem_of_mem_drop q))) (by simp; lia) (by rw [litE]; decide)) fun tJ=>?_
     walk_at "S"
     refine W.app (Led.get ‹_› (by walk_at "mem")) (by have:=hR.len; rw [sE, this]; exact lT (lT (Nat.le_add_right _ _) hrk) (lT hpl (by decide))) fun h12 m12 e12 k12=>⟨rfl, ?_⟩
     have D12:=Led.upd D11 (.there .here) e12 k12
     have D13:=D12.drop (List.sublist_cons_self _ _)
     clear D11 D12
     walk_at "S"
     obtain ⟨k', rfl⟩ : ∃ k', k = k' + 1:=⟨k - 1, by rw [hfree] at hfk; exact (Nat.sub_add_cancel (lT (Nat.le_add_left _ _) hfk)).symm⟩
     refine W.lcAssignD (by assumption) [("cut", L + 4)] (fun D=>[("last", some (.int last u)), ("places", some (.ref aL)), ("pieces", some (.ref aP)), ("piece", po), ("rows", some (.ref aR)), ("free", some (.ref D))]) (fun D=>by walk_at "put") ?_
     walk_at "S"
     refine W.compList r'.hh (by assumption) eF (by rw [sE]; exact lT lenF (by decide)) (fun i ys l' g'=>g' = g'' /\ (∃ o5 o6, l' = [(aR, lst (vR ++ [.str (T ((Str.ofString "").cps.toList.intercalate ((xs.take cu).drop b))) tJ]) m12), (L + 1, cel (os 0) (some (.int room t))), (L + 2, cel o2 (some (.ref aE))), (L + 3, cel o5 (some (.int (cu : Int) tM))), (L + 4, cel o6 (some (.int (cu : Int) tM)))]) /\ Is ys (nats ((free.take i).filter fun p=>decide (cu < p))))
      ⟨rfl, ⟨_, _, rfl⟩, Is.nil⟩ ?_ ?_
     ·rintro i v ys G' C h14 l' g14 hi SG ⟨rfl, ⟨o5, o6, rfl⟩, hy2⟩ hyl2 D14
      obtain ⟨p', tp, hpi, rfl⟩:=hF.get hi
      obtain ⟨pn, hpn, rfl⟩ : ∃ pn, free[i]? = some pn /\ p' = (pn : Int):=by
       simp only [nats, List.getElem?_map, Option.map_eq_some_iff] at hpi
       refine xea hpi fun pn a1 a2=>?_; exact ⟨pn, a1, a2.symm⟩
      have etk : free.take (i + 1) = free.take i ++ [pn]:=by rw [List.take_add_one, hpn]; rfl
      refine W.tests1 ?_
      walk_at "S"
      refine W.rdA (a:=L + 4) (by assumption) (by walk_at "mem") ?_
      walk_at "S"
      refine ifSplit (fun hc=>?_) (fun hc=>?_)
      ·have hc:=of_decide_eq_true hc
       walk_at "S"
       refine ⟨_, (by assumption), rfl, ⟨_, _, rfl⟩, ?_⟩
       rw [etk, List.filter_append, List.filter_cons, if_pos (decide_eq_true (by lia))]
       unfold nats
       rw [List.map_append]
       exact hy2.append (Is.cons Is.nil)
      ·have hc:=of_decide_eq_false hc
       refine ⟨_, (by assumption), rfl, ⟨_, _, rfl⟩, ?_⟩
       rw [etk, List.filter_append, List.filter_cons, if_neg (by rw [decide_eq_true_iff]; lia)]
       simpa using hy2
     ·rintro aC2 h14 ys2 l' g14 ⟨rfl, ⟨o5, o6, rfl⟩, hy2⟩ hyl2 _ m15 h15 D15
      rw [elF, List.take_length] at hy2
      refine xea2 (Led.freeze (l1:=[]) D15) fun G4 S4 eF4 D16=>?_
      walk_at "x"
      walk_at "S"
      refine ⟨k', Nat.lt_succ_self _, rfl, G4, aC2, ys2, m15, _, cu, tM, _, _, rows ++ [((xs.take cu).drop b).flatten], _, _, _, S3.trans S4, eF4, hy2, fun p q=>hfr p (List.mem_filter.mp q).1, ?_, by exact lO (by assumption), D16, ?_, ?_, ?_⟩
      ·have : (free.filter fun p=>decide (cu < p)).length < free.length:=by
        refine Nat.lt_of_le_of_ne (List.length_filter_le _ _) fun e=>?_
        have:=List.length_filter_eq_length_iff.mp e cu hcm
        simp at this
       lia
      ·refine hR.append ?_
       rw [litE, inter_nil]
       exact Ss.cons Ss.nil
      ·rw [rowsGo, if_pos hP, hcc] at hgo
       rw [<- hgo, apA]; rfl
      ·simp; lia
   ·intro h5 hP D5
    clear D4
    have hg : rowsGo xs room last k b free = [(xs.drop b).flatten]:=by
     cases k with
     | zero=>rfl
     | succ k=>rw [rowsGo, if_neg hP]
    rw [hg] at hgo
    walk_at "x"
    walk_at "S"
    refine W.mApp (Led.get ‹_› (.head _)) ?_
    walk_at "S"
    refine SlOn.list (by assumption) (Led.sub ‹_› _ _ eP3) (.inr ⟨_, _, rfl⟩) (.inl rfl) (by rw [sE, e1]; exact lT hlen (by decide)) fun h11 aS D11=>?_
    replace D11 : Led G3 L h11 _ ((aS, lst (cutL vp (some (b : Int)) none) 0) :: [(aR, lst vR mR), (L + 1, cel (os 0) (some (.int room t))), (L + 2, cel o2 (some (.ref aE))), (L + 3, cel o3 (some (.int (b : Nat) tb))), (L + 4, cel o4 v4)]):=D11
    have hcut:=hp.cut (some (b : Int)) none
    rw [cutL_from xs b hb] at hcut
    walk_at "S"
    refine W.join (Led.get ‹_› (by walk_at "mem")) hcut (joinOk _ _ (fun x q=>hx x (List.mem_of_mem_drop q)) (by simp; lia) (by rw [litE]; decide)) fun tJ=>?_
    walk_at "S"
    refine W.app (Led.get ‹_› (by walk_at "mem")) (by have:=hR.len; rw [sE, this]; exact lT (lT (Nat.le_add_right _ _) hrk) (lT hpl (by decide))) fun h12 m12 e12 k12=>⟨rfl, ?_⟩
    have D12:=Led.upd D11 (.there .here) e12 k12
    walk_at "S"
    have D13:=(Led.drop (by assumption : Led G3 L _ _ ((aS, _) :: (aR, _) :: _)) (l':=[(aR, lst (vR ++ [.str (T ((Str.ofString "").cps.toList.intercalate (xs.drop b))) tJ]) m12)]) (.cons _ (.cons₂ _ (List.nil_sublist _)))).base (S2.trans S3)
    refine y _ _ _ _ D13.sub D13.own ?_
    rw [<- hgo, litE, inter_nil]
    exact hR.append (Ss.cons Ss.nil)
end
noncomputable def spellNL (x : Nat) : List Nat:=if x = 10 \/ x = 13 then [x] else spelled x
noncomputable def cutLen (m : Nat) (w : List Nat) : Nat:=if w.getD (m - 3) 0 = 61 then m - 3 else if w.getD (m - 2) 0 = 61 then m - 2 else m - 1
theorem cut_rng {m : Nat} (w : List Nat) (hm : 4 <= m) : 1 <= cutLen m w /\ cutLen m w <= m - 1:=by
 unfold cutLen
 split
 ·exact ⟨Nat.sub_pos_of_lt hm, Nat.sub_le_sub_left (by decide) _⟩
 ·split
  ·exact ⟨Nat.sub_pos_of_lt (lO hm), Nat.sub_le_sub_left (by decide) _⟩
  ·exact ⟨Nat.sub_pos_of_lt (lT (by decide) hm), Nat.le_refl _⟩
theorem iz0 (s : Nat) {m : Nat} (h : 1 <= m) : (s : Int) + ((m : Int) - 1) = ((s + (m - 1) : Nat) : Int):=by
 rw [Int.natCast_add, Int.ofNat_sub h]; rfl
theorem iz (s k : Nat) {m : Nat} (h : k + 1 <= m) : (s : Int) + ((m : Int) - 1) - (k : Int) = ((s + (m - (k + 1)) : Nat) : Int):=by
 rw [Int.add_sub_assoc, Int.sub_sub, Int.natCast_add, Int.ofNat_sub h, Int.natCast_add, Int.add_comm 1]; rfl
theorem pm {k m : Nat} (h : k < m) : m - k = m - (k + 1) + 1:=(Nat.succ_pred_eq_of_pos (Nat.sub_pos_of_lt h)).symm
noncomputable def beGo (m : Nat) : Nat -> List Nat -> List (List Nat)
 | 0, w=>[w]
 | n + 1, w=>if w.length <= m then [w] else (w.take (cutLen m w) ++ [61]) :: beGo m n (w.drop (cutLen m w))
noncomputable def beRows (m : Nat) (w : List Nat) : List (List Nat):=beGo m w.length w
noncomputable def beAll (m : Nat) (x : List Nat) : List (List Nat):=(linesN [] (x.flatMap spellNL)).flatMap (beRows m) ++ (if (x.flatMap spellNL).getLastD 0 = 10 \/ (x.flatMap spellNL).getLastD 0 = 13 then [[]] else [])
noncomputable def encF (m : Nat) (eol x : List Nat) : List Nat:=if x = [] then [] else eol.intercalate (beAll m x)
theorem beGo_done (m n : Nat) (w : List Nat) (h : w.length <= m) : beGo m n w = [w]:=by
 cases n with
 | zero=>rfl
 | succ n=>unfold beGo; rw [if_pos h]
noncomputable def listOf (o : Obj) : List Value:=match o.data with | .seq xs _=>xs.toList | _=>[]
noncomputable def spOk (l : List Value) (k : Nat) : Bool:=match l[k]? with | some (.str s _)=>s.cps.toList == spellNL k | _=>false
theorem enc_chk (P : Params) : ((List.range 256).all fun k=>spOk (listOf (o244 P)) k) = true:=by kernel_rfl
theorem enc_get (P : Params) (k : Nat) (h : k < 256) : ∃ u, (listOf (o244 P))[k]? = some (.str (T (spellNL k)) u):=by
 have:=List.all_eq_true.mp (enc_chk P) k (List.mem_range.mpr h)
 unfold spOk at this
 split at this
 ·rename_i s u e
  exact ⟨u, by rw [e, <- eq_of_beq this, T_of]⟩
 ·cases this
theorem W.getApL {c : Cx} {A : Around} {G h : Heap} {g : Gs} {L a : Addr} {f : Fm} {l : List (Addr × Obj)} {vs : List Value} {n : Nat} {Q : PV} (D : Led G L h f l) (hm : (a, lst vs n) ∈ l) (y : ∀ h' u, Led G L h' f ((u, apB a) :: l) -> Q (.ref u) h' g) : W c A (getAttr (.ref a) "append" true) Q h g :=
 W.getAp (D.get hm) (y _ _ (D.push (apB a)))
theorem ap_step {G h : Heap} {L u a : Addr} {f : Fm} {l : List (Addr × Obj)} {l' : Nat -> List (Addr × Obj)} {vs : List Value} {n : Nat} {v : Value} {R : Heap -> Prop} (D : Led G L h f l) (hu : (u, apB a) ∈ l) (cg : ∀ m, Chg a (lst (vs ++ [v]) m) l (lst vs n) (l' m)) (hz : vs.length <= 1000000)
  (k : ∀ h' m, Led G L h' f (l' m) -> R h') : ∃ w, [v] = [w] /\ h.get? u = some (apB a) /\ h.get? a = some (lst vs n) /\ vs.length <= 1000000 /\ ∀ h' m, h'.get? a = some (lst (vs ++ [w]) m) -> (∀ b o, b ≠ a -> h.get? b = some o -> h'.get? b = some o) -> R h' :=
 ⟨v, rfl, D.get hu, D.get (cg 0).old, hz, fun h' m e k2=>k h' m (D.upd (cg m) e k2)⟩
theorem litSp : (Str.ofString " \t").cps.toList = [32, 9]:=by kernel_rfl
theorem litE9 : (Str.ofString "").cps.toList = []:=by kernel_rfl
theorem litEq9 : (Str.ofString "=").cps.toList = [61]:=by kernel_rfl
theorem cut_row (w : List Nat) (s k : Nat) (h : s + k <= w.length) : cutL w (some (s : Int)) (some ((s : Int) + (k : Int))) = (w.drop s).take k:=by
 rw [show (s : Int) + (k : Int) = ((s + k : Nat) : Int) by rfl, cutL_nat _ _ _ h (lT (Nat.le_add_right _ _) h), List.drop_take, Nat.add_sub_cancel_left]
theorem take_eq61 (w : List Nat) (k : Nat) (h : w.getD k 0 = 61) : w.take (k + 1) = w.take k ++ [61]:=by
 have : w[k]? = some 61:=by
  rw [List.getD_eq_getElem?_getD] at h
  cases e : w[k]? with
  | none=>rw [e] at h; cases h
  | some q=>rw [e] at h; exact congrArg some h
 rw [List.take_add_one, this]; rfl
inductive BeI (G' : Heap) (L : Addr) (eol x w : List Nat) (pre : List (List Nat)) (m : Nat) (ab u0 : Addr) (u t2 t3 t4 t5 tx tl : Tok) (n : Nat) (h : Heap) : Prop
 | mk (s : Nat) (rws : List (List Nat)) (vs4 : List Value) (ml4 : Nat) (st4 : Option Value) (ts : Tok) (_ : s <= w.length) (_ : w.length - s <= n) (_ : beRows m w = rws ++ beGo m n (w.drop s)) (_ : Ss vs4 (pre ++ rws)) (_ : Led G' L h [("eol", some (.str (T eol) t2)), ("maxlinelen", some (.int (m : Int) u)), ("body", some (.str (T (x.flatMap spellNL)) t3)), ("soft_break", some (.str (T ((Str.ofString "=").cps.toList ++ eol)) t4)), ("maxlinelen1", some (.int ((m : Int) - 1) t5)), ("encoded_body", some (.ref ab)), ("append", some (.ref u0)), ("line", some (.str (T w) tx)), ("start", some (.int (s : Int) ts)), ("laststart", some (.int ((w.length : Int) - 1 - (m : Int)) tl)), ("stop", st4), ("room", none), ("q", none)] [(u0, apB ab), (ab, lst vs4 ml4)])
inductive BeF (eol x : List Nat) (m : Nat) (ab u0 : Addr) (u t2 t3 t4 t5 : Tok) (ls : List (List Nat)) (g0 : Gs) (i : Nat) : Fm -> List (Addr × Obj) -> Gs -> Prop
 | mk (vs2 : List Value) (ml : Nat) (lo so la st : Option Value) (_ : Ss vs2 ((ls.take i).flatMap (beRows m))) : BeF eol x m ab u0 u t2 t3 t4 t5 ls g0 i [("eol", some (.str (T eol) t2)), ("maxlinelen", some (.int (m : Int) u)), ("body", some (.str (T (x.flatMap spellNL)) t3)), ("soft_break", some (.str (T ((Str.ofString "=").cps.toList ++ eol)) t4)), ("maxlinelen1", some (.int ((m : Int) - 1) t5)), ("encoded_body", some (.ref ab)), ("append", some (.ref u0)), ("line", lo), ("start", so), ("laststart", la), ("stop", st), ("room", none), ("q", none)] [(u0, apB ab), (ab, lst vs2 ml)] g0
set_option maxHeartbeats 4000000 in
theorem be_spec {c : Cx} {A : Around} {G h : Heap} {g : Gs} {x eol : List Nat} {m : Nat} {args : Args} {t u t2 : Tok} {Q : PV} (X : TopIn c.w.params G) (S : Sub G h) (r : Room A 2)
  (hbind : ∀ s : Shared, s.heap = h -> BindsTo s (fdOf (o255 c.w.params)) args [("body", .str (T x) t), ("maxlinelen", .int (m : Int) u), ("eol", .str (T eol) t2)])
  (hm : 4 <= m) (hm2 : m <= 10000) (hx : ∀ k ∈ x, k < 256) (z1 : x.length <= 10000) (z2 : (linesN [] (x.flatMap spellNL)).length <= 10000)
  (z3 : ∀ l ∈ linesN [] (x.flatMap spellNL), l.length <= 10000 /\ ∀ s, l.getLast? = some s -> s < 128 /\ s ≠ 32 /\ s ≠ 9)
  (z4 : (beAll m x).length <= 100000) (z5 : ((beAll m x).map (·.length)).sum + (beAll m x).length * eol.length <= 16777216) (z6 : ∀ k, (x.flatMap spellNL).getLast? = some k -> k < 128) (z7 : eol.length <= 2) (z8 : (x.flatMap spellNL).length <= 100000)
  (y : ∀ h' t, Sub G h' -> Q (.str (T (encF m eol x)) t) h' g) : WC c A (.call (.ref 255) args) Q h g:=by
 refine enterF (k:=1) 255 (o255 c.w.params) (bodyOf (topSt 28)) [("body", .str (T x) t), ("maxlinelen", .int (m : Int) u), ("eol", .str (T eol) t2)] [Str.ofString "soft_break", Str.ofString "maxlinelen1", Str.ofString "encoded_body", Str.ofString "append", Str.ofString "line", Str.ofString "start", Str.ofString "laststart", Str.ofString "stop", Str.ofString "room", Str.ofString "q"] [("eol", some (.str (T eol) t2)), ("maxlinelen", some (.int (m : Int) u)), ("body", some (.str (T x) t)), ("soft_break", none), ("maxlinelen1", none), ("encoded_body", none), ("append", none), ("line", none), ("start", none), ("laststart", none), ("stop", none), ("room", none), ("q", none)] X S Own.nil r rfl (hbind) ?_
 intro h₁ L D r' hL
 walk_at "x"
 have zl : ∀ n, n <= 10000000 -> n <= sizeLine:=fun n h=>by rw [sE]; exact lT h (by decide)
 walk_at "S"
 refine W.if_ ?_
 walk_at "S"
 rw [show decide ((m : Int) < 4) = false by rw [decide_eq_false_iff_not]; lia]
 walk_at "S"
 refine W.ifL (x = []) (by assumption) ?_ ?_ ?_
 ·walk_at "S"
  refine W.trs (zl _ (by exact lT z1 (by decide))) ⟨?_, rfl, by assumption⟩
  cases x <;> rfl
 ·intro h2 hP D2
  walk_at "x"
  subst hP
  walk_at "S"
  exact y _ _ (Led.sub ‹_›)
 intro h2' hP D2
 walk_at "x"
 walk_at "S"
 rename Led _ _ _ _ _=>D3
 walk_at "X"
 refine W.translate spellNL ((D3.inK X) 244 _ (by kernel_rfl : (KM c.w.params).lookup 244 = some (lst (listOf (o244 c.w.params)) 0))) hP (fun k hk=>enc_get _ k (hx k hk)) hx (by exact lT z8 (by decide)) fun t3=>?_
 walk_at "S"
 rotate_left
 ·exact zl _ (by rw [litEq9, lS]; exact lT (Nat.add_le_add_left z7 1) (by decide))
 walk_at "X"
 rename_i t4 _ _ _ _ t5 _ _ _ _
 refine W.newl ‹Led _ _ _ _ _› (by simp [sE]) fun h4 ab D4=>?_
 walk_at "S"
 rename Led _ _ _ _ _=>D5
 refine W.attr ?_
 walk_at "S"
 rename Led _ _ _ _ _=>D6
 refine W.getApL D6 (.head _) fun h6 u0 D7=>?_
 clear D6
 walk_at "S"
 refine W.for_ ?_
 walk_at "S"
 rename Led _ _ _ _ _=>D8
 refine W.splitlines D8 (ls:=linesN [] (x.flatMap spellNL)) (by rw [lines_of]) (zl _ (by exact lT z8 (by decide))) (zl _ (by exact lT z2 (by decide))) fun h9 al vls hsl D9=>?_
 refine xea2 (Led.freeze (l1:=[]) D9) fun G2 S2 eA D3=>?_
 clear D9
 walk_at "X"
 have XX : TopIn c.w.params G2:=X.keeps S2
 generalize hls : linesN [] (x.flatMap spellNL) = ls at hsl z2 z3
 have hpre : ∀ i, ((ls.take i).flatMap (beRows m)).length <= 100000:=fun i=>by
  have e : beAll m x = (ls.flatMap (beRows m)) ++ (if (x.flatMap spellNL).getLastD 0 = 10 \/ (x.flatMap spellNL).getLastD 0 = 13 then [[]] else []):=by unfold beAll; rw [hls]
  have : (ls.take i).flatMap (beRows m) ++ (ls.drop i).flatMap (beRows m) = ls.flatMap (beRows m):=by rw [<- List.flatMap_append, List.take_append_drop]
  rw [e, <- this, lA, lA] at z4
  exact lT (lT (Nat.le_add_right _ _) (Nat.le_add_right _ _)) z4
 refine W.forList r'.hh D3 eA
  (BeF eol x m ab u0 u t2 t3 t4 t5 ls g)
  ⟨_, _, _, _, _, _, Ss.nil⟩ ?_ ?_
 ·rintro i v G' h f l g' hi SG ⟨vs2, ml, lo, so, la, st, hSs⟩ D
  obtain ⟨w, tx, hxi, rfl⟩:=hsl.get hi
  have hwm:=List.mem_of_getElem? hxi
  have hwl:=(z3 w hwm).1
  have hw2:=(z3 w hwm).2
  have etk : (ls.take (i + 1)).flatMap (beRows m) = (ls.take i).flatMap (beRows m) ++ beRows m w:=by rw [List.take_add_one, hxi]; simp
  have XG : TopIn c.w.params G':=XX.keeps SG
  have hp2:=hpre (i + 1)
  rw [etk, lA] at hp2
  have hp1:=hpre i
  generalize (ls.take i).flatMap (beRows m) = pre at *
  clear D3 D8 X
  walk_at "S"
  rotate_left
  ·exact zl _ (by exact lT hwl (by decide))
  rename_i tl _ _ _ _
  refine W.while_ (WF.while_ (fun n h g''=>g'' = g /\ BeI G' L eol x w pre m ab u0 u t2 t3 t4 t5 tx tl n h) w.length ?_ ?_)
  ·exact ⟨rfl, 0, [], vs2, ml, _, _, Nat.zero_le _, by simp, rfl, by rw [apN]; exact hSs, by assumption⟩
  ·rintro n h4 g'' ⟨rfl, s, rws, vs4, ml4, st4, ts, hs, hn, hgo, hSs4, D4⟩
   have hv4 : vs4.length <= 100000:=by
    have e1:=hSs4.len
    have e2:=congrArg List.length hgo
    rw [lA] at e1 e2
    rw [e1]; exact lT (Nat.add_le_add_left (by rw [e2]; exact Nat.le_add_right _ _) _) hp2
   refine W.testL (m + s < w.length) D4 ?_ ?_ ?_
   ·walk_at "S"
    refine ⟨?_, rfl, by assumption⟩
    rw [decide_eq_decide, <- Int.add_le_iff_le_sub, <- Int.add_le_iff_le_sub, Nat.add_comm m]
    show ((s + m + 1 : Nat) : Int) <= _ ↔ _
    exact Int.ofNat_le
   ·intro h5' hlt D5
    clear D4
    have ltk : ∀ k, s + (m - k) < w.length:=fun k=>lLe (lT (Nat.add_le_add_left (Nat.sub_le _ _) s) (Nat.le_of_eq (Nat.add_comm s m))) hlt
    have e3:=iz s 2 (lO hm)
    have e2:=iz s 1 (lT (by decide) hm)
    have e1:=iz0 s (lT (by decide) hm)
    cases n with
    | zero=>exact absurd hn (Nat.not_le_of_gt (Nat.sub_pos_of_lt (lLe (Nat.le_add_left s m) hlt)))
    | succ n =>
      have fin : ∀ (cut : Nat) (e : Int) ti st' h2 vs2 ml2, cut = cutLen m (w.drop s) -> e = ((s + cut : Nat) : Int) -> Ss vs2 (pre ++ rws ++ [(w.drop s).take cut ++ [61]]) -> Led G' L h2 [("eol", some (.str (T eol) t2)), ("maxlinelen", some (.int (m : Int) u)), ("body", some (.str (T (x.flatMap spellNL)) t3)), ("soft_break", some (.str (T ((Str.ofString "=").cps.toList ++ eol)) t4)), ("maxlinelen1", some (.int ((m : Int) - 1) t5)), ("encoded_body", some (.ref ab)), ("append", some (.ref u0)), ("line", some (.str (T w) tx)), ("start", some (.int e ti)), ("laststart", some (.int ((w.length : Int) - 1 - (m : Int)) tl)), ("stop", st'), ("room", none), ("q", none)] [(u0, apB ab), (ab, lst vs2 ml2)] ->
        ∃ n', n' < n + 1 /\ g'' = g'' /\ BeI G' L eol x w pre m ab u0 u t2 t3 t4 t5 tx tl n' h2:=by
       intro cut e ti st' h2 vs2 ml2 q1 q2 q3 q4
       have c1 : 1 <= cut:=q1 ▸ (cut_rng _ (by assumption)).1
       have c2 : cut <= m - 1:=q1 ▸ (cut_rng _ (by assumption)).2
       refine ⟨n, Nat.lt_succ_self n, rfl, s + cut, rws ++ [(w.drop s).take cut ++ [61]], vs2, ml2, st', ti, lT (Nat.add_le_add_left c2 s) (lO (ltk 1)), by rw [Nat.sub_add_eq]; exact lT (Nat.sub_le_sub_left c1 _) (Nat.sub_le_sub_right hn 1), ?_, by rw [<- apA]; exact q3, by rw [<- q2]; exact q4⟩
       rw [hgo]
       conv=>lhs; unfold beGo
       rw [if_neg (by rw [lDr]; exact Nat.not_le_of_gt (Nat.lt_sub_of_add_lt hlt)), <- q1, List.drop_drop, apA]
       rfl
      have gd : ∀ k, (w.drop s).getD k 0 = w.getD (s + k) 0:=fun k=>by rw [List.getD_eq_getElem?_getD, List.getElem?_drop, <- List.getD_eq_getElem?_getD]
      have gi : ∀ i (h : i < w.length), w[i] = w.getD i 0:=fun i h=>by rw [List.getD_eq_getElem?_getD, gE h]; rfl
      walk_at "x"
      walk_at "S"
      rename Led _ _ _ _ _=>D6
      refine W.ifL (w.getD (s + (m - 3)) 0 = 61) D6 ?_ ?_ ?_
      ·walk_at "S"
       refine W.itemT (e3 ▸ Int.natCast_nonneg _) (show Int.toNat (_ - (2 : Nat)) < _ by rw [e3]; exact ltk 3) (zl _ (by exact lT hwl (by decide))) fun t9=>?_
       walk_at "S"
       refine ⟨?_, rfl, by assumption⟩
       rw [decide_eq_decide, litEq9, gi, show ((s : Int) + ((m : Int) - 1) - 2).toNat = s + (m - 3) from congrArg Int.toNat e3]
       simp
      ·intro h7 hq D7
       walk_at "x"
       have hc : cutLen m (w.drop s) = m - 3:=by unfold cutLen; rw [gd, if_pos hq]
       clear D6
       walk_at "S"
       refine W.callAp (a:=ab) (vs:=vs4) (n:=ml4) ?_
       walk_at "S"
       refine SlOn.str ‹_› (.inr ⟨_, _, rfl⟩) (.inr ⟨_, _, rfl⟩) (zl _ (by exact lT hwl (by decide))) fun h8 t8 D8=>?_
       rw [show cutL w (partOf (Value.int (s : Int) _)) (partOf (Value.int ((s : Int) + ((m : Int) - 1) - 1) _)) = (w.drop s).take (m - 3) ++ [61] from by
        show cutL w (some (s : Int)) (some ((s : Int) + ((m : Int) - 1) - 1)) = _
        rw [show (s : Int) + ((m : Int) - 1) - 1 = (s : Int) + ((m - 2 : Nat) : Int) from e2, cut_row _ _ _ (lO (ltk 2)), show m - 2 = (m - 3) + 1 from pm (lO hm), take_eq61 _ _ (by rw [gd]; exact hq)]]
       walk_at "S"
       refine ap_step D8 (.head _) (fun _=>.there .here) (by exact lT hv4 (by decide)) fun h9 m9 D9=>?_
       refine ⟨rfl, ?_⟩
       walk_at "S"
       refine fin (m - 3) _ _ _ _ _ _ hc.symm e3 (hSs4.append (Ss.cons Ss.nil)) (by assumption)
      ·intro h7 hq D7
       clear D6
       walk_at "x"
       walk_at "k"
       refine W.ifL (w.getD (s + (m - 2)) 0 = 61) D7 ?_ ?_ ?_
       ·walk_at "S"
        refine W.itemT (e2 ▸ Int.natCast_nonneg _) (show Int.toNat (_ - (1 : Nat)) < _ by rw [e2]; exact ltk 2) (zl _ (by exact lT hwl (by decide))) fun t9=>?_
        walk_at "S"
        refine ⟨?_, rfl, by assumption⟩
        rw [decide_eq_decide, litEq9, gi, show ((s : Int) + ((m : Int) - 1) - 1).toNat = s + (m - 2) from congrArg Int.toNat e2]
        simp
       ·intro h7 hq2 D7
        walk_at "x"
        have hc : cutLen m (w.drop s) = m - 2:=by unfold cutLen; rw [gd, gd, if_neg hq, if_pos hq2]
        walk_at "S"
        refine W.callAp (a:=ab) (vs:=vs4) (n:=ml4) ?_
        walk_at "S"
        refine SlOn.str ‹_› (.inr ⟨_, _, rfl⟩) (.inr ⟨_, _, rfl⟩) (zl _ (by exact lT hwl (by decide))) fun h8 t8 D8=>?_
        rw [show cutL w (partOf (Value.int (s : Int) _)) (partOf (Value.int ((s : Int) + ((m : Int) - 1)) _)) = (w.drop s).take (m - 2) ++ [61] from by
         show cutL w (some (s : Int)) (some ((s : Int) + ((m : Int) - 1))) = _
         rw [show (s : Int) + ((m : Int) - 1) = (s : Int) + ((m - 1 : Nat) : Int) from e1, cut_row _ _ _ (lO (ltk 1)), show m - 1 = (m - 2) + 1 from pm (lT (by decide) hm), take_eq61 _ _ (by rw [gd]; exact hq2)]]
        walk_at "S"
        refine ap_step D8 (.head _) (fun _=>.there .here) (by exact lT hv4 (by decide)) fun h9 m9 D9=>?_
        refine ⟨rfl, ?_⟩
        walk_at "S"
        refine fin (m - 2) _ _ _ _ _ _ hc.symm e2 (hSs4.append (Ss.cons Ss.nil)) (by assumption)
       ·intro h7 hq2 D7
        walk_at "x"
        have hc : cutLen m (w.drop s) = m - 1:=by unfold cutLen; rw [gd, gd, if_neg hq, if_neg hq2]
        walk_at "S"
        refine W.callAp (a:=ab) (vs:=vs4) (n:=ml4) ?_
        walk_at "S"
        refine SlOn.str ‹_› (.inr ⟨_, _, rfl⟩) (.inr ⟨_, _, rfl⟩) (zl _ (by exact lT hwl (by decide))) fun h8 t8 D8=>?_
        rw [show cutL w (partOf (Value.int (s : Int) _)) (partOf (Value.int ((s : Int) + ((m : Int) - 1)) _)) = (w.drop s).take (m - 1) from by
         show cutL w (some (s : Int)) (some ((s : Int) + ((m : Int) - 1))) = _
         rw [show (s : Int) + ((m : Int) - 1) = (s : Int) + ((m - 1 : Nat) : Int) from e1, cut_row _ _ _ (lO (ltk 1))]]
        walk_at "S"
        rotate_left
        ·exact zl _ (by rw [lTk, lDr, litEq9, lS]; exact lT (Nat.add_le_add_right (lT (Nat.min_le_left _ _) (lT (Nat.sub_le _ _) hm2)) 1) (by decide))
        rw [litEq9]
        refine ap_step ‹_› (.head _) (fun _=>.there .here) (by exact lT hv4 (by decide)) fun h9 m9 D9=>?_
        refine ⟨rfl, ?_⟩
        walk_at "S"
        refine fin (m - 1) _ _ _ _ _ _ hc.symm e1 (hSs4.append (Ss.cons Ss.nil)) (by assumption)
   ·intro h5' hlt D5
    walk_at "x"
    clear D4
    have hgo2 : beRows m w = rws ++ [w.drop s]:=by rw [hgo, beGo_done _ _ _ (by rw [lDr]; exact Nat.sub_le_of_le_add (Nat.le_of_not_lt hlt))]
    walk_at "S"
    refine W.ifL False (by assumption) ?_ (fun _ q _=>q.elim) ?_
    ·walk_at "S"
     refine W.trs (zl _ (by exact lT hwl (by decide))) ?_
     refine ifSplit (fun hc=>?_) (fun hc=>?_)
     ·have hw0 : w ≠ []:=fun e=>by rw [e] at hc; cases hc
      have hlast:=hw2 (w.getLast hw0) (gL hw0)
      walk_at "S"
      refine W.lastT hw0 (zl _ (by exact lT hwl (by decide))) fun t7=>?_
      walk_at "S"
      rw [litSp]
      refine W.inS ((in_ws _ hlast.1).trans (decide_eq_false (by intro q; rcases q with q | q; exact hlast.2.1 q; exact hlast.2.2 q))) ?_
      walk_at "S"
      exact ⟨rfl, rfl, by assumption⟩
     ·exact ⟨rfl, rfl, by assumption⟩
    ·intro h7 _ D7
     walk_at "x"
     walk_at "S"
     refine W.callAp (a:=ab) (vs:=vs4) (n:=ml4) ?_
     walk_at "S"
     refine SlOn.str ‹_› (.inr ⟨_, _, rfl⟩) (.inl rfl) (zl _ (by exact lT hwl (by decide))) fun h8 t8 D8=>?_
     rw [show cutL w (partOf (Value.int (s : Int) _)) (partOf .none) = w.drop s from cutL_from _ _ (by omega)]
     walk_at "S"
     refine ap_step D8 (.head _) (fun _=>.there .here) (by exact lT hv4 (by decide)) fun h9 m9 D9=>?_
     refine ⟨rfl, ?_⟩
     walk_at "S"
     refine ⟨_, _, by assumption, _, _, _, _, _, _, ?_⟩
     rw [etk, hgo2, <- apA]
     exact hSs4.append (Ss.cons Ss.nil)
 ·rintro h f l g' ⟨vs2, ml, lo, so, la, st, hSs⟩ D
  have el : vls.length = ls.length:=hsl.len
  rw [el, List.take_length] at hSs
  walk_at "x"
  walk_at "S"
  have hx0 : x.flatMap spellNL ≠ []:=by
   cases hq : x with
   | nil=>exact absurd hq hP
   | cons a l =>
    rw [fC]
    unfold spellNL spelled
    split
    ·simp
    ·split <;> simp
  have hlk : (x.flatMap spellNL).getLastD 0 = (x.flatMap spellNL).getLast hx0:=by
   rw [List.getLastD_eq_getLast?, gL hx0]; rfl
  have hk:=z6 _ (gL hx0)
  have eB : beAll m x = ls.flatMap (beRows m) ++ (if (x.flatMap spellNL).getLast hx0 = 10 \/ (x.flatMap spellNL).getLast hx0 = 13 then [[]] else []):=by
   unfold beAll; rw [hls, hlk]
  have eF : encF m eol x = eol.intercalate (beAll m x):=if_neg hP
  have hle : vs2.length <= 100000:=by
   have e1:=hSs.len
   rw [eB, lA] at z4; rw [e1]; exact lT (Nat.le_add_right _ _) z4
  refine W.ifL ((x.flatMap spellNL).getLast hx0 = 10 \/ (x.flatMap spellNL).getLast hx0 = 13) (by assumption) ?_ ?_ ?_
  ·walk_at "S"
   refine W.lastT hx0 (zl _ (by exact lT z8 (by decide))) fun t7=>?_
   walk_at "S"
   refine W.inS (in_crlf _ hk) ?_
   walk_at "S"
   exact ⟨rfl, rfl, by assumption⟩
  ·intro h7 hq D7
   walk_at "x"
   walk_at "S"
   refine W.callAp (a:=ab) (vs:=vs2) (n:=ml) ?_
   walk_at "S"
   rw [litE9]
   refine ap_step ‹_› (.head _) (fun _=>.there .here) (by exact lT hle (by decide)) fun h9 m9 D9=>?_
   refine ⟨rfl, ?_⟩
   walk_at "S"
   rename Led _ _ _ _ _=>D9
   refine W.join (xs:=beAll m x) (D9.get (.tail _ (.head _))) (by rw [eB, if_pos hq]; exact hSs.append (Ss.cons Ss.nil)) z5 fun t9=>?_
   rw [<- eF]
   repeat walk_at "u"
   exact y _ _ (S2.trans D9.sub)
  ·intro h7 hq D7
   walk_at "x"
   walk_at "S"
   rename Led _ _ _ _ _=>D9
   refine W.join (xs:=beAll m x) (D9.get (.tail _ (.head _))) (by rw [eB, if_neg hq, apN]; exact hSs) z5 fun t9=>?_
   rw [<- eF]
   repeat walk_at "u"
   exact y _ _ (S2.trans D9.sub)
structure BeOk (m : Nat) (eol x : List Nat) : Prop where
 hx : ∀ k ∈ x, k < 256
 z1 : x.length <= 10000
 z2 : (linesN [] (x.flatMap spellNL)).length <= 10000
 z3 : ∀ l ∈ linesN [] (x.flatMap spellNL), l.length <= 10000 /\ ∀ s, l.getLast? = some s -> s < 128 /\ s ≠ 32 /\ s ≠ 9
 z4 : (beAll m x).length <= 100000
 z5 : ((beAll m x).map (·.length)).sum + (beAll m x).length * eol.length <= 16777216
 z6 : ∀ k, (x.flatMap spellNL).getLast? = some k -> k < 128
 z8 : (x.flatMap spellNL).length <= 100000
noncomputable def foldSt (x : List Nat) (room : Nat) (sp : List Nat) : List Pr × List (List Nat):=foldA room sp (chunksOf (encF 999 [10] x))
noncomputable def foldedF (x : List Nat) (room : Nat) (sp en : List Nat) : List Nat:=([61] ++ en).intercalate (newl (fitted (foldSt x room sp).1) (foldSt x room sp).2)
structure FoldOk (x : List Nat) (room : Nat) (sp en : List Nat) : Prop where
 be : BeOk 999 [10] x
 hx : (encF 999 [10] x).length <= 10000
 hz : total (foldSt x room sp).1 <= 50000
 hxl : (foldSt x room sp).1.length <= 40000
 hll : (foldSt x room sp).2.length <= 100000
 hlm : ∀ y ∈ (foldSt x room sp).2, y.length <= 50000
 hok : ∀ p ∈ (foldSt x room sp).1, okS p.1 /\ okS p.2
 hj : ((newl (fitted (foldSt x room sp).1) (foldSt x room sp).2).map (·.length)).sum + (newl (fitted (foldSt x room sp).1) (foldSt x room sp).2).length * ([61] ++ en).length <= 16777216
theorem litE10 : (Str.ofString "").cps.toList = []:=by kernel_rfl
theorem litS10 : (Str.ofString " ").cps.toList = [32]:=by kernel_rfl
theorem litQ10 : (Str.ofString "=").cps.toList = [61]:=by kernel_rfl
set_option maxHeartbeats 1000000 in
theorem folded_spec {c : Cx} {A : Around} {G h : Heap} {g : Gs} {x sp en : List Nat} {room : Nat} {t1 t2 t3 t4 : Tok} {ps qs : Array Value} {Q : PV} (X : TopIn c.w.params G) (S : Sub G h) (O : Own G h [(162, tabO ps), (169, tabO qs)]) (hp : TriplesOk ps.toList) (hq : TriplesOk qs.toList) (r : Room A 13)
  (B : FoldOk x room sp en) (hs1 : sp.length <= 1) (hen : en.length <= 2)
  (k : ∀ h' g' ps' qs' t, Sub G h' -> Own G h' [(162, tabO ps'), (169, tabO qs')] -> TriplesOk ps'.toList -> TriplesOk qs'.toList -> (AllBare g -> AllBare g') -> Q (.str (T (foldedF x room sp en)) t) h' g') :
  WC c A (.call (.ref 301) ⟨[.str (T x) t1, .int room t2, .str (T sp) t3, .str (T en) t4], []⟩) Q h g:=by
 refine enterF (k:=12) 301 (o301 c.w.params) (bodyOf (topSt 36)) [("line", .str (T x) t1), ("room", .int room t2), ("splitter", .str (T sp) t3), ("ending", .str (T en) t4)] [Str.ofString "maker"] [("ending", some (.str (T en) t4)), ("splitter", some (.str (T sp) t3)), ("room", some (.int room t2)), ("line", some (.str (T x) t1)), ("maker", none)] X S O r rfl (fun s _=>BindsTo.of_eq (by kernel_rfl)) ?_
 intro h₁ L D r' hL
 walk_at "x"
 walk_at "k"
 refine W.assignN (by decide) ?_
 refine W.call_ ?_
 refine W.glob (x:=Str.ofString "_ValueFormatter") (v:=.ref 116) X D (by kernel_rfl) ?_
 refine W.callC X ?_ D.sub
 walk_at "S"
 walk_at "X"
 rename Led _ _ _ _ _=>D2
 refine ⟨D2.sub, ?_⟩
 rw [litS10]
 refine xa3 (Led.lend (r:=[]) (by rw [apN]; exact D2)) fun a1 a2 a3 a4=>?_
 refine newVF_spec (X.keeps a3) a1 a2 hp hq (r'.less (by simp)) fun h3 mk dk y dy la od vs n od2 ps3 qs3 t5 S3 O3 d3 F3 T3=>?_
 have D3:=a4 _ _ S3 O3
 rw [apN] at D3
 clear a1 a2 a3 a4 D2
 refine W.wr D3 (.there (.there (.there (.there .here)))) fun h4 D4=>?_
 clear D3
 obtain rfl : vs = []:=by
  have:=T3.len
  exact List.length_eq_zero_iff.mp this
 refine xea2 (Led.freeze (l1:=FmtL y dy la [] n od2 ps3 qs3 [] 0) (l2:=[(dk, od)]) D4) fun G1 S1 e1 D5=>?_
 clear D4
 refine xea2 (Led.freeze (l1:=FmtL y dy la [] n od2 ps3 qs3 [] 0) (l2:=[]) D5) fun G2 S2 e2 D6=>?_
 clear D5
 rw [apN] at D6
 have FG : FmtG G2 mk dk (fF room t2 sp _ t5 t3 la y):=⟨od, ⟨S2 _ _ e1, e2, rfl, rfl, rfl⟩, d3⟩
 have X2 : TopIn c.w.params G2:=X.keeps (S1.trans S2)
 walk_at "k"
 refine W.exprAny ?_
 refine W.meth ?_
 refine W.rd D6 (.there (.there (.there (.there .here)))) ?_
 refine W.fmeth (fa:=106) X2 D6.sub FG rfl ?_
 refine W.callF1 (o:=o106 c.w.params) X2 ?_ (by kernel_rfl) (by kernel_rfl)
 walk_at "S"
 rename Led _ _ _ _ _=>D6
 rename TopIn _ _=>X2
 rename_i t0
 refine W.callF (o:=o255 c.w.params) X2 ?_ (by kernel_rfl) (by kernel_rfl)
 walk_at "S"
 rename TopIn _ _=>X2
 rename Led _ _ _ _ _=>D6
 refine xa3 (Led.lend (l:=[]) D6) fun b1 b2 b3 b4=>?_
 refine ⟨D6.sub, be_spec (x:=x) (eol:=[10]) (m:=999) (t2:=531) (X2.keeps b3) b1 (r'.less (by simp)) (fun s hs=>BindsTo.of_defaults (T:=248) (o:=o248 c.w.params) (by kernel_rfl) (hs ▸ (X2.keeps D6.sub) _ _ (by kernel_rfl : (KM c.w.params).lookup 248 = some (o248 c.w.params))) rfl rfl rfl) (by decide) (by decide) B.be.hx B.be.z1 B.be.z2 B.be.z3 B.be.z4 B.be.z5 B.be.z6 (by decide) B.be.z8 fun h7 t7 S7=>?_⟩
 have D7:=b4 h7 [] S7 Own.nil
 rw [List.nil_append] at D7
 clear b1 b2 b3 b4 D6
 walk_at "S"
 rename TopIn _ _=>X2
 rename Led _ _ _ _ _=>D7
 refine ⟨D7.sub, ?_⟩
 rw [litE10]
 refine xea3 (Led.lendF (Np:=fun _=>False) (r:=[]) (by rw [apN]; exact D7) F3 (Tups.nil) Ss.nil rfl) fun G3 c1 c2 c3 c4=>?_
 refine split_spec (w:=t0) (X2.keeps c2) c1 (FG.keeps c2) rfl rfl rfl rfl hs1 rfl B.hx c3 (r'.less (by simp)) fun h8 g8 S8 I8 b8=>?_
 refine xe8a4 (c4 _ _ _ S8 I8) fun G4 vs4 n4 od4 ps4 qs4 vl4 ml4 d1 D8 F8 T8 Z8=>?_
 rw [apN] at D8
 clear c1 c2 c3 c4 D7
 have X4 : TopIn c.w.params G4:=X2.keeps d1
 have FG4:=FG.keeps d1
 clear X2 FG
 walk_at "k"
 refine W.ret ?_
 refine W.meth ?_
 refine W.rd D8 (.there (.there (.there (.there .here)))) ?_
 refine W.fmeth (fa:=64) X4 D8.sub FG4 rfl ?_
 refine W.callF1 (o:=o64 c.w.params) X4 ?_ (by kernel_rfl) (by kernel_rfl)
 walk_at "S"
 rotate_left
 ·rw [litQ10, lS, sE]; lia
 rename TopIn _ _=>X4
 rename Led _ _ _ _ _=>D8
 rw [litQ10]
 refine ⟨D8.sub, ?_⟩
 refine xea3 (Led.lendF (r:=[]) (by rw [apN]; exact D8) F8 T8 Z8 rfl) fun G5 c1 c2 c3 c4=>?_
 refine strF_spec (X4.keeps c2) c1 (FG4.keeps c2) rfl rfl rfl c3 (r'.less (by simp)) B.hz B.hxl B.hll B.hlm B.hok (fun _ q=>q.elim) B.hj fun h9 g9 t9 xs9 ls9 S9 I9 b9=>?_
 obtain ⟨vs9, n9, od9, ps9, qs9, vl9, ml9, O9, F9, T9, Z9⟩:=I9
 have S0 : Sub G G5:=S1.trans (S2.trans (d1.trans c2))
 have O10 : Own G h9 [(162, tabO ps9), (169, tabO qs9)]:=by
  have O9':=O9.base S0
  refine ⟨fun p hp=>O9'.at_ p ?_, ?_⟩
  ·rcases lmc hp with rfl | hp
   ·exact .tail _ (.tail _ (.head _))
   ·rcases lmc hp with rfl | hp
    ·exact .tail _ (.tail _ (.tail _ (.head _)))
    ·cases hp
  ·show [162, 169].Nodup
   decide
 walk_at "n"
 exact k h9 g9 ps9 qs9 t9 (S0.trans S9) O10 F9.p F9.q fun q=>b9 (b8 q)
noncomputable def sgn : List Nat:=[97, 32, 61, 68, 9, 233, 10, 32, 12, 205, 95]
noncomputable def signOf (n : Int) : Nat:=if n % 12 < 11 then sgn.getD (n % 12).toNat 0 else if n / 12 % 256 = 13 then 10 else (n / 12 % 256).toNat
noncomputable def laid (n : Int) : List Nat:=signOf n :: List.replicate (n / 12 % 4).toNat 97
theorem lit1 : (Str.ofString "a =D\té\n \x0cÍ_").cps.toList = sgn:=by kernel_rfl
theorem litA : (Str.ofString "a").cps.toList = [97]:=by kernel_rfl
theorem litN : (Str.ofString "\n").cps.toList = [10]:=by kernel_rfl
theorem laid_spec {c : Cx} {A : Around} {G h : Heap} {g : Gs} {n : Int} {t : Tok} {Q : PV} (X : TopIn c.w.params G) (S : Sub G h) (r : Room A 1)
  (y : ∀ h' t, Sub G h' -> Q (.str (T (laid n)) t) h' g) : WC c A (.call (.ref 270) ⟨[.int n t], []⟩) Q h g:=by
 refine enter (o:=o270 c.w.params) (fd:=fnD (topSt 31) _ _ 3 [] .none .none .none _ (.ref 269) .none 0) (body:=bodyOf (topSt 31)) (binds:=[("number", .int n t)]) (f0:=[("number", some (.int n t)), ("figure", none), ("octet", none), ("sign", none)]) (k:=0) X S Own.nil r (by kernel_rfl) rfl (by kernel_rfl) rfl (fun s _=>BindsTo.of_eq (by kernel_rfl)) (by kernel_rfl) (by kernel_rfl) (by kernel_rfl) [Str.ofString "figure", Str.ofString "octet", Str.ofString "sign"] rfl (by kernel_rfl) ?_
 intro h₁ L D r' hL
 walk_at "x"
 have b1 : 0 <= n % 12 /\ n % 12 < 12:=⟨Int.emod_nonneg _ (by decide), Int.emod_lt_of_pos _ (by decide)⟩
 have b2 : 0 <= n / 12 % 4 /\ n / 12 % 4 < 4:=⟨Int.emod_nonneg _ (by decide), Int.emod_lt_of_pos _ (by decide)⟩
 have t2 : (n / 12 % 4).toNat <= 4:=Int.toNat_le.mpr (Int.le_of_lt b2.2)
 have b3 : 0 <= n / 12 % 256 /\ n / 12 % 256 < 256:=⟨Int.emod_nonneg _ (by decide), Int.emod_lt_of_pos _ (by decide)⟩
 have e2 : ∀ k, (List.replicate k [97]).flatten = List.replicate k 97:=fun k=>by induction k with
  | zero=>rfl
  | succ k ih=>rw [List.replicate_succ, fCo, ih]; rfl
 walk_at "S"
 refine W.if_ ?_
 walk_at "S"
 refine ifSplit (fun hc=>?_) (fun hc=>?_)
 ·rw [decide_eq_true_iff] at hc
  walk_at "S"
  have hl : (n % 12).toNat < (Str.ofString "a =D\té\n \x0cÍ_").cps.toList.length:=by rw [lit1]; exact (Int.toNat_lt b1.1).mpr hc
  refine W.itemT b1.1 hl (by rw [lit1]; decide) ?_
  intro t1
  walk_at "S"
  any_goals (simp only [litA, lC, List.length_nil, e2, List.length_replicate, sE]; first | exact lT (Nat.mul_le_mul_left _ t2) (by decide) | exact lT (Nat.add_le_add_left t2 _) (by decide))
  all_goals first | exact b2.1 | exact Int.le_trans (Int.le_of_lt b2.2) (by decide) | skip
  show Q (.str (T _) _) _ _
  refine toQ ?_ (y _ _ (Led.sub ‹_›))
  rw [litA, e2]
  unfold laid signOf
  rw [if_pos hc]
  have : (Str.ofString "a =D\té\n \x0cÍ_").cps.toList[(n % 12).toNat] = sgn.getD (n % 12).toNat 0:=by
   rw [List.getD_eq_getElem?_getD, <- lit1, gE hl]; rfl
  rw [this]; rfl
 ·rw [decide_eq_false_iff_not] at hc
  walk_at "S"
  refine W.if_ ?_
  walk_at "S"
  refine ifSplit (fun hd=>?_) (fun hd=>?_)
  ·walk_at "S"
   any_goals (simp only [litA, litN, lC, List.length_nil, e2, List.length_replicate, sE]; first | exact lT (Nat.mul_le_mul_left _ t2) (by decide) | exact lT (Nat.add_le_add_left t2 _) (by decide))
   all_goals first | exact b2.1 | exact Int.le_trans (Int.le_of_lt b2.2) (by decide) | skip
   show Q (.str (T _) _) _ _
   refine toQ ?_ (y _ _ (Led.sub ‹_›))
   rw [litA, litN, e2]
   unfold laid signOf
   rw [if_neg hc, if_pos (eq_of_beq hd)]; rfl
  ·walk_at "S"
   any_goals (simp only [litA, litN, lC, List.length_nil, e2, List.length_replicate, sE]; first | exact lT (Nat.mul_le_mul_left _ t2) (by decide) | exact lT (Nat.add_le_add_left t2 _) (by decide))
   all_goals first | exact b2.1 | exact Int.le_trans (Int.le_of_lt b2.2) (by decide) | exact b3.1 | exact Int.le_trans (Int.le_of_lt b3.2) (by decide) | skip
   show Q (.str (T _) _) _ _
   refine toQ ?_ (y _ _ (Led.sub ‹_›))
   rw [litA, e2]
   unfold laid signOf
   rw [if_neg hc, if_neg (by simpa using hd)]; rfl
noncomputable abbrev wsP (x : List Nat) : Prop:=x = [32] \/ x = [9]
noncomputable abbrev atPlace (xs : List (List Nat)) (sp : List Nat) (p : Nat) : Prop:=wsP (xs.getD p []) /\ ¬ wsP (xs.getD (p - 1) []) /\ (sp = xs.getD p [] \/ sp = [(xs.getD (p - 1) []).getLastD 0])
noncomputable def placesTo (xs : List (List Nat)) (sp : List Nat) (n : Nat) : List Int:=((List.range n).map (· + 1)).filterMap fun p=>if atPlace xs sp p then some (p : Int) else none
theorem placesTo_succ (xs sp n) : placesTo xs sp (n + 1) = placesTo xs sp n ++ (if atPlace xs sp (n + 1) then [((n + 1 : Nat) : Int)] else []):=by
 unfold placesTo
 rw [List.range_succ, List.map_append, List.filterMap_append]
 congr 1
 show List.filterMap _ [n + 1] = _
 rw [List.filterMap_cons]
 by_cases h : atPlace xs sp (n + 1)
 ·rw [if_pos h, if_pos h]; rfl
 ·rw [if_neg h, if_neg h]; rfl
noncomputable def placesOf (xs : List (List Nat)) (sp : List Nat) : List Int:=placesTo xs sp (xs.length - 1)
theorem placesTo_len (xs sp n) : (placesTo xs sp n).length <= n:=by
 unfold placesTo
 refine lT (List.length_filterMap_le _ _) ?_
 simp
theorem lastD_eq (x : List Nat) (h : x ≠ []) : x.getLastD 0 = x.getLast h:=by
 rw [List.getLastD_eq_getLast?, gL h]; rfl
theorem places_spec {c : Cx} {A : Around} {G h : Heap} {g : Gs} {a : Addr} {vs : List Value} {m : Nat} {xs : List (List Nat)} {sp : List Nat} {t : Tok} {Q : PV} (X : TopIn c.w.params G) (S : Sub G h) (r : Room A 1)
  (ea : G.get? a = some (lst vs m)) (hs : Ss vs xs) (hne : ∀ x ∈ xs, x ≠ [] /\ x.length <= 3) (hlen : xs.length <= 1000)
  (y : ∀ h' D m vs', Sub G h' -> Own G h' [(D, lst vs' m)] -> Is vs' (placesOf xs sp) -> Q (.ref D) h' g) : WC c A (.call (.ref 284) ⟨[.ref a, .str (T sp) t], []⟩) Q h g:=by
 refine enterF (k:=0) 284 (o284 c.w.params) (bodyOf (topSt 33)) [("pieces", .ref a), ("splitter", .str (T sp) t)] [Str.ofString "places", Str.ofString "p"] [("splitter", some (.str (T sp) t)), ("pieces", some (.ref a)), ("places", none), ("p", none)] X S Own.nil r rfl (fun s _=>BindsTo.of_eq (by kernel_rfl)) ?_
 intro h₁ L D r' hL
 walk_at "x"
 have e1:=hs.len
 walk_at "S"
 refine W.newl (by assumption) (by decide) fun h2 aP D2=>?_
 clear D
 walk_at "S"
 refine W.for_ ?_
 walk_at "S"
 refine W.lenl (Led.sub ‹_› _ _ ea) (by rw [sE, e1]; exact lT hlen (by decide)) fun t1=>?_
 walk_at "S"
 refine W.range2 (by assumption) fun h3 rr v D3 hr=>?_
 refine W.forRange r'.hh D3 hr (xs.length - 1) (by
  rw [<- e1]; split
  ·next q=>exact Int.ofNat_sub (Int.ofNat_le.mp (show ((1 : Nat) : Int) <= _ from Int.le_of_lt q))
  ·next q=>exact congrArg Int.ofNat (Nat.sub_eq_zero_of_le (Nat.le_of_not_lt fun z=>q (Int.ofNat_lt.mpr z)))) ⟨by decide, by decide, Int.le_trans (by decide) (Int.natCast_nonneg _), Int.lt_of_le_of_lt (Int.ofNat_le.mpr (e1 ▸ hlen : vs.length <= 1000)) (by decide)⟩
  (fun i f l g'=>g' = g /\ ∃ m' vs' po, f = [(Str.ofString "splitter", some (.str (T sp) t)), (Str.ofString "pieces", some (.ref a)), (Str.ofString "places", some (.ref aP)), (Str.ofString "p", po)] /\ l = [(aP, lst vs' m')] /\ Is vs' (placesTo xs sp i))
  ⟨rfl, _, _, _, rfl, rfl, Is.nil⟩ ?_ ?_
 ·rintro i t2 G' h f l g' hi SG ⟨rfl, m', vs', po, rfl, rfl, hI⟩ D
  have ea':=SG _ _ ea
  have b1 : i + 1 < xs.length:=by omega
  have hi3 : (i : Int) <= (1000 : Nat):=Int.ofNat_le.mpr (lT (lO (Nat.lt_of_succ_lt b1)) hlen)
  have q1 : 0 <= 1 + (i : Int):=Int.natCast_nonneg (1 + i)
  have q2 : 1 + (i : Int) < 2 ^ 63:=Int.lt_of_le_of_lt (Int.add_le_add_left hi3 1) (by decide)
  have q3 : 1 + (i : Int) - 1 = i:=by rw [Int.add_comm, Int.add_sub_cancel]
  have q4 : 0 <= 1 + (i : Int) - 1:=by rw [q3]; exact Int.natCast_nonneg i
  have q5 : 1 + (i : Int) - 1 < 2 ^ 63:=by rw [q3]; exact Int.lt_of_le_of_lt hi3 (by decide)
  have b0 : i < xs.length:=by exact lO (by assumption)
  obtain ⟨u1, k1⟩:=hs.at (gE b1)
  obtain ⟨u0, k0⟩:=hs.at (gE b0)
  have g1 : xs.getD (i + 1) [] = xs[i + 1]:=by simp [List.getD, b1]
  have g0 : xs.getD (i + 1 - 1) [] = xs[i]:=by simp [List.getD, b0]
  have tab : ∀ t t', Ss [.str (T (Str.ofString " ").cps.toList) t, .str (T (Str.ofString "\t").cps.toList) t'] [[32], [9]]:=fun t t'=>Ss.cons (x:=[32]) (Ss.cons (x:=[9]) Ss.nil)
  have dws : ∀ x : List Nat, decide (x ∈ [[32], [9]]) = decide (wsP x):=fun x=>by unfold wsP; congr 1; simp
  have ln : ∀ x ∈ xs, x.length <= sizeLine:=fun x hx=>by rw [sE]; have:=(hne x hx).2; exact lT this (by decide)
  walk_at "S"
  refine W.ifL (wsP xs[i + 1] /\ ¬ wsP xs[i]) (by assumption) ?_ ?_ ?_
  ·walk_at "S"
   refine W.iteml (Led.sub ‹_› _ _ ea') q1 q2 (by rw [show (1 + (i : Int)).toNat = i + 1 from Nat.add_comm _ _]; exact k1) ?_
   walk_at "S"
   refine W.newt0 (by assumption) (by simp [sE]) fun h4 a4 D4 it4=>?_
   refine W.intup it4 (tab _ _) ?_
   walk_at "S"
   rw [dws]
   refine ifSplit (fun hc=>?_) (fun hc=>?_)
   ·rw [decide_eq_true_iff] at hc
    walk_at "S"
    refine W.iteml (Led.sub ‹_› _ _ ea') q4 q5 (by rw [q3]; exact k0) ?_
    walk_at "S"
    refine W.newt0 (by assumption) (by simp [sE]) fun h5 a5 D5 it5=>?_
    refine W.nintup it5 (tab _ _) ?_
    walk_at "S"
    rw [dws]
    refine ifSplit (fun hd=>?_) (fun hd=>?_)
    ·walk_at "S"
     refine ⟨?_, rfl, by assumption⟩
     rw [Bool.not_eq_true'] at hd
     exact (decide_eq_true ⟨hc, of_decide_eq_false hd⟩).symm
    ·refine ⟨?_, rfl, by assumption⟩
     rw [Bool.not_eq_false'] at hd
     exact (decide_eq_false fun q=>q.2 (of_decide_eq_true hd)).symm
   ·rw [decide_eq_false_iff_not] at hc
    exact ⟨(decide_eq_false fun q=>hc q.1).symm, rfl, by assumption⟩
  ·intro h4 hp D4
   walk_at "S"
   refine W.ifL (sp = xs[i + 1] \/ sp = [xs[i].getLast (hne _ (List.getElem_mem b0)).1]) (by assumption) ?_ ?_ ?_
   ·walk_at "S"
    refine W.iteml (Led.sub ‹_› _ _ ea') q1 q2 (by rw [show (1 + (i : Int)).toNat = i + 1 from Nat.add_comm _ _]; exact k1) ?_
    walk_at "S"
    refine W.iteml (Led.sub ‹_› _ _ ea') q4 q5 (by rw [q3]; exact k0) ?_
    walk_at "S"
    refine W.lastT (hne _ (List.getElem_mem b0)).1 (ln _ (List.getElem_mem b0)) fun t5=>?_
    walk_at "S"
    refine W.newt0 (by assumption) (by simp [sE]) fun h5 a5 D5 it5=>?_
    refine W.intup it5 (Ss.cons (Ss.cons Ss.nil)) ?_
    walk_at "S"
    exact ⟨by congr 1; simp, rfl, by assumption⟩
   ·intro h5 hq D5
    walk_at "S"
    refine W.mApp (Led.get ‹_› (.head _)) ?_
    walk_at "S"
    refine W.app (Led.get ‹_› (.head _)) (by have:=hI.len; have:=placesTo_len xs sp i; rw [sE]; lia) fun h6 m6 e6 k6=>?_
    refine ⟨rfl, ?_⟩
    walk_at "S"
    have D6:=Led.upd (by assumption : Led G' L _ _ [(aP, lst vs' m')]) .here e6 k6
    refine ⟨_, _, D6, rfl, _, _, _, rfl, rfl, ?_⟩
    have ap : atPlace xs sp (i + 1):=⟨g1 ▸ hp.1, g0 ▸ hp.2, by
     rw [g1, g0]
     rcases hq with hq | hq
     ·exact .inl hq
     ·right; rw [lastD_eq]; exact hq⟩
    rw [placesTo_succ, if_pos ap]
    refine hI.append ?_
    rw [show ((i + 1 : Nat) : Int) = 1 + (i : Int) by lia]
    exact Is.cons Is.nil
   ·intro h5 hq D5
    walk_at "S"
    refine ⟨_, _, (by assumption), rfl, _, _, _, rfl, rfl, ?_⟩
    rw [placesTo_succ, if_neg, apN]
    ·exact hI
    ·rintro ⟨_, _, q⟩
     rw [g1, g0] at q
     refine hq (q.imp id fun q=>?_)
     rw [lastD_eq _ (hne _ (List.getElem_mem b0)).1] at q; exact q
  ·intro h4 hp D4
   walk_at "S"
   refine ⟨_, _, (by assumption), rfl, _, _, _, rfl, rfl, ?_⟩
   rw [placesTo_succ, if_neg, apN]
   ·exact hI
   ·rintro ⟨q1, q2, _⟩
    rw [g1] at q1; rw [g0] at q2
    exact hp ⟨q1, q2⟩
 ·rintro h f l g' ⟨rfl, m', vs', po, rfl, rfl, hI⟩ D
  walk_at "S"
  exact y _ _ _ _ (Led.sub ‹_›) (Led.own ‹_›) hI
noncomputable def maxApp (ks : List Nat) (k room : Nat) : List Nat:=match ks.getLast? with | none=>[k] | some j=>if j + k <= room then ks.dropLast ++ [j + k] else ks ++ [k]
noncomputable def bar (k : Nat) : List Nat:=List.replicate k 120
theorem bar_len (k : Nat) : (bar k).length = k:=by simp [bar]
theorem bar_head (k : Nat) : ∀ c, (bar k).head? = some c -> Unicode.isSpace c = false:=by
 intro c h
 cases k with
 | zero=>simp [bar] at h
 | succ k=>simp [bar, List.replicate_succ] at h; subst h; decide
theorem Ss.dropLast {vs xs} (h : Ss vs xs) : Ss vs.dropLast xs.dropLast:=by
 rw [List.dropLast_eq_take, List.dropLast_eq_take, h.len]; exact h.take _
theorem Ss.last {vs xs} (h : Ss vs xs) {x} (e : xs.getLast? = some x) : ∃ t, vs.getLast? = some (.str (T x) t):=by
 rw [List.getLast?_eq_getElem?] at e ⊢
 rw [h.len]; exact h.at e
theorem maxapp_spec {c : Cx} {A : Around} {G h : Heap} {g : Gs} {b : Addr} {vs : List Value} {m : Nat} {ks : List Nat} {k room : Nat} {t u : Tok} {Q : PV} (X : TopIn c.w.params G) (S : Sub G h) (r : Room A 1)
  (O : Own G h [(b, lst vs m)]) (hs : Ss vs (ks.map bar)) (hz : ks.length <= 1000) (hk : ∀ x ∈ ks, x <= 1000) (hk' : k <= 1000) (hr : room <= 1000)
  (y : ∀ h' m vs', Sub G h' -> Own G h' [(b, lst vs' m)] -> Ss vs' ((maxApp ks k room).map bar) -> Q .none h' g) : WC c A (.call (.ref 228) ⟨[.ref b, .str (T (bar k)) t, .int room u], []⟩) Q h g:=by
 refine enterF (k:=0) 228 (o228 c.w.params) (bodyOf (topSt 22)) [("L", .ref b), ("s", .str (T (bar k)) t), ("maxlen", .int room u), ("extra", .str (T []) 2075)] [] [("extra", some (.str (T []) 2075)), ("maxlen", some (.int room u)), ("s", some (.str (T (bar k)) t)), ("L", some (.ref b))] X S O r rfl (fun s hs=>BindsTo.of_defaults (T:=221) (o:=o221 c.w.params) (by kernel_rfl) (hs ▸ (X.keeps S) _ _ (by kernel_rfl : (KM c.w.params).lookup 221 = some (o221 c.w.params))) rfl rfl rfl) ?_
 intro h₁ L D r' hL
 walk_at "x"
 have e1:=hs.len
 have e2 : vs.length = ks.length:=by simpa using e1
 have zl : ∀ n, n <= 3000 -> n <= sizeLine:=fun n h=>by rw [sE]; exact lT h (by decide)
 walk_at "S"
 refine W.if_ ?_
 walk_at "S"
 refine iteF ?_
 walk_at "S"
 have fin : ∀ (h' : Heap) (f : Fm) m' vs', Led G L h' f [(b, lst vs' m')] -> Ss vs' ((maxApp ks k room).map bar) -> Q .none h' g:=fun h' f m' vs' D q=>y _ _ _ D.sub D.own q
 refine W.if_ ?_
 walk_at "S"
 refine W.trl (Led.get ‹_› (.head _)) (zl _ (by lia)) ?_
 refine ifSplit (fun hc=>?_) (fun hc=>?_)
 ·have hv : vs = []:=by simpa using hc
  have hk0 : ks = []:=by rw [<- List.length_eq_zero_iff, <- e2, hv]; rfl
  walk_at "S"
  refine W.mApp (Led.get ‹_› (.head _)) ?_
  walk_at "S"
  refine W.lstrip (zl _ (by rw [bar_len]; exact lT hk' (by decide))) (bar_head k) fun t1=>?_
  walk_at "S"
  refine W.app (Led.get ‹_› (.head _)) (zl _ (by lia)) fun h6 m6 e6 k6=>⟨rfl, ?_⟩
  have D6:=Led.upd (by assumption : Led G L _ _ [(b, lst vs m)]) .here e6 k6
  walk_at "S"
  refine fin _ _ _ _ D6 ?_
  subst hk0
  rw [hv]
  exact Ss.cons Ss.nil
 ·have hv : vs ≠ []:=by simpa using hc
  obtain ⟨j, ej⟩ : ∃ j, ks.getLast? = some j:=by
   cases e : ks.getLast? with
   | none=>rw [List.getLast?_eq_none_iff] at e; subst e; exact absurd (List.length_eq_zero_iff.mp e2) hv
   | some j=>exact ⟨j, rfl⟩
  have hj : j <= 1000:=hk j (List.mem_of_getLast? ej)
  obtain ⟨u1, eu⟩:=hs.last (x:=bar j) (by rw [List.getLast?_map, ej]; rfl)
  walk_at "S"
  refine W.if_ ?_
  walk_at "S"
  refine W.lastl (Led.get ‹_› (.head _)) eu ?_
  walk_at "S"
  rotate_left
  ·exact zl _ (by rw [bar_len]; exact lT hj (by decide))
  ·exact zl _ (by rw [bar_len]; exact lT hk' (by decide))
  rw [bar_len, bar_len]
  refine ifSplit (fun hd=>?_) (fun hd=>?_)
  ·have hd : j + k <= room:=by have:=of_decide_eq_true hd; lia
   walk_at "S"
   refine W.getLast (Led.get ‹_› (.head _)) eu ?_
   walk_at "S"
   refine W.iaddT (zl _ (by simp [bar_len]; lia)) fun t2=>?_
   refine W.setLast (Led.get ‹_› (.head _)) hv fun h6 e6 k6=>?_
   have D6:=Led.upd (by assumption : Led G L _ _ [(b, lst vs m)]) .here e6 k6
   walk_at "S"
   refine fin _ _ _ _ D6 ?_
   unfold maxApp
   rw [ej]
   dsimp only
   rw [if_pos hd, List.map_append, List.map_dropLast]
   refine hs.dropLast.append ?_
   have : bar j ++ ([] ++ bar k) = bar (j + k):=by simp [bar, List.replicate_append_replicate]
   rw [this]
   exact Ss.cons Ss.nil
   exact zl _ (by simp [bar_len]; exact lT hk' (by decide))
  ·have hd : ¬ j + k <= room:=by have:=of_decide_eq_false hd; lia
   walk_at "S"
   refine W.mApp (Led.get ‹_› (.head _)) ?_
   walk_at "S"
   refine W.lstrip (zl _ (by rw [bar_len]; exact lT hk' (by decide))) (bar_head k) fun t1=>?_
   walk_at "S"
   refine W.app (Led.get ‹_› (.head _)) (zl _ (by lia)) fun h6 m6 e6 k6=>⟨rfl, ?_⟩
   have D6:=Led.upd (by assumption : Led G L _ _ [(b, lst vs m)]) .here e6 k6
   walk_at "S"
   refine fin _ _ _ _ D6 ?_
   unfold maxApp
   rw [ej]
   dsimp only
   rw [if_neg hd, List.map_append]
   exact hs.append (Ss.cons Ss.nil)
theorem litX : (Str.ofString "x").cps.toList = [120]:=by kernel_rfl
noncomputable def segLen (xs : List (List Nat)) (p : Nat × Nat) : Nat:=((xs.take p.2).drop p.1).flatten.length
noncomputable def barsOf (xs : List (List Nat)) (ps : List Nat) (room : Nat) : List Nat:=(((0 :: ps).zip (ps ++ [xs.length])).map (segLen xs)).foldl (fun ks k=>maxApp ks k room) []
theorem maxApp_len (ks : List Nat) (k room : Nat) : (maxApp ks k room).length <= ks.length + 1:=by
 unfold maxApp
 split
 ·simp
 ·split
  ·simp
  ·simp
theorem maxApp_le (ks : List Nat) (k room B : Nat) (h : ∀ x ∈ ks, x <= B) (hr : room <= B) (hk : k <= B) : ∀ x ∈ maxApp ks k room, x <= B:=by
 unfold maxApp
 split
 ·intro x m; simp at m; lia
 ·split
  ·intro x m
   rcases List.mem_append.mp m with m | m
   ·exact h x (List.dropLast_subset _ m)
   ·simp at m; lia
  ·intro x m
   rcases List.mem_append.mp m with m | m
   ·exact h x m
   ·simp at m; lia
theorem flat_le (ys : List (List Nat)) (h : ∀ x ∈ ys, x.length <= 3) : ys.flatten.length <= 3 * ys.length:=by
 induction ys with
 | nil=>simp
 | cons y ys ih=>have:=ih fun x hx=>h x (.tail _ hx); have:=h y (.head _); rw [fCo, lA, lC]; lia
theorem segLen_le (xs : List (List Nat)) (p : Nat × Nat) (h : ∀ x ∈ xs, x.length <= 3) : segLen xs p <= 3 * xs.length:=by
 unfold segLen
 have:=flat_le ((xs.take p.2).drop p.1) fun x q=>h x (List.mem_of_mem_take (List.mem_of_mem_drop q))
 have : ((xs.take p.2).drop p.1).length <= xs.length:=by simp; lia
 lia
noncomputable def barsTo (xs : List (List Nat)) (ps : List Nat) (room i : Nat) : List Nat:=((((0 :: ps).zip (ps ++ [xs.length])).take i).map (segLen xs)).foldl (fun ks k=>maxApp ks k room) []
theorem barsTo_succ (xs ps room i) (p : Nat × Nat) (e : ((0 :: ps).zip (ps ++ [xs.length]))[i]? = some p) : barsTo xs ps room (i + 1) = maxApp (barsTo xs ps room i) (segLen xs p) room:=by
 unfold barsTo
 rw [List.take_add_one, e]
 simp [List.foldl_append]
theorem barsTo_ok (xs : List (List Nat)) (ps room) (h : ∀ x ∈ xs, x.length <= 3) (hlen : xs.length <= 300) (hr : room <= 1000) (i) (hi : i <= ps.length + 1) : (barsTo xs ps room i).length <= i /\ ∀ x ∈ barsTo xs ps room i, x <= 1000:=by
 induction i with
 | zero=>exact ⟨by simp [barsTo], by simp [barsTo]⟩
 | succ i ih =>
  have ih:=ih (by exact lO (by assumption))
  have hl : i < ((0 :: ps).zip (ps ++ [xs.length])).length:=by simp; assumption
  rw [barsTo_succ xs ps room i _ (gE hl)]
  refine ⟨lT (maxApp_len _ _ _) (by lia), maxApp_le _ _ _ _ ih.2 hr ?_⟩
  have:=segLen_le xs ((0 :: ps).zip (ps ++ [xs.length]))[i] h
  lia
inductive BarI (aL aP aB : Addr) (room : Nat) (t : Tok) (xs : List (List Nat)) (ps : List Nat) (g0 : Gs) (i : Nat) : Fm -> List (Addr × Obj) -> Gs -> Prop
 | mk (vB : List Value) (mB : Nat) (b1 b2 : Option Value) (_ : Ss vB ((barsTo xs ps room i).map bar)) : BarI aL aP aB room t xs ps g0 i [("room", some (.int room t)), ("places", some (.ref aL)), ("pieces", some (.ref aP)), ("bars", some (.ref aB)), ("begin", b1), ("cut", b2)] [(aB, lst vB mB)] g0
set_option maxHeartbeats 4000000 in
theorem bars_spec {c : Cx} {A : Around} {G h : Heap} {g : Gs} {aP aL : Addr} {vp vl : List Value} {mp ml : Nat} {xs : List (List Nat)} {ps : List Nat} {room : Nat} {t : Tok} {Q : PV} (X : TopIn c.w.params G) (S : Sub G h) (r : Room A 3)
  (ep : G.get? aP = some (lst vp mp)) (hp : Ss vp xs) (el : G.get? aL = some (lst vl ml)) (hl : Is vl (nats ps)) (hps : ∀ p ∈ ps, p <= xs.length) (hlen : xs.length <= 300) (hx : ∀ x ∈ xs, x.length <= 3) (hpl : ps.length <= 900) (hr : room <= 1000)
  (y : ∀ h' D m vs', Sub G h' -> Own G h' [(D, lst vs' m)] -> Is vs' (nats (barsOf xs ps room)) -> Q (.ref D) h' g) : WC c A (.call (.ref 294) ⟨[.ref aP, .ref aL, .int room t], []⟩) Q h g:=by
 refine enterF (k:=2) 294 (o294 c.w.params) (bodyOf (topSt 35)) [("pieces", .ref aP), ("places", .ref aL), ("room", .int room t)] [Str.ofString "bars", Str.ofString "begin", Str.ofString "cut"] [("room", some (.int room t)), ("places", some (.ref aL)), ("pieces", some (.ref aP)), ("bars", none), ("begin", none), ("cut", none)] X S Own.nil r rfl (fun s _=>BindsTo.of_eq (by kernel_rfl)) ?_
 intro h₁ L D r' hL
 walk_at "x"
 have e1:=hp.len
 have e2 : vl.length = ps.length:=by have:=hl.len; simpa [nats] using this
 walk_at "S"
 refine W.newl (by assumption) (by simp [sE]) fun h2 aB D2=>?_
 clear D
 walk_at "S"
 refine W.for_ ?_
 walk_at "S"
 refine W.newl (by assumption) (by simp [sE]) fun h3 aZ D3=>?_
 walk_at "S"
 refine W.addl (by assumption) (Led.get ‹_› (by walk_at "mem")) (Led.sub ‹_› _ _ el) (by rw [sE]; simp; lia) fun h4 a1 D4=>?_
 walk_at "S"
 refine W.lenl (Led.sub ‹_› _ _ ep) (by rw [sE]; lia) fun t1=>?_
 walk_at "S"
 refine W.newl (by assumption) (by simp [sE]) fun h5 aY D5=>?_
 refine W.addl D5 (Led.sub ‹_› _ _ el) (Led.get ‹_› (by walk_at "mem")) (by rw [sE]; simp; lia) fun h6 a2 D6=>?_
 walk_at "S"
 obtain ⟨G2, S2, ea2, D7⟩:=Led.freeze (l1:=[]) D6
 obtain ⟨G3, S3, ea1, D8⟩:=Led.freeze (l1:=[(aY, _)]) D7
 have D9:=D8.drop (l':=[(aB, lst [] 0)]) (.cons _ (.cons _ (List.Sublist.refl _)))
 have SG3:=S2.trans S3
 have I1 : ∀ t0, Is ([.int 0 t0] ++ vl) (nats (0 :: ps)):=fun t0=>(Is.cons (x:=0) Is.nil).append hl
 have I2 : Is (vl ++ [.int (vp.length : Int) t1]) (nats (ps ++ [xs.length])):=by
  unfold nats; rw [List.map_append]; refine hl.append ?_; rw [e1]; exact Is.cons Is.nil
 refine W.zip2 D9 ea1 (S3 _ _ ea2) fun h7 z D10 hz=>?_
 refine W.forZip r'.hh D10 ea1 (S3 _ _ ea2) hz (BarI aL aP aB room t xs ps g)
  ⟨_, _, _, _, Ss.nil⟩ ?_ ?_
 ·rintro i v0 v1 G' h f l g' q0 q1 SG ⟨vB, mB, b1, b2, hB⟩ D
  obtain ⟨x0, u0, w0, rfl⟩:=(I1 _).get q0
  obtain ⟨x1, u1, w1, rfl⟩:=I2.get q1
  obtain ⟨b, hb, rfl⟩ : ∃ b, (0 :: ps)[i]? = some b /\ x0 = (b : Int):=by
   simp only [nats, List.getElem?_map, Option.map_eq_some_iff] at w0
   obtain ⟨pn, a1, a2⟩:=w0; exact ⟨pn, a1, a2.symm⟩
  obtain ⟨cu, hcu, rfl⟩ : ∃ b, (ps ++ [xs.length])[i]? = some b /\ x1 = (b : Int):=by
   simp only [nats, List.getElem?_map, Option.map_eq_some_iff] at w1
   obtain ⟨pn, a1, a2⟩:=w1; exact ⟨pn, a1, a2.symm⟩
  have hz : ((0 :: ps).zip (ps ++ [xs.length]))[i]? = some (b, cu):=List.getElem?_zip_eq_some.mpr ⟨hb, hcu⟩
  have hi : i < ps.length + 1:=by have:=(List.getElem?_eq_some_iff.mp hb).1; simpa using this
  have hbl : b <= xs.length:=by
   rcases lmc (List.mem_of_getElem? hb) with q | q
   ·lia
   ·exact hps b q
  have hcl : cu <= xs.length:=by
   rcases List.mem_append.mp (List.mem_of_getElem? hcu) with q | q
   ·exact hps cu q
   ·simp at q; lia
  have XG : TopIn c.w.params G':=(by assumption : TopIn c.w.params G).keeps (SG3.trans SG)
  have eP':=SG _ _ (SG3 _ _ ep)
  have sl:=segLen_le xs (b, cu) hx
  have ok:=barsTo_ok xs ps room hx hlen hr i (by exact lO (by assumption))
  walk_at "S"
  refine W.callF (o:=o228 c.w.params) (by assumption : TopIn c.w.params G') ?_ (by kernel_rfl) (by kernel_rfl)
  walk_at "S"
  refine SlOn.list (by assumption) (Led.sub ‹_› _ _ eP') (.inr ⟨_, _, rfl⟩) (.inr ⟨_, _, rfl⟩) (by rw [sE]; lia) fun h11 aS D11=>?_
  replace D11 : Led G' L h11 _ ((aS, lst (cutL vp (some (b : Int)) (some (cu : Int))) 0) :: [(aB, lst vB mB)]):=D11
  have hcut:=hp.cut (some (b : Int)) (some (cu : Int))
  rw [cutL_nat xs b cu hcl hbl] at hcut
  walk_at "S"
  refine W.join (Led.get ‹_› (by walk_at "mem")) hcut (joinOk _ _ (fun x q=>hx x (List.mem_of_mem_take (List.mem_of_mem_drop q))) (by simp; lia) (by rw [litE]; decide)) fun tJ=>?_
  rw [litE, inter_nil]
  have esl : ((xs.take cu).drop b).flatten.length = segLen xs (b, cu):=rfl
  walk_at "S"
  rotate_left
  ·rw [esl, sE]; lia
  ·exact Int.natCast_nonneg _
  ·rw [esl]; lia
  ·rw [litX, esl]; simp; lia
  rw [esl]
  have ebar : (List.replicate ((segLen xs (b, cu) : Nat) : Int).toNat (Str.ofString "x").cps.toList).flatten = bar (segLen xs (b, cu)):=by
   rw [litX, Int.toNat_natCast]
   unfold bar
   generalize segLen xs (b, cu) = k
   induction k with
   | zero=>rfl
   | succ k ih=>rw [List.replicate_succ, fCo, ih]; rfl
  rw [ebar]
  have D12 : Led G' L _ _ [(aB, lst vB mB)]:=Led.drop (by assumption : Led G' L _ _ ((aS, _) :: [(aB, lst vB mB)])) (List.sublist_cons_self _ _)
  obtain ⟨l1, l2, l3, l4⟩:=Led.lend (l:=[(aB, lst vB mB)]) (r:=[]) D12
  refine ⟨D12.sub, maxapp_spec ((by assumption : TopIn c.w.params G').keeps l3) l1 (r'.less (by simp)) l2 hB (by lia) ok.2 (by lia) hr fun h' m' vB' S' O' hB'=>⟨rfl, ?_⟩⟩
  have D13:=l4 h' _ S' O'
  walk_at "S"
  refine ⟨_, _, D13, ⟨_, _, _, _, ?_⟩, trivial⟩
  rw [barsTo_succ xs ps room i (b, cu) hz]; exact hB'
 ·rintro h f l g' ⟨vB, mB, b1, b2, hB⟩ D
  have emin : ∀ t0, min ([Value.int 0 t0] ++ vl).length (vl ++ [Value.int (vp.length : Int) t1]).length = ps.length + 1:=fun t0=>by simp; omega
  have ebars : ∀ j, j = ps.length + 1 -> barsTo xs ps room j = barsOf xs ps room:=fun j e=>by
   unfold barsTo barsOf
   rw [List.take_of_length_le (by simp; lia)]
  rw [ebars _ (emin _)] at hB
  have ok:=barsTo_ok xs ps room hx hlen hr (ps.length + 1) (Nat.le_refl _)
  rw [ebars _ rfl] at ok
  obtain ⟨G4, S4, eB, D14⟩:=Led.freeze (l1:=[]) D
  have X4 : TopIn c.w.params G4:=(by assumption : TopIn c.w.params G).keeps (SG3.trans S4)
  clear D
  walk_at "S"
  refine W.lcD (by assumption) [] ?_
  walk_at "S"
  have elB : vB.length = (barsOf xs ps room).length:=by have:=hB.len; simpa using this
  refine W.compList r'.hh (by assumption) eB (by rw [sE]; lia) (fun i ys l' g''=>CI g ([]) (fun ys=>Is ys (nats ((barsOf xs ps room).take i))) ys l' g'') ⟨Is.nil⟩ ?_ ?_
  ·rintro i v ys G' C h7 l' g7 hi SG ⟨hy⟩ hyl D7
   obtain ⟨x, tx, hxi, rfl⟩:=hB.get hi
   obtain ⟨kk, hk1, rfl⟩ : ∃ k, (barsOf xs ps room)[i]? = some k /\ bar k = x:=by
    simpa [List.getElem?_map, Option.map_eq_some_iff] using hxi
   have XG : TopIn c.w.params G':=(by assumption : TopIn c.w.params G4).keeps SG
   have:=ok.2 kk (List.mem_of_getElem? hk1)
   refine W.tests0 ?_
   walk_at "S"
   rotate_left
   ·rw [bar_len, sE]; exact lT this (by decide)
   refine ⟨_, (by assumption), ⟨?_⟩⟩
   rw [List.take_add_one, hk1, bar_len]
   unfold nats
   rw [List.map_append]
   exact hy.append (Is.cons Is.nil)
  ·rintro aC h7 ys l' g7 ⟨hy⟩ hyl ⟨m7, D7⟩
   rw [elB, List.take_length] at hy
   have D8:=D7.base (SG3.trans S4)
   repeat walk_at "u"
   exact y _ _ _ _ D8.sub D8.own hy
theorem unquote_spec {c : Cx} {A : Around} {G h : Heap} {g : Gs} {e i j : Nat} {t : Tok} {Q : PV} (X : TopIn c.w.params G) (S : Sub G h) (r : Room A 1) (hi : i < 16) (hj : j < 16)
  (y : ∀ h' t, Sub G h' -> Q (.str (T [16 * i + j]) t) h' g) : WC c A (.call (.ref 235) ⟨[.str (T [e, hexd i, hexd j]) t], []⟩) Q h g:=by
 refine enterF (k:=0) 235 (o235 c.w.params) (bodyOf (topSt 23)) [("s", .str (T [e, hexd i, hexd j]) t)] [] [("s", some (.str (T [e, hexd i, hexd j]) t))] X S Own.nil r rfl (fun s _=>BindsTo.of_eq (by kernel_rfl)) ?_
 intro h₁ L D r' hL
 walk_at "x"
 walk_at "S"
 refine SlOn.str (by assumption) (.inr ⟨_, _, rfl⟩) (.inr ⟨_, _, rfl⟩) (by simp [sE]) fun h2 t2 D2=>?_
 have ec : cutL [e, hexd i, hexd j] (partOf (.int 1 0)) (partOf (.int 3 0)) = [hexd i, hexd j]:=rfl
 rw [show cutL [e, hexd i, hexd j] (partOf (Value.int 1 _)) (partOf (Value.int 3 _)) = [hexd i, hexd j] from rfl]
 walk_at "S"
 refine W.int16 hi hj fun t3=>?_
 walk_at "S"
 rotate_left
 ·lia
 ·lia
 rw [Int.toNat_natCast]
 exact y _ _ (Led.sub ‹_›)
noncomputable def rowTxt (p : List Nat × Bool) : List Nat:=p.1.flatMap spelled ++ if p.2 = true then [61] else []
noncomputable def rowDec (p : List Nat × Bool) : List Nat:=p.1 ++ if p.2 = true then [] else [10]
theorem spelled_le (x : Nat) : (spelled x).length <= 3:=by unfold spelled; split <;> simp
theorem spelled_pos (x : Nat) : 0 < (spelled x).length:=by unfold spelled; split <;> simp
theorem flat_le8 (l : List Nat) : (l.flatMap spelled).length <= 3 * l.length:=by
 induction l with
 | nil=>simp
 | cons a l ih=>have:=spelled_le a; rw [fC, lA, lC]; lia
theorem litE8 : (Str.ofString "").cps.toList = []:=by kernel_rfl
theorem litEq8 : (Str.ofString "=").cps.toList = [61]:=by kernel_rfl
theorem litRN : (Str.ofString "\r\n").cps.toList = [13, 10]:=by kernel_rfl
theorem get_mid {α} (a b : List α) (x : α) (i : Nat) (hi : i = a.length) (h : i < (a ++ x :: b).length) : (a ++ x :: b)[i] = x:=by
 subst hi; simp
inductive DecI (G' : Heap) (L : Addr) (x d0 : List Nat) (p : List Nat × Bool) (t t1 : Tok) (m : Nat) (h : Heap) : Prop
 | mk (pre post : List Nat) (iv : Nat) (dc : List Nat) (dt2 ti tn : Tok) (co2 : Option Value) (_ : p.1 = pre ++ post) (_ : (iv = (pre.flatMap spelled).length \/ (p.2 = true /\ post = [] /\ iv = (rowTxt p).length))) (_ : m + iv = (rowTxt p).length) (_ : dc = d0 ++ pre ++ (if post = [] /\ p.2 = false then [10] else [])) (_ : Led G' L h [("eol", some (.str (T [10]) 531)), ("encoded", some (.str (T x) t)), ("decoded", some (.str (T dc) dt2)), ("line", some (.str (T (rowTxt p)) t1)), ("i", some (.int ((iv : Nat) : Int) ti)), ("n", some (.int ((rowTxt p).length : Int) tn)), ("c", co2)] [])
inductive DecF (x : List Nat) (t : Tok) (rs : List (List Nat × Bool)) (g0 : Gs) (i : Nat) : Fm -> List (Addr × Obj) -> Gs -> Prop
 | mk (dt : Tok) (lo io no co : Option Value) (dd : List Nat) (_ : dd = (rs.take i).flatMap rowDec) : DecF x t rs g0 i [("eol", some (.str (T [10]) 531)), ("encoded", some (.str (T x) t)), ("decoded", some (.str (T dd) dt)), ("line", lo), ("i", io), ("n", no), ("c", co)] [] g0
set_option maxHeartbeats 4000000 in
theorem decode_spec {c : Cx} {A : Around} {G h : Heap} {g : Gs} {x res : List Nat} {rs : List (List Nat × Bool)} {k : Nat} {t : Tok} {Q : PV} (X : TopIn c.w.params G) (S : Sub G h) (r : Room A 2)
  (hx : x.getLast? = some k) (hk : k < 128) (hz : x.length <= 10000) (hl : linesN [] x = rs.map rowTxt) (hb : ∀ p ∈ rs, ∀ s ∈ p.1, s < 256) (hlen : ∀ p ∈ rs, p.1.length <= 1000) (hrl : rs.length <= 1000)
  (hw : ∀ p ∈ rs, ∀ s, (rowTxt p).getLast? = some s -> Unicode.isSpace s = false) (hr : rs.flatMap rowDec = if k = 10 \/ k = 13 then res else res ++ [10])
  (y : ∀ h' t, Sub G h' -> Q (.str (T res) t) h' g) : WC c A (.call (.ref 263) ⟨[.str (T x) t], []⟩) Q h g:=by
 refine enterF (k:=1) 263 (o263 c.w.params) (bodyOf (topSt 29)) [("encoded", .str (T x) t), ("eol", .str (T [10]) 531)] [Str.ofString "decoded", Str.ofString "line", Str.ofString "i", Str.ofString "n", Str.ofString "c"] [("eol", some (.str (T [10]) 531)), ("encoded", some (.str (T x) t)), ("decoded", none), ("line", none), ("i", none), ("n", none), ("c", none)] X S Own.nil r rfl (fun s hs=>BindsTo.of_defaults (T:=256) (o:=o256 c.w.params) (by kernel_rfl) (hs ▸ (X.keeps S) _ _ (by kernel_rfl : (KM c.w.params).lookup 256 = some (o256 c.w.params))) rfl rfl rfl) ?_
 intro h₁ L D r' hL
 walk_at "x"
 have hx0 : x ≠ []:=fun e=>by rw [e] at hx; cases hx
 have zl : ∀ n, n <= 10000000 -> n <= sizeLine:=fun n h=>by rw [sE]; exact lT h (by decide)
 have ld : ∀ j, ((rs.take j).flatMap rowDec).length <= 1001000:=fun j=>by
  have : ∀ l : List (List Nat × Bool), (∀ p ∈ l, p.1.length <= 1000) -> (l.flatMap rowDec).length <= 1001 * l.length:=by
   intro l
   induction l with
   | nil=>simp
   | cons a l ih =>
    intro hh
    have h1:=ih fun p hp=>hh p (.tail _ hp)
    have h2:=hh a (.head _)
    have h3 : (rowDec a).length <= a.1.length + 1:=by unfold rowDec; split <;> simp
    rw [fC, lA, lC]; lia
  have h1:=this (rs.take j) fun p hp=>hlen p (List.mem_of_mem_take hp)
  have h2 : (rs.take j).length <= 1000:=by rw [lTk]; exact lT (Nat.min_le_right _ _) hrl
  exact lT h1 (Nat.mul_le_mul_left 1001 h2)
 walk_at "S"
 refine W.if_ ?_
 walk_at "S"
 refine W.trs (zl _ (by exact lT hz (by decide))) ?_
 refine ifN (b:=!(!x.isEmpty)) (by cases x with | nil=>exact absurd rfl hx0 | cons _ _=>rfl) ?_
 walk_at "S"
 refine W.for_ ?_
 walk_at "S"
 refine W.splitlines (by assumption) (ls:=rs.map rowTxt) (by rw [lines_of, hl]) (zl _ (by exact lT hz (by decide))) (zl _ (by rw [lMa]; exact lT hrl (by decide))) fun h2 a vs hs D2=>?_
 refine xea2 (Led.freeze (l1:=[]) D2) fun G2 S2 eA D3=>?_
 clear D2
 refine W.forList r'.hh D3 eA
  (DecF x t rs g)
  ⟨_, _, _, _, _, _, litE8⟩ ?_ ?_
 ·rintro i v G' h f l g' hi SG ⟨dt, lo, io, no, co, _, rfl⟩ D
  obtain ⟨ln, tx, hxi, rfl⟩:=hs.get hi
  obtain ⟨p, hp, rfl⟩ : ∃ p, rs[i]? = some p /\ ln = rowTxt p:=by
   rw [List.getElem?_map, Option.map_eq_some_iff] at hxi
   refine xea hxi fun p a1 a2=>?_; exact ⟨p, a1, a2.symm⟩
  have hpm:=List.mem_of_getElem? hp
  have hpl:=hlen p hpm
  have etk : (rs.take (i + 1)).flatMap rowDec = (rs.take i).flatMap rowDec ++ rowDec p:=by rw [List.take_add_one, hp]; simp
  have XG : TopIn c.w.params G':=(by assumption : TopIn c.w.params G).keeps (S2.trans SG)
  have lld:=ld i
  generalize (rs.take i).flatMap rowDec = d0 at *
  have lln : (rowTxt p).length <= 3001:=by
   unfold rowTxt
   have:=flat_le8 p.1
   rw [lA]
   split
   ·exact lT (Nat.add_le_add_right (lT this (Nat.mul_le_mul_left 3 hpl)) 1) (by decide)
   ·exact lT this (lT (Nat.mul_le_mul_left 3 hpl) (by decide))
  walk_at "S"
  refine W.rstrip (zl _ (by exact lT lln (by decide))) (hw p hpm) fun t1=>?_
  walk_at "S"
  refine W.ifL (rowTxt p = []) (by assumption) ?_ ?_ ?_
  ·walk_at "S"
   refine W.trs (zl _ (by exact lT lln (by decide))) ⟨?_, rfl, by assumption⟩
   cases rowTxt p <;> rfl
  ·intro h3 hP D3
   walk_at "x"
   walk_at "S"
   refine W.iaddT (zl _ (by rw [lS]; exact lLe lld (by decide))) fun t2=>?_
   walk_at "S"
   have e1 : p.1 = []:=by
    unfold rowTxt at hP
    have:=(List.append_eq_nil_iff.mp hP).1
    cases hq : p.1 with
    | nil=>rfl
    | cons a l=>rw [hq, fC, List.append_eq_nil_iff] at this; have q:=spelled_pos a; rw [this.1] at q; cases q
   have e2 : p.2 = false:=by
    unfold rowTxt at hP
    have:=(List.append_eq_nil_iff.mp hP).2
    cases hq : p.2 with
    | false=>rfl
    | true=>rw [hq] at this; cases this
   have eD : (rs.take (i + 1)).flatMap rowDec = d0 ++ [10]:=by rw [etk, rowDec, e1, e2]; rfl
   exact ⟨_, _, by assumption, _, _, _, _, _, _, eD.symm⟩
  ·intro h3 hP D3
   walk_at "x"
   walk_at "S"
   rotate_left
   ·exact zl _ (by exact lT lln (by decide))
   refine W.while_ (WF.while_ (fun m h g''=>g'' = g /\ DecI G' L x d0 p t t1 m h) (rowTxt p).length ?_ ?_)
   ·refine ⟨rfl, [], p.1, 0, d0, dt, _, _, _, rfl, .inl rfl, rfl, ?_, by assumption⟩
    have : (if p.1 = [] /\ p.2 = false then [10] else ([] : List Nat)) = []:=if_neg fun q=>hP (by unfold rowTxt; rw [q.1, q.2]; rfl)
    rw [this, apN, apN]
   ·rintro m h4 g'' ⟨rfl, pre, post, iv, dc, dt2, ti, tn, co2, hpp, hiv, hm, hdc, D4⟩
    refine W.testL (0 < m) D4 ?_ ?_ ?_
    ·walk_at "S"
     refine ⟨?_, rfl, by assumption⟩
     rw [decide_eq_decide, <- hm]; exact Int.ofNat_lt.trans Nat.lt_add_left_iff_pos
    ·intro h5 hm0 D5
     clear D4
     walk_at "x"
     replace hiv : iv = (pre.flatMap spelled).length:=by rcases hiv with q | q; exact q; exact absurd (Nat.add_eq_right.mp (hm.trans q.2.2.symm)) (Nat.ne_of_gt hm0)
     have hpl2 : pre.length <= 1000:=by have:=congrArg List.length hpp; rw [lA] at this; exact lT (Nat.le_add_right _ _) (lT (Nat.le_of_eq this.symm) hpl)
     have hdl : dc.length <= 1010000:=by
      rw [hdc, lA, lA]
      have : (if post = [] /\ p.2 = false then [10] else ([] : List Nat)).length <= 1:=by split <;> simp
      exact lT (Nat.add_le_add (Nat.add_le_add lld hpl2) this) (by decide)
     cases post with
     | nil =>
      rw [apN] at hpp
      have e2 : p.2 = true:=by
       cases hq : p.2 with
       | true=>rfl
       | false=>unfold rowTxt at hm; rw [hpp, hq, lA] at hm; simp only [Bool.false_eq_true, if_false, List.length_nil] at hm; rw [hiv] at hm; exact absurd (Nat.add_eq_right.mp hm) (Nat.ne_of_gt hm0)
      have eT : rowTxt p = pre.flatMap spelled ++ [61]:=by unfold rowTxt; rw [hpp, e2]; rfl
      have eL : (rowTxt p).length = (pre.flatMap spelled).length + 1:=by rw [eT, lA]; rfl
      have lt : ((iv : Int)).toNat < (rowTxt p).length:=by rw [<- hm]; exact Nat.lt_add_of_pos_left hm0
      have eg : (rowTxt p)[((iv : Int)).toNat] = 61:=by simp only [eT]; exact get_mid _ [] 61 _ (by rw [Int.toNat_natCast, hiv]) _
      walk_at "S"
      refine W.itemT (by simp) lt (zl _ (by exact lT lln (by decide))) fun t3=>?_
      rw [eg]
      walk_at "S"
      refine W.if_ ?_
      walk_at "S"
      rw [litEq8]
      refine iteF ?_
      walk_at "S"
      refine W.if_ ?_
      walk_at "S"
      rw [show ((iv : Int) + 1 == ((rowTxt p).length : Int)) = true by rw [eL, hiv]; simp]
      walk_at "S"
      exact ⟨0, hm0, rfl, pre, [], iv + 1, dc, _, _, _, _, by rw [hpp, apN], .inr ⟨e2, rfl, by rw [eL, hiv]⟩, by rw [eL, hiv, Nat.zero_add], hdc, by assumption⟩
     | cons s post =>
      have hs256 : s < 256:=hb p hpm s (by rw [hpp]; simp)
      have hdc : dc = d0 ++ pre:=by rw [hdc, if_neg (by simp), apN]
      have eT : rowTxt p = pre.flatMap spelled ++ (spelled s ++ (post.flatMap spelled ++ if p.2 = true then [61] else [])):=by
       unfold rowTxt; rw [hpp, List.flatMap_append, fC]; simp only [apA]
      have eL : (rowTxt p).length = iv + (spelled s).length + (post.flatMap spelled ++ if p.2 = true then [61] else []).length:=by rw [eT, lA, lA, hiv]; exact (Nat.add_assoc _ _ _).symm
      have lt : ((iv : Int)).toNat < (rowTxt p).length:=by rw [<- hm]; exact Nat.lt_add_of_pos_left hm0
      have tail0 : (post.flatMap spelled ++ if p.2 = true then [61] else []).length = 0 ↔ post = [] /\ p.2 = false:=by
       rw [List.length_eq_zero_iff, List.append_eq_nil_iff]
       constructor
       ·intro z2r0; refine xa z2r0 fun q1 q2=>?_
        constructor
        ·cases post with
         | nil=>rfl
         | cons b l=>rw [fC, List.append_eq_nil_iff] at q1; have q:=spelled_pos b; rw [q1.1] at q; cases q
        ·cases hq : p.2 with
         | false=>rfl
         | true=>rw [hq] at q2; cases q2
       ·rintro ⟨rfl, q⟩; rw [q]; exact ⟨rfl, rfl⟩
      have fin : ∀ e dc2 dt2 ti2 tn2 co2 h2, (dc2 = dc ++ [s] ++ if post = [] /\ p.2 = false then [10] else []) -> e = (iv : Int) + ((spelled s).length : Int) -> Led G' L h2 [("eol", some (.str (T [10]) 531)), ("encoded", some (.str (T x) t)), ("decoded", some (.str (T dc2) dt2)), ("line", some (.str (T (rowTxt p)) t1)), ("i", some (.int e ti2)), ("n", some (.int ((rowTxt p).length : Int) tn2)), ("c", co2)] [] -> 
        ∃ m', m' < m /\ g'' = g'' /\ DecI G' L x d0 p t t1 m' h2:=by
       intro e dc2 dt2 ti2 tn2 co2 h2 q1 q2 q3
       have:=spelled_pos s
       refine ⟨m - (spelled s).length, Nat.sub_lt hm0 this, rfl, pre ++ [s], post, iv + (spelled s).length, dc2, dt2, ti2, tn2, co2, by rw [hpp, apA]; rfl, .inl ?_, by omega, by rw [q1, hdc, apA d0], ?_⟩
       ·rw [List.flatMap_append, lA, hiv, fC, List.flatMap_nil, apN]
       ·rw [q2] at q3; exact q3
      walk_at "S"
      refine W.itemT (by simp) lt (zl _ (by exact lT lln (by decide))) fun t3=>?_
      by_cases hpl3 : plainS s
      ·have es : spelled s = [s]:=if_pos hpl3
       have eg : (rowTxt p)[((iv : Int)).toNat] = s:=by simp only [eT, es]; exact get_mid _ _ s _ (by rw [Int.toNat_natCast, hiv]) _
       rw [eg]
       walk_at "S"
       refine W.if_ ?_
       walk_at "S"
       rw [litEq8, show (!decide ([s] = [61])) = true by
        have : s ≠ 61:=by rcases hpl3 with q | q; rw [q]; decide; exact q.2.2
        simpa using this]
       walk_at "S"
       refine W.iaddT (zl _ (by rw [lS]; exact lLe hdl (by decide))) fun t2=>?_
       walk_at "S"
       refine W.ifL (post = [] /\ p.2 = false) (by assumption) ?_ ?_ ?_
       ·walk_at "S"
        refine ⟨?_, rfl, by assumption⟩
        show decide (_ = _) = _
        rw [decide_eq_decide, <- tail0, eL, es]
        simp only [lC, List.length_nil]
        lia
       ·intro h6 hq D6
        walk_at "x"
        walk_at "S"
        refine W.iaddT (zl _ (by rw [lA, lS, lS]; exact lT (Nat.add_le_add_right hdl 2) (by decide))) fun t4=>?_
        walk_at "S"
        exact fin _ _ _ _ _ _ _ (by rw [if_pos hq]) (by first | (rw [es]; done) | (rw [es]; rfl)) (by assumption)
       ·intro h6 hq D6
        walk_at "x"
        walk_at "S"
        exact fin _ _ _ _ _ _ _ (by rw [if_neg hq, apN]) (by first | (rw [es]; done) | (rw [es]; rfl)) D6
      ·have es : spelled s = [61, hexd (s / 16), hexd (s % 16)]:=if_neg hpl3
       have eg : (rowTxt p)[((iv : Int)).toNat] = 61:=by simp only [eT, es]; exact get_mid _ _ 61 _ (by rw [Int.toNat_natCast, hiv]) _
       rw [eg]
       walk_at "S"
       refine W.if_ ?_
       walk_at "S"
       rw [litEq8]
       refine iteF ?_
       walk_at "S"
       have g1 : (rowTxt p)[((iv : Int) + 1).toNat]? = some (hexd (s / 16)):=by
        rw [eT, es, show ((iv : Int) + 1).toNat = iv + 1 by rfl, List.getElem?_append_right (Nat.le_add_right_of_le (Nat.le_of_eq hiv.symm)), hiv, Nat.add_sub_cancel_left]; rfl
       have g2 : (rowTxt p)[((iv : Int) + 2).toNat]? = some (hexd (s % 16)):=by
        rw [eT, es, show ((iv : Int) + 2).toNat = iv + 2 by rfl, List.getElem?_append_right (Nat.le_add_right_of_le (Nat.le_of_eq hiv.symm)), hiv, Nat.add_sub_cancel_left]; rfl
       refine xe (List.getElem?_eq_some_iff.mp g1) fun l1 g1=>?_
       refine xe (List.getElem?_eq_some_iff.mp g2) fun l2 g2=>?_
       have e3 : (spelled s).length = 3:=by rw [es]; rfl
       refine W.if_ ?_
       walk_at "S"
       rw [show ((iv : Int) + 1 == ((rowTxt p).length : Int)) = false by rw [beq_eq_false_iff_ne]; exact fun e=>absurd (Int.ofNat.inj (show Int.ofNat (iv + 1) = Int.ofNat _ from e)) (Nat.ne_of_lt (Nat.lt_of_succ_lt l2))]
       walk_at "S"
       refine W.if_ ?_
       walk_at "S"
       rw [show decide ((iv : Int) + 2 < ((rowTxt p).length : Int)) = true by rw [decide_eq_true_iff]; exact Int.ofNat_lt.mpr (show iv + 2 < _ from l2)]
       walk_at "S"
       refine W.itemT (Int.natCast_nonneg (iv + 1)) l1 (zl _ (by exact lT lln (by decide))) fun t4=>?_
       rw [g1]
       walk_at "S"
       refine W.inS (in_hex _ (by lia)) ?_
       walk_at "S"
       refine W.itemT (Int.natCast_nonneg (iv + 2)) l2 (zl _ (by exact lT lln (by decide))) fun t5=>?_
       rw [g2]
       walk_at "S"
       refine W.inS (in_hex _ (by lia)) ?_
       walk_at "S"
       refine W.callF (by assumption : TopIn c.w.params G') ?_ (o:=o235 c.w.params) (by kernel_rfl) (by kernel_rfl)
       walk_at "S"
       refine SlOn.str (by assumption) (.inr ⟨_, _, rfl⟩) (.inr ⟨_, _, rfl⟩) (zl _ (by exact lT lln (by decide))) fun h7 t6 D7=>?_
       have ec : ∀ t1 t2, cutL (rowTxt p) (partOf (.int (iv : Int) t1)) (partOf (.int ((iv : Int) + 3) t2)) = [61, hexd (s / 16), hexd (s % 16)]:=by
        intro _ _
        show cutL (rowTxt p) (some (iv : Int)) (some ((iv : Int) + 3)) = _
        unfold cutL loOf hiOf
        dsimp only
        rw [if_neg (Int.not_lt.mpr (Int.natCast_nonneg iv)), if_neg (show ¬ (iv : Int) + 3 < 0 from Int.not_lt.mpr (Int.natCast_nonneg (iv + 3))), show min ((iv : Int) + 3).toNat (rowTxt p).length = iv + 3 from Nat.min_eq_left l2, show min (iv : Int).toNat (rowTxt p).length = iv from Nat.min_eq_left (lO lt), eT, es, <- apA, List.take_append_of_le_length (by rw [lA, hiv]; simp), List.take_of_length_le (by rw [lA, hiv]; simp), hiv, List.drop_left]
       rw [ec]
       walk_at "S"
       refine xa3 (Led.lend (l:=[]) (r:=[]) D7) fun l1 l2 l3 l4=>?_
       refine ⟨D7.sub, unquote_spec ((by assumption : TopIn c.w.params G').keeps l3) l1 (r'.less (Nat.le_refl _)) (by lia) (Nat.mod_lt _ (by decide)) fun h8 t7 S8=>?_⟩
       have D8:=l4 _ [] S8 Own.nil
       clear l1 l2 l3 l4 D7
       rw [Nat.div_add_mod]
       refine W.iaddT (zl _ (by rw [lS]; exact lLe hdl (by decide))) fun t8=>?_
       walk_at "S"
       refine W.ifL (post = [] /\ p.2 = false) (by assumption) ?_ ?_ ?_
       ·walk_at "S"
        refine ⟨?_, rfl, by assumption⟩
        show decide (_ = _) = _
        rw [decide_eq_decide, <- tail0, eL, es]
        simp only [lC, List.length_nil]
        lia
       ·intro h6 hq D6
        walk_at "x"
        walk_at "S"
        refine W.iaddT (zl _ (by rw [lA, lS, lS]; exact lT (Nat.add_le_add_right hdl 2) (by decide))) fun t4=>?_
        walk_at "S"
        exact fin _ _ _ _ _ _ _ (by rw [if_pos hq]) (by first | (rw [es]; done) | (rw [es]; rfl)) (by assumption)
       ·intro h6 hq D6
        walk_at "x"
        walk_at "S"
        exact fin _ _ _ _ _ _ _ (by rw [if_neg hq, apN]) (by first | (rw [es]; done) | (rw [es]; rfl)) D6
    ·intro h5 hm0 D5
     walk_at "x"
     clear D4
     have hm00 : m = 0:=Nat.eq_zero_of_not_pos hm0
     have hpost : post = []:=by
      cases post with
      | nil=>rfl
      | cons s post =>
       exfalso
       rcases hiv with q | q
       ·have:=spelled_pos s
        unfold rowTxt at hm
        rw [hpp, List.flatMap_append, fC, lA, lA, lA] at hm
        rw [hm00, q, Nat.zero_add] at hm
        exact absurd hm (Nat.ne_of_lt (lLt (Nat.lt_add_of_pos_right (lLt this (Nat.le_add_right _ _))) (Nat.le_add_right _ _)))
       ·cases q.2.1
     have eD : (rs.take (i + 1)).flatMap rowDec = dc:=by
      rw [etk, rowDec, hdc, hpp, hpost, apN, apA]
      cases p.2 <;> simp
     walk_at "S"
     exact ⟨_, _, D5, _, _, _, _, _, _, eD.symm⟩
 ·rintro h f l g' ⟨dt, lo, io, no, co, _, rfl⟩ D
  have X2 : TopIn c.w.params G2:=(by assumption : TopIn c.w.params G).keeps S2
  have el : vs.length = rs.length:=by rw [hs.len, lMa]
  rw [el, List.take_length, hr] at D
  have hlk : x.getLast hx0 = k:=by rw [gL hx0] at hx; exact Option.some.inj hx
  walk_at "x"
  walk_at "S"
  refine W.if_ ?_
  walk_at "S"
  refine W.lastT hx0 (zl _ (by exact lT hz (by decide))) fun t3=>?_
  rw [hlk]
  walk_at "S"
  rw [litRN]
  refine W.ninS (in_crlf k hk) ?_
  walk_at "S"
  refine ifSplit (fun hc=>?_) (fun hc=>?_)
  ·have hc : ¬ (k = 10 \/ k = 13):=by simpa using hc
   rw [if_neg hc] at *
   walk_at "S"
   refine W.endsIs ?_
   walk_at "S"
   rotate_left
   ·exact zl _ (by simp)
   refine SlOn.str (by assumption) (.inl rfl) (.inr ⟨_, _, rfl⟩) (zl _ (by have:=ld rs.length; rw [List.take_length, hr] at this; exact lT this (by decide))) fun h7 t6 D7=>?_
   replace D7 : Led G2 L h7 _ _:=D7
   rw [show cutL (res ++ [10]) (partOf .none) (partOf (Value.int (-(([10] : List Nat).length : Int)) _)) = res by
    show cutL (res ++ [10]) none (some (-1)) = res
    unfold cutL loOf hiOf
    dsimp only
    rw [if_pos (by decide), lA, List.drop_zero, show ((-1 : Int) + ((res.length + [10].length : Nat) : Int)).toNat = res.length by rw [lS]; exact neg1 _, List.take_left]]
   walk_at "S"
   exact y _ _ (S2.trans (Led.sub ‹_›))
  ·have hc : (k = 10 \/ k = 13):=by
    rw [Bool.not_eq_false'] at hc; exact of_decide_eq_true hc
   rw [if_pos hc] at *
   walk_at "S"
   exact y _ _ (S2.trans (Led.sub ‹_›))
structure DecOk (x res : List Nat) : Prop where
 ok : ∃ (rs : List (List Nat × Bool)) (k : Nat), x.getLast? = some k /\ k < 128 /\ x.length <= 10000 /\ linesN [] x = rs.map rowTxt /\ (∀ p ∈ rs, ∀ s ∈ p.1, s < 256) /\ (∀ p ∈ rs, p.1.length <= 1000) /\ rs.length <= 1000 /\ (∀ p ∈ rs, ∀ s, (rowTxt p).getLast? = some s -> Unicode.isSpace s = false) /\ rs.flatMap rowDec = if k = 10 \/ k = 13 then res else res ++ [10]
theorem dec_ok {c : Cx} {A : Around} {G h : Heap} {g : Gs} {L : Addr} {f : Fm} {l : List (Addr × Obj)} {x res : List Nat} {t : Tok} {Q : PV} (X : TopIn c.w.params G) (D : Led G L h f l) (r : Room A 2) (O : DecOk x res)
  (y : ∀ h' t, Led G L h' f l -> Q (.str (T res) t) h' g) : Sub G h /\ WC c A (.call (.ref 263) ⟨[.str (T x) t], []⟩) Q h g:=by
 refine xe2a8 O.ok fun rs k a1 a2 a3 a4 a5 a6 a7 a8 a9=>?_
 refine xa3 (Led.lend (l:=[]) D) fun b1 b2 b3 b4=>?_
 exact ⟨D.sub, decode_spec (X.keeps b3) b1 r a1 a2 a3 a4 a5 a6 a7 a8 a9 fun h' t' S'=>y h' t' (by have:=b4 h' [] S' Own.nil; rwa [List.nil_append] at this)⟩
set_option maxHeartbeats 2000000 in
theorem lawD {c : Cx} {A : Around} {G h : Heap} {g : Gs} {L : Addr} {v0 v1 v2 v3 v4 v5 v11 v12 v13 v14 : Option Value} {bo fo wr sp en : List Nat} {room : Nat} {tb tf tw u1 u2 u3 : Tok} {aF aW : Addr} {vF vW : List Value} {mF mW : Nat} {o1 o2 o3 : Obj} {ps qs : Array Value} {fs ws : List (List Nat)} {Q : PF}
  (X : TopIn c.w.params G) (D : Led G L h [("script", v0), ("drawn", v1), ("total", v2), ("laid", v3), ("line", v4), ("lines", v5), ("body", some (.str (T bo) tb)), ("folded", some (.str (T fo) tf)), ("written", some (.str (T wr) tw)), ("due_folded", some (.ref aF)), ("due_written", some (.ref aW)), ("pieces", v11), ("places", v12), ("rows", v13), ("singles", v14)] [(aF, lst vF mF), (aW, lst vW mW), (L + 1, cel o1 (some (.int (room : Int) u1))), (L + 2, cel o2 (some (.str (T sp) u2))), (L + 3, cel o3 (some (.str (T en) u3))), (162, tabO ps), (169, tabO qs)]) (r : Room A 3) (hF : Ss vF fs) (hW : Ss vW ws) (ef : fo = en.intercalate fs) (ew : wr = en.intercalate ws)
  (jF : (fs.map (·.length)).sum + fs.length * en.length <= 16777216) (jW : (ws.map (·.length)).sum + ws.length * en.length <= 16777216) (dF : DecOk fo bo) (dW : DecOk wr bo)
  (k : ∀ h', Sub G h' -> Own G h' [(162, tabO ps), (169, tabO qs)] -> Q (.ret (.bool true)) h' g) : W c A (execs ((bodyOf (topSt 37)).drop 13) (callEnvC (fdOf (o306 c.w.params)) L 306)) Q h g:=by
 walk_at "x"
 walk_at "S"
 refine W.if_ ?_
 walk_at "S"
 refine W.rdC 3 (by assumption) (by walk_at "mem") ?_
 walk_at "S"
 walk_at "D"
 refine W.join (D.get (by walk_at "mem")) hF jF fun t5=>?_
 rw [<- ef]
 walk_at "S"
 rw [show (!decide (fo = fo)) = false by simp]
 refine iteF ?_
 walk_at "S"
 refine W.rdC 3 (by assumption) (by walk_at "mem") ?_
 walk_at "S"
 walk_at "D"
 refine W.join (D.get (by walk_at "mem")) hW jW fun t6=>?_
 rw [<- ew]
 walk_at "S"
 rw [show (!decide (wr = wr)) = false by simp]
 walk_at "S"
 walk_at "X"
 refine W.eand ?_
 refine W.cmpv ?_
 walk_at "S"
 walk_at "X"
 refine W.callF (o:=o263 c.w.params) X ?_ (by kernel_rfl) (by kernel_rfl)
 walk_at "S"
 walk_at "D"
 walk_at "X"
 refine dec_ok X D (r.less (by simp)) dF fun h7 t7 D7=>?_
 clear D
 walk_at "S"
 rw [decide_eq_true (rfl : bo = bo)]
 refine iteT ?_
 refine W.eone ?_
 refine W.cmpv ?_
 walk_at "S"
 walk_at "X"
 refine W.callF (o:=o263 c.w.params) X ?_ (by kernel_rfl) (by kernel_rfl)
 walk_at "S"
 walk_at "D"
 walk_at "X"
 refine dec_ok X D (r.less (by simp)) dW fun h8 t8 D8=>?_
 clear D
 walk_at "S"
 walk_at "D"
 rw [decide_eq_true (rfl : bo = bo)]
 refine k _ D.sub ⟨fun p hp=>D.own.at_ p ?_, by show [162, 169].Nodup; decide⟩
 rcases lmc hp with rfl | hp
 ·walk_at "mem"
 ·rcases lmc hp with rfl | hp
  ·walk_at "mem"
  ·cases hp
noncomputable def placesN (xs : List (List Nat)) (sp : List Nat) : List Nat:=((List.range (xs.length - 1)).map (· + 1)).filter fun p=>decide (atPlace xs sp p)
noncomputable def singlesN (xs : List (List Nat)) : List Nat:=(List.range (xs.length - 1)).map (· + 1)
theorem placesOf_nats (xs sp) : placesOf xs sp = nats (placesN xs sp):=by
 unfold placesOf placesTo placesN nats
 generalize ((List.range (xs.length - 1)).map (· + 1)) = l
 induction l with
 | nil=>rfl
 | cons a l ih =>
  rw [List.filterMap_cons, List.filter_cons]
  by_cases h : atPlace xs sp a
  ·rw [if_pos h, if_pos (decide_eq_true h), mpC, ih]
  ·rw [if_neg h, if_neg (by simpa using h), ih]
theorem placesN_mem (xs sp) : ∀ p ∈ placesN xs sp, 1 <= p /\ p < xs.length:=fun p hp=>by
 refine xea (lmm (List.mem_filter.mp hp).1) fun q hq e02=>?_; obtain rfl:=e02
 rw [List.mem_range] at hq; omega
theorem placesN_len (xs sp) : (placesN xs sp).length <= xs.length:=by
 refine lT (List.length_filter_le _ _) ?_
 rw [lMa, List.length_range]; simp
theorem singlesN_mem (xs) : ∀ p ∈ singlesN xs, 1 <= p /\ p < xs.length:=fun p hp=>by
 refine xea (lmm hp) fun q hq e12=>?_; obtain rfl:=e12
 rw [List.mem_range] at hq; omega
theorem singlesN_len (xs) : (singlesN xs).length <= xs.length:=by
 unfold singlesN; rw [lMa, List.length_range]; simp
noncomputable def fRows (room : Nat) (sp x : List Nat) : List (List Nat):=rowsOf (x.map spelled) (placesN (x.map spelled) sp) room room
noncomputable def wRows (room : Nat) (x : List Nat) : List (List Nat):=rowsOf (x.map spelled) (singlesN (x.map spelled)) room (room + 1)
noncomputable def fRow (room : Nat) (sp en x : List Nat) : List Nat:=([61] ++ en).intercalate (fRows room sp x)
noncomputable def wRow (room : Nat) (en x : List Nat) : List Nat:=([61] ++ en).intercalate (wRows room x)
structure LineOk (room : Nat) (sp en x : List Nat) : Prop where
 len : x.length <= 60
 lt : ∀ k ∈ x, k < 256
 bars : barsOf (x.map spelled) (placesN (x.map spelled) sp) room = (fRows room sp x).map List.length
 jf : ((fRows room sp x).map (·.length)).sum + (fRows room sp x).length * ([61] ++ en).length <= 16777216
 jw : ((wRows room x).map (·.length)).sum + (wRows room x).length * ([61] ++ en).length <= 16777216
 rl : (fRows room sp x).length <= 1000 /\ ∀ y ∈ fRows room sp x, y.length <= 1000
theorem litQL : (Str.ofString "=").cps.toList = [61]:=by kernel_rfl
inductive LawI (L : Addr) (v0 v1 v2 v3 : Option Value) (aLs aF aW : Addr) (bo fo wr sp en : List Nat) (tb tf tw u1 u2 u3 : Tok) (room : Nat) (o1 o2 o3 : Obj) (ps qs : Array Value) (lines : List (List Nat)) (i : Nat) : Fm -> List (Addr × Obj) -> Prop
 | mk (vF : List Value) (mF : Nat) (vW : List Value) (mW : Nat) (w1 w2 w3 w4 w5 : Option Value) (_ : Ss vF ((lines.take i).map (fRow room sp en))) (_ : Ss vW ((lines.take i).map (wRow room en))) : LawI L v0 v1 v2 v3 aLs aF aW bo fo wr sp en tb tf tw u1 u2 u3 room o1 o2 o3 ps qs lines i
  [("script", v0), ("drawn", v1), ("total", v2), ("laid", v3), ("line", w1), ("lines", some (.ref aLs)), ("body", some (.str (T bo) tb)), ("folded", some (.str (T fo) tf)), ("written", some (.str (T wr) tw)), ("due_folded", some (.ref aF)), ("due_written", some (.ref aW)), ("pieces", w2), ("places", w3), ("rows", w4), ("singles", w5)] [(aF, lst vF mF), (aW, lst vW mW), (L + 1, cel o1 (some (.int (room : Int) u1))), (L + 2, cel o2 (some (.str (T sp) u2))), (L + 3, cel o3 (some (.str (T en) u3))), (162, tabO ps), (169, tabO qs)]
set_option maxHeartbeats 4000000 in
theorem lawC {c : Cx} {A : Around} {G h : Heap} {g : Gs} {L : Addr} {v0 v1 v2 v3 w1 w2 w3 w4 w5 : Option Value} {bo fo wr sp en : List Nat} {room : Nat} {tb tf tw u1 u2 u3 : Tok} {aF aW aLs : Addr} {mF mW mLs : Nat} {vLs : List Value} {o1 o2 o3 : Obj} {ps qs : Array Value} {lines : List (List Nat)} {Q : PF}
  (X : TopIn c.w.params G) (D : Led G L h [("script", v0), ("drawn", v1), ("total", v2), ("laid", v3), ("line", w1), ("lines", some (.ref aLs)), ("body", some (.str (T bo) tb)), ("folded", some (.str (T fo) tf)), ("written", some (.str (T wr) tw)), ("due_folded", some (.ref aF)), ("due_written", some (.ref aW)), ("pieces", w2), ("places", w3), ("rows", w4), ("singles", w5)] [(aF, lst [] mF), (aW, lst [] mW), (L + 1, cel o1 (some (.int (room : Int) u1))), (L + 2, cel o2 (some (.str (T sp) u2))), (L + 3, cel o3 (some (.str (T en) u3))), (162, tabO ps), (169, tabO qs)]) (r : Room A 5) (eL : G.get? aLs = some (lst vLs mLs)) (hLs : Ss vLs lines) (hll : lines.length <= 1000) (hlo : ∀ x ∈ lines, LineOk room sp en x) (hen : en.length <= 2) (hroom : room <= 1000)
  (done : ∀ h vF mF vW mW w1 w2 w3 w4 w5, Led G L h [("script", v0), ("drawn", v1), ("total", v2), ("laid", v3), ("line", w1), ("lines", some (.ref aLs)), ("body", some (.str (T bo) tb)), ("folded", some (.str (T fo) tf)), ("written", some (.str (T wr) tw)), ("due_folded", some (.ref aF)), ("due_written", some (.ref aW)), ("pieces", w2), ("places", w3), ("rows", w4), ("singles", w5)] [(aF, lst vF mF), (aW, lst vW mW), (L + 1, cel o1 (some (.int (room : Int) u1))), (L + 2, cel o2 (some (.str (T sp) u2))), (L + 3, cel o3 (some (.str (T en) u3))), (162, tabO ps), (169, tabO qs)] -> Ss vF (lines.map (fRow room sp en)) -> Ss vW (lines.map (wRow room en)) -> W c A (execs ((bodyOf (topSt 37)).drop 13) (callEnvC (fdOf (o306 c.w.params)) L 306)) Q h g) : W c A (execs ((bodyOf (topSt 37)).drop 12) (callEnvC (fdOf (o306 c.w.params)) L 306)) Q h g:=by
 have zl : ∀ n, n <= 10000000 -> n <= sizeLine:=fun n h=>by rw [sE]; exact lT h (by decide)
 walk_at "x"
 walk_at "k"
 refine W.for_ ?_
 walk_at "S"
 walk_at "D"
 walk_at "X"
 refine W.forList r.hh D eL (fun i f l g'=>g' = g /\ LawI L v0 v1 v2 v3 aLs aF aW bo fo wr sp en tb tf tw u1 u2 u3 room o1 o2 o3 ps qs lines i f l)
  ⟨rfl, [], mF, [], mW, w1, w2, w3, w4, w5, Ss.nil, Ss.nil⟩ ?_ ?_
 ·clear w1 w2 w3 w4 w5 mF mW D
  rintro i v G' h f l g' hi SG ⟨rfl, vF, mF, vW, mW, w1, w2, w3, w4, w5, hF, hW⟩ D
  refine xe2a (hLs.get hi) fun x tx hxi e33=>?_; obtain rfl:=e33
  have hxm:=List.mem_of_getElem? hxi
  have B:=hlo x hxm
  have Bl:=B.len
  have XG : TopIn c.w.params G':=X.keeps SG
  have etk : ∀ F : List Nat -> List Nat, (lines.take (i + 1)).map F = (lines.take i).map F ++ [F x]:=fun F=>by rw [List.take_add_one, hxi]; simp
  have hxs : ∀ y ∈ x.map spelled, y ≠ [] /\ y.length <= 3:=fun y hy=>by
   refine xea (lmm hy) fun k _ e42=>?_; obtain rfl:=e42
   exact ⟨fun e=>(by have:=spelled_pos k; rw [e] at this; cases this), spelled_le k⟩
  have lxs : (x.map spelled).length = x.length:=lMa ..
  clear X
  walk_at "S"
  walk_at "D"
  refine W.lcAssignD D [] (fun D=>[("script", v0), ("drawn", v1), ("total", v2), ("laid", v3), ("line", some (.str (T x) tx)), ("lines", some (.ref aLs)), ("body", some (.str (T bo) tb)), ("folded", some (.str (T fo) tf)), ("written", some (.str (T wr) tw)), ("due_folded", some (.ref aF)), ("due_written", some (.ref aW)), ("pieces", some (.ref D)), ("places", w3), ("rows", w4), ("singles", w5)]) (fun D=>by walk_at "put") ?_
  walk_at "S"
  walk_at "D"
  refine W.compStr r.hh D (zl _ (by exact lT Bl (by decide))) (fun i ys l' g2=>CI g' ([(aF, lst vF mF), (aW, lst vW mW), (L + 1, cel o1 (some (.int (room : Int) u1))), (L + 2, cel o2 (some (.str (T sp) u2))), (L + 3, cel o3 (some (.str (T en) u3))), (162, tabO ps), (169, tabO qs)]) (fun ys=>Ss ys ((x.take i).map spelled)) ys l' g2) ⟨Ss.nil⟩ ?_ ?_
  ·intro j ch tc ys G2 C h2 l' g2 hj SG2 z5r11 hyl D2; obtain ⟨hy⟩:=z5r11
   have hk:=B.lt ch (List.mem_of_getElem? hj)
   have XG2:=XG.keeps SG2
   refine W.tests0 ?_
   refine iteT ?_
   walk_at "S"
   rename TopIn _ _=>XG2
   refine W.callF (o:=o277 c.w.params) XG2 ?_ (by kernel_rfl) (by kernel_rfl)
   walk_at "S"
   rename Led _ _ _ _ _=>D2
   refine xa3 (Led.lend (l:=[]) D2) fun b1 b2 b3 b4=>?_
   refine ⟨D2.sub, spelled_spec (XG2.keeps b3) b1 (r.less (by simp)) hk fun h3 t3 S3=>?_⟩
   have D3:=b4 h3 [] S3 Own.nil
   rw [List.nil_append] at D3
   refine ⟨_, D3, ⟨?_⟩⟩
   rw [List.take_add_one, hj, List.map_append]
   exact hy.append (Ss.cons Ss.nil)
  ·intro aP h2 ys l' g2 z7r5 hyl _ mP h3 D3; obtain ⟨hy⟩:=z7r5
   rw [List.take_length] at hy
   refine xea2 (Led.freeze (l1:=[]) D3) fun G2 S2 eP D4=>?_
   replace D4 : Led _ L _ _ [(aF, lst vF mF), (aW, lst vW mW), (L + 1, cel o1 (some (.int (room : Int) u1))), (L + 2, cel o2 (some (.str (T sp) u2))), (L + 3, cel o3 (some (.str (T en) u3))), (162, tabO ps), (169, tabO qs)]:=D4
   have X2 : TopIn c.w.params G2:=XG.keeps S2
   clear D3 D XG
   walk_at "x"
   walk_at "S"
   refine W.callF (o:=o284 c.w.params) ‹_› ?_ (by kernel_rfl) (by kernel_rfl)
   walk_at "S"
   refine W.rdC 2 (by assumption) (by walk_at "mem") ?_
   walk_at "S"
   rename Led _ _ _ _ _=>D4
   rename TopIn _ _=>X2
   refine xa3 (Led.lend (l:=[]) D4) fun b1 b2 b3 b4=>?_
   refine ⟨D4.sub, places_spec (X2.keeps b3) b1 (r.less (by simp)) (b3 _ _ eP) hy hxs (by lia) fun h5 aQ mQ vQ S5 O5 hQ=>?_⟩
   have D5:=b4 h5 _ S5 O5
   clear b1 b2 b3 b4 D4
   rw [placesOf_nats] at hQ
   have pm:=placesN_mem (x.map spelled) sp
   have pl:=placesN_len (x.map spelled) sp
   walk_at "S"
   refine xea2 (Led.freeze (l1:=[]) ‹Led _ _ _ _ _›) fun G3 S3 eQ D6=>?_
   replace D6 : Led _ L _ _ [(aF, lst vF mF), (aW, lst vW mW), (L + 1, cel o1 (some (.int (room : Int) u1))), (L + 2, cel o2 (some (.str (T sp) u2))), (L + 3, cel o3 (some (.str (T en) u3))), (162, tabO ps), (169, tabO qs)]:=D6
   replace eP:=S3 _ _ eP
   rename TopIn _ _=>X2
   have X3 : TopIn c.w.params G3:=X2.keeps S3
   clear X2
   walk_at "S"
   refine W.callF (o:=o289 c.w.params) ‹_› ?_ (by kernel_rfl) (by kernel_rfl)
   walk_at "S"
   refine W.rdC 1 (by assumption) (by walk_at "mem") ?_
   walk_at "S"
   refine W.rdC 1 (by assumption) (by walk_at "mem") ?_
   walk_at "S"
   rename Led _ _ _ _ _=>D6
   rename TopIn _ _=>X3
   refine xa3 (Led.lend (l:=[]) D6) fun b1 b2 b3 b4=>?_
   refine ⟨D6.sub, rows_spec (X3.keeps b3) b1 (r.less (by simp)) (b3 _ _ eP) hy (b3 _ _ eQ) hQ (fun p hp=>(pm p hp).2) (by lia) (fun y hy=>(hxs y hy).2) (by lia) fun h7 aR mR vR S7 O7 hR=>?_⟩
   have D7:=b4 h7 _ S7 O7
   clear b1 b2 b3 b4 D6
   walk_at "S"
   refine xea2 (Led.freeze (l1:=[]) ‹Led _ _ _ _ _›) fun G4 S4 eR D8=>?_
   replace D8 : Led _ L _ _ [(aF, lst vF mF), (aW, lst vW mW), (L + 1, cel o1 (some (.int (room : Int) u1))), (L + 2, cel o2 (some (.str (T sp) u2))), (L + 3, cel o3 (some (.str (T en) u3))), (162, tabO ps), (169, tabO qs)]:=D8
   replace eP:=S4 _ _ eP
   replace eQ:=S4 _ _ eQ
   rename TopIn _ _=>X3
   have X4 : TopIn c.w.params G4:=X3.keeps S4
   clear X3
   walk_at "S"
   refine W.if_ ?_
   refine W.cmp1 ?_
   walk_at "S"
   rename TopIn _ _=>X4
   refine W.callF (o:=o294 c.w.params) X4 ?_ (by kernel_rfl) (by kernel_rfl)
   walk_at "S"
   refine W.rdC 1 (by assumption) (by walk_at "mem") ?_
   walk_at "S"
   rename Led _ _ _ _ _=>D8
   rename TopIn _ _=>X4
   refine xa3 (Led.lend (l:=[]) D8) fun b1 b2 b3 b4=>?_
   refine ⟨D8.sub, bars_spec (X4.keeps b3) b1 (r.less (by simp)) (b3 _ _ eP) hy (b3 _ _ eQ) hQ (fun p hp=>lO (pm p hp).2) (by lia) (fun y hy=>(hxs y hy).2) (by lia) hroom fun h9 aB mB vB S9 O9 hB=>?_⟩
   have D9:=b4 h9 _ S9 O9
   replace D9 : Led _ L _ _ ((aB, lst vB mB) :: [(aF, lst vF mF), (aW, lst vW mW), (L + 1, cel o1 (some (.int (room : Int) u1))), (L + 2, cel o2 (some (.str (T sp) u2))), (L + 3, cel o3 (some (.str (T en) u3))), (162, tabO ps), (169, tabO qs)]):=D9
   clear b1 b2 b3 b4 D8
   replace hR : Ss vR (fRows room sp x):=hR
   have rl1:=B.rl.1
   have rl2:=B.rl.2
   have hRl:=hR.len
   refine W.lcD D9 [] ?_
   walk_at "S"
   rename Led _ _ _ _ _=>D9
   refine W.compList r.hh D9 eR (zl _ (by rw [hRl]; exact lT rl1 (by decide))) (fun i ys l' g3=>CI g' ((aB, lst vB mB) :: [(aF, lst vF mF), (aW, lst vW mW), (L + 1, cel o1 (some (.int (room : Int) u1))), (L + 2, cel o2 (some (.str (T sp) u2))), (L + 3, cel o3 (some (.str (T en) u3))), (162, tabO ps), (169, tabO qs)]) (fun ys=>Is ys (nats (((fRows room sp x).take i).map List.length))) ys l' g3) ⟨Is.nil⟩ ?_ ?_
   ·intro j v ys2 G5 C h10 l' g3 hj SG5 z14r10 hzl D10; obtain ⟨hz⟩:=z14r10
    refine xe2a (hR.get hj) fun rw1 t1 hrj e153=>?_; obtain rfl:=e153
    have rwl:=rl2 rw1 (List.mem_of_getElem? hrj)
    have XG5:=X4.keeps SG5
    refine W.tests0 ?_
    refine iteT ?_
    walk_at "S"
    rotate_left
    ·exact zl _ (by exact lT rwl (by decide))
    refine ⟨_, by assumption, ⟨?_⟩⟩
    rw [List.take_add_one, hrj, List.map_append]
    unfold nats
    rw [List.map_append]
    exact hz.append (Is.cons Is.nil)
   ·intro aN h10 ys2 l' g3 z16r5 hzl z16r7; obtain ⟨hz⟩:=z16r5; refine xe z16r7 fun mN D10=>?_
    rw [hRl, List.take_length] at hz
    refine W.nel (D10.get (by walk_at "mem")) (D10.get (by walk_at "mem")) hB hz (lLe (Nat.add_le_add_left (by decide) _) r.units) ?_
    have D11 : Led G4 L h10 _ [(aF, lst vF mF), (aW, lst vW mW), (L + 1, cel o1 (some (.int (room : Int) u1))), (L + 2, cel o2 (some (.str (T sp) u2))), (L + 3, cel o3 (some (.str (T en) u3))), (162, tabO ps), (169, tabO qs)]:=D10.drop (.cons _ (.cons _ (List.Sublist.refl _)))
    clear D9 D10
    rw [B.bars]
    walk_at "S"
    rw [show (!decide (nats ((fRows room sp x).map List.length) = nats ((fRows room sp x).map List.length))) = false by simp]
    walk_at "S"
    rename Led _ _ _ _ _=>D11
    have hFl:=hF.len
    rw [lMa, lTk] at hFl
    refine W.mApp (D11.get (by walk_at "mem")) ?_
    walk_at "S"
    refine W.rdC 3 (by assumption) (by walk_at "mem") ?_
    walk_at "S"
    rotate_left
    ·exact zl _ (by rw [litQL, lS]; lia)
    rw [litQL]
    walk_at "S"
    rename Led _ _ _ _ _=>D11
    refine W.join (D11.sub _ _ eR) hR B.jf fun t11=>?_
    walk_at "S"
    refine W.app (D11.get (by walk_at "mem")) (zl _ (by omega)) fun h12 m12 e12 k12=>⟨rfl, ?_⟩
    have D12:=D11.upd (by walk_at "chg") e12 k12
    clear D11
    walk_at "S"
    rename Led _ _ _ _ _=>D12
    rename TopIn _ _=>X4
    refine W.callF (o:=o289 c.w.params) X4 ?_ (by kernel_rfl) (by kernel_rfl)
    walk_at "S"
    rename Led _ _ _ _ _=>D12
    have hyl2:=hy.len
    refine W.lenl (D12.sub _ _ eP) (zl _ (by rw [hyl2, lxs]; exact lT Bl (by decide))) fun t13=>?_
    walk_at "S"
    refine W.range2 D12 fun h13 ar v13 D13 hr13=>?_
    walk_at "S"
    refine W.listR r.hh D13 hr13 (by rw [hyl2, lxs]; exact lT Bl (by decide)) fun h14 aI vI mI hI D14=>?_
    have hI2 : Is vI (nats (singlesN (x.map spelled))):=by
     unfold nats singlesN
     rw [List.map_map, <- hyl2]
     exact hI
    have sm:=singlesN_mem (x.map spelled)
    have sl:=singlesN_len (x.map spelled)
    clear D12 D13 hr13
    refine xea2 (Led.freeze (l1:=[]) D14) fun G5 S5 eI D15=>?_
    replace D15 : Led _ L _ _ ((aF, lst (vF ++ [_]) m12) :: [(aW, lst vW mW), (L + 1, cel o1 (some (.int (room : Int) u1))), (L + 2, cel o2 (some (.str (T sp) u2))), (L + 3, cel o3 (some (.str (T en) u3))), (162, tabO ps), (169, tabO qs)]):=D15
    replace eP:=S5 _ _ eP
    rename TopIn _ _=>X4
    have X5 : TopIn c.w.params G5:=X4.keeps S5
    clear D14
    walk_at "S"
    refine W.rdC 1 (by assumption) (by walk_at "mem") ?_
    walk_at "S"
    refine W.rdC 1 (by assumption) (by walk_at "mem") ?_
    walk_at "S"
    rename Led _ _ _ _ _=>D15
    rename TopIn _ _=>X5
    refine xa3 (Led.lend (l:=[]) D15) fun b1 b2 b3 b4=>?_
    refine ⟨S5.trans D15.sub, rows_spec (last:=room + 1) (X5.keeps b3) b1 (r.less (by simp)) (b3 _ _ eP) hy (b3 _ _ eI) hI2 (fun p hp=>(sm p hp).2) (by lia) (fun y hy=>(hxs y hy).2) (by lia) fun h16 aT mT vT S16 O16 hT=>?_⟩
    have D16:=b4 h16 _ S16 O16
    replace D16 : Led _ L _ _ ((aT, lst vT mT) :: (aF, lst (vF ++ [_]) m12) :: [(aW, lst vW mW), (L + 1, cel o1 (some (.int (room : Int) u1))), (L + 2, cel o2 (some (.str (T sp) u2))), (L + 3, cel o3 (some (.str (T en) u3))), (162, tabO ps), (169, tabO qs)]):=D16
    replace hT : Ss vT (wRows room x):=hT
    clear b1 b2 b3 b4 D15
    have hWl:=hW.len
    rw [lMa, lTk] at hWl
    walk_at "S"
    rename Led _ _ _ _ _=>D16
    refine W.mApp (D16.get (by walk_at "mem")) ?_
    walk_at "S"
    refine W.rdC 3 (by assumption) (by walk_at "mem") ?_
    walk_at "S"
    rotate_left
    ·exact zl _ (by rw [litQL, lS]; lia)
    rw [litQL]
    walk_at "S"
    rename Led _ _ _ _ _=>D16
    refine W.join (D16.get (by walk_at "mem")) hT B.jw fun t17=>?_
    walk_at "S"
    refine W.app (D16.get (by walk_at "mem")) (zl _ (by omega)) fun h17 m17 e17 k17=>⟨rfl, ?_⟩
    have D17:=D16.upd (by walk_at "chg") e17 k17
    have D18:=D17.drop (List.sublist_cons_self _ _)
    clear D16 D17
    walk_at "S"
    refine ⟨_, _, D18.base (S2.trans (S3.trans (S4.trans S5))), rfl, _, _, _, _, _, _, _, _, _, ?_, ?_⟩
    ·rw [etk]; exact hF.append (Ss.cons Ss.nil)
    ·rw [etk]; exact hW.append (Ss.cons Ss.nil)
 ·rintro h f l g' ⟨rfl, vF, mF, vW, mW, w1, w2, w3, w4, w5, hF, hW⟩ D
  have e1:=hLs.len
  rw [e1, List.take_length] at hF hW
  walk_at "n"
  exact (done _ _ _ _ _ _ _ _ _ _ D hF hW).mono (by assumption)
structure LawOk (room : Nat) (sp en : List Nat) (lines : List (List Nat)) : Prop where
 ll : lines.length <= 1000
 line : ∀ x ∈ lines, LineOk room sp en x
 fold : ∀ x ∈ lines, FoldOk x room sp en
 feq : ∀ x ∈ lines, foldedF x room sp en = fRow room sp en x
 be : BeOk (room + 1) en ([10].intercalate lines)
 beq : encF (room + 1) en ([10].intercalate lines) = en.intercalate (lines.map (wRow room en))
 dF : DecOk (en.intercalate (lines.map (fRow room sp en))) ([10].intercalate lines)
 dW : DecOk (en.intercalate (lines.map (wRow room en))) ([10].intercalate lines)
 jb : (lines.map (·.length)).sum + lines.length * ([10] : List Nat).length <= 16777216
 jF : ((lines.map (fRow room sp en)).map (·.length)).sum + (lines.map (fRow room sp en)).length * en.length <= 16777216
 jW : ((lines.map (wRow room en)).map (·.length)).sum + (lines.map (wRow room en)).length * en.length <= 16777216
 room4 : 3 <= room /\ room <= 900
 sp1 : sp.length <= 1
 en2 : en.length <= 2
theorem litNL3 : (Str.ofString "\n").cps.toList = [10]:=by kernel_rfl
set_option maxHeartbeats 4000000 in
theorem lawB {c : Cx} {A : Around} {G h : Heap} {g : Gs} {L : Addr} {v0 v1 v2 v3 : Option Value} {sp en : List Nat} {room : Nat} {u1 u2 u3 : Tok} {aLs : Addr} {mLs : Nat} {vLs : List Value} {o1 o2 o3 : Obj} {ps qs : Array Value} {lines : List (List Nat)} {Q : PF}
  (X : TopIn c.w.params G) (D : Led G L h [("script", v0), ("drawn", v1), ("total", v2), ("laid", v3), ("line", none), ("lines", some (.ref aLs)), ("body", none), ("folded", none), ("written", none), ("due_folded", none), ("due_written", none), ("pieces", none), ("places", none), ("rows", none), ("singles", none)] [(L + 1, cel o1 (some (.int (room : Int) u1))), (L + 2, cel o2 (some (.str (T sp) u2))), (L + 3, cel o3 (some (.str (T en) u3))), (162, tabO ps), (169, tabO qs)]) (r : Room A 15) (eL : G.get? aLs = some (lst vLs mLs)) (hLs : Ss vLs lines) (B : LawOk room sp en lines) (hp : TriplesOk ps.toList) (hq : TriplesOk qs.toList)
  (k : ∀ h' g' ps' qs', Sub G h' -> Own G h' [(162, tabO ps'), (169, tabO qs')] -> TriplesOk ps'.toList -> TriplesOk qs'.toList -> (AllBare g -> AllBare g') -> Q (.ret (.bool true)) h' g') : W c A (execs ((bodyOf (topSt 37)).drop 7) (callEnvC (fdOf (o306 c.w.params)) L 306)) Q h g:=by
 have zl : ∀ n, n <= 10000000 -> n <= sizeLine:=fun n h=>by rw [sE]; exact lT h (by decide)
 have B4:=B.room4
 have hll:=B.ll
 have len2:=B.en2
 walk_at "x"
 walk_at "S"
 rw [litNL3]
 walk_at "D"
 refine W.join (D.sub _ _ eL) hLs B.jb fun tb=>?_
 walk_at "S"
 refine W.rdC 3 (by assumption) (by walk_at "mem") ?_
 walk_at "S"
 walk_at "D"
 refine W.lcD D [("splitter", L + 2), ("room", L + 1), ("ending", L + 3)] ?_
 walk_at "S"
 walk_at "D"
 walk_at "X"
 refine W.compList r.hh D eL (by have:=hLs.len; exact zl _ (by lia)) (fun i ys l' g2=>(AllBare g -> AllBare g2) /\ ∃ ps qs, l' = [(L + 1, cel o1 (some (.int (room : Int) u1))), (L + 2, cel o2 (some (.str (T sp) u2))), (L + 3, cel o3 (some (.str (T en) u3))), (162, tabO ps), (169, tabO qs)] /\ TriplesOk ps.toList /\ TriplesOk qs.toList /\ Ss ys ((lines.take i).map (fRow room sp en))) ⟨id, ps, qs, rfl, hp, hq, Ss.nil⟩ ?_ ?_
 ·clear D hp hq ps qs
  intro i v ys G2 C h2 l' g2 hi SG z0r10 hyl D; refine xae2a3 z0r10 fun hb ps qs e0r103 hp hq hy=>?_; obtain rfl:=e0r103
  refine xe2a (hLs.get hi) fun x tx hxi e13=>?_; obtain rfl:=e13
  have hxm:=List.mem_of_getElem? hxi
  have XG:=X.keeps SG
  refine W.tests0 ?_
  refine iteT ?_
  walk_at "S"
  rename TopIn _ _=>XG
  refine W.callF (o:=o301 c.w.params) XG ?_ (by kernel_rfl) (by kernel_rfl)
  walk_at "S"
  refine W.rdA (a:=L + 1) (by assumption) (by walk_at "mem") ?_
  walk_at "S"
  refine W.rdA (a:=L + 2) (by assumption) (by walk_at "mem") ?_
  walk_at "S"
  refine W.rdA (a:=L + 3) (by assumption) (by walk_at "mem") ?_
  walk_at "S"
  walk_at "D"
  rename TopIn _ _=>XG
  have D2 : Led G2 C h2 _ ([(162, tabO ps), (169, tabO qs)] ++ [(L + 1, cel o1 (some (.int (room : Int) u1))), (L + 2, cel o2 (some (.str (T sp) u2))), (L + 3, cel o3 (some (.str (T en) u3)))]):=D.perm (List.perm_append_comm (l₁:=[(L + 1, cel o1 (some (.int (room : Int) u1))), (L + 2, cel o2 (some (.str (T sp) u2))), (L + 3, cel o3 (some (.str (T en) u3)))]) (l₂:=[(162, tabO ps), (169, tabO qs)]))
  refine xa3 D2.lend fun b1 b2 b3 b4=>?_
  refine ⟨D2.sub, folded_spec (XG.keeps b3) b1 b2 hp hq (r.less (by simp)) (B.fold x hxm) B.sp1 B.en2 fun h3 g3 ps3 qs3 t3 S3 O3 hp3 hq3 hb3=>?_⟩
  have D3:=b4 h3 _ S3 O3
  refine ⟨_, D3.perm (List.perm_append_comm (l₁:=[(162, tabO ps3), (169, tabO qs3)]) (l₂:=[(L + 1, cel o1 (some (.int (room : Int) u1))), (L + 2, cel o2 (some (.str (T sp) u2))), (L + 3, cel o3 (some (.str (T en) u3)))])), fun q=>hb3 (hb q), ps3, qs3, rfl, hp3, hq3, ?_⟩
  rw [List.take_add_one, hxi, List.map_append, B.feq x hxm]
  exact hy.append (Ss.cons Ss.nil)
 ·clear D hp hq ps qs
  intro aC h2 ys l' g2 z3r5 hyl z3r7; refine xae2a3 z3r5 fun hb ps qs e3r53 hp hq hy=>?_; obtain rfl:=e3r53; refine xe z3r7 fun mC D=>?_
  have e1:=hLs.len
  rw [e1, List.take_length] at hy
  walk_at "S"
  walk_at "D"
  refine W.join (D.get (by walk_at "mem")) hy B.jF fun tf=>?_
  have D2:=D.drop (List.sublist_cons_self _ _)
  clear D
  walk_at "S"
  walk_at "X"
  refine W.callF (o:=o255 c.w.params) X ?_ (by kernel_rfl) (by kernel_rfl)
  walk_at "S"
  refine W.rdC 1 (by assumption) (by walk_at "mem") ?_
  walk_at "S"
  refine W.rdC 3 (by assumption) (by walk_at "mem") ?_
  walk_at "S"
  walk_at "D"
  walk_at "X"
  rename Tok=>tR
  refine xa3 (Led.lend (l:=[]) D) fun b1 b2 b3 b4=>?_
  refine ⟨D.sub, be_spec (t:=tb) (u:=tR) (t2:=u3) (x:=[10].intercalate lines) (eol:=en) (m:=room + 1) (X.keeps b3) b1 (r.less (by simp)) (fun s hs=>BindsTo.of_defaults (T:=248) (o:=o248 c.w.params) (by kernel_rfl) (hs ▸ (X.keeps D.sub) _ _ (by kernel_rfl : (KM c.w.params).lookup 248 = some (o248 c.w.params))) rfl rfl rfl) (by lia) (by lia) B.be.hx B.be.z1 B.be.z2 B.be.z3 B.be.z4 B.be.z5 B.be.z6 len2 B.be.z8 fun h4 t4 S4=>?_⟩
  have D4:=b4 h4 [] S4 Own.nil
  rw [List.nil_append] at D4
  clear b1 b2 b3 b4 D
  rw [B.beq]
  walk_at "S"
  rename Led _ _ _ _ _=>D4
  refine W.newl D4 (by simp [sE]) fun h5 aF D5=>?_
  clear D4
  walk_at "S"
  rename Led _ _ _ _ _=>D5
  refine W.newl D5 (by simp [sE]) fun h6 aW D6=>?_
  clear D5
  refine W.wr D6 (by walk_at "put") fun h7 D7=>?_
  clear D6
  walk_at "X"
  walk_at "n"
  refine lawC (mF:=0) (mW:=0) X (D7.perm (List.Perm.swap _ _ _)) (r.less (by simp)) eL hLs hll B.line len2 (by lia) fun h8 vF mF vW mW w1 w2 w3 w4 w5 D8 hF hW=>?_
  exact lawD X D8 (r.less (by simp)) hF hW rfl rfl B.jF B.jW B.dF B.dW fun h9 S9 O9=>by walk_at "n"; exact k h9 _ ps qs S9 O9 hp hq hb
noncomputable def seven : List Int:=[24, 37, 3, 13, 26, 16, 5]
noncomputable def drawnOf (ns : List Int) : List Int:=(ns.take 6).map (· % 1000000)
noncomputable def roomOf (ns : List Int) : Nat:=(3 + (drawnOf ns).sum % 9).toNat
noncomputable def spOf (k : Nat) : List Nat:=[[32], [68], [9], []].getD k []
noncomputable def enOf (k : Nat) : List Nat:=[[10], [13, 10], [13]].getD k []
noncomputable def splitterOf (ns : List Int) : List Nat:=spOf ((drawnOf ns).sum / 9 % 4).toNat
noncomputable def endingOf (ns : List Int) : List Nat:=enOf (ns.length % 3)
noncomputable def textOf (ns : List Int) : List Nat:=((seven ++ drawnOf ns).map laid).flatten
noncomputable def dotted (x : List Nat) : List Nat:=if x.getLast? = some 32 \/ x.getLast? = some 9 then x ++ [46] else x
noncomputable def linesOfLaw (ns : List Int) : List (List Nat):=(splitN [] (textOf ns)).map dotted
theorem laid_len (n : Int) : 1 <= (laid n).length /\ (laid n).length <= 4:=by
 unfold laid
 rw [lC, List.length_replicate]
 lia
theorem sp_item (a b c d : Tok) (k : Nat) (h : k < 4) : ∃ t, [Value.str (T [32]) a, .str (T [68]) b, .str (T [9]) c, .str (T []) d][k]? = some (.str (T (spOf k)) t):=by
 rcases k with _ | _ | _ | _ | k
 iterate 4 exact ⟨_, rfl⟩
 exact absurd h (Nat.not_lt_of_le (Nat.le_add_left 4 k))
theorem en_item (a b c : Tok) (k : Nat) (h : k < 3) : ∃ t, [Value.str (T [10]) a, .str (T [13, 10]) b, .str (T [13]) c][k]? = some (.str (T (enOf k)) t):=by
 rcases k with _ | _ | _ | k
 iterate 3 exact ⟨_, rfl⟩
 exact absurd h (Nat.not_lt_of_le (Nat.le_add_left 3 k))
theorem sum_le : ∀ (ys : List (List Nat)) (B : Nat), (∀ y ∈ ys, y.length <= B) -> (ys.map (·.length)).sum <= B * ys.length
 | [], _, _=>by simp
 | y :: ys, B, h=>by
  have ih:=sum_le ys B fun z hz=>h z (.tail _ hz)
  have:=h y (.head _)
  rw [mpC, List.sum_cons, lC, Nat.mul_add]; lia
theorem W.newl7 {c : Cx} {A : Around} {G h : Heap} {g : Gs} {L : Addr} {f : Fm} {l : List (Addr × Obj)} {t1 t2 t3 t4 t5 t6 t7 : Tok} {Q : PV} (D : Led G L h f l) (y : ∀ h' a vs, Is vs seven -> Led G L h' f ((a, lst vs 0) :: l) -> Q (.ref a) h' g) :
  W c A (newList [.int 24 t1, .int 37 t2, .int 3 t3, .int 13 t4, .int 26 t5, .int 16 t6, .int 5 t7]) Q h g :=
 W.newl D (by simp [sE]) fun h' a D'=>y h' a _ (Is.cons (Is.cons (Is.cons (Is.cons (Is.cons (Is.cons (Is.cons Is.nil))))))) D'
theorem splitN_le : ∀ (r acc : List Nat), ∀ y ∈ splitN acc r, y.length <= acc.length + r.length
 | [], acc, y, h=>by rw [splitN, List.mem_singleton] at h; subst h; simp
 | c :: r, acc, y, h=>by
  rw [splitN] at h
  split at h
  ·rcases lmc h with rfl | h
   ·simp
   ·have:=splitN_le r [] y h
    rw [List.length_nil] at this; rw [lC]; lia
  ·have:=splitN_le r _ y h
   rw [lA, lS] at this; rw [lC]; lia
theorem last_in (w : List Nat) : cutL w (some (-1)) none ∈ [[32], [9]] ↔ (w.getLast? = some 32 \/ w.getLast? = some 9):=by
 rcases List.eq_nil_or_concat w with rfl | ⟨l, x, rfl⟩
 ·simp [cutL, loOf, hiOf]
 ·rw [show cutL (l.concat x) (some (-1)) none = [x] by
   unfold cutL loOf hiOf
   rw [List.concat_eq_append]
   dsimp only
   rw [if_pos (by decide), List.take_length, lA, lS, show ((-1 : Int) + ((l.length + 1 : Nat) : Int)).toNat = l.length by lia, List.drop_left]]
  simp
theorem litsp : (Str.ofString " ").cps.toList = [32]:=by kernel_rfl
theorem litD : (Str.ofString "D").cps.toList = [68]:=by kernel_rfl
theorem litT : (Str.ofString "\t").cps.toList = [9]:=by kernel_rfl
theorem litCRN : (Str.ofString "\r\n").cps.toList = [13, 10]:=by kernel_rfl
theorem litCR : (Str.ofString "\r").cps.toList = [13]:=by kernel_rfl
theorem litNL4 : (Str.ofString "\n").cps.toList = [10]:=by kernel_rfl
theorem litDot : (Str.ofString ".").cps.toList = [46]:=by kernel_rfl
set_option maxHeartbeats 4000000 in
theorem law_spec {c : Cx} {A : Around} {G h : Heap} {g : Gs} {al : Addr} {vl : List Value} {ml : Nat} {ns : List Int} {ps qs : Array Value} {Q : PV} (X : TopIn c.w.params G) (S : Sub G h) (O : Own G h [(162, tabO ps), (169, tabO qs)]) (hp : TriplesOk ps.toList) (hq : TriplesOk qs.toList) (r : Room A 16)
  (e : G.get? al = some (lst vl ml)) (hI : Is vl ns) (hn : ns.length <= 1000) (B : LawOk (roomOf ns) (splitterOf ns) (endingOf ns) (linesOfLaw ns))
  (k : ∀ h' g' ps' qs', Sub G h' -> Own G h' [(162, tabO ps'), (169, tabO qs')] -> TriplesOk ps'.toList -> TriplesOk qs'.toList -> (AllBare g -> AllBare g') -> Q (.bool true) h' g') : WC c A (.call (.ref 306) ⟨[.ref al], []⟩) Q h g:=by
 have zl : ∀ n, n <= 10000000 -> n <= sizeLine:=fun n h=>by rw [sE]; exact lT h (by decide)
 have hIl:=hI.len
 refine enterC (k:=15) 306 (o306 c.w.params) (bodyOf (topSt 37)) [("script", .ref al)] [("script", .ref al)] [Str.ofString "drawn", Str.ofString "total", Str.ofString "laid", Str.ofString "line", Str.ofString "lines", Str.ofString "body", Str.ofString "folded", Str.ofString "written", Str.ofString "due_folded", Str.ofString "due_written", Str.ofString "pieces", Str.ofString "places", Str.ofString "rows", Str.ofString "singles"] [("script", some (.ref al)), ("drawn", none), ("total", none), ("laid", none), ("line", none), ("lines", none), ("body", none), ("folded", none), ("written", none), ("due_folded", none), ("due_written", none), ("pieces", none), ("places", none), ("rows", none), ("singles", none)]
  [("room", none), ("splitter", none), ("ending", none)] X S O r rfl (fun s _=>BindsTo.of_eq (by kernel_rfl)) ?_
 intro h₁ L os D0 r' hL
 walk_at "x"
 have D : Led G L h₁ [("script", some (.ref al)), ("drawn", none), ("total", none), ("laid", none), ("line", none), ("lines", none), ("body", none), ("folded", none), ("written", none), ("due_folded", none), ("due_written", none), ("pieces", none), ("places", none), ("rows", none), ("singles", none)] [(L + 1, cel (os 0) none), (L + 2, cel (os 1) none), (L + 3, cel (os 2) none), (162, tabO ps), (169, tabO qs)]:=D0
 clear D0
 walk_at "k"
 refine W.lcAssignD D [] (fun D=>[("script", some (.ref al)), ("drawn", some (.ref D)), ("total", none), ("laid", none), ("line", none), ("lines", none), ("body", none), ("folded", none), ("written", none), ("due_folded", none), ("due_written", none), ("pieces", none), ("places", none), ("rows", none), ("singles", none)]) (fun D=>by walk_at "put") ?_
 walk_at "S"
 walk_at "D"
 refine SlOn.list D (D.sub _ _ e) (.inl rfl) (.inr ⟨_, _, rfl⟩) (zl _ (by lia)) fun h2 a2 D2=>?_
 rw [show cutL vl (partOf .none) (partOf (.int 6 _)) = vl.take 6 by
  show cutL vl none (some 6) = _
  unfold cutL loOf hiOf
  dsimp only
  rw [if_neg (by decide), List.drop_zero, show min (6 : Int).toNat vl.length = min 6 vl.length from rfl]
  rcases Nat.le_total 6 vl.length with q | q
  ·rw [Nat.min_eq_left q]
  ·rw [Nat.min_eq_right q, List.take_length, List.take_of_length_le q]] at D2
 clear D
 refine W.compListH r'.hh D2 (zl _ (by rw [lTk]; exact lT (Nat.min_le_left _ _) (by decide))) (fun i ys l' g2=>CI g ([(L + 1, cel (os 0) none), (L + 2, cel (os 1) none), (L + 3, cel (os 2) none), (162, tabO ps), (169, tabO qs)]) (fun ys=>Is ys ((drawnOf ns).take i)) ys l' g2) ⟨Is.nil⟩ ?_ ?_
 ·rintro i v ys G3 C h3 l' g3 hi SG ⟨hy⟩ hyl D4
  obtain ⟨nv, tv, hni, rfl⟩:=(hI.take 6).get hi
  refine W.tests0 ?_
  refine iteT ?_
  walk_at "S"
  refine W.pow6 fun t9=>?_
  walk_at "S"
  refine ⟨_, by assumption, ⟨?_⟩⟩
  have : (drawnOf ns).take (i + 1) = (drawnOf ns).take i ++ [nv % 1000000]:=by
   unfold drawnOf
   rw [List.take_add_one, List.getElem?_map, hni]; rfl
  rw [this]
  exact hy.append (Is.cons Is.nil)
 ·rintro aD h3 ys l' g3 ⟨hy⟩ hyl _ mD h4 D4
  have hdl : (drawnOf ns).length = (vl.take 6).length:=by unfold drawnOf; rw [lMa, lTk, lTk, hIl]
  rw [<- hdl, List.take_length] at hy
  refine xea2 (Led.freeze (l1:=[]) D4) fun G3 S3 e3 D5=>?_
  replace D5 : Led _ L _ _ [(L + 1, cel (os 0) none), (L + 2, cel (os 1) none), (L + 3, cel (os 2) none), (162, tabO ps), (169, tabO qs)]:=D5
  replace X : TopIn c.w.params G3:=X.keeps S3
  clear D2 D4
  walk_at "x"
  walk_at "S"
  rename Led _ _ _ _ _=>D5
  refine W.sum r'.hh D5 (D5.sub _ _ e3) hy fun h6 t6 D6=>?_
  clear D5
  generalize hT : (drawnOf ns).sum = tot
  walk_at "S"
  have hroom : (3 + tot % 9 : Int) = ((roomOf ns : Nat) : Int):=by unfold roomOf; rw [hT]; exact (Int.toNat_of_nonneg (Int.add_nonneg (by decide) (Int.emod_nonneg _ (by decide)))).symm
  rw [hroom]
  rename Tok=>tr
  rename Led _ _ _ _ _=>D6
  refine W.wrC 1 D6 (fun o'=>by walk_at "chg") fun h7 o1 D7=>?_
  clear D6
  walk_at "S"
  rename Led _ _ _ _ _=>D7
  refine W.newt0 D7 (zl _ (by simp)) fun h8 at1 D8 ht1=>?_
  clear D7
  rw [litsp, litD, litT, litE8] at ht1
  walk_at "S"
  have hk4 : tot / 9 % 4 = (((tot / 9 % 4).toNat : Nat) : Int):=(Int.toNat_of_nonneg (Int.emod_nonneg _ (by decide))).symm
  have hsp : splitterOf ns = spOf (tot / 9 % 4).toNat:=by unfold splitterOf; rw [hT]
  have hk5 : (tot / 9 % 4).toNat < 4:=(Int.toNat_lt (Int.emod_nonneg _ (by decide))).mpr (Int.emod_lt_of_pos _ (by decide))
  generalize (tot / 9 % 4).toNat = kk at hk4 hsp hk5
  rw [hk4]
  refine W.tupI ht1 (by exact lLt hk5 (by decide)) (sp_item _ _ _ _ kk hk5).choose_spec ?_
  generalize Exists.choose _ = ts
  rw [<- hsp]
  rename Led _ _ _ _ _=>D8
  refine W.wrC 2 D8 (fun o'=>by walk_at "chg") fun h9 o2 D9=>?_
  clear D8 ht1
  walk_at "S"
  rename Led _ _ _ _ _=>D9
  refine W.newt0 D9 (zl _ (by simp)) fun h10 at2 D10 ht2=>?_
  clear D9
  rw [litNL4, litCRN, litCR] at ht2
  walk_at "S"
  rename Led _ _ _ _ _=>D10
  refine W.lenl ((S3.trans D10.sub) _ _ e) (zl _ (by lia)) fun t10=>?_
  walk_at "S"
  have hk6 : (vl.length : Int) % 3 = ((ns.length % 3 : Nat) : Int):=by rw [hIl]; rfl
  have hen : endingOf ns = enOf (ns.length % 3):=rfl
  have hk7 : ns.length % 3 < 3:=Nat.mod_lt _ (by decide)
  generalize ns.length % 3 = ke at hk6 hen hk7
  rw [hk6]
  refine W.tupI ht2 (by exact lLt hk7 (by decide)) (en_item _ _ _ ke hk7).choose_spec ?_
  generalize Exists.choose _ = te
  rw [<- hen]
  rename Led _ _ _ _ _=>D10
  refine W.wrC 3 D10 (fun o'=>by walk_at "chg") fun h11 o3 D11=>?_
  clear D10 ht2
  walk_at "S"
  rename Led _ _ _ _ _=>D11
  refine W.lcD D11 [] ?_
  walk_at "S"
  rename Led _ _ _ _ _=>D11
  refine W.newl7 D11 fun h12 a12 v7 h7s D12=>?_
  clear D11
  walk_at "S"
  rename Led _ _ _ _ _=>D12
  walk_at "X"
  have hyl2:=hy.len
  have hdl6 : (drawnOf ns).length <= 6:=by rw [hdl, lTk]; exact Nat.min_le_left _ _
  refine W.addl D12 (D12.get (.head _)) (D12.sub _ _ e3) (zl _ (by have:=h7s.len; rw [this]; show 7 + _ <= _; rw [hyl2]; exact lT (Nat.add_le_add_left hdl6 7) (by decide))) fun h13 a13 D13=>?_
  clear D12
  replace D13:=D13.drop (l':=(a13, lst _ 0) :: [(L + 1, cel o1 (some (.int ((roomOf ns : Nat) : Int) tr))), (L + 2, cel o2 (some (.str (T (splitterOf ns)) ts))), (L + 3, cel o3 (some (.str (T (endingOf ns)) te))), (162, tabO ps), (169, tabO qs)]) (.cons₂ _ (.cons _ (List.Sublist.refl _)))
  have hIs : Is _ (seven ++ drawnOf ns):=h7s.append hy
  have hsl : (seven ++ drawnOf ns).length <= 13:=by rw [lA]; exact Nat.add_le_add_left hdl6 7
  refine W.compListH r'.hh D13 (zl _ (by have:=hIs.len; rw [this]; exact lT hsl (by decide))) (fun i ys l' g4=>CI g ([(L + 1, cel o1 (some (.int ((roomOf ns : Nat) : Int) tr))), (L + 2, cel o2 (some (.str (T (splitterOf ns)) ts))), (L + 3, cel o3 (some (.str (T (endingOf ns)) te))), (162, tabO ps), (169, tabO qs)]) (fun ys=>Ss ys (((seven ++ drawnOf ns).take i).map laid)) ys l' g4) ⟨Ss.nil⟩ ?_ ?_
  ·rintro i v ys2 G4 C h14 l' g4 hi SG ⟨hz⟩ hzl D14
   obtain ⟨nv, tv, hni, rfl⟩:=hIs.get hi
   have XG : TopIn c.w.params G4:=X.keeps SG
   refine W.tests0 ?_
   refine iteT ?_
   walk_at "S"
   rename TopIn _ _=>XG
   refine W.callF (o:=o270 c.w.params) XG ?_ (by kernel_rfl) (by kernel_rfl)
   walk_at "S"
   rename Led _ _ _ _ _=>D14
   refine xa3 (Led.lend (l:=[]) D14) fun b1 b2 b3 b4=>?_
   refine ⟨D14.sub, laid_spec (XG.keeps b3) b1 (r'.less (by simp)) fun h15 t15 S15=>?_⟩
   have D15:=b4 h15 [] S15 Own.nil
   rw [List.nil_append] at D15
   refine ⟨_, D15, ⟨?_⟩⟩
   rw [List.take_add_one, hni, List.map_append]
   exact hz.append (Ss.cons Ss.nil)
  ·rintro aC h14 ys2 l' g4 ⟨hz⟩ hzl ⟨mC, D14⟩
   rw [hIs.len, List.take_length] at hz
   clear D13
   walk_at "S"
   rename Led _ _ _ _ _=>D14
   have hb1:=sum_le ((seven ++ drawnOf ns).map laid) 4 fun y hy=>by
    obtain ⟨q, _, rfl⟩:=lmm hy
    exact (laid_len q).2
   rw [lMa] at hb1
   rw [litE8]
   refine W.join (D14.get (by walk_at "mem")) hz (by rw [lMa, List.length_nil, Nat.mul_zero]; exact lT hb1 (lT (Nat.mul_le_mul_left 4 hsl) (by decide))) fun t16=>?_
   rw [inter_nil, show ((seven ++ drawnOf ns).map laid).flatten = textOf ns from rfl]
   have D16:=D14.drop (List.sublist_cons_self _ _)
   clear D14
   have htl : (textOf ns).length <= 52:=by
    unfold textOf
    rw [List.length_flatten]; exact lT hb1 (by lia)
   walk_at "S"
   rename Led _ _ _ _ _=>D16
   walk_at "X"
   refine W.lcAssignD D16 [] (fun D=>[("script", some (.ref al)), ("drawn", some (.ref aD)), ("total", some (.int tot t6)), ("laid", some (.str (T (textOf ns)) t16)), ("line", none), ("lines", some (.ref D)), ("body", none), ("folded", none), ("written", none), ("due_folded", none), ("due_written", none), ("pieces", none), ("places", none), ("rows", none), ("singles", none)]) (fun D=>by walk_at "put") ?_
   walk_at "S"
   rename Led _ _ _ _ _=>D16
   rw [litNL4]
   refine W.split10 D16 (by exact lT htl (by decide)) fun h17 a17 v17 hs17 D17=>?_
   clear D16
   have hspl:=splitN_len (textOf ns) []
   have hmem:=splitN_le (textOf ns) []
   refine W.compListH r'.hh D17 (zl _ (by have:=hs17.len; rw [this]; lia)) (fun i ys l' g5=>CI g ([(L + 1, cel o1 (some (.int ((roomOf ns : Nat) : Int) tr))), (L + 2, cel o2 (some (.str (T (splitterOf ns)) ts))), (L + 3, cel o3 (some (.str (T (endingOf ns)) te))), (162, tabO ps), (169, tabO qs)]) (fun ys=>Ss ys (((splitN [] (textOf ns)).take i).map dotted)) ys l' g5) ⟨Ss.nil⟩ ?_ ?_
   ·rintro i v ys3 G5 C h18 l' g5 hi SG ⟨hz3⟩ hzl3 D18
    obtain ⟨w, tw, hwi, rfl⟩:=hs17.get hi
    have hwl:=hmem w (List.mem_of_getElem? hwi)
    rw [List.length_nil] at hwl
    have XG : TopIn c.w.params G5:=X.keeps SG
    have fin : ∀ v t, v = dotted w -> Ss (ys3 ++ [.str (T v) t]) (((splitN [] (textOf ns)).take (i + 1)).map dotted):=fun v t e=>by
     subst e
     rw [List.take_add_one, hwi, List.map_append]
     exact hz3.append (Ss.cons Ss.nil)
    refine W.tests0 ?_
    refine iteT ?_
    refine W.ifexp ?_
    refine W.testL (w.getLast? = some 32 \/ w.getLast? = some 9) D18 ?_ ?_ ?_
    ·walk_at "S"
     rename Led _ _ _ _ _=>D18
     refine SlOn.str D18 (.inr ⟨_, _, rfl⟩) (.inl rfl) (zl _ (by lia)) fun h19 t19 D19=>?_
     walk_at "S"
     rename Led _ _ _ _ _=>D19
     refine W.newt0 D19 (zl _ (by simp)) fun h20 a20 D20 ht20=>?_
     rw [litsp, litT] at ht20
     refine W.intup ht20 (Ss.cons (Ss.cons Ss.nil)) ?_
     refine W.tbool ⟨?_, rfl, D20⟩
     rw [decide_eq_decide]
     exact last_in w
    ·intro h21 hP D21
     walk_at "S"
     rotate_left
     ·exact zl _ (by rw [litDot, lS]; lia)
     rw [litDot]
     exact ⟨_, by assumption, ⟨fin _ _ (if_pos hP).symm⟩⟩
    ·intro h21 hP D21
     walk_at "S"
     exact ⟨_, by assumption, ⟨fin _ _ (if_neg hP).symm⟩⟩
   ·rintro aL h18 ys3 l' g5 ⟨hz3⟩ hzl3 _ mL h19 D19
    rw [hs17.len, List.take_length] at hz3
    refine xea2 (Led.freeze (l1:=[]) D19) fun G6 S6 e6 D20=>?_
    replace D20 : Led _ L _ _ [(L + 1, cel o1 (some (.int ((roomOf ns : Nat) : Int) tr))), (L + 2, cel o2 (some (.str (T (splitterOf ns)) ts))), (L + 3, cel o3 (some (.str (T (endingOf ns)) te))), (162, tabO ps), (169, tabO qs)]:=D20
    walk_at "n"
    refine lawB (X.keeps S6) D20 (r'.less (by simp)) e6 hz3 B hp hq fun h' g' ps' qs' S' O' i1 i2 i3=>?_
    walk_at "n"
    exact k h' g' ps' qs' (S3.trans (S6.trans S')) (O'.base (S3.trans S6)) i1 i2 i3
section
set_option maxHeartbeats 0
theorem ns_uniq {h : Heap} {a : Addr} {m m' : Str -> Option Value} (x : h.Ns a m) (y : h.Ns a m') : m = m':=by
 obtain ⟨o, es, ep, e, e2, e3, e4⟩:=x
 obtain ⟨o', es', ep', e', e2', e3', e4'⟩:=y
 rw [e] at e'
 cases Option.some.inj e'
 rw [e2] at e2'
 injection e2' with e5 e6
 subst e5
 funext k
 rw [<- e4 k, <- e4' k]
theorem is_of {vs : List Value} {ns : List Int} (h : IntsAre vs ns) : Is vs ns:=by
 induction h with
 | nil=>exact Is.nil
 | cons _ _ _ ih=>exact Is.cons ih
theorem run_law {w : World} {s₁ : Shared} {a : Addr} {vs : List Value} {ns : List Int} (K : (KW w.params).In s₁.heap) (hg : s₁.gens = #[]) (e : s₁.heap.get? a = some (lst vs 0)) (hI : Is vs ns) (hn : ns.length <= 63)
  (B : LawOk (roomOf ns) (splitterOf ns) (endingOf ns) (linesOfLaw ns)) {E : Value -> Shared -> Prop} :
  wpAny (model PW w) callerA (call (.ref 306) [.ref a]) (fun v s'=>v = .bool true /\ OldK s₁.heap s'.heap /\ s'.os = s₁.os /\ AllBare s'.gens) E s₁:=by
 have h162 : s₁.heap.get? 162 = some (tabO #[]):=K 162 (o162 w.params) (by kernel_rfl)
 have h169 : s₁.heap.get? 169 = some (tabO #[]):=K 169 (o169 w.params) (by kernel_rfl)
 have sub : Sub (hideAll s₁.heap [162, 169]) s₁.heap:=fun _ _ e=>of_hideAll _ e
 have ne : ∀ b o, (KM w.params).lookup b = some o -> b ∉ [162, 169]:=fun b o e m=>by
  rcases lmc m with rfl | m
  ·rw [show (KM w.params).lookup 162 = none by kernel_rfl] at e; cases e
  ·rcases lmc m with rfl | m
   ·rw [show (KM w.params).lookup 169 = none by kernel_rfl] at e; cases e
   ·cases m
 have KX : ∀ b o, (KM w.params).lookup b = some o -> s₁.heap.get? b = some o:=fun b o e=>K b o (by
  have n:=ne b o e
  show (match b == 162 with | true=>some (o162 w.params) | false=>match b == 169 with | true=>some (o169 w.params) | false=>(KM w.params).lookup b) = some o
  have n1 : (b == 162) = false:=by rw [beq_eq_false_iff_ne]; intro q; exact n (q ▸ .head _)
  have n2 : (b == 169) = false:=by rw [beq_eq_false_iff_ne]; intro q; exact n (q ▸ .tail _ (.head _))
  rw [n1, n2]; exact e)
 have X : TopIn w.params (hideAll s₁.heap [162, 169]):=fun b o e=>hideAll_get _ (KX b o e) (ne b o e)
 have O : Own (hideAll s₁.heap [162, 169]) s₁.heap [(162, tabO #[]), (169, tabO #[])]:=by
  refine ⟨fun p hp=>?_, by show [162, 169].Nodup; decide⟩
  rcases lmc hp with rfl | hp
  ·exact ⟨h162, hideAll_none _ (.head _)⟩
  ·rcases lmc hp with rfl | hp
   ·exact ⟨h169, hideAll_none _ (.tail _ (.head _))⟩
   ·cases hp
 have ea : (hideAll s₁.heap [162, 169]).get? a = some (lst vs 0):=hideAll_get _ e (fun m=>by
  rcases lmc m with rfl | m
  ·rw [h162] at e; have:=congrArg (fun o=>o.map Obj.cls) e; cases this
  ·rcases lmc m with rfl | m
   ·rw [h169] at e; have:=congrArg (fun o=>o.map Obj.cls) e; cases this
   ·cases m)
 have R : Room callerA 16:=⟨by decide +kernel, by decide +kernel, rfl⟩
 have main:=(law_spec (c:=⟨w, s₁.drawn, s₁.os⟩) (A:=callerA) (g:=s₁.gens) (Q:=fun v h' g'=>v = .bool true /\ OldK s₁.heap h' /\ AllBare g') X sub O (by trivial) (by trivial) R ea hI (by exact lT hn (by decide)) B fun h' g' ps qs S' O' _ _ hb=>⟨rfl, ?_, hb (by rw [hg]; exact AllBare.empty)⟩).call
 ·exact wM (main.at (E:=fun _ _=>False) rfl rfl) (fun v s' z=>⟨z.2.2.1, z.2.2.2.1, z.2.1, z.2.2.2.2⟩) fun _ _ z=>z.elim
 ·have at1:=(O'.at_ _ (.head _)).1
  have at2:=(O'.at_ _ (.tail _ (.head _))).1
  have tab : ∀ (c b : Addr) (oc : Obj) (vs zs : Array Value), (KM w.params).lookup c = some oc -> oc.cls = .type "code" -> oc.data = .fields vs -> vs[11]? = some (.ref b) -> s₁.heap.get? b = some (tabO #[]) -> h'.get? b = some (tabO zs) -> ∀ o, s₁.heap.get? b = some o -> asItWas s₁.heap h' b o:=fun c b oc vs zs q1 q2 q3 q4 q5 q6 o q7=>by
   rw [q5] at q7
   obtain rfl:=Option.some.inj q7
   exact .inr (.inl ⟨⟨c, oc, vs, KX c oc q1, q2, q3, q4⟩, rfl, #[], zs, rfl, by rw [q6, Array.empty_append]⟩)
  have cases3 : ∀ b o, s₁.heap.get? b = some o -> b = 162 \/ b = 169 \/ h'.get? b = some o:=fun b o e=>by
   by_cases h1 : b = 162
   ·exact .inl h1
   ·by_cases h2 : b = 169
    ·exact .inr (.inl h2)
    ·refine .inr (.inr (S' _ _ (hideAll_get _ e fun m=>?_)))
     rcases lmc m with q | m
     ·exact h1 q
     ·rcases lmc m with q | m
      ·exact h2 q
      ·cases m
  refine ⟨fun b o e=>?_, fun b o e=>?_⟩
  ·rcases cases3 b o e with rfl | rfl | q
   ·exact tab 166 162 (o166 w.params) _ ps (by kernel_rfl) (by kernel_rfl) rfl (by kernel_rfl) h162 at1 o e
   ·exact tab 173 169 (o173 w.params) _ qs (by kernel_rfl) (by kernel_rfl) rfl (by kernel_rfl) h169 at2 o e
   ·exact .inl q
  ·rcases cases3 b o e with rfl | rfl | q
   ·exact ⟨_, at1⟩
   ·exact ⟨_, at2⟩
   ·exact ⟨_, q⟩
theorem top_of_kw {P : Params} {h : Heap} (K1 : (KW P).In h) : TopIn P h:=fun b o e=>K1 b o (by
  show (match b == 162 with | true=>some (o162 P) | false=>match b == 169 with | true=>some (o169 P) | false=>(KM P).lookup b) = some o
  have n1 : (b == 162) = false:=by
   rw [beq_eq_false_iff_ne]; rintro rfl
   rw [show (KM P).lookup 162 = none by kernel_rfl] at e; cases e
  have n2 : (b == 169) = false:=by
   rw [beq_eq_false_iff_ne]; rintro rfl
   rw [show (KM P).lookup 169 = none by kernel_rfl] at e; cases e
  rw [n1, n2]; exact e)
theorem gl_law (P : Params) : gl P (Str.ofString "law") = some (.ref 306):=by kernel_rfl
theorem law_addr {P : Params} {h : Heap} {mg : Str -> Option Value} {fa : Addr} (X : TopIn P h) (T : h.Ns mainGlobals mg) (hmg : mg (Str.ofString "law") = some (.ref fa)) : fa = 306:=by
 rw [ns_uniq T (top_g X), gl_law] at hmg
 injection hmg with q; injection q with q; exact q.symm
theorem well_ints {P : Params} {h : Heap} {a : Addr} {d : WData} (wl : Well P h (.ref a) d) (items : Array Value) (hl : h.IsList a items) : h.get? a = some (lst items.toList 0):=by
 obtain ⟨o, e, ec, n, ed⟩:=hl
 have key : ∀ o' : Obj, h.get? a = some o' -> o'.cls = .type "list" /\ o'.data = .seq items n:=fun o' e'=>by
  rw [e] at e'; rw [<- Option.some.inj e']; exact ⟨ec, ed⟩
 generalize hv : Value.ref a = v at wl
 cases wl with
 | list e' _ =>
  injection hv with hv; subst hv
  have k:=(key _ e').2
  injection k with k1 k2
  subst k1
  exact e'
 | none=>cases hv
 | bool=>cases hv
 | int=>cases hv
 | str=>cases hv
 | float=>cases hv
 | bytes=>cases hv
 | bytearray e'=>injection hv with hv; subst hv; exact absurd (key _ e').1 (by simp)
 | tuple e' _=>injection hv with hv; subst hv; exact absurd (key _ e').1 (by simp)
 | dict e' _=>injection hv with hv; subst hv; exact absurd (key _ e').1 (by simp)
 | set e' _ _ _=>injection hv with hv; subst hv; exact absurd (key _ e').1 (by simp)
 | frozenset e' _ _ _=>injection hv with hv; subst hv; exact absurd (key _ e').1 (by simp)
 | obj e' _ _ _=>injection hv with hv; subst hv; exact absurd (key _ e').1 (by simp)
theorem core {w : World} {s₀ s₁ : Shared} {mg : Str -> Option Value} {fa a : Addr} {vs : List Value} {ns : List Int} (Y : X.obsZ asW s₀ = X.valZ KW 307 2200 w) (kp : ∀ b o, s₀.heap.get? b = some o -> s₁.heap.get? b = some o) (T : s₁.heap.Ns mainGlobals mg) (hmg : mg (Str.ofString "law") = some (.ref fa))
  (hg : s₁.gens = #[]) (e : s₁.heap.get? a = some (lst vs 0)) (hI : Is vs ns) (hn : ns.length <= 63) (B : LawOk (roomOf ns) (splitterOf ns) (endingOf ns) (linesOfLaw ns)) {E : Value -> Shared -> Prop} :
  wpAny (model PW w) callerA (call (.ref fa) [.ref a]) (fun v s'=>v = .bool true /\ OldK s₁.heap s'.heap /\ s'.os = s₁.os /\ AllBare s'.gens) E s₁:=by
 have K1 : (KW w.params).In s₁.heap:=InK.keeps w s₀.heap s₁.heap (X.z_facts asE Y).2.1 kp
 rw [law_addr (top_of_kw K1) T hmg]
 exact run_law K1 hg e hI hn B
theorem look0 : sreFenced PW.main = true:=by kernel_rfl
theorem look1 : ((moduleNames PW.main.body).isEmpty || lookedIntoSs (moduleNames PW.main.body) PW.main.body) = true:=by kernel_rfl
theorem look2 : namesResolve PW = true:=by kernel_rfl
theorem look3 : PW.boundNames.all (fun n=>!worldNames.contains n) = true:=by kernel_rfl
theorem look4 : noRoadLSs { strict:=!(importedModules PW.main.body).all cThrough.contains, foot:=none, bare:=(["vars", "dir", "locals"] : List Str).filter (readsOut PW PW.main.body) } PW.main.body = true:=by kernel_rfl
theorem look5 : namesMeet PW PW.main.body (fun _ n=>attrL n) = true:=by kernel_rfl
theorem said : PySem.Challenge.rw_rl0126_01.wellSaid = true:=by
 unfold OpenLaw.wellSaid
 iterate 18 refine look_both ?_ (by kernel_rfl)
 unfold OpenRow.wellSaid
 iterate 2 refine look_both ?_ (by kernel_rfl)
 unfold OpenRow.partSaid
 iterate 13 refine look_both ?_ (by kernel_rfl)
 exact look_both (look_both (look_both (look_both (look_both look0 look1) look2) look3) look4) look5
theorem headT (hw : (PySem.Challenge.rw_rl0126_01.row).toRowW.promised) (plain : ∀ ns : List Int, ns.length <= 63 -> LawOk (roomOf ns) (splitterOf ns) (endingOf ns) (linesOfLaw ns)) : PySem.Challenge.rw_rl0126_01.Holds:=by
 refine holds_law said fun _=>?_
 refine holds_openX (q:=qV) (loose:=looseV) (Xt:=fun _=>true) (XP:=fun _ _=>True) (Yf:=X.obsZ asW) (Ya:=X.valZ KW 307 2200) (N:=40000) leftV (fun _ _=>trivial) (fun _ _ _ _ _=>trivial) (by rfl) (by rfl) (by rfl) (fun s e=>recFacts_of (R:=[]) rfl) (by rfl) (by first | assumption | decide +kernel) (by decide +kernel) ⟨rfl, rfl, rfl, rfl, rfl, by decide +kernel⟩ hw ?hc
 intro w s₀ s₁ mg mb G Y fa o pm cd doc dV kV ho hd hcd hD hmg hg args vals as hL hpre hlay hrd hwl hlo
 clear hd hcd hD ho
 wrow_args hpre hlay hrd hwl hlo
 rename List Int=>ns
 rename IntsAre _ _=>hI
 rename Well _ _ _ _=>wl
 rename Heap.IsList _ _ _=>hIs
 rename ¬ (_ : Int) < _=>hn
 have e:=well_ints wl _ hIs
 refine wM (core Y hL.keeps G.T.g hmg hg e (is_of hI) (by lia) (plain ns (by lia))) (fun v s' z=>?_) fun _ _ z=>z
 refine xa3 z fun e30 z1 z2 z3=>?_; obtain rfl:=e30
 refine ⟨.inl ⟨_, .bool true, [], rfl, ?_, .bool true, ?_, ?_⟩, z1, z2, z3⟩
 ·exact raisesW_false (by wrow_none_raised)
 ·first | rfl | exact postW_of (by wrow_shape) (by wtm_val) (by str_meet; first | done | w_fin)
 ·exact unshared_nil
end
noncomputable def ec (x : List Nat) : List Nat:=x.flatMap spelled
theorem ec_nil : ec [] = []:=rfl
theorem ec_cons (a : Nat) (x : List Nat) : ec (a :: x) = spelled a ++ ec x:=fC
theorem ec_append (x y : List Nat) : ec (x ++ y) = ec x ++ ec y:=List.flatMap_append
theorem ec_map (x : List Nat) : (x.map spelled).flatten = ec x:=(List.flatMap_def ..).symm
theorem ec_eq_nil {x : List Nat} : ec x = [] ↔ x = []:=by
 cases x with
 | nil=>simp [ec_nil]
 | cons a x =>
  rw [ec_cons]
  have:=spelled_pos a
  constructor
  ·intro h; rw [(List.append_eq_nil_iff.mp h).1] at this; cases this
  ·intro h; cases h
theorem ec_le (x : List Nat) : (ec x).length <= 3 * x.length:=flat_le8 x
theorem sp_ws {a : Nat} (h : isW a = true) : spelled a = [a]:=by
 unfold isW at h
 simp only [Bool.or_eq_true, beq_iff_eq] at h
 refine if_pos ?_
 rcases h with rfl | rfl
 ·exact .inr (by decide)
 ·exact .inl rfl
theorem hexd_ge (k : Nat) : 48 <= hexd k:=by unfold hexd; split <;> lia
theorem hexd_ne (k : Nat) (h : k < 16) : hexd k ≠ 61 /\ hexd k < 128:=by unfold hexd; split <;> lia
theorem sp_cases (a : Nat) : (spelled a = [a] /\ (a = 9 \/ (32 <= a /\ a <= 126 /\ a ≠ 61))) \/ spelled a = [61, hexd (a / 16), hexd (a % 16)]:=by
 unfold spelled
 by_cases h : plainS a
 ·exact .inl ⟨if_pos h, h⟩
 ·exact .inr (if_neg h)
theorem sp_nws {a : Nat} (h : isW a = false) : ∀ c ∈ spelled a, isW c = false:=by
 intro c hc
 rcases sp_cases a with ⟨e, _⟩ | e
 ·rw [e, List.mem_singleton] at hc; subst hc; exact h
 ·rw [e] at hc
  have g1:=hexd_ge (a / 16)
  have g2:=hexd_ge (a % 16)
  have : 48 <= c:=by
   simp only [List.mem_cons, List.not_mem_nil, or_false] at hc
   lia
  unfold isW
  simp only [Bool.or_eq_false_iff, beq_eq_false_iff_ne]
  lia
theorem sp_ok {a : Nat} (ha : a < 256) : ∀ c ∈ spelled a, c < 128 /\ (c = 9 \/ 32 <= c):=by
 intro c hc
 rcases sp_cases a with ⟨e, q⟩ | e
 ·rw [e, List.mem_singleton] at hc; subst hc; rcases q with q | q
  ·rw [q]; decide
  ·exact ⟨lLe q.2.1 (by decide), .inr q.1⟩
 ·rw [e] at hc
  have g1:=hexd_ge (a / 16)
  have g2:=hexd_ge (a % 16)
  have l1:=(hexd_ne (a / 16) (by lia)).2
  have l2:=(hexd_ne (a % 16) (Nat.mod_lt _ (by decide))).2
  simp only [List.mem_cons, List.not_mem_nil, or_false] at hc
  rcases hc with rfl | rfl | rfl
  ·decide
  ·exact ⟨l1, .inr (lT (by decide) g1)⟩
  ·exact ⟨l2, .inr (lT (by decide) g2)⟩
theorem ec_ok {x : List Nat} (hx : ∀ a ∈ x, a < 256) : ∀ c ∈ ec x, c < 128 /\ (c = 9 \/ 32 <= c):=by
 intro c hc
 refine xea (List.mem_flatMap.mp hc) fun a ha hc=>?_
 exact sp_ok (hx a ha) c hc
theorem no_break {c : Nat} (h : c < 128 /\ (c = 9 \/ 32 <= c)) : Unicode.isLineBreak c = false /\ c ≠ 10 /\ c ≠ 13:=by
 have : ∀ k : Fin 128, (k.val = 9 \/ 32 <= k.val) -> Unicode.isLineBreak k.val = false:=by decide +kernel
 exact ⟨this ⟨c, h.1⟩ h.2, by lia, by lia⟩
theorem no_space {c : Nat} (h : c < 128) (h2 : 33 <= c) : Unicode.isSpace c = false:=by
 have : ∀ k : Fin 128, 33 <= k.val -> Unicode.isSpace k.val = false:=by decide +kernel
 exact this ⟨c, h⟩ h2
theorem sp_last {a : Nat} (ha : a < 256) (hw : isW a = false) : ∃ c, (spelled a).getLast? = some c /\ 33 <= c /\ c < 128:=by
 rcases sp_cases a with ⟨e, q⟩ | e
 ·rw [e]
  unfold isW at hw
  simp only [Bool.or_eq_false_iff, beq_eq_false_iff_ne] at hw
  exact ⟨a, rfl, by lia, by lia⟩
 ·rw [e]
  have g2:=hexd_ge (a % 16)
  exact ⟨hexd (a % 16), rfl, by lia, (hexd_ne _ (by lia)).2⟩
theorem ec_last {x : List Nat} (hx : ∀ a ∈ x, a < 256) {a : Nat} (hl : x.getLast? = some a) : (ec x).getLast? = (spelled a).getLast?:=by
 obtain ⟨y, rfl⟩ : ∃ y, x = y ++ [a]:=by
  rcases List.eq_nil_or_concat x with rfl | ⟨y, b, rfl⟩
  ·cases hl
  ·rw [List.concat_eq_append] at hl ⊢
   rw [List.getLast?_concat] at hl
   exact ⟨y, by rw [Option.some.inj hl]⟩
 have hp:=spelled_pos a
 rw [ec_append, ec_cons, ec_nil, apN, List.getLast?_append]
 cases e : (spelled a).getLast? with
 | none=>rw [List.getLast?_eq_none_iff] at e; rw [e] at hp; cases hp
 | some c=>rfl
theorem ec_nl {x : List Nat} (hx : ∀ a ∈ x, a ≠ 10 /\ a ≠ 13) : x.flatMap spellNL = ec x:=by
 induction x with
 | nil=>rfl
 | cons a x ih =>
  rw [fC, ec_cons, ih fun b hb=>hx b (.tail _ hb)]
  congr 1
  unfold spellNL
  rw [if_neg (by have:=hx a (.head _); lia)]
noncomputable def gr (room : Nat) : List Nat -> List (List Nat) -> List (List Nat)
 | cur, []=>[cur]
 | cur, s :: r=>if cur.length + s.length <= room then gr room (cur ++ s) r else cur :: gr room s r
noncomputable def segsOf (xs : List (List Nat)) : Nat -> List Nat -> List (List Nat)
 | b, []=>[(xs.drop b).flatten]
 | b, p :: fr=>((xs.take p).drop b).flatten :: segsOf xs p fr
noncomputable def grS (room : Nat) : List (List Nat) -> List (List Nat)
 | []=>[]
 | s :: r=>gr room s r
theorem endAt_mono (xs : List (List Nat)) {a b : Nat} (h : a <= b) : endAt xs a <= endAt xs b:=by
 unfold endAt
 refine xe (Nat.exists_eq_add_of_le h) fun d e01=>?_; obtain rfl:=e01
 rw [List.take_add, List.flatten_append, lA]; lia
theorem seg_len (xs : List (List Nat)) {a b : Nat} (h : a <= b) : endAt xs a + ((xs.take b).drop a).flatten.length = endAt xs b:=by
 unfold endAt
 have e : (xs.take b).take a = xs.take a:=by rw [List.take_take, Nat.min_eq_left h]
 rw [<- e, <- lA, <- List.flatten_append, List.take_append_drop]
theorem seg_app (xs : List (List Nat)) {a b c : Nat} (h : a <= b) (h2 : b <= c) : ((xs.take b).drop a).flatten ++ ((xs.take c).drop b).flatten = ((xs.take c).drop a).flatten:=by
 rw [<- List.flatten_append]
 congr 1
 have e : xs.take b = (xs.take c).take b:=by rw [List.take_take, Nat.min_eq_left h2]
 rw [e]
 generalize xs.take c = y
 have e2 : y.drop b = (y.drop a).drop (b - a):=by rw [List.drop_drop, show a + (b - a) = b by lia]
 rw [e2, List.drop_take, List.take_append_drop]
theorem seg_end (xs : List (List Nat)) (a : Nat) : (xs.drop a) = (xs.take xs.length).drop a:=by rw [List.take_length]
noncomputable def Asc (b : Nat) (free : List Nat) (n : Nat) : Prop:=(b :: free).Pairwise (· < ·) /\ ∀ p ∈ b :: free, p <= n
theorem Asc.tail {b p : Nat} {fr : List Nat} {n : Nat} (h : Asc b (p :: fr) n) : Asc p fr n:=⟨(List.pairwise_cons.mp h.1).2, fun q hq=>h.2 q (.tail _ hq)⟩
theorem Asc.lt {b p : Nat} {fr : List Nat} {n : Nat} (h : Asc b (p :: fr) n) : b < p:=(List.pairwise_cons.mp h.1).1 p (.head _)
noncomputable def cutR (xs : List (List Nat)) (lim : Nat) : Nat -> List Nat -> Nat
 | c, []=>c
 | c, p :: fr=>if endAt xs p <= lim then cutR xs lim p fr else c
theorem cutR_mem (xs lim) : ∀ (fr : List Nat) (c : Nat), cutR xs lim c fr ∈ c :: fr
 | [], c=>.head _
 | p :: fr, c=>by
  unfold cutR
  split
  ·exact .tail _ (cutR_mem xs lim fr p)
  ·exact .head _
theorem cutR_ge (xs lim) (n : Nat) : ∀ (fr : List Nat) (c : Nat), Asc c fr n -> c <= cutR xs lim c fr
 | [], c, _=>Nat.le_refl _
 | p :: fr, c, h=>by
  unfold cutR
  split
  ·exact lT (lO h.lt) (cutR_ge xs lim n fr p h.tail)
  ·exact Nat.le_refl _
theorem cutR_fit (xs lim) : ∀ (fr : List Nat) (c : Nat), cutR xs lim c fr = c \/ endAt xs (cutR xs lim c fr) <= lim
 | [], c=>.inl rfl
 | p :: fr, c=>by
  unfold cutR
  split
  ·rename_i h
   rcases cutR_fit xs lim fr p with e | e
   ·rw [e]; exact .inr h
   ·exact .inr e
  ·exact .inl rfl
theorem cutR_max (xs lim) (n : Nat) : ∀ (fr : List Nat) (c : Nat), Asc c fr n -> ∀ q ∈ fr, endAt xs q <= lim -> q <= cutR xs lim c fr
 | p :: fr, c, h, q, hq, hl=>by
  have hp : endAt xs p <= lim:=by
   rcases lmc hq with rfl | hq
   ·exact hl
   ·exact lT (endAt_mono xs (lO ((List.pairwise_cons.mp h.tail.1).1 q hq))) hl
  unfold cutR
  rw [if_pos hp]
  rcases lmc hq with rfl | hq
  ·exact cutR_ge xs lim n fr q h.tail
  ·exact cutR_max xs lim n fr p h.tail q hq hl
theorem nextCut_cutR (xs room b p0 n) (fr : List Nat) (h : Asc b (p0 :: fr) n) : nextCut xs room b (p0 :: fr) = cutR xs (room + endAt xs b) p0 fr:=by
 have key:=nextCut_spec xs room b (p0 :: fr) (by simp) (cutR xs (room + endAt xs b) p0 fr : Int) ?_ ?_
 ·exact_mod_cast key.symm
 ·refine List.mem_map_of_mem (f:=fun n : Nat=>(n : Int)) ?_
  rcases cutR_fit xs (room + endAt xs b) fr p0 with e | e
  ·rw [e]; exact .head _
  ·refine .tail _ (List.mem_filter.mpr ⟨cutR_mem _ _ _ _, by simpa using e⟩)
 ·intro a ha
  refine xea (lmm ha) fun q hq e12=>?_; obtain rfl:=e12
  have : q <= cutR xs (room + endAt xs b) p0 fr:=by
   rcases lmc hq with e | hq
   ·rw [e]; exact cutR_ge xs _ n fr p0 h.tail
   ·refine xa (List.mem_filter.mp hq) fun hq hf=>?_
    rcases lmc hq with rfl | hq
    ·exact cutR_ge xs _ n fr q h.tail
    ·exact cutR_max xs _ n fr p0 h.tail q hq (by simpa using hf)
  exact_mod_cast this
theorem filter_gt (n : Nat) : ∀ (fr : List Nat) (c k : Nat), Asc c fr n -> k <= c -> fr.filter (fun p=>decide (k < p)) = fr
 | [], _, _, _, _=>rfl
 | p :: fr, c, k, h, hk=>by
  have:=h.lt
  rw [List.filter_cons, if_pos (by simp; lia), filter_gt n fr p k h.tail (by lia)]
theorem gr_all (room : Nat) : ∀ (r : List (List Nat)) (cur : List Nat), cur.length + r.flatten.length <= room -> gr room cur r = [cur ++ r.flatten]
 | [], cur, _=>by simp [gr]
 | s :: r, cur, h=>by
  rw [fCo, lA] at h
  unfold gr
  rw [if_pos (by lia), gr_all room r (cur ++ s) (by rw [lA]; lia), fCo, apA]
theorem segs_flat (xs : List (List Nat)) (n : Nat) (hn : xs.length = n) : ∀ (fr : List Nat) (b : Nat), Asc b fr n -> (segsOf xs b fr).flatten = (xs.drop b).flatten
 | [], b, _=>by simp [segsOf]
 | p :: fr, b, h=>by
  have hp:=h.2 p (.tail _ (.head _))
  rw [segsOf, fCo, segs_flat xs n hn fr p h.tail, seg_end xs p, seg_app xs (lO h.lt) (by lia), <- seg_end]
theorem gr_cut (xs : List (List Nat)) (room b n : Nat) (hn : xs.length = n) (hb : b <= n) (ht : endAt xs n > room + endAt xs b) : ∀ (fr : List Nat) (c : Nat), b <= c -> Asc c fr n ->
  gr room ((xs.take c).drop b).flatten (segsOf xs c fr) = ((xs.take (cutR xs (room + endAt xs b) c fr)).drop b).flatten :: grS room (segsOf xs (cutR xs (room + endAt xs b) c fr) (fr.filter fun p=>decide (cutR xs (room + endAt xs b) c fr < p)))
 | [], c, hc, h=>by
  have hcn:=h.2 c (.head _)
  have l1:=seg_len xs hc
  have l2:=seg_len xs (show c <= xs.length by lia)
  rw [hn, <- hn, <- seg_end, hn] at l2
  simp only [segsOf, gr, cutR, List.filter_nil, grS]
  rw [if_neg (by lia)]
 | p :: fr, c, hc, h=>by
  have hcn:=h.2 c (.head _)
  have hcp:=h.lt
  have l1:=seg_len xs hc
  have l2:=seg_len xs (lO hcp)
  rw [segsOf, gr]
  by_cases hf : endAt xs p <= room + endAt xs b
  ·rw [if_pos (by lia), seg_app xs hc (lO hcp), gr_cut xs room b n hn hb ht fr p (by lia) h.tail]
   have e : cutR xs (room + endAt xs b) c (p :: fr) = cutR xs (room + endAt xs b) p fr:=by rw [cutR, if_pos hf]
   have:=cutR_ge xs (room + endAt xs b) n fr p h.tail
   rw [e, List.filter_cons, if_neg (by simp; omega)]
  ·rw [if_neg (by lia)]
   have e : cutR xs (room + endAt xs b) c (p :: fr) = c:=by rw [cutR, if_neg hf]
   rw [e, filter_gt n (p :: fr) c c h (Nat.le_refl _), segsOf, grS]
theorem filter_asc {n : Nat} : ∀ (fr : List Nat) (c : Nat), Asc c fr n -> ∀ k ∈ c :: fr, Asc k (fr.filter fun p=>decide (k < p)) n:=by
 intro fr c h k hk
 refine ⟨List.pairwise_cons.mpr ⟨fun q hq=>by simpa using (List.mem_filter.mp hq).2, ((List.pairwise_cons.mp h.1).2).filter _⟩, fun q hq=>?_⟩
 rcases lmc hq with rfl | hq
 ·exact h.2 _ hk
 ·exact h.2 q (.tail _ (List.mem_filter.mp hq).1)
theorem filter_len (k : Nat) (fr : List Nat) (h : k ∈ fr) : (fr.filter fun p=>decide (k < p)).length < fr.length:=by
 have:=List.length_filter_le (fun p=>decide (k < p)) fr
 refine Nat.lt_of_le_of_ne this fun e=>?_
 have:=List.length_filter_eq_length_iff.mp e k h
 simp at this
theorem rows_gr (xs : List (List Nat)) (room n : Nat) (hn : xs.length = n) : ∀ (k b : Nat) (free : List Nat), free.length <= k -> Asc b free n -> rowsGo xs room room k b free = grS room (segsOf xs b free)
 | 0, b, free, hk, h=>by
  obtain rfl : free = []:=List.length_eq_zero_iff.mp (by lia)
  rfl
 | k + 1, b, free, hk, h=>by
  cases free with
  | nil=>simp [rowsGo, segsOf, grS, gr]
  | cons p fr =>
   have hbn:=h.2 b (.head _)
   unfold rowsGo
   by_cases ht : endAt xs xs.length > room + endAt xs b
   ·rw [if_pos ⟨by simp, ht⟩, nextCut_cutR xs room b p n fr h]
    have hm:=cutR_mem xs (room + endAt xs b) fr p
    have hl:=filter_len _ _ hm
    rw [rows_gr xs room n hn k _ _ (by simp only [lC] at hl hk ⊢; lia) (filter_asc (p :: fr) b h _ (.tail _ hm))]
    have:=gr_cut xs room b n hn hbn (by rw [<- hn]; exact ht) fr p (lO h.lt) h.tail
    rw [segsOf, grS, this]
    congr 2
    have hge:=cutR_ge xs (room + endAt xs b) n fr p h.tail
    rw [List.filter_cons, if_neg (by simp; omega)]
   ·rw [if_neg (fun q=>ht q.2)]
    have hf:=segs_flat xs n hn (p :: fr) b h
    have l2:=seg_len xs (show b <= xs.length by lia)
    rw [<- seg_end] at l2
    rw [segsOf] at hf ⊢
    rw [grS, gr_all room _ _ (by rw [<- lA, <- fCo, hf]; lia), <- fCo, hf]
theorem bars_gr (room : Nat) : ∀ (r : List (List Nat)) (ks : List Nat) (cur : List Nat), (r.map List.length).foldl (fun ks k=>maxApp ks k room) (ks ++ [cur.length]) = ks ++ (gr room cur r).map List.length
 | [], ks, cur=>by simp [gr]
 | s :: r, ks, cur=>by
  rw [mpC, List.foldl_cons, gr]
  have e : maxApp (ks ++ [cur.length]) s.length room = if cur.length + s.length <= room then ks ++ [cur.length + s.length] else ks ++ [cur.length] ++ [s.length]:=by
   unfold maxApp
   rw [List.getLast?_concat]
   simp only [List.dropLast_concat]
  rw [e]
  split
  ·have:=bars_gr room r ks (cur ++ s)
   rw [lA] at this
   exact this
  ·rw [bars_gr room r (ks ++ [cur.length]) s, mpC, apA]; rfl
theorem bars_segs (xs : List (List Nat)) (n : Nat) (hn : xs.length = n) : ∀ (ps : List Nat) (b : Nat), ((b :: ps).zip (ps ++ [xs.length])).map (segLen xs) = (segsOf xs b ps).map List.length
 | [], b=>by simp [segsOf, segLen]
 | p :: ps, b=>by
  rw [List.cons_append, List.zip_cons_cons, mpC, bars_segs xs n hn ps p, segsOf, mpC]
  rfl
theorem bars_rows (xs : List (List Nat)) (ps : List Nat) (room : Nat) (h : Asc 0 ps xs.length) : barsOf xs ps room = (rowsOf xs ps room room).map List.length:=by
 unfold barsOf rowsOf
 rw [bars_segs xs xs.length rfl, rows_gr xs room xs.length rfl _ _ _ (Nat.le_refl _) h]
 cases hs : segsOf xs 0 ps with
 | nil=>cases ps <;> simp [segsOf] at hs
 | cons s r =>
  rw [mpC, List.foldl_cons]
  exact bars_gr room r [] s
theorem ec_seg (x : List Nat) (b c : Nat) : (((x.map spelled).take c).drop b).flatten = ec ((x.take c).drop b):=by
 rw [<- List.map_take, <- List.map_drop, ec_map]
theorem ec_end (x : List Nat) (b : Nat) : ((x.map spelled).drop b).flatten = ec (x.drop b):=by rw [<- List.map_drop, ec_map]
theorem take_seg (x : List Nat) {b c : Nat} (h : b <= c) : (x.take c).drop b ++ x.drop c = x.drop b:=by
 have e2 : x.drop c = (x.drop b).drop (c - b):=by rw [List.drop_drop, Nat.add_sub_cancel' h]
 rw [e2, List.drop_take, List.take_append_drop]
theorem rows_sg (x : List Nat) (room last : Nat) : ∀ (k b : Nat) (free : List Nat), Asc b free x.length -> ∃ sg : List (List Nat), rowsGo (x.map spelled) room last k b free = sg.map ec /\ sg.flatten = x.drop b /\ sg ≠ [] /\ sg.length <= free.length + 1
 | 0, b, free, h=>⟨[x.drop b], by rw [rowsGo, ec_end]; rfl, by simp, by simp, by simp⟩
 | k + 1, b, free, h=>by
  unfold rowsGo
  by_cases hc : free ≠ [] /\ endAt (x.map spelled) (x.map spelled).length > last + endAt (x.map spelled) b
  ·rw [if_pos hc]
   have hm:=nextCut_mem (x.map spelled) room b free hc.1
   generalize nextCut (x.map spelled) room b free = cu at hm
   have hl:=filter_len _ _ hm
   refine xea3 (rows_sg x room last k cu _ (filter_asc free b h _ (.tail _ hm))) fun sg e1 e2 e3 e4=>?_
   have hb:=(List.pairwise_cons.mp h.1).1 cu hm
   refine ⟨(x.take cu).drop b :: sg, ?_, ?_, by simp, by simp only [lC]; exact Nat.succ_le_succ (lT e4 hl)⟩
   ·rw [e1, ec_seg]; rfl
   ·rw [fCo, e2, take_seg x (lO hb)]
  ·rw [if_neg hc]
   exact ⟨[x.drop b], by rw [ec_end]; rfl, by simp, by simp, by simp⟩
theorem asc_of {n : Nat} {l : List Nat} (h1 : l.Pairwise (· < ·)) (h2 : ∀ p ∈ l, 1 <= p /\ p < n) : Asc 0 l n :=
 ⟨List.pairwise_cons.mpr ⟨fun p hp=>by have:=(h2 p hp).1; assumption, h1⟩, fun p hp=>by
  rcases lmc hp with rfl | hp
  ·simp
  ·exact lO (h2 p hp).2⟩
theorem up_asc (n : Nat) : ((List.range n).map (· + 1)).Pairwise (· < ·) :=
 List.pairwise_map.mpr (List.pairwise_lt_range.imp fun h=>Nat.succ_lt_succ h)
theorem places_asc (xs sp) : Asc 0 (placesN xs sp) xs.length:=asc_of ((up_asc _).filter _) (placesN_mem xs sp)
theorem singles_asc (xs) : Asc 0 (singlesN xs) xs.length:=asc_of (up_asc _) (singlesN_mem xs)
theorem fRows_sg (room : Nat) (sp x : List Nat) : ∃ sg : List (List Nat), fRows room sp x = sg.map ec /\ sg.flatten = x /\ sg ≠ [] /\ sg.length <= x.length + 1:=by
 have h:=places_asc (x.map spelled) sp
 have hl:=placesN_len (x.map spelled) sp
 rw [lMa] at h hl
 refine xea3 (rows_sg x room room (placesN (x.map spelled) sp).length 0 _ h) fun sg e1 e2 e3 e4=>?_
 exact ⟨sg, e1, by rw [e2, List.drop_zero], e3, by lia⟩
theorem wRows_sg (room : Nat) (x : List Nat) : ∃ sg : List (List Nat), wRows room x = sg.map ec /\ sg.flatten = x /\ sg ≠ [] /\ sg.length <= x.length + 1:=by
 have h:=singles_asc (x.map spelled)
 have hl:=singlesN_len (x.map spelled)
 rw [lMa] at h hl
 refine xea3 (rows_sg x room (room + 1) (singlesN (x.map spelled)).length 0 _ h) fun sg e1 e2 e3 e4=>?_
 exact ⟨sg, e1, by rw [e2, List.drop_zero], e3, by lia⟩
noncomputable def np : Nat -> List Nat -> Nat
 | _, []=>0
 | k, a :: r=>if (spelled a).length <= k then np (k - (spelled a).length) r + 1 else 0
theorem np_le : ∀ (y : List Nat) (k : Nat), np k y <= y.length
 | [], _=>Nat.le_refl _
 | a :: r, k=>by
  unfold np
  split
  ·exact Nat.succ_le_succ (np_le r _)
  ·simp
theorem np_fit : ∀ (y : List Nat) (k : Nat), (ec (y.take (np k y))).length <= k
 | [], k=>by simp [np, ec]
 | a :: r, k=>by
  unfold np
  split
  ·next hc =>
   rw [List.take_succ_cons, ec_cons, lA]; exact Nat.add_le_of_le_sub' hc (np_fit r _)
  ·simp [ec]
theorem np_past : ∀ (y : List Nat) (k : Nat), np k y < y.length -> k < (ec (y.take (np k y + 1))).length
 | a :: r, k, h=>by
  unfold np at h ⊢
  split
  ·rename_i hc
   rw [if_pos hc, lC] at h
   rw [List.take_succ_cons, ec_cons, lA]; exact (Nat.sub_lt_iff_lt_add' ‹_›).mp (np_past r _ (Nat.lt_of_succ_lt_succ h))
  ·rw [List.take_succ_cons, ec_cons, lA]; exact lLt (Nat.lt_of_not_le ‹_›) (Nat.le_add_right _ _)
noncomputable def cl (k : Nat) (w : List Nat) : Nat:=if 2 <= k /\ w.getD (k - 2) 0 = 61 then k - 2 else if 1 <= k /\ w.getD (k - 1) 0 = 61 then k - 1 else k
theorem clf (k : Nat) (p q : Prop) [Decidable p] [Decidable q] : (if 2 <= k + 2 + 1 /\ p then k + 2 + 1 - 2 else if 1 <= k + 2 + 1 /\ q then k + 2 + 1 - 1 else k + 2 + 1) = (if 2 <= k + 2 /\ p then k else if 1 <= k + 2 /\ q then k + 1 else k + 2) + 1:=by
 by_cases hp : p
 ·rw [if_pos ⟨by simp, hp⟩, if_pos ⟨by simp, hp⟩]; rfl
 ·rw [if_neg (fun z=>hp z.2), if_neg (c:=2 <= k + 2 /\ p) (fun z=>hp z.2)]
  by_cases hq : q
  ·rw [if_pos ⟨by simp, hq⟩, if_pos ⟨by simp, hq⟩]; rfl
  ·rw [if_neg (fun z=>hq z.2), if_neg (c:=1 <= k + 2 /\ q) (fun z=>hq z.2)]
theorem ite_and2 {k : Nat} (h : 2 <= k) (p q : Prop) [Decidable p] [Decidable q] (a b c : Nat) : (if p then a else if q then b else c) = (if 2 <= k /\ p then a else if 1 <= k /\ q then b else c):=by
 have e1 : (2 <= k /\ p) ↔ p:=⟨fun z=>z.2, fun z=>⟨h, z⟩⟩
 have e2 : (1 <= k /\ q) ↔ q:=⟨fun z=>z.2, fun z=>⟨by exact lO (by assumption), z⟩⟩
 simp only [e1, e2]
theorem cl_one (a : Nat) (w : List Nat) (k : Nat) (ha : a ≠ 61) : cl (k + 1) (a :: w) = cl k w + 1:=by
 unfold cl
 match k with
 | 0=>simp [ha]
 | 1=>simp [ha]; split <;> rfl
 | k + 2 =>
  have e1 : (a :: w).getD (k + 2 + 1 - 2) 0 = w.getD k 0:=rfl
  have e2 : (a :: w).getD (k + 2 + 1 - 1) 0 = w.getD (k + 1) 0:=rfl
  rw [e1, e2, show k + 2 - 2 = k from rfl, show k + 2 - 1 = k + 1 from rfl]
  exact clf _ _ _
theorem cl_ec : ∀ (y : List Nat) (k : Nat), (∀ a ∈ y, a < 256) -> k < (ec y).length -> cl k (ec y) = (ec (y.take (np k y))).length
 | [], k, _, h=>by simp [ec] at h
 | a :: r, k, ha, h=>by
  have hr : ∀ b ∈ r, b < 256:=fun b hb=>ha b (.tail _ hb)
  have h256:=ha a (.head _)
  rw [ec_cons] at h ⊢
  rw [lA] at h
  rcases sp_cases a with ⟨e, q⟩ | e
  ·have q61 : a ≠ 61:=by lia
   rw [e] at h ⊢
   unfold np
   rw [e]
   cases k with
   | zero=>simp [cl, ec]
   | succ k =>
    rw [lS] at h
    rw [if_pos (by simp), List.singleton_append, cl_one a _ _ q61, cl_ec r k hr (by lia), List.take_succ_cons, ec_cons, e, lA, lS]
    simp only [Nat.add_sub_cancel]; lia
  ·have n1:=(hexd_ne (a / 16) (by lia)).1
   have n2:=(hexd_ne (a % 16) (by lia)).1
   rw [e] at h ⊢
   unfold np
   rw [e]
   match k with
   | 0=>simp [cl, ec]
   | 1=>simp [cl, ec]
   | 2=>simp [cl, ec]
   | k + 3 =>
    simp only [lC, List.length_nil] at h
    have e3 : cl (k + 3) ([61, hexd (a / 16), hexd (a % 16)] ++ ec r) = cl k (ec r) + 3:=by
     have s1 : cl (k + 3) ([61, hexd (a / 16), hexd (a % 16)] ++ ec r) = cl (k + 2) (hexd (a / 16) :: hexd (a % 16) :: ec r) + 1:=by
      show cl (k + 2 + 1) (61 :: hexd (a / 16) :: hexd (a % 16) :: ec r) = _
      unfold cl
      have e1 : (61 :: hexd (a / 16) :: hexd (a % 16) :: ec r).getD (k + 2 + 1 - 2) 0 = (hexd (a / 16) :: hexd (a % 16) :: ec r).getD (k + 2 - 2) 0:=rfl
      have e2 : (61 :: hexd (a / 16) :: hexd (a % 16) :: ec r).getD (k + 2 + 1 - 1) 0 = (hexd (a / 16) :: hexd (a % 16) :: ec r).getD (k + 2 - 1) 0:=rfl
      rw [e1, e2]
      generalize (hexd (a / 16) :: hexd (a % 16) :: ec r).getD (k + 2 - 2) 0 = g1
      generalize (hexd (a / 16) :: hexd (a % 16) :: ec r).getD (k + 2 - 1) 0 = g2
      exact clf _ _ _
     rw [s1, cl_one _ _ _ n1, cl_one _ _ _ n2]
    rw [e3, cl_ec r k hr (by lia), if_pos (by simp), List.take_succ_cons, ec_cons, e, lA]
    simp only [lC, List.length_nil, Nat.add_sub_cancel]; lia
noncomputable def softR : List (List Nat) -> List (List Nat)
 | []=>[]
 | [r]=>[r]
 | r :: s :: t=>(r ++ [61]) :: softR (s :: t)
theorem softR_cons (r : List Nat) {l : List (List Nat)} (h : l ≠ []) : softR (r :: l) = (r ++ [61]) :: softR l:=by
 cases l with
 | nil=>exact absurd rfl h
 | cons s t=>rfl
theorem endAt_ec (x : List Nat) (b i : Nat) : endAt (x.map spelled) (b + i) = endAt (x.map spelled) b + (ec ((x.drop b).take i)).length:=by
 unfold endAt
 rw [<- List.map_take, <- List.map_take, ec_map, ec_map, List.take_add, ec_append, lA]
theorem endAt_all (x : List Nat) (b : Nat) (hb : b <= x.length) : endAt (x.map spelled) (x.map spelled).length = endAt (x.map spelled) b + (ec (x.drop b)).length:=by
 have:=endAt_ec x b (x.length - b)
 rw [Nat.add_sub_cancel' hb] at this
 rw [lMa, this, List.take_of_length_le (Nat.le_of_eq (lDr ..))]
noncomputable def upTo (b n : Nat) : List Nat:=List.range' (b + 1) (n - 1 - b)
theorem upTo_mem {b n q : Nat} : q ∈ upTo b n ↔ b < q /\ q < n:=by
 unfold upTo; rw [List.mem_range'_1]
 refine and_congr_right fun h=>?_
 rw [Nat.sub_sub, Nat.add_comm 1 b]
 rcases Nat.le_total (b + 1) n with z | z
 ·rw [Nat.add_sub_cancel' z]
 ·rw [Nat.sub_eq_zero_of_le z]; exact ⟨fun p=>absurd p (Nat.not_lt_of_le h), fun p=>absurd (lLt p z) (Nat.not_lt_of_le h)⟩
theorem upTo_filter (b n c : Nat) (h : b <= c) (h2 : c < n) : (upTo b n).filter (fun p=>decide (c < p)) = upTo c n:=by
 unfold upTo
 have e : n - 1 - b = (c - b) + (n - 1 - c):=by rw [Nat.add_comm]; exact (Nat.sub_add_sub_cancel (Nat.le_sub_one_of_lt h2) h).symm
 rw [e, <- List.range'_append_1, List.filter_append, List.filter_eq_nil_iff.mpr (fun q hq=>by rw [List.mem_range'_1, Nat.add_right_comm, Nat.add_sub_cancel' h] at hq; simpa using Nat.le_of_lt_succ hq.2), List.nil_append, show b + 1 + (c - b) = c + 1 by rw [Nat.add_right_comm, Nat.add_sub_cancel' h]]
 exact List.filter_eq_self.mpr fun q hq=>by rw [List.mem_range'_1] at hq; exact decide_eq_true hq.1
theorem be_go (x : List Nat) (room : Nat) (hx : ∀ a ∈ x, a < 256) (hr : 3 <= room) : ∀ (k n b : Nat), b <= x.length -> x.length - 1 - b <= k -> (ec (x.drop b)).length <= n -> beGo (room + 1) n (ec (x.drop b)) = softR (rowsGo (x.map spelled) room (room + 1) k b (upTo b x.length)):=by
 intro k
 induction k with
 | zero =>
  intro n b hb hk hn
  have hy : (x.drop b).length <= 1:=by rw [lDr]; rw [Nat.sub_right_comm] at hk; exact Nat.sub_le_iff_le_add.mp hk
  have hl:=ec_le (x.drop b)
  rw [rowsGo, beGo_done _ _ _ (lT hl (lT (Nat.mul_le_mul_left 3 hy) (Nat.le_succ_of_le hr))), ec_end]; rfl
 | succ k ih =>
  intro n b hb hk hn
  have ha:=endAt_all x b hb
  by_cases ht : (ec (x.drop b)).length <= room + 1
  ·rw [beGo_done _ _ _ ht, rowsGo, if_neg (fun q=>absurd q.2 (Nat.not_lt_of_le (by rw [ha, Nat.add_comm]; exact Nat.add_le_add_right ht _))), ec_end]; rfl
  ·have hx' : ∀ a ∈ x.drop b, a < 256:=fun a h=>hx a (List.mem_of_mem_drop h)
   have hl:=ec_le (x.drop b)
   have hlen : (x.drop b).length = x.length - b:=lDr ..
   have f1:=np_fit (x.drop b) room
   have f2:=np_le (x.drop b) room
   have f4 : np room (x.drop b) < (x.drop b).length:=by
    refine Nat.lt_of_le_of_ne f2 fun e=>?_
    rw [e, List.take_length] at f1; exact ht (Nat.le_succ_of_le f1)
   have f3:=np_past (x.drop b) room f4
   have f5 : 1 <= np room (x.drop b):=by
    cases e : x.drop b with
    | nil=>rw [e] at f4; cases f4
    | cons a r =>
     unfold np
     rw [if_pos (lT (spelled_le a) hr)]; simp
   have f6 : b + np room (x.drop b) < x.length:=Nat.add_lt_of_lt_sub' (Nat.lt_of_lt_of_eq f4 hlen)
   have f7 : b + 1 < x.length:=lLe (Nat.add_le_add_left f5 b) f6
   have hcl:=cl_ec (x.drop b) room hx' (Nat.lt_of_succ_lt (Nat.lt_of_not_le ht))
   have hcut : nextCut (x.map spelled) room b (upTo b x.length) = b + np room (x.drop b):=by
    have hne : upTo b x.length ≠ []:=fun e=>by
     have : b + 1 ∈ upTo b x.length:=upTo_mem.mpr ⟨Nat.lt_succ_self b, f7⟩
     rw [e] at this; cases this
    have key:=nextCut_spec (x.map spelled) room b (upTo b x.length) hne ((b + np room (x.drop b) : Nat) : Int) ?_ ?_
    ·exact_mod_cast key.symm
    ·refine List.mem_map_of_mem (f:=fun n : Nat=>(n : Int)) (.tail _ (List.mem_filter.mpr ⟨upTo_mem.mpr ⟨Nat.lt_add_of_pos_right f5, f6⟩, ?_⟩))
     rw [endAt_ec]; simp; lia
    ·intro a ha'
     refine xea (lmm ha') fun q hq e32=>?_; obtain rfl:=e32
     have : q <= b + np room (x.drop b):=by
      rcases lmc hq with rfl | hq
      ·obtain ⟨w, hw⟩ : ∃ w, upTo b x.length = (b + 1) :: w:=by
        unfold upTo
        refine xe (⟨x.length - 1 - b - 1, (Nat.sub_add_cancel (Nat.sub_pos_of_lt (Nat.lt_sub_of_add_lt f7))).symm⟩ : ∃ d, x.length - 1 - b = d + 1) fun d hd=>?_
        rw [hd, List.range'_succ]; exact ⟨_, rfl⟩
       rw [hw]; exact Nat.add_le_add_left f5 b
      ·refine xa (List.mem_filter.mp hq) fun hq hf=>?_
       refine Nat.le_of_not_lt fun hlt=>?_
       have m:=endAt_mono (x.map spelled) (show b + (np room (x.drop b) + 1) <= q by assumption)
       rw [endAt_ec] at m
       have hf : endAt (x.map spelled) q <= room + endAt (x.map spelled) b:=by simpa using hf
       exact absurd (lT m hf) (Nat.not_le_of_gt (by rw [Nat.add_comm room]; exact Nat.add_lt_add_left f3 _))
     exact_mod_cast this
   have hne : upTo b x.length ≠ []:=fun e=>by
    have : b + 1 ∈ upTo b x.length:=upTo_mem.mpr ⟨Nat.lt_succ_self b, f7⟩
    rw [e] at this; cases this
   rw [rowsGo, if_pos ⟨hne, by rw [ha, Nat.add_comm (endAt _ b)]; exact Nat.add_lt_add_right (Nat.lt_of_not_le ht) _⟩, hcut, upTo_filter _ _ _ (by simp) f6, ec_seg]
   refine xe (⟨n - 1, (Nat.sub_add_cancel (lT (Nat.zero_lt_of_lt (Nat.lt_of_not_le ht)) hn)).symm⟩ : ∃ n', n = n' + 1) fun n e61=>?_; obtain rfl:=e61
   have hcL : cutLen (room + 1) (ec (x.drop b)) = (ec ((x.drop b).take (np room (x.drop b)))).length:=by
    rw [<- hcl]
    unfold cutLen cl
    rw [show room + 1 - 3 = room - 2 by rfl, show room + 1 - 2 = room - 1 by rfl, Nat.add_sub_cancel]
    exact ite_and2 (by exact lO (by assumption)) _ _ _ _ _
   have hsplit : ec (x.drop b) = ec ((x.drop b).take (np room (x.drop b))) ++ ec (x.drop (b + np room (x.drop b))):=by
    rw [<- List.drop_drop, <- ec_append, List.take_append_drop]
   have hpos : 1 <= (ec ((x.drop b).take (np room (x.drop b)))).length:=by
    refine Nat.pos_of_ne_zero fun e=>?_
    have:=ec_eq_nil.mp (List.length_eq_zero_iff.mp e)
    have:=congrArg List.length this
    rw [lTk, List.length_nil, Nat.min_eq_left f2] at this; exact absurd this (Nat.ne_of_gt f5)
   have hd:=ih n (b + np room (x.drop b)) (lO f6) (by rw [Nat.sub_add_eq]; exact lT (Nat.sub_le_sub_left f5 _) (Nat.sub_le_sub_right hk 1)) (by have:=congrArg List.length hsplit; rw [lA] at this; exact Nat.le_of_add_le_add_left (a:=1) (lT (lT (Nat.add_le_add_right hpos _) (Nat.le_of_eq this.symm)) (lT hn (Nat.le_of_eq (Nat.add_comm n 1)))))
   unfold beGo
   rw [if_neg ht, hcL]
   have t1 : (ec (x.drop b)).take (ec ((x.drop b).take (np room (x.drop b)))).length = ec ((x.drop b).take (np room (x.drop b))):=by
    conv=>lhs; arg 2; rw [hsplit]
    exact List.take_left
   have t2 : (ec (x.drop b)).drop (ec ((x.drop b).take (np room (x.drop b)))).length = ec (x.drop (b + np room (x.drop b))):=by
    conv=>lhs; arg 2; rw [hsplit]
    exact List.drop_left
   rw [t1, t2, hd, softR_cons]
   ·congr 2
    rw [List.drop_take, Nat.add_sub_cancel_left]
   ·intro e
    have:=rows_sg x room (room + 1) k (b + np room (x.drop b)) (upTo (b + np room (x.drop b)) x.length) ⟨List.pairwise_cons.mpr ⟨fun q hq=>(upTo_mem.mp hq).1, List.pairwise_lt_range'⟩, fun q hq=>by
     rcases lmc hq with rfl | hq
     ·exact lO f6
     ·exact lO (upTo_mem.mp hq).2⟩
    refine xea3 this fun sg e1 e2 e3 _=>?_
    rw [e] at e1
    exact e3 (List.map_eq_nil_iff.mp e1.symm)
theorem be_rows (x : List Nat) (room : Nat) (hx : ∀ a ∈ x, a < 256) (hr : 3 <= room) : beRows (room + 1) (ec x) = softR (wRows room x):=by
 have e : singlesN (x.map spelled) = upTo 0 x.length:=by
  unfold singlesN upTo
  rw [lMa, List.range'_eq_map_range, Nat.sub_zero]
  exact List.map_congr_left fun a _=>Nat.add_comm a 1
 have hl : (singlesN (x.map spelled)).length = x.length - 1:=by unfold singlesN; rw [lMa, List.length_range, lMa]
 unfold beRows wRows rowsOf
 rw [hl, e]
 have:=be_go x room hx hr (x.length - 1) (ec x).length 0 (Nat.zero_le _) (by simp) (by simp)
 rwa [List.drop_zero] at this
noncomputable def flag (sp : List Nat) (prev a : Nat) : Bool:=isW a && !isW prev && (sp == [a] || sp == [(spelled prev).getLastD 0])
noncomputable def segX (sp : List Nat) : List Nat -> Nat -> List Nat -> List (List Nat)
 | seg, _, []=>[seg]
 | seg, prev, a :: r=>if flag sp prev a = true then seg :: segX sp (spelled a) a r else segX sp (seg ++ spelled a) a r
theorem wsP_sp (a : Nat) : wsP (spelled a) ↔ isW a = true:=by
 unfold wsP
 constructor
 ·intro h
  by_cases hw : isW a = true
  ·exact hw
  ·have:=sp_nws (Bool.not_eq_true _ ▸ hw)
   rcases h with h | h
   ·have:=this 32 (by rw [h]; exact .head _); cases this
   ·have:=this 9 (by rw [h]; exact .head _); cases this
 ·intro h
  rw [sp_ws h]
  unfold isW at h
  simp only [Bool.or_eq_true, beq_iff_eq] at h
  rcases h with rfl | rfl
  ·exact .inl rfl
  ·exact .inr rfl
theorem place_flag (x pre : List Nat) (prev a : Nat) (r sp : List Nat) (hx : x = pre ++ prev :: a :: r) : atPlace (x.map spelled) sp (pre.length + 1) ↔ flag sp prev a = true:=by
 have e1 : (x.map spelled).getD (pre.length + 1) [] = spelled a:=by
  rw [hx, List.getD_eq_getElem?_getD, List.getElem?_map, List.getElem?_append_right (by simp)]
  simp
 have e2 : (x.map spelled).getD (pre.length + 1 - 1) [] = spelled prev:=by
  rw [hx, List.getD_eq_getElem?_getD, List.getElem?_map, Nat.add_sub_cancel, List.getElem?_append_right (by simp)]
  simp
 unfold atPlace flag
 rw [e1, e2, wsP_sp, wsP_sp]
 by_cases ha : isW a = true
 ·simp only [ha, sp_ws ha, true_and, Bool.true_and, Bool.and_eq_true, Bool.or_eq_true, beq_iff_eq, Bool.not_eq_true', Bool.not_eq_true]
 ·simp [ha]
theorem segs_X (x sp : List Nat) : ∀ (r pre : List Nat) (prev b : Nat), x = pre ++ prev :: r -> b <= pre.length ->
  segsOf (x.map spelled) b ((List.range' (pre.length + 1) r.length).filter fun p=>decide (atPlace (x.map spelled) sp p)) = segX sp (ec ((x.take (pre.length + 1)).drop b)) prev r
 | [], pre, prev, b, hx, hb=>by
  have hl : pre.length + 1 = x.length:=by rw [hx]; simp
  rw [hl, List.take_length]
  simp [segsOf, segX, ec_end]
 | a :: r, pre, prev, b, hx, hb=>by
  have hx' : x = (pre ++ [prev]) ++ a :: r:=by rw [hx]; simp
  have hl : (pre ++ [prev]).length = pre.length + 1:=by simp
  have hp:=place_flag x pre prev a r sp hx
  have ht : x.take (pre.length + 1 + 1) = x.take (pre.length + 1) ++ [a]:=by
   rw [List.take_add_one, hx]
   simp
  have htl : (x.take (pre.length + 1)).length = pre.length + 1:=by rw [lTk, hx]; simp
  rw [lC, List.range'_succ, List.filter_cons, segX]
  by_cases hf : flag sp prev a = true
  ·rw [if_pos (decide_eq_true (hp.mpr hf)), if_pos hf, segsOf, ec_seg]
   have ih:=segs_X x sp r (pre ++ [prev]) a (pre.length + 1) hx' (by rw [hl]; simp)
   rw [hl] at ih
   rw [ih, ht]
   congr 2
   rw [List.drop_append_of_le_length (by lia), List.drop_of_length_le (by lia), List.nil_append, ec_cons, ec_nil, apN]
  ·rw [if_neg (by simpa using fun q=>hf (hp.mp q)), if_neg hf]
   have ih:=segs_X x sp r (pre ++ [prev]) a b hx' (by rw [hl]; lia)
   rw [hl] at ih
   rw [ih, ht, List.drop_append_of_le_length (by lia), ec_append, ec_cons, ec_nil, apN]
theorem fRows_X (room : Nat) (sp : List Nat) (a : Nat) (r : List Nat) : fRows room sp (a :: r) = grS room (segX sp (spelled a) a r):=by
 unfold fRows rowsOf
 rw [rows_gr _ room _ rfl _ _ _ (Nat.le_refl _) (places_asc _ sp)]
 have h:=segs_X (a :: r) sp r [] a 0 rfl (Nat.le_refl _)
 have e : placesN ((a :: r).map spelled) sp = (List.range' 1 r.length).filter fun p=>decide (atPlace ((a :: r).map spelled) sp p):=by
  unfold placesN
  congr 1
  rw [lMa, lC, List.range'_eq_map_range, Nat.add_sub_cancel]
  exact List.map_congr_left fun a _=>Nat.add_comm a 1
 rw [e]
 have e2 : ec (((a :: r).take 1).drop 0) = spelled a:=by simp [ec]
 rw [<- e2]
 exact congrArg (grS room) h
theorem run_u (sp : List Nat) : ∀ (z seg : List Nat) (prev : Nat) (r : List Nat), (∀ a ∈ z, isW a = false) -> segX sp seg prev (z ++ r) = segX sp (seg ++ ec z) (z.getLastD prev) r
 | [], seg, prev, r, _=>by simp [ec]
 | a :: z, seg, prev, r, h=>by
  have : flag sp prev a = false:=by unfold flag; rw [h a (.head _)]; rfl
  rw [List.cons_append, segX, if_neg (by rw [this]; simp), run_u sp z _ a r fun b hb=>h b (.tail _ hb), ec_cons, apA]
  congr 1
  cases z <;> rfl
theorem run_w (sp : List Nat) : ∀ (z seg : List Nat) (prev : Nat) (r : List Nat), isW prev = true -> (∀ a ∈ z, isW a = true) -> segX sp seg prev (z ++ r) = segX sp (seg ++ ec z) (z.getLastD prev) r
 | [], seg, prev, r, _, _=>by simp [ec]
 | a :: z, seg, prev, r, hp, h=>by
  have : flag sp prev a = false:=by unfold flag; rw [hp]; simp
  rw [List.cons_append, segX, if_neg (by rw [this]; simp), run_w sp z _ a r (h a (.head _)) fun b hb=>h b (.tail _ hb), ec_cons, apA]
  congr 1
  cases z <;> rfl
theorem getLastD_mem (z : List Nat) (d : Nat) (h : z ≠ []) : z.getLastD d ∈ z:=by
 rw [List.getLastD_eq_getLast?, gL h]; exact List.getLast_mem h
theorem run_chunk (sp seg : List Nat) (prev w0 : Nat) (w u r : List Nat) (hw0 : isW w0 = true) (hw : ∀ a ∈ w, isW a = true) (hu : ∀ a ∈ u, isW a = false) :
  segX sp seg prev (w0 :: w ++ u ++ r) = if flag sp prev w0 = true then seg :: segX sp (ec (w0 :: w ++ u)) (u.getLastD (w.getLastD w0)) r else segX sp (seg ++ ec (w0 :: w ++ u)) (u.getLastD (w.getLastD w0)) r:=by
 rw [List.cons_append, List.cons_append, segX, apA]
 have e : ∀ s, segX sp (s ++ spelled w0) w0 (w ++ (u ++ r)) = segX sp (s ++ ec (w0 :: w ++ u)) (u.getLastD (w.getLastD w0)) r:=fun s=>by
  rw [run_w sp w _ w0 _ hw0 hw, run_u sp u _ _ r hu, List.cons_append, ec_cons, ec_append]
  simp only [apA]
 have e0:=e []
 rw [List.nil_append, List.nil_append] at e0
 split
 ·rw [e0, List.cons_append]
 ·rw [e seg, List.cons_append]
noncomputable def vb (sp : List Nat) (a b : Pr) : Bool:=match sp with | []=>false | k :: _=>isCut k a b
noncomputable def NoCut (sp : List Nat) (s : List Pr) : Prop:=∀ i a b, s[i]? = some a -> s[i + 1]? = some b -> vb sp a b = false
theorem find_none (k : Nat) (t : List Nat) (s : List Pr) (h : NoCut (k :: t) s) : ∀ n, findCut s k n = none
 | 0=>rfl
 | i + 1=>by
  have hc : cutAt s k (i + 1) = false:=by
   unfold cutAt
   rw [Nat.add_sub_cancel]
   cases e1 : s[i]? with
   | none=>rfl
   | some a=>cases e2 : s[i + 1]? with
    | none=>rfl
    | some b=>exact h i a b e1 e2
  rw [findCut, hc, if_neg (by simp), find_none k t s h i]
theorem find_none' (sp : List Nat) (s : List Pr) (h : NoCut sp s) : (sp.head?.bind fun k=>findCut s k (s.length - 1)) = none:=by
 cases sp with
 | nil=>rfl
 | cons k t=>exact find_none k t s h _
theorem find_at (k : Nat) (t : List Nat) (r s : List Pr) (a b : Pr) (hr : r.getLast? = some a) (hs : s.head? = some b) (hn : NoCut (k :: t) s) (hv : vb (k :: t) a b = true) : ∀ d, d < s.length -> findCut (r ++ s) k (r.length + d) = some r.length
 | 0, hd=>by
  have hr0 : r ≠ []:=fun e=>by rw [e] at hr; cases hr
  refine xe (⟨r.length - 1, (Nat.sub_add_cancel (List.length_pos_iff.mpr hr0)).symm⟩ : ∃ m, r.length = m + 1) fun m hm=>?_
  have hc : cutAt (r ++ s) k (m + 1) = true:=by
   unfold cutAt
   rw [Nat.add_sub_cancel, List.getElem?_append_left (Nat.le_of_eq hm.symm), List.getElem?_append_right (Nat.le_of_eq hm), show m + 1 - r.length = 0 by rw [hm, Nat.sub_self]]
   rw [List.getLast?_eq_getElem?, hm, Nat.add_sub_cancel] at hr
   rw [List.head?_eq_getElem?] at hs
   rw [hr, hs]; exact hv
  rw [Nat.add_zero, hm, findCut, hc, if_pos rfl]
 | d + 1, hd=>by
  have hc : cutAt (r ++ s) k (r.length + d + 1) = false:=by
   unfold cutAt
   rw [Nat.add_sub_cancel, List.getElem?_append_right (by simp), List.getElem?_append_right (show r.length <= r.length + d + 1 from Nat.le_add_right r.length (d + 1)), Nat.add_sub_cancel_left, show r.length + d + 1 - r.length = d + 1 from Nat.add_sub_cancel_left (n:=r.length) (m:=d + 1)]
   cases e1 : s[d]? with
   | none=>rfl
   | some a=>cases e2 : s[d + 1]? with
    | none=>rfl
    | some b=>exact hn d a b e1 e2
  rw [<- Nat.add_assoc, findCut, hc, if_neg (by simp), find_at k t r s a b hr hs hn hv d (by exact lO (by assumption))]
theorem find_some' (sp : List Nat) (r s : List Pr) (a b : Pr) (hr : r.getLast? = some a) (hs : s.head? = some b) (hn : NoCut sp s) (hv : vb sp a b = true) : (sp.head?.bind fun k=>findCut (r ++ s) k ((r ++ s).length - 1)) = some r.length:=by
 cases sp with
 | nil=>cases hv
 | cons k t =>
  have hs0 : s ≠ []:=fun e=>by rw [e] at hs; cases hs
  have:=List.length_pos_iff.mpr hs0
  show findCut (r ++ s) k _ = _
  rw [lA, Nat.add_sub_assoc this]
  exact find_at k t r s a b hr hs hn hv _ (Nat.sub_lt this Nat.one_pos)
theorem NoCut.snoc {sp : List Nat} {s : List Pr} {l p : Pr} (h : NoCut sp s) (hl : s.getLast? = some l) (hv : vb sp l p = false) : NoCut sp (s ++ [p]):=by
 intro i a b h1 h2
 have hs0 : s ≠ []:=fun e=>by rw [e] at hl; cases hl
 by_cases hi : i + 1 < s.length
 ·rw [List.getElem?_append_left (Nat.lt_of_succ_lt hi)] at h1
  rw [List.getElem?_append_left hi] at h2
  exact h i a b h1 h2
 ·have hlt : i + 1 < (s ++ [p]).length:=(List.getElem?_eq_some_iff.mp h2).1
  rw [lA, lS] at hlt
  have he : i + 1 = s.length:=Nat.le_antisymm (Nat.le_of_lt_succ hlt) (Nat.le_of_not_lt hi)
  have hi2 : i = s.length - 1:=Nat.eq_sub_of_add_eq he
  rw [List.getElem?_append_left (Nat.le_of_eq he), hi2, <- List.getLast?_eq_getElem?, hl] at h1
  rw [List.getElem?_append_right (Nat.le_of_eq he.symm), show i + 1 - s.length = 0 by rw [he, Nat.sub_self]] at h2
  cases h1; cases h2
  exact hv
theorem NoCut.one (sp : List Nat) (p : Pr) : NoCut sp [p]:=fun i a b _ h2=>by simp at h2
theorem flat_snoc (s : List Pr) (p : Pr) : flat (s ++ [p]) = flat s ++ (p.1 ++ p.2):=by unfold flat; simp
theorem flat_app (s r : List Pr) : flat (s ++ r) = flat s ++ flat r:=by unfold flat; simp
theorem total_flat (s : List Pr) : total s = (flat s).length:=by
 unfold total flat
 rw [List.length_flatten, List.map_map]
 congr 1
 exact List.map_congr_left fun p _=>by simp [prLen]
noncomputable def grO (room : Nat) : Option (List Nat) -> List (List Nat) -> List (List Nat)
 | none, l=>grS room l
 | some c, l=>gr room c l
structure FI (room : Nat) (sp : List Nat) (cur : List Pr) (ls eG : List (List Nat)) (row : Option (List Nat)) (seg : List Nat) (prev : Nat) : Prop where
 ex : ∃ rC sC l, cur = rC ++ sC /\ flat sC = seg /\ NoCut sp sC /\ (∀ a b, rC.getLast? = some a -> sC.head? = some b -> vb sp a b = true) /\ sC.getLast? = some l /\ l.2.getLast? = (spelled prev).getLast? /\
  ((rC = [] /\ row = none /\ ls = eG) \/ (rC ≠ [] /\ row = some (flat rC) /\ ls = eG /\ (flat rC).length + seg.length <= room) \/ (rC = [] /\ ∃ c, row = some c /\ ls = eG ++ [c] /\ room < c.length + seg.length))
theorem append_eq (room : Nat) (sp : List Nat) (cur : List Pr) (ls : List (List Nat)) (p : Pr) : appendF room sp (cur, ls) p = if total (cur ++ [p]) > room then match sp.head?.bind fun k=>findCut (cur ++ [p]) k ((cur ++ [p]).length - 1) with
  | some i=>((cur ++ [p]).drop i, ls ++ [flat ((cur ++ [p]).take i)])
  | none=>(cur ++ [p], ls)
 else (cur ++ [p], ls):=rfl
theorem FI.stepN {room : Nat} {sp : List Nat} {cur : List Pr} {ls eG : List (List Nat)} {row : Option (List Nat)} {seg : List Nat} {prev prev' : Nat} {p : Pr} (I : FI room sp cur ls eG row seg prev) (hp : p.2.getLast? = (spelled prev').getLast?)
  (hv : ∀ l : Pr, l.2.getLast? = (spelled prev).getLast? -> vb sp l p = false) : FI room sp (appendF room sp (cur, ls) p).1 (appendF room sp (cur, ls) p).2 eG row (seg ++ (p.1 ++ p.2)) prev':=by
 refine xe3a6 I.ex fun rC sC l e1 e2 e3 e4 e5 e6 e7=>?_
 subst e1 e2
 have n2:=e3.snoc e5 (hv l e6)
 have hsc : sC ≠ []:=fun e=>by rw [e] at e5; cases e5
 have hd : ∀ b, (sC ++ [p]).head? = some b -> sC.head? = some b:=fun b h=>by
  cases sC with
  | nil=>exact absurd rfl hsc
  | cons a s=>exact h
 have keep : (rC = [] /\ row = none /\ ls = eG) \/ (rC ≠ [] /\ row = some (flat rC) /\ ls = eG /\ (flat rC).length + (flat sC ++ (p.1 ++ p.2)).length <= room) \/ (rC = [] /\ ∃ c, row = some c /\ ls = eG ++ [c] /\ room < c.length + (flat sC ++ (p.1 ++ p.2)).length) -> FI room sp (rC ++ sC ++ [p]) ls eG row (flat sC ++ (p.1 ++ p.2)) prev':=fun q =>
  ⟨rC, sC ++ [p], p, by rw [apA], flat_snoc .., n2, fun a b h1 h2=>e4 a b h1 (hd b h2), by simp, hp, q⟩
 rw [append_eq]
 have ht : total (rC ++ sC ++ [p]) = (flat rC).length + (flat sC ++ (p.1 ++ p.2)).length:=by rw [total_flat, apA, flat_app, flat_snoc, lA]
 rcases e7 with ⟨q1, q2, q3⟩ | ⟨q1, q2, q3, q4⟩ | ⟨q1, c, q2, q3, q4⟩
 ·subst q1
  have hf:=find_none' sp (sC ++ [p]) n2
  rw [List.nil_append, hf]
  have : (if total (sC ++ [p]) > room then (sC ++ [p], ls) else (sC ++ [p], ls)) = (sC ++ [p], ls):=by split <;> rfl
  show FI room sp (if total (sC ++ [p]) > room then (sC ++ [p], ls) else (sC ++ [p], ls)).1 (if total (sC ++ [p]) > room then (sC ++ [p], ls) else (sC ++ [p], ls)).2 _ _ _ _
  rw [this]
  exact keep (.inl ⟨rfl, q2, q3⟩)
 ·by_cases hr : total (rC ++ sC ++ [p]) > room
  ·rw [if_pos hr, apA]
   obtain ⟨a, ha⟩ : ∃ a, rC.getLast? = some a:=by
    cases h : rC.getLast? with
    | none=>rw [List.getLast?_eq_none_iff] at h; exact absurd h q1
    | some a=>exact ⟨a, rfl⟩
   obtain ⟨b, hb⟩ : ∃ b, sC.head? = some b:=by
    cases sC with
    | nil=>exact absurd rfl hsc
    | cons b s=>exact ⟨b, rfl⟩
   have hb2 : (sC ++ [p]).head? = some b:=by
    cases sC with
    | nil=>cases hb
    | cons b s=>exact hb
   rw [find_some' sp rC (sC ++ [p]) a b ha hb2 n2 (e4 a b ha hb)]
   show FI room sp ((rC ++ (sC ++ [p])).drop rC.length) (ls ++ [flat ((rC ++ (sC ++ [p])).take rC.length)]) _ _ _ _
   rw [List.drop_left, List.take_left]
   exact ⟨[], sC ++ [p], p, rfl, flat_snoc .., n2, fun a b h1 _=>by simp at h1, by simp, hp, .inr (.inr ⟨rfl, flat rC, q2, by rw [q3], by lia⟩)⟩
  ·rw [if_neg hr]
   exact keep (.inr (.inl ⟨q1, q2, q3, by lia⟩))
 ·subst q1
  have hf:=find_none' sp (sC ++ [p]) n2
  rw [List.nil_append, hf]
  have : (if total (sC ++ [p]) > room then (sC ++ [p], ls) else (sC ++ [p], ls)) = (sC ++ [p], ls):=by split <;> rfl
  show FI room sp (if total (sC ++ [p]) > room then (sC ++ [p], ls) else (sC ++ [p], ls)).1 (if total (sC ++ [p]) > room then (sC ++ [p], ls) else (sC ++ [p], ls)).2 _ _ _ _
  rw [this]
  exact keep (.inr (.inr ⟨rfl, c, q2, q3, by rw [lA]; lia⟩))
theorem FI.stepV {room : Nat} {sp : List Nat} {cur : List Pr} {ls eG : List (List Nat)} {row : Option (List Nat)} {seg : List Nat} {prev prev' : Nat} {p : Pr} (I : FI room sp cur ls eG row seg prev) (hp : p.2.getLast? = (spelled prev').getLast?)
  (hv : ∀ l : Pr, l.2.getLast? = (spelled prev).getLast? -> vb sp l p = true) : ∃ eG' row', FI room sp (appendF room sp (cur, ls) p).1 (appendF room sp (cur, ls) p).2 eG' row' (p.1 ++ p.2) prev' /\ ∀ T, eG ++ grO room row (seg :: T) = eG' ++ grO room row' T:=by
 refine xe3a6 I.ex fun rC sC l e1 e2 e3 e4 e5 e6 e7=>?_
 subst e1 e2
 have hsc : sC ≠ []:=fun e=>by rw [e] at e5; cases e5
 have hlast : (rC ++ sC).getLast? = some l:=by rw [List.getLast?_append, e5]; rfl
 have hfs:=find_some' sp (rC ++ sC) [p] l p hlast rfl (NoCut.one sp p) (hv l e6)
 have ht : total (rC ++ sC ++ [p]) = (flat rC).length + (flat sC).length + (p.1 ++ p.2).length:=by rw [total_flat, flat_snoc, flat_app, lA, lA]
 have one : flat [p] = p.1 ++ p.2:=by unfold flat; simp
 have cutE : total (rC ++ sC ++ [p]) > room -> appendF room sp (rC ++ sC, ls) p = ([p], ls ++ [flat (rC ++ sC)]):=fun hr=>by
  rw [append_eq, if_pos hr, hfs]
  show ((rC ++ sC ++ [p]).drop (rC ++ sC).length, ls ++ [flat ((rC ++ sC ++ [p]).take (rC ++ sC).length)]) = _
  rw [List.drop_left, List.take_left]
 have keepE : ¬ total (rC ++ sC ++ [p]) > room -> appendF room sp (rC ++ sC, ls) p = (rC ++ sC ++ [p], ls):=fun hr=>by rw [append_eq, if_neg hr]
 have mkB : ∀ eG' c, ls ++ [flat (rC ++ sC)] = eG' ++ [c] -> room < c.length + (p.1 ++ p.2).length -> FI room sp [p] (ls ++ [flat (rC ++ sC)]) eG' (some c) (p.1 ++ p.2) prev':=fun eG' c h1 h2 =>
  ⟨[], [p], p, rfl, one, NoCut.one sp p, fun a b h _=>by simp at h, rfl, hp, .inr (.inr ⟨rfl, c, rfl, h1, h2⟩)⟩
 have mkA : ∀ eG', ls = eG' -> (flat (rC ++ sC)).length + (p.1 ++ p.2).length <= room -> FI room sp (rC ++ sC ++ [p]) ls eG' (some (flat (rC ++ sC))) (p.1 ++ p.2) prev':=fun eG' h1 h2 =>
  ⟨rC ++ sC, [p], p, rfl, one, NoCut.one sp p, fun a b h3 h4=>by
   rw [hlast] at h3; cases h3; cases h4; exact hv l e6, rfl, hp, .inr (.inl ⟨by simp [hsc], rfl, h1, h2⟩)⟩
 have hfl : (flat (rC ++ sC)).length = (flat rC).length + (flat sC).length:=by rw [flat_app, lA]
 rcases e7 with ⟨q1, q2, q3⟩ | ⟨q1, q2, q3, q4⟩ | ⟨q1, c, q2, q3, q4⟩
 ·subst q1 q2 q3
  have e0 : flat ([] ++ sC) = flat sC:=rfl
  by_cases hr : total ([] ++ sC ++ [p]) > room
  ·rw [cutE hr]
   exact ⟨_, _, mkB ls (flat sC) rfl (by rw [ht] at hr; simp [flat] at hr ⊢; omega), fun T=>rfl⟩
  ·rw [keepE hr]
   exact ⟨_, _, mkA ls rfl (by lia), fun T=>rfl⟩
 ·subst q2 q3
  have hg : ∀ T, grO room (some (flat rC)) (flat sC :: T) = grO room (some (flat (rC ++ sC))) T:=fun T=>by
   show gr room _ _ = gr room _ _
   rw [gr, if_pos q4, flat_app]
  by_cases hr : total (rC ++ sC ++ [p]) > room
  ·rw [cutE hr]
   exact ⟨_, _, mkB ls (flat (rC ++ sC)) rfl (by lia), fun T=>by rw [hg]⟩
  ·rw [keepE hr]
   exact ⟨_, _, mkA ls rfl (by lia), fun T=>by rw [hg]⟩
 ·subst q1 q2 q3
  have e0 : flat ([] ++ sC) = flat sC:=rfl
  have hg : ∀ T, eG ++ grO room (some c) (flat sC :: T) = (eG ++ [c]) ++ grO room (some (flat sC)) T:=fun T=>by
   show eG ++ gr room _ _ = _ ++ gr room _ _
   rw [gr, if_neg (by lia), apA]; rfl
  by_cases hr : total ([] ++ sC ++ [p]) > room
  ·rw [cutE hr]
   exact ⟨_, _, mkB (eG ++ [c]) (flat sC) rfl (by rw [ht] at hr; simp [flat] at hr ⊢; omega), hg⟩
  ·rw [keepE hr]
   exact ⟨_, _, mkA (eG ++ [c]) rfl (by lia), hg⟩
theorem FI.fin {room : Nat} {sp : List Nat} {cur : List Pr} {ls eG : List (List Nat)} {row : Option (List Nat)} {seg : List Nat} {prev : Nat} (I : FI room sp cur ls eG row seg prev) : ls ++ [flat cur] = eG ++ grO room row [seg]:=by
 refine xe3a6 I.ex fun rC sC l e1 e2 e3 e4 e5 e6 e7=>?_
 subst e1 e2
 rcases e7 with ⟨q1, q2, q3⟩ | ⟨q1, q2, q3, q4⟩ | ⟨q1, c, q2, q3, q4⟩
 ·subst q1 q2 q3; rfl
 ·subst q2 q3
  show _ = ls ++ gr room _ _
  rw [gr, if_pos q4, gr, flat_app]
 ·subst q1 q2 q3
  show _ = eG ++ gr room _ _
  rw [gr, if_neg (by lia), gr, apA]; rfl
noncomputable abbrev nW (c : Nat) : Bool:=!isW c
theorem drop_tw {p : Nat -> Bool} (x : List Nat) : x.drop (x.takeWhile p).length = x.dropWhile p:=by
 conv=>lhs; arg 2; rw [<- List.takeWhile_append_dropWhile (p:=p) (l:=x)]
 exact List.drop_left
theorem tw_nW : ∀ x : List Nat, (ec x).takeWhile nW = ec (x.takeWhile nW) /\ (ec x).dropWhile nW = ec (x.dropWhile nW)
 | []=>⟨rfl, rfl⟩
 | a :: r=>by
  have ih:=tw_nW r
  by_cases ha : isW a = true
  ·have e : nW a = false:=by unfold nW; rw [ha]; rfl
   rw [List.takeWhile_cons, List.dropWhile_cons, e, ec_cons, sp_ws ha, List.singleton_append, List.takeWhile_cons, List.dropWhile_cons, e]
   simp [ec_nil, ec_cons, sp_ws ha]
  ·have ha : isW a = false:=by simpa using ha
   have e : nW a = true:=by unfold nW; rw [ha]; rfl
   have hs : ∀ c ∈ spelled a, nW c = true:=fun c hc=>by unfold nW; rw [sp_nws ha c hc]; rfl
   rw [List.takeWhile_cons, List.dropWhile_cons, if_pos e, if_pos e, ec_cons, List.takeWhile_append_of_pos hs, List.dropWhile_append_of_pos hs, ih.1, ih.2, ec_cons]
   exact ⟨rfl, rfl⟩
theorem tw_W : ∀ x : List Nat, (ec x).takeWhile isW = ec (x.takeWhile isW) /\ (ec x).dropWhile isW = ec (x.dropWhile isW)
 | []=>⟨rfl, rfl⟩
 | a :: r=>by
  have ih:=tw_W r
  by_cases ha : isW a = true
  ·rw [List.takeWhile_cons, List.dropWhile_cons, if_pos ha, if_pos ha, ec_cons, sp_ws ha, List.singleton_append, List.takeWhile_cons, List.dropWhile_cons, if_pos ha, if_pos ha, ih.1, ih.2, ec_cons, sp_ws ha]
   exact ⟨rfl, rfl⟩
  ·have ha : isW a = false:=by simpa using ha
   obtain ⟨c, cs, e⟩ : ∃ c cs, spelled a = c :: cs:=by
    cases e : spelled a with
    | nil=>have:=spelled_pos a; rw [e] at this; cases this
    | cons c cs=>exact ⟨c, cs, rfl⟩
   have hc:=sp_nws ha c (by rw [e]; exact .head _)
   rw [List.takeWhile_cons, List.dropWhile_cons, ha, ec_cons, e, List.cons_append, List.takeWhile_cons, List.dropWhile_cons, hc]
   simp [ec_nil, ec_cons, e]
noncomputable def pc : Nat -> List Nat -> List Pr
 | 0, _=>[]
 | n + 1, y=>if y = [] then [] else (ec (y.takeWhile isW), ec ((y.dropWhile isW).takeWhile nW)) :: pc n ((y.dropWhile isW).dropWhile nW)
noncomputable def RP : List Pr -> List (List Nat)
 | []=>[]
 | p :: r=>p.1 :: p.2 :: RP r
theorem pair_RP : ∀ l : List Pr, pairUp (RP l) = l
 | []=>rfl
 | p :: r=>by rw [RP, pairUp, pair_RP r]
theorem pc_nil (n : Nat) : pc n [] = []:=by cases n <;> simp [pc]
theorem dw_le {p : Nat -> Bool} (x : List Nat) : (x.dropWhile p).length <= x.length:=by
 rw [<- drop_tw, lDr]; simp
theorem dw_lt {p : Nat -> Bool} {a : Nat} {x : List Nat} (h : x.head? = some a) (hp : p a = true) : (x.dropWhile p).length < x.length:=by
 cases x with
 | nil=>cases h
 | cons b r =>
  cases h
  rw [List.dropWhile_cons, if_pos hp, lC]
  have:=dw_le (p:=p) r; lia
theorem dw_head {p : Nat -> Bool} {x : List Nat} {a : Nat} (h : (x.dropWhile p).head? = some a) : p a = false:=by
 have:=List.head?_dropWhile_not p x
 rw [h] at this
 simpa using this
theorem resplit_pc : ∀ (n : Nat) (z : List Nat) (m : Nat), z.length < n -> (z.dropWhile nW).length <= m -> reSplit n (ec z) = ec (z.takeWhile nW) :: RP (pc m (z.dropWhile nW))
 | n + 1, z, m, hn, hm=>by
  have t1:=tw_nW z
  unfold reSplit
  rw [show (fun c=>!isW c) = nW from rfl, t1.1]
  have hsplit : ec z = ec (z.takeWhile nW) ++ ec (z.dropWhile nW):=by rw [<- ec_append, List.takeWhile_append_dropWhile]
  by_cases hz : z.dropWhile nW = []
  ·have : z.takeWhile nW = z:=by
    have:=List.takeWhile_append_dropWhile (p:=nW) (l:=z)
    rwa [hz, apN] at this
   rw [hz, pc_nil, this, if_pos rfl]; rfl
  ·have hne : ¬ (ec (z.takeWhile nW)).length = (ec z).length:=fun e=>by
    rw [hsplit, lA] at e
    exact hz (ec_eq_nil.mp (List.length_eq_zero_iff.mp (by lia)))
   rw [if_neg hne]
   have d1 : (ec z).drop (ec (z.takeWhile nW)).length = ec (z.dropWhile nW):=by
    conv=>lhs; arg 2; rw [hsplit]
    exact List.drop_left
   generalize hz1 : z.dropWhile nW = z1 at *
   have t2:=tw_W z1
   have d2 : (ec z).drop ((ec (z.takeWhile nW)).length + (ec (z1.takeWhile isW)).length) = ec (z1.dropWhile isW):=by
    rw [<- List.drop_drop, d1, <- t2.1, drop_tw, t2.2]
   rw [d1, t2.1, d2]
   obtain ⟨a, ha⟩ : ∃ a, z1.head? = some a:=by
    cases z1 with
    | nil=>exact absurd rfl hz
    | cons a r=>exact ⟨a, rfl⟩
   have hw : isW a = true:=by
    have:=dw_head (p:=nW) (x:=z) (a:=a) (by rw [hz1]; exact ha)
    simpa [nW] using this
   have hlt:=dw_lt (p:=isW) ha hw
   have hle : z1.length <= z.length:=by rw [<- hz1]; exact dw_le z
   have hle2:=dw_le (p:=nW) (z1.dropWhile isW)
   refine xe (⟨m - 1, by lia⟩ : ∃ m', m = m' + 1) fun m e01=>?_; obtain rfl:=e01
   rw [resplit_pc n (z1.dropWhile isW) m (by lia) (by lia), pc, if_neg hz]
   rfl
theorem ec_ge (x : List Nat) : x.length <= (ec x).length:=by
 induction x with
 | nil=>exact Nat.le_refl _
 | cons a x ih=>have:=spelled_pos a; rw [ec_cons, lA, lC]; lia
theorem chunks_ec (x : List Nat) : chunksOf (ec x) = (if x.takeWhile nW ≠ [] then [([], ec (x.takeWhile nW))] else []) ++ pc x.length (x.dropWhile nW):=by
 unfold chunksOf partsOf
 rw [resplit_pc _ x x.length (by have:=ec_ge x; lia) (dw_le x)]
 show pairUp (if ec (x.takeWhile nW) ≠ [] then _ else _) = _
 by_cases h : x.takeWhile nW = []
 ·rw [if_neg (by rw [h]; simp [ec]), if_neg (by simp [h]), List.tail_cons, pair_RP]; rfl
 ·rw [if_pos (fun e=>h (ec_eq_nil.mp e)), if_pos h, pairUp, pair_RP]; rfl
theorem sp_one {w : Nat} (h : isW w = true) : Txt.isspace (T [w]) = true:=by
 unfold isW at h
 simp only [Bool.or_eq_true, beq_iff_eq] at h
 rcases h with rfl | rfl <;> kernel_rfl
theorem vb_flag (sp : List Nat) (hs : sp.length <= 1) (l p : Pr) (prev w0 : Nat) (hw : isW w0 = true) (hp : isW prev = false) (h1 : p.1.head? = some w0) (h2 : l.2.getLast? = (spelled prev).getLast?) : vb sp l p = flag sp prev w0:=by
 unfold flag
 rw [hw, hp]
 have hne : spelled prev ≠ []:=fun e=>by have:=spelled_pos prev; rw [e] at this; cases this
 have hl : (spelled prev).getLast? = some ((spelled prev).getLastD 0):=by rw [List.getLastD_eq_getLast?, gL hne]; rfl
 match sp, hs with
 | [], _=>rfl
 | [k], _ =>
  show isCut k l p = _
  unfold isCut
  rw [h1, h2, hl, Bool.eq_iff_iff]
  simp only [Bool.or_eq_true, Bool.and_eq_true, beq_iff_eq, Option.some.injEq, Bool.true_and, Bool.not_false, List.cons.injEq, and_true]
  constructor
  ·rintro (⟨_, e⟩ | e)
   ·exact .inl e.symm
   ·exact .inr e.symm
  ·rintro (e | e)
   ·subst e; exact .inl ⟨sp_one hw, rfl⟩
   ·exact .inr e.symm
theorem all_tw {p : Nat -> Bool} (x : List Nat) : ∀ a ∈ x.takeWhile p, p a = true:=fun a h=>by
 induction x with
 | nil=>cases h
 | cons b r ih =>
  rw [List.takeWhile_cons] at h
  split at h
  ·rcases lmc h with rfl | h
   ·assumption
   ·exact ih h
  ·cases h
theorem open_chunk {y : List Nat} (hy : y ≠ []) (h1 : ∀ a, y.head? = some a -> isW a = true) (h2 : ∀ a, y.getLast? = some a -> isW a = false) :
  ∃ w0 w u r, y = w0 :: w ++ u ++ r /\ y.takeWhile isW = w0 :: w /\ (y.dropWhile isW).takeWhile nW = u /\ (y.dropWhile isW).dropWhile nW = r /\ isW w0 = true /\ (∀ a ∈ w, isW a = true) /\ (∀ a ∈ u, isW a = false) /\ u ≠ [] /\ (∀ a, r.head? = some a -> isW a = true) /\ (∀ a, r.getLast? = some a -> isW a = false) /\ r.length < y.length:=by
 cases y with
 | nil=>exact absurd rfl hy
 | cons w0 t =>
  have hw0:=h1 w0 rfl
  have e1 : (w0 :: t).takeWhile isW = w0 :: t.takeWhile isW:=by rw [List.takeWhile_cons, if_pos hw0]
  have e2 : (w0 :: t).dropWhile isW = t.dropWhile isW:=by rw [List.dropWhile_cons, if_pos hw0]
  have eq : w0 :: t = w0 :: t.takeWhile isW ++ (t.dropWhile isW).takeWhile nW ++ (t.dropWhile isW).dropWhile nW:=by
   rw [apA, List.takeWhile_append_dropWhile, List.cons_append, List.takeWhile_append_dropWhile]
  have hd : t.dropWhile isW ≠ []:=fun e=>by
   rw [e] at eq
   have ea : w0 :: t = w0 :: t.takeWhile isW:=by simpa using eq
   have hl : (w0 :: t).getLast (by simp) ∈ w0 :: t.takeWhile isW:=by rw [<- ea]; exact List.getLast_mem _
   have hf:=h2 _ (gL (by simp))
   rcases lmc hl with q | q
   ·rw [q, hw0] at hf; cases hf
   ·rw [all_tw t _ q] at hf; cases hf
  have hu : (t.dropWhile isW).takeWhile nW ≠ []:=by
   cases e : t.dropWhile isW with
   | nil=>exact absurd e hd
   | cons a r =>
    have:=dw_head (p:=isW) (x:=t) (a:=a) (by rw [e]; rfl)
    rw [List.takeWhile_cons, if_pos (by unfold nW; rw [this]; rfl)]; simp
  refine ⟨w0, t.takeWhile isW, _, _, eq, e1, by rw [e2], by rw [e2], hw0, all_tw t, fun a ha=>by simpa [nW] using all_tw (p:=nW) _ a ha, hu, fun a ha=>by simpa [nW] using dw_head (p:=nW) ha, fun a ha=>h2 a ?_, ?_⟩
  ·rw [eq, List.getLast?_append, ha]; rfl
  ·have:=congrArg List.length eq
   simp only [lA, lC] at this ⊢
   lia
theorem last_u {u : List Nat} (hu : u ≠ []) (d : Nat) : (ec u).getLast? = (spelled (u.getLastD d)).getLast? /\ (∀ v, u.getLastD d = u.getLastD v):=by
 have e : ∀ v, u.getLastD v = u.getLast hu:=fun v=>by rw [List.getLastD_eq_getLast?, gL hu]; rfl
 refine ⟨?_, fun v=>by rw [e, e]⟩
 rw [e]
 refine xe2 (⟨u.dropLast, u.getLast hu, (List.dropLast_concat_getLast hu).symm⟩ : ∃ y a, u = y ++ [a]) fun y a e12=>?_; obtain rfl:=e12
 have hp:=spelled_pos a
 rw [ec_append, ec_cons, ec_nil, apN, List.getLast?_append, List.getLast_append_right (by simp)]
 show (spelled a).getLast?.or _ = (spelled a).getLast?
 cases h : (spelled a).getLast? with
 | none=>rw [List.getLast?_eq_none_iff] at h; rw [h] at hp; cases hp
 | some c=>rfl
theorem fold_pc (room : Nat) (sp : List Nat) (hs : sp.length <= 1) : ∀ (n : Nat) (y : List Nat) (cur : List Pr) (ls eG : List (List Nat)) (row : Option (List Nat)) (seg : List Nat) (prev : Nat), y.length <= n -> FI room sp cur ls eG row seg prev -> isW prev = false ->
  (∀ a, y.head? = some a -> isW a = true) -> (∀ a, y.getLast? = some a -> isW a = false) ->
  ∃ cur' ls' eG' row' seg' prev', (pc n y).foldl (appendF room sp) (cur, ls) = (cur', ls') /\ FI room sp cur' ls' eG' row' seg' prev' /\ isW prev' = false /\ prev' ∈ prev :: y /\ eG' ++ grO room row' [seg'] = eG ++ grO room row (segX sp seg prev y)
 | n, [], cur, ls, eG, row, seg, prev, _, I, hp, _, _=>⟨cur, ls, eG, row, seg, prev, by rw [pc_nil]; rfl, I, hp, .head _, rfl⟩
 | n + 1, b :: t, cur, ls, eG, row, seg, prev, hn, I, hp, h1, h2=>by
  refine xe4a10 (open_chunk (by simp) h1 h2) fun w0 w u r eq e1 e2 e3 q1 q2 q3 q4 q5 q6 q7=>?_
  have hm : u.getLastD (w.getLastD w0) ∈ u:=getLastD_mem u _ q4
  have hpl:=(last_u q4 (w.getLastD w0)).1
  have hhead : (ec (w0 :: w)).head? = some w0:=by rw [ec_cons, sp_ws q1]; rfl
  have hvb : ∀ l : Pr, l.2.getLast? = (spelled prev).getLast? -> vb sp l (ec (w0 :: w), ec u) = flag sp prev w0:=fun l hl=>vb_flag sp hs l _ prev w0 q1 hp hhead hl
  have hrun:=run_chunk sp seg prev w0 w u r q1 q2 q3
  rw [pc, if_neg (by simp), e1, e2, e3, List.foldl_cons]
  rw [eq, hrun]
  have mem : ∀ z, z ∈ u.getLastD (w.getLastD w0) :: r -> z ∈ prev :: (w0 :: w ++ u ++ r):=fun z hz=>by
   rcases lmc hz with rfl | hz
   ·exact .tail _ (lAl _ (List.mem_append_right _ hm))
   ·exact .tail _ (List.mem_append_right _ hz)
  by_cases hf : flag sp prev w0 = true
  ·refine xe2a (I.stepV (p:=(ec (w0 :: w), ec u)) hpl fun l hl=>(hvb l hl).trans hf) fun eG2 row2 I2 hT=>?_
   refine xe6a4 (fold_pc room sp hs n r _ _ eG2 row2 _ _ (by lia) I2 (q3 _ hm) q5 q6) fun c' l' eG' row' seg' prev' k1 k2 k3 k4 k5=>?_
   refine ⟨c', l', eG', row', seg', prev', k1, k2, k3, mem _ k4, ?_⟩
   rw [k5, if_pos hf, hT, ec_append]
  ·have hf' : flag sp prev w0 = false:=by simpa using hf
   have I2:=I.stepN (p:=(ec (w0 :: w), ec u)) hpl fun l hl=>(hvb l hl).trans hf'
   refine xe6a4 (fold_pc room sp hs n r _ _ eG row _ _ (by lia) I2 (q3 _ hm) q5 q6) fun c' l' eG' row' seg' prev' k1 k2 k3 k4 k5=>?_
   refine ⟨c', l', eG', row', seg', prev', k1, k2, k3, mem _ k4, ?_⟩
   rw [k5, if_neg hf, ec_append]
theorem append_one (room : Nat) (sp : List Nat) (p : Pr) : appendF room sp ([], []) p = ([p], []):=by
 rw [append_eq, List.nil_append, find_none' sp [p] (NoCut.one sp p)]
 split <;> rfl
theorem FI.one (room : Nat) (sp : List Nat) (p : Pr) (prev : Nat) (h : p.2.getLast? = (spelled prev).getLast?) : FI room sp [p] [] [] none (p.1 ++ p.2) prev :=
 ⟨[], [p], p, rfl, by unfold flat; simp, NoCut.one sp p, fun a b h _=>by simp at h, rfl, h, .inl ⟨rfl, rfl, rfl⟩⟩
theorem fold_line (room : Nat) (sp : List Nat) (hs : sp.length <= 1) (x : List Nat) (hx : x ≠ []) (h2 : ∀ a, x.getLast? = some a -> isW a = false) :
  ∃ cur ls eG row seg prev, foldA room sp (chunksOf (ec x)) = (cur, ls) /\ FI room sp cur ls eG row seg prev /\ isW prev = false /\ prev ∈ x /\ ls ++ [flat cur] = fRows room sp x:=by
 have key : ∃ cur ls eG row seg prev, foldA room sp (chunksOf (ec x)) = (cur, ls) /\ FI room sp cur ls eG row seg prev /\ isW prev = false /\ prev ∈ x /\ eG ++ grO room row [seg] = fRows room sp x:=by
  unfold foldA
  rw [chunks_ec]
  by_cases hu : x.takeWhile nW = []
  ·have hd : x.dropWhile nW = x:=by
    have:=List.takeWhile_append_dropWhile (p:=nW) (l:=x)
    rwa [hu, List.nil_append] at this
   have h1 : ∀ a, x.head? = some a -> isW a = true:=fun a ha=>by
    have:=dw_head (p:=nW) (x:=x) (a:=a) (by rw [hd]; exact ha)
    simpa [nW] using this
   refine xe4a10 (open_chunk hx h1 h2) fun w0 w u r eq e1 e2 e3 q1 q2 q3 q4 q5 q6 q7=>?_
   have hm : u.getLastD (w.getLastD w0) ∈ u:=getLastD_mem u _ q4
   have hpl:=(last_u q4 (w.getLastD w0)).1
   refine xe (⟨x.length - 1, by have:=List.length_pos_iff.mpr hx; lia⟩ : ∃ n, x.length = n + 1) fun n hn=>?_
   rw [if_neg (by simp [hu]), List.nil_append, hd, hn, pc, if_neg hx, e1, e2, e3, List.foldl_cons, append_one]
   refine xe6a4 (fold_pc room sp hs n r _ _ [] none _ _ (by lia) (FI.one room sp (ec (w0 :: w), ec u) _ hpl) (q3 _ hm) q5 q6) fun c' l' eG' row' seg' prev' k1 k2 k3 k4 k5=>?_
   refine ⟨c', l', eG', row', seg', prev', k1, k2, k3, ?_, ?_⟩
   ·rw [eq]
    rcases lmc k4 with q | q
    ·rw [q]; exact lAl _ (List.mem_append_right _ hm)
    ·exact List.mem_append_right _ q
   ·rw [k5, eq, List.cons_append, List.cons_append, fRows_X, apA, run_w sp w _ w0 _ q1 q2, run_u sp u _ _ r q3]
    simp only [ec_cons, apA, List.nil_append]
    rfl
  ·obtain ⟨a0, t, ht⟩ : ∃ a0 t, x.takeWhile nW = a0 :: t:=by
    cases e : x.takeWhile nW with
    | nil=>exact absurd e hu
    | cons a t=>exact ⟨a, t, rfl⟩
   have eq:=List.takeWhile_append_dropWhile (p:=nW) (l:=x)
   rw [ht] at eq
   have hall : ∀ a ∈ a0 :: t, isW a = false:=fun a ha=>by simpa [nW] using all_tw (p:=nW) x a (by rw [ht]; exact ha)
   have hpl:=(last_u (u:=a0 :: t) (by simp) 0).1
   have hm : (a0 :: t).getLastD 0 ∈ a0 :: t:=getLastD_mem _ _ (by simp)
   rw [if_pos hu, List.cons_append, List.nil_append, List.foldl_cons, append_one, ht]
   refine xe6a4 (fold_pc room sp hs x.length (x.dropWhile nW) _ _ [] none _ _ (dw_le x) (FI.one room sp ([], ec (a0 :: t)) _ hpl) (hall _ hm) (fun a ha=>by simpa [nW] using dw_head (p:=nW) ha) (fun a ha=>h2 a (by rw [<- eq, List.getLast?_append, ha]; rfl))) fun c' l' eG' row' seg' prev' k1 k2 k3 k4 k5=>?_
   refine ⟨c', l', eG', row', seg', prev', k1, k2, k3, ?_, ?_⟩
   ·rw [<- eq]
    rcases lmc k4 with q | q
    ·rw [q]; exact lAl _ hm
    ·exact List.mem_append_right _ q
   ·rw [k5]
    conv=>rhs; rw [<- eq]
    rw [List.cons_append, fRows_X, run_u sp t _ a0 _ (fun b hb=>hall b (.tail _ hb)), List.nil_append, ec_cons]
    have : (a0 :: t).getLastD 0 = t.getLastD a0:=by cases t <;> rfl
    rw [this]; rfl
 refine xe6a4 key fun cur ls eG row seg prev k1 k2 k3 k4 k5=>?_
 exact ⟨cur, ls, eG, row, seg, prev, k1, k2, k3, k4, k2.fin.trans k5⟩
theorem newl_rows (room : Nat) (sp : List Nat) (hs : sp.length <= 1) (x : List Nat) (hx : x ≠ []) (h2 : ∀ a, x.getLast? = some a -> isW a = false) (hb : ∀ a ∈ x, a < 256) {cur : List Pr} {ls : List (List Nat)} (h : foldA room sp (chunksOf (ec x)) = (cur, ls)) :
  newl (fitted cur) ls = fRows room sp x /\ ls ++ [flat cur] = fRows room sp x:=by
 refine xe6a4 (fold_line room sp hs x hx h2) fun cur' ls' eG row seg prev k1 k2 k3 k4 k5=>?_
 rw [h] at k1
 injection k1 with k1 k1'
 subst k1 k1'
 refine ⟨?_, k5⟩
 rw [<- k5]
 refine xe3a6 k2.ex fun rC sC l e1 e2 e3 e4 e5 e6 e7=>?_
 have hl : cur.getLast? = some l:=by rw [e1, List.getLast?_append, e5]; rfl
 refine xea2 (sp_last (hb prev k4) k3) fun c hc1 hc2 hc3=>?_
 rw [hc1] at e6
 have hne : cur ≠ []:=fun e=>by rw [e] at hl; cases hl
 have hf : fitted cur = cur:=by
  unfold fitted
  rw [hl, Option.getD_some, if_neg (fun e=>by rw [e] at e6; cases e6)]
  rw [gL hne] at hl
  rw [<- Option.some.inj hl, List.dropLast_concat_getLast hne]
 have hcm : c ∈ flat cur:=by
  unfold flat
  refine List.mem_flatten.mpr ⟨l.1 ++ l.2, List.mem_map.mpr ⟨l, List.mem_of_getLast? hl, rfl⟩, List.mem_append_right _ (List.mem_of_getLast? e6)⟩
 have ht : total cur > 0:=by rw [total_flat]; exact List.length_pos_of_mem hcm
 have hsp : Txt.isspace (T (flat cur)) = false:=by
  unfold Txt.isspace
  rw [Bool.and_eq_false_iff]
  right
  rw [<- Array.all_toList, T_toList, List.all_eq_false]
  exact ⟨c, hcm, by rw [no_space hc3 hc2]; simp⟩
 unfold newl
 rw [hf, if_pos ht, if_neg (fun q=>by rw [hsp] at q; cases q.1)]
theorem inter_cons2 (sep y z : List Nat) (t : List (List Nat)) : sep.intercalate (y :: z :: t) = y ++ (sep ++ sep.intercalate (z :: t)):=by
 simp [List.intercalate, List.intersperse]
theorem inter_one (sep y : List Nat) : sep.intercalate [y] = y:=by simp [List.intercalate, List.intersperse]
theorem inter_zero (sep : List Nat) : sep.intercalate [] = []:=by simp [List.intercalate, List.intersperse]
theorem inter_app (sep : List Nat) {b : List (List Nat)} (hb : b ≠ []) : ∀ a : List (List Nat), a ≠ [] -> sep.intercalate (a ++ b) = sep.intercalate a ++ (sep ++ sep.intercalate b)
 | [y], _=>by
  cases b with
  | nil=>exact absurd rfl hb
  | cons z t=>rw [List.singleton_append, inter_cons2, inter_one]
 | y :: z :: t, _=>by
  rw [List.cons_append, List.cons_append, inter_cons2, inter_cons2, <- List.cons_append, inter_app sep hb (z :: t) (by simp)]
  simp only [apA]
theorem inter_len (sep : List Nat) : ∀ ys : List (List Nat), (sep.intercalate ys).length <= (ys.map (·.length)).sum + ys.length * sep.length
 | []=>by simp [inter_zero]
 | [y]=>by rw [inter_one]; simp
 | y :: z :: t=>by
  have ih:=inter_len sep (z :: t)
  rw [inter_cons2, lA, lA, mpC, List.sum_cons, lC (a:=y), Nat.add_mul, Nat.one_mul]; lia
theorem inter_flatMap (sep : List Nat) {α : Type} (f : α -> List (List Nat)) : ∀ ls : List α, (∀ l ∈ ls, f l ≠ []) -> sep.intercalate (ls.flatMap f) = sep.intercalate (ls.map fun l=>sep.intercalate (f l))
 | [], _=>rfl
 | [l], _=>by rw [fC, List.flatMap_nil, apN, mpC, List.map_nil, inter_one]
 | l :: m :: t, h=>by
  have hne : (m :: t).flatMap f ≠ []:=fun e=>by
   rw [fC, List.append_eq_nil_iff] at e
   exact h m (by simp) e.1
  rw [fC, inter_app sep hne _ (h l (by simp)), inter_flatMap sep f (m :: t) (fun x hx=>h x (.tail _ hx))]
  simp only [mpC]
  rw [inter_cons2]
theorem inter_soft (sep : List Nat) : ∀ rows : List (List Nat), sep.intercalate (softR rows) = ([61] ++ sep).intercalate rows
 | []=>by simp [softR, inter_zero]
 | [r]=>by simp [softR, inter_one]
 | [r, s]=>by simp [softR, inter_one, inter_cons2]
 | r :: s :: u :: t=>by
  have ih:=inter_soft sep (s :: u :: t)
  rw [softR, softR, inter_cons2, inter_cons2 (sep:=[61] ++ sep), <- softR, ih]
  simp only [apA]
theorem inter_last (sep : List Nat) (zs : List (List Nat)) (l : List Nat) : ∃ q, sep.intercalate (zs ++ [l]) = q ++ l /\ (zs ≠ [] -> ∃ q', q = q' ++ sep):=by
 by_cases h : zs = []
 ·subst h; exact ⟨[], by rw [List.nil_append, inter_one]; rfl, fun q=>absurd rfl q⟩
 ·exact ⟨sep.intercalate zs ++ sep, by rw [inter_app sep (by simp) zs h, inter_one, apA], fun _=>⟨_, rfl⟩⟩
noncomputable def Flat (y : List Nat) : Prop:=∀ c ∈ y, Unicode.isLineBreak c = false /\ c ≠ 10 /\ c ≠ 13
theorem linesN_c (cur : List Nat) (c : Nat) (r : List Nat) (h : c ≠ 13) : linesN cur (c :: r) = if Unicode.isLineBreak c = true then cur :: linesN [] r else linesN (cur ++ [c]) r:=by
 rw [linesN]
 intro r' e1 e2
 exact absurd e1 h
theorem linesN_run : ∀ (y cur r : List Nat), Flat y -> linesN cur (y ++ r) = linesN (cur ++ y) r
 | [], cur, r, _=>by rw [List.nil_append, apN]
 | c :: y, cur, r, h=>by
  have hc:=h c (.head _)
  rw [List.cons_append, linesN_c _ _ _ hc.2.2, if_neg (by rw [hc.1]; simp), linesN_run y _ r fun d hd=>h d (.tail _ hd), apA]; rfl
noncomputable def EndOk (en : List Nat) : Prop:=en = [10] \/ en = [13, 10] \/ en = [13]
theorem lb10 : Unicode.isLineBreak 10 = true /\ Unicode.isLineBreak 13 = true:=by decide +kernel
theorem linesN_13 (cur r : List Nat) (h : ∀ r', r = 10 :: r' -> False) : linesN cur (13 :: r) = cur :: linesN [] r:=by
 rw [linesN, if_pos lb10.2]
 intro r' _ e
 exact h r' e
theorem linesN_end (en cur r : List Nat) (he : EndOk en) (hr : r.head? ≠ some 10) : linesN cur (en ++ r) = cur :: linesN [] r:=by
 rcases he with rfl | rfl | rfl
 ·rw [List.singleton_append, linesN_c _ _ _ (by decide), if_pos lb10.1]
 ·show linesN cur (13 :: 10 :: r) = _
  rw [linesN]
 ·show linesN cur (13 :: r) = _
  refine linesN_13 cur r fun r' e=>hr ?_
  rw [e]; rfl
theorem linesN_nil (cur : List Nat) : linesN cur [] = if cur = [] then [] else [cur]:=by rw [linesN]
theorem lines_join (en : List Nat) (he : EndOk en) : ∀ ys : List (List Nat), (∀ y ∈ ys, Flat y) -> linesN [] (en.intercalate ys) = if ys.getLast? = some [] then ys.dropLast else ys
 | [], _=>by rw [inter_zero, linesN_nil]; simp
 | [y], h=>by
  have:=linesN_run y [] [] (h y (.head _))
  rw [apN, List.nil_append] at this
  rw [inter_one, this, linesN_nil]
  by_cases e : y = []
  ·subst e; simp
  ·rw [if_neg e, if_neg (by simpa using e)]
 | y :: z :: t, h=>by
  have hh : (en.intercalate (z :: t)).head? ≠ some 10 \/ en ≠ [13]:=by
   by_cases hen : en = [13]
   ·left
    subst hen
    have hz:=h z (by simp)
    cases z with
    | cons c w =>
     have : ([13] : List Nat).intercalate ((c :: w) :: t) = c :: (([13] : List Nat).intercalate ((c :: w) :: t)).tail:=by
      cases t with
      | nil=>rw [inter_one]; rfl
      | cons u v=>rw [inter_cons2]; rfl
     rw [this]
     intro e
     exact (hz c (.head _)).2.1 (Option.some.inj e)
    | nil =>
     cases t with
     | nil=>rw [inter_one]; simp
     | cons u v=>rw [inter_cons2]; simp
   ·exact .inr hen
  have ih:=lines_join en he (z :: t) (fun w hw=>h w (.tail _ hw))
  have e1 : linesN [] (en.intercalate (y :: z :: t)) = y :: linesN [] (en.intercalate (z :: t)):=by
   rw [inter_cons2, linesN_run y [] _ (h y (.head _)), List.nil_append]
   rcases hh with q | q
   ·exact linesN_end en y _ he q
   ·rcases he with rfl | rfl | rfl
    ·rw [List.singleton_append, linesN_c _ _ _ (by decide), if_pos lb10.1]
    ·show linesN y (13 :: 10 :: _) = _
     rw [linesN]; rfl
    ·exact absurd rfl q
  rw [e1, ih]
  have e2 : (y :: z :: t).getLast? = (z :: t).getLast?:=rfl
  rw [e2]
  split <;> rfl
theorem ec_Flat {x : List Nat} (hx : ∀ a ∈ x, a < 256) : Flat (ec x):=fun c hc=>no_break (ec_ok hx c hc)
theorem spell_join (lines : List (List Nat)) (h : ∀ x ∈ lines, ∀ a ∈ x, a ≠ 10 /\ a ≠ 13) : ([10].intercalate lines).flatMap spellNL = [10].intercalate (lines.map ec):=by
 induction lines with
 | nil=>rw [List.map_nil, inter_zero]; rfl
 | cons x t ih =>
  have ih:=ih fun y hy=>h y (.tail _ hy)
  cases t with
  | nil=>rw [inter_one, mpC, List.map_nil, inter_one, ec_nl (h x (.head _))]
  | cons z t =>
   rw [inter_cons2, mpC, mpC, inter_cons2, List.flatMap_append, List.flatMap_append, ih, ec_nl (h x (.head _)), mpC]
   rfl
structure LinesOk (lines : List (List Nat)) : Prop where
 lt : ∀ x ∈ lines, ∀ a ∈ x, a < 256 /\ a ≠ 10 /\ a ≠ 13
 last : ∀ x ∈ lines, ∀ a, x.getLast? = some a -> isW a = false
 ne : lines ≠ []
 first : ∀ x, lines.head? = some x -> x ≠ []
 sum : (lines.map fun x=>x.length + 1).sum <= 300
theorem LinesOk.len {lines : List (List Nat)} (O : LinesOk lines) : lines.length <= 300 /\ ∀ x ∈ lines, x.length <= 300:=by
 have key : ∀ l : List (List Nat), l.length <= (l.map fun x=>x.length + 1).sum /\ ∀ x ∈ l, x.length <= (l.map fun x=>x.length + 1).sum:=by
  intro l
  induction l with
  | nil=>exact ⟨Nat.le_refl _, fun x hx=>nomatch hx⟩
  | cons y t ih =>
   rw [mpC, List.sum_cons, lC]
   refine ⟨by have:=ih.1; lia, fun x hx=>?_⟩
   rcases lmc hx with rfl | hx
   ·lia
   ·have:=ih.2 x hx; lia
 have:=O.sum
 have k:=key lines
 exact ⟨by lia, fun x hx=>by have:=k.2 x hx; lia⟩
theorem LinesOk.l256 {lines : List (List Nat)} (O : LinesOk lines) {x : List Nat} (hx : x ∈ lines) : ∀ a ∈ x, a < 256:=fun a ha=>(O.lt x hx a ha).1
theorem LinesOk.snoc {lines : List (List Nat)} (O : LinesOk lines) : ∃ zs l, lines = zs ++ [l] /\ (l = [] -> zs ≠ []):=by
 refine ⟨lines.dropLast, lines.getLast O.ne, (List.dropLast_concat_getLast O.ne).symm, fun e q=>?_⟩
 have h:=(List.dropLast_concat_getLast O.ne).symm
 rw [q, e] at h
 exact O.first [] (by rw [h]; rfl) rfl
theorem body_ne {lines : List (List Nat)} (O : LinesOk lines) : [10].intercalate lines ≠ []:=by
 have h:=O.first
 cases hl : lines with
 | nil=>exact absurd hl O.ne
 | cons x t =>
  have hx:=h x (by rw [hl]; rfl)
  cases t with
  | nil=>rw [inter_one]; exact hx
  | cons z t=>rw [inter_cons2]; simp [hx]
theorem be_all {lines : List (List Nat)} (O : LinesOk lines) (m : Nat) : beAll m ([10].intercalate lines) = (lines.map ec).flatMap (beRows m):=by
 have hs:=spell_join lines fun x hx a ha=>(O.lt x hx a ha).2
 unfold beAll
 rw [hs, lines_join [10] (.inl rfl) _ (fun y hy=>by refine xea (lmm hy) fun x hx e02=>?_; obtain rfl:=e02; exact ec_Flat (O.l256 hx))]
 refine xe2a O.snoc fun zs l e hz=>?_
 have hlm : l ∈ lines:=by rw [e]; simp
 refine xea (inter_last [10] (zs.map ec) (ec l)) fun q hq hq'=>?_
 have em : lines.map ec = zs.map ec ++ [ec l]:=by rw [e, List.map_append]; rfl
 rw [em, hq, List.getLast?_concat, List.dropLast_concat, List.flatMap_append, fC, List.flatMap_nil, apN]
 by_cases hl : l = []
 ·refine xe (hq' (by simpa using hz hl)) fun q' e31=>?_; obtain rfl:=e31
  subst hl
  rw [ec_nil, if_pos rfl, apN, if_pos (by left; simp)]
  rfl
 ·have hne : ec l ≠ []:=fun q=>hl (ec_eq_nil.mp q)
  rw [if_neg (by simpa using hne)]
  have hg : (q ++ ec l).getLastD 0 = (ec l).getLast hne:=by
   rw [List.getLastD_eq_getLast?, List.getLast?_append, gL hne]; rfl
  have hb:=ec_Flat (O.l256 hlm) _ (List.getLast_mem hne)
  rw [hg, if_neg (by lia), apN, List.flatMap_append, fC, List.flatMap_nil, apN]
theorem be_eq {lines : List (List Nat)} (O : LinesOk lines) (room : Nat) (hr : 3 <= room) (en : List Nat) : encF (room + 1) en ([10].intercalate lines) = en.intercalate (lines.map (wRow room en)):=by
 unfold encF
 rw [if_neg (body_ne O), be_all O, inter_flatMap, List.map_map]
 ·congr 1
  refine List.map_congr_left fun x hx=>?_
  show en.intercalate (beRows (room + 1) (ec x)) = wRow room en x
  rw [be_rows x room (O.l256 hx) hr, inter_soft]; rfl
 ·intro y hy
  refine xea (lmm hy) fun x hx e42=>?_; obtain rfl:=e42
  rw [be_rows x room (O.l256 hx) hr]
  refine xea3 (wRows_sg room x) fun sg e1 _ e3 _=>?_
  rw [e1]
  intro e
  cases sg with
  | nil=>exact e3 rfl
  | cons a t=>cases t <;> simp [softR] at e
noncomputable def softs : List (List Nat) -> List (List Nat × Bool)
 | []=>[]
 | [r]=>[(r, false)]
 | r :: s :: t=>(r, true) :: softs (s :: t)
theorem softs_txt : ∀ sg : List (List Nat), (softs sg).map rowTxt = softR (sg.map ec)
 | []=>rfl
 | [r]=>by simp [softs, softR, rowTxt, ec]
 | r :: s :: t=>by
  show rowTxt (r, true) :: (softs (s :: t)).map rowTxt = (ec r ++ [61]) :: softR ((s :: t).map ec)
  rw [softs_txt (s :: t)]; rfl
theorem softs_dec : ∀ sg : List (List Nat), sg ≠ [] -> (softs sg).flatMap rowDec = sg.flatten ++ [10]
 | [r], _=>by simp [softs, rowDec]
 | r :: s :: t, _=>by
  rw [softs, fC, softs_dec (s :: t) (by simp), fCo, apA]
  simp [rowDec]
theorem softs_len : ∀ sg : List (List Nat), (softs sg).length = sg.length
 | []=>rfl
 | [r]=>rfl
 | r :: s :: t=>by rw [softs, lC, softs_len (s :: t)]; rfl
theorem softs_mem (sg : List (List Nat)) : ∀ (p : List Nat × Bool), p ∈ softs sg -> p.1 ∈ sg:=by
 induction sg with
 | nil=>intro p h; cases h
 | cons r l ih =>
  intro p h
  cases l with
  | nil=>simp [softs] at h; subst h; simp
  | cons s t =>
  rw [softs] at h
  rcases lmc h with rfl | h
  ·exact .head _
  ·exact .tail _ (ih p h)
theorem softs_last (sg : List (List Nat)) : ∀ (p : List Nat × Bool) (a : Nat), p ∈ softs sg -> p.2 = false -> p.1.getLast? = some a -> sg.flatten.getLast? = some a:=by
 induction sg with
 | nil=>intro p a h; cases h
 | cons r l ih =>
  intro p a h hp ha
  cases l with
  | nil=>simp [softs] at h; subst h; simpa using ha
  | cons s t =>
  rw [softs] at h
  rcases lmc h with rfl | h
  ·cases hp
  ·rw [fCo, List.getLast?_append, ih p a h hp ha]; rfl
theorem rowTxt_ec (p : List Nat × Bool) : rowTxt p = ec p.1 ++ if p.2 = true then [61] else []:=rfl
theorem join_ten (lines : List (List Nat)) (h : lines ≠ []) : lines.flatMap (fun x=>x ++ [10]) = [10].intercalate lines ++ [10]:=by
 induction lines with
 | nil=>exact absurd rfl h
 | cons x t ih =>
  cases t with
  | nil=>simp [inter_one]
  | cons z t=>rw [fC, ih (by simp), inter_cons2]; simp only [apA]
theorem txt_flat {p : List Nat × Bool} (h : ∀ a ∈ p.1, a < 256) : Flat (rowTxt p):=by
 intro c hc
 rw [rowTxt_ec] at hc
 rcases List.mem_append.mp hc with hc | hc
 ·exact no_break (ec_ok h c hc)
 ·split at hc
  ·rw [List.mem_singleton] at hc; subst hc; exact no_break (by decide)
  ·cases hc
theorem sum_flat {α : Type} (f : List Nat -> List α) (n : List Nat -> Nat) : ∀ lines : List (List Nat), (∀ x ∈ lines, (f x).length <= n x) -> (lines.flatMap f).length <= (lines.map n).sum
 | [], _=>Nat.le_refl _
 | x :: t, h=>by
  rw [fC, lA, mpC, List.sum_cons]
  have:=sum_flat f n t fun y hy=>h y (.tail _ hy)
  have:=h x (.head _)
  lia
theorem dec_rows {lines : List (List Nat)} (O : LinesOk lines) (en : List Nat) (he : EndOk en) (rows : List Nat -> List (List Nat)) (hsg : ∀ x, ∃ sg : List (List Nat), rows x = sg.map ec /\ sg.flatten = x /\ sg ≠ [] /\ sg.length <= x.length + 1)
  (hz : (en.intercalate (lines.map fun x=>([61] ++ en).intercalate (rows x))).length <= 10000) : DecOk (en.intercalate (lines.map fun x=>([61] ++ en).intercalate (rows x))) ([10].intercalate lines):=by
 have hc:=fun x=>(hsg x).choose_spec
 generalize hF : (fun x=>(hsg x).choose) = sgF
 replace hc : ∀ x, rows x = (sgF x).map ec /\ (sgF x).flatten = x /\ sgF x ≠ [] /\ (sgF x).length <= x.length + 1:=fun x=>by rw [<- hF]; exact hc x
 have hsne : ∀ x, softs (sgF x) ≠ []:=fun x e=>(hc x).2.2.1 (List.length_eq_zero_iff.mp (by rw [<- softs_len, e]; rfl))
 have htx : en.intercalate (lines.map fun x=>([61] ++ en).intercalate (rows x)) = en.intercalate ((lines.flatMap fun x=>softs (sgF x)).map rowTxt):=by
  rw [List.map_flatMap, inter_flatMap en (fun x=>(softs (sgF x)).map rowTxt) lines (fun x _ e=>hsne x (List.map_eq_nil_iff.mp e))]
  congr 1
  refine List.map_congr_left fun x _=>?_
  rw [softs_txt, inter_soft, (hc x).1]
 have hdec : (lines.flatMap fun x=>softs (sgF x)).flatMap rowDec = [10].intercalate lines ++ [10]:=by
  rw [List.flatMap_assoc, <- join_ten lines O.ne]
  refine congrArg (List.flatMap · lines) (funext fun x=>?_)
  rw [softs_dec _ (hc x).2.2.1, (hc x).2.1]
 have hcnt : (lines.flatMap fun x=>softs (sgF x)).length <= 300:=lT (sum_flat _ (fun x=>x.length + 1) lines fun x _=>by rw [softs_len]; exact (hc x).2.2.2) O.sum
 have hmem : ∀ p ∈ lines.flatMap fun x=>softs (sgF x), ∃ x ∈ lines, p ∈ softs (sgF x):=fun p hp=>List.mem_flatMap.mp hp
 have hsub : ∀ p ∈ lines.flatMap fun x=>softs (sgF x), (∀ a ∈ p.1, a < 256) /\ p.1.length <= 300:=fun p hp=>by
  refine xea (hmem p hp) fun x hx hp=>?_
  have hm:=softs_mem _ _ hp
  have hfl:=(hc x).2.1
  refine ⟨fun a ha=>O.l256 hx a (by rw [<- hfl]; exact List.mem_flatten.mpr ⟨_, hm, ha⟩), ?_⟩
  have h1 : p.1.length <= (sgF x).flatten.length:=(List.sublist_flatten_of_mem hm).length_le
  rw [hfl] at h1
  have:=O.len.2 x hx; lia
 have hw : ∀ p ∈ lines.flatMap fun x=>softs (sgF x), ∀ s, (rowTxt p).getLast? = some s -> Unicode.isSpace s = false:=fun p hp s hs=>by
  refine xea (hmem p hp) fun x hx hp'=>?_
  rw [rowTxt_ec] at hs
  cases hp2 : p.2 with
  | true =>
   rw [hp2, if_pos rfl, List.getLast?_concat] at hs
   rw [<- Option.some.inj hs]; exact no_space (by decide) (by decide)
  | false =>
   rw [hp2, if_neg (by simp), apN] at hs
   cases hl : p.1.getLast? with
   | none=>rw [List.getLast?_eq_none_iff] at hl; rw [hl] at hs; cases hs
   | some a =>
    have ha:=softs_last _ p a hp' hp2 hl
    rw [(hc x).2.1] at ha
    have hna:=O.last x hx a ha
    have h256:=(hsub p hp).1
    rw [ec_last h256 hl] at hs
    refine xea2 (sp_last (h256 a (List.mem_of_getLast? hl)) hna) fun c c1 c2 c3=>?_
    rw [c1] at hs
    rw [<- Option.some.inj hs]; exact no_space c3 c2
 have hne : (lines.flatMap fun x=>softs (sgF x)) ≠ []:=fun e=>by
  cases hl : lines with
  | nil=>exact O.ne hl
  | cons x t=>rw [hl, fC, List.append_eq_nil_iff] at e; exact hsne x e.1
 have hbne:=body_ne O
 rw [htx] at hz ⊢
 generalize (lines.flatMap fun x=>softs (sgF x)) = rs0 at *
 have hlj:=lines_join en he (rs0.map rowTxt) (fun y hy=>by refine xea (lmm hy) fun p hp e92=>?_; obtain rfl:=e92; exact txt_flat (hsub p hp).1)
 refine xe2 (⟨rs0.dropLast, rs0.getLast hne, (List.dropLast_concat_getLast hne).symm⟩ : ∃ rs p, rs0 = rs ++ [p]) fun rs p e102=>?_; obtain rfl:=e102
 have hpm : p ∈ rs ++ [p]:=by simp
 rw [List.map_append, mpC, List.map_nil, List.getLast?_concat, List.dropLast_concat] at hlj
 refine xea (inter_last en (rs.map rowTxt) (rowTxt p)) fun q hq hq'=>?_
 rw [List.map_append, mpC, List.map_nil] at hz ⊢
 by_cases hp : rowTxt p = []
 ·have hp1 : p = ([], false):=by
   rw [rowTxt_ec, List.append_eq_nil_iff] at hp
   obtain ⟨p1, p2⟩:=p
   have h1 : p1 = []:=ec_eq_nil.mp hp.1
   subst h1
   cases p2 with
   | false=>rfl
   | true=>exact absurd hp.2 (by simp)
  subst hp1
  have hrs : rs ≠ []:=fun e=>by
   subst e
   rw [List.nil_append] at hdec
   have : ([10] : List Nat).intercalate lines = []:=by
    have h1 : [([], false)].flatMap rowDec = [10]:=rfl
    rw [h1] at hdec
    have:=congrArg List.length hdec
    rw [lA] at this
    exact List.length_eq_zero_iff.mp (by simp at this; simpa using this)
   exact hbne this
  refine xe (hq' (by simpa using hrs)) fun q' e131=>?_; obtain rfl:=e131
  rw [hp, apN] at hq
  obtain ⟨k, hk1, hk2⟩ : ∃ k, (q' ++ en).getLast? = some k /\ (k = 10 \/ k = 13):=by
   rcases he with rfl | rfl | rfl
   ·exact ⟨10, by simp, .inl rfl⟩
   ·exact ⟨10, by simp, .inl rfl⟩
   ·exact ⟨13, by simp, .inr rfl⟩
  have hlen : (rs ++ [(([] : List Nat), false)]).length = rs.length + 1:=by simp
  refine ⟨rs, k, by rw [hp, hq]; exact hk1, by lia, hz, ?_, fun p hp=>(hsub p (lAl _ hp)).1, fun p hp=>by have:=(hsub p (lAl _ hp)).2; exact lT this (by decide), by lia, fun p hp=>hw p (lAl _ hp), ?_⟩
  ·rw [hlj, if_pos (by rw [hp])]
  ·rw [if_pos hk2]
   rw [List.flatMap_append] at hdec
   exact List.append_cancel_right hdec
 ·have hk1 : (en.intercalate (rs.map rowTxt ++ [rowTxt p])).getLast? = some ((rowTxt p).getLast hp):=by
   rw [hq, List.getLast?_append, gL hp]; rfl
  have hkm:=txt_flat (hsub p hpm).1 _ (List.getLast_mem hp)
  have hk128 : (rowTxt p).getLast hp < 128:=by
   have hm : (rowTxt p).getLast hp ∈ rowTxt p:=List.getLast_mem hp
   generalize (rowTxt p).getLast hp = k at hm
   rw [rowTxt_ec] at hm
   rcases List.mem_append.mp hm with hm | hm
   ·exact (ec_ok (hsub p hpm).1 _ hm).1
   ·split at hm
    ·rw [List.mem_singleton] at hm; lia
    ·cases hm
  refine ⟨rs ++ [p], _, hk1, hk128, hz, ?_, fun p hp=>(hsub p hp).1, fun p hp=>by have:=(hsub p hp).2; exact lT this (by decide), by exact lT hcnt (by decide), hw, ?_⟩
  ·rw [hlj, if_neg (by simpa using hp), List.map_append]; rfl
  ·rw [if_neg (by lia)]; exact hdec
theorem ec_flatten (sg : List (List Nat)) : (sg.map ec).flatten = ec sg.flatten:=by
 induction sg with
 | nil=>rfl
 | cons a t ih=>rw [mpC, fCo, fCo, ec_append, ih]
theorem sum_len (l : List (List Nat)) : (l.map (·.length)).sum = l.flatten.length:=by rw [List.length_flatten]
theorem sum_mul {α : Type} (g h : α -> Nat) (k : Nat) : ∀ l : List α, (∀ x ∈ l, g x <= k * h x) -> (l.map g).sum <= k * (l.map h).sum
 | [], _=>Nat.zero_le _
 | x :: t, hh=>by
  have ih:=sum_mul g h k t fun y hy=>hh y (.tail _ hy)
  have:=hh x (.head _)
  rw [mpC, List.sum_cons, mpC, List.sum_cons, Nat.mul_add]; lia
theorem mem_inter {sep : List Nat} {c : Nat} : ∀ {ys : List (List Nat)}, c ∈ sep.intercalate ys -> c ∈ sep \/ ∃ y ∈ ys, c ∈ y
 | [], h=>by rw [inter_zero] at h; cases h
 | [y], h=>by rw [inter_one] at h; exact .inr ⟨y, .head _, h⟩
 | y :: z :: t, h=>by
  rw [inter_cons2] at h
  rcases List.mem_append.mp h with h | h
  ·exact .inr ⟨y, .head _, h⟩
  ·rcases List.mem_append.mp h with h | h
   ·exact .inl h
   ·rcases mem_inter h with h | ⟨w, hw, h⟩
    ·exact .inl h
    ·exact .inr ⟨w, .tail _ hw, h⟩
theorem softR_len : ∀ l : List (List Nat), (softR l).length = l.length
 | []=>rfl
 | [r]=>rfl
 | r :: s :: t=>by rw [softR, lC, softR_len (s :: t)]; rfl
theorem softR_mem : ∀ (l : List (List Nat)) (y : List Nat), y ∈ softR l -> ∃ r ∈ l, y.length <= r.length + 1
 | [r], y, h=>by simp [softR] at h; subst h; exact ⟨y, .head _, by simp⟩
 | r :: s :: t, y, h=>by
  rw [softR] at h
  rcases lmc h with rfl | h
  ·exact ⟨r, .head _, by simp⟩
  ·refine xea (softR_mem (s :: t) y h) fun q hq hl=>?_
   exact ⟨q, .tail _ hq, hl⟩
structure RowsB (x : List Nat) (rows : List (List Nat)) : Prop where
 flat : rows.flatten = ec x
 len : rows.length <= x.length + 1
theorem RowsB.of {x : List Nat} {rows : List (List Nat)} (h : ∃ sg : List (List Nat), rows = sg.map ec /\ sg.flatten = x /\ sg ≠ [] /\ sg.length <= x.length + 1) : RowsB x rows:=by
 refine xea3 h fun sg e11 e12 _ e=>?_; obtain rfl:=e11; obtain rfl:=e12
 exact ⟨ec_flatten sg, by rw [lMa]; exact e⟩
theorem RowsB.one {x : List Nat} {rows : List (List Nat)} (B : RowsB x rows) : ∀ y ∈ rows, y.length <= 3 * x.length:=fun y hy=>by
 have h1 : y.length <= rows.flatten.length:=(List.sublist_flatten_of_mem hy).length_le
 rw [B.flat] at h1
 exact lT h1 (ec_le x)
theorem RowsB.sum {x : List Nat} {rows : List (List Nat)} (B : RowsB x rows) (en : List Nat) (he : en.length <= 2) : (rows.map (·.length)).sum + rows.length * ([61] ++ en).length <= 6 * (x.length + 1):=by
 rw [sum_len, B.flat]
 have h1:=ec_le x
 have h2:=B.len
 have h3 : ([61] ++ en).length <= 3:=by simp; omega
 have h4 : rows.length * ([61] ++ en).length <= (x.length + 1) * 3:=Nat.mul_le_mul h2 h3
 lia
theorem RowsB.inter {x : List Nat} {rows : List (List Nat)} (B : RowsB x rows) (en : List Nat) (he : en.length <= 2) : (([61] ++ en).intercalate rows).length <= 6 * (x.length + 1):=lT (inter_len _ _) (B.sum en he)
theorem be_all1 {x : List Nat} (hx : ∀ a ∈ x, a < 256 /\ a ≠ 10 /\ a ≠ 13) (hl : x.length <= 300) : linesN [] (x.flatMap spellNL) = (if x = [] then [] else [ec x]) /\ beAll 999 x = (if x = [] then [] else [ec x]):=by
 have h256 : ∀ a ∈ x, a < 256:=fun a ha=>(hx a ha).1
 have e1:=ec_nl fun a ha=>(hx a ha).2
 have lj:=lines_join [10] (.inl rfl) [ec x] fun y hy=>by rw [List.mem_singleton] at hy; subst hy; exact ec_Flat h256
 rw [inter_one] at lj
 have l1 : linesN [] (ec x) = (if x = [] then [] else [ec x]):=by
  rw [lj]
  by_cases e : x = []
  ·subst e; rfl
  ·rw [if_neg e, if_neg (by simpa using fun q=>e (ec_eq_nil.mp q))]
 refine ⟨by rw [e1, l1], ?_⟩
 unfold beAll
 rw [e1, l1]
 by_cases e : x = []
 ·subst e; rfl
 ·have hne : ec x ≠ []:=fun q=>e (ec_eq_nil.mp q)
  have hf:=ec_Flat h256 _ (List.getLast_mem hne)
  have hg : (ec x).getLastD 0 = (ec x).getLast hne:=by rw [List.getLastD_eq_getLast?, gL hne]; rfl
  have:=ec_le x
  rw [if_neg e, hg, if_neg (by lia), apN, fC, List.flatMap_nil, apN]
  exact beGo_done _ _ _ (by lia)
theorem enc1 {x : List Nat} (hx : ∀ a ∈ x, a < 256 /\ a ≠ 10 /\ a ≠ 13) (hl : x.length <= 300) : encF 999 [10] x = ec x:=by
 unfold encF
 rw [(be_all1 hx hl).2]
 by_cases e : x = []
 ·subst e; rfl
 ·rw [if_neg e, if_neg e, inter_one]
theorem last_ok {x : List Nat} (h256 : ∀ a ∈ x, a < 256) (hw : ∀ a, x.getLast? = some a -> isW a = false) : ∀ s, (ec x).getLast? = some s -> s < 128 /\ s ≠ 32 /\ s ≠ 9:=fun s hs=>by
 cases hl : x.getLast? with
 | none=>rw [List.getLast?_eq_none_iff] at hl; rw [hl] at hs; cases hs
 | some a =>
  rw [ec_last h256 hl] at hs
  refine xea2 (sp_last (h256 a (List.mem_of_getLast? hl)) (hw a hl)) fun c c1 c2 c3=>?_
  rw [c1] at hs
  have:=Option.some.inj hs
  lia
theorem be_ok1 {x : List Nat} (hx : ∀ a ∈ x, a < 256 /\ a ≠ 10 /\ a ≠ 13) (hl : x.length <= 300) (hw : ∀ a, x.getLast? = some a -> isW a = false) : BeOk 999 [10] x:=by
 have h256 : ∀ a ∈ x, a < 256:=fun a ha=>(hx a ha).1
 refine xa (be_all1 hx hl) fun e1 e2=>?_
 have e3:=ec_nl fun a ha=>(hx a ha).2
 have hle:=ec_le x
 refine ⟨h256, by exact lT hl (by decide), ?_, fun l hlm=>?_, ?_, ?_, fun k hk=>?_, by rw [e3]; lia⟩
 ·rw [e1]; split <;> simp
 ·rw [e1] at hlm
  split at hlm
  ·cases hlm
  ·rw [List.mem_singleton] at hlm; subst hlm
   exact ⟨by lia, last_ok h256 hw⟩
 ·rw [e2]; split <;> simp
 ·rw [e2]; split <;> simp <;> lia
 ·rw [e3] at hk; exact (ec_ok h256 k (List.mem_of_getLast? hk)).1
theorem pc_len : ∀ (n : Nat) (y : List Nat), (pc n y).length <= n
 | 0, _=>Nat.le_refl _
 | n + 1, y=>by
  rw [pc]
  split
  ·simp
  ·have:=pc_len n ((y.dropWhile isW).dropWhile nW); simp only [lC]; lia
theorem chunks_len (x : List Nat) : (chunksOf (ec x)).length <= x.length + 1:=by
 rw [chunks_ec, lA]
 have:=pc_len x.length (x.dropWhile nW)
 split <;> simp <;> lia
theorem fold_ok {x : List Nat} (hx : ∀ a ∈ x, a < 256 /\ a ≠ 10 /\ a ≠ 13) (hl : x.length <= 300) (hw : ∀ a, x.getLast? = some a -> isW a = false) (room : Nat) (sp en : List Nat) (hs : sp.length <= 1) (he : en.length <= 2) :
  FoldOk x room sp en /\ foldedF x room sp en = fRow room sp en x:=by
 have h256 : ∀ a ∈ x, a < 256:=fun a ha=>(hx a ha).1
 have e1:=enc1 hx hl
 have hle:=ec_le x
 have hcl:=chunks_len x
 have RB:=RowsB.of (fRows_sg room sp x)
 have hst : foldSt x room sp = foldA room sp (chunksOf (ec x)):=by unfold foldSt; rw [e1]
 have hfa:=foldA_le room sp (chunksOf (ec x)) (chunksOf (ec x)).length (Nat.le_refl _)
 rw [List.take_length] at hfa
 refine xe2 (⟨_, _, rfl⟩ : ∃ cur ls, foldA room sp (chunksOf (ec x)) = (cur, ls)) fun cur ls hcl2=>?_
 by_cases hx0 : x = []
 ·subst hx0
  have hc0 : chunksOf (ec []) = []:=by rw [chunks_ec]; rfl
  have hst0 : foldSt [] room sp = ([], []):=by rw [hst, hc0]; rfl
  have hn0 : newl (fitted []) [] = []:=by unfold newl fitted total; simp [prLen]
  refine ⟨⟨be_ok1 hx hl hw, by rw [e1]; simp [ec], ?_, ?_, ?_, ?_, ?_, ?_⟩, ?_⟩
  ·rw [hst0]; simp [total]
  ·rw [hst0]; simp
  ·rw [hst0]; simp
  ·rw [hst0]; intro y hy; cases hy
  ·rw [hst0]; intro y hy; cases hy
  ·rw [hst0]
   show ((newl (fitted []) []).map (·.length)).sum + (newl (fitted []) []).length * _ <= _
   rw [hn0]; simp
  ·unfold foldedF
   rw [hst0]
   show ([61] ++ en).intercalate (newl (fitted []) []) = _
   rw [hn0, inter_zero]
   have : fRows room sp [] = [[]]:=rfl
   unfold fRow
   rw [this, inter_one]
 ·refine xa (newl_rows room sp hs x hx0 hw h256 hcl2) fun k1 k2=>?_
  rw [hcl2] at hst hfa
  dsimp only at hfa
  have hmem : ∀ y ∈ ls, y ∈ fRows room sp x:=fun y hy=>by rw [<- k2]; exact lAl _ hy
  have hcm : flat cur ∈ fRows room sp x:=by rw [<- k2]; simp
  have hlen:=RB.one
  have hls : ls.length <= x.length + 1:=by
   have:=congrArg List.length k2
   rw [lA, lS] at this
   have:=RB.len; lia
  have hsub : ∀ c ∈ flat cur, c ∈ ec x:=fun c hc=>by rw [<- RB.flat]; exact List.mem_flatten.mpr ⟨_, hcm, hc⟩
  refine ⟨⟨be_ok1 hx hl hw, by rw [e1]; lia, ?_, ?_, ?_, ?_, ?_, ?_⟩, ?_⟩
  ·rw [hst]
   show total cur <= _
   rw [total_flat]
   have:=hlen _ hcm; lia
  ·rw [hst]
   exact lT hfa.2.1 (lT hcl (lT (Nat.succ_le_succ hl) (by decide)))
  ·rw [hst]
   show ls.length <= _
   lia
  ·rw [hst]; intro y hy
   have:=hlen y (hmem y hy); lia
  ·rw [hst]; intro p hp
   have hin : ∀ c, c ∈ p.1 ++ p.2 -> c < 1114112:=fun c hc=>by
    have:=(ec_ok h256 c (hsub c (by unfold flat; exact List.mem_flatten.mpr ⟨_, List.mem_map.mpr ⟨p, hp, rfl⟩, hc⟩))).1
    exact lLt this (by decide)
   exact ⟨fun c hc=>hin c (lAl _ hc), fun c hc=>hin c (List.mem_append_right _ hc)⟩
  ·rw [hst]
   show ((newl (fitted cur) ls).map (·.length)).sum + (newl (fitted cur) ls).length * _ <= _
   rw [k1]
   exact lT (RB.sum en he) (lT (Nat.mul_le_mul_left 6 (Nat.succ_le_succ hl)) (by decide))
  ·unfold foldedF
   rw [hst]
   show ([61] ++ en).intercalate (newl (fitted cur) ls) = _
   rw [k1]; rfl
theorem line_ok {x : List Nat} (h256 : ∀ a ∈ x, a < 256) (hl : x.length <= 60) (room : Nat) (sp en : List Nat) (he : en.length <= 2) : LineOk room sp en x:=by
 have RB:=RowsB.of (fRows_sg room sp x)
 have RW:=RowsB.of (wRows_sg room x)
 have h1:=RB.sum en he
 have h2:=RW.sum en he
 have h3:=RB.len
 exact ⟨hl, h256, bars_rows _ _ _ (places_asc _ _), lT h1 (lT (Nat.mul_le_mul_left 6 (Nat.succ_le_succ hl)) (by decide)), lT h2 (lT (Nat.mul_le_mul_left 6 (Nat.succ_le_succ hl)) (by decide)), lT h3 (lT (Nat.succ_le_succ hl) (by decide)), fun y hy=>by have:=RB.one y hy; lia⟩
theorem be_ok {lines : List (List Nat)} (O : LinesOk lines) (h60 : ∀ x ∈ lines, x.length <= 60) (room : Nat) (hr : 3 <= room) (en : List Nat) (he : en.length <= 2) : BeOk (room + 1) en ([10].intercalate lines):=by
 have hs:=spell_join lines fun x hx a ha=>(O.lt x hx a ha).2
 have hE:=lines_join [10] (.inl rfl) (lines.map ec) (fun y hy=>by refine xea (lmm hy) fun x hx e62=>?_; obtain rfl:=e62; exact ec_Flat (O.l256 hx))
 have hll:=O.len.1
 have hsum:=O.sum
 have b1:=inter_len [10] lines
 have b2:=inter_len [10] (lines.map ec)
 have s1 : (lines.map (·.length)).sum <= 1 * (lines.map fun x=>x.length + 1).sum:=sum_mul _ _ 1 lines fun x _=>by simp
 have s2 : (lines.map fun x=>(ec x).length).sum <= 3 * (lines.map fun x=>x.length + 1).sum:=sum_mul _ _ 3 lines fun x _=>by have:=ec_le x; lia
 rw [List.map_map, lMa] at b2
 have b2' : ([10].intercalate (lines.map ec)).length <= (lines.map fun x=>(ec x).length).sum + lines.length * 1:=b2
 have hrow : ∀ x ∈ lines, beRows (room + 1) (ec x) = softR (wRows room x):=fun x hx=>be_rows x room (O.l256 hx) hr
 have hcnt : (beAll (room + 1) ([10].intercalate lines)).length <= 300:=by
  rw [be_all O, List.flatMap_map]
  refine lT (sum_flat _ (fun x=>x.length + 1) lines fun x hx=>?_) hsum
  rw [hrow x hx, softR_len]
  exact (RowsB.of (wRows_sg room x)).len
 have hone : ∀ y ∈ beAll (room + 1) ([10].intercalate lines), y.length <= 200:=fun y hy=>by
  rw [be_all O, List.flatMap_map] at hy
  refine xea (List.mem_flatMap.mp hy) fun x hx hy=>?_
  rw [hrow x hx] at hy
  refine xea (softR_mem _ _ hy) fun q hq hl=>?_
  have:=(RowsB.of (wRows_sg room x)).one q hq
  have:=h60 x hx
  lia
 refine ⟨fun k hk=>?_, ?_, ?_, fun l hl=>?_, by exact lT hcnt (by decide), ?_, fun k hk=>?_, ?_⟩
 ·rcases mem_inter hk with h | ⟨x, hx, h⟩
  ·rw [List.mem_singleton] at h; lia
  ·exact O.l256 hx k h
 ·rw [lS] at b1; exact lT b1 (lT (Nat.add_le_add (lT s1 (Nat.mul_le_mul_left 1 hsum)) (Nat.mul_le_mul_right 1 hll)) (by decide))
 ·rw [hs, hE]
  split
  ·rw [List.length_dropLast, lMa]; exact lT (Nat.sub_le _ _) (lT hll (by decide))
  ·rw [lMa]; exact lT hll (by decide)
 ·rw [hs, hE] at hl
  have hm : l ∈ lines.map ec:=by
   split at hl
   ·exact (List.dropLast_sublist _).subset hl
   ·exact hl
  refine xea (lmm hm) fun x hx e92=>?_; obtain rfl:=e92
  have:=ec_le x
  have:=h60 x hx
  exact ⟨by lia, last_ok (O.l256 hx) (O.last x hx)⟩
 ·have:=sum_le _ 200 hone
  exact lT (Nat.add_le_add (lT this (Nat.mul_le_mul_left 200 hcnt)) (Nat.mul_le_mul hcnt he)) (by decide)
 ·rw [hs] at hk
  rcases mem_inter (List.mem_of_getLast? hk) with h | ⟨y, hy, h⟩
  ·rw [List.mem_singleton] at h; lia
  ·refine xea (lmm hy) fun x hx e102=>?_; obtain rfl:=e102
   exact (ec_ok (O.l256 hx) k h).1
 ·rw [hs]; exact lT b2' (lT (Nat.add_le_add (lT s2 (Nat.mul_le_mul_left 3 hsum)) (Nat.mul_le_mul_right 1 hll)) (by decide))
theorem law_ok {lines : List (List Nat)} (O : LinesOk lines) (h60 : ∀ x ∈ lines, x.length <= 60) (room : Nat) (hr : 3 <= room /\ room <= 900) (sp en : List Nat) (hsp : sp.length <= 1) (he : EndOk en) : LawOk room sp en lines:=by
 have he2 : en.length <= 2:=by rcases he with rfl | rfl | rfl <;> decide
 have hll:=O.len
 have hsum:=O.sum
 have fo:=fun x hx=>fold_ok (O.lt x hx) (hll.2 x hx) (O.last x hx) room sp en hsp he2
 have s1 : (lines.map (·.length)).sum <= 1 * (lines.map fun x=>x.length + 1).sum:=sum_mul _ _ 1 lines fun x _=>by simp
 have sF : ((lines.map (fRow room sp en)).map (·.length)).sum <= 6 * (lines.map fun x=>x.length + 1).sum:=by
  rw [List.map_map]; exact sum_mul _ _ 6 lines fun x _=>(RowsB.of (fRows_sg room sp x)).inter en he2
 have sW : ((lines.map (wRow room en)).map (·.length)).sum <= 6 * (lines.map fun x=>x.length + 1).sum:=by
  rw [List.map_map]; exact sum_mul _ _ 6 lines fun x _=>(RowsB.of (wRows_sg room x)).inter en he2
 have lF : (lines.map (fRow room sp en)).length * en.length <= 300 * 2:=Nat.mul_le_mul (by rw [lMa]; exact hll.1) he2
 have lW : (lines.map (wRow room en)).length * en.length <= 300 * 2:=Nat.mul_le_mul (by rw [lMa]; exact hll.1) he2
 exact {
  ll:=by lia
  line:=fun x hx=>line_ok (O.l256 hx) (h60 x hx) room sp en he2
  fold:=fun x hx=>(fo x hx).1
  feq:=fun x hx=>(fo x hx).2
  be:=be_ok O h60 room hr.1 en he2
  beq:=be_eq O room hr.1 en
  dF:=dec_rows O en he (fRows room sp) (fRows_sg room sp) (lT (inter_len _ _) (by
   exact lT (Nat.add_le_add (lT sF (Nat.mul_le_mul_left 6 hsum)) lF) (by decide)))
  dW:=dec_rows O en he (wRows room) (wRows_sg room) (lT (inter_len _ _) (by
   exact lT (Nat.add_le_add (lT sW (Nat.mul_le_mul_left 6 hsum)) lW) (by decide)))
  jb:=by rw [lS]; exact lT (Nat.add_le_add (lT s1 (Nat.mul_le_mul_left 1 hsum)) (Nat.mul_le_mul_right 1 hll.1)) (by decide)
  jF:=lT (Nat.add_le_add (lT sF (Nat.mul_le_mul_left 6 hsum)) lF) (by decide)
  jW:=lT (Nat.add_le_add (lT sW (Nat.mul_le_mul_left 6 hsum)) lW) (by decide)
  room4:=hr
  sp1:=hsp
  en2:=he2 }
theorem laid_ok (n : Int) : ∀ a ∈ laid n, a < 256 /\ a ≠ 13:=by
 intro a ha
 unfold laid at ha
 rcases lmc ha with rfl | ha
 ·unfold signOf
  split
  ·have h : (n % 12).toNat < 11:=(Int.toNat_lt (Int.emod_nonneg _ (by decide))).mpr ‹_›
   have : ∀ k : Fin 11, sgn.getD k.val 0 < 256 /\ sgn.getD k.val 0 ≠ 13:=by decide
   exact this ⟨_, h⟩
  ·split
   ·decide
   ·next q=>exact ⟨(Int.toNat_lt (Int.emod_nonneg _ (by decide))).mpr (Int.emod_lt_of_pos _ (by decide)), fun e=>q (by rw [<- Int.toNat_of_nonneg (Int.emod_nonneg (n / 12) (b:=256) (by decide)), e]; rfl)⟩
 ·rw [(List.mem_replicate.mp ha).2]; decide
theorem text_ok (ns : List Int) : ∀ a ∈ textOf ns, a < 256 /\ a ≠ 13:=by
 intro a ha
 refine xea (List.mem_flatten.mp ha) fun y hy ha=>?_
 refine xea (lmm hy) fun n _ e122=>?_; obtain rfl:=e122
 exact laid_ok n a ha
theorem text_len (ns : List Int) : (textOf ns).length <= 52:=by
 have hb1:=sum_le ((seven ++ drawnOf ns).map laid) 4 fun y hy=>by
  refine xea (lmm hy) fun q _ e132=>?_; obtain rfl:=e132
  exact (laid_len q).2
 have hl : (seven ++ drawnOf ns).length <= 13:=by
  rw [lA]
  unfold drawnOf
  rw [lMa, lTk]
  show 7 + _ <= 13; lia
 rw [lMa, sum_len] at hb1
 unfold textOf; lia
theorem text_first (ns : List Int) : ∃ r, textOf ns = 97 :: r:=by
 unfold textOf seven
 rw [List.cons_append, mpC, fCo]
 have : laid 24 = [97, 97, 97]:=by decide
 rw [this]; exact ⟨_, rfl⟩
theorem splitN_mem : ∀ (r acc : List Nat), ∀ y ∈ splitN acc r, ∀ a ∈ y, a ∈ acc \/ (a ∈ r /\ a ≠ 10)
 | [], acc, y, h, a, ha=>by rw [splitN, List.mem_singleton] at h; subst h; exact .inl ha
 | c :: r, acc, y, h, a, ha=>by
  rw [splitN] at h
  split at h
  ·rcases lmc h with rfl | h
   ·exact .inl ha
   ·rcases splitN_mem r [] y h a ha with q | q
    ·cases q
    ·exact .inr ⟨.tail _ q.1, q.2⟩
  ·rename_i hc
   rcases splitN_mem r _ y h a ha with q | q
   ·rcases List.mem_append.mp q with q | q
    ·exact .inl q
    ·rw [List.mem_singleton] at q; subst q; exact .inr ⟨.head _, hc⟩
   ·exact .inr ⟨.tail _ q.1, q.2⟩
theorem splitN_sum : ∀ (r acc : List Nat), ((splitN acc r).map fun y=>y.length + 2).sum <= acc.length + 2 * r.length + 2
 | [], acc=>by simp [splitN]
 | c :: r, acc=>by
  rw [splitN]
  split
  ·have:=splitN_sum r []
   rw [mpC, List.sum_cons]; simp only [List.length_nil, lC] at this ⊢; lia
  ·have:=splitN_sum r (acc ++ [c])
   rw [lA, lS] at this; simp only [lC]; lia
theorem splitN_first : ∀ (r acc : List Nat), ∃ q t, splitN acc r = (acc ++ q) :: t
 | [], acc=>⟨[], [], by rw [apN]; rfl⟩
 | c :: r, acc=>by
  rw [splitN]
  split
  ·exact ⟨[], _, by rw [apN]⟩
  ·refine xe2 (splitN_first r (acc ++ [c])) fun q t e=>?_
   exact ⟨c :: q, t, by rw [e, apA]; rfl⟩
theorem dotted_len (y : List Nat) : y.length <= (dotted y).length /\ (dotted y).length <= y.length + 1:=by unfold dotted; split <;> simp
theorem dotted_mem {y : List Nat} {a : Nat} (h : a ∈ dotted y) : a ∈ y \/ a = 46:=by
 unfold dotted at h
 split at h
 ·rcases List.mem_append.mp h with h | h
  ·exact .inl h
  ·rw [List.mem_singleton] at h; exact .inr h
 ·exact .inl h
theorem dotted_last {y : List Nat} {a : Nat} (h : (dotted y).getLast? = some a) : isW a = false:=by
 unfold dotted at h
 split at h
 ·rw [List.getLast?_concat] at h
  rw [<- Option.some.inj h]; decide
 ·rename_i hc
  unfold isW
  rw [Bool.or_eq_false_iff, beq_eq_false_iff_ne, beq_eq_false_iff_ne]
  exact ⟨fun e=>hc (.inl (by rw [h, e])), fun e=>hc (.inr (by rw [h, e]))⟩
theorem lines_ok (ns : List Int) : LinesOk (linesOfLaw ns) /\ ∀ x ∈ linesOfLaw ns, x.length <= 60:=by
 have hl:=text_len ns
 have hle:=splitN_le (textOf ns) []
 have h60 : ∀ x ∈ linesOfLaw ns, x.length <= 60:=fun x hx=>by
  refine xea (lmm hx) fun y hy e152=>?_; obtain rfl:=e152
  have h1:=hle y hy
  have h2:=(dotted_len y).2
  rw [List.length_nil] at h1
  lia
 refine xe (text_first ns) fun r hr=>?_
 refine xe2 (splitN_first r [97]) fun q t hq=>?_
 have hsp : splitN [] (textOf ns) = ([97] ++ q) :: t:=by rw [hr, splitN, if_neg (by decide)]; exact hq
 have hlines : linesOfLaw ns = dotted ([97] ++ q) :: t.map dotted:=by unfold linesOfLaw; rw [hsp]; rfl
 refine ⟨⟨fun x hx a ha=>?_, fun x hx a ha=>?_, ?_, fun x hx=>?_, ?_⟩, h60⟩
 ·refine xea (lmm hx) fun y hy e182=>?_; obtain rfl:=e182
  rcases dotted_mem ha with h | h
  ·rcases splitN_mem _ _ y hy a h with h | h
   ·cases h
   ·have:=text_ok ns a h.1
    exact ⟨this.1, h.2, this.2⟩
  ·subst h; decide
 ·refine xea (lmm hx) fun y hy e192=>?_; obtain rfl:=e192
  exact dotted_last ha
 ·rw [hlines]; simp
 ·rw [hlines] at hx
  have:=Option.some.inj hx
  intro e
  have h1:=(dotted_len ([97] ++ q)).1
  rw [this, e] at h1
  simp at h1
 ·have hs:=splitN_sum (textOf ns) []
  rw [List.length_nil] at hs
  have : ((linesOfLaw ns).map fun x=>x.length + 1).sum <= 1 * ((splitN [] (textOf ns)).map fun y=>y.length + 2).sum:=by
   unfold linesOfLaw
   rw [List.map_map]
   exact sum_mul _ _ 1 _ fun y _=>by
    have:=(dotted_len y).2
    show (dotted y).length + 1 <= _; lia
  lia
theorem room_ok (ns : List Int) : 3 <= roomOf ns /\ roomOf ns <= 900:=⟨(Int.le_toNat (Int.add_nonneg (by decide) (Int.emod_nonneg _ (by decide)))).mpr (Int.le_add_of_nonneg_right (Int.emod_nonneg _ (by decide))), Int.toNat_le.mpr (Int.le_trans (Int.add_le_add_left (Int.le_of_lt (Int.emod_lt_of_pos _ (by decide))) 3) (by decide))⟩
theorem sp_ok1 (k : Nat) : (spOf k).length <= 1:=by
 match k with
 | 0=>decide
 | 1=>decide
 | 2=>decide
 | 3=>decide
 | k + 4=>simp [spOf]
theorem en_ok1 (k : Nat) (h : k < 3) : EndOk (enOf k):=by
 match k, h with
 | 0, _=>exact .inl rfl
 | 1, _=>exact .inr (.inl rfl)
 | 2, _=>exact .inr (.inr rfl)
theorem plain_law (ns : List Int) : LawOk (roomOf ns) (splitterOf ns) (endingOf ns) (linesOfLaw ns) :=
 law_ok (lines_ok ns).1 (lines_ok ns).2 _ (room_ok ns) _ _ (sp_ok1 _) (en_ok1 _ (Nat.mod_lt _ (by decide)))
theorem prm : (PySem.Challenge.rw_rl0126_01.row).toRowW.promised:=RowW.promised_of_found (by decide +kernel)
theorem whole : PySem.Challenge.rw_rl0126_01.Holds:=headT prm fun ns _=>plain_law ns
end
end Mine
theorem PySem.Challenge.cw_rl0126_01_holds : PySem.Challenge.rw_rl0126_01.Holds := by
  exact Mine.whole
