import PyProof.Rows.All
import Wide.All
import OpenK.AllK
import Wide.FinOn
import KE.KDeep
import KE.KSetDisp
import PyProof.FactsAll.set_4
import KE.KDictIter
import KE.BitLaws
import KE.IntBitsLaws
import Lean
import PySem.Challenge.RW_st0036_01
-- Hd
section
open PySem PySem.W PyProof.Rows
set_option Elab.async false
set_option maxRecDepth 100000
set_option maxHeartbeats 8000000
namespace Mine
set_option synthInstance.maxSize 1 in
open_top hd for PySem.Challenge.rw_st0036_01
end Mine

end
-- Ari
section
open PySem PySem.W PyProof.Rows
set_option Elab.async false
namespace Mine.Ar
theorem c1 {a D : Nat} {P : Prop} (h : a < D ∧ P) : a < D := h.1
theorem c2 {a b D : Nat} {P : Prop} (h : b < D ∧ a < D ∧ P) : a < D := h.2.1
theorem c3 {a b c D : Nat} {P : Prop} (h : b < D ∧ c < D ∧ a < D ∧ P) : a < D := h.2.2.1
theorem c4 {a b c d D : Nat} {P : Prop} (h : b < D ∧ c < D ∧ d < D ∧ a < D ∧ P) : a < D := h.2.2.2.1
theorem c5 {a b c d e D : Nat} {P : Prop} (h : b < D ∧ c < D ∧ d < D ∧ e < D ∧ a < D ∧ P) : a < D := h.2.2.2.2.1
theorem c6 {a b c d e f D : Nat} {P : Prop} (h : b < D ∧ c < D ∧ d < D ∧ e < D ∧ f < D ∧ a < D ∧ P) : a < D := h.2.2.2.2.2.1
theorem c7 {a b c d e f g D : Nat} {P : Prop} (h : b < D ∧ c < D ∧ d < D ∧ e < D ∧ f < D ∧ g < D ∧ a < D ∧ P) : a < D := h.2.2.2.2.2.2.1
theorem c8 {a b c d e f g i D : Nat} {P : Prop} (h : b < D ∧ c < D ∧ d < D ∧ e < D ∧ f < D ∧ g < D ∧ i < D ∧ a < D ∧ P) : a < D := h.2.2.2.2.2.2.2.1
theorem e2 {a b D : Nat} (h : b < D ∧ a < D) : a < D := h.2
theorem e3 {a b c D : Nat} (h : b < D ∧ c < D ∧ a < D) : a < D := h.2.2
theorem e4 {a b c d D : Nat} (h : b < D ∧ c < D ∧ d < D ∧ a < D) : a < D := h.2.2.2
theorem s1 {a b : Nat} (h : a < b) : a < b + 1 := Nat.lt_succ_of_lt h
theorem s2 {a b : Nat} (h : a < b) : a < b + 1 + 1 := s1 (s1 h)
theorem s3 {a b : Nat} (h : a < b) : a < b + 1 + 1 + 1 := s1 (s2 h)
theorem t1 {a : Nat} : a < a + 1 := Nat.lt_succ_self a
theorem t2 {a : Nat} : a < a + 1 + 1 := s1 t1
theorem t3 {a : Nat} : a < a + 1 + 1 + 1 := s1 t2
theorem u1 {a : Nat} : a ≤ a + 1 := Nat.le_of_lt t1
theorem u2 {a : Nat} : a ≤ a + 1 + 1 := Nat.le_of_lt t2
theorem u3 {a : Nat} : a ≤ a + 1 + 1 + 1 := Nat.le_of_lt t3
theorem v1 {a : Nat} : 1 ≤ a + 1 := Nat.succ_le_succ (Nat.zero_le a)
theorem dp0 {x a R : Nat} (h : x + a < R) : x < R := Nat.lt_of_le_of_lt (Nat.le_add_right x a) h
theorem dp1 {x a b R : Nat} (h : x + a < R) (hb : b ≤ a) : x + b < R := Nat.lt_of_le_of_lt (Nat.add_le_add_left hb x) h
theorem dp2 {x a b c R : Nat} (h : x + a < R) (hb : b + c ≤ a) : x + b + c < R := by rw [Nat.add_assoc]; exact dp1 h hb
theorem ll {x a b : Nat} (h : x ≤ a) (hb : a ≤ b) : x ≤ b := Nat.le_trans h hb
theorem l0 {x a b : Nat} (h : x < a) (hb : a ≤ b) : x < b := Nat.lt_of_lt_of_le h hb
theorem lm {x a b : Nat} (h : x ≤ a) (hb : a < b) : x < b := Nat.lt_of_le_of_lt h hb
theorem gn {x a b : Nat} (h : a ≤ x) (hb : b ≤ a) : b ≤ x := Nat.le_trans hb h
theorem li {x a b : Int} (h : x ≤ a) (hb : a ≤ b) : x ≤ b := Int.le_trans h hb
theorem lj {x a b : Int} (h : x ≤ a) (hb : a < b) : x < b := Int.lt_of_le_of_lt h hb
theorem lk {x a b : Int} (h : x < a) (hb : a ≤ b) : x < b := Int.lt_of_lt_of_le h hb
theorem gi {x a b : Int} (h : a ≤ x) (hb : b ≤ a) : b ≤ x := Int.le_trans hb h
theorem gj {x a b : Int} (h : a ≤ x) (hb : b < a) : b < x := Int.lt_of_lt_of_le hb h
theorem gk {x a b : Int} (h : a < x) (hb : b ≤ a) : b < x := Int.lt_of_le_of_lt hb h
theorem gl {x a b : Int} (h : a < x) (hb : b ≤ a) : b ≤ x := Int.le_trans hb (Int.le_of_lt h)
theorem ci {n : Nat} {z : Int} (h : z ≤ 0) : z ≤ (n : Int) := Int.le_trans h (Int.natCast_nonneg n)
theorem cz {n : Nat} : (0 : Int) ≤ 0 + (n : Int) := by rw [Int.zero_add]; exact Int.natCast_nonneg n
theorem n0 {x : Int} (h : 0 < x) : x ≠ 0 := Int.ne_of_gt h
theorem n1 {x a : Int} (h : a ≤ x) (ha : 0 < a) : x ≠ 0 := n0 (Int.lt_of_lt_of_le ha h)
theorem m0 {x : Nat} (h : 0 < x) : x ≠ 0 := Nat.ne_of_gt h
theorem m1 {x a : Nat} (h : a ≤ x) (ha : 0 < a) : x ≠ 0 := m0 (Nat.lt_of_lt_of_le ha h)
theorem na {n a : Int} {c : Nat} (h1 : 0 ≤ n) (h2 : n ≤ a) (h3 : a.toNat < c) : n.natAbs < c := by omega
theorem pick {b D a : Nat} {P : Prop} (h : b < D ∧ P) (k : b < D ∧ P → a < D) : a < D := k h
theorem g1 {α : Type} {a b1 : α} {l : List α} : a ∈ b1 :: a :: l := .tail _ (.head _)
theorem g2 {α : Type} {a b1 b2 : α} {l : List α} : a ∈ b1 :: b2 :: a :: l := .tail _ (.tail _ (.head _))
theorem g3 {α : Type} {a b1 b2 b3 : α} {l : List α} : a ∈ b1 :: b2 :: b3 :: a :: l := .tail _ (.tail _ (.tail _ (.head _)))
theorem g4 {α : Type} {a b1 b2 b3 b4 : α} {l : List α} : a ∈ b1 :: b2 :: b3 :: b4 :: a :: l := .tail _ (.tail _ (.tail _ (.tail _ (.head _))))
theorem g5 {α : Type} {a b1 b2 b3 b4 b5 : α} {l : List α} : a ∈ b1 :: b2 :: b3 :: b4 :: b5 :: a :: l := .tail _ (.tail _ (.tail _ (.tail _ (.tail _ (.head _)))))
theorem g6 {α : Type} {a b1 b2 b3 b4 b5 b6 : α} {l : List α} : a ∈ b1 :: b2 :: b3 :: b4 :: b5 :: b6 :: a :: l := .tail _ (.tail _ (.tail _ (.tail _ (.tail _ (.tail _ (.head _))))))
theorem g7 {α : Type} {a b1 b2 b3 b4 b5 b6 b7 : α} {l : List α} : a ∈ b1 :: b2 :: b3 :: b4 :: b5 :: b6 :: b7 :: a :: l := .tail _ (.tail _ (.tail _ (.tail _ (.tail _ (.tail _ (.tail _ (.head _)))))))
theorem g8 {α : Type} {a b1 b2 b3 b4 b5 b6 b7 b8 : α} {l : List α} : a ∈ b1 :: b2 :: b3 :: b4 :: b5 :: b6 :: b7 :: b8 :: a :: l := .tail _ (.tail _ (.tail _ (.tail _ (.tail _ (.tail _ (.tail _ (.tail _ (.head _))))))))
theorem g9 {α : Type} {a b1 b2 b3 b4 b5 b6 b7 b8 b9 : α} {l : List α} : a ∈ b1 :: b2 :: b3 :: b4 :: b5 :: b6 :: b7 :: b8 :: b9 :: a :: l := .tail _ (.tail _ (.tail _ (.tail _ (.tail _ (.tail _ (.tail _ (.tail _ (.tail _ (.head _)))))))))
theorem g10 {α : Type} {a b1 b2 b3 b4 b5 b6 b7 b8 b9 b10 : α} {l : List α} : a ∈ b1 :: b2 :: b3 :: b4 :: b5 :: b6 :: b7 :: b8 :: b9 :: b10 :: a :: l := .tail _ (.tail _ (.tail _ (.tail _ (.tail _ (.tail _ (.tail _ (.tail _ (.tail _ (.tail _ (.head _))))))))))
theorem g11 {α : Type} {a b1 b2 b3 b4 b5 b6 b7 b8 b9 b10 b11 : α} {l : List α} : a ∈ b1 :: b2 :: b3 :: b4 :: b5 :: b6 :: b7 :: b8 :: b9 :: b10 :: b11 :: a :: l := .tail _ (.tail _ (.tail _ (.tail _ (.tail _ (.tail _ (.tail _ (.tail _ (.tail _ (.tail _ (.tail _ (.head _)))))))))))
theorem g12 {α : Type} {a b1 b2 b3 b4 b5 b6 b7 b8 b9 b10 b11 b12 : α} {l : List α} : a ∈ b1 :: b2 :: b3 :: b4 :: b5 :: b6 :: b7 :: b8 :: b9 :: b10 :: b11 :: b12 :: a :: l := .tail _ (.tail _ (.tail _ (.tail _ (.tail _ (.tail _ (.tail _ (.tail _ (.tail _ (.tail _ (.tail _ (.tail _ (.head _))))))))))))
def Sub {α : Type} (l r : List α) : Prop := ∀ p, p ∈ l → p ∈ r
theorem Sub.use {α : Type} {l r : List α} {p : α} (h : Sub l r) (hp : p ∈ l) : p ∈ r := h p hp
theorem Sub.nil {α : Type} {r : List α} : Sub [] r := fun _ h => nomatch h
theorem Sub.refl {α : Type} {r : List α} : Sub r r := fun _ h => h
theorem Sub.cons {α : Type} {a : α} {l r : List α} (h : a ∈ r) (t : Sub l r) : Sub (a :: l) r := fun _ h2 => by
  cases h2 with
  | head => exact h
  | tail _ h3 => exact t _ h3
theorem Sub.app {α : Type} {k l r : List α} (h : Sub k r) (t : Sub l r) : Sub (k ++ l) r := fun p h2 => (List.mem_append.mp h2).elim (h p) (t p)
theorem Sub.inl {α : Type} {l r q : List α} (h : Sub l r) : Sub l (r ++ q) := fun p h2 => List.mem_append_left _ (h p h2)
theorem Sub.inr {α : Type} {l r q : List α} (h : Sub l r) : Sub l (q ++ r) := fun p h2 => List.mem_append_right _ (h p h2)
theorem Sub.t1 {α : Type} {b1 : α} {l r : List α} (h : Sub l r) : Sub l (b1 :: r) := fun p h2 => .tail _ (h p h2)
theorem Sub.t2 {α : Type} {b1 b2 : α} {l r : List α} (h : Sub l r) : Sub l (b1 :: b2 :: r) := fun p h2 => .tail _ (.tail _ (h p h2))
theorem Sub.t3 {α : Type} {b1 b2 b3 : α} {l r : List α} (h : Sub l r) : Sub l (b1 :: b2 :: b3 :: r) := fun p h2 => .tail _ (.tail _ (.tail _ (h p h2)))
theorem Sub.t4 {α : Type} {b1 b2 b3 b4 : α} {l r : List α} (h : Sub l r) : Sub l (b1 :: b2 :: b3 :: b4 :: r) := fun p h2 => .tail _ (.tail _ (.tail _ (.tail _ (h p h2))))
theorem Sub.t5 {α : Type} {b1 b2 b3 b4 b5 : α} {l r : List α} (h : Sub l r) : Sub l (b1 :: b2 :: b3 :: b4 :: b5 :: r) := fun p h2 => .tail _ (.tail _ (.tail _ (.tail _ (.tail _ (h p h2)))))
theorem Sub.t6 {α : Type} {b1 b2 b3 b4 b5 b6 : α} {l r : List α} (h : Sub l r) : Sub l (b1 :: b2 :: b3 :: b4 :: b5 :: b6 :: r) := fun p h2 => .tail _ (.tail _ (.tail _ (.tail _ (.tail _ (.tail _ (h p h2))))))
theorem Sub.t7 {α : Type} {b1 b2 b3 b4 b5 b6 b7 : α} {l r : List α} (h : Sub l r) : Sub l (b1 :: b2 :: b3 :: b4 :: b5 :: b6 :: b7 :: r) := fun p h2 => .tail _ (.tail _ (.tail _ (.tail _ (.tail _ (.tail _ (.tail _ (h p h2)))))))
theorem Sub.t8 {α : Type} {b1 b2 b3 b4 b5 b6 b7 b8 : α} {l r : List α} (h : Sub l r) : Sub l (b1 :: b2 :: b3 :: b4 :: b5 :: b6 :: b7 :: b8 :: r) := fun p h2 => .tail _ (.tail _ (.tail _ (.tail _ (.tail _ (.tail _ (.tail _ (.tail _ (h p h2))))))))
theorem Sub.t9 {α : Type} {b1 b2 b3 b4 b5 b6 b7 b8 b9 : α} {l r : List α} (h : Sub l r) : Sub l (b1 :: b2 :: b3 :: b4 :: b5 :: b6 :: b7 :: b8 :: b9 :: r) := fun p h2 => .tail _ (.tail _ (.tail _ (.tail _ (.tail _ (.tail _ (.tail _ (.tail _ (.tail _ (h p h2)))))))))
theorem Sub.t10 {α : Type} {b1 b2 b3 b4 b5 b6 b7 b8 b9 b10 : α} {l r : List α} (h : Sub l r) : Sub l (b1 :: b2 :: b3 :: b4 :: b5 :: b6 :: b7 :: b8 :: b9 :: b10 :: r) := fun p h2 => .tail _ (.tail _ (.tail _ (.tail _ (.tail _ (.tail _ (.tail _ (.tail _ (.tail _ (.tail _ (h p h2))))))))))
theorem Sub.t11 {α : Type} {b1 b2 b3 b4 b5 b6 b7 b8 b9 b10 b11 : α} {l r : List α} (h : Sub l r) : Sub l (b1 :: b2 :: b3 :: b4 :: b5 :: b6 :: b7 :: b8 :: b9 :: b10 :: b11 :: r) := fun p h2 => .tail _ (.tail _ (.tail _ (.tail _ (.tail _ (.tail _ (.tail _ (.tail _ (.tail _ (.tail _ (.tail _ (h p h2)))))))))))
theorem Sub.t12 {α : Type} {b1 b2 b3 b4 b5 b6 b7 b8 b9 b10 b11 b12 : α} {l r : List α} (h : Sub l r) : Sub l (b1 :: b2 :: b3 :: b4 :: b5 :: b6 :: b7 :: b8 :: b9 :: b10 :: b11 :: b12 :: r) := fun p h2 => .tail _ (.tail _ (.tail _ (.tail _ (.tail _ (.tail _ (.tail _ (.tail _ (.tail _ (.tail _ (.tail _ (.tail _ (h p h2))))))))))))
theorem all_nil {α : Type} {P : α → Prop} : ∀ p, p ∈ ([] : List α) → P p := fun _ h => nomatch h
theorem all_cons {α : Type} {P : α → Prop} {a : α} {l : List α} (h : P a) (t : ∀ p, p ∈ l → P p) : ∀ p, p ∈ a :: l → P p := fun _ h2 => by
  cases h2 with
  | head => exact h
  | tail _ h3 => exact t _ h3
theorem all_app {α : Type} {P : α → Prop} {k l : List α} (h : ∀ p, p ∈ k → P p) (t : ∀ p, p ∈ l → P p) : ∀ p, p ∈ k ++ l → P p := fun p h2 => (List.mem_append.mp h2).elim (h p) (t p)
end Mine.Ar

end
open PyProof.Rows PySem.W
local macro_rules | `(tactic| walk_at $s:str) => `(tactic| k_extra $s)
local macro_rules | `(tactic| omega) => `(tactic| k_extra "omega")
local macro_rules | `(tactic| k_all) => `(tactic| k_extra "k_all")
-- Base
section
open PySem PySem.W PySem.Spec PySem.Calls PyProof.Rows
set_option Elab.async false
set_option maxRecDepth 100000
set_option maxHeartbeats 8000000
namespace Mine
theorem said_Base_0 : True := by
  k_with_none
  w_top off
  k_with "lt" => first | assumption | (refine Mine.Ar.pick (by assumption) ?_; intro hh; first | exact Mine.Ar.c1 hh | exact Mine.Ar.c2 hh | exact Mine.Ar.c3 hh | exact Mine.Ar.c4 hh | exact Mine.Ar.c5 hh | exact Mine.Ar.c6 hh | exact Mine.Ar.c7 hh | exact Mine.Ar.c8 hh | exact Mine.Ar.e2 hh | exact Mine.Ar.e3 hh | exact Mine.Ar.e4 hh | fail) | exact Mine.Ar.t1 | exact Mine.Ar.t2 | exact Mine.Ar.t3 | fail
  k_with "lt2" => first | k_extra "lt" | (refine Mine.Ar.s1 ?_; k_extra "lt") | (refine Mine.Ar.s2 ?_; k_extra "lt") | (refine Mine.Ar.s3 ?_; k_extra "lt") | fail
  k_with "omega" => with_reducible (first | assumption | decide +kernel | (refine Nat.ne_of_gt ?_; k_extra "lt2") | (refine Nat.ne_of_lt ?_; k_extra "lt2") | k_extra "lt2" | exact Mine.Ar.u1 | exact Mine.Ar.u2 | exact Mine.Ar.u3 | exact Mine.Ar.v1 | exact Mine.Ar.dp0 (by assumption) | exact Mine.Ar.dp1 (by assumption) (by decide) | exact Mine.Ar.dp2 (by assumption) (by decide) | exact Mine.Ar.ll (by assumption) (by decide) | exact Mine.Ar.l0 (by assumption) (by decide) | exact Mine.Ar.lm (by assumption) (by decide) | exact Mine.Ar.gn (by assumption) (by decide) | exact Mine.Ar.ci (by decide) | exact Mine.Ar.cz | exact Mine.Ar.li (by assumption) (by decide) | exact Mine.Ar.lj (by assumption) (by decide) | exact Mine.Ar.lk (by assumption) (by decide) | exact Mine.Ar.gi (by assumption) (by decide) | exact Mine.Ar.gj (by assumption) (by decide) | exact Mine.Ar.gk (by assumption) (by decide) | exact Mine.Ar.gl (by assumption) (by decide) | exact Mine.Ar.n0 (by assumption) | exact Mine.Ar.n1 (by assumption) (by decide) | exact Mine.Ar.m0 (by assumption) | exact Mine.Ar.m1 (by assumption) (by decide) | exact And.left (by assumption) | exact And.right (by assumption) | lia | fail)
  trivial
abbrev Led := List (Addr × Obj)

/-- a call of f, in any frame of a def's -/
def Does (w : World) (D U : Nat) (f : Addr) (news : Led) (vs : List Value) (R : Value → Led → Prop) : Prop :=
  ∀ (p : Program) (loose : List Str) (mean : ExcName → Option Value) (mg mb : Str → Option Value)
    (dp un : Nat) (gd : Option (List Code)) (cn : Str) (cs : Scope) (a : Addr) (ccd : Value) (cl : List (Str × Addr)) (outer : List Env) (A₀ : Around) (base h₀ : Heap) (L : Addr) (m : Str → Option Value) (s : Shared) (Q E : Value → Shared → Prop),
    Below A₀ base outer h₀ → Fr h₀ L s.heap m → (Mine.hd.heap_39 w.params).In h₀ → News h₀ L s.heap news → Top p loose mean mg mb h₀ → cs.kind = .function → dp + D < recursionLimit → un + U < cLine →
    (∀ r news' h' tk', Fr h₀ L h' m → News h₀ L h' news' → R r news' → Q r { s with heap := h', toks := tk' }) →
    wpAny (model PySem.Challenge.rw_st0036_01.row.prog w) (ktrTop dp un gd cn cs L a ccd cl outer) (call (.ref f) vs) Q E s
structure StB (s : Shared) : Prop where
theorem canon {α : Type} {M : Model} {A : Around} {t : Sem α} {Q : α → Shared → Prop} {E : Value → Shared → Prop} {S s : Shared} {h₀ h : Heap} {L : Addr} {m : Str → Option Value} {T : Nat} (_ : StB s) (_ : Fr h₀ L h m) (e : S = { s with heap := h, toks := T })
    (k : ∀ tk, wpAny M A t Q E { s with heap := h, toks := tk }) : wpAny M A t Q E S := e ▸ k T
theorem canonD {α : Type} {M : Model} {A : Around} {t : Sem α} {Q : α → Shared → Prop} {E : Value → Shared → Prop} {S s : Shared} {h₀ h : Heap} {L : Addr} {m : Str → Option Value} {T : Nat} {D : Drawn} (_ : StB s) (_ : Fr h₀ L h m) (e : S = { s with heap := h, toks := T, drawn := D })
    (k : ∀ tk dr, wpAny M A t Q E { s with heap := h, toks := tk, drawn := dr }) : wpAny M A t Q E S := e ▸ k T D
end Mine

end
-- Lib
section
open PySem PySem.W PySem.Spec PySem.Calls PyProof.Rows PyProof.Rows.LCg
set_option Elab.async false
set_option maxRecDepth 100000
set_option maxHeartbeats 4000000
namespace Mine
theorem said_Lib_0 : True := by
  k_with_none
  w_top off
  k_with "lt" => first | assumption | (refine Mine.Ar.pick (by assumption) ?_; intro hh; first | exact Mine.Ar.c1 hh | exact Mine.Ar.c2 hh | exact Mine.Ar.c3 hh | exact Mine.Ar.c4 hh | exact Mine.Ar.c5 hh | exact Mine.Ar.c6 hh | exact Mine.Ar.c7 hh | exact Mine.Ar.c8 hh | exact Mine.Ar.e2 hh | exact Mine.Ar.e3 hh | exact Mine.Ar.e4 hh | fail) | exact Mine.Ar.t1 | exact Mine.Ar.t2 | exact Mine.Ar.t3 | fail
  k_with "lt2" => first | k_extra "lt" | (refine Mine.Ar.s1 ?_; k_extra "lt") | (refine Mine.Ar.s2 ?_; k_extra "lt") | (refine Mine.Ar.s3 ?_; k_extra "lt") | fail
  k_with "omega" => with_reducible (first | assumption | decide +kernel | (refine Nat.ne_of_gt ?_; k_extra "lt2") | (refine Nat.ne_of_lt ?_; k_extra "lt2") | k_extra "lt2" | exact Mine.Ar.u1 | exact Mine.Ar.u2 | exact Mine.Ar.u3 | exact Mine.Ar.v1 | exact Mine.Ar.dp0 (by assumption) | exact Mine.Ar.dp1 (by assumption) (by decide) | exact Mine.Ar.dp2 (by assumption) (by decide) | exact Mine.Ar.ll (by assumption) (by decide) | exact Mine.Ar.l0 (by assumption) (by decide) | exact Mine.Ar.lm (by assumption) (by decide) | exact Mine.Ar.gn (by assumption) (by decide) | exact Mine.Ar.ci (by decide) | exact Mine.Ar.cz | exact Mine.Ar.li (by assumption) (by decide) | exact Mine.Ar.lj (by assumption) (by decide) | exact Mine.Ar.lk (by assumption) (by decide) | exact Mine.Ar.gi (by assumption) (by decide) | exact Mine.Ar.gj (by assumption) (by decide) | exact Mine.Ar.gk (by assumption) (by decide) | exact Mine.Ar.gl (by assumption) (by decide) | exact Mine.Ar.n0 (by assumption) | exact Mine.Ar.n1 (by assumption) (by decide) | exact Mine.Ar.m0 (by assumption) | exact Mine.Ar.m1 (by assumption) (by decide) | exact And.left (by assumption) | exact And.right (by assumption) | lia | fail)
  trivial

/-- a mark at which the walk stops -/
structure Hold (P : Prop) : Prop where
  out : P
theorem hold_out {P : Prop} (h : Hold P) : P := h.out

/-- a class: a tuple of three ints of the ledger -/
def Trip (news : Led) (v : Value) (c : Int × Int × Int) : Prop :=
  ∃ t t1 t2 t3 n, v = .ref t ∧ (t, ({ cls := .type "tuple", data := .seq #[.int c.1 t1, .int c.2.1 t2, .int c.2.2 t3] n } : Obj)) ∈ news
/-- the list of classes -/
structure Trips (news : Led) (its : List Value) (cs : List (Int × Int × Int)) : Prop where
  len : its.length = cs.length
  get : ∀ (i : Nat) c, cs[i]? = some c → ∃ v, its[i]? = some v ∧ Trip news v c
theorem Trip.mono {news news' : Led} {v : Value} {c : Int × Int × Int} (h : Trip news v c) (hs : ∀ p ∈ news, p ∈ news') : Trip news' v c :=
  let ⟨t, t1, t2, t3, n, e, hm⟩ := h; ⟨t, t1, t2, t3, n, e, hs _ hm⟩
theorem Trips.mono {news news' : Led} {its : List Value} {cs : List (Int × Int × Int)} (h : Trips news its cs) (hs : ∀ p ∈ news, p ∈ news') : Trips news' its cs :=
  ⟨h.len, fun i c e => let ⟨v, a, b⟩ := h.get i c e; ⟨v, a, b.mono hs⟩⟩
theorem Trips.nil {news : Led} : Trips news [] [] := ⟨rfl, fun i c e => by simp at e⟩
theorem Trips.snoc {news : Led} {its : List Value} {cs : List (Int × Int × Int)} {v : Value} {c : Int × Int × Int} (h : Trips news its cs) (hv : Trip news v c) : Trips news (its ++ [v]) (cs ++ [c]) := by
  refine ⟨by simp [h.len], fun i d e => ?_⟩
  by_cases hi : i < cs.length
  · rw [List.getElem?_append_left hi] at e
    obtain ⟨u, a, b⟩ := h.get i d e
    exact ⟨u, by rw [List.getElem?_append_left (by rw [h.len]; exact hi)]; exact a, b⟩
  · rw [List.getElem?_append_right (by omega)] at e
    have hz : i - cs.length = 0 := by
      cases hq : i - cs.length with
      | zero => rfl
      | succ k => rw [hq] at e; simp at e
    rw [hz] at e
    cases e
    exact ⟨v, by rw [List.getElem?_append_right (by rw [h.len]; omega), h.len, hz]; rfl, hv⟩

section
variable {prog : Program} {w : World} {A : Around} {E : Value → Shared → Prop} {s : Shared} {h₀ : Heap} {L : Addr} {m : Str → Option Value} {env : Env}

abbrev testsOf (ifs : List Expr) (env : Env) : Sem Bool :=
  forIn ifs true fun c r => if r = true then do let ok ← isTrue c env (eval c env); pure (ForInStep.yield ok) else pure (ForInStep.yield r)

/-- one comprehension's loop, any target, any tests -/
theorem comp_loop {elt target iter : Expr} {ifs : List Expr} {scope : Scope} {pos : Pos} {it acc : Value} {env : Env} {R : Result → Shared → Prop} (I : Nat → Shared → Prop)
    (turn : ∀ n s, I n s → wpAny (model prog w) A (pyNext it) (fun r s₁ => match r with
      | none => R (.ok .next) s₁
      | some v => wpAny (model prog w) A (letOwnedTupleGo target it v) (fun _ s₀ => wpAny (model prog w) A (assign target env v) (fun _ s₂ =>
          wpAny (model prog w) A (testsOf ifs env) (fun ok s₃ => if ok = true then wpAny (model prog w) A (eval elt env) (fun x s₄ =>
            wpAny (model prog w) A (call (.builtin "list.append") [acc, x]) (fun _ s₅ => ∃ k, k < n ∧ I k s₅) (notedBy (model prog w) A env fun e s' => R (.error e) s') s₄) (notedBy (model prog w) A env fun e s' => R (.error e) s') s₃
            else ∃ k, k < n ∧ I k s₃) (notedBy (model prog w) A env fun e s' => R (.error e) s') s₂)
          (notedBy (model prog w) A env fun e s' => R (.error e) s') s₀) (notedBy (model prog w) A env fun e s' => R (.error e) s') s₁) (notedBy (model prog w) A env fun e s' => R (.error e) s') s)
    (n : Nat) (h : I n s) : codeAny (model prog w) A (.compLoop (.ListComp elt [⟨target, iter, ifs, 0⟩] scope pos) 0 it acc env) R s := by
  refine codeAny_loop rfl I (fun n s hI => ?_) n h
  show wpAny _ A ((compTurn (.ListComp elt [⟨target, iter, ifs, 0⟩] scope pos) 0 it acc env).onRaise (fun x => do noteFrame x env; theTreesLotGoes x)) _ _ s
  refine wpAny_noted ?_
  rw [compTurn_list]
  refine wpAny_bind (wpAny_standAt (wpAny_bind (wpAny_mono (turn n s hI) (fun r s₁ h₁ => ?_) fun _ _ q => q)))
  cases r with
  | none => exact wpAny_pure h₁
  | some v =>
    refine wpAny_bind (wpAny_mono h₁ (fun _ s₀ h₀ => wpAny_bind (wpAny_mono h₀ (fun _ s₂ h₂ => wpAny_bind (wpAny_mono h₂ (fun ok s₃ h₃ => ?_) fun _ _ q => q)) fun _ _ q => q)) fun _ _ q => q)
    cases ok with
    | false => exact wpAny_pure ⟨rfl, h₃⟩
    | true => exact wpAny_bind (wpAny_bind (wpAny_mono h₃ (fun x s₄ h₄ => wpAny_bind (wpAny_mono h₄ (fun _ s₅ h₅ => wpAny_pure (wpAny_pure ⟨rfl, h₅⟩)) fun _ _ q => q)) fun _ _ q => q))

/-- what a turn's test or element leaves: the ledger as it was -/
def CEnd (h₀ : Heap) (L : Addr) (m : Str → Option Value) (s₁ : Shared) (led : Led) (P : Prop) (s₂ : Shared) : Prop :=
  ∃ h' tk, s₂ = { s₁ with heap := h', toks := tk } ∧ Fr h₀ L h' m ∧ News h₀ L h' led ∧ P
theorem CEnd.intro {s₁ : Shared} {led : Led} {P : Prop} {h' : Heap} {tk : Nat} (F : Fr h₀ L h' m) (N : News h₀ L h' led) (p : P) : CEnd h₀ L m s₁ led P { s₁ with heap := h', toks := tk } := ⟨h', tk, rfl, F, N, p⟩

/-- a comprehension over the classes: J i ys: what the list holds behind i turns -/
theorem comp3 {elt iter : Expr} {ifs : List Expr} {x₁ x₂ x₃ : Str} {p₁ p₂ p₃ tp : Pos} {kk : Nat} {scope : Scope} {cl : List (Str × Addr)} {pos : Pos} {Q : Value → Shared → Prop}
    {l : Addr} {its : List Value} {nn : Nat} {cs : List (Int × Int × Int)} {news : Led} (J : Nat → List Value → Prop) (_F : Fr h₀ L s.heap m) (_N : News h₀ L s.heap news)
    (hclos : closureFor scope env = pure cl) (hcell : ∀ y ∈ scope.names, y.2 ≠ .cell) (hkind : scope.kind = .function)
    (hnames : ∀ y ∈ scope.names, y.2 = .local → scope.names.lookup y.1 = some .local) (hx₁ : scope.names.lookup x₁ = some .local) (hx₂ : scope.names.lookup x₂ = some .local) (hx₃ : scope.names.lookup x₃ = some .local)
    (h12 : x₁ ≠ x₂) (h13 : x₁ ≠ x₃) (h23 : x₂ ≠ x₃) (hh : A.handled = none)
    (hl : (l, listOf its.toArray nn) ∈ news) (hc : Trips news its cs) (hsz : cs.length ≤ sizeLine)
    (h : wpAny (model prog w) A (eval iter env) (fun xv s₁ => xv = .ref l ∧ ∃ g tk, s₁ = { s with heap := g, toks := tk } ∧ Fr h₀ L g m ∧ News h₀ L g news) E s)
    (hJ : J 0 [])
    (turn : ∀ (i : Nat) c t1 t2 t3 ys I oI C oC D m₂ g tk (E' : Value → Shared → Prop), cs[i]? = some c → J i ys → NsObj oC m₂ → m₂ x₁ = some (.int c.1 t1) → m₂ x₂ = some (.int c.2.1 t2) → m₂ x₃ = some (.int c.2.2 t3) →
      Fr h₀ L g m → News h₀ L g ((I, oI) :: (C, oC) :: (D, lst ys) :: news) → Off3 I C D news → ((@Ne Nat I C) ∧ (@Ne Nat I D) ∧ (@Ne Nat C D)) →
      wpAny (model prog w) A (testsOf ifs (compEnvC scope cl C env)) (fun ok s₃ => if ok = true then wpAny (model prog w) A (eval elt (compEnvC scope cl C env)) (fun y s₄ => CEnd h₀ L m { s with heap := g, toks := tk } ((I, oI) :: (C, oC) :: (D, lst ys) :: news) (J (i + 1) (ys ++ [y])) s₄) E' s₃
        else CEnd h₀ L m { s with heap := g, toks := tk } ((I, oI) :: (C, oC) :: (D, lst ys) :: news) (J (i + 1) ys) s₃) E' { s with heap := g, toks := tk })
    (done : ∀ ys D g tk, J cs.length ys → Fr h₀ L g m → News h₀ L g ((D, lst ys) :: news) → Off1 D news → Q (.ref D) { s with heap := g, toks := tk })
    (hs : ∀ x, foldedSetIterable iter env x = pure x := by intro _; rfl) :
    wpAny (model prog w) A (eval (.ListComp elt [⟨.Tuple [.Name x₁ p₁, .Name x₂ p₂, .Name x₃ p₃] kk tp, iter, ifs, 0⟩] scope pos) env) Q E s := by
  rw [eval_ListComp]
  refine wpAny_comprehension_free (use := none) rfl hs hclos hkind hnames (wpAny_mono h (fun xv s₁ h₁ => ?_) fun _ _ e => e)
  obtain ⟨rfl, g, tk, rfl, F, N⟩ := h₁
  have hlo : g.get? l = some (listOf its.toArray nn) := (N _ hl).1
  have hls : g.IsList l its.toArray := ⟨_, hlo, rfl, nn, rfl⟩
  have hlt : l < g.objs.size := Heap.lt_size hlo
  refine wpAny_pyIter_list hls ?_
  -- the iterator, the list, the frame
  refine wpAny_newObj_type (wpAny_newFunctionEnv hcell (by intro y hy; simp at hy) (fun h₁ hns₁ hsb₁ => ?_) hkind)
  dsimp only at hns₁ hsb₁ ⊢
  generalize hH1 : g.push { cls := .type "list_iterator", data := .fields #[.ref l, .int 0 0] } = H1 at hns₁ hsb₁ ⊢
  have hIo : H1.get? g.objs.size = some { cls := .type "list_iterator", data := .fields #[.ref l, .int 0 0] } := hH1 ▸ Heap.get?_push_size _ rfl
  have hD : H1.objs.size = g.objs.size + 1 := by rw [← hH1, Heap.size_push]
  generalize hH2 : H1.push { cls := .type "list", dict := none, data := .seq ([] : List Value).toArray } = H2 at hns₁ hsb₁ ⊢
  have hC : H2.objs.size = g.objs.size + 2 := by rw [← hH2, Heap.size_push, hD]
  have up1 : ∀ b o, g.get? b = some o → h₁.get? b = some o := fun b o e => by
    have hb : b ≠ H2.objs.size := by rw [hC]; have := Heap.lt_size e; exact Nat.ne_of_lt (Nat.lt_trans this (by omega))
    exact hsb₁.extBut b o hb (Heap.get?_push_of_some _ (hH2 ▸ Heap.get?_push_of_some _ (hH1 ▸ Heap.get?_push_of_some _ e)))
  have hIL : L ≠ g.objs.size := Nat.ne_of_lt F.ns.lt
  have hDL : L ≠ H1.objs.size := by rw [hD]; exact Nat.ne_of_lt (Nat.lt_succ_of_lt F.ns.lt)
  have hCL : L ≠ H2.objs.size := by rw [hC]; exact Nat.ne_of_lt (Nat.lt_succ_of_lt (Nat.lt_succ_of_lt F.ns.lt))
  have fresh : ∀ a, g.objs.size ≤ a → h₀.get? a = none := fun a ha => by
    cases e : h₀.get? a with
    | none => rfl
    | some o' => exact absurd (Heap.lt_size (F.keep a o' e)) (Nat.not_lt.mpr ha)
  have hI₀ := fresh _ (Nat.le_refl g.objs.size)
  have hD₀ := fresh H1.objs.size (by omega)
  have hC₀ := fresh H2.objs.size (by omega)
  have hIC : g.objs.size ≠ H2.objs.size := by rw [hC]; omega
  have hID : g.objs.size ≠ H1.objs.size := by rw [hD]; omega
  have hCD : H2.objs.size ≠ H1.objs.size := by rw [hC, hD]; omega
  have off : Off3 g.objs.size H2.objs.size H1.objs.size news := Off3.of fun p hp => by
    have hb := Heap.lt_size (N p hp).1
    exact ⟨Nat.ne_of_lt hb, by rw [hC]; exact Nat.ne_of_lt (Nat.lt_trans hb (by omega)), by rw [hD]; exact Nat.ne_of_lt (Nat.lt_succ_of_lt hb)⟩
  have hacc : h₁.get? H1.objs.size = some (lst []) := hsb₁.extBut _ _ (Ne.symm hCD) (Heap.get?_push_of_some _ (hH2 ▸ Heap.get?_push_size _ rfl))
  have hit : h₁.get? g.objs.size = some { cls := .type "list_iterator", data := .fields #[.ref l, .int 0 0] } := hsb₁.extBut _ _ hIC (Heap.get?_push_of_some _ (hH2 ▸ Heap.get?_push_of_some _ hIo))
  generalize g.objs.size = I at *
  generalize H1.objs.size = D at *
  generalize H2.objs.size = C at *
  have offm := off.mem
  have key : ∀ s₃ : Shared, s₃ = { s with heap := h₁, toks := tk + ([] : List (Str × Value)).length } →
      codeAny (model prog w) A (.compLoop (.ListComp elt [⟨.Tuple [.Name x₁ p₁, .Name x₂ p₂, .Name x₃ p₃] kk tp, iter, ifs, 0⟩] scope pos) 0 (.ref I) (.ref D) (compEnvC scope cl C env))
        (compPost (model prog w) A E none Q (.ref D) C) s₃ := by
    rintro s₃ rfl
    refine comp_loop (fun k s' => ∃ h' tk i ys m' oI, s' = { s with heap := h', toks := tk } ∧ i ≤ cs.length ∧ k = cs.length + 1 - i ∧ ys.length ≤ i ∧ h'.get? I = some oI ∧ h'.IsListIter I l i ∧ Fr h₀ L h' m ∧ h'.Ns C m' ∧
        News h₀ L h' ((D, lst ys) :: news) ∧ J i ys) ?_ (cs.length + 1) ⟨h₁, _, 0, [], _, _, rfl, Nat.zero_le _, rfl, Nat.le_refl _, hit, ⟨_, hit, rfl, rfl⟩, F.keeps up1, hns₁, fun p hp => ?_, hJ⟩
    · rintro k s' ⟨h', tk', i, ys, m', oI, rfl, hi, rfl, hyl, hoI, hLi, F', hn', N', hJ'⟩
      have hl' : h'.IsList l its.toArray := ⟨_, (N' _ (.tail _ hl)).1, rfl, nn, rfl⟩
      by_cases hlt : i < cs.length
      · obtain ⟨c, hci⟩ : ∃ c, cs[i]? = some c := ⟨_, List.getElem?_eq_getElem hlt⟩
        obtain ⟨v, hvi, t, t1, t2, t3, nt, rfl, hmt⟩ := hc.get i c hci
        refine wpAny_pyNext_list_item hLi hl' (x := .ref t) (by simpa using hvi) fun h₂ hLi₂ hs₂ => ?_
        have N₂ : News h₀ L h₂ ((D, lst ys) :: news) := fun p hp => by
          refine ⟨hs₂.extBut _ _ ?_ (N' p hp).1, (N' p hp).2⟩
          rcases List.mem_cons.mp hp with rfl | hp
          · exact Ne.symm hID
          · exact (offm p hp).1
        have ht : IsTup h₂ t #[.int c.1 t1, .int c.2.1 t2, .int c.2.2 t3] := ⟨_, (N₂ _ (.tail _ hmt)).1, rfl, nt, rfl⟩
        refine wpAny_letOwnedTupleGo_listiter hLi₂ ?_
        refine assign_Tuple_tuple hh ht rfl rfl fun h₅ he => ?_
        have he' : ∀ b o, h₂.get? b = some o → h₅.get? b = some o := fun b o e => he b o (Nat.ne_of_lt (Heap.lt_size e)) e
        have hn₂ : h₅.Ns C m' := ((hn'.at' fun o e => hs₂.extBut _ o (Ne.symm hIC) e).at' fun o e => he' _ o e)
        refine assignInOrder_cons (wpAny_assign_Name (wpAny_storeName_local (lookup_relabel_local hx₁) hn₂ (fun h₆ hn₆ hs₆ => ?_) (by simp [compEnvC, relabel, hkind])))
        refine assignInOrder_cons (wpAny_assign_Name (wpAny_storeName_local (lookup_relabel_local hx₂) hn₆ (fun h₇ hn₇ hs₇ => ?_) (by simp [compEnvC, relabel, hkind])))
        refine assignInOrder_cons (wpAny_assign_Name (wpAny_storeName_local (lookup_relabel_local hx₃) hn₇ (fun h₃ hn₃ hs₃ => ?_) (by simp [compEnvC, relabel, hkind])))
        refine assignInOrder_nil ?_
        have old3 : ∀ b o, b ≠ C → h₂.get? b = some o → h₃.get? b = some o := fun b o hb e => hs₃.extBut b o hb (hs₇.extBut b o hb (hs₆.extBut b o hb (he' b o e)))
        obtain ⟨oI₂, hoI₂, hcI, hdI⟩ := hLi₂
        have hoI₃ := old3 _ _ hIC hoI₂
        obtain ⟨oC, heC, hoC⟩ := ns_obj hn₃
        have F₃ : Fr h₀ L h₃ m := ((((F'.change hs₂ (Ne.symm hIL) hI₀).keeps he').change hs₆ (Ne.symm hCL) hC₀).change hs₇ (Ne.symm hCL) hC₀).change hs₃ (Ne.symm hCL) hC₀
        have N₃ : News h₀ L h₃ ((I, oI₂) :: (C, oC) :: (D, lst ys) :: news) := fun p hp => by
          rcases List.mem_cons.mp hp with rfl | hp
          · exact ⟨hoI₃, Ne.symm hIL, hI₀⟩
          · rcases List.mem_cons.mp hp with rfl | hp
            · exact ⟨heC, Ne.symm hCL, hC₀⟩
            · refine ⟨old3 _ _ ?_ (N₂ p hp).1, (N₂ p hp).2⟩
              rcases List.mem_cons.mp hp with rfl | hp
              · exact Ne.symm hCD
              · exact (offm p hp).2.1
        refine wpAny_mono (turn i c t1 t2 t3 ys I oI₂ C oC D _ h₃ _ _ hci hJ' hoC (by simp [h12, h13]) (by simp [h23]) (by simp) F₃ N₃ off ⟨hIC, hID, hCD⟩) (fun ok s₄ h₄ => ?_) fun _ _ e => e
        cases ok with
        | true =>
          simp only [if_true] at h₄ ⊢
          refine wpAny_mono h₄ (fun y s₅ h₅ => ?_) fun _ _ e => e
          obtain ⟨h₄, tk₄, rfl, F₄, N₄, R₄⟩ := h₅
          have zI := (N₄ _ (.head _)).1
          have zC := (N₄ _ (.tail _ (.head _))).1
          have zD := (N₄ _ (.tail _ (.tail _ (.head _)))).1
          refine append_at (hsz := by show ys.toArray.size ≤ sizeLine; rw [List.size_toArray]; omega) zD fun h₅ hs₅ hD₅ => ?_
          have zI5 := hs₅.extBut _ _ hID zI
          refine ⟨cs.length + 1 - (i + 1), by omega, h₅, tk₄, i + 1, ys ++ [y], _, _, rfl, hlt, rfl, by simp; omega, zI5, ⟨_, zI5, hcI, hdI⟩, F₄.change hs₅ (Ne.symm hDL) hD₀, (hoC.ns zC).sameBut hs₅ hCD, fun p hp => ?_, R₄⟩
          rcases List.mem_cons.mp hp with rfl | hp
          · exact ⟨hD₅.trans (congrArg some (lst_snoc ys y)), Ne.symm hDL, hD₀⟩
          · exact ⟨hs₅.extBut _ _ (offm p hp).2.2 (N₄ p (.tail _ (.tail _ (.tail _ hp)))).1, (N' p (.tail _ hp)).2⟩
        | false =>
          simp only [Bool.false_eq_true, if_false] at h₄ ⊢
          obtain ⟨h₅, tk₄, rfl, F₄, N₄, R₄⟩ := h₄
          have zI := (N₄ _ (.head _)).1
          have zC := (N₄ _ (.tail _ (.head _))).1
          exact ⟨cs.length + 1 - (i + 1), by omega, h₅, tk₄, i + 1, ys, _, _, rfl, hlt, rfl, by omega, zI, ⟨_, zI, hcI, hdI⟩, F₄, hoC.ns zC, fun p hp => N₄ p (.tail _ (.tail _ hp)), R₄⟩
      · obtain rfl : i = cs.length := Nat.le_antisymm hi (Nat.not_lt.mp hlt)
        refine wpAny_pyNext_list_end hh hLi hl' (by simp [hc.len]) fun h₂ he₂ => ?_
        have F₂ : Fr h₀ L h₂ m := ⟨F'.ns.at' fun o e => he₂ L o hIL e, fun b o e => he₂ b o (fun q => by rw [q, hI₀] at e; cases e) (F'.keep b o e), F'.above⟩
        have N₂ : News h₀ L h₂ ((D, lst ys) :: news) := fun p hp => by
          refine ⟨he₂ _ _ ?_ (N' p hp).1, (N' p hp).2⟩
          rcases List.mem_cons.mp hp with rfl | hp
          · exact Ne.symm hID
          · exact (offm p hp).1
        refine ⟨m', hn'.at' fun o e => he₂ _ o (Ne.symm hIC) e, fun h'' hs'' => done ys D h'' _ hJ' (F₂.change hs'' (Ne.symm hCL) hC₀) (fun p hp => ?_) off.one⟩
        refine ⟨hs''.extBut _ _ ?_ (N₂ p hp).1, (N₂ p hp).2⟩
        rcases List.mem_cons.mp hp with rfl | hp
        · exact Ne.symm hCD
        · exact (offm p hp).2.1
    · rcases List.mem_cons.mp hp with rfl | hp
      · exact ⟨hacc, Ne.symm hDL, hD₀⟩
      · exact ⟨up1 _ _ (N p hp).1, (N p hp).2⟩
  exact codeAny_compStart_list (key _ rfl) (wpAny_pyIter_listiter (l := l) (i := 0) ⟨_, hit, rfl, rfl⟩ (key _ rfl))
end
end Mine

end
-- Lib2
section
open PySem PySem.W PySem.Spec PySem.Calls PyProof.Rows PyProof.Rows.LCg
set_option Elab.async false
set_option maxRecDepth 100000
set_option maxHeartbeats 4000000
namespace Mine
theorem said_Lib2_0 : True := by
  k_with_none
  w_top off
  k_with "lt" => first | assumption | (refine Mine.Ar.pick (by assumption) ?_; intro hh; first | exact Mine.Ar.c1 hh | exact Mine.Ar.c2 hh | exact Mine.Ar.c3 hh | exact Mine.Ar.c4 hh | exact Mine.Ar.c5 hh | exact Mine.Ar.c6 hh | exact Mine.Ar.c7 hh | exact Mine.Ar.c8 hh | exact Mine.Ar.e2 hh | exact Mine.Ar.e3 hh | exact Mine.Ar.e4 hh | fail) | exact Mine.Ar.t1 | exact Mine.Ar.t2 | exact Mine.Ar.t3 | fail
  k_with "lt2" => first | k_extra "lt" | (refine Mine.Ar.s1 ?_; k_extra "lt") | (refine Mine.Ar.s2 ?_; k_extra "lt") | (refine Mine.Ar.s3 ?_; k_extra "lt") | fail
  k_with "omega" => with_reducible (first | assumption | decide +kernel | (refine Nat.ne_of_gt ?_; k_extra "lt2") | (refine Nat.ne_of_lt ?_; k_extra "lt2") | k_extra "lt2" | exact Mine.Ar.u1 | exact Mine.Ar.u2 | exact Mine.Ar.u3 | exact Mine.Ar.v1 | exact Mine.Ar.dp0 (by assumption) | exact Mine.Ar.dp1 (by assumption) (by decide) | exact Mine.Ar.dp2 (by assumption) (by decide) | exact Mine.Ar.ll (by assumption) (by decide) | exact Mine.Ar.l0 (by assumption) (by decide) | exact Mine.Ar.lm (by assumption) (by decide) | exact Mine.Ar.gn (by assumption) (by decide) | exact Mine.Ar.ci (by decide) | exact Mine.Ar.cz | exact Mine.Ar.li (by assumption) (by decide) | exact Mine.Ar.lj (by assumption) (by decide) | exact Mine.Ar.lk (by assumption) (by decide) | exact Mine.Ar.gi (by assumption) (by decide) | exact Mine.Ar.gj (by assumption) (by decide) | exact Mine.Ar.gk (by assumption) (by decide) | exact Mine.Ar.gl (by assumption) (by decide) | exact Mine.Ar.n0 (by assumption) | exact Mine.Ar.n1 (by assumption) (by decide) | exact Mine.Ar.m0 (by assumption) | exact Mine.Ar.m1 (by assumption) (by decide) | exact And.left (by assumption) | exact And.right (by assumption) | lia | fail)
  trivial
section
variable {prog : Program} {w : World} {A : Around} {E : Value → Shared → Prop} {s : Shared} {h₀ : Heap} {m : Str → Option Value} {env : Env}

/-- a turn's end, the loop's iterator beside the ledger -/
def TEnd (h₀ : Heap) (L : Addr) (J : (Str → Option Value) → Led → Prop) (I : Addr) (oI : Obj) (s₁ s₂ : Shared) : Prop :=
  ∃ h' tk m' nx, s₂ = { s₁ with heap := h', toks := tk } ∧ Fr h₀ L h' m' ∧ News h₀ L h' ((I, oI) :: nx) ∧ (∀ p ∈ nx, p.1 ≠ I) ∧ J m' nx
def TPost (h₀ : Heap) (L : Addr) (J : (Str → Option Value) → Led → Prop) (I : Addr) (oI : Obj) (s₁ : Shared) (Q : Flow → Shared → Prop) (f : Flow) (s₂ : Shared) : Prop :=
  match f with
  | .ret v => Q (.ret v) s₂
  | .brk => Q .next s₂
  | _ => TEnd h₀ L J I oI s₁ s₂
theorem TEnd.intro {L : Addr} {J : (Str → Option Value) → Led → Prop} {I : Addr} {oI : Obj} {s₁ : Shared} {h' : Heap} {tk : Nat} {m' : Str → Option Value} (nx : Led)
    (F : Fr h₀ L h' m') (N : News h₀ L h' ((I, oI) :: nx)) (hne : ∀ p ∈ nx, p.1 ≠ I) (hJ : J m' nx) : TEnd h₀ L J I oI s₁ { s₁ with heap := h', toks := tk } := ⟨h', tk, m', nx, rfl, F, N, hne, hJ⟩

def put3 (x₁ x₂ x₃ : Str) (v₁ v₂ v₃ : Value) (m : Str → Option Value) : Str → Option Value :=
  fun z => if z = x₃ then some v₃ else if z = x₂ then some v₂ else if z = x₁ then some v₁ else m z

end
end Mine

end
-- Held
section
open PySem PySem.W PySem.Spec PySem.Calls PyProof.Rows
set_option Elab.async false
set_option pp.maxSteps 3000
set_option pp.deepTerms false
set_option pp.deepTerms.threshold 6
set_option maxRecDepth 100000
set_option maxHeartbeats 1000000
namespace Mine
theorem said_Held_0 : True := by
  k_with_none
  w_top off
  k_with "lt" => first | assumption | (refine Mine.Ar.pick (by assumption) ?_; intro hh; first | exact Mine.Ar.c1 hh | exact Mine.Ar.c2 hh | exact Mine.Ar.c3 hh | exact Mine.Ar.c4 hh | exact Mine.Ar.c5 hh | exact Mine.Ar.c6 hh | exact Mine.Ar.c7 hh | exact Mine.Ar.c8 hh | exact Mine.Ar.e2 hh | exact Mine.Ar.e3 hh | exact Mine.Ar.e4 hh | fail) | exact Mine.Ar.t1 | exact Mine.Ar.t2 | exact Mine.Ar.t3 | fail
  k_with "lt2" => first | k_extra "lt" | (refine Mine.Ar.s1 ?_; k_extra "lt") | (refine Mine.Ar.s2 ?_; k_extra "lt") | (refine Mine.Ar.s3 ?_; k_extra "lt") | fail
  k_with "omega" => with_reducible (first | assumption | decide +kernel | (refine Nat.ne_of_gt ?_; k_extra "lt2") | (refine Nat.ne_of_lt ?_; k_extra "lt2") | k_extra "lt2" | exact Mine.Ar.u1 | exact Mine.Ar.u2 | exact Mine.Ar.u3 | exact Mine.Ar.v1 | exact Mine.Ar.dp0 (by assumption) | exact Mine.Ar.dp1 (by assumption) (by decide) | exact Mine.Ar.dp2 (by assumption) (by decide) | exact Mine.Ar.ll (by assumption) (by decide) | exact Mine.Ar.l0 (by assumption) (by decide) | exact Mine.Ar.lm (by assumption) (by decide) | exact Mine.Ar.gn (by assumption) (by decide) | exact Mine.Ar.ci (by decide) | exact Mine.Ar.cz | exact Mine.Ar.li (by assumption) (by decide) | exact Mine.Ar.lj (by assumption) (by decide) | exact Mine.Ar.lk (by assumption) (by decide) | exact Mine.Ar.gi (by assumption) (by decide) | exact Mine.Ar.gj (by assumption) (by decide) | exact Mine.Ar.gk (by assumption) (by decide) | exact Mine.Ar.gl (by assumption) (by decide) | exact Mine.Ar.n0 (by assumption) | exact Mine.Ar.n1 (by assumption) (by decide) | exact Mine.Ar.m0 (by assumption) | exact Mine.Ar.m1 (by assumption) (by decide) | exact And.left (by assumption) | exact And.right (by assumption) | fail)
  k_with "execs cons" => ((try first | (refine' canon ?H ?F ?e ?_; (case H => assumption); (case F => assumption); (case e => exact rfl); intro _) | (refine' canonD ?H ?F ?e ?_; (case H => assumption); (case F => assumption); (case e => exact rfl); intro _ _)); (try k_fold); refine wpAny_execs_cons ?_)
  k_with "eval Call" => k_fold
  k_with "eval ListComp" => refine hold_out ?_
  trivial
def heldN (cs : List (Int × Int × Int)) (x : Int) : Nat := (cs.filter fun c => decide (Int.fmod (x - c.2.1) c.1 = 0)).length
theorem held_take {cs : List (Int × Int × Int)} {x : Int} {i : Nat} {c : Int × Int × Int} (h : cs[i]? = some c) : heldN (cs.take (i + 1)) x = heldN (cs.take i) x + (if Int.fmod (x - c.2.1) c.1 = 0 then 1 else 0) := by
  have hs : cs.take (i + 1) = cs.take i ++ [c] := by simp [List.take_add_one, h]
  unfold heldN
  rw [hs, List.filter_append, List.length_append]
  congr 1
  by_cases q : Int.fmod (x - c.2.1) c.1 = 0 <;> simp [q]
set_option maxHeartbeats 1000000 in
theorem held_does (w : World) (news : Led) (l : Addr) (its : List Value) (nn : Nat) (ks : List (Int × Int × Int)) (hl : (l, listOf its.toArray nn) ∈ news) (hc : Trips news its ks) (hlen : ks.length ≤ 5) (hpos : ∀ c ∈ ks, 2 ≤ c.1 ∧ c.1 ≤ 12) (x : Int) (t : Tok) :
    Does w 3 30 156 news [.ref l, .int x t] (fun r news' => news' = news ∧ ∃ t, r = .int (heldN ks x) t) := by
  unfold Does
  k_fill
  intro p loose mean mg mb dp un gd cn cs a ccd cl outer A₀ base h₀ L m s Q E B F X N T hk hd hu hret
  have HS : StB s := ⟨⟩
  refine wpAny_call ?_
  k_dflt (refine' code_defC ?k1 ?k2 ?k3 ?k4 ?k5 ?kA ?kF ?kK ?k6 ?k7 ?k8 ?k9 ?kB ?kD ?_ ?c2 ?c3 ?c4; (case kA => exact rfl); (case kF => exact rfl); (case kK => assumption); (case k1 => k_asm); (case k2 => k_asm); (case k3 => k_asm); (case k4 => k_asm); (case k5 => k_asm); (case k6 => k_is); (case k7 => k_is); (case k8 => ktr_room); (case k9 => exact BindsTo.of_eq rfl); (case kB => exact rfl); (case kD => decide +kernel); (case c2 => exact rfl); (case c3 => exact rfl); (case c4 => exact rfl); k_whole; intro g' L' h' tk' cells' FG' F' N' Y' B' X' T' l1; k_cells Y'; (try simp only [List.cons_append, List.nil_append] at N'); (try dsimp only); (try k_fold))
  refine wpAny_noRaise ?_
  k_steps
  refine Hold.mk ?_
  k_dflt (refine comp3 (its := its) (nn := nn) (cs := ks) (fun i ys => ys.length = heldN (ks.take i) x) F' N' (by with_unfolding_all rfl) (by decide) (by rfl) (by decide) (by rfl) (by rfl) (by rfl) (by decide) (by decide) (by decide) (by rfl) (.tail _ hl) (hc.mono fun _ h => .tail _ h) (Nat.le_trans hlen (by decide)) ?iter ?z ?turn ?done)
  case iter =>
    walk1
    exact ⟨rfl, _, _, rfl, F', N'⟩
  case z => rfl
  case turn =>
    intro i c t1 t2 t3 ys I oI C oC D m₂ g tk E' hi hJ hC hx1 hx2 hx3 F₁ N₁ off ne
    refine wpAny_tests_one ?_
    have hcp := hpos c (List.mem_of_getElem? hi)
    have hz : c.1 ≠ 0 := by omega
    have hcnt := held_take (x := x) hi
    clear hret
    k_steps
    all_goals (refine CEnd.intro (by assumption) (by assumption) ?_; (try simp only [List.length_append, List.length_cons, List.length_nil]); simp_all)
  case done =>
    intro ys D g tk hJ F₁ N₁ off
    have hle : ys.length ≤ 5 := by
      rw [hJ]
      exact Nat.le_trans (List.length_filter_le _ _) (Nat.le_trans (List.length_take_le _ _) hlen)
    k_steps
    k_dflt (refine' kst_len (us := ys) (c := ys.length) (k := ys.length) ?N ?hm ?e ?fit ?_; (case N => exact N₁); (case hm => exact .head _); (case e => rfl); (case fit => omega))
    k_steps
    rw [hJ, List.take_length]
    rename News _ _ _ _ => kN
    exact hret _ news _ _ (by assumption) (kst_newsOf kN fun _ h => .tail _ (.tail _ h)) ⟨rfl, _, rfl⟩
end Mine

end
-- Lib3
section
open PySem PySem.W PySem.Spec PySem.Calls PyProof.Rows PyProof.Rows.LCg
set_option Elab.async false
set_option maxRecDepth 100000
set_option maxHeartbeats 4000000
namespace Mine
theorem said_Lib3_0 : True := by
  k_with_none
  w_top off
  k_with "lt" => first | assumption | (refine Mine.Ar.pick (by assumption) ?_; intro hh; first | exact Mine.Ar.c1 hh | exact Mine.Ar.c2 hh | exact Mine.Ar.c3 hh | exact Mine.Ar.c4 hh | exact Mine.Ar.c5 hh | exact Mine.Ar.c6 hh | exact Mine.Ar.c7 hh | exact Mine.Ar.c8 hh | exact Mine.Ar.e2 hh | exact Mine.Ar.e3 hh | exact Mine.Ar.e4 hh | fail) | exact Mine.Ar.t1 | exact Mine.Ar.t2 | exact Mine.Ar.t3 | fail
  k_with "lt2" => first | k_extra "lt" | (refine Mine.Ar.s1 ?_; k_extra "lt") | (refine Mine.Ar.s2 ?_; k_extra "lt") | (refine Mine.Ar.s3 ?_; k_extra "lt") | fail
  k_with "omega" => with_reducible (first | assumption | decide +kernel | (refine Nat.ne_of_gt ?_; k_extra "lt2") | (refine Nat.ne_of_lt ?_; k_extra "lt2") | k_extra "lt2" | exact Mine.Ar.u1 | exact Mine.Ar.u2 | exact Mine.Ar.u3 | exact Mine.Ar.v1 | exact Mine.Ar.dp0 (by assumption) | exact Mine.Ar.dp1 (by assumption) (by decide) | exact Mine.Ar.dp2 (by assumption) (by decide) | exact Mine.Ar.ll (by assumption) (by decide) | exact Mine.Ar.l0 (by assumption) (by decide) | exact Mine.Ar.lm (by assumption) (by decide) | exact Mine.Ar.gn (by assumption) (by decide) | exact Mine.Ar.ci (by decide) | exact Mine.Ar.cz | exact Mine.Ar.li (by assumption) (by decide) | exact Mine.Ar.lj (by assumption) (by decide) | exact Mine.Ar.lk (by assumption) (by decide) | exact Mine.Ar.gi (by assumption) (by decide) | exact Mine.Ar.gj (by assumption) (by decide) | exact Mine.Ar.gk (by assumption) (by decide) | exact Mine.Ar.gl (by assumption) (by decide) | exact Mine.Ar.n0 (by assumption) | exact Mine.Ar.n1 (by assumption) (by decide) | exact Mine.Ar.m0 (by assumption) | exact Mine.Ar.m1 (by assumption) (by decide) | exact And.left (by assumption) | exact And.right (by assumption) | lia | fail)
  trivial
/-- a frame's map: the stored names anyhow, the others as they were -/
def mapU (stored : List Str) (u m₀ : Str → Option Value) : Str → Option Value := fun z => if stored.contains z then u z else m₀ z
theorem mapU_self {stored : List Str} {m' m₀ : Str → Option Value} (h : ∀ z, stored.contains z = false → m' z = m₀ z) : m' = mapU stored m' m₀ := by
  funext z
  unfold mapU
  cases q : stored.contains z with
  | true => simp
  | false => simp [h z q]

section
variable {prog : Program} {w : World} {A : Around} {E : Value → Shared → Prop} {s : Shared} {env : Env} {h₀ : Heap} {x : Str} {body : List Stmt} {Q : Flow → Shared → Prop}
/-- a for over a range, from a₀ by ones -/
theorem rangeJ {r : Addr} {a₀ b₀ : Int} {t₀ u₀ v₀ : Tok} {n : Nat} {m₀ : Str → Option Value} {news : Led} (J : (Str → Option Value) → Nat → (Str → Option Value) → Led → Prop)
    (hh : A.handled = none) (hr : IsRange s.heap r a₀ b₀ 1 t₀ u₀ v₀) (hsmall : Builtin.Range.small a₀ b₀ 1 = true) (hsz : Builtin.Range.rangeSize a₀ b₀ 1 = (n : Int)) (F : Fr h₀ env.locals s.heap m₀) (N : News h₀ env.locals s.heap news) (hj : J m₀ 0 m₀ news)
    (turn : ∀ (i : Nat) t m₁ nx h tk own, i < n → OwnOff own (nx.map (·.1)) → J m₀ i m₁ nx → Fr h₀ env.locals h (fun y => if y = x then some (.int (a₀ + (i : Int)) t) else m₁ y) → News h₀ env.locals h (nx ++ own) →
      wpAny (model prog w) A (execs body env) (InvPostG h₀ env.locals (J m₀ (i + 1)) own { s with heap := h, toks := tk } Q) E { s with heap := h, toks := tk })
    (done : ∀ m₁ nx h tk, J m₀ n m₁ nx → Fr h₀ env.locals h m₁ → News h₀ env.locals h nx → Q .next { s with heap := h, toks := tk }) :
    wpAny (model prog w) A (pyIter (.ref r)) (fun it s₂ => LoopAtV prog w A h₀ env x body Q E it s₂) E s := by
  refine wpAny_pyIter_range hr hsmall ?_
  have W := range_walks (prog := prog) (w := w) (I := s.heap.objs.size) hh a₀ n
  refine kdr_loop (J m₀) W (fun _ h => h) (fun _ h => h) ?_ ?_ ?_ ?_ (by show IsRangeIter _ _ _ _ _; rw [hsz]; simpa using Heap.get?_push_size _ rfl) (F.push _) (fun p hp => ⟨Heap.get?_push_of_some _ (N p hp).1, (N p hp).2⟩) hj ?_ done
  · intro i h hi b hb
    rw [List.mem_singleton.mp hb]
    exact ⟨_, hi⟩
  · intro hm
    exact absurd F.ns.lt ((List.mem_singleton.mp hm) ▸ Nat.lt_irrefl _)
  · intro b hb
    rw [List.mem_singleton.mp hb]
    exact next_is_new F
  · intro p hp hI
    exact absurd (Heap.lt_size (N p hp).1) ((List.mem_singleton.mp hI) ▸ Nat.lt_irrefl _)
  · rintro i v m₁ nx h tk own hi ⟨t, rfl⟩ hoff hJ F₁ N₁
    exact turn i t m₁ nx h tk own hi hoff hJ F₁ N₁
end

theorem whileJ {prog : Program} {w : World} {A : Around} {E : Value → Shared → Prop} {s : Shared} {env : Env} {h₀ : Heap} {L : Addr} {Q : Flow → Shared → Prop} {test : Expr} {body : List Stmt} {pos : Pos} {m₀ : Str → Option Value} {news : Led} (J : (Str → Option Value) → Nat → (Str → Option Value) → Led → Prop) (n₀ : Nat)
    (F : Fr h₀ L s.heap m₀) (N : News h₀ L s.heap news) (hJ : J m₀ n₀ m₀ news)
    (turn : ∀ n m₁ nx h₁ tk₁, Fr h₀ L h₁ m₁ → News h₀ L h₁ nx → J m₀ n m₁ nx →
      wpAny (model prog w) A (isTrue test env (eval test env)) (fun b s₂ =>
        if b = true then wpAny (model prog w) A (execs body env) (WhileStep2 h₀ L s (J m₀) Q n) E s₂ else Q .next s₂) E { s with heap := h₁, toks := tk₁ })
    (hE : PassesOwn (model prog w) A env E) :
    wpAny (model prog w) A (exec (.While test body [] pos) env) Q E s := While_inv2 (J m₀) F N hJ turn hE

theorem Does.use {w : World} {D U : Nat} {f : Addr} {news : Led} {vs : List Value} {R : Value → Led → Prop} {p : Program} {loose : List Str} {mean : ExcName → Option Value} {mg mb : Str → Option Value}
    {dp un : Nat} {gd : Option (List Code)} {cn : Str} {cs : Scope} {a : Addr} {ccd : Value} {cl : List (Str × Addr)} {outer : List Env} {A₀ : Around} {base h₀ : Heap} {L : Addr} {m : Str → Option Value} {s : Shared} {Q E : Value → Shared → Prop}
    (C : Does w D U f news vs R) (B : Below A₀ base outer h₀) (F : Fr h₀ L s.heap m) (X : (Mine.hd.heap_39 w.params).In h₀) (N : News h₀ L s.heap news) (T : Top p loose mean mg mb h₀) (hk : cs.kind = .function) (hd : dp + D < recursionLimit) (hu : un + U < cLine)
    (ret : ∀ r news' h' tk', Fr h₀ L h' m → News h₀ L h' news' → R r news' → Q r { s with heap := h', toks := tk' }) :
    wpAny (model PySem.Challenge.rw_st0036_01.row.prog w) (ktrTop dp un gd cn cs L a ccd cl outer) (call (.ref f) vs) Q E s :=
  C p loose mean mg mb dp un gd cn cs a ccd cl outer A₀ base h₀ L m s Q E B F X N T hk hd hu ret

theorem app_led {prog : Program} {w : World} {A : Around} {E : Value → Shared → Prop} {s : Shared} {h₀ : Heap} {L D : Addr} {m : Str → Option Value} {its : List Value} {nn : Nat} {x : Value} {pre post : Led} {Q : Value → Shared → Prop}
    (F : Fr h₀ L s.heap m) (N : News h₀ L s.heap (pre ++ (D, listOf its.toArray nn) :: post)) (hpre : ∀ p ∈ pre, p.1 ≠ D) (hpost : ∀ p ∈ post, p.1 ≠ D) (hsz : its.length ≤ 1000)
    (h : ∀ h', Fr h₀ L h' m → News h₀ L h' (pre ++ (D, listOf (its ++ [x]).toArray (nn + 1)) :: post) → Q .none { s with heap := h' }) :
    wpAny (model prog w) A (call (.builtin "list.append") [.ref D, x]) Q E s := by
  have hD := N (D, listOf its.toArray nn) (List.mem_append_right _ (.head _))
  refine append_at (hsz := by rw [List.size_toArray]; exact Nat.le_trans hsz (by decide)) hD.1 fun h' hs hg => h h' (F.change hs hD.2.1 hD.2.2) fun p hp => ?_
  rcases List.mem_append.mp hp with hp | hp
  · exact ⟨hs.extBut _ _ (hpre p hp) (N p (List.mem_append_left _ hp)).1, (N p (List.mem_append_left _ hp)).2⟩
  · rcases List.mem_cons.mp hp with rfl | hp
    · refine ⟨hg.trans ?_, hD.2⟩
      simp
    · exact ⟨hs.extBut _ _ (hpost p hp) (N p (List.mem_append_right _ (.tail _ hp))).1, (N p (List.mem_append_right _ (.tail _ hp))).2⟩

theorem own_cons {own : Led} {a : Addr} {as : List Addr} (h : OwnOff own (a :: as)) : (∀ p ∈ own, p.1 ≠ a) ∧ OwnOff own as :=
  ⟨fun p hp => h p hp a (.head _), fun p hp b hb => h p hp b (.tail _ hb)⟩
end Mine

end
-- CellsF
section
open PySem PySem.W PySem.Spec PySem.Calls PyProof.Rows
set_option Elab.async false
set_option pp.maxSteps 3000
set_option pp.deepTerms false
set_option pp.deepTerms.threshold 6
set_option maxRecDepth 100000
set_option maxHeartbeats 2000000
namespace Mine
theorem said_CellsF_0 : True := by
  k_with_none
  w_top off
  k_with "lt" => first | assumption | (refine Mine.Ar.pick (by assumption) ?_; intro hh; first | exact Mine.Ar.c1 hh | exact Mine.Ar.c2 hh | exact Mine.Ar.c3 hh | exact Mine.Ar.c4 hh | exact Mine.Ar.c5 hh | exact Mine.Ar.c6 hh | exact Mine.Ar.c7 hh | exact Mine.Ar.c8 hh | exact Mine.Ar.e2 hh | exact Mine.Ar.e3 hh | exact Mine.Ar.e4 hh | fail) | exact Mine.Ar.t1 | exact Mine.Ar.t2 | exact Mine.Ar.t3 | fail
  k_with "lt2" => first | k_extra "lt" | (refine Mine.Ar.s1 ?_; k_extra "lt") | (refine Mine.Ar.s2 ?_; k_extra "lt") | (refine Mine.Ar.s3 ?_; k_extra "lt") | fail
  k_with "omega" => with_reducible (first | assumption | decide +kernel | (refine Nat.ne_of_gt ?_; k_extra "lt2") | (refine Nat.ne_of_lt ?_; k_extra "lt2") | k_extra "lt2" | exact Mine.Ar.u1 | exact Mine.Ar.u2 | exact Mine.Ar.u3 | exact Mine.Ar.v1 | exact Mine.Ar.dp0 (by assumption) | exact Mine.Ar.dp1 (by assumption) (by decide) | exact Mine.Ar.dp2 (by assumption) (by decide) | exact Mine.Ar.ll (by assumption) (by decide) | exact Mine.Ar.l0 (by assumption) (by decide) | exact Mine.Ar.lm (by assumption) (by decide) | exact Mine.Ar.gn (by assumption) (by decide) | exact Mine.Ar.ci (by decide) | exact Mine.Ar.cz | exact Mine.Ar.li (by assumption) (by decide) | exact Mine.Ar.lj (by assumption) (by decide) | exact Mine.Ar.lk (by assumption) (by decide) | exact Mine.Ar.gi (by assumption) (by decide) | exact Mine.Ar.gj (by assumption) (by decide) | exact Mine.Ar.gk (by assumption) (by decide) | exact Mine.Ar.gl (by assumption) (by decide) | exact Mine.Ar.n0 (by assumption) | exact Mine.Ar.n1 (by assumption) (by decide) | exact Mine.Ar.m0 (by assumption) | exact Mine.Ar.m1 (by assumption) (by decide) | exact And.left (by assumption) | exact And.right (by assumption) | fail)
  k_with "execs cons" => ((try first | (refine' canon ?H ?F ?e ?_; (case H => assumption); (case F => assumption); (case e => exact rfl); intro _) | (refine' canonD ?H ?F ?e ?_; (case H => assumption); (case F => assumption); (case e => exact rfl); intro _ _)); (try k_fold); refine wpAny_execs_cons ?_)
  k_with "eval Call" => k_fold
  trivial
def CellsOk (ns : List Int) : Prop := ns.length = 5 ∧ ∀ x ∈ ns, 1 ≤ x ∧ x ≤ 20000000
theorem cells_step {c pre : List Int} {k r : Int} {i : Nat} (h1 : c.length = 5) (h2 : ∀ x ∈ c, 1 ≤ x ∧ x ≤ 5 + 1000000 * (pre.length : Int)) :
    (c.set i (c.getD i 0 + r.fmod (10 ^ Int.toNat 6))).length = 5 ∧ ∀ x ∈ c.set i (c.getD i 0 + r.fmod (10 ^ Int.toNat 6)), 1 ≤ x ∧ x ≤ 5 + 1000000 * ((pre ++ [k]).length : Int) := by
  refine ⟨by rw [List.length_set]; exact h1, fun x hx => ?_⟩
  have hb : 0 ≤ r.fmod (10 ^ Int.toNat 6) ∧ r.fmod (10 ^ Int.toNat 6) < 1000000 := by
    rw [show (10 : Int) ^ Int.toNat 6 = 1000000 by decide]
    exact ⟨Int.fmod_nonneg_of_pos _ (by decide), Int.fmod_lt_of_pos _ (by decide)⟩
  rw [List.length_append, List.length_singleton]
  by_cases hi : i < c.length
  · rcases List.mem_or_eq_of_mem_set hx with hx | rfl
    · have := h2 x hx
      omega
    · have := h2 (c.getD i 0) (by rw [List.getD_eq_getElem?_getD, List.getElem?_eq_getElem hi]; exact List.getElem_mem hi)
      omega
  · rw [List.set_eq_of_length_le (by omega)] at hx
    have := h2 x hx
    omega
theorem cells_start : [1, 2, 3, 4, 5].length = 5 ∧ ∀ x ∈ ([1, 2, 3, 4, 5] : List Int), 1 ≤ x ∧ x ≤ 5 + 1000000 * (([] : List Int).length : Int) := by decide
theorem cells_does (w : World) (news : Led) (l : Addr) (vs : List Value) (ss : List Int) (hi : IntsAre vs ss) (hlen : ss.length ≤ 63) :
  ∀ (p : Program) (loose : List Str) (mean : ExcName → Option Value) (mg mb : Str → Option Value)
    (dp un : Nat) (gd : Option (List Code)) (cn : Str) (cs : Scope) (a : Addr) (ccd : Value) (cl : List (Str × Addr)) (outer : List Env) (A₀ : Around) (base h₀ : Heap) (L : Addr) (m : Str → Option Value) (s : Shared) (Q E : Value → Shared → Prop),
    Below A₀ base outer h₀ → Fr h₀ L s.heap m → (Mine.hd.heap_39 w.params).In h₀ → News h₀ L s.heap news → Top p loose mean mg mb h₀ → cs.kind = .function → h₀.IsList l vs.toArray → dp + 3 < recursionLimit → un + 30 < cLine →
    (∀ D its ns n h' tk', Fr h₀ L h' m → News h₀ L h' ((D, listOf its.toArray n) :: news) → (∀ p ∈ news, p.1 < D) → IntsAre its ns → CellsOk ns → Q (.ref D) { s with heap := h', toks := tk' }) →
    wpAny (model PySem.Challenge.rw_st0036_01.row.prog w) (ktrTop dp un gd cn cs L a ccd cl outer) (call (.ref 151) [.ref l]) Q E s := by
  k_fill
  intro p loose mean mg mb dp un gd cn cs a ccd cl outer A₀ base h₀ L m s Q E B F X N T hk hl hd hu hret
  have HS : StB s := ⟨⟩
  refine wpAny_call ?_
  k_dflt (refine' code_def ?k1 ?k2 ?k3 ?k4 ?k5 ?kA ?kF ?kK ?k6 ?k7 ?k8 ?k9 ?kB ?_ ?c2 ?c3 ?c4 ?c5; (case kA => exact rfl); (case kF => exact rfl); (case kK => assumption); (case k1 => k_asm); (case k2 => k_asm); (case k3 => k_asm); (case k4 => k_asm); (case k5 => k_asm); (case k6 => k_is); (case k7 => k_is); (case k8 => ktr_room); (case k9 => exact BindsTo.of_eq rfl); (case c5 => decide); (case kB => exact locs rfl); (case c2 => exact rfl); (case c3 => exact rfl); (case c4 => exact rfl); k_whole; intro g' L' h' FG' F' N' B' X' T'; (try dsimp only); (try k_fold))
  refine wpAny_noRaise ?_
  have hlg : g'.IsList l vs.toArray := hl.at fun o e => FG'.keep l o e
  have hvl := hi.length
  k_with "pyIter ref" => k_state (fun (pre : List Int) (c : List Int) => c.length = 5 ∧ ∀ x ∈ c, 1 ≤ x ∧ x ≤ 5 + 1000000 * pre.length) "cells"
  k_with "state" => first | exact cells_start | exact cells_step (by assumption) (by assumption)
  k_steps
  rename IntsAre _ _ => kI
  rename News h₀ _ _ _ => kN
  refine hret _ _ _ _ _ _ (by assumption) kN (by assumption) kI ⟨by assumption, fun x hx => ?_⟩
  rename (∀ x ∈ _, _ ∧ x ≤ _) => hb
  have := hb x hx
  rw [rangeKs_length] at this
  split at this <;> omega
end Mine

end
-- ClassesF
section
open PySem PySem.W PySem.Spec PySem.Calls PyProof.Rows
set_option Elab.async false
set_option pp.maxSteps 3000
set_option pp.deepTerms false
set_option pp.deepTerms.threshold 6
set_option maxRecDepth 100000
set_option maxHeartbeats 2000000
namespace Mine
theorem said_ClassesF_0 : True := by
  k_with_none
  w_top off
  k_with "lt" => first | assumption | (refine Mine.Ar.pick (by assumption) ?_; intro hh; first | exact Mine.Ar.c1 hh | exact Mine.Ar.c2 hh | exact Mine.Ar.c3 hh | exact Mine.Ar.c4 hh | exact Mine.Ar.c5 hh | exact Mine.Ar.c6 hh | exact Mine.Ar.c7 hh | exact Mine.Ar.c8 hh | exact Mine.Ar.e2 hh | exact Mine.Ar.e3 hh | exact Mine.Ar.e4 hh | fail) | exact Mine.Ar.t1 | exact Mine.Ar.t2 | exact Mine.Ar.t3 | fail
  k_with "lt2" => first | k_extra "lt" | (refine Mine.Ar.s1 ?_; k_extra "lt") | (refine Mine.Ar.s2 ?_; k_extra "lt") | (refine Mine.Ar.s3 ?_; k_extra "lt") | fail
  k_with "omega" => with_reducible (first | assumption | decide +kernel | (refine Nat.ne_of_gt ?_; k_extra "lt2") | (refine Nat.ne_of_lt ?_; k_extra "lt2") | k_extra "lt2" | exact Mine.Ar.u1 | exact Mine.Ar.u2 | exact Mine.Ar.u3 | exact Mine.Ar.v1 | exact Mine.Ar.dp0 (by assumption) | exact Mine.Ar.dp1 (by assumption) (by decide) | exact Mine.Ar.dp2 (by assumption) (by decide) | exact Mine.Ar.ll (by assumption) (by decide) | exact Mine.Ar.l0 (by assumption) (by decide) | exact Mine.Ar.lm (by assumption) (by decide) | exact Mine.Ar.gn (by assumption) (by decide) | exact Mine.Ar.ci (by decide) | exact Mine.Ar.cz | exact Mine.Ar.li (by assumption) (by decide) | exact Mine.Ar.lj (by assumption) (by decide) | exact Mine.Ar.lk (by assumption) (by decide) | exact Mine.Ar.gi (by assumption) (by decide) | exact Mine.Ar.gj (by assumption) (by decide) | exact Mine.Ar.gk (by assumption) (by decide) | exact Mine.Ar.gl (by assumption) (by decide) | exact Mine.Ar.n0 (by assumption) | exact Mine.Ar.n1 (by assumption) (by decide) | exact Mine.Ar.m0 (by assumption) | exact Mine.Ar.m1 (by assumption) (by decide) | exact And.left (by assumption) | exact And.right (by assumption) | lia | fail)
  k_with "execs cons" => ((try first | (refine' canon ?H ?F ?e ?_; (case H => assumption); (case F => assumption); (case e => exact rfl); intro _) | (refine' canonD ?H ?F ?e ?_; (case H => assumption); (case F => assumption); (case e => exact rfl); intro _ _)); (try k_fold); refine wpAny_execs_cons ?_)
  k_with "eval Call" => k_fold
  k_with "pyIter ref" => refine hold_out ?_
  k_with "exec While BoolOp" => refine hold_out ?_
  k_with "exec While BoolOp cons nil" => refine hold_out ?_
  k_with "call ref" => ((with_reducible show wpAny _ _ (call (Value.ref 156) _) _ _ _); refine hold_out ?_)
  trivial
theorem saidx_ClassesF_0 : True := by
  k_with "call type:range" => ((rename Fr _ _ _ _ => Fq'); (rename News _ _ _ _ => Nq'); (with_unfolding_all refine range1_rows Fq' Nq' ?_); intro _ _ _ _ _ _ _ _ _)
  trivial
theorem said_ClassesF_1 : True := by
  k_with "InvEndG" => refine hold_out ?_
  k_with "InvPostG" => refine hold_out ?_
  k_with "WhileStep2" => refine hold_out ?_
  trivial
def ClsOk (ks : List (Int × Int × Int)) : Prop := ∀ c ∈ ks, (c.1 = 2 ∨ c.1 = 3 ∨ c.1 = 4 ∨ c.1 = 6 ∨ c.1 = 8 ∨ c.1 = 12) ∧ (0 ≤ c.2.1 ∧ c.2.1 < c.1) ∧ (c.2.2 = 1 ∨ c.2.2 = 5 ∨ c.2.2 = 7 ∨ c.2.2 = 11 ∨ c.2.2 = 13 ∨ c.2.2 = 17 ∨ c.2.2 = 19 ∨ c.2.2 = 23)
theorem size_bd {s : Int} (h : s = 2 ∨ s = 3 ∨ s = 4 ∨ s = 6 ∨ s = 8 ∨ s = 12) : 2 ≤ s ∧ s ≤ 12 := by
  rcases h with rfl | rfl | rfl | rfl | rfl | rfl <;> decide
theorem factor_bd {s : Int} (h : s = 1 ∨ s = 5 ∨ s = 7 ∨ s = 11 ∨ s = 13 ∨ s = 17 ∨ s = 19 ∨ s = 23) : 1 ≤ s ∧ s ≤ 23 := by
  rcases h with rfl | rfl | rfl | rfl | rfl | rfl | rfl | rfl <;> decide
theorem ClsOk.pos {ks : List (Int × Int × Int)} (h : ClsOk ks) : ∀ c ∈ ks, 2 ≤ c.1 ∧ c.1 ≤ 12 := fun c hc => size_bd (h c hc).1
theorem ClsOk.bd {ks : List (Int × Int × Int)} (h : ClsOk ks) {c : Int × Int × Int} (hc : c ∈ ks) : (2 ≤ c.1 ∧ c.1 ≤ 12) ∧ (0 ≤ c.2.1 ∧ c.2.1 < c.1) ∧ (1 ≤ c.2.2 ∧ c.2.2 ≤ 23) :=
  ⟨size_bd (h c hc).1, (h c hc).2.1, factor_bd (h c hc).2.2⟩
theorem menu_tab : ∀ n ∈ List.range 6, (fun y : Int => y = 2 ∨ y = 3 ∨ y = 4 ∨ y = 6 ∨ y = 8 ∨ y = 12) ([2, 3, 4, 6, 8, 12].getD n 0) := by decide
theorem menu_tab8 : ∀ n ∈ List.range 8, (fun y : Int => y = 1 ∨ y = 5 ∨ y = 7 ∨ y = 11 ∨ y = 13 ∨ y = 17 ∨ y = 19 ∨ y = 23) ([1, 5, 7, 11, 13, 17, 19, 23].getD n 0) := by decide
theorem fmod_in (x : Int) (n : Nat) (hn : (0 : Int) < n) : (x.fmod n).toNat ∈ List.range n :=
  List.mem_range.mpr ((Int.toNat_lt (Int.fmod_nonneg_of_pos x hn)).mpr (Int.fmod_lt_of_pos x hn))
theorem menu_size (x : Int) : (fun y : Int => y = 2 ∨ y = 3 ∨ y = 4 ∨ y = 6 ∨ y = 8 ∨ y = 12) ([2, 3, 4, 6, 8, 12].getD (x.fmod 6).toNat 0) := menu_tab _ (fmod_in x 6 (by decide))
theorem menu_factor (x : Int) : (fun y : Int => y = 1 ∨ y = 5 ∨ y = 7 ∨ y = 11 ∨ y = 13 ∨ y = 17 ∨ y = 19 ∨ y = 23) ([1, 5, 7, 11, 13, 17, 19, 23].getD (x.fmod 8).toNat 0) := menu_tab8 _ (fmod_in x 8 (by decide))
theorem map_same {m : Str → Option Value} {x : Str} {v : Value} (h : m x = some v) : m = fun z => if z = x then some v else m z := by
  funext z
  by_cases q : z = x
  · rw [if_pos q, q, h]
  · rw [if_neg q]
def ClsJ (D l : Addr) (oc : Obj) (news : Led) (m₀ : Str → Option Value) (i : Nat) (m : Str → Option Value) (nx : Led) : Prop :=
  ∃ (u : Str → Option Value) (its : List Value) (nn : Nat) (ks : List (Int × Int × Int)) (tl : Led), m = mapU [Str.ofString "k", Str.ofString "size", Str.ofString "factor", Str.ofString "place"] u m₀ ∧ nx = (D, listOf its.toArray nn) :: (l, oc) :: (tl ++ news) ∧ Trips tl its ks ∧ ClsOk ks ∧ ks.length = i ∧ (∀ p ∈ (l, oc) :: news, ∀ q ∈ tl, p.1 < q.1) ∧ (∀ q ∈ tl, D < q.1)
theorem cls_end {g' h'' : Heap} {L' D D' l : Addr} {oc : Obj} {news own tl : Led} {m₀ m' : Str → Option Value} {its : List Value} {nn n9 tk'' i : Nat} {ks : List (Int × Int × Int)} {a b e : Int} {t1 t2 t3 : Tok} {s₁ : Shared}
    (F : Fr g' L' h'' m') (N : News g' L' h'' ((D', ({ cls := .type "tuple", data := .seq #[.int a t1, .int b t2, .int e t3] n9 } : Obj)) :: (D, listOf (its ++ [Value.ref D']).toArray (nn + 1)) :: (l, oc) :: (tl ++ news ++ own)))
    (hm : ∀ z, [Str.ofString "k", Str.ofString "size", Str.ofString "factor", Str.ofString "place"].contains z = false → m' z = m₀ z)
    (htr : Trips tl its ks) (hok : ClsOk ks) (hlen : ks.length = i) (hap : ∀ p ∈ (l, oc) :: news, ∀ q ∈ tl, p.1 < q.1) (hap2 : ∀ q ∈ tl, D < q.1)
    (hc : (a = 2 ∨ a = 3 ∨ a = 4 ∨ a = 6 ∨ a = 8 ∨ a = 12) ∧ (0 ≤ b ∧ b < a) ∧ (e = 1 ∨ e = 5 ∨ e = 7 ∨ e = 11 ∨ e = 13 ∨ e = 17 ∨ e = 19 ∨ e = 23))
    (lt : ∀ p ∈ (D, listOf its.toArray nn) :: (l, oc) :: (tl ++ news) ++ own, p.1 < D') (hoff : OwnOff own (((D, listOf its.toArray nn) :: (l, oc) :: (tl ++ news)).map (·.1))) :
    InvEndG g' L' (ClsJ D l oc news m₀ (i + 1)) own s₁ { s₁ with heap := h'', toks := tk'' } := by
  refine InvEndG.intro (nx := (D, listOf (its ++ [Value.ref D']).toArray (nn + 1)) :: (l, oc) :: (((D', { cls := .type "tuple", data := .seq #[.int a t1, .int b t2, .int e t3] n9 }) :: tl) ++ news)) F N
    ⟨m', its ++ [Value.ref D'], nn + 1, ks ++ [(a, b, e)], (D', { cls := .type "tuple", data := .seq #[.int a t1, .int b t2, .int e t3] n9 }) :: tl, mapU_self hm, rfl, (htr.mono fun _ h => .tail _ h).snoc ⟨D', t1, t2, t3, n9, rfl, .head _⟩, ?_, by simp [hlen], ?_, ?_⟩ ?_ ?_ ?_
  · intro d hd
    rcases List.mem_append.mp hd with hd | hd
    · exact hok d hd
    · rw [List.mem_singleton.mp hd]; exact hc
  · intro p hp q hq
    rcases List.mem_cons.mp hq with rfl | hq
    · refine lt p ?_
      rcases List.mem_cons.mp hp with rfl | hp
      · simp
      · simp [hp]
    · exact hap p hp q hq
  · intro q hq
    rcases List.mem_cons.mp hq with rfl | hq
    · exact lt (D, _) (.head _)
    · exact hap2 q hq
  · intro p hp b9 hb
    simp only [List.cons_append, List.map_cons, List.map_append, List.mem_cons, List.mem_append] at hb
    rcases hb with rfl | rfl | rfl | hb
    · exact hoff p hp _ (by simp)
    · exact hoff p hp _ (by simp)
    · exact Nat.ne_of_lt (lt p (by simp [hp]))
    · exact hoff p hp b9 (by simp only [List.map_cons, List.map_append, List.mem_cons, List.mem_append]; exact .inr (.inr hb))
  · intro p hp
    simp only [List.cons_append, List.mem_cons, List.mem_append] at hp ⊢
    rcases hp with h | h | h | h | h <;> simp [h]
  · intro p hp
    simp only [List.mem_cons, List.mem_append]
    exact .inr (.inr (.inr (.inr hp)))
theorem same4 {m₀ : Str → Option Value} {a b c d : Option Value} {u : Str → Option Value} : ∀ z, [Str.ofString "k", Str.ofString "size", Str.ofString "factor", Str.ofString "place"].contains z = false →
    (fun y => if y = Str.ofString "place" then a else if y = Str.ofString "factor" then b else if y = Str.ofString "size" then c else if y = Str.ofString "k" then d else mapU [Str.ofString "k", Str.ofString "size", Str.ofString "factor", Str.ofString "place"] u m₀ y) z = m₀ z := by
  intro z hz
  have hz0 := hz
  simp only [List.contains_cons, List.contains_nil, Bool.or_false, Bool.or_eq_false_iff, beq_eq_false_iff_ne, ne_eq] at hz
  dsimp only
  rw [if_neg hz.2.2.2, if_neg hz.2.2.1, if_neg hz.2.1, if_neg hz.1]
  unfold mapU
  rw [hz0]
  rfl
theorem same5 {m₀ : Str → Option Value} {a' a b c d : Option Value} {u : Str → Option Value} : ∀ z, [Str.ofString "k", Str.ofString "size", Str.ofString "factor", Str.ofString "place"].contains z = false →
    (if z = Str.ofString "place" then a' else if z = Str.ofString "place" then a else if z = Str.ofString "factor" then b else if z = Str.ofString "size" then c else if z = Str.ofString "k" then d else mapU [Str.ofString "k", Str.ofString "size", Str.ofString "factor", Str.ofString "place"] u m₀ z) = m₀ z := by
  intro z hz
  have hz1 := hz
  simp only [List.contains_cons, List.contains_nil, Bool.or_false, Bool.or_eq_false_iff, beq_eq_false_iff_ne, ne_eq] at hz
  rw [if_neg hz.2.2.2]
  exact same4 z hz1
theorem place_step {P : Str} {x y : Value} {m₀ : Str → Option Value} : (fun z => if z = P then some x else (fun z => if z = P then some y else m₀ z) z) = fun z => if z = P then some x else m₀ z := by
  funext z
  dsimp only
  split <;> rfl
theorem mod_in {x y : Int} (h : 2 ≤ y) : 0 ≤ x.fmod y ∧ x.fmod y < y := ⟨Int.fmod_nonneg_of_pos _ (by omega), Int.fmod_lt_of_pos _ (by omega)⟩
theorem classes_does (w : World) (news : Led) (l : Addr) (cv : List Value) (cc : List Int) (cn9 : Nat) (hi : IntsAre cv cc) (hok : cc.length = 5) (hb : ∀ x ∈ cc, 1 ≤ x ∧ x ≤ 20000000) :
    Does w 9 90 163 ((l, listOf cv.toArray cn9) :: news) [.ref l] (fun r news' => ∃ D its nn ks tl, r = .ref D ∧ news' = (D, listOf its.toArray nn) :: (l, listOf cv.toArray cn9) :: (tl ++ news) ∧ Trips tl its ks ∧ ClsOk ks ∧ 3 ≤ ks.length ∧ ks.length ≤ 5 ∧ (∀ p ∈ (l, listOf cv.toArray cn9) :: news, p.1 < D ∧ ∀ q ∈ tl, p.1 < q.1)) := by
  unfold Does
  k_fill
  intro p loose mean mg mb dp un gd cn cs a ccd cl outer A₀ base h₀ L m s Q E B F X N T hk hd hu hret
  have HS : StB s := ⟨⟩
  refine wpAny_call ?_
  k_dflt (refine' code_def ?k1 ?k2 ?k3 ?k4 ?k5 ?kA ?kF ?kK ?k6 ?k7 ?k8 ?k9 ?kB ?_ ?c2 ?c3 ?c4 ?c5; (case kA => exact rfl); (case kF => exact rfl); (case kK => assumption); (case k1 => k_asm); (case k2 => k_asm); (case k3 => k_asm); (case k4 => k_asm); (case k5 => k_asm); (case k6 => k_is); (case k7 => k_is); (case k8 => ktr_room); (case k9 => exact BindsTo.of_eq rfl); (case c5 => decide); (case kB => exact locs rfl); (case c2 => exact rfl); (case c3 => exact rfl); (case c4 => exact rfl); k_whole; intro g' L' h' FG' F' N' B' X' T'; (try dsimp only); (try k_fold))
  refine wpAny_noRaise ?_
  have hvl := hi.length
  k_steps
  refine Hold.mk ?_
  rename_i D _ lD _ _ _ _ _ _ _ _ _ _ _ _ _ _ hr Fr' Nr _
  have hDD : l < D ∧ AllLt D news := lD
  obtain ⟨n, hn, h3, h5⟩ : ∃ n : Nat, 3 + (cc.sum + 1).fmod 3 = (n : Int) ∧ 3 ≤ n ∧ n ≤ 5 := by
    have h1 := Int.fmod_nonneg_of_pos (cc.sum + 1) (b := 3) (by decide)
    have h2 := Int.fmod_lt_of_pos (cc.sum + 1) (b := 3) (by decide)
    exact ⟨(3 + (cc.sum + 1).fmod 3).toNat, by omega, by omega, by omega⟩
  rw [hn] at hr
  k_dflt (refine rangeJ (n := n) (ClsJ D l (listOf cv.toArray cn9) news) (by rfl) hr (small_one (by omega) (by omega) (by omega) (by omega)) (by rw [rangeSize_nat]; omega) Fr' Nr ?z ?turn ?done)
  case z => exact ⟨_, [], 0, [], [], mapU_self (fun _ _ => rfl), rfl, Trips.nil, (fun _ h => nomatch h), rfl, (fun _ _ _ h => nomatch h), (fun _ h => nomatch h)⟩
  case turn =>
    rintro i t m₁ nx h tk own hi hoff ⟨u, its, nn, ks, tl, rfl, rfl, htr, hok, hlen, hap, hap2⟩ F₁ N₁
    have hpostD : ∀ p ∈ (l, listOf cv.toArray cn9) :: ((tl ++ news) ++ own), p.1 ≠ D := by
      intro p hp
      simp only [List.mem_cons, List.mem_append] at hp
      rcases hp with rfl | (hp | hp) | hp
      · exact Nat.ne_of_lt hDD.1
      · exact Nat.ne_of_gt (hap2 p hp)
      · exact Nat.ne_of_lt (ktn_ltOf hDD.2 p hp)
      · exact (own_cons hoff).1 p hp
    have hm6 := size_bd (menu_size (cc.getD (0 + (i : Int)).toNat 0))
    have hz6 : ([2, 3, 4, 6, 8, 12] : List Int).getD ((cc.getD (0 + (i : Int)).toNat 0).fmod 6).toNat 0 ≠ 0 := by omega
    k_steps
    · refine Hold.mk ?_
      rename News _ _ _ _ => Nw
      rename Fr _ _ _ _ => Fw
      have Nw2 : News _ _ _ ((D, listOf its.toArray nn) :: (l, listOf cv.toArray cn9) :: (tl ++ news) ++ own) := kst_newsOf Nw (fun p hp => .tail _ (.tail _ hp))
      clear Nw
      k_dflt (refine whileJ (fun m₀ k m nx => nx = (D, listOf its.toArray nn) :: (l, listOf cv.toArray cn9) :: (tl ++ news) ++ own ∧ ∃ (v : Int) (t : Tok), 0 ≤ v ∧ v ≤ 23 ∧ k = (23 - v).toNat ∧ m = fun z => if z = Str.ofString "place" then some (.int v t) else m₀ z) 23 Fw Nw2 ?z ?turn (by first | exact PassesOwn.never | passes_own))
      case z => exact ⟨rfl, 0, _, by decide, by decide, by decide, map_same rfl⟩
      case turn =>
        rintro n1 m1 nx1 h1 tk1 F1 N1 ⟨rfl, v, tv, hv0, hv1, hn1, rfl⟩
        k_steps
        · refine Hold.mk ?_
          k_dflt (refine' Does.use (held_does w _ D its nn ks ?m1 ?m2 ?m3 ?m4 v _) ?B ?F ?X ?N ?T ?hk ?hd ?hu ?ret; (case B => k_asm); (case F => k_asm); (case X => k_asm); (case N => exact N1); (case T => k_asm); (case hk => rfl); (case hd => ktr_room); (case hu => ktr_units))
          case m1 => exact .head _
          case m2 => exact htr.mono fun p hp => by simp [hp]
          case m3 => omega
          case m4 => exact hok.pos
          case ret =>
            rintro r9 news9 h9 tk9 F9 N9 ⟨rfl, t9, rfl⟩
            k_steps
            · refine Hold.mk ?_
              refine ⟨_, _, _, _, (23 - (v + 1)).toNat, rfl, by assumption, by assumption, by omega, rfl, v + 1, _, by omega, by omega, rfl, place_step⟩
            · rename_i D' _ FF NN lw
              refine app_led (pre := [(D', _)]) (post := (l, listOf cv.toArray cn9) :: ((tl ++ news) ++ own)) FF NN ?_ ?_ (by rw [htr.len]; omega) ?_
              · intro p hp; rw [List.mem_singleton.mp hp]; exact Nat.ne_of_gt (lw (D, _) (.head _))
              · exact hpostD
              · intro h9 F9 N9
                k_steps
                refine Hold.mk ?_
                exact cls_end F9 N9 (by intro z hz; have hz1 := hz; simp only [List.contains_cons, List.contains_nil, Bool.or_false, Bool.or_eq_false_iff, beq_eq_false_iff_ne, ne_eq] at hz1; simp [hz1, mapU]) htr hok hlen hap hap2 ⟨menu_size _, mod_in (by omega), menu_factor _⟩ lw hoff
        · rename_i D' _ FF NN lw
          refine app_led (pre := [(D', _)]) (post := (l, listOf cv.toArray cn9) :: ((tl ++ news) ++ own)) FF NN ?_ ?_ (by rw [htr.len]; omega) ?_
          · intro p hp; rw [List.mem_singleton.mp hp]; exact Nat.ne_of_gt (lw (D, _) (.head _))
          · exact hpostD
          · intro h9 F9 N9
            k_steps
            refine Hold.mk ?_
            exact cls_end F9 N9 (by intro z hz; have hz1 := hz; simp only [List.contains_cons, List.contains_nil, Bool.or_false, Bool.or_eq_false_iff, beq_eq_false_iff_ne, ne_eq] at hz1; simp [hz1, mapU]) htr hok hlen hap hap2 ⟨menu_size _, mod_in (by omega), menu_factor _⟩ lw hoff
    · rename_i D' _ FF NN lw
      refine app_led (pre := [(D', _)]) (post := (l, listOf cv.toArray cn9) :: ((tl ++ news) ++ own)) FF (kst_newsOf NN (by intro p hp; rcases List.mem_cons.mp hp with rfl | hp; exact .head _; exact .tail _ (.tail _ (.tail _ hp)))) ?_ ?_ (by rw [htr.len]; omega) ?_
      · intro p hp; rw [List.mem_singleton.mp hp]; exact Nat.ne_of_gt ((ktn_ltOf lw.2.2) (D, _) (.head _))
      · exact hpostD
      · intro h9 F9 N9
        k_steps
        refine Hold.mk ?_
        exact cls_end F9 N9 same4 htr hok hlen hap hap2 ⟨menu_size _, mod_in (by omega), menu_factor _⟩ (ktn_ltOf lw.2.2) hoff
  case done =>
    rintro m₁ nx h tk ⟨u, its, nn, ks, tl, rfl, rfl, htr, hok, hlen, hap, hap2⟩ F₁ N₁
    k_steps
    rename News h₀ _ _ _ => kN
    refine hret _ _ _ _ (by assumption) kN ⟨D, its, nn, ks, tl, rfl, rfl, htr, hok, by omega, by omega, fun p hp => ⟨?_, hap p hp⟩⟩
    · rcases List.mem_cons.mp hp with rfl | hp
      · exact hDD.1
      · exact ktn_ltOf hDD.2 p hp
end Mine

end
-- Lib4
section
open PySem PySem.W PySem.Spec PySem.Calls PyProof.Rows PyProof.Rows.LCg
set_option Elab.async false
set_option maxRecDepth 100000
set_option maxHeartbeats 4000000
namespace Mine
theorem said_Lib4_0 : True := by
  k_with_none
  w_top off
  k_with "lt" => first | assumption | (refine Mine.Ar.pick (by assumption) ?_; intro hh; first | exact Mine.Ar.c1 hh | exact Mine.Ar.c2 hh | exact Mine.Ar.c3 hh | exact Mine.Ar.c4 hh | exact Mine.Ar.c5 hh | exact Mine.Ar.c6 hh | exact Mine.Ar.c7 hh | exact Mine.Ar.c8 hh | exact Mine.Ar.e2 hh | exact Mine.Ar.e3 hh | exact Mine.Ar.e4 hh | fail) | exact Mine.Ar.t1 | exact Mine.Ar.t2 | exact Mine.Ar.t3 | fail
  k_with "lt2" => first | k_extra "lt" | (refine Mine.Ar.s1 ?_; k_extra "lt") | (refine Mine.Ar.s2 ?_; k_extra "lt") | (refine Mine.Ar.s3 ?_; k_extra "lt") | fail
  k_with "omega" => with_reducible (first | assumption | decide +kernel | (refine Nat.ne_of_gt ?_; k_extra "lt2") | (refine Nat.ne_of_lt ?_; k_extra "lt2") | k_extra "lt2" | exact Mine.Ar.u1 | exact Mine.Ar.u2 | exact Mine.Ar.u3 | exact Mine.Ar.v1 | exact Mine.Ar.dp0 (by assumption) | exact Mine.Ar.dp1 (by assumption) (by decide) | exact Mine.Ar.dp2 (by assumption) (by decide) | exact Mine.Ar.ll (by assumption) (by decide) | exact Mine.Ar.l0 (by assumption) (by decide) | exact Mine.Ar.lm (by assumption) (by decide) | exact Mine.Ar.gn (by assumption) (by decide) | exact Mine.Ar.ci (by decide) | exact Mine.Ar.cz | exact Mine.Ar.li (by assumption) (by decide) | exact Mine.Ar.lj (by assumption) (by decide) | exact Mine.Ar.lk (by assumption) (by decide) | exact Mine.Ar.gi (by assumption) (by decide) | exact Mine.Ar.gj (by assumption) (by decide) | exact Mine.Ar.gk (by assumption) (by decide) | exact Mine.Ar.gl (by assumption) (by decide) | exact Mine.Ar.n0 (by assumption) | exact Mine.Ar.n1 (by assumption) (by decide) | exact Mine.Ar.m0 (by assumption) | exact Mine.Ar.m1 (by assumption) (by decide) | exact And.left (by assumption) | exact And.right (by assumption) | lia | fail)
  trivial
section
variable {prog : Program} {w : World} {A : Around} {E : Value → Shared → Prop} {s : Shared} {h₀ : Heap} {m : Str → Option Value} {env : Env}

/-- the same, the names' stores left open -/
theorem for3g {iter : Expr} {x₁ x₂ x₃ : Str} {p₁ p₂ p₃ tp : Pos} {kk : Nat} {pos : Pos} {body : List Stmt} {Q : Flow → Shared → Prop}
    {l : Addr} {its : List Value} {nn : Nat} {cs : List (Int × Int × Int)} {news : Led} (J : (Str → Option Value) → Nat → (Str → Option Value) → Led → Prop) (_F : Fr h₀ env.locals s.heap m) (_N : News h₀ env.locals s.heap news)
    (hh : A.handled = none)
    (hJl : ∀ i m' nx, J m i m' nx → (l, listOf its.toArray nn) ∈ nx ∧ Trips nx its cs)
    (h : wpAny (model prog w) A (eval iter env) (fun xv s₁ => xv = .ref l ∧ ∃ g tk, s₁ = { s with heap := g, toks := tk } ∧ Fr h₀ env.locals g m ∧ News h₀ env.locals g news) E s)
    (hJ : J m 0 m news)
    (turn : ∀ (i : Nat) c t1 t2 t3 m₁ nx I oI g tk, cs[i]? = some c → J m i m₁ nx → (∀ p ∈ nx, p.1 ≠ I) → (∀ p ∈ news, p.1 < I) →
      Fr h₀ env.locals g m₁ → News h₀ env.locals g ((I, oI) :: nx) →
      wpAny (model prog w) A (assignInOrder ((assignEach [.Name x₁ p₁, .Name x₂ p₂, .Name x₃ p₃] env).map (·.2)) [.int c.1 t1, .int c.2.1 t2, .int c.2.2 t3]) (fun _ s₂ => wpAny (model prog w) A (execs body env) (TPost h₀ env.locals (J m (i + 1)) I oI { s with heap := g, toks := tk } Q) E s₂) E { s with heap := g, toks := tk })
    (done : ∀ m₁ nx g tk, J m cs.length m₁ nx → Fr h₀ env.locals g m₁ → News h₀ env.locals g nx → Q .next { s with heap := g, toks := tk })
    (hE : PassesOwn (model prog w) A env E)
    (hs : ∀ x, foldedSetIterable iter env x = pure x := by intro _; rfl) :
    wpAny (model prog w) A (exec (.For (.Tuple [.Name x₁ p₁, .Name x₂ p₂, .Name x₃ p₃] kk tp) iter body [] pos) env) Q E s := by
  refine wpAny_For (wpAny_mono h (fun xv s₁ h₁ => ?_) fun _ _ e => e) hs
  obtain ⟨rfl, g, tk, rfl, F, N⟩ := h₁
  obtain ⟨hl, hc⟩ := hJl 0 m news hJ
  have hlo : g.get? l = some (listOf its.toArray nn) := (N _ hl).1
  have hls : g.IsList l its.toArray := ⟨_, hlo, rfl, nn, rfl⟩
  refine wpAny_pyIter_list hls ?_
  have hIo : (g.push { cls := .type "list_iterator", data := .fields #[.ref l, .int 0 0] }).get? g.objs.size = some { cls := .type "list_iterator", data := .fields #[.ref l, .int 0 0] } := Heap.get?_push_size _ rfl
  have hIL : env.locals ≠ g.objs.size := Nat.ne_of_lt F.ns.lt
  have hI₀ : h₀.get? g.objs.size = none := next_is_new F
  have hlt : ∀ p ∈ news, p.1 < g.objs.size := fun p hp => Heap.lt_size (N p hp).1
  have F1 := F.push { cls := .type "list_iterator", data := .fields #[.ref l, .int 0 0] }
  have N1 : News h₀ env.locals (g.push { cls := .type "list_iterator", data := .fields #[.ref l, .int 0 0] }) news := fun p hp => ⟨Heap.get?_push_of_some _ (N p hp).1, (N p hp).2⟩
  generalize g.push { cls := .type "list_iterator", data := .fields #[.ref l, .int 0 0] } = H at hIo F1 N1 ⊢
  generalize g.objs.size = I at *
  refine codeAny_forLoop_any
    (fun k s' => ∃ h' tk m' nx i, s' = { s with heap := h', toks := tk } ∧ h'.IsListIter I l i ∧ Fr h₀ env.locals h' m' ∧ News h₀ env.locals h' nx ∧ (∀ p ∈ nx, p.1 ≠ I) ∧ J m i m' nx ∧ i ≤ cs.length ∧ k = cs.length + 1 - i) ?_ (cs.length + 1)
    ⟨H, tk, m, news, 0, rfl, ⟨_, hIo, rfl, rfl⟩, F1, N1, fun p hp => Nat.ne_of_lt (hlt p hp), hJ, Nat.zero_le _, rfl⟩
  rintro k s' ⟨h', tk', m', nx, i, rfl, hLi, F', N', hne, hJ', hi, rfl⟩
  obtain ⟨hl', hc'⟩ := hJl i m' nx hJ'
  have hl2 : h'.IsList l its.toArray := ⟨_, (N' _ hl').1, rfl, nn, rfl⟩
  by_cases hlt' : i < cs.length
  · obtain ⟨c, hci⟩ : ∃ c, cs[i]? = some c := ⟨_, List.getElem?_eq_getElem hlt'⟩
    obtain ⟨v, hvi, t, t1, t2, t3, nt, rfl, hmt⟩ := hc'.get i c hci
    refine wpAny_pyNext_list_item hLi hl2 (x := .ref t) (by simpa using hvi) fun h₂ hLi₂ hs₂ => ?_
    have N₂ : News h₀ env.locals h₂ nx := fun p hp => ⟨hs₂.extBut _ _ (hne p hp) (N' p hp).1, (N' p hp).2⟩
    have ht : IsTup h₂ t #[.int c.1 t1, .int c.2.1 t2, .int c.2.2 t3] := ⟨_, (N₂ _ hmt).1, rfl, nt, rfl⟩
    refine wpAny_letOwnedTupleGo_listiter hLi₂ ?_
    refine assign_Tuple_tuple hh ht rfl rfl fun h₅ he => ?_
    have he' : ∀ b o, h₂.get? b = some o → h₅.get? b = some o := fun b o e => he b o (Nat.ne_of_lt (Heap.lt_size e)) e
    have F₂ : Fr h₀ env.locals h₅ m' := (F'.change hs₂ (Ne.symm hIL) hI₀).keeps he'
    have N₅ : News h₀ env.locals h₅ nx := fun p hp => ⟨he' _ _ (N₂ p hp).1, (N₂ p hp).2⟩
    obtain ⟨oI₂, hoI₂, hcI, hdI⟩ := hLi₂
    have hI₅ := he' _ _ hoI₂
    have N₉ : News h₀ env.locals h₅ ((I, oI₂) :: nx) := fun p hp => by
      rcases List.mem_cons.mp hp with rfl | hp
      · exact ⟨hI₅, Ne.symm hIL, hI₀⟩
      · exact N₅ p hp
    refine wpAny_mono (turn i c t1 t2 t3 m' nx I oI₂ h₅ _ hci hJ' hne hlt F₂ N₉) (fun _ s₂ q₂ => wpAny_mono q₂ (fun f s₃ h₃ => ?_) fun e s' q => hE e s' q) fun e s' q => hE e s' q
    have fin : TEnd h₀ env.locals (J m (i + 1)) I oI₂ { s with heap := h₅, toks := tk' } s₃ → ∃ k, k < cs.length + 1 - i ∧ ∃ h' tk m' nx i, s₃ = { s with heap := h', toks := tk } ∧ h'.IsListIter I l i ∧ Fr h₀ env.locals h' m' ∧ News h₀ env.locals h' nx ∧ (∀ p ∈ nx, p.1 ≠ I) ∧ J m i m' nx ∧ i ≤ cs.length ∧ k = cs.length + 1 - i := by
      rintro ⟨g', tk₉, m₉, nx₉, rfl, F₉, N₁₀, hne₉, hJ₉⟩
      exact ⟨cs.length + 1 - (i + 1), by omega, g', tk₉, m₉, nx₉, i + 1, rfl, ⟨_, (N₁₀ _ (.head _)).1, hcI, hdI⟩, F₉, fun p hp => N₁₀ p (.tail _ hp), hne₉, hJ₉, hlt', rfl⟩
    cases f with
    | ret v => exact h₃
    | brk => exact h₃
    | next => exact fin h₃
    | cont => exact fin h₃
  · obtain rfl : i = cs.length := Nat.le_antisymm hi (Nat.not_lt.mp hlt')
    refine wpAny_pyNext_list_end hh hLi hl2 (by simp [hc.len]) fun h₂ he₂ => ?_
    have F₂ : Fr h₀ env.locals h₂ m' := ⟨F'.ns.at' fun o e => he₂ _ o hIL e, fun b o e => he₂ b o (fun q => by rw [q, hI₀] at e; cases e) (F'.keep b o e), F'.above⟩
    have N₂ : News h₀ env.locals h₂ nx := fun p hp => ⟨he₂ _ _ (hne p hp) (N' p hp).1, (N' p hp).2⟩
    exact wpAny_execs_nil (done m' nx h₂ _ hJ' F₂ N₂)
end

/-- a cell's store, the cell among the ledger -/
theorem store_cell {M : Model} {A : Around} {E : Value → Shared → Prop} {s : Shared} {h₀ : Heap} {L a c : Addr} {m : Str → Option Value} {cn : Str} {cs : Scope} {ccd : Value} {cl : List (Str × Addr)} {x : Str} {v : Value} {v₀ : Option Value} {o : Obj} {pre post : Led} {Q : Unit → Shared → Prop}
    (F : Fr h₀ L s.heap m) (N : News h₀ L s.heap (pre ++ (c, o) :: post)) (hpre : ∀ p ∈ pre, p.1 ≠ c) (hpost : ∀ p ∈ post, p.1 ≠ c) (hc : cl.lookup x = some c) (hd : o.data = .cell v₀)
    (hk : cs.kind = .function) (hx : (envX cn cs L a ccd cl).kindOf x = some .cell)
    (h : ∀ h' o', Fr h₀ L h' m → News h₀ L h' (pre ++ (c, o') :: post) → o'.data = .cell (some v) → Q () { s with heap := h' }) : wpAny M A (storeName (envX cn cs L a ccd cl) x v) Q E s := by
  have hm := N (c, o) (List.mem_append_right _ (.head _))
  refine wpAny_storeName_cell hk hx hc ⟨o, hm.1, hd⟩ fun h' hv hs => ?_
  obtain ⟨o', ho', hd'⟩ := hv
  refine h h' o' (F.change hs hm.2.1 hm.2.2) (fun p hp => ?_) hd'
  rcases List.mem_append.mp hp with hp | hp
  · exact ⟨hs.extBut _ _ (hpre p hp) (N p (List.mem_append_left _ hp)).1, (N p (List.mem_append_left _ hp)).2⟩
  · rcases List.mem_cons.mp hp with rfl | hp
    · exact ⟨ho', hm.2⟩
    · exact ⟨hs.extBut _ _ (hpost p hp) (N p (List.mem_append_right _ (.tail _ hp))).1, (N p (List.mem_append_right _ (.tail _ hp))).2⟩

section
variable {prog : Program} {w : World} {A : Around} {E : Value → Shared → Prop} {s : Shared} {h₀ : Heap} {L : Addr} {m : Str → Option Value} {env : Env}
theorem cend_of {s₁ s₂ : Shared} {I C D : Addr} {oI oC oD : Obj} {news : Led} {S : Led → Prop} {rest : Value → Led → Prop} {y : Value} (off : Off3 I C D news) (hS : S news)
    (h : CEnd h₀ L m s₁ ((I, oI) :: (C, oC) :: (D, oD) :: news) (rest y news) s₂) : CompEnd h₀ L m s₁ I oI C oC D oD S rest y s₂ := by
  obtain ⟨h', tk, rfl, F, N, p⟩ := h
  exact ⟨h', tk, news, rfl, F, N, off, hS, p⟩

/-- a comprehension's turns (one name, no test): by J -/
theorem crest {elt : Expr} {x : Str} {scope : Scope} {cl : List (Str × Addr)} {S : Led → Prop} {P : Nat → Value → Prop} {Fin : List Value → Led → Prop} {n : Nat} {news : Led} (J : Nat → List Value → Prop) (hS : S news)
    (turn : ∀ i v ys I oI C oC D m₂ h tk (E' : Value → Shared → Prop), i < n → P i v → J i ys → NsObj oC m₂ → m₂ x = some v → Fr h₀ L h m → News h₀ L h ((I, oI) :: (C, oC) :: (D, lst ys) :: news) → Off3 I C D news → ((@Ne Nat I C) ∧ (@Ne Nat I D) ∧ (@Ne Nat C D)) →
      wpAny (model prog w) A (eval elt (compEnvC scope cl C env)) (fun y s₂ => CEnd h₀ L m { s with heap := h, toks := tk } ((I, oI) :: (C, oC) :: (D, lst ys) :: news) (J (i + 1) (ys ++ [y])) s₂) E' { s with heap := h, toks := tk })
    (fin : ∀ ys, J n ys → Fin ys news) : ∀ k i ys, i + k = n → J i ys → CompRest prog w A h₀ L m env elt x scope cl s S P Fin k i ys news
  | 0, i, ys, e, hJ => CompRest.zero (fin ys (by rw [← e]; exact hJ))
  | k + 1, i, ys, e, hJ => CompRest.succ fun v I oI C oC D m₂ h tk E' hP hC hx F N off ne =>
      wpAny_mono (turn i v ys I oI C oC D m₂ h tk E' (by omega) hP hJ hC hx F N off ne) (fun y s₂ q => cend_of off hS (by
        obtain ⟨h', tk', rfl, F', N', p⟩ := q
        exact ⟨h', tk', rfl, F', N', crest J hS turn fin k (i + 1) _ (by omega) p⟩)) fun _ _ q => q

/-- the same with a test -/
theorem crestT {ct elt : Expr} {x : Str} {scope : Scope} {cl : List (Str × Addr)} {S : Led → Prop} {P : Nat → Value → Prop} {Fin : List Value → Led → Prop} {n : Nat} {news : Led} (J : Nat → List Value → Prop) (hS : S news)
    (turn : ∀ i v ys I oI C oC D m₂ h tk (E' : Value → Shared → Prop), i < n → P i v → J i ys → NsObj oC m₂ → m₂ x = some v → Fr h₀ L h m → News h₀ L h ((I, oI) :: (C, oC) :: (D, lst ys) :: news) → Off3 I C D news → ((@Ne Nat I C) ∧ (@Ne Nat I D) ∧ (@Ne Nat C D)) →
      wpAny (model prog w) A (isTrue ct (compEnvC scope cl C env) (eval ct (compEnvC scope cl C env))) (fun ok s' => if ok = true then
        wpAny (model prog w) A (eval elt (compEnvC scope cl C env)) (fun y s₂ => CEnd h₀ L m { s with heap := h, toks := tk } ((I, oI) :: (C, oC) :: (D, lst ys) :: news) (J (i + 1) (ys ++ [y])) s₂) E' s'
        else CEnd h₀ L m { s with heap := h, toks := tk } ((I, oI) :: (C, oC) :: (D, lst ys) :: news) (J (i + 1) ys) s') E' { s with heap := h, toks := tk })
    (fin : ∀ ys, J n ys → Fin ys news) : ∀ k i ys, i + k = n → J i ys → LCt.CompRestT prog w A h₀ L m env ct elt x scope cl s S P Fin k i ys news
  | 0, i, ys, e, hJ => LCt.CompRestT.zero (fin ys (by rw [← e]; exact hJ))
  | k + 1, i, ys, e, hJ => LCt.CompRestT.succ fun v I oI C oC D m₂ h tk E' hP hC hx F N off ne =>
      wpAny_mono (turn i v ys I oI C oC D m₂ h tk E' (by omega) hP hJ hC hx F N off ne) (fun ok s' q => by
        cases ok with
        | true =>
          simp only [if_true] at q ⊢
          refine wpAny_mono q (fun y s₂ q => cend_of off hS ?_) fun _ _ q => q
          obtain ⟨h', tk', rfl, F', N', p⟩ := q
          exact ⟨h', tk', rfl, F', N', crestT J hS turn fin k (i + 1) _ (by omega) p⟩
        | false =>
          simp only [Bool.false_eq_true, if_false] at q ⊢
          obtain ⟨h', tk', rfl, F', N', p⟩ := q
          exact cend_of off hS ⟨h', tk', rfl, F', N', crestT J hS turn fin k (i + 1) _ (by omega) p⟩) fun _ _ q => q
end
end Mine

end
-- SumsF
section
open PySem PySem.W PySem.Spec PySem.Calls PyProof.Rows
set_option Elab.async false
set_option pp.maxSteps 3000
set_option pp.deepTerms false
set_option pp.deepTerms.threshold 6
set_option maxRecDepth 100000
set_option maxHeartbeats 2000000
namespace Mine
theorem said_SumsF_0 : True := by
  k_with_none
  w_top off
  k_with "lt" => first | assumption | (refine Mine.Ar.pick (by assumption) ?_; intro hh; first | exact Mine.Ar.c1 hh | exact Mine.Ar.c2 hh | exact Mine.Ar.c3 hh | exact Mine.Ar.c4 hh | exact Mine.Ar.c5 hh | exact Mine.Ar.c6 hh | exact Mine.Ar.c7 hh | exact Mine.Ar.c8 hh | exact Mine.Ar.e2 hh | exact Mine.Ar.e3 hh | exact Mine.Ar.e4 hh | fail) | exact Mine.Ar.t1 | exact Mine.Ar.t2 | exact Mine.Ar.t3 | fail
  k_with "lt2" => first | k_extra "lt" | (refine Mine.Ar.s1 ?_; k_extra "lt") | (refine Mine.Ar.s2 ?_; k_extra "lt") | (refine Mine.Ar.s3 ?_; k_extra "lt") | fail
  k_with "omega" => with_reducible (first | assumption | decide +kernel | (refine Nat.ne_of_gt ?_; k_extra "lt2") | (refine Nat.ne_of_lt ?_; k_extra "lt2") | k_extra "lt2" | exact Mine.Ar.u1 | exact Mine.Ar.u2 | exact Mine.Ar.u3 | exact Mine.Ar.v1 | exact Mine.Ar.dp0 (by assumption) | exact Mine.Ar.dp1 (by assumption) (by decide) | exact Mine.Ar.dp2 (by assumption) (by decide) | exact Mine.Ar.ll (by assumption) (by decide) | exact Mine.Ar.l0 (by assumption) (by decide) | exact Mine.Ar.lm (by assumption) (by decide) | exact Mine.Ar.gn (by assumption) (by decide) | exact Mine.Ar.ci (by decide) | exact Mine.Ar.cz | exact Mine.Ar.li (by assumption) (by decide) | exact Mine.Ar.lj (by assumption) (by decide) | exact Mine.Ar.lk (by assumption) (by decide) | exact Mine.Ar.gi (by assumption) (by decide) | exact Mine.Ar.gj (by assumption) (by decide) | exact Mine.Ar.gk (by assumption) (by decide) | exact Mine.Ar.gl (by assumption) (by decide) | exact Mine.Ar.n0 (by assumption) | exact Mine.Ar.n1 (by assumption) (by decide) | exact Mine.Ar.m0 (by assumption) | exact Mine.Ar.m1 (by assumption) (by decide) | exact And.left (by assumption) | exact And.right (by assumption) | fail)
  k_with "mem" => with_reducible (first | exact List.mem_cons_self | exact Mine.Ar.g1 | exact Mine.Ar.g2 | exact Mine.Ar.g3 | exact Mine.Ar.g4 | exact Mine.Ar.g5 | exact Mine.Ar.g6 | exact Mine.Ar.g7 | exact Mine.Ar.g8 | exact Mine.Ar.g9 | assumption | (refine List.mem_cons_of_mem _ ?_; k_extra "mem") | (refine List.mem_append_right _ ?_; k_extra "mem") | (refine List.mem_append_left _ ?_; k_extra "mem") | fail)
  k_with "sub" => with_reducible (first | exact Mine.Ar.Sub.nil | exact Mine.Ar.Sub.refl | exact Mine.Ar.Sub.t1 Mine.Ar.Sub.refl | exact Mine.Ar.Sub.t2 Mine.Ar.Sub.refl | exact Mine.Ar.Sub.t3 Mine.Ar.Sub.refl | exact Mine.Ar.Sub.t4 Mine.Ar.Sub.refl | exact Mine.Ar.Sub.t5 Mine.Ar.Sub.refl | exact Mine.Ar.Sub.t6 Mine.Ar.Sub.refl | exact Mine.Ar.Sub.t7 Mine.Ar.Sub.refl | exact Mine.Ar.Sub.t8 Mine.Ar.Sub.refl | exact Mine.Ar.Sub.t9 Mine.Ar.Sub.refl | (refine Mine.Ar.Sub.cons ?_ ?_; k_extra "mem"; k_extra "sub") | (refine Mine.Ar.Sub.app ?_ ?_; k_extra "sub"; k_extra "sub") | (refine Mine.Ar.Sub.t1 ?_; k_extra "sub") | (refine Mine.Ar.Sub.inr ?_; k_extra "sub") | (refine Mine.Ar.Sub.inl ?_; k_extra "sub") | fail)
  k_with "execs cons" => ((try first | (refine' canon ?H ?F ?e ?_; (case H => assumption); (case F => assumption); (case e => exact rfl); intro _) | (refine' canonD ?H ?F ?e ?_; (case H => assumption); (case F => assumption); (case e => exact rfl); intro _ _)); (try k_fold); refine wpAny_execs_cons ?_)
  k_with "eval Call" => k_fold
  k_with "exec For Tuple Name cons nil" => refine hold_out ?_
  k_with "eval ListComp" => refine hold_out ?_
  k_with "InvEndG" => refine hold_out ?_
  k_with "InvPostG" => refine hold_out ?_
  k_with "TPost" => refine hold_out ?_
  k_with "CEnd" => refine hold_out ?_
  k_with "TEnd" => refine hold_out ?_
  trivial
def sumF (c : Int × Int × Int) (o : Int) : Int := (o + c.2.2 * Int.fdiv 24 c.1).fmod 24
def sumsL (ks : List (Int × Int × Int)) : List Int := ks.foldl (fun s c => s ++ s.map (sumF c)) [0]
theorem sums_take {ks : List (Int × Int × Int)} {i : Nat} {c : Int × Int × Int} (h : ks[i]? = some c) : sumsL (ks.take (i + 1)) = sumsL (ks.take i) ++ (sumsL (ks.take i)).map (sumF c) := by
  have hs : ks.take (i + 1) = ks.take i ++ [c] := by simp [List.take_add_one, h]
  unfold sumsL
  rw [hs, List.foldl_append]
  rfl
theorem sumsL_len (ks : List (Int × Int × Int)) : (sumsL ks).length = 2 ^ ks.length := by
  have : ∀ (ks : List (Int × Int × Int)) (s : List Int), (ks.foldl (fun s c => s ++ s.map (sumF c)) s).length = s.length * 2 ^ ks.length := by
    intro ks
    induction ks with
    | nil => intro s; simp
    | cons c r ih =>
      intro s
      rw [List.foldl_cons, ih, List.length_append, List.length_map, List.length_cons, Nat.pow_succ, Nat.mul_comm (2 ^ r.length) 2, ← Nat.mul_assoc]
      congr 1
      omega
  unfold sumsL
  rw [this]
  simp
theorem map_start {st : List Str} {m : Str → Option Value} {x : Str} {v : Value} (h : m x = some v) : m = fun z => if z = x then some v else mapU st m m z := by
  funext z
  by_cases q : z = x
  · rw [if_pos q, q, h]
  · rw [if_neg q]
    unfold mapU
    split <;> rfl
theorem map_next {st : List Str} {m' m₀ : Str → Option Value} {x : Str} {v : Value} (h : m' x = some v) (h2 : ∀ z, z ≠ x → st.contains z = false → m' z = m₀ z) : m' = fun z => if z = x then some v else mapU st m' m₀ z := by
  funext z
  by_cases q : z = x
  · rw [if_pos q, q, h]
  · rw [if_neg q]
    unfold mapU
    cases q2 : st.contains z with
    | true => simp
    | false => simp [h2 z q q2]
def SumsJ (cF cS : Addr) (news : Led) (ks : List (Int × Int × Int)) (m₀ : Str → Option Value) (i : Nat) (m : Str → Option Value) (nx : Led) : Prop :=
  ∃ (u : Str → Option Value) (S : Addr) (sv : List Value) (sn : Nat) (oF oS : Obj), m = (fun z => if z = Str.ofString "sums" then some (.ref S) else mapU [Str.ofString "place"] u m₀ z) ∧
    nx = (S, listOf sv.toArray sn) :: (cF, oF) :: (cS, oS) :: news ∧ IntsAre sv (sumsL (ks.take i)) ∧ (∃ v, oF.data = .cell v) ∧ (∃ v, oS.data = .cell v) ∧ cF < S ∧ ∀ p ∈ news, p.1 < S
theorem sums_does (w : World) (news : Led) (l : Addr) (its : List Value) (nn : Nat) (ks : List (Int × Int × Int)) (hl : (l, listOf its.toArray nn) ∈ news) (hc : Trips news its ks) (hlen : ks.length ≤ 5) (hok : ClsOk ks) :
    Does w 3 40 173 news [.ref l] (fun r news' => ∃ S sv sn, r = .ref S ∧ news' = (S, listOf sv.toArray sn) :: news ∧ IntsAre sv (sumsL ks) ∧ ∀ p ∈ news, p.1 < S) := by
  unfold Does
  k_fill
  intro p loose mean mg mb dp un gd cn cs a ccd cl outer A₀ base h₀ L m s Q E B F X N T hk hd hu hret
  have HS : StB s := ⟨⟩
  refine wpAny_call ?_
  k_dflt (refine' code_defC ?k1 ?k2 ?k3 ?k4 ?k5 ?kA ?kF ?kK ?k6 ?k7 ?k8 ?k9 ?kB ?kD ?_ ?c2 ?c3 ?c4; (case kA => exact rfl); (case kF => exact rfl); (case kK => assumption); (case k1 => k_asm); (case k2 => k_asm); (case k3 => k_asm); (case k4 => k_asm); (case k5 => k_asm); (case k6 => k_is); (case k7 => k_is); (case k8 => ktr_room); (case k9 => exact BindsTo.of_eq rfl); (case kB => exact rfl); (case kD => decide +kernel); (case c2 => exact rfl); (case c3 => exact rfl); (case c4 => exact rfl); k_whole; intro g' L' h' tk' cells' FG' F' N' Y' B' X' T' l1; k_cells Y'; (try simp only [List.cons_append, List.nil_append] at N'); (try dsimp only); (try k_fold))
  refine wpAny_noRaise ?_
  k_steps
  refine Hold.mk ?_
  rename_i oF oS dF dS _ S _ lS _ F0 N0 _
  have hcF : (∃ v, oF.data = .cell v) := ⟨_, dF⟩
  have hcS : (∃ v, oS.data = .cell v) := ⟨_, dS⟩
  clear dF dS
  k_dflt (refine for3g (l := l) (its := its) (nn := nn) (cs := ks) (SumsJ (L' + 1 + 1) (L' + 1) news ks) F0 N0 (by rfl) ?hJl ?iter ?z ?turn ?done (by first | exact PassesOwn.never | passes_own))
  case hJl =>
    rintro i m' nx ⟨u, S, sv, sn, oF, oS, rfl, rfl, _⟩
    exact ⟨.tail _ (.tail _ (.tail _ hl)), hc.mono fun p hp => .tail _ (.tail _ (.tail _ hp))⟩
  case iter =>
    walk1
    exact ⟨rfl, _, _, rfl, by assumption, by assumption⟩
  case z =>
    refine ⟨_, S, _, 0, oF, oS, map_start rfl, rfl, (.cons _ _ .nil), hcF, hcS, lS.1, fun p hp => ktn_ltOf lS.2.2 p hp⟩
  case turn =>
    rintro i c t1 t2 t3 m₁ nx I oI g tk hci ⟨u, S, sv, sn, oF, oS, rfl, rfl, hI, ⟨vF, dF⟩, ⟨vS, dS⟩, hlS, hltS⟩ hne hltI F1 N1
    have hsep : ∀ p ∈ news, p.1 ≠ L' + 1 ∧ p.1 ≠ L' + 1 + 1 := fun p hp => by
      have : @LT.lt Nat _ p.1 L' := l1 p hp
      exact ⟨Nat.ne_of_lt (Nat.lt_succ_of_lt this), Nat.ne_of_lt (Nat.lt_succ_of_lt (Nat.lt_succ_of_lt this))⟩
    have hI1 : @LT.lt Nat _ (L' + 1 + 1) I := hltI (L' + 1 + 1, _) (.tail _ (.head _))
    have hS1 : @LT.lt Nat _ (L' + 1 + 1) S := hlS
    refine assignInOrder_cons (wpAny_assign_Name ?_)
    k_dflt (refine store_cell (pre := [(I, oI), (S, listOf sv.toArray sn), (L' + 1 + 1, oF)]) (post := news) (c := L' + 1) (o := oS) F1 N1 ?_ ?_ (by rfl) dS (by rfl) (by rfl) ?_)
    · intro p hp
      revert hp; revert p
      refine Mine.Ar.all_cons ?_ (Mine.Ar.all_cons ?_ (Mine.Ar.all_cons ?_ (Mine.Ar.all_nil)))
      · exact Nat.ne_of_gt (Nat.lt_trans (Nat.lt_succ_self _) hI1)
      · exact Nat.ne_of_gt (Nat.lt_trans (Nat.lt_succ_self _) hS1)
      · exact Nat.ne_of_gt (Nat.lt_succ_self _)
    · exact fun p hp => (hsep p hp).1
    intro g1 oS' F2 N2 dS'
    refine assignInOrder_cons (wpAny_assign_Name ?_)
    k_dflt (refine wpAny_storeName_local (by rfl) F2.ns (fun g2 hn2 hs2 => ?_) (by rfl))
    have F3 := F2.set hn2 hs2
    have N3 := N2.set hs2
    refine assignInOrder_cons (wpAny_assign_Name ?_)
    k_dflt (refine store_cell (pre := [(I, oI), (S, listOf sv.toArray sn)]) (post := (L' + 1, oS') :: news) (c := L' + 1 + 1) (o := oF) F3 N3 ?_ ?_ (by rfl) dF (by rfl) (by rfl) ?_)
    · intro p hp
      revert hp; revert p
      refine Mine.Ar.all_cons ?_ (Mine.Ar.all_cons ?_ (Mine.Ar.all_nil))
      · exact Nat.ne_of_gt hI1
      · exact Nat.ne_of_gt hS1
    · intro p hp
      rcases List.mem_cons.mp hp with rfl | hp
      · exact Nat.ne_of_lt (Nat.lt_succ_self _)
      · exact (hsep p hp).2
    intro g3 oF' F4 N4 dF'
    refine assignInOrder_nil ?_
    clear F1 F2 F3 N1 N2 N3 hn2 hs2
    k_steps
    refine Hold.mk ?_
    rename News _ _ _ _ => N5
    rename Fr g' _ _ _ => F5
    have hcm := List.mem_of_getElem? hci
    have hcb := hok.bd hcm
    have hf24 : 0 ≤ Int.fdiv 24 c.1 ∧ Int.fdiv 24 c.1 ≤ 12 := by
      rcases (hok c hcm).1 with h | h | h | h | h | h <;> rw [h] <;> decide
    have hvl := hI.length
    have hsl : (sumsL (ks.take i)).length ≤ 32 := by
      rw [sumsL_len]
      have h5 : (ks.take i).length ≤ 5 := Nat.le_trans (List.length_take_le' i ks) hlen
      have h6 : 2 ^ (ks.take i).length ≤ 2 ^ 5 := Nat.pow_le_pow_right (by decide) h5
      exact h6
    k_dflt (refine LCg.ListComp_U (F₀ := F5) (by with_unfolding_all rfl) (by decide) (by rfl) (by decide) (by rfl) ?_)
    walk1
    refine LCg.CompSrc.ledger (ax := S) (its := sv.toArray) (k := sn) (by rfl) F5 N5 (.tail _ (.head _)) (by rw [List.size_toArray, hvl]; exact Nat.le_trans hsl (by decide)) fun g9 => ?_
    refine crest (n := sv.toArray.size) (fun k ys => IntsAre ys (((sumsL (ks.take i)).map (sumF c)).take k)) (Or.inr ⟨_, .tail _ (.head _), rfl, _, rfl⟩) ?turn9 ?fin9 _ 0 [] (Nat.zero_add _) .nil
    case turn9 =>
      intro k v ys I9 oI9 C9 oC9 D9 m9 h9 tk9 E9 hk hv hJ hC hx F9 N9 off9 ne9
      have hk' : k < (sumsL (ks.take i)).length := by rw [← hvl]; simpa using hk
      obtain ⟨to, hx2⟩ := hI.get k _ (List.getElem?_eq_getElem hk')
      obtain rfl : v = .int (sumsL (ks.take i))[k] to := by
        have hv2 : sv[k]? = some v := by simpa using hv
        rw [hx2] at hv2
        exact (Option.some.inj hv2).symm
      have hz : c.1 ≠ 0 := by omega
      clear hret
      k_steps
      refine Hold.mk (CEnd.intro (by assumption) (by assumption) ?_)
      have e9 : ((sumsL (ks.take i)).map (sumF c)).take (k + 1) = ((sumsL (ks.take i)).map (sumF c)).take k ++ [sumF c (sumsL (ks.take i))[k]] := by
        rw [List.take_add_one, List.getElem?_map, List.getElem?_eq_getElem hk']; rfl
      rw [e9]
      exact hJ.append (.cons _ _ .nil)
    case fin9 =>
      intro ys hys
      rw [List.take_of_length_le (by simp [hvl])] at hys
      k_steps
      refine Hold.mk ?_
      rename_i D1 _ _ _ D2 ws _ hI2 lt2 _ F6 N6
      refine TEnd.intro ((D2, listOf ws.toArray 0) :: (L' + 1 + 1, oF') :: (L' + 1, oS') :: news) F6 (kst_newsOf N6 fun p hp => ?_) (fun p hp => ?_) ⟨_, D2, ws, _, oF', oS', map_next rfl ?_, rfl, ?_, ⟨_, dF'⟩, ⟨_, dS'⟩, lt2.2.2.2.1, fun p hp => ktn_ltOf lt2.2.2.2.2.2 p hp⟩
      · exact Mine.Ar.Sub.use (by k_extra "sub") hp
      · rcases List.mem_cons.mp hp with rfl | hp
        · exact Nat.ne_of_gt lt2.2.1
        · rcases List.mem_cons.mp hp with rfl | hp
          · exact Nat.ne_of_lt hI1
          · rcases List.mem_cons.mp hp with rfl | hp
            · exact Nat.ne_of_lt (Nat.lt_trans (Nat.lt_succ_self _) hI1)
            · exact hne p (.tail _ (.tail _ (.tail _ hp)))
      · intro z h1 h2
        have h3 := h2
        simp only [List.contains_cons, List.contains_nil, Bool.or_false, beq_eq_false_iff_ne, ne_eq] at h3
        simp [h1, h3, mapU]
      · rw [sums_take hci]
        exact hI2
  case done =>
    rintro m₁ nx g tk ⟨u, S, sv, sn, oF, oS, rfl, rfl, hI, _, _, hlS, hltS⟩ F1 N1
    rw [List.take_length] at hI
    k_steps
    rename News h₀ _ _ _ => kN
    refine hret _ _ _ _ (by assumption) (kst_newsOf kN (l' := (S, listOf sv.toArray sn) :: news) fun p hp => ?_) ⟨S, sv, sn, rfl, rfl, hI, hltS⟩
    rcases List.mem_cons.mp hp with rfl | hp
    · exact .head _
    · exact .tail _ (.tail _ (.tail _ hp))
end Mine

end
-- ApF
section
open PySem PySem.W PySem.Spec PySem.Calls PyProof.Rows
set_option Elab.async false
set_option pp.maxSteps 3000
set_option pp.deepTerms false
set_option pp.deepTerms.threshold 6
set_option maxRecDepth 100000
set_option maxHeartbeats 2000000
namespace Mine
theorem said_ApF_0 : True := by
  k_with_none
  w_top off
  k_with "lt" => first | assumption | (refine Mine.Ar.pick (by assumption) ?_; intro hh; first | exact Mine.Ar.c1 hh | exact Mine.Ar.c2 hh | exact Mine.Ar.c3 hh | exact Mine.Ar.c4 hh | exact Mine.Ar.c5 hh | exact Mine.Ar.c6 hh | exact Mine.Ar.c7 hh | exact Mine.Ar.c8 hh | exact Mine.Ar.e2 hh | exact Mine.Ar.e3 hh | exact Mine.Ar.e4 hh | fail) | exact Mine.Ar.t1 | exact Mine.Ar.t2 | exact Mine.Ar.t3 | fail
  k_with "lt2" => first | k_extra "lt" | (refine Mine.Ar.s1 ?_; k_extra "lt") | (refine Mine.Ar.s2 ?_; k_extra "lt") | (refine Mine.Ar.s3 ?_; k_extra "lt") | fail
  k_with "omega" => with_reducible (first | assumption | decide +kernel | (refine Nat.ne_of_gt ?_; k_extra "lt2") | (refine Nat.ne_of_lt ?_; k_extra "lt2") | k_extra "lt2" | exact Mine.Ar.u1 | exact Mine.Ar.u2 | exact Mine.Ar.u3 | exact Mine.Ar.v1 | exact Mine.Ar.dp0 (by assumption) | exact Mine.Ar.dp1 (by assumption) (by decide) | exact Mine.Ar.dp2 (by assumption) (by decide) | exact Mine.Ar.ll (by assumption) (by decide) | exact Mine.Ar.l0 (by assumption) (by decide) | exact Mine.Ar.lm (by assumption) (by decide) | exact Mine.Ar.gn (by assumption) (by decide) | exact Mine.Ar.ci (by decide) | exact Mine.Ar.cz | exact Mine.Ar.li (by assumption) (by decide) | exact Mine.Ar.lj (by assumption) (by decide) | exact Mine.Ar.lk (by assumption) (by decide) | exact Mine.Ar.gi (by assumption) (by decide) | exact Mine.Ar.gj (by assumption) (by decide) | exact Mine.Ar.gk (by assumption) (by decide) | exact Mine.Ar.gl (by assumption) (by decide) | exact Mine.Ar.n0 (by assumption) | exact Mine.Ar.n1 (by assumption) (by decide) | exact Mine.Ar.m0 (by assumption) | exact Mine.Ar.m1 (by assumption) (by decide) | exact And.left (by assumption) | exact And.right (by assumption) | lia | fail)
  k_with "execs cons" => ((try first | (refine' canon ?H ?F ?e ?_; (case H => assumption); (case F => assumption); (case e => exact rfl); intro _) | (refine' canonD ?H ?F ?e ?_; (case H => assumption); (case F => assumption); (case e => exact rfl); intro _ _)); (try k_fold); refine wpAny_execs_cons ?_)
  k_with "eval Call" => k_fold
  k_with "exec While Name cons nil" => refine hold_out ?_
  k_with "exec While Name" => refine hold_out ?_
  k_with "WhileStep2" => refine hold_out ?_
  trivial
def apB (n : Nat) : List UInt8 := if h : n = 0 then [] else apB (n / 16) ++ [UInt8.ofNat (65 + n % 16)]
termination_by n
decreasing_by omega
theorem apB_len : ∀ (k x : Nat), x < 16 ^ k → (apB x).length ≤ k
  | 0, x, h => by
    have : x = 0 := by simpa using h
    subst this
    unfold apB
    simp
  | k + 1, x, h => by
    unfold apB
    split
    · simp
    · rw [List.length_append, List.length_singleton]
      have := apB_len k (x / 16) (by rw [Nat.pow_succ] at h; omega)
      omega
theorem ap_tab : ∀ r ∈ List.range 16, KBy.picked #[65, 66, 67, 68, 69, 70, 71, 72, 73, 74, 75, 76, 77, 78, 79, 80] (some ((r : Nat) : Int)) (some (((r : Nat) : Int) + 1)) = #[UInt8.ofNat (65 + r)] := by decide +kernel
theorem ap_pick (n : Nat) : KBy.picked #[65, 66, 67, 68, 69, 70, 71, 72, 73, 74, 75, 76, 77, 78, 79, 80] (some ((n : Int).fmod 16)) (some ((n : Int).fmod 16 + 1)) = #[UInt8.ofNat (65 + n % 16)] := by
  have e : (n : Int).fmod 16 = ((n % 16 : Nat) : Int) := by
    rw [Int.fmod_eq_emod_of_nonneg _ (by decide)]
    rfl
  rw [e]
  exact ap_tab _ (List.mem_range.mpr (Nat.mod_lt _ (by decide)))
theorem map_start2 {st : List Str} {m : Str → Option Value} {x y : Str} {v v' : Value} (h : m x = some v) (h' : m y = some v') : m = fun z => if z = x then some v else if z = y then some v' else mapU st m m z := by
  funext z
  by_cases q : z = x
  · rw [if_pos q, q, h]
  · rw [if_neg q]
    by_cases q' : z = y
    · rw [if_pos q', q', h']
    · rw [if_neg q']
      unfold mapU
      split <;> rfl
theorem map_next2 {st : List Str} {m' m₀ : Str → Option Value} {x y : Str} {v v' : Value} (h : m' x = some v) (h' : m' y = some v') (h2 : ∀ z, z ≠ x → z ≠ y → st.contains z = false → m' z = m₀ z) : m' = fun z => if z = x then some v else if z = y then some v' else mapU st m' m₀ z := by
  funext z
  by_cases q : z = x
  · rw [if_pos q, q, h]
  · rw [if_neg q]
    by_cases q' : z = y
    · rw [if_pos q', q', h']
    · rw [if_neg q']
      unfold mapU
      cases q2 : st.contains z with
      | true => simp
      | false => simp [h2 z q q' q2]
def ApJ (x : Nat) (news : Led) (m₀ : Str → Option Value) (k : Nat) (m : Str → Option Value) (nx : Led) : Prop :=
  ∃ (u : Str → Option Value) (v : Array UInt8) (t1 t2 : Tok), m = (fun z => if z = Str.ofString "num" then some (.int (k : Int) t1) else if z = Str.ofString "val" then some (.bytes v t2) else mapU [Str.ofString "mod"] u m₀ z) ∧
    nx = news ∧ apB k ++ v.toList = apB x
theorem ap_does (w : World) (news : Led) (x : Nat) (t : Tok) (h1x : x < 16 ^ 48) :
    Does w 3 40 78 news [.int (x : Int) t] (fun r news' => news' = news ∧ ∃ t, r = .bytes (apB x).toArray t) := by
  unfold Does
  k_fill
  intro p loose mean mg mb dp un gd cn cs a ccd cl outer A₀ base h₀ L m s Q E B F X N T hk hd hu hret
  have HS : StB s := ⟨⟩
  refine wpAny_call ?_
  k_dflt (refine' code_def ?k1 ?k2 ?k3 ?k4 ?k5 ?kA ?kF ?kK ?k6 ?k7 ?k8 ?k9 ?kB ?_ ?c2 ?c3 ?c4 ?c5; (case kA => exact rfl); (case kF => exact rfl); (case kK => assumption); (case k1 => k_asm); (case k2 => k_asm); (case k3 => k_asm); (case k4 => k_asm); (case k5 => k_asm); (case k6 => k_is); (case k7 => k_is); (case k8 => ktr_room); (case k9 => exact BindsTo.of_eq rfl); (case c5 => decide); (case kB => exact locs rfl); (case c2 => exact rfl); (case c3 => exact rfl); (case c4 => exact rfl); k_whole; intro g' L' h' FG' F' N' B' X' T'; (try dsimp only); (try k_fold))
  refine wpAny_noRaise ?_
  k_steps
  refine Hold.mk ?_
  rename News _ _ _ _ => N0
  rename Fr _ _ _ _ => F0
  k_dflt (refine whileJ (ApJ x news) x F0 N0 ?z ?turn (by first | exact PassesOwn.never | passes_own))
  case z => exact ⟨_, _, _, _, map_start2 rfl rfl, rfl, by simp⟩
  case turn =>
    rintro n1 m1 nx1 h1 tk1 F1 N1 ⟨u, v, t1, t2, rfl, rfl, hv⟩
    k_steps
    · rename Fr g' _ _ _ => F2
      rename News g' _ _ _ => N2
      k_dflt (refine KBc.slice_K (s := ⟨_, _, _, _, _⟩) (ks := [65, 66, 67, 68, 69, 70, 71, 72, 73, 74, 75, 76, 77, 78, 79, 80]) F2 N2 (by decide) (by constructor) (by constructor) (by decide) ?_)
      intro h9 t9 k9 F3 N3 e9
      clear e9
      rw [ap_pick]
      have hvs : v.size ≤ 48 := by
        have h8 := congrArg List.length hv
        have h9 : v.toList.length = v.size := by simp
        rw [List.length_append] at h8
        have := apB_len 48 x h1x
        omega
      k_steps
      k_dflt (refine KBy.add_bytes ?sz ?_)
      case sz =>
        simp only [sizeLine_eq, Array.size_append, List.size_toArray, List.length_singleton]
        omega
      intro t8 k8
      k_steps
      refine Hold.mk ?_
      have e16 : (n1 : Int).fdiv 16 = ((n1 / 16 : Nat) : Int) := by
        rw [Int.fdiv_eq_ediv_of_nonneg _ (by decide)]
        omega
      rename Fr g' _ _ _ => F9
      rename News g' _ _ _ => N9
      rw [e16] at F9
      refine ⟨_, _, _, _, n1 / 16, rfl, F9, kst_newsOf N9 (fun p hp => .tail _ hp), by omega, _, _, _, _, map_next2 rfl rfl ?_, rfl, ?_⟩
      · intro z h1 h2 h3
        have h4 := h3
        simp only [List.contains_cons, List.contains_nil, Bool.or_false, beq_eq_false_iff_ne, ne_eq] at h4
        simp [h1, h2, h4, mapU]
      · rw [← hv]
        conv => rhs; rw [apB]
        rw [dif_neg (by omega)]
        simp
    · have hv' : v = (apB x).toArray := by
        have : v.toList = apB x := by rw [← hv, show n1 = 0 by omega]; unfold apB; simp
        rw [← this]
      rw [hv']
      exact hret _ _ _ _ (by assumption) (by assumption) ⟨rfl, _, rfl⟩
end Mine

end
-- Lib5
section
open PySem PySem.W PySem.Spec PySem.Calls PyProof.Rows PyProof.Rows.LCg
set_option Elab.async false
set_option maxRecDepth 100000
set_option maxHeartbeats 4000000
namespace Mine
theorem said_Lib5_0 : True := by
  k_with_none
  w_top off
  k_with "lt" => first | assumption | (refine Mine.Ar.pick (by assumption) ?_; intro hh; first | exact Mine.Ar.c1 hh | exact Mine.Ar.c2 hh | exact Mine.Ar.c3 hh | exact Mine.Ar.c4 hh | exact Mine.Ar.c5 hh | exact Mine.Ar.c6 hh | exact Mine.Ar.c7 hh | exact Mine.Ar.c8 hh | exact Mine.Ar.e2 hh | exact Mine.Ar.e3 hh | exact Mine.Ar.e4 hh | fail) | exact Mine.Ar.t1 | exact Mine.Ar.t2 | exact Mine.Ar.t3 | fail
  k_with "lt2" => first | k_extra "lt" | (refine Mine.Ar.s1 ?_; k_extra "lt") | (refine Mine.Ar.s2 ?_; k_extra "lt") | (refine Mine.Ar.s3 ?_; k_extra "lt") | fail
  k_with "omega" => with_reducible (first | assumption | decide +kernel | (refine Nat.ne_of_gt ?_; k_extra "lt2") | (refine Nat.ne_of_lt ?_; k_extra "lt2") | k_extra "lt2" | exact Mine.Ar.u1 | exact Mine.Ar.u2 | exact Mine.Ar.u3 | exact Mine.Ar.v1 | exact Mine.Ar.dp0 (by assumption) | exact Mine.Ar.dp1 (by assumption) (by decide) | exact Mine.Ar.dp2 (by assumption) (by decide) | exact Mine.Ar.ll (by assumption) (by decide) | exact Mine.Ar.l0 (by assumption) (by decide) | exact Mine.Ar.lm (by assumption) (by decide) | exact Mine.Ar.gn (by assumption) (by decide) | exact Mine.Ar.ci (by decide) | exact Mine.Ar.cz | exact Mine.Ar.li (by assumption) (by decide) | exact Mine.Ar.lj (by assumption) (by decide) | exact Mine.Ar.lk (by assumption) (by decide) | exact Mine.Ar.gi (by assumption) (by decide) | exact Mine.Ar.gj (by assumption) (by decide) | exact Mine.Ar.gk (by assumption) (by decide) | exact Mine.Ar.gl (by assumption) (by decide) | exact Mine.Ar.n0 (by assumption) | exact Mine.Ar.n1 (by assumption) (by decide) | exact Mine.Ar.m0 (by assumption) | exact Mine.Ar.m1 (by assumption) (by decide) | exact And.left (by assumption) | exact And.right (by assumption) | lia | fail)
  trivial
section
variable {prog : Program} {w : World} {A : Around} {E : Value → Shared → Prop} {s : Shared} {env : Env} {h₀ : Heap} {x : Str} {body : List Stmt} {Q : Flow → Shared → Prop}
/-- a for over a text's signs -/
theorem strJ {xs : Str} {t : Tok} {m₀ : Str → Option Value} {news : Led} (J : (Str → Option Value) → Led → Nat → (Str → Option Value) → Led → Prop)
    (hh : A.handled = none) (F : Fr h₀ env.locals s.heap m₀) (N : News h₀ env.locals s.heap news) (hj : J m₀ news 0 m₀ news)
    (turn : ∀ (i : Nat) c u m₁ nx h tk own, xs.cps[i]? = some c → OwnOff own (nx.map (·.1)) → J m₀ news i m₁ nx → Fr h₀ env.locals h (fun y => if y = x then some (.str ⟨#[c]⟩ u) else m₁ y) → News h₀ env.locals h (nx ++ own) →
      wpAny (model prog w) A (execs body env) (InvPostG h₀ env.locals (J m₀ news (i + 1)) own { s with heap := h, toks := tk } Q) E { s with heap := h, toks := tk })
    (done : ∀ m₁ nx h tk, J m₀ news xs.cps.size m₁ nx → Fr h₀ env.locals h m₁ → News h₀ env.locals h nx → Q .next { s with heap := h, toks := tk }) :
    wpAny (model prog w) A (pyIter (.str xs t)) (fun it s₂ => LoopAtV prog w A h₀ env x body Q E it s₂) E s := by
  have key : ∀ (ty : String), (Walks prog w A s.heap.objs.size [s.heap.objs.size] [s.heap.objs.size] xs.cps.size (SignAt xs) (fun i h => h.IsStrIter s.heap.objs.size ty xs t i)) →
      LoopAtV prog w A h₀ env x body Q E (.ref s.heap.objs.size) { s with heap := s.heap.push { cls := .type ty, data := .fields #[.str xs t, .int 0 0] } } := fun ty W => by
    refine kdr_loop (J m₀ news) W (fun _ h => h) (fun _ h => h) ?_ ?_ ?_ ?_ ⟨_, Heap.get?_push_size _ rfl, rfl, rfl⟩ (F.push _) (fun p hp => ⟨Heap.get?_push_of_some _ (N p hp).1, (N p hp).2⟩) hj ?_ done
    · intro i h hi b hb
      rw [List.mem_singleton.mp hb]
      obtain ⟨o, ho, _⟩ := hi
      exact ⟨o, ho⟩
    · intro hm
      exact absurd F.ns.lt ((List.mem_singleton.mp hm) ▸ Nat.lt_irrefl _)
    · intro b hb
      rw [List.mem_singleton.mp hb]
      exact next_is_new F
    · intro p hp hI
      exact absurd (Heap.lt_size (N p hp).1) ((List.mem_singleton.mp hI) ▸ Nat.lt_irrefl _)
    · rintro i v m₁ nx h tk own hi ⟨c, u, hc, rfl⟩ hoff hJ F₁ N₁
      exact turn i c u m₁ nx h tk own hc hoff hJ F₁ N₁
  cases ha : xs.cps.all (· < 128)
  · exact wpAny_pyIter_wide ha (key _ (Walks.strWide hh _ xs t))
  · exact wpAny_pyIter_ascii ha (key _ (Walks.strAscii hh _ xs t))
end
end Mine

end
-- WsF
section
open PySem PySem.W PySem.Spec PySem.Calls PyProof.Rows
set_option Elab.async false
set_option pp.maxSteps 3000
set_option pp.deepTerms false
set_option pp.deepTerms.threshold 6
set_option maxRecDepth 100000
set_option maxHeartbeats 2000000
namespace Mine
theorem said_WsF_0 : True := by
  k_with_none
  w_top off
  k_with "lt" => first | assumption | (refine Mine.Ar.pick (by assumption) ?_; intro hh; first | exact Mine.Ar.c1 hh | exact Mine.Ar.c2 hh | exact Mine.Ar.c3 hh | exact Mine.Ar.c4 hh | exact Mine.Ar.c5 hh | exact Mine.Ar.c6 hh | exact Mine.Ar.c7 hh | exact Mine.Ar.c8 hh | exact Mine.Ar.e2 hh | exact Mine.Ar.e3 hh | exact Mine.Ar.e4 hh | fail) | exact Mine.Ar.t1 | exact Mine.Ar.t2 | exact Mine.Ar.t3 | fail
  k_with "lt2" => first | k_extra "lt" | (refine Mine.Ar.s1 ?_; k_extra "lt") | (refine Mine.Ar.s2 ?_; k_extra "lt") | (refine Mine.Ar.s3 ?_; k_extra "lt") | fail
  k_with "omega" => with_reducible (first | assumption | decide +kernel | (refine Nat.ne_of_gt ?_; k_extra "lt2") | (refine Nat.ne_of_lt ?_; k_extra "lt2") | k_extra "lt2" | exact Mine.Ar.u1 | exact Mine.Ar.u2 | exact Mine.Ar.u3 | exact Mine.Ar.v1 | exact Mine.Ar.dp0 (by assumption) | exact Mine.Ar.dp1 (by assumption) (by decide) | exact Mine.Ar.dp2 (by assumption) (by decide) | exact Mine.Ar.ll (by assumption) (by decide) | exact Mine.Ar.l0 (by assumption) (by decide) | exact Mine.Ar.lm (by assumption) (by decide) | exact Mine.Ar.gn (by assumption) (by decide) | exact Mine.Ar.ci (by decide) | exact Mine.Ar.cz | exact Mine.Ar.li (by assumption) (by decide) | exact Mine.Ar.lj (by assumption) (by decide) | exact Mine.Ar.lk (by assumption) (by decide) | exact Mine.Ar.gi (by assumption) (by decide) | exact Mine.Ar.gj (by assumption) (by decide) | exact Mine.Ar.gk (by assumption) (by decide) | exact Mine.Ar.gl (by assumption) (by decide) | exact Mine.Ar.n0 (by assumption) | exact Mine.Ar.n1 (by assumption) (by decide) | exact Mine.Ar.m0 (by assumption) | exact Mine.Ar.m1 (by assumption) (by decide) | exact And.left (by assumption) | exact And.right (by assumption) | lia | fail)
  k_with "execs cons" => ((try first | (refine' canon ?H ?F ?e ?_; (case H => assumption); (case F => assumption); (case e => exact rfl); intro _) | (refine' canonD ?H ?F ?e ?_; (case H => assumption); (case F => assumption); (case e => exact rfl); intro _ _)); (try k_fold); refine wpAny_execs_cons ?_)
  k_with "eval Call" => k_fold
  k_with "pyIter str" => refine hold_out ?_
  k_with "InvEndG" => refine hold_out ?_
  k_with "InvPostG" => refine hold_out ?_
  trivial
theorem saidx_WsX_0 : True := by
  k_with "exec For Name Attribute cons nil" => (k_here; (rename Fr _ _ _ _ => lFq'); (with_unfolding_all refine' For_invVF lFq' ?k1 ?k2 ?_; (case k1 => exact rfl); (case k2 => exact rfl); k_whole))
  k_with "call type:tuple" => (k_here; k_dflt (refine' kde_tupleOf ?k1 ?k2 ?k3 ?k4 ?k5 ?_; (case k1 => k_asm); (case k2 => k_asm); (case k3 => exact News.isList (by k_asm) (by k_mem)); (case k4 => (rw [List.size_toArray]; omega)); (case k5 => exact List.toList_toArray); k_whole); intro Dq' hq' Fq' Nq' l1q; (try k_lt l1q))
  trivial
def bump (cc : List Int) (b : Nat) : List Int :=
  let cc' := if cc.length ≤ b then cc ++ List.replicate (b - cc.length + 1) 0 else cc
  cc'.set b (cc'.getD b 0 + 1)
structure WsSt where
  cc : List Int
  b : Nat
  n : Nat
  nt : Nat
def wsStep (st : WsSt) (c : Nat) : WsSt := if c = 32 then ⟨st.cc, st.b + 1, st.n + 1, st.nt⟩ else ⟨bump st.cc st.b, 0, st.n + 1, st.nt + 1⟩
def wsRun (cs : List Nat) : WsSt := cs.foldl wsStep ⟨[], 0, 0, 0⟩
theorem bump_len (cc : List Int) (b : Nat) : (bump cc b).length = max cc.length (b + 1) := by
  unfold bump
  dsimp only
  split
  · rw [List.length_set, List.length_append, List.length_replicate]; omega
  · rw [List.length_set]; omega
theorem flat_rep (k : Nat) : (List.replicate k [(0 : Int)]).flatten = List.replicate k 0 := by
  induction k with
  | zero => rfl
  | succ k ih => rw [List.replicate_succ, List.flatten_cons, ih, List.replicate_succ]; rfl
theorem bump_ext {cc : List Int} {b : Nat} (h : cc.length ≤ b) : (cc ++ (List.replicate ((b : Int) - (cc.length : Int) + 1).toNat [0]).flatten).set (b : Int).toNat ((cc ++ (List.replicate ((b : Int) - (cc.length : Int) + 1).toNat [0]).flatten).getD (b : Int).toNat 0 + 1) = bump cc b := by
  have e : ((b : Int) - (cc.length : Int) + 1).toNat = b - cc.length + 1 := by omega
  rw [e, flat_rep, Int.toNat_natCast]
  unfold bump
  dsimp only
  rw [if_pos h]
theorem bump_in {cc : List Int} {b : Nat} (h : ¬ cc.length ≤ b) : cc.set (b : Int).toNat (cc.getD (b : Int).toNat 0 + 1) = bump cc b := by
  rw [Int.toNat_natCast]
  unfold bump
  dsimp only
  rw [if_neg h]
theorem ws_bounds : ∀ (cs : List Nat) (st : WsSt) (k : Nat), (st.cc.length ≤ k ∧ st.b ≤ k ∧ st.n ≤ k ∧ st.nt ≤ k) → ((cs.foldl wsStep st).cc.length ≤ k + cs.length ∧ (cs.foldl wsStep st).b ≤ k + cs.length ∧ (cs.foldl wsStep st).n ≤ k + cs.length ∧ (cs.foldl wsStep st).nt ≤ k + cs.length)
  | [], st, k, h => by simpa using h
  | c :: r, st, k, h => by
    have := ws_bounds r (wsStep st c) (k + 1) (by
      unfold wsStep
      split
      · dsimp only; omega
      · dsimp only; rw [bump_len]; omega)
    rw [List.foldl_cons, List.length_cons, show k + (r.length + 1) = k + 1 + r.length by omega]
    exact this
theorem ws_take {cs : List Nat} {i c : Nat} (h : cs[i]? = some c) : wsRun (cs.take (i + 1)) = wsStep (wsRun (cs.take i)) c := by
  have hs : cs.take (i + 1) = cs.take i ++ [c] := by simp [List.take_add_one, h]
  unfold wsRun
  rw [hs, List.foldl_append]
  rfl
theorem map_start4 {st : List Str} {m : Str → Option Value} {x1 x2 x3 x4 : Str} {v1 v2 v3 v4 : Value} (h1 : m x1 = some v1) (h2 : m x2 = some v2) (h3 : m x3 = some v3) (h4 : m x4 = some v4) :
    m = fun z => if z = x1 then some v1 else if z = x2 then some v2 else if z = x3 then some v3 else if z = x4 then some v4 else mapU st m m z := by
  funext z
  by_cases q1 : z = x1
  · rw [if_pos q1, q1, h1]
  · rw [if_neg q1]
    by_cases q2 : z = x2
    · rw [if_pos q2, q2, h2]
    · rw [if_neg q2]
      by_cases q3 : z = x3
      · rw [if_pos q3, q3, h3]
      · rw [if_neg q3]
        by_cases q4 : z = x4
        · rw [if_pos q4, q4, h4]
        · rw [if_neg q4]
          unfold mapU
          split <;> rfl
theorem map_next4 {st : List Str} {m m₀ : Str → Option Value} {x1 x2 x3 x4 : Str} {v1 v2 v3 v4 : Value} (h1 : m x1 = some v1) (h2 : m x2 = some v2) (h3 : m x3 = some v3) (h4 : m x4 = some v4)
    (h : ∀ z, z ≠ x1 → z ≠ x2 → z ≠ x3 → z ≠ x4 → st.contains z = false → m z = m₀ z) :
    m = fun z => if z = x1 then some v1 else if z = x2 then some v2 else if z = x3 then some v3 else if z = x4 then some v4 else mapU st m m₀ z := by
  funext z
  by_cases q1 : z = x1
  · rw [if_pos q1, q1, h1]
  · rw [if_neg q1]
    by_cases q2 : z = x2
    · rw [if_pos q2, q2, h2]
    · rw [if_neg q2]
      by_cases q3 : z = x3
      · rw [if_pos q3, q3, h3]
      · rw [if_neg q3]
        by_cases q4 : z = x4
        · rw [if_pos q4, q4, h4]
        · rw [if_neg q4]
          unfold mapU
          cases q : st.contains z with
          | true => simp
          | false => simp [h z q1 q2 q3 q4 q]
def WsJ (rest : Led) (cps : List Nat) (m₀ : Str → Option Value) (i : Nat) (m : Str → Option Value) (nx : Led) : Prop :=
  ∃ (u : Str → Option Value) (C : Addr) (cv : List Value) (cn : Nat) (t1 t2 t3 : Tok),
    m = (fun z => if z = Str.ofString "count" then some (.ref C) else if z = Str.ofString "b" then some (.int ((wsRun (cps.take i)).b : Int) t1) else if z = Str.ofString "n" then some (.int ((wsRun (cps.take i)).n : Int) t2) else if z = Str.ofString "nt" then some (.int ((wsRun (cps.take i)).nt : Int) t3) else mapU [Str.ofString "ch"] u m₀ z) ∧
    nx = (C, listOf cv.toArray cn) :: rest ∧ IntsAre cv (wsRun (cps.take i)).cc ∧ ∀ p ∈ rest, p.1 < C
theorem ws_end {g' h : Heap} {L' C : Addr} {cps : List Nat} {rest own : Led} {m₀ m' : Str → Option Value} {i cn tk : Nat} {st : WsSt} {cv : List Value} {t1 t2 t3 : Tok} {s₁ : Shared} (hnx : wsRun (cps.take (i + 1)) = st)
    (F : Fr g' L' h m') (N : News g' L' h ((C, listOf cv.toArray cn) :: (rest ++ own))) (h1 : m' (Str.ofString "count") = some (.ref C)) (h2 : m' (Str.ofString "b") = some (.int (st.b : Int) t1)) (h3 : m' (Str.ofString "n") = some (.int (st.n : Int) t2)) (h4 : m' (Str.ofString "nt") = some (.int (st.nt : Int) t3))
    (hm : ∀ z, z ≠ Str.ofString "count" → z ≠ Str.ofString "b" → z ≠ Str.ofString "n" → z ≠ Str.ofString "nt" → [Str.ofString "ch"].contains z = false → m' z = m₀ z)
    (hI : IntsAre cv st.cc) (hlt : ∀ p ∈ rest, p.1 < C) (hoC : ∀ p ∈ own, p.1 ≠ C) (hoff : OwnOff own (rest.map (·.1))) : InvEndG g' L' (WsJ rest cps m₀ (i + 1)) own s₁ { s₁ with heap := h, toks := tk } := by
  subst hnx
  refine InvEndG.intro (nx := (C, listOf cv.toArray cn) :: rest) F N ⟨m', C, cv, cn, t1, t2, t3, map_next4 h1 h2 h3 h4 hm, rfl, hI, hlt⟩ ?_ (fun p hp => ?_) fun p hp => ?_
  · intro p hp b hb
    rcases List.mem_cons.mp hb with rfl | hb
    · exact hoC p hp
    · exact hoff p hp b hb
  · rcases List.mem_cons.mp hp with rfl | hp
    · exact .head _
    · exact .tail _ (List.mem_append_left _ hp)
  · exact .tail _ (List.mem_append_right _ hp)
def wsLed (w : World) (x : Str) (st : WsSt) (cv : List Value) (X d D1 D2 t k1 k2 k3 k4 k5 t1 t2 t3 : Nat) (news : Led) : Led :=
  (D2, { cls := .type "tuple", data := .seq #[.ref D1, .int (st.b : Int) t1] }) :: (D1, { cls := .type "tuple", data := .seq cv.toArray }) :: (X, instObj 140 d) ::
    (d, dictOf [⟨PyData.keyHash w.params (Str.ofString "raw"), .str (Str.ofString "raw") k1, .str x t⟩, ⟨PyData.keyHash w.params (Str.ofString "n"), .str (Str.ofString "n") k2, .int (st.n : Int) t2⟩,
      ⟨PyData.keyHash w.params (Str.ofString "nt"), .str (Str.ofString "nt") k3, .int (st.nt : Int) t3⟩, ⟨PyData.keyHash w.params (Str.ofString "norm"), .str (Str.ofString "norm") k4, .ref D2⟩,
      ⟨PyData.keyHash w.params (Str.ofString "is_simple"), .str (Str.ofString "is_simple") k5, .bool (decide ((st.cc.length : Int) ≤ 1))⟩] 5) :: news
def WsR (w : World) (news : Led) (x : Str) (t : Tok) (r : Value) (news' : Led) : Prop :=
  ∃ (cv : List Value) (X d D1 D2 k1 k2 k3 k4 k5 t1 t2 t3 : Nat), r = .ref X ∧ news' = wsLed w x (wsRun x.cps.toList) cv X d D1 D2 t k1 k2 k3 k4 k5 t1 t2 t3 news ∧
    IntsAre cv (wsRun x.cps.toList).cc ∧ d < X ∧ X < D1 ∧ D1 < D2 ∧ AllLt d news
theorem wsR_mk {h₀ h : Heap} {L : Addr} {w : World} {x : Str} {st : WsSt} {cv : List Value} {X d D1 D2 C D0 t k1 k2 k3 k4 k5 t1 t2 t3 cn : Nat} {o0 : Obj} {news : Led} (hst : wsRun x.cps.toList = st)
    (N : News h₀ L h ((D2, { cls := .type "tuple", data := .seq #[.ref D1, .int (st.b : Int) t1] }) :: (D1, { cls := .type "tuple", data := .seq cv.toArray }) :: (C, listOf cv.toArray cn) :: (D0, o0) :: (X, instObj 140 d) ::
    (d, dictOf [⟨PyData.keyHash w.params (Str.ofString "raw"), .str (Str.ofString "raw") k1, .str x t⟩, ⟨PyData.keyHash w.params (Str.ofString "n"), .str (Str.ofString "n") k2, .int (st.n : Int) t2⟩,
      ⟨PyData.keyHash w.params (Str.ofString "nt"), .str (Str.ofString "nt") k3, .int (st.nt : Int) t3⟩, ⟨PyData.keyHash w.params (Str.ofString "norm"), .str (Str.ofString "norm") k4, .ref D2⟩,
      ⟨PyData.keyHash w.params (Str.ofString "is_simple"), .str (Str.ofString "is_simple") k5, .bool (decide ((st.cc.length : Int) ≤ 1))⟩] 5) :: news))
    (hI : IntsAre cv st.cc) (q1 : d < X) (q2 : X < D1) (q3 : D1 < D2) (q4 : AllLt d news) : ∃ nw, News h₀ L h nw ∧ WsR w news x t (.ref X) nw := by
  refine ⟨wsLed w x st cv X d D1 D2 t k1 k2 k3 k4 k5 t1 t2 t3 news, kst_newsOf N (fun p hp => ?_), cv, X, d, D1, D2, k1, k2, k3, k4, k5, t1, t2, t3, rfl, by rw [hst], by rw [hst]; exact hI, q1, q2, q3, q4⟩
  unfold wsLed at hp
  rcases List.mem_cons.mp hp with rfl | hp
  · exact .head _
  rcases List.mem_cons.mp hp with rfl | hp
  · exact .tail _ (.head _)
  rcases List.mem_cons.mp hp with rfl | hp
  · exact .tail _ (.tail _ (.tail _ (.tail _ (.head _))))
  rcases List.mem_cons.mp hp with rfl | hp
  · exact .tail _ (.tail _ (.tail _ (.tail _ (.tail _ (.head _)))))
  exact .tail _ (.tail _ (.tail _ (.tail _ (.tail _ (.tail _ hp)))))
theorem ws_does (w : World) (news : Led) (x : Str) (t : Tok) (h1 : x.cps.size ≤ 100) (hx : ∀ c ∈ x.cps.toList, c = 32 ∨ c = 9) :
    Does w 9 90 140 news [.str x t] (WsR w news x t) := by
  unfold Does
  k_fill
  intro p loose mean mg mb dp un gd cn cs a ccd cl outer A₀ base h₀ L m s Q E B F X N T hk hd hu hret
  have HS : StB s := ⟨⟩
  k_dflt (refine' call_cls ?k1 ?k2 ?k3 ?k4 ?k5 ?k6 ?_; (case k1 => k_asm); (case k2 => k_asm); (case k3 => k_asm); (case k4 => k_is); (case k5 => k_is); (case k6 => k_is); k_whole; intro x' d' hh' F1 N1 l1 l2; (try k_lt l1); (try k_lt2 l2))
  k_dflt (refine' code_def ?k1 ?k2 ?k3 ?k4 ?k5 ?kA ?kF ?kK ?k6 ?k7 ?k8 ?k9 ?kB ?_ ?c2 ?c3 ?c4 ?c5; (case kA => exact rfl); (case kF => exact rfl); (case kK => assumption); (case k1 => k_asm); (case k2 => k_asm); (case k3 => k_asm); (case k4 => k_asm); (case k5 => k_asm); (case k6 => k_is); (case k7 => k_is); (case k8 => ktr_room); (case k9 => exact BindsTo.of_eq rfl); (case c5 => decide); (case kB => exact locs rfl); (case c2 => exact rfl); (case c3 => exact rfl); (case c4 => exact rfl); k_whole; intro g' L' h' FG' F' N' B' X' T'; (try dsimp only); (try k_fold))
  refine wpAny_noRaise ?_
  k_steps
  refine Hold.mk ?_
  rename_i D0 _ lD _ _ _ _ C0 _ lC _ _ _ _ _ N0 _
  k_dflt (refine strJ (fun m₀ nw => WsJ nw.tail x.cps.toList m₀) (by rfl) lFq' (kst_newsOf N0 (fun p hp => hp)) ?z ?turn ?done)
  case z => exact ⟨_, C0, _, 0, _, _, _, map_start4 rfl rfl rfl rfl, rfl, .nil, ktn_ltOf lC⟩
  case turn =>
    rintro i c u m₁ nx h tk own hc hoff ⟨u0, C, cv, cn9, t1, t2, t3, rfl, rfl, hI, hlt⟩ F2 N2
    dsimp only [List.tail_cons] at F2 N2 hoff hlt
    have hc' : x.cps.toList[i]? = some c := by simpa using hc
    have hi100 : i < 100 := by
      have := (List.getElem?_eq_some_iff.mp hc').1
      simp at this
      omega
    have hbd := ws_bounds (x.cps.toList.take i) ⟨[], 0, 0, 0⟩ 0 (by simp)
    have hnx := ws_take hc'
    change _ = wsStep (wsRun _) _ at hnx
    change (wsRun _).cc.length ≤ _ ∧ (wsRun _).b ≤ _ ∧ (wsRun _).n ≤ _ ∧ (wsRun _).nt ≤ _ at hbd
    have htl : (x.cps.toList.take i).length ≤ i := List.length_take_le _ _
    generalize wsRun (x.cps.toList.take i) = st at *
    obtain ⟨cc, b, n, nt⟩ := st
    dsimp only at *
    have hMk := kstMark
    have hvl := hI.length
    rcases hx c (List.mem_of_getElem? hc') with rfl | rfl
    · k_steps
      refine Hold.mk ?_
      rename News g' _ _ _ => N9
      rename Fr g' _ _ _ => F9
      refine ws_end hnx F9 N9 rfl rfl rfl rfl ?_ hI hlt (own_cons hoff).1 (own_cons hoff).2
      intro z z1 z2 z3 z4 z5
      have z6 := z5
      simp only [List.contains_cons, List.contains_nil, Bool.or_false, beq_eq_false_iff_ne, ne_eq] at z6
      simp [z1, z2, z3, z4, z6, mapU]
    · k_steps
      · refine Hold.mk ?_
        rename IntsAre (List.set _ _ _) _ => hi9
        rw [bump_ext (by omega)] at hi9
        rename News g' _ _ _ => N9
        rename Fr g' _ _ _ => F9
        rename (_ < _ ∧ _ < _ ∧ AllLt _ _) => l9
        have lt9 := ktn_ltOf l9.2.2
        refine ws_end (cn := 0) hnx F9 (kst_newsOf N9 fun p hp => ?_) rfl rfl rfl rfl ?_ hi9 (fun p hp => lt9 p (.tail _ (List.mem_append_left _ hp))) (fun p hp => Nat.ne_of_lt (lt9 p (.tail _ (List.mem_append_right _ hp)))) (own_cons hoff).2
        · rcases List.mem_cons.mp hp with rfl | hp
          · exact .head _
          · exact .tail _ (.tail _ (.tail _ (.tail _ hp)))
        intro z z1 z2 z3 z4 z5
        have z6 := z5
        simp only [List.contains_cons, List.contains_nil, Bool.or_false, beq_eq_false_iff_ne, ne_eq] at z6
        simp [z1, z2, z3, z4, z6, mapU]
      · have hne : ∀ p ∈ _ ++ own, p.1 ≠ C := fun p hp => (List.mem_append.mp hp).elim (fun h => Nat.ne_of_lt (hlt p h)) ((own_cons hoff).1 p)
        k_dflt (refine' ksa_set ?F ?N (Upd.head hne) hI ?h0 ?h1 ?hfit ?_; (case F => k_asm); (case N => k_asm); (case h0 => omega); (case h1 => omega); (case hfit => omega))
        intro h9 F9 N9 hi9 hl9 hs9
        rw [bump_in (by omega)] at hi9
        k_steps
        refine Hold.mk ?_
        rename News g' _ _ _ => N8
        rename Fr g' _ _ _ => F8
        refine ws_end hnx F8 N8 rfl rfl rfl rfl ?_ hi9 hlt (own_cons hoff).1 (own_cons hoff).2
        intro z z1 z2 z3 z4 z5
        have z6 := z5
        simp only [List.contains_cons, List.contains_nil, Bool.or_false, beq_eq_false_iff_ne, ne_eq] at z6
        simp [z1, z2, z3, z4, z6, mapU]
  case done =>
    rintro m₁ nx h tk ⟨u0, C, cv, cn9, t1, t2, t3, rfl, rfl, hI, hlt⟩ F2 N2
    dsimp only [List.tail_cons] at F2 N2 hlt
    have hMk := kstMark
    have hA := allLt_of hlt
    simp only [AllLt] at hA
    have hb9 := ws_bounds x.cps.toList ⟨[], 0, 0, 0⟩ 0 (by simp)
    change (wsRun _).cc.length ≤ _ ∧ (wsRun _).b ≤ _ ∧ (wsRun _).n ≤ _ ∧ (wsRun _).nt ≤ _ at hb9
    rw [List.take_of_length_le (by simp)] at hI F2
    simp only [Array.length_toList] at hb9
    generalize hst : wsRun x.cps.toList = st at *
    obtain ⟨cc, b, n, nt⟩ := st
    dsimp only at *
    have hvl := hI.length
    k_steps
    rename News h₀ _ _ _ => kN
    rename (_ < _ ∧ C < _ ∧ _ < _ ∧ _ < _ ∧ _ < _ ∧ AllLt _ _) => l8
    rename (C < _ ∧ _ < _ ∧ _ < _ ∧ _ < _ ∧ AllLt _ _) => l7
    obtain ⟨nw, Nw, Rw⟩ := wsR_mk (st := ⟨cc, b, n, nt⟩) hst kN hI l2 l7.2.2.1 l8.1 (allLt_of l1)
    exact hret _ _ _ _ (by assumption) Nw Rw
end Mine

end
-- W2F
section
open PySem PySem.W PySem.Spec PySem.Calls PyProof.Rows
set_option Elab.async false
set_option pp.maxSteps 3000
set_option pp.deepTerms false
set_option pp.deepTerms.threshold 6
set_option maxRecDepth 100000
set_option maxHeartbeats 2000000
namespace Mine
theorem said_W2F_0 : True := by
  k_with_none
  w_top off
  k_with "lt" => first | assumption | (refine Mine.Ar.pick (by assumption) ?_; intro hh; first | exact Mine.Ar.c1 hh | exact Mine.Ar.c2 hh | exact Mine.Ar.c3 hh | exact Mine.Ar.c4 hh | exact Mine.Ar.c5 hh | exact Mine.Ar.c6 hh | exact Mine.Ar.c7 hh | exact Mine.Ar.c8 hh | exact Mine.Ar.e2 hh | exact Mine.Ar.e3 hh | exact Mine.Ar.e4 hh | fail) | exact Mine.Ar.t1 | exact Mine.Ar.t2 | exact Mine.Ar.t3 | fail
  k_with "lt2" => first | k_extra "lt" | (refine Mine.Ar.s1 ?_; k_extra "lt") | (refine Mine.Ar.s2 ?_; k_extra "lt") | (refine Mine.Ar.s3 ?_; k_extra "lt") | fail
  k_with "omega" => with_reducible (first | assumption | decide +kernel | (refine Nat.ne_of_gt ?_; k_extra "lt2") | (refine Nat.ne_of_lt ?_; k_extra "lt2") | k_extra "lt2" | exact Mine.Ar.u1 | exact Mine.Ar.u2 | exact Mine.Ar.u3 | exact Mine.Ar.v1 | exact Mine.Ar.dp0 (by assumption) | exact Mine.Ar.dp1 (by assumption) (by decide) | exact Mine.Ar.dp2 (by assumption) (by decide) | exact Mine.Ar.ll (by assumption) (by decide) | exact Mine.Ar.l0 (by assumption) (by decide) | exact Mine.Ar.lm (by assumption) (by decide) | exact Mine.Ar.gn (by assumption) (by decide) | exact Mine.Ar.ci (by decide) | exact Mine.Ar.cz | exact Mine.Ar.li (by assumption) (by decide) | exact Mine.Ar.lj (by assumption) (by decide) | exact Mine.Ar.lk (by assumption) (by decide) | exact Mine.Ar.gi (by assumption) (by decide) | exact Mine.Ar.gj (by assumption) (by decide) | exact Mine.Ar.gk (by assumption) (by decide) | exact Mine.Ar.gl (by assumption) (by decide) | exact Mine.Ar.n0 (by assumption) | exact Mine.Ar.n1 (by assumption) (by decide) | exact Mine.Ar.m0 (by assumption) | exact Mine.Ar.m1 (by assumption) (by decide) | exact And.left (by assumption) | exact And.right (by assumption) | lia | fail)
  k_with "execs cons" => ((try first | (refine' canon ?H ?F ?e ?_; (case H => assumption); (case F => assumption); (case e => exact rfl); intro _) | (refine' canonD ?H ?F ?e ?_; (case H => assumption); (case F => assumption); (case e => exact rfl); intro _ _)); (try k_fold); refine wpAny_execs_cons ?_)
  k_with "eval Call" => k_fold
  k_with "pyIter ref" => refine hold_out ?_
  k_with "InvEndG" => refine hold_out ?_
  k_with "InvPostG" => refine hold_out ?_
  trivial
theorem saidx_W2F_0 : True := by
  k_with "call type:range" => ((rename Fr _ _ _ _ => Fq'); (rename News _ _ _ _ => Nq'); (with_unfolding_all refine range2_rows Fq' Nq' ?_); intro _ _ _ _ _ _ _ _ _)
  trivial
section
variable {prog : Program} {w : World} {A : Around} {E : Value → Shared → Prop} {s : Shared} {h₀ : Heap} {L : Addr} {news : Led} {m : Str → Option Value}
theorem lenT9 {D : Addr} {vs : List Value} {ns : List Int} {Q : Value → Shared → Prop} (N : News h₀ L s.heap news) (hm : (D, ({ cls := .type "tuple", data := .seq vs.toArray } : Obj)) ∈ news) (hi : IntsAre vs ns) (hz : ns.length ≤ 1000)
    (h : Q (.int (ns.length : Int) (s.toks + 1)) { s with toks := s.toks + 1 + 1 }) : wpAny (model prog w) A (call (.builtin "len") [.ref D]) Q E s :=
  len_tuple (N.isTup hm) (by rw [List.size_toArray, hi.length]; omega) (by rw [List.size_toArray, hi.length]; exact h)
end
theorem said_W2F_1 : True := by
  k_with "call builtin:len" => (k_here; (with_reducible show wpAny _ _ (call (Value.builtin "len") [Value.ref _]) _ _ _); k_dflt (refine' lenT9 ?k1 ?k2 ?k3 ?k4 ?_; (case k1 => k_asm); (case k2 => k_mem); (case k3 => assumption); (case k4 => omega); k_whole))
  trivial

theorem lrs_does (w : World) (news : Led) (x : Str) (st : WsSt) (cv : List Value) (Z d D1 D2 t k1 k2 k3 k4 k5 t1 t2 t3 : Nat) (hI : IntsAre cv st.cc) (q1 : d < Z) (q2 : Z < D1) (q3 : D1 < D2) (hn : AllLt d news) (hl : st.cc.length ≤ 100) :
    Does w 3 40 102 (wsLed w x st cv Z d D1 D2 t k1 k2 k3 k4 k5 t1 t2 t3 news) [.ref Z] (fun r news' => news' = wsLed w x st cv Z d D1 D2 t k1 k2 k3 k4 k5 t1 t2 t3 news ∧ ∃ t, r = .int (max ((st.cc.length : Int) - 1) (st.b : Int)) t) := by
  unfold Does
  k_fill
  intro p loose mean mg mb dp un gd cn cs a ccd cl outer A₀ base h₀ L m s Q E B F X N T hk hd hu hret
  have HS : StB s := ⟨⟩
  refine wpAny_call ?_
  k_dflt (refine' code_def ?k1 ?k2 ?k3 ?k4 ?k5 ?kA ?kF ?kK ?k6 ?k7 ?k8 ?k9 ?kB ?_ ?c2 ?c3 ?c4 ?c5; (case kA => exact rfl); (case kF => exact rfl); (case kK => assumption); (case k1 => k_asm); (case k2 => k_asm); (case k3 => k_asm); (case k4 => k_asm); (case k5 => k_asm); (case k6 => k_is); (case k7 => k_is); (case k8 => ktr_room); (case k9 => exact BindsTo.of_eq rfl); (case c5 => decide); (case kB => exact locs rfl); (case c2 => exact rfl); (case c3 => exact rfl); (case c4 => exact rfl); k_whole; intro g' L' h' FG' F' N' B' X' T'; (try dsimp only); (try k_fold))
  refine wpAny_noRaise ?_
  have hvl := hI.length
  have hMk := kstMark
  unfold wsLed at *
  k_steps
  rename News h₀ _ _ _ => kN
  refine hret _ _ _ _ (by assumption) kN ?_
  refine ⟨rfl, ?_⟩
  rw [show max ((st.cc.length : Int) - 1) (st.b : Int) = if (st.b : Int) > (st.cc.length : Int) - 1 then (st.b : Int) else (st.cc.length : Int) - 1 by split <;> omega]
  exact ⟨_, rfl⟩
def ilSum (ts : Int) (cc : List Int) : Nat → Int
  | 0 => 0
  | k + 1 => ilSum ts cc k + Int.fdiv (ts + k) ts * cc.getD (ts + k).toNat 0
def IlJ (ts : Int) (cc : List Int) (L0 : Led) (m₀ : Str → Option Value) (i : Nat) (m : Str → Option Value) (nx : Led) : Prop :=
  ∃ (u : Str → Option Value) (t : Tok), m = (fun z => if z = Str.ofString "il" then some (.int (ilSum ts cc i) t) else mapU [Str.ofString "i"] u m₀ z) ∧ nx = L0
theorem il_does (w : World) (news : Led) (x : Str) (st : WsSt) (cv : List Value) (Z d D1 D2 t k1 k2 k3 k4 k5 t1 t2 t3 : Nat) (hI : IntsAre cv st.cc) (q1 : d < Z) (q2 : Z < D1) (q3 : D1 < D2) (hn : AllLt d news) (hl : st.cc.length ≤ 100) (ts : Int) (tt : Tok) (hts : 1 ≤ ts) (hts2 : ts ≤ 100) (hcb : ∀ c ∈ st.cc, 0 ≤ c ∧ c ≤ 100) :
    Does w 3 40 109 (wsLed w x st cv Z d D1 D2 t k1 k2 k3 k4 k5 t1 t2 t3 news) [.ref Z, .int ts tt] (fun r news' => news' = wsLed w x st cv Z d D1 D2 t k1 k2 k3 k4 k5 t1 t2 t3 news ∧ ∃ t, r = .int ((st.b : Int) + ts * (ilSum ts st.cc (st.cc.length - ts.toNat) + (st.nt : Int))) t) := by
  unfold Does
  k_fill
  intro p loose mean mg mb dp un gd cn cs a ccd cl outer A₀ base h₀ L m s Q E B F X N T hk hd hu hret
  have HS : StB s := ⟨⟩
  refine wpAny_call ?_
  k_dflt (refine' code_def ?k1 ?k2 ?k3 ?k4 ?k5 ?kA ?kF ?kK ?k6 ?k7 ?k8 ?k9 ?kB ?_ ?c2 ?c3 ?c4 ?c5; (case kA => exact rfl); (case kF => exact rfl); (case kK => assumption); (case k1 => k_asm); (case k2 => k_asm); (case k3 => k_asm); (case k4 => k_asm); (case k5 => k_asm); (case k6 => k_is); (case k7 => k_is); (case k8 => ktr_room); (case k9 => exact BindsTo.of_eq rfl); (case c5 => decide); (case kB => exact locs rfl); (case c2 => exact rfl); (case c3 => exact rfl); (case c4 => exact rfl); k_whole; intro g' L' h' FG' F' N' B' X' T'; (try dsimp only); (try k_fold))
  refine wpAny_noRaise ?_
  have hvl := hI.length
  have hMk := kstMark
  unfold wsLed at *
  k_steps
  refine Hold.mk ?_
  rename IsRange _ _ _ _ _ _ _ _ => hr
  rename News g' _ _ _ => N9
  rename Fr g' _ _ _ => F9
  k_dflt (refine rangeJ (n := st.cc.length - ts.toNat) (IlJ ts st.cc (wsLed w x st cv Z d D1 D2 t k1 k2 k3 k4 k5 t1 t2 t3 news)) (by rfl) hr (small_one (by omega) (by omega) (by omega) (by omega)) (by rw [rangeSize_nat]; omega) F9 N9 ?z ?turn ?done)
  case z => exact ⟨_, _, map_start rfl, rfl⟩
  case turn =>
    rintro i t m₁ nx h tk own hi hoff ⟨u, t9, rfl, rfl⟩ F₁ N₁
    have hz : ts ≠ 0 := by omega
    have hf0 : 0 ≤ (ts + (i : Int)).fdiv ts := Int.fdiv_nonneg (by omega) (by omega)
    have hf1 : (ts + (i : Int)).fdiv ts ≤ 200 := by
      rw [Int.fdiv_eq_ediv_of_nonneg _ (by omega)]
      exact Int.le_trans (Int.ediv_le_self _ (by omega)) (by omega)
    have hk9 : (ts + (i : Int)).toNat < st.cc.length := by omega
    have hg9 : 0 ≤ st.cc.getD (ts + (i : Int)).toNat 0 ∧ st.cc.getD (ts + (i : Int)).toNat 0 ≤ 100 := by
      rw [List.getD_eq_getElem?_getD, List.getElem?_eq_getElem hk9]
      exact hcb _ (List.getElem_mem hk9)
    unfold wsLed at N₁
    k_steps
    refine Hold.mk ?_
    rename News g' _ _ _ => N8
    rename Fr g' _ _ _ => F8
    refine InvEndG.intro (nx := wsLed w x st cv Z d D1 D2 _ k1 k2 k3 k4 k5 t1 t2 t3 news) F8 N8 ⟨_, _, map_next rfl ?_, rfl⟩ hoff (fun p hp => ?_) (fun p hp => ?_)
    · intro z h1 h2
      have h3 := h2
      simp only [List.contains_cons, List.contains_nil, Bool.or_false, beq_eq_false_iff_ne, ne_eq] at h3
      simp [h1, h3, mapU]
    · exact List.mem_append_left _ hp
    · exact List.mem_append_right _ hp
  case done =>
    rintro m₁ nx h tk ⟨u, t9, rfl, rfl⟩ F₁ N₁
    unfold wsLed at N₁
    k_steps
    rename News h₀ _ _ _ => kN
    exact hret _ _ _ _ (by assumption) kN ⟨rfl, _, rfl⟩
end Mine

end
-- SetLib
section
open PySem PySem.W PySem.Spec PySem.Calls PyProof.Rows
set_option Elab.async false
set_option maxRecDepth 100000
set_option maxHeartbeats 2000000
namespace Mine
theorem said_SetLib_0 : True := by
  k_with_none
  w_top off
  k_with "lt" => first | assumption | (refine Mine.Ar.pick (by assumption) ?_; intro hh; first | exact Mine.Ar.c1 hh | exact Mine.Ar.c2 hh | exact Mine.Ar.c3 hh | exact Mine.Ar.c4 hh | exact Mine.Ar.c5 hh | exact Mine.Ar.c6 hh | exact Mine.Ar.c7 hh | exact Mine.Ar.c8 hh | exact Mine.Ar.e2 hh | exact Mine.Ar.e3 hh | exact Mine.Ar.e4 hh | fail) | exact Mine.Ar.t1 | exact Mine.Ar.t2 | exact Mine.Ar.t3 | fail
  k_with "lt2" => first | k_extra "lt" | (refine Mine.Ar.s1 ?_; k_extra "lt") | (refine Mine.Ar.s2 ?_; k_extra "lt") | (refine Mine.Ar.s3 ?_; k_extra "lt") | fail
  k_with "omega" => with_reducible (first | assumption | decide +kernel | (refine Nat.ne_of_gt ?_; k_extra "lt2") | (refine Nat.ne_of_lt ?_; k_extra "lt2") | k_extra "lt2" | exact Mine.Ar.u1 | exact Mine.Ar.u2 | exact Mine.Ar.u3 | exact Mine.Ar.v1 | exact Mine.Ar.dp0 (by assumption) | exact Mine.Ar.dp1 (by assumption) (by decide) | exact Mine.Ar.dp2 (by assumption) (by decide) | exact Mine.Ar.ll (by assumption) (by decide) | exact Mine.Ar.l0 (by assumption) (by decide) | exact Mine.Ar.lm (by assumption) (by decide) | exact Mine.Ar.gn (by assumption) (by decide) | exact Mine.Ar.ci (by decide) | exact Mine.Ar.cz | exact Mine.Ar.li (by assumption) (by decide) | exact Mine.Ar.lj (by assumption) (by decide) | exact Mine.Ar.lk (by assumption) (by decide) | exact Mine.Ar.gi (by assumption) (by decide) | exact Mine.Ar.gj (by assumption) (by decide) | exact Mine.Ar.gk (by assumption) (by decide) | exact Mine.Ar.gl (by assumption) (by decide) | exact Mine.Ar.n0 (by assumption) | exact Mine.Ar.n1 (by assumption) (by decide) | exact Mine.Ar.m0 (by assumption) | exact Mine.Ar.m1 (by assumption) (by decide) | exact And.left (by assumption) | exact And.right (by assumption) | lia | fail)
  trivial
abbrev SC := Array (Int × Value) × SetTable
def untok (e : Int × Value) : Int × Value := (e.1, match e.2 with | .int k _ => .int k 0 | v => v)
def ledTo (b : Bool) (t : SetTable) : SetTable := { t with led := b }
def wl (w : World) : Bool := !w.params.followText "set-order"
def setO (es : Array (Int × Value)) (ep : Nat) (t : SetTable) : Obj := { cls := .type "set", dict := none, data := .set es ep t, slots := #[] }
def SetK (w : World) (o : Obj) (C : SC) : Prop := ∃ es ep, o = setO es ep (ledTo (wl w) C.2) ∧ es.map untok = C.1
def okC (C : SC) : Bool := C.1.all (fun e => match e.2 with | .int k _ => e.1 == hashInt k | _ => false) && C.2.fits C.1.size && C.2.plain && decide (C.1.size < 60)
def hasC (C : SC) (k : Int) : Bool := C.1.any fun e => e.2.isInt k
def addC (C : SC) (k : Int) : SC :=
  if hasC C k then C else
    let L := layNew C.2 C.1 (hashInt k) (.int k 0)
    if !L.2.2.1 && L.2.1.tooFull then ((relayAll L.2.1 L.1 (SetTable.grown L.1.size)).1, (relayAll L.2.1 L.1 (SetTable.grown L.1.size)).2.1) else (L.1, L.2.1)
def popC (C : SC) (i : Nat) : SC := (SetTable.eraseAt C.1 i, C.2.popped i)

theorem isInt_untok (e : Int × Value) (k : Int) : (untok e).2.isInt k = e.2.isInt k := by
  obtain ⟨h, v⟩ := e
  cases v <;> rfl
theorem has_untok {es : Array (Int × Value)} {C : SC} (e : es.map untok = C.1) (k : Int) : hasC C k = es.any (fun x => x.2.isInt k) := by
  unfold hasC
  rw [← e, Array.any_map]
  congr 1
  funext x
  exact isInt_untok x k
structure OkC (prog : Program) (w : World) (es : Array (Int × Value)) (C : SC) : Prop where
  el : ElemsOf (intKind prog w) es.toList
  fits : C.2.fits es.size = true
  plain : C.2.plain = true
  small : es.size < 60
theorem okC_of {prog : Program} {w : World} {es : Array (Int × Value)} {C : SC} (e : es.map untok = C.1) (h : okC C = true) : OkC prog w es C := by
  unfold okC at h
  simp only [Bool.and_eq_true, decide_eq_true_eq] at h
  obtain ⟨⟨⟨h1, h2⟩, h3⟩, h4⟩ := h
  have hsz : C.1.size = es.size := by rw [← e, Array.size_map]
  refine ⟨?_, hsz ▸ h2, h3, hsz ▸ h4⟩
  intro x hx
  have hx' : untok x ∈ C.1.toList := by
    rw [← e, Array.toList_map]
    exact List.mem_map_of_mem hx
  have h5 := (Array.all_eq_true_iff_forall_mem.mp h1) (untok x) (Array.mem_toList_iff.mp hx')
  obtain ⟨hh, v⟩ := x
  cases v with
  | int k t =>
    have h6 : hh = hashInt k := by simpa [untok] using h5
    exact ⟨⟨k, by show Value.isInt k (.int k t) = true; simp [Value.isInt], h6⟩, rfl⟩
  | _ => simp [untok] at h5
theorem ledTo_fits (b : Bool) (t : SetTable) (n : Nat) : (ledTo b t).fits n = t.fits n := by cases t; rfl
theorem insertAt_map {α β : Type} (f : α → β) (xs : Array α) (p : Nat) (x : α) : SetTable.insertAt (xs.map f) p (f x) = (SetTable.insertAt xs p x).map f := by
  apply Array.toList_inj.mp
  rw [SetTable.toList_insertAt, Array.toList_map, Array.toList_map, SetTable.toList_insertAt]
  simp [List.map_take, List.map_drop]
theorem eraseAt_map {α β : Type} (f : α → β) (xs : Array α) (p : Nat) : SetTable.eraseAt (xs.map f) p = (SetTable.eraseAt xs p).map f := by
  unfold SetTable.eraseAt
  apply Array.toList_inj.mp
  simp [List.extract_eq_take_drop, List.map_take, List.map_drop]
theorem orStandIn_led (b : Bool) (t : SetTable) (n : Nat) : (ledTo b t).orStandIn n = ledTo b (t.orStandIn n) := by
  unfold SetTable.orStandIn
  rw [ledTo_fits]
  split <;> rfl
theorem probe_led (b : Bool) (t : SetTable) (f : Nat → Int) (h : Int) : ∀ (n : Nat) (p : SetTable.Probe), SetTable.probe.go (ledTo b t) f h n p = SetTable.probe.go t f h n p
  | 0, _ => rfl
  | n + 1, p => by
    unfold SetTable.probe.go
    have hs : (ledTo b t).slot p.j = t.slot p.j := rfl
    have ha : ∀ q, (ledTo b t).advance q = t.advance q := fun _ => rfl
    rw [hs]
    cases t.slot p.j with
    | empty => rfl
    | dummy => dsimp only; rw [ha]; exact probe_led b t f h n _
    | live i =>
      dsimp only
      rw [ha]
      split
      · rfl
      · exact probe_led b t f h n _
theorem freeSlot_led (b : Bool) (t : SetTable) (h : Int) : (ledTo b t).freeSlot h = t.freeSlot h := by
  have hp : ∀ f p, (ledTo b t).probe f h p = t.probe f h p := fun f p => by
    unfold SetTable.probe
    exact probe_led b t f h _ p
  unfold SetTable.freeSlot
  rw [hp]
  rfl
theorem layNew_led (b : Bool) (t : SetTable) (es : Array (Int × Value)) (h : Int) (x : Value) :
    layNew (ledTo b t) es h x = ((layNew t es h x).1, ledTo b (layNew t es h x).2.1, (layNew t es h x).2.2) := by
  have hf := freeSlot_led b t h
  unfold layNew
  rw [hf]
  cases t.freeSlot h with
  | none => rfl
  | some r =>
    obtain ⟨slot, wd⟩ := r
    have hp : (ledTo b t).put slot = (ledTo b (t.put slot).1, (t.put slot).2) := rfl
    dsimp only
    rw [hp]
    dsimp only
    rw [orStandIn_led, ledTo_fits]
theorem layNew_untok (t : SetTable) (es : Array (Int × Value)) (h : Int) (k : Int) (tk : Tok) :
    layNew t (es.map untok) h (.int k 0) = ((layNew t es h (.int k tk)).1.map untok, (layNew t es h (.int k tk)).2) := by
  have hx : ((h, .int k 0) : Int × Value) = untok (h, .int k tk) := rfl
  unfold layNew
  cases t.freeSlot h with
  | none =>
    dsimp only
    rw [hx, ← Array.map_push, Array.size_map]
  | some r =>
    obtain ⟨slot, wd⟩ := r
    dsimp only
    rw [hx, insertAt_map, Array.size_map]
theorem relayAll_led (b : Bool) (t : SetTable) (es : Array (Int × Value)) (n : Nat) :
    relayAll (ledTo b t) es n = ((relayAll t es n).1, ledTo b (relayAll t es n).2.1, (relayAll t es n).2.2) := by
  have hr : (ledTo b t).relaid (es.map (·.1)) n = (t.relaid (es.map (·.1)) n).map fun r => (ledTo b r.1, r.2) := by
    have hm : (ledTo b t).movedTo (SetTable.sizeAbove n - 1) = t.movedTo (SetTable.sizeAbove n - 1) := rfl
    unfold SetTable.relaid SetTable.laid
    rw [hm]
    cases SetTable.layClean (SetTable.sizeAbove n - 1) (es.map (·.1)) with
    | none => rfl
    | some o => rfl
  unfold relayAll
  rw [hr]
  cases t.relaid (es.map (·.1)) n with
  | none => rfl
  | some r =>
    obtain ⟨t', order⟩ := r
    dsimp only [Option.map_some]
    rw [ledTo_fits]
    split <;> rfl
theorem relayAll_untok (t : SetTable) (es : Array (Int × Value)) (n : Nat) :
    relayAll t (es.map untok) n = ((relayAll t es n).1.map untok, (relayAll t es n).2) := by
  have h1 : (es.map untok).map (·.1) = es.map (·.1) := by rw [Array.map_map]; rfl
  unfold relayAll
  rw [h1]
  cases t.relaid (es.map (·.1)) n with
  | none => dsimp only; rw [Array.size_map]
  | some r =>
    obtain ⟨t', order⟩ := r
    dsimp only
    have h2 : order.filterMap (fun i => (es.map untok)[i]?) = (order.filterMap fun i => es[i]?).map untok := by
      apply Array.toList_inj.mp
      simp [Array.toList_filterMap, List.map_filterMap]
    rw [h2, Array.size_map, Array.size_map]
    split <;> rfl
end Mine

end
-- SetLib2
section
open PySem PySem.W PySem.Spec PySem.Calls PyProof.Rows
set_option Elab.async false
set_option maxRecDepth 100000
set_option maxHeartbeats 2000000
namespace Mine
theorem said_SetLib2_0 : True := by
  k_with_none
  w_top off
  k_with "lt" => first | assumption | (refine Mine.Ar.pick (by assumption) ?_; intro hh; first | exact Mine.Ar.c1 hh | exact Mine.Ar.c2 hh | exact Mine.Ar.c3 hh | exact Mine.Ar.c4 hh | exact Mine.Ar.c5 hh | exact Mine.Ar.c6 hh | exact Mine.Ar.c7 hh | exact Mine.Ar.c8 hh | exact Mine.Ar.e2 hh | exact Mine.Ar.e3 hh | exact Mine.Ar.e4 hh | fail) | exact Mine.Ar.t1 | exact Mine.Ar.t2 | exact Mine.Ar.t3 | fail
  k_with "lt2" => first | k_extra "lt" | (refine Mine.Ar.s1 ?_; k_extra "lt") | (refine Mine.Ar.s2 ?_; k_extra "lt") | (refine Mine.Ar.s3 ?_; k_extra "lt") | fail
  k_with "omega" => with_reducible (first | assumption | decide +kernel | (refine Nat.ne_of_gt ?_; k_extra "lt2") | (refine Nat.ne_of_lt ?_; k_extra "lt2") | k_extra "lt2" | exact Mine.Ar.u1 | exact Mine.Ar.u2 | exact Mine.Ar.u3 | exact Mine.Ar.v1 | exact Mine.Ar.dp0 (by assumption) | exact Mine.Ar.dp1 (by assumption) (by decide) | exact Mine.Ar.dp2 (by assumption) (by decide) | exact Mine.Ar.ll (by assumption) (by decide) | exact Mine.Ar.l0 (by assumption) (by decide) | exact Mine.Ar.lm (by assumption) (by decide) | exact Mine.Ar.gn (by assumption) (by decide) | exact Mine.Ar.ci (by decide) | exact Mine.Ar.cz | exact Mine.Ar.li (by assumption) (by decide) | exact Mine.Ar.lj (by assumption) (by decide) | exact Mine.Ar.lk (by assumption) (by decide) | exact Mine.Ar.gi (by assumption) (by decide) | exact Mine.Ar.gj (by assumption) (by decide) | exact Mine.Ar.gk (by assumption) (by decide) | exact Mine.Ar.gl (by assumption) (by decide) | exact Mine.Ar.n0 (by assumption) | exact Mine.Ar.n1 (by assumption) (by decide) | exact Mine.Ar.m0 (by assumption) | exact Mine.Ar.m1 (by assumption) (by decide) | exact And.left (by assumption) | exact And.right (by assumption) | lia | fail)
  trivial
section
variable {prog : Program} {w : World} {A : Around} {E : Value → Shared → Prop} {s : Shared} {h₀ : Heap} {L sa : Addr} {m : Str → Option Value} {news : Led} {o : Obj} {C : SC}
theorem wp_choose9 {src : Source} {n : Nat} {Q : Nat → Shared → Prop} (hn : n ≠ 0) (h : ∀ i, i < n → Q i { s with drawn := s.drawn.bump src }) : wpAny (model prog w) A (choose src n) Q E s :=
  fun _ _ _ => ⟨hn, h _ (Nat.mod_lt _ (Nat.pos_of_ne_zero hn))⟩
theorem wp_setsByText {Q : Bool → Shared → Prop} (h : Q (w.params.followText "set-order") s) : wpAny (model prog w) A setsByText Q E s := by
  unfold setsByText
  exact wpAny_bind (wpAny_askSetting (wpAny_pure h))
def newC : SC := (#[], .fresh 0 0 true)
theorem setK_new (w : World) : SetK w (setO #[] 0 (.fresh 0 0 (wl w))) newC := ⟨#[], 0, rfl, by simp [newC]⟩
theorem wp_newSet {Q : Value → Shared → Prop} (h : Q (.ref s.heap.objs.size) { s with heap := s.heap.push (setO #[] 0 (.fresh 0 0 (wl w))) }) :
    wpAny (model prog w) A (newSet (.type "set")) Q E s := by
  unfold newSet
  refine wpAny_bind (wp_setsByText ?_)
  dsimp only
  simp only [newObj]
  exact wpAny_bind (wpAny_alloc (wpAny_pure h))

theorem setO_state {a : Addr} {es : Array (Int × Value)} {ep : Nat} {t : SetTable} {Q : (Array (Int × Value) × Nat × SetTable) → Shared → Prop} (ho : s.heap.get? a = some (setO es ep t)) (hf : t.fits es.size = true) (h : Q (es, ep, t) s) :
    wpAny (model prog w) A (setState a) Q E s := wpAny_setState_of ho rfl hf h

/-- adding an int to a set whose table is known. -/
theorem add_core {a : Addr} {k : Int} {tk : Tok} {Q : Bool → Shared → Prop} (ho : s.heap.get? a = some o) (hK : SetK w o C) (hC : okC C = true)
    (h : ∀ h' o', Heap.SameBut a s.heap h' → h'.get? a = some o' → SetK w o' (addC C k) → Q (!hasC C k) { s with heap := h' }) :
    wpAny (model prog w) A (setAddHashed a (.int k tk) (hashInt k)) Q E s := by
  obtain ⟨es, ep, rfl, he⟩ := hK
  have ok := okC_of (prog := prog) (w := w) he hC
  have hf : (ledTo (wl w) C.2).fits es.size = true := by rw [ledTo_fits]; exact ok.fits
  have hkey : (intKind prog w).is k (.int k tk) = true := by show Value.isInt k (.int k tk) = true; simp [Value.isInt]
  have hb : es.size < scanBound := Nat.lt_trans ok.small (by decide)
  unfold setAddHashed setAddHashedIn
  refine wpAny_holding (wpAny_bind (wpAny_setState_of ho rfl hf ?_))
  dsimp only
  rw [byScan_of (knd := intKind prog w) rfl hb ok.el]
  simp only [↓reduceIte]
  unfold setAddByScan
  refine wpAny_bind (wpAny_bind (wpAny_rule ?_))
  refine wpAny_bind (wpAny_setScan_of (knd := intKind prog w) hkey ho rfl hf ok.el ?_)
  have hany : hasC C k = es.toList.any (fun e => (intKind prog w).is k e.2) := by
    rw [has_untok he, Array.any_toList]; rfl
  cases hr : List.findIdx? (fun e => (intKind prog w).is k e.2) es.toList with
  | some j =>
    have hh : hasC C k = true := by
      rw [hany]
      obtain ⟨hj, hp, _⟩ := List.findIdx?_eq_some_iff_getElem.mp hr
      exact List.any_eq_true.mpr ⟨_, List.getElem_mem hj, hp⟩
    dsimp only
    refine wpAny_pure (wpAny_pure ?_)
    have e2 : s = { s with heap := s.heap } := by cases s; rfl
    have := h s.heap _ (Heap.SameBut.refl a s.heap) ho ⟨es, ep, by rw [addC, if_pos hh], by rw [addC, if_pos hh]; exact he⟩
    rw [hh] at this
    rw [e2]
    exact this
  | none =>
    have hh : hasC C k = false := by
      rw [hany]
      have := List.findIdx?_eq_none_iff.mp hr
      rw [List.any_eq_false]
      intro x hx
      rw [this x hx]
      exact Bool.false_ne_true
    have hgw : ∀ (b : Bool) {s₁ : Shared} {Q' : Unit → Shared → Prop}, Q' () s₁ → wpAny (model prog w) A (match b with | true => rule "set.scan.the-table-gave-way" | false => pure ()) Q' E s₁ :=
      fun b s₁ Q' hq => by cases b <;> first | exact wpAny_pure hq | exact wpAny_rule hq
    have hL := layNew_led (wl w) C.2 es (hashInt k) (.int k tk)
    have hU : layNew C.2 C.1 (hashInt k) (.int k 0) = ((layNew C.2 es (hashInt k) (.int k tk)).1.map untok, (layNew C.2 es (hashInt k) (.int k tk)).2) := by rw [← he]; exact layNew_untok C.2 es (hashInt k) k tk
    have hsz : (layNew C.2 es (hashInt k) (.int k tk)).1.size = es.size + 1 := by
      have hp := (layNew_perm C.2 es (hashInt k) (.int k tk)).length_eq
      simpa using hp
    have hfit := layNew_fits C.2 es (hashInt k) (.int k tk)
    have hadd : addC C k = if !(layNew C.2 es (hashInt k) (.int k tk)).2.2.1 && (layNew C.2 es (hashInt k) (.int k tk)).2.1.tooFull then
        ((relayAll (layNew C.2 es (hashInt k) (.int k tk)).2.1 (layNew C.2 es (hashInt k) (.int k tk)).1 (SetTable.grown (es.size + 1))).1.map untok, (relayAll (layNew C.2 es (hashInt k) (.int k tk)).2.1 (layNew C.2 es (hashInt k) (.int k tk)).1 (SetTable.grown (es.size + 1))).2.1)
        else ((layNew C.2 es (hashInt k) (.int k tk)).1.map untok, (layNew C.2 es (hashInt k) (.int k tk)).2.1) := by
      unfold addC
      rw [if_neg (by rw [hh]; exact Bool.false_ne_true), hU]
      dsimp only
      rw [Array.size_map, hsz, relayAll_untok]
    dsimp only
    rw [hL]
    dsimp only
    have hpl : (ledTo (wl w) (layNew C.2 es (hashInt k) (.int k tk)).2.1).plain = (layNew C.2 es (hashInt k) (.int k tk)).2.1.plain := rfl
    have htf : (ledTo (wl w) (layNew C.2 es (hashInt k) (.int k tk)).2.1).tooFull = (layNew C.2 es (hashInt k) (.int k tk)).2.1.tooFull := rfl
    have hsl : (layNew C.2 es (hashInt k) (.int k tk)).1.size ≤ sizeLine := fits_of_scanBound (by rw [hsz]; have := ok.small; have : scanBound = 4096 := rfl; omega)
    generalize layNew C.2 es (hashInt k) (.int k tk) = R at *
    obtain ⟨es1, t1, wd, gave⟩ := R
    dsimp only at *
    refine wpAny_bind (hgw _ ?_)
    have tail : ∀ {Q' : Option Bool → Shared → Prop}, (∀ h' o', Heap.SameBut a s.heap h' → h'.get? a = some o' → SetK w o' (addC C k) → Q' (some true) { s with heap := h' }) →
        wpAny (model prog w) A (do
          storeSet a es1 (ledTo (wl w) t1)
          if (!wd && (ledTo (wl w) t1).tooFull) = true then do
              (fun b : Bool => (match b with | true => rule "set.scan.the-table-gave-way" | false => pure () : Sem Unit)) (relayAll (ledTo (wl w) t1) es1 (SetTable.grown es1.size)).2.2
              storeSet a (relayAll (ledTo (wl w) t1) es1 (SetTable.grown es1.size)).1 (relayAll (ledTo (wl w) t1) es1 (SetTable.grown es1.size)).2.1
              pure (some true)
            else pure (some true)) Q' E s := by
      intro Q' hq
      refine wpAny_bind (wpAny_storeSet_of ho rfl ?_ hsl)
      have hg1 : (s.heap.update a (Obj.putSet es1 (ledTo (wl w) t1))).get? a = some (setO es1 (ep + 1) (ledTo (wl w) t1)) := by
        have := Heap.get?_update_self (Obj.putSet es1 (ledTo (wl w) t1)) ho (by rfl)
        rwa [putSet_of es1 (ledTo (wl w) t1) (by rfl : (setO es ep (ledTo (wl w) C.2)).data = .set es ep (ledTo (wl w) C.2))] at this
      have hsb1 := Heap.SameBut.update s.heap a (Obj.putSet es1 (ledTo (wl w) t1))
      rw [htf]
      split
      · rename_i hc
        rw [relayAll_led]
        dsimp only
        have hsz2 : (relayAll t1 es1 (SetTable.grown es1.size)).1.size = es1.size := by
          have := (relayAll_perm t1 es1 (SetTable.grown es1.size)).length_eq
          simpa using this
        refine wpAny_bind (hgw _ ?_)
        refine wpAny_bind (wpAny_storeSet_of hg1 rfl ?_ (by rw [hsz2]; exact hsl))
        refine wpAny_pure ?_
        have hg2 : ((s.heap.update a (Obj.putSet es1 (ledTo (wl w) t1))).update a (Obj.putSet (relayAll t1 es1 (SetTable.grown es1.size)).1 (ledTo (wl w) (relayAll t1 es1 (SetTable.grown es1.size)).2.1))).get? a = some (setO (relayAll t1 es1 (SetTable.grown es1.size)).1 (ep + 1 + 1) (ledTo (wl w) (relayAll t1 es1 (SetTable.grown es1.size)).2.1)) := by
          have := Heap.get?_update_self (Obj.putSet (relayAll t1 es1 (SetTable.grown es1.size)).1 (ledTo (wl w) (relayAll t1 es1 (SetTable.grown es1.size)).2.1)) hg1 (by rfl)
          rwa [putSet_of _ _ (by rfl : (setO es1 (ep + 1) (ledTo (wl w) t1)).data = .set es1 (ep + 1) (ledTo (wl w) t1))] at this
        refine hq _ _ (hsb1.trans (Heap.SameBut.update _ a _)) hg2 ⟨(relayAll t1 es1 (SetTable.grown es1.size)).1, ep + 1 + 1, ?_, ?_⟩
        · rw [hadd, if_pos hc, ← hsz]
        · rw [hadd, if_pos hc, ← hsz]
      · rename_i hc
        refine wpAny_pure (hq _ _ hsb1 hg1 ⟨es1, ep + 1, ?_, ?_⟩)
        · rw [hadd, if_neg hc]
        · rw [hadd, if_neg hc]
    have fin : ∀ h' o', Heap.SameBut a s.heap h' → h'.get? a = some o' → SetK w o' (addC C k) → Q true { s with heap := h' } := fun h' o' x y z => by
      have := h h' o' x y z
      rwa [hh] at this
    rw [hashByValue_scannable 8 (x := .int k tk) rfl]
    split
    · refine wpAny_bind (wpAny_pure ?_)
      refine tail fun h' o' x y z => ?_
      dsimp only
      exact wpAny_pure (fin h' o' x y z)
    · refine wpAny_bind (wpAny_pure ?_)
      simp only [↓reduceIte]
      refine tail fun h' o' x y z => ?_
      dsimp only
      exact wpAny_pure (fin h' o' x y z)
end
end Mine

end
-- SetLib3
section
open PySem PySem.W PySem.Spec PySem.Calls PyProof.Rows
set_option Elab.async false
set_option maxRecDepth 100000
set_option maxHeartbeats 2000000
namespace Mine
theorem said_SetLib3_0 : True := by
  k_with_none
  w_top off
  k_with "lt" => first | assumption | (refine Mine.Ar.pick (by assumption) ?_; intro hh; first | exact Mine.Ar.c1 hh | exact Mine.Ar.c2 hh | exact Mine.Ar.c3 hh | exact Mine.Ar.c4 hh | exact Mine.Ar.c5 hh | exact Mine.Ar.c6 hh | exact Mine.Ar.c7 hh | exact Mine.Ar.c8 hh | exact Mine.Ar.e2 hh | exact Mine.Ar.e3 hh | exact Mine.Ar.e4 hh | fail) | exact Mine.Ar.t1 | exact Mine.Ar.t2 | exact Mine.Ar.t3 | fail
  k_with "lt2" => first | k_extra "lt" | (refine Mine.Ar.s1 ?_; k_extra "lt") | (refine Mine.Ar.s2 ?_; k_extra "lt") | (refine Mine.Ar.s3 ?_; k_extra "lt") | fail
  k_with "omega" => with_reducible (first | assumption | decide +kernel | (refine Nat.ne_of_gt ?_; k_extra "lt2") | (refine Nat.ne_of_lt ?_; k_extra "lt2") | k_extra "lt2" | exact Mine.Ar.u1 | exact Mine.Ar.u2 | exact Mine.Ar.u3 | exact Mine.Ar.v1 | exact Mine.Ar.dp0 (by assumption) | exact Mine.Ar.dp1 (by assumption) (by decide) | exact Mine.Ar.dp2 (by assumption) (by decide) | exact Mine.Ar.ll (by assumption) (by decide) | exact Mine.Ar.l0 (by assumption) (by decide) | exact Mine.Ar.lm (by assumption) (by decide) | exact Mine.Ar.gn (by assumption) (by decide) | exact Mine.Ar.ci (by decide) | exact Mine.Ar.cz | exact Mine.Ar.li (by assumption) (by decide) | exact Mine.Ar.lj (by assumption) (by decide) | exact Mine.Ar.lk (by assumption) (by decide) | exact Mine.Ar.gi (by assumption) (by decide) | exact Mine.Ar.gj (by assumption) (by decide) | exact Mine.Ar.gk (by assumption) (by decide) | exact Mine.Ar.gl (by assumption) (by decide) | exact Mine.Ar.n0 (by assumption) | exact Mine.Ar.n1 (by assumption) (by decide) | exact Mine.Ar.m0 (by assumption) | exact Mine.Ar.m1 (by assumption) (by decide) | exact And.left (by assumption) | exact And.right (by assumption) | lia | fail)
  trivial
theorem nobool_set9 : typeLookup (.type "set") "__bool__" = pure none := by rw [typeLookup_type, builtinLookup_eq_fast]; kernel_rfl
section
variable {prog : Program} {w : World} {A : Around} {E : Value → Shared → Prop} {s : Shared} {h₀ : Heap} {L sa : Addr} {m : Str → Option Value} {news : Led} {o : Obj} {C : SC} {g : Obj → Led}
theorem SetK.setOf (hK : SetK w o C) (hC : okC C = true) {a : Addr} (ho : s.heap.get? a = some o) : s.heap.SetOf (intKind prog w) a (hasC C) C.1.size := by
  obtain ⟨es, ep, rfl, he⟩ := hK
  have ok := okC_of (prog := prog) (w := w) he hC
  refine ⟨_, es, ep, _, ho, ⟨rfl, rfl, rfl⟩, rfl, ok.el, fun k => ?_, Nat.lt_trans ok.small (by decide), by rw [ledTo_fits]; exact ok.fits, by rw [← he, Array.size_map]⟩
  rw [has_untok he, Array.any_eq_true']
  constructor
  · rintro ⟨x, hx, hp⟩; exact ⟨x, Array.mem_toList_iff.mpr hx, hp⟩
  · rintro ⟨x, hx, hp⟩; exact ⟨x, Array.mem_toList_iff.mp hx, hp⟩
theorem SetK.typeIs (hK : SetK w o C) {a : Addr} (ho : s.heap.get? a = some o) : s.TypeIs (.ref a) "set" := by
  obtain ⟨es, ep, rfl, he⟩ := hK
  exact ⟨_, ho, rfl⟩
theorem SetK.noDict (hK : SetK w o C) {a : Addr} (ho : s.heap.get? a = some o) : ∀ b, Value.ref a = .ref b → ∃ ob, s.heap.get? b = some ob ∧ ob.dict = none := by
  obtain ⟨es, ep, rfl, he⟩ := hK
  rintro b e
  injection e with e
  subst e
  exact ⟨_, ho, rfl⟩
theorem sk_add_method {pl : Sem Bool} {Q : Value × List Value → Shared → Prop} (N : News h₀ L s.heap news) (U : UpdF sa o news g) (hK : SetK w o C) (hC : okC C = true) (h : Q (.builtin "set.add", [.ref sa]) s) :
    wpAny (model prog w) A (getMethod (.ref sa) "add" pl) Q E s := by
  obtain ⟨pre, post, rfl, _, _, _⟩ := U.split
  have hm := N (sa, o) (List.mem_append_right _ (.head _))
  exact getMethod_set_add (knd := intKind prog w) (hK.setOf hC hm.1) h
theorem sk_pop_method {pl : Sem Bool} {Q : Value × List Value → Shared → Prop} (N : News h₀ L s.heap news) (U : UpdF sa o news g) (hK : SetK w o C) (h : Q (.builtin "set.pop", [.ref sa]) s) :
    wpAny (model prog w) A (getMethod (.ref sa) "pop" pl) Q E s := by
  obtain ⟨pre, post, rfl, _, _, _⟩ := U.split
  have hm := N (sa, o) (List.mem_append_right _ (.head _))
  exact getMethod_builtin (hK.typeIs hm.1) _root_.PySem.F.plainAttrs_set _root_.PySem.F.slot_set_pop _root_.PySem.F.type_set_pop (hK.noDict hm.1) h
theorem sk_setAdd {k : Int} {tk : Tok} {Q : Bool → Shared → Prop} (F : Fr h₀ L s.heap m) (N : News h₀ L s.heap news) (U : UpdF sa o news g) (hK : SetK w o C) (hC : okC C = true)
    (h : ∀ h' o', Fr h₀ L h' m → News h₀ L h' (g o') → SetK w o' (addC C k) → Q (!hasC C k) { s with heap := h', toks := s.toks + 1 }) :
    wpAny (model prog w) A (setAdd sa (.int k tk)) Q E s := by
  obtain ⟨pre, post, rfl, hg, a, b⟩ := U.split
  have hm := N (sa, o) (List.mem_append_right _ (.head _))
  unfold setAdd
  refine wpAny_holding (wpAny_bind ((intKind prog w).pyHash (k := k) (by show Value.isInt k (.int k tk) = true; simp [Value.isInt]) ?_))
  refine add_core (s := { s with toks := s.toks + 1 }) hm.1 hK hC fun h' o' hsb ho' hK' => ?_
  exact h h' o' (F.change hsb hm.2.1 hm.2.2) (hg o' ▸ N.setIn a b hsb ho') hK'
theorem sk_add {k : Int} {tk : Tok} {Q : Value → Shared → Prop} (F : Fr h₀ L s.heap m) (N : News h₀ L s.heap news) (U : UpdF sa o news g) (hK : SetK w o C) (hC : okC C = true)
    (h : ∀ h' o', Fr h₀ L h' m → News h₀ L h' (g o') → SetK w o' (addC C k) → Q .none { s with heap := h', toks := s.toks + 1 }) :
    wpAny (model prog w) A (call (.builtin "set.add") [.ref sa, .int k tk]) Q E s := by
  obtain ⟨pre, post, rfl, hg, a, b⟩ := U.split
  have hm := N (sa, o) (List.mem_append_right _ (.head _))
  have U9 : UpdF sa o (pre ++ (sa, o) :: post) (fun so => pre ++ (sa, so) :: post) := by
    have : g = fun so => pre ++ (sa, so) :: post := funext hg
    exact this ▸ U
  refine wpAny_call_entry _root_.PySem.F.slot_set_add (hK.typeIs hm.1) _root_.PySem.F.entry_set_add ?_ (_root_.PySem.F.args_set_add_2 _ _)
  unfold Builtin.«set.add» Builtin.Frozenset.oneOther
  simp only [List.isEmpty_nil, bind_assoc]
  unfold Builtin.Frozenset.addrOf
  refine wpAny_bind (wpAny_pure ?_)
  try dsimp only
  refine wpAny_bind (wpAny_pure ?_)
  try dsimp only
  refine wpAny_bind (sk_setAdd (g := fun so => pre ++ (sa, so) :: post) F N U9 hK hC fun h' o' F' N' hK' => ?_)
  exact wpAny_pure ⟨_, rfl, h h' o' F' ((hg o') ▸ N') hK'⟩
theorem sk_in {k : Int} {tk : Tok} {Q : Value → Shared → Prop} (N : News h₀ L s.heap news) (U : UpdF sa o news g) (hK : SetK w o C) (hC : okC C = true) (h : Q (.bool (hasC C k)) { s with toks := s.toks + 1 }) :
    wpAny (model prog w) A (compareOp .In (.int k tk) (.ref sa)) Q E s := by
  obtain ⟨pre, post, rfl, _, _, _⟩ := U.split
  have hm := N (sa, o) (List.mem_append_right _ (.head _))
  exact wpAny_inSet_of (knd := intKind prog w) (k := k) (by show Value.isInt k (.int k tk) = true; simp [Value.isInt]) rfl (hK.setOf hC hm.1) h
theorem sk_truthy {Q : Bool → Shared → Prop} (N : News h₀ L s.heap news) (U : UpdF sa o news g) (hK : SetK w o C) (hC : okC C = true) (h : Q (decide (C.1.size ≠ 0)) { s with toks := s.toks + 1 + 1 }) :
    wpAny (model prog w) A (truthy (.ref sa)) Q E s := by
  obtain ⟨pre, post, rfl, _, _, _⟩ := U.split
  have hm := N (sa, o) (List.mem_append_right _ (.head _))
  have hT := hK.typeIs hm.1
  obtain ⟨es, ep, rfl, he⟩ := hK
  have ok := okC_of (prog := prog) (w := w) he hC
  have hsz : C.1.size = es.size := by rw [← he, Array.size_map]
  have hne : ((es.size : Int) != 0) = decide (C.1.size ≠ 0) := by
    rw [hsz]
    by_cases e : es.size = 0
    · simp [e]
    · simp [e]
  have key : wpAny (model prog w) A (runValue (.builtin "len" ⟨[.ref sa], []⟩)) (fun r s' => r = .int es.size (s.toks + 1) ∧ Q (decide (C.1.size ≠ 0)) s') E s := by
    refine wpAny_runValue (codeAny_builtin entry_len ?_)
    rw [Around.under_plainId plain_len _]
    exact wpAny_mono (wpAny_len_body_set (Q := fun r s' => r = .int es.size (s.toks + 1) ∧ Q (decide (C.1.size ≠ 0)) s') hm.1 ⟨rfl, rfl, rfl⟩ rfl (by rw [ledTo_fits]; exact ok.fits) (by have := ok.small; omega) ⟨rfl, h⟩)
      (fun fin s' h' => by obtain ⟨r, rfl, hq⟩ := h'; exact hq) fun _ _ e => e
  unfold truthy
  first
    | refine wpAny_bind (wpAny_callSpecial?_none (name := Str.ofString "__bool__") hT nobool_set9 ?_)
    | refine wpAny_bind (wpAny_pure (wpAny_bind (wpAny_callSpecial?_none (name := Str.ofString "__bool__") hT nobool_set9 ?_)))
  first
    | refine wpAny_bind (wpAny_specialOf (name := Str.ofString "__len__") hT _root_.PySem.F.slot_set_len.lookup ?_)
    | refine wpAny_bind (wpAny_pure (wpAny_bind (wpAny_specialOf (name := Str.ofString "__len__") hT _root_.PySem.F.slot_set_len.lookup ?_)))
  first
    | exact wpAny_bind (wpAny_mono key (fun r s' h' => by obtain ⟨rfl, hq⟩ := h'; exact wpAny_pure (hne ▸ hq)) fun _ _ e => e)
    | exact wpAny_bind (wpAny_pure (wpAny_bind (wpAny_mono key (fun r s' h' => by obtain ⟨rfl, hq⟩ := h'; exact wpAny_pure (hne ▸ hq)) fun _ _ e => e)))
theorem popped_led (b : Bool) (t : SetTable) (i : Nat) : (ledTo b t).popped i = ledTo b (t.popped i) := by
  have hd : (ledTo b t).drop i = ledTo b (t.drop i) := by
    unfold SetTable.drop
    have : (ledTo b t).place[i]? = t.place[i]? := rfl
    rw [this]
    cases t.place[i]? <;> rfl
  unfold SetTable.popped
  rw [hd]
  rfl
theorem sk_pop {Q : Value → Shared → Prop} (F : Fr h₀ L s.heap m) (N : News h₀ L s.heap news) (U : UpdF sa o news g) (hK : SetK w o C) (hC : okC C = true) (hne : C.1.size ≠ 0)
    (h : ∀ h' o' (i : Nat) (k : Int) (tk : Tok) dr, Fr h₀ L h' m → News h₀ L h' (g o') → SetK w o' (popC C i) → C.1[i]? = some (hashInt k, .int k 0) → Q (.int k tk) { s with heap := h', drawn := dr }) :
    wpAny (model prog w) A (call (.builtin "set.pop") [.ref sa]) Q E s := by
  obtain ⟨pre, post, rfl, hg, a, b⟩ := U.split
  have hm := N (sa, o) (List.mem_append_right _ (.head _))
  have hT := hK.typeIs hm.1
  obtain ⟨es, ep, rfl, he⟩ := hK
  have ok := okC_of (prog := prog) (w := w) he hC
  have hsz : C.1.size = es.size := by rw [← he, Array.size_map]
  have hf : (ledTo (wl w) C.2).fits es.size = true := by rw [ledTo_fits]; exact ok.fits
  have hpl : (ledTo (wl w) C.2).place.size = es.size := by
    have := ok.fits
    simp only [SetTable.fits, Bool.and_eq_true, beq_iff_eq, decide_eq_true_eq] at this
    exact this.1
  refine wpAny_call_entry _root_.PySem.F.slot_set_pop hT _root_.PySem.F.entry_set_pop ?_ (_root_.PySem.F.args_set_pop_1 _)
  unfold Builtin.«set.pop»
  refine wpAny_bind (wpAny_pure ?_)
  have fin : ∀ (i : Nat) dr, i < es.size → wpAny (model prog w) A.in1 (do
      let some (_, x) := es[i]? | unsupported "internal:set.pop"
      storeSet sa (SetTable.eraseAt es i) ((ledTo (wl w) C.2).popped i)
      return some x) (fun r s' => ∃ k tk, r = some (.int k tk) ∧ Q (.int k tk) s') (fun _ _ => False) { s with drawn := dr } := by
    intro i dr hi
    rcases hx : es[i] with ⟨hk, v⟩
    have hgi : es[i]? = some (hk, v) := by rw [Array.getElem?_eq_getElem hi, hx]
    obtain ⟨⟨k, hk1, hk2⟩, _⟩ := ok.el (hk, v) (by rw [← hx]; exact Array.getElem_mem_toList hi)
    obtain ⟨tk, hv⟩ := Value.isInt_shape hk1
    dsimp only at hv hk2
    subst hv
    rw [hgi]
    dsimp only
    refine wpAny_bind (wpAny_storeSet_of (s := { s with drawn := dr }) hm.1 rfl ?_ ?_)
    · have hg1 : (s.heap.update sa (Obj.putSet (SetTable.eraseAt es i) ((ledTo (wl w) C.2).popped i))).get? sa = some (setO (SetTable.eraseAt es i) (ep + 1) ((ledTo (wl w) C.2).popped i)) := by
        have := Heap.get?_update_self (Obj.putSet (SetTable.eraseAt es i) ((ledTo (wl w) C.2).popped i)) hm.1 (by rfl)
        rwa [putSet_of _ _ (by rfl : (setO es ep (ledTo (wl w) C.2)).data = .set es ep (ledTo (wl w) C.2))] at this
      have hsb := Heap.SameBut.update s.heap sa (Obj.putSet (SetTable.eraseAt es i) ((ledTo (wl w) C.2).popped i))
      refine wpAny_pure ⟨k, tk, rfl, h _ _ i k tk dr (F.change hsb hm.2.1 hm.2.2) (hg _ ▸ N.setIn a b hsb hg1) ⟨SetTable.eraseAt es i, ep + 1, by rw [popped_led]; rfl, ?_⟩ ?_⟩
      · show _ = SetTable.eraseAt C.1 i
        rw [← he, eraseAt_map]
      · rw [← he, Array.getElem?_map, hgi, hk2]; rfl
    · have : (SetTable.eraseAt es i).size ≤ es.size := by simp [SetTable.eraseAt]; omega
      have h2 := ok.small
      exact Nat.le_trans this (Nat.le_trans (Nat.le_of_lt h2) (by rw [sizeLine_eq]; omega))
  refine wpAny_bind (wpAny_mono (Q := fun r s' => ∃ k tk, r = some (.int k tk) ∧ Q (.int k tk) s') (E := fun _ _ => False) ?_ ?_ ?_)
  · obtain ⟨bf, hbf, hlt⟩ : ∃ bf, (ledTo (wl w) C.2).popPlace = some bf ∧ bf < es.size := by
      unfold SetTable.popPlace
      have hne2 : es.size ≠ 0 := hsz ▸ hne
      have he0 : (ledTo (wl w) C.2).place.isEmpty = false := by
        unfold Array.isEmpty
        rw [hpl]
        exact decide_eq_false hne2
      rw [he0]
      simp only [Bool.false_eq_true, ↓reduceIte]
      refine ⟨_, rfl, ?_⟩
      split
      · rw [← hpl]; assumption
      · exact Nat.pos_of_ne_zero hne2
    unfold setPop
    refine wpAny_bind (wpAny_setState_of hm.1 rfl hf ?_)
    dsimp only
    rw [hbf]
    dsimp only
    refine wpAny_bind (wp_setsByText ?_)
    split
    · exact wpAny_bind (wp_choose9 (by rw [← hsz]; exact hne) fun i hi => fin i _ hi)
    · rename_i hnb
      have hb : w.params.followText "set-order" = false := by
        cases hq : w.params.followText "set-order" with
        | false => rfl
        | true => rw [hq] at hnb; exact absurd rfl hnb
      refine wpAny_bind ?_
      show wpAny _ _ (if (!(ledTo (wl w) C.2).led && decide (es.size > 1)) = true then _ else _) _ _ _
      rw [if_neg (by show ¬ (!(wl w) && _) = true; rw [wl, hb]; simp)]
      refine wpAny_pure (wpAny_bind (wpAny_pure ?_))
      have e2 : s = { s with drawn := s.drawn } := by cases s; rfl
      rw [e2]
      exact fin bf _ hlt
  · rintro r s' ⟨k, tk, rfl, hq⟩
    exact wpAny_pure ⟨_, rfl, hq⟩
  · intro _ _ x
    exact x.elim
end
end Mine

end
-- SetLib4
section
open PySem PySem.W PySem.Spec PySem.Calls PyProof.Rows
set_option Elab.async false
set_option maxRecDepth 100000
set_option maxHeartbeats 4000000
namespace Mine
theorem said_SetLib4_0 : True := by
  k_with_none
  w_top off
  k_with "lt" => first | assumption | (refine Mine.Ar.pick (by assumption) ?_; intro hh; first | exact Mine.Ar.c1 hh | exact Mine.Ar.c2 hh | exact Mine.Ar.c3 hh | exact Mine.Ar.c4 hh | exact Mine.Ar.c5 hh | exact Mine.Ar.c6 hh | exact Mine.Ar.c7 hh | exact Mine.Ar.c8 hh | exact Mine.Ar.e2 hh | exact Mine.Ar.e3 hh | exact Mine.Ar.e4 hh | fail) | exact Mine.Ar.t1 | exact Mine.Ar.t2 | exact Mine.Ar.t3 | fail
  k_with "lt2" => first | k_extra "lt" | (refine Mine.Ar.s1 ?_; k_extra "lt") | (refine Mine.Ar.s2 ?_; k_extra "lt") | (refine Mine.Ar.s3 ?_; k_extra "lt") | fail
  k_with "omega" => with_reducible (first | assumption | decide +kernel | (refine Nat.ne_of_gt ?_; k_extra "lt2") | (refine Nat.ne_of_lt ?_; k_extra "lt2") | k_extra "lt2" | exact Mine.Ar.u1 | exact Mine.Ar.u2 | exact Mine.Ar.u3 | exact Mine.Ar.v1 | exact Mine.Ar.dp0 (by assumption) | exact Mine.Ar.dp1 (by assumption) (by decide) | exact Mine.Ar.dp2 (by assumption) (by decide) | exact Mine.Ar.ll (by assumption) (by decide) | exact Mine.Ar.l0 (by assumption) (by decide) | exact Mine.Ar.lm (by assumption) (by decide) | exact Mine.Ar.gn (by assumption) (by decide) | exact Mine.Ar.ci (by decide) | exact Mine.Ar.cz | exact Mine.Ar.li (by assumption) (by decide) | exact Mine.Ar.lj (by assumption) (by decide) | exact Mine.Ar.lk (by assumption) (by decide) | exact Mine.Ar.gi (by assumption) (by decide) | exact Mine.Ar.gj (by assumption) (by decide) | exact Mine.Ar.gk (by assumption) (by decide) | exact Mine.Ar.gl (by assumption) (by decide) | exact Mine.Ar.n0 (by assumption) | exact Mine.Ar.n1 (by assumption) (by decide) | exact Mine.Ar.m0 (by assumption) | exact Mine.Ar.m1 (by assumption) (by decide) | exact And.left (by assumption) | exact And.right (by assumption) | fail)
  trivial
section
variable {prog : Program} {w : World} {A : Around} {E : Value → Shared → Prop} {s : Shared} {h₀ : Heap} {L sa : Addr} {m : Str → Option Value} {news : Led} {o : Obj} {C : SC} {g : Obj → Led}
theorem set_made {R : Value → Shared → Prop} (h : R (.ref s.heap.objs.size) { s with heap := s.heap.push (setO #[] 0 (.fresh 0 0 (wl w))) }) :
    codeAny (model prog w) A (.call (.builtin "set.__new__") ⟨[.type "set"], []⟩) (wants R E) s := by
  refine codeAny_of_tree ?_
  show wpAny _ A.in1 (do checkBuiltinCall "set.__new__" ⟨[.type "set"], []⟩; again (.builtin "set.__new__" ⟨[.type "set"], []⟩)) _ _ s
  refine wpAny_bind (wpAny_of_eq _root_.PySem.F.newCall_set_0 (wpAny_pure ⟨plainId_quiet _root_.PySem.F.plain_set_new _, codeAny_builtin _root_.PySem.F.entry_set_new ?_⟩))
  rw [Around.under_plainId _root_.PySem.F.plain_set_new _]
  unfold Builtin.«set.__new__» Builtin.Frozenset.newClass
  have hsub := sub_set_self
  obtain ⟨hp, gg, d, tk, os⟩ := s
  dsimp only
  wp_walk
  refine wpAny_askSetting (wpAny_pure ?_)
  dsimp only
  simp only [newObj]
  refine wpAny_bind (wpAny_alloc (wpAny_pure ?_))
  exact wpAny_pure h
theorem sk_set0 {Q : Value → Shared → Prop} (h : Q (.ref s.heap.objs.size) { s with heap := s.heap.push (setO #[] 0 (.fresh 0 0 (wl w))) }) :
    wpAny (model prog w) A (call (.type "set") []) Q E s := by
  obtain ⟨c, tl, hmro⟩ := _root_.PySem.F.called_set.mro
  have hmade := _root_.PySem.F.called_set.made
  have hsub := _root_.PySem.F.called_set.sub
  refine wpAny_call (codeAny_of_tree ?_)
  show wpAny _ _ (callAny (.type "set") _) _ _ _
  refine wpAny_pure ⟨Code.quiet_builtin _ (by decide +kernel), codeAny_builtin _root_.PySem.F.entry_type_call ?_⟩
  rw [Around.under_plain (weight_type_call_type "set" [] []) rfl]
  have h1 := _root_.PySem.F.called_set.notType
  have h2 := _root_.PySem.F.called_set.canCreate
  have hct := _root_.PySem.F.typeCall_set_0
  repeat (any_goals (first | assumption | wp_step))
  refine codeAny_mono (set_made (E := E) (R := fun obj s₁ => obj = .ref s.heap.objs.size ∧ s₁ = { s with heap := s.heap.push (setO #[] 0 (.fresh 0 0 (wl w))) }) ⟨rfl, rfl⟩) fun r s₁ hr => ?_
  cases r with
  | error e => exact hr
  | ok fl =>
    cases fl with
    | ret obj =>
      obtain ⟨rfl, rfl⟩ := hr
      have hS : (s.heap.push (setO #[] 0 (.fresh 0 0 (wl w)))).get? s.heap.objs.size = some (setO #[] 0 (.fresh 0 0 (wl w))) := Heap.get?_push_size _ rfl
      have hT : Shared.TypeIs { s with heap := s.heap.push (setO #[] 0 (.fresh 0 0 (wl w))) } (.ref s.heap.objs.size) "set" := ⟨_, hS, rfl⟩
      have hli := _root_.PySem.F.called_set.init.lookup
      have hbi := _root_.PySem.F.called_set.init.bind (.ref s.heap.objs.size)
      repeat (any_goals (first | assumption | wp_step))
      refine codeAny_mono (codeAny_call_builtin (R := wants (fun r s₂ => r = .none ∧ Q (.ref s.heap.objs.size) s₂) E) _root_.PySem.F.called_set.init.plain _root_.PySem.F.entry_set_init (check_set_init hT ?_)) fun r₂ s₂ hr₂ => ?_
      · unfold Builtin.«set.__init__» noKeywords
        unfold setO at *
        wp_walk
        exact ⟨rfl, h⟩
      · cases r₂ with
        | error e => exact hr₂
        | ok fl₂ =>
          cases fl₂ with
          | ret r =>
            obtain ⟨rfl, hq⟩ := hr₂
            repeat (any_goals (first | assumption | wp_step))
          | _ => exact hr₂.elim
    | _ => exact hr.elim
theorem sk_new {Q : Value → Shared → Prop} (F : Fr h₀ L s.heap m) (N : News h₀ L s.heap news)
    (h : ∀ D h' o, Fr h₀ L h' m → News h₀ L h' ((D, o) :: news) → (∀ p ∈ news, p.1 < D) → SetK w o newC → Q (.ref D) { s with heap := h' }) : wpAny (model prog w) A (call (.type "set") []) Q E s :=
  sk_set0 (h _ _ _ (F.push _) (N.push F _) (fun p hp => Heap.lt_size (N p hp).1) (setK_new w))
/-- a display of one element. -/
theorem sk_set1 {K : Frag} {e : Expr} {pos : Pos} {env : Env} {Q : Value → Shared → Prop} (F : Fr h₀ L s.heap m) (N : News h₀ L s.heap news) (X : K.In h₀) (hc : kdsCode K env.code = true) (hp : kdsPlain e = true)
    (h : ∀ D h' o, Fr h₀ L h' m → News h₀ L h' ((D, o) :: news) → (∀ p ∈ news, p.1 < D) → SetK w o newC →
      wpAny (model prog w) A (eval e env) (fun v s' => wpAny (model prog w) A (setAdd D v) (fun _ s'' => Q (.ref D) s'') E s') E { s with heap := h' }) :
    wpAny (model prog w) A (eval (.Set [e] 0 pos) env) Q E s := by
  rw [arm_eval_Set]
  refine wpAny_bind (wpAny_standAt ?_)
  refine wpAny_bind (kds_main (X.keeps F.keep) hc fun b => ?_)
  rw [kds_star [e] (by simp [hp]), arm_evalEach_cons]
  unfold setDisplay
  dsimp only
  have hr : displayRoad 0 [e] = .oneByOne := rfl
  rw [hr, if_neg (by decide)]
  refine wpAny_bind (wp_newSet ?_)
  dsimp only
  have key := h _ _ _ (F.push _) (N.push F _) (fun p hp => Heap.lt_size (N p hp).1) (setK_new w)
  refine wpAny_bind (wpAny_holding ?_)
  show wpAny _ _ (evalAll [do let v ← eval e env; standAt pos; pure v] >>= _) _ _ _
  refine wpAny_bind ?_
  show wpAny _ _ ((eval e env >>= fun v => standAt pos >>= fun _ => pure v) >>= fun v => holding [v] (evalAll []) >>= fun r => pure (v :: r)) _ _ _
  refine wpAny_bind (wpAny_bind (wpAny_mono key (fun v s' hv => ?_) fun _ _ x => x))
  refine wpAny_bind (wpAny_standAt (wpAny_pure ?_))
  refine wpAny_bind (wpAny_holding (wpAny_pure (wpAny_pure ?_)))
  refine wpAny_bind (wpAny_holding ?_)
  rw [List.forIn_cons]
  refine wpAny_bind (wpAny_bind (wpAny_bind (wpAny_mono hv (fun _ s1 h1 => ?_) fun _ _ x => x)))
  refine wpAny_pure ?_
  dsimp only
  rw [List.forIn_nil]
  refine wpAny_pure ?_
  rw [if_neg (by decide)]
  refine wpAny_pure ?_
  show wpAny _ _ (forIn [] PUnit.unit _ >>= _) _ _ _
  rw [List.forIn_nil]
  exact wpAny_bind (wpAny_pure (wpAny_pure (wpAny_pure h1)))
end
end Mine

end
-- SetLib5
section
open PySem PySem.W PySem.Spec PySem.Calls PyProof.Rows
set_option Elab.async false
set_option maxRecDepth 100000
set_option maxHeartbeats 2000000
namespace Mine
theorem said_SetLib5_0 : True := by
  k_with_none
  w_top off
  k_with "lt" => first | assumption | (refine Mine.Ar.pick (by assumption) ?_; intro hh; first | exact Mine.Ar.c1 hh | exact Mine.Ar.c2 hh | exact Mine.Ar.c3 hh | exact Mine.Ar.c4 hh | exact Mine.Ar.c5 hh | exact Mine.Ar.c6 hh | exact Mine.Ar.c7 hh | exact Mine.Ar.c8 hh | exact Mine.Ar.e2 hh | exact Mine.Ar.e3 hh | exact Mine.Ar.e4 hh | fail) | exact Mine.Ar.t1 | exact Mine.Ar.t2 | exact Mine.Ar.t3 | fail
  k_with "lt2" => first | k_extra "lt" | (refine Mine.Ar.s1 ?_; k_extra "lt") | (refine Mine.Ar.s2 ?_; k_extra "lt") | (refine Mine.Ar.s3 ?_; k_extra "lt") | fail
  k_with "omega" => with_reducible (first | assumption | decide +kernel | (refine Nat.ne_of_gt ?_; k_extra "lt2") | (refine Nat.ne_of_lt ?_; k_extra "lt2") | k_extra "lt2" | exact Mine.Ar.u1 | exact Mine.Ar.u2 | exact Mine.Ar.u3 | exact Mine.Ar.v1 | exact Mine.Ar.dp0 (by assumption) | exact Mine.Ar.dp1 (by assumption) (by decide) | exact Mine.Ar.dp2 (by assumption) (by decide) | exact Mine.Ar.ll (by assumption) (by decide) | exact Mine.Ar.l0 (by assumption) (by decide) | exact Mine.Ar.lm (by assumption) (by decide) | exact Mine.Ar.gn (by assumption) (by decide) | exact Mine.Ar.ci (by decide) | exact Mine.Ar.cz | exact Mine.Ar.li (by assumption) (by decide) | exact Mine.Ar.lj (by assumption) (by decide) | exact Mine.Ar.lk (by assumption) (by decide) | exact Mine.Ar.gi (by assumption) (by decide) | exact Mine.Ar.gj (by assumption) (by decide) | exact Mine.Ar.gk (by assumption) (by decide) | exact Mine.Ar.gl (by assumption) (by decide) | exact Mine.Ar.n0 (by assumption) | exact Mine.Ar.n1 (by assumption) (by decide) | exact Mine.Ar.m0 (by assumption) | exact Mine.Ar.m1 (by assumption) (by decide) | exact And.left (by assumption) | exact And.right (by assumption) | lia | fail)
  trivial
theorem entry_set_iter9 : entryFor table "set.__iter__" = some Builtin.«frozenset.__iter__» :=
  entryFor_alias (id' := "frozenset.__iter__") (by kernel_rfl) rfl (by decide +kernel) (by kernel_rfl)
theorem owner_si9 : Manifest.owners.lookup (String.ofList ['r', 'o', 't', 'a', 'r', 'e', 't', 'i', '_', 't', 'e', 's'].reverse) = some Manifest.sig_set_iterator := by kernel_rfl
theorem slot_si_next9 : Slot "set_iterator" "__next__" "set_iterator.__next__" :=
  .of (owner := "set_iterator") (n := "__next__") (by rw [typeLookup_type, builtinLookup_eq_fast]; kernel_rfl) (by decide +kernel) (by decide +kernel) (by decide +kernel)
    (by first | exact .inl (by decide +kernel) | exact .inr (by decide +kernel)) (by rw [isSubtype_type]; kernel_rfl)
theorem entry_si_next9 : entryFor table "set_iterator.__next__" = some Builtin.«set_iterator.__next__» := entryFor_of_tree (by kernel_rfl)
theorem args_si_next9 (a : Value) : argsOk "set_iterator.__next__" ⟨[a], []⟩ := by
  unfold argsOk; rw [signature?_of (id := "set_iterator.__next__") (n := ['_', '_', 't', 'x', 'e', 'n', '_', '_']) (o := ['r', 'o', 't', 'a', 'r', 'e', 't', 'i', '_', 't', 'e', 's']) (by kernel_rfl) owner_si9]; kernel_rfl
theorem slot_si_iter9 : Slot "set_iterator" "__iter__" "set_iterator.__iter__" :=
  .of (owner := "set_iterator") (n := "__iter__") (by rw [typeLookup_type, builtinLookup_eq_fast]; kernel_rfl) (by decide +kernel) (by decide +kernel) (by decide +kernel)
    (by first | exact .inl (by decide +kernel) | exact .inr (by decide +kernel)) (by rw [isSubtype_type]; kernel_rfl)
theorem entry_si_iter9 : entryFor table "set_iterator.__iter__" = some Builtin.«dict_keyiterator.__iter__» :=
  entryFor_alias (id' := "dict_keyiterator.__iter__") (by kernel_rfl) rfl (by decide +kernel) (by kernel_rfl)
theorem args_si_iter9 (a : Value) : argsOk "set_iterator.__iter__" ⟨[a], []⟩ := by
  unfold argsOk; rw [signature?_of (id := "set_iterator.__iter__") (n := ['_', '_', 'r', 'e', 't', 'i', '_', '_']) (o := ['r', 'o', 't', 'a', 'r', 'e', 't', 'i', '_', 't', 'e', 's']) (by kernel_rfl) owner_si9]; kernel_rfl

theorem pickGo_perm {α : Type} (next : Nat → Nat) : ∀ (n k : Nat) (l : List α) (out : Array α), l.length ≤ n → (pickOrder.go next n k l out).toList.Perm (out.toList ++ l)
  | 0, k, l, out, h => by
    have : l = [] := List.length_eq_zero_iff.mp (Nat.le_zero.mp h)
    subst this
    simp [pickOrder.go]
  | n + 1, k, l, out, h => by
    unfold pickOrder.go
    by_cases hl : l = []
    · subst hl; simp
    · have hpos : 0 < l.length := List.length_pos_iff.mpr hl
      have hlt : next k % l.length < l.length := Nat.mod_lt _ hpos
      rw [List.getElem?_eq_getElem hlt]
      dsimp only
      refine (pickGo_perm next n (k + 1) _ _ (by rw [List.length_eraseIdx_of_lt hlt]; omega)).trans ?_
      rw [Array.toList_push, List.append_assoc]
      refine List.Perm.append_left _ ?_
      have e1 : l.take (next k % l.length) ++ l[next k % l.length] :: l.drop (next k % l.length + 1) = l := by
        rw [← List.drop_eq_getElem_cons hlt, List.take_append_drop]
      rw [List.eraseIdx_eq_take_drop_succ]
      have e2 := (List.perm_middle (a := l[next k % l.length]) (l₁ := l.take (next k % l.length)) (l₂ := l.drop (next k % l.length + 1))).symm
      rw [e1] at e2
      simpa using e2
theorem pick_perm {α : Type} (next : Nat → Nat) (xs : Array α) : (pickOrder next xs).toList.Perm xs.toList := by
  have := pickGo_perm next xs.size 0 xs.toList #[] (by simp)
  simpa [pickOrder] using this
end Mine

end
-- SetLib6
section
open PySem PySem.W PySem.Spec PySem.Calls PyProof.Rows
set_option Elab.async false
set_option maxRecDepth 100000
set_option maxHeartbeats 2000000
namespace Mine
theorem said_SetLib6_0 : True := by
  k_with_none
  w_top off
  k_with "lt" => first | assumption | (refine Mine.Ar.pick (by assumption) ?_; intro hh; first | exact Mine.Ar.c1 hh | exact Mine.Ar.c2 hh | exact Mine.Ar.c3 hh | exact Mine.Ar.c4 hh | exact Mine.Ar.c5 hh | exact Mine.Ar.c6 hh | exact Mine.Ar.c7 hh | exact Mine.Ar.c8 hh | exact Mine.Ar.e2 hh | exact Mine.Ar.e3 hh | exact Mine.Ar.e4 hh | fail) | exact Mine.Ar.t1 | exact Mine.Ar.t2 | exact Mine.Ar.t3 | fail
  k_with "lt2" => first | k_extra "lt" | (refine Mine.Ar.s1 ?_; k_extra "lt") | (refine Mine.Ar.s2 ?_; k_extra "lt") | (refine Mine.Ar.s3 ?_; k_extra "lt") | fail
  k_with "omega" => with_reducible (first | assumption | decide +kernel | (refine Nat.ne_of_gt ?_; k_extra "lt2") | (refine Nat.ne_of_lt ?_; k_extra "lt2") | k_extra "lt2" | exact Mine.Ar.u1 | exact Mine.Ar.u2 | exact Mine.Ar.u3 | exact Mine.Ar.v1 | exact Mine.Ar.dp0 (by assumption) | exact Mine.Ar.dp1 (by assumption) (by decide) | exact Mine.Ar.dp2 (by assumption) (by decide) | exact Mine.Ar.ll (by assumption) (by decide) | exact Mine.Ar.l0 (by assumption) (by decide) | exact Mine.Ar.lm (by assumption) (by decide) | exact Mine.Ar.gn (by assumption) (by decide) | exact Mine.Ar.ci (by decide) | exact Mine.Ar.cz | exact Mine.Ar.li (by assumption) (by decide) | exact Mine.Ar.lj (by assumption) (by decide) | exact Mine.Ar.lk (by assumption) (by decide) | exact Mine.Ar.gi (by assumption) (by decide) | exact Mine.Ar.gj (by assumption) (by decide) | exact Mine.Ar.gk (by assumption) (by decide) | exact Mine.Ar.gl (by assumption) (by decide) | exact Mine.Ar.n0 (by assumption) | exact Mine.Ar.n1 (by assumption) (by decide) | exact Mine.Ar.m0 (by assumption) | exact Mine.Ar.m1 (by assumption) (by decide) | exact And.left (by assumption) | exact And.right (by assumption) | lia | fail)
  trivial
def siObj (slot i : Nat) (a : Addr) (n ep : Nat) : Obj := { cls := .type "set_iterator", dict := none, data := .fields #[rawInt slot, rawInt i, .ref a, rawInt n, rawInt ep], slots := #[] }
def slotAt (t : SetTable) (b : Bool) : Nat → Nat
  | 0 => 0
  | i + 1 => if b then 0 else t.place.getD i 0 + 1
/-- the table's places stand in rising order. -/
def layC (C : SC) : Bool := (List.range (C.1.size + 1)).all fun i => SetTable.below C.2.place (slotAt C.2 false i) == i
def ordOf (w : World) (a : Addr) (ep : Nat) (es : Array (Int × Value)) : Array (Int × Value) := if w.params.followText "set-order" then pickOrder (w.params.setOrder a ep) es else es
section
variable {prog : Program} {w : World} {A : Around} {E : Value → Shared → Prop} {s : Shared}
theorem si_field {a : Addr} {i : Nat} {x : Value} {vs : Array Value} {P : Unit → Shared → Prop} (ho : s.heap.get? a = some { cls := .type "set_iterator", dict := none, data := .fields vs, slots := #[] }) (hi : i < vs.size)
    (h : ∀ h', h'.get? a = some { cls := .type "set_iterator", dict := none, data := .fields (vs.setIfInBounds i x), slots := #[] } → Heap.SameBut a s.heap h' → P () { s with heap := h' }) :
    wpAny (model prog w) A (setField (.ref a) i x) P E s :=
  wpAny_setField ho rfl hi (h _ (Heap.get?_update_self _ ho rfl) (Heap.SameBut.update ..))
/-- one step of the iterator's walk over the table. -/
theorem wp_setNext {sa : Addr} {es : Array (Int × Value)} {ep : Nat} {t : SetTable} {i : Nat} {Q : Option (Value × Nat) → Shared → Prop} (ho : s.heap.get? sa = some (setO es ep (ledTo (wl w) t)))
    (hf : t.fits es.size = true) (hpl : t.plain = true) (hi : i ≤ es.size) (hb : SetTable.below t.place (slotAt t false i) = i)
    (h : Q (((ordOf w sa ep es)[i]?).map fun e => (e.2, slotAt t (w.params.followText "set-order") (i + 1))) s) :
    wpAny (model prog w) A (setNext sa (slotAt t (w.params.followText "set-order") i) i ep) Q E s := by
  have hf' : (ledTo (wl w) t).fits es.size = true := by rw [ledTo_fits]; exact hf
  have hps : t.place.size = es.size := by
    simp only [SetTable.fits, Bool.and_eq_true, beq_iff_eq, decide_eq_true_eq] at hf
    exact hf.1
  unfold setNext
  refine wpAny_bind (wpAny_setState_of ho rfl hf' ?_)
  dsimp only
  refine wpAny_bind (wp_setsByText ?_)
  cases hq : w.params.followText "set-order" with
  | true =>
    rw [hq] at h
    have hz : ∀ j, slotAt t true j = 0 := fun j => by cases j <;> rfl
    rw [if_pos rfl, if_neg (by simp)]
    refine wpAny_bind ?_
    unfold setWalk
    refine wpAny_bind (wpAny_setState_of ho rfl hf' ?_)
    dsimp only
    refine wpAny_bind (wp_setsByText ?_)
    rw [hq, if_pos rfl]
    refine wpAny_bind (wpAny_askSetting (wpAny_pure ?_))
    refine wpAny_pure ?_
    rw [hz] at h ⊢
    unfold ordOf at h
    rw [hq, if_pos rfl] at h
    exact h
  | false =>
    rw [hq] at h
    rw [if_neg (by simp)]
    show wpAny _ _ (if (!(ledTo (wl w) t).plain && decide (es.size > 1)) = true then _ else _) _ _ _
    rw [if_neg (by show ¬ (!t.plain && _) = true; rw [hpl]; simp)]
    refine wpAny_bind ?_
    show wpAny _ _ (if (!(ledTo (wl w) t).led && !es.isEmpty) = true then _ else _) _ _ _
    rw [if_neg (by show ¬ (!(wl w) && _) = true; rw [wl, hq]; simp)]
    refine wpAny_pure ?_
    refine wpAny_pure ?_
    unfold ordOf at h
    rw [hq, if_neg (by simp)] at h
    have hbb : SetTable.below (ledTo (wl w) t).place (slotAt t false i) = i := hb
    have hpp : (ledTo (wl w) t).place = t.place := rfl
    rw [hbb, hpp]
    by_cases hlt : i < es.size
    · rw [Array.getElem?_eq_getElem hlt] at h ⊢
      rw [Array.getElem?_eq_getElem (by rw [hps]; exact hlt)]
      have : slotAt t false (i + 1) = t.place[i]'(by rw [hps]; exact hlt) + 1 := by
        show (if false = true then 0 else t.place.getD i 0 + 1) = _
        rw [if_neg (by simp)]
        simp [Array.getD, hps, hlt]
      dsimp only
      rw [this] at h
      exact h
    · have hge : es.size ≤ i := Nat.le_of_not_lt hlt
      rw [Array.getElem?_eq_none hge] at h ⊢
      exact h
def SiSt (w : World) (I sa : Addr) (es : Array (Int × Value)) (ep : Nat) (t : SetTable) (i : Nat) (h : Heap) : Prop :=
  h.get? I = some (siObj (slotAt t (w.params.followText "set-order") i) i sa es.size ep) ∧ h.get? sa = some (setO es ep (ledTo (wl w) t))
theorem si_walks (hh : A.handled = none) (I sa : Addr) (hne : sa ≠ I) {es : Array (Int × Value)} {ep : Nat} {t : SetTable} (hf : t.fits es.size = true) (hpl : t.plain = true) (hb : ∀ i, i ≤ es.size → SetTable.below t.place (slotAt t false i) = i) :
    Walks prog w A I [I, sa] [I] es.size (fun i v => ((ordOf w sa ep es)[i]?).map (·.2) = some v) (SiSt w I sa es ep t) where
  sub := fun b hb => by simp at hb; simp [hb]
  frame := fun _ _ _ st hk => ⟨hk I (by simp) _ st.1, hk sa (by simp) _ st.2⟩
  item := fun i s Q E hi st hQ => by
    have hT : s.TypeIs (.ref I) "set_iterator" := ⟨_, st.1, rfl⟩
    have hsz : (ordOf w sa ep es).size = es.size := by
      unfold ordOf
      split
      · have := (pick_perm (w.params.setOrder sa ep) es).length_eq
        simpa using this
      · rfl
    unfold pyNext
    refine wpAny_bind (wpAny_attempt (wpAny_callSpecial?_slot (name := Str.ofString "__next__") hT slot_si_next9
      (wpAny_call_entry slot_si_next9 hT entry_si_next9 ?_ (args_si_next9 _))))
    unfold Builtin.«set_iterator.__next__»
    refine wpAny_bind (wpAny_pure ?_)
    dsimp only
    refine wpAny_bind (wpAny_fieldsOf st.1 rfl ?_)
    show wpAny _ _ ((setEntries sa) >>= _) _ _ _
    refine wpAny_bind (wpAny_setEntries_of st.2 rfl (by rw [ledTo_fits]; exact hf) ?_)
    rw [if_neg (by simp)]
    show wpAny _ _ ((setNext sa ((slotAt t (w.params.followText "set-order") i : Nat) : Int).toNat ((i : Nat) : Int).toNat ((ep : Nat) : Int).toNat) >>= _) _ _ _
    rw [Int.toNat_natCast, Int.toNat_natCast, Int.toNat_natCast]
    refine wpAny_bind (wp_setNext st.2 hf hpl (Nat.le_of_lt hi) (hb i (Nat.le_of_lt hi)) ?_)
    have hio : i < (ordOf w sa ep es).size := by rw [hsz]; exact hi
    rw [Array.getElem?_eq_getElem hio]
    dsimp only [Option.map_some]
    refine wpAny_bind (si_field st.1 (by simp) fun h1 g1 sb1 => ?_)
    refine wpAny_bind (si_field (s := { s with heap := h1 }) g1 (by simp) fun h2 g2 sb2 => ?_)
    refine wpAny_pure ⟨_, rfl, ?_⟩
    dsimp only
    refine wpAny_pure (hQ _ h2 s.toks (by rw [Array.getElem?_eq_getElem hio]; rfl) ⟨?_, ?_⟩ ?_)
    · rw [g2]; rfl
    · rw [sb2.2 sa hne, sb1.2 sa hne]; exact st.2
    · intro b o hbw e
      have : b ≠ I := fun q => hbw (by simp [q])
      rw [sb2.2 b this, sb1.2 b this]; exact e
  done := fun s Q E st hQ => by
    have hT : s.TypeIs (.ref I) "set_iterator" := ⟨_, st.1, rfl⟩
    have hsz : (ordOf w sa ep es).size = es.size := by
      unfold ordOf
      split
      · have := (pick_perm (w.params.setOrder sa ep) es).length_eq
        simpa using this
      · rfl
    unfold pyNext
    refine wpAny_bind (wpAny_attempt (wpAny_callSpecial?_slot (name := Str.ofString "__next__") hT slot_si_next9
      (wpAny_call_entry slot_si_next9 hT entry_si_next9 ?_ (args_si_next9 _))))
    unfold Builtin.«set_iterator.__next__»
    refine wpAny_bind (wpAny_pure ?_)
    dsimp only
    refine wpAny_bind (wpAny_fieldsOf st.1 rfl ?_)
    show wpAny _ _ ((setEntries sa) >>= _) _ _ _
    refine wpAny_bind (wpAny_setEntries_of st.2 rfl (by rw [ledTo_fits]; exact hf) ?_)
    rw [if_neg (by simp)]
    show wpAny _ _ ((setNext sa ((slotAt t (w.params.followText "set-order") es.size : Nat) : Int).toNat ((es.size : Nat) : Int).toNat ((ep : Nat) : Int).toNat) >>= _) _ _ _
    rw [Int.toNat_natCast, Int.toNat_natCast, Int.toNat_natCast]
    refine wpAny_bind (wp_setNext st.2 hf hpl (Nat.le_refl _) (hb _ (Nat.le_refl _)) ?_)
    rw [Array.getElem?_eq_none (by rw [hsz]; exact Nat.le_refl _)]
    dsimp only [Option.map_none]
    refine wpAny_bind (si_field st.1 (by simp) fun h1 g1 sb1 => ?_)
    refine wpAny_bind ?_
    simp only [newExc, newTuple]
    refine wpAny_bind (wpAny_newObj_type ?_ (by size_fits))
    refine wpAny_bind (m := firstArgMember _ _) (wpAny_of_eq (a := Value.none) (by first | rfl | (simp only [firstArgMember]; rfl)) ?_)
    refine wpAny_newObj_type ?_ (by size_fits)
    simp only [raiseNew]
    refine wpAny_bind (wpAny_handled ?_)
    first | rw [show A.in1.handled = none from hh] | rw [hh]
    refine wpAny_bind (wpAny_pure (wpAny_throw ?_))
    refine wpAny_bind (wpAny_isInstance (T := "StopIteration") (b := true) ⟨_, Heap.get?_push_size _ rfl, rfl⟩ isSubtype_stop ?_)
    refine wpAny_pure (hQ _ _ fun b o hbw e => ?_)
    have : b ≠ I := fun q => hbw (by simp [q])
    exact Heap.get?_push_of_some _ (Heap.get?_push_of_some _ (by rw [sb1.2 b this]; exact e))
  self := fun i s Q E st hQ => by
    have hT : s.TypeIs (.ref I) "set_iterator" := ⟨_, st.1, rfl⟩
    refine wpAny_pyIter_slot hT slot_si_iter9 (wpAny_call_entry slot_si_iter9 hT entry_si_iter9 ?_ (args_si_iter9 _))
    show wpAny _ _ (ret (.ref I)) _ _ s
    exact wpAny_pure ⟨_, rfl, "set_iterator", _, hT, slot_si_next9.lookup, hQ⟩
theorem sub_set_self9 : isSubtype (.type "set") (.type "set") = pure true := by rw [isSubtype_type]; kernel_rfl
theorem split_sl9 : splitId "set.__len__" = some ("set", "__len__") := by kernel_rfl
theorem wp_collect_set (hh : A.handled = none) {Q : List Value → Shared → Prop} {sa : Addr} {es : Array (Int × Value)} {ep : Nat} {t : SetTable} (ho : s.heap.get? sa = some (setO es ep (ledTo (wl w) t)))
    (hf : t.fits es.size = true) (hpl : t.plain = true) (hn : es.size < 60) (hb : ∀ i, i ≤ es.size → SetTable.below t.place (slotAt t false i) = i)
    (hQ : ∀ (vs : List Value) h' tk, (∀ b o, s.heap.get? b = some o → h'.get? b = some o) → s.heap.objs.size < h'.objs.size → vs.Perm (es.toList.map (·.2)) → Q vs { s with heap := h', toks := tk }) :
    wpAny (model prog w) A (collect (.ref sa)) Q E s := by
  have hT : s.TypeIs (.ref sa) "set" := ⟨_, ho, rfl⟩
  unfold collect
  refine wpAny_bind (wpAny_runValue (codeAny_builtin _root_.PySem.F.entry_proto_collect ?_))
  rw [Around.under_plainId _root_.PySem.F.plain_proto_collect _]
  show wpAny _ A.in1 (newList [] >>= fun l => again (.builtin "list.__iadd__" ⟨[l, .ref sa], []⟩)) _ _ s
  refine wpAny_bind (wpAny_newObj_type ?_)
  refine wpAny_pure ⟨plainId_quiet _root_.PySem.F.plain_list_iadd _, codeAny_builtin _root_.PySem.F.entry_list_iadd ?_⟩
  rw [Around.under_plainId _root_.PySem.F.plain_list_iadd _]
  show wpAny _ A.in1 (Builtin.List.listExtendWith (.ref s.heap.objs.size) (.ref sa) (.ref s.heap.objs.size)) _ _ _
  have hlt : sa < s.heap.objs.size := Heap.lt_size ho
  have hS₁ : (s.heap.push { cls := .type "list", data := .seq ([] : List Value).toArray }).get? s.heap.objs.size = some { cls := .type "list", data := .seq ([] : List Value).toArray } := Heap.get?_push_size _ rfl
  have ho₁ : (s.heap.push { cls := .type "list", data := .seq ([] : List Value).toArray }).get? sa = some (setO es ep (ledTo (wl w) t)) := Heap.get?_push_of_some _ ho
  have h1 : Builtin.List.listSameRef (.ref s.heap.objs.size) (.ref sa) = false := by
    have hne : ¬ s.heap.objs.size = sa := Nat.ne_of_gt hlt
    simpa [Builtin.List.listSameRef] using hne
  have hk₁ : ∀ b o, s.heap.get? b = some o → (s.heap.push { cls := .type "list", data := .seq ([] : List Value).toArray }).get? b = some o := fun b o e => Heap.get?_push_of_some _ e
  have hz₁ : (s.heap.push { cls := .type "list", data := .seq ([] : List Value).toArray }).objs.size = s.heap.objs.size + 1 := Heap.size_push _ _
  generalize s.heap.push { cls := .type "list", data := .seq ([] : List Value).toArray } = g1 at *
  have hT₁ : Shared.TypeIs { s with heap := g1 } (.ref sa) "set" := ⟨_, ho₁, rfl⟩
  unfold Builtin.List.listExtendWith
  refine wpAny_bind (wpAny_typeOf hT₁ ?_)
  rw [if_neg (by rw [h1]; decide)]
  refine wpAny_bind (wpAny_pyIter_slot hT₁ _root_.PySem.F.slot_set_iter (wpAny_call_entry _root_.PySem.F.slot_set_iter hT₁ entry_set_iter9 ?_ (_root_.PySem.F.args_set_iter_1 _)))
  unfold Builtin.«frozenset.__iter__» Builtin.Frozenset.slot0 slotArgs
  simp only [List.isEmpty_nil, Bool.not_true, Bool.false_eq_true, ↓reduceIte, bind_assoc, List.length_nil, bne_self_eq_false]
  unfold Builtin.Frozenset.addrOf Builtin.Frozenset.sizeOf
  refine wpAny_bind (wpAny_pure ?_)
  try dsimp only
  refine wpAny_bind (wpAny_pure ?_)
  have hf' : (ledTo (wl w) t).fits es.size = true := by rw [ledTo_fits]; exact hf
  refine wpAny_bind (wpAny_bind (wpAny_setEntries_of ho₁ rfl hf' (wpAny_pure ?_)))
  unfold setDrawn
  refine wpAny_bind (wpAny_bind (wpAny_setState_of ho₁ rfl hf' ?_))
  dsimp only
  refine wpAny_bind (wp_setsByText ?_)
  refine wpAny_pure ?_
  show wpAny _ _ (if (!w.params.followText "set-order" && (!(ledTo (wl w) t).plain && decide (es.size > 1))) = true then _ else _) _ _ _
  rw [if_neg (by show ¬ (!w.params.followText "set-order" && (!t.plain && _)) = true; rw [hpl]; simp)]
  refine wpAny_bind (wpAny_pure ?_)
  refine wpAny_bind (wpAny_setEpoch_of ho₁ rfl hf' ?_)
  simp only [newFields]
  refine wpAny_bind (wpAny_newObj_type ?_ (by size_fits))
  have hI₂ : (g1.push { cls := .type "set_iterator", data := .fields [rawInt 0, rawInt 0, Value.ref sa, rawInt es.size, rawInt ep].toArray }).get? g1.objs.size = some (siObj (slotAt t (w.params.followText "set-order") 0) 0 sa es.size ep) := Heap.get?_push_size _ rfl
  refine wpAny_pure ⟨_, rfl, "set_iterator", _, ⟨_, hI₂, rfl⟩, slot_si_next9.lookup, ?_⟩
  have ho₂ : (g1.push { cls := .type "set_iterator", data := .fields [rawInt 0, rawInt 0, Value.ref sa, rawInt es.size, rawInt ep].toArray }).get? sa = some (setO es ep (ledTo (wl w) t)) := Heap.get?_push_of_some _ ho₁
  have hS₂ : (g1.push { cls := .type "set_iterator", data := .fields [rawInt 0, rawInt 0, Value.ref sa, rawInt es.size, rawInt ep].toArray }).get? s.heap.objs.size = some { cls := .type "list", data := .seq #[] } := Heap.get?_push_of_some _ hS₁
  have hk₂ : ∀ b o, s.heap.get? b = some o → (g1.push { cls := .type "set_iterator", data := .fields [rawInt 0, rawInt 0, Value.ref sa, rawInt es.size, rawInt ep].toArray }).get? b = some o := fun b o e => Heap.get?_push_of_some _ (hk₁ b o e)
  generalize g1.push { cls := .type "set_iterator", data := .fields [rawInt 0, rawInt 0, Value.ref sa, rawInt es.size, rawInt ep].toArray } = g2 at *
  have hT₂ : Shared.TypeIs { s with heap := g2 } (.ref sa) "set" := ⟨_, ho₂, rfl⟩
  refine wpAny_bind (wpAny_holding ?_)
  unfold Builtin.List.listLengthHint
  refine wpAny_bind (wpAny_specialOf (name := Str.ofString "__len__") hT₂ _root_.PySem.F.slot_set_len.lookup ?_)
  dsimp only
  rw [split_sl9]
  dsimp only
  refine wpAny_bind (wpAny_isInstance hT₂ sub_set_self9 ?_)
  rw [if_neg (by decide)]
  rw [if_pos (by decide +kernel)]
  refine wpAny_bind (wpAny_typeOf hT₂ ?_)
  dsimp only
  refine wpAny_pure ?_
  rw [if_pos (by decide +kernel)]
  refine wpAny_bind (wpAny_rule ?_)
  refine wpAny_bind ?_
  unfold Builtin.List.listTouch Builtin.List.listUpdate
  dsimp only
  refine wpAny_bind (wpAny_updateSeq hS₂ rfl ?_)
  have hS₃ := Heap.get?_update_self (Obj.mapSeq (·.push Value.none)) hS₂ rfl
  refine wpAny_updateSeq (s := { s with heap := _ }) hS₃ rfl ?_
  have hS₄ := Heap.get?_update_self (Obj.mapSeq (·.pop)) hS₃ rfl
  have hneS : sa ≠ s.heap.objs.size := Nat.ne_of_lt hlt
  have hneI : s.heap.objs.size ≠ g1.objs.size := Nat.ne_of_lt (by rw [hz₁]; exact Nat.lt_succ_self _)
  have hneI2 : sa ≠ g1.objs.size := Nat.ne_of_lt (by rw [hz₁]; exact Nat.lt_succ_of_lt hlt)
  have up : ∀ b o, b ≠ s.heap.objs.size → g2.get? b = some o → ((g2.update s.heap.objs.size (Obj.mapSeq (·.push Value.none))).update s.heap.objs.size (Obj.mapSeq (·.pop))).get? b = some o := fun b o hb e =>
    (Heap.get?_update_other _ _ (Ne.symm hb)).trans ((Heap.get?_update_other _ _ (Ne.symm hb)).trans e)
  have ho₄ := up sa _ hneS ho₂
  have hI₄ := up g1.objs.size _ (Ne.symm hneI) hI₂
  have hk₄ : ∀ b o, s.heap.get? b = some o → ((g2.update s.heap.objs.size (Obj.mapSeq (·.push Value.none))).update s.heap.objs.size (Obj.mapSeq (·.pop))).get? b = some o := fun b o e =>
    up b o (Nat.ne_of_lt (Heap.lt_size e)) (hk₂ b o e)
  generalize (g2.update s.heap.objs.size (Obj.mapSeq (·.push Value.none))).update s.heap.objs.size (Obj.mapSeq (·.pop)) = g4 at *
  have W := (si_walks (prog := prog) (w := w) (A := A.in1) hh g1.objs.size sa hneI2 hf hpl hb (ep := ep)).toS
  refine wpAny_pure ⟨plainId_quiet _root_.PySem.F.plain_extend_loop _, ?_⟩
  refine codeAny_extend_loopS W (by rw [sizeLine_eq]; omega) _ (by simp [hneI, Ne.symm hneS]) _ es.size 0 _ #[] _ rfl (Nat.zero_le _) ⟨hI₄, ho₄⟩ hS₄ (ItemsOf.nil _) fun s' acc' c' hm hS' hacc => ?_
  show wpAny _ A (load s.heap.objs.size >>= _) _ _ s'
  refine wpAny_bind (wpAny_load hS' ?_)
  dsimp only
  refine wpAny_pure ?_
  have e : s' = { s with heap := s'.heap, toks := s'.toks } := by
    have e1 := hm.gens
    have e2 := hm.drawn
    have e3 := hm.os
    dsimp only at e1 e2 e3
    cases s'
    dsimp only at e1 e2 e3
    rw [e1, e2, e3]
  rw [e]
  refine hQ _ _ _ (fun b o hbo => ?_) (Heap.lt_size hS') ?_
  · refine hm.heap b o ?_ (hk₄ b o hbo)
    have hbl := Heap.lt_size hbo
    intro hmem
    rcases List.mem_cons.mp hmem with q | q
    · exact Nat.ne_of_lt hbl q
    · rw [List.mem_singleton.mp q, hz₁] at hbl
      exact absurd hbl (Nat.not_lt.mpr (Nat.le_succ _))
  · have ho : acc'.toList = (ordOf w sa ep es).toList.map (·.2) := by
      have hsz : (ordOf w sa ep es).size = es.size := by
        unfold ordOf
        split
        · have := (pick_perm (w.params.setOrder sa ep) es).length_eq
          simpa using this
        · rfl
      apply List.ext_getElem?
      intro j
      by_cases hj : j < es.size
      · have hja : j < acc'.size := by rw [hacc.1]; exact hj
        have := hacc.2 j _ (Array.getElem?_eq_getElem hja)
        rw [List.getElem?_map, Array.getElem?_toList, Array.getElem?_toList, this, Array.getElem?_eq_getElem hja]
      · have hge : es.size ≤ j := Nat.le_of_not_lt hj
        rw [List.getElem?_eq_none (by rw [Array.length_toList, hacc.1]; exact hge), List.getElem?_eq_none (by rw [List.length_map, Array.length_toList, hsz]; exact hge)]
    rw [ho]
    refine List.Perm.map _ ?_
    unfold ordOf
    split
    · exact pick_perm _ _
    · exact List.Perm.refl _
end
end Mine

end
-- SetLib7
section
open PySem PySem.W PySem.Spec PySem.Calls PyProof.Rows
set_option Elab.async false
set_option maxRecDepth 100000
set_option maxHeartbeats 2000000
namespace Mine
theorem said_SetLib7_0 : True := by
  k_with_none
  w_top off
  k_with "lt" => first | assumption | (refine Mine.Ar.pick (by assumption) ?_; intro hh; first | exact Mine.Ar.c1 hh | exact Mine.Ar.c2 hh | exact Mine.Ar.c3 hh | exact Mine.Ar.c4 hh | exact Mine.Ar.c5 hh | exact Mine.Ar.c6 hh | exact Mine.Ar.c7 hh | exact Mine.Ar.c8 hh | exact Mine.Ar.e2 hh | exact Mine.Ar.e3 hh | exact Mine.Ar.e4 hh | fail) | exact Mine.Ar.t1 | exact Mine.Ar.t2 | exact Mine.Ar.t3 | fail
  k_with "lt2" => first | k_extra "lt" | (refine Mine.Ar.s1 ?_; k_extra "lt") | (refine Mine.Ar.s2 ?_; k_extra "lt") | (refine Mine.Ar.s3 ?_; k_extra "lt") | fail
  k_with "omega" => with_reducible (first | assumption | decide +kernel | (refine Nat.ne_of_gt ?_; k_extra "lt2") | (refine Nat.ne_of_lt ?_; k_extra "lt2") | k_extra "lt2" | exact Mine.Ar.u1 | exact Mine.Ar.u2 | exact Mine.Ar.u3 | exact Mine.Ar.v1 | exact Mine.Ar.dp0 (by assumption) | exact Mine.Ar.dp1 (by assumption) (by decide) | exact Mine.Ar.dp2 (by assumption) (by decide) | exact Mine.Ar.ll (by assumption) (by decide) | exact Mine.Ar.l0 (by assumption) (by decide) | exact Mine.Ar.lm (by assumption) (by decide) | exact Mine.Ar.gn (by assumption) (by decide) | exact Mine.Ar.ci (by decide) | exact Mine.Ar.cz | exact Mine.Ar.li (by assumption) (by decide) | exact Mine.Ar.lj (by assumption) (by decide) | exact Mine.Ar.lk (by assumption) (by decide) | exact Mine.Ar.gi (by assumption) (by decide) | exact Mine.Ar.gj (by assumption) (by decide) | exact Mine.Ar.gk (by assumption) (by decide) | exact Mine.Ar.gl (by assumption) (by decide) | exact Mine.Ar.n0 (by assumption) | exact Mine.Ar.n1 (by assumption) (by decide) | exact Mine.Ar.m0 (by assumption) | exact Mine.Ar.m1 (by assumption) (by decide) | exact And.left (by assumption) | exact And.right (by assumption) | lia | fail)
  trivial
def toI (v : Value) : Int := match v with | .int k _ => k | _ => 0
def keysC (C : SC) : List Int := C.1.toList.map fun e => toI e.2
theorem intsAre_of : ∀ (vs : List Value), (∀ v ∈ vs, ∃ k t, v = .int k t) → IntsAre vs (vs.map toI)
  | [], _ => .nil
  | v :: r, h => by
    obtain ⟨k, t, rfl⟩ := h v (.head _)
    exact .cons _ _ (intsAre_of r fun x hx => h x (.tail _ hx))
section
variable {prog : Program} {w : World} {A : Around} {E : Value → Shared → Prop} {s : Shared} {h₀ : Heap} {L sa : Addr} {m : Str → Option Value} {news : Led} {o : Obj} {C : SC} {g : Obj → Led}
theorem sk_sorted (hh : A.handled = none) {Q : Value → Shared → Prop} (F : Fr h₀ L s.heap m) (N : News h₀ L s.heap news) (U : UpdF sa o news g) (hK : SetK w o C) (hC : okC C = true) (hl : layC C = true)
    (h : ∀ D h' vs ns e tk, Fr h₀ L h' m → News h₀ L h' ((D, listOf vs.toArray e) :: news) → (∀ p ∈ news, p.1 < D) → IntsAre vs ns → ns.Perm (keysC C) → ns.Pairwise (· ≤ ·) → Q (.ref D) { s with heap := h', toks := tk }) :
    wpAny (model prog w) A (call (.builtin "sorted") [.ref sa]) Q E s := by
  obtain ⟨pre, post, rfl, _, _, _⟩ := U.split
  have hm := N (sa, o) (List.mem_append_right _ (.head _))
  obtain ⟨es, ep, rfl, he⟩ := hK
  have ok := okC_of (prog := prog) (w := w) he hC
  have hsz : C.1.size = es.size := by rw [← he, Array.size_map]
  have hb : ∀ i, i ≤ es.size → SetTable.below C.2.place (slotAt C.2 false i) = i := by
    intro i hi
    unfold layC at hl
    have := List.all_eq_true.mp hl i (List.mem_range.mpr (by omega))
    simpa using this
  refine Calls.call_function_entry kind_sorted plain_sorted entry_sorted (args_sorted1 _) ?_
  unfold Builtin.«sorted»
  refine wpAny_bind (m := checkCount "sorted" 1 1 _) (wpAny_pure ?_)
  show wpAny _ _ (collect (.ref sa) >>= _) _ _ _
  refine wpAny_bind (wp_collect_set (A := A.in1) hh (sa := sa) hm.1 ok.fits ok.plain ok.small hb fun vs h1 tk hk hlt hp => ?_)
  have hlen : vs.length = es.size := by rw [hp.length_eq]; simp
  have hI := intsAre_of vs (fun v hv => by
    obtain ⟨e, he2, rfl⟩ := List.mem_map.mp (hp.mem_iff.mp hv)
    obtain ⟨⟨k, hk1, _⟩, _⟩ := ok.el e he2
    obtain ⟨t, ht⟩ := Value.isInt_shape hk1
    exact ⟨k, t, ht⟩)
  have hperm : (vs.map toI).Perm (keysC C) := by
    refine (hp.map toI).trans (List.Perm.of_eq ?_)
    unfold keysC
    rw [← he, Array.toList_map, List.map_map, List.map_map]
    refine List.map_congr_left fun e _ => ?_
    obtain ⟨hh, v⟩ := e
    cases v <;> rfl
  refine wpAny_bind (wpAny_newList ?_ (hsz := by rw [hlen]; exact Nat.le_trans (Nat.le_of_lt ok.small) (by decide)))
  have hoL : (h1.push (seqObj "list" vs.toArray 0)).get? h1.objs.size = some (seqObj "list" vs.toArray 0) := Heap.get?_push_size _ rfl
  show wpAny _ _ _ _ _ { s with heap := h1.push (seqObj "list" vs.toArray 0), toks := tk }
  refine wpAny_bind (wpAny_holding (wpAny_call_entry slot_list_sort ⟨_, hoL, rfl⟩ entry_list_sort (list_sort_tree hoL hI (by rw [hlen]; have := ok.small; omega) fun out ns' a1 a2 a3 => ⟨_, rfl, ?_⟩) (args_list_sort _)))
  refine wpAny_pure ⟨_, rfl, ?_⟩
  obtain ⟨e, hout⟩ := sortedHeap_at (out := out) hoL
  have hkeep : ∀ b o, s.heap.get? b = some o → (sortedHeap (h1.push (seqObj "list" vs.toArray 0)) h1.objs.size vs out).get? b = some o := fun b o hb => by
    have hbl := Heap.lt_size (hk b o hb)
    rw [sortedHeap_old (Nat.ne_of_lt hbl) (by rw [size_push']; exact Nat.lt_succ_of_lt hbl), Heap.get?_push_ne _ _ _ (Nat.ne_of_lt hbl)]
    exact hk b o hb
  refine h _ _ out.toList ns' e tk (F.kept hkeep) ?_ (fun p hp => Nat.lt_of_lt_of_le (Heap.lt_size (N p hp).1) (Nat.le_of_lt hlt)) a1 (a2.trans hperm) a3
  exact N.kept_cons F hkeep (Nat.le_of_lt hlt) hout
end
end Mine

end
-- IterLib
section
open PySem PySem.W PySem.Spec PySem.Calls PyProof.Rows
set_option Elab.async false
set_option maxRecDepth 100000
set_option maxHeartbeats 2000000
namespace Mine
theorem said_IterLib_0 : True := by
  k_with_none
  w_top off
  k_with "lt" => first | assumption | (refine Mine.Ar.pick (by assumption) ?_; intro hh; first | exact Mine.Ar.c1 hh | exact Mine.Ar.c2 hh | exact Mine.Ar.c3 hh | exact Mine.Ar.c4 hh | exact Mine.Ar.c5 hh | exact Mine.Ar.c6 hh | exact Mine.Ar.c7 hh | exact Mine.Ar.c8 hh | exact Mine.Ar.e2 hh | exact Mine.Ar.e3 hh | exact Mine.Ar.e4 hh | fail) | exact Mine.Ar.t1 | exact Mine.Ar.t2 | exact Mine.Ar.t3 | fail
  k_with "lt2" => first | k_extra "lt" | (refine Mine.Ar.s1 ?_; k_extra "lt") | (refine Mine.Ar.s2 ?_; k_extra "lt") | (refine Mine.Ar.s3 ?_; k_extra "lt") | fail
  k_with "omega" => with_reducible (first | assumption | decide +kernel | (refine Nat.ne_of_gt ?_; k_extra "lt2") | (refine Nat.ne_of_lt ?_; k_extra "lt2") | k_extra "lt2" | exact Mine.Ar.u1 | exact Mine.Ar.u2 | exact Mine.Ar.u3 | exact Mine.Ar.v1 | exact Mine.Ar.dp0 (by assumption) | exact Mine.Ar.dp1 (by assumption) (by decide) | exact Mine.Ar.dp2 (by assumption) (by decide) | exact Mine.Ar.ll (by assumption) (by decide) | exact Mine.Ar.l0 (by assumption) (by decide) | exact Mine.Ar.lm (by assumption) (by decide) | exact Mine.Ar.gn (by assumption) (by decide) | exact Mine.Ar.ci (by decide) | exact Mine.Ar.cz | exact Mine.Ar.li (by assumption) (by decide) | exact Mine.Ar.lj (by assumption) (by decide) | exact Mine.Ar.lk (by assumption) (by decide) | exact Mine.Ar.gi (by assumption) (by decide) | exact Mine.Ar.gj (by assumption) (by decide) | exact Mine.Ar.gk (by assumption) (by decide) | exact Mine.Ar.gl (by assumption) (by decide) | exact Mine.Ar.n0 (by assumption) | exact Mine.Ar.n1 (by assumption) (by decide) | exact Mine.Ar.m0 (by assumption) | exact Mine.Ar.m1 (by assumption) (by decide) | exact And.left (by assumption) | exact And.right (by assumption) | lia | fail)
  trivial
def liObj (l : Addr) (i : Nat) : Obj := { cls := .type "list_iterator", dict := none, data := .fields #[.ref l, .int i 0], slots := #[] }
section
variable {prog : Program} {w : World} {A : Around} {E : Value → Shared → Prop} {s : Shared} {h₀ : Heap} {L it l : Addr} {m : Str → Option Value} {news : Led} {g : Obj → Led} {vs : List Value} {n i : Nat} {x : Value} {env : Env}
theorem li_iter {Q : Value → Shared → Prop} (F : Fr h₀ L s.heap m) (N : News h₀ L s.heap news) (hp : (l, listOf vs.toArray n) ∈ news)
    (h : ∀ (I : Addr) h', Fr h₀ L h' m → News h₀ L h' ((I, liObj l 0) :: news) → (∀ p ∈ news, p.1 < I) → Q (.ref I) { s with heap := h' }) :
    wpAny (model prog w) A (call (.builtin "iter") [.ref l]) Q E s := by
  refine call_function_entry (by decide +kernel) (by decide +kernel) kdk_entry_iter (kdk_args_iter _) ?_
  unfold Builtin.«iter»
  refine wpAny_bind (m := someArgs "iter" 1 2 _) (wpAny_of_eq (a := [Value.ref l]) (by first | rfl | kernel_rfl!) ?_)
  show wpAny _ _ (pyIter (.ref l) >>= _) _ _ _
  refine wpAny_bind (wpAny_pyIter_list (N.isList hp) ?_)
  exact wpAny_pure ⟨_, rfl, h _ _ (F.push _) (News.push F N _ rfl) (fun q hq => Heap.lt_size (N q hq).1)⟩
theorem li_next {Q : Value → Shared → Prop} (F : Fr h₀ L s.heap m) (N : News h₀ L s.heap news) (U : UpdF it (liObj l i) news g) (hp : (l, listOf vs.toArray n) ∈ news) (hx : vs[i]? = some x)
    (h : ∀ h', Fr h₀ L h' m → News h₀ L h' (g (liObj l (i + 1))) → Q x { s with heap := h' }) :
    wpAny (model prog w) A (call (.builtin "next") [.ref it]) Q E s := by
  obtain ⟨pre, post, hl, hg, a, b⟩ := U.split
  have hmem : (it, liObj l i) ∈ news := by rw [hl]; exact List.mem_append_right _ (.head _)
  have hm := N _ hmem
  have ho : s.heap.get? it = some (liObj l i) := hm.1
  have hT : s.TypeIs (.ref it) "list_iterator" := ⟨_, ho, rfl⟩
  obtain ⟨ol, hol, _, nl, hdl⟩ := N.isList hp
  refine call_function_entry (by decide +kernel) (by decide +kernel) kdk_entry_next (kdk_args_next _) ?_
  unfold Builtin.«next»
  refine wpAny_bind (m := someArgs "next" 1 2 _) (wpAny_of_eq (a := [Value.ref it]) (by first | rfl | kernel_rfl!) ?_)
  dsimp only
  refine wpAny_bind (wpAny_specialOf (name := Str.ofString "__next__") hT slot_listiter_next.lookup ?_)
  refine wpAny_ite_split (fun hab => absurd hab (by decide)) (fun _ => ?_)
  refine wpAny_bind (wpAny_callSpecial?_slot (name := Str.ofString "__next__") hT slot_listiter_next (wpAny_call_entry slot_listiter_next hT entry_listiter_next ?_ (args_listiter_next _)))
  show wpAny _ _ (field (.ref it) 0 >>= _) _ _ s
  refine wpAny_bind (wpAny_field ho rfl (x := .ref l) rfl ?_)
  show wpAny _ _ (if (Value.ref l == Value.none) = true then _ else _) _ _ s
  rw [if_neg (show ¬ ((Value.ref l == Value.none) = true) from Bool.false_ne_true)]
  show wpAny _ _ (field (.ref it) 1 >>= _) _ _ s
  refine wpAny_bind (wpAny_field ho rfl (x := .int i 0) rfl ?_)
  show wpAny _ _ (seqItems? (.ref l) >>= _) _ _ s
  refine wpAny_bind (wpAny_seqItems hol hdl ?_)
  have hx' : vs.toArray[i]? = some x := by simpa using hx
  simp only [Int.toNat_natCast, hx']
  refine wpAny_bind (wpAny_setField ho rfl (by simp) (wpAny_pure ⟨x, rfl, ?_⟩))
  have hg1 : (s.heap.update it (Obj.mapFields (·.setIfInBounds 1 (rawInt ((i : Int) + 1))))).get? it = some (liObj l (i + 1)) := Heap.get?_update_self _ ho rfl
  have hsb := Heap.SameBut.update s.heap it (Obj.mapFields (·.setIfInBounds 1 (rawInt ((i : Int) + 1))))
  exact wpAny_pure ⟨_, rfl, h _ (F.change hsb hm.2.1 hm.2.2) (hg _ ▸ (show News h₀ L s.heap (pre ++ (it, liObj l i) :: post) from hl ▸ N).setIn a b hsb hg1)⟩
end
end Mine

end
-- LoopL
section
open PySem PySem.W PySem.Spec PySem.Calls PyProof.Rows
set_option Elab.async false
set_option maxRecDepth 100000
set_option maxHeartbeats 2000000
namespace Mine
theorem said_LoopL_0 : True := by
  k_with_none
  w_top off
  k_with "lt" => first | assumption | (refine Mine.Ar.pick (by assumption) ?_; intro hh; first | exact Mine.Ar.c1 hh | exact Mine.Ar.c2 hh | exact Mine.Ar.c3 hh | exact Mine.Ar.c4 hh | exact Mine.Ar.c5 hh | exact Mine.Ar.c6 hh | exact Mine.Ar.c7 hh | exact Mine.Ar.c8 hh | exact Mine.Ar.e2 hh | exact Mine.Ar.e3 hh | exact Mine.Ar.e4 hh | fail) | exact Mine.Ar.t1 | exact Mine.Ar.t2 | exact Mine.Ar.t3 | fail
  k_with "lt2" => first | k_extra "lt" | (refine Mine.Ar.s1 ?_; k_extra "lt") | (refine Mine.Ar.s2 ?_; k_extra "lt") | (refine Mine.Ar.s3 ?_; k_extra "lt") | fail
  k_with "omega" => with_reducible (first | assumption | decide +kernel | (refine Nat.ne_of_gt ?_; k_extra "lt2") | (refine Nat.ne_of_lt ?_; k_extra "lt2") | k_extra "lt2" | exact Mine.Ar.u1 | exact Mine.Ar.u2 | exact Mine.Ar.u3 | exact Mine.Ar.v1 | exact Mine.Ar.dp0 (by assumption) | exact Mine.Ar.dp1 (by assumption) (by decide) | exact Mine.Ar.dp2 (by assumption) (by decide) | exact Mine.Ar.ll (by assumption) (by decide) | exact Mine.Ar.l0 (by assumption) (by decide) | exact Mine.Ar.lm (by assumption) (by decide) | exact Mine.Ar.gn (by assumption) (by decide) | exact Mine.Ar.ci (by decide) | exact Mine.Ar.cz | exact Mine.Ar.li (by assumption) (by decide) | exact Mine.Ar.lj (by assumption) (by decide) | exact Mine.Ar.lk (by assumption) (by decide) | exact Mine.Ar.gi (by assumption) (by decide) | exact Mine.Ar.gj (by assumption) (by decide) | exact Mine.Ar.gk (by assumption) (by decide) | exact Mine.Ar.gl (by assumption) (by decide) | exact Mine.Ar.n0 (by assumption) | exact Mine.Ar.n1 (by assumption) (by decide) | exact Mine.Ar.m0 (by assumption) | exact Mine.Ar.m1 (by assumption) (by decide) | exact And.left (by assumption) | exact And.right (by assumption) | lia | fail)
  trivial
def LEndU (h₀ : Heap) (L : Addr) (s : Shared) (p q : Addr × Obj) (rest : (Str → Option Value) → Led → Prop) (s₃ : Shared) : Prop :=
  ∃ h tk dr m' nx', s₃ = { s with heap := h, toks := tk, drawn := dr } ∧ Fr h₀ L h m' ∧ News h₀ L h (p :: nx') ∧ q ∈ nx' ∧ (∀ x ∈ nx', x.1 ≠ p.1) ∧ rest m' nx'
def LPostU (h₀ : Heap) (L : Addr) (s : Shared) (p q : Addr × Obj) (rest : (Str → Option Value) → Led → Prop) (Q : Flow → Shared → Prop) (f : Flow) (s₃ : Shared) : Prop :=
  match f with
  | .ret v => Q (.ret v) s₃
  | .brk => Q .next s₃
  | _ => LEndU h₀ L s p q rest s₃
theorem LPostU.next {h₀ L s p q rest Q s₃} (h : LEndU h₀ L s p q rest s₃) : LPostU h₀ L s p q rest Q .next s₃ := h
theorem LPostU.ret {h₀ L s p q rest s₃} {Q : Flow → Shared → Prop} {v : Value} (h : Q (.ret v) s₃) : LPostU h₀ L s p q rest Q (.ret v) s₃ := h
theorem LEndU.intro {h₀ : Heap} {L : Addr} {s : Shared} {p q : Addr × Obj} {rest : (Str → Option Value) → Led → Prop} {h : Heap} {tk : Nat} {dr : Drawn} {m' : Str → Option Value} {nx' : Led} (F : Fr h₀ L h m') (N : News h₀ L h (p :: nx')) (hq : q ∈ nx') (hs : ∀ x ∈ nx', x.1 ≠ p.1) (r : rest m' nx') :
    LEndU h₀ L s p q rest { s with heap := h, toks := tk, drawn := dr } := ⟨h, tk, dr, m', nx', rfl, F, N, hq, hs, r⟩
def UnrL (prog : Program) (w : World) (A : Around) (E : Value → Shared → Prop) (h₀ : Heap) (env : Env) (target : Expr) (body : List Stmt) (Q : Flow → Shared → Prop) (s : Shared) (I l : Addr) (vs : List Value) (n : Nat) : Nat → Nat → (Str → Option Value) → Led → Prop
  | 0, _, m, nx => ∀ h tk dr, Fr h₀ env.locals h m → News h₀ env.locals h nx → Q .next { s with heap := h, toks := tk, drawn := dr }
  | k + 1, i, m, nx => ∃ v, vs[i]? = some v ∧ ∀ h tk dr, Fr h₀ env.locals h m → News h₀ env.locals h ((I, liObj l (i + 1)) :: nx) →
      wpAny (model prog w) A (assign target env v) (fun _ s₂ => wpAny (model prog w) A (execs body env)
        (LPostU h₀ env.locals s (I, liObj l (i + 1)) (l, listOf vs.toArray n) (UnrL prog w A E h₀ env target body Q s I l vs n k (i + 1)) Q) E s₂) E { s with heap := h, toks := tk, drawn := dr }
section
variable {prog : Program} {w : World} {A : Around} {E : Value → Shared → Prop} {s : Shared} {h₀ : Heap} {it l : Addr} {m : Str → Option Value} {news : Led} {vs : List Value} {n i j : Nat} {x : Value} {env : Env} {target : Expr} {body : List Stmt}
theorem UnrL.zero {Q : Flow → Shared → Prop} {I : Addr} (h : ∀ h tk dr, Fr h₀ env.locals h m → News h₀ env.locals h news → Q .next { s with heap := h, toks := tk, drawn := dr }) : UnrL prog w A E h₀ env target body Q s I l vs n 0 i m news := h
theorem UnrL.succ {Q : Flow → Shared → Prop} {I : Addr} {k : Nat} (v : Value) (hv : vs[i]? = some v)
    (h : ∀ h tk dr, Fr h₀ env.locals h m → News h₀ env.locals h ((I, liObj l (i + 1)) :: news) →
      wpAny (model prog w) A (assign target env v) (fun _ s₂ => wpAny (model prog w) A (execs body env)
        (LPostU h₀ env.locals s (I, liObj l (i + 1)) (l, listOf vs.toArray n) (UnrL prog w A E h₀ env target body Q s I l vs n k (i + 1)) Q) E s₂) E { s with heap := h, toks := tk, drawn := dr }) :
    UnrL prog w A E h₀ env target body Q s I l vs n (k + 1) i m news := ⟨v, hv, h⟩
theorem UnrL.monoE {E E' : Value → Shared → Prop} {Q : Flow → Shared → Prop} {I : Addr} (hE : ∀ e s', E e s' → E' e s') : ∀ {k i : Nat} {m : Str → Option Value} {news : Led},
    UnrL prog w A E h₀ env target body Q s I l vs n k i m news → UnrL prog w A E' h₀ env target body Q s I l vs n k i m news
  | 0, _, _, _, h => h
  | k + 1, i, m, news, ⟨v, hv, h⟩ => by
    refine ⟨v, hv, fun h1 tk dr F N => wpAny_mono (h h1 tk dr F N) (fun _ s₂ h₂ => wpAny_mono h₂ (fun f s₃ h₃ => ?_) hE) hE⟩
    cases f with
    | ret v => exact h₃
    | brk => exact h₃
    | cont => obtain ⟨a, b, c, d, e, p1, p2, p3, p4, p5, p6⟩ := h₃; exact ⟨a, b, c, d, e, p1, p2, p3, p4, p5, UnrL.monoE hE p6⟩
    | next => obtain ⟨a, b, c, d, e, p1, p2, p3, p4, p5, p6⟩ := h₃; exact ⟨a, b, c, d, e, p1, p2, p3, p4, p5, UnrL.monoE hE p6⟩
theorem li_pyNext {Q : Option Value → Shared → Prop} (ho : s.heap.get? it = some (liObj l i)) (hl : s.heap.IsList l vs.toArray) (hx : vs[i]? = some x)
    (h : ∀ h', h'.get? it = some (liObj l (i + 1)) → Heap.SameBut it s.heap h' → Q (some x) { s with heap := h' }) : wpAny (model prog w) A (pyNext (.ref it)) Q E s := by
  have hT : s.TypeIs (.ref it) "list_iterator" := ⟨_, ho, rfl⟩
  obtain ⟨ol, hol, _, nl, hdl⟩ := hl
  unfold pyNext
  refine wpAny_bind (wpAny_attempt (wpAny_callSpecial?_slot (name := Str.ofString "__next__") hT slot_listiter_next (wpAny_call_entry slot_listiter_next hT entry_listiter_next ?_ (args_listiter_next _))))
  show wpAny _ _ (field (.ref it) 0 >>= _) _ _ s
  refine wpAny_bind (wpAny_field ho rfl (x := .ref l) rfl ?_)
  show wpAny _ _ (if (Value.ref l == Value.none) = true then _ else _) _ _ s
  rw [if_neg (show ¬ ((Value.ref l == Value.none) = true) from Bool.false_ne_true)]
  show wpAny _ _ (field (.ref it) 1 >>= _) _ _ s
  refine wpAny_bind (wpAny_field ho rfl (x := .int i 0) rfl ?_)
  show wpAny _ _ (seqItems? (.ref l) >>= _) _ _ s
  refine wpAny_bind (wpAny_seqItems hol hdl ?_)
  have hx' : vs.toArray[i]? = some x := by simpa using hx
  simp only [Int.toNat_natCast, hx']
  refine wpAny_bind (wpAny_setField ho rfl (by simp) (wpAny_pure ⟨x, rfl, ?_⟩))
  exact wpAny_pure (h _ (Heap.get?_update_self _ ho rfl) (Heap.SameBut.update ..))
theorem loopL {R : Result → Shared → Prop} (hh : A.handled = none) (F : Fr h₀ env.locals s.heap m) (N : News h₀ env.locals s.heap ((it, liObj l j) :: news)) (hq : (l, listOf vs.toArray n) ∈ news) (hs : ∀ x ∈ news, x.1 ≠ it) (hj : j ≤ vs.length)
    (h : UnrL prog w A (notedBy (model prog w) A env fun e s' => R (.error e) s') h₀ env target body (fun f s' => R (.ok f) s') s it l vs n (vs.length - j) j m news) :
    codeAny (model prog w) A (.forLoop target (.ref it) body [] env) R s := by
  refine codeAny_forLoop_any
    (fun k s' => ∃ h' tk dr m' nx i, s' = { s with heap := h', toks := tk, drawn := dr } ∧ Fr h₀ env.locals h' m' ∧ News h₀ env.locals h' ((it, liObj l i) :: nx) ∧ (l, listOf vs.toArray n) ∈ nx ∧ (∀ x ∈ nx, x.1 ≠ it) ∧ i ≤ vs.length ∧ k = vs.length + 1 - i ∧
      UnrL prog w A (notedBy (model prog w) A env fun e s' => R (.error e) s') h₀ env target body (fun f s' => R (.ok f) s') s it l vs n (vs.length - i) i m' nx) ?_ (vs.length + 1 - j)
    ⟨s.heap, s.toks, s.drawn, m, news, j, rfl, F, N, hq, hs, hj, rfl, h⟩
  rintro k s' ⟨h', tk, dr, m', nx, i, rfl, F', N', hq', hs', hi, rfl, hU⟩
  have hm := N' _ (.head _)
  have hl : h'.IsList l vs.toArray := N'.isList (.tail _ hq')
  by_cases hlt : i < vs.length
  · have e : vs.length - i = (vs.length - (i + 1)) + 1 := by omega
    rw [e] at hU
    obtain ⟨v, hv, go⟩ := hU
    refine li_pyNext (l := l) (i := i) hm.1 hl hv fun h1 g1 sb => ?_
    have F1 : Fr h₀ env.locals h1 m' := F'.change sb hm.2.1 hm.2.2
    have N1 : News h₀ env.locals h1 ((it, liObj l (i + 1)) :: nx) := by
      intro p hp
      rcases List.mem_cons.mp hp with rfl | hp
      · exact ⟨g1, hm.2⟩
      · have := N' p (.tail _ hp)
        exact ⟨(sb.2 _ (hs' p hp)).trans this.1, this.2⟩
    dsimp only
    have hgo : ∀ (Q' : Unit → Shared → Prop) (s1 : Shared), s1.heap = h1 → Q' () s1 → wpAny (model prog w) A (letOwnedTupleGo target (.ref it) v) Q' (notedBy (model prog w) A env fun e s' => R (.error e) s') s1 := by
      intro Q' s1 hs1 hQ
      have ho : s1.heap.get? it = some (liObj l (i + 1)) := hs1 ▸ g1
      unfold letOwnedTupleGo
      cases target <;> first
        | exact wpAny_pure hQ
        | (cases v <;> first
            | exact wpAny_pure hQ
            | (refine wpAny_bind (wpAny_load ho ?_)
               exact wpAny_pure hQ))
    refine hgo _ _ rfl ?_
    refine wpAny_mono (go h1 tk dr F1 N1) (fun _ s₂ h₂ => wpAny_mono h₂ (fun f s₃ h₃ => ?_) fun _ _ e => e) fun _ _ e => e
    cases f with
    | ret v => exact h₃
    | brk => exact h₃
    | cont =>
      obtain ⟨a, b, c, d, e, p1, p2, p3, p4, p5, p6⟩ := h₃
      exact ⟨vs.length + 1 - (i + 1), by omega, a, b, c, d, e, i + 1, p1, p2, p3, p4, p5, hlt, rfl, p6⟩
    | next =>
      obtain ⟨a, b, c, d, e, p1, p2, p3, p4, p5, p6⟩ := h₃
      exact ⟨vs.length + 1 - (i + 1), by omega, a, b, c, d, e, i + 1, p1, p2, p3, p4, p5, hlt, rfl, p6⟩
  · have hin : i = vs.length := by omega
    subst hin
    rw [Nat.sub_self] at hU
    refine wpAny_pyNext_list_end hh ⟨_, hm.1, rfl, rfl⟩ hl (by simp) fun h1 he => ?_
    have hk : ∀ b o, b ≠ it → h'.get? b = some o → h1.get? b = some o := fun b o hb e => he b o hb e
    have F1 : Fr h₀ env.locals h1 m' := ⟨F'.ns.at' fun o e => hk _ o (Ne.symm hm.2.1) e, fun b o e => hk b o (fun q => by rw [q] at e; rw [hm.2.2] at e; cases e) (F'.keep b o e), F'.above⟩
    refine wpAny_execs_nil ?_
    exact hU h1 tk dr F1 fun p hp => ⟨hk _ _ (hs' p hp) (N' p (.tail _ hp)).1, (N' p (.tail _ hp)).2⟩
def LAt (prog : Program) (w : World) (A : Around) (h₀ : Heap) (env : Env) (target : Expr) (body : List Stmt) (Q : Flow → Shared → Prop) (E : Value → Shared → Prop) (it : Value) (s₂ : Shared) : Prop :=
  ∃ (I l : Addr) (vs : List Value) (n j : Nat) (m : Str → Option Value) (nx : Led), it = .ref I ∧ Fr h₀ env.locals s₂.heap m ∧ News h₀ env.locals s₂.heap ((I, liObj l j) :: nx) ∧ (l, listOf vs.toArray n) ∈ nx ∧ (∀ x ∈ nx, x.1 ≠ I) ∧ j ≤ vs.length ∧
    UnrL prog w A E h₀ env target body Q s₂ I l vs n (vs.length - j) j m nx
theorem For_L {Q : Flow → Shared → Prop} {iter : Expr} {pos : Pos} (_F : Fr h₀ env.locals s.heap m) (hh : A.handled = none)
    (h : wpAny (model prog w) A (eval iter env) (fun xv s₁ => wpAny (model prog w) A (pyIter xv) (fun it s₂ => LAt prog w A h₀ env target body Q E it s₂) E s₁) E s)
    (hs : ∀ x, foldedSetIterable iter env x = pure x)
    (hE : PassesOwn (model prog w) A env E := by passes_own) :
    wpAny (model prog w) A (exec (.For target iter body [] pos) env) Q E s := by
  refine wpAny_For (wpAny_mono h (fun xv s₁ h₁ => wpAny_mono h₁ (fun it s₂ h₂ => ?_) fun _ _ e => e) fun _ _ e => e) hs
  obtain ⟨I, l, vs, n, j, m, nx, rfl, F, N, hq, hsep, hj, hU⟩ := h₂
  exact loopL (R := fun r s' => match r with | .ok f => Q f s' | .error e => cameBackBy (model prog w) A env E e s') hh F N hq hsep hj (UnrL.monoE hE hU)
theorem li_again {Q : Flow → Shared → Prop} (F : Fr h₀ env.locals s.heap m) (N : News h₀ env.locals s.heap ((it, liObj l j) :: news)) (hq : (l, listOf vs.toArray n) ∈ news) (hs : ∀ x ∈ news, x.1 ≠ it) (hj : j ≤ vs.length)
    (h : UnrL prog w A E h₀ env target body Q s it l vs n (vs.length - j) j m news) :
    wpAny (model prog w) A (pyIter (.ref it)) (fun it s₂ => LAt prog w A h₀ env target body Q E it s₂) E s :=
  wpAny_pyIter_listiter (l := l) (i := j) ⟨_, (N _ (.head _)).1, rfl, rfl⟩ ⟨it, l, vs, n, j, m, news, rfl, F, N, hq, hs, hj, h⟩
theorem li_fresh {Q : Flow → Shared → Prop} (F : Fr h₀ env.locals s.heap m) (N : News h₀ env.locals s.heap news) (hq : (l, listOf vs.toArray n) ∈ news)
    (h : ∀ I h', (∀ p ∈ news, p.1 < I) → UnrL prog w A E h₀ env target body Q { s with heap := h' } I l vs n vs.length 0 m news) :
    wpAny (model prog w) A (pyIter (.ref l)) (fun it s₂ => LAt prog w A h₀ env target body Q E it s₂) E s :=
  wpAny_pyIter_list (N.isList hq) ⟨_, l, vs, n, 0, m, news, rfl, F.push _, News.push F N _ rfl, hq, (fun x hx => Nat.ne_of_lt (Heap.lt_size (N x hx).1)), Nat.zero_le _, h _ _ (fun p hp => Heap.lt_size (N p hp).1)⟩
end
end Mine

end
-- CpLib
section
open PySem PySem.W PySem.Spec PySem.Calls PyProof.Rows
set_option Elab.async false
set_option pp.maxSteps 3000
set_option pp.deepTerms false
set_option pp.deepTerms.threshold 6
set_option maxRecDepth 100000
set_option maxHeartbeats 2000000
namespace Mine
theorem said_CpLib_0 : True := by
  k_with_none
  w_top off
  k_with "lt" => first | assumption | (refine Mine.Ar.pick (by assumption) ?_; intro hh; first | exact Mine.Ar.c1 hh | exact Mine.Ar.c2 hh | exact Mine.Ar.c3 hh | exact Mine.Ar.c4 hh | exact Mine.Ar.c5 hh | exact Mine.Ar.c6 hh | exact Mine.Ar.c7 hh | exact Mine.Ar.c8 hh | exact Mine.Ar.e2 hh | exact Mine.Ar.e3 hh | exact Mine.Ar.e4 hh | fail) | exact Mine.Ar.t1 | exact Mine.Ar.t2 | exact Mine.Ar.t3 | fail
  k_with "lt2" => first | k_extra "lt" | (refine Mine.Ar.s1 ?_; k_extra "lt") | (refine Mine.Ar.s2 ?_; k_extra "lt") | (refine Mine.Ar.s3 ?_; k_extra "lt") | fail
  k_with "omega" => with_reducible (first | assumption | decide +kernel | (refine Nat.ne_of_gt ?_; k_extra "lt2") | (refine Nat.ne_of_lt ?_; k_extra "lt2") | k_extra "lt2" | exact Mine.Ar.u1 | exact Mine.Ar.u2 | exact Mine.Ar.u3 | exact Mine.Ar.v1 | exact Mine.Ar.dp0 (by assumption) | exact Mine.Ar.dp1 (by assumption) (by decide) | exact Mine.Ar.dp2 (by assumption) (by decide) | exact Mine.Ar.ll (by assumption) (by decide) | exact Mine.Ar.l0 (by assumption) (by decide) | exact Mine.Ar.lm (by assumption) (by decide) | exact Mine.Ar.gn (by assumption) (by decide) | exact Mine.Ar.ci (by decide) | exact Mine.Ar.cz | exact Mine.Ar.li (by assumption) (by decide) | exact Mine.Ar.lj (by assumption) (by decide) | exact Mine.Ar.lk (by assumption) (by decide) | exact Mine.Ar.gi (by assumption) (by decide) | exact Mine.Ar.gj (by assumption) (by decide) | exact Mine.Ar.gk (by assumption) (by decide) | exact Mine.Ar.gl (by assumption) (by decide) | exact Mine.Ar.n0 (by assumption) | exact Mine.Ar.n1 (by assumption) (by decide) | exact Mine.Ar.m0 (by assumption) | exact Mine.Ar.m1 (by assumption) (by decide) | exact And.left (by assumption) | exact And.right (by assumption) | lia | fail)
  trivial
section
variable {prog : Program} {w : World} {A : Around} {E : Value → Shared → Prop} {s : Shared} {h₀ : Heap} {L sa : Addr} {m : Str → Option Value} {news : Led} {o : Obj} {C : SC} {g : Obj → Led}
theorem sk_in_t {k : Int} {tk : Tok} {Q : Value → Shared → Prop} (N : News h₀ L s.heap news) (U : UpdF sa o news g) (hK : SetK w o C) (hC : okC C = true) (hh : hasC C k = true) (h : Q (.bool true) { s with toks := s.toks + 1 }) :
    wpAny (model prog w) A (compareOp .In (.int k tk) (.ref sa)) Q E s := sk_in N U hK hC (by rw [hh]; exact h)
theorem sk_in_f {k : Int} {tk : Tok} {Q : Value → Shared → Prop} (N : News h₀ L s.heap news) (U : UpdF sa o news g) (hK : SetK w o C) (hC : okC C = true) (hh : hasC C k = false) (h : Q (.bool false) { s with toks := s.toks + 1 }) :
    wpAny (model prog w) A (compareOp .In (.int k tk) (.ref sa)) Q E s := sk_in N U hK hC (by rw [hh]; exact h)
theorem sk_truthy_t {Q : Bool → Shared → Prop} (N : News h₀ L s.heap news) (U : UpdF sa o news g) (hK : SetK w o C) (hC : okC C = true) (hh : decide (C.1.size ≠ 0) = true) (h : Q true { s with toks := s.toks + 1 + 1 }) :
    wpAny (model prog w) A (truthy (.ref sa)) Q E s := sk_truthy N U hK hC (by rw [hh]; exact h)
theorem sk_truthy_f {Q : Bool → Shared → Prop} (N : News h₀ L s.heap news) (U : UpdF sa o news g) (hK : SetK w o C) (hC : okC C = true) (hh : decide (C.1.size ≠ 0) = false) (h : Q false { s with toks := s.toks + 1 + 1 }) :
    wpAny (model prog w) A (truthy (.ref sa)) Q E s := sk_truthy N U hK hC (by rw [hh]; exact h)
theorem sorted_uniq : ∀ (a b : List Int), a.Perm b → a.Pairwise (· ≤ ·) → b.Pairwise (· ≤ ·) → a = b
  | [], b, p, _, _ => (List.nil_perm.mp p).symm
  | x :: a, [], p, _, _ => absurd p.length_eq (by simp)
  | x :: a, y :: b, p, ha, hb => by
    have hx : x ∈ y :: b := p.mem_iff.mp (.head _)
    have hy : y ∈ x :: a := p.mem_iff.mpr (.head _)
    have h1 : y ≤ x := by
      rcases List.mem_cons.mp hx with h | h
      · omega
      · exact (List.pairwise_cons.mp hb).1 x h
    have h2 : x ≤ y := by
      rcases List.mem_cons.mp hy with h | h
      · omega
      · exact (List.pairwise_cons.mp ha).1 y h
    have e : x = y := by omega
    subst e
    rw [sorted_uniq a b (List.perm_cons _ |>.mp p) (List.pairwise_cons.mp ha).2 (List.pairwise_cons.mp hb).2]
theorem sk_sortedL (l : List Int) (hh : A.handled = none) {Q : Value → Shared → Prop} (F : Fr h₀ L s.heap m) (N : News h₀ L s.heap news) (U : UpdF sa o news g) (hK : SetK w o C) (hC : okC C = true) (hl : layC C = true) (hp : l.isPerm (keysC C) = true) (hs : l.Pairwise (· ≤ ·))
    (h : ∀ D h' vs e tk, Fr h₀ L h' m → News h₀ L h' ((D, listOf vs.toArray e) :: news) → (∀ p ∈ news, p.1 < D) → IntsAre vs l → Q (.ref D) { s with heap := h', toks := tk }) :
    wpAny (model prog w) A (call (.builtin "sorted") [.ref sa]) Q E s :=
  sk_sorted hh F N U hK hC hl fun D h' vs ns e tk F' N' l1 hI p q => h D h' vs e tk F' N' l1 (by rw [sorted_uniq l ns ((List.isPerm_iff.mp hp).trans p.symm) hs q]; exact hI)
end
def PowOk (kvs : List (Int × Value)) : Prop := ∀ kv ∈ kvs, 0 ≤ kv.1 ∧ kv.1 ≤ 48 ∧ ∃ t, kv.2 = .int (16 ^ kv.1.toNat) t
theorem powOk_nil : PowOk [] := fun _ h => nomatch h
theorem powOk_st {kvs : List (Int × Value)} {k v : Int} {t : Tok} (h : PowOk kvs) (h0 : 0 ≤ k) (h1 : k ≤ 48) (hv : v = 16 ^ k.toNat) : PowOk (stored kvs k (.int v t)) := by
  subst hv
  intro kv hkv
  unfold stored at hkv
  split at hkv
  · obtain ⟨x, hx, rfl⟩ := List.mem_map.mp hkv
    split
    · rename_i hxk
      subst hxk
      exact ⟨h0, h1, t, rfl⟩
    · exact h x hx
  · rcases List.mem_append.mp hkv with hkv | hkv
    · exact h kv hkv
    · rw [List.mem_singleton.mp hkv]
      exact ⟨h0, h1, t, rfl⟩
theorem mem_st (kvs : List (Int × Value)) (k : Int) (v : Value) : ∃ u, (k, u) ∈ stored kvs k v := by
  unfold stored
  split
  · rename_i hx
    obtain ⟨x, hx, hk⟩ := List.any_eq_true.mp hx
    have hk' : x.1 = k := by simpa using hk
    exact ⟨v, List.mem_map.mpr ⟨x, hx, by rw [if_pos hk', hk']⟩⟩
  · exact ⟨v, List.mem_append_right _ (.head _)⟩
theorem len_st (kvs : List (Int × Value)) (k : Int) (v : Value) : (stored kvs k v).length ≤ kvs.length + 1 := by
  unfold stored
  split
  · simp
  · simp
def CpR (w : World) (news : Led) (k : Int) (r : Value) (news' : Led) : Prop :=
  ∃ (D : Addr) (o : Obj) (kvs : List (Int × Value)) (ds : List (PyData × PyData)), r = .ref D ∧ news' = (D, o) :: news ∧ (D == sysModules) = false ∧ (∀ p ∈ news, p.1 < D) ∧ o.IsDictOf (intKind PySem.Challenge.rw_st0036_01.row.prog w) kvs ∧ PyProof.V.FlatPairs PyData.int kvs ds ∧
    PowOk kvs ∧ (∃ u, (k, u) ∈ kvs) ∧ kvs.length ≤ 10
def DoesD (w : World) (D U : Nat) (f : Addr) (news : Led) (vs : List Value) (R : Value → Led → Prop) : Prop :=
  ∀ (p : Program) (loose : List Str) (mean : ExcName → Option Value) (mg mb : Str → Option Value)
    (dp un : Nat) (gd : Option (List Code)) (cn : Str) (cs : Scope) (a : Addr) (ccd : Value) (cl : List (Str × Addr)) (outer : List Env) (A₀ : Around) (base h₀ : Heap) (L : Addr) (m : Str → Option Value) (s : Shared) (Q E : Value → Shared → Prop),
    Below A₀ base outer h₀ → Fr h₀ L s.heap m → (Mine.hd.heap_39 w.params).In h₀ → News h₀ L s.heap news → Top p loose mean mg mb h₀ → cs.kind = .function → dp + D < recursionLimit → un + U < cLine →
    (∀ r news' h' tk' dr', Fr h₀ L h' m → News h₀ L h' news' → R r news' → Q r { s with heap := h', toks := tk', drawn := dr' }) →
    wpAny (model PySem.Challenge.rw_st0036_01.row.prog w) (ktrTop dp un gd cn cs L a ccd cl outer) (call (.ref f) vs) Q E s
end Mine

end
-- CpgLib
section
open PySem PySem.W PySem.Spec PySem.Calls PyProof.Rows
set_option Elab.async false
set_option maxRecDepth 100000
namespace Mine
theorem said_CpgLib_0 : True := by
  k_with_none
  w_top off
  k_with "lt" => first | assumption | (refine Mine.Ar.pick (by assumption) ?_; intro hh; first | exact Mine.Ar.c1 hh | exact Mine.Ar.c2 hh | exact Mine.Ar.c3 hh | exact Mine.Ar.c4 hh | exact Mine.Ar.c5 hh | exact Mine.Ar.c6 hh | exact Mine.Ar.c7 hh | exact Mine.Ar.c8 hh | exact Mine.Ar.e2 hh | exact Mine.Ar.e3 hh | exact Mine.Ar.e4 hh | fail) | exact Mine.Ar.t1 | exact Mine.Ar.t2 | exact Mine.Ar.t3 | fail
  k_with "lt2" => first | k_extra "lt" | (refine Mine.Ar.s1 ?_; k_extra "lt") | (refine Mine.Ar.s2 ?_; k_extra "lt") | (refine Mine.Ar.s3 ?_; k_extra "lt") | fail
  k_with "omega" => with_reducible (first | assumption | decide +kernel | (refine Nat.ne_of_gt ?_; k_extra "lt2") | (refine Nat.ne_of_lt ?_; k_extra "lt2") | k_extra "lt2" | exact Mine.Ar.u1 | exact Mine.Ar.u2 | exact Mine.Ar.u3 | exact Mine.Ar.v1 | exact Mine.Ar.dp0 (by assumption) | exact Mine.Ar.dp1 (by assumption) (by decide) | exact Mine.Ar.dp2 (by assumption) (by decide) | exact Mine.Ar.ll (by assumption) (by decide) | exact Mine.Ar.l0 (by assumption) (by decide) | exact Mine.Ar.lm (by assumption) (by decide) | exact Mine.Ar.gn (by assumption) (by decide) | exact Mine.Ar.ci (by decide) | exact Mine.Ar.cz | exact Mine.Ar.li (by assumption) (by decide) | exact Mine.Ar.lj (by assumption) (by decide) | exact Mine.Ar.lk (by assumption) (by decide) | exact Mine.Ar.gi (by assumption) (by decide) | exact Mine.Ar.gj (by assumption) (by decide) | exact Mine.Ar.gk (by assumption) (by decide) | exact Mine.Ar.gl (by assumption) (by decide) | exact Mine.Ar.n0 (by assumption) | exact Mine.Ar.n1 (by assumption) (by decide) | exact Mine.Ar.m0 (by assumption) | exact Mine.Ar.m1 (by assumption) (by decide) | exact And.left (by assumption) | exact And.right (by assumption) | lia | fail)
  trivial
section
variable {prog : Program} {w : World} {A : Around} {E : Value → Shared → Prop} {s : Shared} {h₀ : Heap} {L sa : Addr} {m : Str → Option Value} {news : Led} {o : Obj} {C : SC} {g : Obj → Led}
theorem sk_addM {pl : Sem Bool} {Q : Value × List Value → Shared → Prop} (N : News h₀ L s.heap news) (U : UpdF sa o news g) (hK : SetK w o C) (hC : okC C = true) (h : Q (.builtin "set.add", [.ref sa]) s) :
    wpAny (model prog w) A (getMethod (.ref sa) (Str.ofString "add") pl) Q E s := sk_add_method N U hK hC h
theorem sk_popM {pl : Sem Bool} {Q : Value × List Value → Shared → Prop} (N : News h₀ L s.heap news) (U : UpdF sa o news g) (hK : SetK w o C) (h : Q (.builtin "set.pop", [.ref sa]) s) :
    wpAny (model prog w) A (getMethod (.ref sa) (Str.ofString "pop") pl) Q E s := sk_pop_method N U hK h
end
def isOdd (k : Int) : Bool := k % 2 == 1
/-- the first loop, every way that it may go, holds to its end -/
def chk (l : List Int) : Nat → SC → SC → SC → Bool
  | 0, _, _, _ => false
  | f + 1, S, N, W => okC S && okC N && okC W &&
    if W.1.size = 0 then decide (N.1.size ≠ 0) && layC N && l.isPerm (keysC N)
    else (List.range W.1.size).all fun i =>
      let k := (keysC W).getD i 0
      let W1 := popC W i
      decide (0 ≤ k) && decide (k ≤ 96) && okC W1 &&
      if hasC S k || decide (k ≤ 2) then chk l f S N W1
      else
        let W2 := addC W1 (k / 2)
        okC (addC S k) && okC (addC N (k / 2)) && okC W2 &&
        if isOdd k then chk l f (addC S k) (addC N (k / 2)) (addC W2 (k / 2 + 1)) else chk l f (addC S k) (addC N (k / 2)) W2
structure ChkAt (l : List Int) (f : Nat) (S N W : SC) : Prop where
  s : okC S = true
  n : okC N = true
  w : okC W = true
  e : W.1.size = 0 → N.1.size ≠ 0 ∧ layC N = true ∧ l.isPerm (keysC N) = true
  t : ∀ i < W.1.size, ∃ g, f = g + 1 ∧ 0 ≤ (keysC W).getD i 0 ∧ (keysC W).getD i 0 ≤ 96 ∧ okC (popC W i) = true ∧ ((hasC S ((keysC W).getD i 0) || decide ((keysC W).getD i 0 ≤ 2)) = true → chk l g S N (popC W i) = true) ∧
    ((hasC S ((keysC W).getD i 0) || decide ((keysC W).getD i 0 ≤ 2)) = false → okC (addC S ((keysC W).getD i 0)) = true ∧ okC (addC N ((keysC W).getD i 0 / 2)) = true ∧ okC (addC (popC W i) ((keysC W).getD i 0 / 2)) = true ∧
      (isOdd ((keysC W).getD i 0) = true → chk l g (addC S ((keysC W).getD i 0)) (addC N ((keysC W).getD i 0 / 2)) (addC (addC (popC W i) ((keysC W).getD i 0 / 2)) ((keysC W).getD i 0 / 2 + 1)) = true) ∧
      (isOdd ((keysC W).getD i 0) = false → chk l g (addC S ((keysC W).getD i 0)) (addC N ((keysC W).getD i 0 / 2)) (addC (popC W i) ((keysC W).getD i 0 / 2)) = true))
theorem chk_at {l : List Int} {f : Nat} {S N W : SC} (h : chk l f S N W = true) : ChkAt l f S N W := by
  cases f with
  | zero => cases h
  | succ g =>
    unfold chk at h
    simp only [Bool.and_eq_true] at h
    obtain ⟨⟨⟨h1, h2⟩, h3⟩, h4⟩ := h
    refine ⟨h1, h2, h3, fun e => ?_, fun i hi => ⟨g, rfl, ?_⟩⟩
    · rw [if_pos e] at h4
      simp only [Bool.and_eq_true, decide_eq_true_eq] at h4
      exact ⟨h4.1.1, h4.1.2, h4.2⟩
    · rw [if_neg (by omega)] at h4
      have h5 := List.all_eq_true.mp h4 i (List.mem_range.mpr hi)
      simp only [Bool.and_eq_true, decide_eq_true_eq] at h5
      obtain ⟨⟨⟨a1, a2⟩, a3⟩, a4⟩ := h5
      refine ⟨a1, a2, a3, fun q => ?_, fun q => ?_⟩
      · rw [if_pos q] at a4; exact a4
      · rw [if_neg (by rw [q]; decide)] at a4
        simp only [Bool.and_eq_true] at a4
        obtain ⟨⟨⟨b1, b2⟩, b3⟩, b4⟩ := a4
        refine ⟨b1, b2, b3, fun r => ?_, fun r => ?_⟩
        · rw [if_pos r] at b4; exact b4
        · rw [if_neg (by rw [r]; decide)] at b4; exact b4
/-- the second loop's list: each has its half, or the one before it, among the earlier -/
def goodL (l : List Int) : Bool := (List.range l.length).all fun i => decide (1 ≤ l.getD i 0) && decide (l.getD i 0 ≤ 48) && (i == 0 || (l.take i).contains (l.getD i 0 - 1) || (l.take i).contains (l.getD i 0 / 2))
def cpTab : List (Int × List Int) := [(4, [2]), (6, [1, 3]), (8, [2, 4]), (12, [1, 3, 6]), (16, [2, 4, 8]), (24, [1, 3, 6, 12]), (96, [1, 3, 6, 12, 24, 48])]
def chkTab : Bool := cpTab.all fun x => chk x.2 40 newC newC (addC newC x.1) && goodL x.2 && decide (x.2.Pairwise (· ≤ ·)) && x.2.contains (x.1 / 2) && decide (x.2.length ≤ 9) && decide (x.2 ≠ [])
theorem chkTab_ok : chkTab = true := by decide +kernel
end Mine

end
-- CpG
section
open PySem PySem.W PySem.Spec PySem.Calls PyProof.Rows
set_option Elab.async false
set_option pp.maxSteps 3000
set_option pp.deepTerms false
set_option pp.deepTerms.threshold 6
set_option maxRecDepth 100000
set_option maxHeartbeats 2000000
namespace Mine
theorem said_CpG_0 : True := by
  k_with_none
  w_top off
  k_with "lt" => first | assumption | (refine Mine.Ar.pick (by assumption) ?_; intro hh; first | exact Mine.Ar.c1 hh | exact Mine.Ar.c2 hh | exact Mine.Ar.c3 hh | exact Mine.Ar.c4 hh | exact Mine.Ar.c5 hh | exact Mine.Ar.c6 hh | exact Mine.Ar.c7 hh | exact Mine.Ar.c8 hh | exact Mine.Ar.e2 hh | exact Mine.Ar.e3 hh | exact Mine.Ar.e4 hh | fail) | exact Mine.Ar.t1 | exact Mine.Ar.t2 | exact Mine.Ar.t3 | fail
  k_with "lt2" => first | k_extra "lt" | (refine Mine.Ar.s1 ?_; k_extra "lt") | (refine Mine.Ar.s2 ?_; k_extra "lt") | (refine Mine.Ar.s3 ?_; k_extra "lt") | fail
  k_with "omega" => with_reducible (first | assumption | decide +kernel | (refine Nat.ne_of_gt ?_; k_extra "lt2") | (refine Nat.ne_of_lt ?_; k_extra "lt2") | k_extra "lt2" | exact Mine.Ar.u1 | exact Mine.Ar.u2 | exact Mine.Ar.u3 | exact Mine.Ar.v1 | exact Mine.Ar.dp0 (by assumption) | exact Mine.Ar.dp1 (by assumption) (by decide) | exact Mine.Ar.dp2 (by assumption) (by decide) | exact Mine.Ar.ll (by assumption) (by decide) | exact Mine.Ar.l0 (by assumption) (by decide) | exact Mine.Ar.lm (by assumption) (by decide) | exact Mine.Ar.gn (by assumption) (by decide) | exact Mine.Ar.ci (by decide) | exact Mine.Ar.cz | exact Mine.Ar.li (by assumption) (by decide) | exact Mine.Ar.lj (by assumption) (by decide) | exact Mine.Ar.lk (by assumption) (by decide) | exact Mine.Ar.gi (by assumption) (by decide) | exact Mine.Ar.gj (by assumption) (by decide) | exact Mine.Ar.gk (by assumption) (by decide) | exact Mine.Ar.gl (by assumption) (by decide) | exact Mine.Ar.n0 (by assumption) | exact Mine.Ar.n1 (by assumption) (by decide) | exact Mine.Ar.m0 (by assumption) | exact Mine.Ar.m1 (by assumption) (by decide) | exact And.left (by assumption) | exact And.right (by assumption) | lia | fail)
  k_with "execs cons" => ((try first | (refine' canon ?H ?F ?e ?_; (case H => assumption); (case F => assumption); (case e => exact rfl); intro _) | (refine' canonD ?H ?F ?e ?_; (case H => assumption); (case F => assumption); (case e => exact rfl); intro _ _)); (try k_fold); refine wpAny_execs_cons ?_)
  k_with "eval Call" => k_fold
  k_with "call builtin:set.pop" => refine hold_out ?_
  k_with "call builtin:sorted" => refine hold_out ?_
  k_with "pyIter ref" => refine hold_out ?_
  k_with "LPostU" => refine hold_out ?_
  k_with "exec While Name cons nil" => refine hold_out ?_
  k_with "exec While Name" => refine hold_out ?_
  k_with "WhileStepD" => refine hold_out ?_
  k_with "setItem ref int" => refine hold_out ?_
  k_with "subscriptTail" => refine hold_out ?_
  k_with "binaryOp Mult int int" => refine hold_out ?_
  k_with "inplaceOp Mult int int" => refine hold_out ?_
  trivial
theorem saidx_CpG_0 : True := by
  k_with "call type:set nil nil" => (k_here; ((with_reducible refine' sk_new ?F ?N ?_); (case F => k_dflt k_asm); (case N => k_dflt (first | k_asm | exact News.nil))); intro _ _ _ _ _ l1q _; (try k_lt l1q))
  trivial
theorem saidx_CpG_1 : True := by
  k_with "eval Set" => (k_here; ((with_reducible refine' sk_set1 ?F ?N ?X ?c ?p ?_); (case F => k_dflt k_asm); (case N => k_dflt (first | k_asm | exact News.nil)); (case X => k_dflt k_asm); (case c => k_dflt (first | k_is | kernel_rfl!)); (case p => k_dflt rfl)); intro _ _ _ _ _ l1q _; (try k_lt l1q))
  trivial
theorem saidx_CpG_2 : True := by
  k_with "setAdd int" => (k_here; ((with_reducible refine' sk_setAdd ?F ?N ?U ?d ?z ?_); (case F => k_dflt k_asm); (case N => k_dflt k_asm); (case U => k_dflt k_updF); (case d => k_dflt k_asm); (case z => first | with_reducible assumption | decide +kernel)); intro _ _ _ Nq' _; (try dsimp only at Nq'))
  trivial
theorem saidx_CpG_3 : True := by
  k_with "call builtin:set.add" => (k_here; ((with_reducible refine' sk_add ?F ?N ?U ?d ?z ?_); (case F => k_dflt k_asm); (case N => k_dflt k_asm); (case U => k_dflt k_updF); (case d => k_dflt k_asm); (case z => with_reducible assumption)); intro _ _ _ Nq' _; (try dsimp only at Nq'))
  trivial
theorem said_CpG_1 : True := by
  k_with "getMethod ref" => (k_here; (first | ((with_reducible refine' sk_addM ?N ?U ?d ?z ?_); (case N => k_dflt k_asm); (case U => k_dflt k_updF); (case d => k_dflt k_asm); (case z => with_reducible assumption)) | ((with_reducible refine' sk_popM ?N ?U ?d ?_); (case N => k_dflt k_asm); (case U => k_dflt k_updF); (case d => k_dflt k_asm))))
  k_with "compareOp In int ref" => (k_here; (first | ((with_reducible refine' sk_in_t ?N ?U ?d ?z ?hh ?_); (case N => k_dflt k_asm); (case U => k_dflt k_updF); (case d => k_dflt k_asm); (case z => with_reducible assumption); (case hh => with_reducible assumption)) | ((with_reducible refine' sk_in_f ?N ?U ?d ?z ?hh ?_); (case N => k_dflt k_asm); (case U => k_dflt k_updF); (case d => k_dflt k_asm); (case z => with_reducible assumption); (case hh => with_reducible assumption)) | refine hold_out ?_))
  k_with "truthy ref" => (k_here; (first | ((with_reducible refine' sk_truthy_t ?N ?U ?d ?z ?hh ?_); (case N => k_dflt k_asm); (case U => k_dflt k_updF); (case d => k_dflt k_asm); (case z => with_reducible assumption); (case hh => with_reducible assumption)) | ((with_reducible refine' sk_truthy_f ?N ?U ?d ?z ?hh ?_); (case N => k_dflt k_asm); (case U => k_dflt k_updF); (case d => k_dflt k_asm); (case z => with_reducible assumption); (case hh => with_reducible assumption))))
  trivial
theorem saidx_CpG_4 : True := by
  k_with "call builtin:iter" => (k_here; ((with_reducible refine' li_iter ?F ?N ?p ?_); (case F => k_dflt k_asm); (case N => k_dflt k_asm); (case p => k_dflt k_mem)); intro _ _ _ _ l1q; (try k_lt l1q))
  trivial
theorem said_CpG_2 : True := by
  k_with "call builtin:next" => refine hold_out ?_
  trivial
theorem saidx_CpG_5 : True := by
  k_with "exec For Name Name cons nil" => (k_here; (rename Fr _ _ _ _ => kFq'); (with_unfolding_all refine' For_L kFq' rfl ?_ ?ks); (case ks => (intro _; with_unfolding_all rfl)))
  trivial

def WhileStepD (h₀ : Heap) (L : Addr) (s : Shared) (J : Nat → (Str → Option Value) → Led → Prop) (Q : Flow → Shared → Prop) (n : Nat) (f : Flow) (s₃ : Shared) : Prop :=
  match f with
  | .next | .cont => ∃ h' tk dr m₂ news₂ n', s₃ = { s with heap := h', toks := tk, drawn := dr } ∧ Fr h₀ L h' m₂ ∧ News h₀ L h' news₂ ∧ n' < n ∧ J n' m₂ news₂
  | .brk => Q .next s₃
  | .ret v => Q (.ret v) s₃
theorem whileD {prog : Program} {w : World} {A : Around} {E : Value → Shared → Prop} {Q : Flow → Shared → Prop} {s : Shared} {env : Env} {h₀ : Heap} {L : Addr} {test : Expr} {body : List Stmt} {pos : Pos} {m : Str → Option Value} {news : Led} (J : (Str → Option Value) → Nat → (Str → Option Value) → Led → Prop) (n₀ : Nat)
    (F : Fr h₀ L s.heap m) (N : News h₀ L s.heap news) (hJ : J m n₀ m news)
    (turn : ∀ n m₁ news₁ h₁ tk₁ dr₁, Fr h₀ L h₁ m₁ → News h₀ L h₁ news₁ → J m n m₁ news₁ →
      wpAny (model prog w) A (isTrue test env (eval test env)) (fun b s₂ =>
        if b = true then wpAny (model prog w) A (execs body env) (WhileStepD h₀ L s (J m) Q n) E s₂ else Q .next s₂) E { s with heap := h₁, toks := tk₁, drawn := dr₁ })
    (hE : PassesOwn (model prog w) A env E) :
    wpAny (model prog w) A (exec (.While test body [] pos) env) Q E s := by
  refine wpAny_While (codeAny_whileLoop (fun n s' => ∃ h₁ tk₁ dr₁ m₁ news₁, s' = { s with heap := h₁, toks := tk₁, drawn := dr₁ } ∧ Fr h₀ L h₁ m₁ ∧ News h₀ L h₁ news₁ ∧ J m n m₁ news₁) ?_ n₀ ⟨s.heap, s.toks, s.drawn, m, news, rfl, F, N, hJ⟩)
  rintro n s' ⟨h₁, tk₁, dr₁, m₁, news₁, rfl, F₁, N₁, J₁⟩
  refine wpAny_mono (turn n m₁ news₁ h₁ tk₁ dr₁ F₁ N₁ J₁) (fun b s₂ h₂ => ?_) hE
  cases b with
  | false =>
    simp only [Bool.false_eq_true, if_false] at h₂ ⊢
    exact wpAny_execs_nil h₂
  | true =>
    simp only [if_true] at h₂ ⊢
    refine wpAny_mono h₂ (fun f s₃ h₃ => ?_) hE
    cases f with
    | next =>
      obtain ⟨h', tk, dr, m₂, news₂, n', rfl, F₂, N₂, hn, J₂⟩ := h₃
      exact ⟨n', hn, h', tk, dr, m₂, news₂, rfl, F₂, N₂, J₂⟩
    | cont =>
      obtain ⟨h', tk, dr, m₂, news₂, n', rfl, F₂, N₂, hn, J₂⟩ := h₃
      exact ⟨n', hn, h', tk, dr, m₂, news₂, rfl, F₂, N₂, J₂⟩
    | brk => exact h₃
    | ret v => exact h₃
theorem mapU_put {st : List Str} {m' u m₀ : Str → Option Value} (h : ∀ z, st.contains z = false → m' z = mapU st u m₀ z) : m' = mapU st m' m₀ :=
  mapU_self fun z hz => by rw [h z hz]; unfold mapU; rw [hz]; rfl
theorem odd_bit : ∀ k ∈ List.range 97, (Builtin.bitAnd (k : Int) 1 = 0 ↔ isOdd (k : Int) = false) := by decide +kernel
theorem odd_iff {k : Int} (h0 : 0 ≤ k) (h1 : k ≤ 96) : Builtin.bitAnd k 1 = 0 ↔ isOdd k = false := by
  obtain ⟨n, rfl⟩ := Int.eq_ofNat_of_zero_le h0
  exact odd_bit n (List.mem_range.mpr (by omega))
def CpJ (w : World) (aW aN aS : Addr) (rest : Led) (l : List Int) (m₀ : Str → Option Value) (n : Nat) (m : Str → Option Value) (nx : Led) : Prop :=
  ∃ (oW oN oS : Obj) (W N S : SC) (u : Str → Option Value), nx = (aW, oW) :: (aN, oN) :: (aS, oS) :: rest ∧ SetK w oW W ∧ SetK w oN N ∧ SetK w oS S ∧ chk l n S N W = true ∧ m = mapU [Str.ofString "w", Str.ofString "lo"] u m₀
theorem pow_val {kvs : List (Int × Value)} {k : Int} {v : Value} (h : PowOk kvs) (hv : valueAt kvs k = some v) : ∃ t, v = .int (16 ^ k.toNat) t := by
  unfold valueAt at hv
  cases hf : kvs.find? (fun kv => decide (kv.1 = k)) with
  | none => rw [hf] at hv; cases hv
  | some kv =>
    rw [hf] at hv
    have h1 := List.mem_of_find?_eq_some hf
    have h2 : kv.1 = k := by simpa using List.find?_some hf
    obtain ⟨_, _, t, ht⟩ := h kv h1
    exact ⟨t, by rw [← h2, ← ht]; exact (Option.some.inj hv).symm⟩
theorem has_val {kvs : List (Int × Value)} {k : Int} {u : Value} (h : (k, u) ∈ kvs) : ∃ v, valueAt kvs k = some v := by
  unfold valueAt
  cases hf : kvs.find? (fun kv => decide (kv.1 = k)) with
  | none => exact absurd (List.find?_eq_none.mp hf (k, u) h) (by simp)
  | some kv => exact ⟨_, rfl⟩
theorem st_keeps {kvs : List (Int × Value)} {k x : Int} {v u : Value} (h : (x, u) ∈ kvs) : ∃ u', (x, u') ∈ stored kvs k v := by
  unfold stored
  split
  · by_cases q : x = k
    · exact ⟨v, List.mem_map.mpr ⟨_, h, by rw [if_pos q]⟩⟩
    · exact ⟨u, List.mem_map.mpr ⟨_, h, by rw [if_neg q]⟩⟩
  · exact ⟨u, List.mem_append_left _ h⟩
theorem half_mem {kvs : List (Int × Value)} {t : Int} {i : Nat} {l : List Int} (hks : ∀ x ∈ l.take i, ∃ u, (x, u) ∈ kvs) (hv : valueAt kvs (t - 1) = none) (hi : ¬ i = 0) (q3 : i = 0 ∨ t - 1 ∈ l.take i ∨ t / 2 ∈ l.take i) : ∃ v, valueAt kvs (t / 2) = some v := by
  rcases q3 with h | h | h
  · exact absurd h hi
  · obtain ⟨u, hu⟩ := hks _ h
    obtain ⟨v, hv2⟩ := has_val hu
    rw [hv] at hv2
    cases hv2
  · obtain ⟨u, hu⟩ := hks _ h
    exact has_val hu
theorem pw_next {t : Int} (h : 1 ≤ t) : (16 : Int) ^ (t - 1).toNat * 16 = 16 ^ t.toNat := by
  rw [show t.toNat = (t - 1).toNat + 1 by omega, Int.pow_succ]
theorem pw_even {t k : Int} (h : 1 ≤ t) (hp : t % 2 = 0) (hk : t / 2 = k) : (16 : Int) ^ k.toNat * 16 ^ k.toNat = 16 ^ t.toNat := by
  rw [← Int.pow_add, show k.toNat + k.toNat = t.toNat by omega]
theorem pw_odd {t k : Int} (h : 1 ≤ t) (hp : ¬ t % 2 = 0) (hk : t / 2 = k) : (16 : Int) ^ k.toNat * 16 ^ k.toNat * 16 = 16 ^ t.toNat := by
  rw [← Int.pow_add, ← Int.pow_succ, show (k.toNat + k.toNat).succ = t.toNat by omega]
theorem pw_ok {k : Int} (h : k ≤ 48) : IntMulOk ((16 : Int) ^ k.toNat) (16 ^ k.toNat) := by
  have h1 : Builtin.Int.intBits ((16 : Int) ^ k.toNat) ≤ 2 ^ 20 := by
    refine intBits_le_iff.mpr ?_
    rw [Int.natAbs_pow]
    have h2 : (16 : Int).natAbs ^ k.toNat ≤ 16 ^ 48 := Nat.pow_le_pow_right (by decide) (by omega)
    refine Nat.lt_of_le_of_lt h2 (Nat.lt_of_lt_of_le (show 16 ^ 48 < 2 ^ 200 by decide) (Nat.pow_le_pow_right (by decide) (by decide)))
  exact IntMulOk.of_bits h1 h1
theorem ex_map {α : Type} {P : α → Prop} {m : α} (h : P m) : ∃ m₀, m₀ = m ∧ P m₀ := ⟨m, rfl, h⟩
def CpL (w : World) (dD : Addr) (x3 : Addr × Obj) (rest : Led) (l : List Int) (m₀ : Str → Option Value) (i : Nat) (m : Str → Option Value) (nx : Led) : Prop :=
  ∃ (o : Obj) (kvs : List (Int × Value)) (u : Str → Option Value), nx = x3 :: (dD, o) :: rest ∧ o.IsDictOf (PySem.intKind PySem.Challenge.rw_st0036_01.row.prog w) kvs ∧ PowOk kvs ∧ (∀ x ∈ l.take i, ∃ u, (x, u) ∈ kvs) ∧ kvs.length ≤ i ∧
    m = mapU [Str.ofString "this", Str.ofString "lo", Str.ofString "hi", Str.ofString "sq"] u m₀
theorem good_at {l : List Int} (h : goodL l = true) {i : Nat} (hi : i < l.length) : 1 ≤ l.getD i 0 ∧ l.getD i 0 ≤ 48 ∧ (i = 0 ∨ l.getD i 0 - 1 ∈ l.take i ∨ l.getD i 0 / 2 ∈ l.take i) := by
  have h1 := List.all_eq_true.mp h i (List.mem_range.mpr hi)
  simp only [Bool.and_eq_true, Bool.or_eq_true, decide_eq_true_eq, beq_iff_eq, List.contains_iff_mem] at h1
  exact ⟨h1.1.1, h1.1.2, h1.2.elim (fun h => h.elim .inl fun h => .inr (.inl h)) fun h => .inr (.inr h)⟩
def CpS (w : World) (news : Led) (k : Int) (r : Value) (news' : Led) : Prop :=
  ∃ (D : Addr) (o : Obj) (kvs : List (Int × Value)), r = .ref D ∧ news' = (D, o) :: news ∧ (D == sysModules) = false ∧ (∀ p ∈ news, p.1 < D) ∧ o.IsDictOf (PySem.intKind PySem.Challenge.rw_st0036_01.row.prog w) kvs ∧ PowOk kvs ∧ (∃ u, (k, u) ∈ kvs) ∧ kvs.length ≤ 10
theorem cpg (w : World) (news : Led) (W : Int) (l : List Int) (t1 t2 t3 : Tok) (hchk : chk l 40 newC newC (addC newC W) = true) (hgood : goodL l = true) (hsort : l.Pairwise (· ≤ ·)) (hmem : l.contains (W / 2) = true) (hlen : l.length ≤ 9) (hne : l ≠ []) :
    DoesD w 3 90 29 news [.int W t1, .int 16 t2, .int 2 t3] (CpS w news (W / 2)) := by
  unfold DoesD
  k_fill
  intro p loose mean mg mb dp un gd cn cs a ccd cl outer A₀ base h₀ L m s Q E B F X N T hk hd hu hret
  have HS : StB s := ⟨⟩
  refine wpAny_call ?_
  k_dflt (refine' code_def ?k1 ?k2 ?k3 ?k4 ?k5 ?kA ?kF ?kK ?k6 ?k7 ?k8 ?k9 ?kB ?_ ?c2 ?c3 ?c4 ?c5; (case kA => exact rfl); (case kF => exact rfl); (case kK => assumption); (case k1 => k_asm); (case k2 => k_asm); (case k3 => k_asm); (case k4 => k_asm); (case k5 => k_asm); (case k6 => k_is); (case k7 => k_is); (case k8 => ktr_room); (case k9 => exact binds_K (by k_in) rfl (by k_is) rfl rfl rfl); (case c5 => decide); (case kB => exact locs rfl); (case c2 => exact rfl); (case c3 => exact rfl); (case c4 => exact rfl); k_whole; intro g' L' h' FG' F' N' B' X' T'; (try dsimp only); (try k_fold))
  refine wpAny_noRaise ?_
  k_steps
  refine Hold.mk ?_
  rename News g' _ _ _ => N0
  rename Fr g' _ _ _ => F0
  rename_i dS hS0 oS lS KS hN0 _ dN hN1 oN KN lN hW1 _ dW hW2 oW1 KW hW3 oW KW2 hW4 _
  rename _ < dW ∧ _ => lW
  k_dflt (refine whileD (CpJ w dW dN dS news l) 40 F0 N0 ?z ?turn (by first | exact PassesOwn.never | passes_own))
  case z => exact ⟨oW, oN, oS, _, _, _, _, rfl, KW2, KN, KS, hchk, mapU_self fun _ _ => rfl⟩
  case turn =>
    clear F0 N0 KS KN KW KW2
    rintro n1 m1 nx1 h1 tk1 dr1 F1 N1 ⟨oW, oN, oS, CW, CN, CS, u, rfl, hW, hN, hS, hch, rfl⟩
    have hc := chk_at hch
    have okS := hc.s
    have okN := hc.n
    have okW := hc.w
    by_cases hz : CW.1.size = 0
    · have hz1 : decide (CW.1.size ≠ 0) = false := by simp [hz]
      obtain ⟨e1, e2, e3⟩ := hc.e hz
      have hz2 : decide (CN.1.size ≠ 0) = true := by simp [e1]
      k_steps
      refine Hold.mk ?_
      rename News g' _ _ _ => N2
      rename Fr g' _ _ _ => F2
      show wpAny _ _ (call (Value.builtin "sorted") [Value.ref _]) _ _ _
      with_reducible refine' sk_sortedL l rfl ?F ?N ?U ?d ?z ?y ?h1 ?h2 ?_
      case F => k_dflt k_asm
      case N => k_dflt k_asm
      case U => k_dflt k_updF
      case d => k_dflt k_asm
      case z => with_reducible assumption
      case y => with_reducible assumption
      case h1 => with_reducible assumption
      case h2 => exact hsort
      intro D3 h3 vs e3 tk3 F3 N3 l3 hI3
      (try k_lt l3)
      k_steps
      refine Hold.mk ?_
      cases hI3 with
      | nil => exact absurd rfl hne
      | cons f tf hI3 =>
      rename List Int => lr
      rename PyProof.V.FlatPairs PyData.str _ _ => fs
      clear fs
      rename PyProof.V.FlatPairs PyData.int _ _ => fs
      clear fs
      rename Obj.IsDictOf (PySem.strKind _ _) _ _ => fs
      clear fs
      rename Obj.IsDictOf (PySem.intKind _ _) _ _ => hd0
      rename (_ == sysModules) = false => lo0
      have g0 := good_at hgood (i := 0) (by simp)
      rw [List.getD_cons_zero] at g0
      have g1 := g0.1
      have g2 := g0.2.1
      show wpAny _ _ (call (Value.builtin "next") [Value.ref _]) _ _ _
      with_reducible refine' li_next ?F ?N ?U ?pm ?xm ?_
      case F => k_dflt k_asm
      case N => k_dflt k_asm
      case U => k_dflt k_updF
      case pm => k_dflt k_mem
      case xm => rfl
      intro h4 F4 N4
      (try dsimp only at N4)
      k_steps
      refine Hold.mk ?_
      with_reducible refine' kda_set (knd := PySem.intKind _ _) ?F ?N ?U hd0 (intKind_is _ _ _ _) ?z ?_
      case F => k_dflt k_asm
      case N => k_dflt k_asm
      case U => k_dflt k_updF
      case z => exact Nat.zero_le _
      intro h5 o5 F5 N5 hd5
      (try dsimp only at N5)
      k_steps
      refine Hold.mk ?_
      rename News g' _ _ _ => N6
      rename Fr g' _ _ _ => F6
      rename_i dD _ _ lD _ _ _ _ _ _ _ _ _ e3n I0 _ _ _ _ vs9 _ _ _ _ _ _ _ _ _
      rename _ < I0 ∧ _ => lI
      obtain ⟨m₀, hm₀, F7⟩ := ex_map (P := Fr g' L' h5) F6
      have hIall : IntsAre (Value.int f tf :: vs9) (f :: lr) := .cons _ _ hI3
      have hlen9 := hIall.length
      k_dflt (refine' li_again (j := 1) F6 N6 (.head _) ?hn (by simp) ?_; (case hn => intro p hp; refine Nat.ne_of_lt (ktn_ltOf ?_ p hp); exact lI))
      refine' (?h : ∀ (k i : Nat) (m1 : Str → Option Value) (nx1 : Led), i + k = (Value.int f tf :: vs9).length → 1 ≤ i → CpL w dD (D3, listOf (Value.int f tf :: vs9).toArray e3n) ((dW, oW) :: (dN, oN) :: (dS, oS) :: news) (f :: lr) m₀ i m1 nx1 → UnrL _ _ _ _ _ _ _ _ _ _ _ _ _ _ k i m1 nx1) _ 1 _ _ ?hl (Nat.le_refl 1) ?init
      case hl => rw [List.length_cons]; omega
      case init =>
        refine ⟨o5, _, _, rfl, hd5, powOk_st powOk_nil (by omega) g2 rfl, ?_, by simp [stored], by rw [hm₀]; exact mapU_self fun _ _ => rfl⟩
        intro x hx
        have : x = f := by simpa using hx
        rw [this]
        exact mem_st _ _ _
      case h =>
        subst hm₀
        intro k
        induction k with
        | zero =>
          rintro i m1 nx1 hik hi1 ⟨o, kvs, u9, rfl, hdo, hpo, hks, hle, rfl⟩
          refine UnrL.zero ?_
          intro h9 tk9 dr9 F9 N9
          k_steps
          rename News h₀ _ _ _ => kN
          refine hret _ _ _ _ _ (by assumption) (kst_newsOf kN (l' := (dD, o) :: news) fun p hp => ?_) ⟨dD, o, kvs, rfl, rfl, lo0, fun p hp => ktn_ltOf lD.2.2.2 p hp, hdo, hpo, ?_, ?_⟩
          · rcases List.mem_cons.mp hp with rfl | hp
            · exact .tail _ (.head _)
            · exact .tail _ (.tail _ (.tail _ (.tail _ (.tail _ hp))))
          · rw [List.take_of_length_le (by omega)] at hks
            exact hks _ (List.contains_iff_mem.mp hmem)
          · omega
        | succ k ih =>
          rintro i m1 nx1 hik hi1 ⟨o, kvs, u9, rfl, hdo, hpo, hks, hle, rfl⟩
          have hi : i < (f :: lr).length := by omega
          obtain ⟨to, hx⟩ := hIall.get i _ (List.getElem?_eq_getElem hi)
          have hgd := good_at hgood hi
          have htk : (f :: lr).take (i + 1) = (f :: lr).take i ++ [(f :: lr)[i]] := by rw [List.take_add_one, List.getElem?_eq_getElem hi]; rfl
          rw [List.getD_eq_getElem?_getD, List.getElem?_eq_getElem hi, Option.getD_some] at hgd
          generalize (f :: lr)[i] = t at hx hgd htk
          obtain ⟨q1, q2, q3⟩ := hgd
          refine UnrL.succ _ hx ?_
          intro h9 tk9 dr9 F9 N9
          cases hv : valueAt kvs (t - 1) with
          | some v1 =>
            obtain ⟨tv, rfl⟩ := pow_val hpo hv
            k_steps
            refine Hold.mk ?_
            rename News g' _ _ _ => N1
            with_reducible refine kda_in (knd := PySem.intKind _ _) (by k_dflt exact N1) (by k_dflt exact .tail _ (.tail _ (.head _))) hdo lo0 (intKind_is _ _ _ _) true (by k_dflt (rw [hv]; rfl)) ?_
            k_steps
            refine Hold.mk ?_
            rename News g' _ _ _ => N1
            with_reducible refine kda_item (knd := PySem.intKind _ _) (by k_dflt exact N1) (by k_dflt exact .tail _ (.tail _ (.head _))) hdo (intKind_is _ _ _ _) hv ?_
            k_steps
            refine Hold.mk ?_
            with_reducible refine' mul_int ?_ (IntMulOk.of_right (by decide))
            k_steps
            refine Hold.mk ?_
            with_reducible refine' kda_set (knd := PySem.intKind _ _) ?F1 ?N1 ?U1 hdo (intKind_is _ _ _ _) ?z1 ?_
            case F1 => k_dflt k_asm
            case N1 => k_dflt k_asm
            case U1 => k_dflt k_updF
            case z1 => exact Nat.le_trans (show kvs.length ≤ 10 by omega) (by decide)
            intro h5 o5 F5 N5 hd5
            (try dsimp only at N5)
            k_steps
            refine Hold.mk ?_
            rename News g' _ _ _ => N6
            rename Fr g' _ _ _ => F6
            k_dflt (refine' LPostU.next (LEndU.intro F6 N6 (.head _) ?hn1 ?_); (case hn1 => intro p hp; refine Nat.ne_of_lt (ktn_ltOf ?_ p hp); exact lI))
            refine ih (i + 1) _ _ (by omega) (by omega) ⟨o5, _, _, rfl, hd5, powOk_st hpo (by omega) q2 ?pw1, ?_, Nat.le_trans (len_st _ _ _) (by omega), mapU_put (u := u9) ?_⟩
            case pw1 => exact pw_next q1
            · intro x hx
              rw [htk] at hx
              rcases List.mem_append.mp hx with hx | hx
              · obtain ⟨u, hu⟩ := hks x hx
                exact st_keeps hu
              · rw [List.mem_singleton.mp hx]
                exact mem_st _ _ _
            · intro z hz9
              simp only [List.contains_cons, List.contains_nil, Bool.or_false, beq_eq_false_iff_ne, ne_eq, Bool.or_eq_false_iff] at hz9
              simp [hz9]
          | none =>
            have hlo := half_mem hks hv (by omega) q3
            obtain ⟨v2, hv2⟩ := hlo
            obtain ⟨tv, rfl⟩ := pow_val hpo hv2
            have hfd : t / 2 = t.fdiv (2 ^ Int.toNat 1) := (Int.fdiv_eq_ediv_of_nonneg _ (by decide)).symm
            rw [hfd] at hv2
            by_cases hpar : t % 2 = 0
            · have hlo1 : t - t.fdiv (2 ^ Int.toNat 1) = t.fdiv (2 ^ Int.toNat 1) := by rw [← hfd]; omega
              k_steps
              refine Hold.mk ?_
              rename News g' _ _ _ => N1
              with_reducible refine kda_in (knd := PySem.intKind _ _) (by k_dflt exact N1) (by k_dflt exact .tail _ (.tail _ (.head _))) hdo lo0 (intKind_is _ _ _ _) false (by k_dflt (rw [hv]; rfl)) ?_
              k_steps
              refine Hold.mk ?_
              rename News g' _ _ _ => N1
              with_reducible refine kda_in (knd := PySem.intKind _ _) (by k_dflt exact N1) (by k_dflt exact .tail _ (.tail _ (.head _))) hdo lo0 (intKind_is _ _ _ _) true (by k_dflt (rw [hv2]; rfl)) ?_
              k_steps
              refine Hold.mk ?_
              rename News g' _ _ _ => N1
              with_reducible refine kda_item (knd := PySem.intKind _ _) (by k_dflt exact N1) (by k_dflt exact .tail _ (.tail _ (.head _))) hdo (intKind_is _ _ _ _) hv2 ?_
              k_steps
              refine Hold.mk ?_
              rename News g' _ _ _ => N1
              with_reducible refine kda_item (knd := PySem.intKind _ _) (by k_dflt exact N1) (by k_dflt exact .tail _ (.tail _ (.head _))) hdo (intKind_is _ _ _ _) hv2 ?_
              k_steps
              refine Hold.mk ?_
              with_reducible refine' mul_int ?_ (pw_ok (by rw [← hfd]; omega))
              k_steps
              all_goals try exact absurd hlo1 (by with_reducible assumption)
              refine Hold.mk ?_
              with_reducible refine' kda_set (knd := PySem.intKind _ _) ?F2 ?N2 ?U2 hdo (intKind_is _ _ _ _) ?z2 ?_
              case F2 => k_dflt k_asm
              case N2 => k_dflt k_asm
              case U2 => k_dflt k_updF
              case z2 => exact Nat.le_trans (show kvs.length ≤ 10 by omega) (by decide)
              intro h5 o5 F5 N5 hd5
              (try dsimp only at N5)
              k_steps
              refine Hold.mk ?_
              rename News g' _ _ _ => N6
              rename Fr g' _ _ _ => F6
              k_dflt (refine' LPostU.next (LEndU.intro F6 N6 (.head _) ?hn2 ?_); (case hn2 => intro p hp; refine Nat.ne_of_lt (ktn_ltOf ?_ p hp); exact lI))
              refine ih (i + 1) _ _ (by omega) (by omega) ⟨o5, _, _, rfl, hd5, powOk_st hpo (by omega) q2 ?pw2, ?_, Nat.le_trans (len_st _ _ _) (by omega), mapU_put (u := u9) ?_⟩
              case pw2 => exact pw_even q1 hpar hfd
              · intro x hx
                rw [htk] at hx
                rcases List.mem_append.mp hx with hx | hx
                · obtain ⟨u, hu⟩ := hks x hx
                  exact st_keeps hu
                · rw [List.mem_singleton.mp hx]
                  exact mem_st _ _ _
              · intro z hz9
                simp only [List.contains_cons, List.contains_nil, Bool.or_false, beq_eq_false_iff_ne, ne_eq, Bool.or_eq_false_iff] at hz9
                simp [hz9]
            · have hlo1 : t - t.fdiv (2 ^ Int.toNat 1) = t.fdiv (2 ^ Int.toNat 1) + 1 := by rw [← hfd]; omega
              k_steps
              refine Hold.mk ?_
              rename News g' _ _ _ => N1
              with_reducible refine kda_in (knd := PySem.intKind _ _) (by k_dflt exact N1) (by k_dflt exact .tail _ (.tail _ (.head _))) hdo lo0 (intKind_is _ _ _ _) false (by k_dflt (rw [hv]; rfl)) ?_
              k_steps
              refine Hold.mk ?_
              rename News g' _ _ _ => N1
              with_reducible refine kda_in (knd := PySem.intKind _ _) (by k_dflt exact N1) (by k_dflt exact .tail _ (.tail _ (.head _))) hdo lo0 (intKind_is _ _ _ _) true (by k_dflt (rw [hv2]; rfl)) ?_
              k_steps
              refine Hold.mk ?_
              rename News g' _ _ _ => N1
              with_reducible refine kda_item (knd := PySem.intKind _ _) (by k_dflt exact N1) (by k_dflt exact .tail _ (.tail _ (.head _))) hdo (intKind_is _ _ _ _) hv2 ?_
              k_steps
              refine Hold.mk ?_
              rename News g' _ _ _ => N1
              with_reducible refine kda_item (knd := PySem.intKind _ _) (by k_dflt exact N1) (by k_dflt exact .tail _ (.tail _ (.head _))) hdo (intKind_is _ _ _ _) hv2 ?_
              k_steps
              refine Hold.mk ?_
              with_reducible refine' mul_int ?_ (pw_ok (by rw [← hfd]; omega))
              k_steps
              all_goals try exact absurd hlo1 (by with_reducible assumption)
              all_goals try exact absurd (hlo1.symm.trans (by with_reducible assumption)) (by omega)
              refine Hold.mk ?_
              with_reducible refine' imul_int ?_ (IntMulOk.of_right (by decide))
              k_steps
              refine Hold.mk ?_
              with_reducible refine' kda_set (knd := PySem.intKind _ _) ?F3 ?N3 ?U3 hdo (intKind_is _ _ _ _) ?z3 ?_
              case F3 => k_dflt k_asm
              case N3 => k_dflt k_asm
              case U3 => k_dflt k_updF
              case z3 => exact Nat.le_trans (show kvs.length ≤ 10 by omega) (by decide)
              intro h5 o5 F5 N5 hd5
              (try dsimp only at N5)
              k_steps
              refine Hold.mk ?_
              rename News g' _ _ _ => N6
              rename Fr g' _ _ _ => F6
              k_dflt (refine' LPostU.next (LEndU.intro F6 N6 (.head _) ?hn3 ?_); (case hn3 => intro p hp; refine Nat.ne_of_lt (ktn_ltOf ?_ p hp); exact lI))
              refine ih (i + 1) _ _ (by omega) (by omega) ⟨o5, _, _, rfl, hd5, powOk_st hpo (by omega) q2 ?pw3, ?_, Nat.le_trans (len_st _ _ _) (by omega), mapU_put (u := u9) ?_⟩
              case pw3 => exact pw_odd q1 hpar hfd
              · intro x hx
                rw [htk] at hx
                rcases List.mem_append.mp hx with hx | hx
                · obtain ⟨u, hu⟩ := hks x hx
                  exact st_keeps hu
                · rw [List.mem_singleton.mp hx]
                  exact mem_st _ _ _
              · intro z hz9
                simp only [List.contains_cons, List.contains_nil, Bool.or_false, beq_eq_false_iff_ne, ne_eq, Bool.or_eq_false_iff] at hz9
                simp [hz9]
    · have hz1 : decide (CW.1.size ≠ 0) = true := by simp [hz]
      k_steps
      refine Hold.mk ?_
      show wpAny _ _ (call (Value.builtin "set.pop") [Value.ref _]) _ _ _
      k_dflt (refine' sk_pop ?F ?N ?U ?d okW hz ?_; (case F => k_asm); (case N => k_asm); (case U => k_updF); (case d => k_asm))
      intro h2 o2 i k tk2 dr2 F2 N2 hW2 hg
      (try dsimp only at N2)
      have hi : i < CW.1.size := (Array.getElem?_eq_some_iff.mp hg).1
      have hk : (keysC CW).getD i 0 = k := by
        unfold keysC
        rw [List.getD_eq_getElem?_getD, List.getElem?_map, Array.getElem?_toList, hg]
        rfl
      obtain ⟨g, hng, a1, a2, a3, a4, a5⟩ := hc.t i hi
      rw [hk] at a1 a2 a4 a5
      clear hg hc hch hW
      cases hs : hasC CS k with
      | true =>
        rw [hs, Bool.true_or] at a4
        k_steps
        refine Hold.mk ?_
        rename News g' _ _ _ => N3
        rename Fr g' _ _ _ => F3
        show WhileStepD _ _ _ _ _ _ Flow.cont _
        refine ⟨_, _, _, _, _, g, rfl, F3, N3, by omega, _, _, _, _, _, _, _, rfl, hW2, hN, hS, a4 rfl, mapU_put (u := u) ?_⟩
        intro z hz9
        simp only [List.contains_cons, List.contains_nil, Bool.or_false, beq_eq_false_iff_ne, ne_eq, Bool.or_eq_false_iff] at hz9
        simp [hz9]
      | false =>
        by_cases h2 : k ≤ 2
        · rw [hs, decide_eq_true h2, Bool.or_true] at a4
          k_steps
          refine Hold.mk ?_
          rename News g' _ _ _ => N3
          rename Fr g' _ _ _ => F3
          show WhileStepD _ _ _ _ _ _ Flow.cont _
          refine ⟨_, _, _, _, _, g, rfl, F3, N3, by omega, _, _, _, _, _, _, _, rfl, hW2, hN, hS, a4 rfl, mapU_put (u := u) ?_⟩
          intro z hz9
          simp only [List.contains_cons, List.contains_nil, Bool.or_false, beq_eq_false_iff_ne, ne_eq, Bool.or_eq_false_iff] at hz9
          simp [hz9]
        · rw [hs, decide_eq_false h2, Bool.or_false] at a5
          obtain ⟨b1, b2, b3, b4, b5⟩ := a5 rfl
          have hlo : k / 2 = k.fdiv (2 ^ Int.toNat 1) := (Int.fdiv_eq_ediv_of_nonneg _ (by decide)).symm
          rw [hlo] at b2 b3 b4 b5
          have hodd := odd_iff a1 a2
          clear a4
          k_steps
          · have hb := b4 (by
              cases q : isOdd k with
              | true => rfl
              | false => exact absurd (hodd.mpr q) ‹_›)
            with_reducible rename SetK w _ (addC (addC (popC CW i) _) _) => s1
            with_reducible rename SetK w _ (addC CN _) => s2
            with_reducible rename SetK w _ (addC CS _) => s3
            refine Hold.mk ?_
            rename News g' _ _ _ => N3
            rename Fr g' _ _ _ => F3
            show WhileStepD _ _ _ _ _ _ Flow.next _
            refine ⟨_, _, _, _, _, g, rfl, F3, N3, by omega, _, _, _, _, _, _, _, rfl, s1, s2, s3, hb, mapU_put (u := u) ?_⟩
            intro z hz9
            simp only [List.contains_cons, List.contains_nil, Bool.or_false, beq_eq_false_iff_ne, ne_eq, Bool.or_eq_false_iff] at hz9
            simp [hz9]
          · have hb := b5 (hodd.mp ‹_›)
            with_reducible rename SetK w _ (addC (popC CW i) _) => s1
            with_reducible rename SetK w _ (addC CN _) => s2
            with_reducible rename SetK w _ (addC CS _) => s3
            refine Hold.mk ?_
            rename News g' _ _ _ => N3
            rename Fr g' _ _ _ => F3
            show WhileStepD _ _ _ _ _ _ Flow.next _
            refine ⟨_, _, _, _, _, g, rfl, F3, N3, by omega, _, _, _, _, _, _, _, rfl, s1, s2, s3, hb, mapU_put (u := u) ?_⟩
            intro z hz9
            simp only [List.contains_cons, List.contains_nil, Bool.or_false, beq_eq_false_iff_ne, ne_eq, Bool.or_eq_false_iff] at hz9
            simp [hz9]
theorem cp_any (w : World) (news : Led) (W : Int) (t1 t2 t3 : Tok) (hW : W = 4 ∨ W = 6 ∨ W = 8 ∨ W = 12 ∨ W = 16 ∨ W = 24 ∨ W = 96) :
    DoesD w 3 90 29 news [.int W t1, .int 16 t2, .int 2 t3] (CpS w news (W / 2)) := by
  obtain ⟨x, hx, rfl⟩ : ∃ x ∈ cpTab, W = x.1 := by
    rcases hW with rfl | rfl | rfl | rfl | rfl | rfl | rfl
    · exact ⟨(4, [2]), by decide, rfl⟩
    · exact ⟨(6, [1, 3]), by decide, rfl⟩
    · exact ⟨(8, [2, 4]), by decide, rfl⟩
    · exact ⟨(12, [1, 3, 6]), by decide, rfl⟩
    · exact ⟨(16, [2, 4, 8]), by decide, rfl⟩
    · exact ⟨(24, [1, 3, 6, 12]), by decide, rfl⟩
    · exact ⟨(96, [1, 3, 6, 12, 24, 48]), by decide, rfl⟩
  have h := List.all_eq_true.mp chkTab_ok x hx
  simp only [Bool.and_eq_true, decide_eq_true_eq] at h
  obtain ⟨⟨⟨⟨⟨h1, h2⟩, h3⟩, h4⟩, h5⟩, h6⟩ := h
  exact cpg w news x.1 x.2 t1 t2 t3 h1 h2 h3 h4 h5 h6
end Mine

end
-- DigLib
section
open PySem PySem.W PySem.Spec PySem.Calls PyProof.Rows
set_option Elab.async false
namespace Mine
theorem said_DigLib_0 : True := by
  k_with_none
  w_top off
  k_with "lt" => first | assumption | (refine Mine.Ar.pick (by assumption) ?_; intro hh; first | exact Mine.Ar.c1 hh | exact Mine.Ar.c2 hh | exact Mine.Ar.c3 hh | exact Mine.Ar.c4 hh | exact Mine.Ar.c5 hh | exact Mine.Ar.c6 hh | exact Mine.Ar.c7 hh | exact Mine.Ar.c8 hh | exact Mine.Ar.e2 hh | exact Mine.Ar.e3 hh | exact Mine.Ar.e4 hh | fail) | exact Mine.Ar.t1 | exact Mine.Ar.t2 | exact Mine.Ar.t3 | fail
  k_with "lt2" => first | k_extra "lt" | (refine Mine.Ar.s1 ?_; k_extra "lt") | (refine Mine.Ar.s2 ?_; k_extra "lt") | (refine Mine.Ar.s3 ?_; k_extra "lt") | fail
  k_with "omega" => with_reducible (first | assumption | decide +kernel | (refine Nat.ne_of_gt ?_; k_extra "lt2") | (refine Nat.ne_of_lt ?_; k_extra "lt2") | k_extra "lt2" | exact Mine.Ar.u1 | exact Mine.Ar.u2 | exact Mine.Ar.u3 | exact Mine.Ar.v1 | exact Mine.Ar.dp0 (by assumption) | exact Mine.Ar.dp1 (by assumption) (by decide) | exact Mine.Ar.dp2 (by assumption) (by decide) | exact Mine.Ar.ll (by assumption) (by decide) | exact Mine.Ar.l0 (by assumption) (by decide) | exact Mine.Ar.lm (by assumption) (by decide) | exact Mine.Ar.gn (by assumption) (by decide) | exact Mine.Ar.ci (by decide) | exact Mine.Ar.cz | exact Mine.Ar.li (by assumption) (by decide) | exact Mine.Ar.lj (by assumption) (by decide) | exact Mine.Ar.lk (by assumption) (by decide) | exact Mine.Ar.gi (by assumption) (by decide) | exact Mine.Ar.gj (by assumption) (by decide) | exact Mine.Ar.gk (by assumption) (by decide) | exact Mine.Ar.gl (by assumption) (by decide) | exact Mine.Ar.n0 (by assumption) | exact Mine.Ar.n1 (by assumption) (by decide) | exact Mine.Ar.m0 (by assumption) | exact Mine.Ar.m1 (by assumption) (by decide) | exact And.left (by assumption) | exact And.right (by assumption) | lia | fail)
  trivial
theorem and_high (x s : Nat) : x &&& (x / 2 ^ s * 2 ^ s) = x / 2 ^ s * 2 ^ s := by
  rw [← Nat.shiftRight_eq_div_pow, ← Nat.shiftLeft_eq]
  apply Nat.eq_of_testBit_eq
  intro i
  simp only [Nat.testBit_and, Nat.testBit_shiftLeft, Nat.testBit_shiftRight]
  by_cases h : s ≤ i
  · simp [h, Nat.add_sub_cancel' h]
  · simp [h]
theorem xor_low {x : Int} (hx : 0 ≤ x) (s : Nat) : Builtin.bitXor x (x.fdiv (2 ^ s) * 2 ^ s) = x % 2 ^ s := by
  obtain ⟨n, rfl⟩ := Int.eq_ofNat_of_zero_le hx
  have h2 : ((2 : Int) ^ s) = ((2 ^ s : Nat) : Int) := by push_cast; rfl
  have hy : (n : Int).fdiv (2 ^ s) * 2 ^ s = ((n / 2 ^ s * 2 ^ s : Nat) : Int) := by
    rw [Int.fdiv_eq_ediv_of_nonneg _ (by rw [h2]; exact Int.natCast_nonneg _), h2]
    push_cast
    rfl
  rw [hy, bitXor_and]
  have ha : Builtin.bitAnd (n : Int) ((n / 2 ^ s * 2 ^ s : Nat) : Int) = ((n / 2 ^ s * 2 ^ s : Nat) : Int) := by
    unfold Builtin.bitAnd
    simp only [Int.natCast_nonneg, decide_true, Int.toNat_natCast]
    rw [and_high]
  rw [ha, h2]
  have hm : ((n : Int) % ((2 ^ s : Nat) : Int)) = ((n % 2 ^ s : Nat) : Int) := (Int.natCast_emod n (2 ^ s)).symm
  rw [hm]
  have := Nat.div_add_mod n (2 ^ s)
  have h3 : n / 2 ^ s * 2 ^ s = 2 ^ s * (n / 2 ^ s) := Nat.mul_comm _ _
  omega
def valB (B : Int) : List Int → Int
  | [] => 0
  | d :: r => d + B * valB B r
theorem valB_append (B : Int) : ∀ (l r : List Int), valB B (l ++ r) = valB B l + B ^ l.length * valB B r
  | [], r => by simp [valB]
  | d :: l, r => by
    rw [List.cons_append, valB, valB, valB_append B l r, List.length_cons, Int.pow_succ, Int.mul_add, Int.add_assoc, ← Int.mul_assoc, Int.mul_comm B (B ^ l.length)]
/-- the digits that stand in `ds'` from `lo` on. -/
structure Dig (n : Nat) (ds ds' : List Int) (lo k : Nat) (x : Int) : Prop where
  ex : ∃ dg, ds' = ds.take lo ++ dg ++ ds.drop (lo + (k + 1)) ∧ dg.length = k + 1 ∧ valB (2 ^ n) dg = x ∧ (x < (2 ^ n) ^ (k + 1) → ∀ d ∈ dg, 0 ≤ d ∧ d < 2 ^ n)
theorem Dig.one {n : Nat} {ds : List Int} {lo : Nat} {x : Int} (hx : 0 ≤ x) (hl : lo + 1 ≤ ds.length) : Dig n ds (ds.set lo x) lo 0 x :=
  ⟨[x], by
    rw [List.set_eq_take_append_cons_drop, if_pos (by omega)]
    simp, rfl, by simp [valB], fun h d hd => by rw [List.mem_singleton.mp hd]; exact ⟨hx, by rw [show (0 + 1 : Nat) = 1 from rfl, Int.pow_succ, Int.pow_zero, Int.one_mul] at h; exact h⟩⟩
theorem Dig.len {n : Nat} {ds ds' : List Int} {lo k : Nat} {x : Int} (h : Dig n ds ds' lo k x) (hl : lo + (k + 1) ≤ ds.length) : ds'.length = ds.length := by
  obtain ⟨dg, rfl, h2, _⟩ := h.ex
  rw [List.length_append, List.length_append, List.length_take, List.length_drop, h2]
  omega
theorem Dig.two {n : Nat} {ds ds1 ds2 : List Int} {lo k1 k2 : Nat} {x : Int} (hx : 0 ≤ x) (hl : lo + (k1 + 1) + (k2 + 1) ≤ ds.length)
    (h1 : Dig n ds ds1 lo k1 (x % 2 ^ (n * (k1 + 1)))) (h2 : Dig n ds1 ds2 (lo + (k1 + 1)) k2 (x / 2 ^ (n * (k1 + 1)))) : Dig n ds ds2 lo (k1 + (k2 + 1)) x := by
  obtain ⟨d1, rfl, l1, v1, b1⟩ := h1.ex
  obtain ⟨d2, rfl, l2, v2, b2⟩ := h2.ex
  have hB : (0 : Int) < 2 ^ (n * (k1 + 1)) := Int.pow_pos (by decide)
  have hpow : ((2 : Int) ^ n) ^ (k1 + 1) = 2 ^ (n * (k1 + 1)) := Int.pow_mul.symm
  have htl : (ds.take lo).length = lo := by rw [List.length_take]; omega
  have htk : (ds.take lo ++ d1 ++ ds.drop (lo + (k1 + 1))).take (lo + (k1 + 1)) = ds.take lo ++ d1 := by
    rw [List.take_append_of_le_length (by rw [List.length_append, htl, l1]; omega)]
    exact List.take_of_length_le (by rw [List.length_append, htl, l1]; omega)
  have hdr : (ds.take lo ++ d1 ++ ds.drop (lo + (k1 + 1))).drop (lo + (k1 + 1) + (k2 + 1)) = ds.drop (lo + (k1 + 1) + (k2 + 1)) := by
    have e : lo + (k1 + 1) = (ds.take lo ++ d1).length := by rw [List.length_append, htl, l1]
    rw [List.drop_append, List.drop_of_length_le (by rw [← e]; omega), List.nil_append, ← e, List.drop_drop]
    congr 1
    omega
  refine ⟨d1 ++ d2, ?_, by rw [List.length_append, l1, l2]; omega, ?_, ?_⟩
  · rw [htk, hdr, show lo + (k1 + (k2 + 1) + 1) = lo + (k1 + 1) + (k2 + 1) by omega]
    simp [List.append_assoc]
  · rw [valB_append, v1, v2, l1, hpow]
    exact Int.emod_add_mul_ediv x _
  · intro hlt d hd
    have hm1 : x % 2 ^ (n * (k1 + 1)) < ((2 : Int) ^ n) ^ (k1 + 1) := by rw [hpow]; exact Int.emod_lt_of_pos x hB
    have hm2 : x / 2 ^ (n * (k1 + 1)) < ((2 : Int) ^ n) ^ (k2 + 1) := by
      rw [Int.ediv_lt_iff_lt_mul hB, ← hpow, ← Int.pow_add, show k2 + 1 + (k1 + 1) = k1 + (k2 + 1) + 1 by omega]
      exact hlt
    rcases List.mem_append.mp hd with hd | hd
    · exact b1 hm1 d hd
    · exact b2 hm2 d hd
theorem half_mid {lo k : Nat} (h : ¬ (lo : Int) + 1 = ((lo + (k + 1) : Nat) : Int)) : ∃ k1 k2 : Nat, k = k1 + (k2 + 1) ∧ ((lo : Int) + ((lo + (k + 1) : Nat) : Int)).fdiv (2 ^ Int.toNat 1) = ((lo + (k1 + 1) : Nat) : Int) := by
  obtain ⟨k1, k2, h1, h2⟩ : ∃ k1 k2 : Nat, k = k1 + (k2 + 1) ∧ k1 + 1 = (k + 1) / 2 := ⟨(k + 1) / 2 - 1, k - (k + 1) / 2, by omega, by omega⟩
  refine ⟨k1, k2, h1, ?_⟩
  rw [Int.fdiv_eq_ediv_of_nonneg _ (by decide)]
  show _ / (2 : Int) = _
  omega
end Mine

end
-- InnF
section
open PySem PySem.W PySem.Spec PySem.Calls PyProof.Rows
set_option Elab.async false
set_option pp.maxSteps 3000
set_option pp.deepTerms false
set_option pp.deepTerms.threshold 6
set_option maxRecDepth 100000
set_option maxHeartbeats 2000000
namespace Mine
theorem said_InnF_0 : True := by
  k_with_none
  w_top off
  k_with "lt" => first | assumption | (refine Mine.Ar.pick (by assumption) ?_; intro hh; first | exact Mine.Ar.c1 hh | exact Mine.Ar.c2 hh | exact Mine.Ar.c3 hh | exact Mine.Ar.c4 hh | exact Mine.Ar.c5 hh | exact Mine.Ar.c6 hh | exact Mine.Ar.c7 hh | exact Mine.Ar.c8 hh | exact Mine.Ar.e2 hh | exact Mine.Ar.e3 hh | exact Mine.Ar.e4 hh | fail) | exact Mine.Ar.t1 | exact Mine.Ar.t2 | exact Mine.Ar.t3 | fail
  k_with "lt2" => first | k_extra "lt" | (refine Mine.Ar.s1 ?_; k_extra "lt") | (refine Mine.Ar.s2 ?_; k_extra "lt") | (refine Mine.Ar.s3 ?_; k_extra "lt") | fail
  k_with "omega" => with_reducible (first | assumption | decide +kernel | (refine Nat.ne_of_gt ?_; k_extra "lt2") | (refine Nat.ne_of_lt ?_; k_extra "lt2") | k_extra "lt2" | exact Mine.Ar.u1 | exact Mine.Ar.u2 | exact Mine.Ar.u3 | exact Mine.Ar.v1 | exact Mine.Ar.dp0 (by assumption) | exact Mine.Ar.dp1 (by assumption) (by decide) | exact Mine.Ar.dp2 (by assumption) (by decide) | exact Mine.Ar.ll (by assumption) (by decide) | exact Mine.Ar.l0 (by assumption) (by decide) | exact Mine.Ar.lm (by assumption) (by decide) | exact Mine.Ar.gn (by assumption) (by decide) | exact Mine.Ar.ci (by decide) | exact Mine.Ar.cz | exact Mine.Ar.li (by assumption) (by decide) | exact Mine.Ar.lj (by assumption) (by decide) | exact Mine.Ar.lk (by assumption) (by decide) | exact Mine.Ar.gi (by assumption) (by decide) | exact Mine.Ar.gj (by assumption) (by decide) | exact Mine.Ar.gk (by assumption) (by decide) | exact Mine.Ar.gl (by assumption) (by decide) | exact Mine.Ar.n0 (by assumption) | exact Mine.Ar.n1 (by assumption) (by decide) | exact Mine.Ar.m0 (by assumption) | exact Mine.Ar.m1 (by assumption) (by decide) | exact And.left (by assumption) | exact And.right (by assumption) | lia | fail)
  k_with "k_all" => first | assumption | exact all_ne_of (by assumption) (by omega) | fail
  k_with "execs cons" => ((try first | (refine' canon ?H ?F ?e ?_; (case H => assumption); (case F => assumption); (case e => exact rfl); intro _) | (refine' canonD ?H ?F ?e ?_; (case H => assumption); (case F => assumption); (case e => exact rfl); intro _ _)); (try k_fold); refine wpAny_execs_cons ?_)
  k_with "eval Call" => k_fold
  k_with "binaryOp RShift int int" => refine hold_out ?_
  k_with "binaryOp LShift int int" => refine hold_out ?_
  k_with "setItem ref int" => refine hold_out ?_
  k_with "call ref" => ((with_reducible show wpAny _ _ (call (Value.ref _) _) _ _ _); refine hold_out ?_)
  trivial

def firstDef : List Stmt → Option (Arguments × List Stmt × Scope)
  | .FunctionDef _ ps b _ _ _ sc _ _ _ :: _ => some (ps, b, sc)
  | _ :: r => firstDef r
  | [] => none
def innerDef (K : Frag) (a : Addr) : Option (Arguments × List Stmt × Scope) := match K.lookup a with
  | some o => (match o.data with
    | .func fd => (match fd.body with
      | .stmts b => firstDef b
      | _ => none)
    | _ => none)
  | none => none
def DoesC (w : World) (D U : Nat) (f : Addr) (news : Led) (vs : List Value) (R : Value → Led → Prop) : Prop :=
  ∀ (p : Program) (loose : List Str) (mean : ExcName → Option Value) (mg mb : Str → Option Value)
    (dp un : Nat) (gd : Option (List Code)) (cn : Str) (cs : Scope) (a : Addr) (ccd : Value) (cl : List (Str × Addr)) (outer : List Env) (A₀ : Around) (base h₀ : Heap) (L : Addr) (m : Str → Option Value) (s : Shared) (Q E : Value → Shared → Prop),
    Below A₀ base outer h₀ → Fr h₀ L s.heap m → (Mine.hd.heap_39 w.params).In h₀ → News h₀ L s.heap news → Top p loose mean mg mb h₀ → CodeHd h₀ 49 45 → CodeHd h₀ 56 52 → cs.kind = .function → dp + D < recursionLimit → un + U < cLine →
    (∀ r news' h' tk', Fr h₀ L h' m → News h₀ L h' news' → R r news' → Q r { s with heap := h', toks := tk' }) →
    wpAny (model PySem.Challenge.rw_st0036_01.row.prog w) (ktrTop dp un gd cn cs L a ccd cl outer) (call (.ref f) vs) Q E s
theorem all_ne_of {pre : Led} {b d : Nat} (h : ∀ p ∈ pre, p.1 < b) (hb : b ≤ d) : ∀ p ∈ pre, p.1 ≠ d := fun p hp => by
  have : @LT.lt Nat _ p.1 b := h p hp
  exact Nat.ne_of_lt (Nat.lt_of_lt_of_le this hb)
def inLed (f c' cN cF cA D : Addr) (qual : Str) (ps : Arguments) (bd : List Stmt) (sc : Scope) (dc pm ct : Value) (oc oN oF oA : Obj) (vs : List Value) (kk : Nat) (rest : Led) : Led :=
  (D, listOf vs.toArray kk) :: (f, fnMade (Str.ofString "inner") qual ps bd sc [(Str.ofString "n", cN), (Str.ofString "inner", cF), (Str.ofString "a_digits", cA)] dc pm c' ct) :: (c', oc) :: (cF, oF) :: (cA, oA) :: (cN, oN) :: rest
theorem DoesC.use {w : World} {D U : Nat} {f : Addr} {news : Led} {vs : List Value} {R : Value → Led → Prop} {p : Program} {loose : List Str} {mean : ExcName → Option Value} {mg mb : Str → Option Value}
    {dp un : Nat} {gd : Option (List Code)} {cn : Str} {cs : Scope} {a : Addr} {ccd : Value} {cl : List (Str × Addr)} {outer : List Env} {A₀ : Around} {base h₀ : Heap} {L : Addr} {m : Str → Option Value} {s : Shared} {Q E : Value → Shared → Prop}
    (C : DoesC w D U f news vs R) (B : Below A₀ base outer h₀) (F : Fr h₀ L s.heap m) (X : (Mine.hd.heap_39 w.params).In h₀) (N : News h₀ L s.heap news) (T : Top p loose mean mg mb h₀) (C1 : CodeHd h₀ 49 45) (C2 : CodeHd h₀ 56 52) (hk : cs.kind = .function) (hd : dp + D < recursionLimit) (hu : un + U < cLine)
    (ret : ∀ r news' h' tk', Fr h₀ L h' m → News h₀ L h' news' → R r news' → Q r { s with heap := h', toks := tk' }) :
    wpAny (model PySem.Challenge.rw_st0036_01.row.prog w) (ktrTop dp un gd cn cs L a ccd cl outer) (call (.ref f) vs) Q E s :=
  C p loose mean mg mb dp un gd cn cs a ccd cl outer A₀ base h₀ L m s Q E B F X N T C1 C2 hk hd hu ret
theorem inner1 (w : World) (ps : Arguments) (bd : List Stmt) (sc : Scope) (hdef : innerDef (Mine.hd.heap_39 w.params) 50 = some (ps, bd, sc)) (qual : Str) (f c' cN cF cA D : Addr) (dc pm ct : Value) (oc oN oF oA : Obj) (vc : Array Value) (tq tn : Tok) (n : Int) (rest : Led)
    (hcd : oc.data = .fields vc) (hcv : vc[1]? = some (.str qual tq))
    (hNd : oN.data = .cell (some (.int n tn))) (hFd : oF.data = .cell (some (.ref f))) (hAd : oA.data = .cell (some (.ref D))) (hsep : ∀ p ∈ rest, p.1 ≠ D) (hn : 1 ≤ n) (hn4 : n ≤ 400)
    (q1 : cN < D) (q2 : cF < D) (q3 : cA < D) (q4 : c' ≠ D) (q5 : D < f) :
    ∀ (k : Nat) (x : Int) (lo : Nat) (tx tl th : Tok) (vs : List Value) (ds : List Int) (kk : Nat), IntsAre vs ds → lo + (k + 1) ≤ ds.length → 0 ≤ x → Builtin.Int.intBits x ≤ 1000 → ds.length ≤ 400 →
      DoesC w (k + 2) (10 * (k + 2)) f (inLed f c' cN cF cA D qual ps bd sc dc pm ct oc oN oF oA vs kk rest) [.int x tx, .int (lo : Int) tl, .int ((lo + (k + 1) : Nat) : Int) th] (fun r news' => ∃ vs' ds' kk', news' = inLed f c' cN cF cA D qual ps bd sc dc pm ct oc oN oF oA vs' kk' rest ∧ IntsAre vs' ds' ∧ Dig n.toNat ds ds' lo k x) := by
  conv at hdef => lhs; whnf
  injection hdef with e1
  obtain ⟨rfl, rfl, rfl⟩ := Prod.mk.inj e1 |>.imp id (fun e => Prod.mk.inj e)
  intro k
  induction k using Nat.strongRecOn with
  | _ k ih =>
  intro x lo tx tl th vs ds kk hI hlen hx hxb hd400
  unfold DoesC
  k_fill
  intro p loose mean mg mb dp un gd cn cs a ccd cl outer A₀ base h₀ L m s Q E B F X N T C1 C2 hk hd hu hret
  have HS : StB s := ⟨⟩
  unfold inLed at N
  refine wpAny_call ?_
  k_dflt (refine' code_nest ?k1 ?k2 ?k3 ?k4 ?k5 ?kA ?kF ?kK ?k6 ?k7 ?k8 ?k9 ?kB ?_ ?c2 ?c3 ?c4 ?c5; (case kA => exact rfl); (case kF => exact rfl); (case kK => assumption); (case k1 => k_asm); (case k2 => k_asm); (case k3 => k_asm); (case k4 => k_asm); (case k5 => k_asm); (case k6 => exact .tail _ (.head _)); (case k7 => exact codeRec_news N (.tail _ (.tail _ (.head _))) hcd hcv); (case k8 => ktr_room); (case k9 => exact BindsTo.of_eq rfl); (case c5 => decide); (case kB => exact locs rfl); (case c2 => exact rfl); (case c3 => exact rfl); (case c4 => exact rfl); k_whole; intro g' L' h' FG' F' N' B' X' T'; (try dsimp only); (try k_fold))
  refine wpAny_noRaise ?_
  have C1' := C1.keeps FG'.keep
  have C2' := C2.keeps FG'.keep
  k_steps
  · refine Hold.mk ?_
    have hk0 : k = 0 := by omega
    subst hk0
    have hneD : ∀ (fo : Obj), ∀ p ∈ (f, fo) :: (c', oc) :: (cF, oF) :: (cA, oA) :: (cN, oN) :: rest, p.1 ≠ D := by
      intro fo p hp
      revert hp; revert p
      refine Mine.Ar.all_cons ?_ (Mine.Ar.all_cons ?_ (Mine.Ar.all_cons ?_ (Mine.Ar.all_cons ?_ (Mine.Ar.all_cons ?_ (fun p hp => ?_)))))
      · exact Nat.ne_of_gt q5
      · exact q4
      · exact Nat.ne_of_lt q2
      · exact Nat.ne_of_lt q3
      · exact Nat.ne_of_lt q1
      · exact hsep p hp
    k_dflt (refine' ksa_set ?F ?N (Upd.head (hneD _)) hI ?h0 ?h1 ?hfit ?_; (case F => k_asm); (case N => k_asm); (case h0 => omega); (case h1 => omega); (case hfit => omega))
    intro h9 F9 N9 hi9 hl9 hs9
    k_steps
    rename News h₀ _ _ _ => kN
    rw [Int.toNat_natCast] at hi9
    exact hret _ _ _ _ (by assumption) kN ⟨_, _, _, rfl, hi9, Dig.one hx (by omega)⟩
  · refine Hold.mk ?_
    obtain ⟨k1, k2, rfl, e1⟩ := half_mid ‹¬ (lo : Int) + 1 = ((lo + (k + 1) : Nat) : Int)›
    have hk1' : k1 < k1 + (k2 + 1) := Nat.lt_add_of_pos_right (Nat.succ_pos _)
    have hk2 : k2 < k1 + (k2 + 1) := Nat.lt_of_lt_of_le (Nat.lt_succ_self _) (Nat.le_add_left _ _)
    refine rshift_int (by decide) ?_
    rw [e1]
    have hS : (((lo + (k1 + 1) : Nat) : Int) - (lo : Int)) * n = ((n.toNat * (k1 + 1) : Nat) : Int) := by
      rw [show ((lo + (k1 + 1) : Nat) : Int) - (lo : Int) = ((k1 + 1 : Nat) : Int) by omega]
      rw [Int.natCast_mul, Int.toNat_of_nonneg (by omega), Int.mul_comm]
    have hs0 : 0 ≤ (((lo + (k1 + 1) : Nat) : Int) - (lo : Int)) * n := by rw [hS]; exact Int.natCast_nonneg _
    have hsz : (Builtin.Int.intBits (x.fdiv (2 ^ ((((lo + (k1 + 1) : Nat) : Int) - (lo : Int)) * n).toNat)) : Int) + (((lo + (k1 + 1) : Nat) : Int) - (lo : Int)) * n ≤ 2 ^ 27 := by
      have h1 : Builtin.Int.intBits (x.fdiv (2 ^ ((((lo + (k1 + 1) : Nat) : Int) - (lo : Int)) * n).toNat)) ≤ 1000 := intBits_fdiv_le hxb
      have h2 : n.toNat * (k1 + 1) ≤ 400 * 400 := Nat.mul_le_mul (by omega) (by omega)
      have h3 : (Builtin.Int.intBits (x.fdiv (2 ^ ((((lo + (k1 + 1) : Nat) : Int) - (lo : Int)) * n).toNat)) : Int) ≤ 1000 := Int.ofNat_le.mpr h1
      have h4 : (((lo + (k1 + 1) : Nat) : Int) - (lo : Int)) * n ≤ 160000 := by rw [hS]; exact Int.ofNat_le.mpr h2
      exact Int.le_trans (Int.add_le_add h3 h4) (by decide)
    k_steps
    refine Hold.mk ?_
    refine rshift_int hs0 ?_
    k_steps
    refine Hold.mk ?_
    refine lshift_int hs0 hsz ?_
    k_steps
    refine Hold.mk ?_
    have hSt : ((((lo + (k1 + 1) : Nat) : Int) - (lo : Int)) * n).toNat = n.toNat * (k1 + 1) := by rw [hS, Int.toNat_natCast]
    have hp0 : (0 : Int) < 2 ^ (n.toNat * (k1 + 1)) := Int.pow_pos (by decide)
    have hxl : Builtin.bitXor x (x.fdiv (2 ^ ((((lo + (k1 + 1) : Nat) : Int) - (lo : Int)) * n).toNat) * 2 ^ ((((lo + (k1 + 1) : Nat) : Int) - (lo : Int)) * n).toNat) = x % 2 ^ (n.toNat * (k1 + 1)) := by
      rw [hSt]; exact xor_low hx _
    have hxu : x.fdiv (2 ^ ((((lo + (k1 + 1) : Nat) : Int) - (lo : Int)) * n).toNat) = x / 2 ^ (n.toNat * (k1 + 1)) := by
      rw [hSt, Int.fdiv_eq_ediv_of_nonneg _ (Int.le_of_lt hp0)]
    have hxl0 : 0 ≤ x % 2 ^ (n.toNat * (k1 + 1)) := Int.emod_nonneg _ (Int.ne_of_gt hp0)
    have hxlb : Builtin.Int.intBits (x % 2 ^ (n.toNat * (k1 + 1))) ≤ 1000 := by
      refine intBits_le_of_natAbs ?_ hxb
      have h1 := Int.emod_add_mul_ediv x (2 ^ (n.toNat * (k1 + 1)))
      have h2 := Int.mul_nonneg (Int.le_of_lt hp0) (Int.ediv_nonneg hx (Int.le_of_lt hp0))
      omega
    have hxu0 : 0 ≤ x / 2 ^ (n.toNat * (k1 + 1)) := Int.ediv_nonneg hx (Int.le_of_lt hp0)
    have hxub : Builtin.Int.intBits (x / 2 ^ (n.toNat * (k1 + 1))) ≤ 1000 := by rw [← hxu]; exact intBits_fdiv_le hxb
    have e3 : ((lo + (k1 + (k2 + 1) + 1) : Nat) : Int) = ((lo + (k1 + 1) + (k2 + 1) : Nat) : Int) := congrArg _ (by omega)
    rw [hxl]
    rename News g' _ _ _ => N1
    k_dflt (refine' DoesC.use (ih k1 hk1' _ lo _ tl _ vs ds kk hI ?l1 hxl0 hxlb hd400) ?B ?F ?X ?N ?T C1' C2' ?hk ?hd ?hu ?ret; (case B => k_asm); (case F => k_asm); (case X => k_asm); (case N => exact N1); (case T => k_asm); (case hk => rfl); (case hd => first | ktr_room | omega); (case hu => ktr_units); (case l1 => omega))
    case ret =>
      rintro r9 news9 h9 tk9 F9 N9 ⟨vs1, ds1, kk1, rfl, hI1, hD1⟩
      have hl1 := hD1.len (by omega)
      unfold inLed at N9
      k_steps
      refine Hold.mk ?_
      rw [hxu, e3]
      clear N1
      rename News g' _ _ _ => N1
      k_dflt (refine' DoesC.use (ih k2 hk2 _ (lo + (k1 + 1)) _ _ _ vs1 ds1 kk1 hI1 ?l1 hxu0 hxub ?l2) ?B ?F ?X ?N ?T C1' C2' ?hk ?hd ?hu ?ret; (case B => k_asm); (case F => k_asm); (case X => k_asm); (case N => exact N1); (case T => k_asm); (case hk => rfl); (case hd => first | ktr_room | omega); (case hu => ktr_units); (case l1 => omega); (case l2 => omega))
      case ret =>
        rintro r8 news8 h8 tk8 F8 N8 ⟨vs2, ds2, kk2, rfl, hI2, hD2⟩
        unfold inLed at N8
        k_steps
        rename News h₀ _ _ _ => kN
        exact hret _ _ _ _ (by assumption) kN ⟨_, _, _, rfl, hI2, Dig.two hx (by omega) hD1 hD2⟩
end Mine

end
-- I2dF
section
open PySem PySem.W PySem.Spec PySem.Calls PyProof.Rows
set_option Elab.async false
set_option pp.maxSteps 3000
set_option pp.deepTerms false
set_option pp.deepTerms.threshold 6
set_option maxRecDepth 100000
set_option maxHeartbeats 2000000
namespace Mine
theorem said_I2dF_0 : True := by
  k_with_none
  w_top off
  k_with "lt" => first | assumption | (refine Mine.Ar.pick (by assumption) ?_; intro hh; first | exact Mine.Ar.c1 hh | exact Mine.Ar.c2 hh | exact Mine.Ar.c3 hh | exact Mine.Ar.c4 hh | exact Mine.Ar.c5 hh | exact Mine.Ar.c6 hh | exact Mine.Ar.c7 hh | exact Mine.Ar.c8 hh | exact Mine.Ar.e2 hh | exact Mine.Ar.e3 hh | exact Mine.Ar.e4 hh | fail) | exact Mine.Ar.t1 | exact Mine.Ar.t2 | exact Mine.Ar.t3 | fail
  k_with "lt2" => first | k_extra "lt" | (refine Mine.Ar.s1 ?_; k_extra "lt") | (refine Mine.Ar.s2 ?_; k_extra "lt") | (refine Mine.Ar.s3 ?_; k_extra "lt") | fail
  k_with "omega" => with_reducible (first | assumption | decide +kernel | (refine Nat.ne_of_gt ?_; k_extra "lt2") | (refine Nat.ne_of_lt ?_; k_extra "lt2") | k_extra "lt2" | exact Mine.Ar.u1 | exact Mine.Ar.u2 | exact Mine.Ar.u3 | exact Mine.Ar.v1 | exact Mine.Ar.dp0 (by assumption) | exact Mine.Ar.dp1 (by assumption) (by decide) | exact Mine.Ar.dp2 (by assumption) (by decide) | exact Mine.Ar.ll (by assumption) (by decide) | exact Mine.Ar.l0 (by assumption) (by decide) | exact Mine.Ar.lm (by assumption) (by decide) | exact Mine.Ar.gn (by assumption) (by decide) | exact Mine.Ar.ci (by decide) | exact Mine.Ar.cz | exact Mine.Ar.li (by assumption) (by decide) | exact Mine.Ar.lj (by assumption) (by decide) | exact Mine.Ar.lk (by assumption) (by decide) | exact Mine.Ar.gi (by assumption) (by decide) | exact Mine.Ar.gj (by assumption) (by decide) | exact Mine.Ar.gk (by assumption) (by decide) | exact Mine.Ar.gl (by assumption) (by decide) | exact Mine.Ar.n0 (by assumption) | exact Mine.Ar.n1 (by assumption) (by decide) | exact Mine.Ar.m0 (by assumption) | exact Mine.Ar.m1 (by assumption) (by decide) | exact And.left (by assumption) | exact And.right (by assumption) | lia | fail)
  k_with "mem" => with_reducible (first | exact List.mem_cons_self | exact Mine.Ar.g1 | exact Mine.Ar.g2 | exact Mine.Ar.g3 | exact Mine.Ar.g4 | exact Mine.Ar.g5 | exact Mine.Ar.g6 | exact Mine.Ar.g7 | exact Mine.Ar.g8 | exact Mine.Ar.g9 | assumption | (refine List.mem_cons_of_mem _ ?_; k_extra "mem") | (refine List.mem_append_right _ ?_; k_extra "mem") | (refine List.mem_append_left _ ?_; k_extra "mem") | fail)
  k_with "sub" => with_reducible (first | exact Mine.Ar.Sub.nil | exact Mine.Ar.Sub.refl | exact Mine.Ar.Sub.t1 Mine.Ar.Sub.refl | exact Mine.Ar.Sub.t2 Mine.Ar.Sub.refl | exact Mine.Ar.Sub.t3 Mine.Ar.Sub.refl | exact Mine.Ar.Sub.t4 Mine.Ar.Sub.refl | exact Mine.Ar.Sub.t5 Mine.Ar.Sub.refl | exact Mine.Ar.Sub.t6 Mine.Ar.Sub.refl | exact Mine.Ar.Sub.t7 Mine.Ar.Sub.refl | exact Mine.Ar.Sub.t8 Mine.Ar.Sub.refl | exact Mine.Ar.Sub.t9 Mine.Ar.Sub.refl | (refine Mine.Ar.Sub.cons ?_ ?_; k_extra "mem"; k_extra "sub") | (refine Mine.Ar.Sub.app ?_ ?_; k_extra "sub"; k_extra "sub") | (refine Mine.Ar.Sub.t1 ?_; k_extra "sub") | (refine Mine.Ar.Sub.inr ?_; k_extra "sub") | (refine Mine.Ar.Sub.inl ?_; k_extra "sub") | fail)
  k_with "k_all" => first | assumption | exact all_ne_of (by assumption) (by omega) | fail
  k_with "execs cons" => ((try first | (refine' canon ?H ?F ?e ?_; (case H => assumption); (case F => assumption); (case e => exact rfl); intro _) | (refine' canonD ?H ?F ?e ?_; (case H => assumption); (case F => assumption); (case e => exact rfl); intro _ _)); (try k_fold); refine wpAny_execs_cons ?_)
  k_with "eval Call" => k_fold
  k_with "call ref" => ((with_reducible show wpAny _ _ (call (Value.ref _) _) _ _ _); refine hold_out ?_)
  trivial

theorem reord {h₀ h : Heap} {L f c' D l cF cA cN : Addr} {fo oc oD ol oF oA oN : Obj} {rest : Led} (N : News h₀ L h ((f, fo) :: (c', oc) :: (D, oD) :: (l, ol) :: (cF, oF) :: (cA, oA) :: (cN, oN) :: rest)) :
    News h₀ L h ((D, oD) :: (f, fo) :: (c', oc) :: (cF, oF) :: (cA, oA) :: (cN, oN) :: rest) := by
  refine kst_newsOf N fun p hp => ?_
  exact Mine.Ar.Sub.use (by k_extra "sub") hp
theorem reord2 {h₀ h : Heap} {L f c' D l cF cA cN a52 a45 : Addr} {fo oc oD ol oF oA oN o52 o45 : Obj} {rest : Led} (N : News h₀ L h ((f, fo) :: (D, oD) :: (l, ol) :: (cF, oF) :: (cA, oA) :: (cN, oN) :: (a52, o52) :: (a45, o45) :: (c', oc) :: rest)) :
    News h₀ L h ((D, oD) :: (f, fo) :: (c', oc) :: (cF, oF) :: (cA, oA) :: (cN, oN) :: (a52, o52) :: (a45, o45) :: rest) := by
  refine kst_newsOf N fun p hp => ?_
  exact Mine.Ar.Sub.use (by k_extra "sub") hp
theorem inner1_use {w : World} {p : Program} {loose : List Str} {mean : ExcName → Option Value} {mg mb : Str → Option Value}
    {dp un : Nat} {gd : Option (List Code)} {cn : Str} {cs : Scope} {a : Addr} {ccd : Value} {cl : List (Str × Addr)} {outer : List Env} {A₀ : Around} {base h₀ : Heap} {L : Addr} {m : Str → Option Value} {s : Shared} {Q E : Value → Shared → Prop}
    {ps : Arguments} {bd : List Stmt} {sc : Scope} (hdef : innerDef (Mine.hd.heap_39 w.params) 50 = some (ps, bd, sc)) {qual : Str} {f c' cN cF cA D : Addr} {dc pm ct : Value} {oc oN oF oA : Obj} {vc : Array Value} {tq tn : Tok} {n : Int} {rest : Led}
    (k : Nat) {x : Int} (lo : Nat) {tx tl th : Tok} {vs : List Value} {ds : List Int} {kk : Nat}
    (B : Below A₀ base outer h₀) (F : Fr h₀ L s.heap m) (X : (Mine.hd.heap_39 w.params).In h₀)
    (N : News h₀ L s.heap ((D, listOf vs.toArray kk) :: (f, fnMade (Str.ofString "inner") qual ps bd sc [(Str.ofString "n", cN), (Str.ofString "inner", cF), (Str.ofString "a_digits", cA)] dc pm c' ct) :: (c', oc) :: (cF, oF) :: (cA, oA) :: (cN, oN) :: rest))
    (T : Top p loose mean mg mb h₀) (C1 : CodeHd h₀ 49 45) (C2 : CodeHd h₀ 56 52) (hk : cs.kind = .function) (hd : dp + (k + 2) < recursionLimit) (hu : un + (10 * (k + 2)) < cLine)
    (hcd : oc.data = .fields vc) (hcv : vc[1]? = some (.str qual tq))
    (hNd : oN.data = .cell (some (.int n tn))) (hFd : oF.data = .cell (some (.ref f))) (hAd : oA.data = .cell (some (.ref D))) (hsep : ∀ p ∈ rest, p.1 ≠ D) (hn : 1 ≤ n) (hn4 : n ≤ 400)
    (q1 : cN < D) (q2 : cF < D) (q3 : cA < D) (q4 : c' ≠ D) (q5 : D < f)
    (hI : IntsAre vs ds) (hl : lo + (k + 1) ≤ ds.length) (hx : 0 ≤ x) (hxb : Builtin.Int.intBits x ≤ 1000) (hd4 : ds.length ≤ 400)
    (ret : ∀ r vs' ds' kk' h' tk', Fr h₀ L h' m → News h₀ L h' ((D, listOf vs'.toArray kk') :: (f, fnMade (Str.ofString "inner") qual ps bd sc [(Str.ofString "n", cN), (Str.ofString "inner", cF), (Str.ofString "a_digits", cA)] dc pm c' ct) :: (c', oc) :: (cF, oF) :: (cA, oA) :: (cN, oN) :: rest) →
      IntsAre vs' ds' → Dig n.toNat ds ds' lo k x → Q r { s with heap := h', toks := tk' }) :
    wpAny (model PySem.Challenge.rw_st0036_01.row.prog w) (ktrTop dp un gd cn cs L a ccd cl outer) (call (.ref f) [.int x tx, .int (lo : Int) tl, .int ((lo + (k + 1) : Nat) : Int) th]) Q E s :=
  DoesC.use (inner1 w ps bd sc hdef qual f c' cN cF cA D dc pm ct oc oN oF oA vc tq tn n rest hcd hcv hNd hFd hAd hsep hn hn4 q1 q2 q3 q4 q5 k x lo tx tl th vs ds kk hI hl hx hxb hd4) B F X N T C1 C2 hk hd hu
    fun r news' h' tk' F' N' ⟨vs', ds', kk', e, hI', hD⟩ => ret r vs' ds' kk' h' tk' F' (by subst e; exact N') hI' hD
def I2dR (pre : Led) (t52 : Obj) (aa n : Int) (r : Value) (news' : Led) : Prop :=
  ∃ (c0 D : Addr) (oc0 : Obj) (vc0 : Array Value) (tq0 : Tok) (vs : List Value) (ds : List Int) (kk : Nat), r = .ref D ∧ news' = (D, listOf vs.toArray kk) :: (52, t52) :: (45, tabObj #[rawInt ((76 : Nat) : Int), rawInt ((4 : Nat) : Int), .ref c0]) :: (c0, oc0) :: pre ∧
    oc0.data = .fields vc0 ∧ vc0[1]? = some (.str (Str.ofString "_int2digits.<locals>.inner") tq0) ∧ c0 ≠ 45 ∧ c0 ≠ 52 ∧ D ≠ c0 ∧ 52 < D ∧ (∀ p ∈ pre, p.1 < D) ∧ IntsAre vs ds ∧ valB (2 ^ n.toNat) ds = aa ∧ (∀ d ∈ ds, 0 ≤ d ∧ d < 2 ^ n.toNat) ∧ ds.length ≤ 300
theorem i2d_len {b : Nat} {n : Int} (hn : 1 ≤ n) (hb : 1 ≤ b) (hb3 : b ≤ 300) : ∃ len : Nat, ((b : Int) + n - 1).fdiv n = ((len + 1 : Nat) : Int) ∧ 1 ≤ len + 1 ∧ len + 1 ≤ 300 ∧ b ≤ n.toNat * (len + 1) := by
  obtain ⟨m, rfl⟩ := Int.eq_ofNat_of_zero_le (show (0 : Int) ≤ n by omega)
  have hm : 1 ≤ m := by omega
  have e : ((b : Int) + (m : Int) - 1) = ((b + m - 1 : Nat) : Int) := by omega
  have hd : ((b : Int) + (m : Int) - 1).fdiv (m : Int) = (((b + m - 1) / m : Nat) : Int) := by
    rw [e, Int.fdiv_eq_ediv_of_nonneg _ (Int.natCast_nonneg _)]; rfl
  have h1 : 1 ≤ (b + m - 1) / m := (Nat.one_le_div_iff (by omega)).mpr (by omega)
  have h2 : (b + m - 1) / m ≤ b := by
    have : b + m - 1 ≤ b * m := by
      obtain ⟨b', rfl⟩ := Nat.exists_eq_add_of_le hb
      obtain ⟨m', rfl⟩ := Nat.exists_eq_add_of_le hm
      rw [Nat.mul_add, Nat.add_mul, Nat.add_mul]
      omega
    exact Nat.div_le_of_le_mul (Nat.mul_comm b m ▸ this)
  have h3 : b ≤ m * ((b + m - 1) / m) := by
    have := Nat.div_add_mod (b + m - 1) m
    have h4 := Nat.mod_lt (b + m - 1) (show m > 0 by omega)
    omega
  refine ⟨(b + m - 1) / m - 1, ?_, by omega, by omega, ?_⟩
  · rw [hd]; omega
  · rw [Int.toNat_natCast, show (b + m - 1) / m - 1 + 1 = (b + m - 1) / m by omega]; exact h3

theorem i2d_miss (w : World) (pre : Led) (t52 : Obj) (aa n : Int) (ta tn : Tok) (ha : 0 < aa) (hn : 1 ≤ n) (hb : Builtin.Int.intBits aa ≤ 300) (hn4 : n ≤ 400) (hp45 : ∀ p ∈ pre, p.1 ≠ 45) (hp52 : ∀ p ∈ pre, p.1 ≠ 52) :
    DoesC w 310 3200 50 ((52, t52) :: (45, tabObj #[]) :: pre) [.int aa ta, .int n tn] (I2dR pre t52 aa n) := by
  unfold DoesC
  k_fill
  intro p loose mean mg mb dp un gd cn cs a ccd cl outer A₀ base h₀ L m s Q E B F X N T C1 C2 hk hd hu hret
  have HS : StB s := ⟨⟩
  refine wpAny_call ?_
  k_dflt (refine' code_defC ?k1 ?k2 ?k3 ?k4 ?k5 ?kA ?kF ?kK ?k6 ?k7 ?k8 ?k9 ?kB ?kD ?_ ?c2 ?c3 ?c4; (case kA => exact rfl); (case kF => exact rfl); (case kK => assumption); (case k1 => k_asm); (case k2 => k_asm); (case k3 => k_asm); (case k4 => k_asm); (case k5 => k_asm); (case k6 => k_is); (case k7 => k_is); (case k8 => ktr_room); (case k9 => exact BindsTo.of_eq rfl); (case kB => exact rfl); (case kD => decide +kernel); (case c2 => exact rfl); (case c3 => exact rfl); (case c4 => exact rfl); k_whole; intro g' L' h' tk' cells' FG' F' N' Y' B' X' T' l1; k_cells Y'; (try simp only [List.cons_append, List.nil_append] at N'); (try dsimp only); (try k_fold))
  refine wpAny_noRaise ?_
  have hz : n ≠ 0 := by omega
  have hbp : 1 ≤ Builtin.Int.intBits aa := by
    unfold Builtin.Int.intBits
    rw [if_neg (by simp; omega)]
    omega
  obtain ⟨len, hlen, hlen0, hlen1, hlen2⟩ := i2d_len hn hbp hb
  have hq0 : 1 ≤ ((Builtin.Int.intBits aa : Int) + n - 1).fdiv n := by omega
  have hq1 : ((Builtin.Int.intBits aa : Int) + n - 1).fdiv n ≤ 400 := by omega
  have hlp : ∀ p ∈ pre, p.1 < L' := fun p hp => l1 p (.tail _ (.tail _ (hp)))
  k_lt l1
  have C1' := C1.keeps FG'.keep
  have C2' := C2.keeps FG'.keep
  k_steps
  · refine Hold.mk ?_
    rename News g' _ _ _ => N1
    have N2 := reord N1
    rename (_ = Data.cell (bindC _ _ _ _)) => dN
    rename_i h9 i1 n1 s1 e1 e2 e3 lD h8 oA dA _ f9 c9 oc9 vc9 tq9 ct9 dc9 h7 tk7 d1 d2 lc lf h6 oF F6 dF _ _ _ _ _ _
    have hn1 : n1 = 0 + (len + 1) := by
      have := e3 (by omega)
      rw [hlen] at this
      omega
    subst hn1
    k_dflt (refine' inner1_use rfl len 0 ?B ?F ?X N2 ?T C1' C2' rfl ?hd ?hu d1 d2 dN dF dA ?sep hn hn4 ?q1 ?q2 ?q3 ?q4 ?q5 i1 ?hl (Int.le_of_lt ha) ?xb ?d4 ?ret; (case B => k_asm); (case F => k_asm); (case X => k_asm); (case T => k_asm); (case hd => first | ktr_room | omega); (case hu => ktr_units); (case q1 => exact lD.2.2.2.1); (case q2 => exact lD.2.1); (case q3 => exact lD.2.2.1); (case q4 => exact Nat.ne_of_gt lc.1); (case q5 => exact Nat.lt_trans lc.1 lf); (case hl => rw [e1]; exact Nat.le_refl _); (case xb => omega); (case d4 => rw [e1]; omega))
    case sep =>
      intro p hp
      rcases List.mem_cons.mp hp with rfl | hp
      · exact Nat.ne_of_lt lD.2.2.2.2.1
      rcases List.mem_cons.mp hp with rfl | hp
      · exact Nat.ne_of_lt lD.2.2.2.2.2.1
      exact Nat.ne_of_lt (ktn_ltOf lD.2.2.2.2.2.2 p hp)
    case ret =>
      intro r10 vs10 ds10 kk10 h10 tk10 F10 N10 hI10 hD10
      k_steps
      rename News h₀ _ _ _ => kN
      obtain ⟨dg, hdg1, hdg2, hdg3, hdg4⟩ := hD10.ex
      have hdg : ds10 = dg := by
        rw [hdg1, List.take_zero, List.nil_append, List.drop_of_length_le (by rw [e1]; exact Nat.le_refl _), List.append_nil]
      subst hdg
      refine hret _ _ _ _ (by assumption) (kst_newsOf kN (l' := (_, listOf vs10.toArray kk10) :: (52, t52) :: (45, tabObj #[rawInt ((76 : Nat) : Int), rawInt ((4 : Nat) : Int), .ref c9]) :: (c9, oc9) :: pre) fun p hp => ?_) ⟨c9, _, oc9, vc9, tq9, vs10, ds10, kk10, rfl, rfl, d1, ?_, ?_, ?_, ?_, ?_, ?_, hI10, hdg3, hdg4 ?_, ?_⟩
      · rcases List.mem_cons.mp hp with rfl | hp
        · exact .head _
        rcases List.mem_cons.mp hp with rfl | hp
        · exact .tail _ (.tail _ (.tail _ (.tail _ (.tail _ (.tail _ (.head _))))))
        rcases List.mem_cons.mp hp with rfl | hp
        · exact .tail _ (.tail _ (.tail _ (.tail _ (.tail _ (.tail _ (.tail _ (.head _)))))))
        rcases List.mem_cons.mp hp with rfl | hp
        · exact .tail _ (.tail _ (.head _))
        exact .tail _ (.tail _ (.tail _ (.tail _ (.tail _ (.tail _ (.tail _ (.tail _ hp)))))))
      · first | exact d2 | (rw [d2]; rfl) | (rw [d2]; kernel_rfl)
      · exact Nat.ne_of_gt lc.2.2.2.2.2.2.1
      · exact Nat.ne_of_gt lc.2.2.2.2.2.1
      · exact Nat.ne_of_lt lc.1
      · exact lD.2.2.2.2.1
      · exact fun p hp => ktn_ltOf lD.2.2.2.2.2.2 p hp
      · have h1 := intBits_le_iff.mp hlen2
        rw [← Int.pow_mul]
        have h2 : ((2 : Int) ^ (n.toNat * (len + 1))) = ((2 ^ (n.toNat * (len + 1)) : Nat) : Int) := by push_cast; rfl
        rw [h2]
        omega
      · rw [hdg2]; omega

theorem i2d_hit (w : World) (pre : Led) (t52 : Obj) (c0 : Addr) (oc0 : Obj) (vc0 : Array Value) (tq0 : Tok) (hcd0 : oc0.data = .fields vc0) (hcv0 : vc0[1]? = some (.str (Str.ofString "_int2digits.<locals>.inner") tq0)) (h045 : c0 ≠ 45) (h052 : c0 ≠ 52) (aa n : Int) (ta tn : Tok) (ha : 0 < aa) (hn : 1 ≤ n) (hb : Builtin.Int.intBits aa ≤ 300) (hn4 : n ≤ 400) (hp45 : ∀ p ∈ pre, p.1 ≠ 45) (hp52 : ∀ p ∈ pre, p.1 ≠ 52) :
    DoesC w 310 3200 50 ((52, t52) :: (45, tabObj #[rawInt ((76 : Nat) : Int), rawInt ((4 : Nat) : Int), .ref c0]) :: (c0, oc0) :: pre) [.int aa ta, .int n tn] (I2dR pre t52 aa n) := by
  unfold DoesC
  k_fill
  intro p loose mean mg mb dp un gd cn cs a ccd cl outer A₀ base h₀ L m s Q E B F X N T C1 C2 hk hd hu hret
  have HS : StB s := ⟨⟩
  refine wpAny_call ?_
  k_dflt (refine' code_defC ?k1 ?k2 ?k3 ?k4 ?k5 ?kA ?kF ?kK ?k6 ?k7 ?k8 ?k9 ?kB ?kD ?_ ?c2 ?c3 ?c4; (case kA => exact rfl); (case kF => exact rfl); (case kK => assumption); (case k1 => k_asm); (case k2 => k_asm); (case k3 => k_asm); (case k4 => k_asm); (case k5 => k_asm); (case k6 => k_is); (case k7 => k_is); (case k8 => ktr_room); (case k9 => exact BindsTo.of_eq rfl); (case kB => exact rfl); (case kD => decide +kernel); (case c2 => exact rfl); (case c3 => exact rfl); (case c4 => exact rfl); k_whole; intro g' L' h' tk' cells' FG' F' N' Y' B' X' T' l1; k_cells Y'; (try simp only [List.cons_append, List.nil_append] at N'); (try dsimp only); (try k_fold))
  refine wpAny_noRaise ?_
  have hz : n ≠ 0 := by omega
  have hbp : 1 ≤ Builtin.Int.intBits aa := by
    unfold Builtin.Int.intBits
    rw [if_neg (by simp; omega)]
    omega
  obtain ⟨len, hlen, hlen0, hlen1, hlen2⟩ := i2d_len hn hbp hb
  have hq0 : 1 ≤ ((Builtin.Int.intBits aa : Int) + n - 1).fdiv n := by omega
  have hq1 : ((Builtin.Int.intBits aa : Int) + n - 1).fdiv n ≤ 400 := by omega
  have hlp : ∀ p ∈ pre, p.1 < L' := fun p hp => l1 p (.tail _ (.tail _ (.tail _ hp)))
  k_lt l1
  have C1' := C1.keeps FG'.keep
  have C2' := C2.keeps FG'.keep
  k_steps
  · refine Hold.mk ?_
    rename News g' _ _ _ => N1
    have N2 := reord2 N1
    rename (_ = Data.cell (bindC _ _ _ _)) => dN
    rename_i h9 i1 n1 s1 e1 e2 e3 lD h8 oA dA _ f9 ct9 dc9 h7 tk7 lf h6 oF F6 dF _ _ _ _ _ _
    have hn1 : n1 = 0 + (len + 1) := by
      have := e3 (by omega)
      rw [hlen] at this
      omega
    subst hn1
    k_dflt (refine' inner1_use rfl len 0 ?B ?F ?X N2 ?T C1' C2' rfl ?hd ?hu hcd0 ?d2 dN dF dA ?sep hn hn4 ?q1 ?q2 ?q3 ?q4 ?q5 i1 ?hl (Int.le_of_lt ha) ?xb ?d4 ?ret; (case B => k_asm); (case F => k_asm); (case X => k_asm); (case T => k_asm); (case hd => first | ktr_room | omega); (case hu => ktr_units); (case q1 => exact lD.2.2.2.1); (case q2 => exact lD.2.1); (case q3 => exact lD.2.2.1); (case q4 => exact Nat.ne_of_lt lD.2.2.2.2.2.2.1); (case q5 => exact lf.1); (case d2 => first | exact hcv0 | (rw [hcv0]; rfl) | (rw [hcv0]; kernel_rfl)); (case hl => rw [e1]; exact Nat.le_refl _); (case xb => omega); (case d4 => rw [e1]; omega))
    case sep =>
      intro p hp
      rcases List.mem_cons.mp hp with rfl | hp
      · exact Nat.ne_of_lt lD.2.2.2.2.1
      rcases List.mem_cons.mp hp with rfl | hp
      · exact Nat.ne_of_lt lD.2.2.2.2.2.1
      exact Nat.ne_of_lt (ktn_ltOf lD.2.2.2.2.2.2.2 p hp)
    case ret =>
      intro r10 vs10 ds10 kk10 h10 tk10 F10 N10 hI10 hD10
      k_steps
      rename News h₀ _ _ _ => kN
      obtain ⟨dg, hdg1, hdg2, hdg3, hdg4⟩ := hD10.ex
      have hdg : ds10 = dg := by
        rw [hdg1, List.take_zero, List.nil_append, List.drop_of_length_le (by rw [e1]; exact Nat.le_refl _), List.append_nil]
      subst hdg
      refine hret _ _ _ _ (by assumption) (kst_newsOf kN (l' := (_, listOf vs10.toArray kk10) :: (52, t52) :: (45, tabObj #[rawInt ((76 : Nat) : Int), rawInt ((4 : Nat) : Int), .ref c0]) :: (c0, oc0) :: pre) fun p hp => ?_) ⟨c0, _, oc0, vc0, tq0, vs10, ds10, kk10, rfl, rfl, hcd0, ?_, ?_, ?_, ?_, ?_, ?_, hI10, hdg3, hdg4 ?_, ?_⟩
      · rcases List.mem_cons.mp hp with rfl | hp
        · exact .head _
        rcases List.mem_cons.mp hp with rfl | hp
        · exact .tail _ (.tail _ (.tail _ (.tail _ (.tail _ (.tail _ (.head _))))))
        rcases List.mem_cons.mp hp with rfl | hp
        · exact .tail _ (.tail _ (.tail _ (.tail _ (.tail _ (.tail _ (.tail _ (.head _)))))))
        rcases List.mem_cons.mp hp with rfl | hp
        · exact .tail _ (.tail _ (.head _))
        exact .tail _ (.tail _ (.tail _ (.tail _ (.tail _ (.tail _ (.tail _ (.tail _ hp)))))))
      · exact hcv0
      · exact h045
      · exact h052
      · exact Nat.ne_of_gt lD.2.2.2.2.2.2.1
      · exact lD.2.2.2.2.1
      · exact fun p hp => ktn_ltOf lD.2.2.2.2.2.2.2 p hp
      · have h1 := intBits_le_iff.mp hlen2
        rw [← Int.pow_mul]
        have h2 : ((2 : Int) ^ (n.toNat * (len + 1))) = ((2 ^ (n.toNat * (len + 1)) : Nat) : Int) := by push_cast; rfl
        rw [h2]
        omega
      · rw [hdg2]; omega

end Mine

end
-- InnG
section
open PySem PySem.W PySem.Spec PySem.Calls PyProof.Rows
set_option Elab.async false
set_option pp.maxSteps 3000
set_option pp.deepTerms false
set_option pp.deepTerms.threshold 6
set_option maxRecDepth 100000
set_option maxHeartbeats 2000000
namespace Mine
theorem said_InnG_0 : True := by
  k_with_none
  w_top off
  k_with "lt" => first | assumption | (refine Mine.Ar.pick (by assumption) ?_; intro hh; first | exact Mine.Ar.c1 hh | exact Mine.Ar.c2 hh | exact Mine.Ar.c3 hh | exact Mine.Ar.c4 hh | exact Mine.Ar.c5 hh | exact Mine.Ar.c6 hh | exact Mine.Ar.c7 hh | exact Mine.Ar.c8 hh | exact Mine.Ar.e2 hh | exact Mine.Ar.e3 hh | exact Mine.Ar.e4 hh | fail) | exact Mine.Ar.t1 | exact Mine.Ar.t2 | exact Mine.Ar.t3 | fail
  k_with "lt2" => first | k_extra "lt" | (refine Mine.Ar.s1 ?_; k_extra "lt") | (refine Mine.Ar.s2 ?_; k_extra "lt") | (refine Mine.Ar.s3 ?_; k_extra "lt") | fail
  k_with "omega" => with_reducible (first | assumption | decide +kernel | (refine Nat.ne_of_gt ?_; k_extra "lt2") | (refine Nat.ne_of_lt ?_; k_extra "lt2") | k_extra "lt2" | exact Mine.Ar.u1 | exact Mine.Ar.u2 | exact Mine.Ar.u3 | exact Mine.Ar.v1 | exact Mine.Ar.dp0 (by assumption) | exact Mine.Ar.dp1 (by assumption) (by decide) | exact Mine.Ar.dp2 (by assumption) (by decide) | exact Mine.Ar.ll (by assumption) (by decide) | exact Mine.Ar.l0 (by assumption) (by decide) | exact Mine.Ar.lm (by assumption) (by decide) | exact Mine.Ar.gn (by assumption) (by decide) | exact Mine.Ar.ci (by decide) | exact Mine.Ar.cz | exact Mine.Ar.li (by assumption) (by decide) | exact Mine.Ar.lj (by assumption) (by decide) | exact Mine.Ar.lk (by assumption) (by decide) | exact Mine.Ar.gi (by assumption) (by decide) | exact Mine.Ar.gj (by assumption) (by decide) | exact Mine.Ar.gk (by assumption) (by decide) | exact Mine.Ar.gl (by assumption) (by decide) | exact Mine.Ar.n0 (by assumption) | exact Mine.Ar.n1 (by assumption) (by decide) | exact Mine.Ar.m0 (by assumption) | exact Mine.Ar.m1 (by assumption) (by decide) | exact And.left (by assumption) | exact And.right (by assumption) | lia | fail)
  k_with "k_all" => first | assumption | exact all_ne_of (by assumption) (by omega) | fail
  k_with "execs cons" => ((try first | (refine' canon ?H ?F ?e ?_; (case H => assumption); (case F => assumption); (case e => exact rfl); intro _) | (refine' canonD ?H ?F ?e ?_; (case H => assumption); (case F => assumption); (case e => exact rfl); intro _ _)); (try k_fold); refine wpAny_execs_cons ?_)
  k_with "eval Call" => k_fold
  k_with "binaryOp RShift int int" => refine hold_out ?_
  k_with "binaryOp LShift int int" => refine hold_out ?_
  k_with "call ref" => ((with_reducible show wpAny _ _ (call (Value.ref _) _) _ _ _); refine hold_out ?_)
  trivial

theorem valB_lt {B : Int} (hB : 0 < B) : ∀ (l : List Int), (∀ d ∈ l, 0 ≤ d ∧ d < B) → 0 ≤ valB B l ∧ valB B l < B ^ l.length
  | [], _ => ⟨Int.le_refl _, by simp [valB]⟩
  | d :: r, h => by
    have h1 := h d (.head _)
    have h2 := valB_lt hB r fun x hx => h x (.tail _ hx)
    have h3 := Int.mul_nonneg (Int.le_of_lt hB) h2.1
    have h4 : B * (valB B r + 1) ≤ B * B ^ r.length := Int.mul_le_mul_of_nonneg_left h2.2 (Int.le_of_lt hB)
    rw [Int.mul_add, Int.mul_one] at h4
    rw [valB, List.length_cons, Int.pow_succ, Int.mul_comm (B ^ r.length) B]
    omega
def sub9 (ds : List Int) (lo k : Nat) : List Int := (ds.drop lo).take k
theorem sub9_len {ds : List Int} {lo k : Nat} (h : lo + k ≤ ds.length) : (sub9 ds lo k).length = k := by
  unfold sub9
  rw [List.length_take, List.length_drop]
  omega
theorem sub9_two (ds : List Int) (lo a b : Nat) : sub9 ds lo (a + b) = sub9 ds lo a ++ sub9 ds (lo + a) b := by
  unfold sub9
  rw [List.take_add, List.drop_drop]
theorem sub9_one {ds : List Int} {lo : Nat} (h : lo < ds.length) : sub9 ds lo 1 = [ds.getD lo 0] := by
  unfold sub9
  rw [List.drop_eq_getElem_cons h, List.take_succ_cons, List.take_zero, List.getD_eq_getElem?_getD, List.getElem?_eq_getElem h]
  rfl
theorem sub9_mem {ds : List Int} {lo k : Nat} {d : Int} (h : d ∈ sub9 ds lo k) : d ∈ ds := List.mem_of_mem_drop (List.mem_of_mem_take h)
def inLed2 (f c' cN cF cA D : Addr) (qual : Str) (ps : Arguments) (bd : List Stmt) (sc : Scope) (dc pm ct : Value) (oc oN oF oA : Obj) (vs : List Value) (kk : Nat) (rest : Led) : Led :=
  (f, fnMade (Str.ofString "inner") qual ps bd sc [(Str.ofString "n", cN), (Str.ofString "inner", cF), (Str.ofString "digits", cA)] dc pm c' ct) :: (c', oc) :: (cF, oF) :: (cN, oN) :: (cA, oA) :: (D, listOf vs.toArray kk) :: rest
theorem inner2 (w : World) (ps : Arguments) (bd : List Stmt) (sc : Scope) (hdef : innerDef (Mine.hd.heap_39 w.params) 57 = some (ps, bd, sc)) (qual : Str) (f c' cN cF cA D : Addr) (dc pm ct : Value) (oc oN oF oA : Obj) (vc : Array Value) (tq tn : Tok) (n : Int) (rest : Led)
    (hcd : oc.data = .fields vc) (hcv : vc[1]? = some (.str qual tq))
    (hNd : oN.data = .cell (some (.int n tn))) (hFd : oF.data = .cell (some (.ref f))) (hAd : oA.data = .cell (some (.ref D))) (hn : 1 ≤ n) (hn4 : n ≤ 400)
    (vs : List Value) (ds : List Int) (kk : Nat) (hI : IntsAre vs ds) (hd400 : ds.length ≤ 400) (hds : ∀ d ∈ ds, 0 ≤ d ∧ d < 2 ^ n.toNat) :
    ∀ (k : Nat) (lo : Nat) (tl th : Tok), lo + (k + 1) ≤ ds.length →
      DoesC w (k + 2) (10 * (k + 2)) f (inLed2 f c' cN cF cA D qual ps bd sc dc pm ct oc oN oF oA vs kk rest) [.int (lo : Int) tl, .int ((lo + (k + 1) : Nat) : Int) th]
        (fun r news' => news' = inLed2 f c' cN cF cA D qual ps bd sc dc pm ct oc oN oF oA vs kk rest ∧ ∃ t, r = .int (valB (2 ^ n.toNat) (sub9 ds lo (k + 1))) t) := by
  conv at hdef => lhs; whnf
  injection hdef with e1
  obtain ⟨rfl, rfl, rfl⟩ := Prod.mk.inj e1 |>.imp id (fun e => Prod.mk.inj e)
  intro k
  induction k using Nat.strongRecOn with
  | _ k ih =>
  intro lo tl th hlen
  unfold DoesC
  k_fill
  intro p loose mean mg mb dp un gd cn cs a ccd cl outer A₀ base h₀ L m s Q E B F X N T C1 C2 hk hd hu hret
  have HS : StB s := ⟨⟩
  unfold inLed2 at N
  refine wpAny_call ?_
  k_dflt (refine' code_nest ?k1 ?k2 ?k3 ?k4 ?k5 ?kA ?kF ?kK ?k6 ?k7 ?k8 ?k9 ?kB ?_ ?c2 ?c3 ?c4 ?c5; (case kA => exact rfl); (case kF => exact rfl); (case kK => assumption); (case k1 => k_asm); (case k2 => k_asm); (case k3 => k_asm); (case k4 => k_asm); (case k5 => k_asm); (case k6 => exact .head _); (case k7 => exact codeRec_news N (.tail _ (.head _)) hcd hcv); (case k8 => ktr_room); (case k9 => exact BindsTo.of_eq rfl); (case c5 => decide); (case kB => exact locs rfl); (case c2 => exact rfl); (case c3 => exact rfl); (case c4 => exact rfl); k_whole; intro g' L' h' FG' F' N' B' X' T'; (try dsimp only); (try k_fold))
  refine wpAny_noRaise ?_
  have C1' := C1.keeps FG'.keep
  have C2' := C2.keeps FG'.keep
  have hvl := hI.length
  have hB : (0 : Int) < 2 ^ n.toNat := Int.pow_pos (by decide)
  k_steps
  · have hk0 : k = 0 := by omega
    subst hk0
    rename News h₀ _ _ _ => kN
    have hv : valB (2 ^ n.toNat) (sub9 ds lo (0 + 1)) = ds.getD (lo : Int).toNat 0 := by
      rw [show (0 + 1 : Nat) = 1 from rfl, sub9_one (by omega), Int.toNat_natCast]
      simp [valB]
    exact hret _ _ _ _ (by assumption) kN ⟨rfl, _, by rw [hv]⟩
  · refine Hold.mk ?_
    obtain ⟨k1, k2, rfl, e1⟩ := half_mid ‹¬ (lo : Int) + 1 = ((lo + (k + 1) : Nat) : Int)›
    have hk1' : k1 < k1 + (k2 + 1) := Nat.lt_add_of_pos_right (Nat.succ_pos _)
    have hk2 : k2 < k1 + (k2 + 1) := Nat.lt_of_lt_of_le (Nat.lt_succ_self _) (Nat.le_add_left _ _)
    refine rshift_int (by decide) ?_
    rw [e1]
    have hS : (((lo + (k1 + 1) : Nat) : Int) - (lo : Int)) * n = ((n.toNat * (k1 + 1) : Nat) : Int) := by
      rw [show ((lo + (k1 + 1) : Nat) : Int) - (lo : Int) = ((k1 + 1 : Nat) : Int) by omega]
      rw [Int.natCast_mul, Int.toNat_of_nonneg (by omega), Int.mul_comm]
    have hs0 : 0 ≤ (((lo + (k1 + 1) : Nat) : Int) - (lo : Int)) * n := by rw [hS]; exact Int.natCast_nonneg _
    have hlen2 : (sub9 ds (lo + (k1 + 1)) (k2 + 1)).length = k2 + 1 := sub9_len (by omega)
    have hvb := valB_lt hB (sub9 ds (lo + (k1 + 1)) (k2 + 1)) fun d hd => hds d (sub9_mem hd)
    have hsz : (Builtin.Int.intBits (valB (2 ^ n.toNat) (sub9 ds (lo + (k1 + 1)) (k2 + 1))) : Int) + (((lo + (k1 + 1) : Nat) : Int) - (lo : Int)) * n ≤ 2 ^ 27 := by
      have h1 : Builtin.Int.intBits (valB (2 ^ n.toNat) (sub9 ds (lo + (k1 + 1)) (k2 + 1))) ≤ n.toNat * (k2 + 1) := by
        refine intBits_le_iff.mpr ?_
        have h5 := hvb.2
        rw [hlen2, ← Int.pow_mul] at h5
        have h6 : ((2 : Int) ^ (n.toNat * (k2 + 1))) = ((2 ^ (n.toNat * (k2 + 1)) : Nat) : Int) := by push_cast; rfl
        rw [h6] at h5
        have := hvb.1
        omega
      have h2 : n.toNat * (k1 + 1) ≤ 400 * 400 := Nat.mul_le_mul (by omega) (by omega)
      have h3 : n.toNat * (k2 + 1) ≤ 400 * 400 := Nat.mul_le_mul (by omega) (by omega)
      have h4 : (((lo + (k1 + 1) : Nat) : Int) - (lo : Int)) * n ≤ 160000 := by rw [hS]; exact Int.ofNat_le.mpr h2
      have h7 : (Builtin.Int.intBits (valB (2 ^ n.toNat) (sub9 ds (lo + (k1 + 1)) (k2 + 1))) : Int) ≤ 160000 := Int.ofNat_le.mpr (Nat.le_trans h1 h3)
      exact Int.le_trans (Int.add_le_add h7 h4) (by decide)
    have e3 : ((lo + (k1 + (k2 + 1) + 1) : Nat) : Int) = ((lo + (k1 + 1) + (k2 + 1) : Nat) : Int) := congrArg _ (by omega)
    k_steps
    refine Hold.mk ?_
    rw [e3]
    rename News g' _ _ _ => N1
    k_dflt (refine' DoesC.use (ih k2 hk2 (lo + (k1 + 1)) _ _ ?l1) ?B ?F ?X ?N ?T C1' C2' ?hk ?hd ?hu ?ret; (case B => k_asm); (case F => k_asm); (case X => k_asm); (case N => exact N1); (case T => k_asm); (case hk => rfl); (case hd => first | ktr_room | omega); (case hu => ktr_units); (case l1 => omega))
    case ret =>
      rintro r9 news9 h9 tk9 F9 N9 ⟨rfl, t9, rfl⟩
      unfold inLed2 at N9
      k_steps
      refine Hold.mk ?_
      refine lshift_int hs0 hsz ?_
      k_steps
      refine Hold.mk ?_
      clear N1
      rename News g' _ _ _ => N1
      k_dflt (refine' DoesC.use (ih k1 hk1' lo _ _ ?l1) ?B ?F ?X ?N ?T C1' C2' ?hk ?hd ?hu ?ret; (case B => k_asm); (case F => k_asm); (case X => k_asm); (case N => exact N1); (case T => k_asm); (case hk => rfl); (case hd => first | ktr_room | omega); (case hu => ktr_units); (case l1 => omega))
      case ret =>
        rintro r8 news8 h8 tk8 F8 N8 ⟨rfl, t8, rfl⟩
        unfold inLed2 at N8
        k_steps
        rename News h₀ _ _ _ => kN
        have hv : valB (2 ^ n.toNat) (sub9 ds lo (k1 + (k2 + 1) + 1)) = valB (2 ^ n.toNat) (sub9 ds (lo + (k1 + 1)) (k2 + 1)) * 2 ^ ((((lo + (k1 + 1) : Nat) : Int) - (lo : Int)) * n).toNat + valB (2 ^ n.toNat) (sub9 ds lo (k1 + 1)) := by
          rw [hS, Int.toNat_natCast, show k1 + (k2 + 1) + 1 = (k1 + 1) + (k2 + 1) by omega, sub9_two, valB_append, sub9_len (by omega), ← Int.pow_mul, Int.mul_comm (valB _ (sub9 ds (lo + (k1 + 1)) (k2 + 1))), Int.add_comm]
        exact hret _ _ _ _ (by assumption) kN ⟨rfl, _, by rw [hv]⟩
end Mine

end
-- D2iF
section
open PySem PySem.W PySem.Spec PySem.Calls PyProof.Rows
set_option Elab.async false
set_option pp.maxSteps 3000
set_option pp.deepTerms false
set_option pp.deepTerms.threshold 6
set_option maxRecDepth 100000
set_option maxHeartbeats 2000000
namespace Mine
theorem said_D2iF_0 : True := by
  k_with_none
  w_top off
  k_with "lt" => first | assumption | (refine Mine.Ar.pick (by assumption) ?_; intro hh; first | exact Mine.Ar.c1 hh | exact Mine.Ar.c2 hh | exact Mine.Ar.c3 hh | exact Mine.Ar.c4 hh | exact Mine.Ar.c5 hh | exact Mine.Ar.c6 hh | exact Mine.Ar.c7 hh | exact Mine.Ar.c8 hh | exact Mine.Ar.e2 hh | exact Mine.Ar.e3 hh | exact Mine.Ar.e4 hh | fail) | exact Mine.Ar.t1 | exact Mine.Ar.t2 | exact Mine.Ar.t3 | fail
  k_with "lt2" => first | k_extra "lt" | (refine Mine.Ar.s1 ?_; k_extra "lt") | (refine Mine.Ar.s2 ?_; k_extra "lt") | (refine Mine.Ar.s3 ?_; k_extra "lt") | fail
  k_with "omega" => with_reducible (first | assumption | decide +kernel | (refine Nat.ne_of_gt ?_; k_extra "lt2") | (refine Nat.ne_of_lt ?_; k_extra "lt2") | k_extra "lt2" | exact Mine.Ar.u1 | exact Mine.Ar.u2 | exact Mine.Ar.u3 | exact Mine.Ar.v1 | exact Mine.Ar.dp0 (by assumption) | exact Mine.Ar.dp1 (by assumption) (by decide) | exact Mine.Ar.dp2 (by assumption) (by decide) | exact Mine.Ar.ll (by assumption) (by decide) | exact Mine.Ar.l0 (by assumption) (by decide) | exact Mine.Ar.lm (by assumption) (by decide) | exact Mine.Ar.gn (by assumption) (by decide) | exact Mine.Ar.ci (by decide) | exact Mine.Ar.cz | exact Mine.Ar.li (by assumption) (by decide) | exact Mine.Ar.lj (by assumption) (by decide) | exact Mine.Ar.lk (by assumption) (by decide) | exact Mine.Ar.gi (by assumption) (by decide) | exact Mine.Ar.gj (by assumption) (by decide) | exact Mine.Ar.gk (by assumption) (by decide) | exact Mine.Ar.gl (by assumption) (by decide) | exact Mine.Ar.n0 (by assumption) | exact Mine.Ar.n1 (by assumption) (by decide) | exact Mine.Ar.m0 (by assumption) | exact Mine.Ar.m1 (by assumption) (by decide) | exact And.left (by assumption) | exact And.right (by assumption) | lia | fail)
  k_with "mem" => with_reducible (first | exact List.mem_cons_self | exact Mine.Ar.g1 | exact Mine.Ar.g2 | exact Mine.Ar.g3 | exact Mine.Ar.g4 | exact Mine.Ar.g5 | exact Mine.Ar.g6 | exact Mine.Ar.g7 | exact Mine.Ar.g8 | exact Mine.Ar.g9 | assumption | (refine List.mem_cons_of_mem _ ?_; k_extra "mem") | (refine List.mem_append_right _ ?_; k_extra "mem") | (refine List.mem_append_left _ ?_; k_extra "mem") | fail)
  k_with "sub" => with_reducible (first | exact Mine.Ar.Sub.nil | exact Mine.Ar.Sub.refl | exact Mine.Ar.Sub.t1 Mine.Ar.Sub.refl | exact Mine.Ar.Sub.t2 Mine.Ar.Sub.refl | exact Mine.Ar.Sub.t3 Mine.Ar.Sub.refl | exact Mine.Ar.Sub.t4 Mine.Ar.Sub.refl | exact Mine.Ar.Sub.t5 Mine.Ar.Sub.refl | exact Mine.Ar.Sub.t6 Mine.Ar.Sub.refl | exact Mine.Ar.Sub.t7 Mine.Ar.Sub.refl | exact Mine.Ar.Sub.t8 Mine.Ar.Sub.refl | exact Mine.Ar.Sub.t9 Mine.Ar.Sub.refl | (refine Mine.Ar.Sub.cons ?_ ?_; k_extra "mem"; k_extra "sub") | (refine Mine.Ar.Sub.app ?_ ?_; k_extra "sub"; k_extra "sub") | (refine Mine.Ar.Sub.t1 ?_; k_extra "sub") | (refine Mine.Ar.Sub.inr ?_; k_extra "sub") | (refine Mine.Ar.Sub.inl ?_; k_extra "sub") | fail)
  k_with "k_all" => first | assumption | exact all_ne_of (by assumption) (by omega) | fail
  k_with "execs cons" => ((try first | (refine' canon ?H ?F ?e ?_; (case H => assumption); (case F => assumption); (case e => exact rfl); intro _) | (refine' canonD ?H ?F ?e ?_; (case H => assumption); (case F => assumption); (case e => exact rfl); intro _ _)); (try k_fold); refine wpAny_execs_cons ?_)
  k_with "eval Call" => k_fold
  k_with "call ref" => ((with_reducible show wpAny _ _ (call (Value.ref _) _) _ _ _); refine hold_out ?_)
  trivial

theorem inner2_use {w : World} {p : Program} {loose : List Str} {mean : ExcName → Option Value} {mg mb : Str → Option Value}
    {dp un : Nat} {gd : Option (List Code)} {cn : Str} {cs : Scope} {a : Addr} {ccd : Value} {cl : List (Str × Addr)} {outer : List Env} {A₀ : Around} {base h₀ : Heap} {L : Addr} {m : Str → Option Value} {s : Shared} {Q E : Value → Shared → Prop}
    {ps : Arguments} {bd : List Stmt} {sc : Scope} (hdef : innerDef (Mine.hd.heap_39 w.params) 57 = some (ps, bd, sc)) {qual : Str} {f c' cN cF cA D : Addr} {dc pm ct : Value} {oc oN oF oA : Obj} {vc : Array Value} {tq tn : Tok} {n : Int} {rest : Led}
    (k : Nat) (lo : Nat) {tl th : Tok} {vs : List Value} {ds : List Int} {kk : Nat}
    (B : Below A₀ base outer h₀) (F : Fr h₀ L s.heap m) (X : (Mine.hd.heap_39 w.params).In h₀)
    (N : News h₀ L s.heap ((f, fnMade (Str.ofString "inner") qual ps bd sc [(Str.ofString "n", cN), (Str.ofString "inner", cF), (Str.ofString "digits", cA)] dc pm c' ct) :: (c', oc) :: (cF, oF) :: (cN, oN) :: (cA, oA) :: (D, listOf vs.toArray kk) :: rest))
    (T : Top p loose mean mg mb h₀) (C1 : CodeHd h₀ 49 45) (C2 : CodeHd h₀ 56 52) (hk : cs.kind = .function) (hd : dp + (k + 2) < recursionLimit) (hu : un + (10 * (k + 2)) < cLine)
    (hcd : oc.data = .fields vc) (hcv : vc[1]? = some (.str qual tq))
    (hNd : oN.data = .cell (some (.int n tn))) (hFd : oF.data = .cell (some (.ref f))) (hAd : oA.data = .cell (some (.ref D))) (hn : 1 ≤ n) (hn4 : n ≤ 400)
    (hI : IntsAre vs ds) (hd4 : ds.length ≤ 400) (hds : ∀ d ∈ ds, 0 ≤ d ∧ d < 2 ^ n.toNat) (hl : lo + (k + 1) ≤ ds.length)
    (ret : ∀ t h' tk', Fr h₀ L h' m → News h₀ L h' ((f, fnMade (Str.ofString "inner") qual ps bd sc [(Str.ofString "n", cN), (Str.ofString "inner", cF), (Str.ofString "digits", cA)] dc pm c' ct) :: (c', oc) :: (cF, oF) :: (cN, oN) :: (cA, oA) :: (D, listOf vs.toArray kk) :: rest) →
      Q (.int (valB (2 ^ n.toNat) (sub9 ds lo (k + 1))) t) { s with heap := h', toks := tk' }) :
    wpAny (model PySem.Challenge.rw_st0036_01.row.prog w) (ktrTop dp un gd cn cs L a ccd cl outer) (call (.ref f) [.int (lo : Int) tl, .int ((lo + (k + 1) : Nat) : Int) th]) Q E s :=
  DoesC.use (inner2 w ps bd sc hdef qual f c' cN cF cA D dc pm ct oc oN oF oA vc tq tn n rest hcd hcv hNd hFd hAd hn hn4 vs ds kk hI hd4 hds k lo tl th hl) B F X N T C1 C2 hk hd hu
    fun r news' h' tk' F' N' ⟨e, t, e2⟩ => by subst e; subst e2; exact ret t h' tk' F' N'
def D2iR (pre : Led) (D : Addr) (ds : List Int) (vs : List Value) (kk : Nat) (n : Int) (r : Value) (news' : Led) : Prop :=
  ∃ (c0 : Addr) (oc0 : Obj) (vc0 : Array Value) (tq0 t : Tok), r = .int (valB (2 ^ n.toNat) ds) t ∧ news' = (D, listOf vs.toArray kk) :: (52, tabObj #[rawInt ((91 : Nat) : Int), rawInt ((4 : Nat) : Int), .ref c0]) :: (c0, oc0) :: pre ∧
    oc0.data = .fields vc0 ∧ vc0[1]? = some (.str (Str.ofString "_digits2int.<locals>.inner") tq0) ∧ c0 ≠ 45 ∧ c0 ≠ 52 ∧ D ≠ c0
theorem sub9_all (ds : List Int) : sub9 ds 0 ds.length = ds := by
  unfold sub9
  rw [List.drop_zero, List.take_length]
theorem reord3 {h₀ h : Heap} {L f c' D cF cA cN a52 : Addr} {fo oc oD oF oA oN o52 : Obj} {rest : Led} (N : News h₀ L h ((f, fo) :: (cF, oF) :: (cN, oN) :: (cA, oA) :: (D, oD) :: (a52, o52) :: (c', oc) :: rest)) :
    News h₀ L h ((f, fo) :: (c', oc) :: (cF, oF) :: (cN, oN) :: (cA, oA) :: (D, oD) :: (a52, o52) :: rest) := by
  refine kst_newsOf N fun p hp => ?_
  exact Mine.Ar.Sub.use (by k_extra "sub") hp
theorem d2i_miss (w : World) (pre : Led) (D : Addr) (vs : List Value) (ds : List Int) (kk : Nat) (n : Int) (tn : Tok) (hI : IntsAre vs ds) (hl : 1 ≤ ds.length) (hl3 : ds.length ≤ 300) (hn : 1 ≤ n) (hn4 : n ≤ 400) (hds : ∀ d ∈ ds, 0 ≤ d ∧ d < 2 ^ n.toNat) (hp52 : ∀ p ∈ pre, p.1 ≠ 52) (hD : 52 < D) (hpD : ∀ p ∈ pre, p.1 < D) :
    DoesC w 310 3200 57 ((D, listOf vs.toArray kk) :: (52, tabObj #[]) :: pre) [.ref D, .int n tn] (D2iR pre D ds vs kk n) := by
  unfold DoesC
  k_fill
  intro p loose mean mg mb dp un gd cn cs a ccd cl outer A₀ base h₀ L m s Q E B F X N T C1 C2 hk hd hu hret
  have HS : StB s := ⟨⟩
  refine wpAny_call ?_
  k_dflt (refine' code_defC ?k1 ?k2 ?k3 ?k4 ?k5 ?kA ?kF ?kK ?k6 ?k7 ?k8 ?k9 ?kB ?kD ?_ ?c2 ?c3 ?c4; (case kA => exact rfl); (case kF => exact rfl); (case kK => assumption); (case k1 => k_asm); (case k2 => k_asm); (case k3 => k_asm); (case k4 => k_asm); (case k5 => k_asm); (case k6 => k_is); (case k7 => k_is); (case k8 => ktr_room); (case k9 => exact BindsTo.of_eq rfl); (case kB => exact rfl); (case kD => decide +kernel); (case c2 => exact rfl); (case c3 => exact rfl); (case c4 => exact rfl); k_whole; intro g' L' h' tk' cells' FG' F' N' Y' B' X' T' l1; k_cells Y'; (try simp only [List.cons_append, List.nil_append] at N'); (try dsimp only); (try k_fold))
  refine wpAny_noRaise ?_
  have hvl := hI.length
  have hMk := kstMark
  have hne1 : D ≠ 52 := Nat.ne_of_gt hD
  have hne2 : (52 : Addr) ≠ D := Nat.ne_of_lt hD
  have hpD2 : ∀ p ∈ pre, p.1 ≠ D := fun p hp => Nat.ne_of_lt (hpD p hp)
  have hlp : ∀ p ∈ pre, p.1 < L' := fun p hp => l1 p (.tail _ (.tail _ hp))
  k_lt l1
  have C1' := C1.keeps FG'.keep
  have C2' := C2.keeps FG'.keep
  k_steps
  refine Hold.mk ?_
  rename News g' _ _ _ => N1
  rename (_ = Data.cell (bindC _ _ _ _)) => dA
  revert dA
  rename (_ = Data.cell (bindC _ _ _ _)) => dN
  intro dA
  rename_i f9 c9 oc9 vc9 tq9 ct9 dc9 h7 tk7 d1 d2 lc lf h6 oF F6 dF _ _ _
  obtain ⟨k, hk9⟩ : ∃ k, ds.length = 0 + (k + 1) := ⟨ds.length - 1, by omega⟩
  have hkI : ((ds.length : Nat) : Int) = ((0 + (k + 1) : Nat) : Int) := by rw [hk9]
  rw [hkI]
  k_dflt (refine' inner2_use rfl k 0 ?B ?F ?X N1 ?T C1' C2' rfl ?hd ?hu d1 d2 dN dF dA hn hn4 hI ?d4 hds ?hl ?ret; (case B => k_asm); (case F => k_asm); (case X => k_asm); (case T => k_asm); (case hd => first | ktr_room | omega); (case hu => ktr_units); (case d4 => omega); (case hl => omega))
  case ret =>
    intro t10 h10 tk10 F10 N10
    k_steps
    rename News h₀ _ _ _ => kN
    refine hret _ _ _ _ (by assumption) (kst_newsOf kN (l' := (D, listOf vs.toArray kk) :: (52, tabObj #[rawInt ((91 : Nat) : Int), rawInt ((4 : Nat) : Int), .ref c9]) :: (c9, oc9) :: pre) fun p hp => ?_) ⟨c9, oc9, vc9, tq9, t10, ?_, rfl, d1, ?_, ?_, ?_, ?_⟩
    · rcases List.mem_cons.mp hp with rfl | hp
      · exact .tail _ (.tail _ (.tail _ (.tail _ (.tail _ (.head _)))))
      rcases List.mem_cons.mp hp with rfl | hp
      · exact .tail _ (.tail _ (.tail _ (.tail _ (.tail _ (.tail _ (.head _))))))
      rcases List.mem_cons.mp hp with rfl | hp
      · exact .tail _ (.head _)
      exact .tail _ (.tail _ (.tail _ (.tail _ (.tail _ (.tail _ (.tail _ hp))))))
    · rw [show k + 1 = ds.length by omega, sub9_all]
    · first | exact d2 | (rw [d2]; rfl) | (rw [d2]; kernel_rfl)
    · exact Nat.ne_of_gt (Nat.lt_trans (by decide) lc.2.2.2.2.1)
    · exact Nat.ne_of_gt lc.2.2.2.2.1
    · exact Nat.ne_of_lt lc.2.2.2.1
theorem d2i_hit (w : World) (pre : Led) (D : Addr) (vs : List Value) (ds : List Int) (kk : Nat) (n : Int) (tn : Tok) (hI : IntsAre vs ds) (hl : 1 ≤ ds.length) (hl3 : ds.length ≤ 300) (hn : 1 ≤ n) (hn4 : n ≤ 400) (hds : ∀ d ∈ ds, 0 ≤ d ∧ d < 2 ^ n.toNat) (c0 : Addr) (oc0 : Obj) (vc0 : Array Value) (tq0 : Tok) (hcd0 : oc0.data = .fields vc0) (hcv0 : vc0[1]? = some (.str (Str.ofString "_digits2int.<locals>.inner") tq0)) (h045 : c0 ≠ 45) (h052 : c0 ≠ 52) (hDc : D ≠ c0) (hp52 : ∀ p ∈ pre, p.1 ≠ 52) (hD : 52 < D) (hpD : ∀ p ∈ pre, p.1 < D) :
    DoesC w 310 3200 57 ((D, listOf vs.toArray kk) :: (52, tabObj #[rawInt ((91 : Nat) : Int), rawInt ((4 : Nat) : Int), .ref c0]) :: (c0, oc0) :: pre) [.ref D, .int n tn] (D2iR pre D ds vs kk n) := by
  unfold DoesC
  k_fill
  intro p loose mean mg mb dp un gd cn cs a ccd cl outer A₀ base h₀ L m s Q E B F X N T C1 C2 hk hd hu hret
  have HS : StB s := ⟨⟩
  refine wpAny_call ?_
  k_dflt (refine' code_defC ?k1 ?k2 ?k3 ?k4 ?k5 ?kA ?kF ?kK ?k6 ?k7 ?k8 ?k9 ?kB ?kD ?_ ?c2 ?c3 ?c4; (case kA => exact rfl); (case kF => exact rfl); (case kK => assumption); (case k1 => k_asm); (case k2 => k_asm); (case k3 => k_asm); (case k4 => k_asm); (case k5 => k_asm); (case k6 => k_is); (case k7 => k_is); (case k8 => ktr_room); (case k9 => exact BindsTo.of_eq rfl); (case kB => exact rfl); (case kD => decide +kernel); (case c2 => exact rfl); (case c3 => exact rfl); (case c4 => exact rfl); k_whole; intro g' L' h' tk' cells' FG' F' N' Y' B' X' T' l1; k_cells Y'; (try simp only [List.cons_append, List.nil_append] at N'); (try dsimp only); (try k_fold))
  refine wpAny_noRaise ?_
  have hvl := hI.length
  have hMk := kstMark
  have hne1 : D ≠ 52 := Nat.ne_of_gt hD
  have hne2 : (52 : Addr) ≠ D := Nat.ne_of_lt hD
  have hpD2 : ∀ p ∈ pre, p.1 ≠ D := fun p hp => Nat.ne_of_lt (hpD p hp)
  have hlp : ∀ p ∈ pre, p.1 < L' := fun p hp => l1 p (.tail _ (.tail _ (.tail _ hp)))
  k_lt l1
  have C1' := C1.keeps FG'.keep
  have C2' := C2.keeps FG'.keep
  k_steps
  refine Hold.mk ?_
  rename News g' _ _ _ => N1
  have N2 := reord3 N1
  rename (_ = Data.cell (bindC _ _ _ _)) => dA
  revert dA
  rename (_ = Data.cell (bindC _ _ _ _)) => dN
  intro dA
  rename_i f9 ct9 dc9 h7 tk7 lf h6 oF F6 dF _ _ _
  obtain ⟨k, hk9⟩ : ∃ k, ds.length = 0 + (k + 1) := ⟨ds.length - 1, by omega⟩
  have hkI : ((ds.length : Nat) : Int) = ((0 + (k + 1) : Nat) : Int) := by rw [hk9]
  rw [hkI]
  k_dflt (refine' inner2_use rfl k 0 ?B ?F ?X N2 ?T C1' C2' rfl ?hd ?hu hcd0 ?d2 dN dF dA hn hn4 hI ?d4 hds ?hl ?ret; (case B => k_asm); (case F => k_asm); (case X => k_asm); (case T => k_asm); (case hd => first | ktr_room | omega); (case hu => ktr_units); (case d4 => omega); (case hl => omega); (case d2 => first | exact hcv0 | (rw [hcv0]; rfl) | (rw [hcv0]; kernel_rfl)))
  case ret =>
    intro t10 h10 tk10 F10 N10
    k_steps
    rename News h₀ _ _ _ => kN
    refine hret _ _ _ _ (by assumption) (kst_newsOf kN (l' := (D, listOf vs.toArray kk) :: (52, tabObj #[rawInt ((91 : Nat) : Int), rawInt ((4 : Nat) : Int), .ref c0]) :: (c0, oc0) :: pre) fun p hp => ?_) ⟨c0, oc0, vc0, tq0, t10, ?_, rfl, hcd0, ?_, ?_, ?_, ?_⟩
    · rcases List.mem_cons.mp hp with rfl | hp
      · exact .tail _ (.tail _ (.tail _ (.tail _ (.tail _ (.head _)))))
      rcases List.mem_cons.mp hp with rfl | hp
      · exact .tail _ (.tail _ (.tail _ (.tail _ (.tail _ (.tail _ (.head _))))))
      rcases List.mem_cons.mp hp with rfl | hp
      · exact .tail _ (.head _)
      exact .tail _ (.tail _ (.tail _ (.tail _ (.tail _ (.tail _ (.tail _ hp))))))
    · rw [show k + 1 = ds.length by omega, sub9_all]
    · exact hcv0
    · exact h045
    · exact h052
    · exact hDc
end Mine

end
-- DivF
section
open PySem PySem.W PySem.Spec PySem.Calls PyProof.Rows
set_option Elab.async false
set_option pp.maxSteps 3000
set_option pp.deepTerms false
set_option pp.deepTerms.threshold 6
set_option maxRecDepth 100000
set_option maxHeartbeats 2000000
namespace Mine
theorem said_DivF_0 : True := by
  k_with_none
  w_top off
  k_with "lt" => first | assumption | (refine Mine.Ar.pick (by assumption) ?_; intro hh; first | exact Mine.Ar.c1 hh | exact Mine.Ar.c2 hh | exact Mine.Ar.c3 hh | exact Mine.Ar.c4 hh | exact Mine.Ar.c5 hh | exact Mine.Ar.c6 hh | exact Mine.Ar.c7 hh | exact Mine.Ar.c8 hh | exact Mine.Ar.e2 hh | exact Mine.Ar.e3 hh | exact Mine.Ar.e4 hh | fail) | exact Mine.Ar.t1 | exact Mine.Ar.t2 | exact Mine.Ar.t3 | fail
  k_with "lt2" => first | k_extra "lt" | (refine Mine.Ar.s1 ?_; k_extra "lt") | (refine Mine.Ar.s2 ?_; k_extra "lt") | (refine Mine.Ar.s3 ?_; k_extra "lt") | fail
  k_with "omega" => with_reducible (first | assumption | decide +kernel | (refine Nat.ne_of_gt ?_; k_extra "lt2") | (refine Nat.ne_of_lt ?_; k_extra "lt2") | k_extra "lt2" | exact Mine.Ar.u1 | exact Mine.Ar.u2 | exact Mine.Ar.u3 | exact Mine.Ar.v1 | exact Mine.Ar.dp0 (by assumption) | exact Mine.Ar.dp1 (by assumption) (by decide) | exact Mine.Ar.dp2 (by assumption) (by decide) | exact Mine.Ar.ll (by assumption) (by decide) | exact Mine.Ar.l0 (by assumption) (by decide) | exact Mine.Ar.lm (by assumption) (by decide) | exact Mine.Ar.gn (by assumption) (by decide) | exact Mine.Ar.ci (by decide) | exact Mine.Ar.cz | exact Mine.Ar.li (by assumption) (by decide) | exact Mine.Ar.lj (by assumption) (by decide) | exact Mine.Ar.lk (by assumption) (by decide) | exact Mine.Ar.gi (by assumption) (by decide) | exact Mine.Ar.gj (by assumption) (by decide) | exact Mine.Ar.gk (by assumption) (by decide) | exact Mine.Ar.gl (by assumption) (by decide) | exact Mine.Ar.n0 (by assumption) | exact Mine.Ar.n1 (by assumption) (by decide) | exact Mine.Ar.m0 (by assumption) | exact Mine.Ar.m1 (by assumption) (by decide) | exact And.left (by assumption) | exact And.right (by assumption) | lia | fail)
  k_with "execs cons" => ((try first | (refine' canon ?H ?F ?e ?_; (case H => assumption); (case F => assumption); (case e => exact rfl); intro _) | (refine' canonD ?H ?F ?e ?_; (case H => assumption); (case F => assumption); (case e => exact rfl); intro _ _)); (try k_fold); refine wpAny_execs_cons ?_)
  k_with "eval Call" => k_fold
  k_with "call builtin:divmod" => refine hold_out ?_
  trivial

theorem div_does (w : World) (news : Led) (x b n : Int) (tx tb tn : Tok) (hx : 0 ≤ x) (hxb : Builtin.Int.intBits x ≤ 900) (hb : 0 < b) (hbb : Builtin.Int.intBits b ≤ 900) (hn : 0 ≤ n) :
    Does w 3 40 36 news [.int x tx, .int b tb, .int n tn] (fun r news' => ∃ D t1 t2, r = .ref D ∧ news' = (D, { cls := .type "tuple", data := .seq #[.int (x / b) t1, .int (x % b) t2] }) :: news ∧ ∀ p ∈ news, p.1 < D) := by
  unfold Does
  k_fill
  intro p loose mean mg mb dp un gd cn cs a ccd cl outer A₀ base h₀ L m s Q E B F X N T hk hd hu hret
  have HS : StB s := ⟨⟩
  refine wpAny_call ?_
  k_dflt (refine' code_def ?k1 ?k2 ?k3 ?k4 ?k5 ?kA ?kF ?kK ?k6 ?k7 ?k8 ?k9 ?kB ?_ ?c2 ?c3 ?c4 ?c5; (case kA => exact rfl); (case kF => exact rfl); (case kK => assumption); (case k1 => k_asm); (case k2 => k_asm); (case k3 => k_asm); (case k4 => k_asm); (case k5 => k_asm); (case k6 => k_is); (case k7 => k_is); (case k8 => ktr_room); (case k9 => exact BindsTo.of_eq rfl); (case c5 => decide); (case kB => exact locs rfl); (case c2 => exact rfl); (case c3 => exact rfl); (case c4 => exact rfl); k_whole; intro g' L' h' FG' F' N' B' X' T'; (try dsimp only); (try k_fold))
  refine wpAny_noRaise ?_
  have hz : b ≠ 0 := by omega
  have hle : (Builtin.Int.intBits x : Int) - n ≤ 4000 := by omega
  k_steps
  refine Hold.mk ?_
  rename News g' _ _ _ => N1
  rename Fr g' _ _ _ => F1
  have hlog : b.natAbs.log2 < 9000 := by
    have h1 := intBits_le_iff.mp hbb
    have h2 : b.natAbs ≠ 0 := by omega
    have := (Nat.log2_lt h2).mpr h1
    omega
  have hltD := fun p (hp : p ∈ news) => Heap.lt_size (N1 p hp).1
  have ef : x.fdiv b = x / b := Int.fdiv_eq_ediv_of_nonneg _ (Int.le_of_lt hb)
  have em : x.fmod b = x % b := Int.fmod_eq_emod_of_nonneg _ (Int.le_of_lt hb)
  refine divmod_N F1 N1 hz ?_ (hp := Or.inl (PyProof.noPylong_of_log2 hlog))
  rw [ef, em]
  intro h9 F9 N9
  k_steps
  rename News h₀ _ _ _ => kN
  exact hret _ _ _ _ (by assumption) kN ⟨_, _, _, rfl, rfl, hltD⟩
end Mine

end
-- DpLib
section
open PySem PySem.W PySem.Spec PySem.Calls PyProof.Rows
set_option Elab.async false
namespace Mine
theorem said_DpLib_0 : True := by
  k_with_none
  w_top off
  k_with "lt" => first | assumption | (refine Mine.Ar.pick (by assumption) ?_; intro hh; first | exact Mine.Ar.c1 hh | exact Mine.Ar.c2 hh | exact Mine.Ar.c3 hh | exact Mine.Ar.c4 hh | exact Mine.Ar.c5 hh | exact Mine.Ar.c6 hh | exact Mine.Ar.c7 hh | exact Mine.Ar.c8 hh | exact Mine.Ar.e2 hh | exact Mine.Ar.e3 hh | exact Mine.Ar.e4 hh | fail) | exact Mine.Ar.t1 | exact Mine.Ar.t2 | exact Mine.Ar.t3 | fail
  k_with "lt2" => first | k_extra "lt" | (refine Mine.Ar.s1 ?_; k_extra "lt") | (refine Mine.Ar.s2 ?_; k_extra "lt") | (refine Mine.Ar.s3 ?_; k_extra "lt") | fail
  k_with "omega" => with_reducible (first | assumption | decide +kernel | (refine Nat.ne_of_gt ?_; k_extra "lt2") | (refine Nat.ne_of_lt ?_; k_extra "lt2") | k_extra "lt2" | exact Mine.Ar.u1 | exact Mine.Ar.u2 | exact Mine.Ar.u3 | exact Mine.Ar.v1 | exact Mine.Ar.dp0 (by assumption) | exact Mine.Ar.dp1 (by assumption) (by decide) | exact Mine.Ar.dp2 (by assumption) (by decide) | exact Mine.Ar.ll (by assumption) (by decide) | exact Mine.Ar.l0 (by assumption) (by decide) | exact Mine.Ar.lm (by assumption) (by decide) | exact Mine.Ar.gn (by assumption) (by decide) | exact Mine.Ar.ci (by decide) | exact Mine.Ar.cz | exact Mine.Ar.li (by assumption) (by decide) | exact Mine.Ar.lj (by assumption) (by decide) | exact Mine.Ar.lk (by assumption) (by decide) | exact Mine.Ar.gi (by assumption) (by decide) | exact Mine.Ar.gj (by assumption) (by decide) | exact Mine.Ar.gk (by assumption) (by decide) | exact Mine.Ar.gl (by assumption) (by decide) | exact Mine.Ar.n0 (by assumption) | exact Mine.Ar.n1 (by assumption) (by decide) | exact Mine.Ar.m0 (by assumption) | exact Mine.Ar.m1 (by assumption) (by decide) | exact And.left (by assumption) | exact And.right (by assumption) | lia | fail)
  trivial
/-- the state of the long division: digits done (high first), quotient digits (high first), rest. -/
structure Dp (B b : Int) (dn qs : List Int) (r : Int) : Prop where
  r0 : 0 ≤ r
  rb : r < b
  q : ∀ x ∈ qs, 0 ≤ x ∧ x < B
  val : valB B qs.reverse * b + r = valB B dn.reverse
  len : qs.length = dn.length
theorem Dp.nil {B b : Int} (hb : 0 < b) : Dp B b [] [] 0 := ⟨Int.le_refl _, hb, (fun _ h => nomatch h), by simp [valB], rfl⟩
theorem Dp.next {B b : Int} {dn qs : List Int} {r d : Int} (hB : 0 < B) (hb : 0 < b) (h : Dp B b dn qs r) (h0 : 0 ≤ d) (h1 : d < B) :
    Dp B b (dn ++ [d]) (qs ++ [(r * B + d) / b]) ((r * B + d) % b) := by
  have hx0 : 0 ≤ r * B + d := Int.add_nonneg (Int.mul_nonneg h.r0 (Int.le_of_lt hB)) h0
  have hxl : r * B + d < B * b := by
    have h2 : (r + 1) * B ≤ b * B := Int.mul_le_mul_of_nonneg_right h.rb (Int.le_of_lt hB)
    rw [Int.add_mul, Int.one_mul] at h2
    rw [Int.mul_comm B b]
    omega
  refine ⟨Int.emod_nonneg _ (Int.ne_of_gt hb), Int.emod_lt_of_pos _ hb, fun x hx => ?_, ?_, by rw [List.length_append, List.length_append, h.len]; rfl⟩
  · rcases List.mem_append.mp hx with hx | hx
    · exact h.q x hx
    · rw [List.mem_singleton.mp hx]
      exact ⟨Int.ediv_nonneg hx0 (Int.le_of_lt hb), (Int.ediv_lt_iff_lt_mul hb).mpr hxl⟩
  · rw [List.reverse_append, List.reverse_append]
    show ((r * B + d) / b + B * valB B qs.reverse) * b + (r * B + d) % b = d + B * valB B dn.reverse
    have h2 := Int.emod_add_mul_ediv (r * B + d) b
    have h3 := h.val
    rw [← h3, Int.add_mul, Int.mul_add B, Int.mul_assoc B, Int.mul_comm ((r * B + d) / b) b, Int.mul_comm B r]
    omega
end Mine

end
-- TabF
section
open PySem PySem.W PySem.Spec PySem.Calls PyProof.Rows
set_option Elab.async false
set_option maxRecDepth 100000
namespace Mine
theorem said_TabF_0 : True := by
  k_with_none
  w_top off
  k_with "lt" => first | assumption | (refine Mine.Ar.pick (by assumption) ?_; intro hh; first | exact Mine.Ar.c1 hh | exact Mine.Ar.c2 hh | exact Mine.Ar.c3 hh | exact Mine.Ar.c4 hh | exact Mine.Ar.c5 hh | exact Mine.Ar.c6 hh | exact Mine.Ar.c7 hh | exact Mine.Ar.c8 hh | exact Mine.Ar.e2 hh | exact Mine.Ar.e3 hh | exact Mine.Ar.e4 hh | fail) | exact Mine.Ar.t1 | exact Mine.Ar.t2 | exact Mine.Ar.t3 | fail
  k_with "lt2" => first | k_extra "lt" | (refine Mine.Ar.s1 ?_; k_extra "lt") | (refine Mine.Ar.s2 ?_; k_extra "lt") | (refine Mine.Ar.s3 ?_; k_extra "lt") | fail
  k_with "omega" => with_reducible (first | assumption | decide +kernel | (refine Nat.ne_of_gt ?_; k_extra "lt2") | (refine Nat.ne_of_lt ?_; k_extra "lt2") | k_extra "lt2" | exact Mine.Ar.u1 | exact Mine.Ar.u2 | exact Mine.Ar.u3 | exact Mine.Ar.v1 | exact Mine.Ar.dp0 (by assumption) | exact Mine.Ar.dp1 (by assumption) (by decide) | exact Mine.Ar.dp2 (by assumption) (by decide) | exact Mine.Ar.ll (by assumption) (by decide) | exact Mine.Ar.l0 (by assumption) (by decide) | exact Mine.Ar.lm (by assumption) (by decide) | exact Mine.Ar.gn (by assumption) (by decide) | exact Mine.Ar.ci (by decide) | exact Mine.Ar.cz | exact Mine.Ar.li (by assumption) (by decide) | exact Mine.Ar.lj (by assumption) (by decide) | exact Mine.Ar.lk (by assumption) (by decide) | exact Mine.Ar.gi (by assumption) (by decide) | exact Mine.Ar.gj (by assumption) (by decide) | exact Mine.Ar.gk (by assumption) (by decide) | exact Mine.Ar.gl (by assumption) (by decide) | exact Mine.Ar.n0 (by assumption) | exact Mine.Ar.n1 (by assumption) (by decide) | exact Mine.Ar.m0 (by assumption) | exact Mine.Ar.m1 (by assumption) (by decide) | exact And.left (by assumption) | exact And.right (by assumption) | lia | fail)
  trivial
/-- the code table of a def with an inner def: empty, or with the inner's code -/
def TabE (line : Nat) (qual : Str) (t : Obj) (pre : Led) : Prop :=
  t = tabObj #[] ∨ ∃ (c0 : Addr) (oc0 : Obj) (vc0 : Array Value) (tq0 : Tok), t = tabObj #[rawInt (line : Int), rawInt ((4 : Nat) : Int), .ref c0] ∧ (c0, oc0) ∈ pre ∧ oc0.data = .fields vc0 ∧ vc0[1]? = some (.str qual tq0) ∧ c0 ≠ 45 ∧ c0 ≠ 52
def Tab45 (t : Obj) (pre : Led) : Prop := TabE 76 (Str.ofString "_int2digits.<locals>.inner") t pre
def Tab52 (t : Obj) (pre : Led) : Prop := TabE 91 (Str.ofString "_digits2int.<locals>.inner") t pre
theorem TabE.mono {line : Nat} {qual : Str} {t : Obj} {pre pre' : Led} (h : TabE line qual t pre) (hs : ∀ p ∈ pre, p ∈ pre') : TabE line qual t pre' := by
  rcases h with h | ⟨c0, oc0, vc0, tq0, h1, h2, h3⟩
  · exact .inl h
  · exact .inr ⟨c0, oc0, vc0, tq0, h1, hs _ h2, h3⟩
/-- the table filled with the code object c0 -/
def TabIn (line : Nat) (qual : Str) (t : Obj) (c0 : Addr) (oc0 : Obj) : Prop :=
  ∃ (vc0 : Array Value) (tq0 : Tok), t = tabObj #[rawInt (line : Int), rawInt ((4 : Nat) : Int), .ref c0] ∧ oc0.data = .fields vc0 ∧ vc0[1]? = some (.str qual tq0) ∧ c0 ≠ 45 ∧ c0 ≠ 52
def In45 (t : Obj) (c0 : Addr) (oc0 : Obj) : Prop := TabIn 76 (Str.ofString "_int2digits.<locals>.inner") t c0 oc0
def In52 (t : Obj) (c0 : Addr) (oc0 : Obj) : Prop := TabIn 91 (Str.ofString "_digits2int.<locals>.inner") t c0 oc0
theorem TabIn.toE {line : Nat} {qual : Str} {t : Obj} {c0 : Addr} {oc0 : Obj} {pre : Led} (h : TabIn line qual t c0 oc0) (hp : (c0, oc0) ∈ pre) : TabE line qual t pre := by
  obtain ⟨vc0, tq0, h1, h2⟩ := h
  exact .inr ⟨c0, oc0, vc0, tq0, h1, hp, h2⟩
theorem TabIn.neIter {line : Nat} {qual : Str} {t : Obj} {c0 I l : Addr} {oc0 oI : Obj} {j : Int} {h₀ h : Heap} {L : Addr} {news : Led} (h9 : TabIn line qual t c0 oc0) (N : News h₀ L h news) (hc : (c0, oc0) ∈ news) (hI : (I, oI) ∈ news) (hd : oI.data = .fields #[.ref l, .int j 0]) : c0 ≠ I := by
  rintro rfl
  obtain ⟨vc0, tq0, _, h2, h3, _⟩ := h9
  have e := (N _ hc).1.symm.trans (N _ hI).1
  injection e with e
  dsimp only at e
  subst e
  rw [hd] at h2
  injection h2 with h2
  subst h2
  simp at h3
theorem DoesC.sub {w : World} {D U : Nat} {f : Addr} {news news2 : Led} {vs : List Value} {R : Value → Led → Prop} (h : DoesC w D U f news vs R) (hs : ∀ p ∈ news, p ∈ news2) : DoesC w D U f news2 vs R := by
  intro p loose mean mg mb dp un gd cn cs a ccd cl outer A₀ base h₀ L m s Q E B F X N T C1 C2 hk hd hu hret
  exact h p loose mean mg mb dp un gd cn cs a ccd cl outer A₀ base h₀ L m s Q E B F X (fun p hp => N p (hs p hp)) T C1 C2 hk hd hu hret
theorem DoesC.mono {w : World} {D U : Nat} {f : Addr} {news : Led} {vs : List Value} {R R' : Value → Led → Prop} (h : DoesC w D U f news vs R) (hs : ∀ r n, R r n → R' r n) : DoesC w D U f news vs R' := by
  intro p loose mean mg mb dp un gd cn cs a ccd cl outer A₀ base h₀ L m s Q E B F X N T C1 C2 hk hd hu hret
  exact h p loose mean mg mb dp un gd cn cs a ccd cl outer A₀ base h₀ L m s Q E B F X N T C1 C2 hk hd hu (fun r n h' tk' F' N' hr => hret r n h' tk' F' N' (hs r n hr))
def I2dA (pre : Led) (t52 : Obj) (aa n : Int) (r : Value) (news' : Led) : Prop :=
  ∃ (c0 D : Addr) (oc0 : Obj) (t45 : Obj) (vs : List Value) (ds : List Int) (kk : Nat), r = .ref D ∧ news' = (D, listOf vs.toArray kk) :: (52, t52) :: (45, t45) :: (c0, oc0) :: pre ∧ In45 t45 c0 oc0 ∧
    c0 ≠ 45 ∧ c0 ≠ 52 ∧ D ≠ c0 ∧ 52 < D ∧ (∀ p ∈ pre, p.1 < D) ∧ IntsAre vs ds ∧ valB (2 ^ n.toNat) ds = aa ∧ (∀ d ∈ ds, 0 ≤ d ∧ d < 2 ^ n.toNat) ∧ ds.length ≤ 300
theorem i2d_any (w : World) (pre : Led) (t52 t45 : Obj) (aa n : Int) (ta tn : Tok) (ha : 0 < aa) (hn : 1 ≤ n) (hb : Builtin.Int.intBits aa ≤ 300) (hn4 : n ≤ 400) (hp45 : ∀ p ∈ pre, p.1 ≠ 45) (hp52 : ∀ p ∈ pre, p.1 ≠ 52) (ht : Tab45 t45 pre) :
    DoesC w 310 3200 50 ((52, t52) :: (45, t45) :: pre) [.int aa ta, .int n tn] (I2dA pre t52 aa n) := by
  have conv : ∀ r n', I2dR pre t52 aa n r n' → I2dA pre t52 aa n r n' := by
    rintro r n' ⟨c0, D, oc0, vc0, tq0, vs, ds, kk, e1, e2, d1, d2, d3, d4, d5, d6, d7, d8, d9, d10, d11⟩
    exact ⟨c0, D, oc0, _, vs, ds, kk, e1, e2, ⟨vc0, tq0, rfl, d1, d2, d3, d4⟩, d3, d4, d5, d6, d7, d8, d9, d10, d11⟩
  rcases ht with rfl | ⟨c0, oc0, vc0, tq0, rfl, h2, h3, h4, h5, h6⟩
  · exact (i2d_miss w pre t52 aa n ta tn ha hn hb hn4 hp45 hp52).mono conv
  · refine ((i2d_hit w pre t52 c0 oc0 vc0 tq0 h3 h4 h5 h6 aa n ta tn ha hn hb hn4 hp45 hp52).mono conv).sub fun p hp => ?_
    rcases List.mem_cons.mp hp with rfl | hp
    · exact .head _
    rcases List.mem_cons.mp hp with rfl | hp
    · exact .tail _ (.head _)
    rcases List.mem_cons.mp hp with rfl | hp
    · exact .tail _ (.tail _ h2)
    exact .tail _ (.tail _ hp)
def D2iA (pre : Led) (D : Addr) (ds : List Int) (vs : List Value) (kk : Nat) (n : Int) (r : Value) (news' : Led) : Prop :=
  ∃ (c0 : Addr) (oc0 : Obj) (t52 : Obj) (t : Tok), r = .int (valB (2 ^ n.toNat) ds) t ∧ news' = (D, listOf vs.toArray kk) :: (52, t52) :: (c0, oc0) :: pre ∧ In52 t52 c0 oc0 ∧ c0 ≠ 45 ∧ c0 ≠ 52 ∧ D ≠ c0
theorem d2i_any (w : World) (pre : Led) (D : Addr) (t52 : Obj) (vs : List Value) (ds : List Int) (kk : Nat) (n : Int) (tn : Tok) (hI : IntsAre vs ds) (hl : 1 ≤ ds.length) (hl3 : ds.length ≤ 300) (hn : 1 ≤ n) (hn4 : n ≤ 400) (hds : ∀ d ∈ ds, 0 ≤ d ∧ d < 2 ^ n.toNat) (hp52 : ∀ p ∈ pre, p.1 ≠ 52) (hD : 52 < D) (hpD : ∀ p ∈ pre, p.1 < D) (ht : Tab52 t52 pre) :
    DoesC w 310 3200 57 ((D, listOf vs.toArray kk) :: (52, t52) :: pre) [.ref D, .int n tn] (D2iA pre D ds vs kk n) := by
  have conv : ∀ r n', D2iR pre D ds vs kk n r n' → D2iA pre D ds vs kk n r n' := by
    rintro r n' ⟨c0, oc0, vc0, tq0, t, e1, e2, d1, d2, d3, d4, d5⟩
    exact ⟨c0, oc0, _, t, e1, e2, ⟨vc0, tq0, rfl, d1, d2, d3, d4⟩, d3, d4, d5⟩
  rcases ht with rfl | ⟨c0, oc0, vc0, tq0, rfl, h2, h3, h4, h5, h6⟩
  · exact (d2i_miss w pre D vs ds kk n tn hI hl hl3 hn hn4 hds hp52 hD hpD).mono conv
  · refine ((d2i_hit w pre D vs ds kk n tn hI hl hl3 hn hn4 hds c0 oc0 vc0 tq0 h3 h4 h5 h6 (Nat.ne_of_gt (hpD _ h2)) hp52 hD hpD).mono conv).sub fun p hp => ?_
    rcases List.mem_cons.mp hp with rfl | hp
    · exact .head _
    rcases List.mem_cons.mp hp with rfl | hp
    · exact .tail _ (.head _)
    rcases List.mem_cons.mp hp with rfl | hp
    · exact .tail _ (.tail _ h2)
    exact .tail _ (.tail _ hp)
theorem valB_pos_len {B : Int} {ds : List Int} (h : 0 < valB B ds) : 1 ≤ ds.length := by
  cases ds with
  | nil => simp [valB] at h
  | cons x r => simp
end Mine

end
-- DposF
section
open PySem PySem.W PySem.Spec PySem.Calls PyProof.Rows
set_option Elab.async false
set_option pp.maxSteps 3000
set_option pp.deepTerms false
set_option pp.deepTerms.threshold 6
set_option maxRecDepth 100000
set_option maxHeartbeats 2000000
namespace Mine
theorem said_DposF_0 : True := by
  k_with_none
  w_top off
  k_with "lt" => first | assumption | (refine Mine.Ar.pick (by assumption) ?_; intro hh; first | exact Mine.Ar.c1 hh | exact Mine.Ar.c2 hh | exact Mine.Ar.c3 hh | exact Mine.Ar.c4 hh | exact Mine.Ar.c5 hh | exact Mine.Ar.c6 hh | exact Mine.Ar.c7 hh | exact Mine.Ar.c8 hh | exact Mine.Ar.e2 hh | exact Mine.Ar.e3 hh | exact Mine.Ar.e4 hh | fail) | exact Mine.Ar.t1 | exact Mine.Ar.t2 | exact Mine.Ar.t3 | fail
  k_with "lt2" => first | k_extra "lt" | (refine Mine.Ar.s1 ?_; k_extra "lt") | (refine Mine.Ar.s2 ?_; k_extra "lt") | (refine Mine.Ar.s3 ?_; k_extra "lt") | fail
  k_with "omega" => with_reducible (first | assumption | decide +kernel | (refine Nat.ne_of_gt ?_; k_extra "lt2") | (refine Nat.ne_of_lt ?_; k_extra "lt2") | k_extra "lt2" | exact Mine.Ar.u1 | exact Mine.Ar.u2 | exact Mine.Ar.u3 | exact Mine.Ar.v1 | exact Mine.Ar.dp0 (by assumption) | exact Mine.Ar.dp1 (by assumption) (by decide) | exact Mine.Ar.dp2 (by assumption) (by decide) | exact Mine.Ar.ll (by assumption) (by decide) | exact Mine.Ar.l0 (by assumption) (by decide) | exact Mine.Ar.lm (by assumption) (by decide) | exact Mine.Ar.gn (by assumption) (by decide) | exact Mine.Ar.ci (by decide) | exact Mine.Ar.cz | exact Mine.Ar.li (by assumption) (by decide) | exact Mine.Ar.lj (by assumption) (by decide) | exact Mine.Ar.lk (by assumption) (by decide) | exact Mine.Ar.gi (by assumption) (by decide) | exact Mine.Ar.gj (by assumption) (by decide) | exact Mine.Ar.gk (by assumption) (by decide) | exact Mine.Ar.gl (by assumption) (by decide) | exact Mine.Ar.n0 (by assumption) | exact Mine.Ar.n1 (by assumption) (by decide) | exact Mine.Ar.m0 (by assumption) | exact Mine.Ar.m1 (by assumption) (by decide) | exact And.left (by assumption) | exact And.right (by assumption) | fail)
  k_with "mem" => with_reducible (first | exact List.mem_cons_self | exact Mine.Ar.g1 | exact Mine.Ar.g2 | exact Mine.Ar.g3 | exact Mine.Ar.g4 | exact Mine.Ar.g5 | exact Mine.Ar.g6 | exact Mine.Ar.g7 | exact Mine.Ar.g8 | exact Mine.Ar.g9 | assumption | (refine List.mem_cons_of_mem _ ?_; k_extra "mem") | (refine List.mem_append_right _ ?_; k_extra "mem") | (refine List.mem_append_left _ ?_; k_extra "mem") | fail)
  k_with "sub" => with_reducible (first | exact Mine.Ar.Sub.nil | exact Mine.Ar.Sub.refl | exact Mine.Ar.Sub.t1 Mine.Ar.Sub.refl | exact Mine.Ar.Sub.t2 Mine.Ar.Sub.refl | exact Mine.Ar.Sub.t3 Mine.Ar.Sub.refl | exact Mine.Ar.Sub.t4 Mine.Ar.Sub.refl | exact Mine.Ar.Sub.t5 Mine.Ar.Sub.refl | exact Mine.Ar.Sub.t6 Mine.Ar.Sub.refl | exact Mine.Ar.Sub.t7 Mine.Ar.Sub.refl | exact Mine.Ar.Sub.t8 Mine.Ar.Sub.refl | exact Mine.Ar.Sub.t9 Mine.Ar.Sub.refl | (refine Mine.Ar.Sub.cons ?_ ?_; k_extra "mem"; k_extra "sub") | (refine Mine.Ar.Sub.app ?_ ?_; k_extra "sub"; k_extra "sub") | (refine Mine.Ar.Sub.t1 ?_; k_extra "sub") | (refine Mine.Ar.Sub.inr ?_; k_extra "sub") | (refine Mine.Ar.Sub.inl ?_; k_extra "sub") | fail)
  k_with "k_all" => first | assumption | exact all_ne_of (by assumption) (by omega) | fail
  k_with "execs cons" => ((try first | (refine' canon ?H ?F ?e ?_; (case H => assumption); (case F => assumption); (case e => exact rfl); intro _) | (refine' canonD ?H ?F ?e ?_; (case H => assumption); (case F => assumption); (case e => exact rfl); intro _ _)); (try k_fold); refine wpAny_execs_cons ?_)
  k_with "eval Call" => k_fold
  k_with "pyIter ref" => refine hold_out ?_
  k_with "UnrPost" => refine hold_out ?_
  k_with "UnrEnd" => refine hold_out ?_
  k_with "binaryOp LShift int int" => refine hold_out ?_
  k_with "call ref" => ((with_reducible show wpAny _ _ (call (Value.ref 50) _) _ _ _); refine hold_out ?_)
  k_with "call ref" => ((with_reducible show wpAny _ _ (call (Value.ref 57) _) _ _ _); refine hold_out ?_)
  k_with "call ref" => ((with_reducible show wpAny _ _ (call (Value.ref 36) _) _ _ _); refine hold_out ?_)
  trivial

def DpJ (Q0 : Addr) (rest : Led) (B b : Int) (ds : List Int) (m9 : Str → Option Value) (rv : List Value) (m : Str → Option Value) (nx : Led) : Prop :=
  ∃ (rd dn qs : List Int) (r : Int) (tr : Tok) (qv : List Value) (qn : Nat) (u : Str → Option Value), IntsAre rv rd ∧ dn ++ rd = ds.reverse ∧ Dp B b dn qs r ∧ IntsAre qv qs ∧
    m = (fun z => if z = Str.ofString "r" then some (.int r tr) else mapU [Str.ofString "a_digit", Str.ofString "q_digit"] u m9 z) ∧ nx = (Q0, listOf qv.toArray qn) :: rest
theorem map_turn9 {rr q a : Str} {vr' vq va vr : Option Value} {u m9 : Str → Option Value} (hqa : q ≠ a) :
    (fun z => if z = rr then vr' else if z = q then vq else if z = a then va else if z = rr then vr else mapU [a, q] u m9 z) = (fun z => if z = rr then vr' else mapU [a, q] (fun z => if z = q then vq else va) m9 z) := by
  funext z
  by_cases e1 : z = rr
  · simp [e1]
  · by_cases e2 : z = q
    · simp [e2, mapU]
    · by_cases e3 : z = a
      · simp [e3, mapU, hqa.symm]
      · simp [e1, e2, e3, mapU]
theorem offI_of {I : Addr} {it : Obj} : ∀ {l : Led}, (∀ p ∈ l, p.1 ≠ I) → OffI I it l
  | [], _ => trivial
  | p :: r, h => ⟨.inl (h p (.head _)), offI_of fun q hq => h q (.tail _ hq)⟩
theorem sub_dp {a q x2 c1 x5 c0 d : Addr × Obj} {pre : Led} : ∀ p ∈ a :: x2 :: x5 :: c1 :: c0 :: pre, p ∈ a :: q :: x2 :: c1 :: x5 :: c0 :: d :: pre := by
  intro p hp
  exact Mine.Ar.Sub.use (by k_extra "sub") hp
theorem sub_dp2 {q d x2 x5 c0 : Addr × Obj} {pre : Led} : ∀ p ∈ q :: x2 :: x5 :: c0 :: d :: pre, p ∈ q :: d :: x2 :: x5 :: c0 :: pre := by
  intro p hp
  exact Mine.Ar.Sub.use (by k_extra "sub") hp
theorem Dp.fin {B b aa : Int} {ds dn qs : List Int} {r : Int} (h : Dp B b dn qs r) (hd : dn = ds.reverse) (hv : valB B ds = aa) : valB B qs.reverse = aa / b ∧ r = aa % b := by
  have h1 := h.val
  subst hd
  rw [List.reverse_reverse, hv] at h1
  have := Int.ediv_emod_unique (a := aa) (b := b) (r := r) (q := valB B qs.reverse) (by have := h.r0; have := h.rb; omega) |>.mpr ⟨by rw [Int.mul_comm]; omega, h.r0, h.rb⟩
  exact ⟨this.1.symm, this.2.symm⟩
theorem shl_bits {r b d : Int} {n : Nat} (hr : 0 ≤ r) (hrb : r < b) (hd0 : 0 ≤ d) (hd : d < 2 ^ n) (hn : n ≤ 300) (hbb : Builtin.Int.intBits b ≤ 300) : Builtin.Int.intBits (r * 2 ^ n + d) ≤ 900 := by
  have hB : (0 : Int) < 2 ^ n := Int.pow_pos (by decide)
  have h1 : (r + 1) * 2 ^ n ≤ b * 2 ^ n := Int.mul_le_mul_of_nonneg_right hrb (Int.le_of_lt hB)
  rw [Int.add_mul, Int.one_mul] at h1
  have h2 : b < 2 ^ 300 := by
    have := intBits_le_iff.mp hbb
    have h3 : ((2 ^ 300 : Nat) : Int) = 2 ^ 300 := by norm_cast
    omega
  have h4 : (2 : Int) ^ n ≤ 2 ^ 300 := by
    have := Nat.pow_le_pow_right (n := 2) (by decide) hn
    have h3 : ((2 ^ 300 : Nat) : Int) = 2 ^ 300 := by norm_cast
    have h5 : ((2 ^ n : Nat) : Int) = 2 ^ n := by push_cast; rfl
    omega
  have h6 : b * 2 ^ n ≤ 2 ^ 300 * 2 ^ 300 := Int.mul_le_mul (Int.le_of_lt h2) h4 (Int.le_of_lt hB) (Int.pow_nonneg (by decide))
  have h0 : 0 ≤ r * 2 ^ n := Int.mul_nonneg hr (Int.le_of_lt hB)
  refine intBits_le_iff.mpr ?_
  have h7 : ((2 ^ 900 : Nat) : Int) = 2 ^ 900 := by norm_cast
  have h8 : (2 : Int) ^ 300 * 2 ^ 300 < 2 ^ 900 := by decide
  omega
theorem ints_rev : ∀ {vs : List Value} {ds : List Int}, IntsAre vs ds → IntsAre vs.reverse ds.reverse
  | _, _, .nil => .nil
  | _, _, .cons d t h => by
    rw [List.reverse_cons, List.reverse_cons]
    exact (ints_rev h).append (.cons _ _ .nil)
def DvR (pre : Led) (aa b : Int) (r : Value) (news' : Led) : Prop :=
  ∃ (T : Addr) (t1 t2 : Tok) (c0 c1 : Addr) (oc0 oc1 t45 t52 : Obj), r = .ref T ∧ news' = (T, { cls := .type "tuple", data := .seq #[.int (aa / b) t1, .int (aa % b) t2] }) :: (52, t52) :: (45, t45) :: (c1, oc1) :: (c0, oc0) :: pre ∧
    In45 t45 c0 oc0 ∧ In52 t52 c1 oc1 ∧ (c0 ≠ 45 ∧ c0 ≠ 52 ∧ c1 ≠ 45 ∧ c1 ≠ 52) ∧ 52 < T ∧ (∀ p ∈ pre, p.1 < T)
theorem dpos_does (w : World) (pre : Led) (t52 t45 : Obj) (aa b : Int) (ta tb : Tok) (ha : 0 < aa) (hab : Builtin.Int.intBits aa ≤ 300) (hb : 0 < b) (hbb : Builtin.Int.intBits b ≤ 300) (hp45 : ∀ p ∈ pre, p.1 ≠ 45) (hp52 : ∀ p ∈ pre, p.1 ≠ 52) (ht45 : Tab45 t45 pre) (ht52 : Tab52 t52 pre) :
    DoesC w 320 3300 64 ((52, t52) :: (45, t45) :: pre) [.int aa ta, .int b tb] (DvR pre aa b) := by
  unfold DoesC
  k_fill
  intro p loose mean mg mb dp un gd cn cs a ccd cl outer A₀ base h₀ L m s Q E B F X N T C1 C2 hk hd hu hret
  have HS : StB s := ⟨⟩
  refine wpAny_call ?_
  k_dflt (refine' code_def ?k1 ?k2 ?k3 ?k4 ?k5 ?kA ?kF ?kK ?k6 ?k7 ?k8 ?k9 ?kB ?_ ?c2 ?c3 ?c4 ?c5; (case kA => exact rfl); (case kF => exact rfl); (case kK => assumption); (case k1 => k_asm); (case k2 => k_asm); (case k3 => k_asm); (case k4 => k_asm); (case k5 => k_asm); (case k6 => k_is); (case k7 => k_is); (case k8 => ktr_room); (case k9 => exact BindsTo.of_eq rfl); (case c5 => decide); (case kB => exact locs rfl); (case c2 => exact rfl); (case c3 => exact rfl); (case c4 => exact rfl); k_whole; intro g' L' h' FG' F' N' B' X' T'; (try dsimp only); (try k_fold))
  refine wpAny_noRaise ?_
  have C1' := C1.keeps FG'.keep
  have C2' := C2.keeps FG'.keep
  k_steps
  refine Hold.mk ?_
  rename News g' _ _ _ => N1
  have hn1 : 1 ≤ (Builtin.Int.intBits b : Int) := by
    unfold Builtin.Int.intBits
    rw [if_neg (by simp; omega)]
    omega
  k_dflt (refine' DoesC.use (i2d_any w pre t52 t45 aa (Builtin.Int.intBits b : Int) _ _ ha hn1 hab ?n4 hp45 hp52 ht45) ?B ?F ?X ?N ?T C1' C2' ?hk ?hd ?hu ?ret; (case B => k_asm); (case F => k_asm); (case X => k_asm); (case N => exact N1); (case T => k_asm); (case hk => rfl); (case hd => first | ktr_room | omega); (case hu => ktr_units); (case n4 => omega))
  case ret =>
    rintro r9 news9 h9 tk9 F9 N9 ⟨c0, D, oc0, t45', vs, ds, kk, rfl, rfl, ht45', f3, f4, f5, f6, f7, hI, f8, f9, f10⟩
    k_steps
    refine Hold.mk ?_
    rename News g' _ _ _ => N2
    rename Fr g' _ _ _ => F2
    k_dflt (refine' iter_revUnr (n := kk) (vs := vs) (ax := D) (lo := listOf vs.toArray kk) rfl F2 ?N ?of ?mem rfl rfl ?rest; (case N => exact N2))
    case mem => exact .tail _ (.head _)
    case of =>
      have hl := ‹_ < _ ∧ _ < _ ∧ _ < _ ∧ _ < _ ∧ _ < _ ∧ AllLt _ pre›
      refine offI_of fun p hp => ?_
      rcases List.mem_cons.mp hp with rfl | hp
      · exact Nat.ne_of_lt hl.1
      rcases List.mem_cons.mp hp with rfl | hp
      · exact Nat.ne_of_lt hl.2.1
      rcases List.mem_cons.mp hp with rfl | hp
      · exact Nat.ne_of_lt hl.2.2.1
      rcases List.mem_cons.mp hp with rfl | hp
      · exact Nat.ne_of_lt hl.2.2.2.1
      rcases List.mem_cons.mp hp with rfl | hp
      · exact Nat.ne_of_lt hl.2.2.2.2.1
      exact Nat.ne_of_lt (ktn_ltOf hl.2.2.2.2.2 p hp)
    case rest =>
      rename_i h4 tk4 h3 _ Q0 h2 lq h1 _ I0 h0 lI
      refine' (?h : ∀ (rv : List Value) (m1 : Str → Option Value) (nx : Led), DpJ Q0 ((D, listOf vs.toArray kk) :: (52, t52) :: (45, t45') :: (c0, oc0) :: pre) (2 ^ (Builtin.Int.intBits b : Int).toNat) b ds _ rv m1 nx → RevRest _ _ _ _ _ _ _ _ _ _ _ _ rv m1 nx) vs.reverse _ _ ?init
      case init =>
        refine' ⟨ds.reverse, [], [], 0, _, [], 0, _, ints_rev hI, rfl, Dp.nil hb, .nil, ?hm, rfl⟩
        case hm =>
          k_dflt (refine map_start ?_)
          rfl
      case h =>
        intro rv
        induction rv with
        | nil =>
          rintro m1 nx ⟨rd, dn, qs, r, tr, qv, qn, u, hr, hdn, hdp, hq, rfl, rfl⟩
          cases hr
          refine RevRest.zero ?_
          intro h9 tk9 F9 N9
          k_steps
          have hlq := ktn_ltOf lq.2.2.2.2
          rw [List.append_nil] at hdn
          have hfin := hdp.fin hdn f8
          have hlen9 : qs.length = ds.length := by rw [hdp.len, hdn, List.length_reverse]
          have hlen8 := hq.length
          have hdl1 : 1 ≤ ds.length := valB_pos_len (B := 2 ^ (Builtin.Int.intBits b : Int).toNat) (by rw [f8]; exact ha)
          rename News g' _ _ _ => N8
          k_dflt (refine' kl_reverse ?F ?N ?e ?U ?z ?_; (case F => k_asm); (case N => exact N8); (case e => rfl))
          case U => k_upd
          case z => rw [List.toList_toArray]; exact Nat.le_trans (show qv.length ≤ 300 by omega) (by decide)
          intro h8 F8 N7
          k_steps
          refine Hold.mk ?_
          rename News g' _ _ _ => N6
          have hq52 : 52 < Q0 := lq.2.1
          have hq45 : 45 < Q0 := lq.2.2.1
          have hqc0 : c0 < Q0 := lq.2.2.2.1
          have hqD : D < Q0 := lq.1
          have hbn := Builtin.Int.intBits b
          k_dflt (refine' DoesC.use (d2i_any w ((45, t45') :: (c0, oc0) :: (D, listOf vs.toArray kk) :: pre) Q0 t52 qv.reverse qs.reverse qn (Builtin.Int.intBits b : Int) _ (ints_rev hq) ?l1 ?l3 hn1 ?n4 ?ds ?p52 hq52 ?pD ?tt) ?B ?F ?X (kst_newsOf N6 ?NN) ?T C1' C2' ?hk ?hd ?hu ?ret; (case B => k_asm); (case F => k_asm); (case X => k_asm); (case T => k_asm); (case hk => rfl); (case hd => first | ktr_room | omega); (case hu => ktr_units); (case n4 => omega))
          case ret =>
            rintro r9 news9 h9 tk9 F9 N9 ⟨c1, oc1, t52', t9, rfl, rfl, ht52', g1, g2, g3⟩
            obtain ⟨hfa, rfl⟩ := hfin
            rw [hfa]
            k_steps
            rename News h₀ _ _ _ => kN
            have hl := ‹_ < _ ∧ _ < _ ∧ _ < _ ∧ _ < _ ∧ _ < _ ∧ _ < _ ∧ AllLt _ pre›
            refine hret _ _ _ _ (by assumption) (kst_newsOf kN (l' := (_, { cls := .type "tuple", data := .seq #[.int (aa / b) t9, .int (aa % b) tr] }) :: (52, t52') :: (45, t45') :: (c1, oc1) :: (c0, oc0) :: pre) sub_dp) ⟨_, t9, tr, c0, c1, oc0, oc1, t45', t52', rfl, rfl, ht45', ht52', ⟨f3, f4, g1, g2⟩, hl.2.1, fun p hp => ktn_ltOf hl.2.2.2.2.2.2 p hp⟩
          case l1 => rw [List.length_reverse]; omega
          case l3 => rw [List.length_reverse]; omega
          case ds => exact fun x hx => hdp.q x (List.mem_reverse.mp hx)
          case NN => exact sub_dp2
          case tt => exact ht52.mono fun p hp => .tail _ (.tail _ (.tail _ hp))
          case p52 =>
            intro p hp
            rcases List.mem_cons.mp hp with rfl | hp
            · exact (by decide : (45 : Nat) ≠ 52)
            rcases List.mem_cons.mp hp with rfl | hp
            · exact f4
            rcases List.mem_cons.mp hp with rfl | hp
            · exact Nat.ne_of_gt f6
            exact hp52 p hp
          case pD =>
            intro p hp
            rcases List.mem_cons.mp hp with rfl | hp
            · exact hq45
            rcases List.mem_cons.mp hp with rfl | hp
            · exact hqc0
            rcases List.mem_cons.mp hp with rfl | hp
            · exact hqD
            exact hlq p hp
        | cons v rv ihv =>
          rintro m1 nx ⟨rd, dn, qs, r, tr, qv, qn, u, hr, hdn, hdp, hq, rfl, rfl⟩
          cases hr
          rename_i d td rd hr
          refine RevRest.succ ?_
          intro it h9 tk9 hit F9 N9
          have hrB := hdp.r0
          have hrb := hdp.rb
          have hrbits : Builtin.Int.intBits r ≤ 300 := intBits_le_of_natAbs (by omega) hbb
          have hd9 : 0 ≤ d ∧ d < 2 ^ (Builtin.Int.intBits b : Int).toNat := f9 d (List.mem_reverse.mp (hdn ▸ List.mem_append_right _ (.head _)))
          k_steps
          refine Hold.mk ?_
          refine lshift_int (by omega) (by have := Int.ofNat_le.mpr hrbits; omega) ?_
          k_steps
          refine Hold.mk ?_
          rename News g' _ _ _ => N8
          have hB : (0 : Int) < 2 ^ (Builtin.Int.intBits b : Int).toNat := Int.pow_pos (by decide)
          have hx0 : 0 ≤ r * 2 ^ (Builtin.Int.intBits b : Int).toNat + d := Int.add_nonneg (Int.mul_nonneg hrB (Int.le_of_lt hB)) hd9.1
          have hxb : Builtin.Int.intBits (r * 2 ^ (Builtin.Int.intBits b : Int).toNat + d) ≤ 900 := shl_bits hrB hrb hd9.1 hd9.2 (by rw [Int.toNat_natCast]; exact hbb) hbb
          k_dflt (refine' Does.use (div_does w _ _ b _ _ _ _ hx0 hxb hb (by omega) (by omega)) ?B ?F ?X ?N ?T ?hk ?hd ?hu ?ret; (case B => k_asm); (case F => k_asm); (case X => k_asm); (case N => exact N8); (case T => k_asm); (case hk => rfl); (case hd => first | ktr_room | omega); (case hu => ktr_units))
          case ret =>
            rintro r8 news8 h8 tk8 F7 N7 ⟨Dt, t81, t82, rfl, rfl, hlt8⟩
            k_steps
            rename News g' _ _ _ => N6
            rename Fr g' _ _ _ => F6
            have hq0 : ∀ p ∈ (D, listOf vs.toArray kk) :: (52, t52) :: (45, t45') :: (c0, oc0) :: pre, p.1 < Q0 := by
              intro p hp
              rcases List.mem_cons.mp hp with rfl | hp
              · exact lq.1
              rcases List.mem_cons.mp hp with rfl | hp
              · exact lq.2.1
              rcases List.mem_cons.mp hp with rfl | hp
              · exact lq.2.2.1
              rcases List.mem_cons.mp hp with rfl | hp
              · exact lq.2.2.2.1
              exact ktn_ltOf lq.2.2.2.2 p hp
            have hq1 : Q0 < I0 := lI.1
            refine app_led (pre := [(Dt, _), (I0, it)]) F6 N6 ?o1 ?o2 ?o3 ?_
            case o1 =>
              intro p hp
              rcases List.mem_cons.mp hp with rfl | hp
              · exact Nat.ne_of_gt (hlt8 _ (.tail _ (.head _)))
              rw [List.mem_singleton.mp hp]
              exact Nat.ne_of_gt hq1
            case o2 => exact fun p hp => Nat.ne_of_lt (hq0 p hp)
            case o3 =>
              have h1 := hq.length
              have h2 := hdp.len
              have h3 := congrArg List.length hdn
              rw [List.length_append, List.length_reverse] at h3
              omega
            intro h5 F5 N5
            dsimp only [List.cons_append, List.nil_append] at N5
            k_steps
            refine Hold.mk ?_
            rename News g' _ _ _ => N4
            rename Fr g' _ _ _ => F4
            refine UnrEnd.intro F4 N4 ((Q0, listOf (qv ++ [Value.int ((r * 2 ^ (Builtin.Int.intBits b : Int).toNat + d) / b) t81]).toArray (qn + 1)) :: (D, listOf vs.toArray kk) :: (52, t52) :: (45, t45') :: (c0, oc0) :: pre) ?s1 ?s2 ⟨.tail _ (.head _), ihv _ _ ⟨rd, dn ++ [d], qs ++ [(r * 2 ^ (Builtin.Int.intBits b : Int).toNat + d) / b], _, t82, _, _, ?u9, hr, by simpa using hdn, hdp.next hB hb hd9.1 hd9.2, hq.append (.cons _ _ .nil), ?hm, rfl⟩⟩
            case s1 => exact fun p hp => .tail _ hp
            case s2 =>
              intro p hp
              rcases List.mem_cons.mp hp with rfl | hp
              · exact Nat.ne_of_lt hq1
              · exact Nat.ne_of_lt (Nat.lt_trans (hq0 p hp) hq1)
            case hm =>
              refine map_turn9 ?_
              decide
end Mine

end
-- DmF
section
open PySem PySem.W PySem.Spec PySem.Calls PyProof.Rows
set_option Elab.async false
set_option pp.maxSteps 3000
set_option pp.deepTerms false
set_option pp.deepTerms.threshold 6
set_option maxRecDepth 100000
set_option maxHeartbeats 2000000
namespace Mine
theorem said_DmF_0 : True := by
  k_with_none
  w_top off
  k_with "lt" => first | assumption | (refine Mine.Ar.pick (by assumption) ?_; intro hh; first | exact Mine.Ar.c1 hh | exact Mine.Ar.c2 hh | exact Mine.Ar.c3 hh | exact Mine.Ar.c4 hh | exact Mine.Ar.c5 hh | exact Mine.Ar.c6 hh | exact Mine.Ar.c7 hh | exact Mine.Ar.c8 hh | exact Mine.Ar.e2 hh | exact Mine.Ar.e3 hh | exact Mine.Ar.e4 hh | fail) | exact Mine.Ar.t1 | exact Mine.Ar.t2 | exact Mine.Ar.t3 | fail
  k_with "lt2" => first | k_extra "lt" | (refine Mine.Ar.s1 ?_; k_extra "lt") | (refine Mine.Ar.s2 ?_; k_extra "lt") | (refine Mine.Ar.s3 ?_; k_extra "lt") | fail
  k_with "omega" => with_reducible (first | assumption | decide +kernel | (refine Nat.ne_of_gt ?_; k_extra "lt2") | (refine Nat.ne_of_lt ?_; k_extra "lt2") | k_extra "lt2" | exact Mine.Ar.u1 | exact Mine.Ar.u2 | exact Mine.Ar.u3 | exact Mine.Ar.v1 | exact Mine.Ar.dp0 (by assumption) | exact Mine.Ar.dp1 (by assumption) (by decide) | exact Mine.Ar.dp2 (by assumption) (by decide) | exact Mine.Ar.ll (by assumption) (by decide) | exact Mine.Ar.l0 (by assumption) (by decide) | exact Mine.Ar.lm (by assumption) (by decide) | exact Mine.Ar.gn (by assumption) (by decide) | exact Mine.Ar.ci (by decide) | exact Mine.Ar.cz | exact Mine.Ar.li (by assumption) (by decide) | exact Mine.Ar.lj (by assumption) (by decide) | exact Mine.Ar.lk (by assumption) (by decide) | exact Mine.Ar.gi (by assumption) (by decide) | exact Mine.Ar.gj (by assumption) (by decide) | exact Mine.Ar.gk (by assumption) (by decide) | exact Mine.Ar.gl (by assumption) (by decide) | exact Mine.Ar.n0 (by assumption) | exact Mine.Ar.n1 (by assumption) (by decide) | exact Mine.Ar.m0 (by assumption) | exact Mine.Ar.m1 (by assumption) (by decide) | exact And.left (by assumption) | exact And.right (by assumption) | lia | fail)
  k_with "k_all" => first | assumption | exact all_ne_of (by assumption) (by omega) | fail
  k_with "execs cons" => ((try first | (refine' canon ?H ?F ?e ?_; (case H => assumption); (case F => assumption); (case e => exact rfl); intro _) | (refine' canonD ?H ?F ?e ?_; (case H => assumption); (case F => assumption); (case e => exact rfl); intro _ _)); (try k_fold); refine wpAny_execs_cons ?_)
  k_with "eval Call" => k_fold
  k_with "call ref" => ((with_reducible show wpAny _ _ (call (Value.ref 64) _) _ _ _); refine hold_out ?_)
  trivial

theorem dm_does (w : World) (pre : Led) (t52 t45 : Obj) (aa b : Int) (ta tb : Tok) (ha : 0 < aa) (hab : Builtin.Int.intBits aa ≤ 300) (hb : 0 < b) (hbb : Builtin.Int.intBits b ≤ 300) (hp45 : ∀ p ∈ pre, p.1 ≠ 45) (hp52 : ∀ p ∈ pre, p.1 ≠ 52) (ht45 : Tab45 t45 pre) (ht52 : Tab52 t52 pre) :
    DoesC w 321 3320 71 ((52, t52) :: (45, t45) :: pre) [.int aa ta, .int b tb] (DvR pre aa b) := by
  unfold DoesC
  k_fill
  intro p loose mean mg mb dp un gd cn cs a ccd cl outer A₀ base h₀ L m s Q E B F X N T C1 C2 hk hd hu hret
  have HS : StB s := ⟨⟩
  refine wpAny_call ?_
  k_dflt (refine' code_def ?k1 ?k2 ?k3 ?k4 ?k5 ?kA ?kF ?kK ?k6 ?k7 ?k8 ?k9 ?kB ?_ ?c2 ?c3 ?c4 ?c5; (case kA => exact rfl); (case kF => exact rfl); (case kK => assumption); (case k1 => k_asm); (case k2 => k_asm); (case k3 => k_asm); (case k4 => k_asm); (case k5 => k_asm); (case k6 => k_is); (case k7 => k_is); (case k8 => ktr_room); (case k9 => exact BindsTo.of_eq rfl); (case c5 => decide); (case kB => exact locs rfl); (case c2 => exact rfl); (case c3 => exact rfl); (case c4 => exact rfl); k_whole; intro g' L' h' FG' F' N' B' X' T'; (try dsimp only); (try k_fold))
  refine wpAny_noRaise ?_
  have hz : b ≠ 0 := by omega
  have hz2 : ¬ b < 0 := by omega
  have hz3 : ¬ aa < 0 := by omega
  have C1' := C1.keeps FG'.keep
  have C2' := C2.keeps FG'.keep
  k_steps
  refine Hold.mk ?_
  rename News g' _ _ _ => N1
  k_dflt (refine' DoesC.use (dpos_does w pre t52 t45 aa b _ _ ha hab hb hbb hp45 hp52 ht45 ht52) ?B ?F ?X ?N ?T C1' C2' ?hk ?hd ?hu ?ret; (case B => k_asm); (case F => k_asm); (case X => k_asm); (case N => exact N1); (case T => k_asm); (case hk => rfl); (case hd => first | ktr_room | omega); (case hu => ktr_units))
  case ret =>
    intro r9 news9 h9 tk9 F9 N9 hR
    obtain ⟨T9, t1, t2, c0, c1, oc0, oc1, t45', t52', rfl, rfl, k1, k2, k3, k4, k5⟩ := hR
    k_steps
    rename News h₀ _ _ _ => kN
    exact hret _ _ _ _ (by assumption) kN ⟨T9, t1, t2, c0, c1, oc0, oc1, t45', t52', rfl, rfl, k1, k2, k3, k4, k5⟩
end Mine

end
-- Lib6
section
open PySem PySem.W PySem.Spec PySem.Calls PyProof.Rows PyProof.Rows.LCg
set_option Elab.async false
set_option maxRecDepth 100000
set_option maxHeartbeats 4000000
namespace Mine
theorem said_Lib6_0 : True := by
  k_with_none
  w_top off
  k_with "lt" => first | assumption | (refine Mine.Ar.pick (by assumption) ?_; intro hh; first | exact Mine.Ar.c1 hh | exact Mine.Ar.c2 hh | exact Mine.Ar.c3 hh | exact Mine.Ar.c4 hh | exact Mine.Ar.c5 hh | exact Mine.Ar.c6 hh | exact Mine.Ar.c7 hh | exact Mine.Ar.c8 hh | exact Mine.Ar.e2 hh | exact Mine.Ar.e3 hh | exact Mine.Ar.e4 hh | fail) | exact Mine.Ar.t1 | exact Mine.Ar.t2 | exact Mine.Ar.t3 | fail
  k_with "lt2" => first | k_extra "lt" | (refine Mine.Ar.s1 ?_; k_extra "lt") | (refine Mine.Ar.s2 ?_; k_extra "lt") | (refine Mine.Ar.s3 ?_; k_extra "lt") | fail
  k_with "omega" => with_reducible (first | assumption | decide +kernel | (refine Nat.ne_of_gt ?_; k_extra "lt2") | (refine Nat.ne_of_lt ?_; k_extra "lt2") | k_extra "lt2" | exact Mine.Ar.u1 | exact Mine.Ar.u2 | exact Mine.Ar.u3 | exact Mine.Ar.v1 | exact Mine.Ar.dp0 (by assumption) | exact Mine.Ar.dp1 (by assumption) (by decide) | exact Mine.Ar.dp2 (by assumption) (by decide) | exact Mine.Ar.ll (by assumption) (by decide) | exact Mine.Ar.l0 (by assumption) (by decide) | exact Mine.Ar.lm (by assumption) (by decide) | exact Mine.Ar.gn (by assumption) (by decide) | exact Mine.Ar.ci (by decide) | exact Mine.Ar.cz | exact Mine.Ar.li (by assumption) (by decide) | exact Mine.Ar.lj (by assumption) (by decide) | exact Mine.Ar.lk (by assumption) (by decide) | exact Mine.Ar.gi (by assumption) (by decide) | exact Mine.Ar.gj (by assumption) (by decide) | exact Mine.Ar.gk (by assumption) (by decide) | exact Mine.Ar.gl (by assumption) (by decide) | exact Mine.Ar.n0 (by assumption) | exact Mine.Ar.n1 (by assumption) (by decide) | exact Mine.Ar.m0 (by assumption) | exact Mine.Ar.m1 (by assumption) (by decide) | exact And.left (by assumption) | exact And.right (by assumption) | lia | fail)
  trivial
section
variable {prog : Program} {w : World} {A : Around} {E : Value → Shared → Prop} {s : Shared} {h₀ : Heap} {m : Str → Option Value} {env : Env}
/-- a for over the classes, its names a tuple of three -/
theorem for3h {iter : Expr} {x₁ x₂ x₃ : Str} {p₁ p₂ p₃ tp : Pos} {kk : Nat} {pos : Pos} {body : List Stmt} {Q : Flow → Shared → Prop}
    {l : Addr} {its : List Value} {nn : Nat} {cs : List (Int × Int × Int)} {news : Led} (J : (Str → Option Value) → Nat → (Str → Option Value) → Led → Prop) (_F : Fr h₀ env.locals s.heap m) (_N : News h₀ env.locals s.heap news)
    (hk₁ : env.kindOf x₁ = some .local) (hk₂ : env.kindOf x₂ = some .local) (hk₃ : env.kindOf x₃ = some .local)
    (hp : (env.scope.kind == .class || (env.scope.kind == .module && env.locals != env.globals)) = false) (hh : A.handled = none)
    (hJl : ∀ i m' nx, J m i m' nx → (l, listOf its.toArray nn) ∈ nx ∧ Trips nx its cs)
    (h : wpAny (model prog w) A (eval iter env) (fun xv s₁ => xv = .ref l ∧ ∃ g tk, s₁ = { s with heap := g, toks := tk } ∧ Fr h₀ env.locals g m ∧ News h₀ env.locals g news) E s)
    (hJ : J m 0 m news)
    (turn : ∀ (i : Nat) c t1 t2 t3 m₁ nx I oI g tk, cs[i]? = some c → J m i m₁ nx → (∀ p ∈ nx, p.1 ≠ I) → (∀ p ∈ news, p.1 < I) → (∃ j : Int, oI.data = .fields #[.ref l, .int j 0]) →
      Fr h₀ env.locals g (put3 x₁ x₂ x₃ (.int c.1 t1) (.int c.2.1 t2) (.int c.2.2 t3) m₁) → News h₀ env.locals g ((I, oI) :: nx) →
      wpAny (model prog w) A (execs body env) (TPost h₀ env.locals (J m (i + 1)) I oI { s with heap := g, toks := tk } Q) E { s with heap := g, toks := tk })
    (done : ∀ m₁ nx g tk, J m cs.length m₁ nx → Fr h₀ env.locals g m₁ → News h₀ env.locals g nx → Q .next { s with heap := g, toks := tk })
    (hE : PassesOwn (model prog w) A env E)
    (hs : ∀ x, foldedSetIterable iter env x = pure x := by intro _; rfl) :
    wpAny (model prog w) A (exec (.For (.Tuple [.Name x₁ p₁, .Name x₂ p₂, .Name x₃ p₃] kk tp) iter body [] pos) env) Q E s := by
  refine wpAny_For (wpAny_mono h (fun xv s₁ h₁ => ?_) fun _ _ e => e) hs
  obtain ⟨rfl, g, tk, rfl, F, N⟩ := h₁
  obtain ⟨hl, hc⟩ := hJl 0 m news hJ
  have hlo : g.get? l = some (listOf its.toArray nn) := (N _ hl).1
  have hls : g.IsList l its.toArray := ⟨_, hlo, rfl, nn, rfl⟩
  refine wpAny_pyIter_list hls ?_
  have hIo : (g.push { cls := .type "list_iterator", data := .fields #[.ref l, .int 0 0] }).get? g.objs.size = some { cls := .type "list_iterator", data := .fields #[.ref l, .int 0 0] } := Heap.get?_push_size _ rfl
  have hIL : env.locals ≠ g.objs.size := Nat.ne_of_lt F.ns.lt
  have hI₀ : h₀.get? g.objs.size = none := next_is_new F
  have hlt : ∀ p ∈ news, p.1 < g.objs.size := fun p hp => Heap.lt_size (N p hp).1
  have F1 := F.push { cls := .type "list_iterator", data := .fields #[.ref l, .int 0 0] }
  have N1 : News h₀ env.locals (g.push { cls := .type "list_iterator", data := .fields #[.ref l, .int 0 0] }) news := fun p hp => ⟨Heap.get?_push_of_some _ (N p hp).1, (N p hp).2⟩
  generalize g.push { cls := .type "list_iterator", data := .fields #[.ref l, .int 0 0] } = H at hIo F1 N1 ⊢
  generalize g.objs.size = I at *
  refine codeAny_forLoop_any
    (fun k s' => ∃ h' tk m' nx i, s' = { s with heap := h', toks := tk } ∧ h'.IsListIter I l i ∧ Fr h₀ env.locals h' m' ∧ News h₀ env.locals h' nx ∧ (∀ p ∈ nx, p.1 ≠ I) ∧ J m i m' nx ∧ i ≤ cs.length ∧ k = cs.length + 1 - i) ?_ (cs.length + 1)
    ⟨H, tk, m, news, 0, rfl, ⟨_, hIo, rfl, rfl⟩, F1, N1, fun p hp => Nat.ne_of_lt (hlt p hp), hJ, Nat.zero_le _, rfl⟩
  rintro k s' ⟨h', tk', m', nx, i, rfl, hLi, F', N', hne, hJ', hi, rfl⟩
  obtain ⟨hl', hc'⟩ := hJl i m' nx hJ'
  have hl2 : h'.IsList l its.toArray := ⟨_, (N' _ hl').1, rfl, nn, rfl⟩
  by_cases hlt' : i < cs.length
  · obtain ⟨c, hci⟩ : ∃ c, cs[i]? = some c := ⟨_, List.getElem?_eq_getElem hlt'⟩
    obtain ⟨v, hvi, t, t1, t2, t3, nt, rfl, hmt⟩ := hc'.get i c hci
    refine wpAny_pyNext_list_item hLi hl2 (x := .ref t) (by simpa using hvi) fun h₂ hLi₂ hs₂ => ?_
    have N₂ : News h₀ env.locals h₂ nx := fun p hp => ⟨hs₂.extBut _ _ (hne p hp) (N' p hp).1, (N' p hp).2⟩
    have ht : IsTup h₂ t #[.int c.1 t1, .int c.2.1 t2, .int c.2.2 t3] := ⟨_, (N₂ _ hmt).1, rfl, nt, rfl⟩
    refine wpAny_letOwnedTupleGo_listiter hLi₂ ?_
    refine assign_Tuple_tuple hh ht rfl rfl fun h₅ he => ?_
    have he' : ∀ b o, h₂.get? b = some o → h₅.get? b = some o := fun b o e => he b o (Nat.ne_of_lt (Heap.lt_size e)) e
    have F₂ : Fr h₀ env.locals h₅ m' := (F'.change hs₂ (Ne.symm hIL) hI₀).keeps he'
    have N₅ : News h₀ env.locals h₅ nx := fun p hp => ⟨he' _ _ (N₂ p hp).1, (N₂ p hp).2⟩
    obtain ⟨oI₂, hoI₂, hcI, hdI⟩ := hLi₂
    have hI₅ := he' _ _ hoI₂
    refine assignInOrder_cons (wpAny_assign_Name (wpAny_storeName_local hk₁ F₂.ns (fun h₆ hn₆ hs₆ => ?_) hp))
    have F₆ := F₂.set hn₆ hs₆
    have N₆ := N₅.set hs₆
    refine assignInOrder_cons (wpAny_assign_Name (wpAny_storeName_local hk₂ F₆.ns (fun h₇ hn₇ hs₇ => ?_) hp))
    have F₇ := F₆.set hn₇ hs₇
    have N₇ := N₆.set hs₇
    refine assignInOrder_cons (wpAny_assign_Name (wpAny_storeName_local hk₃ F₇.ns (fun h₈ hn₈ hs₈ => ?_) hp))
    have F₈ := F₇.set hn₈ hs₈
    have N₈ := N₇.set hs₈
    refine assignInOrder_nil ?_
    have hI₈ := hs₈.extBut _ _ (Ne.symm hIL) (hs₇.extBut _ _ (Ne.symm hIL) (hs₆.extBut _ _ (Ne.symm hIL) hI₅))
    have N₉ : News h₀ env.locals h₈ ((I, oI₂) :: nx) := fun p hp => by
      rcases List.mem_cons.mp hp with rfl | hp
      · exact ⟨hI₈, Ne.symm hIL, hI₀⟩
      · exact N₈ p hp
    refine wpAny_mono (turn i c t1 t2 t3 m' nx I oI₂ h₈ _ hci hJ' hne hlt ⟨_, hdI⟩ F₈ N₉) (fun f s₃ h₃ => ?_) fun e s' q => hE e s' q
    have fin : TEnd h₀ env.locals (J m (i + 1)) I oI₂ { s with heap := h₈, toks := tk' + 1 + 1 + 1 } s₃ → ∃ k, k < cs.length + 1 - i ∧ ∃ h' tk m' nx i, s₃ = { s with heap := h', toks := tk } ∧ h'.IsListIter I l i ∧ Fr h₀ env.locals h' m' ∧ News h₀ env.locals h' nx ∧ (∀ p ∈ nx, p.1 ≠ I) ∧ J m i m' nx ∧ i ≤ cs.length ∧ k = cs.length + 1 - i := by
      rintro ⟨g', tk₉, m₉, nx₉, rfl, F₉, N₁₀, hne₉, hJ₉⟩
      exact ⟨cs.length + 1 - (i + 1), by omega, g', tk₉, m₉, nx₉, i + 1, rfl, ⟨_, (N₁₀ _ (.head _)).1, hcI, hdI⟩, F₉, fun p hp => N₁₀ p (.tail _ hp), hne₉, hJ₉, hlt', rfl⟩
    cases f with
    | ret v => exact h₃
    | brk => exact h₃
    | next => exact fin h₃
    | cont => exact fin h₃
  · obtain rfl : i = cs.length := Nat.le_antisymm hi (Nat.not_lt.mp hlt')
    refine wpAny_pyNext_list_end hh hLi hl2 (by simp [hc.len]) fun h₂ he₂ => ?_
    have F₂ : Fr h₀ env.locals h₂ m' := ⟨F'.ns.at' fun o e => he₂ _ o hIL e, fun b o e => he₂ b o (fun q => by rw [q, hI₀] at e; cases e) (F'.keep b o e), F'.above⟩
    have N₂ : News h₀ env.locals h₂ nx := fun p hp => ⟨he₂ _ _ (hne p hp) (N' p hp).1, (N' p hp).2⟩
    exact wpAny_execs_nil (done m' nx h₂ _ hJ' F₂ N₂)
end
end Mine

end
-- AddF
section
open PySem PySem.W PySem.Spec PySem.Calls PyProof.Rows
set_option Elab.async false
set_option pp.maxSteps 3000
set_option pp.deepTerms false
set_option pp.deepTerms.threshold 6
set_option maxRecDepth 100000
set_option maxHeartbeats 2000000
namespace Mine
theorem said_AddF_0 : True := by
  k_with_none
  w_top off
  k_with "lt" => first | assumption | (refine Mine.Ar.pick (by assumption) ?_; intro hh; first | exact Mine.Ar.c1 hh | exact Mine.Ar.c2 hh | exact Mine.Ar.c3 hh | exact Mine.Ar.c4 hh | exact Mine.Ar.c5 hh | exact Mine.Ar.c6 hh | exact Mine.Ar.c7 hh | exact Mine.Ar.c8 hh | exact Mine.Ar.e2 hh | exact Mine.Ar.e3 hh | exact Mine.Ar.e4 hh | fail) | exact Mine.Ar.t1 | exact Mine.Ar.t2 | exact Mine.Ar.t3 | fail
  k_with "lt2" => first | k_extra "lt" | (refine Mine.Ar.s1 ?_; k_extra "lt") | (refine Mine.Ar.s2 ?_; k_extra "lt") | (refine Mine.Ar.s3 ?_; k_extra "lt") | fail
  k_with "omega" => with_reducible (first | assumption | decide +kernel | (refine Nat.ne_of_gt ?_; k_extra "lt2") | (refine Nat.ne_of_lt ?_; k_extra "lt2") | k_extra "lt2" | exact Mine.Ar.u1 | exact Mine.Ar.u2 | exact Mine.Ar.u3 | exact Mine.Ar.v1 | exact Mine.Ar.dp0 (by assumption) | exact Mine.Ar.dp1 (by assumption) (by decide) | exact Mine.Ar.dp2 (by assumption) (by decide) | exact Mine.Ar.ll (by assumption) (by decide) | exact Mine.Ar.l0 (by assumption) (by decide) | exact Mine.Ar.lm (by assumption) (by decide) | exact Mine.Ar.gn (by assumption) (by decide) | exact Mine.Ar.ci (by decide) | exact Mine.Ar.cz | exact Mine.Ar.li (by assumption) (by decide) | exact Mine.Ar.lj (by assumption) (by decide) | exact Mine.Ar.lk (by assumption) (by decide) | exact Mine.Ar.gi (by assumption) (by decide) | exact Mine.Ar.gj (by assumption) (by decide) | exact Mine.Ar.gk (by assumption) (by decide) | exact Mine.Ar.gl (by assumption) (by decide) | exact Mine.Ar.n0 (by assumption) | exact Mine.Ar.n1 (by assumption) (by decide) | exact Mine.Ar.m0 (by assumption) | exact Mine.Ar.m1 (by assumption) (by decide) | exact And.left (by assumption) | exact And.right (by assumption) | lia | fail)
  k_with "mem" => with_reducible (first | exact List.mem_cons_self | exact Mine.Ar.g1 | exact Mine.Ar.g2 | exact Mine.Ar.g3 | exact Mine.Ar.g4 | exact Mine.Ar.g5 | exact Mine.Ar.g6 | exact Mine.Ar.g7 | exact Mine.Ar.g8 | exact Mine.Ar.g9 | assumption | (refine List.mem_cons_of_mem _ ?_; k_extra "mem") | (refine List.mem_append_right _ ?_; k_extra "mem") | (refine List.mem_append_left _ ?_; k_extra "mem") | fail)
  k_with "sub" => with_reducible (first | exact Mine.Ar.Sub.nil | exact Mine.Ar.Sub.refl | exact Mine.Ar.Sub.t1 Mine.Ar.Sub.refl | exact Mine.Ar.Sub.t2 Mine.Ar.Sub.refl | exact Mine.Ar.Sub.t3 Mine.Ar.Sub.refl | exact Mine.Ar.Sub.t4 Mine.Ar.Sub.refl | exact Mine.Ar.Sub.t5 Mine.Ar.Sub.refl | exact Mine.Ar.Sub.t6 Mine.Ar.Sub.refl | exact Mine.Ar.Sub.t7 Mine.Ar.Sub.refl | exact Mine.Ar.Sub.t8 Mine.Ar.Sub.refl | exact Mine.Ar.Sub.t9 Mine.Ar.Sub.refl | (refine Mine.Ar.Sub.cons ?_ ?_; k_extra "mem"; k_extra "sub") | (refine Mine.Ar.Sub.app ?_ ?_; k_extra "sub"; k_extra "sub") | (refine Mine.Ar.Sub.t1 ?_; k_extra "sub") | (refine Mine.Ar.Sub.inr ?_; k_extra "sub") | (refine Mine.Ar.Sub.inl ?_; k_extra "sub") | fail)
  k_with "k_all" => first | assumption | exact all_ne_of (by assumption) (by omega) | fail
  k_with "execs cons" => ((try first | (refine' canon ?H ?F ?e ?_; (case H => assumption); (case F => assumption); (case e => exact rfl); intro _) | (refine' canonD ?H ?F ?e ?_; (case H => assumption); (case F => assumption); (case e => exact rfl); intro _ _)); (try k_fold); refine wpAny_execs_cons ?_)
  k_with "eval Call" => k_fold
  k_with "exec For Tuple Name cons nil" => refine hold_out ?_
  k_with "TPost" => refine hold_out ?_
  k_with "TEnd" => refine hold_out ?_
  k_with "subscriptTail" => refine hold_out ?_
  k_with "binaryOp Mult int int" => refine hold_out ?_
  k_with "call ref" => ((with_reducible show wpAny _ _ (call (Value.ref 71) _) _ _ _); refine hold_out ?_)
  trivial

def onesOf (c : Int × Int × Int) : Int := (16 ^ 48 - 1) / (16 ^ c.1.toNat - 1)
def addedL (ks : List (Int × Int × Int)) : Int := ks.foldl (fun t c => t + onesOf c * 16 ^ c.2.1.toNat) 0
theorem added_take {ks : List (Int × Int × Int)} {i : Nat} {c : Int × Int × Int} (h : ks[i]? = some c) : addedL (ks.take (i + 1)) = addedL (ks.take i) + onesOf c * 16 ^ c.2.1.toNat := by
  have hs : ks.take (i + 1) = ks.take i ++ [c] := by simp [List.take_add_one, h]
  unfold addedL
  rw [hs, List.foldl_append]
  rfl
theorem TabIn.fields {line : Nat} {qual : Str} {t : Obj} {c0 : Addr} {oc0 : Obj} (h : TabIn line qual t c0 oc0) : ∃ v, oc0.data = .fields v := let ⟨v, _, _, h, _⟩ := h; ⟨v, h⟩
/-- the code tables, in some state, ahead of a longer ledger -/
structure TabsOk (pre nx : Led) (t52 t45 : Obj) (ex : Led) : Prop where
  eq : nx = (52, t52) :: (45, t45) :: ex
  sub : ∀ p ∈ pre, p ∈ ex
  n45 : ∀ p ∈ ex, p.1 ≠ 45
  n52 : ∀ p ∈ ex, p.1 ≠ 52
  a45 : Tab45 t45 ex
  a52 : Tab52 t52 ex
  form : ∃ ext, ex = ext ++ pre ∧ ∀ q ∈ ext, ∃ v, q.2.data = .fields v
def AddJ (pre : Led) (ks : List (Int × Int × Int)) (m₀ : Str → Option Value) (i : Nat) (m : Str → Option Value) (nx : Led) : Prop :=
  ∃ (u : Str → Option Value) (t : Tok) (t52 t45 : Obj) (ex : Led), m = (fun z => if z = Str.ofString "total" then some (.int (addedL (ks.take i)) t) else mapU [Str.ofString "size", Str.ofString "place", Str.ofString "factor", Str.ofString "ones", Str.ofString "rest"] u m₀ z) ∧
    TabsOk pre nx t52 t45 ex
def PowAt (kvs : List (Int × Value)) (k : Int) : Prop := ∃ t, valueAt kvs k = some (.int (16 ^ k.toNat) t)
theorem size_facts {k : Int} (h : k = 2 ∨ k = 3 ∨ k = 4 ∨ k = 6 ∨ k = 8 ∨ k = 12) : (0 : Int) < 16 ^ k.toNat - 1 ∧ Builtin.Int.intBits (16 ^ k.toNat - 1) ≤ 300 ∧ ((16 : Int) ^ Int.toNat 48 - 1) % (16 ^ k.toNat - 1) = 0 := by
  rcases h with rfl | rfl | rfl | rfl | rfl | rfl <;> decide +kernel
theorem pow_tab : ∀ n ∈ List.range 12, Builtin.Int.intBits ((16 : Int) ^ n) ≤ 64 := by decide +kernel
theorem pow_place {a k : Int} (h0 : 0 ≤ k) (h1 : k < 12) : IntMulOk a ((16 : Int) ^ k.toNat) :=
  IntMulOk.of_right (pow_tab _ (List.mem_range.mpr ((Int.toNat_lt h0).mpr h1)))
theorem added_does (w : World) (pre : Led) (t52 t45 : Obj) (l P : Addr) (oP : Obj) (its : List Value) (nn : Nat) (ks : List (Int × Int × Int)) (kvs : List (Int × Value)) (hl : (l, listOf its.toArray nn) ∈ pre) (hc : Trips pre its ks) (hlen : ks.length ≤ 5) (hok : ClsOk ks)
    (hP : (P, oP) ∈ pre) (hPd : oP.IsDictOf (PySem.intKind PySem.Challenge.rw_st0036_01.row.prog w) kvs) (h48 : PowAt kvs 48) (hks : ∀ c ∈ ks, PowAt kvs c.1) (hp45 : ∀ p ∈ pre, p.1 ≠ 45) (hp52 : ∀ p ∈ pre, p.1 ≠ 52) (ht45 : Tab45 t45 pre) (ht52 : Tab52 t52 pre) :
    DoesC w 330 3400 180 ((52, t52) :: (45, t45) :: pre) [.ref l, .ref P] (fun r news' => ∃ t t52' t45' ex, r = .int (addedL ks) t ∧ TabsOk pre news' t52' t45' ex) := by
  unfold DoesC
  k_fill
  intro p loose mean mg mb dp un gd cn cs a ccd cl outer A₀ base h₀ L m s Q E B F X N T C1 C2 hk hd hu hret
  have HS : StB s := ⟨⟩
  refine wpAny_call ?_
  k_dflt (refine' code_def ?k1 ?k2 ?k3 ?k4 ?k5 ?kA ?kF ?kK ?k6 ?k7 ?k8 ?k9 ?kB ?_ ?c2 ?c3 ?c4 ?c5; (case kA => exact rfl); (case kF => exact rfl); (case kK => assumption); (case k1 => k_asm); (case k2 => k_asm); (case k3 => k_asm); (case k4 => k_asm); (case k5 => k_asm); (case k6 => k_is); (case k7 => k_is); (case k8 => ktr_room); (case k9 => exact BindsTo.of_eq rfl); (case c5 => decide); (case kB => exact locs rfl); (case c2 => exact rfl); (case c3 => exact rfl); (case c4 => exact rfl); k_whole; intro g' L' h' FG' F' N' B' X' T'; (try dsimp only); (try k_fold))
  refine wpAny_noRaise ?_
  have C1' := C1.keeps FG'.keep
  have C2' := C2.keeps FG'.keep
  k_steps
  refine Hold.mk ?_
  rename News g' _ _ _ => N0
  rename Fr g' _ _ _ => F0
  k_dflt (refine for3h (l := l) (its := its) (nn := nn) (cs := ks) (AddJ pre ks) F0 N0 (by rfl) (by rfl) (by rfl) (by rfl) (by rfl) ?hJl ?iter ?z ?turn ?done (by first | exact PassesOwn.never | passes_own))
  case hJl =>
    rintro i m' nx ⟨u, t, t52', t45', ex, rfl, hT⟩
    rw [hT.eq]
    exact ⟨.tail _ (.tail _ (hT.sub _ hl)), hc.mono fun p hp => .tail _ (.tail _ (hT.sub _ hp))⟩
  case iter =>
    walk1
    exact ⟨rfl, _, _, rfl, by assumption, by assumption⟩
  case z =>
    exact ⟨_, _, t52, t45, pre, map_start rfl, rfl, fun _ h => h, hp45, hp52, ht45, ht52, [], rfl, fun _ h => nomatch h⟩
  case turn =>
    rintro i c t1 t2 t3 m₁ nx I oI g tk hci ⟨u, t, t52', t45', ex, rfl, ⟨rfl, hsub, hx45, hx52, hx3, hx4, ext, hxe, hxd⟩⟩ hne hltI ⟨jj, hoI⟩ F1 N1
    have hcm := List.mem_of_getElem? hci
    have hcb := hok.bd hcm
    obtain ⟨tp, hvp⟩ := hks c hcm
    obtain ⟨t48, hv48⟩ := h48
    dsimp only [put3] at F1
    k_steps
    refine Hold.mk ?_
    rename News g' _ _ _ => N2
    k_dflt (refine kda_item (knd := PySem.intKind _ _) N2 (.tail _ (.tail _ (.tail _ (hsub _ hP)))) hPd (intKind_is _ _ _ _) hv48 ?_)
    k_steps
    refine Hold.mk ?_
    rename News g' _ _ _ => N3
    k_dflt (refine kda_item (knd := PySem.intKind _ _) N3 (.tail _ (.tail _ (.tail _ (hsub _ hP)))) hPd (intKind_is _ _ _ _) hvp ?_)
    k_steps
    refine Hold.mk ?_
    rename News g' _ _ _ => N4
    have hsz := size_facts (hok c hcm).1
    have hI45 : I ≠ 45 := Nat.ne_of_gt (hltI (45, _) (.tail _ (.head _)))
    have hI52 : I ≠ 52 := Nat.ne_of_gt (hltI (52, _) (.head _))
    have hy45 : ∀ p ∈ (I, oI) :: ex, p.1 ≠ 45 := fun p hp => by
      rcases List.mem_cons.mp hp with rfl | hp
      · exact hI45
      · exact hx45 p hp
    have hy52 : ∀ p ∈ (I, oI) :: ex, p.1 ≠ 52 := fun p hp => by
      rcases List.mem_cons.mp hp with rfl | hp
      · exact hI52
      · exact hx52 p hp
    k_dflt (refine' DoesC.use (dm_does w ((I, oI) :: ex) t52' t45' (16 ^ Int.toNat 48 - 1) (16 ^ c.1.toNat - 1) _ _ (by decide +kernel) (by decide +kernel) hsz.1 hsz.2.1 hy45 hy52 (hx3.mono fun p hp => .tail _ hp) (hx4.mono fun p hp => .tail _ hp)) ?B ?F ?X (kst_newsOf N4 ?NN) ?T C1' C2' ?hk ?hd ?hu ?ret; (case B => k_asm); (case F => k_asm); (case X => k_asm); (case T => k_asm); (case hk => rfl); (case hd => first | ktr_room | omega); (case hu => ktr_units))
    case NN =>
      intro p hp
      exact Mine.Ar.Sub.use (by k_extra "sub") hp
    case ret =>
      rintro r9 news9 h9 tk9 F9 N9 ⟨T9, u1, u2, c0, c1, oc0, oc1, t45'', t52'', rfl, rfl, k1, k2, k3, k4, k5⟩
      rw [hsz.2.2] at N9
      k_steps
      refine Hold.mk ?_
      refine mul_int ?_ (pow_place hcb.2.1.1 (by omega))
      k_steps
      refine Hold.mk ?_
      rename News g' _ _ _ => N5
      rename Fr g' _ _ _ => F5
      have hc0 : c0 ≠ I := k1.neIter N5 (.tail _ (.tail _ (.tail _ (.tail _ (.head _))))) (.tail _ (.tail _ (.tail _ (.tail _ (.tail _ (.head _)))))) hoI
      have hc1 : c1 ≠ I := k2.neIter N5 (.tail _ (.tail _ (.tail _ (.head _)))) (.tail _ (.tail _ (.tail _ (.tail _ (.tail _ (.head _)))))) hoI
      refine TEnd.intro ((52, t52'') :: (45, t45'') :: (c1, oc1) :: (c0, oc0) :: ex) F5 (kst_newsOf N5 ?s1) ?s2 ?s3
      case s1 =>
        intro p hp
        exact Mine.Ar.Sub.use (by k_extra "sub") hp
      case s2 =>
        intro p hp
        revert hp; revert p
        refine Mine.Ar.all_cons ?_ (Mine.Ar.all_cons ?_ (Mine.Ar.all_cons ?_ (Mine.Ar.all_cons ?_ (fun p hp => ?_))))
        · exact hI52.symm
        · exact hI45.symm
        · exact hc1
        · exact hc0
        · exact hne p (.tail _ (.tail _ hp))
      case s3 =>
        unfold AddJ
        rw [added_take hci]
        refine ⟨_, _, t52'', t45'', (c1, oc1) :: (c0, oc0) :: ex, map_next rfl ?hm, rfl, ?a1, ?a2, ?a3, k1.toE (.tail _ (.head _)), k2.toE (.head _), (c1, oc1) :: (c0, oc0) :: ext, by rw [hxe]; rfl, ?a4⟩
        case hm =>
          intro z h1 h2
          simp only [List.contains_cons, List.contains_nil, Bool.or_false, beq_eq_false_iff_ne, ne_eq, Bool.or_eq_false_iff] at h2
          simp [put3, h1, h2, mapU]
        case a4 =>
          intro q hq
          rcases List.mem_cons.mp hq with rfl | hq
          · exact k2.fields
          rcases List.mem_cons.mp hq with rfl | hq
          · exact k1.fields
          exact hxd q hq
        case a1 => exact fun p hp => .tail _ (.tail _ (hsub p hp))
        case a2 =>
          intro p hp
          revert hp; revert p
          refine Mine.Ar.all_cons ?_ (Mine.Ar.all_cons ?_ (fun p hp => ?_))
          · exact k3.2.2.1
          · exact k3.1
          · exact hx45 p hp
        case a3 =>
          intro p hp
          revert hp; revert p
          refine Mine.Ar.all_cons ?_ (Mine.Ar.all_cons ?_ (fun p hp => ?_))
          · exact k3.2.2.2
          · exact k3.2.1
          · exact hx52 p hp
  case done =>
    rintro m₁ nx g tk ⟨u, t, t52', t45', ex, rfl, hT⟩ F1 N1
    rw [List.take_length] at F1
    have heq := hT.eq
    subst heq
    k_steps
    rename News h₀ _ _ _ => kN
    exact hret _ _ _ _ (by assumption) kN ⟨_, t52', t45', ex, rfl, hT⟩
end Mine

end
-- WsPl
section
open PySem PySem.W PySem.Spec PySem.Calls PyProof.Rows
set_option Elab.async false
set_option maxRecDepth 100000
namespace Mine
theorem said_WsPl_0 : True := by
  k_with_none
  w_top off
  k_with "lt" => first | assumption | (refine Mine.Ar.pick (by assumption) ?_; intro hh; first | exact Mine.Ar.c1 hh | exact Mine.Ar.c2 hh | exact Mine.Ar.c3 hh | exact Mine.Ar.c4 hh | exact Mine.Ar.c5 hh | exact Mine.Ar.c6 hh | exact Mine.Ar.c7 hh | exact Mine.Ar.c8 hh | exact Mine.Ar.e2 hh | exact Mine.Ar.e3 hh | exact Mine.Ar.e4 hh | fail) | exact Mine.Ar.t1 | exact Mine.Ar.t2 | exact Mine.Ar.t3 | fail
  k_with "lt2" => first | k_extra "lt" | (refine Mine.Ar.s1 ?_; k_extra "lt") | (refine Mine.Ar.s2 ?_; k_extra "lt") | (refine Mine.Ar.s3 ?_; k_extra "lt") | fail
  k_with "omega" => with_reducible (first | assumption | decide +kernel | (refine Nat.ne_of_gt ?_; k_extra "lt2") | (refine Nat.ne_of_lt ?_; k_extra "lt2") | k_extra "lt2" | exact Mine.Ar.u1 | exact Mine.Ar.u2 | exact Mine.Ar.u3 | exact Mine.Ar.v1 | exact Mine.Ar.dp0 (by assumption) | exact Mine.Ar.dp1 (by assumption) (by decide) | exact Mine.Ar.dp2 (by assumption) (by decide) | exact Mine.Ar.ll (by assumption) (by decide) | exact Mine.Ar.l0 (by assumption) (by decide) | exact Mine.Ar.lm (by assumption) (by decide) | exact Mine.Ar.gn (by assumption) (by decide) | exact Mine.Ar.ci (by decide) | exact Mine.Ar.cz | exact Mine.Ar.li (by assumption) (by decide) | exact Mine.Ar.lj (by assumption) (by decide) | exact Mine.Ar.lk (by assumption) (by decide) | exact Mine.Ar.gi (by assumption) (by decide) | exact Mine.Ar.gj (by assumption) (by decide) | exact Mine.Ar.gk (by assumption) (by decide) | exact Mine.Ar.gl (by assumption) (by decide) | exact Mine.Ar.n0 (by assumption) | exact Mine.Ar.n1 (by assumption) (by decide) | exact Mine.Ar.m0 (by assumption) | exact Mine.Ar.m1 (by assumption) (by decide) | exact And.left (by assumption) | exact And.right (by assumption) | fail)
  trivial
def leadT (n : Nat) : Str := Txt.mul (Str.ofString " ") (n : Int) ++ Str.ofString "\t"
def leadC (n : Nat) : List Nat := List.replicate n 32 ++ [9]
theorem lead_cps : ∀ n ∈ List.range 48, 1 ≤ n → (leadT n).cps.toList = leadC n := by decide +kernel
theorem lead_run : ∀ n ∈ List.range 48, (wsRun (leadC n)).cc = List.replicate n 0 ++ [1] ∧ (wsRun (leadC n)).b = 0 ∧ (wsRun (leadC n)).nt = 1 := by decide +kernel
theorem lead_il : ∀ n ∈ List.range 48, ∀ ts ∈ [2, 3, 4, 6, 8, (12 : Int)], ilSum ts (List.replicate n 0 ++ [1]) ((List.replicate n (0 : Int) ++ [1]).length - ts.toNat) = (n : Int) / ts := by decide +kernel
theorem lead_cc : ∀ n ∈ List.range 48, ∀ c ∈ List.replicate n (0 : Int) ++ [1], 0 ≤ c ∧ c ≤ 100 := by decide +kernel
theorem lead_div : ∀ n ∈ List.range 48, ∀ ts ∈ [2, 3, 4, 6, 8, (12 : Int)], (((0 : Nat) : Int) + ts * ((n : Int) / ts + ((1 : Nat) : Int))) / ts = (n : Int) / ts + 1 ∧ (((0 : Nat) : Int) + ts * ((n : Int) / ts + ((1 : Nat) : Int))) % ts = 0 ∧ 0 < (((0 : Nat) : Int) + ts * ((n : Int) / ts + ((1 : Nat) : Int))) ∧ Builtin.Int.intBits (((0 : Nat) : Int) + ts * ((n : Int) / ts + ((1 : Nat) : Int))) ≤ 300 ∧ Builtin.Int.intBits ts ≤ 300 := by decide +kernel
end Mine

end
-- MemF
section
open PySem PySem.W PySem.Spec PySem.Calls PyProof.Rows
set_option Elab.async false
set_option pp.maxSteps 3000
set_option pp.deepTerms false
set_option pp.deepTerms.threshold 6
set_option maxRecDepth 100000
set_option maxHeartbeats 2000000
namespace Mine
theorem said_MemF_0 : True := by
  k_with_none
  w_top off
  k_with "lt" => first | assumption | (refine Mine.Ar.pick (by assumption) ?_; intro hh; first | exact Mine.Ar.c1 hh | exact Mine.Ar.c2 hh | exact Mine.Ar.c3 hh | exact Mine.Ar.c4 hh | exact Mine.Ar.c5 hh | exact Mine.Ar.c6 hh | exact Mine.Ar.c7 hh | exact Mine.Ar.c8 hh | exact Mine.Ar.e2 hh | exact Mine.Ar.e3 hh | exact Mine.Ar.e4 hh | fail) | exact Mine.Ar.t1 | exact Mine.Ar.t2 | exact Mine.Ar.t3 | fail
  k_with "lt2" => first | k_extra "lt" | (refine Mine.Ar.s1 ?_; k_extra "lt") | (refine Mine.Ar.s2 ?_; k_extra "lt") | (refine Mine.Ar.s3 ?_; k_extra "lt") | fail
  k_with "omega" => with_reducible (first | assumption | decide +kernel | (refine Nat.ne_of_gt ?_; k_extra "lt2") | (refine Nat.ne_of_lt ?_; k_extra "lt2") | k_extra "lt2" | exact Mine.Ar.u1 | exact Mine.Ar.u2 | exact Mine.Ar.u3 | exact Mine.Ar.v1 | exact Mine.Ar.dp0 (by assumption) | exact Mine.Ar.dp1 (by assumption) (by decide) | exact Mine.Ar.dp2 (by assumption) (by decide) | exact Mine.Ar.ll (by assumption) (by decide) | exact Mine.Ar.l0 (by assumption) (by decide) | exact Mine.Ar.lm (by assumption) (by decide) | exact Mine.Ar.gn (by assumption) (by decide) | exact Mine.Ar.ci (by decide) | exact Mine.Ar.cz | exact Mine.Ar.li (by assumption) (by decide) | exact Mine.Ar.lj (by assumption) (by decide) | exact Mine.Ar.lk (by assumption) (by decide) | exact Mine.Ar.gi (by assumption) (by decide) | exact Mine.Ar.gj (by assumption) (by decide) | exact Mine.Ar.gk (by assumption) (by decide) | exact Mine.Ar.gl (by assumption) (by decide) | exact Mine.Ar.n0 (by assumption) | exact Mine.Ar.n1 (by assumption) (by decide) | exact Mine.Ar.m0 (by assumption) | exact Mine.Ar.m1 (by assumption) (by decide) | exact And.left (by assumption) | exact And.right (by assumption) | lia | fail)
  k_with "mem" => with_reducible (first | exact List.mem_cons_self | exact Mine.Ar.g1 | exact Mine.Ar.g2 | exact Mine.Ar.g3 | exact Mine.Ar.g4 | exact Mine.Ar.g5 | exact Mine.Ar.g6 | exact Mine.Ar.g7 | exact Mine.Ar.g8 | exact Mine.Ar.g9 | assumption | (refine List.mem_cons_of_mem _ ?_; k_extra "mem") | (refine List.mem_append_right _ ?_; k_extra "mem") | (refine List.mem_append_left _ ?_; k_extra "mem") | fail)
  k_with "sub" => with_reducible (first | exact Mine.Ar.Sub.nil | exact Mine.Ar.Sub.refl | exact Mine.Ar.Sub.t1 Mine.Ar.Sub.refl | exact Mine.Ar.Sub.t2 Mine.Ar.Sub.refl | exact Mine.Ar.Sub.t3 Mine.Ar.Sub.refl | exact Mine.Ar.Sub.t4 Mine.Ar.Sub.refl | exact Mine.Ar.Sub.t5 Mine.Ar.Sub.refl | exact Mine.Ar.Sub.t6 Mine.Ar.Sub.refl | exact Mine.Ar.Sub.t7 Mine.Ar.Sub.refl | exact Mine.Ar.Sub.t8 Mine.Ar.Sub.refl | exact Mine.Ar.Sub.t9 Mine.Ar.Sub.refl | (refine Mine.Ar.Sub.cons ?_ ?_; k_extra "mem"; k_extra "sub") | (refine Mine.Ar.Sub.app ?_ ?_; k_extra "sub"; k_extra "sub") | (refine Mine.Ar.Sub.t1 ?_; k_extra "sub") | (refine Mine.Ar.Sub.inr ?_; k_extra "sub") | (refine Mine.Ar.Sub.inl ?_; k_extra "sub") | fail)
  k_with "k_all" => first | assumption | exact all_ne_of (by assumption) (by omega) | fail
  k_with "execs cons" => ((try first | (refine' canon ?H ?F ?e ?_; (case H => assumption); (case F => assumption); (case e => exact rfl); intro _) | (refine' canonD ?H ?F ?e ?_; (case H => assumption); (case F => assumption); (case e => exact rfl); intro _ _)); (try k_fold); refine wpAny_execs_cons ?_)
  k_with "eval Call" => k_fold
  k_with "exec For Tuple Name cons nil" => refine hold_out ?_
  k_with "TPost" => refine hold_out ?_
  k_with "TEnd" => refine hold_out ?_
  k_with "call ref" => ((with_reducible show wpAny _ _ (call (Value.ref 71) _) _ _ _); refine hold_out ?_)
  k_with "call ref" => ((with_reducible show wpAny _ _ (call (Value.ref 140) _) _ _ _); refine hold_out ?_)
  k_with "call ref" => ((with_reducible show wpAny _ _ (call (Value.ref 109) _) _ _ _); refine hold_out ?_)
  trivial

def memOf (last : Int) (c : Int × Int × Int) : Int := (last - c.2.1) / c.1 + 1
def memL (last : Int) (ks : List (Int × Int × Int)) : Int := ks.foldl (fun t c => t + memOf last c) 0
theorem mem_take {last : Int} {ks : List (Int × Int × Int)} {i : Nat} {c : Int × Int × Int} (h : ks[i]? = some c) : memL last (ks.take (i + 1)) = memL last (ks.take i) + memOf last c := by
  have hs : ks.take (i + 1) = ks.take i ++ [c] := by simp [List.take_add_one, h]
  unfold memL
  rw [hs, List.foldl_append]
  rfl
def MemJ (last : Int) (pre : Led) (ks : List (Int × Int × Int)) (m₀ : Str → Option Value) (i : Nat) (m : Str → Option Value) (nx : Led) : Prop :=
  ∃ (u : Str → Option Value) (t : Tok) (t52 t45 : Obj) (ex : Led), m = (fun z => if z = Str.ofString "seen" then some (.int (memL last (ks.take i)) t) else mapU [Str.ofString "size", Str.ofString "place", Str.ofString "factor", Str.ofString "column", Str.ofString "stops", Str.ofString "rest"] u m₀ z) ∧
    TabsOk pre nx t52 t45 ex
theorem members_does (w : World) (pre : Led) (t52 t45 : Obj) (l : Addr) (its : List Value) (nn : Nat) (ks : List (Int × Int × Int)) (last : Int) (tl : Tok) (hl : (l, listOf its.toArray nn) ∈ pre) (hc : Trips pre its ks) (hlen : ks.length ≤ 5) (hok : ClsOk ks)
    (hla : 12 ≤ last) (hlb : last ≤ 47) (hp45 : ∀ p ∈ pre, p.1 ≠ 45) (hp52 : ∀ p ∈ pre, p.1 ≠ 52) (ht45 : Tab45 t45 pre) (ht52 : Tab52 t52 pre) :
    DoesC w 330 3400 187 ((52, t52) :: (45, t45) :: pre) [.ref l, .int last tl] (fun r news' => ∃ t t52' t45' ex, r = .int (memL last ks) t ∧ TabsOk pre news' t52' t45' ex) := by
  unfold DoesC
  k_fill
  intro p loose mean mg mb dp un gd cn cs a ccd cl outer A₀ base h₀ L m s Q E B F X N T C1 C2 hk hd hu hret
  have HS : StB s := ⟨⟩
  refine wpAny_call ?_
  k_dflt (refine' code_def ?k1 ?k2 ?k3 ?k4 ?k5 ?kA ?kF ?kK ?k6 ?k7 ?k8 ?k9 ?kB ?_ ?c2 ?c3 ?c4 ?c5; (case kA => exact rfl); (case kF => exact rfl); (case kK => assumption); (case k1 => k_asm); (case k2 => k_asm); (case k3 => k_asm); (case k4 => k_asm); (case k5 => k_asm); (case k6 => k_is); (case k7 => k_is); (case k8 => ktr_room); (case k9 => exact BindsTo.of_eq rfl); (case c5 => decide); (case kB => exact locs rfl); (case c2 => exact rfl); (case c3 => exact rfl); (case c4 => exact rfl); k_whole; intro g' L' h' FG' F' N' B' X' T'; (try dsimp only); (try k_fold))
  refine wpAny_noRaise ?_
  have C1' := C1.keeps FG'.keep
  have C2' := C2.keeps FG'.keep
  k_steps
  refine Hold.mk ?_
  rename News g' _ _ _ => N0
  rename Fr g' _ _ _ => F0
  k_dflt (refine for3h (l := l) (its := its) (nn := nn) (cs := ks) (MemJ last pre ks) F0 N0 (by rfl) (by rfl) (by rfl) (by rfl) (by rfl) ?hJl ?iter ?z ?turn ?done (by first | exact PassesOwn.never | passes_own))
  case hJl =>
    rintro i m' nx ⟨u, t, t52', t45', ex, rfl, hT⟩
    rw [hT.eq]
    exact ⟨.tail _ (.tail _ (hT.sub _ hl)), hc.mono fun p hp => .tail _ (.tail _ (hT.sub _ hp))⟩
  case iter =>
    walk1
    exact ⟨rfl, _, _, rfl, by assumption, by assumption⟩
  case z =>
    exact ⟨_, _, t52, t45, pre, map_start rfl, rfl, fun _ h => h, hp45, hp52, ht45, ht52, [], rfl, fun _ h => nomatch h⟩
  case turn =>
    rintro i c t1 t2 t3 m₁ nx I oI g tk hci ⟨u, t, t52', t45', ex, rfl, ⟨rfl, hsub, hx45, hx52, hx3, hx4, ext, hxe, hxd⟩⟩ hne hltI ⟨jj, hoI⟩ F1 N1
    have hcm := List.mem_of_getElem? hci
    have hcb := hok.bd hcm
    dsimp only [put3] at F1
    obtain ⟨n, hn⟩ : ∃ n : Nat, last - c.2.1 = (n : Int) := ⟨(last - c.2.1).toNat, by omega⟩
    have hnr : n ∈ List.range 48 := List.mem_range.mpr (by omega)
    have hn1 : 1 ≤ n := by omega
    have hcs : c.1 ∈ [2, 3, 4, 6, 8, (12 : Int)] := by
      simp only [List.mem_cons, List.not_mem_nil, or_false]
      exact (hok c hcm).1
    have hrun := lead_run n hnr
    rw [← lead_cps n hnr hn1] at hrun
    have hil := lead_il n hnr _ hcs
    have hdv := lead_div n hnr _ hcs
    k_steps
    refine Hold.mk ?_
    rename News g' _ _ _ => N2
    rw [hn]
    k_dflt (refine' Does.use (ws_does w ((I, oI) :: (52, t52') :: (45, t45') :: ex) (leadT n) _ ?w1 ?w2) ?B ?F ?X ?N ?T ?hk ?hd ?hu ?ret; (case B => k_asm); (case F => k_asm); (case X => k_asm); (case N => exact N2); (case T => k_asm); (case hk => rfl); (case hd => first | ktr_room | omega); (case hu => ktr_units))
    case w1 =>
      have := congrArg List.length (lead_cps n hnr hn1)
      rw [Array.length_toList, leadC, List.length_append, List.length_replicate] at this
      rw [this]
      simp
      omega
    case w2 =>
      rw [lead_cps n hnr hn1]
      intro x hx
      rcases List.mem_append.mp hx with hx | hx
      · exact .inl (List.eq_of_mem_replicate hx)
      · exact .inr (List.mem_singleton.mp hx)
    case ret =>
      rintro r9 news9 h9 tk9 F9 N9 ⟨cv, X9, d9, D1, D2, j1, j2, j3, j4, j5, t81, t82, t83, rfl, rfl, hI9, q1, q2, q3, q4⟩
      unfold wsLed at N9
      k_steps
      refine Hold.mk ?_
      clear N2
      rename News g' _ _ _ => N10
      k_dflt (refine' Does.use (il_does w ((I, oI) :: (52, t52') :: (45, t45') :: ex) (leadT n) _ cv X9 d9 D1 D2 _ j1 j2 j3 j4 j5 t81 t82 t83 hI9 q1 q2 q3 q4 ?v1 c.1 _ ?v2 ?v3 ?v4) ?B ?F ?X ?N ?T ?hk ?hd ?hu ?ret; (case B => k_asm); (case F => k_asm); (case X => k_asm); (case N => exact N10); (case T => k_asm); (case hk => rfl); (case hd => first | ktr_room | omega); (case hu => ktr_units); (case v2 => omega); (case v3 => omega))
      case v1 => rw [hrun.1, List.length_append, List.length_replicate]; show n + 1 ≤ 100; omega
      case v4 => rw [hrun.1]; exact lead_cc n hnr
      case ret =>
        rintro r8 news8 h8 tk8 F8 N8 ⟨rfl, t71, rfl⟩
        rw [hrun.1, hrun.2.1, hrun.2.2, hil]
        clear N10
        k_steps
        refine Hold.mk ?_
        rename News g' _ _ _ => N4
        have hI45 : I ≠ 45 := Nat.ne_of_gt (hltI (45, _) (.tail _ (.head _)))
        have hI52 : I ≠ 52 := Nat.ne_of_gt (hltI (52, _) (.head _))
        have hy45 : ∀ p ∈ (I, oI) :: ex, p.1 ≠ 45 := fun p hp => by
          rcases List.mem_cons.mp hp with rfl | hp
          · exact hI45
          · exact hx45 p hp
        have hy52 : ∀ p ∈ (I, oI) :: ex, p.1 ≠ 52 := fun p hp => by
          rcases List.mem_cons.mp hp with rfl | hp
          · exact hI52
          · exact hx52 p hp
        k_dflt (refine' DoesC.use (dm_does w ((I, oI) :: ex) t52' t45' _ c.1 _ _ hdv.2.2.1 hdv.2.2.2.1 (by omega) hdv.2.2.2.2 hy45 hy52 (hx3.mono fun p hp => .tail _ hp) (hx4.mono fun p hp => .tail _ hp)) ?B ?F ?X (kst_newsOf N4 ?NN) ?T C1' C2' ?hk ?hd ?hu ?ret; (case B => k_asm); (case F => k_asm); (case X => k_asm); (case T => k_asm); (case hk => rfl); (case hd => first | ktr_room | omega); (case hu => ktr_units))
        case NN =>
          intro p hp
          unfold wsLed
          exact Mine.Ar.Sub.use (by k_extra "sub") hp
        case ret =>
          rintro r9 news9 h9 tk9 F9 N9 ⟨T9, u1, u2, c0, c1, oc0, oc1, t45'', t52'', rfl, rfl, k1, k2, k3, k4, k5⟩
          rw [hdv.1, hdv.2.1] at N9
          clear N4
          k_steps
          refine Hold.mk ?_
          rename News g' _ _ _ => N5
          rename Fr g' _ _ _ => F5
          have hc0 : c0 ≠ I := k1.neIter N5 (.tail _ (.tail _ (.tail _ (.tail _ (.head _))))) (.tail _ (.tail _ (.tail _ (.tail _ (.tail _ (.head _)))))) hoI
          have hc1 : c1 ≠ I := k2.neIter N5 (.tail _ (.tail _ (.tail _ (.head _)))) (.tail _ (.tail _ (.tail _ (.tail _ (.tail _ (.head _)))))) hoI
          refine TEnd.intro ((52, t52'') :: (45, t45'') :: (c1, oc1) :: (c0, oc0) :: ex) F5 (kst_newsOf N5 ?s1) ?s2 ?s3
          case s1 =>
            intro p hp
            exact Mine.Ar.Sub.use (by k_extra "sub") hp
          case s2 =>
            intro p hp
            revert hp; revert p
            refine Mine.Ar.all_cons ?_ (Mine.Ar.all_cons ?_ (Mine.Ar.all_cons ?_ (Mine.Ar.all_cons ?_ (fun p hp => ?_))))
            · exact hI52.symm
            · exact hI45.symm
            · exact hc1
            · exact hc0
            · exact hne p (.tail _ (.tail _ hp))
          case s3 =>
            have e9 : memL last (ks.take (i + 1)) = memL last (ks.take i) + ((n : Int) / c.1 + 1) := by rw [mem_take hci, memOf, hn]
            unfold MemJ
            rw [e9]
            refine ⟨_, _, t52'', t45'', (c1, oc1) :: (c0, oc0) :: ex, map_next rfl ?hm, rfl, ?a1, ?a2, ?a3, k1.toE (.tail _ (.head _)), k2.toE (.head _), (c1, oc1) :: (c0, oc0) :: ext, by rw [hxe]; rfl, ?a4⟩
            case hm =>
              intro z h1 h2
              simp only [List.contains_cons, List.contains_nil, Bool.or_false, beq_eq_false_iff_ne, ne_eq, Bool.or_eq_false_iff] at h2
              simp [put3, h1, h2, mapU]
            case a4 =>
              intro q hq
              rcases List.mem_cons.mp hq with rfl | hq
              · exact k2.fields
              rcases List.mem_cons.mp hq with rfl | hq
              · exact k1.fields
              exact hxd q hq
            case a1 => exact fun p hp => .tail _ (.tail _ (hsub p hp))
            case a2 =>
              intro p hp
              revert hp; revert p
              refine Mine.Ar.all_cons ?_ (Mine.Ar.all_cons ?_ (fun p hp => ?_))
              · exact k3.2.2.1
              · exact k3.1
              · exact hx45 p hp
            case a3 =>
              intro p hp
              revert hp; revert p
              refine Mine.Ar.all_cons ?_ (Mine.Ar.all_cons ?_ (fun p hp => ?_))
              · exact k3.2.2.2
              · exact k3.2.1
              · exact hx52 p hp
  case done =>
    rintro m₁ nx g tk ⟨u, t, t52', t45', ex, rfl, hT⟩ F1 N1
    rw [List.take_length] at F1
    have heq := hT.eq
    subst heq
    k_steps
    rename News h₀ _ _ _ => kN
    exact hret _ _ _ _ (by assumption) kN ⟨_, t52', t45', ex, rfl, hT⟩
end Mine

end
-- Lib7
section
open PySem PySem.W PySem.Spec PySem.Calls PyProof.Rows PyProof.Rows.LCg PyProof.Rows.LCt
set_option Elab.async false
set_option maxRecDepth 100000
set_option maxHeartbeats 4000000
namespace Mine
theorem said_Lib7_0 : True := by
  k_with_none
  w_top off
  k_with "lt" => first | assumption | (refine Mine.Ar.pick (by assumption) ?_; intro hh; first | exact Mine.Ar.c1 hh | exact Mine.Ar.c2 hh | exact Mine.Ar.c3 hh | exact Mine.Ar.c4 hh | exact Mine.Ar.c5 hh | exact Mine.Ar.c6 hh | exact Mine.Ar.c7 hh | exact Mine.Ar.c8 hh | exact Mine.Ar.e2 hh | exact Mine.Ar.e3 hh | exact Mine.Ar.e4 hh | fail) | exact Mine.Ar.t1 | exact Mine.Ar.t2 | exact Mine.Ar.t3 | fail
  k_with "lt2" => first | k_extra "lt" | (refine Mine.Ar.s1 ?_; k_extra "lt") | (refine Mine.Ar.s2 ?_; k_extra "lt") | (refine Mine.Ar.s3 ?_; k_extra "lt") | fail
  k_with "omega" => with_reducible (first | assumption | decide +kernel | (refine Nat.ne_of_gt ?_; k_extra "lt2") | (refine Nat.ne_of_lt ?_; k_extra "lt2") | k_extra "lt2" | exact Mine.Ar.u1 | exact Mine.Ar.u2 | exact Mine.Ar.u3 | exact Mine.Ar.v1 | exact Mine.Ar.dp0 (by assumption) | exact Mine.Ar.dp1 (by assumption) (by decide) | exact Mine.Ar.dp2 (by assumption) (by decide) | exact Mine.Ar.ll (by assumption) (by decide) | exact Mine.Ar.l0 (by assumption) (by decide) | exact Mine.Ar.lm (by assumption) (by decide) | exact Mine.Ar.gn (by assumption) (by decide) | exact Mine.Ar.ci (by decide) | exact Mine.Ar.cz | exact Mine.Ar.li (by assumption) (by decide) | exact Mine.Ar.lj (by assumption) (by decide) | exact Mine.Ar.lk (by assumption) (by decide) | exact Mine.Ar.gi (by assumption) (by decide) | exact Mine.Ar.gj (by assumption) (by decide) | exact Mine.Ar.gk (by assumption) (by decide) | exact Mine.Ar.gl (by assumption) (by decide) | exact Mine.Ar.n0 (by assumption) | exact Mine.Ar.n1 (by assumption) (by decide) | exact Mine.Ar.m0 (by assumption) | exact Mine.Ar.m1 (by assumption) (by decide) | exact And.left (by assumption) | exact And.right (by assumption) | lia | fail)
  trivial
section
variable {prog : Program} {w : World} {A : Around} {E : Value → Shared → Prop} {s : Shared} {h₀ : Heap} {L : Addr} {m : Str → Option Value} {env : Env} {knd : KeyKind prog w Int}
/-- what a comprehension with a test over a dict's keys asks of its source -/
def KeySrc (prog : Program) (w : World) (knd : KeyKind prog w Int) (A : Around) (h₀ : Heap) (L : Addr) (m : Str → Option Value) (env : Env) (ct elt : Expr) (x : Str) (scope : Scope) (cl : List (Str × Addr)) (Q : Value → Shared → Prop) (xv : Value) (s₁ : Shared) : Prop :=
  ∃ (d : Addr) (o : Obj) (kvs : List (Int × Value)) (news : Led), xv = .ref d ∧ A.handled = none ∧ Fr h₀ L s₁.heap m ∧ News h₀ L s₁.heap news ∧ (d, o) ∈ news ∧ o.IsDictOf knd kvs ∧ (d == sysModules) = false ∧ kvs.length ≤ sizeLine ∧
    ∀ s₂ : Shared, (∃ h, s₂ = { s₁ with heap := h }) → CompRestT prog w A h₀ L m env ct elt x scope cl s₂ (fun nw => (d, o) ∈ nw) (fun i v => ∃ k x, kvs[i]? = some (k, x) ∧ knd.is k v = true) (FinE h₀ L m s₂ Q) kvs.length 0 [] news
theorem ListComp_K {ct elt iter : Expr} {x : Str} {px : Pos} {scope : Scope} {cl : List (Str × Addr)} {pos : Pos} {Q : Value → Shared → Prop} (_F : Fr h₀ L s.heap m)
    (hclos : closureFor scope env = pure cl) (hcell : ∀ y ∈ scope.names, y.2 ≠ .cell) (hkind : scope.kind = .function)
    (hnames : ∀ y ∈ scope.names, y.2 = .local → scope.names.lookup y.1 = some .local) (hx : scope.names.lookup x = some .local)
    (h : wpAny (model prog w) A (eval iter env) (KeySrc prog w knd A h₀ L m env ct elt x scope cl Q) E s)
    (hs : ∀ x, foldedSetIterable iter env x = pure x := by intro _; rfl) :
    wpAny (model prog w) A (eval (.ListComp elt [⟨.Name x px, iter, [ct], 0⟩] scope pos) env) Q E s := by
  rw [eval_ListComp]
  refine wpAny_comprehension_free (use := none) rfl hs hclos hkind hnames (wpAny_mono h (fun xv s₁ h₁ => ?_) fun _ _ e => e)
  obtain ⟨d, o, kvs, news, rfl, hh, F, N, hm, hd, lo, hsz, R⟩ := h₁
  obtain ⟨ep, ha⟩ := KdkAt.of hd
  have hdat := ha.dictAt (N _ hm).1
  have hlt : d < s₁.heap.objs.size := Heap.lt_size (N _ hm).1
  refine wpAny_pyIter_dict lo hdat ?_
  have up : ∀ b q, s₁.heap.get? b = some q → (s₁.heap.push { cls := .type "dict_keyiterator", data := .fields #[.ref d, .int 0 0, .int kvs.length 0, .int ep 0] }).get? b = some q := fun b q e => Heap.get?_push_of_some _ e
  refine block_T (Walks.dictKeys hh s₁.heap.objs.size d (Nat.ne_of_lt hlt) kvs ep) hsz (fun i h st => by obtain ⟨o, e, _⟩ := st.1; exact ⟨o, e⟩) ?_ hcell hkind hx ⟨⟨_, Heap.get?_push_size _ rfl, rfl, rfl⟩, hdat.at' fun q e => up _ q e⟩ (fun b hb => ?_)
    (F.keeps up) (N.grown up) (Nat.ne_of_lt F.ns.lt) (next_is_new F) (fun p hp => Nat.ne_of_lt (Heap.lt_size (N p hp).1)) hm (R _ ⟨_, rfl⟩) ?_
  · intro i h h' q nw st e e' k N' S'
    refine ⟨?_, ha.dictAt (N' _ S').1⟩
    obtain ⟨q', e1, r⟩ := st.1
    rw [e] at e1
    cases e1
    exact ⟨q, e', r⟩
  · show b < (s₁.heap.push _).objs.size
    rw [Heap.size_push]
    rcases List.mem_cons.mp hb with rfl | hb
    · exact Nat.lt_succ_self _
    · rw [List.mem_singleton.mp hb]
      exact Nat.lt_succ_of_lt hlt
  · intro D C h tk m' ys news' F' N' o1 hn hC₀ hD₀ hCL hDL hCD offC fin
    refine ⟨m', hn, fun h'' hs'' => fin D h'' tk (F'.change hs'' hCL hC₀) (fun p hp => ?_) o1⟩
    refine ⟨hs''.extBut _ _ ?_ (N' p hp).1, (N' p hp).2⟩
    rcases List.mem_cons.mp hp with rfl | hp
    · exact Ne.symm hCD
    · exact offC p hp
/-- every turn's test fails -/
theorem crestT_none {ct elt : Expr} {x : Str} {scope : Scope} {cl : List (Str × Addr)} {S : Led → Prop} {P : Nat → Value → Prop} {Fin : List Value → Led → Prop} {news : Led} (n : Nat)
    (turn : ∀ (i : Nat) v I oI C oC D m₂ h tk (E' : Value → Shared → Prop) (rest : Value → Led → Prop), i < n → P i v → NsObj oC m₂ → m₂ x = some v → Fr h₀ L h m → News h₀ L h ((I, oI) :: (C, oC) :: (D, lst []) :: news) → Off3 I C D news → ((@Ne Nat I C) ∧ (@Ne Nat I D) ∧ (@Ne Nat C D)) → (∀ y, rest y news) →
      wpAny (model prog w) A (isTrue ct (compEnvC scope cl C env) (eval ct (compEnvC scope cl C env))) (fun ok s' => ok = false ∧ CompEnd h₀ L m { s with heap := h, toks := tk } I oI C oC D (lst []) S rest Value.none s') E' { s with heap := h, toks := tk })
    (fin : Fin [] news) : ∀ (k i : Nat), i + k = n → CompRestT prog w A h₀ L m env ct elt x scope cl s S P Fin k i [] news
  | 0, _, _ => CompRestT.zero fin
  | k + 1, i, hik => by
    refine CompRestT.succ ?_
    intro v I oI C oC D m₂ h tk E' hP hC hx F N off ne
    refine wpAny_mono (turn i v I oI C oC D m₂ h tk E' (fun _ news' => CompRestT prog w A h₀ L m env ct elt x scope cl s S P Fin k (i + 1) [] news') (by omega) hP hC hx F N off ne fun _ => crestT_none n turn fin k (i + 1) (by omega)) (fun ok s' h' => ?_) fun _ _ e => e
    obtain ⟨rfl, h2⟩ := h'
    rw [if_neg (by decide)]
    exact h2
end
end Mine

end
-- PowF
section
open PyProof.Rows.LCg PyProof.Rows.LCt
open PySem PySem.W PySem.Spec PySem.Calls PyProof.Rows
set_option Elab.async false
set_option pp.maxSteps 3000
set_option pp.deepTerms false
set_option pp.deepTerms.threshold 6
set_option maxRecDepth 100000
set_option maxHeartbeats 2000000
namespace Mine
theorem said_PowF_0 : True := by
  k_with_none
  w_top off
  k_with "lt" => first | assumption | (refine Mine.Ar.pick (by assumption) ?_; intro hh; first | exact Mine.Ar.c1 hh | exact Mine.Ar.c2 hh | exact Mine.Ar.c3 hh | exact Mine.Ar.c4 hh | exact Mine.Ar.c5 hh | exact Mine.Ar.c6 hh | exact Mine.Ar.c7 hh | exact Mine.Ar.c8 hh | exact Mine.Ar.e2 hh | exact Mine.Ar.e3 hh | exact Mine.Ar.e4 hh | fail) | exact Mine.Ar.t1 | exact Mine.Ar.t2 | exact Mine.Ar.t3 | fail
  k_with "lt2" => first | k_extra "lt" | (refine Mine.Ar.s1 ?_; k_extra "lt") | (refine Mine.Ar.s2 ?_; k_extra "lt") | (refine Mine.Ar.s3 ?_; k_extra "lt") | fail
  k_with "omega" => with_reducible (first | assumption | decide +kernel | (refine Nat.ne_of_gt ?_; k_extra "lt2") | (refine Nat.ne_of_lt ?_; k_extra "lt2") | k_extra "lt2" | exact Mine.Ar.u1 | exact Mine.Ar.u2 | exact Mine.Ar.u3 | exact Mine.Ar.v1 | exact Mine.Ar.dp0 (by assumption) | exact Mine.Ar.dp1 (by assumption) (by decide) | exact Mine.Ar.dp2 (by assumption) (by decide) | exact Mine.Ar.ll (by assumption) (by decide) | exact Mine.Ar.l0 (by assumption) (by decide) | exact Mine.Ar.lm (by assumption) (by decide) | exact Mine.Ar.gn (by assumption) (by decide) | exact Mine.Ar.ci (by decide) | exact Mine.Ar.cz | exact Mine.Ar.li (by assumption) (by decide) | exact Mine.Ar.lj (by assumption) (by decide) | exact Mine.Ar.lk (by assumption) (by decide) | exact Mine.Ar.gi (by assumption) (by decide) | exact Mine.Ar.gj (by assumption) (by decide) | exact Mine.Ar.gk (by assumption) (by decide) | exact Mine.Ar.gl (by assumption) (by decide) | exact Mine.Ar.n0 (by assumption) | exact Mine.Ar.n1 (by assumption) (by decide) | exact Mine.Ar.m0 (by assumption) | exact Mine.Ar.m1 (by assumption) (by decide) | exact And.left (by assumption) | exact And.right (by assumption) | lia | fail)
  k_with "mem" => with_reducible (first | exact List.mem_cons_self | exact Mine.Ar.g1 | exact Mine.Ar.g2 | exact Mine.Ar.g3 | exact Mine.Ar.g4 | exact Mine.Ar.g5 | exact Mine.Ar.g6 | exact Mine.Ar.g7 | exact Mine.Ar.g8 | exact Mine.Ar.g9 | assumption | (refine List.mem_cons_of_mem _ ?_; k_extra "mem") | (refine List.mem_append_right _ ?_; k_extra "mem") | (refine List.mem_append_left _ ?_; k_extra "mem") | fail)
  k_with "sub" => with_reducible (first | exact Mine.Ar.Sub.nil | exact Mine.Ar.Sub.refl | exact Mine.Ar.Sub.t1 Mine.Ar.Sub.refl | exact Mine.Ar.Sub.t2 Mine.Ar.Sub.refl | exact Mine.Ar.Sub.t3 Mine.Ar.Sub.refl | exact Mine.Ar.Sub.t4 Mine.Ar.Sub.refl | exact Mine.Ar.Sub.t5 Mine.Ar.Sub.refl | exact Mine.Ar.Sub.t6 Mine.Ar.Sub.refl | exact Mine.Ar.Sub.t7 Mine.Ar.Sub.refl | exact Mine.Ar.Sub.t8 Mine.Ar.Sub.refl | exact Mine.Ar.Sub.t9 Mine.Ar.Sub.refl | (refine Mine.Ar.Sub.cons ?_ ?_; k_extra "mem"; k_extra "sub") | (refine Mine.Ar.Sub.app ?_ ?_; k_extra "sub"; k_extra "sub") | (refine Mine.Ar.Sub.t1 ?_; k_extra "sub") | (refine Mine.Ar.Sub.inr ?_; k_extra "sub") | (refine Mine.Ar.Sub.inl ?_; k_extra "sub") | fail)
  k_with "execs cons" => ((try first | (refine' canon ?H ?F ?e ?_; (case H => assumption); (case F => assumption); (case e => exact rfl); intro _) | (refine' canonD ?H ?F ?e ?_; (case H => assumption); (case F => assumption); (case e => exact rfl); intro _ _)); (try k_fold); refine wpAny_execs_cons ?_)
  k_with "eval Call" => k_fold
  k_with "eval ListComp" => refine hold_out ?_
  k_with "pyIter ref" => refine hold_out ?_
  k_with "LPostU" => refine hold_out ?_
  k_with "setItem ref int" => refine hold_out ?_
  k_with "subscriptTail" => refine hold_out ?_
  k_with "compareOp NotIn int ref" => refine hold_out ?_
  k_with "exec For Name BinOp cons nil" => refine hold_out ?_
  k_with "exec For Name BinOp" => refine hold_out ?_
  k_with "call ref" => ((with_reducible show wpAny _ _ (call (Value.ref 29) _) _ _ _); refine hold_out ?_)
  trivial

theorem saidx_PowF_0 : True := by
  k_with "exec For Name BinOp cons nil" => (k_here; (rename Fr _ _ _ _ => kFq'); (with_unfolding_all refine' For_L kFq' rfl ?_ ?ks); (case ks => (intro _; with_unfolding_all rfl)))
  trivial
theorem DoesD.use {w : World} {D U : Nat} {f : Addr} {news : Led} {vs : List Value} {R : Value → Led → Prop} {p : Program} {loose : List Str} {mean : ExcName → Option Value} {mg mb : Str → Option Value}
    {dp un : Nat} {gd : Option (List Code)} {cn : Str} {cs : Scope} {a : Addr} {ccd : Value} {cl : List (Str × Addr)} {outer : List Env} {A₀ : Around} {base h₀ : Heap} {L : Addr} {m : Str → Option Value} {s : Shared} {Q E : Value → Shared → Prop}
    (C : DoesD w D U f news vs R) (B : Below A₀ base outer h₀) (F : Fr h₀ L s.heap m) (X : (Mine.hd.heap_39 w.params).In h₀) (N : News h₀ L s.heap news) (T : Top p loose mean mg mb h₀) (hk : cs.kind = .function) (hd : dp + D < recursionLimit) (hu : un + U < cLine)
    (ret : ∀ r news' h' tk' dr', Fr h₀ L h' m → News h₀ L h' news' → R r news' → Q r { s with heap := h', toks := tk', drawn := dr' }) :
    wpAny (model PySem.Challenge.rw_st0036_01.row.prog w) (ktrTop dp un gd cn cs L a ccd cl outer) (call (.ref f) vs) Q E s :=
  C p loose mean mg mb dp un gd cn cs a ccd cl outer A₀ base h₀ L m s Q E B F X N T hk hd hu ret
def PwL (w : World) (cT P : Addr) (x3 : Addr × Obj) (news : Led) (l : List Int) (m₀ : Str → Option Value) (i : Nat) (m : Str → Option Value) (nx : Led) : Prop :=
  ∃ (oP oC : Obj) (kvs : List (Int × Value)) (v : Option Value) (u : Str → Option Value), nx = x3 :: (P, oP) :: (cT, oC) :: news ∧ oC.data = .cell v ∧ oP.IsDictOf (PySem.intKind PySem.Challenge.rw_st0036_01.row.prog w) kvs ∧ PowOk kvs ∧ (∀ x ∈ l.take i, ∃ u, (x, u) ∈ kvs) ∧ kvs.length ≤ i ∧
    m = mapU [Str.ofString "k"] u m₀
theorem wide_mem {s : Int} (h : s = 2 ∨ s = 3 ∨ s = 4 ∨ s = 6 ∨ s = 8 ∨ s = 12) : s ∈ ([2, 3, 4, 6, 8, 12] : List Int) := by
  rcases h with rfl | rfl | rfl | rfl | rfl | rfl <;> decide
theorem wide_tab : ∀ t ∈ ([48, 2, 3, 4, 6, 8, 12] : List Int), 0 ≤ t ∧ t ≤ 48 ∧ 2 * t / 2 = t ∧ (2 * t = 4 ∨ 2 * t = 6 ∨ 2 * t = 8 ∨ 2 * t = 12 ∨ 2 * t = 16 ∨ 2 * t = 24 ∨ 2 * t = 96) := by decide
theorem powers_does (w : World) (news : Led) (l : Addr) (its : List Value) (nn : Nat) (ks : List (Int × Int × Int)) (hl : (l, listOf its.toArray nn) ∈ news) (hc : Trips news its ks) (hlen : ks.length ≤ 5) (hok : ClsOk ks) :
    DoesD w 6 150 168 news [.ref l] (fun r news' => ∃ (P : Addr) (oP : Obj) (kvs : List (Int × Value)), r = .ref P ∧ news' = (P, oP) :: news ∧ (P == sysModules) = false ∧ (∀ p ∈ news, p.1 < P) ∧ oP.IsDictOf (PySem.intKind PySem.Challenge.rw_st0036_01.row.prog w) kvs ∧ PowOk kvs ∧ (∃ u, ((48 : Int), u) ∈ kvs) ∧ (∀ c ∈ ks, ∃ u, (c.1, u) ∈ kvs) ∧ kvs.length ≤ 10) := by
  unfold DoesD
  k_fill
  intro p loose mean mg mb dp un gd cn cs a ccd cl outer A₀ base h₀ L m s Q E B F X N T hk hd hu hret
  have HS : StB s := ⟨⟩
  refine wpAny_call ?_
  k_dflt (refine' code_defC ?k1 ?k2 ?k3 ?k4 ?k5 ?kA ?kF ?kK ?k6 ?k7 ?k8 ?k9 ?kB ?kD ?_ ?c2 ?c3 ?c4; (case kA => exact rfl); (case kF => exact rfl); (case kK => assumption); (case k1 => k_asm); (case k2 => k_asm); (case k3 => k_asm); (case k4 => k_asm); (case k5 => k_asm); (case k6 => k_is); (case k7 => k_is); (case k8 => ktr_room); (case k9 => exact BindsTo.of_eq rfl); (case kB => exact rfl); (case kD => decide +kernel); (case c2 => exact rfl); (case c3 => exact rfl); (case c4 => exact rfl); k_whole; intro g' L' h' tk' cells' FG' F' N' Y' B' X' T' l1; k_cells Y'; (try simp only [List.cons_append, List.nil_append] at N'); (try dsimp only); (try k_fold))
  refine wpAny_noRaise ?_
  k_steps
  refine Hold.mk ?_
  rename News g' _ _ _ => N0
  rename Fr g' _ _ _ => F0
  rename PyProof.V.FlatPairs PyData.str _ _ => fs
  clear fs
  rename PyProof.V.FlatPairs PyData.int _ _ => fs
  clear fs
  rename Obj.IsDictOf (PySem.strKind _ _) _ _ => fs
  clear fs
  rename Obj.IsDictOf (PySem.intKind _ _) _ _ => hd0
  rename (_ == sysModules) = false => lo0
  rename_i oT dT _ dP _ oP lP _ _ l48 _ ll
  k_dflt (refine comp3 (its := its) (nn := nn) (cs := ks) (fun i ys => IntsAre ys ((ks.map (·.1)).take i)) F0 N0 (by with_unfolding_all rfl) (by decide) (by rfl) (by decide) (by rfl) (by rfl) (by rfl) (by decide) (by decide) (by decide) (by rfl) (.tail _ (.tail _ (.tail _ hl))) (hc.mono fun _ h => .tail _ (.tail _ (.tail _ h))) (Nat.le_trans hlen (by decide)) ?iter ?z ?turn ?done)
  case iter =>
    walk1
    exact ⟨rfl, _, _, rfl, F0, N0⟩
  case z => exact .nil
  case turn =>
    intro i c t1 t2 t3 ys I oI C oC D m₂ g tk E' hi hJ hC hx1 hx2 hx3 F₁ N₁ off ne
    show wpAny _ _ (pure true) _ _ _
    refine wpAny_pure ?_
    rw [if_pos rfl]
    clear hret
    k_steps
    refine CEnd.intro (by assumption) (by assumption) ?_
    have e9 : (ks.map (·.1)).take (i + 1) = (ks.map (·.1)).take i ++ [c.1] := by
      rw [List.take_add_one, List.getElem?_map, hi]; rfl
    rw [e9]
    exact hJ.append (.cons _ _ .nil)
  case done =>
    intro ys D g tk hJ F₁ N₁ off
    rw [List.take_of_length_le (by simp)] at hJ
    clear F0 N0
    k_steps
    refine Hold.mk ?_
    rename News g' _ _ _ => N6
    rename Fr g' _ _ _ => F6
    rename_i Dw ws _ hIw lw
    have hlenw := hIw.length
    have hlk : ([48] ++ List.map (fun x => x.1) ks : List Int).length ≤ 6 := by simp; omega
    obtain ⟨m₀, hm₀, F7⟩ := ex_map (P := Fr g' L' _) F6
    refine li_fresh (vs := ws) (l := Dw) (news := (Dw, listOf ws.toArray 0) :: (dP, oP) :: (L' + 1, oT) :: news) F6 (kst_newsOf N6 ?sub) (.head _) ?_
    case sub =>
      intro p hp
      exact Mine.Ar.Sub.use (by k_extra "sub") hp
    intro I h9 hI9
    refine' (?h : ∀ (k i : Nat) (m1 : Str → Option Value) (nx1 : Led), i + k = ws.length → PwL w (L' + 1) dP (Dw, listOf ws.toArray 0) news ([48] ++ List.map (fun x => x.1) ks) m₀ i m1 nx1 → UnrL _ _ _ _ _ _ _ _ _ _ _ _ _ _ k i m1 nx1) _ 0 _ _ (by omega) ?init
    case init => exact ⟨oP, oT, _, _, _, rfl, dT, hd0, powOk_nil, (fun _ h => by simp at h), Nat.le_refl _, by rw [hm₀]; exact mapU_self fun _ _ => rfl⟩
    case h =>
      subst hm₀
      clear hd0 N6 F6 dT F7
      intro k
      induction k with
      | zero =>
        rintro i m1 nx1 hik ⟨oP2, oC2, kvs, v2, u9, rfl, hdc, hdo, hpo, hks, hle, rfl⟩
        refine UnrL.zero ?_
        intro h9 tk9 dr9 F9 N9
        k_steps
        rename News h₀ _ _ _ => kN
        rw [List.take_of_length_le (by omega)] at hks
        refine hret _ _ _ _ _ (by assumption) (kst_newsOf kN (l' := (dP, oP2) :: news) fun p hp => ?_) ⟨dP, oP2, kvs, rfl, rfl, lo0, fun p hp => ktn_ltOf lP.2 p hp, hdo, hpo, hks 48 (.head _), fun c hc9 => hks c.1 (List.mem_append_right _ (List.mem_map.mpr ⟨c, hc9, rfl⟩)), by omega⟩
        rcases List.mem_cons.mp hp with rfl | hp
        · exact .tail _ (.head _)
        · exact .tail _ (.tail _ (.tail _ hp))
      | succ k ih =>
        rintro i m1 nx1 hik ⟨oP2, oC2, kvs, v2, u9, rfl, hdc, hdo, hpo, hks, hle, rfl⟩
        have hi : i < ([48] ++ List.map (fun x => x.1) ks : List Int).length := by omega
        obtain ⟨to, hx⟩ := hIw.get i _ (List.getElem?_eq_getElem hi)
        have htk : ([48] ++ List.map (fun x => x.1) ks : List Int).take (i + 1) = ([48] ++ List.map (fun x => x.1) ks : List Int).take i ++ [([48] ++ List.map (fun x => x.1) ks : List Int)[i]] := by rw [List.take_add_one, List.getElem?_eq_getElem hi]; rfl
        have hmm : ([48] ++ List.map (fun x => x.1) ks : List Int)[i] ∈ ([48] ++ List.map (fun x => x.1) ks : List Int) := List.getElem_mem hi
        generalize ([48] ++ List.map (fun x => x.1) ks : List Int)[i] = t at hx htk hmm
        have htt := wide_tab t (by
          rcases List.mem_append.mp hmm with h | h
          · rw [List.mem_singleton.mp h]; exact .head _
          · obtain ⟨c, hc1, rfl⟩ := List.mem_map.mp h
            exact .tail _ (wide_mem (hok c hc1).1))
        have ht0 : 0 ≤ t := htt.1
        have ht1 : t ≤ 48 := htt.2.1
        have hik2 : i + 1 + k = ws.length := by omega
        have hle9 : kvs.length ≤ 10 := by omega
        refine UnrL.succ _ hx ?_
        intro h9 tk9 dr9 F9 N9
        k_steps
        refine Hold.mk ?_
        rename News g' _ _ _ => N1
        k_dflt (refine' DoesD.use (cp_any w _ (2 * t) _ _ _ htt.2.2.2) ?B ?F ?X ?N ?T ?hk ?hd ?hu ?ret; (case B => k_asm); (case F => k_asm); (case X => k_asm); (case N => exact N1); (case T => k_asm); (case hk => rfl); (case hd => first | ktr_room | omega); (case hu => ktr_units))
        case ret =>
          rintro r9 news9 h8 tk8 dr8 F8 N8 ⟨T9, oT9, kvt, rfl, rfl, loT, hltT, hdT, hpT, ⟨uT, hkT⟩, hlT⟩
          rw [htt.2.2.1] at hkT
          obtain ⟨vT, hvT⟩ := has_val hkT
          obtain ⟨tT, rfl⟩ := pow_val hpT hvT
          clear N1
          k_steps
          have hcT : @LT.lt Nat _ (L' + 1) T9 := hltT (L' + 1, oC2) (.tail _ (.tail _ (.tail _ (.head _))))
          have hcI : @LT.lt Nat _ (L' + 1) I := hI9 (L' + 1, oT) (.tail _ (.tail _ (.head _)))
          have hcW : @LT.lt Nat _ (L' + 1) Dw := lw.2.2.2.1
          have hcP : @LT.lt Nat _ (L' + 1) dP := lP.1
          k_dflt (refine store_cell (pre := [(T9, oT9), (I, liObj Dw (i + 1)), (Dw, listOf ws.toArray 0), (dP, oP2)]) (post := news) (c := L' + 1) (o := oC2) F8 N8 ?_ ?_ (by rfl) hdc (by rfl) (by rfl) ?_)
          · intro p hp
            revert hp; revert p
            refine Mine.Ar.all_cons ?_ (Mine.Ar.all_cons ?_ (Mine.Ar.all_cons ?_ (Mine.Ar.all_cons ?_ (Mine.Ar.all_nil))))
            · exact Nat.ne_of_gt hcT
            · exact Nat.ne_of_gt hcI
            · exact Nat.ne_of_gt hcW
            · exact Nat.ne_of_gt hcP
          · intro p hp
            have : @LT.lt Nat _ p.1 L' := l1 p hp
            exact Nat.ne_of_lt (Nat.lt_succ_of_lt this)
          intro g1 oC3 F2 N2 hdc2
          dsimp only [List.cons_append, List.nil_append] at N2
          clear F8 N8
          k_steps
          refine Hold.mk ?_
          rename News g' _ _ _ => N3
          rename Fr g' _ _ _ => F3
          with_reducible refine kdg_notin (knd := PySem.intKind _ _) (by k_dflt exact N3) (by k_dflt exact .head _) hdT loT (intKind_is _ _ _ _) true (by k_dflt (rw [hvT]; rfl)) ?_
          k_steps
          refine Hold.mk ?_
          rename News g' _ _ _ => N3
          rename Fr g' _ _ _ => F3
          k_dflt (refine ListComp_K (knd := PySem.intKind _ w) F3 (by with_unfolding_all rfl) (by decide) (by rfl) (by decide) (by rfl) ?_)
          walk1
          refine ⟨T9, oT9, kvt, _, rfl, rfl, F3, N3, .head _, hdT, loT, Nat.le_trans hlT (by decide), ?_⟩
          rintro s₂ ⟨hh2, rfl⟩
          refine crestT_none kvt.length ?turn9 ?fin9 _ 0 (Nat.zero_add _)
          case turn9 =>
            rintro i9 v9 I9 oI9 C9 oC9 D9 m9 h9 tk9 E9 rest hi9 ⟨kk, x9, hkx, hkv⟩ hC hx9 F9 N9 off9 ne9 hrest
            obtain ⟨t9, rfl⟩ := Value.isInt_shape hkv
            have hkm := List.mem_of_getElem? hkx
            obtain ⟨hk0, hk48, _⟩ := hpT _ hkm
            dsimp only at hk0 hk48
            obtain ⟨v8, hv8⟩ := has_val hkm
            obtain ⟨t8, rfl⟩ := pow_val hpT hv8
            clear hret
            k_steps
            refine Hold.mk ?_
            rename News g' _ _ _ => N4
            with_reducible refine kda_item (knd := PySem.intKind _ _) (by k_dflt exact N4) (by k_dflt exact .tail _ (.tail _ (.tail _ (.head _)))) hdT (intKind_is _ _ _ _) hv8 ?_
            k_steps
            · simp
            · rename News g' _ _ _ => N5
              rename Fr g' _ _ _ => F5
              exact CompEnd.intro F5 N5 _ (fun _ h => h) off9 (.head _) (hrest _)
          case fin9 =>
            intro D9 h9 tk9 F9 N9 off9
            k_steps
            refine Hold.mk ?_
            rename News g' _ _ _ => N4
            have N4b := kst_newsOf N4 (l' := (T9, oT9) :: (I, liObj Dw (i + 1)) :: (Dw, listOf ws.toArray 0) :: (dP, oP2) :: (L' + 1, oC3) :: news) (fun p hp => .tail _ (.tail _ hp))
            clear N4
            have hPT : @LT.lt Nat _ dP T9 := hltT (dP, oP2) (.tail _ (.tail _ (.head _)))
            have hPI : @LT.lt Nat _ dP I := hI9 (dP, oP) (.tail _ (.head _))
            have hPW : @LT.lt Nat _ dP Dw := lw.2.2.1
            have hPn : ∀ p ∈ news, p.1 ≠ dP := fun p hp => Nat.ne_of_lt (ktn_ltOf lP.2 p hp)
            with_reducible refine kda_item (knd := PySem.intKind _ _) (by k_dflt exact N4b) (by k_dflt exact .head _) hdT (intKind_is _ _ _ _) hvT ?_
            k_steps
            refine Hold.mk ?_
            with_reducible refine' kda_set (knd := PySem.intKind _ _) ?F7 ?N7 ?U7 hdo (intKind_is _ _ _ _) ?z7 ?_
            case F7 => k_dflt k_asm
            case N7 => k_dflt k_asm
            case U7 => k_dflt k_updF
            case z7 => exact Nat.le_trans hle9 (by decide)
            intro h5 o5 F5 N5 hd5
            (try dsimp only at N5)
            k_steps
            refine Hold.mk ?_
            rename News g' _ _ _ => N6
            rename Fr g' _ _ _ => F6
            refine LPostU.next (LEndU.intro (nx' := (Dw, listOf ws.toArray 0) :: (dP, o5) :: (L' + 1, oC3) :: news) F6 (kst_newsOf N6 ?sb) (.head _) ?hn ?_)
            case sb =>
              intro p hp
              exact Mine.Ar.Sub.use (by k_extra "sub") hp
            case hn =>
              intro p hp
              revert hp; revert p
              refine Mine.Ar.all_cons ?_ (Mine.Ar.all_cons ?_ (Mine.Ar.all_cons ?_ (fun p hp => ?_)))
              · exact Nat.ne_of_lt (hI9 (Dw, listOf ws.toArray 0) (.head _))
              · exact Nat.ne_of_lt (hI9 (dP, oP) (.tail _ (.head _)))
              · exact Nat.ne_of_lt hcI
              · exact Nat.ne_of_lt (hI9 p (.tail _ (.tail _ (.tail _ hp))))
            refine ih (i + 1) _ _ hik2 ⟨o5, oC3, _, _, _, rfl, hdc2, hd5, powOk_st hpo ht0 ht1 rfl, ?_, Nat.le_trans (len_st _ _ _) (Nat.succ_le_succ hle), mapU_put (u := u9) ?_⟩
            · intro x hx
              rw [htk] at hx
              rcases List.mem_append.mp hx with hx | hx
              · obtain ⟨u, hu⟩ := hks x hx
                exact st_keeps hu
              · rw [List.mem_singleton.mp hx]
                exact mem_st _ _ _
            · intro z hz9
              simp only [List.contains_cons, List.contains_nil, Bool.or_false, beq_eq_false_iff_ne, ne_eq, Bool.or_eq_false_iff] at hz9
              simp [hz9]
end Mine

end
-- Lib8
section
open PySem PySem.W PySem.Spec PySem.Calls PyProof.Rows PyProof.Rows.LCg PyProof.Rows.LCt
set_option Elab.async false
set_option maxRecDepth 100000
set_option maxHeartbeats 4000000
namespace Mine
theorem said_Lib8_0 : True := by
  k_with_none
  w_top off
  k_with "lt" => first | assumption | (refine Mine.Ar.pick (by assumption) ?_; intro hh; first | exact Mine.Ar.c1 hh | exact Mine.Ar.c2 hh | exact Mine.Ar.c3 hh | exact Mine.Ar.c4 hh | exact Mine.Ar.c5 hh | exact Mine.Ar.c6 hh | exact Mine.Ar.c7 hh | exact Mine.Ar.c8 hh | exact Mine.Ar.e2 hh | exact Mine.Ar.e3 hh | exact Mine.Ar.e4 hh | fail) | exact Mine.Ar.t1 | exact Mine.Ar.t2 | exact Mine.Ar.t3 | fail
  k_with "lt2" => first | k_extra "lt" | (refine Mine.Ar.s1 ?_; k_extra "lt") | (refine Mine.Ar.s2 ?_; k_extra "lt") | (refine Mine.Ar.s3 ?_; k_extra "lt") | fail
  k_with "omega" => with_reducible (first | assumption | decide +kernel | (refine Nat.ne_of_gt ?_; k_extra "lt2") | (refine Nat.ne_of_lt ?_; k_extra "lt2") | k_extra "lt2" | exact Mine.Ar.u1 | exact Mine.Ar.u2 | exact Mine.Ar.u3 | exact Mine.Ar.v1 | exact Mine.Ar.dp0 (by assumption) | exact Mine.Ar.dp1 (by assumption) (by decide) | exact Mine.Ar.dp2 (by assumption) (by decide) | exact Mine.Ar.ll (by assumption) (by decide) | exact Mine.Ar.l0 (by assumption) (by decide) | exact Mine.Ar.lm (by assumption) (by decide) | exact Mine.Ar.gn (by assumption) (by decide) | exact Mine.Ar.ci (by decide) | exact Mine.Ar.cz | exact Mine.Ar.li (by assumption) (by decide) | exact Mine.Ar.lj (by assumption) (by decide) | exact Mine.Ar.lk (by assumption) (by decide) | exact Mine.Ar.gi (by assumption) (by decide) | exact Mine.Ar.gj (by assumption) (by decide) | exact Mine.Ar.gk (by assumption) (by decide) | exact Mine.Ar.gl (by assumption) (by decide) | exact Mine.Ar.n0 (by assumption) | exact Mine.Ar.n1 (by assumption) (by decide) | exact Mine.Ar.m0 (by assumption) | exact Mine.Ar.m1 (by assumption) (by decide) | exact And.left (by assumption) | exact And.right (by assumption) | lia | fail)
  trivial
section
variable {prog : Program} {w : World} {A : Around} {E : Value → Shared → Prop} {s : Shared} {h₀ : Heap} {L : Addr} {m : Str → Option Value} {env : Env}
/-- what a comprehension over bytes, stored in a name, asks of its source -/
def ByteSrc (prog : Program) (w : World) (A : Around) (h₀ : Heap) (L : Addr) (m : Str → Option Value) (env : Env) (elt : Expr) (x y : Str) (scope : Scope) (cl : List (Str × Addr)) (Q : Flow → Shared → Prop) (xv : Value) (s₁ : Shared) : Prop :=
  ∃ (b : Array UInt8) (tb : Tok) (news : Led), xv = .bytes b tb ∧ A.handled = none ∧ Fr h₀ L s₁.heap m ∧ News h₀ L s₁.heap news ∧ b.size ≤ sizeLine ∧
    ∀ s₂ : Shared, (∃ h, s₂ = { s₁ with heap := h }) → CompRest prog w A h₀ L m env elt x scope cl s₂ (fun _ => True) (fun i v => ∃ c u, b[i]? = some c ∧ v = .int (c.toNat : Int) u) (FinA h₀ L m s₂ y Q) b.size 0 [] news
theorem Assign_ListComp_B {elt iter : Expr} {x y : Str} {px py : Pos} {scope : Scope} {cl : List (Str × Addr)} {pos spos : Pos} {Q : Flow → Shared → Prop} (_F : Fr h₀ L s.heap m) (hLe : env.locals = L)
    (hsw : swapsWith (.ListComp elt [⟨.Name x px, iter, [], 0⟩] scope pos) (some (.Name y py)) spos.line env = pure true)
    (hclos : closureFor scope env = pure cl) (hcell : ∀ z ∈ scope.names, z.2 ≠ .cell) (hkind : scope.kind = .function)
    (hnames : ∀ z ∈ scope.names, z.2 = .local → scope.names.lookup z.1 = some .local) (hx : scope.names.lookup x = some .local)
    (hy : env.kindOf y = some .local) (hp : (env.scope.kind == .class || (env.scope.kind == .module && env.locals != env.globals)) = false)
    (h : wpAny (model prog w) A (eval iter env) (ByteSrc prog w A h₀ L m env elt x y scope cl Q) E s)
    (hs : ∀ x, foldedSetIterable iter env x = pure x := by intro _; rfl) :
    wpAny (model prog w) A (exec (.Assign [.Name y py] (.ListComp elt [⟨.Name x px, iter, [], 0⟩] scope pos) spos) env) Q E s := by
  subst hLe
  rw [exec_Assign_Name_used _ _ _ _ hsw]
  refine wpAny_bind (wpAny_standAt (wpAny_bind ?_))
  show wpAny _ A (do let _ ← comprehension (.ListComp elt [⟨.Name x px, iter, [], 0⟩] scope pos) scope env _ (newList []) false (eval iter env) (some (assign (.Name y py) env))) _ _ s
  refine wpAny_bind (wpAny_mono (wpAny_comprehension_free (use := some (assign (.Name y py) env)) (Q := fun _ s' => Q .next s') rfl hs hclos hkind hnames
    (wpAny_mono h (fun xv s₁ h₁ => ?_) fun _ _ e => e)) (fun _ s' hq => wpAny_pure (wpAny_pure hq)) fun _ _ e => e)
  obtain ⟨b, tb, news, rfl, hh, F, N, hsz, R⟩ := h₁
  refine KBw.pyIter_bytes ?_
  have up : ∀ a q, s₁.heap.get? a = some q → (s₁.heap.push { cls := .type "bytes_iterator", data := .fields #[.bytes b tb, .int 0 0] }).get? a = some q := fun a q e => Heap.get?_push_of_some _ e
  refine block_U (KBw.walks hh s₁.heap.objs.size b tb) hsz (fun i h st => by obtain ⟨o, e, _⟩ := st; exact ⟨o, e⟩) ?_ hcell hkind hx ⟨_, Heap.get?_push_size _ rfl, rfl, rfl⟩ (fun a ha => ?_)
    (F.keeps up) (N.grown up) (Nat.ne_of_lt F.ns.lt) (next_is_new F) (fun p hp => Nat.ne_of_lt (Heap.lt_size (N p hp).1)) trivial (R _ ⟨_, rfl⟩) ?_
  · intro i h h' q nw st e e' k N' _
    obtain ⟨q', e1, r⟩ := st
    rw [e] at e1
    cases e1
    exact ⟨q, e', r⟩
  · show a < (s₁.heap.push _).objs.size
    rw [List.mem_singleton.mp ha, Heap.size_push]
    exact Nat.lt_succ_self _
  · intro D C h' tk m' ys news' F' N' o1 hn hC₀ hD₀ hCL hDL hCD offC fin
    show wpAny _ A (assign (.Name y py) env (.ref D)) _ _ _
    refine wpAny_assign_Name (wpAny_storeName_local hy F'.ns (fun h₂ hn₂ hs₂ => ?_) hp)
    have F₂ := F'.set hn₂ hs₂
    have N₂ := N'.set hs₂
    refine ⟨m', hn.sameBut hs₂ hCL, fun h'' hs'' => fin D h'' _ (F₂.change hs'' hCL hC₀) (fun p hp => ⟨hs''.extBut _ _ ?_ (N₂ p hp).1, (N₂ p hp).2⟩) o1⟩
    rcases List.mem_cons.mp hp with rfl | hp
    · exact Ne.symm hCD
    · exact offC p hp
end
end Mine

end
-- PlainA
section
set_option Elab.async false
namespace Mine
theorem said_PlainA_0 : True := by
  k_with_none
  w_top off
  k_with "lt" => first | assumption | (refine Mine.Ar.pick (by assumption) ?_; intro hh; first | exact Mine.Ar.c1 hh | exact Mine.Ar.c2 hh | exact Mine.Ar.c3 hh | exact Mine.Ar.c4 hh | exact Mine.Ar.c5 hh | exact Mine.Ar.c6 hh | exact Mine.Ar.c7 hh | exact Mine.Ar.c8 hh | exact Mine.Ar.e2 hh | exact Mine.Ar.e3 hh | exact Mine.Ar.e4 hh | fail) | exact Mine.Ar.t1 | exact Mine.Ar.t2 | exact Mine.Ar.t3 | fail
  k_with "lt2" => first | k_extra "lt" | (refine Mine.Ar.s1 ?_; k_extra "lt") | (refine Mine.Ar.s2 ?_; k_extra "lt") | (refine Mine.Ar.s3 ?_; k_extra "lt") | fail
  k_with "omega" => with_reducible (first | assumption | decide +kernel | (refine Nat.ne_of_gt ?_; k_extra "lt2") | (refine Nat.ne_of_lt ?_; k_extra "lt2") | k_extra "lt2" | exact Mine.Ar.u1 | exact Mine.Ar.u2 | exact Mine.Ar.u3 | exact Mine.Ar.v1 | exact Mine.Ar.dp0 (by assumption) | exact Mine.Ar.dp1 (by assumption) (by decide) | exact Mine.Ar.dp2 (by assumption) (by decide) | exact Mine.Ar.ll (by assumption) (by decide) | exact Mine.Ar.l0 (by assumption) (by decide) | exact Mine.Ar.lm (by assumption) (by decide) | exact Mine.Ar.gn (by assumption) (by decide) | exact Mine.Ar.ci (by decide) | exact Mine.Ar.cz | exact Mine.Ar.li (by assumption) (by decide) | exact Mine.Ar.lj (by assumption) (by decide) | exact Mine.Ar.lk (by assumption) (by decide) | exact Mine.Ar.gi (by assumption) (by decide) | exact Mine.Ar.gj (by assumption) (by decide) | exact Mine.Ar.gk (by assumption) (by decide) | exact Mine.Ar.gl (by assumption) (by decide) | exact Mine.Ar.n0 (by assumption) | exact Mine.Ar.n1 (by assumption) (by decide) | exact Mine.Ar.m0 (by assumption) | exact Mine.Ar.m1 (by assumption) (by decide) | exact And.left (by assumption) | exact And.right (by assumption) | lia | fail)
  trivial
/-- the same remainder by 73 -/
def Eq73 (a b : Int) : Prop := a % 73 = b % 73
theorem Eq73.mul {a b c d : Int} (h : Eq73 a b) (k : Eq73 c d) : Eq73 (a * c) (b * d) := by
  unfold Eq73 at *
  rw [Int.mul_emod, h, k, ← Int.mul_emod]
theorem Eq73.add {a b c d : Int} (h : Eq73 a b) (k : Eq73 c d) : Eq73 (a + c) (b + d) := by
  unfold Eq73 at *
  rw [Int.add_emod, h, k, ← Int.add_emod]
theorem Eq73.sub {a b c d : Int} (h : Eq73 a b) (k : Eq73 c d) : Eq73 (a - c) (b - d) := by
  unfold Eq73 at *
  rw [Int.sub_emod, h, k, ← Int.sub_emod]
theorem Eq73.rfl {a : Int} : Eq73 a a := Eq.refl _
theorem Eq73.trans {a b c : Int} (h : Eq73 a b) (k : Eq73 b c) : Eq73 a c := Eq.trans h k
theorem Eq73.symm {a b : Int} (h : Eq73 a b) : Eq73 b a := Eq.symm h
theorem zero_mul73 {a b : Int} (h : Eq73 a 0) : Eq73 (a * b) 0 := by
  have := h.mul (Eq73.rfl (a := b))
  rwa [Int.zero_mul] at this
theorem mul_zero73 {a b : Int} (h : Eq73 b 0) : Eq73 (a * b) 0 := by rw [Int.mul_comm]; exact zero_mul73 h
theorem prime_tab : ∀ r ∈ List.range 73, ∀ s ∈ List.range 73, (r * s) % 73 = 0 → r = 0 ∨ s = 0 := by decide +kernel
theorem prime73 {a b : Int} (h : Eq73 (a * b) 0) : Eq73 a 0 ∨ Eq73 b 0 := by
  have h1 := Int.emod_nonneg a (show (73 : Int) ≠ 0 by decide)
  have h2 := Int.emod_lt_of_pos a (show (0 : Int) < 73 by decide)
  have h3 := Int.emod_nonneg b (show (73 : Int) ≠ 0 by decide)
  have h4 := Int.emod_lt_of_pos b (show (0 : Int) < 73 by decide)
  have h5 : ((a % 73) * (b % 73)) % 73 = 0 := by rw [← Int.mul_emod]; exact h
  obtain ⟨r, hr⟩ := Int.eq_ofNat_of_zero_le h1
  obtain ⟨s, hs⟩ := Int.eq_ofNat_of_zero_le h3
  rw [hr, hs] at h5
  have h6 := prime_tab r (List.mem_range.mpr (by omega)) s (List.mem_range.mpr (by omega)) (by
    have : ((r : Int) * (s : Int)) % 73 = (((r * s) % 73 : Nat) : Int) := by push_cast; rfl
    omega)
  unfold Eq73
  rcases h6 with e | e
  · left; omega
  · right; omega
def G73 : Int := 52
theorem g_mod (n : Nat) : Eq73 (G73 ^ n) (G73 ^ (n % 24)) := by
  induction n with
  | zero => exact .rfl
  | succ n ih =>
    have h1 : Eq73 (G73 ^ (n + 1)) (G73 ^ (n % 24 + 1)) := by
      rw [Int.pow_succ, Int.pow_succ]
      exact ih.mul .rfl
    by_cases q : n % 24 = 23
    · rw [q] at h1
      have e : (n + 1) % 24 = 0 := by omega
      rw [e]
      exact h1.trans (show (G73 ^ (23 + 1)) % 73 = (G73 ^ 0) % 73 by decide)
    · have e : (n + 1) % 24 = n % 24 + 1 := by omega
      rw [e]
      exact h1
theorem g_tab : ∀ r ∈ List.range 24, (G73 ^ r) % 73 = 1 → r = 0 := by decide +kernel
theorem g_one (n : Nat) : Eq73 (G73 ^ n) 1 ↔ n % 24 = 0 := by
  constructor
  · intro h
    exact g_tab _ (List.mem_range.mpr (by omega)) ((g_mod n).symm.trans h)
  · intro h
    have := g_mod n
    rw [h] at this
    exact this
theorem g_cong {m n : Nat} (h : m % 24 = n % 24) : Eq73 (G73 ^ m) (G73 ^ n) := (g_mod m).trans (by rw [h]; exact (g_mod n).symm)
/-- sums of powers: the coefficients with their exponents -/
def valT : List (Int × Nat) → Nat → Int
  | [], _ => 0
  | t :: L, x => t.1 * G73 ^ (t.2 * x) + valT L x
def addT (b : Int) (e : Nat) (L : List (Int × Nat)) : List (Int × Nat) := L ++ L.map fun t => (-(b * t.1), t.2 + e)
theorem val_append (L K : List (Int × Nat)) (x : Nat) : valT (L ++ K) x = valT L x + valT K x := by
  induction L with
  | nil => simp [valT]
  | cons t L ih => simp only [List.cons_append, valT, ih, Int.add_assoc]
theorem val_map (b : Int) (e : Nat) (L : List (Int × Nat)) (x : Nat) : valT (L.map fun t => (-(b * t.1), t.2 + e)) x = -(b * G73 ^ (e * x)) * valT L x := by
  induction L with
  | nil => simp [valT]
  | cons t L ih =>
    simp only [List.map_cons, valT, ih, Nat.add_mul, Int.pow_add, Int.mul_add]
    congr 1
    rw [Int.neg_mul, Int.neg_mul]
    congr 1
    rw [Int.mul_assoc, Int.mul_assoc]
    congr 1
    rw [Int.mul_comm (G73 ^ (t.2 * x)), ← Int.mul_assoc, Int.mul_comm t.1, Int.mul_assoc]
theorem val_addT (b : Int) (e : Nat) (L : List (Int × Nat)) (x : Nat) : valT (addT b e L) x = (1 - b * G73 ^ (e * x)) * valT L x := by
  unfold addT
  rw [val_append, val_map, Int.sub_mul, Int.one_mul, Int.neg_mul, Int.sub_eq_add_neg]
def exC (c : Int × Int × Int) : Nat := (c.2.2 * Int.fdiv 24 c.1).toNat
def shC (c : Int × Int × Int) : Int := G73 ^ (exC c * (24 - c.2.1).toNat)
def termsL (chi : Int × Int × Int → Int) (ks : List (Int × Int × Int)) : List (Int × Nat) := ks.foldl (fun L c => addT (chi c * shC c) (exC c) L) [(1, 0)]
def facC (chi : Int × Int × Int → Int) (x : Nat) (c : Int × Int × Int) : Int := 1 - chi c * shC c * G73 ^ (exC c * x)
theorem terms_zero {chi : Int × Int × Int → Int} {x : Nat} : ∀ {ks : List (Int × Int × Int)} {L : List (Int × Nat)}, (Eq73 (valT L x) 0 ∨ ∃ c ∈ ks, Eq73 (facC chi x c) 0) → Eq73 (valT (ks.foldl (fun L c => addT (chi c * shC c) (exC c) L) L) x) 0
  | [], L, h => by
    rcases h with h | ⟨c, hc, _⟩
    · exact h
    · cases hc
  | c :: ks, L, h => by
    rw [List.foldl_cons]
    refine terms_zero ?_
    rw [val_addT]
    rcases h with h | ⟨d, hd, h⟩
    · exact .inl (mul_zero73 h)
    · rcases List.mem_cons.mp hd with rfl | hd
      · exact .inl (zero_mul73 h)
      · exact .inr ⟨d, hd, h⟩
theorem terms_zero' {chi : Int × Int × Int → Int} {x : Nat} : ∀ {ks : List (Int × Int × Int)} {L : List (Int × Nat)}, Eq73 (valT (ks.foldl (fun L c => addT (chi c * shC c) (exC c) L) L) x) 0 → (Eq73 (valT L x) 0 ∨ ∃ c ∈ ks, Eq73 (facC chi x c) 0)
  | [], L, h => .inl h
  | c :: ks, L, h => by
    rw [List.foldl_cons] at h
    rcases terms_zero' h with h | ⟨d, hd, h⟩
    · rw [val_addT] at h
      rcases prime73 h with h | h
      · exact .inr ⟨c, .head _, h⟩
      · exact .inl h
    · exact .inr ⟨d, .tail _ hd, h⟩
theorem ex_cast {c : Int × Int × Int} (h : ∀ d ∈ [c], (d.1 = 2 ∨ d.1 = 3 ∨ d.1 = 4 ∨ d.1 = 6 ∨ d.1 = 8 ∨ d.1 = 12) ∧ (0 ≤ d.2.1 ∧ d.2.1 < d.1) ∧ (d.2.2 = 1 ∨ d.2.2 = 5 ∨ d.2.2 = 7 ∨ d.2.2 = 11 ∨ d.2.2 = 13 ∨ d.2.2 = 17 ∨ d.2.2 = 19 ∨ d.2.2 = 23)) : ((exC c : Nat) : Int) = c.2.2 * Int.fdiv 24 c.1 := by
  obtain ⟨s, p, f⟩ := c
  have := h _ (.head _)
  dsimp only at this
  unfold exC
  dsimp only
  obtain ⟨h1, _, h3⟩ := this
  rcases h1 with rfl | rfl | rfl | rfl | rfl | rfl <;> rcases h3 with rfl | rfl | rfl | rfl | rfl | rfl | rfl | rfl <;> decide
theorem exps_eq {chi : Int × Int × Int → Int} : ∀ {ks : List (Int × Int × Int)} (L : List (Int × Nat)) (s : List Int), ClsOk ks → L.map (fun t => ((t.2 % 24 : Nat) : Int)) = s →
    (ks.foldl (fun L c => addT (chi c * shC c) (exC c) L) L).map (fun t => ((t.2 % 24 : Nat) : Int)) = ks.foldl (fun s c => s ++ s.map (sumF c)) s
  | [], L, s, _, h => h
  | c :: ks, L, s, hk, h => by
    rw [List.foldl_cons, List.foldl_cons]
    refine exps_eq _ _ (fun d hd => hk d (.tail _ hd)) ?_
    subst h
    unfold addT
    rw [List.map_append, List.map_map, List.map_map]
    congr 1
    refine List.map_congr_left fun t _ => ?_
    have he := ex_cast (c := c) (fun d hd => by rw [List.mem_singleton.mp hd]; exact hk c (.head _))
    simp only [Function.comp, sumF]
    rw [← he, Int.fmod_eq_emod_of_nonneg _ (by decide)]
    omega
theorem size_mem {s : Int} (h : s = 2 ∨ s = 3 ∨ s = 4 ∨ s = 6 ∨ s = 8 ∨ s = 12) : s ∈ ([2, 3, 4, 6, 8, 12] : List Int) := by
  rcases h with rfl | rfl | rfl | rfl | rfl | rfl <;> decide
theorem fac_mem {f : Int} (h : f = 1 ∨ f = 5 ∨ f = 7 ∨ f = 11 ∨ f = 13 ∨ f = 17 ∨ f = 19 ∨ f = 23) : f ∈ ([1, 5, 7, 11, 13, 17, 19, 23] : List Int) := by
  rcases h with rfl | rfl | rfl | rfl | rfl | rfl | rfl | rfl <;> decide
theorem size_le : ∀ s ∈ ([2, 3, 4, 6, 8, 12] : List Int), s ≤ 12 ∧ 0 ≤ s ∧ s * (24 / s) = 24 := by decide
theorem place_nat {s p : Int} (hs : s ∈ ([2, 3, 4, 6, 8, 12] : List Int)) (h : 0 ≤ p ∧ p < s) : ∃ n ∈ List.range 12, p = ((n : Nat) : Int) ∧ ((n : Nat) : Int) < s := by
  obtain ⟨n, rfl⟩ := Int.eq_ofNat_of_zero_le h.1
  exact ⟨n, List.mem_range.mpr (Int.ofNat_lt.mp (Int.lt_of_lt_of_le h.2 (size_le s hs).1)), rfl, h.2⟩
theorem hold_tab : ∀ s ∈ ([2, 3, 4, 6, 8, 12] : List Int), ∀ f ∈ ([1, 5, 7, 11, 13, 17, 19, 23] : List Int), ∀ p ∈ List.range 12, ((p : Nat) : Int) < s → ∀ r ∈ List.range 24,
    (((f * Int.fdiv 24 s).toNat * (24 - p + r)) % 24 = 0 ↔ Int.fmod (((r : Nat) : Int) - ((p : Nat) : Int)) s = 0) := by decide +kernel
/-- c holds x just when its factor is zero -/
theorem hold_exp {s p f : Int} {x : Nat} (h1 : s = 2 ∨ s = 3 ∨ s = 4 ∨ s = 6 ∨ s = 8 ∨ s = 12) (h2 : 0 ≤ p ∧ p < s) (h3 : f = 1 ∨ f = 5 ∨ f = 7 ∨ f = 11 ∨ f = 13 ∨ f = 17 ∨ f = 19 ∨ f = 23) :
    ((f * Int.fdiv 24 s).toNat * ((24 - p).toNat + x)) % 24 = 0 ↔ Int.fmod ((x : Int) - p) s = 0 := by
  have hs := size_mem h1
  obtain ⟨n, hn, rfl, hn2⟩ := place_nat hs h2
  have hn' : n < 12 := List.mem_range.mp hn
  have e1 : (24 - ((n : Nat) : Int)).toNat = 24 - n := by omega
  have e2 : 24 - n + x = (24 - n + x % 24) + 24 * (x / 24) := by omega
  have e3 : ((x : Int) - ((n : Nat) : Int)) = (((x % 24 : Nat) : Int) - ((n : Nat) : Int)) + s * (24 / s * ((x / 24 : Nat) : Int)) := by
    rw [← Int.mul_assoc, (size_le s hs).2.2]; omega
  rw [e1, e2, Nat.mul_add, Nat.mul_left_comm _ 24, Nat.add_mul_mod_self_left, e3, Int.add_mul_fmod_self_left]
  exact hold_tab s hs f (fac_mem h3) n hn hn2 (x % 24) (List.mem_range.mpr (Nat.mod_lt _ (by decide)))
theorem fac_zero {ks : List (Int × Int × Int)} (hk : ClsOk ks) {c : Int × Int × Int} (hc : c ∈ ks) {chi : Int × Int × Int → Int} {x : Nat} (h1 : chi c = 1) : Eq73 (facC chi x c) 0 ↔ Int.fmod ((x : Int) - c.2.1) c.1 = 0 := by
  have h := hk c hc
  rw [← hold_exp (x := x) h.1 h.2.1 h.2.2, ← g_one]
  unfold facC shC exC
  rw [h1, Int.one_mul, ← Int.pow_add, ← Nat.mul_add]
  unfold Eq73
  omega
theorem fac_one {c : Int × Int × Int} {chi : Int × Int × Int → Int} {x : Nat} (h : chi c = 0) : ¬ Eq73 (facC chi x c) 0 := by
  unfold facC
  rw [h, Int.zero_mul, Int.zero_mul]
  exact (by decide : ¬ ((1 - 0 : Int) % 73 = 0 % 73))
/-- f is a sum of powers with the exponents of V -/
def Ann : List Nat → (Nat → Int) → Prop
  | [], f => ∀ x, Eq73 (f x) 0
  | v :: V, f => Ann V fun x => f (x + 1) - G73 ^ v * f x
theorem ann_zero : ∀ (V : List Nat) (f : Nat → Int), (∀ x, Eq73 (f x) 0) → Ann V f
  | [], _, h => h
  | v :: V, f, h => ann_zero V _ fun x => by
    have := (h (x + 1)).sub (mul_zero73 (a := G73 ^ v) (h x))
    rwa [Int.sub_zero] at this
theorem ann_exp {v : Nat} : ∀ (V : List Nat) (f : Nat → Int), (∃ u ∈ V, u % 24 = v % 24) → (∀ x, Eq73 (f (x + 1)) (G73 ^ v * f x)) → Ann V f
  | [], _, ⟨_, h, _⟩, _ => nomatch h
  | w :: V, f, ⟨u, hu, e⟩, h => by
    unfold Ann
    rcases List.mem_cons.mp hu with rfl | hu
    · refine ann_zero V _ fun x => ?_
      have h1 := (h x).trans ((g_cong e.symm).mul (Eq73.rfl (a := f x)))
      have := h1.sub (Eq73.rfl (a := G73 ^ u * f x))
      rwa [Int.sub_self] at this
    · refine ann_exp V _ ⟨u, hu, e⟩ fun x => ?_
      rw [Int.mul_sub]
      refine (h (x + 1)).sub ?_
      have := (Eq73.rfl (a := G73 ^ w)).mul (h x)
      rw [← Int.mul_assoc, Int.mul_comm (G73 ^ w) (G73 ^ v), Int.mul_assoc] at this
      exact this
theorem ann_add : ∀ (V : List Nat) (f g : Nat → Int), Ann V f → Ann V g → Ann V fun x => f x + g x
  | [], _, _, hf, hg => fun x => (hf x).add (hg x)
  | v :: V, f, g, hf, hg => by
    unfold Ann at *
    have := ann_add V _ _ hf hg
    refine cast (congrArg (Ann V) (funext fun x => ?_)) this
    show f (x + 1) - G73 ^ v * f x + (g (x + 1) - G73 ^ v * g x) = f (x + 1) + g (x + 1) - G73 ^ v * (f x + g x)
    rw [Int.mul_add]
    omega
theorem ann_val (V : List Nat) : ∀ (L : List (Int × Nat)), (∀ t ∈ L, ∃ u ∈ V, u % 24 = t.2 % 24) → Ann V (valT L)
  | [], _ => ann_zero V _ fun _ => Eq73.rfl
  | t :: L, h => by
    refine ann_add V (fun x => t.1 * G73 ^ (t.2 * x)) (valT L) (ann_exp V _ (h t (.head _)) fun x => ?_) (ann_val V L fun s hs => h s (.tail _ hs))
    rw [Nat.mul_add, Nat.mul_one, Int.pow_add, Int.mul_comm (G73 ^ (t.2 * x)), ← Int.mul_assoc, ← Int.mul_assoc, Int.mul_comm t.1]
    exact Eq73.rfl
theorem ann_van : ∀ (V : List Nat) (f : Nat → Int) (x₀ : Nat), Ann V f → (∀ i < V.length, Eq73 (f (x₀ + i)) 0) → ∀ j, Eq73 (f (x₀ + j)) 0
  | [], f, x₀, h, _, j => h _
  | v :: V, f, x₀, h, hv, j => by
    unfold Ann at h
    have h1 := ann_van V _ x₀ h (fun i hi => by
      have := (hv (i + 1) (by simpa using hi)).sub (mul_zero73 (a := G73 ^ v) (hv i (by simp; omega)))
      rwa [Int.sub_zero] at this)
    induction j with
    | zero => exact hv 0 (by simp)
    | succ j ih =>
      have h2 := (h1 j).add (mul_zero73 (a := G73 ^ v) ih)
      rwa [Int.sub_add_cancel, Int.add_zero] at h2
def distinct (S : List Int) : List Int := ((List.range 24).map fun (n : Nat) => (n : Int)).filter fun o => S.contains o
theorem heldN_per {ks : List (Int × Int × Int)} (hk : ClsOk ks) (x : Int) (m : Nat) : heldN ks (x + 24 * m) = heldN ks x := by
  unfold heldN
  congr 1
  refine List.filter_congr fun c hc => ?_
  have h := (hk c hc).1
  have e : (x + 24 * (m : Int) - c.2.1).fmod c.1 = (x - c.2.1).fmod c.1 := by
    rcases h with h | h | h | h | h | h <;> rw [h, Int.fmod_eq_emod_of_nonneg _ (by decide), Int.fmod_eq_emod_of_nonneg _ (by decide)] <;> omega
  rw [e]
theorem held_le {ks : List (Int × Int × Int)} {x y : Int} (h : ∀ c ∈ ks, Int.fmod (x - c.2.1) c.1 = 0 → Int.fmod (y - c.2.1) c.1 = 0) : heldN ks x ≤ heldN ks y := by
  unfold heldN
  rw [← List.countP_eq_length_filter, ← List.countP_eq_length_filter]
  exact List.countP_mono_left fun c hc hx => by simpa using h c hc (by simpa using hx)
/-- a run of numbers, each held more often than y, is shorter than the number of different sums -/
theorem run_short {ks : List (Int × Int × Int)} (hk : ClsOk ks) {x₀ y : Nat} (h : ∀ i < (distinct (sumsL ks)).length, heldN ks (y : Int) < heldN ks ((x₀ + i : Nat) : Int)) : False := by
  let chi : Int × Int × Int → Int := fun c => if Int.fmod ((y : Int) - c.2.1) c.1 = 0 then 0 else 1
  let V : List Nat := (distinct (sumsL ks)).map Int.toNat
  have hx := exps_eq (chi := chi) [(1, 0)] [0] hk rfl
  have hmem : ∀ t ∈ termsL chi ks, ∃ u ∈ V, u % 24 = t.2 % 24 := fun t ht => by
    refine ⟨t.2 % 24, List.mem_map.mpr ⟨((t.2 % 24 : Nat) : Int), ?_, Int.toNat_natCast _⟩, Nat.mod_mod _ _⟩
    unfold distinct
    refine List.mem_filter.mpr ⟨List.mem_map.mpr ⟨t.2 % 24, List.mem_range.mpr (Nat.mod_lt _ (by decide)), rfl⟩, ?_⟩
    rw [List.contains_iff_mem]
    unfold sumsL
    rw [← hx]
    exact List.mem_map.mpr ⟨t, ht, rfl⟩
  have hV : V.length = (distinct (sumsL ks)).length := List.length_map _
  have hvan := ann_van V (valT (termsL chi ks)) x₀ (ann_val V _ hmem) (fun i hi => by
    rw [hV] at hi
    have h1 := h i hi
    have h2 : ∃ c ∈ ks, Int.fmod (((x₀ + i : Nat) : Int) - c.2.1) c.1 = 0 ∧ ¬ Int.fmod ((y : Int) - c.2.1) c.1 = 0 := by
      refine Classical.byContradiction fun hn => ?_
      have := held_le (ks := ks) (x := ((x₀ + i : Nat) : Int)) (y := (y : Int)) fun c hc hx => Classical.byContradiction fun hy => hn ⟨c, hc, hx, hy⟩
      omega
    obtain ⟨c, hc, ha, hb⟩ := h2
    exact terms_zero (.inr ⟨c, hc, (fac_zero hk hc (by show (if _ then _ else _) = _; rw [if_neg hb])).mpr ha⟩))
  have hz := hvan (y + 23 * x₀)
  have hpos : x₀ + (y + 23 * x₀) = y + 24 * x₀ := by omega
  rw [hpos] at hz
  rcases terms_zero' hz with h3 | ⟨c, hc, h3⟩
  · have : valT [(1, 0)] (y + 24 * x₀) = 1 := by simp [valT]
    rw [this] at h3
    exact absurd h3 (by decide : ¬ ((1 : Int) % 73 = 0 % 73))
  · by_cases hy : Int.fmod ((y : Int) - c.2.1) c.1 = 0
    · exact fac_one (show chi c = 0 by show (if _ then _ else _) = _; rw [if_pos hy]) h3
    · have h4 := (fac_zero hk hc (show chi c = 1 by show (if _ then _ else _) = _; rw [if_neg hy])).mp h3
      refine hy ?_
      have h := (hk c hc).1
      have e : (((y + 24 * x₀ : Nat) : Int) - c.2.1).fmod c.1 = ((y : Int) - c.2.1).fmod c.1 := by
        push_cast
        rcases h with h | h | h | h | h | h <;> rw [h, Int.fmod_eq_emod_of_nonneg _ (by decide), Int.fmod_eq_emod_of_nonneg _ (by decide)] <;> omega
      rwa [e] at h4
def sumTo : Nat → (Nat → Int) → Int
  | 0, _ => 0
  | n + 1, f => sumTo n f + f n
theorem sumTo_zero : ∀ (n : Nat) (f : Nat → Int), (∀ x, Eq73 (f x) 0) → Eq73 (sumTo n f) 0
  | 0, _, _ => .rfl
  | n + 1, f, h => (sumTo_zero n f h).add (h n)
theorem sumTo_cong : ∀ (n : Nat) (f g : Nat → Int), (∀ x, Eq73 (f x) (g x)) → Eq73 (sumTo n f) (sumTo n g)
  | 0, _, _, _ => .rfl
  | n + 1, f, g, h => (sumTo_cong n f g h).add (h n)
theorem sumTo_add (f g : Nat → Int) : ∀ n, sumTo n (fun x => f x + g x) = sumTo n f + sumTo n g
  | 0 => rfl
  | n + 1 => by
    show sumTo n (fun x => f x + g x) + (f n + g n) = sumTo n f + f n + (sumTo n g + g n)
    rw [sumTo_add f g n]
    omega
theorem sumTo_mul (a : Int) (f : Nat → Int) : ∀ n, sumTo n (fun x => a * f x) = a * sumTo n f
  | 0 => by simp [sumTo]
  | n + 1 => by
    unfold sumTo
    rw [sumTo_mul a f n, Int.mul_add]
theorem geo_tab : ∀ d ∈ List.range 24, (sumTo 24 fun x => G73 ^ ((d * x) % 24)) % 73 = (if d = 0 then 24 else 0) % 73 := by decide +kernel
theorem geo (d : Nat) : Eq73 (sumTo 24 fun x => G73 ^ (d * x)) (if d % 24 = 0 then 24 else 0) := by
  refine Eq73.trans (sumTo_cong 24 _ (fun x => G73 ^ ((d % 24 * x) % 24)) fun x => ?_) (geo_tab (d % 24) (List.mem_range.mpr (Nat.mod_lt _ (by decide))))
  refine (g_mod _).trans ?_
  rw [Nat.mul_mod d x 24, Nat.mul_mod (d % 24) x 24, Nat.mod_mod]
  exact .rfl
def selS (v : Nat) : List (Int × Nat) → Int
  | [] => 0
  | t :: L => (if t.2 % 24 = v then t.1 else 0) + selS v L
theorem sel_eq {v : Nat} (hv : v < 24) : ∀ (L : List (Int × Nat)), Eq73 (sumTo 24 fun x => G73 ^ ((24 - v) * x) * valT L x) (24 * selS v L)
  | [] => sumTo_zero 24 _ fun x => mul_zero73 (by unfold valT; exact .rfl)
  | t :: L => by
    have e : (fun x => G73 ^ ((24 - v) * x) * valT (t :: L) x) = fun x => t.1 * G73 ^ ((24 - v + t.2) * x) + G73 ^ ((24 - v) * x) * valT L x := by
      funext x
      show G73 ^ ((24 - v) * x) * (t.1 * G73 ^ (t.2 * x) + valT L x) = _
      rw [Int.mul_add, Nat.add_mul, Int.pow_add]
      congr 1
      rw [← Int.mul_assoc, Int.mul_comm _ t.1, Int.mul_assoc]
    rw [e, sumTo_add, sumTo_mul]
    unfold selS
    rw [Int.mul_add]
    refine Eq73.add ?_ (sel_eq hv L)
    refine ((Eq73.rfl (a := t.1)).mul (geo (24 - v + t.2))).trans ?_
    by_cases q : t.2 % 24 = v
    · rw [if_pos q, if_pos (by omega), Int.mul_comm]
      exact .rfl
    · rw [if_neg q, if_neg (by omega), Int.mul_zero, Int.mul_zero]
      exact .rfl
theorem sel_none {v : Nat} : ∀ (L : List (Int × Nat)), (L.map fun t => ((t.2 % 24 : Nat) : Int)).count (v : Int) = 0 → selS v L = 0
  | [], _ => rfl
  | t :: L, h => by
    rw [List.map_cons, List.count_cons] at h
    unfold selS
    rw [sel_none L (by omega), if_neg fun q => by rw [q] at h; simp at h]
    rfl
theorem sel_once {v : Nat} : ∀ (L : List (Int × Nat)), (L.map fun t => ((t.2 % 24 : Nat) : Int)).count (v : Int) = 1 → ∃ t ∈ L, selS v L = t.1
  | [], h => by simp at h
  | t :: L, h => by
    rw [List.map_cons, List.count_cons] at h
    unfold selS
    by_cases q : t.2 % 24 = v
    · rw [q] at h
      simp only [beq_self_eq_true, if_true] at h
      exact ⟨t, .head _, by rw [if_pos q, sel_none L (by omega), Int.add_zero]⟩
    · rw [if_neg (by simpa using fun e : ((t.2 % 24 : Nat) : Int) = (v : Int) => q (by omega))] at h
      obtain ⟨s, hs, e⟩ := sel_once L (by omega)
      exact ⟨s, .tail _ hs, by rw [if_neg q, e, Int.zero_add]⟩
theorem g_ne (n : Nat) : ¬ Eq73 (G73 ^ n) 0 := by
  induction n with
  | zero => exact (by decide : ¬ ((1 : Int) % 73 = 0 % 73))
  | succ n ih =>
    intro h
    rw [Int.pow_succ] at h
    rcases prime73 h with h | h
    · exact ih h
    · exact absurd h (by decide : ¬ ((52 : Int) % 73 = 0 % 73))
theorem coef_ne : ∀ {ks : List (Int × Int × Int)} {L : List (Int × Nat)}, (∀ t ∈ L, ¬ Eq73 t.1 0) → ∀ t ∈ ks.foldl (fun L c => addT (1 * shC c) (exC c) L) L, ¬ Eq73 t.1 0
  | [], _, h => h
  | c :: ks, L, h => by
    rw [List.foldl_cons]
    refine coef_ne fun t ht => ?_
    unfold addT at ht
    rcases List.mem_append.mp ht with ht | ht
    · exact h t ht
    · obtain ⟨u, hu, rfl⟩ := List.mem_map.mp ht
      intro q
      have q2 : Eq73 (1 * shC c * u.1) 0 := by
        unfold Eq73 at *
        omega
      rw [Int.one_mul] at q2
      rcases prime73 q2 with q2 | q2
      · exact g_ne _ q2
      · exact h u hu q2
theorem sums_range {ks : List (Int × Int × Int)} (hk : ClsOk ks) : ∀ v ∈ sumsL ks, 0 ≤ v ∧ v < 24 := by
  intro v hv
  have hx := exps_eq (chi := fun _ => 1) [(1, 0)] [0] hk rfl
  unfold sumsL at hv
  rw [← hx] at hv
  obtain ⟨t, _, rfl⟩ := List.mem_map.mp hv
  omega
/-- where every number is held, no sum comes just once -/
theorem sums_twice {ks : List (Int × Int × Int)} (hk : ClsOk ks) (h : ∀ x : Nat, 1 ≤ heldN ks (x : Int)) : ∀ v ∈ sumsL ks, 2 ≤ (sumsL ks).count v := by
  intro v hv
  obtain ⟨h0, h1⟩ := sums_range hk v hv
  obtain ⟨n, rfl⟩ := Int.eq_ofNat_of_zero_le h0
  refine Classical.byContradiction fun hn => ?_
  have hc1 : (sumsL ks).count (n : Int) = 1 := by
    have := List.count_pos_iff.mpr hv
    omega
  have hx := exps_eq (chi := fun _ => 1) [(1, 0)] [0] hk rfl
  unfold sumsL at hc1
  rw [← hx] at hc1
  obtain ⟨t, ht, e⟩ := sel_once _ hc1
  have hz := sel_eq (v := n) (by omega) (termsL (fun _ => 1) ks)
  have hz2 : Eq73 (sumTo 24 fun x => G73 ^ ((24 - n) * x) * valT (termsL (fun _ => 1) ks) x) 0 := sumTo_zero 24 _ fun x => mul_zero73 (by
    refine terms_zero (.inr ?_)
    have := h x
    unfold heldN at this
    obtain ⟨c, hc⟩ := List.exists_mem_of_length_pos (Nat.lt_of_lt_of_le Nat.zero_lt_one this)
    obtain ⟨hc1, hc2⟩ := List.mem_filter.mp hc
    exact ⟨c, hc1, (fac_zero hk hc1 rfl).mpr (by simpa using hc2)⟩)
  have hz3 := hz.symm.trans hz2
  rcases prime73 hz3 with q | q
  · exact absurd q (by decide : ¬ ((24 : Int) % 73 = 0 % 73))
  · unfold termsL at q
    rw [e] at q
    exact coef_ne (L := [(1, 0)]) (fun s hs => by rw [List.mem_singleton.mp hs]; exact (by decide : ¬ ((1 : Int) % 73 = 0 % 73))) t ht q
end Mine

end
-- PlainB1
section
set_option Elab.async false
namespace Mine
theorem said_PlainB1_0 : True := by
  k_with_none
  w_top off
  k_with "lt" => first | assumption | (refine Mine.Ar.pick (by assumption) ?_; intro hh; first | exact Mine.Ar.c1 hh | exact Mine.Ar.c2 hh | exact Mine.Ar.c3 hh | exact Mine.Ar.c4 hh | exact Mine.Ar.c5 hh | exact Mine.Ar.c6 hh | exact Mine.Ar.c7 hh | exact Mine.Ar.c8 hh | exact Mine.Ar.e2 hh | exact Mine.Ar.e3 hh | exact Mine.Ar.e4 hh | fail) | exact Mine.Ar.t1 | exact Mine.Ar.t2 | exact Mine.Ar.t3 | fail
  k_with "lt2" => first | k_extra "lt" | (refine Mine.Ar.s1 ?_; k_extra "lt") | (refine Mine.Ar.s2 ?_; k_extra "lt") | (refine Mine.Ar.s3 ?_; k_extra "lt") | fail
  k_with "omega" => with_reducible (first | assumption | decide +kernel | (refine Nat.ne_of_gt ?_; k_extra "lt2") | (refine Nat.ne_of_lt ?_; k_extra "lt2") | k_extra "lt2" | exact Mine.Ar.u1 | exact Mine.Ar.u2 | exact Mine.Ar.u3 | exact Mine.Ar.v1 | exact Mine.Ar.dp0 (by assumption) | exact Mine.Ar.dp1 (by assumption) (by decide) | exact Mine.Ar.dp2 (by assumption) (by decide) | exact Mine.Ar.ll (by assumption) (by decide) | exact Mine.Ar.l0 (by assumption) (by decide) | exact Mine.Ar.lm (by assumption) (by decide) | exact Mine.Ar.gn (by assumption) (by decide) | exact Mine.Ar.ci (by decide) | exact Mine.Ar.cz | exact Mine.Ar.li (by assumption) (by decide) | exact Mine.Ar.lj (by assumption) (by decide) | exact Mine.Ar.lk (by assumption) (by decide) | exact Mine.Ar.gi (by assumption) (by decide) | exact Mine.Ar.gj (by assumption) (by decide) | exact Mine.Ar.gk (by assumption) (by decide) | exact Mine.Ar.gl (by assumption) (by decide) | exact Mine.Ar.n0 (by assumption) | exact Mine.Ar.n1 (by assumption) (by decide) | exact Mine.Ar.m0 (by assumption) | exact Mine.Ar.m1 (by assumption) (by decide) | exact And.left (by assumption) | exact And.right (by assumption) | lia | fail)
  trivial
def heldSeq (ks : List (Int × Int × Int)) : List Int := (List.range 48).map fun (k : Nat) => ((heldN ks (47 - (k : Int)) : Nat) : Int)
def totN (ks : List (Int × Int × Int)) : Nat := (List.range 48).foldr (fun (x : Nat) (t : Nat) => heldN ks (x : Int) + 16 * t) 0
def digN (ds : List Nat) : Nat := ds.foldr (fun d t => d + 16 * t) 0
theorem tot_dig (ks : List (Int × Int × Int)) : totN ks = digN ((List.range 48).map fun (x : Nat) => heldN ks (x : Int)) := by
  unfold totN digN
  rw [List.foldr_map]
theorem dig_lt : ∀ ds : List Nat, (∀ d ∈ ds, d < 16) → digN ds < 16 ^ ds.length
  | [], _ => by decide
  | d :: ds, h => by
    have h1 := dig_lt ds fun x hx => h x (.tail _ hx)
    have h2 := h d (.head _)
    show d + 16 * digN ds < 16 ^ (ds.length + 1)
    rw [Nat.pow_succ]; omega
theorem heldN_le (ks : List (Int × Int × Int)) (x : Int) : heldN ks x ≤ ks.length := List.length_filter_le _ _
theorem dig_small {ks : List (Int × Int × Int)} (h : ks.length ≤ 5) : ∀ d ∈ (List.range 48).map fun (x : Nat) => heldN ks (x : Int), d < 16 := by
  intro d hd
  obtain ⟨x, _, rfl⟩ := List.mem_map.mp hd
  have := heldN_le ks (x : Int)
  omega
theorem tot_lt {ks : List (Int × Int × Int)} (h : ks.length ≤ 5) : totN ks < 16 ^ 48 := by
  rw [tot_dig]
  have := dig_lt _ (dig_small h)
  rwa [List.length_map, List.length_range] at this
def byteOf (d : Nat) : UInt8 := UInt8.ofNat (65 + d)
theorem apB_zero : apB 0 = [] := by unfold apB; rfl
theorem apB_dig : ∀ ds : List Nat, (∀ d ∈ ds, d < 16) → (apB (digN ds)).length ≤ ds.length ∧ List.replicate (ds.length - (apB (digN ds)).length) (65 : UInt8) ++ apB (digN ds) = ds.reverse.map byteOf
  | [], _ => by
    have e : digN [] = 0 := rfl
    rw [e, apB_zero]
    exact ⟨Nat.le_refl _, rfl⟩
  | d :: ds, h => by
    obtain ⟨h1, h2⟩ := apB_dig ds fun x hx => h x (.tail _ hx)
    have hd := h d (.head _)
    have e : digN (d :: ds) = d + 16 * digN ds := rfl
    rw [e, List.reverse_cons, List.map_append, ← h2]
    by_cases q : d + 16 * digN ds = 0
    · have hd0 : d = 0 := by omega
      have ht0 : digN ds = 0 := by omega
      rw [ht0, hd0, apB_zero]
      refine ⟨Nat.zero_le _, ?_⟩
      simp only [List.length_nil, Nat.sub_zero, List.append_nil, List.length_cons, List.map_cons, List.map_nil]
      rw [List.replicate_succ']; rfl
    · have e2 : apB (d + 16 * digN ds) = apB (digN ds) ++ [byteOf d] := by
        rw [apB]
        rw [dif_neg q]
        have e3 : (d + 16 * digN ds) / 16 = digN ds := by omega
        have e4 : (d + 16 * digN ds) % 16 = d := by omega
        rw [e3, e4]; rfl
      rw [e2, List.length_append, List.length_cons, List.length_cons, List.length_nil]
      refine ⟨by omega, ?_⟩
      rw [show ds.length + 1 - ((apB (digN ds)).length + (0 + 1)) = ds.length - (apB (digN ds)).length by omega, List.append_assoc]
      rfl
theorem byte_tab : ∀ d ∈ List.range 16, ((byteOf d).toNat : Int) - 65 = (d : Int) := by decide
theorem range_rev : (List.range 48).reverse = (List.range 48).map fun k => 47 - k := by decide
theorem letters_eq {ks : List (Int × Int × Int)} (h : ks.length ≤ 5) : (List.replicate (48 - (apB (totN ks)).length) (65 : UInt8) ++ apB (totN ks)).map (fun c => (c.toNat : Int) - 65) = heldSeq ks := by
  have h1 := (apB_dig _ (dig_small h)).2
  rw [List.length_map, List.length_range, ← tot_dig, ← List.map_reverse, range_rev] at h1
  rw [h1, List.map_map, List.map_map, List.map_map]
  unfold heldSeq
  refine List.map_congr_left fun k hk => ?_
  have hk' := List.mem_range.mp hk
  have := heldN_le ks (47 - (k : Int))
  have e : ((47 - k : Nat) : Int) = 47 - (k : Int) := by omega
  simp only [Function.comp]
  rw [e]
  exact byte_tab _ (List.mem_range.mpr (by omega))
def one1 (c : Int × Int × Int) (x : Nat) : Nat := if Int.fmod ((x : Int) - c.2.1) c.1 = 0 then 1 else 0
theorem dig_add (f g : Nat → Nat) : ∀ l : List Nat, digN (l.map fun x => f x + g x) = digN (l.map f) + digN (l.map g)
  | [] => rfl
  | x :: l => by
    have := dig_add f g l
    show (f x + g x) + 16 * digN _ = (f x + 16 * digN _) + (g x + 16 * digN _)
    rw [this]; omega
theorem held_cons (c : Int × Int × Int) (ks : List (Int × Int × Int)) (x : Nat) : heldN (c :: ks) (x : Int) = one1 c x + heldN ks (x : Int) := by
  unfold heldN one1
  by_cases q : Int.fmod ((x : Int) - c.2.1) c.1 = 0
  · rw [List.filter_cons, if_pos (by simpa using q), if_pos q, List.length_cons, Nat.add_comm]
  · rw [List.filter_cons, if_neg (by simpa using q), if_neg q, Nat.zero_add]
theorem tot_cons (c : Int × Int × Int) (ks : List (Int × Int × Int)) : totN (c :: ks) = digN ((List.range 48).map (one1 c)) + totN ks := by
  rw [tot_dig, tot_dig, ← dig_add]
  congr 1
  exact List.map_congr_left fun x _ => held_cons c ks x
theorem ones_tab : ∀ s ∈ ([2, 3, 4, 6, 8, 12] : List Int), ∀ p ∈ List.range 12, ((p : Nat) : Int) < s → onesOf (s, ((p : Nat) : Int), 0) * 16 ^ p = ((digN ((List.range 48).map (one1 (s, ((p : Nat) : Int), 0))) : Nat) : Int) := by decide +kernel
theorem ones_eq {c : Int × Int × Int} (h1 : c.1 = 2 ∨ c.1 = 3 ∨ c.1 = 4 ∨ c.1 = 6 ∨ c.1 = 8 ∨ c.1 = 12) (h2 : 0 ≤ c.2.1 ∧ c.2.1 < c.1) : onesOf c * 16 ^ c.2.1.toNat = ((digN ((List.range 48).map (one1 c)) : Nat) : Int) := by
  obtain ⟨s, p, f⟩ := c
  have hs := size_mem h1
  obtain ⟨n, hn, hp, hn2⟩ := place_nat hs h2
  have hp' : p = ((n : Nat) : Int) := hp
  subst hp'
  exact ones_tab s hs n hn hn2
theorem added_go : ∀ {ks : List (Int × Int × Int)} (t : Int), ClsOk ks → ks.foldl (fun t c => t + onesOf c * 16 ^ c.2.1.toNat) t = t + ((totN ks : Nat) : Int)
  | [], t, _ => by
    have : totN [] = 0 := by decide
    rw [this]; simp
  | c :: ks, t, h => by
    have h1 := h c (.head _)
    rw [List.foldl_cons, added_go _ (fun d hd => h d (.tail _ hd)), ones_eq h1.1 h1.2.1, tot_cons]
    omega
theorem added_eq {ks : List (Int × Int × Int)} (h : ClsOk ks) : addedL ks = ((totN ks : Nat) : Int) := by
  unfold addedL
  rw [added_go 0 h, Int.zero_add]
end Mine

end
-- PlainB2
section
open PySem PySem.W PySem.Spec PySem.Calls PyProof.Rows
set_option Elab.async false
namespace Mine
theorem said_PlainB2_0 : True := by
  k_with_none
  w_top off
  k_with "lt" => first | assumption | (refine Mine.Ar.pick (by assumption) ?_; intro hh; first | exact Mine.Ar.c1 hh | exact Mine.Ar.c2 hh | exact Mine.Ar.c3 hh | exact Mine.Ar.c4 hh | exact Mine.Ar.c5 hh | exact Mine.Ar.c6 hh | exact Mine.Ar.c7 hh | exact Mine.Ar.c8 hh | exact Mine.Ar.e2 hh | exact Mine.Ar.e3 hh | exact Mine.Ar.e4 hh | fail) | exact Mine.Ar.t1 | exact Mine.Ar.t2 | exact Mine.Ar.t3 | fail
  k_with "lt2" => first | k_extra "lt" | (refine Mine.Ar.s1 ?_; k_extra "lt") | (refine Mine.Ar.s2 ?_; k_extra "lt") | (refine Mine.Ar.s3 ?_; k_extra "lt") | fail
  k_with "omega" => with_reducible (first | assumption | decide +kernel | (refine Nat.ne_of_gt ?_; k_extra "lt2") | (refine Nat.ne_of_lt ?_; k_extra "lt2") | k_extra "lt2" | exact Mine.Ar.u1 | exact Mine.Ar.u2 | exact Mine.Ar.u3 | exact Mine.Ar.v1 | exact Mine.Ar.dp0 (by assumption) | exact Mine.Ar.dp1 (by assumption) (by decide) | exact Mine.Ar.dp2 (by assumption) (by decide) | exact Mine.Ar.ll (by assumption) (by decide) | exact Mine.Ar.l0 (by assumption) (by decide) | exact Mine.Ar.lm (by assumption) (by decide) | exact Mine.Ar.gn (by assumption) (by decide) | exact Mine.Ar.ci (by decide) | exact Mine.Ar.cz | exact Mine.Ar.li (by assumption) (by decide) | exact Mine.Ar.lj (by assumption) (by decide) | exact Mine.Ar.lk (by assumption) (by decide) | exact Mine.Ar.gi (by assumption) (by decide) | exact Mine.Ar.gj (by assumption) (by decide) | exact Mine.Ar.gk (by assumption) (by decide) | exact Mine.Ar.gl (by assumption) (by decide) | exact Mine.Ar.n0 (by assumption) | exact Mine.Ar.n1 (by assumption) (by decide) | exact Mine.Ar.m0 (by assumption) | exact Mine.Ar.m1 (by assumption) (by decide) | exact And.left (by assumption) | exact And.right (by assumption) | lia | fail)
  trivial
open PySem.Builtin PySem.Builtin.Str PySem.StrLaws
def tabsOf : List Nat → Nat → List Nat
  | [], _ => []
  | c :: r, i => if c = 9 then i :: tabsOf r (i + 1) else tabsOf r (i + 1)
def gaps : Nat → List Nat → Nat → List Nat
  | s, [], n => [n - s]
  | s, c :: r, n => (c - s) :: gaps (c + 1) r n
def maxL (l : List Nat) : Nat := l.foldr max 0
theorem tabs_lt : ∀ (cs : List Nat) (i : Nat), ∀ c ∈ tabsOf cs i, i ≤ c ∧ c < i + cs.length
  | [], _, c, h => nomatch h
  | a :: r, i, c, h => by
    unfold tabsOf at h
    rw [List.length_cons]
    split at h
    · rcases List.mem_cons.mp h with rfl | h
      · omega
      · have := tabs_lt r (i + 1) c h; omega
    · have := tabs_lt r (i + 1) c h; omega
theorem tabs_len : ∀ (cs : List Nat) (i : Nat), (tabsOf cs i).length ≤ cs.length
  | [], _ => Nat.le_refl _
  | a :: r, i => by
    have := tabs_len r (i + 1)
    unfold tabsOf
    split
    · rw [List.length_cons, List.length_cons]; omega
    · rw [List.length_cons]; omega
theorem max_step (a b g : Nat) : max (max a (b + 1)) (g + 1) = max a (max b g + 1) := by
  rw [Nat.max_assoc, Nat.add_max_add_right]
/-- the run of Whitespace, told by the gaps between the tabs -/
theorem run_gaps : ∀ (cs : List Nat) (st : WsSt) (i s : Nat), (∀ c ∈ cs, c = 32 ∨ c = 9) → s ≤ i → st.b = i - s →
    max (cs.foldl wsStep st).cc.length ((cs.foldl wsStep st).b + 1) = max st.cc.length (maxL (gaps s (tabsOf cs i) (i + cs.length)) + 1) ∧ (cs.foldl wsStep st).nt = st.nt + (tabsOf cs i).length ∧
    (cs.foldl wsStep st).b = i + cs.length - (match (tabsOf cs i).getLast? with | some t => t + 1 | none => s)
  | [], st, i, s, _, hs, hb => by
    simp only [List.foldl_nil, tabsOf, gaps, maxL, List.foldr_cons, List.foldr_nil, List.length_nil, Nat.add_zero, List.getLast?_nil, hb]
    exact ⟨by omega, trivial, trivial⟩
  | c :: r, st, i, s, hc, hs, hb => by
    have hc' : ∀ c ∈ r, c = 32 ∨ c = 9 := fun x hx => hc x (.tail _ hx)
    have e : i + (c :: r).length = i + 1 + r.length := by rw [List.length_cons]; omega
    rw [List.foldl_cons, e]
    rcases hc c (.head _) with rfl | rfl
    · have h1 : wsStep st 32 = ⟨st.cc, st.b + 1, st.n + 1, st.nt⟩ := rfl
      have h2 : tabsOf (32 :: r) i = tabsOf r (i + 1) := rfl
      rw [h1, h2]
      exact run_gaps r _ (i + 1) s hc' (by omega) (by show st.b + 1 = i + 1 - s; omega)
    · have h1 : wsStep st 9 = ⟨bump st.cc st.b, 0, st.n + 1, st.nt + 1⟩ := rfl
      have h2 : tabsOf (9 :: r) i = i :: tabsOf r (i + 1) := rfl
      rw [h1, h2]
      obtain ⟨a1, a2, a3⟩ := run_gaps r ⟨bump st.cc st.b, 0, st.n + 1, st.nt + 1⟩ (i + 1) (i + 1) hc' (Nat.le_refl _) (by show 0 = i + 1 - (i + 1); omega)
      refine ⟨?_, ?_, ?_⟩
      · rw [a1]
        show max (bump st.cc st.b).length _ = max _ (maxL ((i - s) :: gaps (i + 1) (tabsOf r (i + 1)) (i + 1 + r.length)) + 1)
        rw [bump_len]
        rw [hb]
        exact max_step _ _ _
      · rw [a2]
        show st.nt + 1 + _ = st.nt + ((tabsOf r (i + 1)).length + 1)
        omega
      · rw [a3, List.getLast?_cons]
        cases (tabsOf r (i + 1)).getLast? with
        | none => rfl
        | some t => rfl
theorem gap_free {full : List Nat} : ∀ (cs : List Nat) (i s : Nat), full.drop i = cs → s ≤ i → i ≤ full.length → (∀ k, s ≤ k → k < i → full[k]? ≠ some 9) →
    ∀ g ∈ gaps s (tabsOf cs i) full.length, ∃ a, a + g ≤ full.length ∧ ∀ k < g, full[a + k]? ≠ some 9
  | [], i, s, hd, hs, hi, hf, g, hg => by
    simp only [tabsOf, gaps, List.mem_singleton] at hg
    have : full.length ≤ i := List.drop_eq_nil_iff.mp hd
    exact ⟨s, by omega, fun k hk => hf _ (by omega) (by omega)⟩
  | c :: r, i, s, hd, hs, hi, hf, g, hg => by
    have hr : full.drop (i + 1) = r := by
      rw [← List.tail_drop, hd]; rfl
    have hc : full[i]? = some c := by
      have : (full.drop i)[0]? = some c := by rw [hd]; rfl
      rwa [List.getElem?_drop, Nat.add_zero] at this
    have hi' : i + 1 ≤ full.length := by
      obtain ⟨h, _⟩ := List.getElem?_eq_some_iff.mp hc
      exact h
    unfold tabsOf at hg
    by_cases q : c = 9
    · rw [if_pos q] at hg
      simp only [gaps, List.mem_cons] at hg
      rcases hg with rfl | hg
      · exact ⟨s, by omega, fun k hk => hf _ (by omega) (by omega)⟩
      · exact gap_free r (i + 1) (i + 1) hr (Nat.le_refl _) hi' (fun k h1 h2 => by omega) g hg
    · rw [if_neg q] at hg
      refine gap_free r (i + 1) s hr (by omega) hi' (fun k h1 h2 => ?_) g hg
      by_cases e : k = i
      · rw [e, hc]; intro h; exact q (Option.some.inj h)
      · exact hf k h1 (by omega)
theorem maxL_mem : ∀ l : List Nat, l ≠ [] → maxL l ∈ l
  | [], h => absurd rfl h
  | [x], _ => by simp [maxL]
  | x :: y :: r, _ => by
    have := maxL_mem (y :: r) (by simp)
    show max x (maxL (y :: r)) ∈ _
    by_cases h : x ≤ maxL (y :: r)
    · rw [Nat.max_eq_right h]; exact .tail _ this
    · rw [Nat.max_eq_left (by omega)]; exact .head _
theorem maxL_ge : ∀ (l : List Nat), ∀ x ∈ l, x ≤ maxL l
  | y :: r, x, h => by
    show x ≤ max y (maxL r)
    rcases List.mem_cons.mp h with rfl | h
    · omega
    · have := maxL_ge r x h; omega
theorem gaps_ne (s : Nat) (l : List Nat) (n : Nat) : gaps s l n ≠ [] := by
  cases l <;> simp [gaps]
/-- the tabs that str's words find -/
theorem occ_go {x : PySem.Str} {lim : Nat} : ∀ (cs : List Nat) (i : Nat) (st : Array Nat × Nat), x.cps.toList.drop i = cs → st.snd ≤ i → st.fst.size + cs.length < lim → 
    (forIn (List.range' i (cs.length + 1)) st (occBody x ⟨#[9]⟩ x.length lim)).run.fst.toList = st.fst.toList ++ tabsOf cs i
  | cs, i, st, hd, hs, hl => by
    have hb : (occBody x ⟨#[9]⟩ x.length lim i st) = if x.cps.toList[i]? = some 9 then pure (ForInStep.yield (st.fst.push i, i + 1)) else pure (ForInStep.yield (st.fst, st.snd)) := by
      unfold occBody
      have := subAt_one x 9 i
      by_cases q : x.cps.toList[i]? = some 9
      · have h2 := this.mpr q
        rw [if_pos q, if_pos ⟨⟨⟨by omega, hs⟩, h2.1⟩, h2.2⟩]; rfl
      · rw [if_neg q, if_neg]
        rintro ⟨⟨_, h2⟩, h3⟩
        exact q (this.mp ⟨h2, h3⟩)
    have hc : x.cps.toList[i]? = cs[0]? := by
      rw [← hd, List.getElem?_drop, Nat.add_zero]
    rw [List.range'_succ, List.forIn_cons, hb, hc]
    cases cs with
    | nil =>
      rw [if_neg (by simp)]
      simp [tabsOf]
    | cons c r =>
      have hr : x.cps.toList.drop (i + 1) = r := by rw [← List.tail_drop, hd]; rfl
      rw [List.length_cons] at hl
      by_cases q : c = 9
      · rw [if_pos (by simp [q])]
        have := occ_go (x := x) (lim := lim) r (i + 1) (st.fst.push i, i + 1) hr (Nat.le_refl _) (by simp only [Array.size_push]; omega)
        show (forIn (List.range' (i + 1) (r.length + 1)) (st.fst.push i, i + 1) (occBody x ⟨#[9]⟩ x.length lim)).run.fst.toList = _
        rw [this]
        conv => rhs; unfold tabsOf
        rw [if_pos q]
        simp
      · rw [if_neg (by simp [q])]
        have := occ_go (x := x) (lim := lim) r (i + 1) (st.fst, st.snd) hr (by show st.snd ≤ i + 1; omega) (by show st.fst.size + r.length < lim; omega)
        show (forIn (List.range' (i + 1) (r.length + 1)) (st.fst, st.snd) (occBody x ⟨#[9]⟩ x.length lim)).run.fst.toList = _
        rw [this]
        conv => rhs; unfold tabsOf
        rw [if_neg q]
theorem occ_tabs (x : PySem.Str) : occurrences x ⟨#[9]⟩ 0 x.length (x.length + 1) = tabsOf x.cps.toList 0 := by
  rw [occ_eq]
  have h : x.length = x.cps.toList.length := rfl
  have := occ_go (x := x) (lim := x.length + 1) x.cps.toList 0 (#[], 0) rfl (Nat.le_refl _) (by rw [h]; simp)
  rw [show x.length + 1 - 0 = x.cps.toList.length + 1 from rfl, this]
  rfl
end Mine

end
-- PlainB3
section
open PySem PySem.W PySem.Spec PySem.Calls PyProof.Rows
set_option Elab.async false
namespace Mine
theorem said_PlainB3_0 : True := by
  k_with_none
  w_top off
  k_with "lt" => first | assumption | (refine Mine.Ar.pick (by assumption) ?_; intro hh; first | exact Mine.Ar.c1 hh | exact Mine.Ar.c2 hh | exact Mine.Ar.c3 hh | exact Mine.Ar.c4 hh | exact Mine.Ar.c5 hh | exact Mine.Ar.c6 hh | exact Mine.Ar.c7 hh | exact Mine.Ar.c8 hh | exact Mine.Ar.e2 hh | exact Mine.Ar.e3 hh | exact Mine.Ar.e4 hh | fail) | exact Mine.Ar.t1 | exact Mine.Ar.t2 | exact Mine.Ar.t3 | fail
  k_with "lt2" => first | k_extra "lt" | (refine Mine.Ar.s1 ?_; k_extra "lt") | (refine Mine.Ar.s2 ?_; k_extra "lt") | (refine Mine.Ar.s3 ?_; k_extra "lt") | fail
  k_with "omega" => with_reducible (first | assumption | decide +kernel | (refine Nat.ne_of_gt ?_; k_extra "lt2") | (refine Nat.ne_of_lt ?_; k_extra "lt2") | k_extra "lt2" | exact Mine.Ar.u1 | exact Mine.Ar.u2 | exact Mine.Ar.u3 | exact Mine.Ar.v1 | exact Mine.Ar.dp0 (by assumption) | exact Mine.Ar.dp1 (by assumption) (by decide) | exact Mine.Ar.dp2 (by assumption) (by decide) | exact Mine.Ar.ll (by assumption) (by decide) | exact Mine.Ar.l0 (by assumption) (by decide) | exact Mine.Ar.lm (by assumption) (by decide) | exact Mine.Ar.gn (by assumption) (by decide) | exact Mine.Ar.ci (by decide) | exact Mine.Ar.cz | exact Mine.Ar.li (by assumption) (by decide) | exact Mine.Ar.lj (by assumption) (by decide) | exact Mine.Ar.lk (by assumption) (by decide) | exact Mine.Ar.gi (by assumption) (by decide) | exact Mine.Ar.gj (by assumption) (by decide) | exact Mine.Ar.gk (by assumption) (by decide) | exact Mine.Ar.gl (by assumption) (by decide) | exact Mine.Ar.n0 (by assumption) | exact Mine.Ar.n1 (by assumption) (by decide) | exact Mine.Ar.m0 (by assumption) | exact Mine.Ar.m1 (by assumption) (by decide) | exact And.left (by assumption) | exact And.right (by assumption) | fail)
  trivial
open PySem.Builtin PySem.Builtin.Str PySem.StrLaws
def lastBody (s sub : PySem.Str) (hi : Nat) (i : Nat) (st : Option Nat) : Id (ForInStep (Option Nat)) :=
  if i + sub.length ≤ hi ∧ subAt s sub i = true then pure (ForInStep.yield (some i)) else pure (ForInStep.yield st)
theorem last_eq (s sub : PySem.Str) (lo hi : Nat) : lastOccurrence s sub lo hi = (forIn (List.range' lo (hi + 1 - lo)) none (lastBody s sub hi)).run := by
  unfold lastOccurrence lastBody
  simp
theorem last_go {x : PySem.Str} : ∀ (cs : List Nat) (i : Nat) (st : Option Nat), x.cps.toList.drop i = cs →
    (forIn (List.range' i (cs.length + 1)) st (lastBody x ⟨#[9]⟩ x.length)).run = (tabsOf cs i).getLast?.or st
  | cs, i, st, hd => by
    have hb : lastBody x ⟨#[9]⟩ x.length i st = if x.cps.toList[i]? = some 9 then pure (ForInStep.yield (some i)) else pure (ForInStep.yield st) := by
      unfold lastBody
      have := subAt_one x 9 i
      by_cases q : x.cps.toList[i]? = some 9
      · rw [if_pos q, if_pos (this.mpr q)]
      · rw [if_neg q, if_neg]
        exact fun h => q (this.mp h)
    have hc : x.cps.toList[i]? = cs[0]? := by
      rw [← hd, List.getElem?_drop, Nat.add_zero]
    rw [List.range'_succ, List.forIn_cons, hb, hc]
    cases cs with
    | nil =>
      rw [if_neg (by simp)]
      simp [tabsOf]
    | cons c r =>
      have hr : x.cps.toList.drop (i + 1) = r := by rw [← List.tail_drop, hd]; rfl
      by_cases q : c = 9
      · rw [if_pos (by simp [q])]
        have := last_go (x := x) r (i + 1) (some i) hr
        show (forIn (List.range' (i + 1) (r.length + 1)) (some i) (lastBody x ⟨#[9]⟩ x.length)).run = _
        rw [this]
        conv => rhs; unfold tabsOf
        rw [if_pos q, List.getLast?_cons]
        cases (tabsOf r (i + 1)).getLast? <;> rfl
      · rw [if_neg (by simp [q])]
        have := last_go (x := x) r (i + 1) st hr
        show (forIn (List.range' (i + 1) (r.length + 1)) st (lastBody x ⟨#[9]⟩ x.length)).run = _
        rw [this]
        conv => rhs; unfold tabsOf
        rw [if_neg q]
theorem last_tabs (x : PySem.Str) : lastOccurrence x ⟨#[9]⟩ 0 x.length = (tabsOf x.cps.toList 0).getLast? := by
  rw [last_eq]
  have := last_go (x := x) x.cps.toList 0 none rfl
  rw [show x.length + 1 - 0 = x.cps.toList.length + 1 from rfl, this, Option.or_none]
theorem tab_str : Str.ofString "\t" = ⟨#[9]⟩ := by decide +kernel
def lastI (l : List Nat) : Int := match l.getLast? with | some t => (t : Int) | none => -1
theorem rfind_tabs (x : PySem.Str) : Txt.rfind x (Str.ofString "\t") = lastI (tabsOf x.cps.toList 0) := by
  unfold Txt.rfind lastI
  rw [tab_str, last_tabs]
  cases (tabsOf x.cps.toList 0).getLast? <;> rfl
theorem count_tabs (x : PySem.Str) : Txt.count x (Str.ofString "\t") = ((tabsOf x.cps.toList 0).length : Int) := by
  unfold Txt.count
  rw [tab_str, occ_tabs]
theorem parts_len {x : PySem.Str} : ∀ (cuts : List Nat) (s : Nat), s ≤ x.length → (∀ c ∈ cuts, c < x.length) → (((s :: cuts.map (· + 1)).zip (cuts ++ [x.length])).map fun (p : Nat × Nat) => (strSub x p.1 p.2).length) = gaps s cuts x.length
  | [], s, h, _ => by
    show [(strSub x s x.length).length] = [x.length - s]
    unfold strSub
    simp [Str.length]
  | c :: r, s, h, hc => by
    have h1 := hc c (.head _)
    have := parts_len (x := x) r (c + 1) h1 fun d hd => hc d (.tail _ hd)
    show (strSub x s c).length :: _ = (c - s) :: gaps (c + 1) r x.length
    rw [← this]
    congr 1
    unfold strSub
    have : c < x.cps.size := h1
    simp [Str.length]
    omega
theorem kind_tab (x : PySem.Str) : ¬ Builtin.Str.strKind x < Builtin.Str.strKind ⟨#[9]⟩ := by
  have h : Builtin.Str.strKind ⟨#[9]⟩ = 1 := by decide +kernel
  rw [h]
  unfold Builtin.Str.strKind
  split
  · omega
  · split <;> omega
theorem split_tabs (x : PySem.Str) (hx : 1 ≤ x.length) : (Txt.split x (Str.ofString "\t")).map (·.length) = gaps 0 (tabsOf x.cps.toList 0) x.length := by
  unfold Txt.split
  rw [tab_str, if_neg (by
    have h1 := kind_tab x
    have h2 : (⟨#[9]⟩ : PySem.Str).length = 1 := rfl
    rw [h2, Bool.or_eq_true, decide_eq_true_eq, decide_eq_true_eq]
    omega), occ_tabs]
  by_cases q : (tabsOf x.cps.toList 0).isEmpty = true
  · rw [if_pos q, List.isEmpty_iff.mp q]
    show [x.length] = [x.length - 0]
    rfl
  · rw [if_neg q]
    have := parts_len (x := x) (tabsOf x.cps.toList 0) 0 (Nat.zero_le _) fun c hc => by
      have := (tabs_lt _ _ c hc).2
      rw [Nat.zero_add] at this
      exact this
    rw [← this]
    unfold partsBetween
    rw [List.map_map]
    rfl
end Mine

end
-- PlainB4
section
open PySem PySem.W PySem.Spec PySem.Calls PyProof.Rows
set_option Elab.async false
namespace Mine
theorem said_PlainB4_0 : True := by
  k_with_none
  w_top off
  k_with "lt" => first | assumption | (refine Mine.Ar.pick (by assumption) ?_; intro hh; first | exact Mine.Ar.c1 hh | exact Mine.Ar.c2 hh | exact Mine.Ar.c3 hh | exact Mine.Ar.c4 hh | exact Mine.Ar.c5 hh | exact Mine.Ar.c6 hh | exact Mine.Ar.c7 hh | exact Mine.Ar.c8 hh | exact Mine.Ar.e2 hh | exact Mine.Ar.e3 hh | exact Mine.Ar.e4 hh | fail) | exact Mine.Ar.t1 | exact Mine.Ar.t2 | exact Mine.Ar.t3 | fail
  k_with "lt2" => first | k_extra "lt" | (refine Mine.Ar.s1 ?_; k_extra "lt") | (refine Mine.Ar.s2 ?_; k_extra "lt") | (refine Mine.Ar.s3 ?_; k_extra "lt") | fail
  k_with "omega" => with_reducible (first | assumption | decide +kernel | (refine Nat.ne_of_gt ?_; k_extra "lt2") | (refine Nat.ne_of_lt ?_; k_extra "lt2") | k_extra "lt2" | exact Mine.Ar.u1 | exact Mine.Ar.u2 | exact Mine.Ar.u3 | exact Mine.Ar.v1 | exact Mine.Ar.dp0 (by assumption) | exact Mine.Ar.dp1 (by assumption) (by decide) | exact Mine.Ar.dp2 (by assumption) (by decide) | exact Mine.Ar.ll (by assumption) (by decide) | exact Mine.Ar.l0 (by assumption) (by decide) | exact Mine.Ar.lm (by assumption) (by decide) | exact Mine.Ar.gn (by assumption) (by decide) | exact Mine.Ar.ci (by decide) | exact Mine.Ar.cz | exact Mine.Ar.li (by assumption) (by decide) | exact Mine.Ar.lj (by assumption) (by decide) | exact Mine.Ar.lk (by assumption) (by decide) | exact Mine.Ar.gi (by assumption) (by decide) | exact Mine.Ar.gj (by assumption) (by decide) | exact Mine.Ar.gk (by assumption) (by decide) | exact Mine.Ar.gl (by assumption) (by decide) | exact Mine.Ar.n0 (by assumption) | exact Mine.Ar.n1 (by assumption) (by decide) | exact Mine.Ar.m0 (by assumption) | exact Mine.Ar.m1 (by assumption) (by decide) | exact And.left (by assumption) | exact And.right (by assumption) | fail)
  trivial
open PySem.Builtin PySem.Builtin.Str PySem.StrLaws
def txtL (ks : List (Int × Int × Int)) (M : Int) : List PySem.Str := (heldSeq ks).map fun a => if a = M then Str.ofString "\t" else Str.ofString " "
def txtC (ks : List (Int × Int × Int)) (M : Int) : List Nat := (heldSeq ks).map fun a => if a = M then 9 else 32
theorem held_len (ks : List (Int × Int × Int)) : (heldSeq ks).length = 48 := by
  unfold heldSeq
  rw [List.length_map, List.length_range]
theorem txt_len (ks : List (Int × Int × Int)) (M : Int) : (txtC ks M).length = 48 := by
  unfold txtC
  rw [List.length_map, held_len]
theorem sp_str : Str.ofString " " = ⟨#[32]⟩ := by decide +kernel
theorem join_go : ∀ (l : List PySem.Str) (acc : Array Nat), (l.foldl (fun acc p => acc ++ (Str.ofString "").cps ++ p.cps) acc).toList = acc.toList ++ (l.map fun p => p.cps.toList).flatten
  | [], acc => by simp
  | p :: l, acc => by
    rw [List.foldl_cons, join_go l]
    have : (Str.ofString "").cps = #[] := rfl
    rw [this]
    simp
theorem join_nil (l : List PySem.Str) : (Txt.join (Str.ofString "") l).cps.toList = (l.map fun p => p.cps.toList).flatten := by
  show ((l.drop 1).foldl (fun acc p => acc ++ (Str.ofString "").cps ++ p.cps) (l.headD Str.empty).cps).toList = _
  rw [join_go]
  cases l with
  | nil => rfl
  | cons p l => rfl
theorem text_cps (ks : List (Int × Int × Int)) (M : Int) : (Txt.join (Str.ofString "") (txtL ks M)).cps.toList = txtC ks M := by
  rw [join_nil]
  unfold txtL txtC
  rw [List.map_map]
  generalize heldSeq ks = l
  induction l with
  | nil => rfl
  | cons a l ih =>
    rw [List.map_cons, List.flatten_cons, ih, List.map_cons]
    simp only [Function.comp]
    by_cases q : a = M
    · rw [if_pos q, if_pos q, tab_str]; rfl
    · rw [if_neg q, if_neg q, sp_str]; rfl
theorem txt_sum (ks : List (Int × Int × Int)) (M : Int) : ((txtL ks M).map (·.length)).sum + (txtL ks M).length * (Str.ofString "").length ≤ 16777216 := by
  have h0 : (Str.ofString "").length = 0 := rfl
  rw [h0, Nat.mul_zero, Nat.add_zero]
  have h1 : (txtL ks M).map (·.length) = (heldSeq ks).map fun _ => 1 := by
    unfold txtL
    rw [List.map_map]
    refine List.map_congr_left fun a _ => ?_
    simp only [Function.comp]
    by_cases q : a = M
    · rw [if_pos q]; rfl
    · rw [if_neg q]; rfl
  rw [h1]
  rw [List.map_const', held_len]
  decide
theorem txt_mem (ks : List (Int × Int × Int)) (M : Int) : ∀ c ∈ txtC ks M, c = 32 ∨ c = 9 := by
  intro c hc
  obtain ⟨a, _, rfl⟩ := List.mem_map.mp hc
  by_cases h : a = M
  · exact .inr (if_pos h)
  · exact .inl (if_neg h)
theorem bump_le {cc : List Int} {b k : Nat} (h : ∀ c ∈ cc, 0 ≤ c ∧ c ≤ k) : ∀ c ∈ bump cc b, 0 ≤ c ∧ c ≤ ((k + 1 : Nat) : Int) := by
  have hs : ∀ (l : List Int), (∀ c ∈ l, 0 ≤ c ∧ c ≤ k) → ∀ c ∈ l.set b (l.getD b 0 + 1), 0 ≤ c ∧ c ≤ ((k + 1 : Nat) : Int) := by
    intro l hl c hc
    rcases List.mem_or_eq_of_mem_set hc with hc | rfl
    · have := hl c hc; omega
    · rw [List.getD_eq_getElem?_getD]
      cases q : l[b]? with
      | none => simp only [Option.getD_none]; omega
      | some v =>
        have := hl v (List.mem_of_getElem? q)
        simp only [Option.getD_some]; omega
  unfold bump
  dsimp only
  split
  · refine hs _ fun c hc => ?_
    rcases List.mem_append.mp hc with hc | hc
    · exact h c hc
    · obtain rfl := List.eq_of_mem_replicate hc; omega
  · exact hs _ h
theorem run_le : ∀ (cs : List Nat) (st : WsSt) (k : Nat), (∀ c ∈ st.cc, 0 ≤ c ∧ c ≤ (k : Int)) → ∀ c ∈ (cs.foldl wsStep st).cc, 0 ≤ c ∧ c ≤ ((k + cs.length : Nat) : Int)
  | [], st, k, h => h
  | a :: r, st, k, h => by
    have := run_le r (wsStep st a) (k + 1) (by
      unfold wsStep
      split
      · intro c hc
        have := h c hc
        omega
      · exact bump_le h)
    rw [List.foldl_cons, List.length_cons, show k + (r.length + 1) = k + 1 + r.length by omega]
    exact this
theorem txt_cc (ks : List (Int × Int × Int)) (M : Int) : (wsRun (txtC ks M)).cc.length ≤ 100 ∧ ∀ c ∈ (wsRun (txtC ks M)).cc, 0 ≤ c ∧ c ≤ 100 := by
  have h1 := (ws_bounds (txtC ks M) ⟨[], 0, 0, 0⟩ 0 ⟨Nat.le_refl _, Nat.le_refl _, Nat.le_refl _, Nat.le_refl _⟩).1
  have h2 := run_le (txtC ks M) ⟨[], 0, 0, 0⟩ 0 (fun c hc => nomatch hc)
  rw [txt_len] at h1 h2
  refine ⟨Nat.le_trans h1 (by decide), fun c hc => ?_⟩
  have := h2 c hc
  omega
theorem txt_at {ks : List (Int × Int × Int)} {M : Int} {k : Nat} (hk : k < 48) : (txtC ks M)[k]? = some (if ((heldN ks (47 - (k : Int)) : Nat) : Int) = M then 9 else 32) := by
  unfold txtC heldSeq
  rw [List.map_map, List.getElem?_map, List.getElem?_range hk]
  rfl
/-- no run of blanks reaches the number of different sums -/
theorem lead_short {ks : List (Int × Int × Int)} {M : Int} (hk : ClsOk ks) (hM : M ∈ heldSeq ks) (hle : ∀ a ∈ heldSeq ks, M ≤ a) : maxL (gaps 0 (tabsOf (txtC ks M) 0) 48) < (distinct (sumsL ks)).length := by
  refine Nat.lt_of_not_le fun hge => ?_
  have hm := maxL_mem _ (gaps_ne 0 (tabsOf (txtC ks M) 0) 48)
  obtain ⟨a, ha, hf⟩ := gap_free (full := txtC ks M) (txtC ks M) 0 0 rfl (Nat.le_refl _) (Nat.zero_le _) (fun k _ h => absurd h (Nat.not_lt_zero _)) _ (by rw [txt_len]; exact hm)
  rw [txt_len] at ha
  obtain ⟨y, hy, hyM⟩ := List.mem_map.mp hM
  have hy' := List.mem_range.mp hy
  have hR : (distinct (sumsL ks)).length ≤ maxL (gaps 0 (tabsOf (txtC ks M) 0) 48) := hge
  refine run_short hk (x₀ := 48 - a - (distinct (sumsL ks)).length) (y := 47 - y) fun i hi => ?_
  have hj : (distinct (sumsL ks)).length - 1 - i < maxL (gaps 0 (tabsOf (txtC ks M) 0) 48) := by omega
  have h1 := hf _ hj
  have hk48 : a + ((distinct (sumsL ks)).length - 1 - i) < 48 := by omega
  rw [txt_at hk48] at h1
  have e1 : (47 : Int) - ((a + ((distinct (sumsL ks)).length - 1 - i) : Nat) : Int) = ((48 - a - (distinct (sumsL ks)).length + i : Nat) : Int) := by omega
  rw [e1] at h1
  have e2 : ((47 - y : Nat) : Int) = 47 - (y : Int) := by omega
  rw [e2]
  have h2 : ((heldN ks ((48 - a - (distinct (sumsL ks)).length + i : Nat) : Int) : Nat) : Int) ≠ M := fun h => h1 (by rw [if_pos h])
  have h3 := hle _ (List.mem_map.mpr ⟨a + ((distinct (sumsL ks)).length - 1 - i), List.mem_range.mpr hk48, rfl⟩)
  rw [e1] at h3
  omega
theorem lead_told {ks : List (Int × Int × Int)} {M : Int} {st : WsSt} (hst : st = wsRun (txtC ks M)) :
    max ((st.cc.length : Int) - 1) (st.b : Int) = ((maxL (gaps 0 (tabsOf (txtC ks M) 0) 48) : Nat) : Int) ∧ st.nt = (tabsOf (txtC ks M) 0).length ∧
    (st.b : Int) = 47 - lastI (tabsOf (txtC ks M) 0) ∧ st.cc.length ≤ maxL (gaps 0 (tabsOf (txtC ks M) 0) 48) + 1 := by
  obtain ⟨a1, a2, a3⟩ := run_gaps (txtC ks M) ⟨[], 0, 0, 0⟩ 0 0 (txt_mem ks M) (Nat.le_refl _) rfl
  rw [txt_len, Nat.zero_add] at a1 a3
  subst hst
  have e : wsRun (txtC ks M) = (txtC ks M).foldl wsStep ⟨[], 0, 0, 0⟩ := rfl
  rw [← e] at a1 a2 a3
  have a1' : max (wsRun (txtC ks M)).cc.length ((wsRun (txtC ks M)).b + 1) = maxL (gaps 0 (tabsOf (txtC ks M) 0) 48) + 1 := by
    rw [a1]
    exact Nat.max_eq_right (Nat.zero_le _)
  refine ⟨by omega, by rw [a2]; exact Nat.zero_add _, ?_, by omega⟩
  rw [a3]
  unfold lastI
  cases q : (tabsOf (txtC ks M) 0).getLast? with
  | none => rfl
  | some t =>
    have := (tabs_lt _ _ t (List.mem_of_getLast? q)).2
    rw [txt_len] at this
    show ((48 - (t + 1) : Nat) : Int) = 47 - (t : Int)
    omega
end Mine

end
-- PlainB5
section
set_option Elab.async false
namespace Mine
theorem said_PlainB5_0 : True := by
  k_with_none
  w_top off
  k_with "lt" => first | assumption | (refine Mine.Ar.pick (by assumption) ?_; intro hh; first | exact Mine.Ar.c1 hh | exact Mine.Ar.c2 hh | exact Mine.Ar.c3 hh | exact Mine.Ar.c4 hh | exact Mine.Ar.c5 hh | exact Mine.Ar.c6 hh | exact Mine.Ar.c7 hh | exact Mine.Ar.c8 hh | exact Mine.Ar.e2 hh | exact Mine.Ar.e3 hh | exact Mine.Ar.e4 hh | fail) | exact Mine.Ar.t1 | exact Mine.Ar.t2 | exact Mine.Ar.t3 | fail
  k_with "lt2" => first | k_extra "lt" | (refine Mine.Ar.s1 ?_; k_extra "lt") | (refine Mine.Ar.s2 ?_; k_extra "lt") | (refine Mine.Ar.s3 ?_; k_extra "lt") | fail
  k_with "omega" => with_reducible (first | assumption | decide +kernel | (refine Nat.ne_of_gt ?_; k_extra "lt2") | (refine Nat.ne_of_lt ?_; k_extra "lt2") | k_extra "lt2" | exact Mine.Ar.u1 | exact Mine.Ar.u2 | exact Mine.Ar.u3 | exact Mine.Ar.v1 | exact Mine.Ar.dp0 (by assumption) | exact Mine.Ar.dp1 (by assumption) (by decide) | exact Mine.Ar.dp2 (by assumption) (by decide) | exact Mine.Ar.ll (by assumption) (by decide) | exact Mine.Ar.l0 (by assumption) (by decide) | exact Mine.Ar.lm (by assumption) (by decide) | exact Mine.Ar.gn (by assumption) (by decide) | exact Mine.Ar.ci (by decide) | exact Mine.Ar.cz | exact Mine.Ar.li (by assumption) (by decide) | exact Mine.Ar.lj (by assumption) (by decide) | exact Mine.Ar.lk (by assumption) (by decide) | exact Mine.Ar.gi (by assumption) (by decide) | exact Mine.Ar.gj (by assumption) (by decide) | exact Mine.Ar.gk (by assumption) (by decide) | exact Mine.Ar.gl (by assumption) (by decide) | exact Mine.Ar.n0 (by assumption) | exact Mine.Ar.n1 (by assumption) (by decide) | exact Mine.Ar.m0 (by assumption) | exact Mine.Ar.m1 (by assumption) (by decide) | exact And.left (by assumption) | exact And.right (by assumption) | lia | fail)
  trivial
def cumN (f : Nat → Nat) (n : Nat) : Int := ((List.range n).map fun x => ((f x : Nat) : Int)).sum
theorem cum_succ (f : Nat → Nat) (n : Nat) : cumN f (n + 1) = cumN f n + (f n : Int) := by
  unfold cumN
  rw [List.range_succ, List.map_append, List.sum_append]
  simp
theorem cum_add (f g : Nat → Nat) : ∀ n, cumN (fun x => f x + g x) n = cumN f n + cumN g n
  | 0 => rfl
  | n + 1 => by
    rw [cum_succ, cum_succ, cum_succ, cum_add f g n]
    push_cast
    omega
theorem mem_tab : ∀ s ∈ ([2, 3, 4, 6, 8, 12] : List Int), ∀ p ∈ List.range 12, ((p : Nat) : Int) < s → ∀ n ∈ List.range 48, memOf ((n : Nat) : Int) (s, ((p : Nat) : Int), 0) = cumN (one1 (s, ((p : Nat) : Int), 0)) (n + 1) := by decide +kernel
theorem mem_one {s p f : Int} (h1 : s = 2 ∨ s = 3 ∨ s = 4 ∨ s = 6 ∨ s = 8 ∨ s = 12) (h2 : 0 ≤ p ∧ p < s) (n : Nat) (hn : n < 48) : memOf (n : Int) (s, p, f) = cumN (one1 (s, p, f)) (n + 1) := by
  have hs := size_mem h1
  obtain ⟨k, hk, rfl, hk2⟩ := place_nat hs h2
  exact mem_tab s hs k hk hk2 n (List.mem_range.mpr hn)
theorem mem_go (n : Nat) (hn : n < 48) : ∀ {ks : List (Int × Int × Int)} (t : Int), ClsOk ks → ks.foldl (fun t c => t + memOf (n : Int) c) t = t + cumN (fun x => heldN ks (x : Int)) (n + 1)
  | [], t, _ => by
    have : ∀ m, cumN (fun x => heldN [] ((x : Nat) : Int)) m = 0 := fun m => by
      induction m with
      | zero => rfl
      | succ m ih => rw [cum_succ, ih]; rfl
    rw [this]; simp
  | c :: ks, t, h => by
    obtain ⟨s, p, f⟩ := c
    have h1 := h _ (.head _)
    have e : (fun x : Nat => heldN ((s, p, f) :: ks) (x : Int)) = fun x => one1 (s, p, f) x + heldN ks (x : Int) := funext fun x => held_cons _ _ _
    have h2 : memOf (n : Int) (s, p, f) = cumN (one1 (s, p, f)) (n + 1) := mem_one h1.1 h1.2.1 n hn
    rw [List.foldl_cons, mem_go n hn _ (fun d hd => h d (.tail _ hd)), h2, e, cum_add]
    omega
theorem tail_sum (ks : List (Int × Int × Int)) : ∀ n : Nat, n ≤ 47 → ((heldSeq ks).drop (47 - n)).sum = cumN (fun x => heldN ks (x : Int)) (n + 1)
  | 0, _ => by
    have hl : 47 < (heldSeq ks).length := by rw [held_len]; decide
    rw [cum_succ, List.drop_eq_getElem_cons hl, List.drop_eq_nil_of_le (by rw [held_len]; decide)]
    show (heldSeq ks)[47] + 0 = 0 + _
    have e : (heldSeq ks)[47]? = some (((heldN ks (47 - ((47 : Nat) : Int)) : Nat) : Int)) := by
      unfold heldSeq
      rw [List.getElem?_map, List.getElem?_range (by decide)]; rfl
    rw [List.getElem?_eq_getElem hl] at e
    rw [Option.some.inj e]
    show ((heldN ks 0 : Nat) : Int) + 0 = 0 + ((heldN ks 0 : Nat) : Int)
    omega
  | n + 1, hn => by
    have hl : 47 - (n + 1) < (heldSeq ks).length := by rw [held_len]; omega
    rw [cum_succ, List.drop_eq_getElem_cons hl, List.sum_cons, show 47 - (n + 1) + 1 = 47 - n by omega, tail_sum ks n (by omega)]
    have e : (heldSeq ks)[47 - (n + 1)]? = some (((heldN ks (47 - ((47 - (n + 1) : Nat) : Int)) : Nat) : Int)) := by
      unfold heldSeq
      rw [List.getElem?_map, List.getElem?_range (by omega)]; rfl
    rw [List.getElem?_eq_getElem hl] at e
    rw [Option.some.inj e, show (47 : Int) - ((47 - (n + 1) : Nat) : Int) = ((n + 1 : Nat) : Int) by omega]
    omega
theorem members_eq {ks : List (Int × Int × Int)} (hk : ClsOk ks) {v : Int} (h0 : 0 ≤ v) (h1 : v ≤ 47) : memL v ks = ((heldSeq ks).drop (47 - v).toNat).sum := by
  obtain ⟨n, rfl⟩ := Int.eq_ofNat_of_zero_le h0
  have e := mem_go n (by omega) 0 hk
  rw [Int.zero_add] at e
  unfold memL
  rw [e, ← tail_sum ks n (by omega)]
  congr 2
  omega
end Mine

end
-- LawF
section
open PyProof.Rows.LCg PyProof.Rows.LCt
open PySem PySem.W PySem.Spec PySem.Calls PyProof.Rows
set_option Elab.async false
set_option pp.maxSteps 3000
set_option pp.deepTerms false
set_option pp.deepTerms.threshold 6
set_option maxRecDepth 100000
set_option maxHeartbeats 2000000
namespace Mine
theorem said_LawF_0 : True := by
  k_with_none
  w_top off
  k_with "lt" => first | assumption | (refine Mine.Ar.pick (by assumption) ?_; intro hh; first | exact Mine.Ar.c1 hh | exact Mine.Ar.c2 hh | exact Mine.Ar.c3 hh | exact Mine.Ar.c4 hh | exact Mine.Ar.c5 hh | exact Mine.Ar.c6 hh | exact Mine.Ar.c7 hh | exact Mine.Ar.c8 hh | exact Mine.Ar.e2 hh | exact Mine.Ar.e3 hh | exact Mine.Ar.e4 hh | fail) | exact Mine.Ar.t1 | exact Mine.Ar.t2 | exact Mine.Ar.t3 | fail
  k_with "lt2" => first | k_extra "lt" | (refine Mine.Ar.s1 ?_; k_extra "lt") | (refine Mine.Ar.s2 ?_; k_extra "lt") | (refine Mine.Ar.s3 ?_; k_extra "lt") | fail
  k_with "omega" => with_reducible (first | assumption | decide +kernel | (refine Nat.ne_of_gt ?_; k_extra "lt2") | (refine Nat.ne_of_lt ?_; k_extra "lt2") | k_extra "lt2" | exact Mine.Ar.u1 | exact Mine.Ar.u2 | exact Mine.Ar.u3 | exact Mine.Ar.v1 | exact Mine.Ar.dp0 (by assumption) | exact Mine.Ar.dp1 (by assumption) (by decide) | exact Mine.Ar.dp2 (by assumption) (by decide) | exact Mine.Ar.ll (by assumption) (by decide) | exact Mine.Ar.l0 (by assumption) (by decide) | exact Mine.Ar.lm (by assumption) (by decide) | exact Mine.Ar.gn (by assumption) (by decide) | exact Mine.Ar.ci (by decide) | exact Mine.Ar.cz | exact Mine.Ar.li (by assumption) (by decide) | exact Mine.Ar.lj (by assumption) (by decide) | exact Mine.Ar.lk (by assumption) (by decide) | exact Mine.Ar.gi (by assumption) (by decide) | exact Mine.Ar.gj (by assumption) (by decide) | exact Mine.Ar.gk (by assumption) (by decide) | exact Mine.Ar.gl (by assumption) (by decide) | exact Mine.Ar.n0 (by assumption) | exact Mine.Ar.n1 (by assumption) (by decide) | exact Mine.Ar.m0 (by assumption) | exact Mine.Ar.m1 (by assumption) (by decide) | exact And.left (by assumption) | exact And.right (by assumption) | lia | fail)
  k_with "mem" => with_reducible (first | exact List.mem_cons_self | exact Mine.Ar.g1 | exact Mine.Ar.g2 | exact Mine.Ar.g3 | exact Mine.Ar.g4 | exact Mine.Ar.g5 | exact Mine.Ar.g6 | exact Mine.Ar.g7 | exact Mine.Ar.g8 | exact Mine.Ar.g9 | assumption | (refine List.mem_cons_of_mem _ ?_; k_extra "mem") | (refine List.mem_append_right _ ?_; k_extra "mem") | (refine List.mem_append_left _ ?_; k_extra "mem") | fail)
  k_with "sub" => with_reducible (first | exact Mine.Ar.Sub.nil | exact Mine.Ar.Sub.refl | exact Mine.Ar.Sub.t1 Mine.Ar.Sub.refl | exact Mine.Ar.Sub.t2 Mine.Ar.Sub.refl | exact Mine.Ar.Sub.t3 Mine.Ar.Sub.refl | exact Mine.Ar.Sub.t4 Mine.Ar.Sub.refl | exact Mine.Ar.Sub.t5 Mine.Ar.Sub.refl | exact Mine.Ar.Sub.t6 Mine.Ar.Sub.refl | exact Mine.Ar.Sub.t7 Mine.Ar.Sub.refl | exact Mine.Ar.Sub.t8 Mine.Ar.Sub.refl | exact Mine.Ar.Sub.t9 Mine.Ar.Sub.refl | (refine Mine.Ar.Sub.cons ?_ ?_; k_extra "mem"; k_extra "sub") | (refine Mine.Ar.Sub.app ?_ ?_; k_extra "sub"; k_extra "sub") | (refine Mine.Ar.Sub.t1 ?_; k_extra "sub") | (refine Mine.Ar.Sub.inr ?_; k_extra "sub") | (refine Mine.Ar.Sub.inl ?_; k_extra "sub") | fail)
  k_with "execs cons" => ((try first | (refine' canon ?H ?F ?e ?_; (case H => assumption); (case F => assumption); (case e => exact rfl); intro _) | (refine' canonD ?H ?F ?e ?_; (case H => assumption); (case F => assumption); (case e => exact rfl); intro _ _)); (try k_fold); refine wpAny_execs_cons ?_)
  k_with "eval Call" => k_fold
  k_with "storeName" => ((with_reducible show wpAny _ _ (storeName _ (Str.ofString "classes") _) _ _ _); refine hold_out ?_)
  k_with "storeName" => ((with_reducible show wpAny _ _ (storeName _ (Str.ofString "sums") _) _ _ _); refine hold_out ?_)
  k_with "storeName" => ((with_reducible show wpAny _ _ (storeName _ (Str.ofString "least") _) _ _ _); refine hold_out ?_)
  k_with "eval ListComp" => refine hold_out ?_
  k_with "exec Assign cons ListComp" => refine hold_out ?_
  k_with "CEnd" => refine hold_out ?_
  k_with "CompSrc" => refine hold_out ?_
  k_with "CompSrcT" => refine hold_out ?_
  k_with "compareOp In int ref" => refine hold_out ?_
  k_with "binaryOp Add bytes bytes" => refine hold_out ?_
  k_with "call builtin:str.join" => refine hold_out ?_
  k_with "compareOp Eq bytes bytes" => refine hold_out ?_
  k_with "compareOp Eq ref ref" => refine hold_out ?_
  k_with "call builtin:min" => refine hold_out ?_
  k_with "call builtin:max" => refine hold_out ?_
  k_with "binaryOp Mult bytes int" => refine hold_out ?_
  k_with "compareOp NotEq int int" => refine hold_out ?_
  k_with "compareOp GtE int int" => refine hold_out ?_
  k_with "call builtin:str.count" => refine hold_out ?_
  k_with "call builtin:str.rfind" => refine hold_out ?_
  k_with "call builtin:list.count" => refine hold_out ?_
  k_with "subscriptTail Name Slice ref ref" => refine hold_out ?_
  k_with "call ref" => ((with_reducible show wpAny _ _ (call (Value.ref 151) _) _ _ _); refine hold_out ?_)
  k_with "call ref" => ((with_reducible show wpAny _ _ (call (Value.ref 163) _) _ _ _); refine hold_out ?_)
  k_with "call ref" => ((with_reducible show wpAny _ _ (call (Value.ref 168) _) _ _ _); refine hold_out ?_)
  k_with "call ref" => ((with_reducible show wpAny _ _ (call (Value.ref 173) _) _ _ _); refine hold_out ?_)
  k_with "call ref" => ((with_reducible show wpAny _ _ (call (Value.ref 78) _) _ _ _); refine hold_out ?_)
  k_with "call ref" => ((with_reducible show wpAny _ _ (call (Value.ref 180) _) _ _ _); refine hold_out ?_)
  k_with "call ref" => ((with_reducible show wpAny _ _ (call (Value.ref 187) _) _ _ _); refine hold_out ?_)
  k_with "call ref" => ((with_reducible show wpAny _ _ (call (Value.ref 140) _) _ _ _); refine hold_out ?_)
  k_with "call ref" => ((with_reducible show wpAny _ _ (call (Value.ref 102) _) _ _ _); refine hold_out ?_)
  k_with "call ref" => ((with_reducible show wpAny _ _ (call (Value.ref 109) _) _ _ _); refine hold_out ?_)
  k_with "call ref" => ((with_reducible show wpAny _ _ (call (Value.ref 156) _) _ _ _); refine hold_out ?_)
  trivial
theorem saidx_LawF_0 : True := by
  k_with "call type:range" => ((rename Fr _ _ _ _ => Fq'); (rename News _ _ _ _ => Nq'); (with_unfolding_all refine range1_rows Fq' Nq' ?_); intro _ _ _ _ _ _ _ _ _)
  trivial

theorem flatten_rep (n : Nat) (x : UInt8) : (List.replicate n [x]).flatten = List.replicate n x := by
  induction n with
  | zero => rfl
  | succ n ih => rw [List.replicate_succ, List.flatten_cons, ih]; rfl
theorem TabE.drop {line : Nat} {qual : Str} {t : Obj} {ex ex2 : Led} (h : TabE line qual t ex) (hs : ∀ p ∈ ex, (∃ v, p.2.data = .fields v) → p ∈ ex2) : TabE line qual t ex2 := by
  rcases h with h | ⟨c0, oc0, vc0, tq0, h1, h2, h3, h4⟩
  · exact .inl h
  · exact .inr ⟨c0, oc0, vc0, tq0, h1, hs _ h2 ⟨_, h3⟩, h3, h4⟩
theorem ne_fields {h₀ h : Heap} {L c : Addr} {news : Led} {q : Addr × Obj} {o : Obj} {v : Option Value} (N : News h₀ L h news) (hq : q ∈ news) (hd : ∃ v, q.2.data = .fields v) (hc : (c, o) ∈ news) (hcd : o.data = .cell v) : q.1 ≠ c := by
  intro e
  have h1 := (N _ hq).1
  have h2 := (N _ hc).1
  rw [e] at h1
  have e2 := Option.some.inj (h1.symm.trans h2)
  obtain ⟨w, hw⟩ := hd
  dsimp only at e2
  rw [e2, hcd] at hw
  cases hw
theorem ne_seq {h₀ h : Heap} {L c a : Addr} {news : Led} {oa o : Obj} {v : Option Value} {x : Array Value} {k : Nat} (N : News h₀ L h news) (hq : (a, oa) ∈ news) (hd : oa.data = .seq x k) (hc : (c, o) ∈ news) (hcd : o.data = .cell v) : a ≠ c := by
  intro e
  have h1 := (N _ hq).1
  have h2 := (N _ hc).1
  dsimp only at h1 h2
  rw [e] at h1
  have e2 := Option.some.inj (h1.symm.trans h2)
  rw [e2, hcd] at hd
  cases hd
theorem any_contains (l : List Int) (k : Int) : (l.any fun x => x == k) = l.contains k := by
  rw [Bool.eq_iff_iff, List.any_eq_true, List.contains_iff_mem]
  constructor
  · rintro ⟨x, hx, h⟩
    rw [← beq_iff_eq.mp h]; exact hx
  · intro h
    exact ⟨k, h, beq_self_eq_true k⟩
theorem strs_append : ∀ {vs ws : List Value} {xs ys : List Str}, PyProof.Rows.StrsAre vs xs → PyProof.Rows.StrsAre ws ys → PyProof.Rows.StrsAre (vs ++ ws) (xs ++ ys)
  | _, _, _, _, .nil, h => h
  | _, _, _, _, .cons y t r, h => .cons y t (strs_append r h)
theorem gaps_len : ∀ (s : Nat) (l : List Nat) (n : Nat), (gaps s l n).length = l.length + 1
  | _, [], _ => rfl
  | s, c :: r, n => by show (gaps (c + 1) r n).length + 1 = _; rw [gaps_len]; rfl
theorem gaps_pos {gs : List Nat} {l : Nat} (s : Nat) (c : List Nat) (n : Nat) (h : gs = gaps s c n) (hl : l = gs.length) : 0 < l := by
  rw [hl, h, gaps_len]; omega
theorem max_cast {l : List Nat} {m : Int} (h : m ∈ l.map fun (n : Nat) => (n : Int)) (hle : ∀ a ∈ l.map fun (n : Nat) => (n : Int), a ≤ m) : m = ((maxL l : Nat) : Int) := by
  obtain ⟨x, hx, rfl⟩ := List.mem_map.mp h
  have h1 := maxL_ge l x hx
  have h2 := maxL_mem l (fun e => by rw [e] at hx; cases hx)
  have h3 := hle _ (List.mem_map.mpr ⟨_, h2, rfl⟩)
  omega
theorem ge_no {a b : Int} {t u : Tok} {prog : Program} {w : World} {A : Around} {s : Shared} {E : Value → Shared → Prop} {Q : Value → Shared → Prop} (h : a < b) (k : Q (.bool false) s) : wpAny (model prog w) A (compareOp .GtE (.int a t) (.int b u)) Q E s :=
  ge_int (by rw [decide_eq_false (by omega)]; exact k)
theorem ne_no {a b : Int} {t u : Tok} {prog : Program} {w : World} {A : Around} {s : Shared} {E : Value → Shared → Prop} {Q : Value → Shared → Prop} (h : a = b) (k : Q (.bool false) s) : wpAny (model prog w) A (compareOp .NotEq (.int a t) (.int b u)) Q E s :=
  ne_int (by rw [h, bne_self_eq_false]; exact k)
theorem il_told {st : WsSt} {g R : Nat} (h1 : st.cc.length ≤ g + 1) (h2 : max ((st.cc.length : Int) - 1) (st.b : Int) = (g : Int)) (h3 : max ((st.cc.length : Int) - 1) (st.b : Int) < (R : Int)) : (st.b : Int) + (R : Int) * (ilSum (R : Int) st.cc (st.cc.length - (R : Int).toNat) + (st.nt : Int)) = (R : Int) * (st.nt : Int) + (st.b : Int) := by
  have e : st.cc.length - (R : Int).toNat = 0 := by omega
  rw [e]
  show (st.b : Int) + (R : Int) * (0 + (st.nt : Int)) = _
  rw [Int.zero_add, Int.add_comm]
theorem pos_eq (a b : Int) : a + b = a + ((48 : Nat) : Int) - 1 - (47 - b) := by omega
theorem twice_told {ks : List (Int × Int × Int)} {M v : Int} (hk : ClsOk ks) (hM : M ∈ heldSeq ks) (hle : ∀ a ∈ heldSeq ks, M ≤ a) (h0 : 0 < M) (hv : v ∈ (sumsL ks).map fun v => (((sumsL ks).count v : Nat) : Int)) : 2 ≤ v := by
  obtain ⟨u, hu, rfl⟩ := List.mem_map.mp hv
  have := sums_twice hk (fun x => by
    have e := heldN_per hk ((x % 24 : Nat) : Int) (x / 24)
    rw [show ((x % 24 : Nat) : Int) + 24 * ((x / 24 : Nat) : Int) = (x : Int) by omega] at e
    rw [e]
    have h1 := hle _ (List.mem_map.mpr ⟨47 - x % 24, List.mem_range.mpr (by omega), rfl⟩)
    rw [show (47 : Int) - ((47 - x % 24 : Nat) : Int) = ((x % 24 : Nat) : Int) by omega] at h1
    omega) u hu
  omega
theorem TabE.obj {line : Nat} {qual : Str} {t : Obj} {ex : Led} (h : TabE line qual t ex) : ∃ ps, t = tabObj ps := by
  rcases h with h | ⟨c0, oc0, vc0, tq0, h1, _⟩
  · exact ⟨_, h⟩
  · exact ⟨_, h1⟩
theorem ne_tab {h₀ h : Heap} {L D a : Addr} {news : Led} {o t : Obj} {x : Array Value} {k : Nat} {ps : Array Value} (N : News h₀ L h news) (h1 : (D, o) ∈ news) (hd : o.data = .seq x k) (h2 : (a, t) ∈ news) (ht : t = tabObj ps) : D ≠ a := by
  intro e
  have e1 := (N _ h1).1
  have e2 := (N _ h2).1
  dsimp only at e1 e2
  rw [e] at e1
  have e3 := Option.some.inj (e1.symm.trans e2)
  rw [e3, ht] at hd
  cases hd
theorem last_ge (x : Int) : 12 ≤ 12 + Int.fmod x 36 := by
  have := Int.fmod_nonneg_of_pos x (b := 36) (by decide)
  omega
theorem last_le (x : Int) : 12 + Int.fmod x 36 ≤ 47 := by
  have := Int.fmod_lt_of_pos x (b := 36) (by decide)
  omega
theorem from_ge (x : Int) : 0 ≤ 47 - (12 + Int.fmod x 36) := by
  have := last_le x
  omega
theorem ys_fit {ks : List (Int × Int × Int)} {ys : List Value} (h : IntsAre ys (heldSeq ks)) : ys.toArray.size ≤ sizeLine := by
  rw [List.size_toArray, h.length, held_len]
  decide
theorem absQ {α : Type} {M : Model} {A : Around} {t : Sem α} {G : α → Shared → Prop} {E : Value → Shared → Prop} {s : Shared}
    (k : ∀ Q' : α → Shared → Prop, (∀ f s', G f s' → Q' f s') → wpAny M A t Q' (fun _ _ => False) s) : wpAny M A t G E s := wpAny_noRaise (k G fun _ _ h => h)
theorem lawW : PySem.Challenge.rw_st0036_01.Holds := by
  exact Mine.hd (by
    k_go0
    refine absQ fun Q0 hQ0 => ?_
    rename Shared => s1
    have HS : StB s1 := ⟨⟩
    k_steps
    refine Hold.mk ?_
    rename World => w
    rename IntsAre _ _ => hI
    rename ¬ _ < _ => hcnd
    rename_i h1 tk1 o3 o2 o1 d3 d2 d1 X0 X1 T1 K1 F0 C1 N0 l0
    have l045 : @LT.lt Nat _ 45 s1.heap.objs.size := l0.2
    have l052 : @LT.lt Nat _ 52 s1.heap.objs.size := l0.1
    k_dflt (refine' cells_does w _ _ _ _ hI (by omega) _ _ _ _ _ _ _ _ _ _ _ _ _ _ _ _ _ _ _ _ _ _ ?B ?F ?X ?N ?T ?hk ?hl ?hd ?hu ?ret; (case B => k_asm); (case F => k_asm); (case X => k_asm); (case N => k_asm); (case T => k_asm))
    case hk => rfl
    case hl => assumption
    case hd => decide
    case hu => decide
    case ret =>
      intro D its ns n h2 tk2 F1 N1 lD hI1 hok1
      clear hI hcnd
      have hD1 : @LT.lt Nat _ (s1.heap.objs.size + 1) D := lD (s1.heap.objs.size + 1, o1) (.tail _ (.tail _ (.head _)))
      k_steps
      refine Hold.mk ?_
      rename News _ _ _ _ => N2
      k_dflt (refine' Does.use (classes_does w _ D its ns n hI1 hok1.1 ?bb) ?B ?F ?X ?N ?T ?hk ?hd ?hu ?ret; (case B => k_asm); (case F => k_asm); (case X => k_asm); (case N => exact N2); (case T => k_asm))
      case bb => exact hok1.2
      case hk => rfl
      case hd => decide
      case hu => decide
      case ret =>
        rintro r3 news3 h3 tk3 F3 N3 ⟨D2, its2, nn2, ks, tl, rfl, rfl, hTr, hok, hk3, hk5, hlt⟩
        have hD2 : @LT.lt Nat _ (s1.heap.objs.size + 1) D2 := (hlt (s1.heap.objs.size + 1, o1) (.tail _ (.tail _ (.tail _ (.head _))))).1
        have htl : ∀ q ∈ tl, @LT.lt Nat _ (s1.heap.objs.size + 3) q.1 := fun q hq => (hlt (s1.heap.objs.size + 1 + 1 + 1, o3) (.tail _ (.head _))).2 q hq
        k_steps
        refine Hold.mk ?_
        have N4 := kst_newsOf N3 (l' := (s1.heap.objs.size + 1, o1) :: (D2, listOf its2.toArray nn2) :: (D, listOf its.toArray n) :: (s1.heap.objs.size + 1 + 1 + 1, o3) :: (s1.heap.objs.size + 1 + 1, o2) :: (52, tabObj #[]) :: (45, tabObj #[]) :: tl) (fun p hp => by
          exact Mine.Ar.Sub.use (by k_extra "sub") hp)
        k_dflt (refine store_cell (pre := []) F3 N4 (fun _ h => nomatch h) ?hpost (by rfl) d1 (by rfl) (by rfl) ?_)
        case hpost =>
          intro p hp
          revert hp; revert p
          refine Mine.Ar.all_cons ?_ (Mine.Ar.all_cons ?_ (Mine.Ar.all_cons ?_ (Mine.Ar.all_cons ?_ (Mine.Ar.all_cons ?_ (Mine.Ar.all_cons ?_ (fun p hp => ?_))))))
          · exact Nat.ne_of_gt hD2
          · exact Nat.ne_of_gt hD1
          · exact Nat.ne_of_gt (Nat.lt_succ_of_lt (Nat.lt_succ_self _))
          · exact Nat.ne_of_gt (Nat.lt_succ_self _)
          · exact Nat.ne_of_lt (Nat.lt_succ_of_lt l052)
          · exact Nat.ne_of_lt (Nat.lt_succ_of_lt l045)
          · exact Nat.ne_of_gt (Nat.lt_trans (Nat.lt_succ_of_lt (Nat.lt_succ_self _)) (htl p hp))
        intro g5 o1' F5 N5 d1'
        dsimp only [List.nil_append] at N5
        clear N3 N4 F3
        k_steps
        refine Hold.mk ?_
        rename News _ _ _ _ => N6
        k_dflt (refine' DoesD.use (powers_does w _ D2 its2 nn2 ks ?pm ?pt hk5 hok) ?B ?F ?X ?N ?T ?hk ?hd ?hu ?ret; (case B => k_asm); (case F => k_asm); (case X => k_asm); (case N => exact N6); (case T => k_asm))
        case pm => exact .tail _ (.head _)
        case pt => exact hTr.mono fun p hp => .tail _ (.tail _ (.tail _ (.tail _ (.tail _ (.tail _ (.tail _ hp))))))
        case hk => rfl
        case hd => decide
        case hu => decide
        case ret =>
          rintro r7 news7 h7 tk7 dr7 F7 N7 ⟨P, oP, kvs, rfl, rfl, loP, hltP, hdP, hpP, ⟨u48, h48⟩, hks, hkl⟩
          clear N6
          k_steps
          refine Hold.mk ?_
          rename News _ _ _ _ => N8
          rename Obj.IsDictOf (PySem.intKind _ _) _ [] => hd0
          rename (_ == sysModules) = false => lo0
          k_dflt (refine keq_eq (knd := PySem.intKind _ w) (r := false) loP lo0 (Heap.dictOf_iff.mpr ⟨oP, (N8 _ (.tail _ (.head _))).1, hdP⟩) (Heap.dictOf_iff.mpr ⟨_, (N8 _ (.head _)).1, hd0⟩) (Nat.le_of_ble_eq_true rfl) (fun e => absurd h48 (by rw [List.length_eq_zero_iff.mp e]; exact fun h => nomatch h)) ?_)
          rw [Bool.and_false]
          k_steps
          refine Hold.mk ?_
          rename News _ _ _ _ => N9
          have hP1 : @LT.lt Nat _ (s1.heap.objs.size + 1) P := hltP (s1.heap.objs.size + 1, o1') (.head _)
          have hbig : ∀ p ∈ (P, oP) :: (D2, listOf its2.toArray nn2) :: (D, listOf its.toArray n) :: (s1.heap.objs.size + 1, o1') :: (s1.heap.objs.size + 1 + 1, o2) :: (s1.heap.objs.size + 1 + 1 + 1, o3) :: tl, @LT.lt Nat _ s1.heap.objs.size p.1 := by
            intro p hp
            revert hp; revert p
            refine Mine.Ar.all_cons ?_ (Mine.Ar.all_cons ?_ (Mine.Ar.all_cons ?_ (Mine.Ar.all_cons ?_ (Mine.Ar.all_cons ?_ (Mine.Ar.all_cons ?_ (fun p hp => ?_))))))
            · exact Nat.lt_trans (Nat.lt_succ_self _) hP1
            · exact Nat.lt_trans (Nat.lt_succ_self _) hD2
            · exact Nat.lt_trans (Nat.lt_succ_self _) hD1
            · exact Nat.lt_succ_self _
            · exact Nat.lt_succ_of_lt (Nat.lt_succ_self _)
            · exact Nat.lt_succ_of_lt (Nat.lt_succ_of_lt (Nat.lt_succ_self _))
            · exact Nat.lt_trans (Nat.lt_succ_of_lt (Nat.lt_succ_of_lt (Nat.lt_succ_self _))) (htl p hp)
          have hb45 := fun p hp => Nat.ne_of_gt (Nat.lt_trans l045 (hbig p hp))
          have hb52 := fun p hp => Nat.ne_of_gt (Nat.lt_trans l052 (hbig p hp))
          obtain ⟨v48, hv48⟩ := has_val h48
          obtain ⟨t48, rfl⟩ := pow_val hpP hv48
          have hat : ∀ c ∈ ks, PowAt kvs c.1 := fun c hc => by
            obtain ⟨u, hu⟩ := hks c hc
            obtain ⟨v, hv⟩ := has_val hu
            obtain ⟨t, rfl⟩ := pow_val hpP hv
            exact ⟨t, hv⟩
          k_dflt (refine' DoesC.use (added_does w _ (tabObj #[]) (tabObj #[]) D2 P oP its2 nn2 ks kvs (.tail _ (.head _)) (hTr.mono fun p hp => .tail _ (.tail _ (.tail _ (.tail _ (.tail _ (.tail _ hp)))))) hk5 hok (.head _) hdP ⟨t48, hv48⟩ hat hb45 hb52 (.inl rfl) (.inl rfl)) ?B ?F ?X (kst_newsOf N9 ?NN) ?T codeHd C1 ?hk ?hd ?hu ?ret; (case B => k_asm); (case F => k_asm); (case X => k_asm); (case T => k_asm))
          case NN =>
            intro p hp
            exact Mine.Ar.Sub.use (by k_extra "sub") hp
          case hk => rfl
          case hd => decide
          case hu => decide
          case ret =>
            rintro r6 news6 h6 tk6 F6 N6 ⟨tt, t52', t45', ex, rfl, hT⟩
            have heq := hT.eq
            subst heq
            obtain ⟨nT, hnT⟩ : ∃ n, n = totN ks := ⟨_, rfl⟩
            rw [added_eq hok, ← hnT]
            clear N9
            k_steps
            refine Hold.mk ?_
            rename News _ _ _ _ => N6
            obtain ⟨ext, hex, hexd⟩ := hT.form
            have hm : ∀ p ∈ (P, oP) :: (D2, listOf its2.toArray nn2) :: (D, listOf its.toArray n) :: (s1.heap.objs.size + 1, o1') :: (s1.heap.objs.size + 1 + 1, o2) :: (s1.heap.objs.size + 1 + 1 + 1, o3) :: tl, p ∈ (52, t52') :: (45, t45') :: ex := fun p hp => .tail _ (.tail _ (hT.sub p hp))
            have hme : ∀ q ∈ ext, q ∈ (52, t52') :: (45, t45') :: ex := fun q hq => .tail _ (.tail _ (by rw [hex]; exact List.mem_append_left _ hq))
            have hP2 : @LT.lt Nat _ (s1.heap.objs.size + 1 + 1) P := hltP (s1.heap.objs.size + 1 + 1, o2) (.tail _ (.tail _ (.tail _ (.tail _ (.head _)))))
            have hP3 : @LT.lt Nat _ (s1.heap.objs.size + 1 + 1 + 1) P := hltP (s1.heap.objs.size + 1 + 1 + 1, o3) (.tail _ (.tail _ (.tail _ (.head _))))
            have hc1 : ∀ p ∈ ext ++ ((P, oP) :: (D2, listOf its2.toArray nn2) :: (D, listOf its.toArray n) :: tl), p.1 ≠ s1.heap.objs.size + 1 + 1 ∧ p.1 ≠ s1.heap.objs.size + 1 + 1 + 1 := by
              intro p hp
              rcases List.mem_append.mp hp with hp | hp
              · exact ⟨ne_fields N6 (hme p hp) (hexd p hp) (hm _ (.tail _ (.tail _ (.tail _ (.tail _ (.head _)))))) d2, ne_fields N6 (hme p hp) (hexd p hp) (hm _ (.tail _ (.tail _ (.tail _ (.tail _ (.tail _ (.head _))))))) d3⟩
              · rcases List.mem_cons.mp hp with rfl | hp
                · exact ⟨Nat.ne_of_gt hP2, Nat.ne_of_gt hP3⟩
                rcases List.mem_cons.mp hp with rfl | hp
                · exact ⟨ne_seq N6 (hm _ (.tail _ (.head _))) rfl (hm _ (.tail _ (.tail _ (.tail _ (.tail _ (.head _)))))) d2, ne_seq N6 (hm _ (.tail _ (.head _))) rfl (hm _ (.tail _ (.tail _ (.tail _ (.tail _ (.tail _ (.head _))))))) d3⟩
                rcases List.mem_cons.mp hp with rfl | hp
                · exact ⟨ne_seq N6 (hm _ (.tail _ (.tail _ (.head _)))) rfl (hm _ (.tail _ (.tail _ (.tail _ (.tail _ (.head _)))))) d2, ne_seq N6 (hm _ (.tail _ (.tail _ (.head _)))) rfl (hm _ (.tail _ (.tail _ (.tail _ (.tail _ (.tail _ (.head _))))))) d3⟩
                · exact ⟨Nat.ne_of_gt (Nat.lt_trans (Nat.lt_succ_self _) (htl p hp)), Nat.ne_of_gt (htl p hp)⟩
            have hsub2 : ∀ p ∈ ext ++ ((P, oP) :: (D2, listOf its2.toArray nn2) :: (D, listOf its.toArray n) :: tl), p ∈ ex := by
              intro p hp
              rcases List.mem_append.mp hp with hp | hp
              · rw [hex]; exact List.mem_append_left _ hp
              · refine hT.sub p ?_
                exact Mine.Ar.Sub.use (by k_extra "sub") hp
            have hdrop : ∀ p ∈ ex, (∃ v, p.2.data = .fields v) → p ∈ ext ++ ((P, oP) :: (D2, listOf its2.toArray nn2) :: (D, listOf its.toArray n) :: tl) := by
              intro p hp hd
              rw [hex] at hp
              rcases List.mem_append.mp hp with hp | hp
              · exact List.mem_append_left _ hp
              · refine List.mem_append_right _ ?_
                simp only [List.mem_cons] at hp ⊢
                rcases hp with h | h | h | rfl | rfl | rfl | h
                · simp [h]
                · simp [h]
                · simp [h]
                · obtain ⟨v, hv⟩ := hd; rw [d1'] at hv; cases hv
                · obtain ⟨v, hv⟩ := hd; rw [d2] at hv; cases hv
                · obtain ⟨v, hv⟩ := hd; rw [d3] at hv; cases hv
                · simp [h]
            have ta45 : Tab45 t45' _ := hT.a45.drop hdrop
            have ta52 : Tab52 t52' _ := hT.a52.drop hdrop
            have na45 := fun p hp => hT.n45 p (hsub2 p hp)
            have na52 := fun p hp => hT.n52 p (hsub2 p hp)
            have hTr2 : Trips (ext ++ ((P, oP) :: (D2, listOf its2.toArray nn2) :: (D, listOf its.toArray n) :: tl)) its2 ks := hTr.mono fun p hp => List.mem_append_right _ (.tail _ (.tail _ (.tail _ hp)))
            obtain ⟨ex2, hex2⟩ : ∃ e, e = ext ++ ((P, oP) :: (D2, listOf its2.toArray nn2) :: (D, listOf its.toArray n) :: tl) := ⟨_, rfl⟩
            rw [← hex2] at hc1 hsub2 ta45 ta52 na45 na52 hTr2
            have N6b := kst_newsOf N6 (l' := (D2, listOf its2.toArray nn2) :: (D, listOf its.toArray n) :: (s1.heap.objs.size + 1, o1') :: (s1.heap.objs.size + 1 + 1, o2) :: (s1.heap.objs.size + 1 + 1 + 1, o3) :: (52, t52') :: (45, t45') :: ex2) (fun p hp => by
              revert hp; revert p
              refine Mine.Ar.all_cons ?_ (Mine.Ar.all_cons ?_ (Mine.Ar.all_cons ?_ (Mine.Ar.all_cons ?_ (Mine.Ar.all_cons ?_ (Mine.Ar.all_cons ?_ (Mine.Ar.all_cons ?_ (fun p hp => ?_)))))))
              · exact hm _ (.tail _ (.head _))
              · exact hm _ (.tail _ (.tail _ (.head _)))
              · exact hm _ (.tail _ (.tail _ (.tail _ (.head _))))
              · exact hm _ (.tail _ (.tail _ (.tail _ (.tail _ (.head _)))))
              · exact hm _ (.tail _ (.tail _ (.tail _ (.tail _ (.tail _ (.head _))))))
              · exact .head _
              · exact .tail _ (.head _)
              · exact .tail _ (.tail _ (hsub2 p hp)))
            clear hT hex hdrop hm hme N6
            k_dflt (refine' Does.use (ap_does w _ nT _ (by rw [hnT]; exact tot_lt hk5)) ?B ?F ?X ?N ?T ?hk ?hd ?hu ?ret; (case B => k_asm); (case F => k_asm); (case X => k_asm); (case N => exact N6b); (case T => k_asm))
            case hk => rfl
            case hd => decide
            case hu => decide
            case ret =>
              rintro r5 news5 h5 tk5 F5 N5 ⟨rfl, t5, rfl⟩
              have hwl : (apB nT).toArray.size ≤ 48 := by rw [List.size_toArray, hnT]; exact apB_len 48 _ (tot_lt hk5)
              generalize hwd : (apB nT).toArray = wd at hwl ⊢
              clear N6b
              k_steps
              refine Hold.mk ?_
              rename Fr _ _ _ _ => F7
              rename News _ _ _ _ => N7
              refine Assign_ListComp_B F7 (by rfl) (by with_unfolding_all rfl) (by with_unfolding_all rfl) (by decide) (by rfl) (by decide) (by rfl) (by rfl) (by rfl) ?_
              k_steps
              refine Hold.mk ?_
              refine bytes_mul_any (b := [65]) (List.cons_ne_nil _ _) (by omega) (by omega) (by decide) ?_
              intro t8 k8
              obtain ⟨rep, hrep⟩ : ∃ rep : List UInt8, rep = (List.replicate (48 - (wd.size : Int)).toNat [(65 : UInt8)]).flatten := ⟨_, rfl⟩
              have hrl : rep.length + wd.size = 48 := by
                rw [hrep, List.length_flatten, List.map_replicate, List.sum_replicate_nat, List.length_singleton]
                omega
              rw [← hrep]
              k_steps
              refine Hold.mk ?_
              refine KBy.add_bytes (by rw [List.size_toArray]; omega) ?_
              intro t9 k9
              have hbs : (rep.toArray ++ wd).size = 48 := by rw [Array.size_append, List.size_toArray]; exact hrl
              have hbl : (rep.toArray ++ wd).toList = rep ++ wd.toList := by rw [Array.toList_append]
              generalize rep.toArray ++ wd = bb at hbs hbl
              rename Fr _ _ _ _ => F8
              rename News _ _ _ _ => N8
              refine ⟨bb, t9, _, rfl, rfl, F8, N8, by rw [hbs]; decide, ?_⟩
              rintro s₂ ⟨g9, rfl⟩
              refine crest (n := bb.size) (fun k ys => IntsAre ys ((bb.toList.map fun c => (c.toNat : Int) - 65).take k)) trivial ?turn9 ?fin9 _ 0 [] (Nat.zero_add _) .nil
              case turn9 =>
                rintro k v ys I9 oI9 C9 oC9 D9 m9 h9 tk9 E9 hk ⟨c9, u9, hc9, rfl⟩ hJ hC hx F9 N9 off9 ne9
                k_steps
                refine Hold.mk (CEnd.intro (by assumption) (by assumption) ?_)
                have e9 : (bb.toList.map fun c => (c.toNat : Int) - 65).take (k + 1) = (bb.toList.map fun c => (c.toNat : Int) - 65).take k ++ [(c9.toNat : Int) - 65] := by
                  rw [List.take_add_one, List.getElem?_map, Array.getElem?_toList, hc9]; rfl
                rw [e9]
                exact hJ.append (.cons _ _ .nil)
              case fin9 =>
                intro ys hys
                rw [List.take_of_length_le (by simp)] at hys
                intro D9 h9 tk9 F9 N9 off9
                k_steps
                refine Hold.mk ?_
                clear off9
                k_dflt (refine LCg.ListComp_U (F₀ := F9) (by with_unfolding_all rfl) (by decide) (by rfl) (by decide) (by rfl) ?_)
                k_steps
                refine Hold.mk ?_
                rename IsRange _ _ _ _ _ _ _ _ => hrg
                rename Fr _ _ _ _ => F10
                rename News _ _ _ _ => N10
                have hletters : (bb.toList.map fun c => (c.toNat : Int) - 65) = heldSeq ks := by
                  have h1 := letters_eq (ks := ks) hk5
                  rw [← hnT] at h1
                  have h2 : wd.toList = apB nT := by rw [← hwd]
                  have h3 : wd.size = (apB nT).length := by rw [← hwd, List.size_toArray]
                  have h4 : (48 - (wd.size : Int)).toNat = 48 - (apB nT).length := by omega
                  rw [hbl, h2, hrep, h4, flatten_rep, h1]
                rw [hletters] at hys
                refine LCg.CompSrc.range (by rfl) F10 N10 hrg (by rfl) (by rfl) (by decide) fun g10 => ?_
                refine crest (n := 48) (fun k ys => IntsAre ys ((heldSeq ks).take k)) trivial ?turn10 ?fin10 _ 0 [] (Nat.zero_add _) .nil
                case turn10 =>
                  rintro k v ys2 I10 oI10 C10 oC10 D10 m10 h10 tk10 E10 hk ⟨u10, rfl⟩ hJ hC hx F11 N11 off11 ne11
                  k_steps
                  refine Hold.mk ?_
                  rename News _ _ _ _ => N12
                  k_dflt (refine' Does.use (held_does w _ D2 its2 nn2 ks ?pm2 ?pt2 hk5 hok.pos _ _) ?B ?F ?X ?N ?T ?hk ?hd ?hu ?ret; (case B => k_asm); (case F => k_asm); (case X => k_asm); (case N => exact N12); (case T => k_asm))
                  case pm2 => exact .tail _ (.tail _ (.tail _ (.tail _ (.head _))))
                  case pt2 => exact hTr2.mono fun p hp => .tail _ (.tail _ (.tail _ (.tail _ (.tail _ (.tail _ (.tail _ (.tail _ (.tail _ (.tail _ (.tail _ hp))))))))))
                  case hk => rfl
                  case hd => decide
                  case hu => decide
                  case ret =>
                    rintro r12 news12 h12 tk12 F12 N13 ⟨rfl, t12, rfl⟩
                    k_steps
                    refine Hold.mk (CEnd.intro (by assumption) (by assumption) ?_)
                    have e9 : (heldSeq ks).take (k + 1) = (heldSeq ks).take k ++ [((heldN ks (47 - (0 + (k : Int))) : Nat) : Int)] := by
                      unfold heldSeq
                      rw [List.take_add_one, List.getElem?_map, List.getElem?_range hk, Int.zero_add]; rfl
                    rw [e9]
                    exact hJ.append (.cons _ _ .nil)
                case fin10 =>
                  intro ys2 hys2
                  rw [List.take_of_length_le (by unfold heldSeq; simp)] at hys2
                  intro D11 h11 tk11 F11 N11 off11
                  have hlen11 : (heldSeq ks).length = 48 := by unfold heldSeq; simp
                  k_steps
                  refine Hold.mk ?_
                  rename News _ _ _ _ => N14
                  k_dflt (refine' Does.use (sums_does w _ D2 its2 nn2 ks ?pm2 ?pt2 hk5 hok) ?B ?F ?X ?N ?T ?hk ?hd ?hu ?ret; (case B => k_asm); (case F => k_asm); (case X => k_asm); (case N => exact N14); (case T => k_asm))
                  case pm2 => exact .tail _ (.tail _ (.head _))
                  case pt2 => exact hTr2.mono fun p hp => .tail _ (.tail _ (.tail _ (.tail _ (.tail _ (.tail _ (.tail _ (.tail _ (.tail _ hp))))))))
                  case hk => rfl
                  case hd => decide
                  case hu => decide
                  case ret =>
                    rintro r15 news15 h15 tk15 F15 N15 ⟨S, sv, sn, rfl, rfl, hIs, hltS⟩
                    clear N14
                    k_steps
                    refine Hold.mk ?_
                    have hS2 : @LT.lt Nat _ (s1.heap.objs.size + 1 + 1) S := hltS (s1.heap.objs.size + 1 + 1, o2) (.tail _ (.tail _ (.tail _ (.tail _ (.tail _ (.head _))))))
                    have hS3 : @LT.lt Nat _ (s1.heap.objs.size + 1 + 1 + 1) S := hltS (s1.heap.objs.size + 1 + 1 + 1, o3) (.tail _ (.tail _ (.tail _ (.tail _ (.tail _ (.tail _ (.head _)))))))
                    have N16 := kst_newsOf N15 (l' := (s1.heap.objs.size + 1 + 1, o2) :: (S, listOf sv.toArray sn) :: (D9, lst ys) :: (D2, listOf its2.toArray nn2) :: (D, listOf its.toArray n) :: (s1.heap.objs.size + 1, o1') :: (s1.heap.objs.size + 1 + 1 + 1, o3) :: (52, t52') :: (45, t45') :: ex2) (fun p hp => by
                      exact Mine.Ar.Sub.use (by k_extra "sub") hp)
                    have hcm2 : ((s1.heap.objs.size + 1 + 1, o2) : Addr × Obj) ∈ (s1.heap.objs.size + 1 + 1, o2) :: (S, listOf sv.toArray sn) :: (D9, lst ys) :: (D2, listOf its2.toArray nn2) :: (D, listOf its.toArray n) :: (s1.heap.objs.size + 1, o1') :: (s1.heap.objs.size + 1 + 1 + 1, o3) :: (52, t52') :: (45, t45') :: ex2 := .head _
                    have hcm3 : ((s1.heap.objs.size + 1 + 1 + 1, o3) : Addr × Obj) ∈ (s1.heap.objs.size + 1 + 1, o2) :: (S, listOf sv.toArray sn) :: (D9, lst ys) :: (D2, listOf its2.toArray nn2) :: (D, listOf its.toArray n) :: (s1.heap.objs.size + 1, o1') :: (s1.heap.objs.size + 1 + 1 + 1, o3) :: (52, t52') :: (45, t45') :: ex2 := .tail _ (.tail _ (.tail _ (.tail _ (.tail _ (.tail _ (.head _))))))
                    have hD92 : D9 ≠ s1.heap.objs.size + 1 + 1 := ne_seq N16 (.tail _ (.tail _ (.head _))) rfl hcm2 d2
                    have hD93 : D9 ≠ s1.heap.objs.size + 1 + 1 + 1 := ne_seq N16 (.tail _ (.tail _ (.head _))) rfl hcm3 d3
                    have hD22 : D2 ≠ s1.heap.objs.size + 1 + 1 := ne_seq N16 (.tail _ (.tail _ (.tail _ (.head _)))) rfl hcm2 d2
                    have hD23 : D2 ≠ s1.heap.objs.size + 1 + 1 + 1 := ne_seq N16 (.tail _ (.tail _ (.tail _ (.head _)))) rfl hcm3 d3
                    have hD2' : D ≠ s1.heap.objs.size + 1 + 1 := ne_seq N16 (.tail _ (.tail _ (.tail _ (.tail _ (.head _))))) rfl hcm2 d2
                    have hD3' : D ≠ s1.heap.objs.size + 1 + 1 + 1 := ne_seq N16 (.tail _ (.tail _ (.tail _ (.tail _ (.head _))))) rfl hcm3 d3
                    k_dflt (refine store_cell (pre := []) F15 N16 (fun _ h => nomatch h) ?hpost2 (by rfl) d2 (by rfl) (by rfl) ?_)
                    case hpost2 =>
                      intro p hp
                      revert hp; revert p
                      refine Mine.Ar.all_cons ?_ (Mine.Ar.all_cons ?_ (Mine.Ar.all_cons ?_ (Mine.Ar.all_cons ?_ (Mine.Ar.all_cons ?_ (Mine.Ar.all_cons ?_ (Mine.Ar.all_cons ?_ (Mine.Ar.all_cons ?_ (fun p hp => ?_))))))))
                      · exact Nat.ne_of_gt hS2
                      · exact hD92
                      · exact hD22
                      · exact hD2'
                      · exact Nat.ne_of_lt (Nat.lt_succ_self _)
                      · exact Nat.ne_of_gt (Nat.lt_succ_self _)
                      · exact Nat.ne_of_lt (Nat.lt_succ_of_lt (Nat.lt_succ_of_lt l052))
                      · exact Nat.ne_of_lt (Nat.lt_succ_of_lt (Nat.lt_succ_of_lt l045))
                      · exact (hc1 p hp).1
                    intro g17 o2' F17 N17 d2'
                    dsimp only [List.nil_append] at N17
                    clear N15 N16 F15
                    k_steps
                    refine Hold.mk ?_
                    have hsl : (sumsL ks).length ≤ 32 := by
                      rw [sumsL_len]
                      exact Nat.pow_le_pow_right (by decide) hk5
                    k_dflt (refine LCt.ListComp_T (F₀ := F17) (by with_unfolding_all rfl) (by decide) (by rfl) (by decide) (by rfl) ?_)
                    k_steps
                    refine Hold.mk ?_
                    rename IsRange _ _ _ _ _ _ _ _ => hrg2
                    rename Fr _ _ _ _ => F18
                    rename News _ _ _ _ => N18
                    refine LCt.CompSrcT.range (by rfl) F18 N18 hrg2 (by rfl) (by rfl) (by decide) fun g18 => ?_
                    refine crestT (n := 24) (fun k ys => IntsAre ys ((((List.range 24).map fun (n : Nat) => (n : Int)).take k).filter fun o => (sumsL ks).contains o)) trivial ?turn18 ?fin18 _ 0 [] (Nat.zero_add _) .nil
                    case turn18 =>
                      rintro k v ys3 I18 oI18 C18 oC18 D18 m18 h18 tk18 E18 hk ⟨u18, rfl⟩ hJ hC hx F19 N19 off19 ne19
                      k_steps
                      refine Hold.mk ?_
                      rename News _ _ _ _ => N20
                      refine in_list_ints (vs := sv) (ns := sumsL ks) (News.isList N20 (.tail _ (.tail _ (.tail _ (.tail _ (.head _)))))) hIs ?_
                      have e9 : ((List.range 24).map fun (n : Nat) => (n : Int)).take (k + 1) = ((List.range 24).map fun (n : Nat) => (n : Int)).take k ++ [(k : Int)] := by
                        rw [List.take_add_one, List.getElem?_map, List.getElem?_range hk]; rfl
                      k_steps
                      · refine Hold.mk (CEnd.intro (by assumption) (by assumption) ?_)
                        have hin := (any_contains (sumsL ks) (0 + (k : Int))).symm.trans ‹(sumsL ks).any (fun x => x == 0 + (k : Int)) = true›
                        rw [Int.zero_add] at hin
                        rw [e9, List.filter_append, List.filter_cons, if_pos hin, Int.zero_add]
                        exact hJ.append (.cons _ _ .nil)
                      · refine Hold.mk (CEnd.intro (by assumption) (by assumption) ?_)
                        have hin := (any_contains (sumsL ks) (0 + (k : Int))).symm.trans ‹(sumsL ks).any (fun x => x == 0 + (k : Int)) = false›
                        rw [Int.zero_add] at hin
                        rw [e9, List.filter_append, List.filter_cons, if_neg (by rw [hin]; decide), List.filter_nil, List.append_nil]
                        exact hJ
                    case fin18 =>
                      intro ys3 hys3
                      intro D18 h18 tk18 F19 N19 off19
                      have hys4 := hys3.length
                      have hlt24 : ((((List.range 24).map fun (n : Nat) => (n : Int)).take 24).filter fun o => (sumsL ks).contains o).length ≤ 24 := Nat.le_trans (List.length_filter_le _ _) (by decide)
                      k_steps
                      refine Hold.mk ?_
                      rename Fr _ _ _ _ => F20
                      rename News _ _ _ _ => N20
                      refine kso_min F20 N20 (News.isList (n := ys.length) N20 (.tail _ (.tail _ (.tail _ (.head _))))) hys (by rw [hlen11]; decide) (by rfl) ?_
                      intro h21 M t21 tk21 F21 N21 hM hMle
                      clear F20 N20
                      k_steps
                      refine Hold.mk ?_
                      rename Fr _ _ _ _ => F22
                      rename News _ _ _ _ => N22
                      have N23 := kst_newsOf N22 (l' := (s1.heap.objs.size + 1 + 1 + 1, o3) :: (s1.heap.objs.size + 1 + 1, o2') :: (S, listOf sv.toArray sn) :: (D9, lst ys) :: (D2, listOf its2.toArray nn2) :: (D, listOf its.toArray n) :: (s1.heap.objs.size + 1, o1') :: (52, t52') :: (45, t45') :: ex2) (fun p hp => by
                        exact Mine.Ar.Sub.use (by k_extra "sub") hp)
                      k_dflt (refine store_cell (pre := []) F22 N23 (fun _ h => nomatch h) ?hpost3 (by rfl) d3 (by rfl) (by rfl) ?_)
                      case hpost3 =>
                        intro p hp
                        revert hp; revert p
                        refine Mine.Ar.all_cons ?_ (Mine.Ar.all_cons ?_ (Mine.Ar.all_cons ?_ (Mine.Ar.all_cons ?_ (Mine.Ar.all_cons ?_ (Mine.Ar.all_cons ?_ (Mine.Ar.all_cons ?_ (Mine.Ar.all_cons ?_ (fun p hp => ?_))))))))
                        · exact Nat.ne_of_lt (Nat.lt_succ_self _)
                        · exact Nat.ne_of_gt hS3
                        · exact hD93
                        · exact hD23
                        · exact hD3'
                        · exact Nat.ne_of_lt (Nat.lt_succ_of_lt (Nat.lt_succ_self _))
                        · exact Nat.ne_of_lt (Nat.lt_succ_of_lt (Nat.lt_succ_of_lt (Nat.lt_succ_of_lt l052)))
                        · exact Nat.ne_of_lt (Nat.lt_succ_of_lt (Nat.lt_succ_of_lt (Nat.lt_succ_of_lt l045)))
                        · exact (hc1 p hp).2
                      intro g24 o3' F24 N24 d3'
                      dsimp only [List.nil_append] at N24
                      clear N22 N23 F22
                      k_steps
                      refine Hold.mk ?_
                      rename Fr _ _ _ _ => F25
                      rename News _ _ _ _ => N25
                      k_dflt (refine LCg.ListComp_U (F₀ := F25) (by with_unfolding_all rfl) (by decide) (by rfl) (by decide) (by rfl) ?_)
                      k_steps
                      refine Hold.mk ?_
                      rename Fr _ _ _ _ => F26
                      rename News _ _ _ _ => N26
                      have hyl := hys.length
                      refine LCg.CompSrc.ledger (ax := D9) (its := ys.toArray) (k := ys.length) (by rfl) F26 N26 (.tail _ (.tail _ (.tail _ (.head _)))) (by rw [List.size_toArray, hyl, hlen11]; decide) fun g26 => ?_
                      refine crest (n := ys.toArray.size) (fun k zs => PyProof.Rows.StrsAre zs ((txtL ks M).take k)) (Or.inr ⟨_, .tail _ (.tail _ (.tail _ (.head _))), rfl, _, rfl⟩) ?turn26 ?fin26 _ 0 [] (Nat.zero_add _) .nil
                      case turn26 =>
                        intro k v zs I26 oI26 C26 oC26 D26 m26 h26 tk26 E26 hk hv hJ hC hx F27 N27 off27 ne27
                        have hk' : k < (heldSeq ks).length := by rw [← hyl]; simpa using hk
                        obtain ⟨to, hx2⟩ := hys.get k _ (List.getElem?_eq_getElem hk')
                        obtain rfl : v = .int (heldSeq ks)[k] to := by
                          have hv2 : ys[k]? = some v := by simpa using hv
                          rw [hx2] at hv2
                          exact (Option.some.inj hv2).symm
                        have e9 : (txtL ks M).take (k + 1) = (txtL ks M).take k ++ [if (heldSeq ks)[k] = M then Str.ofString "	" else Str.ofString " "] := by
                          unfold txtL
                          rw [List.take_add_one, List.getElem?_map, List.getElem?_eq_getElem hk']; rfl
                        generalize (heldSeq ks)[k] = aa at hx e9
                        k_steps
                        · refine Hold.mk (CEnd.intro (by assumption) (by assumption) ?_)
                          rw [e9, if_pos (by assumption)]
                          exact strs_append hJ (.cons _ _ .nil)
                        · refine Hold.mk (CEnd.intro (by assumption) (by assumption) ?_)
                          rw [e9, if_neg (by assumption)]
                          exact strs_append hJ (.cons _ _ .nil)
                      case fin26 =>
                        intro zs hzs
                        rw [List.take_of_length_le (by unfold txtL; simp [hyl])] at hzs
                        intro D26 h26 tk26 F27 N27 off27
                        k_steps
                        refine Hold.mk ?_
                        rename News _ _ _ _ => N28
                        refine PyProof.Rows.join_list (items := zs.toArray) (ys := txtL ks M) (News.isList (n := zs.length) N28 (.head _)) hzs (txt_sum ks M) ?_
                        intro t28 k28
                        have htc := text_cps ks M
                        generalize Txt.join (Str.ofString "") (txtL ks M) = tx at htc
                        have htl : tx.cps.size = 48 := by
                          rw [← Array.length_toList, htc]; unfold txtC; rw [List.length_map, hlen11]
                        k_steps
                        refine Hold.mk ?_
                        skip
                        rename News _ _ _ _ => N30
                        have N31 := kst_newsOf N30 (l' := (s1.heap.objs.size + 1 + 1 + 1, o3') :: (s1.heap.objs.size + 1 + 1, o2') :: (S, listOf sv.toArray sn) :: (D9, lst ys) :: (D2, listOf its2.toArray nn2) :: (D, listOf its.toArray n) :: (s1.heap.objs.size + 1, o1') :: (52, t52') :: (45, t45') :: ex2) (fun p hp => .tail _ hp)
                        k_dflt (refine' Does.use (ws_does w _ tx _ (by rw [htl]; decide) ?wx) ?B ?F ?X ?N ?T ?hk ?hd ?hu ?ret; (case B => k_asm); (case F => k_asm); (case X => k_asm); (case N => exact N31); (case T => k_asm))
                        case wx =>
                          rw [htc]
                          intro c hc
                          obtain ⟨a, _, rfl⟩ := List.mem_map.mp hc
                          by_cases h : a = M
                          · exact .inr (if_pos h)
                          · exact .inl (if_neg h)
                        case hk => rfl
                        case hd => decide
                        case hu => decide
                        case ret =>
                          rintro r32 news32 h32 tk32 F32 N32 ⟨cv, X9, d9, D31, D32, j1, j2, j3, j4, j5, t81, t82, t83, rfl, rfl, hIw, q1, q2, q3, q4⟩
                          rw [htc] at hIw N32
                          obtain ⟨hcl, hcb⟩ := txt_cc ks M
                          obtain ⟨st, hst⟩ : ∃ st, st = wsRun (txtC ks M) := ⟨_, rfl⟩
                          rw [← hst] at hIw N32 hcl hcb
                          skip
                          unfold wsLed at N32
                          k_steps
                          refine Hold.mk ?_
                          rename News _ _ _ _ => N33
                          k_dflt (refine' Does.use (lrs_does w _ tx st cv X9 d9 D31 D32 _ j1 j2 j3 j4 j5 t81 t82 t83 hIw q1 q2 q3 q4 hcl) ?B ?F ?X ?N ?T ?hk ?hd ?hu ?ret; (case B => k_asm); (case F => k_asm); (case X => k_asm); (case N => exact N33); (case T => k_asm))
                          case hk => rfl
                          case hd => decide
                          case hu => decide
                          case ret =>
                            rintro r34 news34 h34 tk34 F34 N34 ⟨rfl, t34, rfl⟩
                            skip
                            unfold wsLed at N34
                            k_steps
                            refine Hold.mk ?_
                            rename Fr _ _ _ _ => F36
                            rename News _ _ _ _ => N36
                            k_dflt (refine LCg.ListComp_U (F₀ := F36) (by with_unfolding_all rfl) (by decide) (by rfl) (by decide) (by rfl) ?_)
                            k_steps
                            refine Hold.mk ?_
                            rename List (Str × Tok) => l37
                            with_reducible rename List.map _ l37 = Txt.split _ _ => e37
                            with_reducible rename ∀ a, a ∈ List.map _ l37 → _ => b37
                            with_reducible rename Fr _ _ _ _ => F37
                            with_reducible rename News _ _ _ _ => N37
                            have htx : tx.cps.size = 48 := by assumption
                            obtain ⟨gs, hgs⟩ : ∃ g, g = gaps 0 (tabsOf (txtC ks M) 0) 48 := ⟨_, rfl⟩
                            have hsp : (l37.map (·.1)).map (·.length) = gs := by
                              rw [e37, split_tabs tx (by show 1 ≤ tx.cps.size; rw [htx]; decide), htc, hgs]
                              show gaps _ _ tx.cps.size = _
                              rw [htx]
                            have hgl : gs.length ≤ 49 := by
                              rw [hgs, gaps_len]
                              have := tabs_len (txtC ks M) 0
                              rw [txt_len] at this
                              omega
                            have hll : l37.length = gs.length := by rw [← hsp, List.length_map, List.length_map]
                            refine LCg.CompSrc.ledger (its := (strValues l37).toArray) (k := 0) (by rfl) F37 N37 (.head _) (by rw [List.size_toArray]; unfold strValues; rw [List.length_map, hll]; exact Nat.le_trans hgl (by decide)) fun g37 => ?_
                            refine crest (n := (strValues l37).toArray.size) (fun k zs => IntsAre zs ((gs.map fun (n : Nat) => (n : Int)).take k)) (Or.inr ⟨_, .head _, rfl, _, rfl⟩) ?turn37 ?fin37 _ 0 [] (Nat.zero_add _) .nil
                            case turn37 =>
                              intro k v zs I37 oI37 C37 oC37 D37 m37 h37 tk37 E37 hk hv hJ hC hx F38 N38 off38 ne38
                              have hk' : k < l37.length := by
                                rw [List.size_toArray] at hk
                                unfold strValues at hk
                                rwa [List.length_map] at hk
                              obtain ⟨pp, tp, hpp⟩ : ∃ (pp : Str) (tp : Tok), l37[k]? = some (pp, tp) := ⟨_, _, List.getElem?_eq_getElem hk'⟩
                              obtain rfl : v = .str pp tp := by
                                have hv2 : (strValues l37)[k]? = some v := by simpa using hv
                                unfold strValues at hv2
                                rw [List.getElem?_map, hpp] at hv2
                                exact (Option.some.inj hv2).symm
                              have e9 : (gs.map fun (n : Nat) => (n : Int)).take (k + 1) = (gs.map fun (n : Nat) => (n : Int)).take k ++ [(pp.length : Int)] := by
                                rw [List.take_add_one, List.getElem?_map, ← hsp, List.getElem?_map, List.getElem?_map, hpp]; rfl
                              have hpl : pp.length ≤ 48 := by
                                have := b37 pp (List.mem_map.mpr ⟨(pp, tp), List.mem_of_getElem? hpp, rfl⟩)
                                rwa [show tx.length = 48 from htx] at this
                              clear hpp
                              k_steps
                              refine Hold.mk (CEnd.intro (by assumption) (by assumption) ?_)
                              rw [e9]
                              exact hJ.append (.cons _ _ .nil)
                            case fin37 =>
                              intro zs9 hzs9
                              rw [List.take_of_length_le (by rw [List.length_map, List.size_toArray]; unfold strValues; rw [List.length_map, hll]; exact Nat.le_refl _)] at hzs9
                              intro D37 h37 tk37 F38 N38 off38
                              k_steps
                              refine Hold.mk ?_
                              with_reducible rename Fr _ _ _ _ => F39
                              with_reducible rename News _ _ _ _ => N39
                              refine kso_max F39 N39 (News.isList (n := zs9.length) N39 (.head _)) hzs9 (by rw [List.length_map, ← hll]; exact gaps_pos _ _ _ hgs hll) (by rfl) ?_
                              intro h40 M40 t40 tk40 F40 N40 hM40 hMle40
                              have hT1 := lead_told hst
                              rw [← hgs] at hT1
                              obtain rfl : M40 = max ((st.cc.length : Int) - 1) (st.b : Int) := by
                                rw [hT1.1]
                                exact max_cast hM40 hMle40
                              clear F39 N39
                              k_steps
                              refine Hold.mk ?_
                              refine ne_no rfl ?_
                              k_steps
                              refine Hold.mk ?_
                              have hokK : ClsOk ks := by assumption
                              have hrch : max ((st.cc.length : Int) - 1) (st.b : Int) < ((((List.range 24).map fun (n : Nat) => (n : Int)).take 24).filter fun o => (sumsL ks).contains o).length := by
                                have := lead_short hokK hM hMle
                                rw [hT1.1, hgs, List.take_of_length_le (by simp)]
                                exact Int.ofNat_lt.mpr this
                              refine ge_no hrch ?_
                              k_steps
                              refine Hold.mk ?_
                              with_reducible rename News _ _ _ _ => N42
                              have N43 := kst_newsOf N42 (fun p hp => List.Mem.tail _ (List.Mem.tail _ hp))
                              k_dflt (refine' Does.use (il_does w _ tx st cv X9 d9 D31 D32 _ j1 j2 j3 j4 j5 t81 t82 t83 hIw q1 q2 q3 q4 hcl _ _ ?hts ?hts2 hcb) ?B ?F ?X ?N ?T ?hk ?hd ?hu ?ret; (case B => k_asm); (case F => k_asm); (case X => k_asm); (case N => exact N43); (case T => k_asm))
                              case hts => omega
                              case hts2 => omega
                              case hk => rfl
                              case hd => decide
                              case hu => decide
                              case ret =>
                                rintro r44 news44 h44 tk44 F44 N44 ⟨rfl, t44, rfl⟩
                                unfold wsLed at N44
                                clear N42 N43
                                rw [il_told hT1.2.2.2 hT1.1 hrch]
                                k_steps
                                refine Hold.mk ?_
                                refine KXw.count (i := (st.nt : Int)) (by rw [count_tabs, htc, hT1.2.1]) ?_
                                intro t45 k45
                                have htx2 : tx.length = 48 := htx
                                k_steps
                                refine Hold.mk ?_
                                refine KXw.rfind (i := 47 - (st.b : Int)) (by rw [rfind_tabs, htc, hT1.2.2.1]; omega) ?_
                                intro t46 k46
                                k_steps
                                refine Hold.mk ?_
                                refine ne_no (by rw [htx2]; exact pos_eq _ _) ?_
                                k_steps
                                focus
                                  refine Hold.mk ?_
                                  have hpos : (0 : Int) < M := by assumption
                                  rename Fr _ _ _ _ => F50
                                  rename News _ _ _ _ => N50
                                  k_dflt (refine LCg.ListComp_U (F₀ := F50) (by with_unfolding_all rfl) (by decide) (by rfl) (by decide) (by rfl) ?_)
                                  k_steps
                                  refine Hold.mk ?_
                                  rename Fr _ _ _ _ => F51
                                  rename News _ _ _ _ => N51
                                  refine LCg.CompSrc.ledger (ax := S) (its := sv.toArray) (k := sn) (by rfl) F51 N51 (by k_mem) (by rw [List.size_toArray, hIs.length]; exact Nat.le_trans hsl (by decide)) fun g51 => ?_
                                  refine crest (n := sv.toArray.size) (fun k zs => IntsAre zs (((sumsL ks).map fun v => (((sumsL ks).count v : Nat) : Int)).take k)) (Or.inr ⟨_, (by k_mem), rfl, _, rfl⟩) ?turn51 ?fin51 _ 0 [] (Nat.zero_add _) .nil
                                  case turn51 =>
                                    intro k v zs I51 oI51 C51 oC51 D51 m51 h51 tk51 E51 hk hv hJ hC hx F52 N52 off52 ne52
                                    have hk' : k < (sumsL ks).length := by rw [← hIs.length]; simpa using hk
                                    obtain ⟨to, hx2⟩ := hIs.get k _ (List.getElem?_eq_getElem hk')
                                    obtain rfl : v = .int (sumsL ks)[k] to := by
                                      have hv2 : sv[k]? = some v := by simpa using hv
                                      rw [hx2] at hv2
                                      exact (Option.some.inj hv2).symm
                                    have e9 : ((sumsL ks).map fun v => (((sumsL ks).count v : Nat) : Int)).take (k + 1) = ((sumsL ks).map fun v => (((sumsL ks).count v : Nat) : Int)).take k ++ [(((sumsL ks).count (sumsL ks)[k] : Nat) : Int)] := by
                                      rw [List.take_add_one, List.getElem?_map, List.getElem?_eq_getElem hk']; rfl
                                    generalize (sumsL ks)[k] = aa at hx e9
                                    k_steps
                                    refine Hold.mk ?_
                                    rename News _ _ _ _ => N53
                                    refine PyProof.Rows.count_list_ints (News.isList (items := sv.toArray) (n := sn) N53 (by k_mem)) hIs ?_
                                    k_steps
                                    refine Hold.mk (CEnd.intro (by assumption) (by assumption) ?_)
                                    rw [e9]
                                    exact hJ.append (.cons _ _ .nil)
                                  case' fin51 =>
                                    intro zs51 hzs51
                                    rw [List.take_of_length_le (by rw [List.length_map, List.size_toArray, hIs.length]; exact Nat.le_refl _)] at hzs51
                                    intro D51 h51 tk51 F52 N52 off52
                                    k_steps
                                    refine Hold.mk ?_
                                    rename Fr _ _ _ _ => F53
                                    rename News _ _ _ _ => N53
                                    refine kso_min F53 N53 (News.isList (n := zs51.length) N53 (.head _)) hzs51 (by rw [List.length_map, sumsL_len]; exact Nat.pow_pos (by decide)) (by rfl) ?_
                                    intro h54 M54 t54 tk54 F54 N54 hM54 hMle54
                                    have h254 : 2 ≤ M54 := twice_told hok hM hMle hpos hM54
                                    clear F53 N53
                                    k_steps
                                all_goals (
                                  refine Hold.mk ?_
                                  rename News _ _ _ _ => N55
                                  have hnt9 := N55
                                  have N56 := kst_newsOf N55 (l' := (52, t52') :: (45, t45') :: (D9, lst ys) :: (D2, listOf its2.toArray nn2) :: ex2) (fun p hp => by
                                    exact Mine.Ar.Sub.use (by k_extra "sub") hp)
                                  obtain ⟨p52, hp52⟩ := ta52.obj
                                  obtain ⟨p45, hp45⟩ := ta45.obj
                                  have h9m : ((D9, lst ys) : Addr × Obj) ∈ (52, t52') :: (45, t45') :: (D9, lst ys) :: (D2, listOf its2.toArray nn2) :: ex2 := .tail _ (.tail _ (.head _))
                                  have h2m : ((D2, listOf its2.toArray nn2) : Addr × Obj) ∈ (52, t52') :: (45, t45') :: (D9, lst ys) :: (D2, listOf its2.toArray nn2) :: ex2 := .tail _ (.tail _ (.tail _ (.head _)))
                                  have a945 : D9 ≠ 45 := ne_tab N56 h9m rfl (.tail _ (.head _)) hp45
                                  have a952 : D9 ≠ 52 := ne_tab N56 h9m rfl (.head _) hp52
                                  have a245 : D2 ≠ 45 := ne_tab N56 h2m rfl (.tail _ (.head _)) hp45
                                  have a252 : D2 ≠ 52 := ne_tab N56 h2m rfl (.head _) hp52
                                  k_dflt (refine' DoesC.use (members_does w ((D9, lst ys) :: (D2, listOf its2.toArray nn2) :: ex2) t52' t45' D2 its2 nn2 ks _ _ (.tail _ (.head _)) (hTr2.mono fun p hp => .tail _ (.tail _ hp)) hk5 hokK (last_ge _) (last_le _) ?n45 ?n52 (ta45.mono fun p hp => .tail _ (.tail _ hp)) (ta52.mono fun p hp => .tail _ (.tail _ hp))) ?B ?F ?X N56 ?T codeHd C1 ?hk ?hd ?hu ?ret; (case B => k_asm); (case F => k_asm); (case X => k_asm); (case T => k_asm))
                                  case n45 =>
                                    intro p hp
                                    rcases List.mem_cons.mp hp with rfl | hp
                                    · exact a945
                                    rcases List.mem_cons.mp hp with rfl | hp
                                    · exact a245
                                    · exact na45 p hp
                                  case n52 =>
                                    intro p hp
                                    rcases List.mem_cons.mp hp with rfl | hp
                                    · exact a952
                                    rcases List.mem_cons.mp hp with rfl | hp
                                    · exact a252
                                    · exact na52 p hp
                                  case hk => rfl
                                  case hd => decide
                                  case hu => decide
                                  case ret =>
                                    rintro r60 news60 h60 tk60 F60 N60 ⟨t60, t52f, t45f, ex9, rfl, hTb⟩
                                    obtain ⟨q52, rfl⟩ := hTb.a52.obj
                                    obtain ⟨q45, rfl⟩ := hTb.a45.obj
                                    have heq9 := hTb.eq
                                    subst heq9
                                    have N61 := kst_newsOf N60 (l' := (D9, lst ys) :: (52, tabObj q52) :: (45, tabObj q45) :: []) (fun p hp => by
                                      revert hp; revert p
                                      refine Mine.Ar.all_cons ?_ (Mine.Ar.all_cons ?_ (Mine.Ar.all_cons ?_ (Mine.Ar.all_nil)))
                                      · exact .tail _ (.tail _ (hTb.sub _ (.head _)))
                                      · exact .head _
                                      · exact .tail _ (.head _))
                                    clear N60 N56 N55
                                    k_steps
                                    refine Hold.mk ?_
                                    rename Fr _ _ _ _ => F62
                                    rename News _ _ _ _ => N62
                                    k_dflt (refine' kmk_slice_ints F62 N62 ?zl ?zp ?zq hys ?zm ?zc ?_ ?zs ?zt ?zz; (case zl => exact News.isList (n := ys.length) N62 (.head _)); (case zp => kmk_part); (case zq => kmk_part); (case zm => exact kmk_from hys (from_ge _)); (case zc => exact rfl); (case zs => with_unfolding_all rfl); (case zt => kmk_pure); (case zz => exact ys_fit hys))
                                    intro D63 ws63 h63 F63 N63 l63 hI63 hC63 hL63
                                    clear F62 N62
                                    k_steps
                                    rw [beq_iff_eq.mpr (members_eq hokK (Int.le_trans (by decide) (last_ge _)) (last_le _))]
                                    refine hQ0 _ _ ?_
                                    first | (k_steps; done) | close_w | (dsimp only; first | (k_steps; done) | close_w | (trace_state; fail))))
end Mine

end

theorem PySem.Challenge.cw_st0036_01_holds : PySem.Challenge.rw_st0036_01.Holds :=
  Mine.lawW
