import PyProof.Rows.All
import Wide.All
import OpenK.AllK
import Wide.FinOn
import Lean
import PySem.Challenge.RW_ik0096_01
set_option Elab.async false
set_option genInjectivity false
set_option genSizeOf false
set_option linter.all false
section
open PySem PySem.W PyProof.Rows
namespace Mine
section
variable {α : Type} {P : α → Prop} {a b : α} {l r : List α}
/-- for all members of a list, head first -/
theorem all_cons (h : P a) (k : ∀ p, p ∈ l → P p) : ∀ p, p ∈ a :: l → P p := fun p hp => by
  rcases List.mem_cons.mp hp with rfl | q
  · exact h
  · exact k p q
theorem all_nil : ∀ p, p ∈ ([] : List α) → P p := fun _ hp => absurd hp List.not_mem_nil
theorem all_app (h : ∀ p, p ∈ l → P p) (k : ∀ p, p ∈ r → P p) : ∀ p, p ∈ l ++ r → P p := fun p hp => (List.mem_append.mp hp).elim (h p) (k p)
theorem sub_refl : ∀ p, p ∈ l → p ∈ l := fun _ h => h
theorem sub_nil : ∀ p, p ∈ ([] : List α) → p ∈ l := fun _ hp => absurd hp List.not_mem_nil
theorem sub_skip (h : ∀ p, p ∈ r → p ∈ l) : ∀ p, p ∈ r → p ∈ a :: l := fun p hp => List.mem_cons_of_mem _ (h p hp)
theorem sub_take (h : ∀ p, p ∈ r → p ∈ l) : ∀ p, p ∈ a :: r → p ∈ a :: l := fun p hp => by
  rcases List.mem_cons.mp hp with rfl | q
  · exact List.mem_cons_self
  · exact List.mem_cons_of_mem _ (h p q)
theorem sub_put (k : a ∈ l) (h : ∀ p, p ∈ r → p ∈ l) : ∀ p, p ∈ a :: r → p ∈ l := fun p hp => by
  rcases List.mem_cons.mp hp with rfl | q
  · exact k
  · exact h p q
theorem sub_at {p : α} (hp : p ∈ r) (h : ∀ q, q ∈ r → q ∈ l) : p ∈ l := h p hp
theorem all_at {p : α} (hp : p ∈ l) (h : ∀ q, q ∈ l → P q) : P p := h p hp
theorem mem_hd : a ∈ a :: l := List.mem_cons_self
theorem mem_tl (h : b ∈ l) : b ∈ a :: l := List.mem_cons_of_mem _ h
/-- a ledger with its last entry set first -/
theorem sub_rot : ∀ p, p ∈ a :: l → p ∈ l ++ [a] := fun p hp => by
  rcases List.mem_cons.mp hp with rfl | q
  · exact List.mem_append_right _ List.mem_cons_self
  · exact List.mem_append_left _ q
end
/-- the post as a name of its own: a walk then carries the name alone -/
theorem gen_post {α : Type} {M : PySem.Model} {A : PySem.Around} {c : PySem.Sem α} {Q : α → PySem.Shared → Prop} {E : Value → PySem.Shared → Prop} {s : PySem.Shared}
    (h : ∀ Q', Q' = Q → PySem.wpAny M A c Q' E s) : PySem.wpAny M A c Q E s := h Q rfl
theorem of_post {α : Type} {Q' Q : α → PySem.Shared → Prop} {a : α} {s : PySem.Shared} (e : Q' = Q) (h : Q a s) : Q' a s := e ▸ h
section
variable {z k x : Str} {v r t : Option Value} {ps : List (Str × Value)} {st : List Str}
theorem ite_go (h : z ≠ k) (e : r = t) : (if z = k then v else r) = t := by rw [if_neg h]; exact e
theorem ite_goR (h : z ≠ k) (e : t = r) : t = (if z = k then v else r) := by rw [if_neg h]; exact e
theorem cont_go (h : st.contains z = false) : (if st.contains z = true then r else t) = t := by rw [h]; rfl
theorem cont_step (h : st.contains z = false) (e : r = t) : (if st.contains z = true then v else r) = t := by rw [h]; exact e
theorem cont_stepR (h : st.contains z = false) (e : t = r) : t = (if st.contains z = true then v else r) := by rw [h]; exact e
theorem cont_cons (h : z ≠ k) (e : st.contains z = false) : (k :: st).contains z = false := by rw [List.contains_cons, e, Bool.or_false]; exact beq_eq_false_iff_ne.mpr h
theorem cont_nil : ([] : List Str).contains z = false := rfl
theorem ne_head {w : Value} (g : ∀ p ∈ (k, w) :: ps, z ≠ p.1) : z ≠ k := g _ (.head _)
theorem ne_tail {q : Str × Value} (g : ∀ p ∈ q :: ps, z ≠ p.1) : ∀ p ∈ ps, z ≠ p.1 := fun p hp => g p (.tail _ hp)
theorem ne_chead (g : (k :: st).contains z = false) : z ≠ k := by
  rintro rfl
  rw [List.contains_cons, beq_self_eq_true, Bool.true_or] at g
  cases g
theorem ne_ctail (g : (k :: st).contains z = false) : st.contains z = false := by
  rw [List.contains_cons, Bool.or_eq_false_iff] at g
  exact g.2
/-- what the names of a list say -/
theorem ps_cons {m : Str → Option Value} {q : Str × Value} (h : m q.1 = some q.2) (e : ∀ p ∈ ps, m p.1 = some p.2) : ∀ p ∈ q :: ps, m p.1 = some p.2 := all_cons h e
end
theorem hide10 {G : Prop} {h₀ h : Heap} {L : Addr} {m : Str → Option Value} {x1 x2 x3 x4 x5 x6 x7 x8 x9 x10 : Str} {v1 v2 v3 v4 v5 v6 v7 v8 v9 v10 : Value} (F : Fr h₀ L h m) (e1 : m x1 = some v1) (e2 : m x2 = some v2) (e3 : m x3 = some v3) (e4 : m x4 = some v4) (e5 : m x5 = some v5) (e6 : m x6 = some v6) (e7 : m x7 = some v7) (e8 : m x8 = some v8) (e9 : m x9 = some v9) (e10 : m x10 = some v10)
    (k : ∀ m' : Str → Option Value, Fr h₀ L h m' → m' x1 = some v1 → m' x2 = some v2 → m' x3 = some v3 → m' x4 = some v4 → m' x5 = some v5 → m' x6 = some v6 → m' x7 = some v7 → m' x8 = some v8 → m' x9 = some v9 → m' x10 = some v10 → G) : G := k m F e1 e2 e3 e4 e5 e6 e7 e8 e9 e10
theorem hide13 {G : Prop} {h₀ h : Heap} {L : Addr} {m : Str → Option Value} {x1 x2 x3 x4 x5 x6 x7 x8 x9 x10 x11 x12 x13 : Str} {v1 v2 v3 v4 v5 v6 v7 v8 v9 v10 v11 v12 v13 : Value} (F : Fr h₀ L h m) (e1 : m x1 = some v1) (e2 : m x2 = some v2) (e3 : m x3 = some v3) (e4 : m x4 = some v4) (e5 : m x5 = some v5) (e6 : m x6 = some v6) (e7 : m x7 = some v7) (e8 : m x8 = some v8) (e9 : m x9 = some v9) (e10 : m x10 = some v10) (e11 : m x11 = some v11) (e12 : m x12 = some v12) (e13 : m x13 = some v13)
    (k : ∀ m' : Str → Option Value, Fr h₀ L h m' → m' x1 = some v1 → m' x2 = some v2 → m' x3 = some v3 → m' x4 = some v4 → m' x5 = some v5 → m' x6 = some v6 → m' x7 = some v7 → m' x8 = some v8 → m' x9 = some v9 → m' x10 = some v10 → m' x11 = some v11 → m' x12 = some v12 → m' x13 = some v13 → G) : G := k m F e1 e2 e3 e4 e5 e6 e7 e8 e9 e10 e11 e12 e13
section
variable {x q : Nat} {R A0 A1 A2 A3 A4 A5 A6 A7 A8 A9 A10 A11 A12 A13 : Prop}
theorem la0 (h :  x < q ∧ R) : x ≠ q := Nat.ne_of_lt h.1
theorem lb0 (h :  x < q ∧ R) : q ≠ x := Nat.ne_of_gt h.1
theorem la1 (h : A0 ∧ x < q ∧ R) : x ≠ q := Nat.ne_of_lt h.2.1
theorem lb1 (h : A0 ∧ x < q ∧ R) : q ≠ x := Nat.ne_of_gt h.2.1
theorem la2 (h : A0 ∧ A1 ∧ x < q ∧ R) : x ≠ q := Nat.ne_of_lt h.2.2.1
theorem lb2 (h : A0 ∧ A1 ∧ x < q ∧ R) : q ≠ x := Nat.ne_of_gt h.2.2.1
theorem la3 (h : A0 ∧ A1 ∧ A2 ∧ x < q ∧ R) : x ≠ q := Nat.ne_of_lt h.2.2.2.1
theorem lb3 (h : A0 ∧ A1 ∧ A2 ∧ x < q ∧ R) : q ≠ x := Nat.ne_of_gt h.2.2.2.1
theorem la4 (h : A0 ∧ A1 ∧ A2 ∧ A3 ∧ x < q ∧ R) : x ≠ q := Nat.ne_of_lt h.2.2.2.2.1
theorem lb4 (h : A0 ∧ A1 ∧ A2 ∧ A3 ∧ x < q ∧ R) : q ≠ x := Nat.ne_of_gt h.2.2.2.2.1
theorem la5 (h : A0 ∧ A1 ∧ A2 ∧ A3 ∧ A4 ∧ x < q ∧ R) : x ≠ q := Nat.ne_of_lt h.2.2.2.2.2.1
theorem lb5 (h : A0 ∧ A1 ∧ A2 ∧ A3 ∧ A4 ∧ x < q ∧ R) : q ≠ x := Nat.ne_of_gt h.2.2.2.2.2.1
theorem la6 (h : A0 ∧ A1 ∧ A2 ∧ A3 ∧ A4 ∧ A5 ∧ x < q ∧ R) : x ≠ q := Nat.ne_of_lt h.2.2.2.2.2.2.1
theorem lb6 (h : A0 ∧ A1 ∧ A2 ∧ A3 ∧ A4 ∧ A5 ∧ x < q ∧ R) : q ≠ x := Nat.ne_of_gt h.2.2.2.2.2.2.1
theorem la7 (h : A0 ∧ A1 ∧ A2 ∧ A3 ∧ A4 ∧ A5 ∧ A6 ∧ x < q ∧ R) : x ≠ q := Nat.ne_of_lt h.2.2.2.2.2.2.2.1
theorem lb7 (h : A0 ∧ A1 ∧ A2 ∧ A3 ∧ A4 ∧ A5 ∧ A6 ∧ x < q ∧ R) : q ≠ x := Nat.ne_of_gt h.2.2.2.2.2.2.2.1
theorem la8 (h : A0 ∧ A1 ∧ A2 ∧ A3 ∧ A4 ∧ A5 ∧ A6 ∧ A7 ∧ x < q ∧ R) : x ≠ q := Nat.ne_of_lt h.2.2.2.2.2.2.2.2.1
theorem lb8 (h : A0 ∧ A1 ∧ A2 ∧ A3 ∧ A4 ∧ A5 ∧ A6 ∧ A7 ∧ x < q ∧ R) : q ≠ x := Nat.ne_of_gt h.2.2.2.2.2.2.2.2.1
theorem la9 (h : A0 ∧ A1 ∧ A2 ∧ A3 ∧ A4 ∧ A5 ∧ A6 ∧ A7 ∧ A8 ∧ x < q ∧ R) : x ≠ q := Nat.ne_of_lt h.2.2.2.2.2.2.2.2.2.1
theorem lb9 (h : A0 ∧ A1 ∧ A2 ∧ A3 ∧ A4 ∧ A5 ∧ A6 ∧ A7 ∧ A8 ∧ x < q ∧ R) : q ≠ x := Nat.ne_of_gt h.2.2.2.2.2.2.2.2.2.1
theorem la10 (h : A0 ∧ A1 ∧ A2 ∧ A3 ∧ A4 ∧ A5 ∧ A6 ∧ A7 ∧ A8 ∧ A9 ∧ x < q ∧ R) : x ≠ q := Nat.ne_of_lt h.2.2.2.2.2.2.2.2.2.2.1
theorem lb10 (h : A0 ∧ A1 ∧ A2 ∧ A3 ∧ A4 ∧ A5 ∧ A6 ∧ A7 ∧ A8 ∧ A9 ∧ x < q ∧ R) : q ≠ x := Nat.ne_of_gt h.2.2.2.2.2.2.2.2.2.2.1
theorem la11 (h : A0 ∧ A1 ∧ A2 ∧ A3 ∧ A4 ∧ A5 ∧ A6 ∧ A7 ∧ A8 ∧ A9 ∧ A10 ∧ x < q ∧ R) : x ≠ q := Nat.ne_of_lt h.2.2.2.2.2.2.2.2.2.2.2.1
theorem lb11 (h : A0 ∧ A1 ∧ A2 ∧ A3 ∧ A4 ∧ A5 ∧ A6 ∧ A7 ∧ A8 ∧ A9 ∧ A10 ∧ x < q ∧ R) : q ≠ x := Nat.ne_of_gt h.2.2.2.2.2.2.2.2.2.2.2.1
theorem la12 (h : A0 ∧ A1 ∧ A2 ∧ A3 ∧ A4 ∧ A5 ∧ A6 ∧ A7 ∧ A8 ∧ A9 ∧ A10 ∧ A11 ∧ x < q ∧ R) : x ≠ q := Nat.ne_of_lt h.2.2.2.2.2.2.2.2.2.2.2.2.1
theorem lb12 (h : A0 ∧ A1 ∧ A2 ∧ A3 ∧ A4 ∧ A5 ∧ A6 ∧ A7 ∧ A8 ∧ A9 ∧ A10 ∧ A11 ∧ x < q ∧ R) : q ≠ x := Nat.ne_of_gt h.2.2.2.2.2.2.2.2.2.2.2.2.1
theorem la13 (h : A0 ∧ A1 ∧ A2 ∧ A3 ∧ A4 ∧ A5 ∧ A6 ∧ A7 ∧ A8 ∧ A9 ∧ A10 ∧ A11 ∧ A12 ∧ x < q ∧ R) : x ≠ q := Nat.ne_of_lt h.2.2.2.2.2.2.2.2.2.2.2.2.2.1
theorem lb13 (h : A0 ∧ A1 ∧ A2 ∧ A3 ∧ A4 ∧ A5 ∧ A6 ∧ A7 ∧ A8 ∧ A9 ∧ A10 ∧ A11 ∧ A12 ∧ x < q ∧ R) : q ≠ x := Nat.ne_of_gt h.2.2.2.2.2.2.2.2.2.2.2.2.2.1
/-- two addresses part: by a fact of the ledger where one stands, else by arithmetic -/
theorem ad_ne (h : x ≠ q := by first | assumption | exact Ne.symm (by assumption) | exact Nat.ne_of_lt (by assumption) | exact Nat.ne_of_gt (by assumption) | exact Nat.ne_of_lt (Nat.lt_succ_self _) | exact Nat.ne_of_gt (Nat.lt_succ_self _) | exact Nat.ne_of_lt (Nat.lt_succ_of_lt (Nat.lt_succ_self _)) | exact Nat.ne_of_gt (Nat.lt_succ_of_lt (Nat.lt_succ_self _)) | exact Nat.ne_of_lt (Nat.lt_succ_of_lt (Nat.lt_succ_of_lt (Nat.lt_succ_self _))) | exact Nat.ne_of_gt (Nat.lt_succ_of_lt (Nat.lt_succ_of_lt (Nat.lt_succ_self _))) | exact Nat.ne_of_lt (Nat.lt_of_succ_lt (by assumption)) | exact Nat.ne_of_gt (Nat.lt_of_succ_lt (by assumption)) | exact Nat.ne_of_lt (Nat.lt_of_succ_lt (Nat.lt_of_succ_lt (by assumption))) | exact Nat.ne_of_gt (Nat.lt_of_succ_lt (Nat.lt_of_succ_lt (by assumption))) | exact Nat.ne_of_lt (Nat.lt_of_succ_lt (Nat.lt_of_succ_lt (Nat.lt_of_succ_lt (by assumption)))) | exact Nat.ne_of_gt (Nat.lt_of_succ_lt (Nat.lt_of_succ_lt (Nat.lt_of_succ_lt (by assumption)))) | exact la0 (by assumption) | exact lb0 (by assumption) | exact la1 (by assumption) | exact lb1 (by assumption) | exact la2 (by assumption) | exact lb2 (by assumption) | exact la3 (by assumption) | exact lb3 (by assumption) | exact la4 (by assumption) | exact lb4 (by assumption) | exact la5 (by assumption) | exact lb5 (by assumption) | exact la6 (by assumption) | exact lb6 (by assumption) | exact la7 (by assumption) | exact lb7 (by assumption) | exact la8 (by assumption) | exact lb8 (by assumption) | exact la9 (by assumption) | exact lb9 (by assumption) | exact la10 (by assumption) | exact lb10 (by assumption) | exact la11 (by assumption) | exact lb11 (by assumption) | exact la12 (by assumption) | exact lb12 (by assumption) | exact la13 (by assumption) | exact lb13 (by assumption) | exact Nat.ne_of_lt (Nat.lt_trans (by assumption) (by assumption)) | exact Nat.ne_of_gt (Nat.lt_trans (by assumption) (by assumption)) | omega) : x ≠ q := h
end
theorem hide5 {G : Prop} {h₀ h : Heap} {L : Addr} {m : Str → Option Value} {x1 x2 x3 x4 x5 : Str} {v1 v2 v3 v4 v5 : Value} (F : Fr h₀ L h m) (e1 : m x1 = some v1) (e2 : m x2 = some v2) (e3 : m x3 = some v3) (e4 : m x4 = some v4) (e5 : m x5 = some v5)
    (k : ∀ m' : Str → Option Value, Fr h₀ L h m' → m' x1 = some v1 → m' x2 = some v2 → m' x3 = some v3 → m' x4 = some v4 → m' x5 = some v5 → G) : G := k m F e1 e2 e3 e4 e5
theorem hide7 {G : Prop} {h₀ h : Heap} {L : Addr} {m : Str → Option Value} {x1 x2 x3 x4 x5 x6 x7 : Str} {v1 v2 v3 v4 v5 v6 v7 : Value} (F : Fr h₀ L h m) (e1 : m x1 = some v1) (e2 : m x2 = some v2) (e3 : m x3 = some v3) (e4 : m x4 = some v4) (e5 : m x5 = some v5) (e6 : m x6 = some v6) (e7 : m x7 = some v7)
    (k : ∀ m' : Str → Option Value, Fr h₀ L h m' → m' x1 = some v1 → m' x2 = some v2 → m' x3 = some v3 → m' x4 = some v4 → m' x5 = some v5 → m' x6 = some v6 → m' x7 = some v7 → G) : G := k m F e1 e2 e3 e4 e5 e6 e7
theorem and3 {A0 A1 A2 G : Prop} (h : A0 ∧ A1 ∧ A2) (k : A0 → A1 → A2 → G) : G := k h.1 h.2.1 h.2.2
theorem and4 {A0 A1 A2 A3 G : Prop} (h : A0 ∧ A1 ∧ A2 ∧ A3) (k : A0 → A1 → A2 → A3 → G) : G := k h.1 h.2.1 h.2.2.1 h.2.2.2
theorem and5 {A0 A1 A2 A3 A4 G : Prop} (h : A0 ∧ A1 ∧ A2 ∧ A3 ∧ A4) (k : A0 → A1 → A2 → A3 → A4 → G) : G := k h.1 h.2.1 h.2.2.1 h.2.2.2.1 h.2.2.2.2
theorem and6 {A0 A1 A2 A3 A4 A5 G : Prop} (h : A0 ∧ A1 ∧ A2 ∧ A3 ∧ A4 ∧ A5) (k : A0 → A1 → A2 → A3 → A4 → A5 → G) : G := k h.1 h.2.1 h.2.2.1 h.2.2.2.1 h.2.2.2.2.1 h.2.2.2.2.2
theorem and7 {A0 A1 A2 A3 A4 A5 A6 G : Prop} (h : A0 ∧ A1 ∧ A2 ∧ A3 ∧ A4 ∧ A5 ∧ A6) (k : A0 → A1 → A2 → A3 → A4 → A5 → A6 → G) : G := k h.1 h.2.1 h.2.2.1 h.2.2.2.1 h.2.2.2.2.1 h.2.2.2.2.2.1 h.2.2.2.2.2.2
theorem and8 {A0 A1 A2 A3 A4 A5 A6 A7 G : Prop} (h : A0 ∧ A1 ∧ A2 ∧ A3 ∧ A4 ∧ A5 ∧ A6 ∧ A7) (k : A0 → A1 → A2 → A3 → A4 → A5 → A6 → A7 → G) : G := k h.1 h.2.1 h.2.2.1 h.2.2.2.1 h.2.2.2.2.1 h.2.2.2.2.2.1 h.2.2.2.2.2.2.1 h.2.2.2.2.2.2.2
theorem and9 {A0 A1 A2 A3 A4 A5 A6 A7 A8 G : Prop} (h : A0 ∧ A1 ∧ A2 ∧ A3 ∧ A4 ∧ A5 ∧ A6 ∧ A7 ∧ A8) (k : A0 → A1 → A2 → A3 → A4 → A5 → A6 → A7 → A8 → G) : G := k h.1 h.2.1 h.2.2.1 h.2.2.2.1 h.2.2.2.2.1 h.2.2.2.2.2.1 h.2.2.2.2.2.2.1 h.2.2.2.2.2.2.2.1 h.2.2.2.2.2.2.2.2
theorem and10 {A0 A1 A2 A3 A4 A5 A6 A7 A8 A9 G : Prop} (h : A0 ∧ A1 ∧ A2 ∧ A3 ∧ A4 ∧ A5 ∧ A6 ∧ A7 ∧ A8 ∧ A9) (k : A0 → A1 → A2 → A3 → A4 → A5 → A6 → A7 → A8 → A9 → G) : G := k h.1 h.2.1 h.2.2.1 h.2.2.2.1 h.2.2.2.2.1 h.2.2.2.2.2.1 h.2.2.2.2.2.2.1 h.2.2.2.2.2.2.2.1 h.2.2.2.2.2.2.2.2.1 h.2.2.2.2.2.2.2.2.2
theorem and11 {A0 A1 A2 A3 A4 A5 A6 A7 A8 A9 A10 G : Prop} (h : A0 ∧ A1 ∧ A2 ∧ A3 ∧ A4 ∧ A5 ∧ A6 ∧ A7 ∧ A8 ∧ A9 ∧ A10) (k : A0 → A1 → A2 → A3 → A4 → A5 → A6 → A7 → A8 → A9 → A10 → G) : G := k h.1 h.2.1 h.2.2.1 h.2.2.2.1 h.2.2.2.2.1 h.2.2.2.2.2.1 h.2.2.2.2.2.2.1 h.2.2.2.2.2.2.2.1 h.2.2.2.2.2.2.2.2.1 h.2.2.2.2.2.2.2.2.2.1 h.2.2.2.2.2.2.2.2.2.2
theorem and12 {A0 A1 A2 A3 A4 A5 A6 A7 A8 A9 A10 A11 G : Prop} (h : A0 ∧ A1 ∧ A2 ∧ A3 ∧ A4 ∧ A5 ∧ A6 ∧ A7 ∧ A8 ∧ A9 ∧ A10 ∧ A11) (k : A0 → A1 → A2 → A3 → A4 → A5 → A6 → A7 → A8 → A9 → A10 → A11 → G) : G := k h.1 h.2.1 h.2.2.1 h.2.2.2.1 h.2.2.2.2.1 h.2.2.2.2.2.1 h.2.2.2.2.2.2.1 h.2.2.2.2.2.2.2.1 h.2.2.2.2.2.2.2.2.1 h.2.2.2.2.2.2.2.2.2.1 h.2.2.2.2.2.2.2.2.2.2.1 h.2.2.2.2.2.2.2.2.2.2.2
theorem and13 {A0 A1 A2 A3 A4 A5 A6 A7 A8 A9 A10 A11 A12 G : Prop} (h : A0 ∧ A1 ∧ A2 ∧ A3 ∧ A4 ∧ A5 ∧ A6 ∧ A7 ∧ A8 ∧ A9 ∧ A10 ∧ A11 ∧ A12) (k : A0 → A1 → A2 → A3 → A4 → A5 → A6 → A7 → A8 → A9 → A10 → A11 → A12 → G) : G := k h.1 h.2.1 h.2.2.1 h.2.2.2.1 h.2.2.2.2.1 h.2.2.2.2.2.1 h.2.2.2.2.2.2.1 h.2.2.2.2.2.2.2.1 h.2.2.2.2.2.2.2.2.1 h.2.2.2.2.2.2.2.2.2.1 h.2.2.2.2.2.2.2.2.2.2.1 h.2.2.2.2.2.2.2.2.2.2.2.1 h.2.2.2.2.2.2.2.2.2.2.2.2
theorem and14 {A0 A1 A2 A3 A4 A5 A6 A7 A8 A9 A10 A11 A12 A13 G : Prop} (h : A0 ∧ A1 ∧ A2 ∧ A3 ∧ A4 ∧ A5 ∧ A6 ∧ A7 ∧ A8 ∧ A9 ∧ A10 ∧ A11 ∧ A12 ∧ A13) (k : A0 → A1 → A2 → A3 → A4 → A5 → A6 → A7 → A8 → A9 → A10 → A11 → A12 → A13 → G) : G := k h.1 h.2.1 h.2.2.1 h.2.2.2.1 h.2.2.2.2.1 h.2.2.2.2.2.1 h.2.2.2.2.2.2.1 h.2.2.2.2.2.2.2.1 h.2.2.2.2.2.2.2.2.1 h.2.2.2.2.2.2.2.2.2.1 h.2.2.2.2.2.2.2.2.2.2.1 h.2.2.2.2.2.2.2.2.2.2.2.1 h.2.2.2.2.2.2.2.2.2.2.2.2.1 h.2.2.2.2.2.2.2.2.2.2.2.2.2
theorem off_lt {a m n k : Nat} (h : a + n < k) (e : Nat.ble m n = true) : a + m < k := Nat.lt_of_le_of_lt (Nat.add_le_add_left (Nat.le_of_ble_eq_true e) a) h
theorem toNat_down {n : Nat} {a b : Int} (h0 : (n : Int) ≤ a) (h : a < b) : a.toNat < b.toNat := by omega
end Mine
end

section
open PySem PySem.W PySem.W.Fast PyProof.Rows
set_option maxRecDepth 100000
namespace Mine
noncomputable def anyF {α : Type} (as : Array α) (p : α → Bool) (start stop : Nat) : Bool :=
  @Bool.rec (fun _ => Bool) (Array.any as p start stop) (@Bool.rec (fun _ => Bool) (Array.any as p start stop) (PySem.W.R.anyR as.toList p) (Nat.beq stop as.size)) (Nat.beq start 0)
theorem any_fast : @Array.any.{0} = @anyF := by
  funext α as p start stop
  unfold anyF
  cases h1 : Nat.beq start 0 with
  | false => rfl
  | true =>
    cases h2 : Nat.beq stop as.size with
    | false => rfl
    | true =>
      have e1 := Nat.eq_of_beq_eq_true h1
      have e2 := Nat.eq_of_beq_eq_true h2
      subst e1; subst e2
      show Array.any as p 0 as.size = PySem.W.R.anyR as.toList p
      rw [← PySem.W.R.anyR_eq]
      exact (Array.any_toList (as := as) (p := p)).symm
noncomputable def tnF : Builtin := by
  refine' (?g : (f : Builtin) → (f = tw4202317264376624991) → Builtin) _ ?h
  case h =>
    delta tw4202317264376624991
    rw [any_fast]
  case g => exact fun f h => f
theorem tnF_eq : tnF = tw4202317264376624991 := by
  delta tw4202317264376624991
  rw [any_fast]
  rfl
end Mine
end

section
open PySem PySem.W PySem.W.Fast PyProof.Rows
set_option maxRecDepth 100000
namespace Mine
noncomputable def TB : String → Option Builtin := fun id => @Bool.rec (fun _ => Option Builtin) (tw14364793385576792824 id) (some tnF) (PySem.W.S.eqLit 29827186395103491166823348853 id)
theorem tt_new : tw14364793385576792824 "type.__new__" = some tw4202317264376624991 := by kernel_rfl
theorem TB_eq : treeTable = TB := by
  rw [te14364793385576792824]
  funext id
  unfold TB
  have e := congrFun (PySem.W.S.eqLit_eq "type.__new__" 29827186395103491166823348853 (by decide +kernel)) id
  cases h : PySem.W.S.eqLit 29827186395103491166823348853 id with
  | false => rfl
  | true =>
    rw [h] at e
    have : id = "type.__new__" := by simpa using e
    subst this
    show tw14364793385576792824 _ = some tnF
    rw [tnF_eq]
    exact tt_new
noncomputable abbrev P0 : Program := PySem.Challenge.pw_ik0096_01
noncomputable def docOf (p : Program) : Str := match p.main.body with
  | _ :: _ :: _ :: _ :: _ :: .ClassDef _ _ _ (.Expr (.Constant (.str d) _ _) _ :: _) _ _ _ _ _ _ _ :: _ => d
  | _ => ⟨#[]⟩
noncomputable def setDoc (d : Str) (p : Program) : Program := { p with main := { p.main with body := match p.main.body with
  | s1 :: s2 :: s3 :: s4 :: s5 :: .ClassDef n bs ks (.Expr (.Constant (.str _) k p) q :: b) ds tps sc tsc bd sa pos :: r => s1 :: s2 :: s3 :: s4 :: s5 :: .ClassDef n bs ks (.Expr (.Constant (.str d) k p) q :: b) ds tps sc tsc bd sa pos :: r
  | l => l } }
theorem set_self : setDoc (docOf P0) P0 = P0 := by kernel_rfl
noncomputable def docS : String := by
  refine' (?g : (l : String) → docOf P0 = Str.ofString l → String) _ ?h
  case h => exact rfl
  case g => exact fun l h => l
theorem docS_eq : docOf P0 = Str.ofString docS := by kernel_rfl
set_option maxHeartbeats 4000000 in
noncomputable def docL : List Char := by
  refine' (?g : (l : List Char) → docS = String.ofList l → List Char) _ ?h
  case h => delta docS; exact rfl
  case g => exact fun l h => l
theorem docL_eq : docS = String.ofList docL := by kernel_rfl
noncomputable def docF : Str := ⟨(docL.map Char.toNat).toArray⟩
theorem docF_eq : docOf P0 = docF := by rw [docS_eq, docL_eq, ofString_ofList]; rfl
noncomputable def envP (p : Program) : Env := { scope := p.main.scope, locals := mainNs, globals := mainNs, cells := [], code := .ref 13, frame := some 14 }
noncomputable def S0 (w : World) (os : OsState) : Shared := ⟨boot_heap w.params, ⟨[]⟩, boot_drawn, boot_toks, os⟩
noncomputable def preS (w : World) (os : OsState) : Shared := match topGo treeTable P0 w 11 (some (.ref 6)) 12 (S0 w os) (topStub P0) with
  | some (s, _) => s
  | none => S0 w os
noncomputable def bt (l : List Obj) : BT := (l.foldl (fun t o => (t.1.ins t.2 o, t.2 + 1)) (BT.nil, 0)).1
noncomputable def T4 (w : World) (os : OsState) : SharedT := { tree := bt (preS w os).heap.objs.toList, n := 15, life := {}, gens := ⟨[]⟩, drawn := {}, toks := 187, os := os }
noncomputable abbrev B0 : List Stmt := behindTheImports P0
theorem pre0 (w : World) (os : OsState) : topGo treeTable P0 w 11 (some (.ref 6)) 12 ⟨boot_heap w.params, ⟨[]⟩, boot_drawn, boot_toks, os⟩ (topStub P0) =
    some ((T4 w os).abs, ⟨denote treeTable (.body B0 (envP P0)), .body B0 (envP P0), ⟨0, 0, 0, 0⟩, [topFrame ⟨0, 0, 0, 0⟩]⟩) := by kernel_rfl
theorem block0 (w : World) (os : OsState) : segRun treeTable P0 w 11 (some (.ref 6)) 1 1 (T4 w os).abs
    (blockOf B0 (envP P0) (.body B0 (envP P0)) ⟨0, 0, 0, 0⟩ [topFrame ⟨0, 0, 0, 0⟩]) = some (.next, (T4 w os).abs, .body B0 (envP P0), ⟨0, 0, 0, 0⟩) := by kernel_rfl
end Mine
end

section
open PySem PySem.W PySem.W.Fast PyProof.Rows
set_option maxRecDepth 100000
namespace Mine
noncomputable abbrev keepL : List Nat := [0, 2, 3, 4, 5, 6, 8, 9, 10, 11, 12, 13, 15, 17, 18, 19, 20, 21, 22]
noncomputable def Qv : Program := view P0 keepL
noncomputable abbrev looseL : List Str := [Str.ofString "_tuplegetter", Str.ofString "Match", Str.ofString "SequenceMatcher"]
noncomputable def runF (p : Program) (w : World) (os : OsState) : Option (Flow × SharedT × Code × Pos) :=
  tw10110043849684766642 TB p w 11 (some (.ref 6)) 1 2743 (T4 w os) (piecesOf (behindTheImports p) (envP P0) (.body B0 (envP P0)) ⟨0, 0, 0, 0⟩ [topFrame ⟨0, 0, 0, 0⟩])
noncomputable def endF (p : Program) (w : World) (os : OsState) : Option (Code × Shared) := (runF p w os).bind fun r => match r.1 with
  | .next => (topRun treeTable P0 w 11 (some (.ref 6)) 2 r.2.1.abs ⟨doneF .next, r.2.2.1, r.2.2.2, [topFrame ⟨0, 0, 0, 0⟩]⟩).map fun s => (r.2.2.1, s)
  | _ => none
noncomputable def seeF (p : Program) (w : World) (as : List Addr) (s : Shared) :=
  (staticsOk (tw5923862056798008813 p.main.body) (boot_heap w.params) s.heap && namesBound p s.heap && gensDone s && laidKept (boot_heap w.params) s.heap,
    tw4187177175401517315 (view p keepL) looseL (tw5923862056798008813 p.main.body) (fun s => xlAt (view p keepL) [] s && recOk [] s) true s, as.map s.heap.get?)
noncomputable def patchE (d : Str) (es : List DictEntry) (k : Nat) : List DictEntry := match k, es with
  | 0, e :: r => (match e.val with | .str _ t => ⟨e.hash, e.key, .str d t⟩ | _ => e) :: r
  | k + 1, e :: r => e :: patchE d r k
  | _, [] => []
noncomputable def patchK (d : Str) (K : Frag) : Frag := K.map fun p => match Nat.beq p.1 241 with
  | true => (match p.2.data with
    | .dict ⟨es⟩ n => (p.1, { p.2 with data := .dict ⟨patchE d es 2⟩ n })
    | _ => p)
  | false => p
theorem size0 (w : World) : ((boot_heap w.params).isNs mainGlobals && (⟨[]⟩ : Array GenState).size == 0, (boot_heap w.params).objs.size, (boot_heap w.params).nsMap mainGlobals "__annotations__") = (true, 11, some (.ref 6)) := by kernel_rfl
theorem open0 : ∀ w : World, (fencedOpening treeTable P0 w 5598).map (fun s => (s.heap, s.gens, s.drawn, s.toks)) = some (boot_heap w.params, ⟨[]⟩, boot_drawn, boot_toks) := boot_open (by kernel_rfl) (by decide) (fun s => by kernel_rfl)
theorem left_run {p q : Program} {loose : List Str} {Xt : Shared → Bool} {α : Type} {Yf : Shared → α} {Ya : World → α} {N M : Nat} {H₀ : Params → Heap} {gs₀ : Array GenState} {d₀ : Drawn} {k₀ m₀ : Nat} {ann : Option Value}
    (open_ : ∀ w : World, (fencedOpening treeTable p w N).map (fun s => (s.heap, s.gens, s.drawn, s.toks)) = some (H₀ w.params, gs₀, d₀, k₀))
    (size : ∀ w : World, ((H₀ w.params).isNs mainGlobals && gs₀.size == 0, (H₀ w.params).objs.size, (H₀ w.params).nsMap mainGlobals "__annotations__") = (true, m₀, ann)) (le : Nat.ble M N = true)
    (run : ∀ (w : World) (os : OsState), ∃ s₁, topRun treeTable p w m₀ ann M ⟨H₀ w.params, gs₀, d₀, k₀, os⟩ (topStub p) = some s₁ ∧
      (staticsOk (importedModules p.main.body) (H₀ w.params) s₁.heap && namesBound p s₁.heap && gensDone s₁ && laidKept (H₀ w.params) s₁.heap) = true ∧
      openSeen q loose (importedModules p.main.body) Xt true s₁ = openGood q loose ∧ Yf s₁ = Ya w) : LeftO p q loose Xt Yf Ya N := fun w => by
  obtain ⟨⟨h, gs, d, k, os⟩, e, e'⟩ := Option.map_eq_some_iff.mp (open_ w)
  obtain ⟨rfl, rfl, rfl, rfl⟩ : h = H₀ w.params ∧ gs = gs₀ ∧ d = d₀ ∧ k = k₀ := by simpa only [Option.some.injEq, Prod.mk.injEq] using e'
  obtain ⟨z1, z2, z3⟩ : _ ∧ _ ∧ _ := by simpa only [Prod.mk.injEq] using size w
  obtain ⟨s₁, r0, l1, l2, l3⟩ := run w os
  have r := topRun_mono (N - M) _ _ _ _ r0
  rw [show M + (N - M) = N by have := Nat.le_of_ble_eq_true le; omega] at r
  have t : topFrom treeTable p w N ⟨H₀ w.params, gs, d, k, os⟩ = some s₁ := by
    unfold topFrom
    dsimp only
    rw [z1, z2, z3, r]
    show (match staticsOk (importedModules p.main.body) (H₀ w.params) s₁.heap && namesBound p s₁.heap && gensDone s₁ && laidKept (H₀ w.params) s₁.heap with | true => _ | false => _) = _
    rw [l1]
  unfold openEnds
  rw [e]
  show (topFrom treeTable p w N _).map _ = _
  rw [t]
  exact congrArg some (Prod.ext l2 l3)
theorem end_run {w : World} {os : OsState} {c : Code} {s : Shared} (h : endF P0 w os = some (c, s)) (hc : c = .body B0 (envP P0)) :
    topRun treeTable P0 w 11 (some (.ref 6)) (12 + (1 + (2743 + 2))) ⟨boot_heap w.params, ⟨[]⟩, boot_drawn, boot_toks, os⟩ (topStub P0) = some s := by
  unfold endF at h
  obtain ⟨⟨f, t, c1, q⟩, h1, h2⟩ := Option.bind_eq_some_iff.mp h
  cases f with
  | next =>
    obtain ⟨s1, h3, h4⟩ := Option.map_eq_some_iff.mp h2
    obtain ⟨rfl, rfl⟩ : c1 = c ∧ s1 = s := by simpa only [Prod.mk.injEq] using h4
    subst hc
    unfold runF at h1
    rw [← te10110043849684766642, ← TB_eq] at h1
    have h9 := piece_app (rest := []) (segRun_of h1) (piece_nil (env := envP P0) h3)
    rw [List.append_nil] at h9
    exact go_top (pre0 w os) (piece_block (block0 w os) h9)
  | _ => cases h2
theorem leftK (K : Params → Frag) (as : List Addr) (e : ∀ P, as = (K P).map (·.1)) (hp : ∀ P, patchK (docOf P0) (K P) = K P)
    (hk : ∀ w os, (endF (setDoc docF P0) w os).map (fun r => (r.1, seeF (setDoc docF P0) w as r.2)) = some (.body B0 (envP P0), true, openGood (view (setDoc docF P0) keepL) looseL, (patchK docF (K w.params)).map fun p => some p.2)) :
    LeftO P0 Qv looseL (fun s => xlAt Qv [] s && recOk [] s) (Hook.obs (kHook K as e)) (Hook.val (kHook K as e)) 5598 := by
  refine left_run (M := 12 + (1 + (2743 + 2))) open0 size0 (by decide +kernel) fun w os => ?_
  have h := hk w os
  rw [← docF_eq, set_self, hp] at h
  obtain ⟨⟨c, s⟩, h1, h2⟩ := Option.map_eq_some_iff.mp h
  unfold seeF at h2
  rw [← te5923862056798008813, ← te4187177175401517315] at h2
  simp only [Prod.mk.injEq] at h2
  obtain ⟨rfl, l1, l2, l3⟩ := h2
  exact ⟨s, end_run h1 rfl, l1, l2, l3⟩
end Mine
end

section
open PySem PySem.W PySem.W.Fast PyProof.Rows
set_option maxRecDepth 100000
namespace Mine
local macro_rules | `(tactic| o_law) => `(tactic| (refine holds_law (by kernel_rfl) fun said => ?_))
theorem xlL (s : Shared) (e : (xlAt Qv [] s && recOk [] s) = true) : XL Qv [] (s.heap.nsMap mainGlobals) s.heap := xl_of s (Bool.and_eq_true_iff.mp e).1
theorem recL (s : Shared) (e : (xlAt Qv [] s && recOk [] s) = true) : RecFacts [] s.heap := recFacts_of (Bool.and_eq_true_iff.mp e).2
local macro_rules | `(tactic| o_head (kHook $K $as $e)) => `(tactic| (refine holds_open (leftK $K $as $e (fun _ => by kernel_rfl) (fun _ _ => by kernel_rfl)) (Hook.of _) (Hook.keeps _) xlL XL.keeps (by rfl) (by rfl) (by rfl) recL (by rfl) (by first | assumption | decide +kernel) (by decide +kernel) ⟨rfl, rfl, rfl, rfl, rfl, by decide +kernel⟩ ?hw ?hc))
set_option maxHeartbeats 0 in
open_top hd for PySem.Challenge.rw_ik0096_01
/-- open_top leaves the walk's lines for a top on: off again -/
theorem top_off : True := by
  w_top off
  trivial
end Mine
end

section
open PySem PySem.W PyProof.Rows
set_option maxRecDepth 100000
namespace Mine
noncomputable abbrev bound (id : String) (a : Addr) : Obj := { cls := .type "builtin_function_or_method", data := .fields #[.builtin id, .ref a] }
theorem tl_dict_get : typeLookup (.type "dict") (Str.ofString "get") = pure (some (.builtin "dict.get")) := by rw [typeLookup_type, builtinLookup_eq_fast]; kernel_rfl
theorem ty_dict_get : typeOf (.builtin "dict.get") = pure (.type "method_descriptor") := by show builtinType _ = _; rw [builtinType_eq_fast]; kernel_rfl
theorem ty_set_contains : typeOf (.builtin "set.__contains__") = pure (.type "method_descriptor") := by show builtinType _ = _; rw [builtinType_eq_fast]; kernel_rfl
theorem tl_set_contains : typeLookup (.type "set") (Str.ofString "__contains__") = pure (some (.builtin "set.__contains__")) := by rw [typeLookup_type, builtinLookup_eq_fast]; kernel_rfl
theorem tl_md_get : typeLookup (.type "method_descriptor") (Str.ofString "__get__") = pure (some (.builtin "method_descriptor.__get__")) := by rw [typeLookup_type, builtinLookup_eq_fast]; kernel_rfl
theorem tl_md_set : typeLookup (.type "method_descriptor") (Str.ofString "__set__") = pure none := by rw [typeLookup_type, builtinLookup_eq_fast]; kernel_rfl
theorem tl_md_del : typeLookup (.type "method_descriptor") (Str.ofString "__delete__") = pure none := by rw [typeLookup_type, builtinLookup_eq_fast]; kernel_rfl

theorem sub_dict : isSubtype (.type "dict") (.type "dict") = pure true := by rw [isSubtype_type]; kernel_rfl
theorem sub_set : isSubtype (.type "set") (.type "set") = pure true := by rw [isSubtype_type]; kernel_rfl
section
variable {prog : Program} {w : World} {A : Around} {E : Value → Shared → Prop} {s : Shared}


theorem md_get_dict {P : Fin → Shared → Prop} {a : Addr} (hT : s.TypeIs (.ref a) "dict")
    (h : P (.done (.ret (.ref s.heap.objs.size))) { s with heap := s.heap.push (bound "dict.get" a) }) :
    wpAny (model prog w) A (Builtin.«method_descriptor.__get__» ⟨[.builtin "dict.get", .ref a, .type "dict"], []⟩) P E s := by
  unfold Builtin.«method_descriptor.__get__»
  have f1 := sub_dict
  repeat (any_goals (first | assumption | wp_step))
  rw [show (".".intercalate ("dict.get".cutAt '.').dropLast) = "dict" by decide +kernel]
  refine wpAny_of_eq f1 ?_
  refine KFB.if_not rfl (wpAny_pure ?_)
  refine wpAny_bind (wpAny_newObj_type (wpAny_pure h))
theorem md_get_set {P : Fin → Shared → Prop} {a : Addr} (hT : s.TypeIs (.ref a) "set")
    (h : P (.done (.ret (.ref s.heap.objs.size))) { s with heap := s.heap.push (bound "set.__contains__" a) }) :
    wpAny (model prog w) A (Builtin.«method_descriptor.__get__» ⟨[.builtin "set.__contains__", .ref a, .type "set"], []⟩) P E s := by
  unfold Builtin.«method_descriptor.__get__»
  have f1 := sub_set
  repeat (any_goals (first | assumption | wp_step))
  rw [show (".".intercalate ("set.__contains__".cutAt '.').dropLast) = "set" by decide +kernel]
  refine wpAny_of_eq f1 ?_
  refine KFB.if_not rfl (wpAny_pure ?_)
  refine wpAny_bind (wpAny_newObj_type (wpAny_pure h))
theorem slot_md_get : Slot "method_descriptor" "__get__" "method_descriptor.__get__" :=
  .of (owner := "method_descriptor") (n := "__get__") (by rw [typeLookup_type, builtinLookup_eq_fast]; kernel_rfl) (by decide +kernel) (by decide +kernel) (by decide +kernel)
    (by first | exact .inl (by decide +kernel) | exact .inr (by decide +kernel)) (by rw [isSubtype_type]; kernel_rfl)
theorem entry_md_get : entryFor table "method_descriptor.__get__" = some Builtin.«method_descriptor.__get__» := entryFor_of_tree (by kernel_rfl)
theorem args_md_get (a b c : Value) : argsOk "method_descriptor.__get__" ⟨[a, b, c], []⟩ := by unfold argsOk; kernel_rfl
theorem meets_ga_dict_get (a : Addr) (es : Array DictEntry) (k : Nat) (sl : Array (Option Value)) (u : Tok) :
    Meets (Builtin.«object.__getattribute__» ⟨[.ref a, .str (Str.ofString "get") u], []⟩) (fun A R s => s.heap.get? a = some { cls := .type "dict", dict := none, data := .dict es k, slots := sl } ∧
      R (.ok (.ret (.ref s.heap.objs.size))) { s with heap := s.heap.push (bound "dict.get" a) }) :=
  Meets.of_wp fun prog w A R s hs => by
    obtain ⟨hp, g, d, tk, os⟩ := s
    obtain ⟨hx, hs⟩ := hs
    have hT : (⟨hp, g, d, tk, os⟩ : Shared).TypeIs (.ref a) "dict" := ⟨_, hx, rfl⟩
    have f1 := tl_dict_get
    have f2 := ty_dict_get
    have f3 := tl_md_get
    have f4 := tl_md_set
    have f5 := tl_md_del
    unfold Builtin.«object.__getattribute__»
    repeat (any_goals (first | assumption | wp_step))
    refine codeAny_call_builtin slot_md_get.plain entry_md_get (slot_md_get.check _ _ _ _ _ _ _ _ f2 (args_md_get _ _ _) ?_)
    exact md_get_dict hT (wpAny_pure ⟨_, rfl, hs⟩)
theorem meets_ga_set_contains (a : Addr) (es : Array (Int × Value)) (k : Nat) (tb : SetTable) (sl : Array (Option Value)) (u : Tok) :
    Meets (Builtin.«object.__getattribute__» ⟨[.ref a, .str (Str.ofString "__contains__") u], []⟩) (fun A R s => s.heap.get? a = some { cls := .type "set", dict := none, data := .set es k tb, slots := sl } ∧
      R (.ok (.ret (.ref s.heap.objs.size))) { s with heap := s.heap.push (bound "set.__contains__" a) }) :=
  Meets.of_wp fun prog w A R s hs => by
    obtain ⟨hp, g, d, tk, os⟩ := s
    obtain ⟨hx, hs⟩ := hs
    have hT : (⟨hp, g, d, tk, os⟩ : Shared).TypeIs (.ref a) "set" := ⟨_, hx, rfl⟩
    have f1 := tl_set_contains
    have f2 := ty_set_contains
    have f3 := tl_md_get
    have f4 := tl_md_set
    have f5 := tl_md_del
    unfold Builtin.«object.__getattribute__»
    repeat (any_goals (first | assumption | wp_step))
    refine codeAny_call_builtin slot_md_get.plain entry_md_get (slot_md_get.check _ _ _ _ _ _ _ _ f2 (args_md_get _ _ _) ?_)
    exact md_get_set hT (wpAny_pure ⟨_, rfl, hs⟩)
theorem slot_set_ga : Slot "set" "__getattribute__" "set.__getattribute__" :=
  .of (owner := "set") (n := "__getattribute__") (by rw [typeLookup_type, builtinLookup_eq_fast]; kernel_rfl) (by decide +kernel) (by decide +kernel) (by decide +kernel)
    (by first | exact .inl (by decide +kernel) | exact .inr (by decide +kernel)) (by rw [isSubtype_type]; kernel_rfl)
theorem entry_set_ga : entryFor table "set.__getattribute__" = some Builtin.«object.__getattribute__» :=
  entryFor_alias (id' := "object.__getattribute__") (by kernel_rfl) (by decide +kernel) (by decide +kernel) (by kernel_rfl)
theorem args_set_ga (a b : Value) : argsOk "set.__getattribute__" ⟨[a, b], []⟩ := by unfold argsOk; kernel_rfl
theorem set_getattr_none : typeLookup (.type "set") "__getattr__" = pure none := by rw [typeLookup_type, builtinLookup_eq_fast]; kernel_rfl
theorem getAttr_dict_get {a : Addr} {o : Obj} {es : Array DictEntry} {k : Nat} {Q : Value → Shared → Prop}
    (hx : s.heap.get? a = some o) (hc : o.cls = .type "dict") (hdat : o.data = .dict es k) (hd : o.dict = none)
    (h : Q (.ref s.heap.objs.size) { s with heap := s.heap.push (bound "dict.get" a), toks := s.toks + 1 }) :
    wpAny (model prog w) A (getAttr (.ref a) (Str.ofString "get") true) Q E s := by
  obtain ⟨c, dct, dat, sl⟩ := o
  simp only at hc hdat hd
  subst hc hdat hd
  obtain ⟨hp, g, d, tk, os⟩ := s
  have hT : ∀ tk', (⟨hp, g, d, tk', os⟩ : Shared).TypeIs (.ref a) "dict" := fun _ => ⟨_, hx, rfl⟩
  have f3 := F.slot_dict_getattribute.lookup
  have f4 := F.slot_dict_getattribute.bind (.ref a)
  have f5 := am_dict_getattr_none
  unfold getAttr getAttrBy
  repeat (any_goals (first | assumption | exact hT _ | ((with_reducible show wpAny _ _ (call (Value.builtin "dict.__getattribute__") _ _) _ _ _); refine call_meets F.slot_dict_getattribute (hT _) am_entry_dict_getattribute (F.args_dict_getattribute_2 _ _) (meets_ga_dict_get a es k sl _) ⟨hx, ?_⟩) | wp_step))
  exact wpAny_pure h
theorem getAttr_set_contains {a : Addr} {o : Obj} {es : Array (Int × Value)} {k : Nat} {tb : SetTable} {Q : Value → Shared → Prop}
    (hx : s.heap.get? a = some o) (hc : o.cls = .type "set") (hdat : o.data = .set es k tb) (hd : o.dict = none)
    (h : Q (.ref s.heap.objs.size) { s with heap := s.heap.push (bound "set.__contains__" a), toks := s.toks + 1 }) :
    wpAny (model prog w) A (getAttr (.ref a) (Str.ofString "__contains__") true) Q E s := by
  obtain ⟨c, dct, dat, sl⟩ := o
  simp only at hc hdat hd
  subst hc hdat hd
  obtain ⟨hp, g, d, tk, os⟩ := s
  have hT : ∀ tk', (⟨hp, g, d, tk', os⟩ : Shared).TypeIs (.ref a) "set" := fun _ => ⟨_, hx, rfl⟩
  have f3 := slot_set_ga.lookup
  have f4 := slot_set_ga.bind (.ref a)
  have f5 := set_getattr_none
  unfold getAttr getAttrBy
  repeat (any_goals (first | assumption | exact hT _ | ((with_reducible show wpAny _ _ (call (Value.builtin "set.__getattribute__") _ _) _ _ _); refine call_meets slot_set_ga (hT _) entry_set_ga (args_set_ga _ _) (meets_ga_set_contains a es k tb sl _) ⟨hx, ?_⟩) | wp_step))
  exact wpAny_pure h
end
end Mine
end

section
open PySem PySem.W PyProof.Rows
set_option maxRecDepth 100000
namespace Mine
noncomputable def sigDG : Manifest.Signature := ⟨.positional, "dict.get", "get", .self, [⟨"key", .posOnly, true⟩, ⟨"default", .posOnly, false⟩]⟩
noncomputable def sigSC : Manifest.Signature := ⟨.oneArg, "set.__contains__", "__contains__", .self, [⟨"object", .posOnly, true⟩]⟩
theorem sig_dg : Manifest.signature? "dict.get" = some sigDG := by kernel_rfl
theorem sig_sc : Manifest.signature? "set.__contains__" = some sigSC := by kernel_rfl
theorem kind_dg : builtinKind "dict.get" = some .method := by decide +kernel
theorem kind_sc : builtinKind "set.__contains__" = some .method := by decide +kernel
theorem ca_dg (a : Addr) (k v : Value) : Bind.checkArgs "dict.get" { sigDG with full := s!"{Bind.lastOf "dict"}.{Bind.lastOf "dict.get"}" } ⟨[.ref a, k, v], []⟩ = pure () := by kernel_rfl
theorem ca_sc (a : Addr) (k : Value) : Bind.checkArgs "set.__contains__" { sigSC with full := s!"{Bind.lastOf "set"}.{Bind.lastOf "set.__contains__"}" } ⟨[.ref a, k], []⟩ = pure () := by kernel_rfl
section
variable {prog : Program} {w : World} {M : Model} {A : Around} {E : Value → Shared → Prop} {s : Shared}
theorem ck_dg {a : Addr} {k v : Value} {es : Array DictEntry} {ep : Nat} {sl : Array (Option Value)} {Q : Unit → Shared → Prop} (hx : s.heap.get? a = some { cls := .type "dict", dict := none, data := .dict es ep, slots := sl }) (h : Q () s) : wpAny M A (checkBoundCall "dict.get" ⟨[.ref a, k, v], []⟩) Q E s := by
  have hT : s.TypeIs (.ref a) "dict" := ⟨_, hx, rfl⟩
  unfold checkBoundCall
  rw [sig_dg, kind_dg]
  have g1 : isSubtype (.type "dict") (.type "module") = pure false := by rw [isSubtype_type]; kernel_rfl
  have g2 : isSubtype (.type "dict") (.type "type") = pure false := by rw [isSubtype_type]; kernel_rfl
  have g4 : Manifest.varargsMethods.contains "dict.get" = false := by decide +kernel
  repeat (any_goals (first | assumption | (refine wpAny_of_eq (ca_dg a k v) ?_) | wp_step))
theorem ck_sc {a : Addr} {k : Value} {es : Array (Int × Value)} {ep : Nat} {tb : SetTable} {sl : Array (Option Value)} {Q : Unit → Shared → Prop} (hx : s.heap.get? a = some { cls := .type "set", dict := none, data := .set es ep tb, slots := sl }) (h : Q () s) : wpAny M A (checkBoundCall "set.__contains__" ⟨[.ref a, k], []⟩) Q E s := by
  have hT : s.TypeIs (.ref a) "set" := ⟨_, hx, rfl⟩
  unfold checkBoundCall
  rw [sig_sc, kind_sc]
  have g1 : isSubtype (.type "set") (.type "module") = pure false := by rw [isSubtype_type]; kernel_rfl
  have g2 : isSubtype (.type "set") (.type "type") = pure false := by rw [isSubtype_type]; kernel_rfl
  have g4 : Manifest.varargsMethods.contains "set.__contains__" = false := by decide +kernel
  repeat (any_goals (first | assumption | (refine wpAny_of_eq (ca_sc a k) ?_) | wp_step))
theorem call_bound_of {x a : Addr} {id : String} {B : Builtin} {args : List Value} {Q : Value → Shared → Prop} (hx : s.heap.get? x = some (bound id a)) (entry : entryFor table id = some B) (plain : plainId id = true)
    (ck : ∀ {A' : Around} {E' : Value → Shared → Prop} {Q' : Unit → Shared → Prop}, Q' () s → wpAny (model prog w) A' (checkBoundCall id ⟨.ref a :: args, []⟩) Q' E' s)
    (tree : wpAny (model prog w) A.in1 (B ⟨.ref a :: args, []⟩) (fun fin s' => match fin with | .done f => wants Q E (.ok f) s' | .again c' => c'.quiet = true ∧ codeAny (model prog w) A c' (wants Q E) s') (fun e s' => wants Q E (.error e) s') s) :
    wpAny (model prog w) A (call (.ref x) args) Q E s := by
  refine wpAny_call (codeAny_of_tree ?_)
  show wpAny _ A.in1 (callAny (.ref x) ⟨args, []⟩) _ _ s
  simp only [callAny]
  refine wpAny_bind (wpAny_load hx ?_)
  simp only [show (Value.type "builtin_function_or_method" == Value.type "method" || Value.type "builtin_function_or_method" == Value.type "builtin_function_or_method" || Value.type "builtin_function_or_method" == Value.type "method-wrapper") = true by decide, if_true]
  refine KFB.if_so (by decide) ?_
  refine wpAny_bind (ck ?_)
  refine wpAny_bind (wpAny_pure (wpAny_pure ?_))
  refine ⟨plainId_quiet plain _, codeAny_builtin entry ?_⟩
  rw [Around.under_plainId plain]
  exact tree
end
end Mine
end

section
open PySem PySem.W PyProof.Rows PyProof.V PySem.Calls
set_option maxRecDepth 100000
namespace Mine
noncomputable def Stopped (P : Prop) : Prop := P
theorem unstop {P : Prop} (h : Stopped P) : P := h
theorem unstopR (n : Addr) {M : Model} {A : Around} {args : List Value} {Q E : Value → Shared → Prop} {s : Shared} (h : Stopped (wpAny M A (call (Value.ref n) args) Q E s)) : wpAny M A (call (Value.ref n) args) Q E s := h
section
variable {prog : Program} {w : World} {M : Model} {A : Around} {E : Value → Shared → Prop} {s : Shared} {h₀ : Heap} {L d q : Addr} {m : Str → Option Value} {news : List (Addr × Obj)} {o : Obj}
variable {K : Type} [DecidableEq K] {knd : PySem.KeyKind prog w K} {kvs : List (K × Value)} {k : K} {key dflt : Value}
theorem bm_dict_get {Q : Value → Shared → Prop} (F : Fr h₀ L s.heap m) (N : News h₀ L s.heap news) (hm : (d, o) ∈ news) (hd : o.IsDictOf knd kvs)
    (h : ∀ x h', Fr h₀ L h' m → News h₀ L h' ((x, bound "dict.get" d) :: news) → (∀ p ∈ news, p.1 < x) → Q (.ref x) { s with heap := h', toks := s.toks + 1 }) :
    wpAny (model prog w) A (getAttr (.ref d) (Str.ofString "get") true) Q E s := by
  obtain ⟨es, ep, hx, hdat, _⟩ := hd
  exact getAttr_dict_get (N.get hm) hx.1 hdat hx.2.1 (h _ _ (F.push _) (N.push F _) fun p hp => Heap.lt_size (N p hp).1)
theorem bm_set_contains {Q : Value → Shared → Prop} {es : Array (Int × Value)} {n : Nat} {tb : SetTable} (F : Fr h₀ L s.heap m) (N : News h₀ L s.heap news) (hm : (d, o) ∈ news) (hc : o.cls = .type "set") (hdat : o.data = .set es n tb) (hd : o.dict = none)
    (h : ∀ x h', Fr h₀ L h' m → News h₀ L h' ((x, bound "set.__contains__" d) :: news) → (∀ p ∈ news, p.1 < x) → Q (.ref x) { s with heap := h', toks := s.toks + 1 }) :
    wpAny (model prog w) A (getAttr (.ref d) (Str.ofString "__contains__") true) Q E s :=
  getAttr_set_contains (N.get hm) hc hdat hd (h _ _ (F.push _) (N.push F _) fun p hp => Heap.lt_size (N p hp).1)
theorem bc_dict_get {Q : Value → Shared → Prop} (N : News h₀ L s.heap news) (hq : (q, bound "dict.get" d) ∈ news) (hm : (d, o) ∈ news) (hd : o.IsDictOf knd kvs) (lo : (d == sysModules) = false) (hkey : knd.is k key = true)
    (h : Q ((valueAt kvs k).getD dflt) { s with toks := s.toks + 1 }) : wpAny (model prog w) A (call (.ref q) [key, dflt]) Q E s := by
  have hD := kda_dict N hm hd
  obtain ⟨es, ep, hx, hdat, r⟩ := hd
  obtain ⟨c, dd, dat, sl⟩ := o
  obtain ⟨e1, e2, e3⟩ := hx
  simp only at e1 e2 hdat
  subst e1 e2 hdat
  exact call_bound_of (N.get hq) PySem.F.entry_dict_get (by decide +kernel) (fun hQ => ck_dg (N.get hm) hQ) (meets_dict_get_default knd d hkey lo dflt A (wants Q E) s ⟨_, hD.mapOf, h⟩)
theorem bc_set_contains {Q : Value → Shared → Prop} {es : Array (Int × Value)} {n : Nat} {tb : SetTable} {S : K → Bool} {c : Nat} (N : News h₀ L s.heap news) (hq : (q, bound "set.__contains__" d) ∈ news) (hm : (d, o) ∈ news) (hc : o.cls = .type "set") (hdat : o.data = .set es n tb) (hd : o.dict = none)
    (hso : o.SetObjOf knd S c) (hb : c < scanBound) (hkey : knd.is k key = true) (hsc : key.scannable = true)
    (h : Q (.bool (S k)) { s with toks := s.toks + 1 }) : wpAny (model prog w) A (call (.ref q) [key]) Q E s := by
  have hS := hso.setOf (N.get hm) hb
  obtain ⟨c', dd, dat, sl⟩ := o
  simp only at hc hd hdat
  subst hc hd hdat
  refine call_bound_of (N.get hq) entry_set_contains (by decide +kernel) (fun hQ => ck_sc (N.get hm) hQ) ?_
  unfold Builtin.«frozenset.__contains__» Builtin.Frozenset.oneOther
  simp only [List.isEmpty_nil, bind_assoc]
  unfold Builtin.Frozenset.addrOf Builtin.Frozenset.withSetAsKey setContains
  refine wpAny_bind (wpAny_pure ?_)
  try dsimp only
  refine wpAny_bind (wpAny_pure ?_)
  try dsimp only
  refine wpAny_bind (wpAny_tryCatch ?_)
  refine wpAny_holding ?_
  refine wpAny_bind (knd.pyHash hkey ?_)
  refine wpAny_bind (wpAny_setFind_of (s := { s with toks := s.toks + 1 }) hkey hsc hS fun r hr => ?_)
  refine wpAny_pure ?_
  show wpAny _ _ (ret (Value.bool r.isSome)) _ _ _
  rw [hr]
  exact wpAny_pure h
noncomputable def StandsB (x : Addr) (ob : Obj) (h : Heap) : Prop := h.get? x = some ob
theorem callWith_fieldsB {pos : Pos} {u a : Addr} {id : String} {first : List Value} {args : List (Bool × Sem Value)} {Q : Value → Shared → Prop} (hplain : args.any (·.1) = false)
    (h : wpAny M A (evalArgs (.ref u) true args []) (fun x s₁ => StandsB u (bound id a) s₁.heap ∧ wpAny M A (call (.ref u) (first ++ x.pos) x.kw) Q E s₁) E s) : wpAny M A (callWith pos (.ref u) first args []) Q E s := by
  unfold callWith
  refine wpAny_bind (wpAny_holding (wpAny_mono h (fun x s₁ h₁ => wpAny_bind (wpAny_standAt ?_)) fun _ _ x => x))
  obtain ⟨ho, hcall⟩ := h₁
  simp only [hplain, List.any_nil, Bool.or_false]
  refine wpAny_bind (m := keeperOf (.ref u)) ?_
  unfold keeperOf
  refine wpAny_bind (wpAny_load ho ?_)
  simp only [bound, show (Value.type "builtin_function_or_method" != Value.type "method") = true by decide, show (Value.type "builtin_function_or_method" == Value.type "builtin_function_or_method" || Value.type "builtin_function_or_method" == Value.type "method-wrapper") = true by decide, if_true]
  refine wpAny_pure ?_
  exact wpAny_bind (wpAny_mono hcall (fun r s₂ hr => wpAny_bind (wpAny_holding (wpAny_point (wpAny_pure hr)))) fun _ _ x => x)
theorem callWith_boundB {pos : Pos} {u a : Addr} {id : String} {first : List Value} {env : Env} {e : Expr} {rest : List Expr} {Q : Value → Shared → Prop} (_N : News h₀ L s.heap news) (_hm : (u, bound id a) ∈ news)
    (h : wpAny M A (spliced (backTo pos (starEach (e :: rest) env))) (fun vs s₁ => StandsB u (bound id a) s₁.heap ∧ wpAny M A (call (.ref u) (first ++ vs)) Q E s₁) E s)
    (he : starEach (e :: rest) env = (false, eval e env) :: starEach rest env := by rfl) (hplain : (backTo pos (starEach rest env)).any (·.1) = false := by rfl) :
    wpAny M A (callWith pos (.ref u) first (backTo pos (starEach (e :: rest) env)) []) Q E s := by
  rw [he] at h ⊢
  refine callWith_fieldsB (id := id) (a := a) (by show (false || (backTo pos (starEach rest env)).any (·.1)) = false; rw [hplain]; rfl) ?_
  exact evalArgs_plain h
end
end Mine
end

section
open PySem PySem.W PyProof.Rows PyProof.V PySem.Calls
set_option maxRecDepth 100000
namespace Mine
section
variable {prog : Program} {w : World} {A : Around} {E : Value → Shared → Prop} {s : Shared} {env : Env} {h₀ : Heap} {x : Str} {body : List Stmt} {Q : Flow → Shared → Prop}
/-- the state between two turns: any datum c, its ledger, its names -/
noncomputable def LvJ {σ : Type} (Led : σ → List (Addr × Obj)) (ps : σ → List (Str × Value)) (stored : List Str) (x : Str) (m₀ : Str → Option Value) (P : σ → Prop) (m : Str → Option Value) (nx : List (Addr × Obj)) : Prop :=
  ∃ c : σ, nx = Led c ∧ (∀ p ∈ ps c, m p.1 = some p.2) ∧ (∀ z, z ≠ x → (∀ p ∈ ps c, z ≠ p.1) → stored.contains z = false → m z = m₀ z) ∧ P c
noncomputable def LvPost {σ : Type} (h₀ : Heap) (L : Addr) (it : Addr × Obj) (s₁ : Shared) (Q : Flow → Shared → Prop) (Led : σ → List (Addr × Obj)) (ps : σ → List (Str × Value)) (stored : List Str) (x : Str) (m₀ : Str → Option Value) (P : σ → Prop) (f : Flow) (s₂ : Shared) : Prop :=
  match f with
  | .ret v => Q (.ret v) s₂
  | .brk => Q .next s₂
  | _ => ∃ h' tk m' news' nx, s₂ = { s₁ with heap := h', toks := tk } ∧ Fr h₀ L h' m' ∧ News h₀ L h' news' ∧ (∀ p ∈ nx, p ∈ news') ∧ it ∈ news' ∧ LvJ Led ps stored x m₀ P m' nx
theorem lv_end {σ : Type} {L : Addr} {it : Addr × Obj} {s₁ : Shared} {Led : σ → List (Addr × Obj)} {ps : σ → List (Str × Value)} {stored : List Str} {m₀ m' : Str → Option Value} {P : σ → Prop} {h' : Heap} {tk : Nat} {news' : List (Addr × Obj)} {f : Flow} (hf : f = .next ∨ f = .cont) (c : σ)
    (F : Fr h₀ L h' m') (N : News h₀ L h' news') (hn : ∀ p ∈ Led c, p ∈ news') (hi : it ∈ news') (hk : ∀ p ∈ ps c, m' p.1 = some p.2) (hr : ∀ z, z ≠ x → (∀ p ∈ ps c, z ≠ p.1) → stored.contains z = false → m' z = m₀ z) (hp : P c) :
    LvPost h₀ L it s₁ Q Led ps stored x m₀ P f { s₁ with heap := h', toks := tk } := by
  rcases hf with rfl | rfl <;> exact ⟨h', tk, m', news', _, rfl, F, N, hn, hi, c, rfl, hk, hr, hp⟩
theorem lv_loop {σ : Type} {I : Addr} {fp : List Addr} {C : String} {n : Nat} {Pv : Nat → Value → Prop} {St : Nat → Heap → Prop} {m₀ : Str → Option Value} (Led : σ → List (Addr × Obj)) (ps : σ → List (Str × Value)) (stored : List Str) (P : Nat → σ → Prop) (c₀ : σ)
    (W : Walks prog w A I fp [I] n Pv St) (hLf : env.locals ∉ fp) (hI : h₀.get? I = none) (hnw : ∀ p ∈ Led c₀, p.1 ≠ I) (hst : St 0 s.heap) (hlive : ∀ i h, St i h → ∃ o, h.get? I = some o ∧ o.cls = .type C)
    (hfp : ∀ b ∈ fp, b ≠ I → ∃ o, ∀ (i : Nat) (c : σ), P i c → (b, o) ∈ Led c)
    (F : Fr h₀ env.locals s.heap m₀) (N : News h₀ env.locals s.heap (Led c₀)) (hk : ∀ p ∈ ps c₀, m₀ p.1 = some p.2) (hp : P 0 c₀)
    (hcls : ∀ i c, P i c → ∀ p ∈ Led c, p.2.cls ≠ .type C ∨ p ∈ Led c₀)
    (turn : ∀ (i : Nat) (c : σ) v (u : Str → Option Value) h tk ito, ito.cls = .type C → i < n → Pv i v → P i c → (∀ p ∈ Led c, p.1 ≠ I) →
      Fr h₀ env.locals h (fun y => if y = x then some v else kstB (fun z => if stored.contains z then u z else m₀ z) (ps c) y) → News h₀ env.locals h (Led c ++ [(I, ito)]) →
      wpAny (model prog w) A (execs body env) (LvPost h₀ env.locals (I, ito) { s with heap := h, toks := tk } Q Led ps stored x m₀ (P (i + 1))) E { s with heap := h, toks := tk })
    (done : ∀ (c : σ) (u : Str → Option Value) h tk, P n c → Fr h₀ env.locals h (fun y => if y = x then u y else kstB (fun z => if stored.contains z then u z else m₀ z) (ps c) y) → News h₀ env.locals h (Led c) → Q .next { s with heap := h, toks := tk }) :
    LoopAtV prog w A h₀ env x body Q E (.ref I) s := by
  refine ⟨I, fp, [I], n, Pv, St, m₀, Led c₀, fun i m nx => LvJ Led ps stored x m₀ (P i) m nx, rfl, W, hLf, ?_, ?_, hst, F, N, ⟨c₀, rfl, hk, fun _ _ _ _ => rfl, hp⟩, ?_, ?_⟩
  · intro b hb; rw [List.mem_singleton.mp hb]; exact hI
  · intro p hp hb; exact hnw p hp (List.mem_singleton.mp hb)
  · rintro i v m₁ nx s₁ own ⟨h, tk, rfl⟩ hi hv ⟨c, rfl, hk1, hr1, hp1⟩ hoff hown hoh hall hst1 F₁ N₁
    obtain ⟨ito, hito, hcl⟩ := hlive _ _ hst1
    have hIo : (I, ito) ∈ own := hall I (W.sub I (List.mem_singleton.mpr rfl)) hI ito hito
    have hoff' : ∀ p ∈ Led c, p.1 ≠ I := fun p hp e => hoff p hp (List.mem_singleton.mpr e)
    have N₂ : News h₀ env.locals h (Led c ++ [(I, ito)]) := fun p hp => by
      rcases List.mem_append.mp hp with q | q
      · exact N₁ p (List.mem_append_right _ q)
      · rw [List.mem_singleton.mp q]; exact N₁ _ (List.mem_append_left _ hIo)
    refine wpAny_mono (turn i c v m₁ h tk ito hcl hi hv hp1 hoff' (kst_fr hk1 hr1 F₁) N₂) (fun f s₂ hf => ?_) fun _ _ e => e
    have fin : (∃ h' tk' m' news' nx, s₂ = { ({ s with heap := h, toks := tk } : Shared) with heap := h', toks := tk' } ∧ Fr h₀ env.locals h' m' ∧ News h₀ env.locals h' news' ∧ (∀ p ∈ nx, p ∈ news') ∧ (I, ito) ∈ news' ∧ LvJ Led ps stored x m₀ (P (i + 1)) m' nx) →
        LoopStepU h₀ env.locals [I] own (fun m' nx => LvJ Led ps stored x m₀ (P (i + 1)) m' nx) { s with heap := h, toks := tk } .next s₂ := by
      rintro ⟨h', tk', m', news', nx, e, F', N', hn, hi', hJ⟩
      obtain ⟨c', hc', _, _, hp'⟩ := id hJ
      have offn : ∀ p ∈ nx, p.1 ∉ [I] := fun p hp hb => by
        have e1 := List.mem_singleton.mp hb
        have g1 := (N' p (hn p hp)).1
        have g2 := (N' _ hi').1
        rw [e1, g2] at g1
        have : p.2 = ito := (Option.some.inj g1).symm
        rcases hcls (i + 1) c' hp' p (hc' ▸ hp) with q | q
        · exact q (this ▸ hcl)
        · exact hnw p q e1
      refine ⟨rfl, h', tk', m', nx, e, F', fun p hp => ?_, offn, hJ⟩
      rcases List.mem_append.mp hp with q | q
      · have hpf := hown p q
        have hpo := hoh p q
        by_cases hpI : p.1 = I
        · have : p = (I, ito) := by
            rw [hpI, hito] at hpo
            exact Prod.ext hpI (Option.some.inj hpo).symm
          rw [this]; exact N' _ hi'
        · obtain ⟨o, ho⟩ := hfp p.1 hpf hpI
          have g1 := (N₁ _ (List.mem_append_right own (ho i c hp1))).1
          have e2 : p.2 = o := by
            have g2 : h.get? p.1 = some p.2 := hpo
            rw [g1] at g2
            exact (Option.some.inj g2).symm
          have g3 := N' _ (hn _ (hc' ▸ ho (i + 1) c' hp'))
          have e3 : p = (p.1, o) := Prod.ext rfl e2
          rw [e3]
          exact g3
      · exact N' p (hn p q)
    cases f with
    | ret v => exact .ret hf
    | brk => exact .brk hf
    | next => exact .next (fin hf)
    | cont => exact .cont (fin hf)
  · rintro h tk m₁ nx F₁ N₁ _ ⟨c, rfl, hk1, hr1, hp1⟩
    exact done c m₁ h tk hp1 (kst_frOut hk1 hr1 F₁) N₁
theorem lv_range {σ : Type} {r : Addr} {a₀ b₀ : Int} {t₀ u₀ v₀ : Tok} {n : Nat} {m₀ : Str → Option Value} (Led : σ → List (Addr × Obj)) (ps : σ → List (Str × Value)) (stored : List Str) (P : Nat → σ → Prop) (c₀ : σ)
    (hh : A.handled = none) (hr : IsRange s.heap r a₀ b₀ 1 t₀ u₀ v₀) (hsmall : Builtin.Range.small a₀ b₀ 1 = true) (hn : Builtin.Range.rangeSize a₀ b₀ 1 = (n : Int))
    (F : Fr h₀ env.locals s.heap m₀) (N : News h₀ env.locals s.heap (Led c₀)) (hk : ∀ p ∈ ps c₀, m₀ p.1 = some p.2) (hp : P 0 c₀)
    (hcls : ∀ i c, P i c → ∀ p ∈ Led c, p.2.cls ≠ .type "range_iterator" ∨ p ∈ Led c₀)
    (turn : ∀ (I : Addr) (i : Nat) (c : σ) t (u : Str → Option Value) h tk ito, ito.cls = .type "range_iterator" → i < n → P i c → (∀ p ∈ Led c, p.1 ≠ I) →
      Fr h₀ env.locals h (fun y => if y = x then some (.int (a₀ + (i : Int)) t) else kstB (fun z => if stored.contains z then u z else m₀ z) (ps c) y) → News h₀ env.locals h (Led c ++ [(I, ito)]) →
      wpAny (model prog w) A (execs body env) (LvPost h₀ env.locals (I, ito) { s with heap := h, toks := tk } Q Led ps stored x m₀ (P (i + 1))) E { s with heap := h, toks := tk })
    (done : ∀ (c : σ) (u : Str → Option Value) h tk, P n c → Fr h₀ env.locals h (fun y => if y = x then u y else kstB (fun z => if stored.contains z then u z else m₀ z) (ps c) y) → News h₀ env.locals h (Led c) → Q .next { s with heap := h, toks := tk }) :
    wpAny (model prog w) A (pyIter (.ref r)) (fun it s₂ => LoopAtV prog w A h₀ env x body Q E it s₂) E s := by
  refine wpAny_pyIter_range hr hsmall ?_
  have W : Walks prog w A s.heap.objs.size [s.heap.objs.size] [s.heap.objs.size] n (fun i v => i < n ∧ ∃ t, v = .int (a₀ + i * 1) t)
      (fun i h => IsRangeIter h s.heap.objs.size (a₀ + (i : Nat) * 1) ((n : Int) - (i : Nat)) 1) := (Walks.range hh _ a₀ 1 n).bound
  refine lv_loop (C := "range_iterator") Led ps stored P c₀ W ?_ (next_is_new F) ?_ (by show IsRangeIter _ _ _ _ _; rw [hn]; simpa using Heap.get?_push_size _ rfl) (fun i h st => ⟨_, st, rfl⟩) ?_ (F.push _) (fun p hp => ⟨Heap.get?_push_of_some _ (N p hp).1, (N p hp).2⟩) hk hp hcls ?_ ?_
  · intro hm
    exact absurd F.ns.lt ((List.mem_singleton.mp hm) ▸ Nat.lt_irrefl _)
  · intro p hp e
    exact absurd (Heap.lt_size (N p hp).1) (e ▸ Nat.lt_irrefl _)
  · intro b hb hne
    exact absurd (List.mem_singleton.mp hb) hne
  · rintro i c v u h tk ito hcl hi ⟨_, t, rfl⟩ hP hoff F₁ N₁
    have e1 : a₀ + (i : Int) * 1 = a₀ + (i : Int) := by omega
    rw [e1] at F₁
    exact turn _ i c t u h tk ito hcl hi hP hoff F₁ N₁
  · exact done
theorem lv_list {σ : Type} {l : Addr} {vs : List Value} {nn : Nat} {m₀ : Str → Option Value} (Led : σ → List (Addr × Obj)) (ps : σ → List (Str × Value)) (stored : List Str) (P : Nat → σ → Prop) (c₀ : σ)
    (hh : A.handled = none) (hl : ∀ i c, P i c → (l, W.listOf vs.toArray nn) ∈ Led c)
    (F : Fr h₀ env.locals s.heap m₀) (N : News h₀ env.locals s.heap (Led c₀)) (hk : ∀ p ∈ ps c₀, m₀ p.1 = some p.2) (hp : P 0 c₀)
    (hcls : ∀ i c, P i c → ∀ p ∈ Led c, p.2.cls ≠ .type "list_iterator" ∨ p ∈ Led c₀)
    (turn : ∀ (I : Addr) (i : Nat) (c : σ) v (u : Str → Option Value) h tk ito, ito.cls = .type "list_iterator" → i < vs.length → vs[i]? = some v → P i c → (∀ p ∈ Led c, p.1 ≠ I) →
      Fr h₀ env.locals h (fun y => if y = x then some v else kstB (fun z => if stored.contains z then u z else m₀ z) (ps c) y) → News h₀ env.locals h (Led c ++ [(I, ito)]) →
      wpAny (model prog w) A (execs body env) (LvPost h₀ env.locals (I, ito) { s with heap := h, toks := tk } Q Led ps stored x m₀ (P (i + 1))) E { s with heap := h, toks := tk })
    (done : ∀ (c : σ) (u : Str → Option Value) h tk, P vs.length c → Fr h₀ env.locals h (fun y => if y = x then u y else kstB (fun z => if stored.contains z then u z else m₀ z) (ps c) y) → News h₀ env.locals h (Led c) → Q .next { s with heap := h, toks := tk }) :
    wpAny (model prog w) A (pyIter (.ref l)) (fun it s₂ => LoopAtV prog w A h₀ env x body Q E it s₂) E s := by
  have hm := N _ (hl 0 c₀ hp)
  have hls : s.heap.IsList l vs.toArray := ⟨_, hm.1, rfl, nn, rfl⟩
  have hlt : l < s.heap.objs.size := Heap.lt_size hm.1
  have hne : l ≠ s.heap.objs.size := Nat.ne_of_lt hlt
  refine wpAny_pyIter_list hls ?_
  have W := Walks.list (prog := prog) (w := w) hh s.heap.objs.size l hne vs.toArray
  have hlen : vs.toArray.size = vs.length := by simp
  rw [hlen] at W
  refine lv_loop (C := "list_iterator") Led ps stored P c₀ W ?_ (next_is_new F) ?_ ⟨⟨_, Heap.get?_push_size _ rfl, rfl, rfl⟩, hls.at fun o e => Heap.get?_push_of_some _ e⟩ (fun i h st => by obtain ⟨⟨o, ho, hc, _⟩, _⟩ := st; exact ⟨o, ho, hc⟩) ?_ (F.push _) (fun p hp => ⟨Heap.get?_push_of_some _ (N p hp).1, (N p hp).2⟩) hk hp hcls ?_ ?_
  · intro hx
    rcases List.mem_cons.mp hx with e | hx
    · exact absurd F.ns.lt (e ▸ Nat.lt_irrefl _)
    · exact hm.2.1 (List.mem_singleton.mp hx).symm
  · intro p hp e
    exact absurd (Heap.lt_size (N p hp).1) (e ▸ Nat.lt_irrefl _)
  · intro b hb hnb
    rcases List.mem_cons.mp hb with e | hb
    · exact absurd e hnb
    · rw [List.mem_singleton.mp hb]
      exact ⟨_, hl⟩
  · rintro i c v u h tk ito hcl hi hv hP hoff F₁ N₁
    exact turn _ i c v u h tk ito hcl hi (by simpa using hv) hP hoff F₁ N₁
  · exact done
end
end Mine
end

section
open PySem PySem.W
namespace Mine
noncomputable def atS (xs : List Str) (i : Int) : Option Str := xs[i.toNat]?
theorem look_put (c : List (Int × Int)) (k v j d : Int) : kdfLook (kdfPut c k v) j d = if j = k then v else kdfLook c j d := by
  unfold kdfLook kdfPut
  by_cases h : (c.any fun p => decide (p.1 = k)) = true
  · rw [if_pos h]
    induction c with
    | nil => simp at h
    | cons p c ih =>
      simp only [List.map_cons, List.find?_cons]
      by_cases hp : p.1 = k
      · by_cases hj : j = k
        · subst hj; simp [hp]
        · have h1 : (decide (k = j)) = false := by simp; omega
          simp only [hp, decide_true, if_true, h1, hj, if_false]
          by_cases h2 : (c.any fun p => decide (p.1 = k)) = true
          · have := ih h2; simp only [hj, if_false] at this; exact this
          · -- no k in c: the map is the identity
            have : (c.map fun p => if decide (p.1 = k) = true then (p.1, v) else p) = c := by
              have e : ∀ q ∈ c, (fun p : Int × Int => if decide (p.1 = k) = true then (p.1, v) else p) q = id q := fun q hq => by
                have : ¬ q.1 = k := fun e => h2 (List.any_eq_true.mpr ⟨q, hq, by simp [e]⟩)
                simp [this]
              rw [List.map_congr_left e, List.map_id]
            rw [this]
      · simp only [hp, decide_false, Bool.false_eq_true, if_false]
        have h2 : (c.any fun p => decide (p.1 = k)) = true := by simpa [List.any_cons, hp] using h
        by_cases hpj : p.1 = j
        · have hj : ¬ j = k := fun e => hp (hpj.trans e)
          simp [hpj, hj]
        · simp only [hpj, decide_false]
          exact ih h2
  · rw [if_neg h]
    induction c with
    | nil =>
      by_cases hj : j = k
      · subst hj; simp
      · have : ¬ k = j := fun e => hj e.symm
        simp [hj, this]
    | cons p c ih =>
      have hp : ¬ p.1 = k := fun e => h (by simp [e])
      have hc : ¬ (c.any fun p => decide (p.1 = k)) = true := fun e => h (by simp [List.any_cons, e])
      simp only [List.cons_append, List.find?_cons]
      by_cases hpj : p.1 = j
      · have hj : ¬ j = k := fun e => hp (hpj.trans e)
        simp [hpj, hj]
      · simp only [hpj, decide_false]
        exact ih hc

/-- a run of k equal items of xa and xb, ending at (i, j) -/
noncomputable def Run (xa xb : List Str) (i j k : Int) : Prop := ∀ t : Int, 0 ≤ t → t < k → atS xa (i - t) = atS xb (j - t)
noncomputable def Same (xa xb : List Str) (i j k : Int) : Prop := ∀ t : Int, 0 ≤ t → t < k → atS xa (i + t) = atS xb (j + t)
theorem run_succ {xa xb : List Str} {i j k : Int} (h : Run xa xb (i - 1) (j - 1) k) (e : atS xa i = atS xb j) : Run xa xb i j (k + 1) := fun t h0 h1 => by
  by_cases ht : t = 0
  · subst ht; simpa using e
  · have := h (t - 1) (by omega) (by omega)
    rw [show i - 1 - (t - 1) = i - t by omega, show j - 1 - (t - 1) = j - t by omega] at this
    exact this
theorem run_same {xa xb : List Str} {i j k : Int} (h : Run xa xb i j k) : Same xa xb (i - k + 1) (j - k + 1) k := fun t h0 h1 => by
  have := h (k - 1 - t) (by omega) (by omega)
  rw [show i - (k - 1 - t) = i - k + 1 + t by omega, show j - (k - 1 - t) = j - k + 1 + t by omega] at this
  exact this
/-- what j2len says in row i = alo + r - 1 -/
structure RowOk (xa xb : List Str) (alo blo bhi r : Int) (c : List (Int × Int)) : Prop where
  v : ∀ j, kdfLook c j 0 = 0 ∨ (blo ≤ j ∧ j < bhi ∧ 1 ≤ kdfLook c j 0 ∧ kdfLook c j 0 ≤ r ∧ kdfLook c j 0 ≤ j - blo + 1 ∧ Run xa xb (alo + r - 1) j (kdfLook c j 0))
structure Best (xa xb : List Str) (alo blo bhi top bi bj bs : Int) : Prop where
  a : alo ≤ bi
  b : blo ≤ bj
  c : 0 ≤ bs
  d : bi + bs ≤ top
  e : bj + bs ≤ bhi
  s : Same xa xb bi bj bs
structure OInv (xa xb : List Str) (alo blo bhi r : Int) (full : Prop) (c : List (Int × Int)) (bi bj bs : Int) : Prop where
  row : RowOk xa xb alo blo bhi r c
  best : Best xa xb alo blo bhi (alo + r) bi bj bs
  diag : full → kdfLook c (blo + r - 1) 0 = r
  fb : full → bi = alo ∧ bj = blo ∧ bs = r
/-- amid a row: the first p of the row's places ks are taken -/
structure IInv (xa xb : List Str) (alo blo bhi r : Int) (full : Prop) (ks : List Int) (p : Nat) (c : List (Int × Int)) (bi bj bs : Int) : Prop where
  row : RowOk xa xb alo blo bhi (r + 1) c
  best : Best xa xb alo blo bhi (alo + r + 1) bi bj bs
  diag : full → (blo + r) ∈ ks.take p → kdfLook c (blo + r) 0 = r + 1
  fb : full → (bi = alo ∧ bj = blo ∧ (((blo + r) ∈ ks.take p → bs = r + 1) ∧ ((blo + r) ∉ ks.take p → bs = r)))
  len : c.length ≤ p
theorem look_nil (j : Int) : kdfLook [] j 0 = 0 := rfl
theorem oinv_start {xa xb : List Str} {alo blo bhi : Int} {full : Prop} (hb : blo ≤ bhi) : OInv xa xb alo blo bhi 0 full [] alo blo 0 :=
  ⟨⟨fun j => .inl rfl⟩, ⟨by omega, by omega, by omega, by omega, by omega, fun t h0 h1 => by omega⟩, fun _ => by rfl, fun _ => ⟨rfl, rfl, rfl⟩⟩
theorem iinv_start {xa xb : List Str} {alo blo bhi r : Int} {full : Prop} {ks : List Int} {c : List (Int × Int)} {bi bj bs : Int} (O : OInv xa xb alo blo bhi r full c bi bj bs) : IInv xa xb alo blo bhi r full ks 0 [] bi bj bs :=
  ⟨⟨fun j => .inl rfl⟩, ⟨O.best.a, O.best.b, O.best.c, by have := O.best.d; omega, O.best.e, O.best.s⟩, fun _ h => by simp at h, fun h => ⟨(O.fb h).1, (O.fb h).2.1, fun h => by simp at h, fun _ => (O.fb h).2.2⟩, by simp⟩
section
variable {xa xb : List Str} {alo blo bhi r : Int} {full : Prop} {ks : List Int} {p : Nat} {c c2 : List (Int × Int)} {bi bj bs bi0 bj0 bs0 j : Int}
theorem mem_take_succ (hj : ks[p]? = some j) (z : Int) : z ∈ ks.take (p + 1) ↔ z ∈ ks.take p ∨ z = j := by
  rw [List.take_add_one, hj]; simp
theorem iinv_skip (I : IInv xa xb alo blo bhi r full ks p c2 bi bj bs) (hr : 0 ≤ r) (hj : ks[p]? = some j) (hlt : j < blo) : IInv xa xb alo blo bhi r full ks (p + 1) c2 bi bj bs := by
  have e : (blo + r) ∈ ks.take (p + 1) ↔ (blo + r) ∈ ks.take p := by rw [mem_take_succ hj]; exact ⟨fun h => h.resolve_right (by omega), .inl⟩
  exact ⟨I.row, I.best, fun h hm => I.diag h (e.mp hm), fun h => ⟨(I.fb h).1, (I.fb h).2.1, fun hm => (I.fb h).2.2.1 (e.mp hm), fun hm => (I.fb h).2.2.2 (fun q => hm (e.mpr q))⟩, Nat.le_succ_of_le I.len⟩
theorem run_here (O : OInv xa xb alo blo bhi r full c bi0 bj0 bs0) (he : atS xa (alo + r) = atS xb j) (h1 : blo ≤ j) (hr : 0 ≤ r) :
    1 ≤ kdfLook c (j - 1) 0 + 1 ∧ kdfLook c (j - 1) 0 + 1 ≤ r + 1 ∧ kdfLook c (j - 1) 0 + 1 ≤ j - blo + 1 ∧ Run xa xb (alo + r) j (kdfLook c (j - 1) 0 + 1) := by
  rcases O.row.v (j - 1) with h | ⟨a1, a2, a3, a4, a5, a6⟩
  · rw [h]
    refine ⟨by omega, by omega, by omega, fun t h0 h2 => ?_⟩
    have : t = 0 := by omega
    subst this; simpa using he
  · refine ⟨by omega, by omega, by omega, ?_⟩
    have a6' : Run xa xb (alo + r - 1) (j - 1) (kdfLook c (j - 1) 0) := a6
    exact run_succ a6' he
theorem row_put (R : RowOk xa xb alo blo bhi (r + 1) c2) (h1 : blo ≤ j) (h2 : j < bhi) {k : Int} (k1 : 1 ≤ k) (k2 : k ≤ r + 1) (k3 : k ≤ j - blo + 1) (k4 : Run xa xb (alo + r) j k) : RowOk xa xb alo blo bhi (r + 1) (kdfPut c2 j k) :=
  ⟨fun z => by
    rw [look_put]
    by_cases hz : z = j
    · rw [if_pos hz]
      subst hz
      refine .inr ⟨h1, h2, k1, k2, k3, ?_⟩
      rw [show alo + (r + 1) - 1 = alo + r by omega]
      exact k4
    · rw [if_neg hz]; exact R.v z⟩
theorem sorted_take : ∀ {ks : List Int} {p : Nat} {j z : Int}, ks.Pairwise (· < ·) → z ∈ ks → z ∉ ks.take p → ks[p]? = some j → j ≤ z
  | [], _, _, _, _, h, _, _ => by simp at h
  | k :: ks, 0, j, z, hs, hz, _, hj => by
    simp only [List.getElem?_cons_zero, Option.some.injEq] at hj
    subst hj
    rcases List.mem_cons.mp hz with e | h
    · omega
    · exact Int.le_of_lt ((List.pairwise_cons.mp hs).1 z h)
  | k :: ks, p + 1, j, z, hs, hz, hn, hj => by
    simp only [List.take_succ_cons, List.mem_cons, not_or] at hn
    simp only [List.getElem?_cons_succ] at hj
    exact sorted_take (List.pairwise_cons.mp hs).2 ((List.mem_cons.mp hz).resolve_left hn.1) hn.2 hj
/-- a turn that sets the place j -/
theorem iinv_turn (O : OInv xa xb alo blo bhi r full c bi0 bj0 bs0) (I : IInv xa xb alo blo bhi r full ks p c2 bi bj bs) (hr : 0 ≤ r) (hj : ks[p]? = some j) (he : atS xa (alo + r) = atS xb j) (h1 : blo ≤ j) (h2 : j < bhi) (hs : ks.Pairwise (· < ·)) (hin : full → (blo + r) ∈ ks) :
    (kdfLook c (j - 1) 0 + 1 > bs → IInv xa xb alo blo bhi r full ks (p + 1) (kdfPut c2 j (kdfLook c (j - 1) 0 + 1)) (alo + r - (kdfLook c (j - 1) 0 + 1) + 1) (j - (kdfLook c (j - 1) 0 + 1) + 1) (kdfLook c (j - 1) 0 + 1)) ∧
    (¬ kdfLook c (j - 1) 0 + 1 > bs → IInv xa xb alo blo bhi r full ks (p + 1) (kdfPut c2 j (kdfLook c (j - 1) 0 + 1)) bi bj bs) := by
  obtain ⟨k1, k2, k3, k4⟩ := run_here O he h1 hr
  have hd : full → j = blo + r → kdfLook c (j - 1) 0 = r := fun hf e => by rw [e, show blo + r - 1 = blo + r - 1 from rfl]; exact O.diag hf
  generalize kdfLook c (j - 1) 0 = k at *
  have hrow := row_put I.row h1 h2 k1 k2 k3 k4
  have hdg : full → (blo + r) ∈ ks.take (p + 1) → kdfLook (kdfPut c2 j (k + 1)) (blo + r) 0 = r + 1 := fun hf hm => by
    rw [look_put]
    by_cases e : blo + r = j
    · rw [if_pos e]; have := hd hf e.symm; omega
    · rw [if_neg e]
      rcases (mem_take_succ hj _).mp hm with q | q
      · exact I.diag hf q
      · exact absurd q e
  have hlen : (kdfPut c2 j (k + 1)).length ≤ p + 1 := Nat.le_trans (kdfPut_len _ _ _) (Nat.succ_le_succ I.len)
  constructor
  · intro hg
    refine ⟨hrow, ⟨by omega, by omega, by omega, by omega, by omega, ?_⟩, hdg, fun hf => ?_, hlen⟩
    · have := run_same k4
      exact this
    · -- the run is longer than the best: it is the whole diagonal
      obtain ⟨f1, f2, f3, f4⟩ := I.fb hf
      by_cases hm : (blo + r) ∈ ks.take p
      · have := f3 hm; omega
      · have hbs := f4 hm
        have hk : k = r := by omega
        have hj' : j = blo + r := by
          have : k + 1 ≤ j - blo + 1 := k3
          have := sorted_take hs (hin hf) hm hj
          omega
        subst hj'
        refine ⟨by omega, by omega, fun _ => by omega, fun hn => absurd ((mem_take_succ hj _).mpr (.inr rfl)) hn⟩
  · intro hg
    refine ⟨hrow, ⟨I.best.a, I.best.b, I.best.c, I.best.d, I.best.e, I.best.s⟩, hdg, fun hf => ?_, hlen⟩
    obtain ⟨f1, f2, f3, f4⟩ := I.fb hf
    refine ⟨f1, f2, fun hm => ?_, fun hn => f4 fun q => hn ((mem_take_succ hj _).mpr (.inl q))⟩
    rcases (mem_take_succ hj _).mp hm with q | q
    · exact f3 q
    · by_cases hm' : (blo + r) ∈ ks.take p
      · exact f3 hm'
      · have := f4 hm'
        have := hd hf q.symm
        omega
theorem iinv_done (I : IInv xa xb alo blo bhi r full ks p c2 bi bj bs) (hin : full → (blo + r) ∈ ks) (hp : ks.length ≤ p) : OInv xa xb alo blo bhi (r + 1) full c2 bi bj bs := by
  have ht : ks.take p = ks := List.take_of_length_le hp
  refine ⟨I.row, ⟨I.best.a, I.best.b, I.best.c, by have := I.best.d; omega, I.best.e, I.best.s⟩, fun hf => ?_, fun hf => ?_⟩
  · rw [show blo + (r + 1) - 1 = blo + r by omega]
    exact I.diag hf (by rw [ht]; exact hin hf)
  · have := I.fb hf
    exact ⟨this.1, this.2.1, this.2.2.1 (by rw [ht]; exact hin hf)⟩
theorem iinv_brk (I : IInv xa xb alo blo bhi r full ks p c2 bi bj bs) (hj : ks[p]? = some j) (hge : bhi ≤ j) (hs : ks.Pairwise (· < ·)) (hin : full → (blo + r) ∈ ks ∧ blo + r < bhi) : OInv xa xb alo blo bhi (r + 1) full c2 bi bj bs := by
  have hm : full → (blo + r) ∈ ks.take p := fun hf => by
    by_cases h : (blo + r) ∈ ks.take p
    · exact h
    · have := sorted_take hs (hin hf).1 h hj
      have := (hin hf).2
      omega
  refine ⟨I.row, ⟨I.best.a, I.best.b, I.best.c, by have := I.best.d; omega, I.best.e, I.best.s⟩, fun hf => ?_, fun hf => ?_⟩
  · rw [show blo + (r + 1) - 1 = blo + r by omega]
    exact I.diag hf (hm hf)
  · have := I.fb hf
    exact ⟨this.1, this.2.1, this.2.2.1 (hm hf)⟩
end
end Mine
end

section
open PySem PySem.W PyProof.Rows PyProof.V PySem.Calls
set_option maxRecDepth 100000
namespace Mine
/-- the places of x in ys, the first place being k -/
noncomputable def idxFrom (x : Str) : Nat → List Str → List Int
  | _, [] => []
  | k, y :: ys => if y = x then (k : Int) :: idxFrom x (k + 1) ys else idxFrom x (k + 1) ys
theorem idx_ge {x : Str} : ∀ {ys : List Str} {k : Nat} {j : Int}, j ∈ idxFrom x k ys → (k : Int) ≤ j
  | [], _, _, h => absurd h (List.not_mem_nil)
  | y :: ys, k, j, h => by
    unfold idxFrom at h
    by_cases e : y = x
    · rw [if_pos e] at h
      rcases List.mem_cons.mp h with q | q
      · omega
      · have := idx_ge q; omega
    · rw [if_neg e] at h
      have := idx_ge h; omega
theorem idx_sorted {x : Str} : ∀ (ys : List Str) (k : Nat), (idxFrom x k ys).Pairwise (· < ·)
  | [], _ => List.Pairwise.nil
  | y :: ys, k => by
    unfold idxFrom
    by_cases e : y = x
    · rw [if_pos e]
      refine List.pairwise_cons.mpr ⟨fun j h => ?_, idx_sorted ys _⟩
      have := idx_ge h; omega
    · rw [if_neg e]; exact idx_sorted ys _
theorem idx_mem {x : Str} : ∀ {ys : List Str} {k : Nat} {j : Int}, j ∈ idxFrom x k ys ↔ ∃ t : Nat, j = (k + t : Nat) ∧ ys[t]? = some x
  | [], _, _ => by simp [idxFrom]
  | y :: ys, k, j => by
    have ih := @idx_mem x ys (k + 1) j
    constructor
    · intro h
      unfold idxFrom at h
      by_cases e : y = x
      · rw [if_pos e] at h
        rcases List.mem_cons.mp h with q | q
        · exact ⟨0, by simpa using q, by simp [e]⟩
        · obtain ⟨t, a, b⟩ := ih.mp q
          exact ⟨t + 1, by omega, by simpa using b⟩
      · rw [if_neg e] at h
        obtain ⟨t, a, b⟩ := ih.mp h
        exact ⟨t + 1, by omega, by simpa using b⟩
    · rintro ⟨t, a, b⟩
      unfold idxFrom
      cases t with
      | zero =>
        have e : y = x := by simpa using b
        rw [if_pos e]
        exact List.mem_cons.mpr (.inl (by simpa using a))
      | succ t =>
        have : j ∈ idxFrom x (k + 1) ys := ih.mpr ⟨t, by omega, by simpa using b⟩
        by_cases e : y = x
        · rw [if_pos e]; exact List.mem_cons.mpr (.inr this)
        · rw [if_neg e]; exact this
theorem idx_atS {x : Str} {ys : List Str} {j : Int} : j ∈ idxFrom x 0 ys ↔ 0 ≤ j ∧ atS ys j = some x := by
  rw [idx_mem]
  constructor
  · rintro ⟨t, a, b⟩
    have e : j.toNat = t := by omega
    exact ⟨by omega, by unfold atS; rw [e]; exact b⟩
  · rintro ⟨a, b⟩
    exact ⟨j.toNat, by omega, b⟩
theorem idx_app {x : Str} : ∀ (ys : List Str) (k : Nat) (y : Str), idxFrom x k (ys ++ [y]) = idxFrom x k ys ++ (if y = x then [((k + ys.length : Nat) : Int)] else [])
  | [], k, y => by simp [idxFrom]
  | z :: ys, k, y => by
    have ih := idx_app (x := x) ys (k + 1) y
    have e9 : k + 1 + ys.length = k + (ys.length + 1) := by omega
    simp only [List.cons_append, idxFrom, ih, List.length_cons, e9]
    by_cases e : z = x <;> simp [e]
theorem idx_len {x : Str} : ∀ (ys : List Str) (k : Nat), (idxFrom x k ys).length ≤ ys.length
  | [], _ => Nat.le_refl _
  | y :: ys, k => by
    unfold idxFrom
    have := idx_len (x := x) ys (k + 1)
    by_cases e : y = x
    · rw [if_pos e]; simp only [List.length_cons]; omega
    · rw [if_neg e]; simp only [List.length_cons]; omega
/-- what the dictionary b2j holds -/
structure B2J (kvs : List (Str × Value)) (xb : List Str) (Lb : List (Addr × Obj)) : Prop where
  hit : ∀ x v, valueAt kvs x = some v → ∃ l vs n, v = .ref l ∧ (l, W.listOf vs.toArray n) ∈ Lb ∧ IntsAre vs (idxFrom x 0 xb)
  miss : ∀ x, valueAt kvs x = none → idxFrom x 0 xb = []
section
variable {prog : Program} {w : World} {A : Around} {E : Value → Shared → Prop} {s : Shared} {h₀ : Heap} {L d q l ln : Addr} {m : Str → Option Value} {news : List (Addr × Obj)} {o : Obj}
theorem item_strs_at {value slice : Expr} {vs : List Value} {xs : List Str} {i : Int} {n : Nat} {u : Tok} {Q : Value → Shared → Prop} (N : News h₀ L s.heap news) (hm : (l, W.listOf vs.toArray n) ∈ news) (hw : StrsAre vs xs) (hs4 : xs.length ≤ 4) (h0 : 0 ≤ i) (h1 : i < (xs.length : Int))
    (h : ∀ x t', atS xs i = some x → Q (.str x t') s)
    (hs : subscripted slice false (.ref l) (.int i u) = operate [.ref l, .int i u] (getItem (.ref l) (.int i u)) := by with_unfolding_all rfl) :
    wpAny (model prog w) A (subscriptTail value slice (.ref l) (.int i u)) Q E s := by
  have hlt : i.toNat < xs.length := by omega
  have hl : s.heap.IsList l vs.toArray := ⟨_, (N _ hm).1, rfl, n, rfl⟩
  have e0 : xs[i.toNat]? = some (xs[i.toNat]) := List.getElem?_eq_getElem hlt
  obtain ⟨t', e⟩ := hw.get i.toNat _ e0
  exact tail_any hl.typeIs slot_list_getitem.lookup (wpAny_getItem_list hl h0 (by omega) (x := .str _ t') (by simpa using e) (h _ t' e0)) hs
theorem call_get_row {kvs : List (Str × Value)} {xb : List Str} {Lb : List (Addr × Obj)} {x : Str} {t : Tok} {n0 : Nat} {Q : Value → Shared → Prop} (N : News h₀ L s.heap news) (hm : (d, o) ∈ news) (hd : o.IsDictOf (PySem.strKind prog w) kvs) (hB : B2J kvs xb Lb) (lo : (d == sysModules) = false)
    (h : ∀ l vs n, (l, W.listOf vs.toArray n) ∈ (ln, W.listOf #[] n0) :: Lb → IntsAre vs (idxFrom x 0 xb) → Q (.ref l) { s with toks := s.toks + 1 }) :
    wpAny (model prog w) A (call (.builtin "dict.get") [.ref d, .str x t, .ref ln]) Q E s := by
  have hD := kda_dict N hm hd
  refine call_meetsIn PySem.F.slot_dict_get hD.typeIs PySem.F.entry_dict_get (PySem.F.args_dict_get_3 _ _ _) (meets_dict_get_default (PySem.strKind prog w) d (strKind_is prog w x t) lo (.ref ln)) ⟨_, hD.mapOf, ?_⟩
  cases hv : valueAt kvs x with
  | none =>
    have := hB.miss x hv
    exact h ln [] n0 (List.mem_cons.mpr (.inl rfl)) (by rw [this]; exact .nil)
  | some v =>
    obtain ⟨l, vs, n, rfl, hl, hi⟩ := hB.hit x v hv
    exact h l vs n (List.mem_cons.mpr (.inr hl)) hi
end
section
variable {prog : Program} {w : World} {A : Around} {E : Value → Shared → Prop} {s : Shared} {env : Env} {h₀ : Heap} {body : List Stmt} {Q : Flow → Shared → Prop}
/-- after a turn of a while loop, or after its test has failed -/
noncomputable def WlOut {σ : Type} (h₀ : Heap) (L : Addr) (s₁ : Shared) (Led : σ → List (Addr × Obj)) (ps : σ → List (Str × Value)) (stored : List Str) (m₀ : Str → Option Value) (P : σ → Prop) (s₂ : Shared) : Prop :=
  ∃ c h' tk m' news', s₂ = { s₁ with heap := h', toks := tk } ∧ Fr h₀ L h' m' ∧ News h₀ L h' news' ∧ (∀ p ∈ Led c, p ∈ news') ∧ (∀ p ∈ ps c, m' p.1 = some p.2) ∧ (∀ z, (∀ p ∈ ps c, z ≠ p.1) → stored.contains z = false → m' z = m₀ z) ∧ P c
noncomputable def WlPost {σ : Type} (h₀ : Heap) (L : Addr) (s₁ : Shared) (Q : Flow → Shared → Prop) (Led : σ → List (Addr × Obj)) (ps : σ → List (Str × Value)) (stored : List Str) (m₀ : Str → Option Value) (P : σ → Prop) (f : Flow) (s₂ : Shared) : Prop :=
  match f with
  | .ret v => Q (.ret v) s₂
  | .brk => Q .next s₂
  | _ => WlOut h₀ L s₁ Led ps stored m₀ P s₂
theorem wl_out {σ : Type} {L : Addr} {s₁ : Shared} {Led : σ → List (Addr × Obj)} {ps : σ → List (Str × Value)} {stored : List Str} {m₀ m' : Str → Option Value} {P : σ → Prop} {h' : Heap} {tk : Nat} {news' : List (Addr × Obj)} (c : σ)
    (F : Fr h₀ L h' m') (N : News h₀ L h' news') (hn : ∀ p ∈ Led c, p ∈ news') (hk : ∀ p ∈ ps c, m' p.1 = some p.2) (hr : ∀ z, (∀ p ∈ ps c, z ≠ p.1) → stored.contains z = false → m' z = m₀ z) (hp : P c) :
    WlOut h₀ L s₁ Led ps stored m₀ P { s₁ with heap := h', toks := tk } := ⟨c, h', tk, m', news', rfl, F, N, hn, hk, hr, hp⟩
theorem lv_while {σ : Type} {test : Expr} {pos : Pos} {L : Addr} {m₀ : Str → Option Value} (Led : σ → List (Addr × Obj)) (ps : σ → List (Str × Value)) (stored : List Str) (P : σ → Prop) (μ : σ → Nat) (c₀ : σ) (hL : env.locals = L)
    (F : Fr h₀ L s.heap m₀) (N : News h₀ L s.heap (Led c₀)) (hk : ∀ p ∈ ps c₀, m₀ p.1 = some p.2) (hp : P c₀)
    (turn : ∀ (c : σ) (u : Str → Option Value) h tk, P c → Fr h₀ L h (kstB (fun z => if stored.contains z then u z else m₀ z) (ps c)) → News h₀ L h (Led c) →
      wpAny (model prog w) A (isTrue test env (eval test env)) (fun b s₂ =>
        if b = true then wpAny (model prog w) A (execs body env) (WlPost h₀ L { s with heap := h, toks := tk } Q Led ps stored m₀ (fun c' => P c' ∧ μ c' < μ c)) E s₂
        else WlOut h₀ L { s with heap := h, toks := tk } Led ps stored m₀ P s₂) E { s with heap := h, toks := tk })
    (done : ∀ (c : σ) (u : Str → Option Value) h tk, P c → Fr h₀ L h (kstB (fun z => if stored.contains z then u z else m₀ z) (ps c)) → News h₀ L h (Led c) → Q .next { s with heap := h, toks := tk })
    (hE : PassesOwn (model prog w) A env E := by passes_own) :
    wpAny (model prog w) A (exec (.While test body [] pos) env) Q E s := by
  subst hL
  refine While_inv2 (fun n m nx => ∃ c : σ, nx = Led c ∧ μ c = n ∧ (∀ p ∈ ps c, m p.1 = some p.2) ∧ (∀ z, (∀ p ∈ ps c, z ≠ p.1) → stored.contains z = false → m z = m₀ z) ∧ P c) F N ⟨c₀, rfl, rfl, hk, fun _ _ _ => rfl, hp⟩ ?_ hE
  rintro n m₁ nx h tk F₁ N₁ ⟨c, hnx, hsz, h1, h2, hp'⟩
  rw [hnx] at N₁
  rw [← hsz]
  refine wpAny_mono (turn c m₁ h tk hp' (ksw_fr h1 h2 F₁) N₁) (fun b s₂ p => ?_) fun _ _ x => x
  cases b with
  | false =>
    simp only [Bool.false_eq_true, if_false] at p ⊢
    obtain ⟨c', h', tk', m', news', rfl, F', N', hn, hk9, hr9, hp9⟩ := p
    exact done c' m' h' tk' hp9 (ksw_fr hk9 hr9 F') fun p hp => N' p (hn p hp)
  | true =>
    simp only [if_true] at p ⊢
    refine wpAny_mono p (fun f s₃ q => ?_) fun _ _ x => x
    cases f with
    | ret v => exact q
    | brk => exact q
    | next =>
      obtain ⟨c', h', tk', m', news', rfl, F', N', hn, hk9, hr9, hp9, hm9⟩ := q
      exact ⟨h', tk', m', Led c', μ c', rfl, F', fun p hp => N' p (hn p hp), hm9, c', rfl, rfl, hk9, hr9, hp9⟩
    | cont =>
      obtain ⟨c', h', tk', m', news', rfl, F', N', hn, hk9, hr9, hp9, hm9⟩ := q
      exact ⟨h', tk', m', Led c', μ c', rfl, F', fun p hp => N' p (hn p hp), hm9, c', rfl, rfl, hk9, hr9, hp9⟩
end
end Mine
namespace Mine
section
variable {prog : Program} {w : World} {A : Around} {E : Value → Shared → Prop} {s : Shared} {h₀ : Heap} {L d q l ln : Addr} {m : Str → Option Value} {news : List (Addr × Obj)} {o : Obj}
theorem bc_dict_get_int {kvs : List (Int × Value)} {c : List (Int × Int)} {k e : Int} {tk te : Tok} {Q : Value → Shared → Prop} (N : News h₀ L s.heap news) (hq : (q, bound "dict.get" d) ∈ news) (hm : (d, o) ∈ news) (hd : o.IsDictOf (PySem.intKind prog w) kvs) (hf : PyProof.V.FlatPairs PyData.int kvs (kdfD c)) (lo : (d == sysModules) = false)
    (h : ∀ t, Q (.int (kdfLook c k e) t) { s with toks := s.toks + 1 }) : wpAny (model prog w) A (call (.ref q) [.int k tk, .int e te]) Q E s := by
  refine bc_dict_get (knd := PySem.intKind prog w) N hq hm hd lo (intKind_is _ _ _ _) ?_
  have hv := hf.getD PyProof.V.same_int k (PyProof.V.Flat.int e te)
  rw [kdfD_getD] at hv
  obtain ⟨t, ht⟩ := PyProof.V.Flat.int_inv hv
  rw [ht]
  exact h t
end
/-- the state of find_longest_match between two rows -/
structure FlS where
  dj : Addr
  oj : Obj
  kv : List (Int × Value)
  c : List (Int × Int)
  bi : Int
  bj : Int
  bs : Int
  ti : Tok
  tj : Tok
  ts : Tok
noncomputable def FullP (xa xb : List Str) (alo ahi blo bhi : Int) : Prop := blo + (ahi - alo) ≤ bhi ∧ ∀ t : Int, 0 ≤ t → t < ahi - alo → atS xa (alo + t) = atS xb (blo + t)
theorem idx_full {xa xb : List Str} {alo ahi blo bhi r : Int} {x : Str} (h4 : 0 ≤ blo) (hr : 0 ≤ r) (h : alo + r < ahi) (hx : atS xa (alo + r) = some x) : FullP xa xb alo ahi blo bhi → (blo + r) ∈ idxFrom x 0 xb ∧ blo + r < bhi := by
  rintro ⟨a, b⟩
  refine ⟨idx_atS.mpr ⟨by omega, ?_⟩, by omega⟩
  rw [← b r hr (by omega), hx]
end Mine
namespace Mine
theorem small_tab : ∀ i j : Fin 6, Builtin.Range.small (i.val : Int) (j.val : Int) 1 = true := by decide +kernel
theorem small_of {a b : Int} (h0 : 0 ≤ a) (h1 : a.toNat < 6) (h2 : 0 ≤ b) (h3 : b.toNat < 6) : Builtin.Range.small a b 1 = true := by
  have e := small_tab ⟨a.toNat, h1⟩ ⟨b.toNat, h3⟩
  dsimp only at e
  rw [Int.toNat_of_nonneg h0, Int.toNat_of_nonneg h2] at e
  exact e
theorem small_nat {a : Int} (h : a ≤ 5) : a.toNat < 6 := by omega
theorem small_up {a b : Int} (h0 : 0 ≤ a) (h1 : a ≤ 4) (h2 : 0 ≤ b) (h3 : b ≤ 4) : Builtin.Range.small a b 1 = true :=
  small_of h0 (small_nat (Int.le_trans h1 (by decide))) h2 (small_nat (Int.le_trans h3 (by decide)))
theorem small_up5 {b : Int} (h2 : 0 ≤ b) (h3 : b ≤ 5) : Builtin.Range.small 0 b 1 = true := small_of (Int.le_refl 0) (by decide) h2 (small_nat h3)
end Mine
namespace Mine
theorem ints_at : ∀ {vs : List Value} {xs : List Int} {p : Nat} {v : Value}, IntsAre vs xs → vs[p]? = some v → ∃ j t, v = .int j t ∧ xs[p]? = some j := by
  intro vs xs p v h
  induction h generalizing p with
  | nil => intro h; simp at h
  | cons j t hr ih =>
    intro h
    cases p with
    | zero => exact ⟨j, t, by simpa using h.symm, rfl⟩
    | succ p => exact (by simpa using ih (p := p) (by simpa using h))
end Mine
namespace Mine
structure FlR (xa xb : List Str) (alo ahi blo bhi bi bj bs : Int) : Prop where
  best : Best xa xb alo blo bhi ahi bi bj bs
  full : FullP xa xb alo ahi blo bhi → bi = alo ∧ bj = blo ∧ bs = ahi - alo
structure FlW where
  bi : Int
  bj : Int
  bs : Int
  ti : Tok
  tj : Tok
  ts : Tok
section
variable {xa xb : List Str} {alo ahi blo bhi bi bj bs : Int} {c : List (Int × Int)}
theorem flr_of_oinv {n : Nat} (O : OInv xa xb alo blo bhi (n : Int) (FullP xa xb alo ahi blo bhi) c bi bj bs) (h : alo ≤ ahi) (hn : n = (ahi - alo).toNat) : FlR xa xb alo ahi blo bhi bi bj bs := by
  have e : (n : Int) = ahi - alo := by omega
  have b := O.best
  refine ⟨⟨b.a, b.b, b.c, by have := b.d; omega, b.e, b.s⟩, fun f => ?_⟩
  obtain ⟨x, y, z⟩ := O.fb f
  exact ⟨x, y, by omega⟩
theorem flr_left (R : FlR xa xb alo ahi blo bhi bi bj bs) (h1 : alo < bi) (h2 : blo < bj) (e : atS xa (bi - 1) = atS xb (bj - 1)) : FlR xa xb alo ahi blo bhi (bi - 1) (bj - 1) (bs + 1) := by
  have b := R.best
  refine ⟨⟨by omega, by omega, by have := b.c; omega, by have := b.d; omega, by have := b.e; omega, fun t h0 h1 => ?_⟩, fun f => ?_⟩
  · by_cases ht : t = 0
    · subst ht; simpa using e
    · have := b.s (t - 1) (by omega) (by omega)
      rw [show bi + (t - 1) = bi - 1 + t by omega, show bj + (t - 1) = bj - 1 + t by omega] at this
      exact this
  · obtain ⟨x, y, z⟩ := R.full f
    omega
theorem flr_right (R : FlR xa xb alo ahi blo bhi bi bj bs) (h1 : bi + bs < ahi) (h2 : bj + bs < bhi) (e : atS xa (bi + bs) = atS xb (bj + bs)) : FlR xa xb alo ahi blo bhi bi bj (bs + 1) := by
  have b := R.best
  refine ⟨⟨b.a, b.b, by have := b.c; omega, by omega, by omega, fun t h0 h1 => ?_⟩, fun f => ?_⟩
  · by_cases ht : t = bs
    · subst ht; exact e
    · exact b.s t h0 (by omega)
  · obtain ⟨x, y, z⟩ := R.full f
    omega
end
end Mine
namespace Mine
theorem getD_atS {xs : List Str} {i : Int} (h0 : 0 ≤ i) (h1 : i < (xs.length : Int)) : atS xs i = some (xs.getD i.toNat PySem.Str.empty) := by
  have hlt : i.toNat < xs.length := by omega
  unfold atS
  rw [List.getD_eq_getElem?_getD, List.getElem?_eq_getElem hlt]
  rfl
end Mine
end

section
open PySem PySem.W PyProof.Rows PyProof.V PySem.Calls
set_option maxRecDepth 100000
namespace Mine
section
variable {prog : Program} {w : World} {A : Around} {E : Value → Shared → Prop} {s : Shared} {env : Env} {h₀ : Heap} {body : List Stmt} {Q : Flow → Shared → Prop}
noncomputable def EnOut {σ : Type} (h₀ : Heap) (L : Addr) (its : List (Addr × Obj)) (s₁ : Shared) (Led : σ → List (Addr × Obj)) (ps : σ → List (Str × Value)) (stored : List Str) (m₀ : Str → Option Value) (P : σ → Prop) (s₂ : Shared) : Prop :=
  ∃ c h' tk m' news', s₂ = { s₁ with heap := h', toks := tk } ∧ Fr h₀ L h' m' ∧ News h₀ L h' news' ∧ (∀ p ∈ Led c, p ∈ news') ∧ (∀ p ∈ its, p ∈ news') ∧ (∀ p ∈ ps c, m' p.1 = some p.2) ∧ (∀ z, (∀ p ∈ ps c, z ≠ p.1) → stored.contains z = false → m' z = m₀ z) ∧ P c
noncomputable def EnPost {σ : Type} (h₀ : Heap) (L : Addr) (its : List (Addr × Obj)) (s₁ : Shared) (Q : Flow → Shared → Prop) (Led : σ → List (Addr × Obj)) (ps : σ → List (Str × Value)) (stored : List Str) (m₀ : Str → Option Value) (P : σ → Prop) (f : Flow) (s₂ : Shared) : Prop :=
  match f with
  | .ret v => Q (.ret v) s₂
  | .brk => Q .next s₂
  | _ => EnOut h₀ L its s₁ Led ps stored m₀ P s₂
theorem en_end {σ : Type} {L : Addr} {its : List (Addr × Obj)} {s₁ : Shared} {Led : σ → List (Addr × Obj)} {ps : σ → List (Str × Value)} {stored : List Str} {m₀ m' : Str → Option Value} {P : σ → Prop} {h' : Heap} {tk : Nat} {news' : List (Addr × Obj)} {f : Flow} (hf : f = .next ∨ f = .cont) (c : σ)
    (F : Fr h₀ L h' m') (N : News h₀ L h' news') (hn : ∀ p ∈ Led c, p ∈ news') (hi : ∀ p ∈ its, p ∈ news') (hk : ∀ p ∈ ps c, m' p.1 = some p.2) (hr : ∀ z, (∀ p ∈ ps c, z ≠ p.1) → stored.contains z = false → m' z = m₀ z) (hp : P c) :
    EnPost h₀ L its s₁ Q Led ps stored m₀ P f { s₁ with heap := h', toks := tk } := by
  rcases hf with rfl | rfl <;> exact ⟨c, h', tk, m', news', rfl, F, N, hn, hi, hk, hr, hp⟩
theorem enum_rest {σ : Type} {elts : List Expr} {k : Nat} {pos : Pos} {l I : Addr} {vs : List Value} {n : Nat} {m₀ : Str → Option Value} (Led : σ → List (Addr × Obj)) (ps : σ → List (Str × Value)) (stored : List Str) (P : Nat → σ → Prop) (c₀ : σ)
    (hl : ∀ i c, P i c → (l, W.listOf vs.toArray n) ∈ Led c) (hI : ∀ p ∈ Led c₀, p.1 < I)
    (hcls : ∀ i c, P i c → ∀ p ∈ Led c, (p.2.cls ≠ .type "enumerate" ∧ p.2.cls ≠ .type "list_iterator") ∨ p ∈ Led c₀)
    (turn : ∀ (i : Nat) (c : σ) x T t (u : Str → Option Value) h tk ie io, ie.cls = .type "enumerate" → io.cls = .type "list_iterator" → vs[i]? = some x → P i c → IsTup h T #[.int (i : Int) t, x] →
      Fr h₀ env.locals h (kstB (fun z => if stored.contains z then u z else m₀ z) (ps c)) → News h₀ env.locals h ((I + 1, ie) :: (I, io) :: Led c) →
      wpAny (model prog w) A (assign (.Tuple elts k pos) env (.ref T)) (fun _ s₂ => wpAny (model prog w) A (execs body env) (EnPost h₀ env.locals [(I + 1, ie), (I, io)] { s with heap := h, toks := tk } Q Led ps stored m₀ (P (i + 1))) E s₂) E { s with heap := h, toks := tk })
    (done : ∀ (c : σ) (u : Str → Option Value) h tk, P vs.length c → Fr h₀ env.locals h (kstB (fun z => if stored.contains z then u z else m₀ z) (ps c)) → News h₀ env.locals h (Led c) → Q .next { s with heap := h, toks := tk }) :
    ∀ (r : List Value) (p : Nat), p + r.length = vs.length → vs.drop p = r → ∀ (c : σ) (m : Str → Option Value), P p c → (∀ q ∈ ps c, m q.1 = some q.2) → (∀ z, (∀ q ∈ ps c, z ≠ q.1) → stored.contains z = false → m z = m₀ z) →
      ItemsRest prog w A E h₀ env (.Tuple elts k pos) body Q s [(I + 1, "enumerate"), (I, "list_iterator")] [(l, W.listOf vs.toArray n)] (enumItems p r) m (Led c) := by
  intro r
  induction r with
  | nil =>
    intro p hlen hd c m hp h1 h2 h tk F N
    have e : p = vs.length := by simpa using hlen
    subst e
    exact done c m h tk hp (ksw_fr h1 h2 F) N
  | cons x r ih =>
    intro p hlen hd c m hp h1 h2
    have hx : vs[p]? = some x := by
      have := congrArg (fun l => l[0]?) hd
      simpa using this
    have hd' : vs.drop (p + 1) = r := by
      rw [← List.drop_drop] <;> first | (rw [hd]; rfl) | skip
    rintro v h tk ⟨T, t, rfl, hT⟩ F ie hie io hio N
    refine wpAny_mono (turn p c x T t m h tk ie io hie hio hx hp hT (ksw_fr h1 h2 F) N) (fun _ s₂ q => wpAny_mono q (fun f s₃ z => ?_) fun _ _ e => e) fun _ _ e => e
    have fin : EnOut h₀ env.locals [(I + 1, ie), (I, io)] { s with heap := h, toks := tk } Led ps stored m₀ (P (p + 1)) s₃ →
        UnrEndW h₀ env.locals { s with heap := h, toks := tk } [(I + 1, ie), (I, io)] (fun m' n' => SubL [(l, W.listOf vs.toArray n)] n' ∧ ItemsRest prog w A E h₀ env (.Tuple elts k pos) body Q s [(I + 1, "enumerate"), (I, "list_iterator")] [(l, W.listOf vs.toArray n)] (enumItems (p + 1) r) m' n') s₃ := by
      rintro ⟨c', h', tk', m', news', rfl, F', N', hn, hi, hk', hr', hp'⟩
      have off : ∀ p ∈ Led c', ∀ q ∈ [(I + 1, ie), (I, io)], p.1 ≠ q.1 := fun z hz q hq e => by
        have g1 := (N' z (hn z hz)).1
        have g2 := (N' q (hi q hq)).1
        rw [e, g2] at g1
        have eo : z.2 = q.2 := (Option.some.inj g1).symm
        rcases hcls _ c' hp' z hz with ⟨a, b⟩ | a
        · rcases List.mem_cons.mp hq with q1 | q1
          · exact a (by rw [eo, q1]; exact hie)
          · exact b (by rw [eo, List.mem_singleton.mp q1]; exact hio)
        · have := hI z a
          rcases List.mem_cons.mp hq with q1 | q1
          · rw [e, q1] at this; exact absurd this (Nat.not_lt.mpr (Nat.le_succ _))
          · rw [e, List.mem_singleton.mp q1] at this; exact absurd this (Nat.lt_irrefl _)
      refine ⟨h', tk', m', Led c', rfl, F', fun z hz => ?_, off, ⟨hl _ c' hp', trivial⟩, ih (p + 1) (by simp only [List.length_cons] at hlen; omega) hd' c' m' hp' hk' hr'⟩
      rcases List.mem_append.mp hz with q | q
      · exact N' z (hi z q)
      · exact N' z (hn z q)
    cases f with
    | ret v => exact z
    | brk => exact z
    | next => exact fin z
    | cont => exact fin z
theorem lv_enum {σ : Type} {elts : List Expr} {k : Nat} {pos : Pos} {l : Addr} {vs : List Value} {n : Nat} {m₀ : Str → Option Value} (Led : σ → List (Addr × Obj)) (ps : σ → List (Str × Value)) (stored : List Str) (P : Nat → σ → Prop) (c₀ : σ)
    (hh : A.handled = none) (hl : ∀ i c, P i c → (l, W.listOf vs.toArray n) ∈ Led c)
    (F : Fr h₀ env.locals s.heap m₀) (N : News h₀ env.locals s.heap (Led c₀)) (hk : ∀ p ∈ ps c₀, m₀ p.1 = some p.2) (hp : P 0 c₀)
    (hcls : ∀ i c, P i c → ∀ p ∈ Led c, (p.2.cls ≠ .type "enumerate" ∧ p.2.cls ≠ .type "list_iterator") ∨ p ∈ Led c₀)
    (turn : ∀ (I : Addr) (i : Nat) (c : σ) x T t (u : Str → Option Value) h tk ie io, (∀ p ∈ Led c₀, p.1 < I) → ie.cls = .type "enumerate" → io.cls = .type "list_iterator" → vs[i]? = some x → P i c → IsTup h T #[.int (i : Int) t, x] →
      Fr h₀ env.locals h (kstB (fun z => if stored.contains z then u z else m₀ z) (ps c)) → News h₀ env.locals h ((I + 1, ie) :: (I, io) :: Led c) →
      wpAny (model prog w) A (assign (.Tuple elts k pos) env (.ref T)) (fun _ s₂ => wpAny (model prog w) A (execs body env) (EnPost h₀ env.locals [(I + 1, ie), (I, io)] { s with heap := h, toks := tk } Q Led ps stored m₀ (P (i + 1))) E s₂) E { s with heap := h, toks := tk })
    (done : ∀ (c : σ) (u : Str → Option Value) h tk, P vs.length c → Fr h₀ env.locals h (kstB (fun z => if stored.contains z then u z else m₀ z) (ps c)) → News h₀ env.locals h (Led c) → Q .next { s with heap := h, toks := tk }) :
    wpAny (model prog w) A (call (.type "enumerate") [.ref l]) (fun xv s₁ => wpAny (model prog w) A (pyIter xv) (fun it s₂ => TurnsAt prog w A h₀ env (.Tuple elts k pos) body Q E it s₂) E s₁) E s :=
  ktu_enum hh F N (hl 0 c₀ hp) rfl rfl rfl fun I hI => enum_rest Led ps stored P c₀ hl hI hcls (fun i c x T t u h tk ie io => turn I i c x T t u h tk ie io hI) done vs 0 (by simp) rfl c₀ m₀ hp hk fun _ _ _ => rfl
end
end Mine
end

section
open PySem PySem.W PyProof.Rows PyProof.V PySem.Calls
set_option maxRecDepth 100000
namespace Mine
/-- a row of b2j: a text, and the list object of its places -/
structure Row where
  x : Str
  l : Addr
  vs : List Value
  n : Nat
noncomputable def rowsK (rs : List Row) : List (Str × Value) := rs.map fun r => (r.x, .ref r.l)
noncomputable def rowsL (rs : List Row) : List (Addr × Obj) := rs.map fun r => (r.l, W.listOf r.vs.toArray r.n)
structure RowsOk (rs : List Row) (ys : List Str) : Prop where
  nd : (rs.map (·.x)).Nodup
  at_ : ∀ r ∈ rs, IntsAre r.vs (idxFrom r.x 0 ys)
  out : ∀ x, x ∉ rs.map (·.x) → idxFrom x 0 ys = []
  ad : (rs.map (·.l)).Nodup
theorem rows_none {rs : List Row} {x : Str} : valueAt (rowsK rs) x = none ↔ x ∉ rs.map (·.x) := by
  induction rs with
  | nil => simp [rowsK, valueAt]
  | cons r rs ih =>
    simp only [rowsK, valueAt, List.map_cons, List.find?_cons] at ih ⊢
    by_cases h : r.x = x
    · simp [h]
    · have h' : ¬ x = r.x := fun e => h e.symm
      simp only [h, decide_false]
      rw [ih]
      simp [h']
theorem rows_some {rs : List Row} {x : Str} {v : Value} (h : valueAt (rowsK rs) x = some v) : ∃ pre r post, rs = pre ++ r :: post ∧ r.x = x ∧ v = .ref r.l := by
  induction rs with
  | nil => simp [rowsK, valueAt] at h
  | cons r rs ih =>
    simp only [rowsK, valueAt, List.map_cons, List.find?_cons] at ih h
    by_cases e : r.x = x
    · simp only [e, decide_true, Option.map_some, Option.some.injEq] at h
      exact ⟨[], r, rs, rfl, e, h.symm⟩
    · simp only [e, decide_false] at h
      obtain ⟨pre, r', post, rfl, a, b⟩ := ih h
      exact ⟨r :: pre, r', post, rfl, a, b⟩
theorem rows_B2J {rs : List Row} {ys : List Str} {Lr : List (Addr × Obj)} (R : RowsOk rs ys) : B2J (rowsK rs) ys (rowsL rs ++ Lr) where
  hit := fun x v hv => by
    obtain ⟨pre, r, post, rfl, rfl, rfl⟩ := rows_some hv
    refine ⟨r.l, r.vs, r.n, rfl, List.mem_append_left _ ?_, R.at_ r (by simp)⟩
    simp [rowsL]
  miss := fun x hx => R.out x (rows_none.mp hx)
theorem rows_nil : RowsOk [] [] := ⟨List.nodup_nil, fun r h => by simp at h, fun x _ => rfl, List.nodup_nil⟩
theorem rows_new {rs : List Row} {ys : List Str} {x : Str} {l : Addr} (R : RowsOk rs ys) (hx : x ∉ rs.map (·.x)) (hl : ∀ r ∈ rs, r.l ≠ l) : RowsOk (rs ++ [⟨x, l, [], 0⟩]) ys where
  nd := by
    rw [List.map_append, List.nodup_append]
    refine ⟨R.nd, by simp, fun a ha b hb e => ?_⟩
    have e2 : b = x := by simpa using hb
    exact hx (by rw [← e2, ← e]; exact ha)
  at_ := fun r hr => by
    rcases List.mem_append.mp hr with h | h
    · exact R.at_ r h
    · rw [List.mem_singleton.mp h]
      show IntsAre [] (idxFrom x 0 ys)
      rw [R.out x hx]
      exact .nil
  out := fun z hz => R.out z fun h => hz (by rw [List.map_append]; exact List.mem_append_left _ h)
  ad := by
    rw [List.map_append, List.nodup_append]
    refine ⟨R.ad, by simp, fun a ha b hb e => ?_⟩
    have e2 : b = l := by simpa using hb
    obtain ⟨r, hr, e3⟩ := List.mem_map.mp ha
    exact hl r hr (by rw [e3, e, e2])
theorem ints_snoc {vs : List Value} {xs : List Int} {j : Int} {t : Tok} (h : IntsAre vs xs) : IntsAre (vs ++ [.int j t]) (xs ++ [j]) := by
  induction h with
  | nil => exact .cons j t .nil
  | cons a u _ ih => exact .cons a u ih
theorem rows_append {pre post : List Row} {r : Row} {ys : List Str} {t : Tok} (R : RowsOk (pre ++ r :: post) ys) : RowsOk (pre ++ ⟨r.x, r.l, r.vs ++ [.int (ys.length : Nat) t], r.n + 1⟩ :: post) (ys ++ [r.x]) where
  nd := by simpa using R.nd
  at_ := fun q hq => by
    have hne : ∀ q ∈ pre ++ post, ¬ r.x = q.x := fun q hq e => by
      have nd := R.nd
      rw [List.map_append, List.map_cons, List.nodup_append, List.nodup_cons] at nd
      rcases List.mem_append.mp hq with h | h
      · exact nd.2.2 q.x (List.mem_map_of_mem h) r.x (.head _) e.symm
      · exact nd.2.1.1 (e ▸ List.mem_map_of_mem h)
    rcases List.mem_append.mp hq with h | h
    · have := R.at_ q (List.mem_append_left _ h)
      rw [idx_app, if_neg (hne q (List.mem_append_left _ h)), List.append_nil]
      exact this
    · rcases List.mem_cons.mp h with h | h
      · rw [h]
        show IntsAre (r.vs ++ _) (idxFrom r.x 0 (ys ++ [r.x]))
        rw [idx_app, if_pos rfl, Nat.zero_add]
        exact ints_snoc (R.at_ r (by simp))
      · have := R.at_ q (by simp [h])
        rw [idx_app, if_neg (hne q (List.mem_append_right _ h)), List.append_nil]
        exact this
  out := fun z hz => by
    have hz' : z ∉ (pre ++ r :: post).map (·.x) := by simpa using hz
    have hne : ¬ r.x = z := fun e => hz' (by simp [e])
    rw [idx_app, if_neg hne, List.append_nil]
    exact R.out z hz'
  ad := by simpa using R.ad
end Mine
end

section
open PySem PySem.W PyProof.Rows PyProof.V PySem.Calls
set_option maxRecDepth 100000
namespace Mine
theorem updF_mid {d : Addr} {o : Obj} : ∀ {pre post : List (Addr × Obj)}, (∀ p ∈ pre, p.1 ≠ d) → (∀ p ∈ post, p.1 ≠ d) → UpdF d o (pre ++ (d, o) :: post) (fun o' => pre ++ (d, o') :: post)
  | [], _, _, h2 => .head h2
  | p :: pre, _, h1, h2 => .tail (h1 p (.head _)) (updF_mid (fun q hq => h1 q (.tail _ hq)) h2)
theorem upd_mid {d : Addr} {o o' : Obj} : ∀ {pre post : List (Addr × Obj)}, (∀ p ∈ pre, p.1 ≠ d) → (∀ p ∈ post, p.1 ≠ d) → Upd d o o' (pre ++ (d, o) :: post) (pre ++ (d, o') :: post)
  | [], _, _, h2 => .head h2
  | p :: pre, _, h1, h2 => .tail (h1 p (.head _)) (upd_mid (fun q hq => h1 q (.tail _ hq)) h2)
theorem sd_args (a b c : Value) : argsOk "dict.setdefault" ⟨[a, b, c], []⟩ := by unfold argsOk; kernel_rfl
theorem rows_stored {rs : List Row} {x : Str} {e : Addr} (h : x ∉ rs.map (·.x)) : stored (rowsK rs) x (.ref e) = rowsK (rs ++ [⟨x, e, [], 0⟩]) := by
  unfold stored
  rw [if_neg]
  · simp [rowsK]
  · intro q
    obtain ⟨kv, hkv, e2⟩ := List.any_eq_true.mp q
    obtain ⟨r, hr, rfl⟩ := List.mem_map.mp hkv
    exact h (List.mem_map.mpr ⟨r, hr, by simpa using e2⟩)
section
variable {prog : Program} {w : World} {A : Around} {E : Value → Shared → Prop} {s : Shared} {h₀ : Heap} {L d e : Addr} {m : Str → Option Value} {Pa Pb Lr : List (Addr × Obj)} {D : Obj} {rs : List Row} {ys : List Str} {x : Str} {t : Tok}
theorem setdef_row {Q : Value → Shared → Prop} (F : Fr h₀ L s.heap m) (N : News h₀ L s.heap ((e, W.listOf #[] 0) :: (Pa ++ (d, D) :: (Pb ++ (rowsL rs ++ Lr))))) (hd : D.IsDictOf (PySem.strKind prog w) (rowsK rs)) (R : RowsOk rs ys) (lo : (d == sysModules) = false) (hsz : rs.length ≤ 16)
    (ha : ∀ p ∈ Pa, p.1 ≠ d) (hb : ∀ p ∈ Pb, p.1 ≠ d) (hr : ∀ r ∈ rs, d < r.l) (hL : ∀ p ∈ Lr, p.1 ≠ d) (hde : d < e) (he : ∀ r ∈ rs, r.l < e)
    (h : ∀ h' D' pre r post, (pre ++ r :: post).length ≤ rs.length + 1 → D'.IsDictOf (PySem.strKind prog w) (rowsK (pre ++ r :: post)) → RowsOk (pre ++ r :: post) ys → r.x = x → (∀ q ∈ pre ++ r :: post, d < q.l) → Fr h₀ L h' m →
      News h₀ L h' (Pa ++ (d, D') :: (Pb ++ (rowsL (pre ++ r :: post) ++ Lr))) → Q (.ref r.l) { s with heap := h', toks := s.toks + 1 }) :
    wpAny (model prog w) A (call (.builtin "dict.setdefault") [.ref d, .str x t, .ref e]) Q E s := by
  have hlen : (rowsK rs).length ≤ sizeLine := by rw [sizeLine_eq]; simp only [rowsK, List.length_map]; omega
  have hrl : ∀ p ∈ rowsL rs, p.1 ≠ d := fun p hp => by
    obtain ⟨r, hr', rfl⟩ := List.mem_map.mp hp
    exact Nat.ne_of_gt (hr r hr')
  cases hv : valueAt (rowsK rs) x with
  | none =>
    have hx := rows_none.mp hv
    refine kob_setdef_new (knd := PySem.strKind prog w) F N (UpdF.tail (Nat.ne_of_gt hde) (updF_mid ha fun p hp => ?_)) hd lo (strKind_is prog w x t) (sd_args _ _ _) hv hlen fun h' o' F' N' hd' => ?_
    · rcases List.mem_append.mp hp with q | q
      · exact hb p q
      · rcases List.mem_append.mp q with q | q
        · exact hrl p q
        · exact hL p q
    · rw [rows_stored hx] at hd'
      refine h h' o' rs ⟨x, e, [], 0⟩ [] (by simp) hd' (rows_new R hx fun r hr' => Nat.ne_of_lt (he r hr')) rfl (fun q hq => ?_) F' fun p hp => N' p ?_
      · rcases List.mem_append.mp hq with q1 | q1
        · exact hr q q1
        · rw [List.mem_singleton.mp q1]; exact hde
      · simp only [rowsL, List.map_append, List.map_cons, List.map_nil, List.mem_append, List.mem_cons, List.mem_nil_iff, or_false, List.not_mem_nil] at hp ⊢
        rcases hp with q | q | q | (q | q) | q <;> first | (simp [q]; done) | skip
  | some v =>
    obtain ⟨pre, r, post, rfl, hrx, rfl⟩ := rows_some hv
    have hp : (d, D) ∈ ((e, W.listOf #[] 0) :: (Pa ++ (d, D) :: (Pb ++ (rowsL (pre ++ r :: post) ++ Lr)))) := by simp
    exact kob_setdef_there (knd := PySem.strKind prog w) N hp hd lo (strKind_is prog w x t) (sd_args _ _ _) hv hlen (h s.heap D pre r post (Nat.le_succ _) hd R hrx hr F fun p hp => N p (.tail _ hp))
theorem rowsL_mid (pre post : List Row) (r : Row) : rowsL (pre ++ r :: post) = rowsL pre ++ (r.l, W.listOf r.vs.toArray r.n) :: rowsL post := by simp [rowsL]
theorem append_row {Q : Value → Shared → Prop} {pre post : List Row} {r : Row} {v : Value} (F : Fr h₀ L s.heap m) (N : News h₀ L s.heap (Pa ++ (rowsL (pre ++ r :: post) ++ Lr))) (R : RowsOk (pre ++ r :: post) ys) (hs : r.vs.length ≤ 16)
    (ha : ∀ p ∈ Pa, p.1 ≠ r.l) (hL : ∀ p ∈ Lr, p.1 ≠ r.l)
    (h : ∀ h', Fr h₀ L h' m → News h₀ L h' (Pa ++ (rowsL (pre ++ ⟨r.x, r.l, r.vs ++ [v], r.n + 1⟩ :: post) ++ Lr)) → Q .none { s with heap := h' }) :
    wpAny (model prog w) A (call (.builtin "list.append") [.ref r.l, v]) Q E s := by
  have hne : ∀ q ∈ pre ++ post, q.l ≠ r.l := fun q hq e => by
    have nd := R.ad
    rw [List.map_append, List.map_cons, List.nodup_append, List.nodup_cons] at nd
    rcases List.mem_append.mp hq with h | h
    · exact nd.2.2 q.l (List.mem_map_of_mem h) r.l (.head _) e
    · exact nd.2.1.1 (e ▸ List.mem_map_of_mem h)
  rw [rowsL_mid] at N
  have e1 : Pa ++ (rowsL pre ++ (r.l, W.listOf r.vs.toArray r.n) :: rowsL post ++ Lr) = (Pa ++ rowsL pre) ++ (r.l, W.listOf r.vs.toArray r.n) :: (rowsL post ++ Lr) := by simp
  rw [e1] at N
  have h1 : ∀ p ∈ Pa ++ rowsL pre, p.1 ≠ r.l := fun p hp => by
    rcases List.mem_append.mp hp with q | q
    · exact ha p q
    · obtain ⟨z, hz, rfl⟩ := List.mem_map.mp q
      exact hne z (List.mem_append_left _ hz)
  have h2 : ∀ p ∈ rowsL post ++ Lr, p.1 ≠ r.l := fun p hp => by
    rcases List.mem_append.mp hp with q | q
    · obtain ⟨z, hz, rfl⟩ := List.mem_map.mp q
      exact hne z (List.mem_append_right _ hz)
    · exact hL p q
  refine append_K (its := r.vs.toArray) (n := r.n) (x := v) F N (upd_mid h1 h2) (fun h' F' N' => h h' F' fun p hp => N' p ?_) (by rw [sizeLine_eq, List.size_toArray]; omega)
  rw [rowsL_mid] at hp
  have e2 : (r.vs ++ [v]).toArray = r.vs.toArray.push v := by simp
  simp only [e2] at hp
  have e3 : Pa ++ (rowsL pre ++ (r.l, W.listOf (r.vs.toArray.push v) (r.n + 1)) :: rowsL post ++ Lr) = (Pa ++ rowsL pre) ++ (r.l, W.listOf (r.vs.toArray.push v) (r.n + 1)) :: (rowsL post ++ Lr) := by simp
  rw [e3] at hp
  exact hp
end
structure CbS where
  D : Obj
  rs : List Row
end Mine
namespace Mine
theorem allLt_mem {d : Addr} : ∀ {l : List (Addr × Obj)}, AllLt d l → ∀ p ∈ l, p.1 < d
  | [], _, _, h => absurd h (List.not_mem_nil)
  | q :: l, h, p, hp => by
    rcases List.mem_cons.mp hp with e | e
    · rw [e]; exact h.1
    · exact allLt_mem h.2 p e
theorem rowsL_of {rs : List Row} {r : Row} (h : r ∈ rs) : (r.l, W.listOf r.vs.toArray r.n) ∈ rowsL rs := List.mem_map.mpr ⟨r, h, rfl⟩
theorem take_snoc {xs : List Str} {i : Nat} {y : Str} (h : xs[i]? = some y) : xs.take (i + 1) = xs.take i ++ [y] := by rw [List.take_add_one, h]; rfl
theorem take_len {xs : List Str} {i : Nat} {y : Str} (h : xs[i]? = some y) : (xs.take i).length = i := by
  have := (List.getElem?_eq_some_iff.mp h).1
  rw [List.length_take]; omega
end Mine
namespace Mine
theorem list_ne_it {a : Array Value} {n : Nat} {o : Obj} (h : o.cls = .type "list_iterator") : W.listOf a n ≠ o := fun e => by
  rw [← e] at h
  exact absurd h (by simp [W.listOf])
theorem list_ne_en {a : Array Value} {n : Nat} {o : Obj} (h : o.cls = .type "enumerate") : W.listOf a n ≠ o := fun e => by
  rw [← e] at h
  exact absurd h (by simp [W.listOf])
theorem row_len {rs : List Row} {ys : List Str} {r : Row} (R : RowsOk rs ys) (h : r ∈ rs) : r.vs.length ≤ ys.length := by
  have e := (R.at_ r h).length
  have := idx_len (x := r.x) ys 0
  omega
theorem rows_step {pre post : List Row} {r : Row} {xb : List Str} {i : Nat} {y : Str} {t : Tok} (R : RowsOk (pre ++ r :: post) (xb.take i)) (hy : xb[i]? = some y) (hx : r.x = y) :
    RowsOk (pre ++ ⟨r.x, r.l, r.vs ++ [.int (i : Nat) t], r.n + 1⟩ :: post) (xb.take (i + 1)) := by
  have := rows_append (t := t) R
  rw [take_len hy, hx, ← take_snoc hy, ← hx] at this
  exact this
end Mine
end

section
open PySem PySem.W PyProof.Rows PyProof.V PySem.Calls Builtin Builtin.ObjectAttr Builtin.Getset_descriptor
set_option maxRecDepth 100000
set_option maxHeartbeats 4000000
namespace Mine
/-- a class over tuple that makes its instances itself -/
noncomputable def makesOwn (K : Frag) (C : Addr) : Bool := match K.lookup C with
  | some ⟨_, _, .cls cd, sl⟩ => !cd.abstract && !cd.hasDel && (sl.toList[4]?).join == some .none && !cd.mro.isEmpty && cd.mro.contains (.ref C) && cd.mro.contains (.type "tuple") && cd.mro.contains (.type "object") &&
      cd.bases == [.type "tuple"] && specialIn K (.ref C) "__call__" == some (some (.builtin "type.__call__")) && instIn K (.ref C) (.type "type") == some true && findIn K (.ref C) "__init__" == some (some (.builtin "object.__init__"))
  | _ => false
structure MakesOwn (M : Model) (h : Heap) (C : Addr) : Prop where
  obj : ∃ oc od cd sl, h.get? C = some ⟨oc, od, .cls cd, sl⟩ ∧ cd.abstract = false ∧ cd.hasDel = false ∧ cd.mro.isEmpty = false
  made : Looks M h (Bind.madeBy (.ref C)) none
  base : Looks M h (Bind.staticBase (.ref C)) (.type "tuple")
  self : Looks M h (isSubtype (.ref C) (.ref C)) true
  tup : Looks M h (isSubtype (.ref C) (.type "tuple")) true
  top : Looks M h (isSubtype (.ref C) (.type "object")) true
  call : Looks M h (specialOf (.ref C) "__call__") (some (.builtin "type.__call__"))
  typ : Looks M h (isInstance (.ref C) (.type "type")) true
  init : Looks M h (typeLookup (.ref C) "__init__") (some (.builtin "object.__init__"))
  ist : Looks M h (isType (.ref C)) true
theorem solid_tuple : Slots.solid (.type "tuple") = pure (.type "tuple") := by first | rfl | kernel_rfl
theorem bestBase_tuple : Slots.bestBase [.type "tuple"] = pure (.type "tuple") := by
  first | rfl | kernel_rfl | (unfold Slots.bestBase; simp [solid_tuple])
theorem makesOwn_of {K : Frag} {M : Model} {h : Heap} (X : K.In h) {C : Addr} (e : makesOwn K C = true) : MakesOwn M h C := by
  unfold makesOwn at e
  split at e
  · rename_i oc od cd sl ho
    simp only [Bool.and_eq_true, Bool.not_eq_true', beq_iff_eq] at e
    obtain ⟨⟨⟨⟨⟨⟨⟨⟨⟨⟨e1, e2⟩, e3⟩, e4⟩, e5⟩, e6⟩, e6b⟩, e7⟩, e8⟩, e9⟩, e10⟩ := e
    have hc : clsIn K C = some cd := by unfold clsIn; rw [ho]
    have hm : Looks M h (mroOf (.ref C)) cd.mro := (looks_clsIn X hc).andThen .now
    have hcd : Looks M h (classData C) cd := looks_clsIn X hc
    obtain ⟨c, l, hl⟩ : ∃ c l, cd.mro = c :: l := by cases q : cd.mro with | nil => rw [q] at e4; cases e4 | cons c l => exact ⟨c, l, rfl⟩
    have made : Looks M h (Bind.madeBy (.ref C)) none := by
      intro A Q E s k q
      unfold Bind.madeBy
      refine wpAny_bind (hm A _ E s k ?_)
      rw [hl, List.forIn_cons]
      refine wpAny_bind (wpAny_bind (wpAny_bind (wpAny_bind (wpAny_loadPart (k _ _ (X _ _ ho)) (wpAny_pure ?_)))))
      dsimp only
      rw [← Array.getElem?_toList, e3]
      exact wpAny_pure (wpAny_pure (wpAny_pure q))
    have base : Looks M h (Bind.staticBase (.ref C)) (.type "tuple") := by
      intro A Q E s k q
      unfold Bind.staticBase
      refine wpAny_bind (hm A _ E s k ?_)
      have hl2 : ∃ c2 l2, l = c2 :: l2 := by
        rcases l with _ | ⟨c2, l2⟩
        · rw [hl] at e5 e6
          exfalso
          simp only [List.contains_cons, List.contains_nil, Bool.or_false, beq_iff_eq] at e5 e6
          rw [← e5] at e6
          cases e6
        · exact ⟨c2, l2, rfl⟩
      obtain ⟨c2, l2, hl2⟩ := hl2
      rw [hl, hl2, List.forIn_cons]
      refine wpAny_bind (wpAny_bind (wpAny_bind (made A _ E s k ?_)))
      simp only [Option.isSome_none, Bool.false_eq_true, if_false]
      refine wpAny_bind (hcd A _ E s k ?_)
      rw [e7, bestBase_tuple]
      refine wpAny_bind (wpAny_pure (wpAny_pure ?_))
      dsimp only
      rw [List.forIn_cons]
      dsimp only
      rw [PySem.F.called_tuple.made]
      refine wpAny_bind (wpAny_bind (wpAny_pure ?_))
      rw [if_pos (show (some "tuple.__new__").isSome = true from rfl)]
      exact wpAny_pure (wpAny_pure (wpAny_pure q))
    refine ⟨⟨oc, od, cd, sl, X _ _ ho, e1, e2, e4⟩, made, base, looks_mroIn X ?_, looks_mroIn X ?_, looks_mroIn X ?_, looks_specialIn X e8, looks_instIn X e9, looks_findIn X e10, fun A Q E s k q => wpAny_bind (wpAny_loadPart (k _ _ (X _ _ ho)) (wpAny_pure q))⟩
    · unfold mroIn; rw [hc, Option.bind_some, if_neg (by rw [e4]; decide), e5]
    · unfold mroIn; rw [hc, Option.bind_some, if_neg (by rw [e4]; decide), e6]
    · unfold mroIn; rw [hc, Option.bind_some, if_neg (by rw [e4]; decide), e6b]
  · cases e

theorem madeHere_own {M : Model} {h : Heap} {C : Addr} (Y : MakesOwn M h C) : Looks M h (Bind.madeHere "tuple.__new__" (.ref C)) () := by
  unfold Bind.madeHere
  refine Y.base.andThen ?_
  rw [PySem.F.called_tuple.made]
  exact (Looks.of_pure (r := some "tuple.__new__") rfl).andThen (Looks.of_pure (by first | rfl | kernel_rfl))
noncomputable def sigTN : Manifest.Signature := (Manifest.signature? "tuple.__new__").getD ⟨.hand, "", "", .none, []⟩
theorem sig_tn : Manifest.signature? "tuple.__new__" = some sigTN := by kernel_rfl
theorem tn_args (C : Addr) (a : Value) : Bind.checkArgs "tuple.__new__" sigTN ⟨[.ref C, a], []⟩ = pure () := by kernel_rfl
theorem newCall_own {M : Model} {A : Around} {E : Value → Shared → Prop} {s : Shared} {C : Addr} {a : Value} {Q : Unit → Shared → Prop} (Y : MakesOwn M s.heap C) (q : Q () s) : wpAny M A (checkBuiltinCall "tuple.__new__" ⟨[.ref C, a], []⟩) Q E s := by
  obtain ⟨hh, g, d, t, os⟩ := s
  obtain ⟨⟨oc, od, cd, sl, hC, e1, e2, e4⟩, made, base, self, tup, top, call, typ, init, ist⟩ := Y
  have hk : builtinKind "tuple.__new__" = some .builtinFn := by decide +kernel
  have hs : splitId "tuple.__new__" = some ("tuple", "__new__") := by decide +kernel
  have mt : Looks M hh (Bind.madeBy (.type "tuple")) (some "tuple.__new__") := Looks.of_pure PySem.F.called_tuple.made
  simp only [checkBuiltinCall, hk, hs, sig_tn, tn_args]
  repeat (first | simp only [bne_self_eq_false, Bool.false_eq_true, Bool.not_true, if_false, if_true] | lk)
  all_goals first | exact q | skip
section
variable {prog : Program} {w : World} {A : Around} {K : Frag} {C t : Addr} {s : Shared} {h₀ : Heap} {L : Addr} {m : Str → Option Value} {news : List (Addr × Obj)} {E : Value → Shared → Prop}
theorem tupNew {items : Array Value} {n : Nat} {T : String} {o : Obj} {Q : Value → Shared → Prop} (F : Fr h₀ L s.heap m) (N : News h₀ L s.heap news) (X : K.In s.heap) (hm : makesOwn K C = true)
    (hT : T = "list" ∨ T = "tuple") (ho : s.heap.get? t = some o) (hc : o.cls = .type T) (hd : o.data = .seq items n) (hsz : items.size ≤ 16)
    (h : ∀ x dx h', Fr h₀ L h' m → News h₀ L h' ((x, { cls := .ref C, dict := some dx, data := .seq items }) :: (dx, emptyDict) :: news) → (∀ p ∈ news, p.1 < dx) → dx < x → Q (.ref x) { s with heap := h' }) :
    wpAny (model prog w) A (call (.builtin "tuple.__new__") [.ref C, .ref t]) Q E s := by
  have Y := makesOwn_of (M := model prog w) X hm
  have hsz' : items.size ≤ sizeLine := by rw [sizeLine_eq]; omega
  refine wpAny_call ?_
  refine codeAny_call_builtin (by decide +kernel) PySem.F.entry_tuple_new (newCall_own Y ?_)
  have mh := madeHere_own Y
  obtain ⟨⟨oc, od, cd, sl, hC, e1, e2, e4⟩, made, base, self, tup, top, call, typ, init, ist⟩ := Y
  unfold Builtin.«tuple.__new__»
  obtain ⟨hh, g, d, tk, os⟩ := s
  repeat (first | with_reducible refine wpAny_collect_seq (hsz := hsz') t hT ho hc hd ?_ | simp only [beq_self_eq_true, Bool.false_eq_true, Bool.not_true, if_false, if_true] | lk)
  intro h' hk
  have F1 : Fr h₀ L h' m := F.after hk
  have N1 : News h₀ L h' news := fun p hp => ⟨hk _ _ (N p hp).1, (N p hp).2⟩
  have N2 := (N1.push F1 emptyDict).push (F1.push _) { cls := .ref C, dict := some h'.objs.size, data := .seq items }
  rw [Heap.size_push] at N2
  have hq := h _ h'.objs.size _ ((F1.push emptyDict).push _) N2 (fun p hp => Heap.lt_size (N1 p hp).1) (Nat.lt_succ_self _)
  refine wpAny_bind (wpAny_pure ?_)
  show wpAny _ _ (alloc emptyDict >>= _) _ _ _
  refine wpAny_bind (wpAny_alloc (wpAny_bind ?_))
  unfold newObj
  have hsz2 : ¬ items.toList.toArray.size > sizeLine := by simp only [Array.toArray_toList]; omega
  simp only [hsz2, if_false]
  have hC1 : h'.get? C = some ⟨oc, od, .cls cd, sl⟩ := hk _ _ hC
  unfold newObjAsIs classHasDel
  refine wpAny_bind (wpAny_alloc (wpAny_bind (wpAny_bind (wpAny_load (Heap.get?_push_of_some _ (Heap.get?_push_of_some _ hC1)) (wpAny_pure ?_)))))
  rw [e2]
  refine wpAny_pure (wpAny_pure ?_)
  simpa [Heap.size_push] using hq
end
end Mine
end

section
open PySem PySem.W PyProof.Rows PyProof.V PySem.Calls Builtin Builtin.ObjectAttr Builtin.Getset_descriptor
set_option maxRecDepth 100000
set_option maxHeartbeats 4000000
namespace Mine
noncomputable def NewBack (K : Frag) (C : Addr) (R : Result → Shared → Prop) (r : Result) (s' : Shared) : Prop := match r with
  | .ok (.ret v) => (∃ x o, v = .ref x ∧ s'.heap.get? x = some o ∧ o.cls = .ref C) ∧ K.In s'.heap ∧ R (.ok (.ret v)) s'
  | .ok _ => False
  | .error e => R (.error e) s'
theorem oi_args4 (a b c d : Value) : argsOk "object.__init__" ⟨[a, b, c, d], []⟩ := by unfold argsOk; kernel_rfl
theorem meta_tuple : typeOf (.type "tuple") = pure (.type "type") := by first | rfl | kernel_rfl
section
variable {prog : Program} {w : World} {A : Around} {K : Frag} {C : Addr} {s : Shared} {h₀ : Heap} {L : Addr} {m : Str → Option Value} {R : Result → Shared → Prop} {E : Value → Shared → Prop}
theorem init_own {a b c : Value} {x : Addr} {o : Obj} {Q : Option Value → Shared → Prop} (Y : MakesOwn (model prog w) s.heap C) (hx : s.heap.get? x = some o) (hc : o.cls = .ref C) (h : Q (some .none) s) :
    wpAny (model prog w) A (callSpecial? (.ref x) "__init__" [a, b, c] []) Q E s := by
  obtain ⟨hh, g, d, t, os⟩ := s
  obtain ⟨⟨oc, od, cd, sl, hC, e1, e2, e4⟩, made, base, self, tup, top, call, typ, init, ist⟩ := Y
  have t1 : Looks (model prog w) hh (typeOf (.ref x)) (.ref C) := hc ▸ (Looks.ld hx).andThen .now
  have t2 : Looks (model prog w) hh (isInstance (.ref x) (.type "object")) true := t1.andThen top
  have b1 : Looks (model prog w) hh (bindSpecial (.builtin "object.__init__") (.ref x)) (.builtin "object.__init__", [.ref x]) := Looks.of_pure (oi_bind _)
  unfold callSpecial? specialOf
  repeat (first | with_reducible refine wpAny_call ?_ | lk)
  refine codeAny_call_builtin oi_plain entry_oi (@check_slot (model prog w) _ _ _ "object.__init__" "object" "__init__" (.ref x) [a, b, c] [] _ oi_kind oi_split t2 (oi_args4 (.ref x) a b c) ?_)
  unfold Builtin.«object.__init__»
  repeat (first | simp only [List.isEmpty_cons, Bool.not_false, Bool.true_or, if_true, bne_self_eq_false, Bool.false_eq_true, if_false] | lk)
  all_goals exact h
theorem callClsNew {a b c mc : Value} {p fN : Addr} {rest : List Value} (F : Fr h₀ L s.heap m) (X₀ : K.In h₀) (hm : makesOwn K C = true)
    (hmc : typeIn K (.ref C) = some mc) (hr : readsIn K C mc = true) (e : findCls K (.ref C) mc "__new__" = some (.get (.builtin "staticmethod.__get__") (.ref p) .none (.ref C))) (hp : recIn K p "staticmethod" = some (.ref fN :: rest)) (hv : handedIn (.ref fN) = true)
    (hq : codeAny (model prog w) (A.under (.builtin "type.__call__" ⟨[.ref C, a, b, c], []⟩)) (.call (.ref fN) ⟨[.ref C, a, b, c], []⟩) (NewBack K C R) { s with toks := s.toks + 1 }) :
    codeAny (model prog w) A (.call (.ref C) ⟨[a, b, c], []⟩) R s := by
  have Y := makesOwn_of (M := model prog w) (X₀.keeps F.keep) hm
  have Y' := Y
  obtain ⟨⟨oc, od, cd, sl, hC, e1, e2, e4⟩, made, base, self, tup, top, call, typ, init, ist⟩ := Y
  refine codeAny_of_tree ?_
  show wpAny _ _ (callAny (.ref C) _) _ _ _
  obtain ⟨hh, g, d, t, os⟩ := s
  refine nd_load hC ?_
  show wpAny _ _ (callAny.viaDunder (.ref C) _) _ _ _
  unfold callAny.viaDunder
  refine wpAny_bind (call.at ?_)
  dsimp only
  rw [tc_bind]
  refine wpAny_bind (wpAny_pure (wpAny_bind (wpAny_pure ?_)))
  refine wpAny_pure (a := Fin.again (.call (.builtin "type.__call__") ⟨[.ref C, a, b, c], []⟩)) (And.intro rfl ?_)
  refine codeAny_call_builtin_at (Code.quiet_builtin _ (by decide +kernel)) entry_typeCall (check_slot tc_kind tc_split typ (tc_args _ _ _) ?_)
  unfold Builtin.«type.__call__»
  have hmr : Looks (model prog w) hh (mroOf (.ref C)) cd.mro := ((Looks.ld (part := none) hC).andThen .now).andThen .now
  repeat (first | simp only [e4, Bool.false_eq_true, if_false] | with_reducible refine cls_sm F X₀ hmc hr e hp hv ?_ | with_reducible refine wpAny_call ?_ | lk)
  refine codeAny_mono hq fun r s' z => ?_
  rcases r with e | (v | _ | _ | _) <;> first | exact z | exact z.elim | skip
  obtain ⟨⟨x, o, rfl, hx, hc⟩, X', z⟩ := z
  have Y2 := makesOwn_of (M := model prog w) X' hm
  have t1 : Looks (model prog w) s'.heap (isInstance (.ref x) (.ref C)) true := (hc ▸ (Looks.ld hx).andThen .now : Looks (model prog w) s'.heap (typeOf (.ref x)) (.ref C)).andThen Y2.self
  refine wpAny_bind ?_
  refine t1.here ?_
  simp only [Bool.not_true, Bool.false_eq_true, if_false]
  refine wpAny_bind (wpAny_holding (init_own Y2 hx hc ?_))
  dsimp only
  rw [if_neg (by decide)]
  exact wpAny_pure z
end
end Mine
end

section
open PySem PySem.W PyProof.Rows PyProof.V PySem.Calls
namespace Mine
set_option hygiene false in
local macro_rules | `(tactic| k_ne) => `(tactic| (refine neN ?_; (try dsimp only); exact ad_ne))
set_option hygiene false in
local macro_rules | `(tactic| walk_at "call builtin:tuple.__new__") => `(tactic| (k_here; k_dflt (refine' tupNew (n := 0) (T := "tuple") (by k_asm) (by k_asm) (by exact Frag.In.keeps (by assumption) (Fr.keep (by assumption))) (by kernel_rfl) (.inr rfl) (by exact News.get (by k_asm) (by k_mem)) (by rfl) (by rfl) (by simp) ?_; k_whole; intro _ _ _ _ _ _ _)))
set_option hygiene false in
local macro_rules | `(tactic| walk_at "getMethod type:tuple") => `(tactic| (k_here; refine' method_type (by k_asm) (by k_asm) (by exact meta_tuple) (by decide +kernel) (by k_dflt k_is) (by k_handed) ?_))
set_option maxRecDepth 100000 in
set_option maxHeartbeats 8000000 in
theorem match_K (w : World) (mean : ExcName → Option Value) (mg mb : Str → Option Value) (dp un : Nat) (gd : Option (List Code)) (cn : Str) (cs : Scope) (a : Addr) (ccd : Value) (cl : List (Str × Addr)) (outer : List Env) (A₀ : Around) (base h₀ : Heap) (L : Addr) (m : Str → Option Value)
    (s : Shared) (Q E : Value → Shared → Prop) (i j k : Int) (t1 t2 t3 : Tok) (Led : List (Addr × Obj))
    (B : Below A₀ base outer h₀) (F : Fr h₀ L s.heap m) (X : (Mine.hd.heap_1 w.params).In h₀) (N : News h₀ L s.heap Led)
    (Tp : Top Qv (looseW Qv looseL) mean mg mb h₀) (hk : cs.kind = .function)
    (hd : dp + 3 < recursionLimit) (hu : un + 20 < cLine)
    (hret : ∀ x dx h' tk', Fr h₀ L h' m → News h₀ L h' ((x, { cls := .ref 135, dict := some dx, data := .seq #[.int i t1, .int j t2, .int k t3] }) :: (dx, emptyDict) :: Led) → (∀ p ∈ Led, p.1 < dx) → dx < x → Q (.ref x) { s with heap := h', toks := tk' }) :
    wpAny (model PySem.Challenge.rw_ik0096_01.row.prog w) (ktrTop dp un gd cn cs L a ccd cl outer) (call (.ref 135) [.int i t1, .int j t2, .int k t3]) Q E s := by
  revert X; k_fill; intro X
  refine wpAny_call ?_
  refine' callClsNew F X ?hm ?hmc ?hr ?he ?hp ?hv ?_
  case hm => kernel_rfl
  case hmc => k_is
  case hr => k_is
  case he => k_is
  case hp => k_is
  case hv => rfl
  k_dflt (refine' code_def (binds := [(Str.ofString "_cls", Value.ref 135), (Str.ofString "a", Value.int i t1), (Str.ofString "b", Value.int j t2), (Str.ofString "size", Value.int k t3)]) ?k1 ?k2 ?k3 ?k4 ?k5 ?kA ?kF ?kK ?k6 ?k7 ?k8 ?k9 ?kB ?_ ?c2 ?c3 ?c4 ?c5; (case kA => exact rfl); (case kF => exact rfl); (case kK => assumption); (case k1 => k_asm); (case k2 => k_asm); (case k3 => k_asm); (case k4 => k_asm); (case k5 => k_asm); (case k6 => k_is); (case k7 => k_is); (case k8 => ktr_room); (case k9 => first | exact BindsTo.of_eq rfl | exact binds_K (by k_in) rfl (by k_is) rfl rfl rfl); (case c5 => decide); (case kB => exact locs rfl); (case c2 => exact rfl); (case c3 => exact rfl); (case c4 => exact rfl); k_whole; intro g' L' h' FG' F' N' B' X' T'; (try dsimp only); (try k_fold))
  k_steps
  rename_i D1 h1 F1 N1 lD x1 dx1 h2 F2 N2 l1 l2 kF kN Tc kX
  exact ⟨⟨_, _, rfl, (kN _ (.head _)).1, rfl⟩, kX.keeps kF.keep, hret x1 dx1 _ _ kF (fun p hp => kN p (by
    simp only [List.mem_cons] at hp ⊢
    rcases hp with q | q | q <;> simp [q])) (fun p hp => l1 p (.tail _ hp)) l2⟩
end Mine
end

section
open PySem PySem.W PyProof.Rows PyProof.V PySem.Calls
namespace Mine
set_option hygiene false in
local macro_rules | `(tactic| k_ne) => `(tactic| (refine neN ?_; (try dsimp only); exact ad_ne))

local macro_rules | `(tactic| walk_at "getAttr ref") => `(tactic| (k_here; (with_reducible show wpAny _ _ (getAttr (Value.ref _) (PySem.Str.ofString "__contains__") _) _ _ _); k_dflt (refine' bm_set_contains (by k_asm) (by k_asm) (by k_mem) (by rfl) (by rfl) (by rfl) ?_; k_whole; intro _ _ _ _ l1; (try k_lt l1); (try k_sweep))))
local macro_rules | `(tactic| walk_at "getAttr ref") => `(tactic| (k_here; (with_reducible show wpAny _ _ (getAttr (Value.ref _) (PySem.Str.ofString "get") _) _ _ _); k_dflt (refine' bm_dict_get (knd := PySem.intKind _ _) (by k_asm) (by k_asm) (by k_mem) (by k_asm) ?_; k_whole; intro _ _ _ _ l1; (try k_lt l1); (try k_sweep))))
set_option hygiene false in
local macro_rules | `(tactic| walk_at "callWith ref") => `(tactic| (k_here; (with_reducible show wpAny _ _ (callWith _ (Value.ref _) _ (backTo _ (starEach (_ :: _) _)) []) _ _ _); k_dflt (refine' callWith_boundB (by k_asm) (by k_mem) ?_; k_whole)))
set_option hygiene false in
local macro_rules | `(tactic| walk_at "And") => `(tactic| ((with_reducible show StandsB _ _ _ ∧ _); k_dflt (refine ⟨News.get (by k_asm) (by k_mem), ?_⟩); (try dsimp only [List.nil_append, List.cons_append])))
set_option hygiene false in
local macro_rules | `(tactic| walk_at "call ref") => `(tactic| (k_here; k_dflt (refine' bc_dict_get_int (by k_asm) (by k_mem) (by k_mem) (by k_asm) (by k_asm) (by k_asm) ?_); intro _))
set_option hygiene false in
local macro_rules | `(tactic| walk_at "call builtin:dict.get") => `(tactic| (k_here; k_dflt (refine' call_get_row (n0 := 0) (by k_asm) (by k_mem) (by k_asm) (by k_asm) (by k_asm) ?_); intro _ _ _ _ _))
set_option hygiene false in
local macro_rules | `(tactic| walk_at "subscriptTail") => `(tactic| (k_here; k_dflt (refine' item_strs_at (by k_asm) (by k_mem) (by k_asm) (by k_asm) (by omega) (by omega) ?_); intro _ _ _))
set_option hygiene false in
local macro_rules | `(tactic| walk_at "call ref") => `(tactic| (k_here; k_dflt (refine' bc_set_contains (knd := PySem.strKind _ _) (by k_asm) (by k_mem) (by k_mem) (by rfl) (by rfl) (by rfl) (by k_asm) (by decide) (strKind_is _ _ _ _) rfl ?_; (try dsimp only))))
noncomputable abbrev smE (H : Nat → Int) (T : Nat → Tok) (va vb vmb vop vfb vb2j vjunk vpop : Value) : List DictEntry :=
  [⟨H 0, .str (Str.ofString "isjunk") (T 0), .none⟩, ⟨H 1, .str (Str.ofString "a") (T 1), va⟩, ⟨H 2, .str (Str.ofString "b") (T 2), vb⟩, ⟨H 3, .str (Str.ofString "autojunk") (T 3), .bool true⟩,
   ⟨H 4, .str (Str.ofString "matching_blocks") (T 4), vmb⟩, ⟨H 5, .str (Str.ofString "opcodes") (T 5), vop⟩, ⟨H 6, .str (Str.ofString "fullbcount") (T 6), vfb⟩, ⟨H 7, .str (Str.ofString "b2j") (T 7), vb2j⟩,
   ⟨H 8, .str (Str.ofString "bjunk") (T 8), vjunk⟩, ⟨H 9, .str (Str.ofString "bpopular") (T 9), vpop⟩]

local macro_rules | `(tactic| walk_at "exec For Name Call cons nil") => `(tactic| (k_here; (with_reducible rename Fr _ _ _ _ => lF'); (with_unfolding_all refine' For_invVF lF' (by exact rfl) (by exact rfl) ?_; k_whole)))
set_option hygiene false in
local macro_rules | `(tactic| walk_at "exec While") => `(tactic| refine unstop ?_)
set_option hygiene false in
local macro_rules | `(tactic| walk_at "pyIter ref") => `(tactic| refine unstop ?_)
set_option hygiene false in
local macro_rules | `(tactic| walk_at "eval Name") => `(tactic| (k_here; k_dflt (refine' nameX_L (by k_asm) (by first | rfl | assumption) ?_ (by rfl) (by rfl); k_whole)))
set_option maxRecDepth 100000 in
set_option maxHeartbeats 8000000 in
theorem flm_K (w : World) (mean : ExcName → Option Value) (mg mb : Str → Option Value) (dp un : Nat) (gd : Option (List Code)) (cn : Str) (cs : Scope) (a : Addr) (ccd : Value) (cl : List (Str × Addr)) (outer : List Env) (A₀ : Around) (base h₀ : Heap) (L : Addr) (m : Str → Option Value)
    (s : Shared) (Q E : Value → Shared → Prop) (H : Nat → Int) (T : Nat → Tok) (la lb d2 jk : Addr) (vmb vop vfb vpop : Value) (n na nb : Nat) (M dM : Addr) (va vb : List Value) (xa xb : List Str) (Lb : List (Addr × Obj)) (D2 : Obj)
    (alo ahi blo bhi : Int) (t1 t2 t3 t4 : Tok) (led : Bool) (kvs : List (Str × Value))
    (B : Below A₀ base outer h₀) (F : Fr h₀ L s.heap m) (X : (Mine.hd.heap_1 w.params).In h₀) (N : News h₀ L s.heap ((M, instObj 242 dM) :: (dM, dictOf (smE H T (.ref la) (.ref lb) vmb vop vfb (.ref d2) (.ref jk) vpop) n) :: (la, listOf va.toArray na) :: (lb, listOf vb.toArray nb) :: (jk, { cls := .type "set", dict := none, data := .set #[] 0 (.fresh 0 0 led) }) :: (d2, D2) :: Lb))
    (hD2 : D2.IsDictOf (PySem.strKind PySem.Challenge.rw_ik0096_01.row.prog w) kvs)
    (hB : B2J kvs xb Lb) (hlo : (d2 == sysModules) = false) (hz : Obj.SetObjOf (PySem.strKind PySem.Challenge.rw_ik0096_01.row.prog w) { cls := .type "set", dict := none, data := .set #[] 0 (.fresh 0 0 led) } (fun _ => false) 0)
    (ha : StrsAre va xa) (hb : StrsAre vb xb) (hsa : xa.length ≤ 4) (hsb : xb.length ≤ 4) (h1 : 0 ≤ alo) (h2 : alo ≤ ahi) (h3 : ahi ≤ xa.length) (h4 : 0 ≤ blo) (h5 : blo ≤ bhi) (h6 : bhi ≤ xb.length)
    (Tp : Top Qv (looseW Qv looseL) mean mg mb h₀) (hk : cs.kind = .function)
    (hd : dp + 4 < recursionLimit) (hu : un + 30 < cLine)
    (hret : ∀ x dx bi bj bs ti tj ts h' tk', FlR xa xb alo ahi blo bhi bi bj bs → Fr h₀ L h' m → News h₀ L h' ((x, { cls := .ref 135, dict := some dx, data := .seq #[.int bi ti, .int bj tj, .int bs ts] }) :: (dx, emptyDict) :: (M, instObj 242 dM) :: (dM, dictOf (smE H T (.ref la) (.ref lb) vmb vop vfb (.ref d2) (.ref jk) vpop) n) :: (la, listOf va.toArray na) :: (lb, listOf vb.toArray nb) :: (jk, { cls := .type "set", dict := none, data := .set #[] 0 (.fresh 0 0 led) }) :: (d2, D2) :: Lb) →
      M < dx ∧ dM < dx ∧ la < dx ∧ lb < dx ∧ jk < dx ∧ d2 < dx ∧ (∀ p ∈ Lb, p.1 < dx) → dx < x → Q (.ref x) { s with heap := h', toks := tk' }) :
    wpAny (model PySem.Challenge.rw_ik0096_01.row.prog w) (ktrTop dp un gd cn cs L a ccd cl outer) (call (.ref 196) [.ref M, .int alo t1, .int ahi t2, .int blo t3, .int bhi t4]) Q E s := by
  revert X; k_fill; intro X
  refine wpAny_call ?_
  k_dflt (refine' code_def (binds := [(Str.ofString "self", Value.ref M), (Str.ofString "alo", Value.int alo t1), (Str.ofString "ahi", Value.int ahi t2), (Str.ofString "blo", Value.int blo t3), (Str.ofString "bhi", Value.int bhi t4)]) ?k1 ?k2 ?k3 ?k4 ?k5 ?kA ?kF ?kK ?k6 ?k7 ?k8 ?k9 ?kB ?_ ?c2 ?c3 ?c4 ?c5; (case kA => exact rfl); (case kF => exact rfl); (case kK => assumption); (case k1 => k_asm); (case k2 => k_asm); (case k3 => k_asm); (case k4 => k_asm); (case k5 => k_asm); (case k6 => k_is); (case k7 => k_is); (case k8 => ktr_room); (case k9 => first | exact BindsTo.of_eq rfl | exact binds_K (by k_in) rfl (by k_is) rfl rfl rfl); (case c5 => decide); (case kB => exact locs rfl); (case c2 => exact rfl); (case c3 => exact rfl); (case c4 => exact rfl); k_whole; intro g' L' h' FG' F' N' B' X' T'; (try dsimp only); (try k_fold))


  k_steps
  rename_i k0 xq k2 l4 Dt1 k5 l3 k7 k8 k9 k10 k11 tk12 Dt0 k14 l2 k16 k17 k18 k19 tkB dj k22 oj lo hs fs hi fi l1 k30 ln k32 l0 hp1 F9 N9 h9 tk9 t1r t2r t3r hR F10 N10 hkeep
  refine hide13 (x1 := Str.ofString "a") (x2 := Str.ofString "b") (x3 := Str.ofString "b2j") (x4 := Str.ofString "isbjunk") (x5 := Str.ofString "alo") (x6 := Str.ofString "ahi") (x7 := Str.ofString "blo") (x8 := Str.ofString "bhi") (x9 := Str.ofString "nothing") (x10 := Str.ofString "j2len") (x11 := Str.ofString "besti") (x12 := Str.ofString "bestj") (x13 := Str.ofString "bestsize") F10 (by first | rfl | assumption) (by first | rfl | assumption) (by first | rfl | assumption) (by first | rfl | assumption) (by first | rfl | assumption) (by first | rfl | assumption) (by first | rfl | assumption) (by first | rfl | assumption) (by first | rfl | assumption) (by first | rfl | assumption) (by first | rfl | assumption) (by first | rfl | assumption) (by first | rfl | assumption) fun mO F11 fa1 fa2 fa3 fa4 fa5 fa6 fa7 fa8 fa9 fa10 fa11 fa12 fa13 => ?_
  refine lv_range (σ := FlS) (fun c => (c.dj, c.oj) :: (ln, W.listOf #[] 0) :: (xq, bound "set.__contains__" jk) :: (M, instObj 242 dM) :: (dM, dictOf (smE H T (.ref la) (.ref lb) vmb vop vfb (.ref d2) (.ref jk) vpop) n) :: (la, W.listOf va.toArray na) :: (lb, W.listOf vb.toArray nb) :: (jk, { cls := .type "set", dict := none, data := .set #[] 0 (.fresh 0 0 led) }) :: (d2, D2) :: Lb)
    (fun c => [(Str.ofString "j2len", .ref c.dj), (Str.ofString "besti", .int c.bi c.ti), (Str.ofString "bestj", .int c.bj c.tj), (Str.ofString "bestsize", .int c.bs c.ts)])
    [Str.ofString "j2lenget", Str.ofString "newj2len", Str.ofString "j", Str.ofString "k"]
    (fun r c => (c.dj == sysModules) = false ∧ c.oj.IsDictOf (PySem.intKind PySem.Challenge.rw_ik0096_01.row.prog w) c.kv ∧ FlatPairs PyData.int c.kv (kdfD c.c) ∧ c.c.length ≤ 4 ∧ OInv xa xb alo blo bhi (r : Nat) (FullP xa xb alo ahi blo bhi) c.c c.bi c.bj c.bs)
    ⟨dj, oj, [], [], alo, blo, 0, t1, t3, tk12⟩ (n := (ahi - alo).toNat) rfl hR ?smO ?rsO F11 ?nnO ?kkO ?ppO ?clO ?tuO ?dnO
  case smO => exact small_up h1 (by omega) (by omega) (by omega)
  case rsO => unfold Builtin.Range.rangeSize; (repeat' split) <;> omega
  case nnO => intro p hp; exact N10 p (sub_at hp (by (try dsimp only); with_reducible (repeat' (first | exact sub_refl | exact sub_nil | exact mem_hd | refine sub_take ?_ | refine sub_put ?_ ?_ | refine mem_tl ?_ | refine sub_skip ?_))))
  case kkO => (repeat' (refine all_cons ?_ ?_)); all_goals (first | exact all_nil | rfl | assumption)
  case ppO => exact ⟨lo, hi, .nil, Nat.zero_le _, oinv_start h5⟩
  case clO =>
    rintro r c ⟨_, pd, _⟩ p hp
    rcases List.mem_cons.mp hp with q | q
    · left; rw [q]; obtain ⟨es, ep, hx, _⟩ := pd; rw [hx.1]; simp
    · right; exact List.mem_cons.mpr (.inr q)
  case tuO =>
    intro I r c ti' u h tk ito hcl hr hPc hoff F N
    clear F9 N9 F10 N10 F11 hR hkeep
    refine gen_post fun PoO hPoO => ?_
    obtain ⟨dj1, oj1, kv1, c1, bi1, bj1, bs1, ti1, tj1, ts1⟩ := c
    obtain ⟨plo, pd, pf, pl, PO⟩ := hPc
    have N1 : News g' L' h ((I, ito) :: (dj1, oj1) :: (ln, W.listOf #[] 0) :: (xq, bound "set.__contains__" jk) :: (M, instObj 242 dM) :: (dM, dictOf (smE H T (.ref la) (.ref lb) vmb vop vfb (.ref d2) (.ref jk) vpop) n) :: (la, W.listOf va.toArray na) :: (lb, W.listOf vb.toArray nb) :: (jk, { cls := .type "set", dict := none, data := .set #[] 0 (.fresh 0 0 led) }) :: (d2, D2) :: Lb) := fun p hp => N p (sub_rot p hp)
    clear N
    dsimp only [kstB] at F N1 plo pd pf pl PO hoff ⊢
    have hr0 : (r : Int) < ahi - alo := by omega
    have hi0 : 0 ≤ alo + (r : Int) := by omega
    have hi1 : alo + (r : Int) < (xa.length : Int) := by omega
    k_steps
    rename_i q1 hA FA NA lA hBB dn hCC on lon hsn fsn hin fin l2x h8 F8 N8 x8 tx8 hx8 l8 vs8 n8 hl8 hv8
    clear FA NA fsn hsn
    have hfull := idx_full (xb := xb) (ahi := ahi) (bhi := bhi) (blo := blo) h4 (Int.natCast_nonneg r) (by omega) hx8
    have hlen8 : vs8.length ≤ 4 := by have e1 := hv8.length; have e2 := idx_len (x := x8) xb 0; omega
    refine lv_list (σ := FlS) (l := l8) (vs := vs8) (nn := n8) (fun c => (dn, c.oj) :: (q1, bound "dict.get" dj1) :: (I, ito) :: (dj1, oj1) :: (ln, W.listOf #[] 0) :: (xq, bound "set.__contains__" jk) :: (M, instObj 242 dM) :: (dM, dictOf (smE H T (.ref la) (.ref lb) vmb vop vfb (.ref d2) (.ref jk) vpop) n) :: (la, W.listOf va.toArray na) :: (lb, W.listOf vb.toArray nb) :: (jk, { cls := .type "set", dict := none, data := .set #[] 0 (.fresh 0 0 led) }) :: (d2, D2) :: Lb)
      (fun c => [(Str.ofString "besti", .int c.bi c.ti), (Str.ofString "bestj", .int c.bj c.tj), (Str.ofString "bestsize", .int c.bs c.ts)])
      [Str.ofString "k"]
      (fun p c => c.oj.IsDictOf (PySem.intKind PySem.Challenge.rw_ik0096_01.row.prog w) c.kv ∧ FlatPairs PyData.int c.kv (kdfD c.c) ∧ IInv xa xb alo blo bhi (r : Nat) (FullP xa xb alo ahi blo bhi) (idxFrom x8 0 xb) p c.c c.bi c.bj c.bs)
      ⟨dn, on, [], [], bi1, bj1, bs1, ti1, tj1, ts1⟩ rfl ?hl F8 ?nn ?kk ?pp ?cl ?tu ?dn
    case hl =>
      intro p c _
      exact sub_at hl8 (by (try dsimp only); with_reducible (repeat' (first | exact sub_refl | exact sub_nil | exact mem_hd | refine sub_take ?_ | refine sub_put ?_ ?_ | refine mem_tl ?_ | refine sub_skip ?_)))
    case nn => intro p hp; exact N8 p hp
    case kk => (repeat' (refine all_cons ?_ ?_)); all_goals (first | exact all_nil | rfl | assumption)
    case pp => exact ⟨hin, .nil, iinv_start PO⟩
    case cl =>
      rintro p c ⟨pd', _⟩ z hz
      rcases List.mem_cons.mp hz with q | q
      · left; rw [q]; obtain ⟨es, ep, hx, _⟩ := pd'; rw [hx.1]; simp
      · right; exact List.mem_cons.mpr (.inr q)
    case tu =>
      intro J p c v u' h' tk' jto hcl' hp hvp hPc hoff' F' N'
      refine gen_post fun PoI hPoI => ?_
      obtain ⟨j, tj, rfl, hjk⟩ := ints_at hv8 hvp
      obtain ⟨_, o2, kv2, c2, bi2, bj2, bs2, ti2, tj2, ts2⟩ := c
      obtain ⟨pd', pf', PI⟩ := hPc
      have N2 : News g' L' h' ((J, jto) :: (dn, o2) :: (q1, bound "dict.get" dj1) :: (I, ito) :: (dj1, oj1) :: (ln, W.listOf #[] 0) :: (xq, bound "set.__contains__" jk) :: (M, instObj 242 dM) :: (dM, dictOf (smE H T (.ref la) (.ref lb) vmb vop vfb (.ref d2) (.ref jk) vpop) n) :: (la, W.listOf va.toArray na) :: (lb, W.listOf vb.toArray nb) :: (jk, { cls := .type "set", dict := none, data := .set #[] 0 (.fresh 0 0 led) }) :: (d2, D2) :: Lb) := fun p hp => N' p (sub_rot p hp)
      clear N' N8 F8
      dsimp only [kstB] at F' pd' pf' PI ⊢
      have hJn : @Ne Nat dn J := hoff' (dn, o2) (List.mem_cons.mpr (.inl rfl))
      have hlen2 : c2.length ≤ 4 := by have := PI.len; omega
      k_steps
      · refine of_post hPoI ?_
        refine lv_end (.inr rfl) ⟨dn, o2, kv2, c2, bi2, bj2, bs2, ti2, tj2, ts2⟩ F' (by k_asm) ?hn ?hi ?hk ?hr ?hp
        case hk => (repeat' (refine all_cons ?_ ?_)); all_goals (first | exact all_nil | rfl | assumption)
        case hn => (try dsimp only); with_reducible (repeat' (first | exact sub_refl | exact sub_nil | refine sub_take ?_ | refine sub_skip ?_))
        case hi => k_mem
        case hr =>
          intro z g1 g2 g3; (repeat (first | with_reducible rfl | refine ite_go (by first | assumption | with_reducible exact ne_head g2 | with_reducible exact ne_head (ne_tail g2) | with_reducible exact ne_head (ne_tail (ne_tail g2)) | with_reducible exact ne_head (ne_tail (ne_tail (ne_tail g2))) | with_reducible exact ne_chead g3 | with_reducible exact ne_chead (ne_ctail g3) | with_reducible exact ne_chead (ne_ctail (ne_ctail g3)) | with_reducible exact ne_chead (ne_ctail (ne_ctail (ne_ctail g3)))) ?_ | refine cont_step (by first | with_reducible exact g3 | ((repeat (refine cont_cons (by first | assumption | with_reducible exact ne_head g2 | with_reducible exact ne_head (ne_tail g2) | with_reducible exact ne_head (ne_tail (ne_tail g2)) | with_reducible exact ne_head (ne_tail (ne_tail (ne_tail g2))) | with_reducible exact ne_chead g3 | with_reducible exact ne_chead (ne_ctail g3) | with_reducible exact ne_chead (ne_ctail (ne_ctail g3)) | with_reducible exact ne_chead (ne_ctail (ne_ctail (ne_ctail g3)))) ?_)); exact cont_nil)) ?_ | refine ite_goR (by first | assumption | with_reducible exact ne_head g2 | with_reducible exact ne_head (ne_tail g2) | with_reducible exact ne_head (ne_tail (ne_tail g2)) | with_reducible exact ne_head (ne_tail (ne_tail (ne_tail g2))) | with_reducible exact ne_chead g3 | with_reducible exact ne_chead (ne_ctail g3) | with_reducible exact ne_chead (ne_ctail (ne_ctail g3)) | with_reducible exact ne_chead (ne_ctail (ne_ctail (ne_ctail g3)))) ?_ | refine cont_stepR (by first | with_reducible exact g3 | ((repeat (refine cont_cons (by first | assumption | with_reducible exact ne_head g2 | with_reducible exact ne_head (ne_tail g2) | with_reducible exact ne_head (ne_tail (ne_tail g2)) | with_reducible exact ne_head (ne_tail (ne_tail (ne_tail g2))) | with_reducible exact ne_chead g3 | with_reducible exact ne_chead (ne_ctail g3) | with_reducible exact ne_chead (ne_ctail (ne_ctail g3)) | with_reducible exact ne_chead (ne_ctail (ne_ctail (ne_ctail g3)))) ?_)); exact cont_nil)) ?_))
        case hp => exact ⟨pd', pf', iinv_skip PI (Int.natCast_nonneg r) hjk (by omega)⟩
      · refine of_post hPoI ?_
        dsimp only [LvPost]
        k_steps
        refine of_post hPoO ?_
        refine lv_end (.inl rfl) ⟨dn, o2, kv2, c2, bi2, bj2, bs2, ti2, tj2, ts2⟩ (by k_asm) (by k_asm) ?hn ?hi ?hk ?hr ?hp
        case hk => (repeat' (refine all_cons ?_ ?_)); all_goals (first | exact all_nil | rfl | assumption)
        case hn => (try dsimp only); with_reducible (repeat' (first | exact sub_refl | exact sub_nil | refine sub_take ?_ | refine sub_skip ?_))
        case hi => k_mem
        case hr =>
          intro z g1 g2 g3; (repeat (first | with_reducible rfl | refine ite_go (by first | assumption | with_reducible exact ne_head g2 | with_reducible exact ne_head (ne_tail g2) | with_reducible exact ne_head (ne_tail (ne_tail g2)) | with_reducible exact ne_head (ne_tail (ne_tail (ne_tail g2))) | with_reducible exact ne_chead g3 | with_reducible exact ne_chead (ne_ctail g3) | with_reducible exact ne_chead (ne_ctail (ne_ctail g3)) | with_reducible exact ne_chead (ne_ctail (ne_ctail (ne_ctail g3)))) ?_ | refine cont_step (by first | with_reducible exact g3 | ((repeat (refine cont_cons (by first | assumption | with_reducible exact ne_head g2 | with_reducible exact ne_head (ne_tail g2) | with_reducible exact ne_head (ne_tail (ne_tail g2)) | with_reducible exact ne_head (ne_tail (ne_tail (ne_tail g2))) | with_reducible exact ne_chead g3 | with_reducible exact ne_chead (ne_ctail g3) | with_reducible exact ne_chead (ne_ctail (ne_ctail g3)) | with_reducible exact ne_chead (ne_ctail (ne_ctail (ne_ctail g3)))) ?_)); exact cont_nil)) ?_ | refine ite_goR (by first | assumption | with_reducible exact ne_head g2 | with_reducible exact ne_head (ne_tail g2) | with_reducible exact ne_head (ne_tail (ne_tail g2)) | with_reducible exact ne_head (ne_tail (ne_tail (ne_tail g2))) | with_reducible exact ne_chead g3 | with_reducible exact ne_chead (ne_ctail g3) | with_reducible exact ne_chead (ne_ctail (ne_ctail g3)) | with_reducible exact ne_chead (ne_ctail (ne_ctail (ne_ctail g3)))) ?_ | refine cont_stepR (by first | with_reducible exact g3 | ((repeat (refine cont_cons (by first | assumption | with_reducible exact ne_head g2 | with_reducible exact ne_head (ne_tail g2) | with_reducible exact ne_head (ne_tail (ne_tail g2)) | with_reducible exact ne_head (ne_tail (ne_tail (ne_tail g2))) | with_reducible exact ne_chead g3 | with_reducible exact ne_chead (ne_ctail g3) | with_reducible exact ne_chead (ne_ctail (ne_ctail g3)) | with_reducible exact ne_chead (ne_ctail (ne_ctail (ne_ctail g3)))) ?_)); exact cont_nil)) ?_))
        case hp => exact ⟨lon, pd', pf', hlen2, iinv_brk PI hjk (by omega) (idx_sorted xb 0) hfull⟩
      · refine of_post hPoI ?_
        have hTurn := iinv_turn PO PI (Int.natCast_nonneg r) hjk (by rw [hx8]; exact (idx_atS.mp (List.mem_of_getElem? hjk)).2.symm) (by omega) (by omega) (idx_sorted xb 0) (fun q => (hfull q).1)
        rename (FlatPairs PyData.int _ (kdfD (kdfPut _ _ _))) => hf'
        have hd' := ‹Obj.IsDictOf (PySem.intKind _ _) _ _›
        refine' lv_end (.inl rfl) ⟨dn, _, _, kdfPut c2 j (kdfLook c1 (j - 1) 0 + 1), alo + ↑r - (kdfLook c1 (j - 1) 0 + 1) + 1, j - (kdfLook c1 (j - 1) 0 + 1) + 1, kdfLook c1 (j - 1) 0 + 1, _, _, _⟩ (by k_asm) (by k_asm) ?hn ?hi ?hk ?hr ⟨hd', hf', hTurn.1 (by omega)⟩
        case hk => (repeat' (refine all_cons ?_ ?_)); all_goals (first | exact all_nil | rfl | assumption)
        case hn => (try dsimp only); with_reducible (repeat' (first | exact sub_refl | exact sub_nil | refine sub_take ?_ | refine sub_skip ?_))
        case hi => k_mem
        case hr =>
          intro z g1 g2 g3; (repeat (first | with_reducible rfl | refine ite_go (by first | assumption | with_reducible exact ne_head g2 | with_reducible exact ne_head (ne_tail g2) | with_reducible exact ne_head (ne_tail (ne_tail g2)) | with_reducible exact ne_head (ne_tail (ne_tail (ne_tail g2))) | with_reducible exact ne_chead g3 | with_reducible exact ne_chead (ne_ctail g3) | with_reducible exact ne_chead (ne_ctail (ne_ctail g3)) | with_reducible exact ne_chead (ne_ctail (ne_ctail (ne_ctail g3)))) ?_ | refine cont_step (by first | with_reducible exact g3 | ((repeat (refine cont_cons (by first | assumption | with_reducible exact ne_head g2 | with_reducible exact ne_head (ne_tail g2) | with_reducible exact ne_head (ne_tail (ne_tail g2)) | with_reducible exact ne_head (ne_tail (ne_tail (ne_tail g2))) | with_reducible exact ne_chead g3 | with_reducible exact ne_chead (ne_ctail g3) | with_reducible exact ne_chead (ne_ctail (ne_ctail g3)) | with_reducible exact ne_chead (ne_ctail (ne_ctail (ne_ctail g3)))) ?_)); exact cont_nil)) ?_ | refine ite_goR (by first | assumption | with_reducible exact ne_head g2 | with_reducible exact ne_head (ne_tail g2) | with_reducible exact ne_head (ne_tail (ne_tail g2)) | with_reducible exact ne_head (ne_tail (ne_tail (ne_tail g2))) | with_reducible exact ne_chead g3 | with_reducible exact ne_chead (ne_ctail g3) | with_reducible exact ne_chead (ne_ctail (ne_ctail g3)) | with_reducible exact ne_chead (ne_ctail (ne_ctail (ne_ctail g3)))) ?_ | refine cont_stepR (by first | with_reducible exact g3 | ((repeat (refine cont_cons (by first | assumption | with_reducible exact ne_head g2 | with_reducible exact ne_head (ne_tail g2) | with_reducible exact ne_head (ne_tail (ne_tail g2)) | with_reducible exact ne_head (ne_tail (ne_tail (ne_tail g2))) | with_reducible exact ne_chead g3 | with_reducible exact ne_chead (ne_ctail g3) | with_reducible exact ne_chead (ne_ctail (ne_ctail g3)) | with_reducible exact ne_chead (ne_ctail (ne_ctail (ne_ctail g3)))) ?_)); exact cont_nil)) ?_))
      · refine of_post hPoI ?_
        have hTurn := iinv_turn PO PI (Int.natCast_nonneg r) hjk (by rw [hx8]; exact (idx_atS.mp (List.mem_of_getElem? hjk)).2.symm) (by omega) (by omega) (idx_sorted xb 0) (fun q => (hfull q).1)
        rename (FlatPairs PyData.int _ (kdfD (kdfPut _ _ _))) => hf'
        have hd' := ‹Obj.IsDictOf (PySem.intKind _ _) _ _›
        refine lv_end (.inl rfl) ⟨dn, _, _, kdfPut c2 j (kdfLook c1 (j - 1) 0 + 1), bi2, bj2, bs2, ti2, tj2, ts2⟩ (by k_asm) (by k_asm) ?hn ?hi ?hk ?hr ⟨hd', hf', hTurn.2 (by omega)⟩
        case hk => (repeat' (refine all_cons ?_ ?_)); all_goals (first | exact all_nil | rfl | assumption)
        case hn => (try dsimp only); with_reducible (repeat' (first | exact sub_refl | exact sub_nil | refine sub_take ?_ | refine sub_skip ?_))
        case hi => k_mem
        case hr =>
          intro z g1 g2 g3; (repeat (first | with_reducible rfl | refine ite_go (by first | assumption | with_reducible exact ne_head g2 | with_reducible exact ne_head (ne_tail g2) | with_reducible exact ne_head (ne_tail (ne_tail g2)) | with_reducible exact ne_head (ne_tail (ne_tail (ne_tail g2))) | with_reducible exact ne_chead g3 | with_reducible exact ne_chead (ne_ctail g3) | with_reducible exact ne_chead (ne_ctail (ne_ctail g3)) | with_reducible exact ne_chead (ne_ctail (ne_ctail (ne_ctail g3)))) ?_ | refine cont_step (by first | with_reducible exact g3 | ((repeat (refine cont_cons (by first | assumption | with_reducible exact ne_head g2 | with_reducible exact ne_head (ne_tail g2) | with_reducible exact ne_head (ne_tail (ne_tail g2)) | with_reducible exact ne_head (ne_tail (ne_tail (ne_tail g2))) | with_reducible exact ne_chead g3 | with_reducible exact ne_chead (ne_ctail g3) | with_reducible exact ne_chead (ne_ctail (ne_ctail g3)) | with_reducible exact ne_chead (ne_ctail (ne_ctail (ne_ctail g3)))) ?_)); exact cont_nil)) ?_ | refine ite_goR (by first | assumption | with_reducible exact ne_head g2 | with_reducible exact ne_head (ne_tail g2) | with_reducible exact ne_head (ne_tail (ne_tail g2)) | with_reducible exact ne_head (ne_tail (ne_tail (ne_tail g2))) | with_reducible exact ne_chead g3 | with_reducible exact ne_chead (ne_ctail g3) | with_reducible exact ne_chead (ne_ctail (ne_ctail g3)) | with_reducible exact ne_chead (ne_ctail (ne_ctail (ne_ctail g3)))) ?_ | refine cont_stepR (by first | with_reducible exact g3 | ((repeat (refine cont_cons (by first | assumption | with_reducible exact ne_head g2 | with_reducible exact ne_head (ne_tail g2) | with_reducible exact ne_head (ne_tail (ne_tail g2)) | with_reducible exact ne_head (ne_tail (ne_tail (ne_tail g2))) | with_reducible exact ne_chead g3 | with_reducible exact ne_chead (ne_ctail g3) | with_reducible exact ne_chead (ne_ctail (ne_ctail g3)) | with_reducible exact ne_chead (ne_ctail (ne_ctail (ne_ctail g3)))) ?_)); exact cont_nil)) ?_))
    case dn =>
      rintro c u' h' tk' ⟨pd', pf', PI⟩ F' N'
      obtain ⟨_, o2, kv2, c2, bi2, bj2, bs2, ti2, tj2, ts2⟩ := c
      clear N8 F8
      dsimp only [kstB] at F' N' pd' pf' PI ⊢
      k_steps
      refine of_post hPoO ?_
      refine lv_end (.inl rfl) ⟨dn, o2, kv2, c2, bi2, bj2, bs2, ti2, tj2, ts2⟩ (by k_asm) (by k_asm) ?hn ?hi ?hk ?hr ?hp
      case hk => (repeat' (refine all_cons ?_ ?_)); all_goals (first | exact all_nil | rfl | assumption)
      case hn => (try dsimp only); with_reducible (repeat' (first | exact sub_refl | exact sub_nil | refine sub_take ?_ | refine sub_skip ?_))
      case hi => k_mem
      case hr =>
        intro z g1 g2 g3; (repeat (first | with_reducible rfl | refine ite_go (by first | assumption | with_reducible exact ne_head g2 | with_reducible exact ne_head (ne_tail g2) | with_reducible exact ne_head (ne_tail (ne_tail g2)) | with_reducible exact ne_head (ne_tail (ne_tail (ne_tail g2))) | with_reducible exact ne_chead g3 | with_reducible exact ne_chead (ne_ctail g3) | with_reducible exact ne_chead (ne_ctail (ne_ctail g3)) | with_reducible exact ne_chead (ne_ctail (ne_ctail (ne_ctail g3)))) ?_ | refine cont_step (by first | with_reducible exact g3 | ((repeat (refine cont_cons (by first | assumption | with_reducible exact ne_head g2 | with_reducible exact ne_head (ne_tail g2) | with_reducible exact ne_head (ne_tail (ne_tail g2)) | with_reducible exact ne_head (ne_tail (ne_tail (ne_tail g2))) | with_reducible exact ne_chead g3 | with_reducible exact ne_chead (ne_ctail g3) | with_reducible exact ne_chead (ne_ctail (ne_ctail g3)) | with_reducible exact ne_chead (ne_ctail (ne_ctail (ne_ctail g3)))) ?_)); exact cont_nil)) ?_ | refine ite_goR (by first | assumption | with_reducible exact ne_head g2 | with_reducible exact ne_head (ne_tail g2) | with_reducible exact ne_head (ne_tail (ne_tail g2)) | with_reducible exact ne_head (ne_tail (ne_tail (ne_tail g2))) | with_reducible exact ne_chead g3 | with_reducible exact ne_chead (ne_ctail g3) | with_reducible exact ne_chead (ne_ctail (ne_ctail g3)) | with_reducible exact ne_chead (ne_ctail (ne_ctail (ne_ctail g3)))) ?_ | refine cont_stepR (by first | with_reducible exact g3 | ((repeat (refine cont_cons (by first | assumption | with_reducible exact ne_head g2 | with_reducible exact ne_head (ne_tail g2) | with_reducible exact ne_head (ne_tail (ne_tail g2)) | with_reducible exact ne_head (ne_tail (ne_tail (ne_tail g2))) | with_reducible exact ne_chead g3 | with_reducible exact ne_chead (ne_ctail g3) | with_reducible exact ne_chead (ne_ctail (ne_ctail g3)) | with_reducible exact ne_chead (ne_ctail (ne_ctail (ne_ctail g3)))) ?_)); exact cont_nil)) ?_))
      case hp => exact ⟨lon, pd', pf', by have e1 := PI.len; have e2 := hlen8; show c2.length ≤ 4; omega, iinv_done PI (fun q => (hfull q).1) (Nat.le_of_eq hv8.length.symm)⟩
  case dnO =>
    rintro ⟨dj1, oj1, kv1, c1, bi0, bj0, bs0, ti0, tj0, ts0⟩ u h tk ⟨plo, pd, pf, pl, PO⟩ F N
    clear F9 N9 F10 N10 hR hkeep
    have R0 := flr_of_oinv PO h2 rfl
    refine Exists.elim (show ∃ R, R = (M, instObj 242 dM) :: (dM, dictOf (smE H T (.ref la) (.ref lb) vmb vop vfb (.ref d2) (.ref jk) vpop) n) :: (d2, D2) :: Lb from ⟨_, rfl⟩) fun R hRR => ?_
    have N0 : News g' L' h ((xq, bound "set.__contains__" jk) :: (la, W.listOf va.toArray na) :: (lb, W.listOf vb.toArray nb) :: (jk, { cls := .type "set", dict := none, data := .set #[] 0 (.fresh 0 0 led) }) :: R) := by
      subst hRR
      exact fun p hp => N p (List.mem_cons_of_mem _ (List.mem_cons_of_mem _ ((by with_reducible (repeat' (first | exact sub_refl | exact sub_nil | exact mem_hd | refine sub_take ?_ | refine sub_put ?_ ?_ | refine mem_tl ?_ | refine sub_skip ?_)) : ∀ p ∈ (xq, bound "set.__contains__" jk) :: (la, W.listOf va.toArray na) :: (lb, W.listOf vb.toArray nb) :: (jk, { cls := .type "set", dict := none, data := .set #[] 0 (.fresh 0 0 led) }) :: (M, instObj 242 dM) :: (dM, dictOf (smE H T (.ref la) (.ref lb) vmb vop vfb (.ref d2) (.ref jk) vpop) n) :: (d2, D2) :: Lb, p ∈ (xq, bound "set.__contains__" jk) :: (M, instObj 242 dM) :: (dM, dictOf (smE H T (.ref la) (.ref lb) vmb vop vfb (.ref d2) (.ref jk) vpop) n) :: (la, W.listOf va.toArray na) :: (lb, W.listOf vb.toArray nb) :: (jk, { cls := .type "set", dict := none, data := .set #[] 0 (.fresh 0 0 led) }) :: (d2, D2) :: Lb) p hp)))
    clear N pd pf pl PO plo
    dsimp only [kstB] at F R0 ⊢
    k_steps
    refine hide10 (x1 := Str.ofString "a") (x2 := Str.ofString "b") (x3 := Str.ofString "isbjunk") (x4 := Str.ofString "alo") (x5 := Str.ofString "ahi") (x6 := Str.ofString "blo") (x7 := Str.ofString "bhi") (x8 := Str.ofString "besti") (x9 := Str.ofString "bestj") (x10 := Str.ofString "bestsize") F (by first | rfl | assumption) (by first | rfl | assumption) (by first | rfl | assumption) (by first | rfl | assumption) (by first | rfl | assumption) (by first | rfl | assumption) (by first | rfl | assumption) (by first | rfl | assumption) (by first | rfl | assumption) (by first | rfl | assumption) fun mW1 G1 w1_1 w1_2 w1_3 w1_4 w1_5 w1_6 w1_7 w1_8 w1_9 w1_10 => ?_
    refine lv_while (σ := FlW) (fun _ => (xq, bound "set.__contains__" jk) :: (la, W.listOf va.toArray na) :: (lb, W.listOf vb.toArray nb) :: (jk, { cls := .type "set", dict := none, data := .set #[] 0 (.fresh 0 0 led) }) :: R)
      (fun c => [(Str.ofString "besti", .int c.bi c.ti), (Str.ofString "bestj", .int c.bj c.tj), (Str.ofString "bestsize", .int c.bs c.ts)]) [] (fun c => FlR xa xb alo ahi blo bhi c.bi c.bj c.bs) (fun c => c.bi.toNat) ⟨bi0, bj0, bs0, ti0, tj0, ts0⟩ rfl G1 N0 ?kk1 R0 ?tu1 ?dn1
    case kk1 => (repeat' (refine all_cons ?_ ?_)); all_goals (first | exact all_nil | rfl | assumption)
    case tu1 =>
      intro c1 u1 h1 tk1 R1 F1 N1
      clear G1
      refine gen_post fun PT hPT => ?_
      dsimp only [kstB] at F1 R1 ⊢
      have ba1 := R1.best.a
      have bb1 := R1.best.b
      have bc1 := R1.best.c
      have bd1 := R1.best.d
      have be1 := R1.best.e
      k_steps
      · refine of_post hPT ?_; refine ite_pos rfl ?_; refine gen_post fun PW hPW => ?_
        k_steps
        refine of_post hPW ?_
        rename ((_ == _) = true) => he
        refine' wl_out ⟨c1.bi - 1, c1.bj - 1, c1.bs + 1, _, _, _⟩ (by k_asm) (by k_asm) ?hn ?hk ?hr ⟨flr_left R1 (by omega) (by omega) (by rw [getD_atS (xs := xb) (i := c1.bj - 1) (by omega) (by omega), getD_atS (xs := xa) (i := c1.bi - 1) (by omega) (by omega), eq_of_beq he]), by dsimp only; omega⟩
        case hk => (repeat' (refine all_cons ?_ ?_)); all_goals (first | exact all_nil | rfl | assumption)
        case hn => (try dsimp only); with_reducible (repeat' (first | exact sub_refl | exact sub_nil | refine sub_take ?_ | refine sub_skip ?_))
        case hr =>
          intro z g2 g3; (repeat (first | with_reducible rfl | refine ite_go (by first | assumption | with_reducible exact ne_head g2 | with_reducible exact ne_head (ne_tail g2) | with_reducible exact ne_head (ne_tail (ne_tail g2)) | with_reducible exact ne_head (ne_tail (ne_tail (ne_tail g2))) | with_reducible exact ne_chead g3 | with_reducible exact ne_chead (ne_ctail g3) | with_reducible exact ne_chead (ne_ctail (ne_ctail g3)) | with_reducible exact ne_chead (ne_ctail (ne_ctail (ne_ctail g3)))) ?_ | refine cont_step (by first | with_reducible exact g3 | ((repeat (refine cont_cons (by first | assumption | with_reducible exact ne_head g2 | with_reducible exact ne_head (ne_tail g2) | with_reducible exact ne_head (ne_tail (ne_tail g2)) | with_reducible exact ne_head (ne_tail (ne_tail (ne_tail g2))) | with_reducible exact ne_chead g3 | with_reducible exact ne_chead (ne_ctail g3) | with_reducible exact ne_chead (ne_ctail (ne_ctail g3)) | with_reducible exact ne_chead (ne_ctail (ne_ctail (ne_ctail g3)))) ?_)); exact cont_nil)) ?_ | refine ite_goR (by first | assumption | with_reducible exact ne_head g2 | with_reducible exact ne_head (ne_tail g2) | with_reducible exact ne_head (ne_tail (ne_tail g2)) | with_reducible exact ne_head (ne_tail (ne_tail (ne_tail g2))) | with_reducible exact ne_chead g3 | with_reducible exact ne_chead (ne_ctail g3) | with_reducible exact ne_chead (ne_ctail (ne_ctail g3)) | with_reducible exact ne_chead (ne_ctail (ne_ctail (ne_ctail g3)))) ?_ | refine cont_stepR (by first | with_reducible exact g3 | ((repeat (refine cont_cons (by first | assumption | with_reducible exact ne_head g2 | with_reducible exact ne_head (ne_tail g2) | with_reducible exact ne_head (ne_tail (ne_tail g2)) | with_reducible exact ne_head (ne_tail (ne_tail (ne_tail g2))) | with_reducible exact ne_chead g3 | with_reducible exact ne_chead (ne_ctail g3) | with_reducible exact ne_chead (ne_ctail (ne_ctail g3)) | with_reducible exact ne_chead (ne_ctail (ne_ctail (ne_ctail g3)))) ?_)); exact cont_nil)) ?_))
      · refine of_post hPT ?_; refine ite_neg Bool.false_ne_true ?_
        refine' wl_out c1 (by k_asm) (by k_asm) ?hn ?hk ?hr R1
        case hk => (repeat' (refine all_cons ?_ ?_)); all_goals (first | exact all_nil | rfl | assumption)
        case hn => (try dsimp only); with_reducible (repeat' (first | exact sub_refl | exact sub_nil | refine sub_take ?_ | refine sub_skip ?_))
        case hr =>
          intro z g2 g3; (repeat (first | with_reducible rfl | refine ite_go (by first | assumption | with_reducible exact ne_head g2 | with_reducible exact ne_head (ne_tail g2) | with_reducible exact ne_head (ne_tail (ne_tail g2)) | with_reducible exact ne_head (ne_tail (ne_tail (ne_tail g2))) | with_reducible exact ne_chead g3 | with_reducible exact ne_chead (ne_ctail g3) | with_reducible exact ne_chead (ne_ctail (ne_ctail g3)) | with_reducible exact ne_chead (ne_ctail (ne_ctail (ne_ctail g3)))) ?_ | refine cont_step (by first | with_reducible exact g3 | ((repeat (refine cont_cons (by first | assumption | with_reducible exact ne_head g2 | with_reducible exact ne_head (ne_tail g2) | with_reducible exact ne_head (ne_tail (ne_tail g2)) | with_reducible exact ne_head (ne_tail (ne_tail (ne_tail g2))) | with_reducible exact ne_chead g3 | with_reducible exact ne_chead (ne_ctail g3) | with_reducible exact ne_chead (ne_ctail (ne_ctail g3)) | with_reducible exact ne_chead (ne_ctail (ne_ctail (ne_ctail g3)))) ?_)); exact cont_nil)) ?_ | refine ite_goR (by first | assumption | with_reducible exact ne_head g2 | with_reducible exact ne_head (ne_tail g2) | with_reducible exact ne_head (ne_tail (ne_tail g2)) | with_reducible exact ne_head (ne_tail (ne_tail (ne_tail g2))) | with_reducible exact ne_chead g3 | with_reducible exact ne_chead (ne_ctail g3) | with_reducible exact ne_chead (ne_ctail (ne_ctail g3)) | with_reducible exact ne_chead (ne_ctail (ne_ctail (ne_ctail g3)))) ?_ | refine cont_stepR (by first | with_reducible exact g3 | ((repeat (refine cont_cons (by first | assumption | with_reducible exact ne_head g2 | with_reducible exact ne_head (ne_tail g2) | with_reducible exact ne_head (ne_tail (ne_tail g2)) | with_reducible exact ne_head (ne_tail (ne_tail (ne_tail g2))) | with_reducible exact ne_chead g3 | with_reducible exact ne_chead (ne_ctail g3) | with_reducible exact ne_chead (ne_ctail (ne_ctail g3)) | with_reducible exact ne_chead (ne_ctail (ne_ctail (ne_ctail g3)))) ?_)); exact cont_nil)) ?_))
      · refine of_post hPT ?_; refine ite_neg Bool.false_ne_true ?_
        refine' wl_out c1 (by k_asm) (by k_asm) ?hn ?hk ?hr R1
        case hk => (repeat' (refine all_cons ?_ ?_)); all_goals (first | exact all_nil | rfl | assumption)
        case hn => (try dsimp only); with_reducible (repeat' (first | exact sub_refl | exact sub_nil | refine sub_take ?_ | refine sub_skip ?_))
        case hr =>
          intro z g2 g3; (repeat (first | with_reducible rfl | refine ite_go (by first | assumption | with_reducible exact ne_head g2 | with_reducible exact ne_head (ne_tail g2) | with_reducible exact ne_head (ne_tail (ne_tail g2)) | with_reducible exact ne_head (ne_tail (ne_tail (ne_tail g2))) | with_reducible exact ne_chead g3 | with_reducible exact ne_chead (ne_ctail g3) | with_reducible exact ne_chead (ne_ctail (ne_ctail g3)) | with_reducible exact ne_chead (ne_ctail (ne_ctail (ne_ctail g3)))) ?_ | refine cont_step (by first | with_reducible exact g3 | ((repeat (refine cont_cons (by first | assumption | with_reducible exact ne_head g2 | with_reducible exact ne_head (ne_tail g2) | with_reducible exact ne_head (ne_tail (ne_tail g2)) | with_reducible exact ne_head (ne_tail (ne_tail (ne_tail g2))) | with_reducible exact ne_chead g3 | with_reducible exact ne_chead (ne_ctail g3) | with_reducible exact ne_chead (ne_ctail (ne_ctail g3)) | with_reducible exact ne_chead (ne_ctail (ne_ctail (ne_ctail g3)))) ?_)); exact cont_nil)) ?_ | refine ite_goR (by first | assumption | with_reducible exact ne_head g2 | with_reducible exact ne_head (ne_tail g2) | with_reducible exact ne_head (ne_tail (ne_tail g2)) | with_reducible exact ne_head (ne_tail (ne_tail (ne_tail g2))) | with_reducible exact ne_chead g3 | with_reducible exact ne_chead (ne_ctail g3) | with_reducible exact ne_chead (ne_ctail (ne_ctail g3)) | with_reducible exact ne_chead (ne_ctail (ne_ctail (ne_ctail g3)))) ?_ | refine cont_stepR (by first | with_reducible exact g3 | ((repeat (refine cont_cons (by first | assumption | with_reducible exact ne_head g2 | with_reducible exact ne_head (ne_tail g2) | with_reducible exact ne_head (ne_tail (ne_tail g2)) | with_reducible exact ne_head (ne_tail (ne_tail (ne_tail g2))) | with_reducible exact ne_chead g3 | with_reducible exact ne_chead (ne_ctail g3) | with_reducible exact ne_chead (ne_ctail (ne_ctail g3)) | with_reducible exact ne_chead (ne_ctail (ne_ctail (ne_ctail g3)))) ?_)); exact cont_nil)) ?_))
      · refine of_post hPT ?_; refine ite_neg Bool.false_ne_true ?_
        refine' wl_out c1 (by k_asm) (by k_asm) ?hn ?hk ?hr R1
        case hk => (repeat' (refine all_cons ?_ ?_)); all_goals (first | exact all_nil | rfl | assumption)
        case hn => (try dsimp only); with_reducible (repeat' (first | exact sub_refl | exact sub_nil | refine sub_take ?_ | refine sub_skip ?_))
        case hr =>
          intro z g2 g3; (repeat (first | with_reducible rfl | refine ite_go (by first | assumption | with_reducible exact ne_head g2 | with_reducible exact ne_head (ne_tail g2) | with_reducible exact ne_head (ne_tail (ne_tail g2)) | with_reducible exact ne_head (ne_tail (ne_tail (ne_tail g2))) | with_reducible exact ne_chead g3 | with_reducible exact ne_chead (ne_ctail g3) | with_reducible exact ne_chead (ne_ctail (ne_ctail g3)) | with_reducible exact ne_chead (ne_ctail (ne_ctail (ne_ctail g3)))) ?_ | refine cont_step (by first | with_reducible exact g3 | ((repeat (refine cont_cons (by first | assumption | with_reducible exact ne_head g2 | with_reducible exact ne_head (ne_tail g2) | with_reducible exact ne_head (ne_tail (ne_tail g2)) | with_reducible exact ne_head (ne_tail (ne_tail (ne_tail g2))) | with_reducible exact ne_chead g3 | with_reducible exact ne_chead (ne_ctail g3) | with_reducible exact ne_chead (ne_ctail (ne_ctail g3)) | with_reducible exact ne_chead (ne_ctail (ne_ctail (ne_ctail g3)))) ?_)); exact cont_nil)) ?_ | refine ite_goR (by first | assumption | with_reducible exact ne_head g2 | with_reducible exact ne_head (ne_tail g2) | with_reducible exact ne_head (ne_tail (ne_tail g2)) | with_reducible exact ne_head (ne_tail (ne_tail (ne_tail g2))) | with_reducible exact ne_chead g3 | with_reducible exact ne_chead (ne_ctail g3) | with_reducible exact ne_chead (ne_ctail (ne_ctail g3)) | with_reducible exact ne_chead (ne_ctail (ne_ctail (ne_ctail g3)))) ?_ | refine cont_stepR (by first | with_reducible exact g3 | ((repeat (refine cont_cons (by first | assumption | with_reducible exact ne_head g2 | with_reducible exact ne_head (ne_tail g2) | with_reducible exact ne_head (ne_tail (ne_tail g2)) | with_reducible exact ne_head (ne_tail (ne_tail (ne_tail g2))) | with_reducible exact ne_chead g3 | with_reducible exact ne_chead (ne_ctail g3) | with_reducible exact ne_chead (ne_ctail (ne_ctail g3)) | with_reducible exact ne_chead (ne_ctail (ne_ctail (ne_ctail g3)))) ?_)); exact cont_nil)) ?_))
    case dn1 =>
      intro c1 u1 h1 tk1 R1 F1 N1
      dsimp only [kstB] at F1 R1 ⊢
      clear F N0 R0
      k_steps
      refine hide10 (x1 := Str.ofString "a") (x2 := Str.ofString "b") (x3 := Str.ofString "isbjunk") (x4 := Str.ofString "alo") (x5 := Str.ofString "ahi") (x6 := Str.ofString "blo") (x7 := Str.ofString "bhi") (x8 := Str.ofString "besti") (x9 := Str.ofString "bestj") (x10 := Str.ofString "bestsize") F1 (by first | rfl | assumption) (by first | rfl | assumption) (by first | rfl | assumption) (by first | rfl | assumption) (by first | rfl | assumption) (by first | rfl | assumption) (by first | rfl | assumption) (by first | rfl | assumption) (by first | rfl | assumption) (by first | rfl | assumption) fun mW2 G2 w2_1 w2_2 w2_3 w2_4 w2_5 w2_6 w2_7 w2_8 w2_9 w2_10 => ?_
      refine lv_while (σ := FlW) (fun _ => (xq, bound "set.__contains__" jk) :: (la, W.listOf va.toArray na) :: (lb, W.listOf vb.toArray nb) :: (jk, { cls := .type "set", dict := none, data := .set #[] 0 (.fresh 0 0 led) }) :: R)
        (fun c => [(Str.ofString "besti", .int c.bi c.ti), (Str.ofString "bestj", .int c.bj c.tj), (Str.ofString "bestsize", .int c.bs c.ts)]) [] (fun c => FlR xa xb alo ahi blo bhi c.bi c.bj c.bs) (fun c => (ahi - c.bi - c.bs).toNat) c1 rfl G2 N1 ?kk2 R1 ?tu2 ?dn2
      case kk2 => (repeat' (refine all_cons ?_ ?_)); all_goals (first | exact all_nil | rfl | assumption)
      case tu2 =>
        intro c2 u2 h2 tk2 R2 F2 N2
        clear G2
        refine gen_post fun PT hPT => ?_
        dsimp only [kstB] at F2 R2 ⊢
        have ba2 := R2.best.a
        have bb2 := R2.best.b
        have bc2 := R2.best.c
        have bd2 := R2.best.d
        have be2 := R2.best.e
        k_steps
        · refine of_post hPT ?_; refine ite_pos rfl ?_; refine gen_post fun PW hPW => ?_
          k_steps
          refine of_post hPW ?_
          rename ((_ == _) = true) => he
          refine' wl_out ⟨c2.bi, c2.bj, c2.bs + 1, _, _, _⟩ (by k_asm) (by k_asm) ?hn ?hk ?hr ⟨flr_right R2 (by omega) (by omega) (by rw [getD_atS (xs := xb) (i := c2.bj + c2.bs) (by clear R2 R1; omega) (by clear R2 R1; omega), getD_atS (xs := xa) (i := c2.bi + c2.bs) (by clear R2 R1; omega) (by clear R2 R1; omega), eq_of_beq he]), by dsimp only; omega⟩
          case hk => (repeat' (refine all_cons ?_ ?_)); all_goals (first | exact all_nil | rfl | assumption)
          case hn => (try dsimp only); with_reducible (repeat' (first | exact sub_refl | exact sub_nil | refine sub_take ?_ | refine sub_skip ?_))
          case hr =>
            intro z g2 g3; (repeat (first | with_reducible rfl | refine ite_go (by first | assumption | with_reducible exact ne_head g2 | with_reducible exact ne_head (ne_tail g2) | with_reducible exact ne_head (ne_tail (ne_tail g2)) | with_reducible exact ne_head (ne_tail (ne_tail (ne_tail g2))) | with_reducible exact ne_chead g3 | with_reducible exact ne_chead (ne_ctail g3) | with_reducible exact ne_chead (ne_ctail (ne_ctail g3)) | with_reducible exact ne_chead (ne_ctail (ne_ctail (ne_ctail g3)))) ?_ | refine cont_step (by first | with_reducible exact g3 | ((repeat (refine cont_cons (by first | assumption | with_reducible exact ne_head g2 | with_reducible exact ne_head (ne_tail g2) | with_reducible exact ne_head (ne_tail (ne_tail g2)) | with_reducible exact ne_head (ne_tail (ne_tail (ne_tail g2))) | with_reducible exact ne_chead g3 | with_reducible exact ne_chead (ne_ctail g3) | with_reducible exact ne_chead (ne_ctail (ne_ctail g3)) | with_reducible exact ne_chead (ne_ctail (ne_ctail (ne_ctail g3)))) ?_)); exact cont_nil)) ?_ | refine ite_goR (by first | assumption | with_reducible exact ne_head g2 | with_reducible exact ne_head (ne_tail g2) | with_reducible exact ne_head (ne_tail (ne_tail g2)) | with_reducible exact ne_head (ne_tail (ne_tail (ne_tail g2))) | with_reducible exact ne_chead g3 | with_reducible exact ne_chead (ne_ctail g3) | with_reducible exact ne_chead (ne_ctail (ne_ctail g3)) | with_reducible exact ne_chead (ne_ctail (ne_ctail (ne_ctail g3)))) ?_ | refine cont_stepR (by first | with_reducible exact g3 | ((repeat (refine cont_cons (by first | assumption | with_reducible exact ne_head g2 | with_reducible exact ne_head (ne_tail g2) | with_reducible exact ne_head (ne_tail (ne_tail g2)) | with_reducible exact ne_head (ne_tail (ne_tail (ne_tail g2))) | with_reducible exact ne_chead g3 | with_reducible exact ne_chead (ne_ctail g3) | with_reducible exact ne_chead (ne_ctail (ne_ctail g3)) | with_reducible exact ne_chead (ne_ctail (ne_ctail (ne_ctail g3)))) ?_)); exact cont_nil)) ?_))
        · refine of_post hPT ?_; refine ite_neg Bool.false_ne_true ?_
          refine' wl_out c2 (by k_asm) (by k_asm) ?hn ?hk ?hr R2
          case hk => (repeat' (refine all_cons ?_ ?_)); all_goals (first | exact all_nil | rfl | assumption)
          case hn => (try dsimp only); with_reducible (repeat' (first | exact sub_refl | exact sub_nil | refine sub_take ?_ | refine sub_skip ?_))
          case hr =>
            intro z g2 g3; (repeat (first | with_reducible rfl | refine ite_go (by first | assumption | with_reducible exact ne_head g2 | with_reducible exact ne_head (ne_tail g2) | with_reducible exact ne_head (ne_tail (ne_tail g2)) | with_reducible exact ne_head (ne_tail (ne_tail (ne_tail g2))) | with_reducible exact ne_chead g3 | with_reducible exact ne_chead (ne_ctail g3) | with_reducible exact ne_chead (ne_ctail (ne_ctail g3)) | with_reducible exact ne_chead (ne_ctail (ne_ctail (ne_ctail g3)))) ?_ | refine cont_step (by first | with_reducible exact g3 | ((repeat (refine cont_cons (by first | assumption | with_reducible exact ne_head g2 | with_reducible exact ne_head (ne_tail g2) | with_reducible exact ne_head (ne_tail (ne_tail g2)) | with_reducible exact ne_head (ne_tail (ne_tail (ne_tail g2))) | with_reducible exact ne_chead g3 | with_reducible exact ne_chead (ne_ctail g3) | with_reducible exact ne_chead (ne_ctail (ne_ctail g3)) | with_reducible exact ne_chead (ne_ctail (ne_ctail (ne_ctail g3)))) ?_)); exact cont_nil)) ?_ | refine ite_goR (by first | assumption | with_reducible exact ne_head g2 | with_reducible exact ne_head (ne_tail g2) | with_reducible exact ne_head (ne_tail (ne_tail g2)) | with_reducible exact ne_head (ne_tail (ne_tail (ne_tail g2))) | with_reducible exact ne_chead g3 | with_reducible exact ne_chead (ne_ctail g3) | with_reducible exact ne_chead (ne_ctail (ne_ctail g3)) | with_reducible exact ne_chead (ne_ctail (ne_ctail (ne_ctail g3)))) ?_ | refine cont_stepR (by first | with_reducible exact g3 | ((repeat (refine cont_cons (by first | assumption | with_reducible exact ne_head g2 | with_reducible exact ne_head (ne_tail g2) | with_reducible exact ne_head (ne_tail (ne_tail g2)) | with_reducible exact ne_head (ne_tail (ne_tail (ne_tail g2))) | with_reducible exact ne_chead g3 | with_reducible exact ne_chead (ne_ctail g3) | with_reducible exact ne_chead (ne_ctail (ne_ctail g3)) | with_reducible exact ne_chead (ne_ctail (ne_ctail (ne_ctail g3)))) ?_)); exact cont_nil)) ?_))
        · refine of_post hPT ?_; refine ite_neg Bool.false_ne_true ?_
          refine' wl_out c2 (by k_asm) (by k_asm) ?hn ?hk ?hr R2
          case hk => (repeat' (refine all_cons ?_ ?_)); all_goals (first | exact all_nil | rfl | assumption)
          case hn => (try dsimp only); with_reducible (repeat' (first | exact sub_refl | exact sub_nil | refine sub_take ?_ | refine sub_skip ?_))
          case hr =>
            intro z g2 g3; (repeat (first | with_reducible rfl | refine ite_go (by first | assumption | with_reducible exact ne_head g2 | with_reducible exact ne_head (ne_tail g2) | with_reducible exact ne_head (ne_tail (ne_tail g2)) | with_reducible exact ne_head (ne_tail (ne_tail (ne_tail g2))) | with_reducible exact ne_chead g3 | with_reducible exact ne_chead (ne_ctail g3) | with_reducible exact ne_chead (ne_ctail (ne_ctail g3)) | with_reducible exact ne_chead (ne_ctail (ne_ctail (ne_ctail g3)))) ?_ | refine cont_step (by first | with_reducible exact g3 | ((repeat (refine cont_cons (by first | assumption | with_reducible exact ne_head g2 | with_reducible exact ne_head (ne_tail g2) | with_reducible exact ne_head (ne_tail (ne_tail g2)) | with_reducible exact ne_head (ne_tail (ne_tail (ne_tail g2))) | with_reducible exact ne_chead g3 | with_reducible exact ne_chead (ne_ctail g3) | with_reducible exact ne_chead (ne_ctail (ne_ctail g3)) | with_reducible exact ne_chead (ne_ctail (ne_ctail (ne_ctail g3)))) ?_)); exact cont_nil)) ?_ | refine ite_goR (by first | assumption | with_reducible exact ne_head g2 | with_reducible exact ne_head (ne_tail g2) | with_reducible exact ne_head (ne_tail (ne_tail g2)) | with_reducible exact ne_head (ne_tail (ne_tail (ne_tail g2))) | with_reducible exact ne_chead g3 | with_reducible exact ne_chead (ne_ctail g3) | with_reducible exact ne_chead (ne_ctail (ne_ctail g3)) | with_reducible exact ne_chead (ne_ctail (ne_ctail (ne_ctail g3)))) ?_ | refine cont_stepR (by first | with_reducible exact g3 | ((repeat (refine cont_cons (by first | assumption | with_reducible exact ne_head g2 | with_reducible exact ne_head (ne_tail g2) | with_reducible exact ne_head (ne_tail (ne_tail g2)) | with_reducible exact ne_head (ne_tail (ne_tail (ne_tail g2))) | with_reducible exact ne_chead g3 | with_reducible exact ne_chead (ne_ctail g3) | with_reducible exact ne_chead (ne_ctail (ne_ctail g3)) | with_reducible exact ne_chead (ne_ctail (ne_ctail (ne_ctail g3)))) ?_)); exact cont_nil)) ?_))
        · refine of_post hPT ?_; refine ite_neg Bool.false_ne_true ?_
          refine' wl_out c2 (by k_asm) (by k_asm) ?hn ?hk ?hr R2
          case hk => (repeat' (refine all_cons ?_ ?_)); all_goals (first | exact all_nil | rfl | assumption)
          case hn => (try dsimp only); with_reducible (repeat' (first | exact sub_refl | exact sub_nil | refine sub_take ?_ | refine sub_skip ?_))
          case hr =>
            intro z g2 g3; (repeat (first | with_reducible rfl | refine ite_go (by first | assumption | with_reducible exact ne_head g2 | with_reducible exact ne_head (ne_tail g2) | with_reducible exact ne_head (ne_tail (ne_tail g2)) | with_reducible exact ne_head (ne_tail (ne_tail (ne_tail g2))) | with_reducible exact ne_chead g3 | with_reducible exact ne_chead (ne_ctail g3) | with_reducible exact ne_chead (ne_ctail (ne_ctail g3)) | with_reducible exact ne_chead (ne_ctail (ne_ctail (ne_ctail g3)))) ?_ | refine cont_step (by first | with_reducible exact g3 | ((repeat (refine cont_cons (by first | assumption | with_reducible exact ne_head g2 | with_reducible exact ne_head (ne_tail g2) | with_reducible exact ne_head (ne_tail (ne_tail g2)) | with_reducible exact ne_head (ne_tail (ne_tail (ne_tail g2))) | with_reducible exact ne_chead g3 | with_reducible exact ne_chead (ne_ctail g3) | with_reducible exact ne_chead (ne_ctail (ne_ctail g3)) | with_reducible exact ne_chead (ne_ctail (ne_ctail (ne_ctail g3)))) ?_)); exact cont_nil)) ?_ | refine ite_goR (by first | assumption | with_reducible exact ne_head g2 | with_reducible exact ne_head (ne_tail g2) | with_reducible exact ne_head (ne_tail (ne_tail g2)) | with_reducible exact ne_head (ne_tail (ne_tail (ne_tail g2))) | with_reducible exact ne_chead g3 | with_reducible exact ne_chead (ne_ctail g3) | with_reducible exact ne_chead (ne_ctail (ne_ctail g3)) | with_reducible exact ne_chead (ne_ctail (ne_ctail (ne_ctail g3)))) ?_ | refine cont_stepR (by first | with_reducible exact g3 | ((repeat (refine cont_cons (by first | assumption | with_reducible exact ne_head g2 | with_reducible exact ne_head (ne_tail g2) | with_reducible exact ne_head (ne_tail (ne_tail g2)) | with_reducible exact ne_head (ne_tail (ne_tail (ne_tail g2))) | with_reducible exact ne_chead g3 | with_reducible exact ne_chead (ne_ctail g3) | with_reducible exact ne_chead (ne_ctail (ne_ctail g3)) | with_reducible exact ne_chead (ne_ctail (ne_ctail (ne_ctail g3)))) ?_)); exact cont_nil)) ?_))
      case dn2 =>
        intro c2 u2 h2 tk2 R2 F2 N2
        dsimp only [kstB] at F2 R2 ⊢
        clear F1 N1 R1
        k_steps
        refine hide10 (x1 := Str.ofString "a") (x2 := Str.ofString "b") (x3 := Str.ofString "isbjunk") (x4 := Str.ofString "alo") (x5 := Str.ofString "ahi") (x6 := Str.ofString "blo") (x7 := Str.ofString "bhi") (x8 := Str.ofString "besti") (x9 := Str.ofString "bestj") (x10 := Str.ofString "bestsize") F2 (by first | rfl | assumption) (by first | rfl | assumption) (by first | rfl | assumption) (by first | rfl | assumption) (by first | rfl | assumption) (by first | rfl | assumption) (by first | rfl | assumption) (by first | rfl | assumption) (by first | rfl | assumption) (by first | rfl | assumption) fun mW3 G3 w3_1 w3_2 w3_3 w3_4 w3_5 w3_6 w3_7 w3_8 w3_9 w3_10 => ?_
        refine lv_while (σ := FlW) (fun _ => (xq, bound "set.__contains__" jk) :: (la, W.listOf va.toArray na) :: (lb, W.listOf vb.toArray nb) :: (jk, { cls := .type "set", dict := none, data := .set #[] 0 (.fresh 0 0 led) }) :: R)
          (fun c => [(Str.ofString "besti", .int c.bi c.ti), (Str.ofString "bestj", .int c.bj c.tj), (Str.ofString "bestsize", .int c.bs c.ts)]) [] (fun c => FlR xa xb alo ahi blo bhi c.bi c.bj c.bs) (fun c => 0) c2 rfl G3 N2 ?kk3 R2 ?tu3 ?dn3
        case kk3 => (repeat' (refine all_cons ?_ ?_)); all_goals (first | exact all_nil | rfl | assumption)
        case tu3 =>
          intro c3 u3 h3 tk3 R3 F3 N3
          clear G3
          refine gen_post fun PT hPT => ?_
          dsimp only [kstB] at F3 R3 ⊢
          have ba3 := R3.best.a
          have bb3 := R3.best.b
          have bc3 := R3.best.c
          have bd3 := R3.best.d
          have be3 := R3.best.e
          k_steps
          · refine of_post hPT ?_; refine ite_neg Bool.false_ne_true ?_
            refine' wl_out c3 (by k_asm) (by k_asm) ?hn ?hk ?hr R3
            case hk => (repeat' (refine all_cons ?_ ?_)); all_goals (first | exact all_nil | rfl | assumption)
            case hn => (try dsimp only); with_reducible (repeat' (first | exact sub_refl | exact sub_nil | refine sub_take ?_ | refine sub_skip ?_))
            case hr =>
              intro z g2 g3; (repeat (first | with_reducible rfl | refine ite_go (by first | assumption | with_reducible exact ne_head g2 | with_reducible exact ne_head (ne_tail g2) | with_reducible exact ne_head (ne_tail (ne_tail g2)) | with_reducible exact ne_head (ne_tail (ne_tail (ne_tail g2))) | with_reducible exact ne_chead g3 | with_reducible exact ne_chead (ne_ctail g3) | with_reducible exact ne_chead (ne_ctail (ne_ctail g3)) | with_reducible exact ne_chead (ne_ctail (ne_ctail (ne_ctail g3)))) ?_ | refine cont_step (by first | with_reducible exact g3 | ((repeat (refine cont_cons (by first | assumption | with_reducible exact ne_head g2 | with_reducible exact ne_head (ne_tail g2) | with_reducible exact ne_head (ne_tail (ne_tail g2)) | with_reducible exact ne_head (ne_tail (ne_tail (ne_tail g2))) | with_reducible exact ne_chead g3 | with_reducible exact ne_chead (ne_ctail g3) | with_reducible exact ne_chead (ne_ctail (ne_ctail g3)) | with_reducible exact ne_chead (ne_ctail (ne_ctail (ne_ctail g3)))) ?_)); exact cont_nil)) ?_ | refine ite_goR (by first | assumption | with_reducible exact ne_head g2 | with_reducible exact ne_head (ne_tail g2) | with_reducible exact ne_head (ne_tail (ne_tail g2)) | with_reducible exact ne_head (ne_tail (ne_tail (ne_tail g2))) | with_reducible exact ne_chead g3 | with_reducible exact ne_chead (ne_ctail g3) | with_reducible exact ne_chead (ne_ctail (ne_ctail g3)) | with_reducible exact ne_chead (ne_ctail (ne_ctail (ne_ctail g3)))) ?_ | refine cont_stepR (by first | with_reducible exact g3 | ((repeat (refine cont_cons (by first | assumption | with_reducible exact ne_head g2 | with_reducible exact ne_head (ne_tail g2) | with_reducible exact ne_head (ne_tail (ne_tail g2)) | with_reducible exact ne_head (ne_tail (ne_tail (ne_tail g2))) | with_reducible exact ne_chead g3 | with_reducible exact ne_chead (ne_ctail g3) | with_reducible exact ne_chead (ne_ctail (ne_ctail g3)) | with_reducible exact ne_chead (ne_ctail (ne_ctail (ne_ctail g3)))) ?_)); exact cont_nil)) ?_))
          · refine of_post hPT ?_; refine ite_neg Bool.false_ne_true ?_
            refine' wl_out c3 (by k_asm) (by k_asm) ?hn ?hk ?hr R3
            case hk => (repeat' (refine all_cons ?_ ?_)); all_goals (first | exact all_nil | rfl | assumption)
            case hn => (try dsimp only); with_reducible (repeat' (first | exact sub_refl | exact sub_nil | refine sub_take ?_ | refine sub_skip ?_))
            case hr =>
              intro z g2 g3; (repeat (first | with_reducible rfl | refine ite_go (by first | assumption | with_reducible exact ne_head g2 | with_reducible exact ne_head (ne_tail g2) | with_reducible exact ne_head (ne_tail (ne_tail g2)) | with_reducible exact ne_head (ne_tail (ne_tail (ne_tail g2))) | with_reducible exact ne_chead g3 | with_reducible exact ne_chead (ne_ctail g3) | with_reducible exact ne_chead (ne_ctail (ne_ctail g3)) | with_reducible exact ne_chead (ne_ctail (ne_ctail (ne_ctail g3)))) ?_ | refine cont_step (by first | with_reducible exact g3 | ((repeat (refine cont_cons (by first | assumption | with_reducible exact ne_head g2 | with_reducible exact ne_head (ne_tail g2) | with_reducible exact ne_head (ne_tail (ne_tail g2)) | with_reducible exact ne_head (ne_tail (ne_tail (ne_tail g2))) | with_reducible exact ne_chead g3 | with_reducible exact ne_chead (ne_ctail g3) | with_reducible exact ne_chead (ne_ctail (ne_ctail g3)) | with_reducible exact ne_chead (ne_ctail (ne_ctail (ne_ctail g3)))) ?_)); exact cont_nil)) ?_ | refine ite_goR (by first | assumption | with_reducible exact ne_head g2 | with_reducible exact ne_head (ne_tail g2) | with_reducible exact ne_head (ne_tail (ne_tail g2)) | with_reducible exact ne_head (ne_tail (ne_tail (ne_tail g2))) | with_reducible exact ne_chead g3 | with_reducible exact ne_chead (ne_ctail g3) | with_reducible exact ne_chead (ne_ctail (ne_ctail g3)) | with_reducible exact ne_chead (ne_ctail (ne_ctail (ne_ctail g3)))) ?_ | refine cont_stepR (by first | with_reducible exact g3 | ((repeat (refine cont_cons (by first | assumption | with_reducible exact ne_head g2 | with_reducible exact ne_head (ne_tail g2) | with_reducible exact ne_head (ne_tail (ne_tail g2)) | with_reducible exact ne_head (ne_tail (ne_tail (ne_tail g2))) | with_reducible exact ne_chead g3 | with_reducible exact ne_chead (ne_ctail g3) | with_reducible exact ne_chead (ne_ctail (ne_ctail g3)) | with_reducible exact ne_chead (ne_ctail (ne_ctail (ne_ctail g3)))) ?_)); exact cont_nil)) ?_))
          · refine of_post hPT ?_; refine ite_neg Bool.false_ne_true ?_
            refine' wl_out c3 (by k_asm) (by k_asm) ?hn ?hk ?hr R3
            case hk => (repeat' (refine all_cons ?_ ?_)); all_goals (first | exact all_nil | rfl | assumption)
            case hn => (try dsimp only); with_reducible (repeat' (first | exact sub_refl | exact sub_nil | refine sub_take ?_ | refine sub_skip ?_))
            case hr =>
              intro z g2 g3; (repeat (first | with_reducible rfl | refine ite_go (by first | assumption | with_reducible exact ne_head g2 | with_reducible exact ne_head (ne_tail g2) | with_reducible exact ne_head (ne_tail (ne_tail g2)) | with_reducible exact ne_head (ne_tail (ne_tail (ne_tail g2))) | with_reducible exact ne_chead g3 | with_reducible exact ne_chead (ne_ctail g3) | with_reducible exact ne_chead (ne_ctail (ne_ctail g3)) | with_reducible exact ne_chead (ne_ctail (ne_ctail (ne_ctail g3)))) ?_ | refine cont_step (by first | with_reducible exact g3 | ((repeat (refine cont_cons (by first | assumption | with_reducible exact ne_head g2 | with_reducible exact ne_head (ne_tail g2) | with_reducible exact ne_head (ne_tail (ne_tail g2)) | with_reducible exact ne_head (ne_tail (ne_tail (ne_tail g2))) | with_reducible exact ne_chead g3 | with_reducible exact ne_chead (ne_ctail g3) | with_reducible exact ne_chead (ne_ctail (ne_ctail g3)) | with_reducible exact ne_chead (ne_ctail (ne_ctail (ne_ctail g3)))) ?_)); exact cont_nil)) ?_ | refine ite_goR (by first | assumption | with_reducible exact ne_head g2 | with_reducible exact ne_head (ne_tail g2) | with_reducible exact ne_head (ne_tail (ne_tail g2)) | with_reducible exact ne_head (ne_tail (ne_tail (ne_tail g2))) | with_reducible exact ne_chead g3 | with_reducible exact ne_chead (ne_ctail g3) | with_reducible exact ne_chead (ne_ctail (ne_ctail g3)) | with_reducible exact ne_chead (ne_ctail (ne_ctail (ne_ctail g3)))) ?_ | refine cont_stepR (by first | with_reducible exact g3 | ((repeat (refine cont_cons (by first | assumption | with_reducible exact ne_head g2 | with_reducible exact ne_head (ne_tail g2) | with_reducible exact ne_head (ne_tail (ne_tail g2)) | with_reducible exact ne_head (ne_tail (ne_tail (ne_tail g2))) | with_reducible exact ne_chead g3 | with_reducible exact ne_chead (ne_ctail g3) | with_reducible exact ne_chead (ne_ctail (ne_ctail g3)) | with_reducible exact ne_chead (ne_ctail (ne_ctail (ne_ctail g3)))) ?_)); exact cont_nil)) ?_))
        case dn3 =>
          intro c3 u3 h3 tk3 R3 F3 N3
          dsimp only [kstB] at F3 R3 ⊢
          clear F2 N2 R2
          k_steps
          refine hide10 (x1 := Str.ofString "a") (x2 := Str.ofString "b") (x3 := Str.ofString "isbjunk") (x4 := Str.ofString "alo") (x5 := Str.ofString "ahi") (x6 := Str.ofString "blo") (x7 := Str.ofString "bhi") (x8 := Str.ofString "besti") (x9 := Str.ofString "bestj") (x10 := Str.ofString "bestsize") F3 (by first | rfl | assumption) (by first | rfl | assumption) (by first | rfl | assumption) (by first | rfl | assumption) (by first | rfl | assumption) (by first | rfl | assumption) (by first | rfl | assumption) (by first | rfl | assumption) (by first | rfl | assumption) (by first | rfl | assumption) fun mW4 G4 w4_1 w4_2 w4_3 w4_4 w4_5 w4_6 w4_7 w4_8 w4_9 w4_10 => ?_
          refine lv_while (σ := FlW) (fun _ => (xq, bound "set.__contains__" jk) :: (la, W.listOf va.toArray na) :: (lb, W.listOf vb.toArray nb) :: (jk, { cls := .type "set", dict := none, data := .set #[] 0 (.fresh 0 0 led) }) :: R)
            (fun c => [(Str.ofString "besti", .int c.bi c.ti), (Str.ofString "bestj", .int c.bj c.tj), (Str.ofString "bestsize", .int c.bs c.ts)]) [] (fun c => FlR xa xb alo ahi blo bhi c.bi c.bj c.bs) (fun c => 0) c3 rfl G4 N3 ?kk4 R3 ?tu4 ?dn4
          case kk4 => (repeat' (refine all_cons ?_ ?_)); all_goals (first | exact all_nil | rfl | assumption)
          case tu4 =>
            intro c4 u4 h4 tk4 R4 F4 N4
            clear G4
            refine gen_post fun PT hPT => ?_
            dsimp only [kstB] at F4 R4 ⊢
            have ba4 := R4.best.a
            have bb4 := R4.best.b
            have bc4 := R4.best.c
            have bd4 := R4.best.d
            have be4 := R4.best.e
            k_steps
            · refine of_post hPT ?_; refine ite_neg Bool.false_ne_true ?_
              refine' wl_out c4 (by k_asm) (by k_asm) ?hn ?hk ?hr R4
              case hk => (repeat' (refine all_cons ?_ ?_)); all_goals (first | exact all_nil | rfl | assumption)
              case hn => (try dsimp only); with_reducible (repeat' (first | exact sub_refl | exact sub_nil | refine sub_take ?_ | refine sub_skip ?_))
              case hr =>
                intro z g2 g3; (repeat (first | with_reducible rfl | refine ite_go (by first | assumption | with_reducible exact ne_head g2 | with_reducible exact ne_head (ne_tail g2) | with_reducible exact ne_head (ne_tail (ne_tail g2)) | with_reducible exact ne_head (ne_tail (ne_tail (ne_tail g2))) | with_reducible exact ne_chead g3 | with_reducible exact ne_chead (ne_ctail g3) | with_reducible exact ne_chead (ne_ctail (ne_ctail g3)) | with_reducible exact ne_chead (ne_ctail (ne_ctail (ne_ctail g3)))) ?_ | refine cont_step (by first | with_reducible exact g3 | ((repeat (refine cont_cons (by first | assumption | with_reducible exact ne_head g2 | with_reducible exact ne_head (ne_tail g2) | with_reducible exact ne_head (ne_tail (ne_tail g2)) | with_reducible exact ne_head (ne_tail (ne_tail (ne_tail g2))) | with_reducible exact ne_chead g3 | with_reducible exact ne_chead (ne_ctail g3) | with_reducible exact ne_chead (ne_ctail (ne_ctail g3)) | with_reducible exact ne_chead (ne_ctail (ne_ctail (ne_ctail g3)))) ?_)); exact cont_nil)) ?_ | refine ite_goR (by first | assumption | with_reducible exact ne_head g2 | with_reducible exact ne_head (ne_tail g2) | with_reducible exact ne_head (ne_tail (ne_tail g2)) | with_reducible exact ne_head (ne_tail (ne_tail (ne_tail g2))) | with_reducible exact ne_chead g3 | with_reducible exact ne_chead (ne_ctail g3) | with_reducible exact ne_chead (ne_ctail (ne_ctail g3)) | with_reducible exact ne_chead (ne_ctail (ne_ctail (ne_ctail g3)))) ?_ | refine cont_stepR (by first | with_reducible exact g3 | ((repeat (refine cont_cons (by first | assumption | with_reducible exact ne_head g2 | with_reducible exact ne_head (ne_tail g2) | with_reducible exact ne_head (ne_tail (ne_tail g2)) | with_reducible exact ne_head (ne_tail (ne_tail (ne_tail g2))) | with_reducible exact ne_chead g3 | with_reducible exact ne_chead (ne_ctail g3) | with_reducible exact ne_chead (ne_ctail (ne_ctail g3)) | with_reducible exact ne_chead (ne_ctail (ne_ctail (ne_ctail g3)))) ?_)); exact cont_nil)) ?_))
            · refine of_post hPT ?_; refine ite_neg Bool.false_ne_true ?_
              refine' wl_out c4 (by k_asm) (by k_asm) ?hn ?hk ?hr R4
              case hk => (repeat' (refine all_cons ?_ ?_)); all_goals (first | exact all_nil | rfl | assumption)
              case hn => (try dsimp only); with_reducible (repeat' (first | exact sub_refl | exact sub_nil | refine sub_take ?_ | refine sub_skip ?_))
              case hr =>
                intro z g2 g3; (repeat (first | with_reducible rfl | refine ite_go (by first | assumption | with_reducible exact ne_head g2 | with_reducible exact ne_head (ne_tail g2) | with_reducible exact ne_head (ne_tail (ne_tail g2)) | with_reducible exact ne_head (ne_tail (ne_tail (ne_tail g2))) | with_reducible exact ne_chead g3 | with_reducible exact ne_chead (ne_ctail g3) | with_reducible exact ne_chead (ne_ctail (ne_ctail g3)) | with_reducible exact ne_chead (ne_ctail (ne_ctail (ne_ctail g3)))) ?_ | refine cont_step (by first | with_reducible exact g3 | ((repeat (refine cont_cons (by first | assumption | with_reducible exact ne_head g2 | with_reducible exact ne_head (ne_tail g2) | with_reducible exact ne_head (ne_tail (ne_tail g2)) | with_reducible exact ne_head (ne_tail (ne_tail (ne_tail g2))) | with_reducible exact ne_chead g3 | with_reducible exact ne_chead (ne_ctail g3) | with_reducible exact ne_chead (ne_ctail (ne_ctail g3)) | with_reducible exact ne_chead (ne_ctail (ne_ctail (ne_ctail g3)))) ?_)); exact cont_nil)) ?_ | refine ite_goR (by first | assumption | with_reducible exact ne_head g2 | with_reducible exact ne_head (ne_tail g2) | with_reducible exact ne_head (ne_tail (ne_tail g2)) | with_reducible exact ne_head (ne_tail (ne_tail (ne_tail g2))) | with_reducible exact ne_chead g3 | with_reducible exact ne_chead (ne_ctail g3) | with_reducible exact ne_chead (ne_ctail (ne_ctail g3)) | with_reducible exact ne_chead (ne_ctail (ne_ctail (ne_ctail g3)))) ?_ | refine cont_stepR (by first | with_reducible exact g3 | ((repeat (refine cont_cons (by first | assumption | with_reducible exact ne_head g2 | with_reducible exact ne_head (ne_tail g2) | with_reducible exact ne_head (ne_tail (ne_tail g2)) | with_reducible exact ne_head (ne_tail (ne_tail (ne_tail g2))) | with_reducible exact ne_chead g3 | with_reducible exact ne_chead (ne_ctail g3) | with_reducible exact ne_chead (ne_ctail (ne_ctail g3)) | with_reducible exact ne_chead (ne_ctail (ne_ctail (ne_ctail g3)))) ?_)); exact cont_nil)) ?_))
            · refine of_post hPT ?_; refine ite_neg Bool.false_ne_true ?_
              refine' wl_out c4 (by k_asm) (by k_asm) ?hn ?hk ?hr R4
              case hk => (repeat' (refine all_cons ?_ ?_)); all_goals (first | exact all_nil | rfl | assumption)
              case hn => (try dsimp only); with_reducible (repeat' (first | exact sub_refl | exact sub_nil | refine sub_take ?_ | refine sub_skip ?_))
              case hr =>
                intro z g2 g3; (repeat (first | with_reducible rfl | refine ite_go (by first | assumption | with_reducible exact ne_head g2 | with_reducible exact ne_head (ne_tail g2) | with_reducible exact ne_head (ne_tail (ne_tail g2)) | with_reducible exact ne_head (ne_tail (ne_tail (ne_tail g2))) | with_reducible exact ne_chead g3 | with_reducible exact ne_chead (ne_ctail g3) | with_reducible exact ne_chead (ne_ctail (ne_ctail g3)) | with_reducible exact ne_chead (ne_ctail (ne_ctail (ne_ctail g3)))) ?_ | refine cont_step (by first | with_reducible exact g3 | ((repeat (refine cont_cons (by first | assumption | with_reducible exact ne_head g2 | with_reducible exact ne_head (ne_tail g2) | with_reducible exact ne_head (ne_tail (ne_tail g2)) | with_reducible exact ne_head (ne_tail (ne_tail (ne_tail g2))) | with_reducible exact ne_chead g3 | with_reducible exact ne_chead (ne_ctail g3) | with_reducible exact ne_chead (ne_ctail (ne_ctail g3)) | with_reducible exact ne_chead (ne_ctail (ne_ctail (ne_ctail g3)))) ?_)); exact cont_nil)) ?_ | refine ite_goR (by first | assumption | with_reducible exact ne_head g2 | with_reducible exact ne_head (ne_tail g2) | with_reducible exact ne_head (ne_tail (ne_tail g2)) | with_reducible exact ne_head (ne_tail (ne_tail (ne_tail g2))) | with_reducible exact ne_chead g3 | with_reducible exact ne_chead (ne_ctail g3) | with_reducible exact ne_chead (ne_ctail (ne_ctail g3)) | with_reducible exact ne_chead (ne_ctail (ne_ctail (ne_ctail g3)))) ?_ | refine cont_stepR (by first | with_reducible exact g3 | ((repeat (refine cont_cons (by first | assumption | with_reducible exact ne_head g2 | with_reducible exact ne_head (ne_tail g2) | with_reducible exact ne_head (ne_tail (ne_tail g2)) | with_reducible exact ne_head (ne_tail (ne_tail (ne_tail g2))) | with_reducible exact ne_chead g3 | with_reducible exact ne_chead (ne_ctail g3) | with_reducible exact ne_chead (ne_ctail (ne_ctail g3)) | with_reducible exact ne_chead (ne_ctail (ne_ctail (ne_ctail g3)))) ?_)); exact cont_nil)) ?_))
          case dn4 =>
            intro c4 u4 h4 tk4 R4 F4 N4
            dsimp only [kstB] at F4 R4 ⊢
            clear F3 N3 R3
            k_steps
            refine' match_K w mean mg mb _ _ _ _ _ _ _ _ _ _ _ _ _ _ _ _ _ _ _ _ _ _ _ _ ?kB ?kF ?kX ?kN ?kT ?kk ?kd ?ku ?_
            case kB => k_asm
            case kF => k_asm
            case kX => k_asm
            case kN => k_asm
            case kT => k_asm
            case kk => rfl
            case kd => exact off_lt (m := 4) hd rfl
            case ku => exact off_lt (m := 23) hu rfl
            intro x9 dx9 h9 tk9 F9 N9 l9 lx9
            k_steps
            rename_i kF kN Tc kX
            subst hRR
            exact hret x9 dx9 c4.bi c4.bj c4.bs c4.ti c4.tj c4.ts _ _ R4 kF (fun p hp => kN p (sub_at hp (by with_reducible (repeat' (first | exact sub_refl | exact sub_nil | exact mem_hd | refine sub_take ?_ | refine sub_put ?_ ?_ | refine mem_tl ?_ | refine sub_skip ?_)))))
              ⟨l9 (M, instObj 242 dM) (by repeat (first | exact List.Mem.head _ | apply List.Mem.tail)), l9 (dM, dictOf (smE H T (.ref la) (.ref lb) vmb vop vfb (.ref d2) (.ref jk) vpop) n) (by repeat (first | exact List.Mem.head _ | apply List.Mem.tail)), l9 (la, W.listOf va.toArray na) (by repeat (first | exact List.Mem.head _ | apply List.Mem.tail)), l9 (lb, W.listOf vb.toArray nb) (by repeat (first | exact List.Mem.head _ | apply List.Mem.tail)), l9 (jk, { cls := .type "set", dict := none, data := .set #[] 0 (.fresh 0 0 led) }) (by repeat (first | exact List.Mem.head _ | apply List.Mem.tail)), l9 (d2, D2) (by repeat (first | exact List.Mem.head _ | apply List.Mem.tail)), fun p hp => l9 p (by repeat (first | exact hp | apply List.Mem.tail))⟩ lx9
end Mine
end

section
open PySem PySem.W PyProof.Rows PyProof.V PySem.Calls
namespace Mine
set_option hygiene false in
local macro_rules | `(tactic| k_ne) => `(tactic| (refine neN ?_; (try dsimp only); exact ad_ne))
noncomputable abbrev smE' (H : Nat → Int) (T : Nat → Tok) (va vb vmb vop vfb vb2j vjunk vpop : Value) : List DictEntry :=
  [⟨H 0, .str (Str.ofString "isjunk") (T 0), .none⟩, ⟨H 1, .str (Str.ofString "a") (T 1), va⟩, ⟨H 2, .str (Str.ofString "b") (T 2), vb⟩, ⟨H 3, .str (Str.ofString "autojunk") (T 3), .bool true⟩,
   ⟨H 4, .str (Str.ofString "matching_blocks") (T 4), vmb⟩, ⟨H 5, .str (Str.ofString "opcodes") (T 5), vop⟩, ⟨H 6, .str (Str.ofString "fullbcount") (T 6), vfb⟩, ⟨H 7, .str (Str.ofString "b2j") (T 7), vb2j⟩,
   ⟨H 8, .str (Str.ofString "bjunk") (T 8), vjunk⟩, ⟨H 9, .str (Str.ofString "bpopular") (T 9), vpop⟩]
local macro_rules | `(tactic| walk_at "exec For Tuple Call cons nil") => `(tactic| (k_here; (rename Fr _ _ _ _ => lF'); (with_unfolding_all refine' For_turns lF' ?_; k_whole)))
set_option hygiene false in
local macro_rules | `(tactic| walk_at "call type:enumerate") => `(tactic| refine unstop ?_)
set_option hygiene false in
local macro_rules | `(tactic| k_all) => `(tactic| assumption)
set_option hygiene false in
local macro_rules | `(tactic| walk_at "call builtin:dict.setdefault") => `(tactic| refine unstop ?_)
set_option hygiene false in
local macro_rules | `(tactic| walk_at "call builtin:list.append") => `(tactic| refine unstop ?_)
set_option hygiene false in
local macro_rules | `(tactic| walk_at "call builtin:len") => `(tactic| (k_here; k_dflt (refine' KM.len_K (by k_asm) (by k_mem) (by exact Eq.trans List.size_toArray (StrsAre.length (by assumption))) (by omega) ?_)))
set_option maxRecDepth 100000 in
set_option maxHeartbeats 8000000 in
theorem chain_b_K (w : World) (mean : ExcName → Option Value) (mg mb : Str → Option Value) (dp un : Nat) (gd : Option (List Code)) (cn : Str) (cs : Scope) (a : Addr) (ccd : Value) (cl : List (Str × Addr)) (outer : List Env) (A₀ : Around) (base h₀ : Heap) (L : Addr) (m : Str → Option Value)
    (s : Shared) (Q E : Value → Shared → Prop) (H : Nat → Int) (T : Nat → Tok) (va : Value) (lb : Addr) (vmb vop vfb vb2j vjunk vpop : Value) (nb : Nat) (M dM : Addr) (vb : List Value) (xb : List Str) (Lr : List (Addr × Obj))
    (B : Below A₀ base outer h₀) (F : Fr h₀ L s.heap m) (X : (Mine.hd.heap_1 w.params).In h₀) (N : News h₀ L s.heap ((M, instObj 242 dM) :: (dM, dictOf (smE' H T va (.ref lb) vmb vop vfb vb2j vjunk vpop) 10) :: (lb, listOf vb.toArray nb) :: Lr))
    (hM : @Ne Nat M dM) (hMb : @Ne Nat lb dM) (hLr : ∀ p ∈ Lr, p.1 ≠ dM) (hb : StrsAre vb xb) (hsb : xb.length ≤ 4)
    (Tp : Top Qv (looseW Qv looseL) mean mg mb h₀) (hk : cs.kind = .function)
    (hd : dp + 3 < recursionLimit) (hu : un + 20 < cLine)
    (hret : ∀ d2 D2 rs jk led pp led2 h' tk', D2.IsDictOf (PySem.strKind PySem.Challenge.rw_ik0096_01.row.prog w) (rowsK rs) → RowsOk rs xb → (d2 == sysModules) = false →
      Obj.SetObjOf (PySem.strKind PySem.Challenge.rw_ik0096_01.row.prog w) { cls := .type "set", dict := none, data := .set #[] 0 (.fresh 0 0 led) } (fun _ => false) 0 → Fr h₀ L h' m →
      News h₀ L h' ((pp, { cls := .type "set", dict := none, data := .set #[] 0 (.fresh 0 0 led2) }) :: (jk, { cls := .type "set", dict := none, data := .set #[] 0 (.fresh 0 0 led) }) :: (d2, D2) :: (M, instObj 242 dM) :: (dM, dictOf (smE' H T va (.ref lb) vmb vop vfb (.ref d2) (.ref jk) (.ref pp)) 10) :: (lb, W.listOf vb.toArray nb) :: (rowsL rs ++ Lr)) →
      dM < d2 ∧ M < d2 ∧ lb < d2 → (∀ p ∈ Lr, p.1 < d2) → d2 < jk → jk < pp → (∀ r ∈ rs, d2 < r.l ∧ r.l < jk) → Q .none { s with heap := h', toks := tk' }) :
    wpAny (model PySem.Challenge.rw_ik0096_01.row.prog w) (ktrTop dp un gd cn cs L a ccd cl outer) (call (.ref 188) [.ref M]) Q E s := by
  revert X; k_fill; intro X
  refine wpAny_call ?_
  k_dflt (refine' code_def (binds := [(Str.ofString "self", Value.ref M)]) ?k1 ?k2 ?k3 ?k4 ?k5 ?kA ?kF ?kK ?k6 ?k7 ?k8 ?k9 ?kB ?_ ?c2 ?c3 ?c4 ?c5; (case kA => exact rfl); (case kF => exact rfl); (case kK => assumption); (case k1 => k_asm); (case k2 => k_asm); (case k3 => k_asm); (case k4 => k_asm); (case k5 => k_asm); (case k6 => k_is); (case k7 => k_is); (case k8 => ktr_room); (case k9 => first | exact BindsTo.of_eq rfl | exact binds_K (by k_in) rfl (by k_is) rfl rfl rfl); (case c5 => decide); (case kB => exact locs rfl); (case c2 => exact rfl); (case c3 => exact rfl); (case c4 => exact rfl); k_whole; intro g' L' h' FG' F' N' B' X' T'; (try dsimp only); (try k_fold))
  k_steps
  rename_i kh0 d2 kh1 D0 lo hs fs hi fi l1 kh2 kh3 F9 N9
  refine lv_enum (σ := CbS) (l := lb) (vs := vb) (n := nb) (fun c => (d2, c.D) :: (M, instObj 242 dM) :: (dM, dictOf (smE' H T va (.ref lb) vmb vop vfb (.ref d2) vjunk vpop) 10) :: (lb, W.listOf vb.toArray nb) :: (rowsL c.rs ++ Lr))
    (fun _ => []) [Str.ofString "i", Str.ofString "elt", Str.ofString "indices"]
    (fun i c => c.D.IsDictOf (PySem.strKind PySem.Challenge.rw_ik0096_01.row.prog w) (rowsK c.rs) ∧ RowsOk c.rs (xb.take i) ∧ (∀ r ∈ c.rs, d2 < r.l) ∧ c.rs.length ≤ i ∧ i ≤ 4)
    ⟨D0, []⟩ rfl ?hl F9 ?nn ?kk ?pp ?cl ?tu ?dn
  case hl => intro i c _; simp
  case nn => intro p hp; exact N9 p (by simpa [rowsL] using hp)
  case kk => intro p hp; exact absurd hp (List.not_mem_nil)
  case pp => exact ⟨hs, by simpa using rows_nil, by simp, by simp, by omega⟩
  case cl =>
    rintro i c ⟨pD, pR, pd, _⟩ p hp
    simp only [List.mem_cons, List.mem_append] at hp
    rcases hp with q | q | q | q | q | q
    · left; rw [q]; obtain ⟨es, ep, hx, _⟩ := pD; rw [hx.1]; simp
    · right; simp [q]
    · right; simp [q]
    · right; simp [q]
    · left
      obtain ⟨r, hr, rfl⟩ := List.mem_map.mp q
      simp [W.listOf]
    · right; simp [q]
  case tu =>
    rintro I i c x T1 t u h tk ie io hI hie hio hx ⟨pD, pR, pd, pl, pi⟩ hT F N
    obtain ⟨D1, rs⟩ := c
    obtain ⟨y, ty, rfl, hy⟩ := hb.item i x hx
    dsimp only [kstB] at F N pD pR pd pl ⊢
    have hId : d2 < I := hI (d2, D0) (.head _)
    refine and4 l1 fun lM ldM llb lLr => ?_
    have lLr' := allLt_mem lLr
    k_steps
    rename_i kF0 kN0 kh4 kh5 e1 kh6 F8 N8 l8
    refine and7 l8 fun le1 le2 le3 le4 le5 le6 le7 => ?_
    have le7' := allLt_mem le7
    refine setdef_row (Pa := [(I + 1, ie), (I, io)]) (Pb := [(M, instObj 242 dM), (dM, dictOf (smE' H T va (.ref lb) vmb vop vfb (.ref d2) vjunk vpop) 10), (lb, W.listOf vb.toArray nb)]) (Lr := Lr) (rs := rs) (D := D1) (ys := xb.take i) F8 N8 pD pR lo (by omega) ?_ ?_ pd (fun p hp => Nat.ne_of_lt (lLr' p hp)) le3 (fun r hr => le7' _ (List.mem_append_left _ (rowsL_of hr))) ?_
    · intro p hp; simp only [List.mem_cons, List.not_mem_nil, or_false] at hp; rcases hp with rfl | rfl
      · exact Nat.ne_of_gt (Nat.lt_succ_of_lt hId)
      · exact Nat.ne_of_gt hId
    · intro p hp; simp only [List.mem_cons, List.not_mem_nil, or_false] at hp; rcases hp with rfl | rfl | rfl
      · exact Nat.ne_of_lt lM
      · exact Nat.ne_of_lt ldM
      · exact Nat.ne_of_lt llb
    intro h9 D9 pre r post hlen9 pD9 pR9 hrx pd9 F9 N9
    simp only [List.cons_append, List.nil_append] at N9
    k_steps
    rename_i kh7 F10 N10
    refine' listMethod_K N10 ?ma PySem.F.slot_list_append PySem.F.type_list_append ?_
    case ma =>
      have := rowsL_of (rs := pre ++ r :: post) (r := r) (by simp)
      simp only [List.mem_cons, List.mem_append]
      exact .inr (.inr (.inr (.inr (.inr (.inr (.inl this))))))
    k_steps
    have lrd : d2 < r.l := pd9 r (by simp)
    have hrin : (r.l, W.listOf r.vs.toArray r.n) ∈ rowsL (pre ++ r :: post) ++ Lr := by
      have := rowsL_of (rs := pre ++ r :: post) (r := r) (by simp)
      exact List.mem_append_left Lr this
    have hIn : ∀ q : Addr × Obj, q ∈ rowsL (pre ++ r :: post) ++ Lr → News g' L' kh7 [q] := fun q hq z hz => by rw [List.mem_singleton.mp hz]; exact N10 q (.tail _ (.tail _ (.tail _ (.tail _ (.tail _ (.tail _ hq))))))
    have hr1 : r.l ≠ I := N10.twoPlaces (p := (r.l, W.listOf r.vs.toArray r.n)) (q := (I, io)) (.tail _ (.tail _ (.tail _ (.tail _ (.tail _ (.tail _ hrin)))))) (.tail _ (.head _)) (list_ne_it hio)
    have hr2 : r.l ≠ I + 1 := N10.twoPlaces (p := (r.l, W.listOf r.vs.toArray r.n)) (q := (I + 1, ie)) (.tail _ (.tail _ (.tail _ (.tail _ (.tail _ (.tail _ hrin)))))) (.head _) (list_ne_en hie)
    refine append_row (Pa := [(I + 1, ie), (I, io), (d2, D9), (M, instObj 242 dM), (dM, dictOf (smE' H T va (.ref lb) vmb vop vfb (.ref d2) vjunk vpop) 10), (lb, W.listOf vb.toArray nb)]) (Lr := Lr) (pre := pre) (post := post) (r := r) F10 N10 pR9 ?_ ?_ ?_ ?_
    · have e1 := row_len pR9 (r := r) (by simp)
      have e2 := take_len hy
      omega
    · intro p hp; simp only [List.mem_cons, List.not_mem_nil, or_false] at hp; rcases hp with rfl | rfl | rfl | rfl | rfl | rfl
      · exact hr2.symm
      · exact hr1.symm
      · exact Nat.ne_of_lt lrd
      · exact Nat.ne_of_lt (Nat.lt_trans lM lrd)
      · exact Nat.ne_of_lt (Nat.lt_trans ldM lrd)
      · exact Nat.ne_of_lt (Nat.lt_trans llb lrd)
    · exact fun p hp => Nat.ne_of_lt (Nat.lt_trans (lLr' p hp) lrd)
    intro h11 F11 N11
    simp only [List.cons_append, List.nil_append] at N11
    k_steps
    refine en_end (.inl rfl) ⟨D9, pre ++ ⟨r.x, r.l, r.vs ++ [.int (i : Int) t], r.n + 1⟩ :: post⟩ (by k_asm) (by k_asm) ?_ ?_ ?_ ?_ ?_
    · intro z hz; exact .tail _ (.tail _ hz)
    · intro z hz; rcases List.mem_cons.mp hz with q | q
      · rw [q]; exact .head _
      · rw [List.mem_singleton.mp q]; exact .tail _ (.head _)
    · intro z hz; exact absurd hz (List.not_mem_nil)
    · intro z g2 g3; (repeat (first | with_reducible rfl | refine ite_go (by first | assumption | with_reducible (first | exact ne_head g2 | exact ne_head (ne_tail g2) | exact ne_head (ne_tail (ne_tail g2)) | exact ne_head (ne_tail (ne_tail (ne_tail g2))) | exact ne_head (ne_tail (ne_tail (ne_tail (ne_tail g2)))) | exact ne_chead g3 | exact ne_chead (ne_ctail g3) | exact ne_chead (ne_ctail (ne_ctail g3)) | exact ne_chead (ne_ctail (ne_ctail (ne_ctail g3))) | exact ne_chead (ne_ctail (ne_ctail (ne_ctail (ne_ctail g3)))) | exact ne_chead (ne_ctail (ne_ctail (ne_ctail (ne_ctail (ne_ctail g3))))) | exact ne_chead (ne_ctail (ne_ctail (ne_ctail (ne_ctail (ne_ctail (ne_ctail g3)))))) | exact ne_chead (ne_ctail (ne_ctail (ne_ctail (ne_ctail (ne_ctail (ne_ctail (ne_ctail g3))))))) | exact ne_chead (ne_ctail (ne_ctail (ne_ctail (ne_ctail (ne_ctail (ne_ctail (ne_ctail (ne_ctail g3)))))))) | exact ne_chead (ne_ctail (ne_ctail (ne_ctail (ne_ctail (ne_ctail (ne_ctail (ne_ctail (ne_ctail (ne_ctail g3))))))))) | exact ne_chead (ne_ctail (ne_ctail (ne_ctail (ne_ctail (ne_ctail (ne_ctail (ne_ctail (ne_ctail (ne_ctail (ne_ctail g3)))))))))))) ?_ | refine cont_step (by first | with_reducible exact g3 | ((repeat (refine cont_cons (by first | assumption | with_reducible (first | exact ne_head g2 | exact ne_head (ne_tail g2) | exact ne_head (ne_tail (ne_tail g2)) | exact ne_head (ne_tail (ne_tail (ne_tail g2))) | exact ne_head (ne_tail (ne_tail (ne_tail (ne_tail g2)))) | exact ne_chead g3 | exact ne_chead (ne_ctail g3) | exact ne_chead (ne_ctail (ne_ctail g3)) | exact ne_chead (ne_ctail (ne_ctail (ne_ctail g3))) | exact ne_chead (ne_ctail (ne_ctail (ne_ctail (ne_ctail g3)))) | exact ne_chead (ne_ctail (ne_ctail (ne_ctail (ne_ctail (ne_ctail g3))))) | exact ne_chead (ne_ctail (ne_ctail (ne_ctail (ne_ctail (ne_ctail (ne_ctail g3)))))) | exact ne_chead (ne_ctail (ne_ctail (ne_ctail (ne_ctail (ne_ctail (ne_ctail (ne_ctail g3))))))) | exact ne_chead (ne_ctail (ne_ctail (ne_ctail (ne_ctail (ne_ctail (ne_ctail (ne_ctail (ne_ctail g3)))))))) | exact ne_chead (ne_ctail (ne_ctail (ne_ctail (ne_ctail (ne_ctail (ne_ctail (ne_ctail (ne_ctail (ne_ctail g3))))))))) | exact ne_chead (ne_ctail (ne_ctail (ne_ctail (ne_ctail (ne_ctail (ne_ctail (ne_ctail (ne_ctail (ne_ctail (ne_ctail g3)))))))))))) ?_)); exact cont_nil)) ?_ | refine ite_goR (by first | assumption | with_reducible (first | exact ne_head g2 | exact ne_head (ne_tail g2) | exact ne_head (ne_tail (ne_tail g2)) | exact ne_head (ne_tail (ne_tail (ne_tail g2))) | exact ne_head (ne_tail (ne_tail (ne_tail (ne_tail g2)))) | exact ne_chead g3 | exact ne_chead (ne_ctail g3) | exact ne_chead (ne_ctail (ne_ctail g3)) | exact ne_chead (ne_ctail (ne_ctail (ne_ctail g3))) | exact ne_chead (ne_ctail (ne_ctail (ne_ctail (ne_ctail g3)))) | exact ne_chead (ne_ctail (ne_ctail (ne_ctail (ne_ctail (ne_ctail g3))))) | exact ne_chead (ne_ctail (ne_ctail (ne_ctail (ne_ctail (ne_ctail (ne_ctail g3)))))) | exact ne_chead (ne_ctail (ne_ctail (ne_ctail (ne_ctail (ne_ctail (ne_ctail (ne_ctail g3))))))) | exact ne_chead (ne_ctail (ne_ctail (ne_ctail (ne_ctail (ne_ctail (ne_ctail (ne_ctail (ne_ctail g3)))))))) | exact ne_chead (ne_ctail (ne_ctail (ne_ctail (ne_ctail (ne_ctail (ne_ctail (ne_ctail (ne_ctail (ne_ctail g3))))))))) | exact ne_chead (ne_ctail (ne_ctail (ne_ctail (ne_ctail (ne_ctail (ne_ctail (ne_ctail (ne_ctail (ne_ctail (ne_ctail g3)))))))))))) ?_ | refine cont_stepR (by first | with_reducible exact g3 | ((repeat (refine cont_cons (by first | assumption | with_reducible (first | exact ne_head g2 | exact ne_head (ne_tail g2) | exact ne_head (ne_tail (ne_tail g2)) | exact ne_head (ne_tail (ne_tail (ne_tail g2))) | exact ne_head (ne_tail (ne_tail (ne_tail (ne_tail g2)))) | exact ne_chead g3 | exact ne_chead (ne_ctail g3) | exact ne_chead (ne_ctail (ne_ctail g3)) | exact ne_chead (ne_ctail (ne_ctail (ne_ctail g3))) | exact ne_chead (ne_ctail (ne_ctail (ne_ctail (ne_ctail g3)))) | exact ne_chead (ne_ctail (ne_ctail (ne_ctail (ne_ctail (ne_ctail g3))))) | exact ne_chead (ne_ctail (ne_ctail (ne_ctail (ne_ctail (ne_ctail (ne_ctail g3)))))) | exact ne_chead (ne_ctail (ne_ctail (ne_ctail (ne_ctail (ne_ctail (ne_ctail (ne_ctail g3))))))) | exact ne_chead (ne_ctail (ne_ctail (ne_ctail (ne_ctail (ne_ctail (ne_ctail (ne_ctail (ne_ctail g3)))))))) | exact ne_chead (ne_ctail (ne_ctail (ne_ctail (ne_ctail (ne_ctail (ne_ctail (ne_ctail (ne_ctail (ne_ctail g3))))))))) | exact ne_chead (ne_ctail (ne_ctail (ne_ctail (ne_ctail (ne_ctail (ne_ctail (ne_ctail (ne_ctail (ne_ctail (ne_ctail g3)))))))))))) ?_)); exact cont_nil)) ?_))
    · refine ⟨by simpa [rowsK] using pD9, rows_step pR9 hy hrx, fun q hq => ?_, ?_, ?_⟩
      · rcases List.mem_append.mp hq with q1 | q1
        · exact pd9 q (List.mem_append_left _ q1)
        · rcases List.mem_cons.mp q1 with q1 | q1
          · rw [q1]; exact lrd
          · exact pd9 q (by simp [q1])
      · simp only [List.length_append, List.length_cons] at hlen9 ⊢; omega
      · have := (List.getElem?_eq_some_iff.mp hy).1; omega
  case dn =>
    rintro ⟨D9, rs⟩ u h tk ⟨pD, pR, pd, pl, pi⟩ F N
    refine and4 l1 fun lM ldM llb lLr => ?_
    have lLr' := allLt_mem lLr
    have hRL : ∀ p ∈ rowsL rs ++ Lr, p.1 ≠ dM := fun p hp => by
      rcases List.mem_append.mp hp with q | q
      · obtain ⟨r, hr, rfl⟩ := List.mem_map.mp q
        exact Nat.ne_of_gt (Nat.lt_trans ldM (pd r hr))
      · exact hLr p q
    dsimp only [kstB] at F N pD pR pd pl ⊢
    k_steps
    rename_i jk kh led1 hs1 hz1 l9 kh2 F3 N3 kh4 kh5 tk1 pp kh6 led2 hs2 hz2 l10 kh7 kh8 kh9 F4 N4 tk2 kF kN Tc kX
    have e9 : xb.take vb.length = xb := by rw [hb.length]; exact List.take_length
    rw [e9] at pR
    have l9' := allLt_mem l9.2.2.2.2
    exact hret d2 D9 rs jk led1 pp led2 _ _ pD pR lo hz1 kF kN ⟨ldM, lM, llb⟩ lLr' l9.1 l10.1 (fun r hr => ⟨pd r hr, l9' _ (List.mem_append_left _ (rowsL_of hr))⟩)
end Mine
end

section
open PySem PySem.W PyProof.Rows PyProof.V PySem.Calls
namespace Mine
set_option hygiene false in
local macro_rules | `(tactic| k_ne) => `(tactic| (refine neN ?_; (try dsimp only); exact ad_ne))
local macro_rules | `(tactic| walk_at "compareOp Is ref str") => `(tactic| (k_here; refine wpAny_is_other (by rfl) (by intro x; cases x) ?_))
set_option hygiene false in
local macro_rules | `(tactic| k_all) => `(tactic| assumption)
set_option maxRecDepth 100000 in
set_option maxHeartbeats 8000000 in
theorem set_seq1_K (w : World) (mean : ExcName → Option Value) (mg mb : Str → Option Value) (dp un : Nat) (gd : Option (List Code)) (cn : Str) (cs : Scope) (a : Addr) (ccd : Value) (cl : List (Str × Addr)) (outer : List Env) (A₀ : Around) (base h₀ : Heap) (L : Addr) (m : Str → Option Value)
    (s : Shared) (Q E : Value → Shared → Prop) (H : Nat → Int) (T : Nat → Tok) (la : Addr) (na : Nat) (vla : List Value) (vb vmb vop vfb vb2j vjunk vpop : Value) (M dM la' : Addr) (na' : Nat) (va' : List Value) (Lr : List (Addr × Obj))
    (B : Below A₀ base outer h₀) (F : Fr h₀ L s.heap m) (X : (Mine.hd.heap_1 w.params).In h₀) (N : News h₀ L s.heap ((M, instObj 242 dM) :: (dM, dictOf (smE' H T (.ref la) vb vmb vop vfb vb2j vjunk vpop) 10) :: (la', W.listOf va'.toArray na') :: (la, W.listOf vla.toArray na) :: Lr))
    (hM : @Ne Nat M dM) (hMa : @Ne Nat la' dM) (hMl : @Ne Nat la dM) (hne : @Ne Nat la' la) (hLr : ∀ p ∈ Lr, p.1 ≠ dM)
    (Tp : Top Qv (looseW Qv looseL) mean mg mb h₀) (hk : cs.kind = .function)
    (hd : dp + 3 < recursionLimit) (hu : un + 20 < cLine)
    (hret : ∀ h' tk', Fr h₀ L h' m → News h₀ L h' ((M, instObj 242 dM) :: (dM, dictOf (smE' H T (.ref la') vb .none .none vfb vb2j vjunk vpop) 10) :: (la', W.listOf va'.toArray na') :: (la, W.listOf vla.toArray na) :: Lr) → Q .none { s with heap := h', toks := tk' }) :
    wpAny (model PySem.Challenge.rw_ik0096_01.row.prog w) (ktrTop dp un gd cn cs L a ccd cl outer) (call (.ref 174) [.ref M, .ref la']) Q E s := by
  revert X; k_fill; intro X
  refine wpAny_call ?_
  k_dflt (refine' code_def (binds := [(Str.ofString "self", Value.ref M), (Str.ofString "a", Value.ref la')]) ?k1 ?k2 ?k3 ?k4 ?k5 ?kA ?kF ?kK ?k6 ?k7 ?k8 ?k9 ?kB ?_ ?c2 ?c3 ?c4 ?c5; (case kA => exact rfl); (case kF => exact rfl); (case kK => assumption); (case k1 => k_asm); (case k2 => k_asm); (case k3 => k_asm); (case k4 => k_asm); (case k5 => k_asm); (case k6 => k_is); (case k7 => k_is); (case k8 => ktr_room); (case k9 => first | exact BindsTo.of_eq rfl | exact binds_K (by k_in) rfl (by k_is) rfl rfl rfl); (case c5 => decide); (case kB => exact locs rfl); (case c2 => exact rfl); (case c3 => exact rfl); (case c4 => exact rfl); k_whole; intro g' L' h' FG' F' N' B' X' T'; (try dsimp only); (try k_fold))
  k_steps
  exact hret _ _ (by k_asm) (by k_asm)
set_option maxRecDepth 100000 in
set_option maxHeartbeats 8000000 in
theorem set_seq1_S (w : World) (mean : ExcName → Option Value) (mg mb : Str → Option Value) (dp un : Nat) (gd : Option (List Code)) (cn : Str) (cs : Scope) (a : Addr) (ccd : Value) (cl : List (Str × Addr)) (outer : List Env) (A₀ : Around) (base h₀ : Heap) (L : Addr) (m : Str → Option Value)
    (s : Shared) (Q E : Value → Shared → Prop) (H : Nat → Int) (T : Nat → Tok) (ea : Str) (ta : Tok) (vb vmb vop vfb vb2j vjunk vpop : Value) (M dM la' : Addr) (na' : Nat) (va' : List Value) (Lr : List (Addr × Obj))
    (B : Below A₀ base outer h₀) (F : Fr h₀ L s.heap m) (X : (Mine.hd.heap_1 w.params).In h₀) (N : News h₀ L s.heap ((M, instObj 242 dM) :: (dM, dictOf (smE' H T (.str ea ta) vb vmb vop vfb vb2j vjunk vpop) 10) :: (la', W.listOf va'.toArray na') :: Lr))
    (hM : @Ne Nat M dM) (hMa : @Ne Nat la' dM)  (hLr : ∀ p ∈ Lr, p.1 ≠ dM)
    (Tp : Top Qv (looseW Qv looseL) mean mg mb h₀) (hk : cs.kind = .function)
    (hd : dp + 3 < recursionLimit) (hu : un + 20 < cLine)
    (hret : ∀ h' tk', Fr h₀ L h' m → News h₀ L h' ((M, instObj 242 dM) :: (dM, dictOf (smE' H T (.ref la') vb .none .none vfb vb2j vjunk vpop) 10) :: (la', W.listOf va'.toArray na') :: Lr) → Q .none { s with heap := h', toks := tk' }) :
    wpAny (model PySem.Challenge.rw_ik0096_01.row.prog w) (ktrTop dp un gd cn cs L a ccd cl outer) (call (.ref 174) [.ref M, .ref la']) Q E s := by
  revert X; k_fill; intro X
  refine wpAny_call ?_
  k_dflt (refine' code_def (binds := [(Str.ofString "self", Value.ref M), (Str.ofString "a", Value.ref la')]) ?k1 ?k2 ?k3 ?k4 ?k5 ?kA ?kF ?kK ?k6 ?k7 ?k8 ?k9 ?kB ?_ ?c2 ?c3 ?c4 ?c5; (case kA => exact rfl); (case kF => exact rfl); (case kK => assumption); (case k1 => k_asm); (case k2 => k_asm); (case k3 => k_asm); (case k4 => k_asm); (case k5 => k_asm); (case k6 => k_is); (case k7 => k_is); (case k8 => ktr_room); (case k9 => first | exact BindsTo.of_eq rfl | exact binds_K (by k_in) rfl (by k_is) rfl rfl rfl); (case c5 => decide); (case kB => exact locs rfl); (case c2 => exact rfl); (case c3 => exact rfl); (case c4 => exact rfl); k_whole; intro g' L' h' FG' F' N' B' X' T'; (try dsimp only); (try k_fold))
  k_steps
  exact hret _ _ (by k_asm) (by k_asm)
end Mine
end

section
open PySem PySem.W PyProof.Rows PyProof.V PySem.Calls
namespace Mine
set_option hygiene false in
local macro_rules | `(tactic| k_ne) => `(tactic| (refine neN ?_; (try dsimp only); exact ad_ne))
local macro_rules | `(tactic| walk_at "compareOp Is ref str") => `(tactic| (k_here; refine wpAny_is_other (by rfl) (by intro x; cases x) ?_))
set_option hygiene false in
local macro_rules | `(tactic| k_all) => `(tactic| assumption)
set_option hygiene false in
local macro_rules | `(tactic| walk_at "call ref") => `(tactic| with_reducible refine unstopR 188 ?_)
set_option maxRecDepth 100000 in
set_option maxHeartbeats 8000000 in
theorem set_seq2_K (w : World) (mean : ExcName → Option Value) (mg mb : Str → Option Value) (dp un : Nat) (gd : Option (List Code)) (cn : Str) (cs : Scope) (a : Addr) (ccd : Value) (cl : List (Str × Addr)) (outer : List Env) (A₀ : Around) (base h₀ : Heap) (L : Addr) (m : Str → Option Value)
    (s : Shared) (Q E : Value → Shared → Prop) (H : Nat → Int) (T : Nat → Tok) (lb : Addr) (nb : Nat) (vlb : List Value) (va vmb vop vfb vb2j vjunk vpop : Value) (M dM lb' : Addr) (nb' : Nat) (vb' : List Value) (xb : List Str) (Lr : List (Addr × Obj))
    (B : Below A₀ base outer h₀) (F : Fr h₀ L s.heap m) (X : (Mine.hd.heap_1 w.params).In h₀) (N : News h₀ L s.heap ((M, instObj 242 dM) :: (dM, dictOf (smE' H T va (.ref lb) vmb vop vfb vb2j vjunk vpop) 10) :: (lb', W.listOf vb'.toArray nb') :: (lb, W.listOf vlb.toArray nb) :: Lr))
    (hM : @Ne Nat M dM) (hMb : @Ne Nat lb' dM) (hMl : @Ne Nat lb dM) (hne : @Ne Nat lb' lb) (hLr : ∀ p ∈ Lr, p.1 ≠ dM) (hb : StrsAre vb' xb) (hsb : xb.length ≤ 4)
    (Tp : Top Qv (looseW Qv looseL) mean mg mb h₀) (hk : cs.kind = .function)
    (hd : dp + 4 < recursionLimit) (hu : un + 30 < cLine)
    (hret : ∀ d2 D2 rs jk led pp led2 h' tk', D2.IsDictOf (PySem.strKind PySem.Challenge.rw_ik0096_01.row.prog w) (rowsK rs) → RowsOk rs xb → (d2 == sysModules) = false →
      Obj.SetObjOf (PySem.strKind PySem.Challenge.rw_ik0096_01.row.prog w) { cls := .type "set", dict := none, data := .set #[] 0 (.fresh 0 0 led) } (fun _ => false) 0 → Fr h₀ L h' m →
      News h₀ L h' ((pp, { cls := .type "set", dict := none, data := .set #[] 0 (.fresh 0 0 led2) }) :: (jk, { cls := .type "set", dict := none, data := .set #[] 0 (.fresh 0 0 led) }) :: (d2, D2) :: (M, instObj 242 dM) :: (dM, dictOf (smE' H T va (.ref lb') .none .none .none (.ref d2) (.ref jk) (.ref pp)) 10) :: (lb', W.listOf vb'.toArray nb') :: (rowsL rs ++ (lb, W.listOf vlb.toArray nb) :: Lr)) →
      dM < d2 ∧ M < d2 ∧ lb' < d2 → (∀ p ∈ (lb, W.listOf vlb.toArray nb) :: Lr, p.1 < d2) → d2 < jk → jk < pp → (∀ r ∈ rs, d2 < r.l ∧ r.l < jk) → Q .none { s with heap := h', toks := tk' }) :
    wpAny (model PySem.Challenge.rw_ik0096_01.row.prog w) (ktrTop dp un gd cn cs L a ccd cl outer) (call (.ref 181) [.ref M, .ref lb']) Q E s := by
  revert X; k_fill; intro X
  have hLr' : ∀ p ∈ (lb, W.listOf vlb.toArray nb) :: Lr, p.1 ≠ dM := fun p hp => by rcases List.mem_cons.mp hp with q | q; (rw [q]; exact hMl); exact hLr p q
  refine wpAny_call ?_
  k_dflt (refine' code_def (binds := [(Str.ofString "self", Value.ref M), (Str.ofString "b", Value.ref lb')]) ?k1 ?k2 ?k3 ?k4 ?k5 ?kA ?kF ?kK ?k6 ?k7 ?k8 ?k9 ?kB ?_ ?c2 ?c3 ?c4 ?c5; (case kA => exact rfl); (case kF => exact rfl); (case kK => assumption); (case k1 => k_asm); (case k2 => k_asm); (case k3 => k_asm); (case k4 => k_asm); (case k5 => k_asm); (case k6 => k_is); (case k7 => k_is); (case k8 => ktr_room); (case k9 => first | exact BindsTo.of_eq rfl | exact binds_K (by k_in) rfl (by k_is) rfl rfl rfl); (case c5 => decide); (case kB => exact locs rfl); (case c2 => exact rfl); (case c3 => exact rfl); (case c4 => exact rfl); k_whole; intro g' L' h' FG' F' N' B' X' T'; (try dsimp only); (try k_fold))
  k_steps
  refine' chain_b_K w mean mg mb _ _ _ _ _ _ _ _ _ _ _ _ _ _ _ _ _ H T va lb' .none .none .none vb2j vjunk vpop nb' M dM vb' xb ((lb, W.listOf vlb.toArray nb) :: Lr) ?kB ?kF ?kX ?kN hM hMb hLr' hb hsb ?kT ?kk ?kd ?ku ?_
  case kB => k_asm
  case kF => k_asm
  case kX => k_asm
  case kN => k_asm
  case kT => k_asm
  case kk => rfl
  case kd => exact off_lt (m := 4) hd rfl
  case ku => exact off_lt (m := 23) hu rfl
  intro d2 D2 rs jk led pp led2 h9 tk9 z1 z2 z3 z4 F9 N9 z5 z6 z7 z8 z9
  k_steps
  exact hret d2 D2 rs jk led pp led2 _ _ z1 z2 z3 z4 (by k_asm) (by k_asm) z5 z6 z7 z8 z9
set_option maxRecDepth 100000 in
set_option maxHeartbeats 8000000 in
theorem set_seq2_S (w : World) (mean : ExcName → Option Value) (mg mb : Str → Option Value) (dp un : Nat) (gd : Option (List Code)) (cn : Str) (cs : Scope) (a : Addr) (ccd : Value) (cl : List (Str × Addr)) (outer : List Env) (A₀ : Around) (base h₀ : Heap) (L : Addr) (m : Str → Option Value)
    (s : Shared) (Q E : Value → Shared → Prop) (H : Nat → Int) (T : Nat → Tok) (eb : Str) (tb : Tok) (va vmb vop vfb vb2j vjunk vpop : Value) (M dM lb' : Addr) (nb' : Nat) (vb' : List Value) (xb : List Str) (Lr : List (Addr × Obj))
    (B : Below A₀ base outer h₀) (F : Fr h₀ L s.heap m) (X : (Mine.hd.heap_1 w.params).In h₀) (N : News h₀ L s.heap ((M, instObj 242 dM) :: (dM, dictOf (smE' H T va (.str eb tb) vmb vop vfb vb2j vjunk vpop) 10) :: (lb', W.listOf vb'.toArray nb') :: Lr))
    (hM : @Ne Nat M dM) (hMb : @Ne Nat lb' dM)  (hLr : ∀ p ∈ Lr, p.1 ≠ dM) (hb : StrsAre vb' xb) (hsb : xb.length ≤ 4)
    (Tp : Top Qv (looseW Qv looseL) mean mg mb h₀) (hk : cs.kind = .function)
    (hd : dp + 4 < recursionLimit) (hu : un + 30 < cLine)
    (hret : ∀ d2 D2 rs jk led pp led2 h' tk', D2.IsDictOf (PySem.strKind PySem.Challenge.rw_ik0096_01.row.prog w) (rowsK rs) → RowsOk rs xb → (d2 == sysModules) = false →
      Obj.SetObjOf (PySem.strKind PySem.Challenge.rw_ik0096_01.row.prog w) { cls := .type "set", dict := none, data := .set #[] 0 (.fresh 0 0 led) } (fun _ => false) 0 → Fr h₀ L h' m →
      News h₀ L h' ((pp, { cls := .type "set", dict := none, data := .set #[] 0 (.fresh 0 0 led2) }) :: (jk, { cls := .type "set", dict := none, data := .set #[] 0 (.fresh 0 0 led) }) :: (d2, D2) :: (M, instObj 242 dM) :: (dM, dictOf (smE' H T va (.ref lb') .none .none .none (.ref d2) (.ref jk) (.ref pp)) 10) :: (lb', W.listOf vb'.toArray nb') :: (rowsL rs ++ Lr)) →
      dM < d2 ∧ M < d2 ∧ lb' < d2 → (∀ p ∈ Lr, p.1 < d2) → d2 < jk → jk < pp → (∀ r ∈ rs, d2 < r.l ∧ r.l < jk) → Q .none { s with heap := h', toks := tk' }) :
    wpAny (model PySem.Challenge.rw_ik0096_01.row.prog w) (ktrTop dp un gd cn cs L a ccd cl outer) (call (.ref 181) [.ref M, .ref lb']) Q E s := by
  revert X; k_fill; intro X
  have hLr' : ∀ p ∈ Lr, p.1 ≠ dM := hLr
  refine wpAny_call ?_
  k_dflt (refine' code_def (binds := [(Str.ofString "self", Value.ref M), (Str.ofString "b", Value.ref lb')]) ?k1 ?k2 ?k3 ?k4 ?k5 ?kA ?kF ?kK ?k6 ?k7 ?k8 ?k9 ?kB ?_ ?c2 ?c3 ?c4 ?c5; (case kA => exact rfl); (case kF => exact rfl); (case kK => assumption); (case k1 => k_asm); (case k2 => k_asm); (case k3 => k_asm); (case k4 => k_asm); (case k5 => k_asm); (case k6 => k_is); (case k7 => k_is); (case k8 => ktr_room); (case k9 => first | exact BindsTo.of_eq rfl | exact binds_K (by k_in) rfl (by k_is) rfl rfl rfl); (case c5 => decide); (case kB => exact locs rfl); (case c2 => exact rfl); (case c3 => exact rfl); (case c4 => exact rfl); k_whole; intro g' L' h' FG' F' N' B' X' T'; (try dsimp only); (try k_fold))
  k_steps
  refine' chain_b_K w mean mg mb _ _ _ _ _ _ _ _ _ _ _ _ _ _ _ _ _ H T va lb' .none .none .none vb2j vjunk vpop nb' M dM vb' xb (Lr) ?kB ?kF ?kX ?kN hM hMb hLr' hb hsb ?kT ?kk ?kd ?ku ?_
  case kB => k_asm
  case kF => k_asm
  case kX => k_asm
  case kN => k_asm
  case kT => k_asm
  case kk => rfl
  case kd => exact off_lt (m := 4) hd rfl
  case ku => exact off_lt (m := 23) hu rfl
  intro d2 D2 rs jk led pp led2 h9 tk9 z1 z2 z3 z4 F9 N9 z5 z6 z7 z8 z9
  k_steps
  exact hret d2 D2 rs jk led pp led2 _ _ z1 z2 z3 z4 (by k_asm) (by k_asm) z5 z6 z7 z8 z9
end Mine
end

section
open PySem PySem.W PyProof.Rows PyProof.V PySem.Calls
namespace Mine
set_option hygiene false in
local macro_rules | `(tactic| k_ne) => `(tactic| (refine neN ?_; (try dsimp only); exact ad_ne))
set_option hygiene false in
local macro_rules | `(tactic| k_all) => `(tactic| assumption)
noncomputable abbrev tk10 {α : Type} (a b c d e f g h i j : α) (n : Nat) : α := match n with | 0 => a | 1 => b | 2 => c | 3 => d | 4 => e | 5 => f | 6 => g | 7 => h | 8 => i | _ => j
local macro_rules | `(tactic| walk_at "compareOp Is ref str") => `(tactic| (k_here; refine wpAny_is_other (by rfl) (by intro x; cases x) ?_))
set_option maxRecDepth 100000 in
set_option maxHeartbeats 8000000 in
theorem sm_new_K (w : World) (mean : ExcName → Option Value) (mg mb : Str → Option Value) (dp un : Nat) (gd : Option (List Code)) (cn : Str) (cs : Scope) (a : Addr) (ccd : Value) (cl : List (Str × Addr)) (outer : List Env) (A₀ : Around) (base h₀ : Heap) (L : Addr) (m : Str → Option Value)
    (s : Shared) (Led : List (Addr × Obj)) (Q E : Value → Shared → Prop)
    (B : Below A₀ base outer h₀) (F : Fr h₀ L s.heap m) (X : (Mine.hd.heap_1 w.params).In h₀) (N : News h₀ L s.heap Led)
    (Tp : Top Qv (looseW Qv looseL) mean mg mb h₀) (hk : cs.kind = .function)
    (hd : dp + 6 < recursionLimit) (hu : un + 60 < cLine)
    (hret : ∀ H T x dx d2 o2 jk led pp led2 h' tk', Fr h₀ L h' m → News h₀ L h' ((pp, { cls := .type "set", dict := none, data := .set #[] 0 (.fresh 0 0 led2) }) :: (jk, { cls := .type "set", dict := none, data := .set #[] 0 (.fresh 0 0 led) }) :: (d2, o2) :: (x, instObj 242 dx) :: (dx, dictOf (smE' H T (.str (Str.ofString "") 404) (.str (Str.ofString "") 405) .none .none .none (.ref d2) (.ref jk) (.ref pp)) 10) :: Led) →
      (∀ p ∈ Led, p.1 < dx) → dx < x → x < d2 → d2 < jk → jk < pp → Q (.ref x) { s with heap := h', toks := tk' }) :
    wpAny (model PySem.Challenge.rw_ik0096_01.row.prog w) (ktrTop dp un gd cn cs L a ccd cl outer) (call (.ref 242) [.none]) Q E s := by
  revert X; k_fill; intro X
  refine wpAny_call ?_
  refine' make_K F N (X.keeps F.keep) ?hm ?hi ?hf ?_
  case hm => k_is
  case hi => k_is
  case hf => k_is
  intro x dx h1 F1 N1 l1 l2
  have l3 : @LT.lt Nat _ dx x := l2
  have N2 : News h₀ L h1 ((x, instObj 242 dx) :: (dx, dictOf [] 0) :: Led) := N1
  clear N1
  have hLd : ∀ p ∈ Led, p.1 ≠ dx := fun p hp => Nat.ne_of_lt (l1 p hp)
  k_dflt (refine' code_def (binds := [(Str.ofString "self", Value.ref x), (Str.ofString "isjunk", Value.none), (Str.ofString "a", Value.str (Str.ofString "") 404), (Str.ofString "b", Value.str (Str.ofString "") 405), (Str.ofString "autojunk", Value.bool true)]) ?k1 ?k2 ?k3 ?k4 ?k5 ?kA ?kF ?kK ?k6 ?k7 ?k8 ?k9 ?kB ?_ ?c2 ?c3 ?c4 ?c5; (case kA => exact rfl); (case kF => exact rfl); (case kK => first | assumption | rfl); (case k1 => k_asm); (case k2 => k_asm); (case k3 => k_asm); (case k4 => k_asm); (case k5 => k_asm); (case k6 => k_is); (case k7 => k_is); (case k8 => ktr_room); (case k9 => first | exact BindsTo.of_eq rfl | exact binds_K (by k_in) rfl (by k_is) rfl rfl rfl); (case c5 => decide); (case kB => exact locs rfl); (case c2 => exact rfl); (case c3 => exact rfl); (case c4 => exact rfl); k_whole; intro g' L' h' FG' F' N' B' X' T'; (try dsimp only); (try k_fold))
  k_steps
  refine wpAny_call ?_
  k_dflt (refine' code_def (binds := [(Str.ofString "self", Value.ref x), (Str.ofString "a", Value.str (Str.ofString "") 404), (Str.ofString "b", Value.str (Str.ofString "") 405)]) ?k1 ?k2 ?k3 ?k4 ?k5 ?kA ?kF ?kK ?k6 ?k7 ?k8 ?k9 ?kB ?_ ?c2 ?c3 ?c4 ?c5; (case kA => exact rfl); (case kF => exact rfl); (case kK => first | assumption | rfl); (case k1 => k_asm); (case k2 => k_asm); (case k3 => k_asm); (case k4 => k_asm); (case k5 => k_asm); (case k6 => k_is); (case k7 => k_is); (case k8 => ktr_room); (case k9 => first | exact BindsTo.of_eq rfl | exact binds_K (by k_in) rfl (by k_is) rfl rfl rfl); (case c5 => decide); (case kB => exact locs rfl); (case c2 => exact rfl); (case c3 => exact rfl); (case c4 => exact rfl); k_whole; intro g2 L2 h2 FG2 F2 N2 B2 X2 T2; (try dsimp only); (try k_fold))
  k_steps
  refine wpAny_call ?_
  k_dflt (refine' code_def (binds := [(Str.ofString "self", Value.ref x), (Str.ofString "a", Value.str (Str.ofString "") 404)]) ?k1 ?k2 ?k3 ?k4 ?k5 ?kA ?kF ?kK ?k6 ?k7 ?k8 ?k9 ?kB ?_ ?c2 ?c3 ?c4 ?c5; (case kA => exact rfl); (case kF => exact rfl); (case kK => first | assumption | rfl); (case k1 => k_asm); (case k2 => k_asm); (case k3 => k_asm); (case k4 => k_asm); (case k5 => k_asm); (case k6 => k_is); (case k7 => k_is); (case k8 => ktr_room); (case k9 => first | exact BindsTo.of_eq rfl | exact binds_K (by k_in) rfl (by k_is) rfl rfl rfl); (case c5 => decide); (case kB => exact locs rfl); (case c2 => exact rfl); (case c3 => exact rfl); (case c4 => exact rfl); k_whole; intro g3 L3 h3 FG3 F3 N3 B3 X3 T3; (try dsimp only); (try k_fold))
  k_steps
  refine wpAny_call ?_
  k_dflt (refine' code_def (binds := [(Str.ofString "self", Value.ref x), (Str.ofString "b", Value.str (Str.ofString "") 405)]) ?k1 ?k2 ?k3 ?k4 ?k5 ?kA ?kF ?kK ?k6 ?k7 ?k8 ?k9 ?kB ?_ ?c2 ?c3 ?c4 ?c5; (case kA => exact rfl); (case kF => exact rfl); (case kK => first | assumption | rfl); (case k1 => k_asm); (case k2 => k_asm); (case k3 => k_asm); (case k4 => k_asm); (case k5 => k_asm); (case k6 => k_is); (case k7 => k_is); (case k8 => ktr_room); (case k9 => first | exact BindsTo.of_eq rfl | exact binds_K (by k_in) rfl (by k_is) rfl rfl rfl); (case c5 => decide); (case kB => exact locs rfl); (case c2 => exact rfl); (case c3 => exact rfl); (case c4 => exact rfl); k_whole; intro g4 L4 h4 FG4 F4 N4 B4 X4 T4; (try dsimp only); (try k_fold))
  k_steps
  refine wpAny_call ?_
  k_dflt (refine' code_def (binds := [(Str.ofString "self", Value.ref x)]) ?k1 ?k2 ?k3 ?k4 ?k5 ?kA ?kF ?kK ?k6 ?k7 ?k8 ?k9 ?kB ?_ ?c2 ?c3 ?c4 ?c5; (case kA => exact rfl); (case kF => exact rfl); (case kK => first | assumption | rfl); (case k1 => k_asm); (case k2 => k_asm); (case k3 => k_asm); (case k4 => k_asm); (case k5 => k_asm); (case k6 => k_is); (case k7 => k_is); (case k8 => ktr_room); (case k9 => first | exact BindsTo.of_eq rfl | exact binds_K (by k_in) rfl (by k_is) rfl rfl rfl); (case c5 => decide); (case kB => exact locs rfl); (case c2 => exact rfl); (case c3 => exact rfl); (case c4 => exact rfl); k_whole; intro g5 L5 h5 FG5 F5 N5 B5 X5 T5; (try dsimp only); (try k_fold))
  k_steps
  rename PairSrcL _ _ _ _ _ _ _ _ _ _ _ _ => S
  rename Fr _ _ _ _ => FS
  rename News _ _ _ _ => NS
  refine (S.at _ rfl) _ _ _ _ (fun _ m' n' => m' = _ ∧ n' = _) ⟨rfl, rfl⟩ ?st ?dn
  case st =>
    intro i a t v m₁ news₁ s₁ own _ ha
    have e : signs (Str.ofString "") = [] := by first | rfl | decide | kernel_rfl
    rw [e] at ha
    exact absurd ha (by simp)
  case dn =>
    rintro h9 tk9 m9 n9 F9 N9 _ ⟨rfl, rfl⟩
    k_steps
    rename (_ < _ ∧ _ < _ ∧ AllLt _ _) => p1
    rename (_ < _ ∧ _ < _ ∧ _ < _ ∧ AllLt _ _) => p2
    rename (_ < _ ∧ _ < _ ∧ _ < _ ∧ _ < _ ∧ AllLt _ _) => p3
    rename Fr _ _ _ _ => kF
    rename News _ _ _ _ => kN
    exact hret (tk10 _ _ _ _ _ _ _ _ _ _) (tk10 _ _ _ _ _ _ _ _ _ _) x dx _ _ _ _ _ _ _ _ kF kN l1 l3 p1.1 p2.1 p3.1
end Mine
end

section
open PySem PySem.W PyProof.Rows PyProof.V PySem.Calls Builtin Builtin.ObjectAttr Builtin.Getset_descriptor
set_option maxRecDepth 100000
set_option maxHeartbeats 4000000
namespace Mine
/-- a class over tuple: what its instances' special names find -/
noncomputable def tupCls (K : Frag) (C : Addr) : Bool := makesOwn K C && (findIn K (.ref C) "__iter__" == some (some (.builtin "tuple.__iter__")) && (findIn K (.ref C) "__len__" == some (some (.builtin "tuple.__len__")) &&
  (findIn K (.ref C) "__eq__" == some (some (.builtin "tuple.__eq__")) && findIn K (.ref C) "__lt__" == some (some (.builtin "tuple.__lt__")))))
structure TupCls (M : Model) (h : Heap) (C : Addr) : Prop where
  tup : Looks M h (isSubtype (.ref C) (.type "tuple")) true
  iter : Looks M h (typeLookup (.ref C) "__iter__") (some (.builtin "tuple.__iter__"))
  len : Looks M h (typeLookup (.ref C) "__len__") (some (.builtin "tuple.__len__"))
  eq : Looks M h (typeLookup (.ref C) "__eq__") (some (.builtin "tuple.__eq__"))
  lt : Looks M h (typeLookup (.ref C) "__lt__") (some (.builtin "tuple.__lt__"))
theorem tupCls_of {K : Frag} {M : Model} {h : Heap} {C : Addr} (X : K.In h) (e : tupCls K C = true) : TupCls M h C := by
  unfold tupCls at e
  simp only [Bool.and_eq_true, beq_iff_eq] at e
  obtain ⟨e0, e1, e2, e3, e4⟩ := e
  exact ⟨(makesOwn_of X e0).tup, looks_findIn X e1, looks_findIn X e2, looks_findIn X e3, looks_findIn X e4⟩
theorem TupCls.keeps {M : Model} {h h' : Heap} {C : Addr} (T : TupCls M h C) (k : ∀ b o, h.get? b = some o → h'.get? b = some o) : TupCls M h' C :=
  ⟨T.tup.keeps k, T.iter.keeps k, T.len.keeps k, T.eq.keeps k, T.lt.keeps k⟩
/-- an object of a class over tuple with its items -/
structure TupObj (h : Heap) (C x : Addr) (items : Array Value) : Prop where
  at' : ∃ o n, h.get? x = some o ∧ o.cls = .ref C ∧ o.data = .seq items n
theorem TupObj.type {M : Model} {h : Heap} {C x : Addr} {items : Array Value} (T : TupObj h C x items) : Looks M h (typeOf (.ref x)) (.ref C) := by
  obtain ⟨o, n, h1, h2, h3⟩ := T
  exact h2 ▸ (Looks.ld h1).andThen .now
theorem TupObj.keeps {h h' : Heap} {C x : Addr} {items : Array Value} (T : TupObj h C x items) (k : ∀ o, h.get? x = some o → h'.get? x = some o) : TupObj h' C x items := by
  obtain ⟨o, n, h1, h2, h3⟩ := T
  exact ⟨o, n, k _ h1, h2, h3⟩
theorem TupObj.lt {h : Heap} {C x : Addr} {items : Array Value} (T : TupObj h C x items) : x < h.objs.size := by
  obtain ⟨o, n, h1, h2, h3⟩ := T
  exact Heap.lt_size h1
section
variable {prog : Program} {w : World} {A : Around} {C x : Addr} {s : Shared} {E : Value → Shared → Prop} {items : Array Value}
theorem tup_call {id n : String} {B : Builtin} {rest : List Value} {Q : Value → Shared → Prop} (T : TupObj s.heap C x items) (Y : TupCls (model prog w) s.heap C)
    (kind : builtinKind id = some .slot) (split : splitId id = some ("tuple", n)) (pl : plainId id = true) (en : entryFor table id = some B) (ha : argsOk id ⟨.ref x :: rest, []⟩)
    (h : wpAny (model prog w) A.in1 (B ⟨.ref x :: rest, []⟩) (fun fin s' => ∃ v, fin = .done (.ret v) ∧ Q v s') E s) : wpAny (model prog w) A (call (.builtin id) (.ref x :: rest)) Q E s := by
  have t2 : Looks (model prog w) s.heap (isInstance (.ref x) (.type "tuple")) true := (T.type (M := model prog w)).andThen Y.tup
  refine wpAny_call (codeAny_call_builtin pl en (check_slot kind split t2 ha (wpAny_mono h (fun fin s' h' => ?_) fun _ _ h' => h')))
  obtain ⟨v, rfl, hv⟩ := h'; exact hv
theorem tup_items {Q : Array Value → Shared → Prop} (T : TupObj s.heap C x items) (h : Q items s) : wpAny (model prog w) A (Tuple.tupleItemsOf (.ref x)) Q E s := by
  obtain ⟨o, n, h1, h2, h3⟩ := T
  unfold Tuple.tupleItemsOf
  exact wpAny_bind (wpAny_seqItems h1 h3 (wpAny_pure h))
theorem sp_unless {M : Model} {self : Value} {name : Str} {id : String} {refuse : Sem Value} {Q : Option Value → Shared → Prop} (l1 : Looks M s.heap (specialOf self name) (some (.builtin id))) (hb : ∀ v, bindSpecial (.builtin id) v = pure (.builtin id, [v]))
    (hc : wpAny M A (call (.builtin id) [self]) (fun v => Q (some v)) E s) : wpAny M A (callSpecialIfBoundUnlessNone? self name refuse) Q E s := by
  simp only [callSpecialIfBoundUnlessNone?, bindSpecialIfBound?]
  refine wpAny_holding (wpAny_bind (wpAny_bind (l1.here ?_)))
  simp only [hb]
  refine wpAny_bind (wpAny_askSetting (wpAny_ite ?_))
  have fin : wpAny M A (if (Value.builtin id == Value.none) = true then refuse >>= fun v => pure (some v) else call (.builtin id) [self] >>= fun v => pure (some v)) Q E s := by
    rw [builtin_beq_none, if_neg Bool.false_ne_true]
    exact wpAny_bind (wpAny_mono hc (fun v s' h' => wpAny_pure h') fun _ _ h' => h')
  split
  · exact wpAny_bind (wpAny_pure (wpAny_pure fin))
  · exact wpAny_tryCatch (wpAny_bind (wpAny_pure (wpAny_pure fin)))
theorem sp_bound {M : Model} {self : Value} {name : Str} {id : String} {args : List Value} {Q : Option Value → Shared → Prop} (l1 : Looks M s.heap (specialOf self name) (some (.builtin id))) (hb : ∀ v, bindSpecial (.builtin id) v = pure (.builtin id, [v]))
    (hc : wpAny M A (call (.builtin id) (self :: args)) (fun v => Q (some v)) E s) : wpAny M A (callSpecialIfBound? self name args) Q E s := by
  simp only [callSpecialIfBound?, bindSpecialIfBound?]
  refine wpAny_holding (wpAny_bind (wpAny_bind (l1.here ?_)))
  simp only [hb]
  refine wpAny_bind (wpAny_askSetting (wpAny_ite ?_))
  have fin : wpAny M A (call (.builtin id) ([self] ++ args) >>= fun v => pure (some v)) Q E s :=
    wpAny_bind (wpAny_mono hc (fun v s' h' => wpAny_pure h') fun _ _ h' => h')
  split
  · exact wpAny_bind (wpAny_pure (wpAny_pure fin))
  · exact wpAny_tryCatch (wpAny_bind (wpAny_pure (wpAny_pure fin)))
theorem tup_iter {Q : Value → Shared → Prop} (T : TupObj s.heap C x items) (Y : TupCls (model prog w) s.heap C)
    (hQ : Q (.ref s.heap.objs.size) { s with heap := s.heap.push { cls := .type "tuple_iterator", data := .fields #[.ref x, .int 0 0] } }) :
    wpAny (model prog w) A (pyIter (.ref x)) Q E s := by
  have l1 : Looks (model prog w) s.heap (specialOf (.ref x) "__iter__") (some (.builtin "tuple.__iter__")) := (T.type (M := model prog w)).andThen Y.iter
  unfold pyIter
  refine wpAny_bind (l1.here ?_)
  show wpAny _ _ (callSpecialIfBoundUnlessNone? (.ref x) "__iter__" _ >>= _) _ _ s
  refine wpAny_bind (sp_unless l1 PySem.F.slot_tuple_iter.bind (tup_call T Y (by decide +kernel) (n := "__iter__") (by decide +kernel) (by decide +kernel) PySem.F.entry_tuple_iter (PySem.F.args_tuple_iter_1 _) ?_))
  show wpAny _ _ (do ret (← newFields "tuple_iterator" [.ref x, rawInt 0])) _ _ s
  refine wpAny_bind (wpAny_newObj_type (wpAny_pure ⟨_, rfl, ?_⟩))
  exact wpAny_bind (wpAny_specialOf (T := "tuple_iterator") ⟨_, Heap.get?_push_size _ rfl, rfl⟩ PySem.F.slot_tuple_iterator_next.lookup (wpAny_pure hQ))
noncomputable def TupIt (h : Heap) (it x : Addr) (i : Nat) : Prop := h.IsTupleIter it x i
theorem tup_next {it : Addr} {i : Nat} {v : Value} {Q : Option Value → Shared → Prop} (hit : s.heap.IsTupleIter it x i) (T : TupObj s.heap C x items) (hx : items[i]? = some v)
    (hQ : ∀ h', h'.IsTupleIter it x (i + 1) → Heap.SameBut it s.heap h' → Q (some v) { s with heap := h' }) : wpAny (model prog w) A (pyNext (.ref it)) Q E s := by
  obtain ⟨o, ho, hc, hd⟩ := id hit
  obtain ⟨ol, nl, hol, _, hdl⟩ := T
  unfold pyNext
  refine wpAny_bind (wpAny_attempt (wpAny_callSpecial?_slot (name := Str.ofString "__next__") hit.typeIs PySem.F.slot_tuple_iterator_next
    (wpAny_call_entry PySem.F.slot_tuple_iterator_next hit.typeIs PySem.F.entry_tuple_iterator_next ?_ (PySem.F.args_tuple_iterator_next_1 _))))
  show wpAny _ _ (field (.ref it) 0 >>= _) _ _ s
  refine wpAny_bind (wpAny_field ho hd (x := .ref x) rfl ?_)
  show wpAny _ _ (if (Value.ref x == Value.none) = true then _ else _) _ _ s
  rw [if_neg (show ¬ ((Value.ref x == Value.none) = true) from Bool.false_ne_true)]
  show wpAny _ _ (field (.ref it) 1 >>= _) _ _ s
  refine wpAny_bind (wpAny_field ho hd (x := .int i 0) rfl ?_)
  show wpAny _ _ (seqItems? (.ref x) >>= _) _ _ s
  refine wpAny_bind (wpAny_seqItems hol hdl ?_)
  simp only [Int.toNat_natCast, hx]
  refine wpAny_bind (wpAny_setField ho hd (by simp) (wpAny_pure ⟨v, rfl, wpAny_pure (hQ _ ?_ (Heap.SameBut.update ..))⟩))
  exact ⟨_, Heap.get?_update_self _ ho (Obj.isFreed_of_fields (Obj.data_mapFields hd _)), (Obj.cls_mapFields ..).trans hc, by
    rw [Obj.data_mapFields hd]; simp [rawInt]⟩
theorem tup_stop {it : Addr} {i : Nat} {Q : Option Value → Shared → Prop} (hh : A.handled = none) (hit : s.heap.IsTupleIter it x i) (T : TupObj s.heap C x items) (hx : items[i]? = none)
    (hQ : ∀ h', Heap.ExtBut it s.heap h' → Q none { s with heap := h' }) : wpAny (model prog w) A (pyNext (.ref it)) Q E s := by
  obtain ⟨o, ho, hc, hd⟩ := id hit
  obtain ⟨ol, nl, hol, _, hdl⟩ := T
  unfold pyNext
  refine wpAny_bind (wpAny_attempt (wpAny_callSpecial?_slot (name := Str.ofString "__next__") hit.typeIs PySem.F.slot_tuple_iterator_next
    (wpAny_call_entry PySem.F.slot_tuple_iterator_next hit.typeIs PySem.F.entry_tuple_iterator_next ?_ (PySem.F.args_tuple_iterator_next_1 _))))
  show wpAny _ _ (field (.ref it) 0 >>= _) _ _ s
  refine wpAny_bind (wpAny_field ho hd (x := .ref x) rfl ?_)
  show wpAny _ _ (if (Value.ref x == Value.none) = true then _ else _) _ _ s
  rw [if_neg (show ¬ ((Value.ref x == Value.none) = true) from Bool.false_ne_true)]
  show wpAny _ _ (field (.ref it) 1 >>= _) _ _ s
  refine wpAny_bind (wpAny_field ho hd (x := .int i 0) rfl ?_)
  show wpAny _ _ (seqItems? (.ref x) >>= _) _ _ s
  refine wpAny_bind (wpAny_seqItems hol hdl ?_)
  simp only [Int.toNat_natCast, hx]
  refine wpAny_bind (wpAny_rule (wpAny_bind (wpAny_setField ho hd (by simp) ?_)))
  show wpAny _ _ (newExc (.type "StopIteration") [] >>= _) _ _ _
  refine wpAny_bind ?_
  simp only [newExc, newTuple]
  refine wpAny_bind (wpAny_newObj_type ?_ (by size_fits))
  refine wpAny_bind (m := firstArgMember _ _) (wpAny_of_eq (a := Value.none) (by first | rfl | (simp only [firstArgMember]; rfl)) ?_)
  refine wpAny_newObj_type ?_ (by size_fits)
  simp only [raiseNew]
  refine wpAny_bind (wpAny_handled ?_)
  first | rw [show A.in1.handled = none from hh] | rw [hh]
  refine wpAny_bind (wpAny_pure (wpAny_throw ?_))
  refine wpAny_bind (wpAny_isInstance (T := "StopIteration") (b := true) ⟨_, Heap.get?_push_size _ rfl, rfl⟩ isSubtype_stop ?_)
  exact wpAny_pure (hQ _ (((Heap.SameBut.update ..).extBut.push _).push _))
theorem tup_draw {it : Addr} (hne : x ≠ it) : ∀ (n i : Nat) (s : Shared) (Q : List Value → Shared → Prop), s.heap.IsTupleIter it x i → TupObj s.heap C x items → i + n ≤ items.size →
    (∀ h', h'.IsTupleIter it x (i + n) → Heap.SameBut it s.heap h' → Q ((items.toList.drop i).take n) { s with heap := h' }) → wpAny (model prog w) A (draw (.ref it) n) Q E s
  | 0, i, s, Q, hit, _, _, hQ => by
    show wpAny _ _ (pure []) Q E s
    exact wpAny_pure (by simpa using hQ s.heap hit (Heap.SameBut.refl ..))
  | n + 1, i, s, Q, hit, T, hle, hQ => by
    have hlt : i < items.size := by omega
    show wpAny _ _ (pyNext (.ref it) >>= _) Q E s
    refine wpAny_bind (tup_next hit T (v := items[i]) (by simp [hlt]) fun h₁ hit₁ hs₁ => ?_)
    refine wpAny_bind (wpAny_holding (tup_draw hne n (i + 1) _ _ hit₁ (T.keeps fun o e => hs₁.extBut x o hne e) (by omega) fun h₂ hit₂ hs₂ => wpAny_pure ?_))
    have hd : items.toList.drop i = items[i] :: items.toList.drop (i + 1) := by simp [List.drop_eq_getElem_cons, hlt]
    have := hQ h₂ (by rw [show i + (n + 1) = i + 1 + n by omega]; exact hit₂) (hs₁.trans hs₂)
    rw [hd, List.take_succ_cons] at this
    exact this
theorem tup_unpackItems {Q : List Value → Shared → Prop} (hh : A.handled = none) (T : TupObj s.heap C x items) (Y : TupCls (model prog w) s.heap C)
    (hQ : ∀ h', Heap.ExtBut s.heap.objs.size s.heap h' → Q items.toList { s with heap := h' }) : wpAny (model prog w) A (unpackItems (.ref x) items.size none) Q E s := by
  have hlt : x ≠ s.heap.objs.size := Nat.ne_of_lt T.lt
  have l1 : Looks (model prog w) s.heap (specialOf (.ref x) "__iter__") (some (.builtin "tuple.__iter__")) := (T.type (M := model prog w)).andThen Y.iter
  unfold unpackItems
  refine wpAny_bind ?_
  unfold notIterableAtAll
  refine wpAny_bind (l1.here ?_)
  refine wpAny_pure ?_
  simp only [Bool.false_eq_true, if_false]
  refine wpAny_bind (wpAny_holding (tup_iter T Y ?_))
  refine wpAny_bind (wpAny_holding (tup_draw (items := items) hlt items.size 0 _ _ ⟨_, Heap.get?_push_size _ rfl, rfl, rfl⟩ (T.keeps fun o e => Heap.get?_push_of_some _ e) (by omega) fun h₁ hit₁ hs₁ => ?_))
  have hall : List.take items.size (List.drop 0 items.toList) = items.toList := by
    rw [List.drop_zero]; exact List.take_of_length_le (by simp)
  rw [hall]
  rw [if_neg (by simp)]
  refine wpAny_bind (wpAny_holding (tup_stop hh hit₁ (T.keeps fun o e => hs₁.extBut x o hlt (Heap.get?_push_of_some _ e)) (by simp) fun h₂ he₂ => ?_))
  simp only [Option.isSome_none, Bool.false_eq_true, if_false]
  exact wpAny_pure (hQ h₂ fun b o hb e => he₂ b o hb (hs₁.extBut b o hb (Heap.get?_push_of_some _ e)))
end
section
variable {prog : Program} {w : World} {A : Around} {C x : Addr} {s : Shared} {E : Value → Shared → Prop} {items : Array Value} {K : Frag} {h₀ : Heap} {L : Addr} {m : Str → Option Value} {news : List (Addr × Obj)} {elts : List Expr} {k : Nat} {pos : Pos} {env : Env}
theorem tupAt {ox : Obj} {n : Nat} {h : Heap} (N : News h₀ L h news) (hm : (x, ox) ∈ news) (hc : ox.cls = .ref C) (hd : ox.data = .seq items n) : TupObj h C x items := ⟨ox, n, (N _ hm).1, hc, hd⟩
theorem tup_unpackN {ox : Obj} {n j : Nat} {Q : List Value → Shared → Prop} (F : Fr h₀ L s.heap m) (N : News h₀ L s.heap news) (X₀ : K.In h₀) (hy : tupCls K C = true) (hm : (x, ox) ∈ news) (hc : ox.cls = .ref C) (hd : ox.data = .seq items n) (hh : A.handled = none) (hn : j = items.size)
    (h : ∀ h', Fr h₀ L h' m → News h₀ L h' news → Q items.toList { s with heap := h' }) : wpAny (model prog w) A (unpackItems (.ref x) j none) Q E s := by
  subst hn
  exact tup_unpackItems hh (tupAt N hm hc hd) (tupCls_of (X₀.keeps F.keep) hy) fun h' he => h h' (F.extBut he (Nat.le_refl _)) (N.extBut he (Nat.le_refl _))
theorem tup_assign {ox : Obj} {n : Nat} {Q : Unit → Shared → Prop} (F : Fr h₀ L s.heap m) (N : News h₀ L s.heap news) (X₀ : K.In h₀) (hy : tupCls K C = true) (hm : (x, ox) ∈ news) (hc : ox.cls = .ref C) (hd : ox.data = .seq items n) (hh : A.handled = none)
    (hn : (assignEach elts env).length = items.size) (hstar : (assignEach elts env).findIdx? (·.1) = none)
    (h : ∀ h', Fr h₀ L h' m → News h₀ L h' news → wpAny (model prog w) A (assignInOrder ((assignEach elts env).map (·.2)) items.toList) Q E { s with heap := h' }) :
    wpAny (model prog w) A (assign (.Tuple elts k pos) env (.ref x)) Q E s := by
  rw [assign_Tuple]
  refine wpAny_bind (wpAny_standAt ?_)
  unfold unpack
  rw [hn, hstar]
  exact wpAny_bind (wpAny_holding (tup_unpackN F N X₀ hy hm hc hd hh rfl h))
end
end Mine
end

section
open PySem PySem.W PyProof.Rows PyProof.V PySem.Calls Builtin Builtin.ObjectAttr Builtin.Getset_descriptor
set_option maxRecDepth 100000
set_option maxHeartbeats 4000000
namespace Mine
section
variable {prog : Program} {w : World} {A : Around} {C x y : Addr} {s : Shared} {E : Value → Shared → Prop} {xs ys : List Value} {ns ms : List Int}
theorem rc_lt_int {a b : Int} {t u : Tok} {Q : Value → Shared → Prop} (h : Q (.bool (decide (a < b))) s) : wpAny (model prog w) A (richCompare .Lt (.int a t) (.int b u)) Q E s :=
  wpAny_richCompare_same (op := .Lt) (typeIs_int s a t) (typeIs_int s b u) slot_int_lt (call_int_lt (And.intro (fun e => nomatch e) h)) rfl
theorem tup_lt_tree (hi : IntsAre xs ns) (hj : IntsAre ys ms) {P : Fin → Shared → Prop} (T : TupObj s.heap C x xs.toArray) (U : TupObj s.heap C y ys.toArray) (Y : TupCls (model prog w) s.heap C)
    (h : ∀ b : Bool, P (.done (.ret (.bool b))) s) : wpAny (model prog w) A (Builtin.«tuple.__lt__» ⟨[.ref x, .ref y], []⟩) P E s := by
  have t2 : Looks (model prog w) s.heap (isInstance (.ref y) (.type "tuple")) true := (U.type (M := model prog w)).andThen Y.tup
  show wpAny _ _ (isInstance (.ref y) (.type "tuple") >>= _) _ _ s
  refine wpAny_bind (t2.here ?_)
  simp only [Bool.not_true, Bool.false_eq_true, if_false]
  refine wpAny_bind (tup_items T ?_)
  refine wpAny_bind (tup_items U ?_)
  refine wpAny_bind ?_
  refine wpAny_forIn_list _ (fun rest r s' => r.1 = none ∧ s' = s ∧ ∃ ns' ms' xs' ys', rest = List.zip xs' ys' ∧ IntsAre xs' ns' ∧ IntsAre ys' ms') _ ?_ ?_ _ _ ⟨rfl, rfl, ns, ms, xs, ys, rfl, hi, hj⟩
  · rintro ⟨u, v⟩ rest r s' ⟨hr, rfl, ns', ms', xs', ys', hz, hx', hy'⟩
    cases hx' with
    | nil => simp at hz
    | cons a t hx'' =>
      cases hy' with
      | nil => simp at hz
      | cons b t' hy'' =>
        simp only [List.zip_cons_cons, List.cons.injEq, Prod.mk.injEq] at hz
        obtain ⟨⟨rfl, rfl⟩, rfl⟩ := hz
        refine wpAny_bind (wpAny_eqBool_int ?_)
        by_cases hk : (a == b) = true
        · rw [hk]
          simp only [Bool.not_true, Bool.false_eq_true, if_false]
          exact wpAny_pure ⟨rfl, rfl, _, _, _, _, rfl, hx'', hy''⟩
        · rw [Bool.not_eq_true] at hk
          rw [hk]
          simp only [Bool.not_false, if_true]
          refine wpAny_bind (wpAny_rule (wpAny_bind (rc_lt_int ?_)))
          exact wpAny_bind (wpAny_pure (wpAny_pure (wpAny_pure (h _))))
  · rintro ⟨r1, r2⟩ s' ⟨hr, rfl, ns', ms', xs', ys', hz, hx', hy'⟩
    simp only at hr
    subst hr
    exact wpAny_pure (h _)
theorem tup_oneLt (hi : IntsAre xs ns) (hj : IntsAre ys ms) {Q : Bool → Shared → Prop} (T : TupObj s.heap C x xs.toArray) (U : TupObj s.heap C y ys.toArray) (Y : TupCls (model prog w) s.heap C) (hu : A.units < cLine)
    (h : ∀ b : Bool, Q b s) : wpAny (model prog w) A (oneLt' true (.ref x) (.ref y)) Q E s := by
  have l1 : Looks (model prog w) s.heap (specialOf (.ref x) "__lt__") (some (.builtin "tuple.__lt__")) := (T.type (M := model prog w)).andThen Y.lt
  rw [oneLt'_eq]
  simp only [if_true]
  refine wpAny_bind (wpAny_cRoomFor hu ?_)
  refine wpAny_bind (sp_bound l1 PySem.F.slot_tuple_lt.bind (tup_call T Y (by decide +kernel) (n := "__lt__") (by decide +kernel) (by decide +kernel) PySem.F.entry_tuple_lt (by unfold argsOk; kernel_rfl) ?_))
  exact tup_lt_tree hi hj T U Y fun b => ⟨_, rfl, wpAny_truthy_bool (h b)⟩
theorem tup_eq_tree {hy : s.heap.IsTuple y ys.toArray} (hi : IntsAre xs ns) (hj : IntsAre ys ms) {P : Fin → Shared → Prop} (T : TupObj s.heap C x xs.toArray)
    (h : P (.done (.ret (.bool (decide (ns = ms))))) s) : wpAny (model prog w) A (Builtin.«tuple.__eq__» ⟨[.ref x, .ref y], []⟩) P E s := by
  have hTb := hy.typeIs
  obtain ⟨ob, hob, _, nb, hdb⟩ := hy
  show wpAny _ _ (isInstance (.ref y) (.type "tuple") >>= _) _ _ s
  refine wpAny_bind (wpAny_isInstance hTb isSubtype_tuple_tuple ?_)
  simp only [Bool.not_true, Bool.false_eq_true, if_false]
  refine wpAny_bind (tup_items T ?_)
  refine wpAny_bind ?_
  unfold Tuple.tupleItemsOf
  refine wpAny_bind (wpAny_seqItems hob hdb (wpAny_pure ?_))
  refine wpAny_bind ?_
  refine wpAny_forIn_list _ (fun rest r s' => r.1 = none ∧ s' = s ∧ ∃ ns' ms' xs' ys', rest = List.zip xs' ys' ∧ IntsAre xs' ns' ∧ IntsAre ys' ms' ∧ decide (ns' = ms') = decide (ns = ms) ∧ (xs'.length == ys'.length) = (xs.length == ys.length)) _ ?_ ?_ _ _ ⟨rfl, rfl, ns, ms, xs, ys, rfl, hi, hj, rfl, rfl⟩
  · rintro ⟨u, v⟩ rest r s' ⟨hr, rfl, ns', ms', xs', ys', hz, hx', hy', hdec, hlen⟩
    cases hx' with
    | nil => simp at hz
    | cons a t hx'' =>
      cases hy' with
      | nil => simp at hz
      | cons b t' hy'' =>
        simp only [List.zip_cons_cons, List.cons.injEq, Prod.mk.injEq] at hz
        obtain ⟨⟨rfl, rfl⟩, rfl⟩ := hz
        refine wpAny_bind (wpAny_eqBool_int ?_)
        by_cases hk : a = b
        · subst hk
          rw [beq_self_eq_true]
          simp only [Bool.not_true, Bool.false_eq_true, if_false]
          exact wpAny_pure ⟨rfl, rfl, _, _, _, _, rfl, hx'', hy'', by rw [← hdec]; simp, by simpa using hlen⟩
        · rw [beq_eq_false_iff_ne.mpr hk]
          simp only [Bool.not_false, if_true]
          have hf : decide (ns = ms) = false := by rw [← hdec]; simp [hk]
          rw [hf] at h
          exact wpAny_bind (wpAny_pure (wpAny_pure (wpAny_pure h)))
  · rintro ⟨r1, r2⟩ s' ⟨hr, rfl, ns', ms', xs', ys', hz, hx', hy', hdec, hlen⟩
    simp only at hr
    subst hr
    refine wpAny_pure ?_
    have hfin : (xs.length == ys.length) = decide (ns = ms) := by
      rw [← hdec, ← hlen]
      cases hx' with
      | nil =>
        cases hy' with
        | nil => simp
        | cons _ _ => simp
      | cons _ _ =>
        cases hy' with
        | nil => simp
        | cons _ _ => simp at hz
    show P (.done (.ret (.bool (xs.toArray.size == ys.toArray.size)))) s'
    rw [List.size_toArray, List.size_toArray, hfin]; exact h
theorem tup_eq (hi : IntsAre xs ns) (hj : IntsAre ys ms) {Q : Value → Shared → Prop} (T : TupObj s.heap C x xs.toArray) (hy : s.heap.IsTuple y ys.toArray) (Y : TupCls (model prog w) s.heap C) (hu : A.units < cLine)
    (h : Q (.bool (decide (ns = ms))) s) : wpAny (model prog w) A (compareOp .Eq (.ref x) (.ref y)) Q E s := by
  have l1 : Looks (model prog w) s.heap (specialOf (.ref x) "__eq__") (some (.builtin "tuple.__eq__")) := (T.type (M := model prog w)).andThen Y.eq
  show wpAny (model prog w) A (richCompare .Eq (.ref x) (.ref y)) Q E s
  unfold richCompare
  refine wpAny_holding (wpAny_bind (wpAny_cRoomFor hu ?_))
  show wpAny _ _ (typeOf (.ref x) >>= _) _ _ _
  refine wpAny_bind ((T.type (M := model prog w)).here ?_)
  refine wpAny_bind (wpAny_typeOf hy.typeIs ?_)
  have hs : isSubtype (.type "tuple") (.ref C) = pure false := by
    rw [isSubtype_type]
    rfl
  rw [if_pos (show (Value.ref C != Value.type "tuple") = true from rfl), hs]
  refine wpAny_bind (wpAny_pure ?_)
  simp only [Bool.false_eq_true, if_false]
  refine wpAny_bind ?_
  show wpAny _ _ (tryCompare (.ref x) "__eq__" (.ref y)) _ _ _
  unfold tryCompare
  refine wpAny_bind (sp_bound l1 PySem.F.slot_tuple_eq.bind (tup_call T Y (by decide +kernel) (n := "__eq__") (by decide +kernel) (by decide +kernel) PySem.F.entry_tuple_eq (PySem.F.args_tuple_eq_2 _ _) ?_))
  exact tup_eq_tree (hy := hy) hi hj T ⟨_, rfl, wpAny_pure (wpAny_pure h)⟩
end
noncomputable def leafB (n : Nat) : KasT (Array Nat) → Bool
  | .ret p => p.size == n && p.toList.all (· < n)
  | .ask i j k => decide (i < n) && (decide (j < n) && (leafB n (k true) && leafB n (k false)))
theorem leaf_wp {n : Nat} {cmp : Nat → Nat → (Bool → Shared → Prop) → Shared → Prop} {G : Array Nat → Shared → Prop} {s : Shared} (hc : ∀ i j (C : Bool → Shared → Prop), i < n → j < n → (∀ b, C b s) → cmp i j C s) (hG : ∀ p : Array Nat, p.size = n → (∀ i ∈ p.toList, i < n) → G p s) :
    ∀ t : KasT (Array Nat), leafB n t = true → t.kasWp cmp G s
  | .ret p, h => by
    unfold leafB at h
    simp only [Bool.and_eq_true, beq_iff_eq, List.all_eq_true, decide_eq_true_eq] at h
    exact hG p h.1 h.2
  | .ask i j k, h => by
    unfold leafB at h
    simp only [Bool.and_eq_true, decide_eq_true_eq] at h
    refine hc i j _ h.1 h.2.1 fun b => ?_
    cases b with
    | true => exact leaf_wp hc hG (k true) h.2.2.1
    | false => exact leaf_wp hc hG (k false) h.2.2.2
theorem leaf2 : leafB 2 (kas_sort 2) = true := by decide +kernel
theorem leaf3 : leafB 3 (kas_sort 3) = true := by decide +kernel
theorem leaf4 : leafB 4 (kas_sort 4) = true := by decide +kernel
end Mine
end

section
open PySem PySem.W PyProof.Rows PyProof.V PySem.Calls Builtin Builtin.ObjectAttr Builtin.Getset_descriptor
set_option maxRecDepth 100000
set_option maxHeartbeats 4000000
namespace Mine
section
variable {prog : Program} {w : World} {A : Around} {C D : Addr} {s : Shared} {E : Value → Shared → Prop} {vs : List Value} {K : Frag} {h₀ : Heap} {L : Addr} {m : Str → Option Value} {pre post : List (Addr × Obj)}
theorem sort_short {n : Nat} {Q : Value → Shared → Prop} (F : Fr h₀ L s.heap m) (N : News h₀ L s.heap (pre ++ (D, W.listOf vs.toArray n) :: post)) (hpre : ∀ p ∈ pre, p.1 ≠ D) (hpost : ∀ p ∈ post, p.1 ≠ D) (h2 : vs.length < 2)
    (hQ : ∀ h' c, Fr h₀ L h' m → News h₀ L h' (pre ++ (D, W.listOf vs.toArray c) :: post) → Q .none { s with heap := h' }) : wpAny (model prog w) A (call (.builtin "list.sort") [.ref D]) Q E s := by
  have nz := N (D, W.listOf vs.toArray n) (List.mem_append_right _ (.head _))
  have N₀ : News h₀ L s.heap (pre ++ post) := fun p hp => N p ((List.mem_append.mp hp).elim (fun q => List.mem_append_left _ q) fun q => List.mem_append_right _ (.tail _ q))
  have hn0 : ∀ p ∈ pre ++ post, p.1 ≠ D := fun p hp => (List.mem_append.mp hp).elim (hpre p) (hpost p)
  have ho : s.heap.get? D = some (seqObj "list" vs.toArray n) := nz.1
  refine wpAny_call_entry slot_list_sort ⟨_, nz.1, rfl⟩ entry_list_sort ?_ (args_list_sort _)
  rw [list_sort_plain]
  have s1 := Heap.SameBut.update s.heap D (Obj.mapSeq fun _ => (#[] : Array Value))
  obtain ⟨e1, ho1⟩ : ∃ e1, (s.heap.update D (Obj.mapSeq fun _ => (#[] : Array Value))).get? D = some (seqObj "list" #[] e1) := ⟨_, get?_update_seq ho fun _ => #[]⟩
  have F3 : Fr h₀ L (((s.heap.update D (Obj.mapSeq fun _ => (#[] : Array Value))).push (seqObj "tuple" vs.toArray 0)).push (seqObj "list" #[] 0)) m := ((kas_fr F s1 nz.2.1 nz.2.2).push _).push _
  have N3 : News h₀ L (((s.heap.update D (Obj.mapSeq fun _ => (#[] : Array Value))).push (seqObj "tuple" vs.toArray 0)).push (seqObj "list" #[] 0)) (pre ++ (D, seqObj "list" #[] e1) :: post) := fun p hp => by
    rcases List.mem_append.mp hp with hp | hp
    · exact (kas_news N₀ s1 hn0).grown (fun b x e => Heap.get?_push_of_some _ (Heap.get?_push_of_some _ e)) p (List.mem_append_left _ hp)
    · rcases List.mem_cons.mp hp with rfl | hp
      · exact ⟨Heap.get?_push_of_some _ (Heap.get?_push_of_some _ ho1), nz.2⟩
      · exact (kas_news N₀ s1 hn0).grown (fun b x e => Heap.get?_push_of_some _ (Heap.get?_push_of_some _ e)) p (List.mem_append_right _ hp)
  have hsz : vs.toArray.size = vs.length := List.size_toArray ..
  refine wpAny_bind (listItems_at ho rfl ?_)
  refine wpAny_bind (listUpdate_at ho rfl ?_ (by rw [hsz, sizeLine_eq]; omega) (Nat.zero_le _))
  refine wpAny_bind (seqEpoch_at ho1 rfl ?_)
  refine wpAny_bind (wpAny_newTuple ?_ (by show vs.length ≤ _; rw [sizeLine_eq]; omega))
  refine wpAny_bind (wpAny_newList ?_ (Nat.zero_le _))
  refine wpAny_holding ?_
  show wpAny (model prog w) _ _ _ E { s with heap := ((s.heap.update D (Obj.mapSeq fun _ => (#[] : Array Value))).push (seqObj "tuple" vs.toArray 0)).push (seqObj "list" #[] 0) }
  dsimp only
  have hn2 : vs.toArray.size < 2 := by rw [hsz]; exact h2
  rw [if_pos hn2, if_pos hn2]
  have nb := N3 (D, seqObj "list" #[] e1) (List.mem_append_right _ (.head _))
  refine wpAny_bind (wpAny_pure ?_)
  rw [StateT.run_pure]
  refine wpAny_bind (wpAny_pure ?_)
  dsimp only
  have hout : (arrOf (SortSt.mk' general' (vs.toArray.zip vs.toArray) #[] 7 none)).map (·.2) = vs.toArray := by
    show (vs.toArray.zip vs.toArray).map (·.2) = vs.toArray
    apply Array.toList_inj.mp
    simp [List.map_snd_zip]
  rw [hout]
  refine wpAny_bind (seqEpoch_at nb.1 rfl ?_)
  refine wpAny_bind (listUpdate_at nb.1 rfl ?_ (Nat.zero_le _) (by show vs.toArray.size ≤ _; rw [hsz, sizeLine_eq]; omega))
  simp only [bne_self_eq_false, Bool.false_eq_true, if_false]
  have s2 := Heap.SameBut.update (((s.heap.update D (Obj.mapSeq fun _ => (#[] : Array Value))).push (seqObj "tuple" vs.toArray 0)).push (seqObj "list" #[] 0)) D (Obj.mapSeq fun _ => vs.toArray)
  obtain ⟨c2, hc2⟩ : ∃ c2, ((((s.heap.update D (Obj.mapSeq fun _ => (#[] : Array Value))).push (seqObj "tuple" vs.toArray 0)).push (seqObj "list" #[] 0)).update D (Obj.mapSeq fun _ => vs.toArray)).get? D = some (seqObj "list" vs.toArray c2) := ⟨_, get?_update_seq nb.1 fun _ => vs.toArray⟩
  exact wpAny_pure ⟨_, rfl, hQ _ c2 (kas_fr F3 s2 nb.2.1 nb.2.2) (news_set N3 hpre hpost s2 hc2)⟩
theorem sort_tups {n : Nat} {Q : Value → Shared → Prop} (F : Fr h₀ L s.heap m) (N : News h₀ L s.heap (pre ++ (D, W.listOf vs.toArray n) :: post)) (X₀ : K.In h₀) (hy : tupCls K C = true) (hpre : ∀ p ∈ pre, p.1 ≠ D) (hpost : ∀ p ∈ post, p.1 ≠ D) (h4 : vs.length ≤ 4) (hu : A.in1.units < cLine)
    (hv : ∀ v ∈ vs, ∃ x o xs ns k, v = .ref x ∧ (x, o) ∈ pre ++ post ∧ o.cls = .ref C ∧ o.data = .seq (List.toArray xs) k ∧ IntsAre xs ns)
    (hQ : ∀ h' c out, out.length = vs.length → (∀ v ∈ out, v ∈ vs) → Fr h₀ L h' m → News h₀ L h' (pre ++ (D, W.listOf (List.toArray out) c) :: post) → Q .none { s with heap := h' }) : wpAny (model prog w) A (call (.builtin "list.sort") [.ref D]) Q E s := by
  by_cases h2 : vs.length < 2
  · exact sort_short F N hpre hpost h2 fun h' c F' N' => hQ h' c vs rfl (fun v hv => hv) F' N'
  have obj : ∀ {e1 : Obj} {h : Heap}, News h₀ L h (pre ++ (D, e1) :: post) → ∀ v ∈ vs, ∃ x xs ns, v = .ref x ∧ TupObj h C x (List.toArray xs) ∧ IntsAre xs ns := fun {e1 h} N' v hv' => by
    obtain ⟨x, o, xs, ns, k, rfl, hm, hc, hd, hi⟩ := hv v hv'
    have hm' : (x, o) ∈ pre ++ (D, e1) :: post := by
      rcases List.mem_append.mp hm with q | q
      · exact List.mem_append_left _ q
      · exact List.mem_append_right _ (.tail _ q)
    exact ⟨x, xs, ns, rfl, tupAt N' hm' hc hd, hi⟩
  refine kas_lsort (vs := vs) (T := .ref C) F N (updF_mid hpre hpost) rfl (by omega) (by omega) (fun e1 h F' N' v hv' => ?_) (by simp <;> exact ⟨rfl, rfl⟩) fun e1 h' F' N' => ?_
  · obtain ⟨x, xs, ns, rfl, T, hi⟩ := obj N' v hv'
    exact T.type
  · have Y : TupCls (model prog w) h' C := tupCls_of (X₀.keeps F'.keep) hy
    have get : ∀ i, i < vs.length → vs.getD i Value.none ∈ vs := fun i hi => by
      have : vs.getD i Value.none = vs[i] := by simp [hi]
      rw [this]; exact List.getElem_mem _
    have hl : leafB vs.length (kas_sort vs.length) = true := by
      have : vs.length = 2 ∨ vs.length = 3 ∨ vs.length = 4 := by omega
      rcases this with e | e | e <;> rw [e]
      · exact leaf2
      · exact leaf3
      · exact leaf4
    refine leaf_wp (fun i j R hi hj hR => ?_) (fun p hp hall => ?_) _ hl
    · obtain ⟨x, xs, ns, e1', T1, i1⟩ := obj N' _ (get i hi)
      obtain ⟨y, ys, ms, e2', T2, i2⟩ := obj N' _ (get j hj)
      unfold kas_ask
      rw [e1', e2']
      exact tup_oneLt i1 i2 T1 T2 Y hu fun b => hR b
    · refine KasFin.intro F' N' (updF_mid hpre hpost) fun h'' c F'' N'' => hQ h'' c _ ?_ ?_ F'' N''
      · rw [List.length_map, Array.length_toList, hp]
      · intro v hv'
        obtain ⟨i, hi, rfl⟩ := List.mem_map.mp hv'
        exact get i (hall i hi)
end
end Mine
end

section
open PySem PySem.W PyProof.Rows PyProof.V PySem.Calls Builtin
set_option maxRecDepth 100000
set_option maxHeartbeats 4000000
namespace Mine
theorem slot_map_init : Slot "map" "__init__" "object.__init__" :=
  .of (owner := "object") (n := "__init__") (by rw [typeLookup_type, builtinLookup_eq_fast]; kernel_rfl) (by decide +kernel) (by decide +kernel) (by decide +kernel)
    (by first | exact .inl (by decide +kernel) | exact .inr (by decide +kernel)) (by rw [isSubtype_type]; kernel_rfl)
theorem slot_map_iter : Slot "map" "__iter__" "map.__iter__" :=
  .of (owner := "map") (n := "__iter__") (by rw [typeLookup_type, builtinLookup_eq_fast]; kernel_rfl) (by decide +kernel) (by decide +kernel) (by decide +kernel)
    (by first | exact .inl (by decide +kernel) | exact .inr (by decide +kernel)) (by rw [isSubtype_type]; kernel_rfl)
theorem slot_map_next : Slot "map" "__next__" "map.__next__" :=
  .of (owner := "map") (n := "__next__") (by rw [typeLookup_type, builtinLookup_eq_fast]; kernel_rfl) (by decide +kernel) (by decide +kernel) (by decide +kernel)
    (by first | exact .inl (by decide +kernel) | exact .inr (by decide +kernel)) (by rw [isSubtype_type]; kernel_rfl)
theorem entry_map_next : entryFor table "map.__next__" = some Builtin.«map.__next__» := entryFor_of_tree (by kernel_rfl)
theorem entry_map_iter : entryFor table "map.__iter__" = some Builtin.«dict_keyiterator.__iter__» :=
  entryFor_alias (id' := "dict_keyiterator.__iter__") (by kernel_rfl) (by first | rfl | decide +kernel | (unfold String.splitOn; simp +decide [String.splitOnAux])) (by decide +kernel) (by kernel_rfl)
theorem mro_map : mroOf (.type "map") = pure [.type "map", .type "object"] := by rw [mroOf_type]; kernel_rfl
theorem lookup_map_new : typeLookup (.type "map") "__new__" = pure (some (.builtin "map.__new__")) := by rw [typeLookup_type, builtinLookup_eq_fast]; kernel_rfl
theorem called_map : TypeCalled "map" "map.__new__" "object.__init__" :=
  ⟨by decide +kernel, by decide +kernel, ⟨_, _, mro_map⟩, madeBy_type mro_map lookup_map_new (by decide +kernel), by decide +kernel, by rw [isSubtype_type]; kernel_rfl, slot_map_init⟩
theorem typeCall_map_2 (a b : Value) : checkTypeCall "map" ⟨[a, b], []⟩ = pure () := by kernel_rfl
theorem newCall_map_2 (a b : Value) : checkBuiltinCall "map.__new__" ⟨[.type "map", a, b], []⟩ = pure () := by kernel_rfl
theorem entry_map_new : entryFor table "map.__new__" = some Builtin.«map.__new__» := entryFor_of_tree (by kernel_rfl)
theorem sub_map : isSubtype (.type "map") (.type "map") = pure true := by rw [isSubtype_type]; kernel_rfl
theorem map_no_len : typeLookup (.type "map") "__len__" = pure none := by rw [typeLookup_type, builtinLookup_eq_fast]; kernel_rfl
theorem map_no_hint : typeLookup (.type "map") "__length_hint__" = pure none := by rw [typeLookup_type, builtinLookup_eq_fast]; kernel_rfl
theorem args_map_iter (a : Value) : argsOk "map.__iter__" ⟨[a], []⟩ := by unfold argsOk; kernel_rfl
theorem args_map_next (a : Value) : argsOk "map.__next__" ⟨[a], []⟩ := by unfold argsOk; kernel_rfl
noncomputable abbrev mapObj (T : Addr) (f : Value) : Obj := { cls := .type "map", data := .fields #[.ref T, f] }
noncomputable abbrev oneTup (it : Addr) : Obj := { cls := .type "tuple", data := .seq #[.ref it] }
noncomputable abbrev listIt (l : Addr) (i : Nat) : Obj := { cls := .type "list_iterator", data := .fields #[.ref l, .int i 0] }
section
variable {prog : Program} {w : World} {A : Around} {s : Shared} {E : Value → Shared → Prop}
theorem map_new {f : Value} {l : Addr} {items : Array Value} {P : Fin → Shared → Prop} (hl : s.heap.IsList l items)
    (h : P (.done (.ret (.ref (s.heap.objs.size + 2)))) { s with heap := ((s.heap.push (listIt l 0)).push (oneTup s.heap.objs.size)).push (mapObj (s.heap.objs.size + 1) f) }) :
    wpAny (model prog w) A (Builtin.«map.__new__» ⟨[.type "map", f, .ref l], []⟩) P E s := by
  unfold Builtin.«map.__new__» Builtin.SmallTypes.newClass
  show wpAny _ _ (isType (.type "map") >>= _ >>= _) _ _ _
  refine wpAny_bind (wpAny_bind (wpAny_pure ?_))
  simp only [Bool.not_true, Bool.false_eq_true, if_false]
  rw [sub_map]
  refine wpAny_bind (wpAny_pure ?_)
  simp only [Bool.not_true, Bool.false_eq_true, if_false]
  refine wpAny_pure ?_
  dsimp only
  refine wpAny_bind (m := Builtin.SmallTypes.refuseKeywords "map" _ _) (wpAny_pure ?_)
  show wpAny _ _ (Builtin.SmallTypes.iterAll [.ref l] >>= _) _ _ _
  refine wpAny_bind ?_
  unfold Builtin.SmallTypes.iterAll
  refine wpAny_bind ?_
  rw [List.forIn_cons]
  refine wpAny_bind (wpAny_bind (wpAny_holding (wpAny_pyIter_list hl ?_)))
  refine wpAny_pure ?_
  dsimp only
  rw [List.forIn_nil]
  refine wpAny_pure (wpAny_pure ?_)
  refine wpAny_bind (wpAny_newTuple ?_ (by rw [sizeLine_eq]; exact Nat.le_of_ble_eq_true rfl))
  refine wpAny_bind ?_
  unfold Builtin.SmallTypes.newRecord
  dsimp only
  refine wpAny_newObj_type (wpAny_pure ?_)
  simp only [Heap.size_push]
  exact h
theorem call_map {f : Value} {l : Addr} {items : Array Value} {Q : Value → Shared → Prop} (hl : s.heap.IsList l items)
    (h : Q (.ref (s.heap.objs.size + 2)) { s with heap := ((s.heap.push (listIt l 0)).push (oneTup s.heap.objs.size)).push (mapObj (s.heap.objs.size + 1) f) }) :
    wpAny (model prog w) A (call (.type "map") [f, .ref l]) Q E s := by
  refine callType_codes (Q₁ := fun obj s₁ => obj = .ref (s.heap.objs.size + 2) ∧ s₁ = { s with heap := ((s.heap.push (listIt l 0)).push (oneTup s.heap.objs.size)).push (mapObj (s.heap.objs.size + 1) f) }) called_map (typeCall_map_2 _ _) PySem.F.entry_object_init ?_ fun obj s₁ h₁ => ?_
  · exact codeAny_call_builtin (by decide +kernel) entry_map_new (wpAny_of_eq (newCall_map_2 _ _) (map_new hl ⟨rfl, rfl⟩))
  · obtain ⟨rfl, rfl⟩ := h₁
    have ht : Shared.TypeIs { s with heap := ((s.heap.push (listIt l 0)).push (oneTup s.heap.objs.size)).push (mapObj (s.heap.objs.size + 1) f) } (.ref (s.heap.objs.size + 2)) "map" := by
      refine ⟨mapObj (s.heap.objs.size + 1) f, ?_, rfl⟩
      have := Heap.get?_push_size ((s.heap.push (listIt l 0)).push (oneTup s.heap.objs.size)) (o := mapObj (s.heap.objs.size + 1) f) rfl
      simpa [Heap.size_push] using this
    exact ⟨ht, PySem.F.args_object_init_3 _ _ _, object_init_meets called_map.init.lookup called_map.made (by decide) prog w A.in1 _ _ ⟨ht, rfl, h⟩⟩
theorem map_next {mo T it l : Addr} {f x : Value} {i : Nat} {items : Array Value} {Q : Option Value → Shared → Prop} (hm : s.heap.get? mo = some (mapObj T f)) (hT : s.heap.get? T = some (oneTup it)) (hit : s.heap.IsListIter it l i) (hl : s.heap.IsList l items) (hx : items[i]? = some x) (hne : mo ≠ it)
    (h : ∀ h', h'.IsListIter it l (i + 1) → Heap.SameBut it s.heap h' → wpAny (model prog w) A.in1 (call f [x]) (fun v s' => Q (some v) s') (fun _ _ => False) { s with heap := h' }) : wpAny (model prog w) A (pyNext (.ref mo)) Q E s := by
  unfold pyNext
  refine wpAny_bind (wpAny_attempt (wpAny_callSpecial?_slot (name := Str.ofString "__next__") ⟨_, hm, rfl⟩ slot_map_next (wpAny_call_entry slot_map_next ⟨_, hm, rfl⟩ entry_map_next ?_ (args_map_next _))))
  show wpAny _ _ (field (.ref mo) 0 >>= _) _ _ s
  refine wpAny_bind (wpAny_field hm rfl (x := .ref T) rfl ?_)
  show wpAny _ _ (seqItems? (.ref T) >>= _) _ _ s
  refine wpAny_bind (wpAny_seqItems hT rfl ?_)
  dsimp only
  refine wpAny_bind ?_
  rw [← Array.forIn_toList]
  show wpAny _ _ (forIn [Value.ref it] _ _) _ _ _
  rw [List.forIn_cons]
  refine wpAny_bind (wpAny_bind (wpAny_holding (wpAny_nextOf_list_item hit hl hx fun h' hit' hs' => ?_)))
  refine wpAny_pure ?_
  dsimp only
  rw [List.forIn_nil]
  refine wpAny_pure ?_
  refine wpAny_bind (wpAny_field (hs'.extBut _ _ hne hm) rfl (x := f) rfl ?_)
  refine wpAny_bind ?_
  refine wpAny_holding (wpAny_mono (h h' hit' hs') (fun v s' hv => ?_) fun _ _ e => e.elim)
  exact wpAny_bind (wpAny_letGo (wpAny_pure ⟨v, rfl, wpAny_pure hv⟩))
theorem map_stop {mo T it l : Addr} {f : Value} {i : Nat} {items : Array Value} {Q : Option Value → Shared → Prop} (hh : A.handled = none) (hm : s.heap.get? mo = some (mapObj T f)) (hT : s.heap.get? T = some (oneTup it)) (hit : s.heap.IsListIter it l i) (hl : s.heap.IsList l items) (hx : items[i]? = none)
    (h : ∀ h', Heap.ExtBut it s.heap h' → Q none { s with heap := h' }) : wpAny (model prog w) A (pyNext (.ref mo)) Q E s := by
  unfold pyNext
  refine wpAny_bind (wpAny_attempt (wpAny_callSpecial?_slot (name := Str.ofString "__next__") ⟨_, hm, rfl⟩ slot_map_next (wpAny_call_entry slot_map_next ⟨_, hm, rfl⟩ entry_map_next ?_ (args_map_next _))))
  show wpAny _ _ (field (.ref mo) 0 >>= _) _ _ s
  refine wpAny_bind (wpAny_field hm rfl (x := .ref T) rfl ?_)
  show wpAny _ _ (seqItems? (.ref T) >>= _) _ _ s
  refine wpAny_bind (wpAny_seqItems hT rfl ?_)
  dsimp only
  refine wpAny_bind ?_
  rw [← Array.forIn_toList]
  show wpAny _ _ (forIn [Value.ref it] _ _) _ _ _
  rw [List.forIn_cons]
  refine wpAny_bind (wpAny_bind (wpAny_holding (wpAny_nextOf_list_end (by exact hh) hit hl hx fun h' e hs' he => ?_)))
  obtain ⟨o, ho, hc⟩ := he
  refine wpAny_bind (wpAny_isInstance (T := "StopIteration") (b := true) ⟨o, ho, hc⟩ isSubtype_stop ?_)
  exact wpAny_pure (h h' hs')
theorem map_iter {mo T : Addr} {f : Value} {Q : Value → Shared → Prop} (hm : s.heap.get? mo = some (mapObj T f)) (h : Q (.ref mo) s) : wpAny (model prog w) A (pyIter (.ref mo)) Q E s := by
  have hT : s.TypeIs (.ref mo) "map" := ⟨_, hm, rfl⟩
  refine wpAny_pyIter_slot hT slot_map_iter (wpAny_call_entry slot_map_iter hT entry_map_iter ?_ (args_map_iter _))
  show wpAny _ _ (ret (.ref mo)) _ _ s
  exact wpAny_pure ⟨_, rfl, "map", _, hT, slot_map_next.lookup, h⟩
end
section
variable {prog : Program} {w : World} {A : Around} {s : Shared} {h₀ : Heap} {L : Addr} {m : Str → Option Value} {base : List (Addr × Obj)} {items : List Value} {f : Value} {Rel : Value → Obj → Prop} {S mo T it l : Addr} {nl : Nat}
/-- what one call of the mapped function gives -/
noncomputable def MapStep (prog : Program) (w : World) (A : Around) (s : Shared) (h₀ : Heap) (L : Addr) (m : Str → Option Value) (base : List (Addr × Obj)) (f : Value) (Rel : Value → Obj → Prop) (x : Value) : Prop :=
  ∀ (G : List (Addr × Obj)) (h : Heap) (tk : Nat) (Q : Value → Shared → Prop), Fr h₀ L h m → News h₀ L h G → (∀ p ∈ base, p ∈ G) →
    (∀ y dy ob h' tk', Rel x ob → Fr h₀ L h' m → News h₀ L h' ((y, ob) :: (dy, emptyDict) :: G) → (∀ p ∈ G, p.1 < dy) → dy < y → Q (.ref y) { s with heap := h', toks := tk' }) →
    wpAny (model prog w) A (call f [x]) Q (fun _ _ => False) { s with heap := h, toks := tk }
structure MapMade (items : List Value) (Rel : Value → Obj → Prop) (S : Addr) (i : Nat) (vs : List Value) (made : List (Addr × Obj)) : Prop where
  len : vs.length = i
  out : ∀ j x, j < i → items[j]? = some x → ∃ y ob, vs[j]? = some (.ref y) ∧ (y, ob) ∈ made ∧ Rel x ob
  above : ∀ p ∈ made, S < p.1
theorem ext_loop {res : Value} {R : Result → Shared → Prop} (hh : A.handled = none) (hl : (l, W.listOf items.toArray nl) ∈ base) (hsz : items.length ≤ 16)
    (step : ∀ x ∈ items, MapStep prog w A.in1.in1 s h₀ L m base f Rel x) (hS : ∀ p ∈ base, p.1 ≠ S) (hi : ∀ p ∈ base, p.1 ≠ it) (hmi : mo ≠ it) (hTi : T ≠ it) (hmS : mo ≠ S) (hTS : T ≠ S) (hiS : it ≠ S)
    (hR : ∀ h' tk' vs c made, MapMade items Rel S items.length vs made → Fr h₀ L h' m → News h₀ L h' ((S, W.listOf vs.toArray c) :: (made ++ base)) → R (.ok (.ret res)) { s with heap := h', toks := tk' }) :
    ∀ (k i : Nat) (h : Heap) (tk : Nat) (vs : List Value) (c : Nat) (made : List (Addr × Obj)) (oi : Obj), items.length - i = k → i ≤ items.length → MapMade items Rel S i vs made → oi.cls = .type "list_iterator" → oi.data = .fields #[.ref l, .int i 0] → (∀ p ∈ made, p.1 ≠ it) →
    Fr h₀ L h m → News h₀ L h ((S, W.listOf vs.toArray c) :: (it, oi) :: (mo, mapObj T f) :: (T, oneTup it) :: (made ++ base)) →
    codeAny (model prog w) A (.builtin "list.extend.loop" ⟨[.ref S, .ref mo, res], []⟩) R { s with heap := h, toks := tk } := by
  intro k
  induction k with
  | zero =>
    intro i h tk vs c made oi hk hile M hc hd hmit F N
    have hin : i = items.length := by omega
    subst hin
    have g1 := (N (mo, mapObj T f) (by repeat (first | exact List.Mem.head _ | apply List.Mem.tail))).1
    have g2 := (N (T, oneTup it) (by repeat (first | exact List.Mem.head _ | apply List.Mem.tail))).1
    have g3 := (N (it, oi) (by repeat (first | exact List.Mem.head _ | apply List.Mem.tail)))
    have g4 := (N (l, W.listOf items.toArray nl) (by simp [hl])).1
    refine codeAny_builtin PySem.F.entry_extend_loop ?_
    rw [Around.under_plainId PySem.F.plain_extend_loop _]
    show wpAny _ A.in1 (pyNext (.ref mo) >>= _) _ _ _
    refine wpAny_bind (map_stop (s := { s with heap := h, toks := tk }) hh g1 g2 ⟨oi, g3.1, hc, hd⟩ ⟨_, g4, rfl, nl, rfl⟩ (by simp) fun h' he => ?_)
    refine wpAny_pure (hR h' tk vs c made M ⟨F.ns.at (fun o e => he L o (fun q => g3.2.1 q.symm) e), fun b o e => he b o (fun q => by rw [q, g3.2.2] at e; cases e) (F.keep b o e), F.above⟩ fun p hp => ?_)
    have hp' : p ∈ (S, W.listOf vs.toArray c) :: (it, oi) :: (mo, mapObj T f) :: (T, oneTup it) :: (made ++ base) := by
      rcases List.mem_cons.mp hp with q | q
      · exact q ▸ .head _
      · exact .tail _ (.tail _ (.tail _ (.tail _ q)))
    refine ⟨he p.1 p.2 ?_ (N p hp').1, (N p hp').2⟩
    rcases List.mem_cons.mp hp with q | q
    · rw [q]; exact hiS.symm
    · rcases List.mem_append.mp q with q | q
      · exact hmit p q
      · exact hi p q
  | succ k ih =>
    intro i h tk vs c made oi hk hile M hc hd hmit F N
    have hlt : i < items.length := by omega
    have g1 := (N (mo, mapObj T f) (by repeat (first | exact List.Mem.head _ | apply List.Mem.tail))).1
    have g2 := (N (T, oneTup it) (by repeat (first | exact List.Mem.head _ | apply List.Mem.tail))).1
    have g3 := (N (it, oi) (by repeat (first | exact List.Mem.head _ | apply List.Mem.tail)))
    have g4 := (N (l, W.listOf items.toArray nl) (by simp [hl])).1
    refine codeAny_builtin PySem.F.entry_extend_loop ?_
    rw [Around.under_plainId PySem.F.plain_extend_loop _]
    show wpAny _ A.in1 (pyNext (.ref mo) >>= _) _ _ _
    refine wpAny_bind (map_next (s := { s with heap := h, toks := tk }) g1 g2 ⟨oi, g3.1, hc, hd⟩ ⟨_, g4, rfl, nl, rfl⟩ (x := items[i]) (by simp [hlt]) hmi fun h' hit' hs' => ?_)
    obtain ⟨oi', ho', hc', hd'⟩ := hit'
    have N1 : News h₀ L h' ((S, W.listOf vs.toArray c) :: (it, oi') :: (mo, mapObj T f) :: (T, oneTup it) :: (made ++ base)) := fun p hp => by
      rcases List.mem_cons.mp hp with q | hp
      · subst q
        have := N _ (.head _)
        exact ⟨hs'.extBut _ _ hiS.symm this.1, this.2⟩
      · rcases List.mem_cons.mp hp with q | hp
        · subst q; exact ⟨ho', g3.2⟩
        · have := N p (.tail _ (.tail _ hp))
          refine ⟨hs'.extBut _ _ ?_ this.1, this.2⟩
          rcases List.mem_cons.mp hp with q | hp
          · rw [q]; exact hmi
          · rcases List.mem_cons.mp hp with q | hp
            · rw [q]; exact hTi
            · rcases List.mem_append.mp hp with q | q
              · exact hmit p q
              · exact hi p q
    refine step items[i] (List.getElem_mem _) _ h' tk _ (kas_fr F hs' g3.2.1 g3.2.2) N1 (fun p hp => by simp [hp]) ?_
    intro y dy ob h2 tk2 hrel F2 N2 hall hdy
    have hSd : S < dy := hall (S, W.listOf vs.toArray c) (.head _)
    have hid : it < dy := hall (it, oi') (.tail _ (.head _))
    have nS := N2 (S, W.listOf vs.toArray c) (.tail _ (.tail _ (.head _)))
    show wpAny _ A.in1 (updateSeq S (·.push (Value.ref y)) >>= _) _ _ _
    refine wpAny_bind ?_
    refine wpAny_updateSeq nS.1 rfl ?_ (by rw [List.size_toArray, M.len, sizeLine_eq]; omega) (by show (vs.toArray.push _).size ≤ _; rw [Array.size_push, List.size_toArray, M.len, sizeLine_eq]; omega)
    have s2 := Heap.SameBut.update h2 S (Obj.mapSeq (·.push (Value.ref y)))
    have F3 := kas_fr F2 s2 nS.2.1 nS.2.2
    obtain ⟨c2, hc2⟩ : ∃ c2, (h2.update S (Obj.mapSeq (·.push (Value.ref y)))).get? S = some (W.listOf (vs ++ [Value.ref y]).toArray c2) := by
      have := get?_update_seq (h := h2) (a := S) (c := "list") (xs := vs.toArray) (n := c) nS.1 (·.push (Value.ref y))
      rw [List.push_toArray] at this
      exact ⟨_, this⟩
    have N3 : News h₀ L (h2.update S (Obj.mapSeq (·.push (Value.ref y)))) ((S, W.listOf (vs ++ [Value.ref y]).toArray c2) :: (it, oi') :: (mo, mapObj T f) :: (T, oneTup it) :: (((y, ob) :: (dy, emptyDict) :: made) ++ base)) := fun p hp => by
      rcases List.mem_cons.mp hp with q | hp
      · subst q; exact ⟨hc2, nS.2⟩
      · have hpm : p ∈ (y, ob) :: (dy, emptyDict) :: (S, W.listOf vs.toArray c) :: (it, oi') :: (mo, mapObj T f) :: (T, oneTup it) :: (made ++ base) := by
          exact sub_at hp (by ((try dsimp only); (repeat' (first | exact sub_refl | exact sub_nil | exact mem_hd | refine sub_take ?_ | refine sub_put ?_ ?_ | refine mem_tl ?_ | refine sub_skip ?_))))
        have := N2 p hpm
        refine ⟨s2.extBut _ _ ?_ this.1, this.2⟩
        refine (show ∀ p ∈ (it, oi') :: (mo, mapObj T f) :: (T, oneTup it) :: (y, ob) :: (dy, emptyDict) :: (made ++ base), p.1 ≠ S from ?_) p hp
        exact all_cons hiS (all_cons hmS (all_cons hTS (all_cons (Nat.ne_of_gt (Nat.lt_trans hSd hdy)) (all_cons (Nat.ne_of_gt hSd) (all_app (fun p q => Nat.ne_of_gt (M.above p q)) hS)))))
    refine wpAny_pure ⟨plainId_quiet PySem.F.plain_extend_loop _, ih (i + 1) _ tk2 (vs ++ [.ref y]) c2 ((y, ob) :: (dy, emptyDict) :: made) oi' (by omega) (by omega) ⟨by simp [M.len], ?_, ?_⟩ hc' hd' ?_ F3 N3⟩
    · intro j x hj hx
      by_cases e : j = i
      · subst e
        have : x = items[j] := by simp [hlt] at hx; exact hx.symm
        subst this
        exact ⟨y, ob, by rw [← M.len]; simp, .head _, hrel⟩
      · obtain ⟨y', ob', h1, h2', h3⟩ := M.out j x (by omega) hx
        exact ⟨y', ob', by rw [List.getElem?_append_left (by rw [M.len]; omega)]; exact h1, .tail _ (.tail _ h2'), h3⟩
    · intro p hp
      rcases List.mem_cons.mp hp with q | hp
      · rw [q]; exact Nat.lt_trans hSd hdy
      · rcases List.mem_cons.mp hp with q | hp
        · rw [q]; exact hSd
        · exact M.above p hp
    · intro p hp
      rcases List.mem_cons.mp hp with q | hp
      · rw [q]; exact Nat.ne_of_gt (Nat.lt_trans hid hdy)
      · rcases List.mem_cons.mp hp with q | hp
        · rw [q]; exact Nat.ne_of_gt hid
        · exact hmit p hp
end
end Mine
end

section
open PySem PySem.W PyProof.Rows PyProof.V PySem.Calls Builtin
set_option maxRecDepth 100000
set_option maxHeartbeats 4000000
namespace Mine
section
variable {prog : Program} {w : World} {A : Around} {s : Shared} {E : Value → Shared → Prop} {h₀ : Heap} {L : Addr} {m : Str → Option Value} {base : List (Addr × Obj)} {items : List Value} {f : Value} {Rel : Value → Obj → Prop} {mo T it l : Addr} {nl : Nat}
theorem list_map {Q : Value → Shared → Prop} (hh : A.handled = none) (F : Fr h₀ L s.heap m) (N : News h₀ L s.heap ((mo, mapObj T f) :: (T, oneTup it) :: (it, listIt l 0) :: base)) (hl : (l, W.listOf items.toArray nl) ∈ base) (hsz : items.length ≤ 16)
    (step : ∀ x ∈ items, ∀ s' : Shared, s'.gens = s.gens → s'.drawn = s.drawn → s'.os = s.os → MapStep prog w A.in1.in1.in1 s' h₀ L m base f Rel x) (hi : ∀ p ∈ base, p.1 ≠ it) (hmi : mo ≠ it) (hTi : T ≠ it)
    (hQ : ∀ S h' tk' vs c made, MapMade items Rel S items.length vs made → Fr h₀ L h' m → News h₀ L h' ((S, W.listOf vs.toArray c) :: (made ++ base)) → (∀ p ∈ base, p.1 < S) → Q (.ref S) { s with heap := h', toks := tk' }) :
    wpAny (model prog w) A (call (.type "list") [.ref mo]) Q E s := by
  refine callType_codes (Q₁ := fun obj s₁ => obj = .ref s.heap.objs.size ∧ s₁ = { s with heap := s.heap.push { cls := .type "list", data := .seq #[] } }) PySem.F.called_list (PySem.F.typeCall_list_1 _) PySem.F.entry_list_init
    (code_list_new _ ⟨rfl, rfl⟩) fun obj s₁ h₁ => ?_
  obtain ⟨rfl, rfl⟩ := h₁
  have lt : ∀ p ∈ (mo, mapObj T f) :: (T, oneTup it) :: (it, listIt l 0) :: base, p.1 < s.heap.objs.size := fun p hp => Heap.lt_size (N p hp).1
  have ltmo : mo < s.heap.objs.size := lt (mo, mapObj T f) (by repeat (first | exact List.Mem.head _ | apply List.Mem.tail))
  have ltT : T < s.heap.objs.size := lt (T, oneTup it) (by repeat (first | exact List.Mem.head _ | apply List.Mem.tail))
  have ltit : it < s.heap.objs.size := lt (it, listIt l 0) (by repeat (first | exact List.Mem.head _ | apply List.Mem.tail))
  have ltb : ∀ p ∈ base, p.1 < s.heap.objs.size := fun p hp => lt p (by repeat (first | exact hp | apply List.Mem.tail))
  generalize hSz : s.heap.objs.size = S at *
  have hS : (s.heap.push { cls := .type "list", data := .seq #[] }).get? S = some { cls := .type "list", data := .seq #[] } := by rw [← hSz]; exact Heap.get?_push_size _ rfl
  refine ⟨⟨_, hS, rfl⟩, PySem.F.args_list_init_2 _ _, ?_⟩
  have F1 : Fr h₀ L (s.heap.push { cls := .type "list", data := .seq #[] }) m := F.push _
  have N1 : News h₀ L (s.heap.push { cls := .type "list", data := .seq #[] }) ((S, W.listOf #[] 0) :: (mo, mapObj T f) :: (T, oneTup it) :: (it, listIt l 0) :: base) := by
    have := N.push F { cls := .type "list", data := .seq #[] }
    rw [hSz] at this
    exact this
  show wpAny _ _ (do let old ← Builtin.List.listItems (.ref S); Builtin.List.listUpdate (.ref S) (fun _ => #[]); letGo old.toList.reverse; Builtin.List.listExtendWith (.ref S) (.ref mo) .none) _ _ _
  refine wpAny_bind ?_
  unfold Builtin.List.listItems
  refine wpAny_bind (wpAny_seqItems hS rfl (wpAny_pure ?_))
  show wpAny _ _ (updateSeq S (fun _ => #[]) >>= fun _ => letGo (#[] : Array Value).toList.reverse >>= fun _ => Builtin.List.listExtendWith (.ref S) (.ref mo) .none) _ _ _
  have upd : ∀ {h : Heap} {c : Nat} (g : Array Value → Array Value), g #[] = #[] → Fr h₀ L h m → News h₀ L h ((S, W.listOf #[] c) :: (mo, mapObj T f) :: (T, oneTup it) :: (it, listIt l 0) :: base) →
      ∃ c', Fr h₀ L (h.update S (Obj.mapSeq g)) m ∧ News h₀ L (h.update S (Obj.mapSeq g)) ((S, W.listOf #[] c') :: (mo, mapObj T f) :: (T, oneTup it) :: (it, listIt l 0) :: base) := by
    intro h c g hg F' N'
    have nS := N' _ (.head _)
    have s2 := Heap.SameBut.update h S (Obj.mapSeq g)
    obtain ⟨c2, hc2⟩ : ∃ c2, (h.update S (Obj.mapSeq g)).get? S = some (W.listOf (g #[]) c2) := ⟨_, get?_update_seq (h := h) (a := S) (c := "list") (xs := #[]) (n := c) nS.1 g⟩
    rw [hg] at hc2
    refine ⟨c2, kas_fr F' s2 nS.2.1 nS.2.2, fun p hp => ?_⟩
    rcases List.mem_cons.mp hp with q | hp
    · subst q; exact ⟨hc2, nS.2⟩
    · have := N' p (.tail _ hp)
      exact ⟨s2.extBut _ _ (Nat.ne_of_lt (lt p hp)) this.1, this.2⟩
  refine wpAny_bind (wpAny_updateSeq hS rfl ?_)
  obtain ⟨c1, F2, N2⟩ := upd (fun _ => #[]) rfl F1 N1
  refine wpAny_bind (wpAny_letGo ?_)
  unfold Builtin.List.listExtendWith
  have hT1 : ∀ {h : Heap} {tk : Nat} {c : Nat}, News h₀ L h ((S, W.listOf #[] c) :: (mo, mapObj T f) :: (T, oneTup it) :: (it, listIt l 0) :: base) → Shared.TypeIs { s with heap := h, toks := tk } (.ref mo) "map" := fun {h tk c} N' => ⟨_, (N' (mo, mapObj T f) (by simp)).1, rfl⟩
  refine wpAny_bind (wpAny_typeOf (hT1 (tk := s.toks) N2) ?_)
  have h1 : Builtin.List.listSameRef (.ref S) (.ref mo) = false := by simp [Builtin.List.listSameRef]; exact Nat.ne_of_gt ltmo
  have h2 : (Value.type "map" == Value.type "list") = false := by decide
  have h3 : (Value.type "map" == Value.type "tuple") = false := by decide
  simp only [h1, h2, h3, Bool.or_false, Bool.false_eq_true, if_false]
  refine wpAny_bind (map_iter (N2 (mo, mapObj T f) (by repeat (first | exact List.Mem.head _ | apply List.Mem.tail))).1 ?_)
  refine wpAny_bind (wpAny_holding ?_)
  unfold Builtin.List.listLengthHint
  refine wpAny_bind (wpAny_specialOf (hT1 (tk := s.toks) N2) map_no_len ?_)
  show wpAny _ _ (specialOf (Value.ref mo) (Str.ofString "__length_hint__") >>= _) _ _ _
  refine wpAny_bind (wpAny_specialOf (hT1 (tk := s.toks) N2) map_no_hint ?_)
  refine wpAny_pure ?_
  show wpAny _ _ (rule "list.extend.makes-room" >>= fun _ => Builtin.List.listTouch (.ref S) >>= fun _ => again (.builtin "list.extend.loop" ⟨[.ref S, .ref mo, .none], []⟩)) _ _ _
  refine wpAny_bind (wpAny_rule ?_)
  refine wpAny_bind ?_
  show wpAny _ _ (updateSeq S (·.push .none) >>= fun _ => updateSeq S (·.pop)) _ _ _
  have nS := N2 _ (.head _)
  refine wpAny_bind (wpAny_updateSeq nS.1 rfl ?_)
  have hS₂ := Heap.get?_update_self (Obj.mapSeq (·.push Value.none)) nS.1 rfl
  refine wpAny_updateSeq (hz := by seq_fits) hS₂ rfl ?_
  have hS₃ := Heap.get?_update_self (Obj.mapSeq (·.pop)) hS₂ rfl
  have s3 : Heap.SameBut S ((s.heap.push { cls := .type "list", data := .seq #[] }).update S (Obj.mapSeq fun _ => #[])) ((((s.heap.push { cls := .type "list", data := .seq #[] }).update S (Obj.mapSeq fun _ => #[])).update S (Obj.mapSeq (·.push Value.none))).update S (Obj.mapSeq (·.pop))) := (Heap.SameBut.update _ S _).trans (Heap.SameBut.update _ S _)
  refine wpAny_pure ⟨plainId_quiet PySem.F.plain_extend_loop _, ?_⟩
  refine ext_loop (A := A.in1) (s := s) (base := base) (items := items) (Rel := Rel) (S := S) (mo := mo) (T := T) (it := it) (l := l) (nl := nl) hh hl hsz (fun x hx => step x hx s rfl rfl rfl) (fun p hp => Nat.ne_of_lt (ltb p hp)) hi hmi hTi (Nat.ne_of_lt ltmo) (Nat.ne_of_lt ltT) (Nat.ne_of_lt ltit) ?_ items.length 0 _ _ [] (c1 + 1 + 1) [] (listIt l 0) (by omega) (Nat.zero_le _) ⟨rfl, fun j x hj => by omega, fun p hp => by simp at hp⟩ rfl rfl (fun p hp => by simp at hp) (kas_fr F2 s3 nS.2.1 nS.2.2) ?_
  · intro h' tk' vs c made M F' N'
    exact ⟨rfl, hQ S h' tk' vs c made M F' N' ltb⟩
  · intro p hp
    rcases List.mem_cons.mp hp with q | hp
    · subst q
      exact ⟨hS₃, nS.2⟩
    · have hp' : p ∈ (mo, mapObj T f) :: (T, oneTup it) :: (it, listIt l 0) :: base := by
        exact sub_at hp (by ((try dsimp only); (repeat' (first | exact sub_refl | exact sub_nil | exact mem_hd | refine sub_take ?_ | refine sub_put ?_ ?_ | refine mem_tl ?_ | refine sub_skip ?_))))
      have := N2 p (.tail _ hp')
      exact ⟨s3.extBut _ _ (Nat.ne_of_lt (lt p hp')) this.1, this.2⟩
end
end Mine
namespace Mine
section
variable {prog : Program} {w : World} {A : Around} {s : Shared} {E : Value → Shared → Prop} {h₀ : Heap} {L : Addr} {m : Str → Option Value} {news : List (Addr × Obj)} {f : Value} {l : Addr} {vs : List Value} {n : Nat}
theorem call_mapN {Q : Value → Shared → Prop} (F : Fr h₀ L s.heap m) (N : News h₀ L s.heap news) (hm : (l, W.listOf vs.toArray n) ∈ news)
    (h : ∀ it T mo h', Fr h₀ L h' m → News h₀ L h' ((mo, mapObj T f) :: (T, oneTup it) :: (it, listIt l 0) :: news) → (∀ p ∈ news, p.1 < it) → it < T → T < mo → Q (.ref mo) { s with heap := h' }) :
    wpAny (model prog w) A (call (.type "map") [f, .ref l]) Q E s := by
  refine call_map ⟨_, (N _ hm).1, rfl, n, rfl⟩ ?_
  have N1 := N.push F (listIt l 0)
  have F1 := F.push (listIt l 0)
  have N2 := N1.push F1 (oneTup s.heap.objs.size)
  have F2 := F1.push (oneTup s.heap.objs.size)
  have N3 := N2.push F2 (mapObj (s.heap.objs.size + 1) f)
  have F3 := F2.push (mapObj (s.heap.objs.size + 1) f)
  simp only [Heap.size_push] at N2 N3
  exact h _ _ _ _ F3 N3 (fun p hp => Heap.lt_size (N p hp).1) (Nat.lt_succ_self _) (Nat.lt_succ_self _)
end
end Mine
end

section
open PySem PySem.W PyProof.Rows PyProof.V PySem.Calls
namespace Mine
set_option hygiene false in
local macro_rules | `(tactic| k_ne) => `(tactic| (refine neN ?_; (try dsimp only); exact ad_ne))
section
variable {prog : Program} {w : World} {A : Around} {C x : Addr} {s : Shared} {E : Value → Shared → Prop} {items : Array Value} {K : Frag} {h₀ : Heap} {L : Addr} {m : Str → Option Value} {news : List (Addr × Obj)}
theorem tup_len {Q : Value → Shared → Prop} (T : TupObj s.heap C x items) (Y : TupCls (model prog w) s.heap C) (hfit : (items.size : Int) < 2 ^ 62)
    (h : Q (.int items.size (s.toks + 1)) { s with toks := s.toks + 1 + 1 }) : wpAny (model prog w) A (call (.builtin "len") [.ref x]) Q E s := by
  have l1 : Looks (model prog w) s.heap (specialOf (.ref x) "__len__") (some (.builtin "tuple.__len__")) := (T.type (M := model prog w)).andThen Y.len
  refine Calls.call_function_entry kind_len plain_len entry_len (args_len1 _) ?_
  unfold Builtin.«len»
  refine wpAny_bind (m := oneArg "len" _) (wpAny_pure ?_)
  refine wpAny_bind (m := callSpecial? (.ref x) (Str.ofString "__len__")) ?_
  simp only [callSpecial?]
  refine wpAny_bind (l1.here ?_)
  simp only [PySem.F.slot_tuple_len.bind]
  refine wpAny_holding (wpAny_bind (wpAny_pure (wpAny_bind (tup_call T Y (by decide +kernel) (n := "__len__") (by decide +kernel) (by decide +kernel) PySem.F.entry_tuple_len (by unfold argsOk; kernel_rfl) ?_))))
  show wpAny _ _ (do retInt (← Builtin.Tuple.tupleItemsOf (.ref x)).size) _ _ s
  refine wpAny_bind (tup_items T ?_)
  refine wpAny_bind (wpAny_mkInt (wpAny_pure ⟨_, rfl, wpAny_pure ?_⟩))
  refine wpAny_bind (wpAny_holding (wpAny_pure ?_))
  refine wpAny_bind (wpAny_letGo ?_)
  show wpAny _ _ (if ((items.size : Nat) : Int) < 0 then _ else _) _ _ _
  rw [if_neg (by omega)]
  show wpAny _ _ (if ((items.size : Nat) : Int) ≥ 2 ^ 63 then _ else _) _ _ _
  rw [if_neg (by omega)]
  exact wpAny_bind (wpAny_mkInt (wpAny_pure ⟨_, rfl, h⟩))
theorem tup_lenN {ox : Obj} {n k : Nat} {Q : Value → Shared → Prop} (F : Fr h₀ L s.heap m) (N : News h₀ L s.heap news) (X₀ : K.In h₀) (hy : tupCls K C = true) (hm : (x, ox) ∈ news) (hc : ox.cls = .ref C) (hd : ox.data = .seq items n) (hk : k = items.size) (hfit : (items.size : Int) < 2 ^ 62)
    (h : Q (.int (k : Nat) (s.toks + 1)) { s with toks := s.toks + 1 + 1 }) : wpAny (model prog w) A (call (.builtin "len") [.ref x]) Q E s :=
  tup_len (tupAt N hm hc hd) (tupCls_of (X₀.keeps F.keep) hy) hfit (hk ▸ h)
end
set_option hygiene false in
local macro_rules | `(tactic| walk_at "call builtin:tuple.__new__") => `(tactic| (k_here; k_dflt (refine' tupNew (n := 0) (T := "tuple") (by k_asm) (by k_asm) (by exact Frag.In.keeps (by assumption) (Fr.keep (by assumption))) (by kernel_rfl) (.inr rfl) (by exact News.get (by k_asm) (by k_mem)) (by rfl) (by rfl) (by simp) ?_; k_whole; intro _ _ _ _ _ _ _)))
set_option hygiene false in
local macro_rules | `(tactic| walk_at "getMethod type:tuple") => `(tactic| (k_here; refine' method_type (by k_asm) (by k_asm) (by exact meta_tuple) (by decide +kernel) (by k_dflt k_is) (by k_handed) ?_))
set_option hygiene false in
local macro_rules | `(tactic| walk_at "call builtin:len") => `(tactic| (k_here; k_dflt (refine' tup_lenN (C := 135) (n := 0) (k := 3) (by k_asm) (by k_asm) (by k_asm) (by kernel_rfl) (by exact List.Mem.head _) (by rfl) (by rfl) (by rfl) (by exact Int.ofNat_lt.mpr (Nat.le_of_ble_eq_true rfl)) ?_)))
set_option hygiene false in
local macro_rules | `(tactic| k_all) => `(tactic| assumption)
set_option maxRecDepth 100000 in
set_option maxHeartbeats 8000000 in
theorem mk_K (w : World) (mean : ExcName → Option Value) (mg mb : Str → Option Value) (dp un : Nat) (gd : Option (List Code)) (cn : Str) (cs : Scope) (a : Addr) (ccd : Value) (cl : List (Str × Addr)) (outer : List Env) (A₀ : Around) (base h₀ : Heap) (L : Addr) (m : Str → Option Value)
    (s : Shared) (Q E : Value → Shared → Prop) (i j k : Int) (t1 t2 t3 : Tok) (q t : Addr) (Led : List (Addr × Obj))
    (B : Below A₀ base outer h₀) (F : Fr h₀ L s.heap m) (X : (Mine.hd.heap_1 w.params).In h₀) (N : News h₀ L s.heap ((q, methodObj (.ref 89) (.ref 135)) :: (t, { cls := .type "tuple", data := .seq #[.int i t1, .int j t2, .int k t3] }) :: Led))
    (Tp : Top Qv (looseW Qv looseL) mean mg mb h₀) (hk : cs.kind = .function)
    (hd : dp + 3 < recursionLimit) (hu : un + 20 < cLine)
    (hret : ∀ x dx h' tk', Fr h₀ L h' m → News h₀ L h' ((x, { cls := .ref 135, dict := some dx, data := .seq #[.int i t1, .int j t2, .int k t3] }) :: (dx, emptyDict) :: (q, methodObj (.ref 89) (.ref 135)) :: (t, { cls := .type "tuple", data := .seq #[.int i t1, .int j t2, .int k t3] }) :: Led) → q < dx → t < dx → (∀ p ∈ Led, p.1 < dx) → dx < x → Q (.ref x) { s with heap := h', toks := tk' }) :
    wpAny (model PySem.Challenge.rw_ik0096_01.row.prog w) (ktrTop dp un gd cn cs L a ccd cl outer) (call (.ref q) [.ref t]) Q E s := by
  revert X; k_fill; intro X
  refine call_meth N (.head _) ?_
  k_dflt (refine' code_def (binds := [(Str.ofString "cls", Value.ref 135), (Str.ofString "iterable", Value.ref t)]) ?k1 ?k2 ?k3 ?k4 ?k5 ?kA ?kF ?kK ?k6 ?k7 ?k8 ?k9 ?kB ?_ ?c2 ?c3 ?c4 ?c5; (case kA => exact rfl); (case kF => exact rfl); (case kK => assumption); (case k1 => k_asm); (case k2 => k_asm); (case k3 => k_asm); (case k4 => k_asm); (case k5 => k_asm); (case k6 => k_is); (case k7 => k_is); (case k8 => ktr_room); (case k9 => first | exact BindsTo.of_eq rfl | exact binds_K (by k_in) rfl (by k_is) rfl rfl rfl); (case c5 => decide); (case kB => exact locs rfl); (case c2 => exact rfl); (case c3 => exact rfl); (case c4 => exact rfl); k_whole; intro g' L' h' FG' F' N' B' X' T'; (try dsimp only); (try k_fold))
  k_steps
  rename (∀ p : Addr × Obj, _ → p.1 < _) => l1
  rename (@LT.lt Addr _ _ _) => l2
  rename Fr _ _ _ _ => kF
  rename News _ _ _ _ => kN
  exact hret _ _ _ _ kF kN (l1 _ (.head _)) (l1 _ (.tail _ (.head _))) (fun p hp => l1 p (.tail _ (.tail _ hp))) l2
end Mine
end

section
open PySem PySem.W PyProof.Rows PyProof.V PySem.Calls
set_option maxRecDepth 100000
namespace Mine
theorem b2j_mono {kvs : List (Str × Value)} {xb : List Str} {L1 L2 : List (Addr × Obj)} (B : B2J kvs xb L1) (h : ∀ p ∈ L1, p ∈ L2) : B2J kvs xb L2 where
  hit := fun x v e => by obtain ⟨l, vs, n, a, b, c⟩ := B.hit x v e; exact ⟨l, vs, n, a, h _ b, c⟩
  miss := B.miss
section
variable {prog : Program} {w : World} {A : Around} {E : Value → Shared → Prop} {s : Shared} {env : Env} {h₀ : Heap} {body : List Stmt} {Q : Flow → Shared → Prop}
theorem lt_rest {σ : Type} {elts : List Expr} {k : Nat} {pos : Pos} {l I : Addr} {vs : List Value} {n : Nat} {m₀ : Str → Option Value} (Led : σ → List (Addr × Obj)) (ps : σ → List (Str × Value)) (stored : List Str) (P : Nat → σ → Prop) (c₀ : σ)
    (hl : ∀ i c, P i c → (l, W.listOf vs.toArray n) ∈ Led c) (hI : ∀ p ∈ Led c₀, p.1 < I)
    (hcls : ∀ i c, P i c → ∀ p ∈ Led c, p.2.cls ≠ .type "list_iterator" ∨ p ∈ Led c₀)
    (turn : ∀ (i : Nat) (c : σ) x (u : Str → Option Value) h tk io, io.cls = .type "list_iterator" → vs[i]? = some x → P i c →
      Fr h₀ env.locals h (kstB (fun z => if stored.contains z then u z else m₀ z) (ps c)) → News h₀ env.locals h ((I, io) :: Led c) →
      wpAny (model prog w) A (assign (.Tuple elts k pos) env x) (fun _ s₂ => wpAny (model prog w) A (execs body env) (EnPost h₀ env.locals [(I, io)] { s with heap := h, toks := tk } Q Led ps stored m₀ (P (i + 1))) E s₂) E { s with heap := h, toks := tk })
    (done : ∀ (c : σ) (u : Str → Option Value) h tk, P vs.length c → Fr h₀ env.locals h (kstB (fun z => if stored.contains z then u z else m₀ z) (ps c)) → News h₀ env.locals h (Led c) → Q .next { s with heap := h, toks := tk }) :
    ∀ (r : List Value) (p : Nat), p + r.length = vs.length → vs.drop p = r → ∀ (c : σ) (m : Str → Option Value), P p c → (∀ q ∈ ps c, m q.1 = some q.2) → (∀ z, (∀ q ∈ ps c, z ≠ q.1) → stored.contains z = false → m z = m₀ z) →
      ItemsRest prog w A E h₀ env (.Tuple elts k pos) body Q s [(I, "list_iterator")] [(l, W.listOf vs.toArray n)] (r.map .val) m (Led c) := by
  intro r
  induction r with
  | nil =>
    intro p hlen hd c m hp h1 h2 h tk F N
    have e : p = vs.length := by simpa using hlen
    subst e
    exact done c m h tk hp (ksw_fr h1 h2 F) N
  | cons x r ih =>
    intro p hlen hd c m hp h1 h2
    have hx : vs[p]? = some x := by
      have := congrArg (fun l => l[0]?) hd
      simpa using this
    have hd' : vs.drop (p + 1) = r := by
      rw [← List.drop_drop] <;> first | (rw [hd]; rfl) | skip
    rintro v h tk hv F io hio N
    have hv' : v = x := hv
    subst hv'
    refine wpAny_mono (turn p c v m h tk io hio hx hp (ksw_fr h1 h2 F) N) (fun _ s₂ q => wpAny_mono q (fun f s₃ z => ?_) fun _ _ e => e) fun _ _ e => e
    have fin : EnOut h₀ env.locals [(I, io)] { s with heap := h, toks := tk } Led ps stored m₀ (P (p + 1)) s₃ →
        UnrEndW h₀ env.locals { s with heap := h, toks := tk } [(I, io)] (fun m' n' => SubL [(l, W.listOf vs.toArray n)] n' ∧ ItemsRest prog w A E h₀ env (.Tuple elts k pos) body Q s [(I, "list_iterator")] [(l, W.listOf vs.toArray n)] (r.map .val) m' n') s₃ := by
      rintro ⟨c', h', tk', m', news', rfl, F', N', hn, hi, hk', hr', hp'⟩
      have off : ∀ p ∈ Led c', ∀ q ∈ [(I, io)], p.1 ≠ q.1 := fun z hz q hq e => by
        have g1 := (N' z (hn z hz)).1
        have g2 := (N' q (hi q hq)).1
        rw [e, g2] at g1
        have eo : z.2 = q.2 := (Option.some.inj g1).symm
        rcases hcls _ c' hp' z hz with b | a
        · exact b (by rw [eo, List.mem_singleton.mp hq]; exact hio)
        · have := hI z a
          rw [e, List.mem_singleton.mp hq] at this; exact absurd this (Nat.lt_irrefl _)
      refine ⟨h', tk', m', Led c', rfl, F', fun z hz => ?_, off, ⟨hl _ c' hp', trivial⟩, ih (p + 1) (by simp only [List.length_cons] at hlen; omega) hd' c' m' hp' hk' hr'⟩
      rcases List.mem_append.mp hz with q | q
      · exact N' z (hi z q)
      · exact N' z (hn z q)
    cases f with
    | ret v => exact z
    | brk => exact z
    | next => exact fin z
    | cont => exact fin z
/-- a for loop with a tuple target over a list -/
theorem lv_listT {σ : Type} {elts : List Expr} {k : Nat} {pos : Pos} {l : Addr} {vs : List Value} {n : Nat} {m₀ : Str → Option Value} (Led : σ → List (Addr × Obj)) (ps : σ → List (Str × Value)) (stored : List Str) (P : Nat → σ → Prop) (c₀ : σ)
    (hh : A.handled = none) (hl : ∀ i c, P i c → (l, W.listOf vs.toArray n) ∈ Led c)
    (F : Fr h₀ env.locals s.heap m₀) (N : News h₀ env.locals s.heap (Led c₀)) (hk : ∀ p ∈ ps c₀, m₀ p.1 = some p.2) (hp : P 0 c₀)
    (hcls : ∀ i c, P i c → ∀ p ∈ Led c, p.2.cls ≠ .type "list_iterator" ∨ p ∈ Led c₀)
    (turn : ∀ (I : Addr) (i : Nat) (c : σ) x (u : Str → Option Value) h tk io, (∀ p ∈ Led c₀, p.1 < I) → io.cls = .type "list_iterator" → vs[i]? = some x → P i c →
      Fr h₀ env.locals h (kstB (fun z => if stored.contains z then u z else m₀ z) (ps c)) → News h₀ env.locals h ((I, io) :: Led c) →
      wpAny (model prog w) A (assign (.Tuple elts k pos) env x) (fun _ s₂ => wpAny (model prog w) A (execs body env) (EnPost h₀ env.locals [(I, io)] { s with heap := h, toks := tk } Q Led ps stored m₀ (P (i + 1))) E s₂) E { s with heap := h, toks := tk })
    (done : ∀ (c : σ) (u : Str → Option Value) h tk, P vs.length c → Fr h₀ env.locals h (kstB (fun z => if stored.contains z then u z else m₀ z) (ps c)) → News h₀ env.locals h (Led c) → Q .next { s with heap := h, toks := tk }) :
    wpAny (model prog w) A (pyIter (.ref l)) (fun it s₂ => TurnsAt prog w A h₀ env (.Tuple elts k pos) body Q E it s₂) E s :=
  iter_listTurns hh F N (hl 0 c₀ hp) rfl rfl fun I hI => lt_rest Led ps stored P c₀ hl hI hcls (fun i c x u h tk io => turn I i c x u h tk io hI) done vs 0 (by simp) rfl c₀ m₀ hp hk fun _ _ _ => rfl
theorem lv_while2 {σ : Type} {test : Expr} {pos : Pos} {L : Addr} {m₀ : Str → Option Value} (Led : σ → List (Addr × Obj)) (ps : σ → List (Str × Value)) (stored : List Str) (P D : σ → Prop) (μ : σ → Nat) (c₀ : σ) (hL : env.locals = L)
    (F : Fr h₀ L s.heap m₀) (N : News h₀ L s.heap (Led c₀)) (hk : ∀ p ∈ ps c₀, m₀ p.1 = some p.2) (hp : P c₀)
    (turn : ∀ (c : σ) (u : Str → Option Value) h tk, P c → Fr h₀ L h (kstB (fun z => if stored.contains z then u z else m₀ z) (ps c)) → News h₀ L h (Led c) →
      wpAny (model prog w) A (isTrue test env (eval test env)) (fun b s₂ =>
        if b = true then wpAny (model prog w) A (execs body env) (WlPost h₀ L { s with heap := h, toks := tk } Q Led ps stored m₀ (fun c' => P c' ∧ μ c' < μ c)) E s₂
        else WlOut h₀ L { s with heap := h, toks := tk } Led ps stored m₀ (fun c' => P c' ∧ D c') s₂) E { s with heap := h, toks := tk })
    (done : ∀ (c : σ) (u : Str → Option Value) h tk, P c → D c → Fr h₀ L h (kstB (fun z => if stored.contains z then u z else m₀ z) (ps c)) → News h₀ L h (Led c) → Q .next { s with heap := h, toks := tk })
    (hE : PassesOwn (model prog w) A env E := by passes_own) :
    wpAny (model prog w) A (exec (.While test body [] pos) env) Q E s := by
  subst hL
  refine While_inv2 (fun n m nx => ∃ c : σ, nx = Led c ∧ μ c = n ∧ (∀ p ∈ ps c, m p.1 = some p.2) ∧ (∀ z, (∀ p ∈ ps c, z ≠ p.1) → stored.contains z = false → m z = m₀ z) ∧ P c) F N ⟨c₀, rfl, rfl, hk, fun _ _ _ => rfl, hp⟩ ?_ hE
  rintro n m₁ nx h tk F₁ N₁ ⟨c, hnx, hsz, h1, h2, hp'⟩
  rw [hnx] at N₁
  rw [← hsz]
  refine wpAny_mono (turn c m₁ h tk hp' (ksw_fr h1 h2 F₁) N₁) (fun b s₂ p => ?_) fun _ _ x => x
  cases b with
  | false =>
    simp only [Bool.false_eq_true, if_false] at p ⊢
    obtain ⟨c', h', tk', m', news', rfl, F', N', hn, hk9, hr9, hp9, hd9⟩ := p
    exact done c' m' h' tk' hp9 hd9 (ksw_fr hk9 hr9 F') fun p hp => N' p (hn p hp)
  | true =>
    simp only [if_true] at p ⊢
    refine wpAny_mono p (fun f s₃ q => ?_) fun _ _ x => x
    cases f with
    | ret v => exact q
    | brk => exact q
    | next =>
      obtain ⟨c', h', tk', m', news', rfl, F', N', hn, hk9, hr9, hp9, hm9⟩ := q
      exact ⟨h', tk', m', Led c', μ c', rfl, F', fun p hp => N' p (hn p hp), hm9, c', rfl, rfl, hk9, hr9, hp9⟩
    | cont =>
      obtain ⟨c', h', tk', m', news', rfl, F', N', hn, hk9, hr9, hp9, hm9⟩ := q
      exact ⟨h', tk', m', Led c', μ c', rfl, F', fun p hp => N' p (hn p hp), hm9, c', rfl, rfl, hk9, hr9, hp9⟩
end
section
variable {prog : Program} {w : World} {A : Around} {E : Value → Shared → Prop} {s : Shared} {h₀ : Heap} {L q : Addr} {m : Str → Option Value} {news pre post : List (Addr × Obj)}
theorem truthy_vs {vs : List Value} {n : Nat} {Q : Bool → Shared → Prop} (N : News h₀ L s.heap news) (hm : (q, W.listOf vs.toArray n) ∈ news) (hz : vs.length ≤ 1000)
    (h : Q (!vs.isEmpty) { s with toks := s.toks + 1 + 1 }) : wpAny (model prog w) A (truthy (.ref q)) Q E s := by
  refine wpAny_truthy_list ⟨_, (N _ hm).1, rfl, n, rfl⟩ (by rw [List.size_toArray]; omega) ?_
  rw [List.isEmpty_toArray]
  exact h
theorem pop_vs {us : List Value} {y : Value} {n : Nat} {Q : Value → Shared → Prop} (F : Fr h₀ L s.heap m) (N : News h₀ L s.heap (pre ++ (q, W.listOf (us ++ [y]).toArray n) :: post)) (hpre : ∀ p ∈ pre, p.1 ≠ q) (hpost : ∀ p ∈ post, p.1 ≠ q) (hz : us.length ≤ 1000)
    (h : ∀ h', Fr h₀ L h' m → News h₀ L h' (pre ++ (q, W.listOf us.toArray (n + 1)) :: post) → Q y { s with heap := h' }) : wpAny (model prog w) A (call (.builtin "list.pop") [.ref q]) Q E s :=
  kl_pop F N (kpa_last y us) (upd_mid hpre hpost) (by simp only [List.length_append, List.length_cons, List.length_nil]; rw [sizeLine_eq]; omega) h
theorem append_vs {us : List Value} {y : Value} {n : Nat} {Q : Value → Shared → Prop} (F : Fr h₀ L s.heap m) (N : News h₀ L s.heap (pre ++ (q, W.listOf us.toArray n) :: post)) (hpre : ∀ p ∈ pre, p.1 ≠ q) (hpost : ∀ p ∈ post, p.1 ≠ q) (hz : us.length ≤ 1000)
    (h : ∀ h', Fr h₀ L h' m → News h₀ L h' (pre ++ (q, W.listOf (us ++ [y]).toArray (n + 1)) :: post) → Q .none { s with heap := h' }) : wpAny (model prog w) A (call (.builtin "list.append") [.ref q, y]) Q E s := by
  refine append_K F N (upd_mid hpre hpost) (fun h' F' N' => h h' F' ?_) (by rw [sizeLine_eq, List.size_toArray]; omega)
  have e : (us ++ [y]).toArray = us.toArray.push y := by simp
  rw [e]
  exact N'
end
end Mine
namespace Mine
section
variable {prog : Program} {w : World} {A : Around} {E : Value → Shared → Prop} {s : Shared} {h₀ : Heap} {L q : Addr} {m : Str → Option Value} {news : List (Addr × Obj)}
theorem truthy_snoc {us : List Value} {y : Value} {n : Nat} {Q : Bool → Shared → Prop} (N : News h₀ L s.heap news) (hm : (q, W.listOf (us ++ [y]).toArray n) ∈ news) (hz : us.length ≤ 900)
    (h : Q true { s with toks := s.toks + 1 + 1 }) : wpAny (model prog w) A (truthy (.ref q)) Q E s := by
  refine truthy_vs N hm (by simp only [List.length_append, List.length_cons, List.length_nil]; omega) ?_
  have : (!(us ++ [y]).isEmpty) = true := by cases us <;> rfl
  rw [this]; exact h
theorem truthy_nil {n : Nat} {Q : Bool → Shared → Prop} (N : News h₀ L s.heap news) (hm : (q, W.listOf #[] n) ∈ news) (h : Q false { s with toks := s.toks + 1 + 1 }) : wpAny (model prog w) A (truthy (.ref q)) Q E s :=
  truthy_vs (vs := []) N hm (by simp) h
end
end Mine
end

section
open PySem PySem.W PyProof.Rows PyProof.V PySem.Calls
namespace Mine
noncomputable abbrev tupO (vs : List Value) : Obj := { cls := .type "tuple", data := .seq vs.toArray }
noncomputable abbrev matchO (dx : Addr) (vs : List Value) : Obj := { cls := .ref 135, dict := some dx, data := .seq vs.toArray }
/-- a waiting piece: its tuple -/
structure QE where
  t : Addr
  a : Int
  b : Int
  c : Int
  d : Int
  ta : Tok
  tb : Tok
  tc : Tok
  td : Tok
structure BE where
  x : Addr
  dx : Addr
  i : Int
  j : Int
  k : Int
  ti : Tok
  tj : Tok
  tk : Tok
structure TE where
  t : Addr
  i : Int
  j : Int
  k : Int
  ti : Tok
  tj : Tok
  tk : Tok
noncomputable def QE.v (e : QE) : Value := .ref e.t
noncomputable def QE.o (e : QE) : Addr × Obj := (e.t, tupO [.int e.a e.ta, .int e.b e.tb, .int e.c e.tc, .int e.d e.td])
noncomputable def BE.v (e : BE) : Value := .ref e.x
noncomputable def BE.o (e : BE) : Addr × Obj := (e.x, matchO e.dx [.int e.i e.ti, .int e.j e.tj, .int e.k e.tk])
noncomputable def TE.v (e : TE) : Value := .ref e.t
noncomputable def TE.o (e : TE) : Addr × Obj := (e.t, tupO [.int e.i e.ti, .int e.j e.tj, .int e.k e.tk])
noncomputable def qsV (qs : List QE) : List Value := qs.map QE.v
noncomputable def qsL (qs : List QE) : List (Addr × Obj) := qs.map QE.o
noncomputable def bsV (bs : List BE) : List Value := bs.map BE.v
noncomputable def bsL : List BE → List (Addr × Obj)
  | [] => []
  | b :: r => b.o :: (b.dx, emptyDict) :: bsL r
noncomputable def tsV (ts : List TE) : List Value := ts.map TE.v
noncomputable def tsL (ts : List TE) : List (Addr × Obj) := ts.map TE.o
theorem bsL_app : ∀ xs ys : List BE, bsL (xs ++ ys) = bsL xs ++ bsL ys
  | [], _ => rfl
  | x :: xs, ys => by simp [bsL, bsL_app xs ys]
theorem bsL_mem {b : BE} : ∀ {bs : List BE}, b ∈ bs → b.o ∈ bsL bs
  | _, .head _ => .head _
  | _, .tail _ h => .tail _ (.tail _ (bsL_mem h))
noncomputable def qw : List QE → Int
  | [] => 0
  | e :: r => (e.b - e.a) + qw r
noncomputable def bw : List BE → Int
  | [] => 0
  | e :: r => e.k + bw r
theorem qw_app : ∀ xs ys : List QE, qw (xs ++ ys) = qw xs + qw ys
  | [], ys => by simp [qw]
  | x :: xs, ys => by simp only [List.cons_append, qw, qw_app xs ys]; omega
theorem bw_app : ∀ xs ys : List BE, bw (xs ++ ys) = bw xs + bw ys
  | [], ys => by simp [bw]
  | x :: xs, ys => by simp only [List.cons_append, bw, bw_app xs ys]; omega
/-- a valid match -/
structure BOk (xa xb : List Str) (i j k : Int) : Prop where
  i0 : 0 ≤ i
  j0 : 0 ≤ j
  ia : i + k ≤ xa.length
  jb : j + k ≤ xb.length
  same : Same xa xb i j k
structure QOk (xa xb : List Str) (e : QE) : Prop where
  a0 : 0 ≤ e.a
  ab : e.a < e.b
  b1 : e.b ≤ xa.length
  c0 : 0 ≤ e.c
  cd : e.c ≤ e.d
  d1 : e.d ≤ xb.length
noncomputable abbrev FullX (xa xb : List Str) : Prop := FullP xa xb 0 xa.length 0 xb.length
structure GP (xa xb : List Str) (qs : List QE) (bs : List BE) : Prop where
  q : ∀ e ∈ qs, QOk xa xb e
  b : ∀ e ∈ bs, BOk xa xb e.i e.j e.k ∧ 1 ≤ e.k
  w : qw qs + bw bs ≤ 4
  f : FullX xa xb → (bs = [] ∧ ∃ e, qs = [e] ∧ e.a = 0 ∧ e.b = xa.length ∧ e.c = 0 ∧ e.d = xb.length) ∨ (qs = [] ∧ ∃ e, bs = [e] ∧ e.i = 0 ∧ e.j = 0 ∧ e.k = xa.length)
section
variable {xa xb : List Str} {qs init add : List QE} {bs : List BE} {e : QE} {i j k : Int}
theorem qw_pos : ∀ {qs : List QE}, (∀ e ∈ qs, QOk xa xb e) → (qs.length : Int) ≤ qw qs
  | [], _ => by simp [qw]
  | e :: r, h => by
    have := qw_pos (qs := r) fun x hx => h x (.tail _ hx)
    have := (h e (.head _)).ab
    simp only [qw, List.length_cons]; omega
theorem bw_pos : ∀ {bs : List BE}, (∀ e ∈ bs, BOk xa xb e.i e.j e.k ∧ 1 ≤ e.k) → (bs.length : Int) ≤ bw bs
  | [], _ => by simp [bw]
  | e :: r, h => by
    have := bw_pos (bs := r) fun x hx => h x (.tail _ hx)
    have := (h e (.head _)).2
    simp only [bw, List.length_cons]; omega
theorem GP.len (G : GP xa xb qs bs) : qs.length ≤ 4 ∧ bs.length ≤ 4 := by
  have h1 := qw_pos G.q
  have h2 := bw_pos G.b
  have := G.w
  constructor <;> omega
theorem gp_start (e : QE) (ha : 1 ≤ xa.length) (h4 : xa.length ≤ 4) (h1 : e.a = 0) (h2 : e.b = xa.length) (h3 : e.c = 0) (h5 : e.d = xb.length) : GP xa xb [e] [] where
  q := fun x hx => by rw [List.mem_singleton.mp hx]; exact ⟨by omega, by omega, by omega, by omega, by omega, by omega⟩
  b := fun x hx => by simp at hx
  w := by simp only [qw, bw]; omega
  f := fun _ => .inl ⟨rfl, e, rfl, h1, h2, h3, h5⟩
theorem gp_zero (G : GP xa xb (init ++ [e]) bs) (R : FlR xa xb e.a e.b e.c e.d i j k) (hk : k = 0) : GP xa xb init bs where
  q := fun x hx => G.q x (List.mem_append_left _ hx)
  b := G.b
  w := by
    have h1 := G.w
    have h2 := (G.q e (by simp)).ab
    rw [qw_app] at h1
    simp only [qw] at h1
    omega
  f := fun F => by
    rcases G.f F with ⟨h1, e', h2, h3, h4, h5, h6⟩ | ⟨h1, _⟩
    · have h7 : init = [] ∧ e = e' := by
        cases init with
        | nil => simpa using h2
        | cons y ys => simp at h2
      obtain ⟨rfl, rfl⟩ := h7
      exfalso
      have h8 := R.full (by rw [h3, h4, h5, h6]; exact F)
      have h9 := (G.q e (by simp)).ab
      omega
    · simp at h1
theorem gp_step (G : GP xa xb (init ++ [e]) bs) (R : FlR xa xb e.a e.b e.c e.d i j k) (hk : k ≠ 0) (b : BE) (hb : b.i = i ∧ b.j = j ∧ b.k = k)
    (hadd : ∀ x ∈ add, (x.a = e.a ∧ x.b = i ∧ x.c = e.c ∧ x.d = j ∧ e.a < i ∧ e.c < j) ∨ (x.a = i + k ∧ x.b = e.b ∧ x.c = j + k ∧ x.d = e.d ∧ i + k < e.b ∧ j + k < e.d)) (hw : qw add + k ≤ e.b - e.a) :
    GP xa xb (init ++ add) (bs ++ [b]) ∧ qw (init ++ add) < qw (init ++ [e]) := by
  have Q := G.q e (by simp)
  have h0 := R.best.c
  have b1 := R.best.a
  have b2 := R.best.b
  have b3 := R.best.d
  have b4 := R.best.e
  have q1 := Q.a0
  have q2 := Q.ab
  have q3 := Q.b1
  have q4 := Q.c0
  have q5 := Q.cd
  have q6 := Q.d1
  have hw0 := G.w
  refine ⟨⟨fun x hx => ?_, fun x hx => ?_, ?_, fun F => ?_⟩, ?_⟩
  · rcases List.mem_append.mp hx with h | h
    · exact G.q x (List.mem_append_left _ h)
    · rcases hadd x h with ⟨g1, g2, g3, g4, g5, g6⟩ | ⟨g1, g2, g3, g4, g5, g6⟩
      · exact ⟨by omega, by omega, by omega, by omega, by omega, by omega⟩
      · exact ⟨by omega, by omega, by omega, by omega, by omega, by omega⟩
  · rcases List.mem_append.mp hx with h | h
    · exact G.b x h
    · rw [List.mem_singleton.mp h, hb.1, hb.2.1, hb.2.2]
      exact ⟨⟨by omega, by omega, by omega, by omega, R.best.s⟩, by omega⟩
  · rw [qw_app] at hw0 ⊢
    rw [bw_app]
    simp only [qw, bw, hb.2.2] at hw0 ⊢
    omega
  · rcases G.f F with ⟨h1, e', h2, h3, h4, h5, h6⟩ | ⟨h1, _⟩
    · have h7 : init = [] ∧ e = e' := by
        cases init with
        | nil => simpa using h2
        | cons y ys => simp at h2
      obtain ⟨rfl, rfl⟩ := h7
      have h8 := R.full (by rw [h3, h4, h5, h6]; exact F)
      refine .inr ⟨?_, b, by simp [h1], by omega, by omega, by omega⟩
      cases add with
      | nil => rfl
      | cons y ys =>
        rcases hadd y (.head _) with g | g <;> omega
    · simp at h1
  · rw [qw_app, qw_app]
    simp only [qw]
    omega
theorem gp_drop (G : GP xa xb (init ++ [e]) bs) : qw init < qw (init ++ [e]) := by
  have := (G.q e (by simp)).ab
  rw [qw_app]; simp only [qw]; omega
end
/-- amid the joining of adjacent blocks -/
structure JP (xa xb : List Str) (p : Nat) (i j k : Int) (ts : List TE) : Prop where
  t : ∀ e ∈ ts, BOk xa xb e.i e.j e.k
  c : BOk xa xb i j k
  k0 : 0 ≤ k
  n : ts.length ≤ p
  f : FullX xa xb → ts = [] ∧ i = 0 ∧ j = 0 ∧ ((p = 0 ∧ k = 0) ∨ (p = 1 ∧ k = xa.length))
section
variable {xa xb : List Str} {p : Nat} {i j k i2 j2 k2 : Int} {ts : List TE}
theorem jp_start : JP xa xb 0 0 0 0 [] where
  t := fun e h => by simp at h
  c := ⟨by omega, by omega, by omega, by omega, fun t h0 h1 => by omega⟩
  k0 := by omega
  n := by simp
  f := fun _ => ⟨rfl, rfl, rfl, .inl ⟨rfl, rfl⟩⟩
/-- what the block taken says -/
structure Nxt (xa xb : List Str) (p : Nat) (i2 j2 k2 : Int) : Prop where
  b : BOk xa xb i2 j2 k2
  k : 1 ≤ k2
  f : FullX xa xb → p = 0 ∧ i2 = 0 ∧ j2 = 0 ∧ k2 = xa.length
theorem jp_join (J : JP xa xb p i j k ts) (B : Nxt xa xb p i2 j2 k2) (h1 : i + k = i2) (h2 : j + k = j2) : JP xa xb (p + 1) i j (k + k2) ts where
  t := J.t
  c := by
    have a1 := J.c.i0
    have a2 := J.c.j0
    have a3 := B.b.ia
    have a4 := B.b.jb
    refine ⟨J.c.i0, J.c.j0, by omega, by omega, fun t h0 h3 => ?_⟩
    by_cases h : t < k
    · exact J.c.same t h0 h
    · have := B.b.same (t - k) (by omega) (by omega)
      rw [show i2 + (t - k) = i + t by omega, show j2 + (t - k) = j + t by omega] at this
      exact this
  k0 := by have := J.k0; have := B.k; omega
  n := by have := J.n; omega
  f := fun F => by
    obtain ⟨g1, g2, g3, g4⟩ := J.f F
    obtain ⟨b1, b2, b3, b4⟩ := B.f F
    refine ⟨g1, g2, g3, .inr ⟨by omega, ?_⟩⟩
    rcases g4 with ⟨g5, g6⟩ | ⟨g5, g6⟩ <;> omega
theorem jp_apart0 (J : JP xa xb p i j k ts) (B : Nxt xa xb p i2 j2 k2) (h0 : k = 0) (hne : ¬ (i + k = i2 ∧ j + k = j2)) : JP xa xb (p + 1) i2 j2 k2 ts where
  t := J.t
  c := B.b
  k0 := by have := B.k; omega
  n := by have := J.n; omega
  f := fun F => by
    obtain ⟨g1, g2, g3, g4⟩ := J.f F
    obtain ⟨b1, b2, b3, b4⟩ := B.f F
    exact ⟨g1, b2, b3, .inr ⟨by omega, b4⟩⟩
theorem jp_apart (J : JP xa xb p i j k ts) (B : Nxt xa xb p i2 j2 k2) (h0 : k ≠ 0) (hne : ¬ (i + k = i2 ∧ j + k = j2)) (e : TE) (he : e.i = i ∧ e.j = j ∧ e.k = k) : JP xa xb (p + 1) i2 j2 k2 (ts ++ [e]) where
  t := fun x hx => by
    rcases List.mem_append.mp hx with h | h
    · exact J.t x h
    · rw [List.mem_singleton.mp h, he.1, he.2.1, he.2.2]; exact J.c
  c := B.b
  k0 := by have := B.k; omega
  n := by have := J.n; simp only [List.length_append, List.length_cons, List.length_nil]; omega
  f := fun F => by
    obtain ⟨g1, g2, g3, g4⟩ := J.f F
    obtain ⟨b1, b2, b3, b4⟩ := B.f F
    exfalso
    rcases g4 with ⟨g5, g6⟩ | ⟨g5, g6⟩ <;> omega
/-- the first of the joined blocks -/
theorem jp_first (J : JP xa xb p i j k ts) (hp : FullX xa xb → p ≠ 0) (ha : 1 ≤ xa.length) (r : TE) (zs : List TE) (z : TE) (hz : z.i = xa.length ∧ z.j = xb.length ∧ z.k = 0)
    (h : (k = 0 ∧ ts ++ [z] = r :: zs) ∨ (∃ e : TE, k ≠ 0 ∧ e.i = i ∧ e.j = j ∧ e.k = k ∧ ts ++ [e] ++ [z] = r :: zs)) :
    (r.i = 0 ∧ r.j = 0 ∧ r.k = xa.length) ↔ FullX xa xb := by
  constructor
  · rintro ⟨h1, h2, h3⟩
    have hr : r = z ∨ BOk xa xb r.i r.j r.k := by
      have hm : r ∈ r :: zs := .head _
      rcases h with ⟨h4, h5⟩ | ⟨e, h4, h5, h6, h7, h8⟩
      · rw [← h5] at hm
        rcases List.mem_append.mp hm with q | q
        · exact .inr (J.t r q)
        · exact .inl (List.mem_singleton.mp q)
      · rw [← h8] at hm
        rcases List.mem_append.mp hm with q | q
        · rcases List.mem_append.mp q with q | q
          · exact .inr (J.t r q)
          · rw [List.mem_singleton.mp q, h5, h6, h7]; exact .inr J.c
        · exact .inl (List.mem_singleton.mp q)
    rcases hr with rfl | B
    · omega
    · have b1 := B.jb
      refine ⟨by omega, fun t g1 g2 => ?_⟩
      have := B.same t g1 (by omega)
      rw [h1, h2] at this
      exact this
  · intro F
    obtain ⟨g1, g2, g3, g4⟩ := J.f F
    have := hp F
    rcases g4 with ⟨g5, g6⟩ | ⟨g5, g6⟩
    · omega
    · rcases h with ⟨h4, h5⟩ | ⟨e, h4, h5, h6, h7, h8⟩
      · omega
      · rw [g1] at h8
        simp only [List.nil_append, List.cons_append, List.cons.injEq] at h8
        obtain ⟨rfl, _⟩ := h8
        exact ⟨by omega, by omega, by omega⟩
end
end Mine
namespace Mine
theorem parts {init add : List QE} {bs : List BE} {b : BE} {Lb : List (Addr × Obj)} {p : Addr × Obj} (hp : p ∈ qsL (init ++ add) ++ (bsL (bs ++ [b]) ++ Lb)) : p ∈ qsL add ++ (b.o :: (b.dx, emptyDict) :: (qsL init ++ (bsL bs ++ Lb))) := by
  rw [bsL_app] at hp
  simp only [qsL, List.map_append, bsL] at hp ⊢
  rcases List.mem_append.mp hp with h | h
  · rcases List.mem_append.mp h with h | h
    · exact List.mem_append_right _ (.tail _ (.tail _ (List.mem_append_left _ h)))
    · exact List.mem_append_left _ h
  · rcases List.mem_append.mp h with h | h
    · rcases List.mem_append.mp h with h | h
      · exact List.mem_append_right _ (.tail _ (.tail _ (List.mem_append_right _ (List.mem_append_left _ h))))
      · rcases List.mem_cons.mp h with h | h
        · rw [h]; exact List.mem_append_right _ (.head _)
        · rw [List.mem_singleton.mp h]; exact List.mem_append_right _ (.tail _ (.head _))
    · exact List.mem_append_right _ (.tail _ (.tail _ (List.mem_append_right _ (List.mem_append_right _ h))))
theorem parts0 {init add : List QE} {bs : List BE} {b : BE} {p : Addr × Obj} (hp : p ∈ qsL (init ++ add) ++ bsL (bs ++ [b])) : p ∈ qsL add ++ (b.o :: (b.dx, emptyDict) :: (qsL init ++ bsL bs)) := by
  have h := parts (Lb := []) (p := p) (by rw [List.append_nil (bsL (bs ++ [b]))]; exact hp)
  rw [List.append_nil (bsL bs)] at h
  exact h
end Mine
namespace Mine
theorem exTok {h₀ h : Heap} {L D : Addr} {a b : Value} {t : Tok} {r : List (Addr × Obj)} (N : News h₀ L h ((D, { cls := .type "tuple", data := .seq #[a, b, .int 0 t] }) :: r)) : ∃ t', News h₀ L h ((D, tupO [a, b, .int 0 t']) :: r) := ⟨t, N⟩
theorem te_same {h₀ h : Heap} {L : Addr} {news : List (Addr × Obj)} {e r : TE} (N : News h₀ L h news) (m1 : r.o ∈ news) (m2 : e.o ∈ news) (ht : r.t = e.t) : r.i = e.i ∧ r.j = e.j ∧ r.k = e.k := by
  have g1 := (N _ m1).1
  have g2 := (N _ m2).1
  simp only [TE.o] at g1 g2
  rw [ht, g2] at g1
  have := Option.some.inj g1
  simp at this
  exact ⟨this.1.1.symm, this.2.1.1.symm, this.2.2.1.symm⟩
end Mine
end

section
open PySem PySem.W PyProof.Rows PyProof.V PySem.Calls
namespace Mine
set_option hygiene false in
local macro_rules | `(tactic| k_ne) => `(tactic| (refine neN ?_; (try dsimp only); exact ad_ne))
structure GS where
  qs : List QE
  bs : List BE
  nq : Nat
  nb : Nat
structure NS where
  i : Int
  j : Int
  k : Int
  ti : Tok
  tj : Tok
  tk : Tok
  ts : List TE
  nn : Nat
set_option hygiene false in
local macro_rules | `(tactic| k_all) => `(tactic| assumption)
set_option hygiene false in
local macro_rules | `(tactic| walk_at "call builtin:len") => `(tactic| (k_here; k_dflt (refine' KM.len_K (by k_asm) (by k_mem) (by exact Eq.trans List.size_toArray (StrsAre.length (by assumption))) (by omega) ?_)))
set_option hygiene false in
local macro_rules | `(tactic| walk_at "exec While") => `(tactic| refine unstop ?_)
local macro_rules | `(tactic| walk_at "exec For Tuple Name cons nil") => `(tactic| (k_here; (rename Fr _ _ _ _ => lF'); (with_unfolding_all refine' For_turns lF' ?_; k_whole)))
set_option hygiene false in
local macro_rules | `(tactic| walk_at "call builtin:list.sort") => `(tactic| refine unstop ?_)
set_option hygiene false in
local macro_rules | `(tactic| walk_at "pyIter ref") => `(tactic| refine unstop ?_)
local macro_rules | `(tactic| walk_at "truthy ref") => `(tactic| (k_here; (with_reducible show wpAny _ _ (truthy (Value.ref _)) _ _ _); first
  | (refine' truthy_snoc ?tN ?tM ?tz ?_; (case tN => k_asm); (case tM => exact List.Mem.head _); (case tz => (have := ‹List.length _ ≤ 900›; assumption)))
  | (refine' truthy_nil ?tN ?tM ?_; (case tN => k_asm); (case tM => exact List.Mem.head _))))
set_option hygiene false in
local macro_rules | `(tactic| walk_at "call builtin:list.pop") => `(tactic| refine unstop ?_)
set_option hygiene false in
local macro_rules | `(tactic| walk_at "call builtin:list.append") => `(tactic| refine unstop ?_)
set_option hygiene false in
local macro_rules | `(tactic| walk_at "call ref") => `(tactic| with_reducible refine unstopR 196 ?_)
set_option hygiene false in
local macro_rules | `(tactic| walk_at "assign Tuple") => `(tactic| (k_here; k_dflt (refine' tup_assign (C := 135) (by k_asm) (by k_asm) (by k_asm) (by kernel_rfl) (by exact List.Mem.head _) (by rfl) (by rfl) (by exact rfl) (by exact rfl) (by exact rfl) ?_; k_whole); intro _ _ _; (try k_sweep)))
set_option hygiene false in
local macro_rules | `(tactic| walk_at "call type:map") => `(tactic| refine unstop ?_)
set_option hygiene false in
local macro_rules | `(tactic| walk_at "call type:list") => `(tactic| refine unstop ?_)
set_option hygiene false in
local macro_rules | `(tactic| walk_at "eval Name") => `(tactic| (k_here; k_dflt (refine' nameX_L (by k_asm) (by first | rfl | assumption) ?_ (by rfl) (by rfl); k_whole)))
set_option maxRecDepth 100000 in
set_option maxHeartbeats 8000000 in
theorem gmb_K (w : World) (mean : ExcName → Option Value) (mg mb : Str → Option Value) (dp un : Nat) (gd : Option (List Code)) (cn : Str) (cs : Scope) (a : Addr) (ccd : Value) (cl : List (Str × Addr)) (outer : List Env) (A₀ : Around) (base h₀ : Heap) (L : Addr) (m : Str → Option Value)
    (s : Shared) (Q E : Value → Shared → Prop) (H : Nat → Int) (T : Nat → Tok) (la lb d2 jk : Addr) (vop vfb vpop : Value) (na nb : Nat) (M dM : Addr) (va vb : List Value) (xa xb : List Str) (Lb : List (Addr × Obj)) (D2 : Obj) (led : Bool) (kvs : List (Str × Value))
    (B : Below A₀ base outer h₀) (F : Fr h₀ L s.heap m) (X : (Mine.hd.heap_1 w.params).In h₀) (N : News h₀ L s.heap ((M, instObj 242 dM) :: (dM, dictOf (smE H T (.ref la) (.ref lb) .none vop vfb (.ref d2) (.ref jk) vpop) 10) :: (la, W.listOf va.toArray na) :: (lb, W.listOf vb.toArray nb) :: (jk, { cls := .type "set", dict := none, data := .set #[] 0 (.fresh 0 0 led) }) :: (d2, D2) :: Lb))
    (hD2 : D2.IsDictOf (PySem.strKind PySem.Challenge.rw_ik0096_01.row.prog w) kvs)
    (hB : B2J kvs xb Lb) (hlo : (d2 == sysModules) = false) (hz : Obj.SetObjOf (PySem.strKind PySem.Challenge.rw_ik0096_01.row.prog w) { cls := .type "set", dict := none, data := .set #[] 0 (.fresh 0 0 led) } (fun _ => false) 0)
    (hM : @Ne Nat M dM) (hMa : @Ne Nat la dM) (hMb : @Ne Nat lb dM) (hMj : @Ne Nat jk dM) (hMd : @Ne Nat d2 dM) (hLr : ∀ p ∈ Lb, p.1 ≠ dM)
    (ha : StrsAre va xa) (hb : StrsAre vb xb) (hsa : xa.length ≤ 4) (hsb : xb.length ≤ 4) (h1a : 1 ≤ xa.length)
    (Tp : Top Qv (looseW Qv looseL) mean mg mb h₀) (hk : cs.kind = .function)
    (hd : dp + 6 < recursionLimit) (hu : un + 60 < cLine)
    (hret : ∀ (S y dy : Addr) (bi bj bk : Int) (ti tj tk : Tok) (vs : List Value) (c : Nat) (made : List (Addr × Obj)) h' tk', ((bi = 0 ∧ bj = 0 ∧ bk = (xa.length : Int)) ↔ FullX xa xb) → vs[0]? = some (.ref y) → (y, matchO dy [.int bi ti, .int bj tj, .int bk tk]) ∈ made → Fr h₀ L h' m →
      News h₀ L h' ((S, W.listOf vs.toArray c) :: (made ++ (M, instObj 242 dM) :: (dM, dictOf (smE H T (.ref la) (.ref lb) (.ref S) vop vfb (.ref d2) (.ref jk) vpop) 10) :: (la, W.listOf va.toArray na) :: (lb, W.listOf vb.toArray nb) :: (jk, { cls := .type "set", dict := none, data := .set #[] 0 (.fresh 0 0 led) }) :: (d2, D2) :: Lb)) → Q (.ref S) { s with heap := h', toks := tk' }) :
    wpAny (model PySem.Challenge.rw_ik0096_01.row.prog w) (ktrTop dp un gd cn cs L a ccd cl outer) (call (.ref 203) [.ref M]) Q E s := by
  revert X; k_fill; intro X
  refine wpAny_call ?_
  k_dflt (refine' code_def (binds := [(Str.ofString "self", Value.ref M)]) ?k1 ?k2 ?k3 ?k4 ?k5 ?kA ?kF ?kK ?k6 ?k7 ?k8 ?k9 ?kB ?_ ?c2 ?c3 ?c4 ?c5; (case kA => exact rfl); (case kF => exact rfl); (case kK => first | assumption | rfl); (case k1 => k_asm); (case k2 => k_asm); (case k3 => k_asm); (case k4 => k_asm); (case k5 => k_asm); (case k6 => k_is); (case k7 => k_is); (case k8 => ktr_room); (case k9 => first | exact BindsTo.of_eq rfl | exact binds_K (by k_in) rfl (by k_is) rfl rfl rfl); (case c5 => decide); (case kB => exact locs rfl); (case c2 => exact rfl); (case c3 => exact rfl); (case c4 => exact rfl); k_whole; intro g' L' h' FG' F' N' B' X' T'; (try dsimp only); (try k_fold))
  k_steps
  rename_i tA tB D1 k1 lD1 k2 k3 k4 tC t0 k5 lt0 q k6 lq k7 tD bl k8 lmb k9 F9 N9
  have z1 : @LT.lt Nat _ t0 q := lq.1
  have z2 : @LT.lt Nat _ q bl := lmb.1
  have z3 : @LT.lt Nat _ M q := lq.2.2.1
  have z4 : @LT.lt Nat _ dM q := lq.2.2.2.1
  have z5 : @LT.lt Nat _ la q := lq.2.2.2.2.1
  have z6 : @LT.lt Nat _ lb q := lq.2.2.2.2.2.1
  have z7 : @LT.lt Nat _ jk q := lq.2.2.2.2.2.2.1
  have z8 : @LT.lt Nat _ d2 q := lq.2.2.2.2.2.2.2.1
  have z9 : ∀ p ∈ Lb, @LT.lt Nat _ p.1 q := allLt_mem lq.2.2.2.2.2.2.2.2
  have z0 : @LT.lt Nat _ dM t0 := lt0.2.2.1
  refine hide5 (x1 := Str.ofString "self") (x2 := Str.ofString "queue") (x3 := Str.ofString "matching_blocks") (x4 := Str.ofString "la") (x5 := Str.ofString "lb") F9 (by first | rfl | assumption) (by first | rfl | assumption) (by first | rfl | assumption) (by first | rfl | assumption) (by first | rfl | assumption) fun mO F9o fa1 fa2 fa3 fa4 fa5 => ?_
  refine lv_while2 (σ := GS) (fun c => (M, instObj 242 dM) :: (dM, dictOf (smE H T (.ref la) (.ref lb) .none vop vfb (.ref d2) (.ref jk) vpop) 10) :: (la, W.listOf va.toArray na) :: (lb, W.listOf vb.toArray nb) :: (jk, { cls := .type "set", dict := none, data := .set #[] 0 (.fresh 0 0 led) }) :: (d2, D2) :: (q, W.listOf (qsV c.qs).toArray c.nq) :: (bl, W.listOf (bsV c.bs).toArray c.nb) :: (qsL c.qs ++ (bsL c.bs ++ Lb))) (fun _ => []) [Str.ofString "alo", Str.ofString "ahi", Str.ofString "blo", Str.ofString "bhi", Str.ofString "i", Str.ofString "j", Str.ofString "k", Str.ofString "x"]
    (fun c => GP xa xb c.qs c.bs ∧ (∀ p ∈ qsL c.qs ++ bsL c.bs, @Ne Nat p.1 q ∧ @Ne Nat p.1 bl ∧ @Ne Nat p.1 dM)) (fun c => c.qs = []) (fun c => (qw c.qs).toNat) ⟨[⟨t0, 0, xa.length, 0, xb.length, tC, tB + 1 + 1, tC + 1, tB + 1 + 1 + 1 + 1 + 1⟩], [], 0, 0⟩ rfl F9o ?kN ?kk ?kP ?tu ?dn
  case kN => exact fun p hp => N9 p (by
    revert p
    show ∀ p ∈ (M, instObj 242 dM) :: (dM, dictOf (smE H T (.ref la) (.ref lb) .none vop vfb (.ref d2) (.ref jk) vpop) 10) :: (la, W.listOf va.toArray na) :: (lb, W.listOf vb.toArray nb) :: (jk, { cls := .type "set", dict := none, data := .set #[] 0 (.fresh 0 0 led) }) :: (d2, D2) :: (q, W.listOf #[Value.ref t0] 0) :: (bl, W.listOf #[] 0) :: (t0, { cls := Value.type "tuple", data := Data.seq #[Value.int 0 tC, Value.int (↑xa.length) (tB + 1 + 1), Value.int 0 (tC + 1), Value.int (↑xb.length) (tB + 1 + 1 + 1 + 1 + 1)] }) :: Lb, _
    (first | ((try dsimp only); with_reducible (repeat' (first | exact sub_refl | exact sub_nil | refine sub_take ?_ | refine sub_skip ?_)); done) | ((try dsimp only); with_reducible (repeat' (first | exact sub_refl | exact sub_nil | exact mem_hd | refine sub_take ?_ | refine sub_put ?_ ?_ | refine mem_tl ?_ | refine sub_skip ?_)); done) | ((try dsimp only); (repeat' (first | exact sub_refl | exact sub_nil | exact mem_hd | refine sub_take ?_ | refine sub_put ?_ ?_ | refine mem_tl ?_ | refine sub_skip ?_)); done)))
  case kk => exact all_nil
  case kP =>
    refine ⟨gp_start _ h1a hsa rfl rfl rfl rfl, fun p hp => ?_⟩
    have e : p = (t0, _) := List.mem_singleton.mp hp
    rw [e]
    exact ⟨Nat.ne_of_lt z1, Nat.ne_of_lt (Nat.lt_trans z1 z2), Nat.ne_of_gt z0⟩
  case tu =>
    intro cT u1 h1 tk1 hPc F1 N1
    refine gen_post fun PT hPT => ?_
    obtain ⟨qs, bs, nq, nb'⟩ := cT
    obtain ⟨G, AP⟩ := hPc
    dsimp only [kstB] at F1 ⊢
    dsimp only at G AP
    rcases List.eq_nil_or_concat qs with rfl | ⟨init, e, rfl⟩
    · have N2 : News g' L' h1 ((q, W.listOf #[] nq) :: (M, instObj 242 dM) :: (dM, dictOf (smE H T (.ref la) (.ref lb) .none vop vfb (.ref d2) (.ref jk) vpop) 10) :: (la, W.listOf va.toArray na) :: (lb, W.listOf vb.toArray nb) :: (jk, { cls := .type "set", dict := none, data := .set #[] 0 (.fresh 0 0 led) }) :: (d2, D2) :: (bl, W.listOf (bsV bs).toArray nb') :: (bsL bs ++ Lb)) := fun p hp => N1 p (by
        revert p
        show ∀ p ∈ _, p ∈ (M, instObj 242 dM) :: (dM, dictOf (smE H T (.ref la) (.ref lb) .none vop vfb (.ref d2) (.ref jk) vpop) 10) :: (la, W.listOf va.toArray na) :: (lb, W.listOf vb.toArray nb) :: (jk, { cls := .type "set", dict := none, data := .set #[] 0 (.fresh 0 0 led) }) :: (d2, D2) :: (q, W.listOf #[] nq) :: (bl, W.listOf (bsV bs).toArray nb') :: (bsL bs ++ Lb)
        (first | ((try dsimp only); with_reducible (repeat' (first | exact sub_refl | exact sub_nil | refine sub_take ?_ | refine sub_skip ?_)); done) | ((try dsimp only); with_reducible (repeat' (first | exact sub_refl | exact sub_nil | exact mem_hd | refine sub_take ?_ | refine sub_put ?_ ?_ | refine mem_tl ?_ | refine sub_skip ?_)); done) | ((try dsimp only); (repeat' (first | exact sub_refl | exact sub_nil | exact mem_hd | refine sub_take ?_ | refine sub_put ?_ ?_ | refine mem_tl ?_ | refine sub_skip ?_)); done)))
      clear N1
      k_steps
      refine of_post hPT ?_; refine ite_neg Bool.false_ne_true ?_
      refine' wl_out ⟨[], bs, nq, nb'⟩ F1 N2 ?hn ?hk ?hr ⟨⟨G, AP⟩, rfl⟩
      case hn => (first | ((try dsimp only); with_reducible (repeat' (first | exact sub_refl | exact sub_nil | refine sub_take ?_ | refine sub_skip ?_)); done) | ((try dsimp only); with_reducible (repeat' (first | exact sub_refl | exact sub_nil | exact mem_hd | refine sub_take ?_ | refine sub_put ?_ ?_ | refine mem_tl ?_ | refine sub_skip ?_)); done) | ((try dsimp only); (repeat' (first | exact sub_refl | exact sub_nil | exact mem_hd | refine sub_take ?_ | refine sub_put ?_ ?_ | refine mem_tl ?_ | refine sub_skip ?_)); done))
      case hk => exact all_nil
      case hr =>
        intro z g2 g3; (repeat (first | with_reducible rfl | refine ite_go (by first | assumption | with_reducible (first | exact ne_head g2 | exact ne_head (ne_tail g2) | exact ne_head (ne_tail (ne_tail g2)) | exact ne_head (ne_tail (ne_tail (ne_tail g2))) | exact ne_head (ne_tail (ne_tail (ne_tail (ne_tail g2)))) | exact ne_chead g3 | exact ne_chead (ne_ctail g3) | exact ne_chead (ne_ctail (ne_ctail g3)) | exact ne_chead (ne_ctail (ne_ctail (ne_ctail g3))) | exact ne_chead (ne_ctail (ne_ctail (ne_ctail (ne_ctail g3)))) | exact ne_chead (ne_ctail (ne_ctail (ne_ctail (ne_ctail (ne_ctail g3))))) | exact ne_chead (ne_ctail (ne_ctail (ne_ctail (ne_ctail (ne_ctail (ne_ctail g3)))))) | exact ne_chead (ne_ctail (ne_ctail (ne_ctail (ne_ctail (ne_ctail (ne_ctail (ne_ctail g3))))))) | exact ne_chead (ne_ctail (ne_ctail (ne_ctail (ne_ctail (ne_ctail (ne_ctail (ne_ctail (ne_ctail g3)))))))) | exact ne_chead (ne_ctail (ne_ctail (ne_ctail (ne_ctail (ne_ctail (ne_ctail (ne_ctail (ne_ctail (ne_ctail g3))))))))) | exact ne_chead (ne_ctail (ne_ctail (ne_ctail (ne_ctail (ne_ctail (ne_ctail (ne_ctail (ne_ctail (ne_ctail (ne_ctail g3)))))))))))) ?_ | refine cont_step (by first | with_reducible exact g3 | ((repeat (refine cont_cons (by first | assumption | with_reducible (first | exact ne_head g2 | exact ne_head (ne_tail g2) | exact ne_head (ne_tail (ne_tail g2)) | exact ne_head (ne_tail (ne_tail (ne_tail g2))) | exact ne_head (ne_tail (ne_tail (ne_tail (ne_tail g2)))) | exact ne_chead g3 | exact ne_chead (ne_ctail g3) | exact ne_chead (ne_ctail (ne_ctail g3)) | exact ne_chead (ne_ctail (ne_ctail (ne_ctail g3))) | exact ne_chead (ne_ctail (ne_ctail (ne_ctail (ne_ctail g3)))) | exact ne_chead (ne_ctail (ne_ctail (ne_ctail (ne_ctail (ne_ctail g3))))) | exact ne_chead (ne_ctail (ne_ctail (ne_ctail (ne_ctail (ne_ctail (ne_ctail g3)))))) | exact ne_chead (ne_ctail (ne_ctail (ne_ctail (ne_ctail (ne_ctail (ne_ctail (ne_ctail g3))))))) | exact ne_chead (ne_ctail (ne_ctail (ne_ctail (ne_ctail (ne_ctail (ne_ctail (ne_ctail (ne_ctail g3)))))))) | exact ne_chead (ne_ctail (ne_ctail (ne_ctail (ne_ctail (ne_ctail (ne_ctail (ne_ctail (ne_ctail (ne_ctail g3))))))))) | exact ne_chead (ne_ctail (ne_ctail (ne_ctail (ne_ctail (ne_ctail (ne_ctail (ne_ctail (ne_ctail (ne_ctail (ne_ctail g3)))))))))))) ?_)); exact cont_nil)) ?_ | refine ite_goR (by first | assumption | with_reducible (first | exact ne_head g2 | exact ne_head (ne_tail g2) | exact ne_head (ne_tail (ne_tail g2)) | exact ne_head (ne_tail (ne_tail (ne_tail g2))) | exact ne_head (ne_tail (ne_tail (ne_tail (ne_tail g2)))) | exact ne_chead g3 | exact ne_chead (ne_ctail g3) | exact ne_chead (ne_ctail (ne_ctail g3)) | exact ne_chead (ne_ctail (ne_ctail (ne_ctail g3))) | exact ne_chead (ne_ctail (ne_ctail (ne_ctail (ne_ctail g3)))) | exact ne_chead (ne_ctail (ne_ctail (ne_ctail (ne_ctail (ne_ctail g3))))) | exact ne_chead (ne_ctail (ne_ctail (ne_ctail (ne_ctail (ne_ctail (ne_ctail g3)))))) | exact ne_chead (ne_ctail (ne_ctail (ne_ctail (ne_ctail (ne_ctail (ne_ctail (ne_ctail g3))))))) | exact ne_chead (ne_ctail (ne_ctail (ne_ctail (ne_ctail (ne_ctail (ne_ctail (ne_ctail (ne_ctail g3)))))))) | exact ne_chead (ne_ctail (ne_ctail (ne_ctail (ne_ctail (ne_ctail (ne_ctail (ne_ctail (ne_ctail (ne_ctail g3))))))))) | exact ne_chead (ne_ctail (ne_ctail (ne_ctail (ne_ctail (ne_ctail (ne_ctail (ne_ctail (ne_ctail (ne_ctail (ne_ctail g3)))))))))))) ?_ | refine cont_stepR (by first | with_reducible exact g3 | ((repeat (refine cont_cons (by first | assumption | with_reducible (first | exact ne_head g2 | exact ne_head (ne_tail g2) | exact ne_head (ne_tail (ne_tail g2)) | exact ne_head (ne_tail (ne_tail (ne_tail g2))) | exact ne_head (ne_tail (ne_tail (ne_tail (ne_tail g2)))) | exact ne_chead g3 | exact ne_chead (ne_ctail g3) | exact ne_chead (ne_ctail (ne_ctail g3)) | exact ne_chead (ne_ctail (ne_ctail (ne_ctail g3))) | exact ne_chead (ne_ctail (ne_ctail (ne_ctail (ne_ctail g3)))) | exact ne_chead (ne_ctail (ne_ctail (ne_ctail (ne_ctail (ne_ctail g3))))) | exact ne_chead (ne_ctail (ne_ctail (ne_ctail (ne_ctail (ne_ctail (ne_ctail g3)))))) | exact ne_chead (ne_ctail (ne_ctail (ne_ctail (ne_ctail (ne_ctail (ne_ctail (ne_ctail g3))))))) | exact ne_chead (ne_ctail (ne_ctail (ne_ctail (ne_ctail (ne_ctail (ne_ctail (ne_ctail (ne_ctail g3)))))))) | exact ne_chead (ne_ctail (ne_ctail (ne_ctail (ne_ctail (ne_ctail (ne_ctail (ne_ctail (ne_ctail (ne_ctail g3))))))))) | exact ne_chead (ne_ctail (ne_ctail (ne_ctail (ne_ctail (ne_ctail (ne_ctail (ne_ctail (ne_ctail (ne_ctail (ne_ctail g3)))))))))))) ?_)); exact cont_nil)) ?_))
    · rw [List.concat_eq_append] at G AP N1 hPT
      have hlen : (qsV init).length ≤ 900 := by have := G.len.1; simp only [qsV, List.length_map, List.length_append, List.length_cons, List.length_nil] at this ⊢; (first | exact ad_ne | omega)
      have N2 : News g' L' h1 ((q, W.listOf (qsV init ++ [Value.ref e.t]).toArray nq) :: (M, instObj 242 dM) :: (dM, dictOf (smE H T (.ref la) (.ref lb) .none vop vfb (.ref d2) (.ref jk) vpop) 10) :: (la, W.listOf va.toArray na) :: (lb, W.listOf vb.toArray nb) :: (jk, { cls := .type "set", dict := none, data := .set #[] 0 (.fresh 0 0 led) }) :: (d2, D2) :: (bl, W.listOf (bsV bs).toArray nb') :: (e.t, tupO [.int e.a e.ta, .int e.b e.tb, .int e.c e.tc, .int e.d e.td]) :: (qsL init ++ (bsL bs ++ Lb))) := fun p hp => N1 p (by
        revert p
        show ∀ p ∈ _, p ∈ (M, instObj 242 dM) :: (dM, dictOf (smE H T (.ref la) (.ref lb) .none vop vfb (.ref d2) (.ref jk) vpop) 10) :: (la, W.listOf va.toArray na) :: (lb, W.listOf vb.toArray nb) :: (jk, { cls := .type "set", dict := none, data := .set #[] 0 (.fresh 0 0 led) }) :: (d2, D2) :: (q, W.listOf (qsV (init ++ [e])).toArray nq) :: (bl, W.listOf (bsV bs).toArray nb') :: (qsL (init ++ [e]) ++ (bsL bs ++ Lb))
        have e1 : qsV (init ++ [e]) = qsV init ++ [Value.ref e.t] := by simp [qsV, QE.v]
        have e2 : qsL (init ++ [e]) ++ (bsL bs ++ Lb) = qsL init ++ (e.o :: (bsL bs ++ Lb)) := by simp [qsL]
        rw [e1, e2]
        intro p hp
        ((apply all_at hp); (try clear hp); (repeat' (refine all_cons ?_ ?_)); all_goals (try intro p hp))
        all_goals (repeat (first | exact List.Mem.head _ | exact List.mem_append_right _ (List.Mem.head _) | (rcases List.mem_append.mp hp with hp | hp <;> first | exact List.mem_append_left _ hp | exact List.mem_append_right _ (List.Mem.tail _ hp)) | apply List.Mem.tail)))
      clear N1
      generalize hRest : qsL init ++ (bsL bs ++ Lb) = Rest at N2
      have et_q : @Ne Nat e.t q := (AP (e.t, _) (List.mem_append_left _ (by simp only [qsL, List.map_append, List.map_cons]; exact List.mem_append_right _ (List.Mem.head _)))).1
      have et_bl : @Ne Nat e.t bl := (AP (e.t, _) (List.mem_append_left _ (by simp only [qsL, List.map_append, List.map_cons]; exact List.mem_append_right _ (List.Mem.head _)))).2.1
      have et_dM : @Ne Nat e.t dM := (AP (e.t, _) (List.mem_append_left _ (by simp only [qsL, List.map_append, List.map_cons]; exact List.mem_append_right _ (List.Mem.head _)))).2.2
      have rest : ∀ p ∈ Rest, @Ne Nat p.1 q ∧ @Ne Nat p.1 bl ∧ @Ne Nat p.1 dM := fun p hp => by
        rw [← hRest] at hp
        rcases List.mem_append.mp hp with hp | hp
        · exact AP p (List.mem_append_left _ (by simp only [qsL, List.map_append]; exact List.mem_append_left _ hp))
        · rcases List.mem_append.mp hp with hp | hp
          · exact AP p (List.mem_append_right _ hp)
          · have := z9 p hp
            exact ⟨by (first | exact ad_ne | omega), by (first | exact ad_ne | omega), hLr p hp⟩
      have APi : ∀ p, p ∈ qsL init ++ bsL bs → @Ne Nat p.1 q ∧ @Ne Nat p.1 bl ∧ @Ne Nat p.1 dM := all_app (fun p hp => AP p (List.mem_append_left _ (by simp only [qsL, List.map_append]; exact List.mem_append_left _ hp))) (fun p hp => AP p (List.mem_append_right _ hp))
      have rest_q : ∀ p ∈ Rest, @Ne Nat p.1 q := fun p hp => (rest p hp).1
      have rest_bl : ∀ p ∈ Rest, @Ne Nat p.1 bl := fun p hp => (rest p hp).2.1
      have rest_dM : ∀ p ∈ Rest, @Ne Nat p.1 dM := fun p hp => (rest p hp).2.2
      have G9 := G.q e (by simp)
      have y1 := G9.a0
      have y2 := G9.ab
      have y3 := G9.b1
      have y4 := G9.c0
      have y5 := G9.cd
      have y6 := G9.d1
      k_steps
      refine of_post hPT ?_; refine ite_pos rfl ?_; refine gen_post fun PW hPW => ?_
      k_steps
      refine pop_vs (pre := []) (by k_asm) N2 (fun p hp => absurd hp (List.not_mem_nil)) (by intro p hp; ((apply all_at hp); (try clear hp); (repeat' (refine all_cons ?_ ?_)); all_goals (try intro p hp)); all_goals (first | (show @Ne Nat _ q; first | exact ad_ne | exact et_q | exact (Ne.symm (by assumption))) | exact rest_q p hp)) (by (first | exact ad_ne | omega)) fun h2 F2 N3 => ?_
      simp only [List.nil_append] at N3
      clear N2
      k_steps
      rename News _ _ _ _ => N3
      refine' flm_K w mean mg mb _ _ _ _ _ _ _ _ _ _ _ _ _ _ _ _ _ H T la lb d2 jk .none vop vfb vpop 10 na nb M dM va vb xa xb ((q, W.listOf (qsV init).toArray (nq + 1)) :: (bl, W.listOf (bsV bs).toArray nb') :: (e.t, tupO [.int e.a e.ta, .int e.b e.tb, .int e.c e.tc, .int e.d e.td]) :: Rest) D2 e.a e.b e.c e.d _ _ _ _ led kvs ?kB ?kF ?kX ?kN hD2 ?kb hlo hz ha hb hsa hsb (by (first | exact ad_ne | omega)) (by (first | exact ad_ne | omega)) (by (first | exact ad_ne | omega)) (by (first | exact ad_ne | omega)) (by (first | exact ad_ne | omega)) (by (first | exact ad_ne | omega)) ?kT ?kk ?kd ?ku ?_
      case kB => k_asm
      case kF => k_asm
      case kX => k_asm
      case kN =>
        refine fun p hp => N3 p ?_
        revert p
        (first | ((try dsimp only); with_reducible (repeat' (first | exact sub_refl | exact sub_nil | refine sub_take ?_ | refine sub_skip ?_)); done) | ((try dsimp only); with_reducible (repeat' (first | exact sub_refl | exact sub_nil | exact mem_hd | refine sub_take ?_ | refine sub_put ?_ ?_ | refine mem_tl ?_ | refine sub_skip ?_)); done) | ((try dsimp only); (repeat' (first | exact sub_refl | exact sub_nil | exact mem_hd | refine sub_take ?_ | refine sub_put ?_ ?_ | refine mem_tl ?_ | refine sub_skip ?_)); done))
      case kb => exact b2j_mono hB fun p hp => List.Mem.tail _ (List.Mem.tail _ (List.Mem.tail _ (hRest ▸ List.mem_append_right _ (List.mem_append_right _ hp))))
      case kT => k_asm
      case kk => rfl
      case kd => exact off_lt (m := 5) hd rfl
      case ku => exact off_lt (m := 33) hu rfl
      intro x dx bi bj bk ti tj t3 h3 tk3 R F3 N4 O4 lx
      have x1 : @LT.lt Nat _ M dx := O4.1
      have x2 : @LT.lt Nat _ q dx := O4.2.2.2.2.2.2 _ (List.Mem.head _)
      have x3 : @LT.lt Nat _ bl dx := O4.2.2.2.2.2.2 _ (List.Mem.tail _ (List.Mem.head _))
      have x4 : @LT.lt Nat _ dM dx := O4.2.1
      have x5 : @LT.lt Nat _ dx x := lx
      have blen : (bsV bs).length ≤ 900 := by have := G.len.2; simp only [bsV, List.length_map] at this ⊢; (first | exact ad_ne | omega)
      clear O4
      obtain ⟨R2, hR2⟩ : ∃ R2, R2 = (M, instObj 242 dM) :: (dM, dictOf (smE H T (.ref la) (.ref lb) .none vop vfb (.ref d2) (.ref jk) vpop) 10) :: (la, W.listOf va.toArray na) :: (lb, W.listOf vb.toArray nb) :: (jk, { cls := .type "set", dict := none, data := .set #[] 0 (.fresh 0 0 led) }) :: (d2, D2) :: (e.t, tupO [.int e.a e.ta, .int e.b e.tb, .int e.c e.tc, .int e.d e.td]) :: Rest := ⟨_, rfl⟩
      have N9 : News g' L' h3 ((x, { cls := .ref 135, dict := some dx, data := .seq #[.int bi ti, .int bj tj, .int bk t3] }) :: (dx, emptyDict) :: (q, W.listOf (qsV init).toArray (nq + 1)) :: (bl, W.listOf (bsV bs).toArray nb') :: R2) := by
        subst hR2
        refine fun p hp => N4 p ?_
        revert p
        with_reducible (repeat' (first | exact sub_refl | exact sub_nil | exact mem_hd | refine sub_take ?_ | refine sub_put ?_ ?_ | refine mem_tl ?_ | refine sub_skip ?_))
      clear N4
      have memR2 : ∀ p ∈ (M, instObj 242 dM) :: (dM, dictOf (smE H T (.ref la) (.ref lb) .none vop vfb (.ref d2) (.ref jk) vpop) 10) :: (la, W.listOf va.toArray na) :: (lb, W.listOf vb.toArray nb) :: (jk, { cls := .type "set", dict := none, data := .set #[] 0 (.fresh 0 0 led) }) :: (d2, D2) :: (e.t, tupO [.int e.a e.ta, .int e.b e.tb, .int e.c e.tc, .int e.d e.td]) :: Rest, p ∈ R2 := by rw [hR2]; exact fun _ h => h
      have tailR2 : ∀ p, p ∈ Rest → p ∈ R2 := fun p hp => memR2 p (.tail _ (.tail _ (.tail _ (.tail _ (.tail _ (.tail _ (.tail _ hp)))))))
      have r2q : ∀ p ∈ R2, @Ne Nat p.1 q := by
        subst hR2
        exact all_cons (Nat.ne_of_lt z3) (all_cons (Nat.ne_of_lt z4) (all_cons (Nat.ne_of_lt z5) (all_cons (Nat.ne_of_lt z6) (all_cons (Nat.ne_of_lt z7) (all_cons (Nat.ne_of_lt z8) (all_cons et_q rest_q))))))
      have r2b : ∀ p ∈ R2, @Ne Nat p.1 bl := by
        subst hR2
        refine all_cons ?_ (all_cons ?_ (all_cons ?_ (all_cons ?_ (all_cons ?_ (all_cons ?_ (all_cons et_bl rest_bl)))))) <;> (show @Ne Nat _ bl; exact ad_ne)
      k_steps
      · rename News _ _ _ _ => N5
        refine append_vs (pre := [_, _, _]) (us := bsV bs) (by k_asm) N5 (by intro p hp; ((apply all_at hp); (try clear hp); (repeat' (refine all_cons ?_ ?_)); all_goals (try intro p hp)); all_goals (first | exact absurd hp List.not_mem_nil | exact r2b p hp | (show @Ne Nat _ bl; first | exact ad_ne | exact et_bl | exact (Ne.symm (by assumption))))) (by intro p hp; ((apply all_at hp); (try clear hp); (repeat' (refine all_cons ?_ ?_)); all_goals (try intro p hp)); all_goals (first | exact absurd hp List.not_mem_nil | exact r2b p hp | (show @Ne Nat _ bl; first | exact ad_ne | exact et_bl | exact (Ne.symm (by assumption))))) (by (first | exact ad_ne | omega)) fun h4 F4 N6 => ?_
        simp only [List.nil_append, List.cons_append] at N6
        clear N5
        k_steps
        · rename_i D5 k5 F5 N5 lD5
          have w5 : @LT.lt Nat _ x D5 := lD5.1
          refine append_vs (pre := [_, _, _]) (us := qsV init) (by k_asm) N5 (by intro p hp; ((apply all_at hp); (try clear hp); (repeat' (refine all_cons ?_ ?_)); all_goals (try intro p hp)); all_goals (first | exact absurd hp List.not_mem_nil | exact r2q p hp | (show @Ne Nat _ q; first | exact ad_ne | exact et_q | exact (Ne.symm (by assumption))))) (by intro p hp; ((apply all_at hp); (try clear hp); (repeat' (refine all_cons ?_ ?_)); all_goals (try intro p hp)); all_goals (first | exact absurd hp List.not_mem_nil | exact r2q p hp | (show @Ne Nat _ q; first | exact ad_ne | exact et_q | exact (Ne.symm (by assumption))))) (by (first | exact ad_ne | omega)) fun h7 F7 N7' => ?_
          simp only [List.nil_append, List.cons_append] at N7'
          clear N5 F5
          k_steps
          · rename_i D6 k6 F6 N6' lD6
            obtain ⟨tk6, htk6⟩ : ∃ t : Nat, t = tk := ⟨tk, rfl⟩
            rw [← htk6] at N6'
            have w6 : @LT.lt Nat _ D5 D6 := lD6.1
            refine append_vs (pre := [_, _, _, _]) (us := qsV init ++ [Value.ref D5]) (by k_asm) N6' (by intro p hp; ((apply all_at hp); (try clear hp); (repeat' (refine all_cons ?_ ?_)); all_goals (try intro p hp)); all_goals (first | exact absurd hp List.not_mem_nil | exact r2q p hp | (show @Ne Nat _ q; first | exact ad_ne | exact et_q | exact (Ne.symm (by assumption))))) (by intro p hp; ((apply all_at hp); (try clear hp); (repeat' (refine all_cons ?_ ?_)); all_goals (try intro p hp)); all_goals (first | exact absurd hp List.not_mem_nil | exact r2q p hp | (show @Ne Nat _ q; first | exact ad_ne | exact et_q | exact (Ne.symm (by assumption))))) (by simp only [List.length_append, List.length_cons, List.length_nil]; (first | exact ad_ne | omega)) fun h8 F8 N8 => ?_
            simp only [List.nil_append, List.cons_append] at N8
            clear N6' F6
            k_steps
            rename News _ _ _ _ => N7
            have q1 := R.best.a
            have q2 := R.best.d
            have q3 := R.best.c
            have GS := gp_step (add := [⟨D5, e.a, bi, e.c, bj, e.ta, ti, e.tc, tj⟩, ⟨D6, bi + bk, e.b, bj + bk, e.d, tk6, e.tb, tk6 + 1, e.td⟩]) G R (by assumption) ⟨x, dx, bi, bj, bk, ti, tj, t3⟩ ⟨rfl, rfl, rfl⟩ (by
              intro y hy
              simp only [List.mem_cons, List.not_mem_nil, or_false] at hy
              first | (rcases hy with rfl | rfl <;> first | exact .inl ⟨rfl, rfl, rfl, rfl, by assumption, by assumption⟩ | exact .inr ⟨rfl, rfl, rfl, rfl, by assumption, by assumption⟩) | (subst hy; first | exact .inl ⟨rfl, rfl, rfl, rfl, by assumption, by assumption⟩ | exact .inr ⟨rfl, rfl, rfl, rfl, by assumption, by assumption⟩)) (by simp only [qw]; (first | exact ad_ne | omega))
            have GQ := qw_pos GS.1.q
            refine of_post hPW ?_
            refine' wl_out ⟨init ++ [⟨D5, e.a, bi, e.c, bj, e.ta, ti, e.tc, tj⟩, ⟨D6, bi + bk, e.b, bj + bk, e.d, tk6, e.tb, tk6 + 1, e.td⟩], bs ++ [⟨x, dx, bi, bj, bk, ti, tj, t3⟩], nq + 1 + 1 + 1, nb' + 1⟩ (by k_asm) N7 ?hn ?hk ?hr ⟨⟨GS.1, ?ap⟩, ?mu⟩
            case hn =>
              show ∀ p ∈ (M, instObj 242 dM) :: (dM, dictOf (smE H T (.ref la) (.ref lb) .none vop vfb (.ref d2) (.ref jk) vpop) 10) :: (la, W.listOf va.toArray na) :: (lb, W.listOf vb.toArray nb) :: (jk, { cls := .type "set", dict := none, data := .set #[] 0 (.fresh 0 0 led) }) :: (d2, D2) :: (q, W.listOf (qsV (init ++ [⟨D5, e.a, bi, e.c, bj, e.ta, ti, e.tc, tj⟩, ⟨D6, bi + bk, e.b, bj + bk, e.d, tk6, e.tb, tk6 + 1, e.td⟩])).toArray (nq + 1 + 1 + 1)) :: (bl, W.listOf (bsV (bs ++ [⟨x, dx, bi, bj, bk, ti, tj, t3⟩])).toArray (nb' + 1)) :: (qsL (init ++ [⟨D5, e.a, bi, e.c, bj, e.ta, ti, e.tc, tj⟩, ⟨D6, bi + bk, e.b, bj + bk, e.d, tk6, e.tb, tk6 + 1, e.td⟩]) ++ (bsL (bs ++ [⟨x, dx, bi, bj, bk, ti, tj, t3⟩]) ++ Lb)), _
              have e1 : qsV (init ++ [⟨D5, e.a, bi, e.c, bj, e.ta, ti, e.tc, tj⟩, ⟨D6, bi + bk, e.b, bj + bk, e.d, tk6, e.tb, tk6 + 1, e.td⟩]) = qsV init ++ [Value.ref D5] ++ [Value.ref D6] := by simp [qsV, QE.v]
              have e2 : bsV (bs ++ [⟨x, dx, bi, bj, bk, ti, tj, t3⟩]) = bsV bs ++ [Value.ref x] := by simp [bsV, BE.v]
              rw [e1, e2]
              (iterate 8 (refine all_cons (by repeat (first | exact List.Mem.head _ | exact memR2 _ (by repeat (first | exact List.Mem.head _ | apply List.Mem.tail)) | apply List.Mem.tail)) ?_))
              intro p hp
              have hp := parts hp
              rw [hRest] at hp
              simp only [qsL, List.map_cons, List.map_nil, List.cons_append, List.nil_append] at hp
              (refine sub_at hp ?_; (first | ((try dsimp only); with_reducible (repeat' (first | exact sub_refl | exact tailR2 | exact sub_nil | refine sub_take ?_ | refine sub_skip ?_)); done) | ((try dsimp only); with_reducible (repeat' (first | exact sub_refl | exact tailR2 | exact sub_nil | exact mem_hd | refine sub_take ?_ | refine sub_put ?_ ?_ | refine mem_tl ?_ | refine sub_skip ?_)); done) | ((try dsimp only); (repeat' (first | exact sub_refl | exact tailR2 | exact sub_nil | exact mem_hd | refine sub_take ?_ | refine sub_put ?_ ?_ | refine mem_tl ?_ | refine sub_skip ?_)); done)))
            case hk => exact all_nil
            case hr =>
              intro z g2 g3; (repeat (first | with_reducible rfl | refine ite_go (by first | assumption | with_reducible (first | exact ne_head g2 | exact ne_head (ne_tail g2) | exact ne_head (ne_tail (ne_tail g2)) | exact ne_head (ne_tail (ne_tail (ne_tail g2))) | exact ne_head (ne_tail (ne_tail (ne_tail (ne_tail g2)))) | exact ne_chead g3 | exact ne_chead (ne_ctail g3) | exact ne_chead (ne_ctail (ne_ctail g3)) | exact ne_chead (ne_ctail (ne_ctail (ne_ctail g3))) | exact ne_chead (ne_ctail (ne_ctail (ne_ctail (ne_ctail g3)))) | exact ne_chead (ne_ctail (ne_ctail (ne_ctail (ne_ctail (ne_ctail g3))))) | exact ne_chead (ne_ctail (ne_ctail (ne_ctail (ne_ctail (ne_ctail (ne_ctail g3)))))) | exact ne_chead (ne_ctail (ne_ctail (ne_ctail (ne_ctail (ne_ctail (ne_ctail (ne_ctail g3))))))) | exact ne_chead (ne_ctail (ne_ctail (ne_ctail (ne_ctail (ne_ctail (ne_ctail (ne_ctail (ne_ctail g3)))))))) | exact ne_chead (ne_ctail (ne_ctail (ne_ctail (ne_ctail (ne_ctail (ne_ctail (ne_ctail (ne_ctail (ne_ctail g3))))))))) | exact ne_chead (ne_ctail (ne_ctail (ne_ctail (ne_ctail (ne_ctail (ne_ctail (ne_ctail (ne_ctail (ne_ctail (ne_ctail g3)))))))))))) ?_ | refine cont_step (by first | with_reducible exact g3 | ((repeat (refine cont_cons (by first | assumption | with_reducible (first | exact ne_head g2 | exact ne_head (ne_tail g2) | exact ne_head (ne_tail (ne_tail g2)) | exact ne_head (ne_tail (ne_tail (ne_tail g2))) | exact ne_head (ne_tail (ne_tail (ne_tail (ne_tail g2)))) | exact ne_chead g3 | exact ne_chead (ne_ctail g3) | exact ne_chead (ne_ctail (ne_ctail g3)) | exact ne_chead (ne_ctail (ne_ctail (ne_ctail g3))) | exact ne_chead (ne_ctail (ne_ctail (ne_ctail (ne_ctail g3)))) | exact ne_chead (ne_ctail (ne_ctail (ne_ctail (ne_ctail (ne_ctail g3))))) | exact ne_chead (ne_ctail (ne_ctail (ne_ctail (ne_ctail (ne_ctail (ne_ctail g3)))))) | exact ne_chead (ne_ctail (ne_ctail (ne_ctail (ne_ctail (ne_ctail (ne_ctail (ne_ctail g3))))))) | exact ne_chead (ne_ctail (ne_ctail (ne_ctail (ne_ctail (ne_ctail (ne_ctail (ne_ctail (ne_ctail g3)))))))) | exact ne_chead (ne_ctail (ne_ctail (ne_ctail (ne_ctail (ne_ctail (ne_ctail (ne_ctail (ne_ctail (ne_ctail g3))))))))) | exact ne_chead (ne_ctail (ne_ctail (ne_ctail (ne_ctail (ne_ctail (ne_ctail (ne_ctail (ne_ctail (ne_ctail (ne_ctail g3)))))))))))) ?_)); exact cont_nil)) ?_ | refine ite_goR (by first | assumption | with_reducible (first | exact ne_head g2 | exact ne_head (ne_tail g2) | exact ne_head (ne_tail (ne_tail g2)) | exact ne_head (ne_tail (ne_tail (ne_tail g2))) | exact ne_head (ne_tail (ne_tail (ne_tail (ne_tail g2)))) | exact ne_chead g3 | exact ne_chead (ne_ctail g3) | exact ne_chead (ne_ctail (ne_ctail g3)) | exact ne_chead (ne_ctail (ne_ctail (ne_ctail g3))) | exact ne_chead (ne_ctail (ne_ctail (ne_ctail (ne_ctail g3)))) | exact ne_chead (ne_ctail (ne_ctail (ne_ctail (ne_ctail (ne_ctail g3))))) | exact ne_chead (ne_ctail (ne_ctail (ne_ctail (ne_ctail (ne_ctail (ne_ctail g3)))))) | exact ne_chead (ne_ctail (ne_ctail (ne_ctail (ne_ctail (ne_ctail (ne_ctail (ne_ctail g3))))))) | exact ne_chead (ne_ctail (ne_ctail (ne_ctail (ne_ctail (ne_ctail (ne_ctail (ne_ctail (ne_ctail g3)))))))) | exact ne_chead (ne_ctail (ne_ctail (ne_ctail (ne_ctail (ne_ctail (ne_ctail (ne_ctail (ne_ctail (ne_ctail g3))))))))) | exact ne_chead (ne_ctail (ne_ctail (ne_ctail (ne_ctail (ne_ctail (ne_ctail (ne_ctail (ne_ctail (ne_ctail (ne_ctail g3)))))))))))) ?_ | refine cont_stepR (by first | with_reducible exact g3 | ((repeat (refine cont_cons (by first | assumption | with_reducible (first | exact ne_head g2 | exact ne_head (ne_tail g2) | exact ne_head (ne_tail (ne_tail g2)) | exact ne_head (ne_tail (ne_tail (ne_tail g2))) | exact ne_head (ne_tail (ne_tail (ne_tail (ne_tail g2)))) | exact ne_chead g3 | exact ne_chead (ne_ctail g3) | exact ne_chead (ne_ctail (ne_ctail g3)) | exact ne_chead (ne_ctail (ne_ctail (ne_ctail g3))) | exact ne_chead (ne_ctail (ne_ctail (ne_ctail (ne_ctail g3)))) | exact ne_chead (ne_ctail (ne_ctail (ne_ctail (ne_ctail (ne_ctail g3))))) | exact ne_chead (ne_ctail (ne_ctail (ne_ctail (ne_ctail (ne_ctail (ne_ctail g3)))))) | exact ne_chead (ne_ctail (ne_ctail (ne_ctail (ne_ctail (ne_ctail (ne_ctail (ne_ctail g3))))))) | exact ne_chead (ne_ctail (ne_ctail (ne_ctail (ne_ctail (ne_ctail (ne_ctail (ne_ctail (ne_ctail g3)))))))) | exact ne_chead (ne_ctail (ne_ctail (ne_ctail (ne_ctail (ne_ctail (ne_ctail (ne_ctail (ne_ctail (ne_ctail g3))))))))) | exact ne_chead (ne_ctail (ne_ctail (ne_ctail (ne_ctail (ne_ctail (ne_ctail (ne_ctail (ne_ctail (ne_ctail (ne_ctail g3)))))))))))) ?_)); exact cont_nil)) ?_))
            case ap =>
              intro p hp
              have hp := parts0 hp
              simp only [qsL, List.map_cons, List.map_nil, List.cons_append, List.nil_append] at hp
              ((apply all_at hp); (try clear hp); (repeat' (refine all_cons ?_ ?_)); all_goals (try intro p hp))
              all_goals first
                | exact APi p hp
                | (refine ⟨?_, ?_, ?_⟩ <;> ((try simp only [QE.o, BE.o]); (first | exact ad_ne | omega)))
            case mu =>
              show (qw (init ++ [⟨D5, e.a, bi, e.c, bj, e.ta, ti, e.tc, tj⟩, ⟨D6, bi + bk, e.b, bj + bk, e.d, tk6, e.tb, tk6 + 1, e.td⟩])).toNat < (qw (init ++ [e])).toNat
              exact toNat_down GQ GS.2
          · rename News _ _ _ _ => N7
            have q1 := R.best.a
            have q2 := R.best.d
            have q3 := R.best.c
            have GS := gp_step (add := [⟨D5, e.a, bi, e.c, bj, e.ta, ti, e.tc, tj⟩]) G R (by assumption) ⟨x, dx, bi, bj, bk, ti, tj, t3⟩ ⟨rfl, rfl, rfl⟩ (by
              intro y hy
              simp only [List.mem_cons, List.not_mem_nil, or_false] at hy
              first | (rcases hy with rfl | rfl <;> first | exact .inl ⟨rfl, rfl, rfl, rfl, by assumption, by assumption⟩ | exact .inr ⟨rfl, rfl, rfl, rfl, by assumption, by assumption⟩) | (subst hy; first | exact .inl ⟨rfl, rfl, rfl, rfl, by assumption, by assumption⟩ | exact .inr ⟨rfl, rfl, rfl, rfl, by assumption, by assumption⟩)) (by simp only [qw]; (first | exact ad_ne | omega))
            have GQ := qw_pos GS.1.q
            refine of_post hPW ?_
            refine' wl_out ⟨init ++ [⟨D5, e.a, bi, e.c, bj, e.ta, ti, e.tc, tj⟩], bs ++ [⟨x, dx, bi, bj, bk, ti, tj, t3⟩], nq + 1 + 1, nb' + 1⟩ (by k_asm) N7 ?hn ?hk ?hr ⟨⟨GS.1, ?ap⟩, ?mu⟩
            case hn =>
              show ∀ p ∈ (M, instObj 242 dM) :: (dM, dictOf (smE H T (.ref la) (.ref lb) .none vop vfb (.ref d2) (.ref jk) vpop) 10) :: (la, W.listOf va.toArray na) :: (lb, W.listOf vb.toArray nb) :: (jk, { cls := .type "set", dict := none, data := .set #[] 0 (.fresh 0 0 led) }) :: (d2, D2) :: (q, W.listOf (qsV (init ++ [⟨D5, e.a, bi, e.c, bj, e.ta, ti, e.tc, tj⟩])).toArray (nq + 1 + 1)) :: (bl, W.listOf (bsV (bs ++ [⟨x, dx, bi, bj, bk, ti, tj, t3⟩])).toArray (nb' + 1)) :: (qsL (init ++ [⟨D5, e.a, bi, e.c, bj, e.ta, ti, e.tc, tj⟩]) ++ (bsL (bs ++ [⟨x, dx, bi, bj, bk, ti, tj, t3⟩]) ++ Lb)), _
              have e1 : qsV (init ++ [⟨D5, e.a, bi, e.c, bj, e.ta, ti, e.tc, tj⟩]) = qsV init ++ [Value.ref D5] := by simp [qsV, QE.v]
              have e2 : bsV (bs ++ [⟨x, dx, bi, bj, bk, ti, tj, t3⟩]) = bsV bs ++ [Value.ref x] := by simp [bsV, BE.v]
              rw [e1, e2]
              (iterate 8 (refine all_cons (by repeat (first | exact List.Mem.head _ | exact memR2 _ (by repeat (first | exact List.Mem.head _ | apply List.Mem.tail)) | apply List.Mem.tail)) ?_))
              intro p hp
              have hp := parts hp
              rw [hRest] at hp
              simp only [qsL, List.map_cons, List.map_nil, List.cons_append, List.nil_append] at hp
              (refine sub_at hp ?_; (first | ((try dsimp only); with_reducible (repeat' (first | exact sub_refl | exact tailR2 | exact sub_nil | refine sub_take ?_ | refine sub_skip ?_)); done) | ((try dsimp only); with_reducible (repeat' (first | exact sub_refl | exact tailR2 | exact sub_nil | exact mem_hd | refine sub_take ?_ | refine sub_put ?_ ?_ | refine mem_tl ?_ | refine sub_skip ?_)); done) | ((try dsimp only); (repeat' (first | exact sub_refl | exact tailR2 | exact sub_nil | exact mem_hd | refine sub_take ?_ | refine sub_put ?_ ?_ | refine mem_tl ?_ | refine sub_skip ?_)); done)))
            case hk => exact all_nil
            case hr =>
              intro z g2 g3; (repeat (first | with_reducible rfl | refine ite_go (by first | assumption | with_reducible (first | exact ne_head g2 | exact ne_head (ne_tail g2) | exact ne_head (ne_tail (ne_tail g2)) | exact ne_head (ne_tail (ne_tail (ne_tail g2))) | exact ne_head (ne_tail (ne_tail (ne_tail (ne_tail g2)))) | exact ne_chead g3 | exact ne_chead (ne_ctail g3) | exact ne_chead (ne_ctail (ne_ctail g3)) | exact ne_chead (ne_ctail (ne_ctail (ne_ctail g3))) | exact ne_chead (ne_ctail (ne_ctail (ne_ctail (ne_ctail g3)))) | exact ne_chead (ne_ctail (ne_ctail (ne_ctail (ne_ctail (ne_ctail g3))))) | exact ne_chead (ne_ctail (ne_ctail (ne_ctail (ne_ctail (ne_ctail (ne_ctail g3)))))) | exact ne_chead (ne_ctail (ne_ctail (ne_ctail (ne_ctail (ne_ctail (ne_ctail (ne_ctail g3))))))) | exact ne_chead (ne_ctail (ne_ctail (ne_ctail (ne_ctail (ne_ctail (ne_ctail (ne_ctail (ne_ctail g3)))))))) | exact ne_chead (ne_ctail (ne_ctail (ne_ctail (ne_ctail (ne_ctail (ne_ctail (ne_ctail (ne_ctail (ne_ctail g3))))))))) | exact ne_chead (ne_ctail (ne_ctail (ne_ctail (ne_ctail (ne_ctail (ne_ctail (ne_ctail (ne_ctail (ne_ctail (ne_ctail g3)))))))))))) ?_ | refine cont_step (by first | with_reducible exact g3 | ((repeat (refine cont_cons (by first | assumption | with_reducible (first | exact ne_head g2 | exact ne_head (ne_tail g2) | exact ne_head (ne_tail (ne_tail g2)) | exact ne_head (ne_tail (ne_tail (ne_tail g2))) | exact ne_head (ne_tail (ne_tail (ne_tail (ne_tail g2)))) | exact ne_chead g3 | exact ne_chead (ne_ctail g3) | exact ne_chead (ne_ctail (ne_ctail g3)) | exact ne_chead (ne_ctail (ne_ctail (ne_ctail g3))) | exact ne_chead (ne_ctail (ne_ctail (ne_ctail (ne_ctail g3)))) | exact ne_chead (ne_ctail (ne_ctail (ne_ctail (ne_ctail (ne_ctail g3))))) | exact ne_chead (ne_ctail (ne_ctail (ne_ctail (ne_ctail (ne_ctail (ne_ctail g3)))))) | exact ne_chead (ne_ctail (ne_ctail (ne_ctail (ne_ctail (ne_ctail (ne_ctail (ne_ctail g3))))))) | exact ne_chead (ne_ctail (ne_ctail (ne_ctail (ne_ctail (ne_ctail (ne_ctail (ne_ctail (ne_ctail g3)))))))) | exact ne_chead (ne_ctail (ne_ctail (ne_ctail (ne_ctail (ne_ctail (ne_ctail (ne_ctail (ne_ctail (ne_ctail g3))))))))) | exact ne_chead (ne_ctail (ne_ctail (ne_ctail (ne_ctail (ne_ctail (ne_ctail (ne_ctail (ne_ctail (ne_ctail (ne_ctail g3)))))))))))) ?_)); exact cont_nil)) ?_ | refine ite_goR (by first | assumption | with_reducible (first | exact ne_head g2 | exact ne_head (ne_tail g2) | exact ne_head (ne_tail (ne_tail g2)) | exact ne_head (ne_tail (ne_tail (ne_tail g2))) | exact ne_head (ne_tail (ne_tail (ne_tail (ne_tail g2)))) | exact ne_chead g3 | exact ne_chead (ne_ctail g3) | exact ne_chead (ne_ctail (ne_ctail g3)) | exact ne_chead (ne_ctail (ne_ctail (ne_ctail g3))) | exact ne_chead (ne_ctail (ne_ctail (ne_ctail (ne_ctail g3)))) | exact ne_chead (ne_ctail (ne_ctail (ne_ctail (ne_ctail (ne_ctail g3))))) | exact ne_chead (ne_ctail (ne_ctail (ne_ctail (ne_ctail (ne_ctail (ne_ctail g3)))))) | exact ne_chead (ne_ctail (ne_ctail (ne_ctail (ne_ctail (ne_ctail (ne_ctail (ne_ctail g3))))))) | exact ne_chead (ne_ctail (ne_ctail (ne_ctail (ne_ctail (ne_ctail (ne_ctail (ne_ctail (ne_ctail g3)))))))) | exact ne_chead (ne_ctail (ne_ctail (ne_ctail (ne_ctail (ne_ctail (ne_ctail (ne_ctail (ne_ctail (ne_ctail g3))))))))) | exact ne_chead (ne_ctail (ne_ctail (ne_ctail (ne_ctail (ne_ctail (ne_ctail (ne_ctail (ne_ctail (ne_ctail (ne_ctail g3)))))))))))) ?_ | refine cont_stepR (by first | with_reducible exact g3 | ((repeat (refine cont_cons (by first | assumption | with_reducible (first | exact ne_head g2 | exact ne_head (ne_tail g2) | exact ne_head (ne_tail (ne_tail g2)) | exact ne_head (ne_tail (ne_tail (ne_tail g2))) | exact ne_head (ne_tail (ne_tail (ne_tail (ne_tail g2)))) | exact ne_chead g3 | exact ne_chead (ne_ctail g3) | exact ne_chead (ne_ctail (ne_ctail g3)) | exact ne_chead (ne_ctail (ne_ctail (ne_ctail g3))) | exact ne_chead (ne_ctail (ne_ctail (ne_ctail (ne_ctail g3)))) | exact ne_chead (ne_ctail (ne_ctail (ne_ctail (ne_ctail (ne_ctail g3))))) | exact ne_chead (ne_ctail (ne_ctail (ne_ctail (ne_ctail (ne_ctail (ne_ctail g3)))))) | exact ne_chead (ne_ctail (ne_ctail (ne_ctail (ne_ctail (ne_ctail (ne_ctail (ne_ctail g3))))))) | exact ne_chead (ne_ctail (ne_ctail (ne_ctail (ne_ctail (ne_ctail (ne_ctail (ne_ctail (ne_ctail g3)))))))) | exact ne_chead (ne_ctail (ne_ctail (ne_ctail (ne_ctail (ne_ctail (ne_ctail (ne_ctail (ne_ctail (ne_ctail g3))))))))) | exact ne_chead (ne_ctail (ne_ctail (ne_ctail (ne_ctail (ne_ctail (ne_ctail (ne_ctail (ne_ctail (ne_ctail (ne_ctail g3)))))))))))) ?_)); exact cont_nil)) ?_))
            case ap =>
              intro p hp
              have hp := parts0 hp
              simp only [qsL, List.map_cons, List.map_nil, List.cons_append, List.nil_append] at hp
              ((apply all_at hp); (try clear hp); (repeat' (refine all_cons ?_ ?_)); all_goals (try intro p hp))
              all_goals first
                | exact APi p hp
                | (refine ⟨?_, ?_, ?_⟩ <;> ((try simp only [QE.o, BE.o]); (first | exact ad_ne | omega)))
            case mu =>
              show (qw (init ++ [⟨D5, e.a, bi, e.c, bj, e.ta, ti, e.tc, tj⟩])).toNat < (qw (init ++ [e])).toNat
              exact toNat_down GQ GS.2
          · rename News _ _ _ _ => N7
            have q1 := R.best.a
            have q2 := R.best.d
            have q3 := R.best.c
            have GS := gp_step (add := [⟨D5, e.a, bi, e.c, bj, e.ta, ti, e.tc, tj⟩]) G R (by assumption) ⟨x, dx, bi, bj, bk, ti, tj, t3⟩ ⟨rfl, rfl, rfl⟩ (by
              intro y hy
              simp only [List.mem_cons, List.not_mem_nil, or_false] at hy
              first | (rcases hy with rfl | rfl <;> first | exact .inl ⟨rfl, rfl, rfl, rfl, by assumption, by assumption⟩ | exact .inr ⟨rfl, rfl, rfl, rfl, by assumption, by assumption⟩) | (subst hy; first | exact .inl ⟨rfl, rfl, rfl, rfl, by assumption, by assumption⟩ | exact .inr ⟨rfl, rfl, rfl, rfl, by assumption, by assumption⟩)) (by simp only [qw]; (first | exact ad_ne | omega))
            have GQ := qw_pos GS.1.q
            refine of_post hPW ?_
            refine' wl_out ⟨init ++ [⟨D5, e.a, bi, e.c, bj, e.ta, ti, e.tc, tj⟩], bs ++ [⟨x, dx, bi, bj, bk, ti, tj, t3⟩], nq + 1 + 1, nb' + 1⟩ (by k_asm) N7 ?hn ?hk ?hr ⟨⟨GS.1, ?ap⟩, ?mu⟩
            case hn =>
              show ∀ p ∈ (M, instObj 242 dM) :: (dM, dictOf (smE H T (.ref la) (.ref lb) .none vop vfb (.ref d2) (.ref jk) vpop) 10) :: (la, W.listOf va.toArray na) :: (lb, W.listOf vb.toArray nb) :: (jk, { cls := .type "set", dict := none, data := .set #[] 0 (.fresh 0 0 led) }) :: (d2, D2) :: (q, W.listOf (qsV (init ++ [⟨D5, e.a, bi, e.c, bj, e.ta, ti, e.tc, tj⟩])).toArray (nq + 1 + 1)) :: (bl, W.listOf (bsV (bs ++ [⟨x, dx, bi, bj, bk, ti, tj, t3⟩])).toArray (nb' + 1)) :: (qsL (init ++ [⟨D5, e.a, bi, e.c, bj, e.ta, ti, e.tc, tj⟩]) ++ (bsL (bs ++ [⟨x, dx, bi, bj, bk, ti, tj, t3⟩]) ++ Lb)), _
              have e1 : qsV (init ++ [⟨D5, e.a, bi, e.c, bj, e.ta, ti, e.tc, tj⟩]) = qsV init ++ [Value.ref D5] := by simp [qsV, QE.v]
              have e2 : bsV (bs ++ [⟨x, dx, bi, bj, bk, ti, tj, t3⟩]) = bsV bs ++ [Value.ref x] := by simp [bsV, BE.v]
              rw [e1, e2]
              (iterate 8 (refine all_cons (by repeat (first | exact List.Mem.head _ | exact memR2 _ (by repeat (first | exact List.Mem.head _ | apply List.Mem.tail)) | apply List.Mem.tail)) ?_))
              intro p hp
              have hp := parts hp
              rw [hRest] at hp
              simp only [qsL, List.map_cons, List.map_nil, List.cons_append, List.nil_append] at hp
              (refine sub_at hp ?_; (first | ((try dsimp only); with_reducible (repeat' (first | exact sub_refl | exact tailR2 | exact sub_nil | refine sub_take ?_ | refine sub_skip ?_)); done) | ((try dsimp only); with_reducible (repeat' (first | exact sub_refl | exact tailR2 | exact sub_nil | exact mem_hd | refine sub_take ?_ | refine sub_put ?_ ?_ | refine mem_tl ?_ | refine sub_skip ?_)); done) | ((try dsimp only); (repeat' (first | exact sub_refl | exact tailR2 | exact sub_nil | exact mem_hd | refine sub_take ?_ | refine sub_put ?_ ?_ | refine mem_tl ?_ | refine sub_skip ?_)); done)))
            case hk => exact all_nil
            case hr =>
              intro z g2 g3; (repeat (first | with_reducible rfl | refine ite_go (by first | assumption | with_reducible (first | exact ne_head g2 | exact ne_head (ne_tail g2) | exact ne_head (ne_tail (ne_tail g2)) | exact ne_head (ne_tail (ne_tail (ne_tail g2))) | exact ne_head (ne_tail (ne_tail (ne_tail (ne_tail g2)))) | exact ne_chead g3 | exact ne_chead (ne_ctail g3) | exact ne_chead (ne_ctail (ne_ctail g3)) | exact ne_chead (ne_ctail (ne_ctail (ne_ctail g3))) | exact ne_chead (ne_ctail (ne_ctail (ne_ctail (ne_ctail g3)))) | exact ne_chead (ne_ctail (ne_ctail (ne_ctail (ne_ctail (ne_ctail g3))))) | exact ne_chead (ne_ctail (ne_ctail (ne_ctail (ne_ctail (ne_ctail (ne_ctail g3)))))) | exact ne_chead (ne_ctail (ne_ctail (ne_ctail (ne_ctail (ne_ctail (ne_ctail (ne_ctail g3))))))) | exact ne_chead (ne_ctail (ne_ctail (ne_ctail (ne_ctail (ne_ctail (ne_ctail (ne_ctail (ne_ctail g3)))))))) | exact ne_chead (ne_ctail (ne_ctail (ne_ctail (ne_ctail (ne_ctail (ne_ctail (ne_ctail (ne_ctail (ne_ctail g3))))))))) | exact ne_chead (ne_ctail (ne_ctail (ne_ctail (ne_ctail (ne_ctail (ne_ctail (ne_ctail (ne_ctail (ne_ctail (ne_ctail g3)))))))))))) ?_ | refine cont_step (by first | with_reducible exact g3 | ((repeat (refine cont_cons (by first | assumption | with_reducible (first | exact ne_head g2 | exact ne_head (ne_tail g2) | exact ne_head (ne_tail (ne_tail g2)) | exact ne_head (ne_tail (ne_tail (ne_tail g2))) | exact ne_head (ne_tail (ne_tail (ne_tail (ne_tail g2)))) | exact ne_chead g3 | exact ne_chead (ne_ctail g3) | exact ne_chead (ne_ctail (ne_ctail g3)) | exact ne_chead (ne_ctail (ne_ctail (ne_ctail g3))) | exact ne_chead (ne_ctail (ne_ctail (ne_ctail (ne_ctail g3)))) | exact ne_chead (ne_ctail (ne_ctail (ne_ctail (ne_ctail (ne_ctail g3))))) | exact ne_chead (ne_ctail (ne_ctail (ne_ctail (ne_ctail (ne_ctail (ne_ctail g3)))))) | exact ne_chead (ne_ctail (ne_ctail (ne_ctail (ne_ctail (ne_ctail (ne_ctail (ne_ctail g3))))))) | exact ne_chead (ne_ctail (ne_ctail (ne_ctail (ne_ctail (ne_ctail (ne_ctail (ne_ctail (ne_ctail g3)))))))) | exact ne_chead (ne_ctail (ne_ctail (ne_ctail (ne_ctail (ne_ctail (ne_ctail (ne_ctail (ne_ctail (ne_ctail g3))))))))) | exact ne_chead (ne_ctail (ne_ctail (ne_ctail (ne_ctail (ne_ctail (ne_ctail (ne_ctail (ne_ctail (ne_ctail (ne_ctail g3)))))))))))) ?_)); exact cont_nil)) ?_ | refine ite_goR (by first | assumption | with_reducible (first | exact ne_head g2 | exact ne_head (ne_tail g2) | exact ne_head (ne_tail (ne_tail g2)) | exact ne_head (ne_tail (ne_tail (ne_tail g2))) | exact ne_head (ne_tail (ne_tail (ne_tail (ne_tail g2)))) | exact ne_chead g3 | exact ne_chead (ne_ctail g3) | exact ne_chead (ne_ctail (ne_ctail g3)) | exact ne_chead (ne_ctail (ne_ctail (ne_ctail g3))) | exact ne_chead (ne_ctail (ne_ctail (ne_ctail (ne_ctail g3)))) | exact ne_chead (ne_ctail (ne_ctail (ne_ctail (ne_ctail (ne_ctail g3))))) | exact ne_chead (ne_ctail (ne_ctail (ne_ctail (ne_ctail (ne_ctail (ne_ctail g3)))))) | exact ne_chead (ne_ctail (ne_ctail (ne_ctail (ne_ctail (ne_ctail (ne_ctail (ne_ctail g3))))))) | exact ne_chead (ne_ctail (ne_ctail (ne_ctail (ne_ctail (ne_ctail (ne_ctail (ne_ctail (ne_ctail g3)))))))) | exact ne_chead (ne_ctail (ne_ctail (ne_ctail (ne_ctail (ne_ctail (ne_ctail (ne_ctail (ne_ctail (ne_ctail g3))))))))) | exact ne_chead (ne_ctail (ne_ctail (ne_ctail (ne_ctail (ne_ctail (ne_ctail (ne_ctail (ne_ctail (ne_ctail (ne_ctail g3)))))))))))) ?_ | refine cont_stepR (by first | with_reducible exact g3 | ((repeat (refine cont_cons (by first | assumption | with_reducible (first | exact ne_head g2 | exact ne_head (ne_tail g2) | exact ne_head (ne_tail (ne_tail g2)) | exact ne_head (ne_tail (ne_tail (ne_tail g2))) | exact ne_head (ne_tail (ne_tail (ne_tail (ne_tail g2)))) | exact ne_chead g3 | exact ne_chead (ne_ctail g3) | exact ne_chead (ne_ctail (ne_ctail g3)) | exact ne_chead (ne_ctail (ne_ctail (ne_ctail g3))) | exact ne_chead (ne_ctail (ne_ctail (ne_ctail (ne_ctail g3)))) | exact ne_chead (ne_ctail (ne_ctail (ne_ctail (ne_ctail (ne_ctail g3))))) | exact ne_chead (ne_ctail (ne_ctail (ne_ctail (ne_ctail (ne_ctail (ne_ctail g3)))))) | exact ne_chead (ne_ctail (ne_ctail (ne_ctail (ne_ctail (ne_ctail (ne_ctail (ne_ctail g3))))))) | exact ne_chead (ne_ctail (ne_ctail (ne_ctail (ne_ctail (ne_ctail (ne_ctail (ne_ctail (ne_ctail g3)))))))) | exact ne_chead (ne_ctail (ne_ctail (ne_ctail (ne_ctail (ne_ctail (ne_ctail (ne_ctail (ne_ctail (ne_ctail g3))))))))) | exact ne_chead (ne_ctail (ne_ctail (ne_ctail (ne_ctail (ne_ctail (ne_ctail (ne_ctail (ne_ctail (ne_ctail (ne_ctail g3)))))))))))) ?_)); exact cont_nil)) ?_))
            case ap =>
              intro p hp
              have hp := parts0 hp
              simp only [qsL, List.map_cons, List.map_nil, List.cons_append, List.nil_append] at hp
              ((apply all_at hp); (try clear hp); (repeat' (refine all_cons ?_ ?_)); all_goals (try intro p hp))
              all_goals first
                | exact APi p hp
                | (refine ⟨?_, ?_, ?_⟩ <;> ((try simp only [QE.o, BE.o]); (first | exact ad_ne | omega)))
            case mu =>
              show (qw (init ++ [⟨D5, e.a, bi, e.c, bj, e.ta, ti, e.tc, tj⟩])).toNat < (qw (init ++ [e])).toNat
              exact toNat_down GQ GS.2
        · rename_i D6 k6 F6 N6' lD6
          obtain ⟨tk6, htk6⟩ : ∃ t : Nat, t = tk := ⟨tk, rfl⟩
          rw [← htk6] at N6'
          have w6 : @LT.lt Nat _ x D6 := lD6.1
          refine append_vs (pre := [_, _, _]) (us := qsV init) (by k_asm) N6' (by intro p hp; ((apply all_at hp); (try clear hp); (repeat' (refine all_cons ?_ ?_)); all_goals (try intro p hp)); all_goals (first | exact absurd hp List.not_mem_nil | exact r2q p hp | (show @Ne Nat _ q; first | exact ad_ne | exact et_q | exact (Ne.symm (by assumption))))) (by intro p hp; ((apply all_at hp); (try clear hp); (repeat' (refine all_cons ?_ ?_)); all_goals (try intro p hp)); all_goals (first | exact absurd hp List.not_mem_nil | exact r2q p hp | (show @Ne Nat _ q; first | exact ad_ne | exact et_q | exact (Ne.symm (by assumption))))) (by (first | exact ad_ne | omega)) fun h8 F8 N8 => ?_
          simp only [List.nil_append, List.cons_append] at N8
          clear N6' F6
          k_steps
          rename News _ _ _ _ => N7
          have q1 := R.best.a
          have q2 := R.best.d
          have q3 := R.best.c
          have GS := gp_step (add := [⟨D6, bi + bk, e.b, bj + bk, e.d, tk6, e.tb, tk6 + 1, e.td⟩]) G R (by assumption) ⟨x, dx, bi, bj, bk, ti, tj, t3⟩ ⟨rfl, rfl, rfl⟩ (by
            intro y hy
            simp only [List.mem_cons, List.not_mem_nil, or_false] at hy
            first | (rcases hy with rfl | rfl <;> first | exact .inl ⟨rfl, rfl, rfl, rfl, by assumption, by assumption⟩ | exact .inr ⟨rfl, rfl, rfl, rfl, by assumption, by assumption⟩) | (subst hy; first | exact .inl ⟨rfl, rfl, rfl, rfl, by assumption, by assumption⟩ | exact .inr ⟨rfl, rfl, rfl, rfl, by assumption, by assumption⟩)) (by simp only [qw]; (first | exact ad_ne | omega))
          have GQ := qw_pos GS.1.q
          refine of_post hPW ?_
          refine' wl_out ⟨init ++ [⟨D6, bi + bk, e.b, bj + bk, e.d, tk6, e.tb, tk6 + 1, e.td⟩], bs ++ [⟨x, dx, bi, bj, bk, ti, tj, t3⟩], nq + 1 + 1, nb' + 1⟩ (by k_asm) N7 ?hn ?hk ?hr ⟨⟨GS.1, ?ap⟩, ?mu⟩
          case hn =>
            show ∀ p ∈ (M, instObj 242 dM) :: (dM, dictOf (smE H T (.ref la) (.ref lb) .none vop vfb (.ref d2) (.ref jk) vpop) 10) :: (la, W.listOf va.toArray na) :: (lb, W.listOf vb.toArray nb) :: (jk, { cls := .type "set", dict := none, data := .set #[] 0 (.fresh 0 0 led) }) :: (d2, D2) :: (q, W.listOf (qsV (init ++ [⟨D6, bi + bk, e.b, bj + bk, e.d, tk6, e.tb, tk6 + 1, e.td⟩])).toArray (nq + 1 + 1)) :: (bl, W.listOf (bsV (bs ++ [⟨x, dx, bi, bj, bk, ti, tj, t3⟩])).toArray (nb' + 1)) :: (qsL (init ++ [⟨D6, bi + bk, e.b, bj + bk, e.d, tk6, e.tb, tk6 + 1, e.td⟩]) ++ (bsL (bs ++ [⟨x, dx, bi, bj, bk, ti, tj, t3⟩]) ++ Lb)), _
            have e1 : qsV (init ++ [⟨D6, bi + bk, e.b, bj + bk, e.d, tk6, e.tb, tk6 + 1, e.td⟩]) = qsV init ++ [Value.ref D6] := by simp [qsV, QE.v]
            have e2 : bsV (bs ++ [⟨x, dx, bi, bj, bk, ti, tj, t3⟩]) = bsV bs ++ [Value.ref x] := by simp [bsV, BE.v]
            rw [e1, e2]
            (iterate 8 (refine all_cons (by repeat (first | exact List.Mem.head _ | exact memR2 _ (by repeat (first | exact List.Mem.head _ | apply List.Mem.tail)) | apply List.Mem.tail)) ?_))
            intro p hp
            have hp := parts hp
            rw [hRest] at hp
            simp only [qsL, List.map_cons, List.map_nil, List.cons_append, List.nil_append] at hp
            (refine sub_at hp ?_; (first | ((try dsimp only); with_reducible (repeat' (first | exact sub_refl | exact tailR2 | exact sub_nil | refine sub_take ?_ | refine sub_skip ?_)); done) | ((try dsimp only); with_reducible (repeat' (first | exact sub_refl | exact tailR2 | exact sub_nil | exact mem_hd | refine sub_take ?_ | refine sub_put ?_ ?_ | refine mem_tl ?_ | refine sub_skip ?_)); done) | ((try dsimp only); (repeat' (first | exact sub_refl | exact tailR2 | exact sub_nil | exact mem_hd | refine sub_take ?_ | refine sub_put ?_ ?_ | refine mem_tl ?_ | refine sub_skip ?_)); done)))
          case hk => exact all_nil
          case hr =>
            intro z g2 g3; (repeat (first | with_reducible rfl | refine ite_go (by first | assumption | with_reducible (first | exact ne_head g2 | exact ne_head (ne_tail g2) | exact ne_head (ne_tail (ne_tail g2)) | exact ne_head (ne_tail (ne_tail (ne_tail g2))) | exact ne_head (ne_tail (ne_tail (ne_tail (ne_tail g2)))) | exact ne_chead g3 | exact ne_chead (ne_ctail g3) | exact ne_chead (ne_ctail (ne_ctail g3)) | exact ne_chead (ne_ctail (ne_ctail (ne_ctail g3))) | exact ne_chead (ne_ctail (ne_ctail (ne_ctail (ne_ctail g3)))) | exact ne_chead (ne_ctail (ne_ctail (ne_ctail (ne_ctail (ne_ctail g3))))) | exact ne_chead (ne_ctail (ne_ctail (ne_ctail (ne_ctail (ne_ctail (ne_ctail g3)))))) | exact ne_chead (ne_ctail (ne_ctail (ne_ctail (ne_ctail (ne_ctail (ne_ctail (ne_ctail g3))))))) | exact ne_chead (ne_ctail (ne_ctail (ne_ctail (ne_ctail (ne_ctail (ne_ctail (ne_ctail (ne_ctail g3)))))))) | exact ne_chead (ne_ctail (ne_ctail (ne_ctail (ne_ctail (ne_ctail (ne_ctail (ne_ctail (ne_ctail (ne_ctail g3))))))))) | exact ne_chead (ne_ctail (ne_ctail (ne_ctail (ne_ctail (ne_ctail (ne_ctail (ne_ctail (ne_ctail (ne_ctail (ne_ctail g3)))))))))))) ?_ | refine cont_step (by first | with_reducible exact g3 | ((repeat (refine cont_cons (by first | assumption | with_reducible (first | exact ne_head g2 | exact ne_head (ne_tail g2) | exact ne_head (ne_tail (ne_tail g2)) | exact ne_head (ne_tail (ne_tail (ne_tail g2))) | exact ne_head (ne_tail (ne_tail (ne_tail (ne_tail g2)))) | exact ne_chead g3 | exact ne_chead (ne_ctail g3) | exact ne_chead (ne_ctail (ne_ctail g3)) | exact ne_chead (ne_ctail (ne_ctail (ne_ctail g3))) | exact ne_chead (ne_ctail (ne_ctail (ne_ctail (ne_ctail g3)))) | exact ne_chead (ne_ctail (ne_ctail (ne_ctail (ne_ctail (ne_ctail g3))))) | exact ne_chead (ne_ctail (ne_ctail (ne_ctail (ne_ctail (ne_ctail (ne_ctail g3)))))) | exact ne_chead (ne_ctail (ne_ctail (ne_ctail (ne_ctail (ne_ctail (ne_ctail (ne_ctail g3))))))) | exact ne_chead (ne_ctail (ne_ctail (ne_ctail (ne_ctail (ne_ctail (ne_ctail (ne_ctail (ne_ctail g3)))))))) | exact ne_chead (ne_ctail (ne_ctail (ne_ctail (ne_ctail (ne_ctail (ne_ctail (ne_ctail (ne_ctail (ne_ctail g3))))))))) | exact ne_chead (ne_ctail (ne_ctail (ne_ctail (ne_ctail (ne_ctail (ne_ctail (ne_ctail (ne_ctail (ne_ctail (ne_ctail g3)))))))))))) ?_)); exact cont_nil)) ?_ | refine ite_goR (by first | assumption | with_reducible (first | exact ne_head g2 | exact ne_head (ne_tail g2) | exact ne_head (ne_tail (ne_tail g2)) | exact ne_head (ne_tail (ne_tail (ne_tail g2))) | exact ne_head (ne_tail (ne_tail (ne_tail (ne_tail g2)))) | exact ne_chead g3 | exact ne_chead (ne_ctail g3) | exact ne_chead (ne_ctail (ne_ctail g3)) | exact ne_chead (ne_ctail (ne_ctail (ne_ctail g3))) | exact ne_chead (ne_ctail (ne_ctail (ne_ctail (ne_ctail g3)))) | exact ne_chead (ne_ctail (ne_ctail (ne_ctail (ne_ctail (ne_ctail g3))))) | exact ne_chead (ne_ctail (ne_ctail (ne_ctail (ne_ctail (ne_ctail (ne_ctail g3)))))) | exact ne_chead (ne_ctail (ne_ctail (ne_ctail (ne_ctail (ne_ctail (ne_ctail (ne_ctail g3))))))) | exact ne_chead (ne_ctail (ne_ctail (ne_ctail (ne_ctail (ne_ctail (ne_ctail (ne_ctail (ne_ctail g3)))))))) | exact ne_chead (ne_ctail (ne_ctail (ne_ctail (ne_ctail (ne_ctail (ne_ctail (ne_ctail (ne_ctail (ne_ctail g3))))))))) | exact ne_chead (ne_ctail (ne_ctail (ne_ctail (ne_ctail (ne_ctail (ne_ctail (ne_ctail (ne_ctail (ne_ctail (ne_ctail g3)))))))))))) ?_ | refine cont_stepR (by first | with_reducible exact g3 | ((repeat (refine cont_cons (by first | assumption | with_reducible (first | exact ne_head g2 | exact ne_head (ne_tail g2) | exact ne_head (ne_tail (ne_tail g2)) | exact ne_head (ne_tail (ne_tail (ne_tail g2))) | exact ne_head (ne_tail (ne_tail (ne_tail (ne_tail g2)))) | exact ne_chead g3 | exact ne_chead (ne_ctail g3) | exact ne_chead (ne_ctail (ne_ctail g3)) | exact ne_chead (ne_ctail (ne_ctail (ne_ctail g3))) | exact ne_chead (ne_ctail (ne_ctail (ne_ctail (ne_ctail g3)))) | exact ne_chead (ne_ctail (ne_ctail (ne_ctail (ne_ctail (ne_ctail g3))))) | exact ne_chead (ne_ctail (ne_ctail (ne_ctail (ne_ctail (ne_ctail (ne_ctail g3)))))) | exact ne_chead (ne_ctail (ne_ctail (ne_ctail (ne_ctail (ne_ctail (ne_ctail (ne_ctail g3))))))) | exact ne_chead (ne_ctail (ne_ctail (ne_ctail (ne_ctail (ne_ctail (ne_ctail (ne_ctail (ne_ctail g3)))))))) | exact ne_chead (ne_ctail (ne_ctail (ne_ctail (ne_ctail (ne_ctail (ne_ctail (ne_ctail (ne_ctail (ne_ctail g3))))))))) | exact ne_chead (ne_ctail (ne_ctail (ne_ctail (ne_ctail (ne_ctail (ne_ctail (ne_ctail (ne_ctail (ne_ctail (ne_ctail g3)))))))))))) ?_)); exact cont_nil)) ?_))
          case ap =>
            intro p hp
            have hp := parts0 hp
            simp only [qsL, List.map_cons, List.map_nil, List.cons_append, List.nil_append] at hp
            ((apply all_at hp); (try clear hp); (repeat' (refine all_cons ?_ ?_)); all_goals (try intro p hp))
            all_goals first
              | exact APi p hp
              | (refine ⟨?_, ?_, ?_⟩ <;> ((try simp only [QE.o, BE.o]); (first | exact ad_ne | omega)))
          case mu =>
            show (qw (init ++ [⟨D6, bi + bk, e.b, bj + bk, e.d, tk6, e.tb, tk6 + 1, e.td⟩])).toNat < (qw (init ++ [e])).toNat
            exact toNat_down GQ GS.2
        · rename News _ _ _ _ => N7
          have q1 := R.best.a
          have q2 := R.best.d
          have q3 := R.best.c
          have GS := gp_step (add := []) G R (by assumption) ⟨x, dx, bi, bj, bk, ti, tj, t3⟩ ⟨rfl, rfl, rfl⟩ (by
            intro y hy
            exact absurd hy List.not_mem_nil) (by simp only [qw]; (first | exact ad_ne | omega))
          have GQ := qw_pos GS.1.q
          refine of_post hPW ?_
          refine' wl_out ⟨init ++ [], bs ++ [⟨x, dx, bi, bj, bk, ti, tj, t3⟩], nq + 1, nb' + 1⟩ (by k_asm) N7 ?hn ?hk ?hr ⟨⟨GS.1, ?ap⟩, ?mu⟩
          case hn =>
            show ∀ p ∈ (M, instObj 242 dM) :: (dM, dictOf (smE H T (.ref la) (.ref lb) .none vop vfb (.ref d2) (.ref jk) vpop) 10) :: (la, W.listOf va.toArray na) :: (lb, W.listOf vb.toArray nb) :: (jk, { cls := .type "set", dict := none, data := .set #[] 0 (.fresh 0 0 led) }) :: (d2, D2) :: (q, W.listOf (qsV (init ++ [])).toArray (nq + 1)) :: (bl, W.listOf (bsV (bs ++ [⟨x, dx, bi, bj, bk, ti, tj, t3⟩])).toArray (nb' + 1)) :: (qsL (init ++ []) ++ (bsL (bs ++ [⟨x, dx, bi, bj, bk, ti, tj, t3⟩]) ++ Lb)), _
            have e1 : qsV (init ++ []) = qsV init := by simp [qsV, QE.v]
            have e2 : bsV (bs ++ [⟨x, dx, bi, bj, bk, ti, tj, t3⟩]) = bsV bs ++ [Value.ref x] := by simp [bsV, BE.v]
            rw [e1, e2]
            (iterate 8 (refine all_cons (by repeat (first | exact List.Mem.head _ | exact memR2 _ (by repeat (first | exact List.Mem.head _ | apply List.Mem.tail)) | apply List.Mem.tail)) ?_))
            intro p hp
            have hp := parts hp
            rw [hRest] at hp
            simp only [qsL, List.map_cons, List.map_nil, List.cons_append, List.nil_append] at hp
            (refine sub_at hp ?_; (first | ((try dsimp only); with_reducible (repeat' (first | exact sub_refl | exact tailR2 | exact sub_nil | refine sub_take ?_ | refine sub_skip ?_)); done) | ((try dsimp only); with_reducible (repeat' (first | exact sub_refl | exact tailR2 | exact sub_nil | exact mem_hd | refine sub_take ?_ | refine sub_put ?_ ?_ | refine mem_tl ?_ | refine sub_skip ?_)); done) | ((try dsimp only); (repeat' (first | exact sub_refl | exact tailR2 | exact sub_nil | exact mem_hd | refine sub_take ?_ | refine sub_put ?_ ?_ | refine mem_tl ?_ | refine sub_skip ?_)); done)))
          case hk => exact all_nil
          case hr =>
            intro z g2 g3; (repeat (first | with_reducible rfl | refine ite_go (by first | assumption | with_reducible (first | exact ne_head g2 | exact ne_head (ne_tail g2) | exact ne_head (ne_tail (ne_tail g2)) | exact ne_head (ne_tail (ne_tail (ne_tail g2))) | exact ne_head (ne_tail (ne_tail (ne_tail (ne_tail g2)))) | exact ne_chead g3 | exact ne_chead (ne_ctail g3) | exact ne_chead (ne_ctail (ne_ctail g3)) | exact ne_chead (ne_ctail (ne_ctail (ne_ctail g3))) | exact ne_chead (ne_ctail (ne_ctail (ne_ctail (ne_ctail g3)))) | exact ne_chead (ne_ctail (ne_ctail (ne_ctail (ne_ctail (ne_ctail g3))))) | exact ne_chead (ne_ctail (ne_ctail (ne_ctail (ne_ctail (ne_ctail (ne_ctail g3)))))) | exact ne_chead (ne_ctail (ne_ctail (ne_ctail (ne_ctail (ne_ctail (ne_ctail (ne_ctail g3))))))) | exact ne_chead (ne_ctail (ne_ctail (ne_ctail (ne_ctail (ne_ctail (ne_ctail (ne_ctail (ne_ctail g3)))))))) | exact ne_chead (ne_ctail (ne_ctail (ne_ctail (ne_ctail (ne_ctail (ne_ctail (ne_ctail (ne_ctail (ne_ctail g3))))))))) | exact ne_chead (ne_ctail (ne_ctail (ne_ctail (ne_ctail (ne_ctail (ne_ctail (ne_ctail (ne_ctail (ne_ctail (ne_ctail g3)))))))))))) ?_ | refine cont_step (by first | with_reducible exact g3 | ((repeat (refine cont_cons (by first | assumption | with_reducible (first | exact ne_head g2 | exact ne_head (ne_tail g2) | exact ne_head (ne_tail (ne_tail g2)) | exact ne_head (ne_tail (ne_tail (ne_tail g2))) | exact ne_head (ne_tail (ne_tail (ne_tail (ne_tail g2)))) | exact ne_chead g3 | exact ne_chead (ne_ctail g3) | exact ne_chead (ne_ctail (ne_ctail g3)) | exact ne_chead (ne_ctail (ne_ctail (ne_ctail g3))) | exact ne_chead (ne_ctail (ne_ctail (ne_ctail (ne_ctail g3)))) | exact ne_chead (ne_ctail (ne_ctail (ne_ctail (ne_ctail (ne_ctail g3))))) | exact ne_chead (ne_ctail (ne_ctail (ne_ctail (ne_ctail (ne_ctail (ne_ctail g3)))))) | exact ne_chead (ne_ctail (ne_ctail (ne_ctail (ne_ctail (ne_ctail (ne_ctail (ne_ctail g3))))))) | exact ne_chead (ne_ctail (ne_ctail (ne_ctail (ne_ctail (ne_ctail (ne_ctail (ne_ctail (ne_ctail g3)))))))) | exact ne_chead (ne_ctail (ne_ctail (ne_ctail (ne_ctail (ne_ctail (ne_ctail (ne_ctail (ne_ctail (ne_ctail g3))))))))) | exact ne_chead (ne_ctail (ne_ctail (ne_ctail (ne_ctail (ne_ctail (ne_ctail (ne_ctail (ne_ctail (ne_ctail (ne_ctail g3)))))))))))) ?_)); exact cont_nil)) ?_ | refine ite_goR (by first | assumption | with_reducible (first | exact ne_head g2 | exact ne_head (ne_tail g2) | exact ne_head (ne_tail (ne_tail g2)) | exact ne_head (ne_tail (ne_tail (ne_tail g2))) | exact ne_head (ne_tail (ne_tail (ne_tail (ne_tail g2)))) | exact ne_chead g3 | exact ne_chead (ne_ctail g3) | exact ne_chead (ne_ctail (ne_ctail g3)) | exact ne_chead (ne_ctail (ne_ctail (ne_ctail g3))) | exact ne_chead (ne_ctail (ne_ctail (ne_ctail (ne_ctail g3)))) | exact ne_chead (ne_ctail (ne_ctail (ne_ctail (ne_ctail (ne_ctail g3))))) | exact ne_chead (ne_ctail (ne_ctail (ne_ctail (ne_ctail (ne_ctail (ne_ctail g3)))))) | exact ne_chead (ne_ctail (ne_ctail (ne_ctail (ne_ctail (ne_ctail (ne_ctail (ne_ctail g3))))))) | exact ne_chead (ne_ctail (ne_ctail (ne_ctail (ne_ctail (ne_ctail (ne_ctail (ne_ctail (ne_ctail g3)))))))) | exact ne_chead (ne_ctail (ne_ctail (ne_ctail (ne_ctail (ne_ctail (ne_ctail (ne_ctail (ne_ctail (ne_ctail g3))))))))) | exact ne_chead (ne_ctail (ne_ctail (ne_ctail (ne_ctail (ne_ctail (ne_ctail (ne_ctail (ne_ctail (ne_ctail (ne_ctail g3)))))))))))) ?_ | refine cont_stepR (by first | with_reducible exact g3 | ((repeat (refine cont_cons (by first | assumption | with_reducible (first | exact ne_head g2 | exact ne_head (ne_tail g2) | exact ne_head (ne_tail (ne_tail g2)) | exact ne_head (ne_tail (ne_tail (ne_tail g2))) | exact ne_head (ne_tail (ne_tail (ne_tail (ne_tail g2)))) | exact ne_chead g3 | exact ne_chead (ne_ctail g3) | exact ne_chead (ne_ctail (ne_ctail g3)) | exact ne_chead (ne_ctail (ne_ctail (ne_ctail g3))) | exact ne_chead (ne_ctail (ne_ctail (ne_ctail (ne_ctail g3)))) | exact ne_chead (ne_ctail (ne_ctail (ne_ctail (ne_ctail (ne_ctail g3))))) | exact ne_chead (ne_ctail (ne_ctail (ne_ctail (ne_ctail (ne_ctail (ne_ctail g3)))))) | exact ne_chead (ne_ctail (ne_ctail (ne_ctail (ne_ctail (ne_ctail (ne_ctail (ne_ctail g3))))))) | exact ne_chead (ne_ctail (ne_ctail (ne_ctail (ne_ctail (ne_ctail (ne_ctail (ne_ctail (ne_ctail g3)))))))) | exact ne_chead (ne_ctail (ne_ctail (ne_ctail (ne_ctail (ne_ctail (ne_ctail (ne_ctail (ne_ctail (ne_ctail g3))))))))) | exact ne_chead (ne_ctail (ne_ctail (ne_ctail (ne_ctail (ne_ctail (ne_ctail (ne_ctail (ne_ctail (ne_ctail (ne_ctail g3)))))))))))) ?_)); exact cont_nil)) ?_))
          case ap =>
            intro p hp
            have hp := parts0 hp
            simp only [qsL, List.map_cons, List.map_nil, List.cons_append, List.nil_append] at hp
            ((apply all_at hp); (try clear hp); (repeat' (refine all_cons ?_ ?_)); all_goals (try intro p hp))
            all_goals first
              | exact APi p hp
              | (refine ⟨?_, ?_, ?_⟩ <;> ((try simp only [QE.o, BE.o]); (first | exact ad_ne | omega)))
          case mu =>
            show (qw (init ++ [])).toNat < (qw (init ++ [e])).toNat
            exact toNat_down GQ GS.2
        · rename News _ _ _ _ => N7
          have q1 := R.best.a
          have q2 := R.best.d
          have q3 := R.best.c
          have GS := gp_step (add := []) G R (by assumption) ⟨x, dx, bi, bj, bk, ti, tj, t3⟩ ⟨rfl, rfl, rfl⟩ (by
            intro y hy
            exact absurd hy List.not_mem_nil) (by simp only [qw]; (first | exact ad_ne | omega))
          have GQ := qw_pos GS.1.q
          refine of_post hPW ?_
          refine' wl_out ⟨init ++ [], bs ++ [⟨x, dx, bi, bj, bk, ti, tj, t3⟩], nq + 1, nb' + 1⟩ (by k_asm) N7 ?hn ?hk ?hr ⟨⟨GS.1, ?ap⟩, ?mu⟩
          case hn =>
            show ∀ p ∈ (M, instObj 242 dM) :: (dM, dictOf (smE H T (.ref la) (.ref lb) .none vop vfb (.ref d2) (.ref jk) vpop) 10) :: (la, W.listOf va.toArray na) :: (lb, W.listOf vb.toArray nb) :: (jk, { cls := .type "set", dict := none, data := .set #[] 0 (.fresh 0 0 led) }) :: (d2, D2) :: (q, W.listOf (qsV (init ++ [])).toArray (nq + 1)) :: (bl, W.listOf (bsV (bs ++ [⟨x, dx, bi, bj, bk, ti, tj, t3⟩])).toArray (nb' + 1)) :: (qsL (init ++ []) ++ (bsL (bs ++ [⟨x, dx, bi, bj, bk, ti, tj, t3⟩]) ++ Lb)), _
            have e1 : qsV (init ++ []) = qsV init := by simp [qsV, QE.v]
            have e2 : bsV (bs ++ [⟨x, dx, bi, bj, bk, ti, tj, t3⟩]) = bsV bs ++ [Value.ref x] := by simp [bsV, BE.v]
            rw [e1, e2]
            (iterate 8 (refine all_cons (by repeat (first | exact List.Mem.head _ | exact memR2 _ (by repeat (first | exact List.Mem.head _ | apply List.Mem.tail)) | apply List.Mem.tail)) ?_))
            intro p hp
            have hp := parts hp
            rw [hRest] at hp
            simp only [qsL, List.map_cons, List.map_nil, List.cons_append, List.nil_append] at hp
            (refine sub_at hp ?_; (first | ((try dsimp only); with_reducible (repeat' (first | exact sub_refl | exact tailR2 | exact sub_nil | refine sub_take ?_ | refine sub_skip ?_)); done) | ((try dsimp only); with_reducible (repeat' (first | exact sub_refl | exact tailR2 | exact sub_nil | exact mem_hd | refine sub_take ?_ | refine sub_put ?_ ?_ | refine mem_tl ?_ | refine sub_skip ?_)); done) | ((try dsimp only); (repeat' (first | exact sub_refl | exact tailR2 | exact sub_nil | exact mem_hd | refine sub_take ?_ | refine sub_put ?_ ?_ | refine mem_tl ?_ | refine sub_skip ?_)); done)))
          case hk => exact all_nil
          case hr =>
            intro z g2 g3; (repeat (first | with_reducible rfl | refine ite_go (by first | assumption | with_reducible (first | exact ne_head g2 | exact ne_head (ne_tail g2) | exact ne_head (ne_tail (ne_tail g2)) | exact ne_head (ne_tail (ne_tail (ne_tail g2))) | exact ne_head (ne_tail (ne_tail (ne_tail (ne_tail g2)))) | exact ne_chead g3 | exact ne_chead (ne_ctail g3) | exact ne_chead (ne_ctail (ne_ctail g3)) | exact ne_chead (ne_ctail (ne_ctail (ne_ctail g3))) | exact ne_chead (ne_ctail (ne_ctail (ne_ctail (ne_ctail g3)))) | exact ne_chead (ne_ctail (ne_ctail (ne_ctail (ne_ctail (ne_ctail g3))))) | exact ne_chead (ne_ctail (ne_ctail (ne_ctail (ne_ctail (ne_ctail (ne_ctail g3)))))) | exact ne_chead (ne_ctail (ne_ctail (ne_ctail (ne_ctail (ne_ctail (ne_ctail (ne_ctail g3))))))) | exact ne_chead (ne_ctail (ne_ctail (ne_ctail (ne_ctail (ne_ctail (ne_ctail (ne_ctail (ne_ctail g3)))))))) | exact ne_chead (ne_ctail (ne_ctail (ne_ctail (ne_ctail (ne_ctail (ne_ctail (ne_ctail (ne_ctail (ne_ctail g3))))))))) | exact ne_chead (ne_ctail (ne_ctail (ne_ctail (ne_ctail (ne_ctail (ne_ctail (ne_ctail (ne_ctail (ne_ctail (ne_ctail g3)))))))))))) ?_ | refine cont_step (by first | with_reducible exact g3 | ((repeat (refine cont_cons (by first | assumption | with_reducible (first | exact ne_head g2 | exact ne_head (ne_tail g2) | exact ne_head (ne_tail (ne_tail g2)) | exact ne_head (ne_tail (ne_tail (ne_tail g2))) | exact ne_head (ne_tail (ne_tail (ne_tail (ne_tail g2)))) | exact ne_chead g3 | exact ne_chead (ne_ctail g3) | exact ne_chead (ne_ctail (ne_ctail g3)) | exact ne_chead (ne_ctail (ne_ctail (ne_ctail g3))) | exact ne_chead (ne_ctail (ne_ctail (ne_ctail (ne_ctail g3)))) | exact ne_chead (ne_ctail (ne_ctail (ne_ctail (ne_ctail (ne_ctail g3))))) | exact ne_chead (ne_ctail (ne_ctail (ne_ctail (ne_ctail (ne_ctail (ne_ctail g3)))))) | exact ne_chead (ne_ctail (ne_ctail (ne_ctail (ne_ctail (ne_ctail (ne_ctail (ne_ctail g3))))))) | exact ne_chead (ne_ctail (ne_ctail (ne_ctail (ne_ctail (ne_ctail (ne_ctail (ne_ctail (ne_ctail g3)))))))) | exact ne_chead (ne_ctail (ne_ctail (ne_ctail (ne_ctail (ne_ctail (ne_ctail (ne_ctail (ne_ctail (ne_ctail g3))))))))) | exact ne_chead (ne_ctail (ne_ctail (ne_ctail (ne_ctail (ne_ctail (ne_ctail (ne_ctail (ne_ctail (ne_ctail (ne_ctail g3)))))))))))) ?_)); exact cont_nil)) ?_ | refine ite_goR (by first | assumption | with_reducible (first | exact ne_head g2 | exact ne_head (ne_tail g2) | exact ne_head (ne_tail (ne_tail g2)) | exact ne_head (ne_tail (ne_tail (ne_tail g2))) | exact ne_head (ne_tail (ne_tail (ne_tail (ne_tail g2)))) | exact ne_chead g3 | exact ne_chead (ne_ctail g3) | exact ne_chead (ne_ctail (ne_ctail g3)) | exact ne_chead (ne_ctail (ne_ctail (ne_ctail g3))) | exact ne_chead (ne_ctail (ne_ctail (ne_ctail (ne_ctail g3)))) | exact ne_chead (ne_ctail (ne_ctail (ne_ctail (ne_ctail (ne_ctail g3))))) | exact ne_chead (ne_ctail (ne_ctail (ne_ctail (ne_ctail (ne_ctail (ne_ctail g3)))))) | exact ne_chead (ne_ctail (ne_ctail (ne_ctail (ne_ctail (ne_ctail (ne_ctail (ne_ctail g3))))))) | exact ne_chead (ne_ctail (ne_ctail (ne_ctail (ne_ctail (ne_ctail (ne_ctail (ne_ctail (ne_ctail g3)))))))) | exact ne_chead (ne_ctail (ne_ctail (ne_ctail (ne_ctail (ne_ctail (ne_ctail (ne_ctail (ne_ctail (ne_ctail g3))))))))) | exact ne_chead (ne_ctail (ne_ctail (ne_ctail (ne_ctail (ne_ctail (ne_ctail (ne_ctail (ne_ctail (ne_ctail (ne_ctail g3)))))))))))) ?_ | refine cont_stepR (by first | with_reducible exact g3 | ((repeat (refine cont_cons (by first | assumption | with_reducible (first | exact ne_head g2 | exact ne_head (ne_tail g2) | exact ne_head (ne_tail (ne_tail g2)) | exact ne_head (ne_tail (ne_tail (ne_tail g2))) | exact ne_head (ne_tail (ne_tail (ne_tail (ne_tail g2)))) | exact ne_chead g3 | exact ne_chead (ne_ctail g3) | exact ne_chead (ne_ctail (ne_ctail g3)) | exact ne_chead (ne_ctail (ne_ctail (ne_ctail g3))) | exact ne_chead (ne_ctail (ne_ctail (ne_ctail (ne_ctail g3)))) | exact ne_chead (ne_ctail (ne_ctail (ne_ctail (ne_ctail (ne_ctail g3))))) | exact ne_chead (ne_ctail (ne_ctail (ne_ctail (ne_ctail (ne_ctail (ne_ctail g3)))))) | exact ne_chead (ne_ctail (ne_ctail (ne_ctail (ne_ctail (ne_ctail (ne_ctail (ne_ctail g3))))))) | exact ne_chead (ne_ctail (ne_ctail (ne_ctail (ne_ctail (ne_ctail (ne_ctail (ne_ctail (ne_ctail g3)))))))) | exact ne_chead (ne_ctail (ne_ctail (ne_ctail (ne_ctail (ne_ctail (ne_ctail (ne_ctail (ne_ctail (ne_ctail g3))))))))) | exact ne_chead (ne_ctail (ne_ctail (ne_ctail (ne_ctail (ne_ctail (ne_ctail (ne_ctail (ne_ctail (ne_ctail (ne_ctail g3)))))))))))) ?_)); exact cont_nil)) ?_))
          case ap =>
            intro p hp
            have hp := parts0 hp
            simp only [qsL, List.map_cons, List.map_nil, List.cons_append, List.nil_append] at hp
            ((apply all_at hp); (try clear hp); (repeat' (refine all_cons ?_ ?_)); all_goals (try intro p hp))
            all_goals first
              | exact APi p hp
              | (refine ⟨?_, ?_, ?_⟩ <;> ((try simp only [QE.o, BE.o]); (first | exact ad_ne | omega)))
          case mu =>
            show (qw (init ++ [])).toNat < (qw (init ++ [e])).toNat
            exact toNat_down GQ GS.2
        · rename_i D6 k6 F6 N6' lD6
          obtain ⟨tk6, htk6⟩ : ∃ t : Nat, t = tk := ⟨tk, rfl⟩
          rw [← htk6] at N6'
          have w6 : @LT.lt Nat _ x D6 := lD6.1
          refine append_vs (pre := [_, _, _]) (us := qsV init) (by k_asm) N6' (by intro p hp; ((apply all_at hp); (try clear hp); (repeat' (refine all_cons ?_ ?_)); all_goals (try intro p hp)); all_goals (first | exact absurd hp List.not_mem_nil | exact r2q p hp | (show @Ne Nat _ q; first | exact ad_ne | exact et_q | exact (Ne.symm (by assumption))))) (by intro p hp; ((apply all_at hp); (try clear hp); (repeat' (refine all_cons ?_ ?_)); all_goals (try intro p hp)); all_goals (first | exact absurd hp List.not_mem_nil | exact r2q p hp | (show @Ne Nat _ q; first | exact ad_ne | exact et_q | exact (Ne.symm (by assumption))))) (by (first | exact ad_ne | omega)) fun h8 F8 N8 => ?_
          simp only [List.nil_append, List.cons_append] at N8
          clear N6' F6
          k_steps
          rename News _ _ _ _ => N7
          have q1 := R.best.a
          have q2 := R.best.d
          have q3 := R.best.c
          have GS := gp_step (add := [⟨D6, bi + bk, e.b, bj + bk, e.d, tk6, e.tb, tk6 + 1, e.td⟩]) G R (by assumption) ⟨x, dx, bi, bj, bk, ti, tj, t3⟩ ⟨rfl, rfl, rfl⟩ (by
            intro y hy
            simp only [List.mem_cons, List.not_mem_nil, or_false] at hy
            first | (rcases hy with rfl | rfl <;> first | exact .inl ⟨rfl, rfl, rfl, rfl, by assumption, by assumption⟩ | exact .inr ⟨rfl, rfl, rfl, rfl, by assumption, by assumption⟩) | (subst hy; first | exact .inl ⟨rfl, rfl, rfl, rfl, by assumption, by assumption⟩ | exact .inr ⟨rfl, rfl, rfl, rfl, by assumption, by assumption⟩)) (by simp only [qw]; (first | exact ad_ne | omega))
          have GQ := qw_pos GS.1.q
          refine of_post hPW ?_
          refine' wl_out ⟨init ++ [⟨D6, bi + bk, e.b, bj + bk, e.d, tk6, e.tb, tk6 + 1, e.td⟩], bs ++ [⟨x, dx, bi, bj, bk, ti, tj, t3⟩], nq + 1 + 1, nb' + 1⟩ (by k_asm) N7 ?hn ?hk ?hr ⟨⟨GS.1, ?ap⟩, ?mu⟩
          case hn =>
            show ∀ p ∈ (M, instObj 242 dM) :: (dM, dictOf (smE H T (.ref la) (.ref lb) .none vop vfb (.ref d2) (.ref jk) vpop) 10) :: (la, W.listOf va.toArray na) :: (lb, W.listOf vb.toArray nb) :: (jk, { cls := .type "set", dict := none, data := .set #[] 0 (.fresh 0 0 led) }) :: (d2, D2) :: (q, W.listOf (qsV (init ++ [⟨D6, bi + bk, e.b, bj + bk, e.d, tk6, e.tb, tk6 + 1, e.td⟩])).toArray (nq + 1 + 1)) :: (bl, W.listOf (bsV (bs ++ [⟨x, dx, bi, bj, bk, ti, tj, t3⟩])).toArray (nb' + 1)) :: (qsL (init ++ [⟨D6, bi + bk, e.b, bj + bk, e.d, tk6, e.tb, tk6 + 1, e.td⟩]) ++ (bsL (bs ++ [⟨x, dx, bi, bj, bk, ti, tj, t3⟩]) ++ Lb)), _
            have e1 : qsV (init ++ [⟨D6, bi + bk, e.b, bj + bk, e.d, tk6, e.tb, tk6 + 1, e.td⟩]) = qsV init ++ [Value.ref D6] := by simp [qsV, QE.v]
            have e2 : bsV (bs ++ [⟨x, dx, bi, bj, bk, ti, tj, t3⟩]) = bsV bs ++ [Value.ref x] := by simp [bsV, BE.v]
            rw [e1, e2]
            (iterate 8 (refine all_cons (by repeat (first | exact List.Mem.head _ | exact memR2 _ (by repeat (first | exact List.Mem.head _ | apply List.Mem.tail)) | apply List.Mem.tail)) ?_))
            intro p hp
            have hp := parts hp
            rw [hRest] at hp
            simp only [qsL, List.map_cons, List.map_nil, List.cons_append, List.nil_append] at hp
            (refine sub_at hp ?_; (first | ((try dsimp only); with_reducible (repeat' (first | exact sub_refl | exact tailR2 | exact sub_nil | refine sub_take ?_ | refine sub_skip ?_)); done) | ((try dsimp only); with_reducible (repeat' (first | exact sub_refl | exact tailR2 | exact sub_nil | exact mem_hd | refine sub_take ?_ | refine sub_put ?_ ?_ | refine mem_tl ?_ | refine sub_skip ?_)); done) | ((try dsimp only); (repeat' (first | exact sub_refl | exact tailR2 | exact sub_nil | exact mem_hd | refine sub_take ?_ | refine sub_put ?_ ?_ | refine mem_tl ?_ | refine sub_skip ?_)); done)))
          case hk => exact all_nil
          case hr =>
            intro z g2 g3; (repeat (first | with_reducible rfl | refine ite_go (by first | assumption | with_reducible (first | exact ne_head g2 | exact ne_head (ne_tail g2) | exact ne_head (ne_tail (ne_tail g2)) | exact ne_head (ne_tail (ne_tail (ne_tail g2))) | exact ne_head (ne_tail (ne_tail (ne_tail (ne_tail g2)))) | exact ne_chead g3 | exact ne_chead (ne_ctail g3) | exact ne_chead (ne_ctail (ne_ctail g3)) | exact ne_chead (ne_ctail (ne_ctail (ne_ctail g3))) | exact ne_chead (ne_ctail (ne_ctail (ne_ctail (ne_ctail g3)))) | exact ne_chead (ne_ctail (ne_ctail (ne_ctail (ne_ctail (ne_ctail g3))))) | exact ne_chead (ne_ctail (ne_ctail (ne_ctail (ne_ctail (ne_ctail (ne_ctail g3)))))) | exact ne_chead (ne_ctail (ne_ctail (ne_ctail (ne_ctail (ne_ctail (ne_ctail (ne_ctail g3))))))) | exact ne_chead (ne_ctail (ne_ctail (ne_ctail (ne_ctail (ne_ctail (ne_ctail (ne_ctail (ne_ctail g3)))))))) | exact ne_chead (ne_ctail (ne_ctail (ne_ctail (ne_ctail (ne_ctail (ne_ctail (ne_ctail (ne_ctail (ne_ctail g3))))))))) | exact ne_chead (ne_ctail (ne_ctail (ne_ctail (ne_ctail (ne_ctail (ne_ctail (ne_ctail (ne_ctail (ne_ctail (ne_ctail g3)))))))))))) ?_ | refine cont_step (by first | with_reducible exact g3 | ((repeat (refine cont_cons (by first | assumption | with_reducible (first | exact ne_head g2 | exact ne_head (ne_tail g2) | exact ne_head (ne_tail (ne_tail g2)) | exact ne_head (ne_tail (ne_tail (ne_tail g2))) | exact ne_head (ne_tail (ne_tail (ne_tail (ne_tail g2)))) | exact ne_chead g3 | exact ne_chead (ne_ctail g3) | exact ne_chead (ne_ctail (ne_ctail g3)) | exact ne_chead (ne_ctail (ne_ctail (ne_ctail g3))) | exact ne_chead (ne_ctail (ne_ctail (ne_ctail (ne_ctail g3)))) | exact ne_chead (ne_ctail (ne_ctail (ne_ctail (ne_ctail (ne_ctail g3))))) | exact ne_chead (ne_ctail (ne_ctail (ne_ctail (ne_ctail (ne_ctail (ne_ctail g3)))))) | exact ne_chead (ne_ctail (ne_ctail (ne_ctail (ne_ctail (ne_ctail (ne_ctail (ne_ctail g3))))))) | exact ne_chead (ne_ctail (ne_ctail (ne_ctail (ne_ctail (ne_ctail (ne_ctail (ne_ctail (ne_ctail g3)))))))) | exact ne_chead (ne_ctail (ne_ctail (ne_ctail (ne_ctail (ne_ctail (ne_ctail (ne_ctail (ne_ctail (ne_ctail g3))))))))) | exact ne_chead (ne_ctail (ne_ctail (ne_ctail (ne_ctail (ne_ctail (ne_ctail (ne_ctail (ne_ctail (ne_ctail (ne_ctail g3)))))))))))) ?_)); exact cont_nil)) ?_ | refine ite_goR (by first | assumption | with_reducible (first | exact ne_head g2 | exact ne_head (ne_tail g2) | exact ne_head (ne_tail (ne_tail g2)) | exact ne_head (ne_tail (ne_tail (ne_tail g2))) | exact ne_head (ne_tail (ne_tail (ne_tail (ne_tail g2)))) | exact ne_chead g3 | exact ne_chead (ne_ctail g3) | exact ne_chead (ne_ctail (ne_ctail g3)) | exact ne_chead (ne_ctail (ne_ctail (ne_ctail g3))) | exact ne_chead (ne_ctail (ne_ctail (ne_ctail (ne_ctail g3)))) | exact ne_chead (ne_ctail (ne_ctail (ne_ctail (ne_ctail (ne_ctail g3))))) | exact ne_chead (ne_ctail (ne_ctail (ne_ctail (ne_ctail (ne_ctail (ne_ctail g3)))))) | exact ne_chead (ne_ctail (ne_ctail (ne_ctail (ne_ctail (ne_ctail (ne_ctail (ne_ctail g3))))))) | exact ne_chead (ne_ctail (ne_ctail (ne_ctail (ne_ctail (ne_ctail (ne_ctail (ne_ctail (ne_ctail g3)))))))) | exact ne_chead (ne_ctail (ne_ctail (ne_ctail (ne_ctail (ne_ctail (ne_ctail (ne_ctail (ne_ctail (ne_ctail g3))))))))) | exact ne_chead (ne_ctail (ne_ctail (ne_ctail (ne_ctail (ne_ctail (ne_ctail (ne_ctail (ne_ctail (ne_ctail (ne_ctail g3)))))))))))) ?_ | refine cont_stepR (by first | with_reducible exact g3 | ((repeat (refine cont_cons (by first | assumption | with_reducible (first | exact ne_head g2 | exact ne_head (ne_tail g2) | exact ne_head (ne_tail (ne_tail g2)) | exact ne_head (ne_tail (ne_tail (ne_tail g2))) | exact ne_head (ne_tail (ne_tail (ne_tail (ne_tail g2)))) | exact ne_chead g3 | exact ne_chead (ne_ctail g3) | exact ne_chead (ne_ctail (ne_ctail g3)) | exact ne_chead (ne_ctail (ne_ctail (ne_ctail g3))) | exact ne_chead (ne_ctail (ne_ctail (ne_ctail (ne_ctail g3)))) | exact ne_chead (ne_ctail (ne_ctail (ne_ctail (ne_ctail (ne_ctail g3))))) | exact ne_chead (ne_ctail (ne_ctail (ne_ctail (ne_ctail (ne_ctail (ne_ctail g3)))))) | exact ne_chead (ne_ctail (ne_ctail (ne_ctail (ne_ctail (ne_ctail (ne_ctail (ne_ctail g3))))))) | exact ne_chead (ne_ctail (ne_ctail (ne_ctail (ne_ctail (ne_ctail (ne_ctail (ne_ctail (ne_ctail g3)))))))) | exact ne_chead (ne_ctail (ne_ctail (ne_ctail (ne_ctail (ne_ctail (ne_ctail (ne_ctail (ne_ctail (ne_ctail g3))))))))) | exact ne_chead (ne_ctail (ne_ctail (ne_ctail (ne_ctail (ne_ctail (ne_ctail (ne_ctail (ne_ctail (ne_ctail (ne_ctail g3)))))))))))) ?_)); exact cont_nil)) ?_))
          case ap =>
            intro p hp
            have hp := parts0 hp
            simp only [qsL, List.map_cons, List.map_nil, List.cons_append, List.nil_append] at hp
            ((apply all_at hp); (try clear hp); (repeat' (refine all_cons ?_ ?_)); all_goals (try intro p hp))
            all_goals first
              | exact APi p hp
              | (refine ⟨?_, ?_, ?_⟩ <;> ((try simp only [QE.o, BE.o]); (first | exact ad_ne | omega)))
          case mu =>
            show (qw (init ++ [⟨D6, bi + bk, e.b, bj + bk, e.d, tk6, e.tb, tk6 + 1, e.td⟩])).toNat < (qw (init ++ [e])).toNat
            exact toNat_down GQ GS.2
        · rename News _ _ _ _ => N7
          have q1 := R.best.a
          have q2 := R.best.d
          have q3 := R.best.c
          have GS := gp_step (add := []) G R (by assumption) ⟨x, dx, bi, bj, bk, ti, tj, t3⟩ ⟨rfl, rfl, rfl⟩ (by
            intro y hy
            exact absurd hy List.not_mem_nil) (by simp only [qw]; (first | exact ad_ne | omega))
          have GQ := qw_pos GS.1.q
          refine of_post hPW ?_
          refine' wl_out ⟨init ++ [], bs ++ [⟨x, dx, bi, bj, bk, ti, tj, t3⟩], nq + 1, nb' + 1⟩ (by k_asm) N7 ?hn ?hk ?hr ⟨⟨GS.1, ?ap⟩, ?mu⟩
          case hn =>
            show ∀ p ∈ (M, instObj 242 dM) :: (dM, dictOf (smE H T (.ref la) (.ref lb) .none vop vfb (.ref d2) (.ref jk) vpop) 10) :: (la, W.listOf va.toArray na) :: (lb, W.listOf vb.toArray nb) :: (jk, { cls := .type "set", dict := none, data := .set #[] 0 (.fresh 0 0 led) }) :: (d2, D2) :: (q, W.listOf (qsV (init ++ [])).toArray (nq + 1)) :: (bl, W.listOf (bsV (bs ++ [⟨x, dx, bi, bj, bk, ti, tj, t3⟩])).toArray (nb' + 1)) :: (qsL (init ++ []) ++ (bsL (bs ++ [⟨x, dx, bi, bj, bk, ti, tj, t3⟩]) ++ Lb)), _
            have e1 : qsV (init ++ []) = qsV init := by simp [qsV, QE.v]
            have e2 : bsV (bs ++ [⟨x, dx, bi, bj, bk, ti, tj, t3⟩]) = bsV bs ++ [Value.ref x] := by simp [bsV, BE.v]
            rw [e1, e2]
            (iterate 8 (refine all_cons (by repeat (first | exact List.Mem.head _ | exact memR2 _ (by repeat (first | exact List.Mem.head _ | apply List.Mem.tail)) | apply List.Mem.tail)) ?_))
            intro p hp
            have hp := parts hp
            rw [hRest] at hp
            simp only [qsL, List.map_cons, List.map_nil, List.cons_append, List.nil_append] at hp
            (refine sub_at hp ?_; (first | ((try dsimp only); with_reducible (repeat' (first | exact sub_refl | exact tailR2 | exact sub_nil | refine sub_take ?_ | refine sub_skip ?_)); done) | ((try dsimp only); with_reducible (repeat' (first | exact sub_refl | exact tailR2 | exact sub_nil | exact mem_hd | refine sub_take ?_ | refine sub_put ?_ ?_ | refine mem_tl ?_ | refine sub_skip ?_)); done) | ((try dsimp only); (repeat' (first | exact sub_refl | exact tailR2 | exact sub_nil | exact mem_hd | refine sub_take ?_ | refine sub_put ?_ ?_ | refine mem_tl ?_ | refine sub_skip ?_)); done)))
          case hk => exact all_nil
          case hr =>
            intro z g2 g3; (repeat (first | with_reducible rfl | refine ite_go (by first | assumption | with_reducible (first | exact ne_head g2 | exact ne_head (ne_tail g2) | exact ne_head (ne_tail (ne_tail g2)) | exact ne_head (ne_tail (ne_tail (ne_tail g2))) | exact ne_head (ne_tail (ne_tail (ne_tail (ne_tail g2)))) | exact ne_chead g3 | exact ne_chead (ne_ctail g3) | exact ne_chead (ne_ctail (ne_ctail g3)) | exact ne_chead (ne_ctail (ne_ctail (ne_ctail g3))) | exact ne_chead (ne_ctail (ne_ctail (ne_ctail (ne_ctail g3)))) | exact ne_chead (ne_ctail (ne_ctail (ne_ctail (ne_ctail (ne_ctail g3))))) | exact ne_chead (ne_ctail (ne_ctail (ne_ctail (ne_ctail (ne_ctail (ne_ctail g3)))))) | exact ne_chead (ne_ctail (ne_ctail (ne_ctail (ne_ctail (ne_ctail (ne_ctail (ne_ctail g3))))))) | exact ne_chead (ne_ctail (ne_ctail (ne_ctail (ne_ctail (ne_ctail (ne_ctail (ne_ctail (ne_ctail g3)))))))) | exact ne_chead (ne_ctail (ne_ctail (ne_ctail (ne_ctail (ne_ctail (ne_ctail (ne_ctail (ne_ctail (ne_ctail g3))))))))) | exact ne_chead (ne_ctail (ne_ctail (ne_ctail (ne_ctail (ne_ctail (ne_ctail (ne_ctail (ne_ctail (ne_ctail (ne_ctail g3)))))))))))) ?_ | refine cont_step (by first | with_reducible exact g3 | ((repeat (refine cont_cons (by first | assumption | with_reducible (first | exact ne_head g2 | exact ne_head (ne_tail g2) | exact ne_head (ne_tail (ne_tail g2)) | exact ne_head (ne_tail (ne_tail (ne_tail g2))) | exact ne_head (ne_tail (ne_tail (ne_tail (ne_tail g2)))) | exact ne_chead g3 | exact ne_chead (ne_ctail g3) | exact ne_chead (ne_ctail (ne_ctail g3)) | exact ne_chead (ne_ctail (ne_ctail (ne_ctail g3))) | exact ne_chead (ne_ctail (ne_ctail (ne_ctail (ne_ctail g3)))) | exact ne_chead (ne_ctail (ne_ctail (ne_ctail (ne_ctail (ne_ctail g3))))) | exact ne_chead (ne_ctail (ne_ctail (ne_ctail (ne_ctail (ne_ctail (ne_ctail g3)))))) | exact ne_chead (ne_ctail (ne_ctail (ne_ctail (ne_ctail (ne_ctail (ne_ctail (ne_ctail g3))))))) | exact ne_chead (ne_ctail (ne_ctail (ne_ctail (ne_ctail (ne_ctail (ne_ctail (ne_ctail (ne_ctail g3)))))))) | exact ne_chead (ne_ctail (ne_ctail (ne_ctail (ne_ctail (ne_ctail (ne_ctail (ne_ctail (ne_ctail (ne_ctail g3))))))))) | exact ne_chead (ne_ctail (ne_ctail (ne_ctail (ne_ctail (ne_ctail (ne_ctail (ne_ctail (ne_ctail (ne_ctail (ne_ctail g3)))))))))))) ?_)); exact cont_nil)) ?_ | refine ite_goR (by first | assumption | with_reducible (first | exact ne_head g2 | exact ne_head (ne_tail g2) | exact ne_head (ne_tail (ne_tail g2)) | exact ne_head (ne_tail (ne_tail (ne_tail g2))) | exact ne_head (ne_tail (ne_tail (ne_tail (ne_tail g2)))) | exact ne_chead g3 | exact ne_chead (ne_ctail g3) | exact ne_chead (ne_ctail (ne_ctail g3)) | exact ne_chead (ne_ctail (ne_ctail (ne_ctail g3))) | exact ne_chead (ne_ctail (ne_ctail (ne_ctail (ne_ctail g3)))) | exact ne_chead (ne_ctail (ne_ctail (ne_ctail (ne_ctail (ne_ctail g3))))) | exact ne_chead (ne_ctail (ne_ctail (ne_ctail (ne_ctail (ne_ctail (ne_ctail g3)))))) | exact ne_chead (ne_ctail (ne_ctail (ne_ctail (ne_ctail (ne_ctail (ne_ctail (ne_ctail g3))))))) | exact ne_chead (ne_ctail (ne_ctail (ne_ctail (ne_ctail (ne_ctail (ne_ctail (ne_ctail (ne_ctail g3)))))))) | exact ne_chead (ne_ctail (ne_ctail (ne_ctail (ne_ctail (ne_ctail (ne_ctail (ne_ctail (ne_ctail (ne_ctail g3))))))))) | exact ne_chead (ne_ctail (ne_ctail (ne_ctail (ne_ctail (ne_ctail (ne_ctail (ne_ctail (ne_ctail (ne_ctail (ne_ctail g3)))))))))))) ?_ | refine cont_stepR (by first | with_reducible exact g3 | ((repeat (refine cont_cons (by first | assumption | with_reducible (first | exact ne_head g2 | exact ne_head (ne_tail g2) | exact ne_head (ne_tail (ne_tail g2)) | exact ne_head (ne_tail (ne_tail (ne_tail g2))) | exact ne_head (ne_tail (ne_tail (ne_tail (ne_tail g2)))) | exact ne_chead g3 | exact ne_chead (ne_ctail g3) | exact ne_chead (ne_ctail (ne_ctail g3)) | exact ne_chead (ne_ctail (ne_ctail (ne_ctail g3))) | exact ne_chead (ne_ctail (ne_ctail (ne_ctail (ne_ctail g3)))) | exact ne_chead (ne_ctail (ne_ctail (ne_ctail (ne_ctail (ne_ctail g3))))) | exact ne_chead (ne_ctail (ne_ctail (ne_ctail (ne_ctail (ne_ctail (ne_ctail g3)))))) | exact ne_chead (ne_ctail (ne_ctail (ne_ctail (ne_ctail (ne_ctail (ne_ctail (ne_ctail g3))))))) | exact ne_chead (ne_ctail (ne_ctail (ne_ctail (ne_ctail (ne_ctail (ne_ctail (ne_ctail (ne_ctail g3)))))))) | exact ne_chead (ne_ctail (ne_ctail (ne_ctail (ne_ctail (ne_ctail (ne_ctail (ne_ctail (ne_ctail (ne_ctail g3))))))))) | exact ne_chead (ne_ctail (ne_ctail (ne_ctail (ne_ctail (ne_ctail (ne_ctail (ne_ctail (ne_ctail (ne_ctail (ne_ctail g3)))))))))))) ?_)); exact cont_nil)) ?_))
          case ap =>
            intro p hp
            have hp := parts0 hp
            simp only [qsL, List.map_cons, List.map_nil, List.cons_append, List.nil_append] at hp
            ((apply all_at hp); (try clear hp); (repeat' (refine all_cons ?_ ?_)); all_goals (try intro p hp))
            all_goals first
              | exact APi p hp
              | (refine ⟨?_, ?_, ?_⟩ <;> ((try simp only [QE.o, BE.o]); (first | exact ad_ne | omega)))
          case mu =>
            show (qw (init ++ [])).toNat < (qw (init ++ [e])).toNat
            exact toNat_down GQ GS.2
        · rename News _ _ _ _ => N7
          have q1 := R.best.a
          have q2 := R.best.d
          have q3 := R.best.c
          have GS := gp_step (add := []) G R (by assumption) ⟨x, dx, bi, bj, bk, ti, tj, t3⟩ ⟨rfl, rfl, rfl⟩ (by
            intro y hy
            exact absurd hy List.not_mem_nil) (by simp only [qw]; (first | exact ad_ne | omega))
          have GQ := qw_pos GS.1.q
          refine of_post hPW ?_
          refine' wl_out ⟨init ++ [], bs ++ [⟨x, dx, bi, bj, bk, ti, tj, t3⟩], nq + 1, nb' + 1⟩ (by k_asm) N7 ?hn ?hk ?hr ⟨⟨GS.1, ?ap⟩, ?mu⟩
          case hn =>
            show ∀ p ∈ (M, instObj 242 dM) :: (dM, dictOf (smE H T (.ref la) (.ref lb) .none vop vfb (.ref d2) (.ref jk) vpop) 10) :: (la, W.listOf va.toArray na) :: (lb, W.listOf vb.toArray nb) :: (jk, { cls := .type "set", dict := none, data := .set #[] 0 (.fresh 0 0 led) }) :: (d2, D2) :: (q, W.listOf (qsV (init ++ [])).toArray (nq + 1)) :: (bl, W.listOf (bsV (bs ++ [⟨x, dx, bi, bj, bk, ti, tj, t3⟩])).toArray (nb' + 1)) :: (qsL (init ++ []) ++ (bsL (bs ++ [⟨x, dx, bi, bj, bk, ti, tj, t3⟩]) ++ Lb)), _
            have e1 : qsV (init ++ []) = qsV init := by simp [qsV, QE.v]
            have e2 : bsV (bs ++ [⟨x, dx, bi, bj, bk, ti, tj, t3⟩]) = bsV bs ++ [Value.ref x] := by simp [bsV, BE.v]
            rw [e1, e2]
            (iterate 8 (refine all_cons (by repeat (first | exact List.Mem.head _ | exact memR2 _ (by repeat (first | exact List.Mem.head _ | apply List.Mem.tail)) | apply List.Mem.tail)) ?_))
            intro p hp
            have hp := parts hp
            rw [hRest] at hp
            simp only [qsL, List.map_cons, List.map_nil, List.cons_append, List.nil_append] at hp
            (refine sub_at hp ?_; (first | ((try dsimp only); with_reducible (repeat' (first | exact sub_refl | exact tailR2 | exact sub_nil | refine sub_take ?_ | refine sub_skip ?_)); done) | ((try dsimp only); with_reducible (repeat' (first | exact sub_refl | exact tailR2 | exact sub_nil | exact mem_hd | refine sub_take ?_ | refine sub_put ?_ ?_ | refine mem_tl ?_ | refine sub_skip ?_)); done) | ((try dsimp only); (repeat' (first | exact sub_refl | exact tailR2 | exact sub_nil | exact mem_hd | refine sub_take ?_ | refine sub_put ?_ ?_ | refine mem_tl ?_ | refine sub_skip ?_)); done)))
          case hk => exact all_nil
          case hr =>
            intro z g2 g3; (repeat (first | with_reducible rfl | refine ite_go (by first | assumption | with_reducible (first | exact ne_head g2 | exact ne_head (ne_tail g2) | exact ne_head (ne_tail (ne_tail g2)) | exact ne_head (ne_tail (ne_tail (ne_tail g2))) | exact ne_head (ne_tail (ne_tail (ne_tail (ne_tail g2)))) | exact ne_chead g3 | exact ne_chead (ne_ctail g3) | exact ne_chead (ne_ctail (ne_ctail g3)) | exact ne_chead (ne_ctail (ne_ctail (ne_ctail g3))) | exact ne_chead (ne_ctail (ne_ctail (ne_ctail (ne_ctail g3)))) | exact ne_chead (ne_ctail (ne_ctail (ne_ctail (ne_ctail (ne_ctail g3))))) | exact ne_chead (ne_ctail (ne_ctail (ne_ctail (ne_ctail (ne_ctail (ne_ctail g3)))))) | exact ne_chead (ne_ctail (ne_ctail (ne_ctail (ne_ctail (ne_ctail (ne_ctail (ne_ctail g3))))))) | exact ne_chead (ne_ctail (ne_ctail (ne_ctail (ne_ctail (ne_ctail (ne_ctail (ne_ctail (ne_ctail g3)))))))) | exact ne_chead (ne_ctail (ne_ctail (ne_ctail (ne_ctail (ne_ctail (ne_ctail (ne_ctail (ne_ctail (ne_ctail g3))))))))) | exact ne_chead (ne_ctail (ne_ctail (ne_ctail (ne_ctail (ne_ctail (ne_ctail (ne_ctail (ne_ctail (ne_ctail (ne_ctail g3)))))))))))) ?_ | refine cont_step (by first | with_reducible exact g3 | ((repeat (refine cont_cons (by first | assumption | with_reducible (first | exact ne_head g2 | exact ne_head (ne_tail g2) | exact ne_head (ne_tail (ne_tail g2)) | exact ne_head (ne_tail (ne_tail (ne_tail g2))) | exact ne_head (ne_tail (ne_tail (ne_tail (ne_tail g2)))) | exact ne_chead g3 | exact ne_chead (ne_ctail g3) | exact ne_chead (ne_ctail (ne_ctail g3)) | exact ne_chead (ne_ctail (ne_ctail (ne_ctail g3))) | exact ne_chead (ne_ctail (ne_ctail (ne_ctail (ne_ctail g3)))) | exact ne_chead (ne_ctail (ne_ctail (ne_ctail (ne_ctail (ne_ctail g3))))) | exact ne_chead (ne_ctail (ne_ctail (ne_ctail (ne_ctail (ne_ctail (ne_ctail g3)))))) | exact ne_chead (ne_ctail (ne_ctail (ne_ctail (ne_ctail (ne_ctail (ne_ctail (ne_ctail g3))))))) | exact ne_chead (ne_ctail (ne_ctail (ne_ctail (ne_ctail (ne_ctail (ne_ctail (ne_ctail (ne_ctail g3)))))))) | exact ne_chead (ne_ctail (ne_ctail (ne_ctail (ne_ctail (ne_ctail (ne_ctail (ne_ctail (ne_ctail (ne_ctail g3))))))))) | exact ne_chead (ne_ctail (ne_ctail (ne_ctail (ne_ctail (ne_ctail (ne_ctail (ne_ctail (ne_ctail (ne_ctail (ne_ctail g3)))))))))))) ?_)); exact cont_nil)) ?_ | refine ite_goR (by first | assumption | with_reducible (first | exact ne_head g2 | exact ne_head (ne_tail g2) | exact ne_head (ne_tail (ne_tail g2)) | exact ne_head (ne_tail (ne_tail (ne_tail g2))) | exact ne_head (ne_tail (ne_tail (ne_tail (ne_tail g2)))) | exact ne_chead g3 | exact ne_chead (ne_ctail g3) | exact ne_chead (ne_ctail (ne_ctail g3)) | exact ne_chead (ne_ctail (ne_ctail (ne_ctail g3))) | exact ne_chead (ne_ctail (ne_ctail (ne_ctail (ne_ctail g3)))) | exact ne_chead (ne_ctail (ne_ctail (ne_ctail (ne_ctail (ne_ctail g3))))) | exact ne_chead (ne_ctail (ne_ctail (ne_ctail (ne_ctail (ne_ctail (ne_ctail g3)))))) | exact ne_chead (ne_ctail (ne_ctail (ne_ctail (ne_ctail (ne_ctail (ne_ctail (ne_ctail g3))))))) | exact ne_chead (ne_ctail (ne_ctail (ne_ctail (ne_ctail (ne_ctail (ne_ctail (ne_ctail (ne_ctail g3)))))))) | exact ne_chead (ne_ctail (ne_ctail (ne_ctail (ne_ctail (ne_ctail (ne_ctail (ne_ctail (ne_ctail (ne_ctail g3))))))))) | exact ne_chead (ne_ctail (ne_ctail (ne_ctail (ne_ctail (ne_ctail (ne_ctail (ne_ctail (ne_ctail (ne_ctail (ne_ctail g3)))))))))))) ?_ | refine cont_stepR (by first | with_reducible exact g3 | ((repeat (refine cont_cons (by first | assumption | with_reducible (first | exact ne_head g2 | exact ne_head (ne_tail g2) | exact ne_head (ne_tail (ne_tail g2)) | exact ne_head (ne_tail (ne_tail (ne_tail g2))) | exact ne_head (ne_tail (ne_tail (ne_tail (ne_tail g2)))) | exact ne_chead g3 | exact ne_chead (ne_ctail g3) | exact ne_chead (ne_ctail (ne_ctail g3)) | exact ne_chead (ne_ctail (ne_ctail (ne_ctail g3))) | exact ne_chead (ne_ctail (ne_ctail (ne_ctail (ne_ctail g3)))) | exact ne_chead (ne_ctail (ne_ctail (ne_ctail (ne_ctail (ne_ctail g3))))) | exact ne_chead (ne_ctail (ne_ctail (ne_ctail (ne_ctail (ne_ctail (ne_ctail g3)))))) | exact ne_chead (ne_ctail (ne_ctail (ne_ctail (ne_ctail (ne_ctail (ne_ctail (ne_ctail g3))))))) | exact ne_chead (ne_ctail (ne_ctail (ne_ctail (ne_ctail (ne_ctail (ne_ctail (ne_ctail (ne_ctail g3)))))))) | exact ne_chead (ne_ctail (ne_ctail (ne_ctail (ne_ctail (ne_ctail (ne_ctail (ne_ctail (ne_ctail (ne_ctail g3))))))))) | exact ne_chead (ne_ctail (ne_ctail (ne_ctail (ne_ctail (ne_ctail (ne_ctail (ne_ctail (ne_ctail (ne_ctail (ne_ctail g3)))))))))))) ?_)); exact cont_nil)) ?_))
          case ap =>
            intro p hp
            have hp := parts0 hp
            simp only [qsL, List.map_cons, List.map_nil, List.cons_append, List.nil_append] at hp
            ((apply all_at hp); (try clear hp); (repeat' (refine all_cons ?_ ?_)); all_goals (try intro p hp))
            all_goals first
              | exact APi p hp
              | (refine ⟨?_, ?_, ?_⟩ <;> ((try simp only [QE.o, BE.o]); (first | exact ad_ne | omega)))
          case mu =>
            show (qw (init ++ [])).toNat < (qw (init ++ [e])).toNat
            exact toNat_down GQ GS.2
      · rename News _ _ _ _ => N5
        refine of_post hPW ?_; subst hR2
        refine' wl_out ⟨init, bs, nq + 1, nb'⟩ (by k_asm) N5 ?hn ?hk ?hr ⟨⟨gp_zero G R (by assumption), ?ap⟩, ?mu⟩
        case hn =>
          show ∀ p ∈ (M, instObj 242 dM) :: (dM, dictOf (smE H T (.ref la) (.ref lb) .none vop vfb (.ref d2) (.ref jk) vpop) 10) :: (la, W.listOf va.toArray na) :: (lb, W.listOf vb.toArray nb) :: (jk, { cls := .type "set", dict := none, data := .set #[] 0 (.fresh 0 0 led) }) :: (d2, D2) :: (q, W.listOf (qsV init).toArray (nq + 1)) :: (bl, W.listOf (bsV bs).toArray nb') :: (qsL init ++ (bsL bs ++ Lb)), _
          rw [hRest]
          (first | ((try dsimp only); with_reducible (repeat' (first | exact sub_refl | exact sub_nil | refine sub_take ?_ | refine sub_skip ?_)); done) | ((try dsimp only); with_reducible (repeat' (first | exact sub_refl | exact sub_nil | exact mem_hd | refine sub_take ?_ | refine sub_put ?_ ?_ | refine mem_tl ?_ | refine sub_skip ?_)); done) | ((try dsimp only); (repeat' (first | exact sub_refl | exact sub_nil | exact mem_hd | refine sub_take ?_ | refine sub_put ?_ ?_ | refine mem_tl ?_ | refine sub_skip ?_)); done))
        case hk => exact all_nil
        case hr =>
          intro z g2 g3; (repeat (first | with_reducible rfl | refine ite_go (by first | assumption | with_reducible (first | exact ne_head g2 | exact ne_head (ne_tail g2) | exact ne_head (ne_tail (ne_tail g2)) | exact ne_head (ne_tail (ne_tail (ne_tail g2))) | exact ne_head (ne_tail (ne_tail (ne_tail (ne_tail g2)))) | exact ne_chead g3 | exact ne_chead (ne_ctail g3) | exact ne_chead (ne_ctail (ne_ctail g3)) | exact ne_chead (ne_ctail (ne_ctail (ne_ctail g3))) | exact ne_chead (ne_ctail (ne_ctail (ne_ctail (ne_ctail g3)))) | exact ne_chead (ne_ctail (ne_ctail (ne_ctail (ne_ctail (ne_ctail g3))))) | exact ne_chead (ne_ctail (ne_ctail (ne_ctail (ne_ctail (ne_ctail (ne_ctail g3)))))) | exact ne_chead (ne_ctail (ne_ctail (ne_ctail (ne_ctail (ne_ctail (ne_ctail (ne_ctail g3))))))) | exact ne_chead (ne_ctail (ne_ctail (ne_ctail (ne_ctail (ne_ctail (ne_ctail (ne_ctail (ne_ctail g3)))))))) | exact ne_chead (ne_ctail (ne_ctail (ne_ctail (ne_ctail (ne_ctail (ne_ctail (ne_ctail (ne_ctail (ne_ctail g3))))))))) | exact ne_chead (ne_ctail (ne_ctail (ne_ctail (ne_ctail (ne_ctail (ne_ctail (ne_ctail (ne_ctail (ne_ctail (ne_ctail g3)))))))))))) ?_ | refine cont_step (by first | with_reducible exact g3 | ((repeat (refine cont_cons (by first | assumption | with_reducible (first | exact ne_head g2 | exact ne_head (ne_tail g2) | exact ne_head (ne_tail (ne_tail g2)) | exact ne_head (ne_tail (ne_tail (ne_tail g2))) | exact ne_head (ne_tail (ne_tail (ne_tail (ne_tail g2)))) | exact ne_chead g3 | exact ne_chead (ne_ctail g3) | exact ne_chead (ne_ctail (ne_ctail g3)) | exact ne_chead (ne_ctail (ne_ctail (ne_ctail g3))) | exact ne_chead (ne_ctail (ne_ctail (ne_ctail (ne_ctail g3)))) | exact ne_chead (ne_ctail (ne_ctail (ne_ctail (ne_ctail (ne_ctail g3))))) | exact ne_chead (ne_ctail (ne_ctail (ne_ctail (ne_ctail (ne_ctail (ne_ctail g3)))))) | exact ne_chead (ne_ctail (ne_ctail (ne_ctail (ne_ctail (ne_ctail (ne_ctail (ne_ctail g3))))))) | exact ne_chead (ne_ctail (ne_ctail (ne_ctail (ne_ctail (ne_ctail (ne_ctail (ne_ctail (ne_ctail g3)))))))) | exact ne_chead (ne_ctail (ne_ctail (ne_ctail (ne_ctail (ne_ctail (ne_ctail (ne_ctail (ne_ctail (ne_ctail g3))))))))) | exact ne_chead (ne_ctail (ne_ctail (ne_ctail (ne_ctail (ne_ctail (ne_ctail (ne_ctail (ne_ctail (ne_ctail (ne_ctail g3)))))))))))) ?_)); exact cont_nil)) ?_ | refine ite_goR (by first | assumption | with_reducible (first | exact ne_head g2 | exact ne_head (ne_tail g2) | exact ne_head (ne_tail (ne_tail g2)) | exact ne_head (ne_tail (ne_tail (ne_tail g2))) | exact ne_head (ne_tail (ne_tail (ne_tail (ne_tail g2)))) | exact ne_chead g3 | exact ne_chead (ne_ctail g3) | exact ne_chead (ne_ctail (ne_ctail g3)) | exact ne_chead (ne_ctail (ne_ctail (ne_ctail g3))) | exact ne_chead (ne_ctail (ne_ctail (ne_ctail (ne_ctail g3)))) | exact ne_chead (ne_ctail (ne_ctail (ne_ctail (ne_ctail (ne_ctail g3))))) | exact ne_chead (ne_ctail (ne_ctail (ne_ctail (ne_ctail (ne_ctail (ne_ctail g3)))))) | exact ne_chead (ne_ctail (ne_ctail (ne_ctail (ne_ctail (ne_ctail (ne_ctail (ne_ctail g3))))))) | exact ne_chead (ne_ctail (ne_ctail (ne_ctail (ne_ctail (ne_ctail (ne_ctail (ne_ctail (ne_ctail g3)))))))) | exact ne_chead (ne_ctail (ne_ctail (ne_ctail (ne_ctail (ne_ctail (ne_ctail (ne_ctail (ne_ctail (ne_ctail g3))))))))) | exact ne_chead (ne_ctail (ne_ctail (ne_ctail (ne_ctail (ne_ctail (ne_ctail (ne_ctail (ne_ctail (ne_ctail (ne_ctail g3)))))))))))) ?_ | refine cont_stepR (by first | with_reducible exact g3 | ((repeat (refine cont_cons (by first | assumption | with_reducible (first | exact ne_head g2 | exact ne_head (ne_tail g2) | exact ne_head (ne_tail (ne_tail g2)) | exact ne_head (ne_tail (ne_tail (ne_tail g2))) | exact ne_head (ne_tail (ne_tail (ne_tail (ne_tail g2)))) | exact ne_chead g3 | exact ne_chead (ne_ctail g3) | exact ne_chead (ne_ctail (ne_ctail g3)) | exact ne_chead (ne_ctail (ne_ctail (ne_ctail g3))) | exact ne_chead (ne_ctail (ne_ctail (ne_ctail (ne_ctail g3)))) | exact ne_chead (ne_ctail (ne_ctail (ne_ctail (ne_ctail (ne_ctail g3))))) | exact ne_chead (ne_ctail (ne_ctail (ne_ctail (ne_ctail (ne_ctail (ne_ctail g3)))))) | exact ne_chead (ne_ctail (ne_ctail (ne_ctail (ne_ctail (ne_ctail (ne_ctail (ne_ctail g3))))))) | exact ne_chead (ne_ctail (ne_ctail (ne_ctail (ne_ctail (ne_ctail (ne_ctail (ne_ctail (ne_ctail g3)))))))) | exact ne_chead (ne_ctail (ne_ctail (ne_ctail (ne_ctail (ne_ctail (ne_ctail (ne_ctail (ne_ctail (ne_ctail g3))))))))) | exact ne_chead (ne_ctail (ne_ctail (ne_ctail (ne_ctail (ne_ctail (ne_ctail (ne_ctail (ne_ctail (ne_ctail (ne_ctail g3)))))))))))) ?_)); exact cont_nil)) ?_))
        case ap =>
          intro p hp
          refine AP p ?_
          rcases List.mem_append.mp hp with hp | hp
          · exact List.mem_append_left _ (by simp only [qsL, List.map_append]; exact List.mem_append_left _ hp)
          · exact List.mem_append_right _ hp
        case mu =>
          have g1 := gp_drop G
          have g2 := qw_pos (gp_zero G R (by assumption)).q
          exact toNat_down g2 g1
  case dn =>
    intro cT u1 h1 tk1 hPc hD F1 N1
    obtain ⟨qs, bs, nq, nb'⟩ := cT
    obtain ⟨G, AP⟩ := hPc
    dsimp only [kstB] at F1 ⊢
    dsimp only at G AP hD
    subst hD
    simp only [show qsL [] = ([] : List (Addr × Obj)) from rfl, List.nil_append] at N1 AP
    have blen := G.len.2
    have apb : ∀ p ∈ bsL bs ++ Lb, @Ne Nat p.1 bl := fun p hp => by
      rcases List.mem_append.mp hp with hp | hp
      · exact (AP p hp).2.1
      · have := z9 p hp; (first | exact ad_ne | omega)
    k_steps
    refine sort_tups (C := 135) (pre := [_, _, _, _, _, _, _]) (by k_asm) N1 (by k_asm) (by kernel_rfl) (by intro p hp; ((apply all_at hp); (try clear hp); (repeat' (refine all_cons ?_ ?_)); all_goals (try intro p hp)); all_goals (first | exact absurd hp List.not_mem_nil | (show @Ne Nat _ bl; exact ad_ne))) apb (by simp only [bsV, List.length_map]; (first | exact ad_ne | omega)) (by exact off_lt (m := 4) hu rfl) ?hv fun h2 c9 out hlen hout F2 N2 => ?_
    case hv =>
      intro v hv
      obtain ⟨b, hb9, rfl⟩ := List.mem_map.mp hv
      exact ⟨b.x, _, [.int b.i b.ti, .int b.j b.tj, .int b.k b.tk], [b.i, b.j, b.k], 0, rfl, List.mem_append_right _ (List.mem_append_left _ (bsL_mem hb9)), rfl, rfl, .cons _ _ (.cons _ _ (.cons _ _ .nil))⟩
    simp only [List.nil_append, List.cons_append] at N2
    clear N1
    k_steps
    rename_i na9 k11 l9 k12 F9' N9'
    have w1 : @LT.lt Nat _ bl na9 := l9.2.2.2.2.2.2.2.1
    have w2 : @LT.lt Nat _ q na9 := l9.2.2.2.2.2.2.1
    have w3 : ∀ p ∈ bsL bs ++ Lb, @LT.lt Nat _ p.1 na9 := allLt_mem l9.2.2.2.2.2.2.2.2
    refine hide7 (x1 := Str.ofString "self") (x2 := Str.ofString "la") (x3 := Str.ofString "lb") (x4 := Str.ofString "non_adjacent") (x5 := Str.ofString "i1") (x6 := Str.ofString "j1") (x7 := Str.ofString "k1") F9' (by first | rfl | assumption) (by first | rfl | assumption) (by first | rfl | assumption) (by first | rfl | assumption) (by first | rfl | assumption) (by first | rfl | assumption) (by first | rfl | assumption) fun mP F9p fb1 fb2 fb3 fb4 fb5 fb6 fb7 => ?_
    refine lv_listT (σ := NS) (vs := out) (n := c9) (fun c => (M, instObj 242 dM) :: (dM, dictOf (smE H T (.ref la) (.ref lb) .none vop vfb (.ref d2) (.ref jk) vpop) 10) :: (la, W.listOf va.toArray na) :: (lb, W.listOf vb.toArray nb) :: (jk, { cls := .type "set", dict := none, data := .set #[] 0 (.fresh 0 0 led) }) :: (d2, D2) :: (q, W.listOf (qsV []).toArray nq) :: (bl, W.listOf out.toArray c9) :: (na9, W.listOf (tsV c.ts).toArray c.nn) :: (tsL c.ts ++ (bsL bs ++ Lb))) (fun c => [(Str.ofString "i1", .int c.i c.ti), (Str.ofString "j1", .int c.j c.tj), (Str.ofString "k1", .int c.k c.tk)]) [Str.ofString "i2", Str.ofString "j2", Str.ofString "k2"]
      (fun p c => JP xa xb p c.i c.j c.k c.ts ∧ ∀ p ∈ tsL c.ts, @LT.lt Nat _ na9 p.1 ∧ @LT.lt Nat _ dM p.1) ⟨0, 0, 0, tk1, tk1, tk1, [], 0⟩ rfl ?hl F9p ?kN ?kk ⟨jp_start, fun p hp => absurd hp List.not_mem_nil⟩ ?hc ?tu ?dn
    case hl => intro i c _; exact .tail _ (.tail _ (.tail _ (.tail _ (.tail _ (.tail _ (.tail _ (.head _)))))))
    case kN =>
      refine fun p hp => N9' p ?_
      revert p
      show ∀ p ∈ (M, instObj 242 dM) :: (dM, dictOf (smE H T (.ref la) (.ref lb) .none vop vfb (.ref d2) (.ref jk) vpop) 10) :: (la, W.listOf va.toArray na) :: (lb, W.listOf vb.toArray nb) :: (jk, { cls := .type "set", dict := none, data := .set #[] 0 (.fresh 0 0 led) }) :: (d2, D2) :: (q, W.listOf (qsV []).toArray nq) :: (bl, W.listOf out.toArray c9) :: (na9, W.listOf #[] 0) :: (bsL bs ++ Lb), _
      (first | ((try dsimp only); with_reducible (repeat' (first | exact sub_refl | exact sub_nil | refine sub_take ?_ | refine sub_skip ?_)); done) | ((try dsimp only); with_reducible (repeat' (first | exact sub_refl | exact sub_nil | exact mem_hd | refine sub_take ?_ | refine sub_put ?_ ?_ | refine mem_tl ?_ | refine sub_skip ?_)); done) | ((try dsimp only); (repeat' (first | exact sub_refl | exact sub_nil | exact mem_hd | refine sub_take ?_ | refine sub_put ?_ ?_ | refine mem_tl ?_ | refine sub_skip ?_)); done))
    case kk => (repeat' (refine all_cons ?_ ?_)); all_goals (first | exact all_nil | rfl | assumption)
    case hc =>
      intro i c _ p hp
      ((apply all_at hp); (try clear hp); (iterate 8 (refine all_cons (by exact .inr (by (repeat (first | exact List.Mem.head _ | apply List.Mem.tail)))) ?_)); intro p hp)
      rcases List.mem_cons.mp hp with rfl | hp
      · exact .inl (by show Value.type "list" ≠ .type "list_iterator"; intro h; injection h with h; revert h; decide)
      · rcases List.mem_append.mp hp with h | h
        · obtain ⟨e, _, rfl⟩ := List.mem_map.mp h
          exact .inl (by show Value.type "tuple" ≠ .type "list_iterator"; intro h; injection h with h; revert h; decide)
        · exact .inr (.tail _ (.tail _ (.tail _ (.tail _ (.tail _ (.tail _ (.tail _ (.tail _ (.tail _ (List.mem_append_right _ h))))))))))
    case tu =>
      rintro I ix ⟨ci, cj, ck, ui, uj, uk, ts, nn⟩ x u3 h3 tk3 io hI hio hx ⟨J, AP2⟩ F3 N3
      dsimp only [kstB] at F3 ⊢
      dsimp only at J AP2
      have wI : @LT.lt Nat _ na9 I := hI (na9, _) (.tail _ (.tail _ (.tail _ (.tail _ (.tail _ (.tail _ (.tail _ (.tail _ (.head _)))))))))
      have hxo : x ∈ out := List.mem_of_getElem? hx
      obtain ⟨b, hb9, rfl⟩ := List.mem_map.mp (hout x hxo)
      have hix : ix < out.length := (List.getElem?_eq_some_iff.mp hx).1
      have NX : Nxt xa xb ix b.i b.j b.k := ⟨(G.b b hb9).1, (G.b b hb9).2, fun FX => by
        rcases G.f FX with ⟨_, e, he, _⟩ | ⟨_, e, he, h5, h6, h7⟩
        · cases he
        · subst he
          have hbe : b = e := List.mem_singleton.mp hb9
          subst hbe
          have : out.length = 1 := hlen
          exact ⟨by (first | exact ad_ne | omega), h5, h6, h7⟩⟩
      have tlen : (tsV ts).length ≤ 900 := by have := J.n; simp only [tsV, List.length_map] at this ⊢; have := G.len.2; have : out.length = bs.length := by rw [hlen]; simp [bsV]
                                              (first | exact ad_ne | omega)
      have N4 : News g' L' h3 ((b.x, matchO b.dx [.int b.i b.ti, .int b.j b.tj, .int b.k b.tk]) :: (I, io) :: (M, instObj 242 dM) :: (dM, dictOf (smE H T (.ref la) (.ref lb) .none vop vfb (.ref d2) (.ref jk) vpop) 10) :: (la, W.listOf va.toArray na) :: (lb, W.listOf vb.toArray nb) :: (jk, { cls := .type "set", dict := none, data := .set #[] 0 (.fresh 0 0 led) }) :: (d2, D2) :: (q, W.listOf (qsV []).toArray nq) :: (bl, W.listOf out.toArray c9) :: (na9, W.listOf (tsV ts).toArray nn) :: (tsL ts ++ (bsL bs ++ Lb))) := fun p hp => by
        rcases List.mem_cons.mp hp with rfl | hp
        · exact N3 _ (by (iterate 10 apply List.Mem.tail); exact List.mem_append_right _ (List.mem_append_left _ (bsL_mem hb9)))
        · exact N3 p hp
      have rs9 : ∀ p ∈ tsL ts ++ (bsL bs ++ Lb), @Ne Nat p.1 na9 := fun p hp => by
        rcases List.mem_append.mp hp with h | h
        · exact Nat.ne_of_gt (AP2 p h).1
        · exact Nat.ne_of_lt (w3 p h)
      have bx9 : @LT.lt Nat _ b.x na9 := w3 (b.x, _) (List.mem_append_left _ (bsL_mem hb9))
      clear N3
      generalize hRest : tsL ts ++ (bsL bs ++ Lb) = Rest at N4 rs9
      show wpAny _ _ (assign _ _ (Value.ref b.x)) _ _ _
      k_steps
      · rename News _ _ _ _ => N7
        refine' en_end (.inl rfl) ⟨ci, cj, ck + b.k, ui, uj, _, ts, nn⟩ (by k_asm) N7 ?hn ?hi ?hk ?hr ⟨jp_join J NX (by assumption) (by assumption), ?ap⟩
        case hn =>
          show ∀ p ∈ (M, instObj 242 dM) :: (dM, dictOf (smE H T (.ref la) (.ref lb) .none vop vfb (.ref d2) (.ref jk) vpop) 10) :: (la, W.listOf va.toArray na) :: (lb, W.listOf vb.toArray nb) :: (jk, { cls := .type "set", dict := none, data := .set #[] 0 (.fresh 0 0 led) }) :: (d2, D2) :: (q, W.listOf (qsV []).toArray nq) :: (bl, W.listOf out.toArray c9) :: (na9, W.listOf (tsV ts).toArray nn) :: (tsL ts ++ (bsL bs ++ Lb)), _
          rw [hRest]
          (first | ((try dsimp only); with_reducible (repeat' (first | exact sub_refl | exact sub_nil | refine sub_take ?_ | refine sub_skip ?_)); done) | ((try dsimp only); with_reducible (repeat' (first | exact sub_refl | exact sub_nil | exact mem_hd | refine sub_take ?_ | refine sub_put ?_ ?_ | refine mem_tl ?_ | refine sub_skip ?_)); done) | ((try dsimp only); (repeat' (first | exact sub_refl | exact sub_nil | exact mem_hd | refine sub_take ?_ | refine sub_put ?_ ?_ | refine mem_tl ?_ | refine sub_skip ?_)); done))
        case hi => intro p hp; rw [List.mem_singleton.mp hp]; (repeat (first | exact List.Mem.head _ | apply List.Mem.tail))
        case hk => (repeat' (refine all_cons ?_ ?_)); all_goals (first | exact all_nil | rfl | assumption)
        case hr =>
          intro z g2 g3; (repeat (first | with_reducible rfl | refine ite_go (by first | assumption | with_reducible (first | exact ne_head g2 | exact ne_head (ne_tail g2) | exact ne_head (ne_tail (ne_tail g2)) | exact ne_head (ne_tail (ne_tail (ne_tail g2))) | exact ne_head (ne_tail (ne_tail (ne_tail (ne_tail g2)))) | exact ne_chead g3 | exact ne_chead (ne_ctail g3) | exact ne_chead (ne_ctail (ne_ctail g3)) | exact ne_chead (ne_ctail (ne_ctail (ne_ctail g3))) | exact ne_chead (ne_ctail (ne_ctail (ne_ctail (ne_ctail g3)))) | exact ne_chead (ne_ctail (ne_ctail (ne_ctail (ne_ctail (ne_ctail g3))))) | exact ne_chead (ne_ctail (ne_ctail (ne_ctail (ne_ctail (ne_ctail (ne_ctail g3)))))) | exact ne_chead (ne_ctail (ne_ctail (ne_ctail (ne_ctail (ne_ctail (ne_ctail (ne_ctail g3))))))) | exact ne_chead (ne_ctail (ne_ctail (ne_ctail (ne_ctail (ne_ctail (ne_ctail (ne_ctail (ne_ctail g3)))))))) | exact ne_chead (ne_ctail (ne_ctail (ne_ctail (ne_ctail (ne_ctail (ne_ctail (ne_ctail (ne_ctail (ne_ctail g3))))))))) | exact ne_chead (ne_ctail (ne_ctail (ne_ctail (ne_ctail (ne_ctail (ne_ctail (ne_ctail (ne_ctail (ne_ctail (ne_ctail g3)))))))))))) ?_ | refine cont_step (by first | with_reducible exact g3 | ((repeat (refine cont_cons (by first | assumption | with_reducible (first | exact ne_head g2 | exact ne_head (ne_tail g2) | exact ne_head (ne_tail (ne_tail g2)) | exact ne_head (ne_tail (ne_tail (ne_tail g2))) | exact ne_head (ne_tail (ne_tail (ne_tail (ne_tail g2)))) | exact ne_chead g3 | exact ne_chead (ne_ctail g3) | exact ne_chead (ne_ctail (ne_ctail g3)) | exact ne_chead (ne_ctail (ne_ctail (ne_ctail g3))) | exact ne_chead (ne_ctail (ne_ctail (ne_ctail (ne_ctail g3)))) | exact ne_chead (ne_ctail (ne_ctail (ne_ctail (ne_ctail (ne_ctail g3))))) | exact ne_chead (ne_ctail (ne_ctail (ne_ctail (ne_ctail (ne_ctail (ne_ctail g3)))))) | exact ne_chead (ne_ctail (ne_ctail (ne_ctail (ne_ctail (ne_ctail (ne_ctail (ne_ctail g3))))))) | exact ne_chead (ne_ctail (ne_ctail (ne_ctail (ne_ctail (ne_ctail (ne_ctail (ne_ctail (ne_ctail g3)))))))) | exact ne_chead (ne_ctail (ne_ctail (ne_ctail (ne_ctail (ne_ctail (ne_ctail (ne_ctail (ne_ctail (ne_ctail g3))))))))) | exact ne_chead (ne_ctail (ne_ctail (ne_ctail (ne_ctail (ne_ctail (ne_ctail (ne_ctail (ne_ctail (ne_ctail (ne_ctail g3)))))))))))) ?_)); exact cont_nil)) ?_ | refine ite_goR (by first | assumption | with_reducible (first | exact ne_head g2 | exact ne_head (ne_tail g2) | exact ne_head (ne_tail (ne_tail g2)) | exact ne_head (ne_tail (ne_tail (ne_tail g2))) | exact ne_head (ne_tail (ne_tail (ne_tail (ne_tail g2)))) | exact ne_chead g3 | exact ne_chead (ne_ctail g3) | exact ne_chead (ne_ctail (ne_ctail g3)) | exact ne_chead (ne_ctail (ne_ctail (ne_ctail g3))) | exact ne_chead (ne_ctail (ne_ctail (ne_ctail (ne_ctail g3)))) | exact ne_chead (ne_ctail (ne_ctail (ne_ctail (ne_ctail (ne_ctail g3))))) | exact ne_chead (ne_ctail (ne_ctail (ne_ctail (ne_ctail (ne_ctail (ne_ctail g3)))))) | exact ne_chead (ne_ctail (ne_ctail (ne_ctail (ne_ctail (ne_ctail (ne_ctail (ne_ctail g3))))))) | exact ne_chead (ne_ctail (ne_ctail (ne_ctail (ne_ctail (ne_ctail (ne_ctail (ne_ctail (ne_ctail g3)))))))) | exact ne_chead (ne_ctail (ne_ctail (ne_ctail (ne_ctail (ne_ctail (ne_ctail (ne_ctail (ne_ctail (ne_ctail g3))))))))) | exact ne_chead (ne_ctail (ne_ctail (ne_ctail (ne_ctail (ne_ctail (ne_ctail (ne_ctail (ne_ctail (ne_ctail (ne_ctail g3)))))))))))) ?_ | refine cont_stepR (by first | with_reducible exact g3 | ((repeat (refine cont_cons (by first | assumption | with_reducible (first | exact ne_head g2 | exact ne_head (ne_tail g2) | exact ne_head (ne_tail (ne_tail g2)) | exact ne_head (ne_tail (ne_tail (ne_tail g2))) | exact ne_head (ne_tail (ne_tail (ne_tail (ne_tail g2)))) | exact ne_chead g3 | exact ne_chead (ne_ctail g3) | exact ne_chead (ne_ctail (ne_ctail g3)) | exact ne_chead (ne_ctail (ne_ctail (ne_ctail g3))) | exact ne_chead (ne_ctail (ne_ctail (ne_ctail (ne_ctail g3)))) | exact ne_chead (ne_ctail (ne_ctail (ne_ctail (ne_ctail (ne_ctail g3))))) | exact ne_chead (ne_ctail (ne_ctail (ne_ctail (ne_ctail (ne_ctail (ne_ctail g3)))))) | exact ne_chead (ne_ctail (ne_ctail (ne_ctail (ne_ctail (ne_ctail (ne_ctail (ne_ctail g3))))))) | exact ne_chead (ne_ctail (ne_ctail (ne_ctail (ne_ctail (ne_ctail (ne_ctail (ne_ctail (ne_ctail g3)))))))) | exact ne_chead (ne_ctail (ne_ctail (ne_ctail (ne_ctail (ne_ctail (ne_ctail (ne_ctail (ne_ctail (ne_ctail g3))))))))) | exact ne_chead (ne_ctail (ne_ctail (ne_ctail (ne_ctail (ne_ctail (ne_ctail (ne_ctail (ne_ctail (ne_ctail (ne_ctail g3)))))))))))) ?_)); exact cont_nil)) ?_))
        case ap =>
          intro p hp
          exact AP2 p hp
      · have hne : ¬ (ci + ck = b.i ∧ cj + ck = b.j) := (fun z => by first | exact absurd z.1 (by assumption) | exact absurd z.2 (by assumption) | omega)
        have hck : ck ≠ 0 := by assumption
        rename_i D5 k5 F5 N5 lD5
        have w5 : @LT.lt Nat _ na9 D5 := lD5.2.2.2.2.2.2.2.2.2.2.1
        refine append_vs (pre := [_, _, _, _, _, _, _, _, _, _, _]) (us := tsV ts) (by k_asm) N5 (by intro p hp; ((apply all_at hp); (try clear hp); (repeat' (refine all_cons ?_ ?_)); all_goals (try intro p hp)); all_goals (first | exact absurd hp List.not_mem_nil | exact rs9 p hp | (show @Ne Nat _ na9; first | exact ad_ne | exact et_na9 | exact (Ne.symm (by assumption))))) (by intro p hp; ((apply all_at hp); (try clear hp); (repeat' (refine all_cons ?_ ?_)); all_goals (try intro p hp)); all_goals (first | exact absurd hp List.not_mem_nil | exact rs9 p hp | (show @Ne Nat _ na9; first | exact ad_ne | exact et_na9 | exact (Ne.symm (by assumption))))) (by (first | exact ad_ne | omega)) fun h7 F7 N7' => ?_
        simp only [List.nil_append, List.cons_append] at N7'
        clear N5 F5
        k_steps
        rename News _ _ _ _ => N7
        refine' en_end (.inl rfl) ⟨b.i, b.j, b.k, b.ti, b.tj, b.tk, (ts ++ [⟨D5, ci, cj, ck, ui, uj, uk⟩]), (nn + 1)⟩ (by k_asm) N7 ?hn ?hi ?hk ?hr ⟨jp_apart J NX hck hne ⟨D5, ci, cj, ck, ui, uj, uk⟩ ⟨rfl, rfl, rfl⟩, ?ap⟩
        case hn =>
          show ∀ p ∈ (M, instObj 242 dM) :: (dM, dictOf (smE H T (.ref la) (.ref lb) .none vop vfb (.ref d2) (.ref jk) vpop) 10) :: (la, W.listOf va.toArray na) :: (lb, W.listOf vb.toArray nb) :: (jk, { cls := .type "set", dict := none, data := .set #[] 0 (.fresh 0 0 led) }) :: (d2, D2) :: (q, W.listOf (qsV []).toArray nq) :: (bl, W.listOf out.toArray c9) :: (na9, W.listOf (tsV (ts ++ [⟨D5, ci, cj, ck, ui, uj, uk⟩])).toArray (nn + 1)) :: (tsL (ts ++ [⟨D5, ci, cj, ck, ui, uj, uk⟩]) ++ (bsL bs ++ Lb)), _
          have e1 : tsV (ts ++ [⟨D5, ci, cj, ck, ui, uj, uk⟩]) = tsV ts ++ [Value.ref D5] := by simp [tsV, TE.v]
          have e2 : tsL (ts ++ [⟨D5, ci, cj, ck, ui, uj, uk⟩]) ++ (bsL bs ++ Lb) = tsL ts ++ (TE.o ⟨D5, ci, cj, ck, ui, uj, uk⟩ :: (bsL bs ++ Lb)) := by simp [tsL]
          rw [e1, e2]
          (iterate 9 (refine all_cons (by (repeat (first | exact List.Mem.head _ | apply List.Mem.tail)); done) ?_))
          intro p hp
          have hp : p ∈ TE.o ⟨D5, ci, cj, ck, ui, uj, uk⟩ :: (tsL ts ++ (bsL bs ++ Lb)) := by
            rcases List.mem_append.mp hp with h | h
            · exact .tail _ (List.mem_append_left _ h)
            · rcases List.mem_cons.mp h with h | h
              · rw [h]; exact .head _
              · exact .tail _ (List.mem_append_right _ h)
          rw [hRest] at hp
          (refine sub_at hp ?_; (first | ((try dsimp only); with_reducible (repeat' (first | exact sub_refl | exact sub_nil | refine sub_take ?_ | refine sub_skip ?_)); done) | ((try dsimp only); with_reducible (repeat' (first | exact sub_refl | exact sub_nil | exact mem_hd | refine sub_take ?_ | refine sub_put ?_ ?_ | refine mem_tl ?_ | refine sub_skip ?_)); done) | ((try dsimp only); (repeat' (first | exact sub_refl | exact sub_nil | exact mem_hd | refine sub_take ?_ | refine sub_put ?_ ?_ | refine mem_tl ?_ | refine sub_skip ?_)); done)))
        case hi => intro p hp; rw [List.mem_singleton.mp hp]; (repeat (first | exact List.Mem.head _ | apply List.Mem.tail))
        case hk => (repeat' (refine all_cons ?_ ?_)); all_goals (first | exact all_nil | rfl | assumption)
        case hr =>
          intro z g2 g3; (repeat (first | with_reducible rfl | refine ite_go (by first | assumption | with_reducible (first | exact ne_head g2 | exact ne_head (ne_tail g2) | exact ne_head (ne_tail (ne_tail g2)) | exact ne_head (ne_tail (ne_tail (ne_tail g2))) | exact ne_head (ne_tail (ne_tail (ne_tail (ne_tail g2)))) | exact ne_chead g3 | exact ne_chead (ne_ctail g3) | exact ne_chead (ne_ctail (ne_ctail g3)) | exact ne_chead (ne_ctail (ne_ctail (ne_ctail g3))) | exact ne_chead (ne_ctail (ne_ctail (ne_ctail (ne_ctail g3)))) | exact ne_chead (ne_ctail (ne_ctail (ne_ctail (ne_ctail (ne_ctail g3))))) | exact ne_chead (ne_ctail (ne_ctail (ne_ctail (ne_ctail (ne_ctail (ne_ctail g3)))))) | exact ne_chead (ne_ctail (ne_ctail (ne_ctail (ne_ctail (ne_ctail (ne_ctail (ne_ctail g3))))))) | exact ne_chead (ne_ctail (ne_ctail (ne_ctail (ne_ctail (ne_ctail (ne_ctail (ne_ctail (ne_ctail g3)))))))) | exact ne_chead (ne_ctail (ne_ctail (ne_ctail (ne_ctail (ne_ctail (ne_ctail (ne_ctail (ne_ctail (ne_ctail g3))))))))) | exact ne_chead (ne_ctail (ne_ctail (ne_ctail (ne_ctail (ne_ctail (ne_ctail (ne_ctail (ne_ctail (ne_ctail (ne_ctail g3)))))))))))) ?_ | refine cont_step (by first | with_reducible exact g3 | ((repeat (refine cont_cons (by first | assumption | with_reducible (first | exact ne_head g2 | exact ne_head (ne_tail g2) | exact ne_head (ne_tail (ne_tail g2)) | exact ne_head (ne_tail (ne_tail (ne_tail g2))) | exact ne_head (ne_tail (ne_tail (ne_tail (ne_tail g2)))) | exact ne_chead g3 | exact ne_chead (ne_ctail g3) | exact ne_chead (ne_ctail (ne_ctail g3)) | exact ne_chead (ne_ctail (ne_ctail (ne_ctail g3))) | exact ne_chead (ne_ctail (ne_ctail (ne_ctail (ne_ctail g3)))) | exact ne_chead (ne_ctail (ne_ctail (ne_ctail (ne_ctail (ne_ctail g3))))) | exact ne_chead (ne_ctail (ne_ctail (ne_ctail (ne_ctail (ne_ctail (ne_ctail g3)))))) | exact ne_chead (ne_ctail (ne_ctail (ne_ctail (ne_ctail (ne_ctail (ne_ctail (ne_ctail g3))))))) | exact ne_chead (ne_ctail (ne_ctail (ne_ctail (ne_ctail (ne_ctail (ne_ctail (ne_ctail (ne_ctail g3)))))))) | exact ne_chead (ne_ctail (ne_ctail (ne_ctail (ne_ctail (ne_ctail (ne_ctail (ne_ctail (ne_ctail (ne_ctail g3))))))))) | exact ne_chead (ne_ctail (ne_ctail (ne_ctail (ne_ctail (ne_ctail (ne_ctail (ne_ctail (ne_ctail (ne_ctail (ne_ctail g3)))))))))))) ?_)); exact cont_nil)) ?_ | refine ite_goR (by first | assumption | with_reducible (first | exact ne_head g2 | exact ne_head (ne_tail g2) | exact ne_head (ne_tail (ne_tail g2)) | exact ne_head (ne_tail (ne_tail (ne_tail g2))) | exact ne_head (ne_tail (ne_tail (ne_tail (ne_tail g2)))) | exact ne_chead g3 | exact ne_chead (ne_ctail g3) | exact ne_chead (ne_ctail (ne_ctail g3)) | exact ne_chead (ne_ctail (ne_ctail (ne_ctail g3))) | exact ne_chead (ne_ctail (ne_ctail (ne_ctail (ne_ctail g3)))) | exact ne_chead (ne_ctail (ne_ctail (ne_ctail (ne_ctail (ne_ctail g3))))) | exact ne_chead (ne_ctail (ne_ctail (ne_ctail (ne_ctail (ne_ctail (ne_ctail g3)))))) | exact ne_chead (ne_ctail (ne_ctail (ne_ctail (ne_ctail (ne_ctail (ne_ctail (ne_ctail g3))))))) | exact ne_chead (ne_ctail (ne_ctail (ne_ctail (ne_ctail (ne_ctail (ne_ctail (ne_ctail (ne_ctail g3)))))))) | exact ne_chead (ne_ctail (ne_ctail (ne_ctail (ne_ctail (ne_ctail (ne_ctail (ne_ctail (ne_ctail (ne_ctail g3))))))))) | exact ne_chead (ne_ctail (ne_ctail (ne_ctail (ne_ctail (ne_ctail (ne_ctail (ne_ctail (ne_ctail (ne_ctail (ne_ctail g3)))))))))))) ?_ | refine cont_stepR (by first | with_reducible exact g3 | ((repeat (refine cont_cons (by first | assumption | with_reducible (first | exact ne_head g2 | exact ne_head (ne_tail g2) | exact ne_head (ne_tail (ne_tail g2)) | exact ne_head (ne_tail (ne_tail (ne_tail g2))) | exact ne_head (ne_tail (ne_tail (ne_tail (ne_tail g2)))) | exact ne_chead g3 | exact ne_chead (ne_ctail g3) | exact ne_chead (ne_ctail (ne_ctail g3)) | exact ne_chead (ne_ctail (ne_ctail (ne_ctail g3))) | exact ne_chead (ne_ctail (ne_ctail (ne_ctail (ne_ctail g3)))) | exact ne_chead (ne_ctail (ne_ctail (ne_ctail (ne_ctail (ne_ctail g3))))) | exact ne_chead (ne_ctail (ne_ctail (ne_ctail (ne_ctail (ne_ctail (ne_ctail g3)))))) | exact ne_chead (ne_ctail (ne_ctail (ne_ctail (ne_ctail (ne_ctail (ne_ctail (ne_ctail g3))))))) | exact ne_chead (ne_ctail (ne_ctail (ne_ctail (ne_ctail (ne_ctail (ne_ctail (ne_ctail (ne_ctail g3)))))))) | exact ne_chead (ne_ctail (ne_ctail (ne_ctail (ne_ctail (ne_ctail (ne_ctail (ne_ctail (ne_ctail (ne_ctail g3))))))))) | exact ne_chead (ne_ctail (ne_ctail (ne_ctail (ne_ctail (ne_ctail (ne_ctail (ne_ctail (ne_ctail (ne_ctail (ne_ctail g3)))))))))))) ?_)); exact cont_nil)) ?_))
        case ap =>
          intro p hp
          have hp : p ∈ tsL ts ++ [TE.o ⟨D5, ci, cj, ck, ui, uj, uk⟩] := by simpa [tsL] using hp
          rcases List.mem_append.mp hp with h | h
          · exact AP2 p h
          · rw [List.mem_singleton.mp h]; refine ⟨?_, ?_⟩ <;> ((try simp only [TE.o]); (first | exact ad_ne | omega))
      · have hne : ¬ (ci + ck = b.i ∧ cj + ck = b.j) := (fun z => by first | exact absurd z.1 (by assumption) | exact absurd z.2 (by assumption) | omega)
        rename News _ _ _ _ => N7
        refine' en_end (.inl rfl) ⟨b.i, b.j, b.k, b.ti, b.tj, b.tk, ts, nn⟩ (by k_asm) N7 ?hn ?hi ?hk ?hr ⟨jp_apart0 J NX (by assumption) hne, ?ap⟩
        case hn =>
          show ∀ p ∈ (M, instObj 242 dM) :: (dM, dictOf (smE H T (.ref la) (.ref lb) .none vop vfb (.ref d2) (.ref jk) vpop) 10) :: (la, W.listOf va.toArray na) :: (lb, W.listOf vb.toArray nb) :: (jk, { cls := .type "set", dict := none, data := .set #[] 0 (.fresh 0 0 led) }) :: (d2, D2) :: (q, W.listOf (qsV []).toArray nq) :: (bl, W.listOf out.toArray c9) :: (na9, W.listOf (tsV ts).toArray nn) :: (tsL ts ++ (bsL bs ++ Lb)), _
          rw [hRest]
          (first | ((try dsimp only); with_reducible (repeat' (first | exact sub_refl | exact sub_nil | refine sub_take ?_ | refine sub_skip ?_)); done) | ((try dsimp only); with_reducible (repeat' (first | exact sub_refl | exact sub_nil | exact mem_hd | refine sub_take ?_ | refine sub_put ?_ ?_ | refine mem_tl ?_ | refine sub_skip ?_)); done) | ((try dsimp only); (repeat' (first | exact sub_refl | exact sub_nil | exact mem_hd | refine sub_take ?_ | refine sub_put ?_ ?_ | refine mem_tl ?_ | refine sub_skip ?_)); done))
        case hi => intro p hp; rw [List.mem_singleton.mp hp]; (repeat (first | exact List.Mem.head _ | apply List.Mem.tail))
        case hk => (repeat' (refine all_cons ?_ ?_)); all_goals (first | exact all_nil | rfl | assumption)
        case hr =>
          intro z g2 g3; (repeat (first | with_reducible rfl | refine ite_go (by first | assumption | with_reducible (first | exact ne_head g2 | exact ne_head (ne_tail g2) | exact ne_head (ne_tail (ne_tail g2)) | exact ne_head (ne_tail (ne_tail (ne_tail g2))) | exact ne_head (ne_tail (ne_tail (ne_tail (ne_tail g2)))) | exact ne_chead g3 | exact ne_chead (ne_ctail g3) | exact ne_chead (ne_ctail (ne_ctail g3)) | exact ne_chead (ne_ctail (ne_ctail (ne_ctail g3))) | exact ne_chead (ne_ctail (ne_ctail (ne_ctail (ne_ctail g3)))) | exact ne_chead (ne_ctail (ne_ctail (ne_ctail (ne_ctail (ne_ctail g3))))) | exact ne_chead (ne_ctail (ne_ctail (ne_ctail (ne_ctail (ne_ctail (ne_ctail g3)))))) | exact ne_chead (ne_ctail (ne_ctail (ne_ctail (ne_ctail (ne_ctail (ne_ctail (ne_ctail g3))))))) | exact ne_chead (ne_ctail (ne_ctail (ne_ctail (ne_ctail (ne_ctail (ne_ctail (ne_ctail (ne_ctail g3)))))))) | exact ne_chead (ne_ctail (ne_ctail (ne_ctail (ne_ctail (ne_ctail (ne_ctail (ne_ctail (ne_ctail (ne_ctail g3))))))))) | exact ne_chead (ne_ctail (ne_ctail (ne_ctail (ne_ctail (ne_ctail (ne_ctail (ne_ctail (ne_ctail (ne_ctail (ne_ctail g3)))))))))))) ?_ | refine cont_step (by first | with_reducible exact g3 | ((repeat (refine cont_cons (by first | assumption | with_reducible (first | exact ne_head g2 | exact ne_head (ne_tail g2) | exact ne_head (ne_tail (ne_tail g2)) | exact ne_head (ne_tail (ne_tail (ne_tail g2))) | exact ne_head (ne_tail (ne_tail (ne_tail (ne_tail g2)))) | exact ne_chead g3 | exact ne_chead (ne_ctail g3) | exact ne_chead (ne_ctail (ne_ctail g3)) | exact ne_chead (ne_ctail (ne_ctail (ne_ctail g3))) | exact ne_chead (ne_ctail (ne_ctail (ne_ctail (ne_ctail g3)))) | exact ne_chead (ne_ctail (ne_ctail (ne_ctail (ne_ctail (ne_ctail g3))))) | exact ne_chead (ne_ctail (ne_ctail (ne_ctail (ne_ctail (ne_ctail (ne_ctail g3)))))) | exact ne_chead (ne_ctail (ne_ctail (ne_ctail (ne_ctail (ne_ctail (ne_ctail (ne_ctail g3))))))) | exact ne_chead (ne_ctail (ne_ctail (ne_ctail (ne_ctail (ne_ctail (ne_ctail (ne_ctail (ne_ctail g3)))))))) | exact ne_chead (ne_ctail (ne_ctail (ne_ctail (ne_ctail (ne_ctail (ne_ctail (ne_ctail (ne_ctail (ne_ctail g3))))))))) | exact ne_chead (ne_ctail (ne_ctail (ne_ctail (ne_ctail (ne_ctail (ne_ctail (ne_ctail (ne_ctail (ne_ctail (ne_ctail g3)))))))))))) ?_)); exact cont_nil)) ?_ | refine ite_goR (by first | assumption | with_reducible (first | exact ne_head g2 | exact ne_head (ne_tail g2) | exact ne_head (ne_tail (ne_tail g2)) | exact ne_head (ne_tail (ne_tail (ne_tail g2))) | exact ne_head (ne_tail (ne_tail (ne_tail (ne_tail g2)))) | exact ne_chead g3 | exact ne_chead (ne_ctail g3) | exact ne_chead (ne_ctail (ne_ctail g3)) | exact ne_chead (ne_ctail (ne_ctail (ne_ctail g3))) | exact ne_chead (ne_ctail (ne_ctail (ne_ctail (ne_ctail g3)))) | exact ne_chead (ne_ctail (ne_ctail (ne_ctail (ne_ctail (ne_ctail g3))))) | exact ne_chead (ne_ctail (ne_ctail (ne_ctail (ne_ctail (ne_ctail (ne_ctail g3)))))) | exact ne_chead (ne_ctail (ne_ctail (ne_ctail (ne_ctail (ne_ctail (ne_ctail (ne_ctail g3))))))) | exact ne_chead (ne_ctail (ne_ctail (ne_ctail (ne_ctail (ne_ctail (ne_ctail (ne_ctail (ne_ctail g3)))))))) | exact ne_chead (ne_ctail (ne_ctail (ne_ctail (ne_ctail (ne_ctail (ne_ctail (ne_ctail (ne_ctail (ne_ctail g3))))))))) | exact ne_chead (ne_ctail (ne_ctail (ne_ctail (ne_ctail (ne_ctail (ne_ctail (ne_ctail (ne_ctail (ne_ctail (ne_ctail g3)))))))))))) ?_ | refine cont_stepR (by first | with_reducible exact g3 | ((repeat (refine cont_cons (by first | assumption | with_reducible (first | exact ne_head g2 | exact ne_head (ne_tail g2) | exact ne_head (ne_tail (ne_tail g2)) | exact ne_head (ne_tail (ne_tail (ne_tail g2))) | exact ne_head (ne_tail (ne_tail (ne_tail (ne_tail g2)))) | exact ne_chead g3 | exact ne_chead (ne_ctail g3) | exact ne_chead (ne_ctail (ne_ctail g3)) | exact ne_chead (ne_ctail (ne_ctail (ne_ctail g3))) | exact ne_chead (ne_ctail (ne_ctail (ne_ctail (ne_ctail g3)))) | exact ne_chead (ne_ctail (ne_ctail (ne_ctail (ne_ctail (ne_ctail g3))))) | exact ne_chead (ne_ctail (ne_ctail (ne_ctail (ne_ctail (ne_ctail (ne_ctail g3)))))) | exact ne_chead (ne_ctail (ne_ctail (ne_ctail (ne_ctail (ne_ctail (ne_ctail (ne_ctail g3))))))) | exact ne_chead (ne_ctail (ne_ctail (ne_ctail (ne_ctail (ne_ctail (ne_ctail (ne_ctail (ne_ctail g3)))))))) | exact ne_chead (ne_ctail (ne_ctail (ne_ctail (ne_ctail (ne_ctail (ne_ctail (ne_ctail (ne_ctail (ne_ctail g3))))))))) | exact ne_chead (ne_ctail (ne_ctail (ne_ctail (ne_ctail (ne_ctail (ne_ctail (ne_ctail (ne_ctail (ne_ctail (ne_ctail g3)))))))))))) ?_)); exact cont_nil)) ?_))
        case ap =>
          intro p hp
          exact AP2 p hp
      · have hne : ¬ (ci + ck = b.i ∧ cj + ck = b.j) := (fun z => by first | exact absurd z.1 (by assumption) | exact absurd z.2 (by assumption) | omega)
        have hck : ck ≠ 0 := by assumption
        rename_i D5 k5 F5 N5 lD5
        have w5 : @LT.lt Nat _ na9 D5 := lD5.2.2.2.2.2.2.2.2.2.2.1
        refine append_vs (pre := [_, _, _, _, _, _, _, _, _, _, _]) (us := tsV ts) (by k_asm) N5 (by intro p hp; ((apply all_at hp); (try clear hp); (repeat' (refine all_cons ?_ ?_)); all_goals (try intro p hp)); all_goals (first | exact absurd hp List.not_mem_nil | exact rs9 p hp | (show @Ne Nat _ na9; first | exact ad_ne | exact et_na9 | exact (Ne.symm (by assumption))))) (by intro p hp; ((apply all_at hp); (try clear hp); (repeat' (refine all_cons ?_ ?_)); all_goals (try intro p hp)); all_goals (first | exact absurd hp List.not_mem_nil | exact rs9 p hp | (show @Ne Nat _ na9; first | exact ad_ne | exact et_na9 | exact (Ne.symm (by assumption))))) (by (first | exact ad_ne | omega)) fun h7 F7 N7' => ?_
        simp only [List.nil_append, List.cons_append] at N7'
        clear N5 F5
        k_steps
        rename News _ _ _ _ => N7
        refine' en_end (.inl rfl) ⟨b.i, b.j, b.k, b.ti, b.tj, b.tk, (ts ++ [⟨D5, ci, cj, ck, ui, uj, uk⟩]), (nn + 1)⟩ (by k_asm) N7 ?hn ?hi ?hk ?hr ⟨jp_apart J NX hck hne ⟨D5, ci, cj, ck, ui, uj, uk⟩ ⟨rfl, rfl, rfl⟩, ?ap⟩
        case hn =>
          show ∀ p ∈ (M, instObj 242 dM) :: (dM, dictOf (smE H T (.ref la) (.ref lb) .none vop vfb (.ref d2) (.ref jk) vpop) 10) :: (la, W.listOf va.toArray na) :: (lb, W.listOf vb.toArray nb) :: (jk, { cls := .type "set", dict := none, data := .set #[] 0 (.fresh 0 0 led) }) :: (d2, D2) :: (q, W.listOf (qsV []).toArray nq) :: (bl, W.listOf out.toArray c9) :: (na9, W.listOf (tsV (ts ++ [⟨D5, ci, cj, ck, ui, uj, uk⟩])).toArray (nn + 1)) :: (tsL (ts ++ [⟨D5, ci, cj, ck, ui, uj, uk⟩]) ++ (bsL bs ++ Lb)), _
          have e1 : tsV (ts ++ [⟨D5, ci, cj, ck, ui, uj, uk⟩]) = tsV ts ++ [Value.ref D5] := by simp [tsV, TE.v]
          have e2 : tsL (ts ++ [⟨D5, ci, cj, ck, ui, uj, uk⟩]) ++ (bsL bs ++ Lb) = tsL ts ++ (TE.o ⟨D5, ci, cj, ck, ui, uj, uk⟩ :: (bsL bs ++ Lb)) := by simp [tsL]
          rw [e1, e2]
          (iterate 9 (refine all_cons (by (repeat (first | exact List.Mem.head _ | apply List.Mem.tail)); done) ?_))
          intro p hp
          have hp : p ∈ TE.o ⟨D5, ci, cj, ck, ui, uj, uk⟩ :: (tsL ts ++ (bsL bs ++ Lb)) := by
            rcases List.mem_append.mp hp with h | h
            · exact .tail _ (List.mem_append_left _ h)
            · rcases List.mem_cons.mp h with h | h
              · rw [h]; exact .head _
              · exact .tail _ (List.mem_append_right _ h)
          rw [hRest] at hp
          (refine sub_at hp ?_; (first | ((try dsimp only); with_reducible (repeat' (first | exact sub_refl | exact sub_nil | refine sub_take ?_ | refine sub_skip ?_)); done) | ((try dsimp only); with_reducible (repeat' (first | exact sub_refl | exact sub_nil | exact mem_hd | refine sub_take ?_ | refine sub_put ?_ ?_ | refine mem_tl ?_ | refine sub_skip ?_)); done) | ((try dsimp only); (repeat' (first | exact sub_refl | exact sub_nil | exact mem_hd | refine sub_take ?_ | refine sub_put ?_ ?_ | refine mem_tl ?_ | refine sub_skip ?_)); done)))
        case hi => intro p hp; rw [List.mem_singleton.mp hp]; (repeat (first | exact List.Mem.head _ | apply List.Mem.tail))
        case hk => (repeat' (refine all_cons ?_ ?_)); all_goals (first | exact all_nil | rfl | assumption)
        case hr =>
          intro z g2 g3; (repeat (first | with_reducible rfl | refine ite_go (by first | assumption | with_reducible (first | exact ne_head g2 | exact ne_head (ne_tail g2) | exact ne_head (ne_tail (ne_tail g2)) | exact ne_head (ne_tail (ne_tail (ne_tail g2))) | exact ne_head (ne_tail (ne_tail (ne_tail (ne_tail g2)))) | exact ne_chead g3 | exact ne_chead (ne_ctail g3) | exact ne_chead (ne_ctail (ne_ctail g3)) | exact ne_chead (ne_ctail (ne_ctail (ne_ctail g3))) | exact ne_chead (ne_ctail (ne_ctail (ne_ctail (ne_ctail g3)))) | exact ne_chead (ne_ctail (ne_ctail (ne_ctail (ne_ctail (ne_ctail g3))))) | exact ne_chead (ne_ctail (ne_ctail (ne_ctail (ne_ctail (ne_ctail (ne_ctail g3)))))) | exact ne_chead (ne_ctail (ne_ctail (ne_ctail (ne_ctail (ne_ctail (ne_ctail (ne_ctail g3))))))) | exact ne_chead (ne_ctail (ne_ctail (ne_ctail (ne_ctail (ne_ctail (ne_ctail (ne_ctail (ne_ctail g3)))))))) | exact ne_chead (ne_ctail (ne_ctail (ne_ctail (ne_ctail (ne_ctail (ne_ctail (ne_ctail (ne_ctail (ne_ctail g3))))))))) | exact ne_chead (ne_ctail (ne_ctail (ne_ctail (ne_ctail (ne_ctail (ne_ctail (ne_ctail (ne_ctail (ne_ctail (ne_ctail g3)))))))))))) ?_ | refine cont_step (by first | with_reducible exact g3 | ((repeat (refine cont_cons (by first | assumption | with_reducible (first | exact ne_head g2 | exact ne_head (ne_tail g2) | exact ne_head (ne_tail (ne_tail g2)) | exact ne_head (ne_tail (ne_tail (ne_tail g2))) | exact ne_head (ne_tail (ne_tail (ne_tail (ne_tail g2)))) | exact ne_chead g3 | exact ne_chead (ne_ctail g3) | exact ne_chead (ne_ctail (ne_ctail g3)) | exact ne_chead (ne_ctail (ne_ctail (ne_ctail g3))) | exact ne_chead (ne_ctail (ne_ctail (ne_ctail (ne_ctail g3)))) | exact ne_chead (ne_ctail (ne_ctail (ne_ctail (ne_ctail (ne_ctail g3))))) | exact ne_chead (ne_ctail (ne_ctail (ne_ctail (ne_ctail (ne_ctail (ne_ctail g3)))))) | exact ne_chead (ne_ctail (ne_ctail (ne_ctail (ne_ctail (ne_ctail (ne_ctail (ne_ctail g3))))))) | exact ne_chead (ne_ctail (ne_ctail (ne_ctail (ne_ctail (ne_ctail (ne_ctail (ne_ctail (ne_ctail g3)))))))) | exact ne_chead (ne_ctail (ne_ctail (ne_ctail (ne_ctail (ne_ctail (ne_ctail (ne_ctail (ne_ctail (ne_ctail g3))))))))) | exact ne_chead (ne_ctail (ne_ctail (ne_ctail (ne_ctail (ne_ctail (ne_ctail (ne_ctail (ne_ctail (ne_ctail (ne_ctail g3)))))))))))) ?_)); exact cont_nil)) ?_ | refine ite_goR (by first | assumption | with_reducible (first | exact ne_head g2 | exact ne_head (ne_tail g2) | exact ne_head (ne_tail (ne_tail g2)) | exact ne_head (ne_tail (ne_tail (ne_tail g2))) | exact ne_head (ne_tail (ne_tail (ne_tail (ne_tail g2)))) | exact ne_chead g3 | exact ne_chead (ne_ctail g3) | exact ne_chead (ne_ctail (ne_ctail g3)) | exact ne_chead (ne_ctail (ne_ctail (ne_ctail g3))) | exact ne_chead (ne_ctail (ne_ctail (ne_ctail (ne_ctail g3)))) | exact ne_chead (ne_ctail (ne_ctail (ne_ctail (ne_ctail (ne_ctail g3))))) | exact ne_chead (ne_ctail (ne_ctail (ne_ctail (ne_ctail (ne_ctail (ne_ctail g3)))))) | exact ne_chead (ne_ctail (ne_ctail (ne_ctail (ne_ctail (ne_ctail (ne_ctail (ne_ctail g3))))))) | exact ne_chead (ne_ctail (ne_ctail (ne_ctail (ne_ctail (ne_ctail (ne_ctail (ne_ctail (ne_ctail g3)))))))) | exact ne_chead (ne_ctail (ne_ctail (ne_ctail (ne_ctail (ne_ctail (ne_ctail (ne_ctail (ne_ctail (ne_ctail g3))))))))) | exact ne_chead (ne_ctail (ne_ctail (ne_ctail (ne_ctail (ne_ctail (ne_ctail (ne_ctail (ne_ctail (ne_ctail (ne_ctail g3)))))))))))) ?_ | refine cont_stepR (by first | with_reducible exact g3 | ((repeat (refine cont_cons (by first | assumption | with_reducible (first | exact ne_head g2 | exact ne_head (ne_tail g2) | exact ne_head (ne_tail (ne_tail g2)) | exact ne_head (ne_tail (ne_tail (ne_tail g2))) | exact ne_head (ne_tail (ne_tail (ne_tail (ne_tail g2)))) | exact ne_chead g3 | exact ne_chead (ne_ctail g3) | exact ne_chead (ne_ctail (ne_ctail g3)) | exact ne_chead (ne_ctail (ne_ctail (ne_ctail g3))) | exact ne_chead (ne_ctail (ne_ctail (ne_ctail (ne_ctail g3)))) | exact ne_chead (ne_ctail (ne_ctail (ne_ctail (ne_ctail (ne_ctail g3))))) | exact ne_chead (ne_ctail (ne_ctail (ne_ctail (ne_ctail (ne_ctail (ne_ctail g3)))))) | exact ne_chead (ne_ctail (ne_ctail (ne_ctail (ne_ctail (ne_ctail (ne_ctail (ne_ctail g3))))))) | exact ne_chead (ne_ctail (ne_ctail (ne_ctail (ne_ctail (ne_ctail (ne_ctail (ne_ctail (ne_ctail g3)))))))) | exact ne_chead (ne_ctail (ne_ctail (ne_ctail (ne_ctail (ne_ctail (ne_ctail (ne_ctail (ne_ctail (ne_ctail g3))))))))) | exact ne_chead (ne_ctail (ne_ctail (ne_ctail (ne_ctail (ne_ctail (ne_ctail (ne_ctail (ne_ctail (ne_ctail (ne_ctail g3)))))))))))) ?_)); exact cont_nil)) ?_))
        case ap =>
          intro p hp
          have hp : p ∈ tsL ts ++ [TE.o ⟨D5, ci, cj, ck, ui, uj, uk⟩] := by simpa [tsL] using hp
          rcases List.mem_append.mp hp with h | h
          · exact AP2 p h
          · rw [List.mem_singleton.mp h]; refine ⟨?_, ?_⟩ <;> ((try simp only [TE.o]); (first | exact ad_ne | omega))
      · have hne : ¬ (ci + ck = b.i ∧ cj + ck = b.j) := (fun z => by first | exact absurd z.1 (by assumption) | exact absurd z.2 (by assumption) | omega)
        rename News _ _ _ _ => N7
        refine' en_end (.inl rfl) ⟨b.i, b.j, b.k, b.ti, b.tj, b.tk, ts, nn⟩ (by k_asm) N7 ?hn ?hi ?hk ?hr ⟨jp_apart0 J NX (by assumption) hne, ?ap⟩
        case hn =>
          show ∀ p ∈ (M, instObj 242 dM) :: (dM, dictOf (smE H T (.ref la) (.ref lb) .none vop vfb (.ref d2) (.ref jk) vpop) 10) :: (la, W.listOf va.toArray na) :: (lb, W.listOf vb.toArray nb) :: (jk, { cls := .type "set", dict := none, data := .set #[] 0 (.fresh 0 0 led) }) :: (d2, D2) :: (q, W.listOf (qsV []).toArray nq) :: (bl, W.listOf out.toArray c9) :: (na9, W.listOf (tsV ts).toArray nn) :: (tsL ts ++ (bsL bs ++ Lb)), _
          rw [hRest]
          (first | ((try dsimp only); with_reducible (repeat' (first | exact sub_refl | exact sub_nil | refine sub_take ?_ | refine sub_skip ?_)); done) | ((try dsimp only); with_reducible (repeat' (first | exact sub_refl | exact sub_nil | exact mem_hd | refine sub_take ?_ | refine sub_put ?_ ?_ | refine mem_tl ?_ | refine sub_skip ?_)); done) | ((try dsimp only); (repeat' (first | exact sub_refl | exact sub_nil | exact mem_hd | refine sub_take ?_ | refine sub_put ?_ ?_ | refine mem_tl ?_ | refine sub_skip ?_)); done))
        case hi => intro p hp; rw [List.mem_singleton.mp hp]; (repeat (first | exact List.Mem.head _ | apply List.Mem.tail))
        case hk => (repeat' (refine all_cons ?_ ?_)); all_goals (first | exact all_nil | rfl | assumption)
        case hr =>
          intro z g2 g3; (repeat (first | with_reducible rfl | refine ite_go (by first | assumption | with_reducible (first | exact ne_head g2 | exact ne_head (ne_tail g2) | exact ne_head (ne_tail (ne_tail g2)) | exact ne_head (ne_tail (ne_tail (ne_tail g2))) | exact ne_head (ne_tail (ne_tail (ne_tail (ne_tail g2)))) | exact ne_chead g3 | exact ne_chead (ne_ctail g3) | exact ne_chead (ne_ctail (ne_ctail g3)) | exact ne_chead (ne_ctail (ne_ctail (ne_ctail g3))) | exact ne_chead (ne_ctail (ne_ctail (ne_ctail (ne_ctail g3)))) | exact ne_chead (ne_ctail (ne_ctail (ne_ctail (ne_ctail (ne_ctail g3))))) | exact ne_chead (ne_ctail (ne_ctail (ne_ctail (ne_ctail (ne_ctail (ne_ctail g3)))))) | exact ne_chead (ne_ctail (ne_ctail (ne_ctail (ne_ctail (ne_ctail (ne_ctail (ne_ctail g3))))))) | exact ne_chead (ne_ctail (ne_ctail (ne_ctail (ne_ctail (ne_ctail (ne_ctail (ne_ctail (ne_ctail g3)))))))) | exact ne_chead (ne_ctail (ne_ctail (ne_ctail (ne_ctail (ne_ctail (ne_ctail (ne_ctail (ne_ctail (ne_ctail g3))))))))) | exact ne_chead (ne_ctail (ne_ctail (ne_ctail (ne_ctail (ne_ctail (ne_ctail (ne_ctail (ne_ctail (ne_ctail (ne_ctail g3)))))))))))) ?_ | refine cont_step (by first | with_reducible exact g3 | ((repeat (refine cont_cons (by first | assumption | with_reducible (first | exact ne_head g2 | exact ne_head (ne_tail g2) | exact ne_head (ne_tail (ne_tail g2)) | exact ne_head (ne_tail (ne_tail (ne_tail g2))) | exact ne_head (ne_tail (ne_tail (ne_tail (ne_tail g2)))) | exact ne_chead g3 | exact ne_chead (ne_ctail g3) | exact ne_chead (ne_ctail (ne_ctail g3)) | exact ne_chead (ne_ctail (ne_ctail (ne_ctail g3))) | exact ne_chead (ne_ctail (ne_ctail (ne_ctail (ne_ctail g3)))) | exact ne_chead (ne_ctail (ne_ctail (ne_ctail (ne_ctail (ne_ctail g3))))) | exact ne_chead (ne_ctail (ne_ctail (ne_ctail (ne_ctail (ne_ctail (ne_ctail g3)))))) | exact ne_chead (ne_ctail (ne_ctail (ne_ctail (ne_ctail (ne_ctail (ne_ctail (ne_ctail g3))))))) | exact ne_chead (ne_ctail (ne_ctail (ne_ctail (ne_ctail (ne_ctail (ne_ctail (ne_ctail (ne_ctail g3)))))))) | exact ne_chead (ne_ctail (ne_ctail (ne_ctail (ne_ctail (ne_ctail (ne_ctail (ne_ctail (ne_ctail (ne_ctail g3))))))))) | exact ne_chead (ne_ctail (ne_ctail (ne_ctail (ne_ctail (ne_ctail (ne_ctail (ne_ctail (ne_ctail (ne_ctail (ne_ctail g3)))))))))))) ?_)); exact cont_nil)) ?_ | refine ite_goR (by first | assumption | with_reducible (first | exact ne_head g2 | exact ne_head (ne_tail g2) | exact ne_head (ne_tail (ne_tail g2)) | exact ne_head (ne_tail (ne_tail (ne_tail g2))) | exact ne_head (ne_tail (ne_tail (ne_tail (ne_tail g2)))) | exact ne_chead g3 | exact ne_chead (ne_ctail g3) | exact ne_chead (ne_ctail (ne_ctail g3)) | exact ne_chead (ne_ctail (ne_ctail (ne_ctail g3))) | exact ne_chead (ne_ctail (ne_ctail (ne_ctail (ne_ctail g3)))) | exact ne_chead (ne_ctail (ne_ctail (ne_ctail (ne_ctail (ne_ctail g3))))) | exact ne_chead (ne_ctail (ne_ctail (ne_ctail (ne_ctail (ne_ctail (ne_ctail g3)))))) | exact ne_chead (ne_ctail (ne_ctail (ne_ctail (ne_ctail (ne_ctail (ne_ctail (ne_ctail g3))))))) | exact ne_chead (ne_ctail (ne_ctail (ne_ctail (ne_ctail (ne_ctail (ne_ctail (ne_ctail (ne_ctail g3)))))))) | exact ne_chead (ne_ctail (ne_ctail (ne_ctail (ne_ctail (ne_ctail (ne_ctail (ne_ctail (ne_ctail (ne_ctail g3))))))))) | exact ne_chead (ne_ctail (ne_ctail (ne_ctail (ne_ctail (ne_ctail (ne_ctail (ne_ctail (ne_ctail (ne_ctail (ne_ctail g3)))))))))))) ?_ | refine cont_stepR (by first | with_reducible exact g3 | ((repeat (refine cont_cons (by first | assumption | with_reducible (first | exact ne_head g2 | exact ne_head (ne_tail g2) | exact ne_head (ne_tail (ne_tail g2)) | exact ne_head (ne_tail (ne_tail (ne_tail g2))) | exact ne_head (ne_tail (ne_tail (ne_tail (ne_tail g2)))) | exact ne_chead g3 | exact ne_chead (ne_ctail g3) | exact ne_chead (ne_ctail (ne_ctail g3)) | exact ne_chead (ne_ctail (ne_ctail (ne_ctail g3))) | exact ne_chead (ne_ctail (ne_ctail (ne_ctail (ne_ctail g3)))) | exact ne_chead (ne_ctail (ne_ctail (ne_ctail (ne_ctail (ne_ctail g3))))) | exact ne_chead (ne_ctail (ne_ctail (ne_ctail (ne_ctail (ne_ctail (ne_ctail g3)))))) | exact ne_chead (ne_ctail (ne_ctail (ne_ctail (ne_ctail (ne_ctail (ne_ctail (ne_ctail g3))))))) | exact ne_chead (ne_ctail (ne_ctail (ne_ctail (ne_ctail (ne_ctail (ne_ctail (ne_ctail (ne_ctail g3)))))))) | exact ne_chead (ne_ctail (ne_ctail (ne_ctail (ne_ctail (ne_ctail (ne_ctail (ne_ctail (ne_ctail (ne_ctail g3))))))))) | exact ne_chead (ne_ctail (ne_ctail (ne_ctail (ne_ctail (ne_ctail (ne_ctail (ne_ctail (ne_ctail (ne_ctail (ne_ctail g3)))))))))))) ?_)); exact cont_nil)) ?_))
        case ap =>
          intro p hp
          exact AP2 p hp
    case dn =>
      rintro ⟨ci, cj, ck, ui, uj, uk, ts, nn⟩ u3 h3 tk3 ⟨J, AP2⟩ F3 N3
      dsimp only [kstB] at F3 ⊢
      dsimp only at J AP2
      have tlen : (tsV ts).length ≤ 4 := by have := J.n; simp only [tsV, List.length_map] at this ⊢; have := G.len.2; have : out.length = bs.length := by rw [hlen]; simp [bsV]
                                            (first | exact ad_ne | omega)
      have rs9 : ∀ p ∈ tsL ts ++ (bsL bs ++ Lb), @Ne Nat p.1 na9 := fun p hp => by
        rcases List.mem_append.mp hp with h | h
        · exact Nat.ne_of_gt (AP2 p h).1
        · exact Nat.ne_of_lt (w3 p h)
      generalize hRest : tsL ts ++ (bsL bs ++ Lb) = Rest at N3 rs9
      k_steps
      · have hck : ck ≠ 0 := by assumption
        rename_i D5 k5 F5 N5 lD5
        have w5 : @LT.lt Nat _ na9 D5 := lD5.2.2.2.2.2.2.2.2.1
        refine append_vs (pre := [_, _, _, _, _, _, _, _, _]) (us := tsV ts) (by k_asm) N5 (by intro p hp; ((apply all_at hp); (try clear hp); (repeat' (refine all_cons ?_ ?_)); all_goals (try intro p hp)); all_goals (first | exact absurd hp List.not_mem_nil | exact rs9 p hp | (show @Ne Nat _ na9; first | exact ad_ne | exact et_na9 | exact (Ne.symm (by assumption))))) (by intro p hp; ((apply all_at hp); (try clear hp); (repeat' (refine all_cons ?_ ?_)); all_goals (try intro p hp)); all_goals (first | exact absurd hp List.not_mem_nil | exact rs9 p hp | (show @Ne Nat _ na9; first | exact ad_ne | exact et_na9 | exact (Ne.symm (by assumption))))) (by (first | exact ad_ne | omega)) fun h7 F7 N7' => ?_
        simp only [List.nil_append, List.cons_append] at N7'
        clear N5 F5
        k_steps
        rename_i D6 k6 F6 N6' lD6
        obtain ⟨tk6, N6⟩ := exTok N6'
        have w6 : @LT.lt Nat _ na9 D6 := Nat.lt_trans w5 lD6.1
        refine append_vs (pre := [_, _, _, _, _, _, _, _, _, _]) (us := tsV ts ++ [Value.ref D5]) (by k_asm) N6 (by intro p hp; ((apply all_at hp); (try clear hp); (repeat' (refine all_cons ?_ ?_)); all_goals (try intro p hp)); all_goals (first | exact absurd hp List.not_mem_nil | exact rs9 p hp | (show @Ne Nat _ na9; first | exact ad_ne | exact et_na9 | exact (Ne.symm (by assumption))))) (by intro p hp; ((apply all_at hp); (try clear hp); (repeat' (refine all_cons ?_ ?_)); all_goals (try intro p hp)); all_goals (first | exact absurd hp List.not_mem_nil | exact rs9 p hp | (show @Ne Nat _ na9; first | exact ad_ne | exact et_na9 | exact (Ne.symm (by assumption))))) (by simp only [List.length_append, List.length_cons, List.length_nil]; (first | exact ad_ne | omega)) fun h8 F8 N8 => ?_
        simp only [List.nil_append, List.cons_append] at N8
        clear N6 N6' F6
        k_steps
        rename News _ _ _ _ => N8
        rename Fr _ _ _ _ => F8
        rename_i qm k8 lqm
        have wq : @LT.lt Nat _ D6 qm := lqm.1
        obtain ⟨zs, hzs⟩ : ∃ zs : List TE, zs = ts ++ [⟨D5, ci, cj, ck, ui, uj, uk⟩] ++ [⟨D6, xa.length, xb.length, 0, tB + 1 + 1, tB + 1 + 1 + 1 + 1 + 1, tk6⟩] := ⟨_, rfl⟩
        have ezs : tsV zs = tsV ts ++ [Value.ref D5] ++ [Value.ref D6] := by rw [hzs]; simp [tsV, TE.v]
        rw [← ezs] at N8
        have zlen : (tsV zs).length ≤ 16 := by rw [ezs]; simp only [List.length_append, List.length_cons, List.length_nil]; (first | exact ad_ne | omega)
        have zmem : ∀ e ∈ zs, e.o ∈ (qm, methodObj (Value.ref 89) (Value.ref 135)) :: (D6, tupO [.int xa.length (tB + 1 + 1), .int xb.length (tB + 1 + 1 + 1 + 1 + 1), .int 0 tk6]) :: (D5, tupO [.int ci ui, .int cj uj, .int ck uk]) :: (M, instObj 242 dM) :: (dM, dictOf (smE H T (.ref la) (.ref lb) .none vop vfb (.ref d2) (.ref jk) vpop) 10) :: (la, W.listOf va.toArray na) :: (lb, W.listOf vb.toArray nb) :: (jk, { cls := .type "set", dict := none, data := .set #[] 0 (.fresh 0 0 led) }) :: (d2, D2) :: (q, W.listOf (qsV []).toArray nq) :: (bl, W.listOf out.toArray c9) :: (na9, W.listOf (tsV zs).toArray (nn + 1 + 1)) :: Rest := fun e he => by
          rw [hzs] at he
          rcases List.mem_append.mp he with he | he; rcases List.mem_append.mp he with he | he
          · have hx : e.o ∈ Rest := by rw [← hRest]; exact List.mem_append_left _ (List.mem_map_of_mem he)
            (repeat (first | exact hx | apply List.Mem.tail))
          · rw [List.mem_singleton.mp he]; (repeat (first | exact List.Mem.head _ | apply List.Mem.tail))
          · rw [List.mem_singleton.mp he]; (repeat (first | exact List.Mem.head _ | apply List.Mem.tail))
        refine call_mapN (l := na9) (vs := tsV zs) (by k_asm) N8 (by (repeat (first | exact List.Mem.head _ | apply List.Mem.tail))) fun it TT mo h9 F10 N10 litt lTT lmo => ?_
        clear F8
        k_steps
        rename News _ _ _ _ => N10
        rename Fr _ _ _ _ => F10
        refine list_map (base := (qm, methodObj (Value.ref 89) (Value.ref 135)) :: (D6, tupO [.int xa.length (tB + 1 + 1), .int xb.length (tB + 1 + 1 + 1 + 1 + 1), .int 0 tk6]) :: (D5, tupO [.int ci ui, .int cj uj, .int ck uk]) :: (M, instObj 242 dM) :: (dM, dictOf (smE H T (.ref la) (.ref lb) .none vop vfb (.ref d2) (.ref jk) vpop) 10) :: (la, W.listOf va.toArray na) :: (lb, W.listOf vb.toArray nb) :: (jk, { cls := .type "set", dict := none, data := .set #[] 0 (.fresh 0 0 led) }) :: (d2, D2) :: (q, W.listOf (qsV []).toArray nq) :: (bl, W.listOf out.toArray c9) :: (na9, W.listOf (tsV zs).toArray (nn + 1 + 1)) :: Rest) (items := tsV zs) (f := .ref qm) (Rel := fun x ob => ∃ e ∈ zs, x = e.v ∧ ∃ dy, ob = matchO dy [.int e.i e.ti, .int e.j e.tj, .int e.k e.tk]) (T := TT) (it := it) (l := na9) rfl F10 N10 (by (repeat (first | exact List.Mem.head _ | apply List.Mem.tail))) zlen ?step (fun p hp => Nat.ne_of_lt (litt p hp)) (Nat.ne_of_gt (Nat.lt_trans lTT lmo)) (Nat.ne_of_gt lTT) fun S h11 tk11 vs c made MM F11 N11 lS => ?_
        case step =>
          intro x hx s' e1 e2 e3 G9 h12 tk12 Q9 F12 N12 hsub hret9
          obtain ⟨e0, he0, rfl⟩ := List.mem_map.mp hx
          have me := hsub _ (zmem e0 he0)
          have mq := hsub (qm, methodObj (Value.ref 89) (Value.ref 135)) (by (repeat (first | exact List.Mem.head _ | apply List.Mem.tail)))
          show wpAny _ _ (call (Value.ref qm) [Value.ref e0.t]) _ _ _
          refine' mk_K w mean mg mb _ _ _ _ _ _ _ _ _ _ _ _ _ _ _ _ _ e0.i e0.j e0.k e0.ti e0.tj e0.tk qm e0.t G9 ?kB ?kF ?kX ?kN ?kT ?kk ?kd ?ku ?_
          case kB => k_asm
          case kF => exact F12
          case kX => k_asm
          case kN =>
            intro p hp
            rcases List.mem_cons.mp hp with rfl | hp
            · exact N12 _ mq
            · rcases List.mem_cons.mp hp with rfl | hp
              · exact N12 _ me
              · exact N12 p hp
          case kT => k_asm
          case kk => rfl
          case kd => exact off_lt (m := 4) hd rfl
          case ku => exact off_lt (m := 26) hu rfl
          intro x1 dx1 h13 tk13 F13 N13 _ _ l3 l4
          exact hret9 x1 dx1 _ _ _ ⟨e0, he0, rfl, dx1, rfl⟩ F13 (fun p hp => N13 p (by
            rcases List.mem_cons.mp hp with rfl | hp
            · exact .head _
            · rcases List.mem_cons.mp hp with rfl | hp
              · exact .tail _ (.head _)
              · exact .tail _ (.tail _ (.tail _ (.tail _ hp))))) l3 l4
        obtain ⟨r, zs', hr⟩ : ∃ r z, zs = r :: z := by rw [hzs]; cases ts <;> exact ⟨_, _, rfl⟩
        obtain ⟨y, ob, hv0, hmade, e1, he1, hte, dy, rfl⟩ := MM.out 0 r.v (by rw [hr]; exact Nat.succ_pos _) (by rw [hr]; rfl)
        have hsame := te_same N8 (zmem r (by rw [hr]; exact .head _)) (zmem e1 he1) (by simp only [TE.v] at hte; injection hte)
        have hiff := jp_first J (fun FX => by
          rcases G.f FX with ⟨_, e, he, _⟩ | ⟨_, e, he, _⟩
          · cases he
          · subst he; have : out.length = 1 := hlen; (first | exact ad_ne | omega)) h1a r zs' ⟨D6, xa.length, xb.length, 0, tB + 1 + 1, tB + 1 + 1 + 1 + 1 + 1, tk6⟩ ⟨rfl, rfl, rfl⟩ (.inr ⟨⟨D5, ci, cj, ck, ui, uj, uk⟩, hck, rfl, rfl, rfl, by rw [← hr, hzs]⟩)
        rw [hsame.1, hsame.2.1, hsame.2.2] at hiff
        obtain ⟨Tl, hTl⟩ : ∃ Tl, Tl = made ++ Lb := ⟨_, rfl⟩
        have wS : @LT.lt Nat _ dM S := lS (dM, dictOf (smE H T (.ref la) (.ref lb) .none vop vfb (.ref d2) (.ref jk) vpop) 10) (by (repeat (first | exact List.Mem.head _ | apply List.Mem.tail)))
        have wS2 : @Ne Nat S dM := Nat.ne_of_gt wS
        have hTd : ∀ p ∈ Tl, @Ne Nat p.1 dM := fun p hp => by
          rw [hTl] at hp
          rcases List.mem_append.mp hp with h | h
          · exact Nat.ne_of_gt (Nat.lt_trans wS (MM.above p h))
          · exact hLr p h
        have N14 : News g' L' h11 ((S, W.listOf vs.toArray c) :: (M, instObj 242 dM) :: (dM, dictOf (smE H T (.ref la) (.ref lb) .none vop vfb (.ref d2) (.ref jk) vpop) 10) :: (la, W.listOf va.toArray na) :: (lb, W.listOf vb.toArray nb) :: (jk, { cls := .type "set", dict := none, data := .set #[] 0 (.fresh 0 0 led) }) :: (d2, D2) :: Tl) := fun p hp => N11 p (by
          rcases List.mem_cons.mp hp with rfl | hp
          · exact .head _
          · refine .tail _ ?_
            ((apply all_at hp); (try clear hp); (iterate 6 (refine all_cons (by exact List.mem_append_right _ (by (repeat (first | exact List.Mem.head _ | apply List.Mem.tail)))) ?_)); intro p hp)
            rw [hTl] at hp
            rcases List.mem_append.mp hp with h | h
            · exact List.mem_append_left _ h
            · refine List.mem_append_right _ ?_
              have hx : p ∈ Rest := by rw [← hRest]; exact List.mem_append_right _ (List.mem_append_right _ h)
              (repeat (first | exact hx | apply List.Mem.tail)))
        clear N11 N10 F10
        k_steps
        rename Fr _ _ _ _ => kF
        rename News _ _ _ _ => kN
        refine hret S y dy e1.i e1.j e1.k e1.ti e1.tj e1.tk vs c made _ _ hiff hv0 hmade kF fun p hp => kN p ?_
        rcases List.mem_cons.mp hp with rfl | hp
        · exact .head _
        · rcases List.mem_append.mp hp with h | hp
          · have hx : p ∈ Tl := by rw [hTl]; exact List.mem_append_left _ h
            (repeat (first | exact hx | apply List.Mem.tail))
          · ((apply all_at hp); (try clear hp); (iterate 6 (refine all_cons (by (repeat (first | exact List.Mem.head _ | apply List.Mem.tail))) ?_)); intro p hp)
            have hx : p ∈ Tl := by rw [hTl]; exact List.mem_append_right _ hp
            (repeat (first | exact hx | apply List.Mem.tail))
      · have hck : ck = 0 := by assumption
        rename_i D6 k6 F6 N6' lD6
        obtain ⟨tk6, N6⟩ := exTok N6'
        have w6 : @LT.lt Nat _ na9 D6 := lD6.2.2.2.2.2.2.2.2.1
        refine append_vs (pre := [_, _, _, _, _, _, _, _, _]) (us := tsV ts) (by k_asm) N6 (by intro p hp; ((apply all_at hp); (try clear hp); (repeat' (refine all_cons ?_ ?_)); all_goals (try intro p hp)); all_goals (first | exact absurd hp List.not_mem_nil | exact rs9 p hp | (show @Ne Nat _ na9; first | exact ad_ne | exact et_na9 | exact (Ne.symm (by assumption))))) (by intro p hp; ((apply all_at hp); (try clear hp); (repeat' (refine all_cons ?_ ?_)); all_goals (try intro p hp)); all_goals (first | exact absurd hp List.not_mem_nil | exact rs9 p hp | (show @Ne Nat _ na9; first | exact ad_ne | exact et_na9 | exact (Ne.symm (by assumption))))) (by (first | exact ad_ne | omega)) fun h8 F8 N8 => ?_
        simp only [List.nil_append, List.cons_append] at N8
        clear N6 N6' F6
        k_steps
        rename News _ _ _ _ => N8
        rename Fr _ _ _ _ => F8
        rename_i qm k8 lqm
        have wq : @LT.lt Nat _ D6 qm := lqm.1
        obtain ⟨zs, hzs⟩ : ∃ zs : List TE, zs = ts ++ [⟨D6, xa.length, xb.length, 0, tB + 1 + 1, tB + 1 + 1 + 1 + 1 + 1, tk6⟩] := ⟨_, rfl⟩
        have ezs : tsV zs = tsV ts ++ [Value.ref D6] := by rw [hzs]; simp [tsV, TE.v]
        rw [← ezs] at N8
        have zlen : (tsV zs).length ≤ 16 := by rw [ezs]; simp only [List.length_append, List.length_cons, List.length_nil]; (first | exact ad_ne | omega)
        have zmem : ∀ e ∈ zs, e.o ∈ (qm, methodObj (Value.ref 89) (Value.ref 135)) :: (D6, tupO [.int xa.length (tB + 1 + 1), .int xb.length (tB + 1 + 1 + 1 + 1 + 1), .int 0 tk6]) :: (M, instObj 242 dM) :: (dM, dictOf (smE H T (.ref la) (.ref lb) .none vop vfb (.ref d2) (.ref jk) vpop) 10) :: (la, W.listOf va.toArray na) :: (lb, W.listOf vb.toArray nb) :: (jk, { cls := .type "set", dict := none, data := .set #[] 0 (.fresh 0 0 led) }) :: (d2, D2) :: (q, W.listOf (qsV []).toArray nq) :: (bl, W.listOf out.toArray c9) :: (na9, W.listOf (tsV zs).toArray (nn + 1)) :: Rest := fun e he => by
          rw [hzs] at he
          rcases List.mem_append.mp he with he | he
          · have hx : e.o ∈ Rest := by rw [← hRest]; exact List.mem_append_left _ (List.mem_map_of_mem he)
            (repeat (first | exact hx | apply List.Mem.tail))
          
          · rw [List.mem_singleton.mp he]; (repeat (first | exact List.Mem.head _ | apply List.Mem.tail))
        refine call_mapN (l := na9) (vs := tsV zs) (by k_asm) N8 (by (repeat (first | exact List.Mem.head _ | apply List.Mem.tail))) fun it TT mo h9 F10 N10 litt lTT lmo => ?_
        clear F8
        k_steps
        rename News _ _ _ _ => N10
        rename Fr _ _ _ _ => F10
        refine list_map (base := (qm, methodObj (Value.ref 89) (Value.ref 135)) :: (D6, tupO [.int xa.length (tB + 1 + 1), .int xb.length (tB + 1 + 1 + 1 + 1 + 1), .int 0 tk6]) :: (M, instObj 242 dM) :: (dM, dictOf (smE H T (.ref la) (.ref lb) .none vop vfb (.ref d2) (.ref jk) vpop) 10) :: (la, W.listOf va.toArray na) :: (lb, W.listOf vb.toArray nb) :: (jk, { cls := .type "set", dict := none, data := .set #[] 0 (.fresh 0 0 led) }) :: (d2, D2) :: (q, W.listOf (qsV []).toArray nq) :: (bl, W.listOf out.toArray c9) :: (na9, W.listOf (tsV zs).toArray (nn + 1)) :: Rest) (items := tsV zs) (f := .ref qm) (Rel := fun x ob => ∃ e ∈ zs, x = e.v ∧ ∃ dy, ob = matchO dy [.int e.i e.ti, .int e.j e.tj, .int e.k e.tk]) (T := TT) (it := it) (l := na9) rfl F10 N10 (by (repeat (first | exact List.Mem.head _ | apply List.Mem.tail))) zlen ?step (fun p hp => Nat.ne_of_lt (litt p hp)) (Nat.ne_of_gt (Nat.lt_trans lTT lmo)) (Nat.ne_of_gt lTT) fun S h11 tk11 vs c made MM F11 N11 lS => ?_
        case step =>
          intro x hx s' e1 e2 e3 G9 h12 tk12 Q9 F12 N12 hsub hret9
          obtain ⟨e0, he0, rfl⟩ := List.mem_map.mp hx
          have me := hsub _ (zmem e0 he0)
          have mq := hsub (qm, methodObj (Value.ref 89) (Value.ref 135)) (by (repeat (first | exact List.Mem.head _ | apply List.Mem.tail)))
          show wpAny _ _ (call (Value.ref qm) [Value.ref e0.t]) _ _ _
          refine' mk_K w mean mg mb _ _ _ _ _ _ _ _ _ _ _ _ _ _ _ _ _ e0.i e0.j e0.k e0.ti e0.tj e0.tk qm e0.t G9 ?kB ?kF ?kX ?kN ?kT ?kk ?kd ?ku ?_
          case kB => k_asm
          case kF => exact F12
          case kX => k_asm
          case kN =>
            intro p hp
            rcases List.mem_cons.mp hp with rfl | hp
            · exact N12 _ mq
            · rcases List.mem_cons.mp hp with rfl | hp
              · exact N12 _ me
              · exact N12 p hp
          case kT => k_asm
          case kk => rfl
          case kd => exact off_lt (m := 4) hd rfl
          case ku => exact off_lt (m := 26) hu rfl
          intro x1 dx1 h13 tk13 F13 N13 _ _ l3 l4
          exact hret9 x1 dx1 _ _ _ ⟨e0, he0, rfl, dx1, rfl⟩ F13 (fun p hp => N13 p (by
            rcases List.mem_cons.mp hp with rfl | hp
            · exact .head _
            · rcases List.mem_cons.mp hp with rfl | hp
              · exact .tail _ (.head _)
              · exact .tail _ (.tail _ (.tail _ (.tail _ hp))))) l3 l4
        obtain ⟨r, zs', hr⟩ : ∃ r z, zs = r :: z := by rw [hzs]; cases ts <;> exact ⟨_, _, rfl⟩
        obtain ⟨y, ob, hv0, hmade, e1, he1, hte, dy, rfl⟩ := MM.out 0 r.v (by rw [hr]; exact Nat.succ_pos _) (by rw [hr]; rfl)
        have hsame := te_same N8 (zmem r (by rw [hr]; exact .head _)) (zmem e1 he1) (by simp only [TE.v] at hte; injection hte)
        have hiff := jp_first J (fun FX => by
          rcases G.f FX with ⟨_, e, he, _⟩ | ⟨_, e, he, _⟩
          · cases he
          · subst he; have : out.length = 1 := hlen; (first | exact ad_ne | omega)) h1a r zs' ⟨D6, xa.length, xb.length, 0, tB + 1 + 1, tB + 1 + 1 + 1 + 1 + 1, tk6⟩ ⟨rfl, rfl, rfl⟩ (.inl ⟨hck, by rw [← hr, hzs]⟩)
        rw [hsame.1, hsame.2.1, hsame.2.2] at hiff
        obtain ⟨Tl, hTl⟩ : ∃ Tl, Tl = made ++ Lb := ⟨_, rfl⟩
        have wS : @LT.lt Nat _ dM S := lS (dM, dictOf (smE H T (.ref la) (.ref lb) .none vop vfb (.ref d2) (.ref jk) vpop) 10) (by (repeat (first | exact List.Mem.head _ | apply List.Mem.tail)))
        have wS2 : @Ne Nat S dM := Nat.ne_of_gt wS
        have hTd : ∀ p ∈ Tl, @Ne Nat p.1 dM := fun p hp => by
          rw [hTl] at hp
          rcases List.mem_append.mp hp with h | h
          · exact Nat.ne_of_gt (Nat.lt_trans wS (MM.above p h))
          · exact hLr p h
        have N14 : News g' L' h11 ((S, W.listOf vs.toArray c) :: (M, instObj 242 dM) :: (dM, dictOf (smE H T (.ref la) (.ref lb) .none vop vfb (.ref d2) (.ref jk) vpop) 10) :: (la, W.listOf va.toArray na) :: (lb, W.listOf vb.toArray nb) :: (jk, { cls := .type "set", dict := none, data := .set #[] 0 (.fresh 0 0 led) }) :: (d2, D2) :: Tl) := fun p hp => N11 p (by
          rcases List.mem_cons.mp hp with rfl | hp
          · exact .head _
          · refine .tail _ ?_
            ((apply all_at hp); (try clear hp); (iterate 6 (refine all_cons (by exact List.mem_append_right _ (by (repeat (first | exact List.Mem.head _ | apply List.Mem.tail)))) ?_)); intro p hp)
            rw [hTl] at hp
            rcases List.mem_append.mp hp with h | h
            · exact List.mem_append_left _ h
            · refine List.mem_append_right _ ?_
              have hx : p ∈ Rest := by rw [← hRest]; exact List.mem_append_right _ (List.mem_append_right _ h)
              (repeat (first | exact hx | apply List.Mem.tail)))
        clear N11 N10 F10
        k_steps
        rename Fr _ _ _ _ => kF
        rename News _ _ _ _ => kN
        refine hret S y dy e1.i e1.j e1.k e1.ti e1.tj e1.tk vs c made _ _ hiff hv0 hmade kF fun p hp => kN p ?_
        rcases List.mem_cons.mp hp with rfl | hp
        · exact .head _
        · rcases List.mem_append.mp hp with h | hp
          · have hx : p ∈ Tl := by rw [hTl]; exact List.mem_append_left _ h
            (repeat (first | exact hx | apply List.Mem.tail))
          · ((apply all_at hp); (try clear hp); (iterate 6 (refine all_cons (by (repeat (first | exact List.Mem.head _ | apply List.Mem.tail))) ?_)); intro p hp)
            have hx : p ∈ Tl := by rw [hTl]; exact List.mem_append_right _ hp
            (repeat (first | exact hx | apply List.Mem.tail))
end Mine
end

section
open PySem PySem.W PyProof.Rows PyProof.V PySem.Calls
set_option maxRecDepth 100000
set_option maxHeartbeats 4000000
namespace Mine
noncomputable def byText (w : World) : Bool := w.params.followText "set-order"
noncomputable abbrev oneSetO (prog : Program) (w : World) (P : Str) (tk : Tok) (ep : Nat) (t : SetTable) : Obj := { cls := .type "set", dict := none, data := .set #[((PySem.strKind prog w).hash P, .str P tk)] ep t }
/-- a set object of just one text -/
noncomputable def OneSet (prog : Program) (w : World) (o : Obj) (P : Str) : Prop := ∃ ep t tk, o = oneSetO prog w P tk ep t ∧ t.fits 1 = true ∧ t.led = !byText w
theorem OneSet.setObjOf {prog : Program} {w : World} {o : Obj} {P : Str} (O : OneSet prog w o P) : o.SetObjOf (PySem.strKind prog w) (fun k => decide (k = P)) 1 := by
  obtain ⟨ep, t, tk, rfl, hf, _⟩ := O
  refine ⟨⟨rfl, rfl, rfl⟩, _, ep, t, rfl, fun e he => ?_, fun k => ?_, rfl, hf⟩
  · have : e = ((PySem.strKind prog w).hash P, .str P tk) := by simpa using he
    rw [this]
    exact ⟨⟨P, strKind_is _ _ _ _, rfl⟩, rfl⟩
  · have h1 : (PySem.strKind prog w).is k (.str P tk) = decide (k = P) := KeyKind.is_eq_decide (strKind_is _ _ _ _) k
    simp [h1]
theorem layNew_first (led : Bool) (h : Int) (x : Value) : (layNew (.fresh 0 0 led) #[] h x).1 = #[(h, x)] ∧ (layNew (.fresh 0 0 led) #[] h x).2.1.fits 1 = true ∧ (layNew (.fresh 0 0 led) #[] h x).2.1.led = led ∧ (layNew (.fresh 0 0 led) #[] h x).2.1.tooFull = false := by
  unfold layNew
  cases hfs : (SetTable.fresh 0 0 led).freeSlot h with
  | none => exact ⟨rfl, rfl, rfl, rfl⟩
  | some p =>
    obtain ⟨slot, wd⟩ := p
    dsimp only
    have e1 : ((SetTable.fresh 0 0 led).put slot).2 = 0 := rfl
    have e2 : ((SetTable.fresh 0 0 led).put slot).1 = { mask := 7, place := #[slot], dummies := #[], finger := 0, led := led, moves := 0, plain := true } := by
      unfold SetTable.put SetTable.fresh
      have hh : SetTable.has #[] slot = false := rfl
      simp only [hh]
      rfl
    rw [e1, e2]
    exact ⟨rfl, rfl, rfl, rfl⟩
section
variable {prog : Program} {w : World} {A : Around} {E : Value → Shared → Prop} {s : Shared}
theorem add_first {a : Addr} {P : Str} {tk : Tok} {led : Bool} {ep : Nat} {Q : Bool → Shared → Prop} (ho : s.heap.get? a = some { cls := .type "set", dict := none, data := .set #[] ep (.fresh 0 0 led) })
    (h : ∀ h' ep' t', Heap.SameBut a s.heap h' → h'.get? a = some (oneSetO prog w P tk ep' t') → t'.fits 1 = true → t'.led = led → Q true { s with heap := h', toks := s.toks + 1 }) :
    wpAny (model prog w) A (setAdd a (.str P tk)) Q E s := by
  unfold setAdd
  refine wpAny_holding (wpAny_bind ((PySem.strKind prog w).pyHash (k := P) (strKind_is _ _ _ _) ?_))
  unfold setAddHashed setAddHashedIn
  refine wpAny_holding (wpAny_bind (wpAny_setState_of ho rfl rfl ?_))
  dsimp only
  rw [if_pos (show byScan (.str P tk) #[] = true by simp [byScan, Value.scannable, scanBound])]
  unfold setAddByScan
  refine wpAny_bind (wpAny_bind (wpAny_rule (wpAny_bind (wpAny_of_eq (a := ScanMet.absent) (by simp [setScan, setScanStrs]) ?_))))
  dsimp only
  obtain ⟨g1, g2, g3, g4⟩ := layNew_first led ((PySem.strKind prog w).hash P) (.str P tk)
  generalize layNew (SetTable.fresh 0 0 led) #[] ((PySem.strKind prog w).hash P) (.str P tk) = Lr at g1 g2 g3 g4 ⊢
  obtain ⟨es1, t1, wd, gave⟩ := Lr
  dsimp only at g1 g2 g3 g4 ⊢
  subst g1
  have hgw : ∀ (b : Bool) {s₁ : Shared} {Q' : Unit → Shared → Prop}, Q' () s₁ → wpAny (model prog w) A (match b with | true => rule "set.scan.the-table-gave-way" | false => pure ()) Q' E s₁ :=
    fun b s₁ Q' hq => by cases b <;> first | exact wpAny_pure hq | exact wpAny_rule hq
  refine wpAny_bind (hgw _ ?_)
  have tail : ∀ t2 : SetTable, t2.fits 1 = true → t2.led = led → t2.tooFull = false → wpAny (model prog w) A (do
      storeSet a #[((PySem.strKind prog w).hash P, Value.str P tk)] t2
      if !wd && t2.tooFull then
        let (es, t, gave) := relayAll t2 #[((PySem.strKind prog w).hash P, Value.str P tk)] (SetTable.grown (#[((PySem.strKind prog w).hash P, Value.str P tk)] : Array (Int × Value)).size)
        (match gave with | true => rule "set.scan.the-table-gave-way" | false => pure ())
        storeSet a es t
      return some true) (fun a_1 s' => wpAny (model prog w) A (match a_1 with | some added => pure added | none => setAddHashedIn a (.str P tk) ((PySem.strKind prog w).hash P) 99999) Q E s') E { s with toks := s.toks + 1 } := by
    intro t2 f1 f2 f3
    refine wpAny_bind (wpAny_storeSet_of ho rfl ?_)
    rw [f3, Bool.and_false]
    simp only [Bool.false_eq_true, if_false]
    refine wpAny_pure (wpAny_pure (h _ _ t2 (Heap.SameBut.update ..) (Heap.get?_update_self _ ho rfl) f1 f2))
  split
  · refine wpAny_bind (wpAny_of_eq (a := false) rfl ?_)
    simp only [Bool.false_eq_true, if_false]
    exact tail { t1 with plain := false } g2 g3 g4
  · refine wpAny_bind (wpAny_pure ?_)
    simp only [if_true]
    exact tail t1 g2 g3 g4
end
end Mine
end

section
open PySem PySem.W PyProof.Rows PyProof.V PySem.Calls
set_option maxRecDepth 100000
set_option maxHeartbeats 4000000
namespace Mine
section
variable {prog : Program} {w : World} {A : Around} {E : Value → Shared → Prop} {s : Shared}
theorem newSet_led {Q : Value → Shared → Prop} (h : Q (.ref s.heap.objs.size) { s with heap := s.heap.push { cls := .type "set", dict := none, data := .set #[] 0 (.fresh 0 0 (!byText w)) } }) : wpAny (model prog w) A (newSet (.type "set")) Q E s := by
  unfold newSet setsByText
  refine wpAny_bind (wpAny_bind (wpAny_askSetting (wpAny_pure ?_)))
  dsimp only
  simp only [newObj]
  exact wpAny_bind (wpAny_alloc (wpAny_pure h))
theorem code_set_new_led (a : Value) {Q₁ : Value → Shared → Prop}
    (h : Q₁ (.ref s.heap.objs.size) { s with heap := s.heap.push { cls := .type "set", dict := none, data := .set #[] 0 (.fresh 0 0 (!byText w)) } }) :
    codeAny (model prog w) A (.call (.builtin "set.__new__") ⟨[.type "set", a], []⟩) (wants Q₁ E) s := by
  refine codeAny_of_tree ?_
  show wpAny _ A.in1 (do checkBuiltinCall "set.__new__" ⟨[.type "set", a], []⟩; again (.builtin "set.__new__" ⟨[.type "set", a], []⟩)) _ _ s
  refine wpAny_bind (wpAny_of_eq (F.newCall_set_1 a) (wpAny_pure ⟨plainId_quiet F.plain_set_new _, codeAny_builtin F.entry_set_new ?_⟩))
  rw [Around.under_plainId F.plain_set_new _]
  unfold Builtin.«set.__new__» Builtin.Frozenset.newClass
  show wpAny _ _ ((isType (.type "set") >>= _) >>= _) _ _ _
  refine wpAny_bind (wpAny_bind (wpAny_pure ?_))
  simp only [Bool.not_true, Bool.false_eq_true, if_false]
  rw [sub_set_self]
  refine wpAny_bind (wpAny_pure ?_)
  simp only [Bool.not_true, Bool.false_eq_true, if_false]
  refine wpAny_pure ?_
  dsimp only
  exact wpAny_bind (newSet_led (wpAny_pure h))
theorem set_loop {S I l : Addr} {P : Str} {tk : Tok} {n : Nat} {R : Result → Shared → Prop} (hh : A.handled = none) (hS : s.heap.get? S = some { cls := .type "set", dict := none, data := .set #[] 0 (.fresh 0 0 (!byText w)) }) (hl : s.heap.get? l = some (W.listOf #[.str P tk] n)) (hI : s.heap.IsListIter I l 0)
    (h1 : S ≠ I) (h2 : S ≠ l) (h3 : l ≠ I)
    (hR : ∀ h' tk' o, h'.get? S = some o → OneSet prog w o P → (∀ b o, b ≠ S → b ≠ I → s.heap.get? b = some o → h'.get? b = some o) → R (.ok (.ret .none)) { s with heap := h', toks := tk' }) :
    codeAny (model prog w) A (.builtin "set.update.loop" ⟨[.ref S, .ref I], []⟩) R s := by
  refine codeAny_builtin F.entry_set_update_loop ?_
  rw [Around.under_plainId F.plain_set_update_loop _]
  show wpAny _ A.in1 (pyNext (.ref I) >>= _) _ _ s
  refine wpAny_bind (wpAny_pyNext_list_item hI ⟨_, hl, rfl, n, rfl⟩ (x := .str P tk) rfl fun h' hI' hs' => ?_)
  show wpAny _ A.in1 (holding [Value.str P tk] (setAdd S (.str P tk)) >>= _) _ _ _
  refine wpAny_bind (wpAny_holding (add_first (s := { s with heap := h' }) (hs'.extBut _ _ h1 hS) fun h2' ep' t' hs2 ho2 hf hled => ?_))
  refine wpAny_pure ⟨plainId_quiet F.plain_set_update_loop _, ?_⟩
  refine codeAny_builtin F.entry_set_update_loop ?_
  rw [Around.under_plainId F.plain_set_update_loop _]
  show wpAny _ A.in1 (pyNext (.ref I) >>= _) _ _ _
  have hI2 : h2'.IsListIter I l (0 + 1) := hI'.extBut hs2.extBut h1.symm
  have hl2 : h2'.get? l = some (W.listOf #[.str P tk] n) := hs2.extBut _ _ h2.symm (hs'.extBut _ _ h3 hl)
  refine wpAny_bind (wpAny_pyNext_list_end (s := { s with heap := h2', toks := s.toks + 1 }) (by exact hh) hI2 ⟨_, hl2, rfl, n, rfl⟩ rfl fun h3' he => ?_)
  show wpAny _ A.in1 (ret Value.none) _ _ _
  refine wpAny_pure (hR h3' _ _ (he _ _ h1 ho2) ⟨ep', t', tk, rfl, hf, hled⟩ fun b o b1 b2 e => he _ _ b2 (hs2.extBut _ _ b1 (hs'.extBut _ _ b2 e)))
theorem call_set_one {l : Addr} {P : Str} {tk : Tok} {n : Nat} {Q : Value → Shared → Prop} (hh : A.handled = none) (hl : s.heap.get? l = some (W.listOf #[.str P tk] n))
    (h : ∀ h' tk' o, h'.get? s.heap.objs.size = some o → OneSet prog w o P → (∀ b o, s.heap.get? b = some o → h'.get? b = some o) → Q (.ref s.heap.objs.size) { s with heap := h', toks := tk' }) :
    wpAny (model prog w) A (call (.type "set") [.ref l]) Q E s := by
  obtain ⟨c, tl, hmro⟩ := F.called_set.mro
  have hmade := F.called_set.made
  have hsub := F.called_set.sub
  refine wpAny_call (codeAny_of_tree ?_)
  show wpAny _ _ (callAny (.type "set") _) _ _ _
  refine wpAny_pure ⟨Code.quiet_builtin _ (by decide +kernel), codeAny_builtin F.entry_type_call ?_⟩
  rw [Around.under_plain (weight_type_call_type "set" [.ref l] []) rfl]
  have h1 := F.called_set.notType
  have h2 := F.called_set.canCreate
  have hct := F.typeCall_set_1 (.ref l)
  repeat (any_goals (first | assumption | wp_step))
  refine codeAny_mono (code_set_new_led (.ref l) (E := E) (Q₁ := fun obj s₁ => obj = .ref s.heap.objs.size ∧ s₁ = { s with heap := s.heap.push { cls := .type "set", dict := none, data := .set #[] 0 (.fresh 0 0 (!byText w)) } }) ⟨rfl, rfl⟩) fun r s₁ hr => ?_
  cases r with
  | error e => exact hr
  | ok fl =>
    cases fl with
    | ret obj =>
      obtain ⟨rfl, rfl⟩ := hr
      have hS : (s.heap.push { cls := .type "set", dict := none, data := .set #[] 0 (.fresh 0 0 (!byText w)) }).get? s.heap.objs.size = some { cls := .type "set", dict := none, data := .set #[] 0 (.fresh 0 0 (!byText w)) } := Heap.get?_push_size _ rfl
      have hT : Shared.TypeIs { s with heap := s.heap.push { cls := .type "set", dict := none, data := .set #[] 0 (.fresh 0 0 (!byText w)) } } (.ref s.heap.objs.size) "set" := ⟨_, hS, rfl⟩
      have hli := F.called_set.init.lookup
      have hbi := F.called_set.init.bind (.ref s.heap.objs.size)
      repeat (any_goals (first | assumption | wp_step))
      refine codeAny_mono (codeAny_call_builtin (R := wants (fun r s₂ => r = .none ∧ ∃ h' tk' o, s₂ = { s with heap := h', toks := tk' } ∧ h'.get? s.heap.objs.size = some o ∧ OneSet prog w o P ∧ (∀ b o, s.heap.get? b = some o → h'.get? b = some o)) E) F.called_set.init.plain F.entry_set_init (check_set_init_1 hT ?_)) fun r₂ s₂ hr₂ => ?_
      · have hol' : (s.heap.push { cls := .type "set", dict := none, data := .set #[] 0 (.fresh 0 0 (!byText w)) }).get? l = some (W.listOf #[.str P tk] n) := Heap.get?_push_of_some _ hl
        have hsls := F.sub_list_set
        have hslf := F.sub_list_frozenset
        have hne : (Value.type "list" == Value.type "dict") = false := by decide
        have hl1 : (s.heap.push { cls := .type "set", dict := none, data := .set #[] 0 (.fresh 0 0 (!byText w)) }).IsList l #[.str P tk] := ⟨_, hol', rfl, n, rfl⟩
        unfold Builtin.«set.__init__» noKeywords Builtin.Frozenset.updateFrom
        generalize hPI : pyIter = PI
        wp_walk
        subst hPI
        refine wpAny_pyIter_list hl1 ?_
        refine wpAny_bind (wpAny_runValue ?_)
        have hlS : l < s.heap.objs.size := Heap.lt_size hl
        have hz : (s.heap.push { cls := .type "set", dict := none, data := .set #[] 0 (.fresh 0 0 (!byText w)) }).objs.size = s.heap.objs.size + 1 := Heap.size_push ..
        refine set_loop (l := l) (P := P) (tk := tk) (n := n) (by simp [hh]) (Heap.get?_push_of_some _ hS) (Heap.get?_push_of_some _ hol') ⟨_, Heap.get?_push_size _ rfl, rfl, rfl⟩ (by rw [hz]; exact Nat.ne_of_lt (Nat.lt_succ_self _)) (Nat.ne_of_gt hlS) (by rw [hz]; exact Nat.ne_of_lt (Nat.lt_succ_of_lt hlS)) fun h' tk' o ho hO hk => ?_
        show wpAny _ _ _ _ _ _
        refine wpAny_pure ?_
        show wpAny _ _ (ret Value.none) _ _ _
        refine wpAny_pure ⟨rfl, h', tk', o, rfl, ho, hO, fun b o hb => ?_⟩
        have hb1 := Heap.lt_size hb
        exact hk b o (Nat.ne_of_lt hb1) (by rw [hz]; exact Nat.ne_of_lt (Nat.lt_succ_of_lt hb1)) (Heap.get?_push_of_some _ (Heap.get?_push_of_some _ hb))
      · cases r₂ with
        | error e => exact hr₂
        | ok fl₂ =>
          cases fl₂ with
          | ret r =>
            obtain ⟨rfl, h', tk', o, rfl, ho, hO, hk⟩ := hr₂
            repeat (any_goals (first | assumption | wp_step))
            exact h _ _ _ ho hO hk
          | _ => exact hr₂.elim
    | _ => exact hr.elim
theorem call_set_oneN {h₀ : Heap} {L l : Addr} {m : Str → Option Value} {news : List (Addr × Obj)} {P : Str} {tk : Tok} {n : Nat} {Q : Value → Shared → Prop} (hh : A.handled = none) (F : Fr h₀ L s.heap m) (N : News h₀ L s.heap news) (hm : (l, W.listOf #[.str P tk] n) ∈ news)
    (h : ∀ S o h' tk', OneSet prog w o P → Fr h₀ L h' m → News h₀ L h' ((S, o) :: news) → (∀ p ∈ news, p.1 < S) → Q (.ref S) { s with heap := h', toks := tk' }) :
    wpAny (model prog w) A (call (.type "set") [.ref l]) Q E s := by
  refine call_set_one hh (N _ hm).1 fun h' tk' o ho hO hk => ?_
  refine h _ o h' tk' hO (F.keeps hk) (news_pushed F N hk ho (by obtain ⟨_, _, _, rfl, _⟩ := hO; rfl)) fun p hp => Heap.lt_size (N p hp).1
end
end Mine
end

section
open PySem PySem.W PyProof.Rows PyProof.V PySem.Calls
set_option maxRecDepth 100000
set_option maxHeartbeats 4000000
namespace Mine
theorem entry_set_iter : entryFor table "set.__iter__" = some Builtin.«frozenset.__iter__» :=
  entryFor_alias (id' := "frozenset.__iter__") (by kernel_rfl) (by first | rfl | decide +kernel | (unfold String.splitOn; simp +decide [String.splitOnAux])) (by decide +kernel) (by kernel_rfl)
theorem slot_setit_next : Slot "set_iterator" "__next__" "set_iterator.__next__" :=
  .of (owner := "set_iterator") (n := "__next__") (by rw [typeLookup_type, builtinLookup_eq_fast]; kernel_rfl) (by decide +kernel) (by decide +kernel) (by decide +kernel)
    (by first | exact .inl (by decide +kernel) | exact .inr (by decide +kernel)) (by rw [isSubtype_type]; kernel_rfl)
theorem slot_setit_iter : Slot "set_iterator" "__iter__" "set_iterator.__iter__" :=
  .of (owner := "set_iterator") (n := "__iter__") (by rw [typeLookup_type, builtinLookup_eq_fast]; kernel_rfl) (by decide +kernel) (by decide +kernel) (by decide +kernel)
    (by first | exact .inl (by decide +kernel) | exact .inr (by decide +kernel)) (by rw [isSubtype_type]; kernel_rfl)
theorem entry_setit_next : entryFor table "set_iterator.__next__" = some Builtin.«set_iterator.__next__» := entryFor_of_tree (by kernel_rfl)
theorem entry_setit_iter : entryFor table "set_iterator.__iter__" = some Builtin.«dict_keyiterator.__iter__» :=
  entryFor_alias (id' := "dict_keyiterator.__iter__") (by kernel_rfl) (by first | rfl | decide +kernel | (unfold String.splitOn; simp +decide [String.splitOnAux])) (by decide +kernel) (by kernel_rfl)
theorem args_setit_next (a : Value) : argsOk "set_iterator.__next__" ⟨[a], []⟩ := by unfold argsOk; kernel_rfl
theorem args_setit_iter (a : Value) : argsOk "set_iterator.__iter__" ⟨[a], []⟩ := by unfold argsOk; kernel_rfl
/-- the iterator over the set S -/
noncomputable def SetIt (h : Heap) (it S : Addr) (slot i : Int) (ep : Nat) : Prop := ∃ o, h.get? it = some o ∧ o.cls = .type "set_iterator" ∧ o.data = .fields #[.int slot 0, .int i 0, .ref S, .int 1 0, .int ep 0]
section
variable {prog : Program} {w : World} {A : Around} {E : Value → Shared → Prop} {s : Shared} {S : Addr} {P : Str} {ep : Nat} {t : SetTable} {tk : Tok}
theorem fit_size (h : t.fits 1 = true) : t.fits (#[((PySem.strKind prog w).hash P, Value.str P tk)] : Array (Int × Value)).size = true := h
theorem one_iter {Q : Value → Shared → Prop} (ho : s.heap.get? S = some (oneSetO prog w P tk ep t)) (hf : t.fits 1 = true)
    (h : Q (.ref s.heap.objs.size) { s with heap := s.heap.push { cls := .type "set_iterator", data := .fields #[.int 0 0, .int 0 0, .ref S, .int 1 0, .int ep 0] } }) :
    wpAny (model prog w) A (pyIter (.ref S)) Q E s := by
  have hT : s.TypeIs (.ref S) "set" := ⟨_, ho, rfl⟩
  refine wpAny_pyIter_slot hT F.slot_set_iter (wpAny_call_entry F.slot_set_iter hT entry_set_iter ?_ (F.args_set_iter_1 _))
  unfold Builtin.«frozenset.__iter__»
  refine wpAny_bind (m := Builtin.Frozenset.slot0 "__iter__" _) (wpAny_pure ?_)
  refine wpAny_bind (m := Builtin.Frozenset.sizeOf S) ?_
  unfold Builtin.Frozenset.sizeOf
  refine wpAny_bind (wpAny_setEntries_of ho rfl (fit_size hf) (wpAny_pure ?_))
  refine wpAny_bind (m := setDrawn S) ?_
  unfold setDrawn setsByText
  refine wpAny_bind (wpAny_setState_of ho rfl (fit_size hf) ?_)
  dsimp only
  refine wpAny_bind (wpAny_bind (wpAny_askSetting (wpAny_pure ?_)))
  refine wpAny_pure ?_
  split
  · rename_i hc
    exfalso
    have h0 : ∀ b : Bool, (b && (!t.plain && decide ((1 : Nat) > 1))) = true → False := fun b => by cases b <;> cases t.plain <;> simp
    exact h0 _ hc
  · refine wpAny_bind (wpAny_pure ?_)
    refine wpAny_bind (wpAny_setEpoch_of ho rfl (fit_size hf) ?_)
    refine wpAny_bind (wpAny_newObj_type ?_)
    exact wpAny_pure ⟨_, rfl, "set_iterator", _, ⟨_, Heap.get?_push_size _ rfl, rfl⟩, slot_setit_next.lookup, h⟩
theorem below0 (j : Nat) : SetTable.below #[j] 0 = 0 := by simp [SetTable.below, SetTable.below.go]
theorem below1 (j : Nat) : SetTable.below #[j] (j + 1) = 1 := by simp [SetTable.below, SetTable.below.go]
theorem pick_one {α : Type} (next : Nat → Nat) (x : α) : pickOrder next #[x] = #[x] := by simp [pickOrder, pickOrder.go, Nat.mod_one]
/-- the first item is taken -/
theorem set_next0 {Q : Option (Value × Nat) → Shared → Prop} (ho : s.heap.get? S = some (oneSetO prog w P tk ep t)) (hf : t.fits 1 = true) (hled : t.led = !byText w)
    (h : ∀ nx : Nat, (byText w = true → nx = 0) → (byText w = false → ∃ j, t.place = #[j] ∧ nx = j + 1) → Q (some (.str P tk, nx)) s) : wpAny (model prog w) A (setNext S 0 0 ep) Q E s := by
  unfold setNext
  refine wpAny_bind (wpAny_setState_of ho rfl (fit_size hf) ?_)
  dsimp only
  unfold setsByText
  refine wpAny_bind (wpAny_bind (wpAny_askSetting (wpAny_pure ?_)))
  by_cases hb : byText w = true
  · rw [if_pos (show (⟨(model prog w).prog, (model prog w).w.params⟩ : Setting).params.followText "set-order" = true from hb)]
    simp only [bne_self_eq_false, Bool.false_eq_true, if_false]
    unfold setWalk setsByText
    refine wpAny_bind (wpAny_bind (wpAny_setState_of ho rfl (fit_size hf) ?_))
    dsimp only
    refine wpAny_bind (wpAny_bind (wpAny_askSetting (wpAny_pure ?_)))
    rw [if_pos (show (⟨(model prog w).prog, (model prog w).w.params⟩ : Setting).params.followText "set-order" = true from hb)]
    refine wpAny_bind (wpAny_askSetting (wpAny_pure ?_))
    rw [pick_one]
    exact wpAny_pure (h 0 (fun _ => rfl) fun e => by rw [hb] at e; cases e)
  · have hb' : byText w = false := by simpa using hb
    rw [if_neg (show ¬ (⟨(model prog w).prog, (model prog w).w.params⟩ : Setting).params.followText "set-order" = true from hb)]
    have hsz : t.place.size = 1 := by
      simp only [SetTable.fits, Bool.and_eq_true, beq_iff_eq] at hf
      exact hf.1
    obtain ⟨j, hj⟩ : ∃ j, t.place = #[j] := ⟨t.place[0], by
      apply Array.ext
      · simpa using hsz
      · intro i h1 h2; have : i = 0 := by omega
        subst this; rfl⟩
    split
    · rename_i hc
      exfalso
      have h0 : (!t.plain && decide ((1 : Nat) > 1)) = true → False := by cases t.plain <;> simp
      exact h0 hc
    · rw [hb', Bool.not_false] at hled
      refine wpAny_bind (wpAny_of_eq (a := ()) (by
        obtain ⟨mask, place, dummies, finger, led, moves, plain⟩ := t
        simp only at hled
        subst hled
        rfl) ?_)
      refine wpAny_pure ?_
      rw [hj, below0]
      exact h (j + 1) (fun e => by rw [hb'] at e; cases e) fun _ => ⟨j, hj, rfl⟩
/-- there is no second one -/
theorem set_next1 {nx : Nat} {Q : Option (Value × Nat) → Shared → Prop} (ho : s.heap.get? S = some (oneSetO prog w P tk ep t)) (hf : t.fits 1 = true) (hled : t.led = !byText w)
    (h1 : byText w = true → nx = 0) (h2 : byText w = false → ∃ j, t.place = #[j] ∧ nx = j + 1) (h : Q none s) : wpAny (model prog w) A (setNext S nx 1 ep) Q E s := by
  unfold setNext
  refine wpAny_bind (wpAny_setState_of ho rfl (fit_size hf) ?_)
  dsimp only
  unfold setsByText
  refine wpAny_bind (wpAny_bind (wpAny_askSetting (wpAny_pure ?_)))
  by_cases hb : byText w = true
  · rw [if_pos (show (⟨(model prog w).prog, (model prog w).w.params⟩ : Setting).params.followText "set-order" = true from hb)]
    simp only [bne_self_eq_false, Bool.false_eq_true, if_false]
    unfold setWalk setsByText
    refine wpAny_bind (wpAny_bind (wpAny_setState_of ho rfl (fit_size hf) ?_))
    dsimp only
    refine wpAny_bind (wpAny_bind (wpAny_askSetting (wpAny_pure ?_)))
    rw [if_pos (show (⟨(model prog w).prog, (model prog w).w.params⟩ : Setting).params.followText "set-order" = true from hb)]
    refine wpAny_bind (wpAny_askSetting (wpAny_pure ?_))
    rw [pick_one]
    exact wpAny_pure h
  · have hb' : byText w = false := by simpa using hb
    rw [if_neg (show ¬ (⟨(model prog w).prog, (model prog w).w.params⟩ : Setting).params.followText "set-order" = true from hb)]
    obtain ⟨j, hj, rfl⟩ := h2 hb'
    split
    · rename_i hc
      exfalso
      have h0 : (!t.plain && decide ((1 : Nat) > 1)) = true → False := by cases t.plain <;> simp
      exact h0 hc
    · rw [hb', Bool.not_false] at hled
      refine wpAny_bind (wpAny_of_eq (a := ()) (by
        obtain ⟨mask, place, dummies, finger, led, moves, plain⟩ := t
        simp only at hled
        subst hled
        rfl) ?_)
      refine wpAny_pure ?_
      rw [hj, below1]
      exact h
theorem setit_item {it : Addr} {Q : Option Value → Shared → Prop} (hit : SetIt s.heap it S 0 0 ep) (ho : s.heap.get? S = some (oneSetO prog w P tk ep t)) (hf : t.fits 1 = true) (hled : t.led = !byText w)
    (h : ∀ h' (nx : Nat), (byText w = true → nx = 0) → (byText w = false → ∃ j, t.place = #[j] ∧ nx = j + 1) → SetIt h' it S nx 1 ep → Heap.SameBut it s.heap h' → Q (some (.str P tk)) { s with heap := h' }) : wpAny (model prog w) A (pyNext (.ref it)) Q E s := by
  obtain ⟨o, hio, hic, hid⟩ := hit
  have hT : s.TypeIs (.ref it) "set_iterator" := ⟨o, hio, hic⟩
  unfold pyNext
  refine wpAny_bind (wpAny_attempt (wpAny_callSpecial?_slot (name := Str.ofString "__next__") hT slot_setit_next (wpAny_call_entry slot_setit_next hT entry_setit_next ?_ (args_setit_next _))))
  show wpAny _ _ (fieldsOf (.ref it) >>= _) _ _ s
  refine wpAny_bind (wpAny_fieldsOf hio hid ?_)
  dsimp only
  refine wpAny_bind (wpAny_setEntries_of ho rfl (fit_size hf) ?_)
  rw [if_neg (show ¬ ((((#[((PySem.strKind prog w).hash P, Value.str P tk)] : Array (Int × Value)).size : Nat) : Int) != 1) = true by simp)]
  refine wpAny_bind ?_
  refine set_next0 (ep := ep) (by exact ho) hf hled fun nx n1 n2 => ?_
  dsimp only
  refine wpAny_bind (wpAny_setField hio hid (by simp) ?_)
  have h1 := Heap.get?_update_self (Obj.mapFields (·.setIfInBounds 0 (rawInt (nx : Nat)))) hio (Obj.isFreed_of_fields (Obj.data_mapFields hid _))
  refine wpAny_bind (wpAny_setField h1 (Obj.data_mapFields hid _) (by simp) ?_)
  have h2 := Heap.get?_update_self (Obj.mapFields (·.setIfInBounds 1 (rawInt (0 + 1)))) h1 (Obj.isFreed_of_fields (Obj.data_mapFields (Obj.data_mapFields hid _) _))
  refine wpAny_pure ⟨_, rfl, wpAny_pure (h _ nx n1 n2 ⟨_, h2, (Obj.cls_mapFields ..).trans ((Obj.cls_mapFields ..).trans hic), ?_⟩ ((Heap.SameBut.update ..).trans (Heap.SameBut.update ..)))⟩
  rw [Obj.data_mapFields (Obj.data_mapFields hid _)]
  simp [rawInt]
theorem setit_stop {it : Addr} {nx : Nat} {Q : Option Value → Shared → Prop} (hh : A.handled = none) (hit : SetIt s.heap it S nx 1 ep) (ho : s.heap.get? S = some (oneSetO prog w P tk ep t)) (hf : t.fits 1 = true) (hled : t.led = !byText w)
    (n1 : byText w = true → nx = 0) (n2 : byText w = false → ∃ j, t.place = #[j] ∧ nx = j + 1)
    (h : ∀ h', Heap.ExtBut it s.heap h' → Q none { s with heap := h' }) : wpAny (model prog w) A (pyNext (.ref it)) Q E s := by
  obtain ⟨o, hio, hic, hid⟩ := hit
  have hT : s.TypeIs (.ref it) "set_iterator" := ⟨o, hio, hic⟩
  unfold pyNext
  refine wpAny_bind (wpAny_attempt (wpAny_callSpecial?_slot (name := Str.ofString "__next__") hT slot_setit_next (wpAny_call_entry slot_setit_next hT entry_setit_next ?_ (args_setit_next _))))
  show wpAny _ _ (fieldsOf (.ref it) >>= _) _ _ s
  refine wpAny_bind (wpAny_fieldsOf hio hid ?_)
  dsimp only
  refine wpAny_bind (wpAny_setEntries_of ho rfl (fit_size hf) ?_)
  rw [if_neg (show ¬ ((((#[((PySem.strKind prog w).hash P, Value.str P tk)] : Array (Int × Value)).size : Nat) : Int) != 1) = true by simp)]
  refine wpAny_bind ?_
  refine set_next1 (ep := ep) (by exact ho) hf hled n1 n2 ?_
  dsimp only
  refine wpAny_bind (wpAny_setField hio hid (by simp) ?_)
  show wpAny _ _ (newExc (.type "StopIteration") [] >>= _) _ _ _
  refine wpAny_bind ?_
  simp only [newExc, newTuple]
  refine wpAny_bind (wpAny_newObj_type ?_ (by size_fits))
  refine wpAny_bind (m := firstArgMember _ _) (wpAny_of_eq (a := Value.none) (by first | rfl | (simp only [firstArgMember]; rfl)) ?_)
  refine wpAny_newObj_type ?_ (by size_fits)
  simp only [raiseNew]
  refine wpAny_bind (wpAny_handled ?_)
  first | rw [show A.in1.handled = none from hh] | rw [hh]
  refine wpAny_bind (wpAny_pure (wpAny_throw ?_))
  refine wpAny_bind (wpAny_isInstance (T := "StopIteration") (b := true) ⟨_, Heap.get?_push_size _ rfl, rfl⟩ isSubtype_stop ?_)
  exact wpAny_pure (h _ (((Heap.SameBut.update ..).extBut.push _).push _))
theorem setit_iter {it : Addr} {o : Obj} {Q : Value → Shared → Prop} (ho : s.heap.get? it = some o) (hc : o.cls = .type "set_iterator") (h : Q (.ref it) s) : wpAny (model prog w) A (pyIter (.ref it)) Q E s := by
  have hT : s.TypeIs (.ref it) "set_iterator" := ⟨_, ho, hc⟩
  refine wpAny_pyIter_slot hT slot_setit_iter (wpAny_call_entry slot_setit_iter hT entry_setit_iter ?_ (args_setit_iter _))
  show wpAny _ _ (ret (.ref it)) _ _ s
  exact wpAny_pure ⟨_, rfl, "set_iterator", _, hT, slot_setit_next.lookup, h⟩
noncomputable def OneSt (prog : Program) (w : World) (it S : Addr) (P : Str) (tk : Tok) (ep : Nat) (t : SetTable) (i : Nat) (h : Heap) : Prop :=
  h.get? S = some (oneSetO prog w P tk ep t) ∧ ((i = 0 ∧ SetIt h it S 0 0 ep) ∨ (i = 1 ∧ ∃ nx : Nat, SetIt h it S nx 1 ep ∧ (byText w = true → nx = 0) ∧ (byText w = false → ∃ j, t.place = #[j] ∧ nx = j + 1)))
theorem SetIt.at {h h' : Heap} {it S : Addr} {a b : Int} {e : Nat} (x : SetIt h it S a b e) (k : ∀ o, h.get? it = some o → h'.get? it = some o) : SetIt h' it S a b e := by
  obtain ⟨o, h1, h2, h3⟩ := x
  exact ⟨o, k _ h1, h2, h3⟩
theorem walks_one {it : Addr} (hh : A.handled = none) (hne : S ≠ it) (hf : t.fits 1 = true) (hled : t.led = !byText w) :
    Walks prog w A it [it, S] [it] 1 (fun _ v => v = .str P tk) (OneSt prog w it S P tk ep t) where
  sub := fun b hb => by simp at hb; simp [hb]
  frame := fun i h h' st hk => by
    refine ⟨hk S (by simp) _ st.1, ?_⟩
    rcases st.2 with ⟨a, b⟩ | ⟨a, nx, b, c⟩
    · exact .inl ⟨a, b.at fun o e => hk it (by simp) o e⟩
    · exact .inr ⟨a, nx, b.at fun o e => hk it (by simp) o e, c⟩
  item := fun i s Q E hi st hQ => by
    rcases st.2 with ⟨rfl, b⟩ | ⟨a, _⟩
    · refine setit_item b st.1 hf hled fun h' nx n1 n2 hit hs => hQ _ h' s.toks rfl ⟨hs.extBut _ _ hne st.1, .inr ⟨rfl, nx, hit, n1, n2⟩⟩ fun b o hb e => hs.extBut b o (fun h => hb (by simp [h])) e
    · omega
  done := fun s Q E st hQ => by
    rcases st.2 with ⟨a, _⟩ | ⟨_, nx, b, c, d⟩
    · omega
    · exact setit_stop hh b st.1 hf hled c d fun h' he => hQ h' s.toks fun b o hb e => he b o (fun h => hb (by simp [h])) e
  self := fun i s Q E st hQ => by
    rcases st.2 with ⟨_, o, a, b, _⟩ | ⟨_, nx, ⟨o, a, b, _⟩, _⟩ <;> exact setit_iter a b hQ
end
section
variable {prog : Program} {w : World} {A : Around} {E : Value → Shared → Prop} {s : Shared} {env : Env} {h₀ : Heap} {x : Str} {body : List Stmt} {Q : Flow → Shared → Prop}
/-- a for loop over a set of one text -/
theorem lv_set {σ : Type} {S : Addr} {ob : Obj} {P : Str} {m₀ : Str → Option Value} (Led : σ → List (Addr × Obj)) (ps : σ → List (Str × Value)) (stored : List Str) (Pr : Nat → σ → Prop) (c₀ : σ)
    (hh : A.handled = none) (hO : OneSet prog w ob P) (hl : ∀ i c, Pr i c → (S, ob) ∈ Led c)
    (F : Fr h₀ env.locals s.heap m₀) (N : News h₀ env.locals s.heap (Led c₀)) (hk : ∀ p ∈ ps c₀, m₀ p.1 = some p.2) (hp : Pr 0 c₀)
    (hcls : ∀ i c, Pr i c → ∀ p ∈ Led c, p.2.cls ≠ .type "set_iterator" ∨ p ∈ Led c₀)
    (turn : ∀ (I : Addr) (c : σ) t (u : Str → Option Value) h tk ito, ito.cls = .type "set_iterator" → Pr 0 c → (∀ p ∈ Led c, p.1 ≠ I) →
      Fr h₀ env.locals h (fun y => if y = x then some (.str P t) else kstB (fun z => if stored.contains z then u z else m₀ z) (ps c) y) → News h₀ env.locals h (Led c ++ [(I, ito)]) →
      wpAny (model prog w) A (execs body env) (LvPost h₀ env.locals (I, ito) { s with heap := h, toks := tk } Q Led ps stored x m₀ (Pr 1)) E { s with heap := h, toks := tk })
    (done : ∀ (c : σ) (u : Str → Option Value) h tk, Pr 1 c → Fr h₀ env.locals h (fun y => if y = x then u y else kstB (fun z => if stored.contains z then u z else m₀ z) (ps c) y) → News h₀ env.locals h (Led c) → Q .next { s with heap := h, toks := tk }) :
    wpAny (model prog w) A (pyIter (.ref S)) (fun it s₂ => LoopAtV prog w A h₀ env x body Q E it s₂) E s := by
  obtain ⟨ep, t, tk0, rfl, hf, hled⟩ := hO
  have hm := N _ (hl 0 c₀ hp)
  have hlt : S < s.heap.objs.size := Heap.lt_size hm.1
  have hne : S ≠ s.heap.objs.size := Nat.ne_of_lt hlt
  refine one_iter hm.1 hf ?_
  refine lv_loop (C := "set_iterator") Led ps stored Pr c₀ (walks_one (P := P) (tk := tk0) (ep := ep) hh hne hf hled) ?_ (next_is_new F) ?_ ⟨Heap.get?_push_of_some _ hm.1, .inl ⟨rfl, _, Heap.get?_push_size _ rfl, rfl, rfl⟩⟩ (fun i h st => by rcases st.2 with ⟨_, o, a, b, _⟩ | ⟨_, nx, ⟨o, a, b, _⟩, _⟩ <;> exact ⟨o, a, b⟩) ?_ (F.push _) (fun p hp => ⟨Heap.get?_push_of_some _ (N p hp).1, (N p hp).2⟩) hk hp hcls ?_ ?_
  · intro hx
    rcases List.mem_cons.mp hx with e | hx
    · exact absurd F.ns.lt (e ▸ Nat.lt_irrefl _)
    · exact hm.2.1 (List.mem_singleton.mp hx).symm
  · intro p hp e
    exact absurd (Heap.lt_size (N p hp).1) (e ▸ Nat.lt_irrefl _)
  · intro b hb hnb
    rcases List.mem_cons.mp hb with e | hb
    · exact absurd e hnb
    · rw [List.mem_singleton.mp hb]
      exact ⟨_, hl⟩
  · rintro i c v u h tk ito hcl hi rfl hP hoff F₁ N₁
    have : i = 0 := by omega
    subst this
    exact turn _ c tk0 u h tk ito hcl hP hoff F₁ N₁
  · exact done
end
end Mine
end

section
open PySem PySem.W PyProof.Rows PyProof.V PySem.Calls
namespace Mine
set_option hygiene false in
local macro_rules | `(tactic| k_ne) => `(tactic| (refine neN ?_; (try dsimp only); exact ad_ne))
noncomputable abbrev igE (H : Nat → Int) (T : Nat → Tok) (vm vd vi : Value) : List DictEntry := [⟨H 0, .str (Str.ofString "_mods") (T 0), vm⟩, ⟨H 1, .str (Str.ofString "_dirs") (T 1), vd⟩, ⟨H 2, .str (Str.ofString "_ignore") (T 2), vi⟩]
/-- a reader: an _Ignore of one text -/
structure RD where
  x : Addr
  dx : Addr
  S : Addr
  D : Addr
  G : Addr
  H : Nat → Int
  T : Nat → Tok
  so : Obj
  go : Obj
  kvs : List (Str × Value)
  P : Str
noncomputable def RD.L (r : RD) : List (Addr × Obj) := [(r.G, r.go), (r.D, W.listOf #[] 0), (r.S, r.so), (r.x, instObj 311 r.dx), (r.dx, dictOf (igE r.H r.T (.ref r.S) (.ref r.D) (.ref r.G)) 3)]
/-- what a reader tells of a text -/
noncomputable def tellB (P y : Str) : Bool := decide (y = P) || Txt.startswith y (P ++ Str.ofString ".")
noncomputable def tell (P y : Str) : Int := if tellB P y = true then 1 else 0
structure RD.Ok (w : World) (r : RD) : Prop where
  set : OneSet PySem.Challenge.rw_ik0096_01.row.prog w r.so r.P
  dict : r.go.IsDictOf (PySem.strKind PySem.Challenge.rw_ik0096_01.row.prog w) r.kvs
  val : ∀ y v, valueAt r.kvs y = some v → y = Str.ofString "<string>" ∨ ∃ t, v = .int (tell r.P y) t
  lo : (r.G == sysModules) = false
  a1 : @LT.lt Nat _ r.dx r.x
  a2 : @LT.lt Nat _ r.x r.S
  a3 : @LT.lt Nat _ r.S r.D
  g1 : @Ne Nat r.D r.G
  g2 : @Ne Nat r.S r.G
  g3 : @Ne Nat r.x r.G
  g4 : @Ne Nat r.dx r.G
noncomputable abbrev tk3 {α : Type} (a b c : α) (n : Nat) : α := match n with | 0 => a | 1 => b | _ => c
set_option hygiene false in
local macro_rules | `(tactic| k_all) => `(tactic| assumption)
theorem truthy_one {prog : Program} {w : World} {A : Around} {E : Value → Shared → Prop} {s : Shared} {h₀ : Heap} {L q : Addr} {news : List (Addr × Obj)} {y : Value} {n : Nat} {Q : Bool → Shared → Prop} (N : News h₀ L s.heap news) (hm : (q, W.listOf #[y] n) ∈ news)
    (h : Q true { s with toks := s.toks + 1 + 1 }) : wpAny (model prog w) A (truthy (.ref q)) Q E s := truthy_vs (vs := [y]) N hm (by simp) h
set_option hygiene false in
local macro_rules | `(tactic| walk_at "truthy ref") => `(tactic| (k_here; refine' truthy_one (by k_asm) (by k_mem) ?_))
local macro_rules | `(tactic| walk_at "call type:set") => `(tactic| (k_here; k_dflt (refine' call_set_oneN (by exact rfl) (by k_asm) (by k_asm) (by k_mem) ?_; k_whole; intro _ _ _ _ _ _ _ l1; (try k_lt l1); (try k_sweep))))
set_option maxRecDepth 100000 in
set_option maxHeartbeats 8000000 in
theorem ig_new_K (w : World) (mean : ExcName → Option Value) (mg mb : Str → Option Value) (dp un : Nat) (gd : Option (List Code)) (cn : Str) (cs : Scope) (a : Addr) (ccd : Value) (cl : List (Str × Addr)) (outer : List Env) (A₀ : Around) (base h₀ : Heap) (L : Addr) (m : Str → Option Value)
    (s : Shared) (Q E : Value → Shared → Prop) (P : Str) (t : Tok) (l : Addr) (nl : Nat) (Led : List (Addr × Obj))
    (B : Below A₀ base outer h₀) (F : Fr h₀ L s.heap m) (X : (Mine.hd.heap_1 w.params).In h₀) (N : News h₀ L s.heap ((l, W.listOf #[.str P t] nl) :: Led))
    (Tp : Top Qv (looseW Qv looseL) mean mg mb h₀) (hk : cs.kind = .function)
    (hd : dp + 6 < recursionLimit) (hu : un + 60 < cLine)
    (hret : ∀ (r : RD) h' tk', r.P = P → r.Ok w → r.kvs.length ≤ 1 → Fr h₀ L h' m → News h₀ L h' (r.L ++ ((l, W.listOf #[.str P t] nl) :: Led)) → @LT.lt Nat _ l r.dx → (∀ p ∈ Led, @LT.lt Nat _ p.1 r.dx) → (∀ p ∈ (l, W.listOf #[.str P t] nl) :: Led, @Ne Nat p.1 r.G) → Q (.ref r.x) { s with heap := h', toks := tk' }) :
    wpAny (model PySem.Challenge.rw_ik0096_01.row.prog w) (ktrTop dp un gd cn cs L a ccd cl outer) (call (.ref 311) [.ref l]) Q E s := by
  revert X; k_fill; intro X
  refine wpAny_call ?_
  refine' make_K F N (X.keeps F.keep) ?hm ?hi ?hf ?_
  case hm => k_is
  case hi => k_is
  case hf => k_is
  intro x dx h1 F1 N1 l1 l2
  have l3 : @LT.lt Nat _ dx x := l2
  have N2 : News h₀ L h1 ((x, instObj 311 dx) :: (dx, dictOf [] 0) :: (l, W.listOf #[.str P t] nl) :: Led) := N1
  clear N1
  have hLd : ∀ p ∈ Led, p.1 ≠ dx := fun p hp => Nat.ne_of_lt (l1 p (.tail _ hp))
  have hld : @LT.lt Nat _ l dx := l1 _ (.head _)
  k_dflt (refine' code_def (binds := [(Str.ofString "self", Value.ref x), (Str.ofString "modules", Value.ref l), (Str.ofString "dirs", Value.none)]) ?k1 ?k2 ?k3 ?k4 ?k5 ?kA ?kF ?kK ?k6 ?k7 ?k8 ?k9 ?kB ?_ ?c2 ?c3 ?c4 ?c5; (case kA => exact rfl); (case kF => exact rfl); (case kK => first | assumption | rfl); (case k1 => k_asm); (case k2 => k_asm); (case k3 => k_asm); (case k4 => k_asm); (case k5 => k_asm); (case k6 => k_is); (case k7 => k_is); (case k8 => ktr_room); (case k9 => first | exact BindsTo.of_eq rfl | exact binds_K (by k_in) rfl (by k_is) rfl rfl rfl); (case c5 => decide); (case kB => exact locs rfl); (case c2 => exact rfl); (case c3 => exact rfl); (case c4 => exact rfl); k_whole; intro g' L' h' FG' F' N' B' X' T'; (try dsimp only); (try k_fold))
  k_steps
  rename OneSet _ _ _ _ => hO
  rename Obj.IsDictOf _ _ _ => hD
  rename (_ == sysModules) = false => hlo
  rename Fr _ _ _ _ => kF
  rename News _ _ _ _ => kN
  rename (∀ p : Addr × Obj, _ → p.1 ≠ _) => ap'
  rename (_ < _ ∧ _ < _ ∧ _ < _ ∧ AllLt _ _) => p1
  rename (_ < _ ∧ _ < _ ∧ _ < _ ∧ _ < _ ∧ AllLt _ _) => p2
  exact hret ⟨x, dx, _, _, _, tk3 _ _ _, tk3 _ _ _, _, _, _, P⟩ _ _ rfl ⟨hO, hD, fun y v hv => .inl (by
    by_cases hy : y = Str.ofString "<string>"
    · exact hy
    · exfalso
      have : valueAt (strPairs [(Value.str (Str.ofString "<string>") 0, v)]) y = none := by simp [strPairs, valueAt, Ne.symm hy]
      simp [strPairs, valueAt, Ne.symm hy] at hv), hlo, l3, p1.1, p2.1, ap' _ (.head _), ap' _ (.tail _ (.head _)), ap' _ (.tail _ (.tail _ (.head _))), ap' _ (.tail _ (.tail _ (.tail _ (.head _))))⟩ (by simp [strPairs]) kF kN hld (fun p hp => l1 p (.tail _ hp)) (fun p hp => ap' p (.tail _ (.tail _ (.tail _ (.tail _ hp)))))
end Mine
end

section
open PySem PySem.W PyProof.Rows PyProof.V PySem.Calls
namespace Mine
set_option hygiene false in
local macro_rules | `(tactic| k_ne) => `(tactic| (refine neN ?_; (try dsimp only); exact ad_ne))
set_option hygiene false in
local macro_rules | `(tactic| k_all) => `(tactic| assumption)
theorem truthy_one' {prog : Program} {w : World} {A : Around} {E : Value → Shared → Prop} {s : Shared} {h₀ : Heap} {L q : Addr} {news : List (Addr × Obj)} {y : Value} {n : Nat} {Q : Bool → Shared → Prop} (N : News h₀ L s.heap news) (hm : (q, W.listOf #[y] n) ∈ news)
    (h : Q true { s with toks := s.toks + 1 + 1 }) : wpAny (model prog w) A (truthy (.ref q)) Q E s := truthy_vs (vs := [y]) N hm (by simp) h
set_option hygiene false in
local macro_rules | `(tactic| walk_at "truthy ref") => `(tactic| (k_here; refine' truthy_one (by k_asm) (by k_mem) ?_))
local macro_rules | `(tactic| walk_at "call type:set") => `(tactic| (k_here; k_dflt (refine' call_set_oneN (by exact rfl) (by k_asm) (by k_asm) (by k_mem) ?_; k_whole; intro _ _ _ _ _ _ _ l1; (try k_lt l1); (try k_sweep))))
theorem in_one {prog : Program} {w : World} {A : Around} {E : Value → Shared → Prop} {s : Shared} {h₀ : Heap} {L S : Addr} {news : List (Addr × Obj)} {so : Obj} {P y : Str} {t : Tok} {Q : Value → Shared → Prop} (N : News h₀ L s.heap news) (hm : (S, so) ∈ news) (hO : OneSet prog w so P)
    (h : Q (.bool (decide (y = P))) { s with toks := s.toks + 1 }) : wpAny (model prog w) A (compareOp .In (.str y t) (.ref S)) Q E s :=
  wpAny_inSet_of (knd := PySem.strKind prog w) (k := y) (strKind_is _ _ _ _) rfl (hO.setObjOf.setOf (N _ hm).1 (by unfold scanBound; omega)) h
set_option hygiene false in
local macro_rules | `(tactic| walk_at "compareOp In str ref") => `(tactic| (k_here; k_dflt (refine' in_one (by k_asm) (by k_mem) (by k_asm) ?_)))
set_option hygiene false in
local macro_rules | `(tactic| walk_at "compareOp In str ref") => `(tactic| (k_here; k_dflt (refine' kda_in (knd := PySem.strKind _ _) (by k_asm) (by k_mem) (by k_asm) (by k_asm) (strKind_is _ _ _ _) false (by rw [‹valueAt _ _ = none›]; rfl) ?_)))
set_option hygiene false in
local macro_rules | `(tactic| walk_at "compareOp In str ref") => `(tactic| (k_here; k_dflt (refine' kda_in (knd := PySem.strKind _ _) (by k_asm) (by k_mem) (by k_asm) (by k_asm) (strKind_is _ _ _ _) true (by rw [‹valueAt _ _ = some _›]; rfl) ?_)))
set_option hygiene false in
local macro_rules | `(tactic| walk_at "subscriptTail") => `(tactic| (k_here; k_dflt (refine' kda_item (knd := PySem.strKind _ _) (by k_asm) (by k_mem) (by k_asm) (strKind_is _ _ _ _) (by assumption) ?_)))
set_option hygiene false in
local macro_rules | `(tactic| walk_at "pyIter ref") => `(tactic| refine unstop ?_)
theorem getItem_kda {prog : Program} {w : World} {A : Around} {E : Value → Shared → Prop} {s : Shared} {h₀ : Heap} {L d : Addr} {news : List (Addr × Obj)} {o : Obj} {kvs : List (Str × Value)} {k : Str} {t : Tok} {v : Value} {Q : Value → Shared → Prop} (N : News h₀ L s.heap news) (hm : (d, o) ∈ news) (hd : o.IsDictOf (PySem.strKind prog w) kvs) (hl : valueAt kvs k = some v)
    (h : Q v { s with toks := s.toks + 1 }) : wpAny (model prog w) A (getItem (.ref d) (.str k t)) Q E s := wpAny_getItem_of (strKind_is _ _ _ _) (kda_dict N hm hd).mapOf hl h
set_option hygiene false in
local macro_rules | `(tactic| walk_at "getItem ref str") => `(tactic| (k_here; k_dflt (refine' getItem_kda (by k_asm) (by k_mem) (by k_asm) (by assumption) ?_)))
local macro_rules | `(tactic| walk_at "setItem ref str") => `(tactic| (k_here; k_dflt (refine' kda_set (knd := PySem.strKind _ _) (by k_asm) (by k_asm) (by k_updF) (by k_asm) (strKind_is _ _ _ _) (by (rw [sizeLine_eq]; exact Nat.le_trans (by assumption) (Nat.le_of_ble_eq_true rfl))) ?_); intro _ _ _ N' _; (try dsimp only at N')))
set_option hygiene false in
local macro_rules | `(tactic| walk_at "binaryOp Add str str") => `(tactic| (k_here; (refine' KXadd.add (K := 100) (L := 1) (by assumption) (by exact Nat.le_of_ble_eq_true rfl) (by exact Nat.le_of_ble_eq_true rfl) ?_); intro _ _ _))
set_option hygiene false in
local macro_rules | `(tactic| walk_at "call builtin:str.startswith") => `(tactic| (k_here; refine SC.startswith ?_))
theorem val_stored {kvs : List (Str × Value)} {P two : Str} {t : Tok} (hn : valueAt kvs two = none) (hV : ∀ y v, valueAt kvs y = some v → y = Str.ofString "<string>" ∨ ∃ t, v = .int (tell P y) t) :
    ∀ y v, valueAt (stored kvs two (.int (tell P two) t)) y = some v → y = Str.ofString "<string>" ∨ ∃ t, v = .int (tell P y) t := fun y v h => by
  rw [stored_absent hn] at h
  unfold valueAt at h
  rw [List.find?_append] at h
  cases hf : kvs.find? (fun kv => kv.1 = y) with
  | some kv =>
    rw [hf] at h
    refine hV y v ?_
    unfold valueAt
    rw [hf]
    exact h
  | none =>
    rw [hf] at h
    by_cases e : two = y
    · subst e
      right
      simp at h
      exact ⟨t, h.symm⟩
    · simp [e] at h
set_option maxRecDepth 100000 in
set_option maxHeartbeats 8000000 in
theorem names_K (w : World) (mean : ExcName → Option Value) (mg mb : Str → Option Value) (dp un : Nat) (gd : Option (List Code)) (cn : Str) (cs : Scope) (a : Addr) (ccd : Value) (cl : List (Str × Addr)) (outer : List Env) (A₀ : Around) (base h₀ : Heap) (L : Addr) (m : Str → Option Value)
    (s : Shared) (Q E : Value → Shared → Prop) (r : RD) (two : Str) (t1 t2 : Tok) (Led : List (Addr × Obj))
    (B : Below A₀ base outer h₀) (F : Fr h₀ L s.heap m) (X : (Mine.hd.heap_1 w.params).In h₀) (N : News h₀ L s.heap (r.L ++ Led)) (hr : r.Ok w) (hlen : r.kvs.length ≤ 100) (hP : r.P.length ≤ 100) (hL : ∀ p ∈ Led, p.1 ≠ r.G) (h2 : two ≠ Str.ofString "<string>")
    (Tp : Top Qv (looseW Qv looseL) mean mg mb h₀) (hk : cs.kind = .function)
    (hd : dp + 6 < recursionLimit) (hu : un + 60 < cLine)
    (hret : ∀ (g : Obj) (kv : List (Str × Value)) t h' tk', ({ r with go := g, kvs := kv } : RD).Ok w → kv.length ≤ r.kvs.length + 1 → Fr h₀ L h' m → News h₀ L h' (({ r with go := g, kvs := kv } : RD).L ++ Led) → Q (.int (tell r.P two) t) { s with heap := h', toks := tk' }) :
    wpAny (model PySem.Challenge.rw_ik0096_01.row.prog w) (ktrTop dp un gd cn cs L a ccd cl outer) (call (.ref 308) [.ref r.x, .str (Str.ofString "f") t1, .str two t2]) Q E s := by
  obtain ⟨x, dx, S, D, G, H, T, so, go, kvs, P⟩ := r
  obtain ⟨hO, hD, hV, hlo, a1, a2, a3, g1, g2, g3, g4⟩ := hr
  simp only [RD.L, List.cons_append, List.nil_append] at N
  dsimp only at hO hD hV hlo a1 a2 a3 g1 g2 g3 g4 hlen hP hL hret ⊢
  have hSo := hO.setObjOf
  revert X; k_fill; intro X
  refine wpAny_call ?_
  k_dflt (refine' code_def (binds := [(Str.ofString "self", Value.ref x), (Str.ofString "filename", Value.str (Str.ofString "f") t1), (Str.ofString "modulename", Value.str two t2)]) ?k1 ?k2 ?k3 ?k4 ?k5 ?kA ?kF ?kK ?k6 ?k7 ?k8 ?k9 ?kB ?_ ?c2 ?c3 ?c4 ?c5; (case kA => exact rfl); (case kF => exact rfl); (case kK => first | assumption | rfl); (case k1 => k_asm); (case k2 => k_asm); (case k3 => k_asm); (case k4 => k_asm); (case k5 => k_asm); (case k6 => k_is); (case k7 => k_is); (case k8 => ktr_room); (case k9 => first | exact BindsTo.of_eq rfl | exact binds_K (by k_in) rfl (by k_is) rfl rfl rfl); (case c5 => decide); (case kB => exact locs rfl); (case c2 => exact rfl); (case c3 => exact rfl); (case c4 => exact rfl); k_whole; intro g' L' h' FG' F' N' B' X' T'; (try dsimp only); (try k_fold))
  cases hv : valueAt kvs two with
  | some v =>
    rcases hV two v hv with e | ⟨tv, rfl⟩
    · exact absurd e h2
    k_steps
    rename Fr _ _ _ _ => kF
    rename News _ _ _ _ => kN
    exact hret go kvs tv _ _ ⟨hO, hD, hV, hlo, a1, a2, a3, g1, g2, g3, g4⟩ (Nat.le_succ _) kF kN
  | none =>
    have hlen1 : kvs.length ≤ 100 := hlen
    k_steps
    · rename Fr _ _ _ _ => kF
      rename News _ _ _ _ => kN
      rename Obj.IsDictOf _ _ (stored _ _ _) => hd'
      have ht : tell P two = 1 := by simp [tell, tellB, ‹two = P›]
      rw [← ht] at hd' ⊢
      exact hret _ _ _ _ _ ⟨hO, hd', val_stored hv hV, hlo, a1, a2, a3, g1, g2, g3, g4⟩ (stored_length_le _ _ _) kF kN
    · rename ¬ _ = _ => hne
      rename News _ _ _ _ => N1
      refine lv_set (σ := Unit) (fun _ => (G, go) :: (D, W.listOf #[] 0) :: (S, so) :: (x, instObj 311 dx) :: (dx, dictOf (igE H T (.ref S) (.ref D) (.ref G)) 3) :: Led) (fun _ => []) [] (fun i _ => i = 1 → Txt.startswith two (P ++ Str.ofString ".") = false) () rfl hO (fun _ _ _ => .tail _ (.tail _ (.head _))) (by k_asm) N1 (fun p hp => absurd hp List.not_mem_nil) (fun e => absurd e (by decide)) (fun i c _ p hp => .inr hp) ?tu ?dn
      case tu =>
        intro I _ t5 u5 h5 tk5 ito hito _ hI F5 N5
        have hlen2 : kvs.length ≤ 100 := hlen
        have hP2 : P.length ≤ 100 := hP
        dsimp only [kstB] at F5
        have N6 : News g' L' h5 ((G, go) :: (D, W.listOf #[] 0) :: (S, so) :: (x, instObj 311 dx) :: (dx, dictOf (igE H T (.ref S) (.ref D) (.ref G)) 3) :: (I, ito) :: Led) := fun p hp => N5 p (by
          (iterate 5 (rcases List.mem_cons.mp hp with rfl | hp; · exact List.mem_append_left _ (by (repeat (first | exact List.Mem.head _ | apply List.Mem.tail)))))
          rcases List.mem_cons.mp hp with rfl | hp
          · exact List.mem_append_right _ (.head _)
          · exact List.mem_append_left _ (.tail _ (.tail _ (.tail _ (.tail _ (.tail _ hp))))))
        have hIG : @Ne Nat I G := Ne.symm (hI (G, go) (.head _))
        clear N5
        k_steps
        · rename Flow → Shared → Prop => qq
          show qq (Flow.ret (Value.int 1 _)) _
          k_steps
          rename Fr _ _ _ _ => kF
          rename News _ _ _ _ => kN
          rename Obj.IsDictOf _ _ (stored _ _ _) => hd'
          have ht : tell P two = 1 := by simp [tell, tellB, ‹Txt.startswith two _ = true›]
          rw [← ht] at hd' ⊢
          refine hret _ _ _ _ _ ⟨hO, hd', val_stored hv hV, hlo, a1, a2, a3, g1, g2, g3, g4⟩ (stored_length_le _ _ _) kF fun p hp => kN p ?_
          (refine sub_at hp ?_; (first | ((try dsimp only); with_reducible (repeat' (first | exact sub_refl | exact sub_nil | refine sub_take ?_ | refine sub_skip ?_)); done) | ((try dsimp only); with_reducible (repeat' (first | exact sub_refl | exact sub_nil | exact mem_hd | refine sub_take ?_ | refine sub_put ?_ ?_ | refine mem_tl ?_ | refine sub_skip ?_)); done) | ((try dsimp only); (repeat' (first | exact sub_refl | exact sub_nil | exact mem_hd | refine sub_take ?_ | refine sub_put ?_ ?_ | refine mem_tl ?_ | refine sub_skip ?_)); done)))
        · rename News _ _ _ _ => N7
          refine' lv_end (.inl rfl) () (by k_asm) N7 ?hn ?hi ?hk ?hr (fun _ => by assumption)
          case hn => first | ((try dsimp only); with_reducible (repeat' (first | exact sub_refl | exact sub_nil | refine sub_take ?_ | refine sub_skip ?_)); done) | ((try dsimp only); with_reducible (repeat' (first | exact sub_refl | exact sub_nil | exact mem_hd | refine sub_take ?_ | refine sub_put ?_ ?_ | refine mem_tl ?_ | refine sub_skip ?_)); done) | ((try dsimp only); (repeat' (first | exact sub_refl | exact sub_nil | exact mem_hd | refine sub_take ?_ | refine sub_put ?_ ?_ | refine mem_tl ?_ | refine sub_skip ?_)); done)
          case hi => (repeat (first | exact List.Mem.head _ | apply List.Mem.tail))
          case hk => intro p hp; exact absurd hp List.not_mem_nil
          case hr => intro z g1 g2 g3; simp only [g1, if_false, g3, Bool.false_eq_true]
      case dn =>
        intro _ u5 h5 tk5 hp F5 N5
        dsimp only [kstB] at F5
        have hlen2 : kvs.length ≤ 100 := hlen
        have hst := hp rfl
        k_steps
        refine lv_list (σ := Unit) (vs := []) (nn := 0) (l := D) (fun _ => (G, go) :: (D, W.listOf #[] 0) :: (S, so) :: (x, instObj 311 dx) :: (dx, dictOf (igE H T (.ref S) (.ref D) (.ref G)) 3) :: Led) (fun _ => []) [] (fun i _ => True) () rfl (fun _ _ _ => .tail _ (.head _)) (by k_asm) N5 (fun p hp => absurd hp List.not_mem_nil) trivial (fun i c _ p hp => .inr hp) (fun I i c v u h tk ito hito hi => absurd hi (Nat.not_lt_zero _)) ?dn2
        intro _ u6 h6 tk6 _ F6 N6
        dsimp only [kstB] at F6
        have hlen3 : kvs.length ≤ 100 := hlen
        k_steps
        rename Fr _ _ _ _ => kF
        rename News _ _ _ _ => kN
        rename Obj.IsDictOf _ _ (stored _ _ _) => hd'
        have ht : tell P two = 0 := by simp [tell, tellB, hst, hne]
        rw [← ht] at hd' ⊢
        exact hret _ _ _ _ _ ⟨hO, hd', val_stored hv hV, hlo, a1, a2, a3, g1, g2, g3, g4⟩ (stored_length_le _ _ _) kF kN
end Mine
end

section
open PySem PySem.W PyProof.Rows PyProof.V PySem.Calls
set_option maxRecDepth 100000
namespace Mine
/-- what evaluating one element leaves -/
noncomputable def CpOut {σ : Type} (h₀ : Heap) (L : Addr) (m : Str → Option Value) (s₁ : Shared) (own : List (Addr × Obj)) (Led : σ → List (Addr × Obj)) (J : Value → σ → Prop) (y : Value) (s₂ : Shared) : Prop :=
  ∃ c h' tk news', s₂ = { s₁ with heap := h', toks := tk } ∧ Fr h₀ L h' m ∧ News h₀ L h' news' ∧ (∀ p ∈ own, p ∈ news') ∧ (∀ p ∈ Led c, p ∈ news') ∧ (∀ p ∈ Led c, ∀ q ∈ own, @Ne Nat p.1 q.1) ∧ J y c
theorem cp_out {σ : Type} {h₀ : Heap} {L : Addr} {m : Str → Option Value} {s₁ : Shared} {own news' : List (Addr × Obj)} {Led : σ → List (Addr × Obj)} {J : Value → σ → Prop} {y : Value} {h' : Heap} {tk : Nat} (c : σ)
    (F : Fr h₀ L h' m) (N : News h₀ L h' news') (ho : ∀ p ∈ own, p ∈ news') (hn : ∀ p ∈ Led c, p ∈ news') (off : ∀ p ∈ Led c, ∀ q ∈ own, @Ne Nat p.1 q.1) (j : J y c) :
    CpOut h₀ L m s₁ own Led J y { s₁ with heap := h', toks := tk } := ⟨c, h', tk, news', rfl, F, N, ho, hn, off, j⟩
section
variable {prog : Program} {w : World} {A : Around} {s : Shared} {h₀ : Heap} {L : Addr} {m : Str → Option Value} {env : Env} {elt : Expr} {x : Str} {scope : Scope} {cl : List (Str × Addr)}
theorem comp_rest {σ : Type} {S : List (Addr × Obj) → Prop} {P : Nat → Value → Prop} {Fin : List Value → List (Addr × Obj) → Prop} {n : Nat} (Led : σ → List (Addr × Obj)) (Inv : Nat → List Value → σ → Prop) (hS : ∀ i ys c, Inv i ys c → S (Led c))
    (turn : ∀ i ys (c : σ) v I oI C oC D m₂ h tk (E' : Value → Shared → Prop), i < n → P i v → Inv i ys c → LCg.NsObj oC m₂ → m₂ x = some v → Fr h₀ L h m → News h₀ L h ((I, oI) :: (C, oC) :: (D, LCg.lst ys) :: Led c) → (∀ p ∈ Led c, ∀ q ∈ [(I, oI), (C, oC), (D, LCg.lst ys)], @Ne Nat p.1 q.1) → ((@Ne Nat I C) ∧ (@Ne Nat I D) ∧ (@Ne Nat C D)) →
      wpAny (model prog w) A (eval elt (compEnvC scope cl C env)) (CpOut h₀ L m { s with heap := h, toks := tk } [(I, oI), (C, oC), (D, LCg.lst ys)] Led (fun y c' => Inv (i + 1) (ys ++ [y]) c')) E' { s with heap := h, toks := tk })
    (fin : ∀ ys c, Inv n ys c → Fin ys (Led c)) : ∀ k i ys (c : σ), i + k = n → Inv i ys c → LCg.CompRest prog w A h₀ L m env elt x scope cl s S P Fin k i ys (Led c) := by
  intro k
  induction k with
  | zero =>
    intro i ys c hk hI
    have : i = n := by omega
    subst this
    exact LCg.CompRest.zero (fin ys c hI)
  | succ k ih =>
    intro i ys c hk hI
    refine LCg.CompRest.succ fun v I oI C oC D m₂ h tk E' hP hC hx F N off ne => ?_
    have off' : ∀ p ∈ Led c, ∀ q ∈ [(I, oI), (C, oC), (D, LCg.lst ys)], @Ne Nat p.1 q.1 := fun p hp q hq => by
      have := off.mem p hp
      simp only [List.mem_cons, List.not_mem_nil, or_false] at hq
      rcases hq with rfl | rfl | rfl
      · exact this.1
      · exact this.2.1
      · exact this.2.2
    refine wpAny_mono (turn i ys c v I oI C oC D m₂ h tk E' (by omega) hP hI hC hx F N off' ne) (fun y s₂ q => ?_) fun _ _ e => e
    obtain ⟨c', h', tk', news', rfl, F', N', ho, hn, off2, hJ⟩ := q
    refine LCg.CompEnd.intro F' N' (Led c') (fun p hp => ?_) (LCg.Off3.of fun p hp => ⟨off2 p hp _ (.head _), off2 p hp _ (.tail _ (.head _)), off2 p hp _ (.tail _ (.tail _ (.head _)))⟩) (hS _ _ _ hJ) (ih (i + 1) _ c' (by omega) hJ)
    rcases List.mem_cons.mp hp with rfl | hp
    · exact ho _ (.head _)
    · rcases List.mem_cons.mp hp with rfl | hp
      · exact ho _ (.tail _ (.head _))
      · rcases List.mem_cons.mp hp with rfl | hp
        · exact ho _ (.tail _ (.tail _ (.head _)))
        · exact hn p hp
theorem comp_range {σ : Type} {Fin : Shared → List Value → List (Addr × Obj) → Prop} {r : Addr} {a b : Int} {t u v : Tok} {n : Nat} (Led : σ → List (Addr × Obj)) (Inv : Nat → List Value → σ → Prop) (c₀ : σ)
    (hh : A.handled = none) (F : Fr h₀ L s.heap m) (N : News h₀ L s.heap (Led c₀)) (hr : IsRange s.heap r a b 1 t u v) (hsm : Builtin.Range.small a b 1 = true) (hn : Builtin.Range.rangeSize a b 1 = ((n : Nat) : Int)) (hsz : n ≤ 1000) (h0 : Inv 0 [] c₀)
    (turn : ∀ i ys (c : σ) t I oI C oC D m₂ h tk (E' : Value → Shared → Prop), i < n → Inv i ys c → LCg.NsObj oC m₂ → m₂ x = some (.int (a + (i : Int)) t) → Fr h₀ L h m → News h₀ L h ((I, oI) :: (C, oC) :: (D, LCg.lst ys) :: Led c) → (∀ p ∈ Led c, ∀ q ∈ [(I, oI), (C, oC), (D, LCg.lst ys)], @Ne Nat p.1 q.1) → ((@Ne Nat I C) ∧ (@Ne Nat I D) ∧ (@Ne Nat C D)) →
      wpAny (model prog w) A (eval elt (compEnvC scope cl C env)) (CpOut h₀ L m { s with heap := h, toks := tk } [(I, oI), (C, oC), (D, LCg.lst ys)] Led (fun y c' => Inv (i + 1) (ys ++ [y]) c')) E' { s with heap := h, toks := tk })
    (fin : ∀ g ys c, Inv n ys c → Fin { s with heap := g } ys (Led c)) : LCg.CompSrc prog w A h₀ L m env elt x scope cl Fin (.ref r) s := by
  refine LCg.CompSrc.range hh F N hr hsm hn (by rw [sizeLine_eq]; omega) fun g => ?_
  refine comp_rest (s := { s with heap := g }) Led Inv (fun _ _ _ _ => trivial) ?_ (fin g) n 0 [] c₀ (by omega) h0
  rintro i ys c v I oI C oC D m₂ h tk E' hi ⟨t', rfl⟩ hI hC hx F' N' off ne
  exact turn i ys c t' I oI C oC D m₂ h tk E' hi hI hC hx F' N' off ne
theorem comp_list {σ : Type} {Fin : Shared → List Value → List (Addr × Obj) → Prop} {ax : Addr} {vs : List Value} {k : Nat} (Led : σ → List (Addr × Obj)) (Inv : Nat → List Value → σ → Prop) (c₀ : σ)
    (hh : A.handled = none) (F : Fr h₀ L s.heap m) (N : News h₀ L s.heap (Led c₀)) (hl : ∀ i ys c, Inv i ys c → (ax, W.listOf vs.toArray k) ∈ Led c) (hsz : vs.length ≤ 1000) (h0 : Inv 0 [] c₀)
    (turn : ∀ i ys (c : σ) v I oI C oC D m₂ h tk (E' : Value → Shared → Prop), i < vs.length → vs[i]? = some v → Inv i ys c → LCg.NsObj oC m₂ → m₂ x = some v → Fr h₀ L h m → News h₀ L h ((I, oI) :: (C, oC) :: (D, LCg.lst ys) :: Led c) → (∀ p ∈ Led c, ∀ q ∈ [(I, oI), (C, oC), (D, LCg.lst ys)], @Ne Nat p.1 q.1) → ((@Ne Nat I C) ∧ (@Ne Nat I D) ∧ (@Ne Nat C D)) →
      wpAny (model prog w) A (eval elt (compEnvC scope cl C env)) (CpOut h₀ L m { s with heap := h, toks := tk } [(I, oI), (C, oC), (D, LCg.lst ys)] Led (fun y c' => Inv (i + 1) (ys ++ [y]) c')) E' { s with heap := h, toks := tk })
    (fin : ∀ g ys c, Inv vs.length ys c → Fin { s with heap := g } ys (Led c)) : LCg.CompSrc prog w A h₀ L m env elt x scope cl Fin (.ref ax) s := by
  have hs : vs.toArray.size = vs.length := List.size_toArray ..
  refine LCg.CompSrc.ledger (its := vs.toArray) (k := k) hh F N (hl 0 [] c₀ h0) (by rw [hs, sizeLine_eq]; omega) fun g => ?_
  rw [hs]
  refine comp_rest (s := { s with heap := g }) Led Inv (fun i ys c hI => .inr ⟨_, hl i ys c hI, rfl, _, rfl⟩) ?_ (fin g) vs.length 0 [] c₀ (by omega) h0
  intro i ys c v I oI C oC D m₂ h tk E' hi hv hI hC hx F' N' off ne
  exact turn i ys c v I oI C oC D m₂ h tk E' hi (by simpa using hv) hI hC hx F' N' off ne
end
end Mine
end

section
open PySem PySem.W PyProof.Rows PyProof.V PySem.Calls
namespace Mine
set_option hygiene false in
local macro_rules | `(tactic| k_ne) => `(tactic| (refine neN ?_; (try dsimp only); exact ad_ne))
set_option hygiene false in
local macro_rules | `(tactic| k_all) => `(tactic| assumption)
set_option hygiene false in
local macro_rules | `(tactic| walk_at "CompSrc") => `(tactic| refine unstop ?_)
theorem range_n {b : Int} {n : Nat} (h : b = n) : Builtin.Range.rangeSize 0 b 1 = (n : Int) := by
  subst h
  unfold Builtin.Range.rangeSize
  cases n with
  | zero => rfl
  | succ k => simp <;> omega
theorem item3 {prog : Program} {w : World} {A : Around} {E : Value → Shared → Prop} {s : Shared} {h₀ : Heap} {L l : Addr} {news : List (Addr × Obj)} {value slice : Expr} {a b c : Str} {t1 t2 t3 : Tok} {n : Nat} {i : Int} {u : Tok} {Q : Value → Shared → Prop} (N : News h₀ L s.heap news) (hm : (l, W.listOf #[.str a t1, .str b t2, .str c t3] n) ∈ news) (h0 : 0 ≤ i) (h1 : i < 3)
    (h : ∀ y t', (y = a ∨ y = b ∨ y = c) → Q (.str y t') s)
    (hs : subscripted slice false (.ref l) (.int i u) = operate [.ref l, .int i u] (getItem (.ref l) (.int i u)) := by with_unfolding_all rfl) :
    wpAny (model prog w) A (subscriptTail value slice (.ref l) (.int i u)) Q E s := by
  refine item_strs_at (vs := [.str a t1, .str b t2, .str c t3]) (xs := [a, b, c]) N hm (.cons _ _ (.cons _ _ (.cons _ _ .nil))) (by simp) h0 h1 (fun x t' e => h x t' ?_) hs
  have : i = 0 ∨ i = 1 ∨ i = 2 := by omega
  rcases this with rfl | rfl | rfl
  · exact .inl (Option.some.inj e).symm
  · exact .inr (.inl (Option.some.inj e).symm)
  · exact .inr (.inr (Option.some.inj e).symm)
set_option hygiene false in
local macro_rules | `(tactic| walk_at "subscriptTail") => `(tactic| (k_here; k_dflt (refine' item3 (by k_asm) (by k_mem) (by exact Int.fmod_nonneg_of_pos _ (by decide)) (by exact Int.fmod_lt_of_pos _ (by decide)) ?_); intro _ _ _))
set_option maxRecDepth 100000 in
set_option maxHeartbeats 8000000 in
theorem ln_K (w : World) (mean : ExcName → Option Value) (mg mb : Str → Option Value) (dp un : Nat) (gd : Option (List Code)) (cn : Str) (cs : Scope) (a : Addr) (ccd : Value) (cl : List (Str × Addr)) (outer : List Env) (A₀ : Around) (base h₀ : Heap) (L : Addr) (m : Str → Option Value)
    (s : Shared) (Q E : Value → Shared → Prop) (x : Int) (t : Tok) (Led : List (Addr × Obj))
    (B : Below A₀ base outer h₀) (F : Fr h₀ L s.heap m) (X : (Mine.hd.heap_1 w.params).In h₀) (N : News h₀ L s.heap Led)
    (Tp : Top Qv (looseW Qv looseL) mean mg mb h₀) (hk : cs.kind = .function)
    (hd : dp + 6 < recursionLimit) (hu : un + 60 < cLine)
    (hret : ∀ (ps : List Str) t' h' tk', 1 ≤ ps.length → ps.length ≤ 4 → (∀ p ∈ ps, p = Str.ofString "a" ∨ p = Str.ofString "b" ∨ p = Str.ofString "") → Fr h₀ L h' m → News h₀ L h' Led → Q (.str (Txt.join (Str.ofString ".") ps) t') { s with heap := h', toks := tk' }) :
    wpAny (model PySem.Challenge.rw_ik0096_01.row.prog w) (ktrTop dp un gd cn cs L a ccd cl outer) (call (.ref 320) [.int x t]) Q E s := by
  have hx0 : 0 ≤ x.fmod 4 := Int.fmod_nonneg_of_pos _ (by decide)
  have hx1 : x.fmod 4 < 4 := Int.fmod_lt_of_pos _ (by decide)
  obtain ⟨n, hn⟩ : ∃ n : Nat, 1 + x.fmod 4 = n := ⟨(1 + x.fmod 4).toNat, by omega⟩
  have hn1 : 1 ≤ n := by omega
  have hn4 : n ≤ 4 := by omega
  revert X; k_fill; intro X
  refine wpAny_call ?_
  k_dflt (refine' code_defC (binds := [(Str.ofString "x", Value.int x t)]) ?k1 ?k2 ?k3 ?k4 ?k5 ?kA ?kF ?kK ?k6 ?k7 ?k8 ?k9 ?kB ?kD ?_ ?c2 ?c3 ?c4; (case kA => exact rfl); (case kF => exact rfl); (case kK => first | assumption | rfl); (case k1 => k_asm); (case k2 => k_asm); (case k3 => k_asm); (case k4 => k_asm); (case k5 => k_asm); (case k6 => k_is); (case k7 => k_is); (case k8 => ktr_room); (case k9 => first | exact BindsTo.of_eq rfl | exact binds_K (by k_in) rfl (by k_is) rfl rfl rfl); (case kB => exact rfl); (case kD => decide +kernel); (case c2 => exact rfl); (case c3 => exact rfl); (case c4 => exact rfl); k_whole; intro g' L' h' tk' cells' FG' F' N' Y' B' X' T' lL; k_cells Y'; (try simp only [List.cons_append, List.nil_append] at N'); (try dsimp only); (try k_fold))
  k_steps
  rename IsRange _ _ _ _ _ _ _ _ => hR
  rename Fr _ _ _ _ => F1
  rename News _ _ _ _ => N1
  refine comp_range (σ := Unit) (n := n) (fun _ => _ :: Led) (fun i ys _ => ∃ ps : List Str, StrsAre ys ps ∧ ps.length = i ∧ ∀ p ∈ ps, p = Str.ofString "a" ∨ p = Str.ofString "b" ∨ p = Str.ofString "") () rfl F1 N1 hR (small_up (by omega) (by omega) (by omega) (by omega)) (range_n hn) (by omega) ⟨[], .nil, rfl, fun p hp => absurd hp List.not_mem_nil⟩ ?tu ?fi
  case tu =>
    intro i ys _ t2 I oI C oC D m₂ h2 tk2 E2 hi hPc1 hC hx F2 N2 off ne
    refine gen_post fun PoC hPoC => ?_
    obtain ⟨ps, hps, hpl, hpa⟩ := hPc1
    have hi4 : i = 0 ∨ i = 1 ∨ i = 2 ∨ i = 3 := by omega
    rcases hi4 with rfl | rfl | rfl | rfl
    · replace hx : m₂ (Str.ofString "k") = some (.int 0 t2) := hx
      k_steps
      rename News _ _ _ _ => N3
      rename (_ = _ ∨ _ = _ ∨ _ = _) => hy
      refine of_post hPoC ?_
      refine cp_out () (by k_asm) N3 ?_ ?_ off ⟨ps ++ [_], StrsAre.append' hps (.cons _ _ .nil), by simp [hpl], ?_⟩
      all_goals first
        | (first | ((try dsimp only); with_reducible (repeat' (first | exact sub_refl | exact sub_nil | refine sub_take ?_ | refine sub_skip ?_)); done) | ((try dsimp only); with_reducible (repeat' (first | exact sub_refl | exact sub_nil | exact mem_hd | refine sub_take ?_ | refine sub_put ?_ ?_ | refine mem_tl ?_ | refine sub_skip ?_)); done) | ((try dsimp only); (repeat' (first | exact sub_refl | exact sub_nil | exact mem_hd | refine sub_take ?_ | refine sub_put ?_ ?_ | refine mem_tl ?_ | refine sub_skip ?_)); done))
        | (intro p hp; rcases List.mem_append.mp hp with h | h; exact hpa p h; rw [List.mem_singleton.mp h]; exact hy)
    · replace hx : m₂ (Str.ofString "k") = some (.int 1 t2) := hx
      k_steps
      rename News _ _ _ _ => N3
      rename (_ = _ ∨ _ = _ ∨ _ = _) => hy
      refine of_post hPoC ?_
      refine cp_out () (by k_asm) N3 ?_ ?_ off ⟨ps ++ [_], StrsAre.append' hps (.cons _ _ .nil), by simp [hpl], ?_⟩
      all_goals first
        | (first | ((try dsimp only); with_reducible (repeat' (first | exact sub_refl | exact sub_nil | refine sub_take ?_ | refine sub_skip ?_)); done) | ((try dsimp only); with_reducible (repeat' (first | exact sub_refl | exact sub_nil | exact mem_hd | refine sub_take ?_ | refine sub_put ?_ ?_ | refine mem_tl ?_ | refine sub_skip ?_)); done) | ((try dsimp only); (repeat' (first | exact sub_refl | exact sub_nil | exact mem_hd | refine sub_take ?_ | refine sub_put ?_ ?_ | refine mem_tl ?_ | refine sub_skip ?_)); done))
        | (intro p hp; rcases List.mem_append.mp hp with h | h; exact hpa p h; rw [List.mem_singleton.mp h]; exact hy)
    · replace hx : m₂ (Str.ofString "k") = some (.int 2 t2) := hx
      k_steps
      rename News _ _ _ _ => N3
      rename (_ = _ ∨ _ = _ ∨ _ = _) => hy
      refine of_post hPoC ?_
      refine cp_out () (by k_asm) N3 ?_ ?_ off ⟨ps ++ [_], StrsAre.append' hps (.cons _ _ .nil), by simp [hpl], ?_⟩
      all_goals first
        | (first | ((try dsimp only); with_reducible (repeat' (first | exact sub_refl | exact sub_nil | refine sub_take ?_ | refine sub_skip ?_)); done) | ((try dsimp only); with_reducible (repeat' (first | exact sub_refl | exact sub_nil | exact mem_hd | refine sub_take ?_ | refine sub_put ?_ ?_ | refine mem_tl ?_ | refine sub_skip ?_)); done) | ((try dsimp only); (repeat' (first | exact sub_refl | exact sub_nil | exact mem_hd | refine sub_take ?_ | refine sub_put ?_ ?_ | refine mem_tl ?_ | refine sub_skip ?_)); done))
        | (intro p hp; rcases List.mem_append.mp hp with h | h; exact hpa p h; rw [List.mem_singleton.mp h]; exact hy)
    · replace hx : m₂ (Str.ofString "k") = some (.int 3 t2) := hx
      k_steps
      rename News _ _ _ _ => N3
      rename (_ = _ ∨ _ = _ ∨ _ = _) => hy
      refine of_post hPoC ?_
      refine cp_out () (by k_asm) N3 ?_ ?_ off ⟨ps ++ [_], StrsAre.append' hps (.cons _ _ .nil), by simp [hpl], ?_⟩
      all_goals first
        | (first | ((try dsimp only); with_reducible (repeat' (first | exact sub_refl | exact sub_nil | refine sub_take ?_ | refine sub_skip ?_)); done) | ((try dsimp only); with_reducible (repeat' (first | exact sub_refl | exact sub_nil | exact mem_hd | refine sub_take ?_ | refine sub_put ?_ ?_ | refine mem_tl ?_ | refine sub_skip ?_)); done) | ((try dsimp only); (repeat' (first | exact sub_refl | exact sub_nil | exact mem_hd | refine sub_take ?_ | refine sub_put ?_ ?_ | refine mem_tl ?_ | refine sub_skip ?_)); done))
        | (intro p hp; rcases List.mem_append.mp hp with h | h; exact hpa p h; rw [List.mem_singleton.mp h]; exact hy)
  case fi =>
    rintro g2 ys _ ⟨ps, hps, hpl, hpa⟩
    intro D h2 tk2 F2 N2 o2
    have hsum : (ps.map (·.length)).sum ≤ ps.length := by
      clear hps hpl
      induction ps with
      | nil => simp
      | cons p r ih =>
        have h1 := ih fun q hq => hpa q (.tail _ hq)
        have h2 : p.length ≤ 1 := by rcases hpa p (.head _) with rfl | rfl | rfl <;> decide
        simp only [List.map_cons, List.sum_cons, List.length_cons]; omega
    k_steps
    refine join_list (items := ys.toArray) (News.isList N2 (.head _)) (by simpa using hps) (by rw [show (Str.ofString ".").length = 1 from rfl]; omega) fun t9 k9 => ?_
    k_steps
    rename Fr _ _ _ _ => kF
    rename News _ _ _ _ => kN
    exact hret ps _ _ _ (by omega) (by omega) hpa kF (fun p hp => kN p (.tail _ (.tail _ hp)))
end Mine
end

section
open PySem PySem.W PyProof.Rows PyProof.V PySem.Calls
set_option maxRecDepth 100000
namespace Mine
theorem pick_up {vs : List Value} {y : Int} (h : 0 ≤ y) : slicePick vs.toArray none (some y) none = (vs.take y.toNat).toArray := by
  rw [kms_pick_eq]
  unfold kms_pick
  simp only [kms_lo, kms_hi, if_neg (show ¬ (y < 0) by omega), List.drop_zero, Nat.sub_zero]
  rw [kmk_take_min]
section
variable {prog : Program} {w : World} {A : Around} {E : Value → Shared → Prop} {s : Shared} {h₀ : Heap} {L l : Addr} {m : Str → Option Value} {news : List (Addr × Obj)} {value slice : PySem.Expr} {vs : List Value} {n : Nat} {vu : Value} {y : Int}
theorem take_K {Q : Value → Shared → Prop} (F : Fr h₀ L s.heap m) (N : News h₀ L s.heap news) (hm : (l, W.listOf vs.toArray n) ∈ news) (hz : vs.length ≤ 1000) (pl : IsPart .none none) (pu : IsPart vu (some y)) (hy : 0 ≤ y)
    (h : ∀ D h', Fr h₀ L h' m → News h₀ L h' ((D, W.listOf (vs.take y.toNat).toArray 0) :: news) → (∀ p ∈ news, p.1 < D) → Q (.ref D) { s with heap := h' })
    (hs : subscripted slice false (.ref l) (.ref s.heap.objs.size) = operate [.ref s.heap.objs.size, .ref l] (getItem (.ref l) (.ref s.heap.objs.size))) (ht : ∀ r, letTemporaryGo value (.ref l) r = pure ()) :
    wpAny (model prog w) A (subscriptTail value slice (.ref l) (.ref s.heap.objs.size)) Q E { s with heap := s.heap.push { cls := .type "slice", data := .fields #[.none, vu, .none] } } := by
  refine kmk_slice F N (News.isList N hm) pl pu (fun D h' F' N' l1 => h D h' F' ?_ l1) hs ht (by rw [List.size_toArray, sizeLine_eq]; omega)
  rw [← pick_up hy]
  exact N'
theorem split_K {x sp : Str} {t u : Tok} {Q : Value → Shared → Prop} (F : Fr h₀ L s.heap m) (N : News h₀ L s.heap news) (hy : (sp.length == 0) = false) (hx : x.length ≤ 1000)
    (h : ∀ D ws h' tk', StrsAre ws (Txt.split x sp) → Fr h₀ L h' m → News h₀ L h' ((D, W.listOf (List.toArray ws) 0) :: news) → (∀ p ∈ news, p.1 < D) → Q (.ref D) { s with heap := h', toks := tk' }) :
    wpAny (model prog w) A (call (.builtin "str.split") [.str x t, .str sp u]) Q E s :=
  splitN1 F N hy (fun l h' k e F' N' => h _ (strValues l) h' k (e ▸ strsAre_of_values l) F' N' fun p hp => Heap.lt_size (N p hp).1) (by rw [sizeLine_eq]; omega)
end
end Mine
end

section
open PySem PySem.W PyProof.Rows PyProof.V PySem.Calls
namespace Mine
/-- readers that lie apart -/
noncomputable def Apart (r r' : RD) : Prop := ∀ p ∈ r.L, ∀ q ∈ r'.L, @Ne Nat p.1 q.1
noncomputable def RdsOk (w : World) (n : Nat) (rs : List RD) : Prop := (∀ r ∈ rs, r.Ok w ∧ r.kvs.length ≤ n ∧ r.P.length ≤ 100) ∧ rs.Pairwise Apart
noncomputable def Away (rs : List RD) (Led : List (Addr × Obj)) : Prop := ∀ p ∈ Led, ∀ q ∈ rs.flatMap RD.L, @Ne Nat p.1 q.1
theorem off1_mem {D : Addr} : ∀ {l : List (Addr × Obj)}, LCg.Off1 D l → ∀ p ∈ l, @Ne Nat p.1 D
  | [], _, _, h => absurd h List.not_mem_nil
  | _ :: _, x, p, h => by
    rcases List.mem_cons.mp h with rfl | h
    · exact x.1
    · exact off1_mem x.2 p h
theorem apart_of {w : World} {r : RD} {Led : List (Addr × Obj)} (hr : r.Ok w) (h1 : ∀ p ∈ Led, @LT.lt Nat _ p.1 r.dx) (h2 : ∀ p ∈ Led, @Ne Nat p.1 r.G) : ∀ p ∈ Led, ∀ q ∈ r.L, @Ne Nat p.1 q.1 := by
  intro p hp q hq
  have e1 : @LT.lt Nat _ p.1 r.dx := h1 p hp
  have e2 : @Ne Nat p.1 r.G := h2 p hp
  have a1 := hr.a1
  have a2 := hr.a2
  have a3 := hr.a3
  simp only [RD.L, List.mem_cons, List.not_mem_nil, or_false] at hq
  rcases hq with rfl | rfl | rfl | rfl | rfl
  · exact e2
  · show @Ne Nat p.1 r.D; (first | exact ad_ne | omega)
  · show @Ne Nat p.1 r.S; (first | exact ad_ne | omega)
  · show @Ne Nat p.1 r.x; (first | exact ad_ne | omega)
  · show @Ne Nat p.1 r.dx; (first | exact ad_ne | omega)
theorem rds_snoc {w : World} {n : Nat} {rs : List RD} {r : RD} (h : RdsOk w n rs) (hr : r.Ok w) (hn : r.kvs.length ≤ n) (hP : r.P.length ≤ 100) (h1 : ∀ p ∈ rs.flatMap RD.L, @LT.lt Nat _ p.1 r.dx) (h2 : ∀ p ∈ rs.flatMap RD.L, @Ne Nat p.1 r.G) : RdsOk w n (rs ++ [r]) := by
  refine ⟨fun q hq => ?_, List.pairwise_append.mpr ⟨h.2, List.pairwise_singleton .., fun a ha b hb => ?_⟩⟩
  · rcases List.mem_append.mp hq with hq | hq
    · exact h.1 q hq
    · rw [List.mem_singleton.mp hq]; exact ⟨hr, hn, hP⟩
  · rw [List.mem_singleton.mp hb]
    intro p hp
    have hp' : p ∈ rs.flatMap RD.L := List.mem_flatMap.mpr ⟨a, ha, hp⟩
    exact apart_of hr (fun p hp => h1 p hp) (fun p hp => h2 p hp) p hp'
theorem join_le {y : Str} (hy : y.length ≤ 1) : ∀ {ps : List Str}, (∀ p ∈ ps, p.length ≤ 20) → (Txt.join y ps).length ≤ 21 * ps.length := by
  intro ps
  unfold Txt.join
  rw [StrLaws.glued_eq_join]
  induction ps with
  | nil => intro _; exact Nat.le_refl _
  | cons a r ih =>
    intro h
    have h1 := h a (.head _)
    have h2 := ih fun p hp => h p (.tail _ hp)
    cases r with
    | nil => show a.length ≤ _; simp only [List.length_cons, List.length_nil]; (first | exact ad_ne | omega)
    | cons b r => show (a ++ y ++ Str.join y (b :: r)).length ≤ _; simp only [Str.length_append, List.length_cons] at h2 ⊢; (first | exact ad_ne | omega)
theorem sum_le : ∀ {ps : List Str}, (∀ p ∈ ps, p.length ≤ 20) → (ps.map (·.length)).sum ≤ 20 * ps.length := by
  intro ps h
  induction ps with
  | nil => simp
  | cons p r ih =>
    have h1 := ih fun q hq => h q (.tail _ hq)
    have h2 := h p (.head _)
    simp only [List.map_cons, List.sum_cons, List.length_cons]; (first | exact ad_ne | omega)
set_option hygiene false in
local macro_rules | `(tactic| k_all) => `(tactic| assumption)
set_option hygiene false in
local macro_rules | `(tactic| walk_at "CompSrc") => `(tactic| refine unstop ?_)
local macro_rules | `(tactic| walk_at "call builtin:str.split") => `(tactic| (k_here; k_dflt (refine' split_K (by k_asm) (by k_asm) (by rfl) (by omega) ?_; k_whole; intro _ _ _ _ _ _ _ l1; (try k_lt l1); (try k_sweep))))
set_option hygiene false in
local macro_rules | `(tactic| walk_at "call builtin:len") => `(tactic| (k_here; k_dflt (refine' KM.len_K (by k_asm) (by k_mem) (by exact Eq.trans List.size_toArray (StrsAre.length (by assumption))) (by omega) ?_)))
local macro_rules | `(tactic| walk_at "subscriptTail Name Slice ref ref") => `(tactic| (k_here; k_dflt (refine' take_K (by k_asm) (by k_asm) (by k_mem) (by (rw [StrsAre.length (by assumption)]; omega)) (by kmk_part) (by kmk_part) (by omega) ?_ (by with_unfolding_all rfl) (by kmk_pure); k_whole; intro _ _ _ _ l1; (try k_lt l1); (try k_sweep))))
set_option hygiene false in
local macro_rules | `(tactic| walk_at "call builtin:str.join") => `(tactic| refine unstop ?_)
set_option hygiene false in
local macro_rules | `(tactic| walk_at "call ref") => `(tactic| with_reducible refine unstopR 311 ?_)
set_option maxRecDepth 100000 in
set_option maxHeartbeats 8000000 in
theorem lr_K (w : World) (mean : ExcName → Option Value) (mg mb : Str → Option Value) (dp un : Nat) (gd : Option (List Code)) (cn : Str) (cs : Scope) (a : Addr) (ccd : Value) (cl : List (Str × Addr)) (outer : List Env) (A₀ : Around) (base h₀ : Heap) (L : Addr) (m : Str → Option Value)
    (s : Shared) (Q E : Value → Shared → Prop) (nm : Str) (t : Tok) (ps : List Str) (Led : List (Addr × Obj))
    (B : Below A₀ base outer h₀) (F : Fr h₀ L s.heap m) (X : (Mine.hd.heap_1 w.params).In h₀) (N : News h₀ L s.heap Led)
    (hsp : Txt.split nm (Str.ofString ".") = ps) (h1 : 1 ≤ ps.length) (h4 : ps.length ≤ 4) (hnl : nm.length ≤ 60) (hpl : ∀ p ∈ ps, p.length ≤ 20)
    (Tp : Top Qv (looseW Qv looseL) mean mg mb h₀) (hk : cs.kind = .function)
    (hd : dp + 10 < recursionLimit) (hu : un + 100 < cLine)
    (hret : ∀ (D : Addr) (rs : List RD) h' tk', rs.length = ps.length → (∀ j r, rs[j]? = some r → r.P = Txt.join (Str.ofString ".") (ps.take (j + 1))) → RdsOk w 1 rs → Away rs Led → (∀ p ∈ rs.flatMap RD.L ++ Led, @Ne Nat p.1 D) → Fr h₀ L h' m → News h₀ L h' ((D, LCg.lst (rs.map (fun r => Value.ref r.x))) :: (rs.flatMap RD.L ++ Led)) → Q (.ref D) { s with heap := h', toks := tk' }) :
    wpAny (model PySem.Challenge.rw_ik0096_01.row.prog w) (ktrTop dp un gd cn cs L a ccd cl outer) (call (.ref 325) [.str nm t]) Q E s := by
  subst hsp
  revert X; k_fill; intro X
  refine wpAny_call ?_
  k_dflt (refine' code_defC (binds := [(Str.ofString "name", Value.str nm t)]) ?k1 ?k2 ?k3 ?k4 ?k5 ?kA ?kF ?kK ?k6 ?k7 ?k8 ?k9 ?kB ?kD ?_ ?c2 ?c3 ?c4; (case kA => exact rfl); (case kF => exact rfl); (case kK => first | assumption | rfl); (case k1 => k_asm); (case k2 => k_asm); (case k3 => k_asm); (case k4 => k_asm); (case k5 => k_asm); (case k6 => k_is); (case k7 => k_is); (case k8 => ktr_room); (case k9 => first | exact BindsTo.of_eq rfl | exact binds_K (by k_in) rfl (by k_is) rfl rfl rfl); (case kB => exact rfl); (case kD => decide +kernel); (case c2 => exact rfl); (case c3 => exact rfl); (case c4 => exact rfl); k_whole; intro g' L' h' tk' cells' FG' F' N' Y' B' X' T' lL; k_cells Y'; (try simp only [List.cons_append, List.nil_append] at N'); (try dsimp only); (try k_fold))
  have hLc : ∀ p ∈ Led, p.1 ≠ L' + 1 := fun p hp => Nat.ne_of_lt (Nat.lt_succ_of_lt (lL p hp))
  k_steps
  rename IsRange _ _ _ _ _ _ _ _ => hR
  rename Fr _ _ _ _ => F1
  rename News _ _ _ _ => N1
  rename StrsAre _ _ => hws
  rename_i Dp ws hh1 kk1 lt1 hh2 co FF2 NN2 dco hh3 kk3 ta tb tc st3
  generalize hps : Txt.split nm (Str.ofString ".") = ps at *
  refine comp_range (σ := List RD) (n := ps.length) (fun rs => (Dp, W.listOf ws.toArray 0) :: (L' + 1, co) :: (rs.flatMap RD.L ++ Led)) (fun i ys rs => rs.length = i ∧ ys = rs.map (fun r => Value.ref r.x) ∧ (∀ j r, rs[j]? = some r → r.P = Txt.join (Str.ofString ".") (ps.take (j + 1))) ∧ RdsOk w 1 rs ∧ Away rs ((Dp, W.listOf ws.toArray 0) :: (L' + 1, co) :: Led)) [] rfl F1 N1 hR (small_up (by (first | exact ad_ne | omega)) (by (first | exact ad_ne | omega)) (by (first | exact ad_ne | omega)) (by (first | exact ad_ne | omega))) (range_n rfl) (by (first | exact ad_ne | omega)) ⟨rfl, rfl, fun j r e => by simp at e, ⟨fun r hr => absurd hr List.not_mem_nil, .nil⟩, fun p hp q hq => absurd hq List.not_mem_nil⟩ ?tu ?fi
  case tu =>
    intro i ys rs t2 I oI C oC D m₂ h2 tk2 E2 hi hPc1 hC hx F2 N2 off ne
    refine gen_post fun PoC hPoC => ?_
    obtain ⟨hl, hys, hP, hok, hG⟩ := hPc1
    generalize hRest : rs.flatMap RD.L ++ Led = Rest at N2 off
    have hoff : ∀ p ∈ Rest, @Ne Nat p.1 I ∧ @Ne Nat p.1 C ∧ @Ne Nat p.1 D := fun p hp => ⟨off p (.tail _ (.tail _ hp)) _ (.head _), off p (.tail _ (.tail _ hp)) _ (.tail _ (.head _)), off p (.tail _ (.tail _ hp)) _ (.tail _ (.tail _ (.head _)))⟩
    k_steps
    rename News _ _ _ _ => N3
    rename (_ < _ ∧ _ < _ ∧ _ < _ ∧ _ < _ ∧ _ < _ ∧ AllLt _ _) => lt3
    refine join_list (items := (List.take (0 + (i : Int) + 1).toNat ws).toArray) (ys := ps.take (i + 1)) (News.isList N3 (.head _)) (by rw [show (0 + (i : Int) + 1).toNat = i + 1 by (first | exact ad_ne | omega)]; exact hws.take' (i + 1)) (by have := sum_le (fun p hp => hpl p (List.mem_of_mem_take (i := i + 1) hp)); rw [show (Str.ofString ".").length = 1 from rfl]; have := List.length_take_le (i + 1) ps; (first | exact ad_ne | omega)) fun t9 k9 => ?_
    have hPl : (Txt.join (Str.ofString ".") (List.take (i + 1) ps)).length ≤ 100 := by
      have := join_le (y := Str.ofString ".") (Nat.le_refl 1) (fun p hp => hpl p (List.mem_of_mem_take (i := i + 1) hp))
      have := List.length_take_le (i + 1) ps
      (first | exact ad_ne | omega)
    k_steps
    rename News _ _ _ _ => N4
    rename_i Dt hh5 Dl hh6 FF6 lt6
    refine' ig_new_K w mean mg mb _ _ _ _ _ _ _ _ _ _ _ _ _ _ _ _ _ _ _ _ _ _ ?kB ?kF ?kX N4 ?kT ?kk ?kd ?ku ?_
    case kB => k_asm
    case kF => k_asm
    case kX => k_asm
    case kT => k_asm
    case kk => rfl
    case kd => exact off_lt (m := 7) hd rfl
    case ku => exact off_lt (m := 63) hu rfl
    intro r h5 tk5 hrP hrO hrk F5 N5 u1 u2 u3
    have g1 : ∀ q ∈ [(I, oI), (C, oC), (D, LCg.lst ys)], q ∈ (Dl, W.listOf #[Value.str (Txt.join (Str.ofString ".") (List.take (i + 1) ps)) t9] 0) :: (Dt, W.listOf (List.take (0 + (i : Int) + 1).toNat ws).toArray 0) :: (I, oI) :: (C, oC) :: (D, LCg.lst ys) :: (Dp, W.listOf ws.toArray 0) :: (L' + 1, co) :: Rest := fun q hq => by
      refine .tail _ (.tail _ ?_)
      (refine sub_at hq ?_; (first | ((try dsimp only); with_reducible (repeat' (first | exact sub_refl | exact sub_nil | refine sub_take ?_ | refine sub_skip ?_)); done) | ((try dsimp only); with_reducible (repeat' (first | exact sub_refl | exact sub_nil | exact mem_hd | refine sub_take ?_ | refine sub_put ?_ ?_ | refine mem_tl ?_ | refine sub_skip ?_)); done) | ((try dsimp only); (repeat' (first | exact sub_refl | exact sub_nil | exact mem_hd | refine sub_take ?_ | refine sub_put ?_ ?_ | refine mem_tl ?_ | refine sub_skip ?_)); done)))
    have g2 : ∀ q ∈ (Dp, W.listOf ws.toArray 0) :: (L' + 1, co) :: Rest, q ∈ (Dl, W.listOf #[Value.str (Txt.join (Str.ofString ".") (List.take (i + 1) ps)) t9] 0) :: (Dt, W.listOf (List.take (0 + (i : Int) + 1).toNat ws).toArray 0) :: (I, oI) :: (C, oC) :: (D, LCg.lst ys) :: (Dp, W.listOf ws.toArray 0) :: (L' + 1, co) :: Rest := fun q hq => .tail _ (.tail _ (.tail _ (.tail _ (.tail _ hq))))
    have g3 : ∀ q ∈ (Dp, W.listOf ws.toArray 0) :: (L' + 1, co) :: ((rs ++ [r]).flatMap RD.L ++ Led), q ∈ (Dp, W.listOf ws.toArray 0) :: (L' + 1, co) :: Rest ∨ q ∈ r.L := fun q hq => by
      rcases List.mem_cons.mp hq with rfl | hq
      · exact .inl (.head _)
      rcases List.mem_cons.mp hq with rfl | hq
      · exact .inl (.tail _ (.head _))
      rw [List.flatMap_append] at hq
      rcases List.mem_append.mp hq with hq | hq
      · rcases List.mem_append.mp hq with hq | hq
        · exact .inl (.tail _ (.tail _ (hRest ▸ List.mem_append_left _ hq)))
        · rw [List.flatMap_singleton] at hq; exact .inr hq
      · exact .inl (.tail _ (.tail _ (hRest ▸ List.mem_append_right _ hq)))
    have g4 : ∀ q ∈ rs.flatMap RD.L, q ∈ (Dp, W.listOf ws.toArray 0) :: (L' + 1, co) :: Rest := fun q hq => .tail _ (.tail _ (hRest ▸ List.mem_append_left _ hq))
    have u2' : ∀ p ∈ (Dp, W.listOf ws.toArray 0) :: (L' + 1, co) :: Rest, @LT.lt Nat _ p.1 r.dx := fun p hp => u2 p (.tail _ (.tail _ (.tail _ (.tail _ hp))))
    have u3' : ∀ p ∈ (Dp, W.listOf ws.toArray 0) :: (L' + 1, co) :: Rest, @Ne Nat p.1 r.G := fun p hp => u3 p (g2 p hp)
    have g5 : ∀ p ∈ (Dp, W.listOf ws.toArray 0) :: (L' + 1, co) :: Led, p ∈ (Dp, W.listOf ws.toArray 0) :: (L' + 1, co) :: Rest := fun q hq => by
      rcases List.mem_cons.mp hq with rfl | hq
      · exact .head _
      rcases List.mem_cons.mp hq with rfl | hq
      · exact .tail _ (.head _)
      exact .tail _ (.tail _ (hRest ▸ List.mem_append_right _ hq))
    k_steps
    refine of_post hPoC ?_
    refine cp_out (rs ++ [r]) (by k_asm) N5 (fun q hq => List.mem_append_right _ (g1 q hq)) (fun q hq => ?_) (fun p hp q hq => ?_) ⟨by simp [hl], by simp [hys], fun j r' e => ?_, rds_snoc hok hrO hrk (hrP ▸ hPl) (fun p hp => u2' p (g4 p hp)) (fun p hp => u3' p (g4 p hp)), fun p hp q hq => ?_⟩
    · rcases g3 q hq with h | h
      · exact List.mem_append_right _ (g2 q h)
      · exact List.mem_append_left _ h
    · rcases g3 p hp with h | h
      · exact off p h q hq
      · refine Ne.symm (apart_of (Led := [(I, oI), (C, oC), (D, LCg.lst ys)]) hrO (fun z hz => ?_) (fun z hz => u3 z (g1 z hz)) q hq p h)
        refine u2 z ?_
        refine .tail _ ?_
        (refine sub_at hz ?_; (first | ((try dsimp only); with_reducible (repeat' (first | exact sub_refl | exact sub_nil | refine sub_take ?_ | refine sub_skip ?_)); done) | ((try dsimp only); with_reducible (repeat' (first | exact sub_refl | exact sub_nil | exact mem_hd | refine sub_take ?_ | refine sub_put ?_ ?_ | refine mem_tl ?_ | refine sub_skip ?_)); done) | ((try dsimp only); (repeat' (first | exact sub_refl | exact sub_nil | exact mem_hd | refine sub_take ?_ | refine sub_put ?_ ?_ | refine mem_tl ?_ | refine sub_skip ?_)); done)))
    · rcases Nat.lt_or_ge j rs.length with hj | hj
      · rw [List.getElem?_append_left hj] at e; exact hP j r' e
      · rw [List.getElem?_append_right hj] at e
        have hj0 : j - rs.length = 0 := by
          rcases Nat.eq_zero_or_pos (j - rs.length) with h | h
          · exact h
          · rw [List.getElem?_eq_none (by simp only [List.length_cons, List.length_nil]; (first | exact ad_ne | omega))] at e; cases e
        rw [hj0] at e
        obtain rfl : r = r' := Option.some.inj e
        obtain rfl : j = i := by (first | exact ad_ne | omega)
        exact hrP
    · rw [List.flatMap_append] at hq
      rcases List.mem_append.mp hq with hq | hq
      · exact hG p hp q hq
      · rw [List.flatMap_singleton] at hq
        exact apart_of (Led := (Dp, W.listOf ws.toArray 0) :: (L' + 1, co) :: Led) hrO (fun z hz => u2' z (g5 z hz)) (fun z hz => u3' z (g5 z hz)) p hp q hq
  case fi =>
    rintro g2 ys rs ⟨hl, hys, hP, hok, hG⟩
    intro D h2 tk2 F2 N2 o2
    generalize hRest : rs.flatMap RD.L ++ Led = Rest at N2 o2
    k_steps
    subst hys
    rename Fr _ _ _ _ => kF
    rename News _ _ _ _ => kN
    refine hret D rs _ _ hl hP hok (fun p hp q hq => hG p (.tail _ (.tail _ hp)) q hq) (fun p hp => off1_mem o2 p (.tail _ (.tail _ (hRest ▸ hp)))) kF (fun p hp => kN p ?_)
    rcases List.mem_cons.mp hp with rfl | hp
    · exact .head _
    · exact .tail _ (.tail _ (.tail _ (hRest ▸ hp)))
end Mine
end

section
open PySem PySem.W PyProof.Rows PyProof.V PySem.Calls PySem.Spec
set_option maxRecDepth 100000
namespace Mine
noncomputable def StrsOk (ns : List Str) : Prop := ∀ x ∈ ns, PyData.strOk x = true
theorem StrsOk.take {ns : List Str} (h : StrsOk ns) (k : Nat) : StrsOk (ns.take k) := fun x hx => h x (List.mem_of_mem_take hx)
theorem es_canLayAll0 (ns : List Str) (h : StrsOk ns) : PyData.canLayAll0 (ns.map PyData.str) = true := by
  rw [canLayAll_strs']; exact List.all_eq_true.mpr h
theorem es_depthAll : ∀ ns : List Str, PyData.depthAll (ns.map PyData.str) = 0
  | [] => rfl
  | _ :: r => by simp [PyData.depthAll, PyData.depth, es_depthAll r]
theorem es_shaped (ns : List Str) (h : StrsOk ns) : SeqAt.shaped (.list (ns.map PyData.str)) = true := by
  simp [SeqAt.shaped, PyData.canLay0, PyData.depth, es_canLayAll0 ns h, es_depthAll]
theorem es_sameAll : ∀ ns ms : List Str, PySem.Spec.sameAll (ns.map PyData.str) (ms.map PyData.str) = decide (ns = ms)
  | [], [] => by simp [PySem.Spec.sameAll]
  | [], _ :: _ => by simp [PySem.Spec.sameAll]
  | _ :: _, [] => by simp [PySem.Spec.sameAll]
  | a :: r, b :: t => by
    simp only [List.map_cons, PySem.Spec.sameAll, PySem.Spec.same, es_sameAll r t]
    by_cases h : a = b <;> by_cases h' : r = t <;> simp [h, h']
theorem es_same (ns ms : List Str) : PySem.Spec.same (.list (ns.map PyData.str)) (.list (ms.map PyData.str)) = decide (ns = ms) := by
  simp only [PySem.Spec.same]; exact es_sameAll ns ms
theorem es_carried : ∀ {vs : List Value} {ns : List Str}, StrsAre vs ns → CarriedAll vs (ns.map PyData.str)
  | _, _, .nil => .nil
  | _, _, .cons _ t r => .cons (.str _ t) (es_carried r)
theorem ints_at' : ∀ {vs : List Value} {ns : List Int} {i : Nat} {y : Int}, IntsAre vs ns → ns[i]? = some y → ∃ t, vs[i]? = some (.int y t)
  | _, _, i, y, .nil, e => by simp at e
  | _, _, 0, y, .cons a t r, e => ⟨t, by simp at e; subst e; rfl⟩
  | _, _, i + 1, y, .cons a t r, e => by
    obtain ⟨t', h⟩ := ints_at' r (i := i) (by simpa using e)
    exact ⟨t', by simpa using h⟩
section
variable {prog : Program} {w : World} {A : Around} {E : Value → Shared → Prop} {s : Shared} {a b : Addr} {xs ys : List Value} {ns ms : List Str} {h₀ : Heap} {L : Addr} {news : List (Addr × Obj)} {ka kb : Nat} {Q : Value → Shared → Prop}
theorem eq_strs (ha : s.heap.IsList a xs.toArray) (hb : s.heap.IsList b ys.toArray) (hi : StrsAre xs ns) (hj : StrsAre ys ms) (oi : StrsOk ns) (oj : StrsOk ms) (hu : A.units + 64 < cLine) (h : Q (.bool (decide (ns = ms))) s) :
    wpAny (model prog w) A (compareOp .Eq (.ref a) (.ref b)) Q E s :=
  eq_dataH_same (reads_newData ha (es_carried hi)) (reads_newData hb (es_carried hj)) (es_shaped _ oi) (es_shaped _ oj) hu (SeqAt.noMix_of_shape (.list .str) rfl _ _ (list_map_has fun _ => rfl) (list_map_has fun _ => rfl)) (by rw [es_same]; exact h)
theorem eq_strsN (N : News h₀ L s.heap news) (ma : (a, W.listOf xs.toArray ka) ∈ news) (mb : (b, W.listOf ys.toArray kb) ∈ news) (hi : StrsAre xs ns) (hj : StrsAre ys ms) (oi : StrsOk ns) (oj : StrsOk ms) (hu : A.units + 64 < cLine) (h : Q (.bool (decide (ns = ms))) s) :
    wpAny (model prog w) A (compareOp .Eq (.ref a) (.ref b)) Q E s := eq_strs (News.isList N ma) (News.isList N mb) hi hj oi oj hu h
theorem ne_intsN {is js : List Int} (N : News h₀ L s.heap news) (ma : (a, W.listOf xs.toArray ka) ∈ news) (mb : (b, W.listOf ys.toArray kb) ∈ news) (hi : IntsAre xs is) (hj : IntsAre ys js) (hu : A.units + 64 < cLine) (h : Q (.bool (!decide (is = js))) s) :
    wpAny (model prog w) A (compareOp .NotEq (.ref a) (.ref b)) Q E s := ke_ne_ints (News.isList N ma) (News.isList N mb) hi hj hu h
theorem eq_tupN {K : Frag} {C : Addr} {m : Str → Option Value} {dx : Addr} {is js : List Int} (X₀ : K.In h₀) (F : Fr h₀ L s.heap m) (hy : tupCls K C = true) (N : News h₀ L s.heap news) (ma : (a, { cls := .ref C, dict := some dx, data := .seq xs.toArray ka }) ∈ news) (mb : (b, tupO ys) ∈ news) (hi : IntsAre xs is) (hj : IntsAre ys js) (hu : A.units < cLine) (h : Q (.bool (decide (is = js))) s) :
    wpAny (model prog w) A (compareOp .Eq (.ref a) (.ref b)) Q E s :=
  tup_eq hi hj (tupAt N ma rfl rfl) ⟨_, (N _ mb).1, rfl, _, rfl⟩ (tupCls_of (X₀.keeps F.keep) hy) hu h
end
section
variable {prog : Program} {w : World} {A : Around} {E : Value → Shared → Prop} {s : Shared} {l : Addr} {vs : List Value} {h₀ : Heap} {L : Addr} {news : List (Addr × Obj)} {n : Nat} {Q : Value → Shared → Prop} {value slice : Expr} {u : Tok} {x : Value}
theorem item0 (N : News h₀ L s.heap news) (hm : (l, W.listOf vs.toArray n) ∈ news) (hx : vs[0]? = some x) (h : Q x s)
    (hs : subscripted slice false (.ref l) (.int 0 u) = operate [.ref l, .int 0 u] (getItem (.ref l) (.int 0 u)) := by with_unfolding_all rfl) :
    wpAny (model prog w) A (subscriptTail value slice (.ref l) (.int 0 u)) Q E s := by
  have hl : s.heap.IsList l vs.toArray := ⟨_, (N _ hm).1, rfl, n, rfl⟩
  exact tail_any hl.typeIs slot_list_getitem.lookup (wpAny_getItem_list hl (by decide) (by decide) (x := x) (by simpa using hx) h) hs
theorem item_last {ns : List Int} {y : Int} (N : News h₀ L s.heap news) (hm : (l, W.listOf vs.toArray n) ∈ news) (hi : IntsAre vs ns) (hx : ns[ns.length - 1]? = some y) (h : ∀ t, Q (.int y t) s)
    (hs : subscripted slice false (.ref l) (.int (-1) u) = operate [.ref l, .int (-1) u] (getItem (.ref l) (.int (-1) u)) := by with_unfolding_all rfl) :
    wpAny (model prog w) A (subscriptTail value slice (.ref l) (.int (-1) u)) Q E s := by
  have hl : s.heap.IsList l vs.toArray := ⟨_, (N _ hm).1, rfl, n, rfl⟩
  have hlt := (List.getElem?_eq_some_iff.mp hx).1
  have hlen := hi.length
  obtain ⟨t, e⟩ := ints_at' hi hx
  refine tail_any hl.typeIs slot_list_getitem.lookup (wpAny_getItem_list_neg hl (by decide) ?_ (by decide) (x := .int y t) ?_ (h t)) hs
  · rw [List.size_toArray]; omega
  · rw [List.size_toArray, show ((-1 : Int) + vs.length).toNat = ns.length - 1 by omega]
    simpa using e
end
/-- 1 where xa and xb begin with the same k parts -/
noncomputable def due (xa xb : List Str) (k : Nat) : Int := if xa.take k = xb.take k then 1 else 0
theorem take_eq_iff {xa xb : List Str} {k : Nat} : xa.take k = xb.take k ↔ ∀ t : Nat, t < k → xa[t]? = xb[t]? := by
  constructor
  · intro e t ht
    have := congrArg (·[t]?) e
    simpa [List.getElem?_take, ht] using this
  · intro h
    refine List.ext_getElem? fun t => ?_
    rw [List.getElem?_take, List.getElem?_take]
    by_cases ht : t < k
    · simp [ht, h t ht]
    · simp [ht]
theorem take_over {xa xb : List Str} {k : Nat} (ha : k ≤ xa.length) (hb : xb.length < k) : ¬ xa.take k = xb.take k := fun e => by
  have := congrArg List.length e
  simp only [List.length_take] at this
  omega
theorem flr_due {xa xb : List Str} {k : Nat} {bi bj bs : Int} (R : FlR xa xb 0 k 0 k bi bj bs) (ha : k ≤ xa.length) (hb : k ≤ xb.length) : [bi, bj, bs] = [0, 0, (k : Int)] ↔ xa.take k = xb.take k := by
  rw [take_eq_iff]
  constructor
  · intro e t ht
    injection e with e1 e
    injection e with e2 e
    injection e with e3 e
    have := R.best.s t (by omega) (by omega)
    simpa [atS, e1, e2] using this
  · intro h
    obtain ⟨a, b, c⟩ := R.full ⟨by omega, fun t h0 h1 => by
      have := h t.toNat (by omega)
      simpa [atS] using this⟩
    rw [a, b, c]; simp
theorem fullX_due {xa xb : List Str} : FullX xa xb ↔ xa.take xa.length = xb.take xa.length := by
  rcases Nat.lt_or_ge xb.length xa.length with h | h
  · constructor
    · rintro ⟨a, _⟩; omega
    · intro e; exact absurd e (take_over (Nat.le_refl _) h)
  · rw [take_eq_iff]
    constructor
    · rintro ⟨_, b⟩ t ht
      have := b t (by omega) (by omega)
      simpa [atS] using this
    · intro q
      refine ⟨by omega, fun t h0 h1 => ?_⟩
      have := q t.toNat (by omega)
      simpa [atS] using this
end Mine
end

section
open PySem PySem.W PyProof.Rows PyProof.V PySem.Calls
namespace Mine
set_option hygiene false in
local macro_rules | `(tactic| k_ne) => `(tactic| (refine neN ?_; (try dsimp only); exact ad_ne))
set_option hygiene false in
local macro_rules | `(tactic| k_all) => `(tactic| assumption)
set_option hygiene false in
local macro_rules | `(tactic| walk_at "compareOp Eq ref ref") => `(tactic| (k_here; k_dflt (refine' eq_tupN (C := 135) (by k_asm) (by k_asm) (by kernel_rfl) (by k_asm) (by k_mem) (by k_mem) (by repeat constructor) (by repeat constructor) (by ke_room) ?_)))
set_option hygiene false in
local macro_rules | `(tactic| walk_at "call ref") => `(tactic| with_reducible refine unstopR 196 ?_)
set_option maxRecDepth 100000 in
set_option maxHeartbeats 8000000 in
theorem seen_K (w : World) (mean : ExcName → Option Value) (mg mb : Str → Option Value) (dp un : Nat) (gd : Option (List Code)) (cn : Str) (cs : Scope) (a : Addr) (ccd : Value) (cl : List (Str × Addr)) (outer : List Env) (A₀ : Around) (base h₀ : Heap) (L : Addr) (m : Str → Option Value)
    (s : Shared) (Q E : Value → Shared → Prop) (H : Nat → Int) (T : Nat → Tok) (la lb d2 jk : Addr) (vmb vop vfb vpop : Value) (na nb : Nat) (M dM : Addr) (va vb : List Value) (xa xb : List Str) (Lb : List (Addr × Obj)) (D2 : Obj)
    (k : Nat) (t1 t2 : Tok) (led : Bool) (kvs : List (Str × Value))
    (B : Below A₀ base outer h₀) (F : Fr h₀ L s.heap m) (X : (Mine.hd.heap_1 w.params).In h₀) (N : News h₀ L s.heap ((M, instObj 242 dM) :: (dM, dictOf (smE H T (.ref la) (.ref lb) vmb vop vfb (.ref d2) (.ref jk) vpop) 10) :: (la, W.listOf va.toArray na) :: (lb, W.listOf vb.toArray nb) :: (jk, { cls := .type "set", dict := none, data := .set #[] 0 (.fresh 0 0 led) }) :: (d2, D2) :: Lb))
    (hD2 : D2.IsDictOf (PySem.strKind PySem.Challenge.rw_ik0096_01.row.prog w) kvs)
    (hB : B2J kvs xb Lb) (hlo : (d2 == sysModules) = false) (hz : Obj.SetObjOf (PySem.strKind PySem.Challenge.rw_ik0096_01.row.prog w) { cls := .type "set", dict := none, data := .set #[] 0 (.fresh 0 0 led) } (fun _ => false) 0)
    (ha : StrsAre va xa) (hb : StrsAre vb xb) (hsa : xa.length ≤ 4) (hsb : xb.length ≤ 4) (hka : k ≤ xa.length)
    (Tp : Top Qv (looseW Qv looseL) mean mg mb h₀) (hk : cs.kind = .function)
    (hd : dp + 10 < recursionLimit) (hu : un + 160 < cLine)
    (hret : ∀ t h' tk', Fr h₀ L h' m → News h₀ L h' ((M, instObj 242 dM) :: (dM, dictOf (smE H T (.ref la) (.ref lb) vmb vop vfb (.ref d2) (.ref jk) vpop) 10) :: (la, W.listOf va.toArray na) :: (lb, W.listOf vb.toArray nb) :: (jk, { cls := .type "set", dict := none, data := .set #[] 0 (.fresh 0 0 led) }) :: (d2, D2) :: Lb) → Q (.int (due xa xb k) t) { s with heap := h', toks := tk' }) :
    wpAny (model PySem.Challenge.rw_ik0096_01.row.prog w) (ktrTop dp un gd cn cs L a ccd cl outer) (call (.ref 332) [.ref M, .int (k : Int) t1, .int (xb.length : Int) t2]) Q E s := by
  revert X; k_fill; intro X
  refine wpAny_call ?_
  k_dflt (refine' code_def (binds := [(Str.ofString "matcher", Value.ref M), (Str.ofString "many", Value.int (k : Int) t1), (Str.ofString "right", Value.int (xb.length : Int) t2)]) ?k1 ?k2 ?k3 ?k4 ?k5 ?kA ?kF ?kK ?k6 ?k7 ?k8 ?k9 ?kB ?_ ?c2 ?c3 ?c4 ?c5; (case kA => exact rfl); (case kF => exact rfl); (case kK => first | assumption | rfl); (case k1 => k_asm); (case k2 => k_asm); (case k3 => k_asm); (case k4 => k_asm); (case k5 => k_asm); (case k6 => k_is); (case k7 => k_is); (case k8 => ktr_room); (case k9 => first | exact BindsTo.of_eq rfl | exact binds_K (by k_in) rfl (by k_is) rfl rfl rfl); (case c5 => decide); (case kB => exact locs rfl); (case c2 => exact rfl); (case c3 => exact rfl); (case c4 => exact rfl); k_whole; intro g' L' h' FG' F' N' B' X' T'; (try dsimp only); (try k_fold))
  rcases Nat.lt_or_ge xb.length k with hlt | hge
  · have hc : decide ((k : Int) > (xb.length : Int)) = true := decide_eq_true (by omega)
    k_steps
    rename Fr _ _ _ _ => kF
    rename News _ _ _ _ => kN
    have hdue : due xa xb k = 0 := if_neg (take_over hka hlt)
    rw [hdue] at hret
    exact hret _ _ _ kF kN
  · have hc : decide ((k : Int) > (xb.length : Int)) = false := decide_eq_false (by omega)
    k_steps
    rename News _ _ _ _ => N1
    refine' flm_K w mean mg mb _ _ _ _ _ _ _ _ _ _ _ _ _ _ _ _ _ H T la lb d2 jk vmb vop vfb vpop 10 na nb M dM va vb xa xb Lb D2 0 (k : Int) 0 (k : Int) _ _ _ _ led kvs ?kB ?kF ?kX N1 hD2 hB hlo hz ha hb hsa hsb (by omega) (by omega) (by omega) (by omega) (by omega) (by omega) ?kT ?kk ?kd ?ku ?_
    case kB => k_asm
    case kF => k_asm
    case kX => k_asm
    case kT => k_asm
    case kk => rfl
    case kd => exact off_lt (m := 5) hd rfl
    case ku => exact off_lt (m := 33) hu rfl
    intro x dx bi bj bs ti tj ts h3 tk3 R F3 N4 O4 lx
    by_cases hq : xa.take k = xb.take k
    · have hdue : due xa xb k = 1 := if_pos hq
      have hcmp : decide ([bi, bj, bs] = [0, 0, (k : Int)]) = true := decide_eq_true ((flr_due R hka hge).mpr hq)
      k_steps
      rename Fr _ _ _ _ => kF
      rename News _ _ _ _ => kN
      rw [hdue] at hret
      exact hret _ _ _ kF (fun p hp => kN p (.tail _ (.tail _ (.tail _ hp))))
    · have hdue : due xa xb k = 0 := if_neg hq
      have hcmp : decide ([bi, bj, bs] = [0, 0, (k : Int)]) = false := decide_eq_false fun e => hq ((flr_due R hka hge).mp e)
      k_steps
      rename Fr _ _ _ _ => kF
      rename News _ _ _ _ => kN
      rw [hdue] at hret
      exact hret _ _ _ kF (fun p hp => kN p (.tail _ (.tail _ (.tail _ hp))))
local macro_rules | `(tactic| walk_at "subscriptTail Name Slice ref ref") => `(tactic| (k_here; k_dflt (refine' take_K (by k_asm) (by k_asm) (by k_mem) (by (rw [StrsAre.length (by assumption)]; omega)) (by kmk_part) (by kmk_part) (by omega) ?_ (by with_unfolding_all rfl) (by kmk_pure); k_whole; intro _ _ _ _ l1; (try k_lt l1); (try k_sweep))))
set_option hygiene false in
local macro_rules | `(tactic| walk_at "compareOp Eq ref ref") => `(tactic| (k_here; k_dflt (refine' eq_strsN (by k_asm) (by k_mem) (by k_mem) (by exact StrsAre.take' (by assumption) _) (by exact StrsAre.take' (by assumption) _) (by exact StrsOk.take (by assumption) _) (by exact StrsOk.take (by assumption) _) (by ke_room) ?_)))
set_option maxRecDepth 100000 in
set_option maxHeartbeats 8000000 in
theorem due_K (w : World) (mean : ExcName → Option Value) (mg mb : Str → Option Value) (dp un : Nat) (gd : Option (List Code)) (cn : Str) (cs : Scope) (a : Addr) (ccd : Value) (cl : List (Str × Addr)) (outer : List Env) (A₀ : Around) (base h₀ : Heap) (L : Addr) (m : Str → Option Value)
    (s : Shared) (Q E : Value → Shared → Prop) (l1 l2 : Addr) (v1 v2 : List Value) (n1 n2 : Nat) (xa xb : List Str) (Led : List (Addr × Obj)) (k : Nat) (t1 : Tok)
    (B : Below A₀ base outer h₀) (F : Fr h₀ L s.heap m) (X : (Mine.hd.heap_1 w.params).In h₀) (N : News h₀ L s.heap ((l1, W.listOf v1.toArray n1) :: (l2, W.listOf v2.toArray n2) :: Led))
    (ha : StrsAre v1 xa) (hb : StrsAre v2 xb) (hsa : xa.length ≤ 4) (hsb : xb.length ≤ 4) (oa : StrsOk xa) (ob : StrsOk xb)
    (Tp : Top Qv (looseW Qv looseL) mean mg mb h₀) (hk : cs.kind = .function)
    (hd : dp + 10 < recursionLimit) (hu : un + 160 < cLine)
    (hret : ∀ t h' tk', Fr h₀ L h' m → News h₀ L h' ((l1, W.listOf v1.toArray n1) :: (l2, W.listOf v2.toArray n2) :: Led) → Q (.int (due xa xb k) t) { s with heap := h', toks := tk' }) :
    wpAny (model PySem.Challenge.rw_ik0096_01.row.prog w) (ktrTop dp un gd cn cs L a ccd cl outer) (call (.ref 339) [.ref l1, .ref l2, .int (k : Int) t1]) Q E s := by
  revert X; k_fill; intro X
  refine wpAny_call ?_
  k_dflt (refine' code_def (binds := [(Str.ofString "one", Value.ref l1), (Str.ofString "two", Value.ref l2), (Str.ofString "many", Value.int (k : Int) t1)]) ?k1 ?k2 ?k3 ?k4 ?k5 ?kA ?kF ?kK ?k6 ?k7 ?k8 ?k9 ?kB ?_ ?c2 ?c3 ?c4 ?c5; (case kA => exact rfl); (case kF => exact rfl); (case kK => first | assumption | rfl); (case k1 => k_asm); (case k2 => k_asm); (case k3 => k_asm); (case k4 => k_asm); (case k5 => k_asm); (case k6 => k_is); (case k7 => k_is); (case k8 => ktr_room); (case k9 => first | exact BindsTo.of_eq rfl | exact binds_K (by k_in) rfl (by k_is) rfl rfl rfl); (case c5 => decide); (case kB => exact locs rfl); (case c2 => exact rfl); (case c3 => exact rfl); (case c4 => exact rfl); k_whole; intro g' L' h' FG' F' N' B' X' T'; (try dsimp only); (try k_fold))
  by_cases hq : xa.take k = xb.take k
  · have hdue : due xa xb k = 1 := if_pos hq
    have hcmp : decide (xa.take (k : Int).toNat = xb.take (k : Int).toNat) = true := decide_eq_true hq
    k_steps
    rename Fr _ _ _ _ => kF
    rename News _ _ _ _ => kN
    rw [hdue] at hret
    exact hret _ _ _ kF (fun p hp => kN p (.tail _ (.tail _ hp)))
  · have hdue : due xa xb k = 0 := if_neg hq
    have hcmp : decide (xa.take (k : Int).toNat = xb.take (k : Int).toNat) = false := decide_eq_false hq
    k_steps
    rename Fr _ _ _ _ => kF
    rename News _ _ _ _ => kN
    rw [hdue] at hret
    exact hret _ _ _ kF (fun p hp => kN p (.tail _ (.tail _ hp)))
end Mine
end

section
open PySem PySem.W PyProof.Rows PyProof.V PySem.Calls
namespace Mine
noncomputable def RD.up (r : RD) (g : Obj) (kv : List (Str × Value)) : RD := { r with go := g, kvs := kv }
noncomputable def SameRs (rs rs' : List RD) : Prop := rs'.length = rs.length ∧ ∀ (i : Nat) (r : RD), rs[i]? = some r → ∃ g kv, rs'[i]? = some (r.up g kv)
theorem SameRs.refl (rs : List RD) : SameRs rs rs := ⟨rfl, fun _ r e => ⟨r.go, r.kvs, e⟩⟩
theorem SameRs.trans {a b c : List RD} (h : SameRs a b) (k : SameRs b c) : SameRs a c := ⟨k.1.trans h.1, fun i r e => by
  obtain ⟨g, kv, e2⟩ := h.2 i r e
  obtain ⟨g2, kv2, e3⟩ := k.2 i _ e2
  exact ⟨g2, kv2, e3⟩⟩
theorem SameRs.back {a b : List RD} (h : SameRs a b) {i : Nat} {r' : RD} (e : b[i]? = some r') : ∃ r g kv, a[i]? = some r ∧ r' = r.up g kv := by
  have hi : i < a.length := by
    have := (List.getElem?_eq_some_iff.mp e).1
    rw [h.1] at this; exact this
  obtain ⟨g, kv, e2⟩ := h.2 i _ (List.getElem?_eq_getElem hi)
  rw [e2] at e
  exact ⟨_, g, kv, List.getElem?_eq_getElem hi, (Option.some.inj e).symm⟩
theorem up_addr {r : RD} {g : Obj} {kv : List (Str × Value)} : ∀ p ∈ (r.up g kv).L, ∃ q ∈ r.L, q.1 = p.1 := fun p hp => by
  simp only [RD.L, RD.up, List.mem_cons, List.not_mem_nil, or_false] at hp
  rcases hp with rfl | rfl | rfl | rfl | rfl
  · exact ⟨_, .head _, rfl⟩
  · exact ⟨_, .tail _ (.head _), rfl⟩
  · exact ⟨_, .tail _ (.tail _ (.head _)), rfl⟩
  · exact ⟨_, .tail _ (.tail _ (.tail _ (.head _))), rfl⟩
  · exact ⟨_, .tail _ (.tail _ (.tail _ (.tail _ (.head _)))), rfl⟩
theorem mem_flat {rs : List RD} {p : Addr × Obj} : p ∈ rs.flatMap RD.L ↔ ∃ (i : Nat) (r : RD), rs[i]? = some r ∧ p ∈ r.L := by
  rw [List.mem_flatMap]
  constructor
  · rintro ⟨r, hr, hp⟩
    obtain ⟨i, e⟩ := List.mem_iff_getElem?.mp hr
    exact ⟨i, r, e, hp⟩
  · rintro ⟨i, r, e, hp⟩
    exact ⟨r, List.mem_iff_getElem?.mpr ⟨i, e⟩, hp⟩
theorem SameRs.addr {rs rs' : List RD} (h : SameRs rs rs') : ∀ p ∈ rs'.flatMap RD.L, ∃ q ∈ rs.flatMap RD.L, q.1 = p.1 := fun p hp => by
  obtain ⟨i, r', e, hp⟩ := mem_flat.mp hp
  obtain ⟨r, g, kv, e2, rfl⟩ := h.back e
  obtain ⟨q, hq, e3⟩ := up_addr p hp
  exact ⟨q, mem_flat.mpr ⟨i, r, e2, hq⟩, e3⟩
theorem SameRs.away {rs rs' : List RD} {Led : List (Addr × Obj)} (h : SameRs rs rs') (A : Away rs Led) : Away rs' Led := fun p hp q hq => by
  obtain ⟨q', hq', e⟩ := h.addr q hq
  rw [← e]; exact A p hp q' hq'
noncomputable def ApartL (rs : List RD) : Prop := ∀ (i j : Nat) (a b : RD), i ≠ j → rs[i]? = some a → rs[j]? = some b → Apart a b
theorem Apart.symm {a b : RD} (h : Apart a b) : Apart b a := fun p hp q hq => Ne.symm (h q hq p hp)
theorem apartL_of {rs : List RD} (h : rs.Pairwise Apart) : ApartL rs := by
  intro i j a b hne ei ej
  obtain ⟨hi, rfl⟩ := List.getElem?_eq_some_iff.mp ei
  obtain ⟨hj, rfl⟩ := List.getElem?_eq_some_iff.mp ej
  rw [List.pairwise_iff_getElem] at h
  rcases Nat.lt_or_gt_of_ne hne with q | q
  · exact h i j hi hj q
  · exact (h j i hj hi q).symm
theorem SameRs.apartL {rs rs' : List RD} (h : SameRs rs rs') (A : ApartL rs) : ApartL rs' := by
  intro i j a b hne ei ej p hp q hq
  obtain ⟨r, g, kv, e1, rfl⟩ := h.back ei
  obtain ⟨r2, g2, kv2, e2, rfl⟩ := h.back ej
  obtain ⟨p', hp', e3⟩ := up_addr p hp
  obtain ⟨q', hq', e4⟩ := up_addr q hq
  rw [← e3, ← e4]
  exact A i j r r2 hne e1 e2 p' hp' q' hq'
theorem SameRs.set {rs c : List RD} (h : SameRs rs c) {i : Nat} {r : RD} (e : c[i]? = some r) (g : Obj) (kv : List (Str × Value)) : SameRs rs (c.set i (r.up g kv)) := by
  refine h.trans ⟨List.length_set, fun j r2 e2 => ?_⟩
  by_cases hj : i = j
  · subst hj
    rw [e] at e2
    obtain rfl := Option.some.inj e2
    exact ⟨g, kv, by rw [List.getElem?_set_self (List.getElem?_eq_some_iff.mp e).1]⟩
  · exact ⟨r2.go, r2.kvs, by rw [List.getElem?_set_ne hj]; exact e2⟩
theorem set_flat {c : List RD} {i : Nat} {r' : RD} {p : Addr × Obj} (hp : p ∈ (c.set i r').flatMap RD.L) : p ∈ r'.L ∨ p ∈ (c.eraseIdx i).flatMap RD.L := by
  obtain ⟨j, a, e, hp⟩ := mem_flat.mp hp
  by_cases hj : i = j
  · subst hj
    have hlt : i < c.length := by have := (List.getElem?_eq_some_iff.mp e).1; rwa [List.length_set] at this
    rw [List.getElem?_set_self hlt] at e
    obtain rfl := Option.some.inj e
    exact .inl hp
  · rw [List.getElem?_set_ne hj] at e
    exact .inr (List.mem_flatMap.mpr ⟨a, List.mem_eraseIdx_iff_getElem?.mpr ⟨j, Ne.symm hj, e⟩, hp⟩)
theorem erase_flat {c : List RD} {i : Nat} {p : Addr × Obj} (hp : p ∈ (c.eraseIdx i).flatMap RD.L) : ∃ (j : Nat) (a : RD), i ≠ j ∧ c[j]? = some a ∧ p ∈ a.L := by
  obtain ⟨a, ha, hp⟩ := List.mem_flatMap.mp hp
  obtain ⟨j, hj, e⟩ := List.mem_eraseIdx_iff_getElem?.mp ha
  exact ⟨j, a, Ne.symm hj, e, hp⟩
theorem erase_sub {c : List RD} {i : Nat} : ∀ p ∈ (c.eraseIdx i).flatMap RD.L, p ∈ c.flatMap RD.L := fun p hp => by
  obtain ⟨j, a, _, e, h⟩ := erase_flat hp
  exact mem_flat.mpr ⟨j, a, e, h⟩
theorem erase_off {c : List RD} {i : Nat} {r : RD} (A : ApartL c) (e : c[i]? = some r) : ∀ p ∈ (c.eraseIdx i).flatMap RD.L, @Ne Nat p.1 r.G := fun p hp => by
  obtain ⟨j, a, hj, e2, h⟩ := erase_flat hp
  exact A j i a r (Ne.symm hj) e2 e p h (r.G, r.go) (.head _)
/-- what the matcher holds for a list -/
noncomputable def VaOk (va : Value) (Led : List (Addr × Obj)) : Prop := (∃ e t, va = .str e t) ∨ ∃ la n vl, va = .ref la ∧ (la, W.listOf (List.toArray vl) n) ∈ Led
set_option maxHeartbeats 1000000 in
theorem set_seq1_W (w : World) (mean : ExcName → Option Value) (mg mb : Str → Option Value) (dp un : Nat) (gd : Option (List Code)) (cn : Str) (cs : Scope) (a : Addr) (ccd : Value) (cl : List (Str × Addr)) (outer : List Env) (A₀ : Around) (base h₀ : Heap) (L : Addr) (m : Str → Option Value)
    (s : Shared) (Q E : Value → Shared → Prop) (H : Nat → Int) (T : Nat → Tok) (va vb vmb vop vfb vb2j vjunk vpop : Value) (M dM la' : Addr) (na' : Nat) (va' : List Value) (Lr : List (Addr × Obj))
    (B : Below A₀ base outer h₀) (F : Fr h₀ L s.heap m) (X : (Mine.hd.heap_1 w.params).In h₀) (N : News h₀ L s.heap ((M, instObj 242 dM) :: (dM, dictOf (smE' H T va vb vmb vop vfb vb2j vjunk vpop) 10) :: (la', W.listOf va'.toArray na') :: Lr))
    (hv : VaOk va Lr) (hM : @Ne Nat M dM) (hMa : @Ne Nat la' dM) (hnew : ∀ p ∈ Lr, @Ne Nat la' p.1) (hLr : ∀ p ∈ Lr, p.1 ≠ dM)
    (Tp : Top Qv (looseW Qv looseL) mean mg mb h₀) (hk : cs.kind = .function)
    (hd : dp + 3 < recursionLimit) (hu : un + 20 < cLine)
    (hret : ∀ h' tk', Fr h₀ L h' m → News h₀ L h' ((M, instObj 242 dM) :: (dM, dictOf (smE' H T (.ref la') vb .none .none vfb vb2j vjunk vpop) 10) :: (la', W.listOf va'.toArray na') :: Lr) → Q .none { s with heap := h', toks := tk' }) :
    wpAny (model PySem.Challenge.rw_ik0096_01.row.prog w) (ktrTop dp un gd cn cs L a ccd cl outer) (call (.ref 174) [.ref M, .ref la']) Q E s := by
  rcases hv with ⟨e, t, rfl⟩ | ⟨la, n, vl, rfl, hm⟩
  · exact set_seq1_S w mean mg mb dp un gd cn cs a ccd cl outer A₀ base h₀ L m s Q E H T e t vb vmb vop vfb vb2j vjunk vpop M dM la' na' va' Lr B F X N hM hMa hLr Tp hk hd hu hret
  · refine set_seq1_K w mean mg mb dp un gd cn cs a ccd cl outer A₀ base h₀ L m s Q E H T la n vl vb vmb vop vfb vb2j vjunk vpop M dM la' na' va' Lr B F X (fun p hp => N p ?_) hM hMa (hLr _ hm) (hnew _ hm) hLr Tp hk hd hu (fun h' tk' F' N' => hret h' tk' F' fun p hp => N' p ?_)
    · rcases List.mem_cons.mp hp with rfl | hp
      · exact .head _
      rcases List.mem_cons.mp hp with rfl | hp
      · exact .tail _ (.head _)
      rcases List.mem_cons.mp hp with rfl | hp
      · exact .tail _ (.tail _ (.head _))
      rcases List.mem_cons.mp hp with rfl | hp
      · exact .tail _ (.tail _ (.tail _ hm))
      · exact .tail _ (.tail _ (.tail _ hp))
    · rcases List.mem_cons.mp hp with rfl | hp
      · exact .head _
      rcases List.mem_cons.mp hp with rfl | hp
      · exact .tail _ (.head _)
      rcases List.mem_cons.mp hp with rfl | hp
      · exact .tail _ (.tail _ (.head _))
      · exact .tail _ (.tail _ (.tail _ (.tail _ hp)))
example : @smE = @smE' := rfl
end Mine
end

section
open PySem PySem.W PyProof.Rows PyProof.V PySem.Calls
namespace Mine
set_option hygiene false in
local macro_rules | `(tactic| k_ne) => `(tactic| (refine neN ?_; (try dsimp only); exact ad_ne))
theorem news_cons {h₀ h : Heap} {L : Addr} {led : List (Addr × Obj)} {p : Addr × Obj} (N : News h₀ L h led) (hp : p ∈ led) : News h₀ L h (p :: led) := fun q hq => by
  rcases List.mem_cons.mp hq with rfl | hq
  · exact N _ hp
  · exact N _ hq
theorem range_snoc {f : Nat → Int} {i : Nat} : (List.range (i + 1)).map f = (List.range i).map f ++ [f i] := by
  rw [List.range_succ, List.map_append]; rfl
theorem ne_ints_same {prog : Program} {w : World} {A : Around} {E : Value → Shared → Prop} {s : Shared} {a b : Addr} {xs ys : List Value} {h₀ : Heap} {L : Addr} {news : List (Addr × Obj)} {ka kb : Nat} {Q : Value → Shared → Prop} {is : List Int} (N : News h₀ L s.heap news) (ma : (a, W.listOf xs.toArray ka) ∈ news) (mb : (b, W.listOf ys.toArray kb) ∈ news) (hi : IntsAre xs is) (hj : IntsAre ys is) (hu : A.units + 64 < cLine) (h : Q (.bool false) s) :
    wpAny (model prog w) A (compareOp .NotEq (.ref a) (.ref b)) Q E s := ne_intsN N ma mb hi hj hu (by rw [decide_eq_true rfl]; exact h)
set_option hygiene false in
local macro_rules | `(tactic| k_all) => `(tactic| assumption)
set_option hygiene false in
local macro_rules | `(tactic| walk_at "subscriptTail") => `(tactic| (k_here; (with_reducible show wpAny _ _ (subscriptTail _ _ (Value.ref _) (Value.int (-1) _)) _ _ _); k_dflt (refine' item_last (by k_asm) (by k_mem) (by assumption) (by assumption) ?_); intro _))
set_option hygiene false in
local macro_rules | `(tactic| walk_at "subscriptTail") => `(tactic| (k_here; (with_reducible show wpAny _ _ (subscriptTail _ _ (Value.ref _) (Value.int 0 _)) _ _ _); k_dflt (refine' item0 (by k_asm) (by k_mem) (by assumption) ?_)))
set_option hygiene false in
local macro_rules | `(tactic| walk_at "compareOp Eq ref ref") => `(tactic| (k_here; k_dflt (refine' eq_tupN (C := 135) (by k_asm) (by k_asm) (by kernel_rfl) (by k_asm) (by k_mem) (by k_mem) (by repeat constructor) (by repeat constructor) (by ke_room) ?_)))
set_option hygiene false in
local macro_rules | `(tactic| walk_at "compareOp NotEq ref ref") => `(tactic| (k_here; k_dflt (refine' ne_ints_same (by k_asm) (by k_mem) (by k_mem) (by assumption) (by assumption) (by ke_room) ?_)))
set_option hygiene false in
local macro_rules | `(tactic| walk_at "CompSrc") => `(tactic| refine unstop ?_)
local macro_rules | `(tactic| walk_at "call builtin:str.split") => `(tactic| (k_here; k_dflt (refine' split_K (by k_asm) (by k_asm) (by rfl) (by omega) ?_; k_whole; intro _ _ _ _ _ _ _ l1; (try k_lt l1); (try k_sweep))))
set_option hygiene false in
local macro_rules | `(tactic| walk_at "call builtin:len") => `(tactic| (k_here; k_dflt (refine' KM.len_K (by k_asm) (by k_mem) (by exact Eq.trans List.size_toArray (StrsAre.length (by assumption))) (by omega) ?_)))
set_option hygiene false in
local macro_rules | `(tactic| walk_at "call ref") => `(tactic| with_reducible refine unstopR 174 ?_)
set_option hygiene false in
local macro_rules | `(tactic| walk_at "call ref") => `(tactic| with_reducible refine unstopR 339 ?_)
set_option hygiene false in
local macro_rules | `(tactic| walk_at "call ref") => `(tactic| with_reducible refine unstopR 332 ?_)
set_option hygiene false in
local macro_rules | `(tactic| walk_at "call ref") => `(tactic| with_reducible refine unstopR 308 ?_)
set_option hygiene false in
local macro_rules | `(tactic| walk_at "call ref") => `(tactic| with_reducible refine unstopR 203 ?_)
set_option maxRecDepth 100000 in
set_option maxHeartbeats 8000000 in
theorem right_K (w : World) (mean : ExcName → Option Value) (mg mb : Str → Option Value) (dp un : Nat) (gd : Option (List Code)) (cn : Str) (cs : Scope) (a : Addr) (ccd : Value) (cl : List (Str × Addr)) (outer : List Env) (A₀ : Around) (base h₀ : Heap) (L : Addr) (m : Str → Option Value)
    (s : Shared) (Q E : Value → Shared → Prop) (H : Nat → Int) (T : Nat → Tok) (va : Value) (lb d2 jk rl : Addr) (vmb vop vfb vpop : Value) (nb nr n : Nat) (M dM : Addr) (vb : List Value) (one two : Str) (t1 t2 : Tok) (rs : List RD) (Rest : List (Addr × Obj)) (D2 : Obj) (led : Bool) (kvs : List (Str × Value))
    (B : Below A₀ base outer h₀) (F : Fr h₀ L s.heap m) (X : (Mine.hd.heap_1 w.params).In h₀) (N : News h₀ L s.heap ((M, instObj 242 dM) :: (dM, dictOf (smE' H T va (.ref lb) vmb vop vfb (.ref d2) (.ref jk) vpop) 10) :: (rl, W.listOf (rs.map (fun r => Value.ref r.x)).toArray nr) :: (lb, W.listOf vb.toArray nb) :: (jk, { cls := .type "set", dict := none, data := .set #[] 0 (.fresh 0 0 led) }) :: (d2, D2) :: (rs.flatMap RD.L ++ Rest)))
    (hv : VaOk va Rest) (hD2 : D2.IsDictOf (PySem.strKind PySem.Challenge.rw_ik0096_01.row.prog w) kvs)
    (hB : B2J kvs (Txt.split two (Str.ofString ".")) Rest) (hlo : (d2 == sysModules) = false) (hz : Obj.SetObjOf (PySem.strKind PySem.Challenge.rw_ik0096_01.row.prog w) { cls := .type "set", dict := none, data := .set #[] 0 (.fresh 0 0 led) } (fun _ => false) 0)
    (hb : StrsAre vb (Txt.split two (Str.ofString "."))) (hA1 : 1 ≤ (Txt.split one (Str.ofString ".")).length) (hA4 : (Txt.split one (Str.ofString ".")).length ≤ 4) (hB4 : (Txt.split two (Str.ofString ".")).length ≤ 4) (oa : StrsOk (Txt.split one (Str.ofString "."))) (ob : StrsOk (Txt.split two (Str.ofString "."))) (hl1 : one.length ≤ 60) (hl2 : two.length ≤ 60)
    (htwo : two ≠ Str.ofString "<string>") (hrl : rs.length = (Txt.split one (Str.ofString ".")).length) (hok : ∀ r ∈ rs, r.Ok w ∧ r.kvs.length ≤ n ∧ r.P.length ≤ 100) (hn : n + 4 ≤ 100) (hAp : ApartL rs)
    (htell : rs.map (fun r => tell r.P two) = (List.range (Txt.split one (Str.ofString ".")).length).map (fun j => due (Txt.split one (Str.ofString ".")) (Txt.split two (Str.ofString ".")) (j + 1)))
    (hdM : ∀ p ∈ ((M, instObj 242 dM) :: (rl, W.listOf (rs.map (fun r => Value.ref r.x)).toArray nr) :: (lb, W.listOf vb.toArray nb) :: (jk, { cls := .type "set", dict := none, data := .set #[] 0 (.fresh 0 0 led) }) :: (d2, D2) :: Rest), @Ne Nat p.1 dM) (hdR : ∀ p ∈ rs.flatMap RD.L, @Ne Nat p.1 dM) (hAw : Away rs ((M, instObj 242 dM) :: (rl, W.listOf (rs.map (fun r => Value.ref r.x)).toArray nr) :: (lb, W.listOf vb.toArray nb) :: (jk, { cls := .type "set", dict := none, data := .set #[] 0 (.fresh 0 0 led) }) :: (d2, D2) :: Rest))
    (Tp : Top Qv (looseW Qv looseL) mean mg mb h₀) (hk : cs.kind = .function)
    (hd : dp + 20 < recursionLimit) (hu : un + 200 < cLine)
    (hret : ∀ (la : Addr) (na : Nat) (wa : List Value) (vmb' : Value) (c : List RD) h' tk', SameRs rs c → (∀ r ∈ c, r.Ok w ∧ r.kvs.length ≤ n + 4 ∧ r.P.length ≤ 100) → StrsAre wa (Txt.split one (Str.ofString ".")) →
      (∀ p ∈ ((M, instObj 242 dM) :: (dM, dictOf (smE' H T va (.ref lb) vmb vop vfb (.ref d2) (.ref jk) vpop) 10) :: (rl, W.listOf (rs.map (fun r => Value.ref r.x)).toArray nr) :: (lb, W.listOf vb.toArray nb) :: (jk, { cls := .type "set", dict := none, data := .set #[] 0 (.fresh 0 0 led) }) :: (d2, D2) :: (rs.flatMap RD.L ++ Rest)), @LT.lt Nat _ p.1 la) → Fr h₀ L h' m → News h₀ L h' ((M, instObj 242 dM) :: (dM, dictOf (smE' H T (.ref la) (.ref lb) vmb' .none vfb (.ref d2) (.ref jk) vpop) 10) :: (rl, W.listOf (rs.map (fun r => Value.ref r.x)).toArray nr) :: (lb, W.listOf vb.toArray nb) :: (jk, { cls := .type "set", dict := none, data := .set #[] 0 (.fresh 0 0 led) }) :: (d2, D2) :: (c.flatMap RD.L ++ (la, W.listOf wa.toArray na) :: Rest)) → Q (.bool true) { s with heap := h', toks := tk' }) :
    wpAny (model PySem.Challenge.rw_ik0096_01.row.prog w) (ktrTop dp un gd cn cs L a ccd cl outer) (call (.ref 344) [.ref M, .str one t1, .str two t2, .ref rl]) Q E s := by
  generalize hxa : Txt.split one (Str.ofString ".") = xa at *
  generalize hxb : Txt.split two (Str.ofString ".") = xb at *
  revert X; k_fill; intro X
  refine wpAny_call ?_
  k_dflt (refine' code_defC (binds := [(Str.ofString "matcher", Value.ref M), (Str.ofString "one", Value.str one t1), (Str.ofString "two", Value.str two t2), (Str.ofString "readers", Value.ref rl)]) ?k1 ?k2 ?k3 ?k4 ?k5 ?kA ?kF ?kK ?k6 ?k7 ?k8 ?k9 ?kB ?kD ?_ ?c2 ?c3 ?c4; (case kA => exact rfl); (case kF => exact rfl); (case kK => first | assumption | rfl); (case k1 => k_asm); (case k2 => k_asm); (case k3 => k_asm); (case k4 => k_asm); (case k5 => k_asm); (case k6 => k_is); (case k7 => k_is); (case k8 => ktr_room); (case k9 => first | exact BindsTo.of_eq rfl | exact binds_K (by k_in) rfl (by k_is) rfl rfl rfl); (case kB => exact rfl); (case kD => decide +kernel); (case c2 => exact rfl); (case c3 => exact rfl); (case c4 => exact rfl); k_whole; intro g' L' h' tk' cells' FG' F' N' Y' B' X' T' lL; k_cells Y'; (try simp only [List.cons_append, List.nil_append] at N'); (try dsimp only); (try k_fold))
  rename_i co1 co2 co3 co4 cd1 cd2 cd3 cd4
  generalize hTl : rs.flatMap RD.L ++ Rest = Tl at *
  have qM : @LT.lt Nat _ M L' := lL _ (.head _)
  have qdM : @LT.lt Nat _ dM L' := lL _ (.tail _ (.head _))
  have qrl : @LT.lt Nat _ rl L' := lL _ (.tail _ (.tail _ (.head _)))
  have qlb : @LT.lt Nat _ lb L' := lL _ (.tail _ (.tail _ (.tail _ (.head _))))
  have qjk : @LT.lt Nat _ jk L' := lL _ (.tail _ (.tail _ (.tail _ (.tail _ (.head _)))))
  have qd2 : @LT.lt Nat _ d2 L' := lL _ (.tail _ (.tail _ (.tail _ (.tail _ (.tail _ (.head _))))))
  have qTl : ∀ p ∈ Tl, @LT.lt Nat _ p.1 L' := fun p hp => lL p (.tail _ (.tail _ (.tail _ (.tail _ (.tail _ (.tail _ hp))))))
  have qT1 : ∀ p ∈ Tl, p.1 ≠ L' + 1 := fun p hp => Nat.ne_of_lt (Nat.lt_succ_of_lt (qTl p hp))
  have qT2 : ∀ p ∈ Tl, p.1 ≠ L' + 1 + 1 := fun p hp => Nat.ne_of_lt (Nat.lt_succ_of_lt (Nat.lt_succ_of_lt (qTl p hp)))
  have qT3 : ∀ p ∈ Tl, p.1 ≠ L' + 1 + 1 + 1 := fun p hp => Nat.ne_of_lt (Nat.lt_succ_of_lt (Nat.lt_succ_of_lt (Nat.lt_succ_of_lt (qTl p hp))))
  have qT4 : ∀ p ∈ Tl, p.1 ≠ L' + 1 + 1 + 1 + 1 := fun p hp => Nat.ne_of_lt (Nat.lt_succ_of_lt (Nat.lt_succ_of_lt (Nat.lt_succ_of_lt (Nat.lt_succ_of_lt (qTl p hp)))))
  clear lL
  k_steps
  rename News _ _ _ _ => N1
  rename_i Dh wh e1 e2 sh lth Dt wt e3 e4 st ltt Dp e5 ltp e6 e7 ch dch e8 ct dct Da wa e9 e10 sa FF lta
  refine and14 lta fun a1 a2 a3 a4 a5 a6 a7 a8 a9 a10 a11 a12 a13 a14 => ?_
  refine and13 ltp fun b1 b2 b3 b4 b5 b6 b7 b8 b9 b10 b11 b12 b13 => ?_
  refine and12 ltt fun c1 c2 c3 c4 c5 c6 c7 c8 c9 c10 c11 c12 => ?_
  refine and11 lth fun f1 f2 f3 f4 f5 f6 f7 f8 f9 f10 f11 => ?_
  rw [hxa] at sh sa
  rw [hxb] at st
  have dTl : ∀ p ∈ Tl, @Ne Nat p.1 dM := fun p hp => by
    rw [← hTl] at hp
    rcases List.mem_append.mp hp with h | h
    · exact hdR p h
    · exact hdM p (.tail _ (.tail _ (.tail _ (.tail _ (.tail _ h)))))
  have dM1 : @Ne Nat M dM := hdM _ (.head _)
  have dM2 : @Ne Nat rl dM := hdM _ (.tail _ (.head _))
  have dM3 : @Ne Nat lb dM := hdM _ (.tail _ (.tail _ (.head _)))
  have dM4 : @Ne Nat jk dM := hdM _ (.tail _ (.tail _ (.tail _ (.head _))))
  have dM5 : @Ne Nat d2 dM := hdM _ (.tail _ (.tail _ (.tail _ (.tail _ (.head _)))))
  have hv' : VaOk va Tl := by
    rcases hv with h | ⟨la, n', vl, e, hm⟩
    · exact .inl h
    · exact .inr ⟨la, n', vl, e, hTl ▸ List.mem_append_right _ hm⟩
  refine' set_seq1_W w mean mg mb _ _ _ _ _ _ _ _ _ _ _ _ _ _ _ _ _ H T va (.ref lb) vmb vop vfb (.ref d2) (.ref jk) vpop M dM Da 0 wa ((Dp, tupO [Value.ref Dh, Value.ref Dt]) :: (Dt, W.listOf wt.toArray 0) :: (Dh, W.listOf wh.toArray 0) :: (L' + 1 + 1 + 1 + 1, ct) :: (L' + 1 + 1 + 1, ch) :: (L' + 1 + 1, co3) :: (L' + 1, co4) :: (rl, W.listOf (rs.map (fun r => Value.ref r.x)).toArray nr) :: (lb, W.listOf vb.toArray nb) :: (jk, { cls := .type "set", dict := none, data := .set #[] 0 (.fresh 0 0 led) }) :: (d2, D2) :: Tl) ?kB ?kF ?kX ?kN ?kv dM1 ?k1 ?k2 ?k3 ?kT ?kk ?kd ?ku ?_
  case kB => k_asm
  case kF => k_asm
  case kX => k_asm
  case kN =>
    intro p hp
    refine N1 p ?_
    (refine sub_at hp ?_; (first | ((try dsimp only); with_reducible (repeat' (first | exact sub_refl | exact sub_nil | refine sub_take ?_ | refine sub_skip ?_)); done) | ((try dsimp only); with_reducible (repeat' (first | exact sub_refl | exact sub_nil | exact mem_hd | refine sub_take ?_ | refine sub_put ?_ ?_ | refine mem_tl ?_ | refine sub_skip ?_)); done) | ((try dsimp only); (repeat' (first | exact sub_refl | exact sub_nil | exact mem_hd | refine sub_take ?_ | refine sub_put ?_ ?_ | refine mem_tl ?_ | refine sub_skip ?_)); done)))
  case kv =>
    rcases hv' with h | ⟨la, n', vl, e, hm⟩
    · exact .inl h
    · exact .inr ⟨la, n', vl, e, (by repeat (first | exact hm | apply List.Mem.tail))⟩
  case k1 => show @Ne Nat Da dM; exact ad_ne
  case k2 =>
    intro p hp
    ((apply all_at hp); (try clear hp); (repeat' (refine all_cons ?_ ?_)); all_goals (try intro p hp)) <;> first | (show @Ne Nat Da _; exact ad_ne) | (have : @LT.lt Nat _ p.1 Da := allLt_mem a14 p hp; (first | exact ad_ne | omega))
  case k3 =>
    intro p hp
    ((apply all_at hp); (try clear hp); (repeat' (refine all_cons ?_ ?_)); all_goals (try intro p hp)) <;> first | (show @Ne Nat _ dM; exact ad_ne) | exact dTl p hp
  case kT => k_asm
  case kk => rfl
  case kd => exact off_lt (m := 4) hd rfl
  case ku => exact off_lt (m := 23) hu rfl
  intro h1 k1 F1 N2
  clear N1
  k_steps
  rename IsRange _ _ _ _ _ _ _ _ => hR
  rename Fr _ _ _ _ => F3
  rename News _ _ _ _ => N3
  refine comp_range (σ := Unit) (n := xa.length) (fun _ => _) (fun i ys _ => IntsAre ys ((List.range i).map fun j => due xa xb (j + 1))) () rfl F3 N3 hR (small_up (by (first | exact ad_ne | omega)) (by (first | exact ad_ne | omega)) (by (first | exact ad_ne | omega)) (by (first | exact ad_ne | omega))) (range_n rfl) (by (first | exact ad_ne | omega)) .nil ?tu ?fi
  case tu =>
    intro i ys _ t2 I oI C oC D m₂ h2 tk2 E2 hi hI hC hx F4 N4 off ne
    refine gen_post fun PoC hPoC => ?_
    k_steps
    rw [show (0 + (i : Int) + 1) = ((i + 1 : Nat) : Int) by (first | exact ad_ne | omega)]
    rename News _ _ _ _ => N5
    refine' due_K w mean mg mb _ _ _ _ _ _ _ _ _ _ _ _ _ _ _ _ _ Dh Dt wh wt 0 0 xa xb _ (i + 1) _ ?kB ?kF ?kX (news_cons (news_cons N5 (p := (Dt, W.listOf wt.toArray 0)) (by repeat (first | exact List.Mem.head _ | apply List.Mem.tail))) (p := (Dh, W.listOf wh.toArray 0)) (by repeat (first | exact List.Mem.head _ | apply List.Mem.tail))) sh st hA4 hB4 oa ob ?kT ?kk ?kd ?ku ?_
    case kB => k_asm
    case kF => k_asm
    case kX => k_asm
    case kT => k_asm
    case kk => rfl
    case kd => exact off_lt (m := 11) hd rfl
    case ku => exact off_lt (m := 163) hu rfl
    intro t6 h6 k6 F6 N6
    k_steps
    rename News _ _ _ _ => N7
    refine of_post hPoC ?_
    refine cp_out () (by k_asm) N7 (fun p hp => .tail _ (.tail _ ?_)) (fun p hp => .tail _ (.tail _ (.tail _ (.tail _ (.tail _ hp))))) off (range_snoc ▸ ints_snoc hI)
    (refine sub_at hp ?_; (first | ((try dsimp only); with_reducible (repeat' (first | exact sub_refl | exact sub_nil | refine sub_take ?_ | refine sub_skip ?_)); done) | ((try dsimp only); with_reducible (repeat' (first | exact sub_refl | exact sub_nil | exact mem_hd | refine sub_take ?_ | refine sub_put ?_ ?_ | refine mem_tl ?_ | refine sub_skip ?_)); done) | ((try dsimp only); (repeat' (first | exact sub_refl | exact sub_nil | exact mem_hd | refine sub_take ?_ | refine sub_put ?_ ?_ | refine mem_tl ?_ | refine sub_skip ?_)); done)))
  case fi =>
    rintro g2 ys _ hdue
    intro D h2 tk2 F2 N4 o2
    have oTl : ∀ p ∈ Tl, @Ne Nat p.1 D := fun p hp => off1_mem o2 p (by repeat (first | exact hp | apply List.Mem.tail))
    k_steps
    rename Fr _ _ _ _ => F5
    rename News _ _ _ _ => N5
    have N6 : News g' L' _ ((D, LCg.lst ys) :: (M, instObj 242 dM) :: (dM, dictOf (smE' H T (.ref Da) (.ref lb) .none .none vfb (.ref d2) (.ref jk) vpop) 10) :: (Da, W.listOf wa.toArray 0) :: (Dp, tupO [Value.ref Dh, Value.ref Dt]) :: (Dt, W.listOf wt.toArray 0) :: (Dh, W.listOf wh.toArray 0) :: (L' + 1 + 1 + 1 + 1, ct) :: (L' + 1 + 1 + 1, ch) :: (L' + 1 + 1, co3) :: (L' + 1, co4) :: (rl, W.listOf (rs.map (fun r => Value.ref r.x)).toArray nr) :: (lb, W.listOf vb.toArray nb) :: (jk, { cls := .type "set", dict := none, data := .set #[] 0 (.fresh 0 0 led) }) :: (d2, D2) :: (rs.flatMap RD.L ++ Rest)) := hTl ▸ N5
    refine comp_list (σ := List RD) (vs := rs.map (fun r => Value.ref r.x)) (k := nr) (fun c => (D, LCg.lst ys) :: (M, instObj 242 dM) :: (dM, dictOf (smE' H T (.ref Da) (.ref lb) .none .none vfb (.ref d2) (.ref jk) vpop) 10) :: (Da, W.listOf wa.toArray 0) :: (Dp, tupO [Value.ref Dh, Value.ref Dt]) :: (Dt, W.listOf wt.toArray 0) :: (Dh, W.listOf wh.toArray 0) :: (L' + 1 + 1 + 1 + 1, ct) :: (L' + 1 + 1 + 1, ch) :: (L' + 1 + 1, co3) :: (L' + 1, co4) :: (rl, W.listOf (rs.map (fun r => Value.ref r.x)).toArray nr) :: (lb, W.listOf vb.toArray nb) :: (jk, { cls := .type "set", dict := none, data := .set #[] 0 (.fresh 0 0 led) }) :: (d2, D2) :: (c.flatMap RD.L ++ Rest)) (fun i zs c => SameRs rs c ∧ (∀ r ∈ c, r.Ok w ∧ r.kvs.length ≤ n + i ∧ r.P.length ≤ 100) ∧ IntsAre zs ((rs.take i).map fun r => tell r.P two)) rs rfl F5 N6 (fun _ _ _ _ => (by repeat (first | exact List.Mem.head _ | apply List.Mem.tail))) (by rw [List.length_map]; (first | exact ad_ne | omega)) ⟨SameRs.refl rs, hok, .nil⟩ ?tv ?fj
    case tv =>
      intro i zs c v I oI C oC Dz m₂ h3 tk3 E3 hi hv hPc2 hC hx F7 N7 off ne
      refine gen_post fun PoC hPoC => ?_
      obtain ⟨hS, hOk, hI⟩ := hPc2
      refine Exists.elim (show ∃ r0, rs[i]? = some r0 from ⟨_, List.getElem?_eq_getElem (by simpa using hi)⟩) fun r0 er0 => ?_
      obtain ⟨g0, kv0, erc⟩ := hS.2 i r0 er0
      have hvx : v = .ref (r0.up g0 kv0).x := by
        rw [List.getElem?_map, er0] at hv
        exact (Option.some.inj hv).symm
      have hPP : r0.P = (r0.up g0 kv0).P := rfl
      generalize r0.up g0 kv0 = r at erc hvx hPP
      subst hvx
      obtain ⟨rOk, rLen, rPl⟩ := hOk r (List.mem_of_getElem? erc)
      have cAp : ApartL c := hS.apartL hAp
      have cAw := hS.away hAw
      have memr : ∀ p ∈ r.L, p ∈ c.flatMap RD.L := fun p hp => mem_flat.mpr ⟨i, r, erc, hp⟩
      generalize hRst : (c.eraseIdx i).flatMap RD.L ++ Rest = Rst
      have N8 : News g' L' h3 (r.L ++ ((I, oI) :: (C, oC) :: (Dz, LCg.lst zs) :: (D, LCg.lst ys) :: (M, instObj 242 dM) :: (dM, dictOf (smE' H T (.ref Da) (.ref lb) .none .none vfb (.ref d2) (.ref jk) vpop) 10) :: (Da, W.listOf wa.toArray 0) :: (Dp, tupO [Value.ref Dh, Value.ref Dt]) :: (Dt, W.listOf wt.toArray 0) :: (Dh, W.listOf wh.toArray 0) :: (L' + 1 + 1 + 1 + 1, ct) :: (L' + 1 + 1 + 1, ch) :: (L' + 1 + 1, co3) :: (L' + 1, co4) :: (rl, W.listOf (rs.map (fun r => Value.ref r.x)).toArray nr) :: (lb, W.listOf vb.toArray nb) :: (jk, { cls := .type "set", dict := none, data := .set #[] 0 (.fresh 0 0 led) }) :: (d2, D2) :: Rst)) := by
        intro p hp
        refine N7 p ?_
        rcases List.mem_append.mp hp with h | h
        · repeat (first | exact List.mem_append_left _ (memr p h) | apply List.Mem.tail)
        ((apply all_at h); (try clear h); (repeat' (refine all_cons ?_ ?_)); all_goals (try intro p h)) <;> first
          | ((repeat (first | exact List.Mem.head _ | apply List.Mem.tail)); done)
          | (have h' : p ∈ c.flatMap RD.L ++ Rest := by
              rw [← hRst] at h
              rcases List.mem_append.mp h with h | h
              · exact List.mem_append_left _ (erase_sub p h)
              · exact List.mem_append_right _ h
             repeat (first | exact h' | apply List.Mem.tail))
      obtain ⟨q0, hq0, eq0⟩ := hS.addr _ (memr (r.G, r.go) (.head _))
      have eq0' : q0.1 = r.G := eq0
      have hq1 : q0 ∈ Tl := hTl ▸ List.mem_append_left _ hq0
      have gLt : @LT.lt Nat _ r.G L' := by have h := qTl q0 hq1; rw [eq0'] at h; exact h
      have gDa : @LT.lt Nat _ r.G Da := by have h := allLt_mem a14 q0 hq1; rw [eq0'] at h; exact h
      have gDp : @LT.lt Nat _ r.G Dp := by have h := allLt_mem b13 q0 hq1; rw [eq0'] at h; exact h
      have gDt : @LT.lt Nat _ r.G Dt := by have h := allLt_mem c12 q0 hq1; rw [eq0'] at h; exact h
      have gDh : @LT.lt Nat _ r.G Dh := by have h := allLt_mem f11 q0 hq1; rw [eq0'] at h; exact h
      have gD : @Ne Nat r.G D := by have h := oTl q0 hq1; rw [eq0'] at h; exact h
      have gdM : @Ne Nat r.G dM := by have h := dTl q0 hq1; rw [eq0'] at h; exact h
      have memG : (r.G, r.go) ∈ c.flatMap RD.L := memr _ (.head _)
      have hLG : ∀ p ∈ (I, oI) :: (C, oC) :: (Dz, LCg.lst zs) :: (D, LCg.lst ys) :: (M, instObj 242 dM) :: (dM, dictOf (smE' H T (.ref Da) (.ref lb) .none .none vfb (.ref d2) (.ref jk) vpop) 10) :: (Da, W.listOf wa.toArray 0) :: (Dp, tupO [Value.ref Dh, Value.ref Dt]) :: (Dt, W.listOf wt.toArray 0) :: (Dh, W.listOf wh.toArray 0) :: (L' + 1 + 1 + 1 + 1, ct) :: (L' + 1 + 1 + 1, ch) :: (L' + 1 + 1, co3) :: (L' + 1, co4) :: (rl, W.listOf (rs.map (fun r => Value.ref r.x)).toArray nr) :: (lb, W.listOf vb.toArray nb) :: (jk, { cls := .type "set", dict := none, data := .set #[] 0 (.fresh 0 0 led) }) :: (d2, D2) :: Rst, p.1 ≠ r.G := by
        intro p hp
        have own : ∀ q ∈ [(I, oI), (C, oC), (Dz, LCg.lst zs)], q.1 ≠ r.G := fun q hq => Ne.symm (off (r.G, r.go) (by repeat (first | exact List.mem_append_left _ memG | apply List.Mem.tail)) q hq)
        rcases List.mem_cons.mp hp with rfl | hp
        · exact own _ (.head _)
        rcases List.mem_cons.mp hp with rfl | hp
        · exact own _ (.tail _ (.head _))
        rcases List.mem_cons.mp hp with rfl | hp
        · exact own _ (.tail _ (.tail _ (.head _)))
        have six : ∀ q ∈ ((M, instObj 242 dM) :: (rl, W.listOf (rs.map (fun r => Value.ref r.x)).toArray nr) :: (lb, W.listOf vb.toArray nb) :: (jk, { cls := .type "set", dict := none, data := .set #[] 0 (.fresh 0 0 led) }) :: (d2, D2) :: Rest), @Ne Nat q.1 r.G := fun q hq => cAw q hq _ memG
        ((apply all_at hp); (try clear hp); (repeat' (refine all_cons ?_ ?_)); all_goals (try intro p hp)) <;> first
          | (show @Ne Nat _ r.G; exact ad_ne)
          | (show @Ne Nat _ r.G; exact Ne.symm gdM)
          | (refine six _ ?_; ((repeat (first | exact List.Mem.head _ | apply List.Mem.tail)); done))
          | (rw [← hRst] at hp
             rcases List.mem_append.mp hp with h | h
             · exact erase_off cAp erc p h
             · exact six p (by repeat (first | exact h | apply List.Mem.tail)))
      obtain ⟨x, dx, Sx, Dx, G, Hx, Tx, so, go, kvx, P⟩ := r
      have N9 := N8
      simp only [RD.L, List.cons_append, List.nil_append] at N9
      have hkv : kvx.length ≤ n + i := rLen
      have hi4 : i < 4 := by rw [List.length_map] at hi; (first | exact ad_ne | omega)
      k_steps
      refine' names_K w mean mg mb _ _ _ _ _ _ _ _ _ _ _ _ _ _ _ _ _ ⟨x, dx, Sx, Dx, G, Hx, Tx, so, go, kvx, P⟩ two _ _ ((I, oI) :: (C, oC) :: (Dz, LCg.lst zs) :: (D, LCg.lst ys) :: (M, instObj 242 dM) :: (dM, dictOf (smE' H T (.ref Da) (.ref lb) .none .none vfb (.ref d2) (.ref jk) vpop) 10) :: (Da, W.listOf wa.toArray 0) :: (Dp, tupO [Value.ref Dh, Value.ref Dt]) :: (Dt, W.listOf wt.toArray 0) :: (Dh, W.listOf wh.toArray 0) :: (L' + 1 + 1 + 1 + 1, ct) :: (L' + 1 + 1 + 1, ch) :: (L' + 1 + 1, co3) :: (L' + 1, co4) :: (rl, W.listOf (rs.map (fun r => Value.ref r.x)).toArray nr) :: (lb, W.listOf vb.toArray nb) :: (jk, { cls := .type "set", dict := none, data := .set #[] 0 (.fresh 0 0 led) }) :: (d2, D2) :: Rst) ?kB ?kF ?kX ?kN rOk (by show kvx.length ≤ 100; (first | exact ad_ne | omega)) rPl hLG htwo ?kT ?kk ?kd ?ku ?_
      case kB => k_asm
      case kF => k_asm
      case kX => k_asm
      case kN => k_asm
      case kT => k_asm
      case kk => rfl
      case kd => exact off_lt (m := 7) hd rfl
      case ku => exact off_lt (m := 63) hu rfl
      intro gn kvn t7 h7 k7 hokn hkvn F8 N10
      k_steps
      have hS2 := hS.set erc gn kvn
      have off2 : ∀ p ∈ (D, LCg.lst ys) :: (M, instObj 242 dM) :: (dM, dictOf (smE' H T (.ref Da) (.ref lb) .none .none vfb (.ref d2) (.ref jk) vpop) 10) :: (Da, W.listOf wa.toArray 0) :: (Dp, tupO [Value.ref Dh, Value.ref Dt]) :: (Dt, W.listOf wt.toArray 0) :: (Dh, W.listOf wh.toArray 0) :: (L' + 1 + 1 + 1 + 1, ct) :: (L' + 1 + 1 + 1, ch) :: (L' + 1 + 1, co3) :: (L' + 1, co4) :: (rl, W.listOf (rs.map (fun r => Value.ref r.x)).toArray nr) :: (lb, W.listOf vb.toArray nb) :: (jk, { cls := .type "set", dict := none, data := .set #[] 0 (.fresh 0 0 led) }) :: (d2, D2) :: (c.flatMap RD.L ++ Rest), ∀ q ∈ [(I, oI), (C, oC), (Dz, LCg.lst zs)], @Ne Nat p.1 q.1 := off
      have hSc := (SameRs.refl c).set erc gn kvn
      refine of_post hPoC ?_
      refine cp_out (c.set i (RD.up ⟨x, dx, Sx, Dx, G, Hx, Tx, so, go, kvx, P⟩ gn kvn)) (by k_asm) N10 (fun p hp => List.mem_append_right _ ?_) (fun p hp => ?_) (fun p hp q hq => ?_) ⟨hS2, fun r' hr' => ?_, ?_⟩
      · (refine sub_at hp ?_; (first | ((try dsimp only); with_reducible (repeat' (first | exact sub_refl | exact sub_nil | refine sub_take ?_ | refine sub_skip ?_)); done) | ((try dsimp only); with_reducible (repeat' (first | exact sub_refl | exact sub_nil | exact mem_hd | refine sub_take ?_ | refine sub_put ?_ ?_ | refine mem_tl ?_ | refine sub_skip ?_)); done) | ((try dsimp only); (repeat' (first | exact sub_refl | exact sub_nil | exact mem_hd | refine sub_take ?_ | refine sub_put ?_ ?_ | refine mem_tl ?_ | refine sub_skip ?_)); done)))
      · ((apply all_at hp); (try clear hp); (repeat' (refine all_cons ?_ ?_)); all_goals (try intro p hp)) <;> first
          | (refine List.mem_append_right _ ?_; ((repeat (first | exact List.Mem.head _ | apply List.Mem.tail)); done))
          | (rcases List.mem_append.mp hp with h | h
             · rcases set_flat h with h | h
               · exact List.mem_append_left _ h
               · refine List.mem_append_right _ ?_
                 have h' : p ∈ Rst := hRst ▸ List.mem_append_left _ h
                 repeat (first | exact h' | apply List.Mem.tail)
             · refine List.mem_append_right _ ?_
               have h' : p ∈ Rst := hRst ▸ List.mem_append_right _ h
               repeat (first | exact h' | apply List.Mem.tail))
      · ((apply all_at hp); (try clear hp); (repeat' (refine all_cons ?_ ?_)); all_goals (try intro p hp)) <;> first
          | (refine off2 _ ?_ q hq; ((repeat (first | exact List.Mem.head _ | apply List.Mem.tail)); done))
          | (rcases List.mem_append.mp hp with h | h
             · obtain ⟨p', hp', e'⟩ := hSc.addr p h
               rw [← e']
               refine off2 p' ?_ q hq
               repeat (first | exact List.mem_append_left _ hp' | apply List.Mem.tail)
             · refine off2 p ?_ q hq
               repeat (first | exact List.mem_append_right _ h | apply List.Mem.tail))
      · rcases List.mem_or_eq_of_mem_set hr' with h | rfl
        · obtain ⟨q1, q2, q3⟩ := hOk r' h
          exact ⟨q1, by (first | exact ad_ne | omega), q3⟩
        · exact ⟨hokn, by show kvn.length ≤ _; have hkvn' : kvn.length ≤ kvx.length + 1 := hkvn; (first | exact ad_ne | omega), rPl⟩
      · rw [List.take_succ, er0]
        simp only [Option.toList_some, List.map_append, List.map_cons, List.map_nil]
        rw [hPP]
        exact ints_snoc hI
    case fj =>
      rintro g3 zs c ⟨hS, hOk, hI⟩
      intro Dn h3 tk3 F3' N7 o3
      rw [List.length_map] at hOk hI
      rw [List.take_length, htell] at hI
      generalize hTc : c.flatMap RD.L ++ Rest = Tc at N7 o3
      k_steps
      rename IsRange _ _ _ _ _ _ _ _ => hR2
      rename Fr _ _ _ _ => F9
      rename News _ _ _ _ => N9
      have hBc : ∀ p ∈ Rest, p ∈ Tc := fun p hp => hTc ▸ List.mem_append_right _ hp
      refine comp_range (σ := Unit) (n := xa.length) (fun _ => _) (fun i ys _ => IntsAre ys ((List.range i).map fun j => due xa xb (j + 1))) () rfl F9 N9 hR2 (small_up (by (first | exact ad_ne | omega)) (by (first | exact ad_ne | omega)) (by (first | exact ad_ne | omega)) (by (first | exact ad_ne | omega))) (range_n rfl) (by (first | exact ad_ne | omega)) .nil ?tw ?fk
      case tw =>
        intro i us _ t2 I oI C oC Du m₂ h2 tk2 E2 hi hI2 hC hx F4 N4 off ne
        refine gen_post fun PoC hPoC => ?_
        k_steps
        rw [show (0 + (i : Int) + 1) = ((i + 1 : Nat) : Int) by (first | exact ad_ne | omega)]
        rename News _ _ _ _ => N5
        refine' seen_K w mean mg mb _ _ _ _ _ _ _ _ _ _ _ _ _ _ _ _ _ H T Da lb d2 jk .none .none vfb vpop 0 nb M dM wa vb xa xb _ D2 (i + 1) _ _ led kvs ?kB ?kF ?kX (news_cons (news_cons (news_cons (news_cons (news_cons (news_cons N5 (p := (d2, D2)) (by repeat (first | exact List.Mem.head _ | apply List.Mem.tail))) (p := (jk, _)) (by repeat (first | exact List.Mem.head _ | apply List.Mem.tail))) (p := (lb, W.listOf vb.toArray nb)) (by repeat (first | exact List.Mem.head _ | apply List.Mem.tail))) (p := (Da, W.listOf wa.toArray 0)) (by repeat (first | exact List.Mem.head _ | apply List.Mem.tail))) (p := (dM, dictOf (smE' H T (.ref Da) (.ref lb) .none .none vfb (.ref d2) (.ref jk) vpop) 10)) (by repeat (first | exact List.Mem.head _ | apply List.Mem.tail))) (p := (M, instObj 242 dM)) (by repeat (first | exact List.Mem.head _ | apply List.Mem.tail))) hD2 (b2j_mono hB ?kb) hlo hz sa hb hA4 hB4 (by (first | exact ad_ne | omega)) ?kT ?kk ?kd ?ku ?_
        case kB => k_asm
        case kF => k_asm
        case kX => k_asm
        case kb =>
          intro p hp
          have h' := hBc p hp
          repeat (first | exact h' | apply List.Mem.tail)
        case kT => k_asm
        case kk => rfl
        case kd => exact off_lt (m := 11) hd rfl
        case ku => exact off_lt (m := 163) hu rfl
        intro t6 h6 k6 F6 N6
        k_steps
        rename News _ _ _ _ => N7
        refine of_post hPoC ?_
        refine cp_out () (by k_asm) N7 (fun p hp => .tail _ (.tail _ (.tail _ (.tail _ (.tail _ (.tail _ ?_)))))) (fun p hp => .tail _ (.tail _ (.tail _ (.tail _ (.tail _ (.tail _ (.tail _ (.tail _ (.tail _ hp))))))))) off (range_snoc ▸ ints_snoc hI2)
        (refine sub_at hp ?_; (first | ((try dsimp only); with_reducible (repeat' (first | exact sub_refl | exact sub_nil | refine sub_take ?_ | refine sub_skip ?_)); done) | ((try dsimp only); with_reducible (repeat' (first | exact sub_refl | exact sub_nil | exact mem_hd | refine sub_take ?_ | refine sub_put ?_ ?_ | refine mem_tl ?_ | refine sub_skip ?_)); done) | ((try dsimp only); (repeat' (first | exact sub_refl | exact sub_nil | exact mem_hd | refine sub_take ?_ | refine sub_put ?_ ?_ | refine mem_tl ?_ | refine sub_skip ?_)); done)))
      case fk =>
        rintro g4 us _ hI2
        intro Ds h4 tk4 F4' N8 o4
        have oD : @Ne Nat D dM := Ne.symm (off1_mem o2 (dM, dictOf (smE' H T (.ref Da) (.ref lb) .none .none vfb (.ref d2) (.ref jk) vpop) 10) (by repeat (first | exact List.Mem.head _ | apply List.Mem.tail)))
        have oDn : @Ne Nat Dn dM := Ne.symm (off1_mem o3 (dM, dictOf (smE' H T (.ref Da) (.ref lb) .none .none vfb (.ref d2) (.ref jk) vpop) 10) (by repeat (first | exact List.Mem.head _ | apply List.Mem.tail)))
        have oDs : @Ne Nat Ds dM := Ne.symm (off1_mem o4 (dM, dictOf (smE' H T (.ref Da) (.ref lb) .none .none vfb (.ref d2) (.ref jk) vpop) 10) (by repeat (first | exact List.Mem.head _ | apply List.Mem.tail)))
        have dTc : ∀ p ∈ Tc, @Ne Nat p.1 dM := fun p hp => by
          rw [← hTc] at hp
          rcases List.mem_append.mp hp with h | h
          · obtain ⟨q, hq, e⟩ := hS.addr p h
            rw [← e]; exact hdR q hq
          · exact hdM p (.tail _ (.tail _ (.tail _ (.tail _ (.tail _ h)))))
        k_steps
        rename News _ _ _ _ => N9
        refine' gmb_K w mean mg mb _ _ _ _ _ _ _ _ _ _ _ _ _ _ _ _ _ H T Da lb d2 jk .none vfb vpop 0 nb M dM wa vb xa xb ((Ds, LCg.lst us) :: (Dn, LCg.lst zs) :: (D, LCg.lst ys) :: (Dp, tupO [Value.ref Dh, Value.ref Dt]) :: (Dt, W.listOf wt.toArray 0) :: (Dh, W.listOf wh.toArray 0) :: (L' + 1 + 1 + 1 + 1, ct) :: (L' + 1 + 1 + 1, ch) :: (L' + 1 + 1, co3) :: (L' + 1, co4) :: (rl, W.listOf (rs.map (fun r => Value.ref r.x)).toArray nr) :: Tc) D2 led kvs ?kB ?kF ?kX ?kN hD2 (b2j_mono hB ?kb) hlo hz dM1 ?k1 dM3 dM4 dM5 ?k2 sa hb hA4 hB4 hA1 ?kT ?kk ?kd ?ku ?_
        case kB => k_asm
        case kF => k_asm
        case kX => k_asm
        case kN =>
          intro p hp
          refine N9 p ?_
          (refine sub_at hp ?_; (first | ((try dsimp only); with_reducible (repeat' (first | exact sub_refl | exact sub_nil | refine sub_take ?_ | refine sub_skip ?_)); done) | ((try dsimp only); with_reducible (repeat' (first | exact sub_refl | exact sub_nil | exact mem_hd | refine sub_take ?_ | refine sub_put ?_ ?_ | refine mem_tl ?_ | refine sub_skip ?_)); done) | ((try dsimp only); (repeat' (first | exact sub_refl | exact sub_nil | exact mem_hd | refine sub_take ?_ | refine sub_put ?_ ?_ | refine mem_tl ?_ | refine sub_skip ?_)); done)))
        case kb =>
          intro p hp
          have h' := hBc p hp
          repeat (first | exact h' | apply List.Mem.tail)
        case k1 => show @Ne Nat Da dM; exact ad_ne
        case k2 =>
          intro p hp
          ((apply all_at hp); (try clear hp); (repeat' (refine all_cons ?_ ?_)); all_goals (try intro p hp)) <;> first | (show @Ne Nat _ dM; first | exact ad_ne | assumption) | exact dTc p hp
        case kT => k_asm
        case kk => rfl
        case kd => exact off_lt (m := 7) hd rfl
        case ku => exact off_lt (m := 63) hu rfl
        intro S y dy bi bj bk ti tj tk9 vs9 c9 made h9 k9 hfull h0v hmade F10 N10
        have hyS : (y, matchO dy [.int bi ti, .int bj tj, .int bk tk9]) ∈ (S, W.listOf vs9.toArray c9) :: made ++ [] := by simp [hmade]
        generalize hMade : (made ++ (M, instObj 242 dM) :: _) = Mad at N10
        have mY : (y, matchO dy [.int bi ti, .int bj tj, .int bk tk9]) ∈ Mad := hMade ▸ List.mem_append_left _ hmade
        have mH : (Dh, W.listOf wh.toArray 0) ∈ Mad := hMade ▸ List.mem_append_right _ (by repeat (first | exact List.Mem.head _ | apply List.Mem.tail))
        have mD : (D, LCg.lst ys) ∈ Mad := hMade ▸ List.mem_append_right _ (by repeat (first | exact List.Mem.head _ | apply List.Mem.tail))
        have mC : (L' + 1 + 1 + 1, ch) ∈ Mad := hMade ▸ List.mem_append_right _ (by repeat (first | exact List.Mem.head _ | apply List.Mem.tail))
        have N11 := news_cons (news_cons (news_cons (news_cons N10 (.tail _ mY)) (.tail _ (.tail _ mH))) (.tail _ (.tail _ (.tail _ mD)))) (.tail _ (.tail _ (.tail _ (.tail _ mC))))
        clear N10
        have hlast : ((List.range xa.length).map fun j => due xa xb (j + 1))[((List.range xa.length).map fun j => due xa xb (j + 1)).length - 1]? = some (due xa xb xa.length) := by
          rw [List.length_map, List.length_range, List.getElem?_map, List.getElem?_range (by (first | exact ad_ne | omega))]
          show some (due xa xb (xa.length - 1 + 1)) = _
          rw [Nat.sub_add_cancel hA1]
        have hb1 : decide ([bi, bj, bk] = [0, 0, (xa.length : Int)]) = decide (due xa xb xa.length = 1) := by
          have e1 : [bi, bj, bk] = [0, 0, (xa.length : Int)] ↔ FullX xa xb := by
            rw [← hfull]
            constructor
            · intro e; injection e with e1 e; injection e with e2 e; injection e with e3 e; exact ⟨e1, e2, e3⟩
            · rintro ⟨rfl, rfl, rfl⟩; rfl
          have e2 : due xa xb xa.length = 1 ↔ FullX xa xb := by
            rw [fullX_due]; unfold due; by_cases hq : xa.take xa.length = xb.take xa.length
            · rw [if_pos hq]; exact ⟨fun _ => hq, fun _ => rfl⟩
            · rw [if_neg hq]; exact ⟨fun e => absurd e (by decide), fun e => absurd e hq⟩
          exact decide_eq_decide.mpr (e1.trans e2.symm)
        have hb2 : (decide ([bi, bj, bk] = [0, 0, (xa.length : Int)]) == (due xa xb xa.length == 1)) = true := by
          rw [hb1]; exact beq_iff_eq.mpr (by rw [Bool.eq_iff_iff]; simp)
        k_steps
        rename Fr _ _ _ _ => kF
        rename News _ _ _ _ => kN
        rw [hb2]
        refine hret Da 0 wa (.ref S) c _ _ hS (fun r hr => ?_) sa (fun p hp => ?_) kF (fun p hp => kN p ?_)
        · obtain ⟨q1, q2, q3⟩ := hOk r hr
          exact ⟨q1, by (first | exact ad_ne | omega), q3⟩
        · ((apply all_at hp); (try clear hp); (repeat' (refine all_cons ?_ ?_)); all_goals (try intro p hp)) <;> first | (show @LT.lt Nat _ _ Da; assumption) | exact allLt_mem a14 p hp
        · have inM : p ∈ Mad := by
            rw [← hMade]
            refine List.mem_append_right _ ?_
            ((apply all_at hp); (try clear hp); (repeat' (refine all_cons ?_ ?_)); all_goals (try intro p hp)) <;> first
              | ((repeat (first | exact List.Mem.head _ | apply List.Mem.tail)); done)
              | (have h' : p = (Da, W.listOf wa.toArray 0) ∨ p ∈ Tc := by
                  rcases List.mem_append.mp hp with h | h
                  · exact .inr (hTc ▸ List.mem_append_left _ h)
                  · rcases List.mem_cons.mp h with h | h
                    · exact .inl h
                    · exact .inr (hBc p h)
                 rcases h' with rfl | h'
                 · repeat (first | exact List.Mem.head _ | apply List.Mem.tail)
                 · repeat (first | exact h' | apply List.Mem.tail))
          repeat (first | exact inM | apply List.Mem.tail)
end Mine
end

section
open PySem PySem.W PyProof.Rows PyProof.V PySem.Calls
set_option maxRecDepth 100000
namespace Mine
section
variable {prog : Program} {w : World} {A : Around} {E : Value → Shared → Prop} {s : Shared} {env : Env} {h₀ : Heap} {body : List Stmt} {Q : Flow → Shared → Prop}
theorem lg_rest {σ : Type} {tgt : Expr} {l I : Addr} {vs : List Value} {n : Nat} {m₀ : Str → Option Value} (Led : σ → List (Addr × Obj)) (ps : σ → List (Str × Value)) (stored : List Str) (P : Nat → σ → Prop)
    (hl : ∀ i c, P i c → (l, W.listOf vs.toArray n) ∈ Led c)
    (turn : ∀ (i : Nat) (c : σ) x (u : Str → Option Value) h tk io, (∀ p ∈ Led c, @Ne Nat p.1 I) → vs[i]? = some x → P i c →
      Fr h₀ env.locals h (kstB (fun z => if stored.contains z then u z else m₀ z) (ps c)) → News h₀ env.locals h ((I, io) :: Led c) →
      wpAny (model prog w) A (assign tgt env x) (fun _ s₂ => wpAny (model prog w) A (execs body env) (EnPost h₀ env.locals [(I, io)] { s with heap := h, toks := tk } Q Led ps stored m₀ (fun c' => P (i + 1) c' ∧ ∀ p ∈ Led c', @Ne Nat p.1 I)) E s₂) E { s with heap := h, toks := tk })
    (done : ∀ (c : σ) (u : Str → Option Value) h tk, P vs.length c → Fr h₀ env.locals h (kstB (fun z => if stored.contains z then u z else m₀ z) (ps c)) → News h₀ env.locals h (Led c) → Q .next { s with heap := h, toks := tk }) :
    ∀ (r : List Value) (p : Nat), p + r.length = vs.length → vs.drop p = r → ∀ (c : σ) (m : Str → Option Value), P p c → (∀ q ∈ Led c, @Ne Nat q.1 I) → (∀ q ∈ ps c, m q.1 = some q.2) → (∀ z, (∀ q ∈ ps c, z ≠ q.1) → stored.contains z = false → m z = m₀ z) →
      ItemsRest prog w A E h₀ env tgt body Q s [(I, "list_iterator")] [(l, W.listOf vs.toArray n)] (r.map .val) m (Led c) := by
  intro r
  induction r with
  | nil =>
    intro p hlen hd c m hp _ h1 h2 h tk F N
    have e : p = vs.length := by simpa using hlen
    subst e
    exact done c m h tk hp (ksw_fr h1 h2 F) N
  | cons x r ih =>
    intro p hlen hd c m hp hoff h1 h2
    have hx : vs[p]? = some x := by
      have := congrArg (fun l => l[0]?) hd
      simpa using this
    have hd' : vs.drop (p + 1) = r := by
      rw [← List.drop_drop] <;> first | (rw [hd]; rfl) | skip
    rintro v h tk hv F io hio N
    have hv' : v = x := hv
    subst hv'
    refine wpAny_mono (turn p c v m h tk io hoff hx hp (ksw_fr h1 h2 F) N) (fun _ s₂ q => wpAny_mono q (fun f s₃ z => ?_) fun _ _ e => e) fun _ _ e => e
    have fin : EnOut h₀ env.locals [(I, io)] { s with heap := h, toks := tk } Led ps stored m₀ (fun c' => P (p + 1) c' ∧ ∀ p ∈ Led c', @Ne Nat p.1 I) s₃ →
        UnrEndW h₀ env.locals { s with heap := h, toks := tk } [(I, io)] (fun m' n' => SubL [(l, W.listOf vs.toArray n)] n' ∧ ItemsRest prog w A E h₀ env tgt body Q s [(I, "list_iterator")] [(l, W.listOf vs.toArray n)] (r.map .val) m' n') s₃ := by
      rintro ⟨c', h', tk', m', news', rfl, F', N', hn, hi, hk', hr', hp', ho'⟩
      have off : ∀ p ∈ Led c', ∀ q ∈ [(I, io)], p.1 ≠ q.1 := fun z hz q hq e => by
        rw [List.mem_singleton.mp hq] at e
        exact ho' z hz e
      refine ⟨h', tk', m', Led c', rfl, F', fun z hz => ?_, off, ⟨hl _ c' hp', trivial⟩, ih (p + 1) (by simp only [List.length_cons] at hlen; omega) hd' c' m' hp' ho' hk' hr'⟩
      rcases List.mem_append.mp hz with q | q
      · exact N' z (hi z q)
      · exact N' z (hn z q)
    cases f with
    | ret v => exact z
    | brk => exact z
    | next => exact fin z
    | cont => exact fin z
/-- a for loop with any target over a list -/
theorem lv_listG {σ : Type} {tgt : Expr} {l : Addr} {vs : List Value} {n : Nat} {m₀ : Str → Option Value} (Led : σ → List (Addr × Obj)) (ps : σ → List (Str × Value)) (stored : List Str) (P : Nat → σ → Prop) (c₀ : σ)
    (hh : A.handled = none) (hl : ∀ i c, P i c → (l, W.listOf vs.toArray n) ∈ Led c)
    (F : Fr h₀ env.locals s.heap m₀) (N : News h₀ env.locals s.heap (Led c₀)) (hk : ∀ p ∈ ps c₀, m₀ p.1 = some p.2) (hp : P 0 c₀)
    (turn : ∀ (I : Addr) (i : Nat) (c : σ) x (u : Str → Option Value) h tk io, (∀ p ∈ Led c, @Ne Nat p.1 I) → vs[i]? = some x → P i c →
      Fr h₀ env.locals h (kstB (fun z => if stored.contains z then u z else m₀ z) (ps c)) → News h₀ env.locals h ((I, io) :: Led c) →
      wpAny (model prog w) A (assign tgt env x) (fun _ s₂ => wpAny (model prog w) A (execs body env) (EnPost h₀ env.locals [(I, io)] { s with heap := h, toks := tk } Q Led ps stored m₀ (fun c' => P (i + 1) c' ∧ ∀ p ∈ Led c', @Ne Nat p.1 I)) E s₂) E { s with heap := h, toks := tk })
    (done : ∀ (c : σ) (u : Str → Option Value) h tk, P vs.length c → Fr h₀ env.locals h (kstB (fun z => if stored.contains z then u z else m₀ z) (ps c)) → News h₀ env.locals h (Led c) → Q .next { s with heap := h, toks := tk }) :
    wpAny (model prog w) A (pyIter (.ref l)) (fun it s₂ => TurnsAt prog w A h₀ env tgt body Q E it s₂) E s :=
  iter_listTurns hh F N (hl 0 c₀ hp) rfl rfl fun I hI => lg_rest Led ps stored P hl (fun i c x u h tk io => turn I i c x u h tk io) done vs 0 (by simp) rfl c₀ m₀ hp (fun p hp => Nat.ne_of_lt (hI p hp)) hk fun _ _ _ => rfl
end
section
variable {prog : Program} {w : World} {A : Around} {s : Shared} {h₀ : Heap} {L : Addr} {m : Str → Option Value} {env : Env} {ct elt : Expr} {x : Str} {scope : Scope} {cl : List (Str × Addr)}
theorem comp_restT {σ : Type} {S : List (Addr × Obj) → Prop} {P : Nat → Value → Prop} {Fin : List Value → List (Addr × Obj) → Prop} {n : Nat} (Led : σ → List (Addr × Obj)) (Inv : Nat → σ → Prop) (hS : ∀ i c, Inv i c → S (Led c))
    (turn : ∀ i (c : σ) v I oI C oC D m₂ h tk (E' : Value → Shared → Prop), i < n → P i v → Inv i c → LCg.NsObj oC m₂ → m₂ x = some v → Fr h₀ L h m → News h₀ L h ((I, oI) :: (C, oC) :: (D, LCg.lst []) :: Led c) → (∀ p ∈ Led c, ∀ q ∈ [(I, oI), (C, oC), (D, LCg.lst [])], @Ne Nat p.1 q.1) → ((@Ne Nat I C) ∧ (@Ne Nat I D) ∧ (@Ne Nat C D)) →
      wpAny (model prog w) A (isTrue ct (compEnvC scope cl C env) (eval ct (compEnvC scope cl C env))) (fun ok s' => ok = false ∧ CpOut h₀ L m { s with heap := h, toks := tk } [(I, oI), (C, oC), (D, LCg.lst [])] Led (fun _ c' => Inv (i + 1) c') Value.none s') E' { s with heap := h, toks := tk })
    (fin : ∀ c, Inv n c → Fin [] (Led c)) : ∀ k i (c : σ), i + k = n → Inv i c → LCt.CompRestT prog w A h₀ L m env ct elt x scope cl s S P Fin k i [] (Led c) := by
  intro k
  induction k with
  | zero =>
    intro i c hk hI
    have : i = n := by omega
    subst this
    exact LCt.CompRestT.zero (fin c hI)
  | succ k ih =>
    intro i c hk hI
    refine LCt.CompRestT.succ fun v I oI C oC D m₂ h tk E' hP hC hx F N off ne => ?_
    have off' : ∀ p ∈ Led c, ∀ q ∈ [(I, oI), (C, oC), (D, LCg.lst [])], @Ne Nat p.1 q.1 := fun p hp q hq => by
      have := off.mem p hp
      simp only [List.mem_cons, List.not_mem_nil, or_false] at hq
      rcases hq with rfl | rfl | rfl
      · exact this.1
      · exact this.2.1
      · exact this.2.2
    refine wpAny_mono (turn i c v I oI C oC D m₂ h tk E' (by omega) hP hI hC hx F N off' ne) (fun ok s₂ q => ?_) fun _ _ e => e
    obtain ⟨rfl, c', h', tk', news', rfl, F', N', ho, hn, off2, hJ⟩ := q
    simp only [Bool.false_eq_true, if_false]
    refine LCg.CompEnd.intro F' N' (Led c') (fun p hp => ?_) (LCg.Off3.of fun p hp => ⟨off2 p hp _ (.head _), off2 p hp _ (.tail _ (.head _)), off2 p hp _ (.tail _ (.tail _ (.head _)))⟩) (hS _ _ hJ) (ih (i + 1) c' (by omega) hJ)
    rcases List.mem_cons.mp hp with rfl | hp
    · exact ho _ (.head _)
    · rcases List.mem_cons.mp hp with rfl | hp
      · exact ho _ (.tail _ (.head _))
      · rcases List.mem_cons.mp hp with rfl | hp
        · exact ho _ (.tail _ (.tail _ (.head _)))
        · exact hn p hp
/-- a comprehension over a range whose test is never true -/
theorem comp_rangeT {σ : Type} {Fin : Shared → List Value → List (Addr × Obj) → Prop} {r : Addr} {a b : Int} {t u v : Tok} {n : Nat} (Led : σ → List (Addr × Obj)) (Inv : Nat → σ → Prop) (c₀ : σ)
    (hh : A.handled = none) (F : Fr h₀ L s.heap m) (N : News h₀ L s.heap (Led c₀)) (hr : IsRange s.heap r a b 1 t u v) (hsm : Builtin.Range.small a b 1 = true) (hn : Builtin.Range.rangeSize a b 1 = ((n : Nat) : Int)) (hsz : n ≤ 1000) (h0 : Inv 0 c₀)
    (turn : ∀ i (c : σ) t I oI C oC D m₂ h tk (E' : Value → Shared → Prop), i < n → Inv i c → LCg.NsObj oC m₂ → m₂ x = some (.int (a + (i : Int)) t) → Fr h₀ L h m → News h₀ L h ((I, oI) :: (C, oC) :: (D, LCg.lst []) :: Led c) → (∀ p ∈ Led c, ∀ q ∈ [(I, oI), (C, oC), (D, LCg.lst [])], @Ne Nat p.1 q.1) → ((@Ne Nat I C) ∧ (@Ne Nat I D) ∧ (@Ne Nat C D)) →
      wpAny (model prog w) A (isTrue ct (compEnvC scope cl C env) (eval ct (compEnvC scope cl C env))) (fun ok s' => ok = false ∧ CpOut h₀ L m { s with heap := h, toks := tk } [(I, oI), (C, oC), (D, LCg.lst [])] Led (fun _ c' => Inv (i + 1) c') Value.none s') E' { s with heap := h, toks := tk })
    (fin : ∀ g c, Inv n c → Fin { s with heap := g } [] (Led c)) : LCt.CompSrcT prog w A h₀ L m env ct elt x scope cl Fin (.ref r) s := by
  refine LCt.CompSrcT.range hh F N hr hsm hn (by rw [sizeLine_eq]; omega) fun g => ?_
  refine comp_restT (s := { s with heap := g }) Led Inv (fun _ _ _ => trivial) ?_ (fin g) n 0 c₀ (by omega) h0
  rintro i c v I oI C oC D m₂ h tk E' hi ⟨t', rfl⟩ hI hC hx F' N' off ne
  exact turn i c t' I oI C oC D m₂ h tk E' hi hI hC hx F' N' off ne
end
end Mine
end

section
open PySem PySem.W PyProof.Rows PyProof.V PySem.Calls
set_option maxRecDepth 100000
namespace Mine
noncomputable def toL (x : Str) : List Nat := x.cps.toList
theorem toL_inj {x y : Str} (h : toL x = toL y) : x = y := Str.ext' (Array.toList_inj.mp h)
theorem toL_append (x y : Str) : toL (x ++ y) = toL x ++ toL y := by unfold toL; rw [Str.cps_append, Array.toList_append]
theorem toL_dot : toL (Str.ofString ".") = [46] := by decide +kernel
/-- joined by dots -/
noncomputable def Jn : List (List Nat) → List Nat
  | [] => []
  | [x] => x
  | x :: y :: r => x ++ 46 :: Jn (y :: r)
theorem toL_join : ∀ ps : List Str, toL (Txt.join (Str.ofString ".") ps) = Jn (ps.map toL) := by
  intro ps
  unfold Txt.join
  rw [StrLaws.glued_eq_join]
  induction ps with
  | nil => rfl
  | cons a r ih =>
    cases r with
    | nil => rfl
    | cons b r =>
      show toL (a ++ Str.ofString "." ++ Str.join (Str.ofString ".") (b :: r)) = _
      rw [toL_append, toL_append, ih, toL_dot]
      simp [Jn]
theorem free_cut : ∀ {x y s t : List Nat}, 46 ∉ x → 46 ∉ y → x ++ 46 :: s = y ++ 46 :: t → x = y ∧ s = t
  | [], [], _, _, _, _, h => ⟨rfl, by simpa using h⟩
  | [], b :: y, _, _, _, hy, h => by
    simp only [List.nil_append, List.cons_append, List.cons.injEq] at h
    exact absurd (h.1 ▸ List.mem_cons_self) hy
  | a :: x, [], _, _, hx, _, h => by
    simp only [List.nil_append, List.cons_append, List.cons.injEq] at h
    exact absurd (h.1 ▸ List.mem_cons_self) hx
  | a :: x, b :: y, _, _, hx, hy, h => by
    simp only [List.cons_append, List.cons.injEq] at h
    obtain ⟨e1, e2⟩ := free_cut (fun m => hx (.tail _ m)) (fun m => hy (.tail _ m)) h.2
    exact ⟨by rw [h.1, e1], e2⟩
theorem free_not {x y s : List Nat} (hx : 46 ∉ x) (h : x = y ++ 46 :: s) : False := hx (h ▸ List.mem_append_right _ (.head _))
theorem jn_pre : ∀ {ks qs : List (List Nat)}, ks ≠ [] → qs ≠ [] → (∀ p ∈ ks, 46 ∉ p) → (∀ p ∈ qs, 46 ∉ p) →
    ((Jn qs = Jn ks ∨ ∃ z, Jn qs = Jn ks ++ 46 :: z) ↔ ks = qs.take ks.length)
  | [], _, h, _, _, _ => absurd rfl h
  | _, [], _, h, _, _ => absurd rfl h
  | [x], [y], _, _, hk, hq => by
    have hx := hk x (.head _)
    have hy := hq y (.head _)
    simp only [Jn, List.length_cons, List.length_nil, List.take_succ_cons, List.take_zero]
    constructor
    · rintro (h | ⟨z, h⟩)
      · rw [h]
      · exact (free_not hy h).elim
    · intro h; left; injection h with h; exact h.symm
  | [x], y :: y2 :: r, _, _, hk, hq => by
    have hx := hk x (.head _)
    have hy := hq y (.head _)
    simp only [Jn, List.length_cons, List.length_nil, List.take_succ_cons, List.take_zero]
    constructor
    · rintro (h | ⟨z, h⟩)
      · exact (free_not hx h.symm).elim
      · rw [(free_cut hy hx h).1]
    · intro h
      injection h with h
      exact .inr ⟨_, by rw [h]⟩
  | x :: x2 :: r, [y], _, _, hk, hq => by
    have hy := hq y (.head _)
    simp only [Jn]
    constructor
    · rintro (h | ⟨z, h⟩)
      · exact (free_not hy h).elim
      · rw [List.append_assoc] at h
        exact (free_not hy h).elim
    · intro h
      have := congrArg List.length h
      simp at this
  | x :: x2 :: k, y :: y2 :: q, _, _, hk, hq => by
    have hx := hk x (.head _)
    have hy := hq y (.head _)
    have ih := jn_pre (ks := x2 :: k) (qs := y2 :: q) (by simp) (by simp) (fun p hp => hk p (.tail _ hp)) (fun p hp => hq p (.tail _ hp))
    rw [show (x :: x2 :: k).length = (x2 :: k).length + 1 from rfl, List.take_succ_cons]
    show (y ++ 46 :: Jn (y2 :: q) = x ++ 46 :: Jn (x2 :: k) ∨ ∃ z, y ++ 46 :: Jn (y2 :: q) = (x ++ 46 :: Jn (x2 :: k)) ++ 46 :: z) ↔ _
    constructor
    · rintro (h | ⟨z, h⟩)
      · obtain ⟨e1, e2⟩ := free_cut hy hx h
        rw [e1, ← ih.mp (.inl e2)]
      · rw [List.append_assoc, List.cons_append] at h
        obtain ⟨e1, e2⟩ := free_cut hy hx h
        rw [e1, ← ih.mp (.inr ⟨z, e2⟩)]
    · intro h
      injection h with h1 h2
      rcases ih.mpr h2 with e | ⟨z, e⟩
      · exact .inl (by rw [h1, e])
      · exact .inr ⟨z, by rw [h1, e, List.append_assoc, List.cons_append]⟩
theorem jn_inj {ks qs : List (List Nat)} (h1 : ks ≠ []) (h2 : qs ≠ []) (f1 : ∀ p ∈ ks, 46 ∉ p) (f2 : ∀ p ∈ qs, 46 ∉ p) (h : Jn qs = Jn ks) : ks = qs := by
  have a := (jn_pre h1 h2 f1 f2).mp (.inl h)
  have b := (jn_pre h2 h1 f2 f1).mp (.inl h.symm)
  have la := congrArg List.length a
  have lb := congrArg List.length b
  rw [List.length_take] at la lb
  rw [a, List.take_of_length_le (by omega)]
theorem starts_iff {y p : Str} : Txt.startswith y p = true ↔ ∃ z, toL y = toL p ++ z := by
  have ly : (toL y).length = y.length := Array.length_toList
  have lp : (toL p).length = p.length := Array.length_toList
  unfold Txt.startswith
  rw [Bool.and_eq_true, decide_eq_true_eq, StrLaws.subAt_eq, List.drop_zero, beq_iff_eq]
  show 0 + p.length ≤ y.length ∧ (toL y).take p.length = toL p ↔ _
  constructor
  · rintro ⟨_, h⟩
    exact ⟨(toL y).drop p.length, by rw [← h, List.take_append_drop]⟩
  · rintro ⟨z, h⟩
    have := congrArg List.length h
    rw [List.length_append] at this
    exact ⟨by omega, by rw [h, ← lp, List.take_left]⟩
structure PartsOk (ps : List Str) : Prop where
  one : 1 ≤ ps.length
  four : ps.length ≤ 4
  of : ∀ p ∈ ps, p = Str.ofString "a" ∨ p = Str.ofString "b" ∨ p = Str.ofString "" ∨ p = Str.ofString "bb"
theorem parts_free {ps : List Str} (h : PartsOk ps) : ∀ p ∈ ps.map toL, 46 ∉ p := by
  intro q hq
  obtain ⟨p, hp, rfl⟩ := List.mem_map.mp hq
  rcases h.of p hp with rfl | rfl | rfl | rfl <;> decide +kernel
theorem parts_len {ps : List Str} (h : PartsOk ps) : ∀ p ∈ ps, p.length ≤ 20 := by
  intro p hp
  rcases h.of p hp with rfl | rfl | rfl | rfl <;> decide +kernel
theorem parts_strsOk {ps : List Str} (h : PartsOk ps) : StrsOk ps := by
  intro p hp
  rcases h.of p hp with rfl | rfl | rfl | rfl <;> decide +kernel
theorem map_ne {ps : List Str} (h : 1 ≤ ps.length) : ps.map toL ≠ [] := by
  cases ps with
  | nil => simp at h
  | cons a r => simp
theorem split_ne (x : Str) : Txt.split x (Str.ofString ".") ≠ [] := by
  unfold Txt.split
  split
  · simp
  · split
    · simp
    · rw [StrLaws.partsBetween_eq]
      obtain ⟨p, r, e⟩ := StrLaws.partsFrom_ne x (Str.ofString ".").length 0 (Builtin.Str.occurrences x (Str.ofString ".") 0 x.length (x.length + 1))
      rw [e]; simp
theorem split_join_ok {ps : List Str} (h : PartsOk ps) : Txt.split (Txt.join (Str.ofString ".") ps) (Str.ofString ".") = ps := by
  have hd : (Str.ofString ".") = ⟨#[46]⟩ := by decide +kernel
  generalize hx : Txt.join (Str.ofString ".") ps = x
  have e1 : Txt.join (Str.ofString ".") (Txt.split x (Str.ofString ".")) = x := by
    unfold Txt.join
    rw [StrLaws.glued_eq_join]; exact StrLaws.join_split x (Str.ofString ".")
  have f1 : ∀ p ∈ (Txt.split x (Str.ofString ".")).map toL, 46 ∉ p := by
    intro q hq
    obtain ⟨p, hp, rfl⟩ := List.mem_map.mp hq
    rw [hd] at hp
    exact StrLaws.split_free x 46 p hp
  have e2 : (Txt.split x (Str.ofString ".")).map toL = ps.map toL := by
    refine jn_inj ?_ (map_ne h.one) f1 (parts_free h) ?_
    · have := split_ne x
      cases hs : Txt.split x (Str.ofString ".") with
      | nil => exact absurd hs this
      | cons a r => simp
    · rw [← toL_join, ← toL_join, e1, hx]
  exact (List.map_inj_right fun _ _ => toL_inj).mp e2
theorem tell_due {ps qs : List Str} (hp : PartsOk ps) (hq : PartsOk qs) {k : Nat} (hk : k < ps.length) :
    tell (Txt.join (Str.ofString ".") (ps.take (k + 1))) (Txt.join (Str.ofString ".") qs) = due ps qs (k + 1) := by
  have hkk : (ps.take (k + 1)).length = k + 1 := by rw [List.length_take]; omega
  have key := jn_pre (ks := (ps.take (k + 1)).map toL) (qs := qs.map toL) (map_ne (by omega)) (map_ne hq.one) (fun p h => parts_free hp p (by rw [List.map_take] at h; exact List.mem_of_mem_take h)) (parts_free hq)
  rw [List.length_map, hkk, ← List.map_take] at key
  have key2 : ((ps.take (k + 1)).map toL = (qs.take (k + 1)).map toL) ↔ ps.take (k + 1) = qs.take (k + 1) := List.map_inj_right fun _ _ => toL_inj
  rw [key2, ← toL_join, ← toL_join] at key
  have hb : tellB (Txt.join (Str.ofString ".") (ps.take (k + 1))) (Txt.join (Str.ofString ".") qs) = true ↔ ps.take (k + 1) = qs.take (k + 1) := by
    rw [← key]
    unfold tellB
    rw [Bool.or_eq_true, decide_eq_true_eq, starts_iff, toL_append, toL_dot]
    constructor
    · rintro (h | ⟨z, h⟩)
      · exact .inl (by rw [h])
      · exact .inr ⟨z, by rw [h, List.append_assoc]; rfl⟩
    · rintro (h | ⟨z, h⟩)
      · exact .inl (toL_inj h)
      · exact .inr ⟨z, by rw [h, List.append_assoc]; rfl⟩
  unfold tell due
  by_cases h : ps.take (k + 1) = qs.take (k + 1)
  · rw [if_pos h, if_pos (hb.mpr h)]
  · rw [if_neg h, if_neg fun e => h (hb.mp e)]
theorem name_not {ps : List Str} (h : PartsOk ps) : Txt.join (Str.ofString ".") ps ≠ Str.ofString "<string>" := fun e => by
  have h1 := split_join_ok h
  rw [e] at h1
  have h2 : Txt.split (Str.ofString "<string>") (Str.ofString ".") = [Str.ofString "<string>"] := by decide +kernel
  rw [h2] at h1
  have := h.of (Str.ofString "<string>") (h1 ▸ List.mem_singleton.mpr rfl)
  revert this
  decide +kernel
end Mine
end

section
open PySem PySem.W PyProof.Rows PyProof.V PySem.Calls
namespace Mine
local macro_rules | `(tactic| k_ne) => `(tactic| (refine neN ?_; (try dsimp only); exact ad_ne))
theorem item_at {prog : Program} {w : World} {A : Around} {E : Value → Shared → Prop} {s : Shared} {l : Addr} {vs : List Value} {h₀ : Heap} {L : Addr} {news : List (Addr × Obj)} {n : Nat} {Q : Value → Shared → Prop} {value slice : Expr} {u : Tok} {x : Value} {i : Int}
    (N : News h₀ L s.heap news) (hm : (l, W.listOf vs.toArray n) ∈ news) (h0 : 0 ≤ i) (h1 : i < 1000) (hx : vs[i.toNat]? = some x) (h : Q x s)
    (hs : subscripted slice false (.ref l) (.int i u) = operate [.ref l, .int i u] (getItem (.ref l) (.int i u)) := by with_unfolding_all rfl) :
    wpAny (model prog w) A (subscriptTail value slice (.ref l) (.int i u)) Q E s := by
  have hl : s.heap.IsList l vs.toArray := ⟨_, (N _ hm).1, rfl, n, rfl⟩
  exact tail_any hl.typeIs slot_list_getitem.lookup (wpAny_getItem_list hl h0 (by omega) (x := x) (by simpa using hx) h) hs
/-- the readers of a name: their list and they -/
structure GRP where
  l : Addr
  rs : List RD
noncomputable def refsOf (rs : List RD) : List Value := rs.map fun r => Value.ref r.x
noncomputable def GRP.L (g : GRP) : List (Addr × Obj) := (g.l, LCg.lst (refsOf g.rs)) :: g.rs.flatMap RD.L
theorem SameRs.refs {a b : List RD} (h : SameRs a b) : refsOf b = refsOf a := by
  refine List.ext_getElem? fun i => ?_
  unfold refsOf
  rw [List.getElem?_map, List.getElem?_map]
  cases e : a[i]? with
  | none =>
    have : b[i]? = none := List.getElem?_eq_none (by rw [h.1]; exact List.getElem?_eq_none_iff.mp e)
    rw [this]
  | some r =>
    obtain ⟨g, kv, e2⟩ := h.2 i r e
    rw [e2]; rfl
noncomputable def SameG (a b : List GRP) : Prop := b.length = a.length ∧ ∀ (i : Nat) (g : GRP), a[i]? = some g → ∃ rs, b[i]? = some ⟨g.l, rs⟩ ∧ SameRs g.rs rs
theorem SameG.refl (a : List GRP) : SameG a a := ⟨rfl, fun _ g e => ⟨g.rs, e, SameRs.refl _⟩⟩
theorem SameG.trans {a b c : List GRP} (h : SameG a b) (k : SameG b c) : SameG a c := ⟨k.1.trans h.1, fun i g e => by
  obtain ⟨r1, e1, s1⟩ := h.2 i g e
  obtain ⟨r2, e2, s2⟩ := k.2 i _ e1
  exact ⟨r2, e2, s1.trans s2⟩⟩
theorem SameG.back {a b : List GRP} (h : SameG a b) {i : Nat} {g' : GRP} (e : b[i]? = some g') : ∃ g, a[i]? = some g ∧ g'.l = g.l ∧ SameRs g.rs g'.rs := by
  have hi : i < a.length := by
    have := (List.getElem?_eq_some_iff.mp e).1
    rw [h.1] at this; exact this
  obtain ⟨rs, e2, s⟩ := h.2 i _ (List.getElem?_eq_getElem hi)
  rw [e2] at e
  obtain rfl := Option.some.inj e
  exact ⟨_, List.getElem?_eq_getElem hi, rfl, s⟩
theorem SameG.set {a b : List GRP} (h : SameG a b) {i : Nat} {g : GRP} (e : b[i]? = some g) {rs : List RD} (s : SameRs g.rs rs) : SameG a (b.set i ⟨g.l, rs⟩) := by
  refine h.trans ⟨List.length_set, fun j g2 e2 => ?_⟩
  by_cases hj : i = j
  · subst hj
    rw [e] at e2
    obtain rfl := Option.some.inj e2
    exact ⟨rs, by rw [List.getElem?_set_self (List.getElem?_eq_some_iff.mp e).1], s⟩
  · exact ⟨g2.rs, by rw [List.getElem?_set_ne hj]; exact e2, SameRs.refl _⟩
theorem memG {gs : List GRP} {p : Addr × Obj} : p ∈ gs.flatMap GRP.L ↔ ∃ (i : Nat) (g : GRP), gs[i]? = some g ∧ p ∈ g.L := by
  rw [List.mem_flatMap]
  constructor
  · rintro ⟨r, hr, hp⟩
    obtain ⟨i, e⟩ := List.mem_iff_getElem?.mp hr
    exact ⟨i, r, e, hp⟩
  · rintro ⟨i, r, e, hp⟩
    exact ⟨r, List.mem_iff_getElem?.mpr ⟨i, e⟩, hp⟩
theorem grp_addr {g g' : GRP} (hl : g'.l = g.l) (s : SameRs g.rs g'.rs) : ∀ p ∈ g'.L, ∃ q ∈ g.L, q.1 = p.1 := fun p hp => by
  rcases List.mem_cons.mp hp with rfl | hp
  · exact ⟨_, .head _, hl.symm⟩
  · obtain ⟨q, hq, e⟩ := s.addr p hp
    exact ⟨q, .tail _ hq, e⟩
theorem SameG.addr {a b : List GRP} (h : SameG a b) : ∀ p ∈ b.flatMap GRP.L, ∃ q ∈ a.flatMap GRP.L, q.1 = p.1 := fun p hp => by
  obtain ⟨i, g', e, hp⟩ := memG.mp hp
  obtain ⟨g, e2, hl, s⟩ := h.back e
  obtain ⟨q, hq, e3⟩ := grp_addr hl s p hp
  exact ⟨q, memG.mpr ⟨i, g, e2, hq⟩, e3⟩
noncomputable def AwayG (gs : List GRP) (X : List (Addr × Obj)) : Prop := ∀ g ∈ gs, Away g.rs X
theorem AwayG.mono {gs : List GRP} {X Y : List (Addr × Obj)} (h : AwayG gs X) (k : ∀ p ∈ Y, p ∈ X) : AwayG gs Y := fun g hg p hp => h g hg p (k p hp)
theorem SameG.awayG {a b : List GRP} (h : SameG a b) {X : List (Addr × Obj)} (A : AwayG a X) : AwayG b X := fun g hg => by
  obtain ⟨i, e⟩ := List.mem_iff_getElem?.mp hg
  obtain ⟨g0, e0, _, s⟩ := h.back e
  exact s.away (A g0 (List.mem_of_getElem? e0))
/-- the groups lie apart -/
structure Grps (gs : List GRP) : Prop where
  out : ∀ (i j : Nat) (a b : GRP), i ≠ j → gs[i]? = some a → gs[j]? = some b → Away a.rs b.L
  own : ∀ g ∈ gs, ApartL g.rs ∧ Away g.rs [(g.l, LCg.lst (refsOf g.rs))]
theorem SameG.grps {a b : List GRP} (h : SameG a b) (G : Grps a) : Grps b := by
  refine ⟨fun i j x y hij ei ej p hp => ?_, fun g hg => ?_⟩
  · obtain ⟨x0, e0, _, sx⟩ := h.back ei
    obtain ⟨y0, e1, hl, sy⟩ := h.back ej
    obtain ⟨q, hq, e⟩ := grp_addr hl sy p hp
    rw [← e]
    exact sx.away (G.out i j x0 y0 hij e0 e1) q hq
  · obtain ⟨i, e⟩ := List.mem_iff_getElem?.mp hg
    obtain ⟨g0, e0, hl, s⟩ := h.back e
    obtain ⟨a1, a2⟩ := G.own g0 (List.mem_of_getElem? e0)
    refine ⟨s.apartL a1, s.away ?_⟩
    intro p hp q hq
    rw [List.mem_singleton.mp hp]
    show @Ne Nat g.l q.1
    rw [hl]
    exact a2 _ (List.mem_singleton.mpr rfl) q hq
theorem grps_snoc {gs : List GRP} {D : Addr} {rs : List RD} {Led : List (Addr × Obj)} (G : Grps gs) (hsub : ∀ p ∈ gs.flatMap GRP.L, p ∈ Led) (hA : ApartL rs) (hW : Away rs Led) (hD : ∀ p ∈ rs.flatMap RD.L ++ Led, @Ne Nat p.1 D) : Grps (gs ++ [⟨D, rs⟩]) := by
  have look : ∀ (i : Nat) (a : GRP), (gs ++ [⟨D, rs⟩])[i]? = some a → (i < gs.length ∧ gs[i]? = some a) ∨ (i = gs.length ∧ a = ⟨D, rs⟩) := fun i a e => by
    rcases Nat.lt_trichotomy i gs.length with h | h | h
    · rw [List.getElem?_append_left h] at e; exact .inl ⟨h, e⟩
    · subst h
      rw [List.getElem?_append_right (Nat.le_refl _), Nat.sub_self] at e
      exact .inr ⟨rfl, (Option.some.inj e).symm⟩
    · rw [List.getElem?_eq_none (by simp only [List.length_append, List.length_cons, List.length_nil]; omega)] at e
      cases e
  refine ⟨fun i j a b hij ei ej => ?_, fun g hg => ?_⟩
  · rcases look i a ei with ⟨hi, ei⟩ | ⟨hi, rfl⟩ <;> rcases look j b ej with ⟨hj, ej⟩ | ⟨hj, rfl⟩
    · exact G.out i j a b hij ei ej
    · intro p hp q hq
      have hq' : q ∈ Led := hsub q (memG.mpr ⟨i, a, ei, .tail _ hq⟩)
      rcases List.mem_cons.mp hp with rfl | hp
      · exact Ne.symm (hD q (List.mem_append_right _ hq'))
      · exact Ne.symm (hW q hq' p hp)
    · exact fun p hp q hq => hW p (hsub p (memG.mpr ⟨j, b, ej, hp⟩)) q hq
    · omega
  · rcases List.mem_append.mp hg with h | h
    · exact G.own g h
    · rw [List.mem_singleton.mp h]
      refine ⟨hA, fun p hp q hq => ?_⟩
      rw [List.mem_singleton.mp hp]
      exact Ne.symm (hD q (List.mem_append_left _ hq))
theorem setG_flat {c : List GRP} {i : Nat} {g' : GRP} {p : Addr × Obj} (hp : p ∈ (c.set i g').flatMap GRP.L) : p ∈ g'.L ∨ p ∈ (c.eraseIdx i).flatMap GRP.L := by
  obtain ⟨j, a, e, hp⟩ := memG.mp hp
  by_cases hj : i = j
  · subst hj
    have hlt : i < c.length := by have := (List.getElem?_eq_some_iff.mp e).1; rwa [List.length_set] at this
    rw [List.getElem?_set_self hlt] at e
    obtain rfl := Option.some.inj e
    exact .inl hp
  · rw [List.getElem?_set_ne hj] at e
    exact .inr (List.mem_flatMap.mpr ⟨a, List.mem_eraseIdx_iff_getElem?.mpr ⟨j, Ne.symm hj, e⟩, hp⟩)
theorem eraseG_flat {c : List GRP} {i : Nat} {p : Addr × Obj} (hp : p ∈ (c.eraseIdx i).flatMap GRP.L) : ∃ (j : Nat) (a : GRP), i ≠ j ∧ c[j]? = some a ∧ p ∈ a.L := by
  obtain ⟨a, ha, hp⟩ := List.mem_flatMap.mp hp
  obtain ⟨j, hj, e⟩ := List.mem_eraseIdx_iff_getElem?.mp ha
  exact ⟨j, a, Ne.symm hj, e, hp⟩
theorem eraseG_sub {c : List GRP} {i : Nat} : ∀ p ∈ (c.eraseIdx i).flatMap GRP.L, p ∈ c.flatMap GRP.L := fun p hp => by
  obtain ⟨j, a, _, e, h⟩ := eraseG_flat hp
  exact memG.mpr ⟨j, a, e, h⟩
theorem eraseG_away {c : List GRP} {i : Nat} {g : GRP} (G : Grps c) (e : c[i]? = some g) : Away g.rs ((c.eraseIdx i).flatMap GRP.L) := fun p hp q hq => by
  obtain ⟨j, a, hj, e2, h⟩ := eraseG_flat hp
  exact G.out i j g a hj e e2 p h q hq
set_option maxHeartbeats 1000000 in
theorem set_seq2_W (w : World) (mean : ExcName → Option Value) (mg mb : Str → Option Value) (dp un : Nat) (gd : Option (List Code)) (cn : Str) (cs : Scope) (a : Addr) (ccd : Value) (cl : List (Str × Addr)) (outer : List Env) (A₀ : Around) (base h₀ : Heap) (L : Addr) (m : Str → Option Value)
    (s : Shared) (Q E : Value → Shared → Prop) (H : Nat → Int) (T : Nat → Tok) (va vb vmb vop vfb vb2j vjunk vpop : Value) (M dM lb' : Addr) (nb' : Nat) (vb' : List Value) (xb : List Str) (Lr : List (Addr × Obj))
    (B : Below A₀ base outer h₀) (F : Fr h₀ L s.heap m) (X : (Mine.hd.heap_1 w.params).In h₀) (N : News h₀ L s.heap ((M, instObj 242 dM) :: (dM, dictOf (smE' H T va vb vmb vop vfb vb2j vjunk vpop) 10) :: (lb', W.listOf vb'.toArray nb') :: Lr))
    (hv : VaOk vb Lr) (hM : @Ne Nat M dM) (hMb : @Ne Nat lb' dM) (hnew : ∀ p ∈ Lr, @Ne Nat lb' p.1) (hLr : ∀ p ∈ Lr, p.1 ≠ dM) (hb : StrsAre vb' xb) (hsb : xb.length ≤ 4)
    (Tp : Top Qv (looseW Qv looseL) mean mg mb h₀) (hk : cs.kind = .function)
    (hd : dp + 4 < recursionLimit) (hu : un + 30 < cLine)
    (hret : ∀ d2 D2 rs jk led pp led2 h' tk', D2.IsDictOf (PySem.strKind PySem.Challenge.rw_ik0096_01.row.prog w) (rowsK rs) → RowsOk rs xb → (d2 == sysModules) = false →
      Obj.SetObjOf (PySem.strKind PySem.Challenge.rw_ik0096_01.row.prog w) { cls := .type "set", dict := none, data := .set #[] 0 (.fresh 0 0 led) } (fun _ => false) 0 → Fr h₀ L h' m →
      News h₀ L h' ((pp, { cls := .type "set", dict := none, data := .set #[] 0 (.fresh 0 0 led2) }) :: (jk, { cls := .type "set", dict := none, data := .set #[] 0 (.fresh 0 0 led) }) :: (d2, D2) :: (M, instObj 242 dM) :: (dM, dictOf (smE' H T va (.ref lb') .none .none .none (.ref d2) (.ref jk) (.ref pp)) 10) :: (lb', W.listOf vb'.toArray nb') :: (rowsL rs ++ Lr)) →
      dM < d2 ∧ M < d2 ∧ lb' < d2 → (∀ p ∈ Lr, p.1 < d2) → d2 < jk → jk < pp → (∀ r ∈ rs, d2 < r.l ∧ r.l < jk) → Q .none { s with heap := h', toks := tk' }) :
    wpAny (model PySem.Challenge.rw_ik0096_01.row.prog w) (ktrTop dp un gd cn cs L a ccd cl outer) (call (.ref 181) [.ref M, .ref lb']) Q E s := by
  rcases hv with ⟨e, t, rfl⟩ | ⟨lb, n, vl, rfl, hm⟩
  · exact set_seq2_S w mean mg mb dp un gd cn cs a ccd cl outer A₀ base h₀ L m s Q E H T e t va vmb vop vfb vb2j vjunk vpop M dM lb' nb' vb' xb Lr B F X N hM hMb hLr hb hsb Tp hk hd hu hret
  · refine set_seq2_K w mean mg mb dp un gd cn cs a ccd cl outer A₀ base h₀ L m s Q E H T lb n vl va vmb vop vfb vb2j vjunk vpop M dM lb' nb' vb' xb Lr B F X (fun p hp => N p ?_) hM hMb (hLr _ hm) (hnew _ hm) hLr hb hsb Tp hk hd hu (fun d2 D2 rs jk led pp led2 h' tk' z1 z2 z3 z4 F' N' z5 z6 z7 z8 z9 => hret d2 D2 rs jk led pp led2 h' tk' z1 z2 z3 z4 F' (fun p hp => N' p ?_) z5 (fun p hp => z6 p (.tail _ hp)) z7 z8 z9)
    · rcases List.mem_cons.mp hp with rfl | hp
      · exact .head _
      rcases List.mem_cons.mp hp with rfl | hp
      · exact .tail _ (.head _)
      rcases List.mem_cons.mp hp with rfl | hp
      · exact .tail _ (.tail _ (.head _))
      rcases List.mem_cons.mp hp with rfl | hp
      · exact .tail _ (.tail _ (.tail _ hm))
      · exact .tail _ (.tail _ (.tail _ hp))
    · ((apply all_at hp); (try clear hp); (repeat' (refine all_cons ?_ ?_)); all_goals (try intro p hp)) <;> first
        | ((repeat (first | exact List.Mem.head _ | apply List.Mem.tail)); done)
        | (have h' : p ∈ rowsL rs ++ (lb, W.listOf vl.toArray n) :: Lr := by
            rcases List.mem_append.mp hp with h | h
            · exact List.mem_append_left _ h
            · exact List.mem_append_right _ (.tail _ h)
           repeat (first | exact h' | apply List.Mem.tail))
end Mine
end

section
open PySem PySem.W PyProof.Rows PyProof.V PySem.Calls
namespace Mine
theorem join_names : Txt.join (Str.ofString ".") [Str.ofString "a", Str.ofString "bb", Str.ofString "a"] = Str.ofString "a.bb.a" ∧ Txt.join (Str.ofString ".") [Str.ofString "a", Str.ofString "b"] = Str.ofString "a.b" ∧ Txt.join (Str.ofString ".") [Str.ofString "a"] = Str.ofString "a" := by decide +kernel
/-- the names of a script, by their parts -/
noncomputable def NamesAre (ys : List Value) (qs : List (List Str)) : Prop := StrsAre ys (qs.map (Txt.join (Str.ofString "."))) ∧ ∀ ps ∈ qs, PartsOk ps
theorem names_snoc {ys : List Value} {qs : List (List Str)} {ps : List Str} {t : Tok} (h : NamesAre ys qs) (hp : PartsOk ps) : NamesAre (ys ++ [.str (Txt.join (Str.ofString ".") ps) t]) (qs ++ [ps]) := by
  refine ⟨?_, fun q hq => ?_⟩
  · rw [List.map_append]; exact StrsAre.append' h.1 (.cons _ _ .nil)
  · rcases List.mem_append.mp hq with q' | q'
    · exact h.2 q q'
    · rw [List.mem_singleton.mp q']; exact hp
theorem name_len {ps : List Str} (h : PartsOk ps) : (Txt.join (Str.ofString ".") ps).length ≤ 12 := by
  have key : ∀ {ps : List Str}, (∀ p ∈ ps, p.length ≤ 2) → (Txt.join (Str.ofString ".") ps).length ≤ 3 * ps.length := by
    intro ps
    unfold Txt.join
    rw [StrLaws.glued_eq_join]
    induction ps with
    | nil => intro _; exact Nat.le_refl _
    | cons a r ih =>
      intro h
      have h1 := h a (.head _)
      have h2 := ih fun p hp => h p (.tail _ hp)
      cases r with
      | nil => show a.length ≤ _; simp only [List.length_cons, List.length_nil]; omega
      | cons b r =>
        show (a ++ Str.ofString "." ++ Str.join (Str.ofString ".") (b :: r)).length ≤ _
        simp only [Str.length_append, List.length_cons] at h2 ⊢
        have : (Str.ofString ".").length = 1 := rfl
        omega
  have := key (ps := ps) fun p hp => by rcases h.of p hp with rfl | rfl | rfl | rfl <;> decide +kernel
  have := h.four
  omega
/-- a group for a name -/
structure GOk (w : World) (ps : List Str) (n : Nat) (g : GRP) : Prop where
  len : g.rs.length = ps.length
  at_ : ∀ (i : Nat) (r : RD), g.rs[i]? = some r → r.P = Txt.join (Str.ofString ".") (ps.take (i + 1))
  ok : ∀ r ∈ g.rs, r.Ok w ∧ r.kvs.length ≤ n ∧ r.P.length ≤ 100
noncomputable def OffP (X Y : List (Addr × Obj)) : Prop := ∀ p ∈ X, ∀ q ∈ Y, @Ne Nat p.1 q.1
structure RInv (w : World) (Qs : List (List Str)) (PRE : List (Addr × Obj)) (i : Nat) (ys : List Value) (gs : List GRP) : Prop where
  len : gs.length = i
  vals : ys = gs.map fun g => Value.ref g.l
  grps : Grps gs
  off : OffP PRE (gs.flatMap GRP.L)
  ok : ∀ (j : Nat) (g : GRP), gs[j]? = some g → ∃ ps, Qs[j]? = some ps ∧ GOk w ps 1 g
theorem rinv_snoc {w : World} {Qs : List (List Str)} {PRE Led : List (Addr × Obj)} {i : Nat} {ys : List Value} {gs : List GRP} {D : Addr} {rs : List RD} {ps : List Str} (I : RInv w Qs PRE i ys gs) (hps : Qs[i]? = some ps)
    (hP : ∀ p ∈ PRE, p ∈ Led) (hsub : ∀ p ∈ gs.flatMap GRP.L, p ∈ Led) (hl : rs.length = ps.length) (ha : ∀ (j : Nat) (r : RD), rs[j]? = some r → r.P = Txt.join (Str.ofString ".") (ps.take (j + 1))) (hok : RdsOk w 1 rs) (hW : Away rs Led) (hD : ∀ p ∈ rs.flatMap RD.L ++ Led, @Ne Nat p.1 D) :
    RInv w Qs PRE (i + 1) (ys ++ [.ref D]) (gs ++ [⟨D, rs⟩]) where
  len := by rw [List.length_append, I.len]; rfl
  vals := by rw [List.map_append, ← I.vals]; rfl
  grps := grps_snoc I.grps hsub (apartL_of hok.2) hW hD
  off := fun p hp q hq => by
    rw [List.flatMap_append, List.flatMap_singleton] at hq
    rcases List.mem_append.mp hq with hq | hq
    · exact I.off p hp q hq
    · rcases List.mem_cons.mp hq with rfl | hq
      · exact hD p (List.mem_append_right _ (hP p hp))
      · exact hW p (hP p hp) q hq
  ok := fun j g e => by
    rcases Nat.lt_trichotomy j gs.length with h | h | h
    · rw [List.getElem?_append_left h] at e; exact I.ok j g e
    · subst h
      rw [List.getElem?_append_right (Nat.le_refl _), Nat.sub_self] at e
      obtain rfl := Option.some.inj e
      exact ⟨ps, by rw [I.len]; exact hps, hl, ha, hok.1⟩
    · rw [List.getElem?_eq_none (by simp only [List.length_append, List.length_cons, List.length_nil]; omega)] at e
      cases e
theorem ints_any : ∀ {vs : List Value} {ns : List Int} {i : Nat} {v : Value}, IntsAre vs ns → vs[i]? = some v → ∃ x t, v = .int x t
  | _, _, i, v, .nil, e => by simp at e
  | _, _, 0, v, .cons a t r, e => ⟨a, t, by simpa using e.symm⟩
  | _, _, i + 1, v, .cons a t r, e => ints_any r (i := i) (by simpa using e)
theorem GOk.mono {w : World} {ps : List Str} {n k : Nat} {g : GRP} (h : GOk w ps n g) (hk : n ≤ k) : GOk w ps k g := ⟨h.len, h.at_, fun r hr => ⟨(h.ok r hr).1, Nat.le_trans (h.ok r hr).2.1 hk, (h.ok r hr).2.2⟩⟩
theorem tells_due {w : World} {ps qs : List Str} {n : Nat} {g : GRP} (h : GOk w ps n g) (hp : PartsOk ps) (hq : PartsOk qs) : g.rs.map (fun r => tell r.P (Txt.join (Str.ofString ".") qs)) = (List.range ps.length).map (fun j => due ps qs (j + 1)) := by
  refine List.ext_getElem? fun i => ?_
  rw [List.getElem?_map, List.getElem?_map]
  rcases Nat.lt_or_ge i ps.length with hi | hi
  · obtain ⟨r, e⟩ : ∃ r, g.rs[i]? = some r := ⟨_, List.getElem?_eq_getElem (by rw [h.len]; exact hi)⟩
    rw [e, List.getElem?_range hi]
    show some (tell r.P _) = some (due ps qs (i + 1))
    rw [h.at_ i _ e, tell_due hp hq hi]
  · rw [List.getElem?_eq_none (by rw [h.len]; exact hi), List.getElem?_eq_none (by rw [List.length_range]; exact hi)]
    rfl
theorem up_addr' {r : RD} {g : Obj} {kv : List (Str × Value)} : ∀ p ∈ r.L, ∃ q ∈ (r.up g kv).L, q.1 = p.1 := fun p hp => by
  simp only [RD.L, List.mem_cons, List.not_mem_nil, or_false] at hp
  rcases hp with rfl | rfl | rfl | rfl | rfl
  · exact ⟨_, .head _, rfl⟩
  · exact ⟨_, .tail _ (.head _), rfl⟩
  · exact ⟨_, .tail _ (.tail _ (.head _)), rfl⟩
  · exact ⟨_, .tail _ (.tail _ (.tail _ (.head _))), rfl⟩
  · exact ⟨_, .tail _ (.tail _ (.tail _ (.tail _ (.head _)))), rfl⟩
theorem SameG.addr' {a b : List GRP} (h : SameG a b) : ∀ p ∈ a.flatMap GRP.L, ∃ q ∈ b.flatMap GRP.L, q.1 = p.1 := fun p hp => by
  obtain ⟨i, g, e, hp⟩ := memG.mp hp
  obtain ⟨rs, e2, s⟩ := h.2 i g e
  rcases List.mem_cons.mp hp with rfl | hp
  · exact ⟨_, memG.mpr ⟨i, _, e2, .head _⟩, rfl⟩
  · obtain ⟨j, r, er, hp⟩ := mem_flat.mp hp
    obtain ⟨g9, kv9, e9⟩ := s.2 j r er
    obtain ⟨q, hq, e3⟩ := up_addr' (g := g9) (kv := kv9) p hp
    exact ⟨q, memG.mpr ⟨i, _, e2, .tail _ (mem_flat.mpr ⟨j, _, e9, hq⟩)⟩, e3⟩
theorem flat_split {c : List GRP} {k : Nat} {g : GRP} (hg : c[k]? = some g) {p : Addr × Obj} (hp : p ∈ c.flatMap GRP.L) : p ∈ g.L ∨ p ∈ (c.eraseIdx k).flatMap GRP.L := by
  obtain ⟨j, a, e, hp⟩ := memG.mp hp
  by_cases hj : k = j
  · subst hj
    rw [hg] at e
    obtain rfl := Option.some.inj e
    exact .inl hp
  · exact .inr (List.mem_flatMap.mpr ⟨a, List.mem_eraseIdx_iff_getElem?.mpr ⟨j, Ne.symm hj, e⟩, hp⟩)
structure LS where
  va : Value
  vb : Value
  vmb : Value
  vop : Value
  vfb : Value
  vb2j : Value
  vjunk : Value
  vpop : Value
  gs : List GRP
  Ex : List (Addr × Obj)
  tc : Obj
structure LInv (w : World) (Qs : List (List Str)) (gs : List GRP) (dM C4 : Addr) (i : Nat) (c : LS) : Prop where
  va : VaOk c.va c.Ex
  vb : VaOk c.vb c.Ex
  same : SameG gs c.gs
  ok : ∀ (j : Nat) (g : GRP), c.gs[j]? = some g → ∃ ps, Qs[j]? = some ps ∧ GOk w ps (1 + 4 * i) g
  exG : AwayG gs c.Ex
  exC : ∀ p ∈ c.Ex, @Ne Nat p.1 C4
  exD : ∀ p ∈ c.Ex, @Ne Nat p.1 dM
  tc : ∃ v, c.tc.data = .cell v
structure CS where
  va : Value
  vmb : Value
  vop : Value
  gs : List GRP
  Ex : List (Addr × Obj)
structure CInv (w : World) (Qs : List (List Str)) (gs : List GRP) (dM C4 I : Addr) (n : Nat) (k : Nat) (c : CS) : Prop where
  va : VaOk c.va c.Ex
  same : SameG gs c.gs
  ok : ∀ (j : Nat) (g : GRP), c.gs[j]? = some g → ∃ ps, Qs[j]? = some ps ∧ GOk w ps (n + if j < k then 4 else 0) g
  exG : AwayG gs c.Ex
  exC : ∀ p ∈ c.Ex, @Ne Nat p.1 C4
  exD : ∀ p ∈ c.Ex, @Ne Nat p.1 dM
  exI : ∀ p ∈ c.Ex, @Ne Nat p.1 I
theorem cinv_step {w : World} {Qs : List (List Str)} {gs : List GRP} {dM C4 I la : Addr} {n k na : Nat} {c : CS} {g : GRP} {c2 : List RD} {vmb' : Value} {wa : List Value} (J : CInv w Qs gs dM C4 I n k c) (hg : c.gs[k]? = some g) (hS : SameRs g.rs c2)
    (hok : ∀ r ∈ c2, r.Ok w ∧ r.kvs.length ≤ n + 4 ∧ r.P.length ≤ 100) (hA : ∀ q ∈ c.gs.flatMap GRP.L, @Ne Nat la q.1) (h1 : @Ne Nat la C4) (h2 : @Ne Nat la dM) (h3 : @Ne Nat la I) :
    CInv w Qs gs dM C4 I n (k + 1) ⟨.ref la, vmb', .none, c.gs.set k ⟨g.l, c2⟩, (la, W.listOf wa.toArray na) :: c.Ex⟩ where
  va := .inr ⟨la, na, wa, rfl, .head _⟩
  same := J.same.set hg hS
  ok := fun j g' e => by
    have hlt : k < c.gs.length := (List.getElem?_eq_some_iff.mp hg).1
    by_cases hj : k = j
    · subst hj
      have e' : (c.gs.set k ⟨g.l, c2⟩)[k]? = some g' := e
      rw [List.getElem?_set_self hlt] at e'
      obtain rfl := Option.some.inj e'
      obtain ⟨ps, e1, o1⟩ := J.ok k g hg
      refine ⟨ps, e1, hS.1.trans o1.len, fun i r er => ?_, fun r hr => ?_⟩
      · obtain ⟨r0, g0, kv0, e0, rfl⟩ := hS.back er
        exact o1.at_ i r0 e0
      · rw [if_pos (Nat.lt_succ_self k)]
        exact hok r hr
    · have e' : (c.gs.set k ⟨g.l, c2⟩)[j]? = some g' := e
      rw [List.getElem?_set_ne hj] at e'
      obtain ⟨ps, e1, o1⟩ := J.ok j g' e'
      refine ⟨ps, e1, o1.mono ?_⟩
      by_cases h : j < k
      · rw [if_pos h, if_pos (by omega)]; exact Nat.le_refl _
      · rw [if_neg h]; omega
  exG := fun g0 hg0 p hp q hq => by
    rcases List.mem_cons.mp hp with rfl | hp
    · obtain ⟨i, e⟩ := List.mem_iff_getElem?.mp hg0
      obtain ⟨rs, e2, s2⟩ := J.same.2 i g0 e
      obtain ⟨j, r, er, hq⟩ := mem_flat.mp hq
      obtain ⟨g9, kv9, e9⟩ := s2.2 j r er
      have hr0 : r.up g9 kv9 = r.up g9 kv9 := rfl
      have hq2 : ∃ q' ∈ (r.up g9 kv9).L, q'.1 = q.1 := by
        simp only [RD.L, List.mem_cons, List.not_mem_nil, or_false] at hq
        rcases hq with rfl | rfl | rfl | rfl | rfl
        · exact ⟨_, .head _, rfl⟩
        · exact ⟨_, .tail _ (.head _), rfl⟩
        · exact ⟨_, .tail _ (.tail _ (.head _)), rfl⟩
        · exact ⟨_, .tail _ (.tail _ (.tail _ (.head _))), rfl⟩
        · exact ⟨_, .tail _ (.tail _ (.tail _ (.tail _ (.head _)))), rfl⟩
      obtain ⟨q', hq', eq⟩ := hq2
      rw [← eq]
      exact hA q' (memG.mpr ⟨i, _, e2, .tail _ (mem_flat.mpr ⟨j, _, e9, hq'⟩)⟩)
    · exact J.exG g0 hg0 p hp q hq
  exC := fun p hp => by rcases List.mem_cons.mp hp with rfl | hp; exact h1; exact J.exC p hp
  exD := fun p hp => by rcases List.mem_cons.mp hp with rfl | hp; exact h2; exact J.exD p hp
  exI := fun p hp => by rcases List.mem_cons.mp hp with rfl | hp; exact h3; exact J.exI p hp
theorem linv_step {w : World} {Qs : List (List Str)} {gs : List GRP} {dM C4 I Db : Addr} {i n nb : Nat} {c : CS} {wb : List Value} {tc : Obj} {vfb vb2j vjunk vpop : Value} (J : CInv w Qs gs dM C4 I (1 + 4 * i) n c) (hn : gs.length ≤ n) (hA : AwayG gs [(Db, W.listOf wb.toArray nb)]) (h1 : @Ne Nat Db C4) (h2 : @Ne Nat Db dM) (htc : ∃ v, tc.data = .cell v) :
    LInv w Qs gs dM C4 (i + 1) ⟨c.va, .ref Db, c.vmb, c.vop, vfb, vb2j, vjunk, vpop, c.gs, (Db, W.listOf wb.toArray nb) :: c.Ex, tc⟩ where
  va := by
    rcases J.va with h | ⟨la, n', vl, e, hm⟩
    · exact .inl h
    · exact .inr ⟨la, n', vl, e, .tail _ hm⟩
  vb := .inr ⟨Db, nb, wb, rfl, .head _⟩
  same := J.same
  ok := fun j g e => by
    obtain ⟨ps, e1, o1⟩ := J.ok j g e
    have hj : j < c.gs.length := (List.getElem?_eq_some_iff.mp e).1
    rw [J.same.1] at hj
    rw [if_pos (by omega)] at o1
    exact ⟨ps, e1, o1.mono (by omega)⟩
  exG := fun g0 hg0 p hp q hq => by
    rcases List.mem_cons.mp hp with rfl | hp
    · exact hA g0 hg0 _ (.head _) q hq
    · exact J.exG g0 hg0 p hp q hq
  exC := fun p hp => by rcases List.mem_cons.mp hp with rfl | hp; exact h1; exact J.exC p hp
  exD := fun p hp => by rcases List.mem_cons.mp hp with rfl | hp; exact h2; exact J.exD p hp
  tc := htc
theorem cinv_start {w : World} {Qs : List (List Str)} {gs : List GRP} {dM C4 I : Addr} {i : Nat} {c : LS} {vmb vop : Value} (J : LInv w Qs gs dM C4 i c) (hI : ∀ p ∈ c.Ex, @Ne Nat p.1 I) : CInv w Qs gs dM C4 I (1 + 4 * i) 0 ⟨c.va, vmb, vop, c.gs, c.Ex⟩ where
  va := J.va
  same := J.same
  ok := fun j g e => by
    obtain ⟨ps, e1, o1⟩ := J.ok j g e
    exact ⟨ps, e1, o1⟩
  exG := J.exG
  exC := J.exC
  exD := J.exD
  exI := hI
end Mine
end

section
open PySem PySem.W PyProof.Rows PyProof.V PySem.Calls
namespace Mine
set_option hygiene false in
local macro_rules | `(tactic| k_qdec) => `(tactic| decide +kernel)
set_option hygiene false in
local macro_rules | `(tactic| k_ne) => `(tactic| (refine neN ?_; (try dsimp only); exact ad_ne))
set_option hygiene false in
local macro_rules | `(tactic| k_all) => `(tactic| assumption)
set_option hygiene false in
local macro_rules | `(tactic| walk_at "CompSrc") => `(tactic| refine unstop ?_)
set_option hygiene false in
local macro_rules | `(tactic| walk_at "CompSrcT") => `(tactic| refine unstop ?_)
local macro_rules | `(tactic| walk_at "call builtin:str.split") => `(tactic| (k_here; k_dflt (refine' split_K (by k_asm) (by k_asm) (by rfl) (by omega) ?_; k_whole; intro _ _ _ _ _ _ _ l1; (try k_lt l1); (try k_sweep))))
set_option hygiene false in
local macro_rules | `(tactic| walk_at "compareOp NotEq ref ref") => `(tactic| (k_here; k_dflt (refine' ne_ints_same (by k_asm) (by k_mem) (by k_mem) (by assumption) (by assumption) (by ke_room) ?_)))
local macro_rules | `(tactic| walk_at "exec For Name Name cons nil") => `(tactic| (k_here; (rename Fr _ _ _ _ => lF'); (with_unfolding_all refine' For_turns lF' ?_; k_whole)))
set_option hygiene false in
local macro_rules | `(tactic| walk_at "pyIter ref") => `(tactic| refine unstop ?_)
set_option hygiene false in
local macro_rules | `(tactic| walk_at "call builtin:len") => `(tactic| (k_here; k_dflt (refine' KM.len_K (by k_asm) (by k_mem) (by assumption) (by omega) ?_)))
set_option hygiene false in
local macro_rules | `(tactic| walk_at "subscriptTail") => `(tactic| (k_here; k_dflt (refine' item_at (by k_asm) (by k_mem) (by assumption) (by assumption) (by assumption) ?_)))
set_option hygiene false in
local macro_rules | `(tactic| walk_at "call ref") => `(tactic| with_reducible refine unstopR 320 ?_)
set_option hygiene false in
local macro_rules | `(tactic| walk_at "call ref") => `(tactic| with_reducible refine unstopR 325 ?_)
set_option hygiene false in
local macro_rules | `(tactic| walk_at "call ref") => `(tactic| with_reducible refine unstopR 242 ?_)
set_option hygiene false in
local macro_rules | `(tactic| walk_at "call ref") => `(tactic| with_reducible refine unstopR 181 ?_)
set_option hygiene false in
local macro_rules | `(tactic| walk_at "call ref") => `(tactic| with_reducible refine unstopR 344 ?_)
set_option maxRecDepth 100000 in
set_option maxHeartbeats 8000000 in
theorem law_holds : PySem.Challenge.rw_ik0096_01.Holds := by
  refine hd ?_
  k_go0
  all_goals try k_fold
  rename_i h1 tk1 F0 c4 c3 c2 c1 d4 d3 d2' d1 N0 X0
  rename Shared => s1
  rename World => w
  rename (_ : Heap).IsList _ _ => hBase
  k_steps
  rename News _ _ _ _ => N1
  rename Fr _ _ _ _ => F1
  rename_i Dx wx e1 hIx e2 e3 lx
  refine comp_list (σ := Unit) (fun _ => _) (fun i ys _ => ∃ qs, NamesAre ys qs ∧ qs.length = i) () rfl F1 N1 (fun _ _ _ _ => .head _) ?hz ⟨[], ⟨.nil, fun p hp => absurd hp List.not_mem_nil⟩, rfl⟩ ?tu ?fi
  case hz => rw [hIx.length, List.length_take]; (first | exact ad_ne | omega)
  case tu =>
    intro i ys _ v I oI C oC D m₂ h2 tk2 E2 hi hv hPc1 hC hx F2 N2 off ne
    refine gen_post fun PoC hPoC => ?_
    obtain ⟨qs, hq, hql⟩ := hPc1
    obtain ⟨x, t, rfl⟩ := ints_any hIx hv
    k_steps
    rename News _ _ _ _ => N3
    refine' ln_K w _ _ _ _ _ _ _ _ _ _ _ _ _ _ _ _ _ _ _ _ x t _ ?kB ?kF ?kX N3 ?kT ?kk ?kd ?ku ?_
    case kB => k_asm
    case kF => k_asm
    case kX => k_asm
    case kT => k_asm
    case kk => rfl
    case kd => exact Nat.le_of_ble_eq_true rfl
    case ku => exact Nat.le_of_ble_eq_true rfl
    intro ps t6 h6 k6 hp1 hp4 hpa F6 N6
    k_steps
    rename News _ _ _ _ => N7
    refine of_post hPoC ?_
    refine cp_out () (by k_asm) N7 (fun p hp => ?_) (fun p hp => .tail _ (.tail _ (.tail _ hp))) off ⟨qs ++ [ps], names_snoc hq ⟨hp1, hp4, fun p hp => by rcases hpa p hp with h | h | h <;> simp [h]⟩, by rw [List.length_append, hql]; rfl⟩
    (refine sub_at hp ?_; (first | ((try dsimp only); with_reducible (repeat' (first | exact sub_refl | exact sub_nil | refine sub_take ?_ | refine sub_skip ?_)); done) | ((try dsimp only); with_reducible (repeat' (first | exact sub_refl | exact sub_nil | exact mem_hd | refine sub_take ?_ | refine sub_put ?_ ?_ | refine mem_tl ?_ | refine sub_skip ?_)); done) | ((try dsimp only); (repeat' (first | exact sub_refl | exact sub_nil | exact mem_hd | refine sub_take ?_ | refine sub_put ?_ ?_ | refine mem_tl ?_ | refine sub_skip ?_)); done)))
  case fi =>
    rintro g2 ys _ ⟨qs, hq, hql⟩
    have hql2 : qs.length ≤ 2 := by rw [hql, hIx.length, List.length_take]; (first | exact ad_ne | omega)
    intro D h2 tk2 F2 N2 o2
    k_steps
    rename News _ _ _ _ => N3
    have hyl : ys.length ≤ 2 := by rw [hq.1.length, List.length_map]; exact hql2
    refine kmk_add_lit (zs := ys ++ [_, _, _]) (by k_asm) N3 (News.isList N3 (.tail _ (.head _))) (News.isList N3 (.head _)) (by rw [List.toList_toArray]) (fun Dn h3 F3 N4 l3 => ?_) (by rw [sizeLine_eq, List.toList_toArray]; show ys.length + 3 ≤ _; (first | exact ad_ne | omega))
    have hvs := names_snoc (t := tk2 + 1 + 1) (names_snoc (t := tk2 + 1) (names_snoc (t := tk2) hq (ps := [Str.ofString "a", Str.ofString "bb", Str.ofString "a"]) ⟨by decide, by decide, by decide +kernel⟩) (ps := [Str.ofString "a", Str.ofString "b"]) ⟨by decide, by decide, by decide +kernel⟩) (ps := [Str.ofString "a"]) ⟨by decide, by decide, by decide +kernel⟩
    rw [join_names.1, join_names.2.1, join_names.2.2] at hvs
    simp only [List.append_assoc, List.cons_append, List.nil_append] at hvs
    generalize ys ++ [Value.str (Str.ofString "a.bb.a") tk2, Value.str (Str.ofString "a.b") (tk2 + 1), Value.str (Str.ofString "a") (tk2 + 1 + 1)] = vs at hvs N4
    have hQl : (qs ++ [[Str.ofString "a", Str.ofString "bb", Str.ofString "a"], [Str.ofString "a", Str.ofString "b"], [Str.ofString "a"]]).length ≤ 5 := by rw [List.length_append]; show qs.length + 3 ≤ 5; (first | exact ad_ne | omega)
    generalize qs ++ [[Str.ofString "a", Str.ofString "bb", Str.ofString "a"], [Str.ofString "a", Str.ofString "b"], [Str.ofString "a"]] = Qs at hvs hQl
    have N5 : News s1.heap s1.heap.objs.size h3 [(Dn, W.listOf vs.toArray 0), (s1.heap.objs.size + 1 + 1 + 1 + 1, c4), (s1.heap.objs.size + 1 + 1 + 1, c3), (s1.heap.objs.size + 1 + 1, c2), (s1.heap.objs.size + 1, c1)] := fun p hp => N4 p (by
      (refine sub_at hp ?_; (first | ((try dsimp only); with_reducible (repeat' (first | exact sub_refl | exact sub_nil | refine sub_take ?_ | refine sub_skip ?_)); done) | ((try dsimp only); with_reducible (repeat' (first | exact sub_refl | exact sub_nil | exact mem_hd | refine sub_take ?_ | refine sub_put ?_ ?_ | refine mem_tl ?_ | refine sub_skip ?_)); done) | ((try dsimp only); (repeat' (first | exact sub_refl | exact sub_nil | exact mem_hd | refine sub_take ?_ | refine sub_put ?_ ?_ | refine mem_tl ?_ | refine sub_skip ?_)); done))))
    have z4 : @LT.lt Nat _ (s1.heap.objs.size + 1 + 1 + 1 + 1) Dn := l3 _ (.tail _ (.tail _ (.tail _ (.head _))))
    have hsz : ∃ L0 : Nat, L0 = s1.heap.objs.size := ⟨_, rfl⟩
    clear N4 l3
    try clear N3
    try clear N2
    try clear o2
    try clear N1
    try clear F1
    try clear F2
    k_steps
    rename News _ _ _ _ => N6
    rename Fr _ _ _ _ => F6
    rename_i h6 cn1 dn1
    have hvl : vs.length = Qs.length := by rw [hvs.1.length, List.length_map]
    refine comp_list (σ := List GRP) (vs := vs) (k := 0) (fun gs => (Dn, W.listOf vs.toArray 0) :: (s1.heap.objs.size + 1 + 1 + 1 + 1, c4) :: (s1.heap.objs.size + 1 + 1 + 1, c3) :: (s1.heap.objs.size + 1 + 1, c2) :: (s1.heap.objs.size + 1, cn1) :: gs.flatMap GRP.L) (RInv w Qs ((Dn, W.listOf vs.toArray 0) :: (s1.heap.objs.size + 1 + 1 + 1 + 1, c4) :: (s1.heap.objs.size + 1 + 1 + 1, c3) :: (s1.heap.objs.size + 1 + 1, c2) :: (s1.heap.objs.size + 1, cn1) :: [])) [] rfl F6 N6 (fun _ _ _ _ => .head _) (by (first | exact ad_ne | omega)) ⟨rfl, rfl, ⟨fun i j a b _ e => by simp at e, fun g hg => absurd hg List.not_mem_nil⟩, fun p hp q hq => absurd hq List.not_mem_nil, fun j g e => by simp at e⟩ ?tv ?fj
    case tv =>
      intro i us gs v I oI C oC Du m₂ h7 tk7 E7 hi hv hI hC hx F7 N7 off ne
      refine gen_post fun PoC hPoC => ?_
      refine Exists.elim (show ∃ ps, Qs[i]? = some ps from ⟨_, List.getElem?_eq_getElem (by (first | exact ad_ne | omega))⟩) fun ps hps => ?_
      obtain ⟨tn, hvt⟩ := hvs.1.get i (Txt.join (Str.ofString ".") ps) (by rw [List.getElem?_map, hps]; rfl)
      rw [hvt] at hv
      obtain rfl := Option.some.inj hv
      have hpo := hvs.2 ps (List.mem_of_getElem? hps)
      have nl := name_len hpo
      generalize hFl : gs.flatMap GRP.L = Fl at N7 off
      k_steps
      rename News _ _ _ _ => N8
      refine' lr_K w _ _ _ _ _ _ _ _ _ _ _ _ _ _ _ _ _ _ _ _ _ _ ps _ ?kB ?kF ?kX N8 (split_join_ok hpo) hpo.one hpo.four (by (first | exact ad_ne | omega)) (parts_len hpo) ?kT ?kk ?kd ?ku ?_
      case kB => k_asm
      case kF => k_asm
      case kX => k_asm
      case kT => k_asm
      case kk => rfl
      case kd => exact Nat.le_of_ble_eq_true rfl
      case ku => exact Nat.le_of_ble_eq_true rfl
      intro Dg rs h9 k9 hl9 ha9 hok9 hW9 hD9 F9 N9
      k_steps
      rename News _ _ _ _ => N10
      have hsubF : ∀ p ∈ gs.flatMap GRP.L, p ∈ (I, oI) :: (C, oC) :: (Du, LCg.lst us) :: (Dn, W.listOf vs.toArray 0) :: (s1.heap.objs.size + 1 + 1 + 1 + 1, c4) :: (s1.heap.objs.size + 1 + 1 + 1, c3) :: (s1.heap.objs.size + 1 + 1, c2) :: (s1.heap.objs.size + 1, cn1) :: Fl := fun p hp => by
        have h' : p ∈ Fl := hFl ▸ hp
        repeat (first | exact h' | apply List.Mem.tail)
      have hsubP : ∀ p ∈ (Dn, W.listOf vs.toArray 0) :: (s1.heap.objs.size + 1 + 1 + 1 + 1, c4) :: (s1.heap.objs.size + 1 + 1 + 1, c3) :: (s1.heap.objs.size + 1 + 1, c2) :: (s1.heap.objs.size + 1, cn1) :: [], p ∈ (I, oI) :: (C, oC) :: (Du, LCg.lst us) :: (Dn, W.listOf vs.toArray 0) :: (s1.heap.objs.size + 1 + 1 + 1 + 1, c4) :: (s1.heap.objs.size + 1 + 1 + 1, c3) :: (s1.heap.objs.size + 1 + 1, c2) :: (s1.heap.objs.size + 1, cn1) :: Fl := fun p hp => by
        (refine sub_at hp ?_; (first | ((try dsimp only); with_reducible (repeat' (first | exact sub_refl | exact sub_nil | refine sub_take ?_ | refine sub_skip ?_)); done) | ((try dsimp only); with_reducible (repeat' (first | exact sub_refl | exact sub_nil | exact mem_hd | refine sub_take ?_ | refine sub_put ?_ ?_ | refine mem_tl ?_ | refine sub_skip ?_)); done) | ((try dsimp only); (repeat' (first | exact sub_refl | exact sub_nil | exact mem_hd | refine sub_take ?_ | refine sub_put ?_ ?_ | refine mem_tl ?_ | refine sub_skip ?_)); done)))
      have hsubO : ∀ p ∈ [(I, oI), (C, oC), (Du, LCg.lst us)], p ∈ (I, oI) :: (C, oC) :: (Du, LCg.lst us) :: (Dn, W.listOf vs.toArray 0) :: (s1.heap.objs.size + 1 + 1 + 1 + 1, c4) :: (s1.heap.objs.size + 1 + 1 + 1, c3) :: (s1.heap.objs.size + 1 + 1, c2) :: (s1.heap.objs.size + 1, cn1) :: Fl := fun p hp => by
        (refine sub_at hp ?_; (first | ((try dsimp only); with_reducible (repeat' (first | exact sub_refl | exact sub_nil | refine sub_take ?_ | refine sub_skip ?_)); done) | ((try dsimp only); with_reducible (repeat' (first | exact sub_refl | exact sub_nil | exact mem_hd | refine sub_take ?_ | refine sub_put ?_ ?_ | refine mem_tl ?_ | refine sub_skip ?_)); done) | ((try dsimp only); (repeat' (first | exact sub_refl | exact sub_nil | exact mem_hd | refine sub_take ?_ | refine sub_put ?_ ?_ | refine mem_tl ?_ | refine sub_skip ?_)); done)))
      have hsplit : ∀ p ∈ (Dn, W.listOf vs.toArray 0) :: (s1.heap.objs.size + 1 + 1 + 1 + 1, c4) :: (s1.heap.objs.size + 1 + 1 + 1, c3) :: (s1.heap.objs.size + 1 + 1, c2) :: (s1.heap.objs.size + 1, cn1) :: (gs ++ [GRP.mk Dg rs]).flatMap GRP.L, p ∈ (Dn, W.listOf vs.toArray 0) :: (s1.heap.objs.size + 1 + 1 + 1 + 1, c4) :: (s1.heap.objs.size + 1 + 1 + 1, c3) :: (s1.heap.objs.size + 1 + 1, c2) :: (s1.heap.objs.size + 1, cn1) :: Fl ∨ p ∈ (GRP.mk Dg rs).L := fun p hp => by
        ((apply all_at hp); (try clear hp); (repeat' (refine all_cons ?_ ?_)); all_goals (try intro p hp)) <;> first
          | (refine .inl ?_; ((repeat (first | exact List.Mem.head _ | apply List.Mem.tail)); done))
          | (rw [List.flatMap_append, List.flatMap_singleton, hFl] at hp
             rcases List.mem_append.mp hp with h | h
             · refine .inl ?_
               repeat (first | exact h | apply List.Mem.tail)
             · exact .inr h)
      refine of_post hPoC ?_
      refine cp_out (gs ++ [GRP.mk Dg rs]) (by k_asm) N10 (fun p hp => .tail _ (List.mem_append_right _ (hsubO p hp))) (fun p hp => ?_) (fun p hp q hq => ?_) (rinv_snoc hI hps hsubP hsubF hl9 ha9 hok9 hW9 hD9)
      · rcases hsplit p hp with h | h
        · exact .tail _ (List.mem_append_right _ (.tail _ (.tail _ (.tail _ h))))
        · rcases List.mem_cons.mp h with rfl | h
          · exact .head _
          · exact .tail _ (List.mem_append_left _ h)
      · rcases hsplit p hp with h | h
        · exact off p h q hq
        · rcases List.mem_cons.mp h with rfl | h
          · exact Ne.symm (hD9 q (List.mem_append_right _ (hsubO q hq)))
          · exact Ne.symm (hW9 q (hsubO q hq) p h)
    case fj =>
      rintro g3 us gs hI
      intro Dr h7 tk7 F7 N7 o7
      generalize hFl : gs.flatMap GRP.L = Fl at N7 o7
      k_steps
      rename News _ _ _ _ => N8
      refine' sm_new_K w _ _ _ _ _ _ _ _ _ _ _ _ _ _ _ _ _ _ _ _ _ ?kB ?kF ?kX N8 ?kT ?kk ?kd ?ku ?_
      case kB => k_asm
      case kF => k_asm
      case kX => k_asm
      case kT => k_asm
      case kk => rfl
      case kd => exact Nat.le_of_ble_eq_true rfl
      case ku => exact Nat.le_of_ble_eq_true rfl
      intro H T M dM d20 o20 jk0 led0 pp0 led20 h8 tk8 F8 N9 lt1 lt2 lt3 lt4 lt5
      have N10 : News s1.heap s1.heap.objs.size h8 ((M, instObj 242 dM) :: (dM, dictOf (smE' H T (.str (Str.ofString "") 404) (.str (Str.ofString "") 405) .none .none .none (.ref d20) (.ref jk0) (.ref pp0)) 10) :: (Dr, LCg.lst us) :: (Dn, W.listOf vs.toArray 0) :: (s1.heap.objs.size + 1 + 1 + 1 + 1, c4) :: (s1.heap.objs.size + 1 + 1 + 1, c3) :: (s1.heap.objs.size + 1 + 1, c2) :: (s1.heap.objs.size + 1, cn1) :: Fl) := fun p hp => N9 p (.tail _ (.tail _ (.tail _ hp)))
      clear N9
      have y1 : @LT.lt Nat _ dM M := lt2
      have y2 : @LT.lt Nat _ (s1.heap.objs.size + 1 + 1 + 1 + 1) dM := lt1 _ (.tail _ (.tail _ (.head _)))
      have y3 : @LT.lt Nat _ Dn dM := lt1 _ (.tail _ (.head _))
      have y4 : @LT.lt Nat _ Dr dM := lt1 _ (.head _)
      have y5 : @Ne Nat Dr (s1.heap.objs.size + 1 + 1 + 1 + 1) := Ne.symm (off1_mem o7 (s1.heap.objs.size + 1 + 1 + 1 + 1, c4) (.tail _ (.head _)))
      have y6 : @Ne Nat Dr (s1.heap.objs.size + 1 + 1 + 1) := Ne.symm (off1_mem o7 (s1.heap.objs.size + 1 + 1 + 1, c3) (.tail _ (.tail _ (.head _))))
      have y7 : @Ne Nat Dr (s1.heap.objs.size + 1 + 1) := Ne.symm (off1_mem o7 (s1.heap.objs.size + 1 + 1, c2) (.tail _ (.tail _ (.tail _ (.head _)))))
      have y8 : @Ne Nat Dr Dn := Ne.symm (off1_mem o7 (Dn, W.listOf vs.toArray 0) (.head _))
      have y9 : ∀ p ∈ Fl, p.1 ≠ s1.heap.objs.size + 1 + 1 + 1 + 1 := fun p hp => Ne.symm (hI.off (s1.heap.objs.size + 1 + 1 + 1 + 1, c4) (.tail _ (.head _)) p (hFl ▸ hp))
      have y10 : ∀ p ∈ Fl, p.1 ≠ s1.heap.objs.size + 1 + 1 + 1 := fun p hp => Ne.symm (hI.off (s1.heap.objs.size + 1 + 1 + 1, c3) (.tail _ (.tail _ (.head _))) p (hFl ▸ hp))
      have y11 : ∀ p ∈ Fl, p.1 ≠ s1.heap.objs.size + 1 + 1 := fun p hp => Ne.symm (hI.off (s1.heap.objs.size + 1 + 1, c2) (.tail _ (.tail _ (.tail _ (.head _)))) p (hFl ▸ hp))
      k_steps
      rename News _ _ _ _ => N12
      rename Fr _ _ _ _ => F12
      rename_i Dt hh1 ltD hh2 hh3 cr dcr hh4 cm dcm
      have N11 : News s1.heap s1.heap.objs.size _ ((M, instObj 242 dM) :: (dM, dictOf (smE' H T (.str (Str.ofString "") 404) (.str (Str.ofString "") 405) .none .none .none (.ref d20) (.ref jk0) (.ref pp0)) 10) :: (Dr, LCg.lst us) :: (Dn, W.listOf vs.toArray 0) :: (s1.heap.objs.size + 1 + 1 + 1 + 1, c4) :: (s1.heap.objs.size + 1 + 1 + 1, cm) :: (s1.heap.objs.size + 1 + 1, cr) :: (s1.heap.objs.size + 1, cn1) :: Fl) := fun p hp => N12 p (.tail _ hp)
      have fDM : ∀ p ∈ Fl, @LT.lt Nat _ p.1 dM := fun p hp => lt1 p (by repeat (first | exact hp | apply List.Mem.tail))
      have fDr : ∀ p ∈ Fl, @Ne Nat p.1 Dr := fun p hp => off1_mem o7 p (by repeat (first | exact hp | apply List.Mem.tail))
      have fDn : ∀ p ∈ Fl, @Ne Nat p.1 Dn := fun p hp => Ne.symm (hI.off (Dn, W.listOf vs.toArray 0) (.head _) p (hFl ▸ hp))
      have fC1 : ∀ p ∈ Fl, @Ne Nat p.1 (s1.heap.objs.size + 1) := fun p hp => Ne.symm (hI.off (s1.heap.objs.size + 1, cn1) (.tail _ (.tail _ (.tail _ (.tail _ (.head _))))) p (hFl ▸ hp))
      have fC2 : ∀ p ∈ Fl, @Ne Nat p.1 (s1.heap.objs.size + 1 + 1) := y11
      have fC3 : ∀ p ∈ Fl, @Ne Nat p.1 (s1.heap.objs.size + 1 + 1 + 1) := y10
      have fC4 : ∀ p ∈ Fl, @Ne Nat p.1 (s1.heap.objs.size + 1 + 1 + 1 + 1) := y9
      rw [← hFl] at N11
      have hgl : gs.length = vs.length := hI.len
      have back : ∀ {c : List GRP}, SameG gs c → ∀ p ∈ c.flatMap GRP.L, ∃ q ∈ Fl, q.1 = p.1 := fun hS p hp => by
        obtain ⟨q, hq, e⟩ := hS.addr p hp
        exact ⟨q, hFl ▸ hq, e⟩
      refine lv_listG (σ := LS) (vs := vs) (n := 0) (fun c => (M, instObj 242 dM) :: (dM, dictOf (smE' H T c.va c.vb c.vmb c.vop c.vfb c.vb2j c.vjunk c.vpop) 10) :: (Dr, LCg.lst us) :: (Dn, W.listOf vs.toArray 0) :: (s1.heap.objs.size + 1 + 1 + 1 + 1, c.tc) :: (s1.heap.objs.size + 1 + 1 + 1, cm) :: (s1.heap.objs.size + 1 + 1, cr) :: (s1.heap.objs.size + 1, cn1) :: (c.gs.flatMap GRP.L ++ c.Ex)) (fun _ => []) [] (LInv w Qs gs dM (s1.heap.objs.size + 1 + 1 + 1 + 1)) ⟨.str (Str.ofString "") 404, .str (Str.ofString "") 405, .none, .none, .none, .ref d20, .ref jk0, .ref pp0, gs, [], c4⟩ rfl (fun _ c _ => (by repeat (first | exact List.Mem.head _ | apply List.Mem.tail))) F12 (fun p hp => N11 p (by rwa [List.append_nil] at hp)) (fun p hp => absurd hp List.not_mem_nil) ?h0 ?turn ?done
      case h0 =>
        refine ⟨.inl ⟨_, _, rfl⟩, .inl ⟨_, _, rfl⟩, SameG.refl _, fun j g e => ?_, fun g hg p hp => absurd hp List.not_mem_nil, fun p hp => absurd hp List.not_mem_nil, fun p hp => absurd hp List.not_mem_nil, ⟨_, d4⟩⟩
        exact hI.ok j g e
      case turn =>
        intro I i c x u h9 tk9 io hoff hx hP F9 N9
        refine gen_post fun PoA hPoA => ?_
        have hi5 : i < 5 := by have := (List.getElem?_eq_some_iff.mp hx).1; (first | exact ad_ne | omega)
        refine Exists.elim (show ∃ ps, Qs[i]? = some ps from ⟨_, List.getElem?_eq_getElem (by have := (List.getElem?_eq_some_iff.mp hx).1; (first | exact ad_ne | omega))⟩) fun ps2 hps2 => ?_
        obtain ⟨tn2, hvt2⟩ := hvs.1.get i (Txt.join (Str.ofString ".") ps2) (by rw [List.getElem?_map, hps2]; rfl)
        rw [hvt2] at hx
        obtain rfl := Option.some.inj hx
        have hpo2 := hvs.2 ps2 (List.mem_of_getElem? hps2)
        have nl2 := name_len hpo2
        obtain ⟨tcv, htc⟩ := hP.tc
        have I1 : @Ne Nat M I := hoff _ (.head _)
        have I2' : @Ne Nat dM I := hoff _ (.tail _ (.head _))
        have I3 : @Ne Nat Dr I := hoff _ (.tail _ (.tail _ (.head _)))
        have I4 : @Ne Nat Dn I := hoff _ (.tail _ (.tail _ (.tail _ (.head _))))
        have I5 : @Ne Nat (s1.heap.objs.size + 1 + 1 + 1 + 1) I := hoff _ (.tail _ (.tail _ (.tail _ (.tail _ (.head _)))))
        have I6 : @Ne Nat (s1.heap.objs.size + 1 + 1 + 1) I := hoff _ (.tail _ (.tail _ (.tail _ (.tail _ (.tail _ (.head _))))))
        have I7 : @Ne Nat (s1.heap.objs.size + 1 + 1) I := hoff _ (.tail _ (.tail _ (.tail _ (.tail _ (.tail _ (.tail _ (.head _)))))))
        have I8 : @Ne Nat (s1.heap.objs.size + 1) I := hoff _ (.tail _ (.tail _ (.tail _ (.tail _ (.tail _ (.tail _ (.tail _ (.head _))))))))
        have I9 : ∀ p ∈ c.gs.flatMap GRP.L ++ c.Ex, @Ne Nat p.1 I := fun p hp => hoff p (by repeat (first | exact hp | apply List.Mem.tail))
        have bk := back hP.same
        have tC4 : ∀ p ∈ c.gs.flatMap GRP.L ++ c.Ex, p.1 ≠ s1.heap.objs.size + 1 + 1 + 1 + 1 := fun p hp => by
          rcases List.mem_append.mp hp with h | h
          · obtain ⟨q, hq, e⟩ := bk p h
            rw [← e]; exact fC4 q hq
          · exact hP.exC p h
        have tDM : ∀ p ∈ c.gs.flatMap GRP.L ++ c.Ex, @Ne Nat p.1 dM := fun p hp => by
          rcases List.mem_append.mp hp with h | h
          · obtain ⟨q, hq, e⟩ := bk p h
            rw [← e]; have : @LT.lt Nat _ q.1 dM := fDM q hq; (first | exact ad_ne | omega)
          · exact hP.exD p h
        generalize hTl : c.gs.flatMap GRP.L ++ c.Ex = Tl at N9 I9 tC4 tDM
        k_steps
        refine of_post hPoA ?_
        refine gen_post fun PoE hPoE => ?_
        k_steps
        rename News _ _ _ _ => N13
        rename Fr _ _ _ _ => F13
        rename_i hh5 ct dct Db wb hh6 kk6 sb lb
        rw [split_join_ok hpo2] at sb
        refine and10 lb fun b1 b2 b3 b4 b5 b6 b7 b8 b9 b10 => ?_
        have z1 : @LT.lt Nat _ (s1.heap.objs.size + 1 + 1 + 1 + 1) dM := y2
        refine' set_seq2_W w _ _ _ _ _ _ _ _ _ _ _ _ _ _ _ _ _ _ _ _ H T c.va c.vb c.vmb c.vop c.vfb c.vb2j c.vjunk c.vpop M dM Db 0 wb ps2 ((I, io) :: (Dr, LCg.lst us) :: (Dn, W.listOf vs.toArray 0) :: (s1.heap.objs.size + 1 + 1 + 1 + 1, ct) :: (s1.heap.objs.size + 1 + 1 + 1, cm) :: (s1.heap.objs.size + 1 + 1, cr) :: (s1.heap.objs.size + 1, cn1) :: Tl) ?kB ?kF ?kX ?kN ?kv ?k0 ?k1 ?k2 ?k3 sb hpo2.four ?kT ?kk ?kd ?ku ?_
        case kB => k_asm
        case kF => k_asm
        case kX => k_asm
        case kN =>
          intro p hp
          refine N13 p ?_
          (refine sub_at hp ?_; (first | ((try dsimp only); with_reducible (repeat' (first | exact sub_refl | exact sub_nil | refine sub_take ?_ | refine sub_skip ?_)); done) | ((try dsimp only); with_reducible (repeat' (first | exact sub_refl | exact sub_nil | exact mem_hd | refine sub_take ?_ | refine sub_put ?_ ?_ | refine mem_tl ?_ | refine sub_skip ?_)); done) | ((try dsimp only); (repeat' (first | exact sub_refl | exact sub_nil | exact mem_hd | refine sub_take ?_ | refine sub_put ?_ ?_ | refine mem_tl ?_ | refine sub_skip ?_)); done)))
        case kv =>
          rcases hP.vb with h | ⟨la, n', vl, e, hm⟩
          · exact .inl h
          · have h' : (la, W.listOf (List.toArray vl) n') ∈ Tl := hTl ▸ List.mem_append_right _ hm
            exact .inr ⟨la, n', vl, e, (by repeat (first | exact h' | apply List.Mem.tail))⟩
        case k0 => show @Ne Nat M dM; exact ad_ne
        case k1 => show @Ne Nat Db dM; exact ad_ne
        case k2 =>
          intro p hp
          ((apply all_at hp); (try clear hp); (repeat' (refine all_cons ?_ ?_)); all_goals (try intro p hp)) <;> first | (show @Ne Nat Db _; exact ad_ne) | (have : @LT.lt Nat _ p.1 Db := allLt_mem b10 p hp; (first | exact ad_ne | omega))
        case k3 =>
          intro p hp
          ((apply all_at hp); (try clear hp); (repeat' (refine all_cons ?_ ?_)); all_goals (try intro p hp)) <;> first | (show @Ne Nat _ dM; exact ad_ne) | exact tDM p hp
        case kT => k_asm
        case kk => rfl
        case kd => exact Nat.le_of_ble_eq_true rfl
        case ku => exact Nat.le_of_ble_eq_true rfl
        intro d2 D2 rows jk led pp led2 h10 tk10 w1 w2 w3 w4 F14 N14 w5 w6 w7 w8 w9
        clear N13
        have N15 : News s1.heap s1.heap.objs.size h10 ((M, instObj 242 dM) :: (dM, dictOf (smE' H T c.va (.ref Db) .none .none .none (.ref d2) (.ref jk) (.ref pp)) 10) :: (Db, W.listOf wb.toArray 0) :: (jk, { cls := .type "set", dict := none, data := .set #[] 0 (.fresh 0 0 led) }) :: (d2, D2) :: (pp, { cls := .type "set", dict := none, data := .set #[] 0 (.fresh 0 0 led2) }) :: (I, io) :: (Dr, LCg.lst us) :: (Dn, W.listOf vs.toArray 0) :: (s1.heap.objs.size + 1 + 1 + 1 + 1, ct) :: (s1.heap.objs.size + 1 + 1 + 1, cm) :: (s1.heap.objs.size + 1 + 1, cr) :: (s1.heap.objs.size + 1, cn1) :: (rowsL rows ++ Tl)) := by
          intro p hp
          refine N14 p ?_
          ((apply all_at hp); (try clear hp); (repeat' (refine all_cons ?_ ?_)); all_goals (try intro p hp)) <;> first
            | ((repeat (first | exact List.Mem.head _ | apply List.Mem.tail)); done)
            | ((repeat (first | (refine List.mem_append_right _ ?_; (repeat (first | exact List.Mem.head _ | apply List.Mem.tail)); done) | apply List.Mem.tail)); done)
            | (have h' : p ∈ rowsL rows ++ ((I, io) :: (Dr, LCg.lst us) :: (Dn, W.listOf vs.toArray 0) :: (s1.heap.objs.size + 1 + 1 + 1 + 1, ct) :: (s1.heap.objs.size + 1 + 1 + 1, cm) :: (s1.heap.objs.size + 1 + 1, cr) :: (s1.heap.objs.size + 1, cn1) :: Tl) := by
                rcases List.mem_append.mp hp with h | h
                · exact List.mem_append_left _ h
                · refine List.mem_append_right _ ?_
                  repeat (first | exact h | apply List.Mem.tail)
               repeat (first | exact h' | apply List.Mem.tail))
        clear N14
        generalize hT2 : rowsL rows ++ Tl = T2 at N15
        have hvl2 : vs.toArray.size = Qs.length := by rw [List.size_toArray]; exact hvl
        have hQ5 : Qs.length ≤ 5 := hQl
        k_steps
        rename IsRange _ _ _ _ _ _ _ _ => hR
        rename Fr _ _ _ _ => F15
        rename News _ _ _ _ => N16
        refine comp_rangeT (σ := CS) (n := Qs.length) (fun c2 => (M, instObj 242 dM) :: (dM, dictOf (smE' H T c2.va (.ref Db) c2.vmb c2.vop .none (.ref d2) (.ref jk) (.ref pp)) 10) :: (Db, W.listOf wb.toArray 0) :: (jk, { cls := .type "set", dict := none, data := .set #[] 0 (.fresh 0 0 led) }) :: (d2, D2) :: (pp, { cls := .type "set", dict := none, data := .set #[] 0 (.fresh 0 0 led2) }) :: (I, io) :: (Dr, LCg.lst us) :: (Dn, W.listOf vs.toArray 0) :: (s1.heap.objs.size + 1 + 1 + 1 + 1, ct) :: (s1.heap.objs.size + 1 + 1 + 1, cm) :: (s1.heap.objs.size + 1 + 1, cr) :: (s1.heap.objs.size + 1, cn1) :: (rowsL rows ++ (c2.gs.flatMap GRP.L ++ c2.Ex))) (CInv w Qs gs dM (s1.heap.objs.size + 1 + 1 + 1 + 1) I (1 + 4 * i)) ⟨c.va, .none, .none, c.gs, c.Ex⟩ rfl F15 (by rw [← hT2, ← hTl] at N16; exact N16) hR (small_up5 (by (first | exact ad_ne | omega)) (by (first | exact ad_ne | omega))) (range_n rfl) (by (first | exact ad_ne | omega)) (cinv_start hP fun p hp => I9 p (hTl ▸ List.mem_append_right _ hp)) ?tt ?ft
        case tt =>
          intro k c2 t3 Ic oI Cc oC Dz m₂ h11 tk11 E11 hk J hC hx F16 N17 off ne
          refine gen_post fun PoC hPoC => ?_
          refine Exists.elim (show ∃ ps, Qs[k]? = some ps from ⟨_, List.getElem?_eq_getElem hk⟩) fun ps1 hps1 => ?_
          obtain ⟨tn1, hvt1⟩ := hvs.1.get k (Txt.join (Str.ofString ".") ps1) (by rw [List.getElem?_map, hps1]; rfl)
          have hpo1 := hvs.2 ps1 (List.mem_of_getElem? hps1)
          have nl1 := name_len hpo1
          refine Exists.elim (show ∃ g, gs[k]? = some g from ⟨_, List.getElem?_eq_getElem (by rw [hgl, hvl]; exact hk)⟩) fun g0 hg0 => ?_
          obtain ⟨rs1, hg1, hs1⟩ := J.same.2 k g0 hg0
          obtain ⟨psx, hpx, ok1⟩ := J.ok k _ hg1
          rw [hps1] at hpx
          obtain rfl := Option.some.inj hpx
          rw [if_neg (Nat.lt_irrefl k), Nat.add_zero] at ok1
          have hnk : vs[(0 + (k : Int)).toNat]? = some (.str (Txt.join (Str.ofString ".") ps1) tn1) := by rw [show (0 + (k : Int)).toNat = k by (first | exact ad_ne | omega)]; exact hvt1
          have huk : us[(0 + (k : Int)).toNat]? = some (.ref g0.l) := by rw [show (0 + (k : Int)).toNat = k by (first | exact ad_ne | omega), hI.vals, List.getElem?_map, hg0]; rfl
          have hk0 : 0 ≤ 0 + (k : Int) := by (first | exact ad_ne | omega)
          have hk1 : 0 + (k : Int) < 1000 := by (first | exact ad_ne | omega)
          have off3 := off
          generalize hT3 : rowsL rows ++ (c2.gs.flatMap GRP.L ++ c2.Ex) = T3 at N17
          k_steps
          have e1 := split_join_ok hpo1
          have e2 := split_join_ok hpo2
          have inR : ∀ p ∈ rowsL rows, p ∈ T3 := fun p hp => hT3 ▸ List.mem_append_left _ hp
          have inG : ∀ p ∈ c2.gs.flatMap GRP.L, p ∈ T3 := fun p hp => hT3 ▸ List.mem_append_right _ (List.mem_append_left _ hp)
          have inE : ∀ p ∈ c2.Ex, p ∈ T3 := fun p hp => hT3 ▸ List.mem_append_right _ (List.mem_append_right _ hp)
          have inK : ∀ p ∈ GRP.L ⟨g0.l, rs1⟩, p ∈ c2.gs.flatMap GRP.L := fun p hp => memG.mpr ⟨k, _, hg1, hp⟩
          have inO : ∀ p ∈ (c2.gs.eraseIdx k).flatMap GRP.L, p ∈ c2.gs.flatMap GRP.L := eraseG_sub
          have inX : ∀ p ∈ (rowsL rows ++ ((c2.gs.eraseIdx k).flatMap GRP.L ++ c2.Ex)), p ∈ T3 := fun p hp => by
            rcases List.mem_append.mp hp with h | h
            · exact inR p h
            · rcases List.mem_append.mp h with h | h
              · exact inG p (inO p h)
              · exact inE p h
          generalize hRT : (rowsL rows ++ ((c2.gs.eraseIdx k).flatMap GRP.L ++ c2.Ex)) = Rt at inX
          have gFl : ∀ q ∈ c2.gs.flatMap GRP.L, ∃ q0 ∈ Fl, q0.1 = q.1 := back J.same
          have gI : ∀ q ∈ Fl, @Ne Nat q.1 I := fun q hq => by
            obtain ⟨q', hq', e⟩ := hP.same.addr' q (hFl ▸ hq)
            rw [← e]; exact I9 q' (hTl ▸ List.mem_append_left _ hq')
          have v1 : @LT.lt Nat _ dM d2 := w5.1
          have v2 : @LT.lt Nat _ d2 jk := w7
          have v3 : @LT.lt Nat _ jk pp := w8
          have v4 : @LT.lt Nat _ Db d2 := w5.2.2
          have v5 : @LT.lt Nat _ M d2 := w5.2.1
          have rowsD : ∀ p ∈ rowsL rows, @LT.lt Nat _ d2 p.1 := fun p hp => by
            obtain ⟨r, hr, rfl⟩ := List.mem_map.mp hp
            exact (w9 r hr).1
          have ownD : ∀ q ∈ [(Ic, oI), (Cc, oC), (Dz, LCg.lst [])], @Ne Nat q.1 dM := fun q hq => Ne.symm (off3 (dM, dictOf (smE' H T c2.va (.ref Db) c2.vmb c2.vop .none (.ref d2) (.ref jk) (.ref pp)) 10) (.tail _ (.head _)) q hq)
          have ownG : ∀ p ∈ c2.gs.flatMap GRP.L, ∀ q ∈ [(Ic, oI), (Cc, oC), (Dz, LCg.lst [])], @Ne Nat p.1 q.1 := fun p hp q hq => off3 p (by have h' : p ∈ rowsL rows ++ (c2.gs.flatMap GRP.L ++ c2.Ex) := List.mem_append_right _ (List.mem_append_left _ hp); repeat (first | exact h' | apply List.Mem.tail)) q hq
          have rtD : ∀ p ∈ Rt, @Ne Nat p.1 dM := fun p hp => by
            rw [← hRT] at hp
            rcases List.mem_append.mp hp with h | h
            · have : @LT.lt Nat _ d2 p.1 := rowsD p h
              (first | exact ad_ne | omega)
            · rcases List.mem_append.mp h with h | h
              · obtain ⟨q0, hq0, e⟩ := gFl p (inO p h)
                have : @LT.lt Nat _ q0.1 dM := fDM q0 hq0
                rw [← e]; (first | exact ad_ne | omega)
              · exact J.exD p h
          refine' right_K w _ _ _ _ _ _ _ _ _ _ _ _ _ _ _ _ _ _ _ _ H T c2.va Db d2 jk g0.l c2.vmb c2.vop .none (.ref pp) 0 (refsOf rs1).length (1 + 4 * i) M dM wb (Txt.join (Str.ofString ".") ps1) (Txt.join (Str.ofString ".") ps2) _ _ rs1 ((Ic, oI) :: (Cc, oC) :: (Dz, LCg.lst []) :: (pp, { cls := .type "set", dict := none, data := .set #[] 0 (.fresh 0 0 led2) }) :: (I, io) :: (Dr, LCg.lst us) :: (Dn, W.listOf vs.toArray 0) :: (s1.heap.objs.size + 1 + 1 + 1 + 1, ct) :: (s1.heap.objs.size + 1 + 1 + 1, cm) :: (s1.heap.objs.size + 1 + 1, cr) :: (s1.heap.objs.size + 1, cn1) :: Rt) D2 led (rowsK rows) ?kB ?kF ?kX ?kN ?kv w1 ?q1 w3 w4 (by rw [e2]; exact sb) (by rw [e1]; exact hpo1.one) (by rw [e1]; exact hpo1.four) (by rw [e2]; exact hpo2.four) (by rw [e1]; exact parts_strsOk hpo1) (by rw [e2]; exact parts_strsOk hpo2) (by (first | exact ad_ne | omega)) (by (first | exact ad_ne | omega)) (name_not hpo2) (by rw [e1]; exact ok1.len) ok1.ok (by (first | exact ad_ne | omega)) ?q2 (by rw [e1, e2]; exact tells_due ok1 hpo1 hpo2) ?q3 ?q4 ?q5 ?kT ?kk ?kd ?ku ?_
          case kB => k_asm
          case kF => k_asm
          case kX => k_asm
          case kN =>
            intro p hp
            refine N17 p ?_
            ((apply all_at hp); (try clear hp); (repeat' (refine all_cons ?_ ?_)); all_goals (try intro p hp)) <;> first
              | ((repeat (first | exact List.Mem.head _ | apply List.Mem.tail)); done)
              | (have h' : (g0.l, LCg.lst (refsOf rs1)) ∈ T3 := inG _ (inK _ (.head _))
                 (repeat (first | exact h' | apply List.Mem.tail)); done)
              | (rcases List.mem_append.mp hp with h | h
                 · have h' : p ∈ T3 := inG p (inK p (.tail _ h))
                   repeat (first | exact h' | apply List.Mem.tail)
                 · ((apply all_at h); (try clear h); (repeat' (refine all_cons ?_ ?_)); all_goals (try intro p h)) <;> first
                     | ((repeat (first | exact List.Mem.head _ | apply List.Mem.tail)); done)
                     | (have h' : p ∈ T3 := inX p h
                        repeat (first | exact h' | apply List.Mem.tail)))
          case kv =>
            rcases J.va with h | ⟨la, n', vl, e, hm⟩
            · exact .inl h
            · have h' : (la, W.listOf (List.toArray vl) n') ∈ Rt := hRT ▸ List.mem_append_right _ (List.mem_append_right _ hm)
              exact .inr ⟨la, n', vl, e, (by repeat (first | exact h' | apply List.Mem.tail))⟩
          case q1 =>
            rw [e2]
            refine b2j_mono (rows_B2J (Lr := []) w2) fun p hp => ?_
            rw [List.append_nil] at hp
            have h' : p ∈ Rt := hRT ▸ List.mem_append_left _ hp
            repeat (first | exact h' | apply List.Mem.tail)
          case q2 => exact ((J.same.grps hI.grps).own _ (List.mem_of_getElem? hg1)).1
          case q3 =>
            intro p hp
            have hgl0 : @Ne Nat g0.l dM := by
              obtain ⟨q0, hq0, e⟩ := gFl _ (inK _ (.head _))
              have e' : q0.1 = g0.l := e
              have : @LT.lt Nat _ q0.1 dM := fDM q0 hq0
              rw [← e']; (first | exact ad_ne | omega)
            have p1 := ownD _ (.head _)
            have p2 := ownD _ (.tail _ (.head _))
            have p3 := ownD _ (.tail _ (.tail _ (.head _)))
            ((apply all_at hp); (try clear hp); (repeat' (refine all_cons ?_ ?_)); all_goals (try intro p hp)) <;> first | (show @Ne Nat _ dM; first | exact ad_ne | assumption) | exact rtD p hp
          case q4 =>
            intro p hp
            obtain ⟨q0, hq0, e⟩ := gFl p (inK p (.tail _ hp))
            have : @LT.lt Nat _ q0.1 dM := fDM q0 hq0
            rw [← e]; (first | exact ad_ne | omega)
          case q5 =>
            intro p hp q hq
            obtain ⟨q0, hq0, eq⟩ := gFl q (inK q (.tail _ hq))
            have r1 : @LT.lt Nat _ q.1 dM := by have h := fDM q0 hq0; rw [eq] at h; exact h
            have r2 : @Ne Nat q.1 Dr := by have h := fDr q0 hq0; rw [eq] at h; exact h
            have r3 : @Ne Nat q.1 Dn := by have h := fDn q0 hq0; rw [eq] at h; exact h
            have r4 : @Ne Nat q.1 (s1.heap.objs.size + 1 + 1 + 1 + 1) := by have h := fC4 q0 hq0; rw [eq] at h; exact h
            have r5 : @Ne Nat q.1 (s1.heap.objs.size + 1 + 1 + 1) := by have h := fC3 q0 hq0; rw [eq] at h; exact h
            have r6 : @Ne Nat q.1 (s1.heap.objs.size + 1 + 1) := by have h := fC2 q0 hq0; rw [eq] at h; exact h
            have r7 : @Ne Nat q.1 (s1.heap.objs.size + 1) := by have h := fC1 q0 hq0; rw [eq] at h; exact h
            have r8 : @Ne Nat q.1 I := by have h := gI q0 hq0; rw [eq] at h; exact h
            have r9 : ∀ z ∈ [(Ic, oI), (Cc, oC), (Dz, LCg.lst [])], @Ne Nat q.1 z.1 := ownG q (inK q (.tail _ hq))
            have r10 : @Ne Nat q.1 Ic := r9 _ (.head _)
            have r11 : @Ne Nat q.1 Cc := r9 _ (.tail _ (.head _))
            have r12 : @Ne Nat q.1 Dz := r9 _ (.tail _ (.tail _ (.head _)))
            have r13 : @Ne Nat g0.l q.1 := ((J.same.grps hI.grps).own _ (List.mem_of_getElem? hg1)).2 _ (.head _) q hq
            ((apply all_at hp); (try clear hp); (repeat' (refine all_cons ?_ ?_)); all_goals (try intro p hp)) <;> first
              | (show @Ne Nat _ q.1; first | exact ad_ne | assumption)
              | (rw [← hRT] at hp
                 rcases List.mem_append.mp hp with h | h
                 · have : @LT.lt Nat _ d2 p.1 := rowsD p h
                   (first | exact ad_ne | omega)
                 · rcases List.mem_append.mp h with h | h
                   · exact eraseG_away (J.same.grps hI.grps) hg1 p h q hq
                   · exact J.same.awayG J.exG _ (List.mem_of_getElem? hg1) p h q hq)
          case kT => k_asm
          case kk => rfl
          case kd => exact Nat.le_of_ble_eq_true rfl
          case ku => exact Nat.le_of_ble_eq_true rfl
          intro la na wa vmb' rs2 h12 tk12 hS hok2 sa hlt F18 N18
          k_steps
          rename News _ _ _ _ => N19
          have la1 : ∀ q ∈ c2.gs.flatMap GRP.L, @LT.lt Nat _ q.1 la := fun q hq => by
            rcases flat_split hg1 hq with h | h
            · rcases List.mem_cons.mp h with rfl | h
              · exact hlt _ (.tail _ (.tail _ (.head _)))
              · exact hlt q (.tail _ (.tail _ (.tail _ (.tail _ (.tail _ (.tail _ (List.mem_append_left _ h)))))))
            · refine hlt q (.tail _ (.tail _ (.tail _ (.tail _ (.tail _ (.tail _ (List.mem_append_right _ ?_)))))))
              have h' : q ∈ Rt := hRT ▸ List.mem_append_right _ (List.mem_append_left _ h)
              repeat (first | exact h' | apply List.Mem.tail)
          have la2 : ∀ q ∈ ((Ic, oI) :: (Cc, oC) :: (Dz, LCg.lst []) :: (pp, { cls := .type "set", dict := none, data := .set #[] 0 (.fresh 0 0 led2) }) :: (I, io) :: (Dr, LCg.lst us) :: (Dn, W.listOf vs.toArray 0) :: (s1.heap.objs.size + 1 + 1 + 1 + 1, ct) :: (s1.heap.objs.size + 1 + 1 + 1, cm) :: (s1.heap.objs.size + 1 + 1, cr) :: (s1.heap.objs.size + 1, cn1) :: Rt), @LT.lt Nat _ q.1 la := fun q hq => hlt q (.tail _ (.tail _ (.tail _ (.tail _ (.tail _ (.tail _ (List.mem_append_right _ hq)))))))
          have la3 : @LT.lt Nat _ dM la := hlt _ (.tail _ (.head _))
          have la4 : @LT.lt Nat _ I la := la2 (I, io) (by repeat (first | exact List.Mem.head _ | apply List.Mem.tail))
          have la5 : @LT.lt Nat _ (s1.heap.objs.size + 1 + 1 + 1 + 1) la := la2 (s1.heap.objs.size + 1 + 1 + 1 + 1, ct) (by repeat (first | exact List.Mem.head _ | apply List.Mem.tail))
          have hJ2 := cinv_step (na := na) (wa := wa) (vmb' := vmb') J hg1 hS hok2 (fun q hq => Nat.ne_of_gt (la1 q hq)) (Nat.ne_of_gt la5) (Nat.ne_of_gt la3) (Nat.ne_of_gt la4)
          have hN20 : ∀ p ∈ (Ic, oI) :: (Cc, oC) :: (Dz, LCg.lst []) :: (pp, { cls := .type "set", dict := none, data := .set #[] 0 (.fresh 0 0 led2) }) :: (I, io) :: (Dr, LCg.lst us) :: (Dn, W.listOf vs.toArray 0) :: (s1.heap.objs.size + 1 + 1 + 1 + 1, ct) :: (s1.heap.objs.size + 1 + 1 + 1, cm) :: (s1.heap.objs.size + 1 + 1, cr) :: (s1.heap.objs.size + 1, cn1) :: Rt, ∀ X : List (Addr × Obj), p ∈ rs2.flatMap RD.L ++ (la, W.listOf wa.toArray na) :: ((Ic, oI) :: (Cc, oC) :: (Dz, LCg.lst []) :: (pp, { cls := .type "set", dict := none, data := .set #[] 0 (.fresh 0 0 led2) }) :: (I, io) :: (Dr, LCg.lst us) :: (Dn, W.listOf vs.toArray 0) :: (s1.heap.objs.size + 1 + 1 + 1 + 1, ct) :: (s1.heap.objs.size + 1 + 1 + 1, cm) :: (s1.heap.objs.size + 1 + 1, cr) :: (s1.heap.objs.size + 1, cn1) :: Rt) := fun p hp _ => List.mem_append_right _ (.tail _ hp)
          refine of_post hPoC ?_
          refine And.intro rfl ?_
          refine cp_out ⟨.ref la, vmb', .none, c2.gs.set k ⟨g0.l, rs2⟩, (la, W.listOf wa.toArray na) :: c2.Ex⟩ (by k_asm) N19 (fun p hp => ?_) (fun p hp => ?_) (fun p hp q hq => ?_) hJ2
          · have h' : p ∈ (Ic, oI) :: (Cc, oC) :: (Dz, LCg.lst []) :: (pp, { cls := .type "set", dict := none, data := .set #[] 0 (.fresh 0 0 led2) }) :: (I, io) :: (Dr, LCg.lst us) :: (Dn, W.listOf vs.toArray 0) :: (s1.heap.objs.size + 1 + 1 + 1 + 1, ct) :: (s1.heap.objs.size + 1 + 1 + 1, cm) :: (s1.heap.objs.size + 1 + 1, cr) :: (s1.heap.objs.size + 1, cn1) :: Rt := by
              (refine sub_at hp ?_; (first | ((try dsimp only); with_reducible (repeat' (first | exact sub_refl | exact sub_nil | refine sub_take ?_ | refine sub_skip ?_)); done) | ((try dsimp only); with_reducible (repeat' (first | exact sub_refl | exact sub_nil | exact mem_hd | refine sub_take ?_ | refine sub_put ?_ ?_ | refine mem_tl ?_ | refine sub_skip ?_)); done) | ((try dsimp only); (repeat' (first | exact sub_refl | exact sub_nil | exact mem_hd | refine sub_take ?_ | refine sub_put ?_ ?_ | refine mem_tl ?_ | refine sub_skip ?_)); done)))
            have h2 := hN20 p h' []
            repeat (first | exact h2 | apply List.Mem.tail)
          · ((apply all_at hp); (try clear hp); (repeat' (refine all_cons ?_ ?_)); all_goals (try intro p hp)) <;> first
              | ((repeat (first | exact List.Mem.head _ | apply List.Mem.tail)); done)
              | (refine .tail _ (.tail _ (.tail _ (.tail _ (.tail _ (.tail _ (List.mem_append_right _ (.tail _ ?_))))))); ((repeat (first | exact List.Mem.head _ | apply List.Mem.tail)); done))
              | (rcases List.mem_append.mp hp with h | h
                 · have h2 := hN20 p (by have h' : p ∈ Rt := hRT ▸ List.mem_append_left _ h; repeat (first | exact h' | apply List.Mem.tail)) []
                   repeat (first | exact h2 | apply List.Mem.tail)
                 · rcases List.mem_append.mp h with h | h
                   · rcases setG_flat h with h | h
                     · rcases List.mem_cons.mp h with rfl | h
                       · have e9 : refsOf rs2 = refsOf rs1 := hS.refs
                         rw [e9]
                         repeat (first | exact List.Mem.head _ | apply List.Mem.tail)
                       · have h2 : p ∈ rs2.flatMap RD.L ++ (la, W.listOf wa.toArray na) :: ((Ic, oI) :: (Cc, oC) :: (Dz, LCg.lst []) :: (pp, { cls := .type "set", dict := none, data := .set #[] 0 (.fresh 0 0 led2) }) :: (I, io) :: (Dr, LCg.lst us) :: (Dn, W.listOf vs.toArray 0) :: (s1.heap.objs.size + 1 + 1 + 1 + 1, ct) :: (s1.heap.objs.size + 1 + 1 + 1, cm) :: (s1.heap.objs.size + 1 + 1, cr) :: (s1.heap.objs.size + 1, cn1) :: Rt) := List.mem_append_left _ h
                         repeat (first | exact h2 | apply List.Mem.tail)
                     · have h2 := hN20 p (by have h' : p ∈ Rt := hRT ▸ List.mem_append_right _ (List.mem_append_left _ h); repeat (first | exact h' | apply List.Mem.tail)) []
                       repeat (first | exact h2 | apply List.Mem.tail)
                   · rcases List.mem_cons.mp h with rfl | h
                     · have h2 : (la, W.listOf wa.toArray na) ∈ rs2.flatMap RD.L ++ (la, W.listOf wa.toArray na) :: ((Ic, oI) :: (Cc, oC) :: (Dz, LCg.lst []) :: (pp, { cls := .type "set", dict := none, data := .set #[] 0 (.fresh 0 0 led2) }) :: (I, io) :: (Dr, LCg.lst us) :: (Dn, W.listOf vs.toArray 0) :: (s1.heap.objs.size + 1 + 1 + 1 + 1, ct) :: (s1.heap.objs.size + 1 + 1 + 1, cm) :: (s1.heap.objs.size + 1 + 1, cr) :: (s1.heap.objs.size + 1, cn1) :: Rt) := List.mem_append_right _ (.head _)
                       repeat (first | exact h2 | apply List.Mem.tail)
                     · have h2 := hN20 p (by have h' : p ∈ Rt := hRT ▸ List.mem_append_right _ (List.mem_append_right _ h); repeat (first | exact h' | apply List.Mem.tail)) []
                       repeat (first | exact h2 | apply List.Mem.tail))
          · have own9 : @LT.lt Nat _ q.1 la := by
              refine la2 q ?_
              (refine sub_at hq ?_; (first | ((try dsimp only); with_reducible (repeat' (first | exact sub_refl | exact sub_nil | refine sub_take ?_ | refine sub_skip ?_)); done) | ((try dsimp only); with_reducible (repeat' (first | exact sub_refl | exact sub_nil | exact mem_hd | refine sub_take ?_ | refine sub_put ?_ ?_ | refine mem_tl ?_ | refine sub_skip ?_)); done) | ((try dsimp only); (repeat' (first | exact sub_refl | exact sub_nil | exact mem_hd | refine sub_take ?_ | refine sub_put ?_ ?_ | refine mem_tl ?_ | refine sub_skip ?_)); done)))
            ((apply all_at hp); (try clear hp); (repeat' (refine all_cons ?_ ?_)); all_goals (try intro p hp)) <;> first
              | (refine off3 _ ?_ q hq; ((repeat (first | exact List.Mem.head _ | apply List.Mem.tail)); done))
              | (show @Ne Nat dM q.1; exact Ne.symm (ownD q hq))
              | (rcases List.mem_append.mp hp with h | h
                 · exact off3 p (by have h' : p ∈ rowsL rows ++ (c2.gs.flatMap GRP.L ++ c2.Ex) := List.mem_append_left _ h; repeat (first | exact h' | apply List.Mem.tail)) q hq
                 · rcases List.mem_append.mp h with h | h
                   · obtain ⟨p0, hp0, e⟩ := ((SameG.refl c2.gs).set hg1 hS).addr p h
                     rw [← e]; exact ownG p0 hp0 q hq
                   · rcases List.mem_cons.mp h with rfl | h
                     · show @Ne Nat la q.1
                       (first | exact ad_ne | omega)
                     · exact off3 p (by have h' : p ∈ rowsL rows ++ (c2.gs.flatMap GRP.L ++ c2.Ex) := List.mem_append_right _ (List.mem_append_right _ h); repeat (first | exact h' | apply List.Mem.tail)) q hq)
        case ft =>
          intro g4 c2 J
          intro Dz h11 tk11 F16 N17 o17
          have hnil : IntsAre ([] : List Value) [] := .nil
          have gI : ∀ q ∈ Fl, @Ne Nat q.1 I := fun q hq => by
            obtain ⟨q', hq', e⟩ := hP.same.addr' q (hFl ▸ hq)
            rw [← e]; exact I9 q' (hTl ▸ List.mem_append_left _ hq')
          generalize hT3 : rowsL rows ++ (c2.gs.flatMap GRP.L ++ c2.Ex) = T3 at N17 o17
          k_steps
          rename News _ _ _ _ => N18
          have inG : ∀ p ∈ c2.gs.flatMap GRP.L, p ∈ T3 := fun p hp => hT3 ▸ List.mem_append_right _ (List.mem_append_left _ hp)
          have inE : ∀ p ∈ c2.Ex, p ∈ T3 := fun p hp => hT3 ▸ List.mem_append_right _ (List.mem_append_right _ hp)
          refine of_post hPoE ?_
          refine en_end (.inl rfl) ⟨c2.va, .ref Db, c2.vmb, c2.vop, .none, .ref d2, .ref jk, .ref pp, c2.gs, (Db, W.listOf wb.toArray 0) :: c2.Ex, ct⟩ (by k_asm) N18 (fun p hp => ?_) (fun p hp => ?_) (fun p hp => absurd hp List.not_mem_nil) (fun z _ _ => rfl) ⟨linv_step J (by (first | exact ad_ne | omega)) ?_ ?_ ?_ ⟨_, dct⟩, fun p hp => ?_⟩
          · ((apply all_at hp); (try clear hp); (repeat' (refine all_cons ?_ ?_)); all_goals (try intro p hp)) <;> first
              | ((repeat (first | exact List.Mem.head _ | apply List.Mem.tail)); done)
              | (rcases List.mem_append.mp hp with h | h
                 · have h' := inG p h
                   repeat (first | exact h' | apply List.Mem.tail)
                 · rcases List.mem_cons.mp h with rfl | h
                   · repeat (first | exact List.Mem.head _ | apply List.Mem.tail)
                   · have h' := inE p h
                     repeat (first | exact h' | apply List.Mem.tail))
          · rw [List.mem_singleton.mp hp]
            repeat (first | exact List.Mem.head _ | apply List.Mem.tail)
          · intro g hg p hp q hq
            rw [List.mem_singleton.mp hp]
            have hq' : q ∈ Fl := hFl ▸ List.mem_flatMap.mpr ⟨g, hg, .tail _ hq⟩
            have h1 : @LT.lt Nat _ q.1 dM := fDM q hq'
            show @Ne Nat Db q.1
            (first | exact ad_ne | omega)
          · show @Ne Nat Db _
            (first | exact ad_ne | omega)
          · show @Ne Nat Db dM
            (first | exact ad_ne | omega)
          · ((apply all_at hp); (try clear hp); (repeat' (refine all_cons ?_ ?_)); all_goals (try intro p hp)) <;> first
              | (show @Ne Nat _ I; exact ad_ne)
              | (rcases List.mem_append.mp hp with h | h
                 · obtain ⟨q0, hq0, e⟩ := back J.same p h
                   rw [← e]; exact gI q0 hq0
                 · rcases List.mem_cons.mp h with rfl | h
                   · show @Ne Nat Db I
                     (first | exact ad_ne | omega)
                   · exact J.exI p h)
      case done =>
        intro c u h9 tk9 hP F9 N9
        generalize c.gs.flatMap GRP.L ++ c.Ex = Tl at N9
        k_steps
end Mine
end

theorem PySem.Challenge.cw_ik0096_01_holds : PySem.Challenge.rw_ik0096_01.Holds :=
  Mine.law_holds
