import PyProof.Rows.All
import Wide.All
import OpenK.AllK
import Wide.FinOn
import KE.KBits
import KE.BitLaws
import KE.KSuper
import KE.KNestM
import KE.RegKCallOwn
import KE.RegKStar
import KE.RegLcTurns
import KE.KLcTest
import KE.KLcPair
import KE.RegLGe
import Lean
import PySem.Challenge.RW_ty0040_01

set_option Elab.async false
set_option linter.all false
set_option compiler.extract_closed false

section
open PySem
namespace Mine
/-- the bit of a number at a place -/
noncomputable def hasBit (x : Int) (j : Nat) : Bool := x / 2 ^ j % 2 == 1
theorem hb_zero (x : Int) : hasBit x 0 = (x % 2 == 1) := by simp [hasBit]
theorem hb_succ (x : Int) (j : Nat) : hasBit x (j + 1) = hasBit (x / 2) j := by
  unfold hasBit
  rw [Int.ediv_ediv_of_nonneg (by decide : (0 : Int) ≤ 2), Int.pow_succ, Int.mul_comm]
theorem hb_and : ∀ (j : Nat) (x y : Int), hasBit (Builtin.bitAnd x y) j = (hasBit x j && hasBit y j)
  | 0, x, y => by
    simp only [hb_zero]
    rw [W.kbt_halves x y]
    split
    · rename_i h
      rw [show (2 * Builtin.bitAnd (x / 2) (y / 2) + 1) % 2 = 1 by lia, h.1, h.2]
      rfl
    · rename_i h
      rw [show (2 * Builtin.bitAnd (x / 2) (y / 2) + 0) % 2 = 0 by lia]
      have : (x % 2 == 1 && y % 2 == 1) = false := by
        rw [← Bool.not_eq_true, Bool.and_eq_true, beq_iff_eq, beq_iff_eq]
        exact h
      rw [this]
      rfl
  | j + 1, x, y => by
    rw [hb_succ, hb_succ, hb_succ, ← hb_and j]
    congr 1
    have := W.kbt_halves x y
    split at this <;> lia
theorem hb_xor : ∀ (j : Nat) (x y : Int), hasBit (Builtin.bitXor x y) j = (hasBit x j != hasBit y j)
  | 0, x, y => by
    simp only [hb_zero]
    rw [PyProof.Rows.bitXor_and, W.kbt_halves x y]
    rcases Int.emod_two_eq x with hx | hx <;> rcases Int.emod_two_eq y with hy | hy <;> rw [hx, hy]
    · rw [if_neg (by decide), show (x + y - 2 * (2 * Builtin.bitAnd (x / 2) (y / 2) + 0)) % 2 = 0 by lia]; rfl
    · rw [if_neg (by decide), show (x + y - 2 * (2 * Builtin.bitAnd (x / 2) (y / 2) + 0)) % 2 = 1 by lia]; rfl
    · rw [if_neg (by decide), show (x + y - 2 * (2 * Builtin.bitAnd (x / 2) (y / 2) + 0)) % 2 = 1 by lia]; rfl
    · rw [if_pos (by decide), show (x + y - 2 * (2 * Builtin.bitAnd (x / 2) (y / 2) + 1)) % 2 = 0 by lia]; rfl
  | j + 1, x, y => by
    rw [hb_succ, hb_succ, hb_succ, ← hb_xor j]
    congr 1
    rw [PyProof.Rows.bitXor_and, PyProof.Rows.bitXor_and]
    have := W.kbt_halves x y
    split at this <;> lia
theorem hb_not : ∀ (j : Nat) (x : Int), hasBit (Builtin.bitNot x) j = !hasBit x j
  | 0, x => by
    simp only [hb_zero]
    unfold Builtin.bitNot
    rcases Int.emod_two_eq x with hx | hx <;> rw [hx]
    · rw [show (-x - 1) % 2 = 1 by lia]; rfl
    · rw [show (-x - 1) % 2 = 0 by lia]; rfl
  | j + 1, x => by
    rw [hb_succ, hb_succ, ← hb_not j]
    congr 1
    unfold Builtin.bitNot
    lia
theorem eq_bits : ∀ (n : Nat) (x y : Int), (x - y).natAbs ≤ n → (∀ j, hasBit x j = hasBit y j) → x = y
  | 0, x, y, h, _ => by lia
  | n + 1, x, y, h, hb => by
    have h0 : x % 2 = y % 2 := by
      have := hb 0
      rw [hb_zero, hb_zero] at this
      rcases Int.emod_two_eq x with a | a <;> rcases Int.emod_two_eq y with b | b <;> rw [a, b] at this ⊢ <;> cases this
    by_cases e : x = y
    · exact e
    have e2 : x - y = 2 * (x / 2 - y / 2) := by lia
    have := eq_bits n (x / 2) (y / 2) (by clear h0 hb; lia) fun j => by rw [← hb_succ, ← hb_succ]; exact hb (j + 1)
    rw [this] at e2
    lia
theorem eq_of_bits {x y : Int} (h : ∀ j, hasBit x j = hasBit y j) : x = y := eq_bits _ x y (Nat.le_refl _) h
theorem hb_zero_int (j : Nat) : hasBit 0 j = false := by simp [hasBit]
theorem zero_iff (x : Int) : x = 0 ↔ ∀ j, hasBit x j = false :=
  ⟨fun h j => by rw [h]; exact hb_zero_int j, fun h => eq_of_bits fun j => by rw [h j, hb_zero_int]⟩
end Mine
end

section
open PySem
namespace Mine
/-- rows that fill up to a width -/
noncomputable def rowSum {α : Type} (f : α → Int) (row : List α) : Int := (row.map f).sum
noncomputable def grow {α : Type} (f : α → Int) (width : Int) : List (List α) → List α → Int → List α → List (List α)
  | rows, row, _, [] => rows ++ [row]
  | rows, row, ini, a :: r =>
    if ini + rowSum f (row ++ [a]) ≤ width then grow f width rows (row ++ [a]) ini r
    else if row.isEmpty && ini == 0 then grow f width rows [a] 0 r
    else grow f width (rows ++ [row]) [a] 0 r
theorem rowSum_snoc {α : Type} (f : α → Int) (row : List α) (a : α) : rowSum f (row ++ [a]) = rowSum f row + f a := by simp [rowSum, List.sum_append]
theorem rowSum_one {α : Type} (f : α → Int) (a : α) : rowSum f [a] = f a := by simp [rowSum]
theorem grow_map {α β : Type} (f : α → Int) (g : β → Int) (h : α → β) (width : Int) : ∀ (items : List α) (rows : List (List α)) (row : List α) (ini : Int),
    (∀ a ∈ row, g (h a) = f a) → (∀ a ∈ items, g (h a) = f a) → grow g width (rows.map (List.map h)) (row.map h) ini (items.map h) = (grow f width rows row ini items).map (List.map h)
  | [], rows, row, ini, _, _ => by simp [grow]
  | a :: r, rows, row, ini, hr, hi => by
    have ea : g (h a) = f a := hi a (.head _)
    have er : rowSum g (row.map h ++ [h a]) = rowSum f (row ++ [a]) := by
      rw [rowSum_snoc, rowSum_snoc, ea]
      congr 1
      unfold rowSum
      rw [List.map_map]
      congr 1
      exact List.map_congr_left hr
    have hi' : ∀ x ∈ r, g (h x) = f x := fun x hx => hi x (.tail _ hx)
    have h1 : ∀ x ∈ [a], g (h x) = f x := fun x hx => by obtain rfl := List.mem_singleton.mp hx; exact ea
    rw [List.map_cons, grow, grow, er]
    split
    · have := grow_map f g h width r rows (row ++ [a]) ini (fun x hx => (List.mem_append.mp hx).elim (hr x) (h1 x)) hi'
      rw [List.map_append] at this
      exact this
    · rw [List.isEmpty_map]
      split
      · exact grow_map f g h width r rows [a] 0 h1 hi'
      · have := grow_map f g h width r (rows ++ [row]) [a] 0 h1 hi'
        rw [List.map_append] at this
        exact this
theorem grow_flat {α : Type} (f : α → Int) (width : Int) : ∀ (items : List α) (rows : List (List α)) (row : List α) (ini : Int), (grow f width rows row ini items).flatten = rows.flatten ++ row ++ items
  | [], rows, row, ini => by simp [grow]
  | a :: r, rows, row, ini => by
    rw [grow]
    split
    · rw [grow_flat]; simp
    · split
      · rename_i h
        have : row = [] := by simpa using (Bool.and_eq_true_iff.mp h).1
        rw [grow_flat, this]; simp
      · rw [grow_flat]; simp
/-- the last row is filled where there are items -/
theorem grow_shape {α : Type} (f : α → Int) (width : Int) : ∀ (items : List α) (rows : List (List α)) (row : List α) (ini : Int), (row ≠ [] ∨ items ≠ []) → (∀ R ∈ rows.tail, R ≠ []) → (rows ≠ [] → row ≠ []) →
    ∃ R Rs, grow f width rows row ini items = R :: Rs ∧ ∀ S ∈ Rs, S ≠ []
  | [], rows, row, ini, h, ht, hr => by
    rw [grow]
    cases rows with
    | nil => exact ⟨row, [], rfl, fun _ h => nomatch h⟩
    | cons R Rs =>
      refine ⟨R, Rs ++ [row], rfl, fun S hS => ?_⟩
      rcases List.mem_append.mp hS with hS | hS
      · exact ht S hS
      · rw [List.mem_singleton.mp hS]; exact hr (by simp)
  | a :: r, rows, row, ini, h, ht, hr => by
    rw [grow]
    split
    · exact grow_shape f width r rows (row ++ [a]) ini (.inl (by simp)) ht fun _ => by simp
    · split
      · exact grow_shape f width r rows [a] 0 (.inl (by simp)) ht fun _ => by simp
      · refine grow_shape f width r (rows ++ [row]) [a] 0 (.inl (by simp)) (fun R hR => ?_) fun _ => by simp
        cases rows with
        | nil => simp at hR
        | cons R' Rs =>
          simp at hR
          rcases hR with hR | rfl
          · exact ht R hR
          · exact hr (by simp)
/-- where rows part -/
noncomputable def lastOr (R : List Nat) : Int := (R.getLast?.map Int.ofNat).getD (-1)
noncomputable def headOr (R : List Nat) : Int := (R.head?.map Int.ofNat).getD (-1)
noncomputable def bounds : List (List Nat) → List (Int × Int)
  | R :: S :: rest => (lastOr R, headOr S) :: bounds (S :: rest)
  | _ => []
theorem bounds_snoc : ∀ (l : List (List Nat)) (R S : List Nat), bounds (l ++ [R, S]) = bounds (l ++ [R]) ++ [(lastOr R, headOr S)]
  | [], R, S => rfl
  | [Q], R, S => rfl
  | Q :: Q' :: l, R, S => by
    show (lastOr Q, headOr Q') :: bounds (Q' :: l ++ [R, S]) = (lastOr Q, headOr Q') :: bounds (Q' :: l ++ [R]) ++ [(lastOr R, headOr S)]
    rw [bounds_snoc (Q' :: l) R S]
    rfl
theorem bounds_head : ∀ (l : List (List Nat)) (R S : List Nat), headOr R = headOr S → bounds (l ++ [R]) = bounds (l ++ [S])
  | [], R, S, _ => rfl
  | [Q], R, S, h => by show [(lastOr Q, headOr R)] = [(lastOr Q, headOr S)]; rw [h]
  | Q :: Q' :: l, R, S, h => by
    show (lastOr Q, headOr Q') :: bounds (Q' :: l ++ [R]) = (lastOr Q, headOr Q') :: bounds (Q' :: l ++ [S])
    rw [bounds_head (Q' :: l) R S h]
/-- the program's own reckoning of the cuts -/
noncomputable def cutGo (head width : Int) (full : Nat → Int) : List (Int × Int) → Int → Int → List Nat → List (Int × Int)
  | cuts, _, _, [] => cuts
  | cuts, room, ahead, p :: r =>
    if full p > room ∧ ahead + head ≥ 0 then cutGo head width full (cuts ++ [(ahead, (p : Int))]) (width - full p) p r
    else cutGo head width full cuts (room - full p) p r
theorem lastOr_snoc (R : List Nat) (p : Nat) : lastOr (R ++ [p]) = p := by simp [lastOr]
theorem lastOr_nonneg {R : List Nat} (h : R ≠ []) : 0 ≤ lastOr R := by
  obtain ⟨l, a, rfl⟩ : ∃ l a, R = l ++ [a] := ⟨R.dropLast, R.getLast h, (List.dropLast_concat_getLast h).symm⟩
  rw [lastOr_snoc]
  exact Int.natCast_nonneg _
theorem cut_grow {head width : Int} (full : Nat → Int) (h0 : 0 ≤ head) : ∀ (items : List Nat) (rows : List (List Nat)) (row : List Nat) (ini : Int),
    (row = [] → ini = head ∧ rows = []) → cutGo head width full (bounds (rows ++ [row])) (width - ini - rowSum full row) (lastOr row) items = bounds (grow full width rows row ini items)
  | [], rows, row, ini, _ => rfl
  | p :: r, rows, row, ini, hr => by
    rw [cutGo, grow, rowSum_snoc]
    by_cases hfit : ini + (rowSum full row + full p) ≤ width
    · rw [if_pos hfit, if_neg (by lia)]
      have hb : bounds (rows ++ [row]) = bounds (rows ++ [row ++ [p]]) := by
        by_cases e : row = []
        · rw [(hr e).2]; rfl
        · refine bounds_head _ _ _ ?_
          cases row with
          | nil => exact absurd rfl e
          | cons a row => rfl
      rw [hb]
      have := cut_grow (width := width) full h0 r rows (row ++ [p]) ini fun e => by simp at e
      rw [lastOr_snoc, rowSum_snoc] at this
      rw [← this]
      congr 1
      lia
    · rw [if_neg hfit]
      by_cases e : row = []
      · subst e
        obtain ⟨rfl, rfl⟩ := hr rfl
        simp only [List.isEmpty_nil, Bool.true_and]
        by_cases hi : ini = 0
        · subst hi
          rw [if_neg (by simp [lastOr]), if_pos (by decide)]
          have := cut_grow (width := width) full h0 r [] [p] 0 fun e => by simp at e
          rw [rowSum_one] at this
          simpa [lastOr, rowSum, bounds] using this
        · rw [if_pos (by have : lastOr [] = -1 := rfl; rw [this]; lia), if_neg (by simpa using hi)]
          have := cut_grow (width := width) full h0 r [[]] [p] 0 fun e => by simp at e
          rw [rowSum_one] at this
          simpa [lastOr, rowSum, bounds, headOr] using this
      · have hl := lastOr_nonneg e
        rw [if_pos (by lia), if_neg (by simp [e])]
        have := cut_grow (width := width) full h0 r (rows ++ [row]) [p] 0 fun e => by simp at e
        rw [rowSum_one] at this
        rw [← this, List.append_assoc]
        show _ = cutGo _ _ _ (bounds (rows ++ [row, [p]])) _ _ _
        rw [bounds_snoc]
        simp [lastOr, headOr]
end Mine
end

section
open PySem
namespace Mine
/-- w stands in g at i, and ends by hi -/
noncomputable def AtL (g w : List Nat) (hi i : Nat) : Prop := i + w.length ≤ hi ∧ (g.drop i).take w.length = w
/-- least place from lo on -/
noncomputable def FirstAt (g w : List Nat) (lo hi : Nat) : Option Nat → Prop
  | some i => lo ≤ i ∧ AtL g w hi i ∧ ∀ k, lo ≤ k → k < i → ¬ AtL g w hi k
  | none => ∀ k, lo ≤ k → ¬ AtL g w hi k
/-- the pieces stand in g one behind the other between lo and hi -/
noncomputable def Chain (g : List Nat) (hi : Nat) : Nat → List (List Nat) → Prop
  | lo, [] => lo ≤ hi
  | lo, w :: ws => ∃ i, lo ≤ i ∧ AtL g w hi i ∧ Chain g hi (i + w.length) ws
theorem Chain.mono {g : List Nat} {hi : Nat} : ∀ {ws : List (List Nat)} {lo lo' : Nat}, lo' ≤ lo → Chain g hi lo ws → Chain g hi lo' ws
  | [], _, _, h, c => Nat.le_trans h c
  | _ :: _, _, _, h, ⟨i, a, b, c⟩ => ⟨i, Nat.le_trans h a, b, c⟩
/-- the search, piece by piece -/
noncomputable def Found (g : List Nat) (hi : Nat) : Nat → List (List Nat) → Bool → Prop
  | _, [], b => b = true
  | lo, w :: ws, b => ∃ o, FirstAt g w lo hi o ∧ match o with
    | none => b = false
    | some i => Found g hi (i + w.length) ws b
theorem found_iff {g : List Nat} {hi : Nat} : ∀ {ws : List (List Nat)} {lo : Nat} {b : Bool}, lo ≤ hi → Found g hi lo ws b → (b = true ↔ Chain g hi lo ws)
  | [], lo, b, h, f => ⟨fun _ => h, fun _ => f⟩
  | w :: ws, lo, b, h, ⟨none, f1, f2⟩ => ⟨fun e => (by rw [show b = false from f2] at e; cases e), fun ⟨i, a, c, _⟩ => absurd c (f1 i a)⟩
  | w :: ws, lo, b, h, ⟨some i, ⟨f1, f2, f3⟩, f4⟩ => by
    have ih := found_iff (lo := i + w.length) f2.1 f4
    rw [ih]
    constructor
    · exact fun c => ⟨i, f1, f2, c⟩
    · rintro ⟨k, a, c, d⟩
      refine d.mono (Nat.add_le_add_right ?_ _)
      exact Nat.le_of_not_lt fun q => f3 k a q c
end Mine
end

section
open PySem
namespace Mine
/-- a pattern of signs, none stands for anything -/
noncomputable def WM {α : Type} : List (Option α) → List (Option α) → Prop
  | [], I => I = []
  | some p :: P, I => ∃ I', I = some p :: I' ∧ WM P I'
  | none :: P, I => ∃ X Y, I = X ++ Y ∧ WM P Y
/-- the cuts of a row of places -/
noncomputable def cutsI : Int → List (Option Nat) → List (Int × Int)
  | _, [] => []
  | _, some p :: r => cutsI p r
  | a, none :: some p :: r => (a, (p : Int)) :: cutsI p r
  | a, none :: r => cutsI a r
/-- places that rise above a -/
inductive Rise : Int → List (Option Nat) → Prop
  | nil {a} : Rise a []
  | put {a : Int} {p : Nat} {r : List (Option Nat)} : a < (p : Int) → Rise (p : Int) r → Rise a (some p :: r)
  | cut {a : Int} {p : Nat} {r : List (Option Nat)} : a < (p : Int) → Rise (p : Int) r → Rise a (none :: some p :: r)
theorem cuts_ge {a : Int} {I : List (Option Nat)} (h : Rise a I) : ∀ c ∈ cutsI a I, a ≤ c.1 ∧ c.1 < c.2 := by
  induction h with
  | nil => exact fun _ h => nomatch h
  | put h r ih => exact fun c hc => ⟨Int.le_trans (Int.le_of_lt h) (ih c hc).1, (ih c hc).2⟩
  | cut h r ih =>
    intro c hc
    rcases List.mem_cons.mp hc with rfl | hc
    · exact ⟨Int.le_refl _, h⟩
    · exact ⟨Int.le_trans (Int.le_of_lt h) (ih c hc).1, (ih c hc).2⟩
theorem rise_gt {a : Int} {I : List (Option Nat)} (h : Rise a I) : ∀ j : Nat, some j ∈ I → a < (j : Int) := by
  induction h with
  | nil => exact fun _ h => nomatch h
  | put h r ih =>
    intro j hj
    rcases List.mem_cons.mp hj with e | hj
    · cases e; exact h
    · exact Int.lt_trans h (ih j hj)
  | cut h r ih =>
    intro j hj
    rcases List.mem_cons.mp hj with e | hj
    · cases e
    rcases List.mem_cons.mp hj with e | hj
    · cases e; exact h
    · exact Int.lt_trans h (ih j hj)
/-- a place of a row lies in none of its cuts -/
theorem cuts_off {a : Int} {I : List (Option Nat)} (h : Rise a I) : ∀ j : Nat, some j ∈ I → ∀ c ∈ cutsI a I, ¬ (c.1 < (j : Int) ∧ (j : Int) < c.2) := by
  induction h with
  | nil => exact fun _ h => nomatch h
  | put h r ih =>
    intro j hj c hc
    rcases List.mem_cons.mp hj with e | hj
    · cases e
      exact fun q => Int.not_le.mpr q.1 (cuts_ge r c hc).1
    · exact ih j hj c hc
  | cut h r ih =>
    intro j hj c hc
    rcases List.mem_cons.mp hj with e | hj
    · cases e
    rcases List.mem_cons.mp hc with rfl | hc
    · rcases List.mem_cons.mp hj with e | hj
      · cases e; exact fun q => Int.lt_irrefl _ q.2
      · exact fun q => Int.lt_asymm q.2 (rise_gt r j hj)
    · rcases List.mem_cons.mp hj with e | hj
      · cases e
        exact fun q => Int.not_le.mpr q.1 (cuts_ge r c hc).1
      · exact ih j hj c hc
/-- what the law asks of two rows of places -/
noncomputable def LawL (cw cs : List (Int × Int)) (P I : List (Option Nat)) : Prop :=
  (∀ j : Nat, ¬ (some j ∈ P ↔ some j ∈ I) → ∃ c ∈ cw, c.1 < (j : Int) ∧ (j : Int) < c.2) ∧ ∀ d ∈ cs, ∃ c ∈ cw, c.1 ≤ d.1 ∧ d.2 ≤ c.2
theorem wm_put {α : Type} {p : α} {P I : List (Option α)} : WM (some p :: P) I ↔ ∃ I', I = some p :: I' ∧ WM P I' := Iff.rfl
theorem wm_any_nil {α : Type} {p : α} {P : List (Option α)} : ¬ WM (none :: some p :: P) [] := by
  rintro ⟨X, Y, e, I', rfl, _⟩
  simp at e
theorem wm_any_cons {α : Type} {p : α} {P I : List (Option α)} {x : Option α} : WM (none :: some p :: P) (x :: I) ↔ (x = some p ∧ WM P I) ∨ WM (none :: some p :: P) I := by
  constructor
  · rintro ⟨X, Y, e, I', rfl, h⟩
    cases X with
    | nil =>
      simp at e
      obtain ⟨rfl, rfl⟩ := e
      exact .inl ⟨rfl, h⟩
    | cons y X =>
      simp at e
      obtain ⟨rfl, rfl⟩ := e
      exact .inr ⟨X, _, rfl, I', rfl, h⟩
  · rintro (⟨rfl, h⟩ | ⟨X, Y, rfl, h⟩)
    · exact ⟨[], _, rfl, I, rfl, h⟩
    · exact ⟨x :: X, Y, rfl, h⟩
theorem wm_mem {α : Type} : ∀ {P I : List (Option α)}, WM P I → ∀ p, some p ∈ P → some p ∈ I
  | [], _, _, p, h => nomatch h
  | some q :: P, I, ⟨I', e, h⟩, p, hp => by
    rw [e]
    rcases List.mem_cons.mp hp with e' | hp
    · rw [e']; exact .head _
    · exact .tail _ (wm_mem h p hp)
  | none :: P, I, ⟨X, Y, e, h⟩, p, hp => by
    rw [e]
    rcases List.mem_cons.mp hp with e' | hp
    · cases e'
    · exact List.mem_append_right _ (wm_mem h p hp)
theorem law_none {cw cs : List (Int × Int)} {P I : List (Option Nat)} {j : Nat} (h1 : some j ∈ P) (h2 : some j ∉ I) (h3 : ∀ c ∈ cw, ¬ (c.1 < (j : Int) ∧ (j : Int) < c.2)) : ¬ LawL cw cs P I := fun h => by
  obtain ⟨c, hc, hh⟩ := h.1 j fun e => h2 (e.mp h1)
  exact h3 c hc hh
/-- a match by signs and the law's word are one -/
theorem wm_law : ∀ {P : List (Option Nat)} {a : Int}, Rise a P → ∀ {n : Nat} {b : Int} {I : List (Option Nat)}, I.length ≤ n → Rise b I → a ≤ b → (b = a ∨ ∃ P', P = none :: P') → (WM P I ↔ LawL (cutsI a P) (cutsI b I) P I)
  | _, a, .nil, _, b, I, _, hI, _, _ => by
    constructor
    · rintro rfl
      exact ⟨fun j h => absurd Iff.rfl h, fun d h => nomatch h⟩
    · intro h
      cases hI with
      | nil => rfl
      | put h1 h2 => obtain ⟨c, hc, _⟩ := h.1 _ (fun e => nomatch e.mpr (.head _)); exact nomatch hc
      | cut h1 h2 => obtain ⟨c, hc, _⟩ := h.1 _ (fun e => nomatch e.mpr (.tail _ (.head _))); exact nomatch hc
  | _, a, .put (p := p) (r := P) hp hP, _, b, I, _, hI, hab, hs => by
    have hb : b = a := by
      rcases hs with h | ⟨P', e⟩
      · exact h
      · cases e
    subst hb
    have ge := cuts_ge hP
    have ec : cutsI b (some p :: P) = cutsI p P := rfl
    have hoff : ∀ c ∈ cutsI b (some p :: P), ¬ (c.1 < (p : Int) ∧ (p : Int) < c.2) := fun c hc => cuts_off (.put hp hP) p (.head _) c hc
    rw [wm_put]
    cases hI with
    | nil =>
      constructor
      · rintro ⟨I', e, _⟩; cases e
      · intro h; exact absurd h (law_none (.head _) (fun h => nomatch h) hoff)
    | @put _ q I' hq hI =>
      by_cases e : q = p
      · subst e
        have ih := wm_law hP (Nat.le_refl _) hI (Int.le_refl _) (.inl rfl)
        have hP' := rise_gt hP
        have hI' := rise_gt hI
        constructor
        · rintro ⟨J, e, h⟩
          cases e
          have := ih.mp h
          refine ⟨fun j hj => this.1 j fun q => hj ?_, this.2⟩
          rw [List.mem_cons, List.mem_cons, q]
        · intro h
          refine ⟨I', rfl, ih.mpr ⟨fun j hj => h.1 j fun e => hj ?_, h.2⟩⟩
          rw [List.mem_cons, List.mem_cons] at e
          constructor
          · intro m
            rcases e.mp (.inr m) with e' | m'
            · have := hP' j m; cases e'; lia
            · exact m'
          · intro m
            rcases e.mpr (.inr m) with e' | m'
            · have := hI' j m; cases e'; lia
            · exact m'
      · constructor
        · rintro ⟨J, e', _⟩; cases e'; exact absurd rfl e
        · intro h
          exfalso
          by_cases lt : q < p
          · obtain ⟨c, hc, c1, c2⟩ := h.1 q fun e' => by
              rcases List.mem_cons.mp (e'.mpr (.head _)) with e' | m
              · cases e'; exact e rfl
              · have := rise_gt hP q m; lia
            have := ge c hc
            lia
          · refine law_none (.head _) (fun m => ?_) hoff h
            rcases List.mem_cons.mp m with e' | m
            · cases e'; exact e rfl
            · have := rise_gt hI p m; lia
    | @cut _ q I' hq hI =>
      constructor
      · rintro ⟨J, e', _⟩; cases e'
      · intro h
        obtain ⟨c, hc, c1, c2⟩ := h.2 _ (.head _)
        have := ge c hc
        dsimp only at c1
        lia
  | _, a, .cut (p := p) (r := P) hp hP, n, b, I, hn, hI, hab, _ => by
    have ge := cuts_ge hP
    have ec : cutsI a (none :: some p :: P) = (a, (p : Int)) :: cutsI p P := rfl
    have hoff : ∀ c ∈ cutsI a (none :: some p :: P), ¬ (c.1 < (p : Int) ∧ (p : Int) < c.2) := fun c hc => cuts_off (.cut hp hP) p (.tail _ (.head _)) c hc
    have hmem : some p ∈ none :: some p :: P := .tail _ (.head _)
    induction n generalizing b I with
    | zero =>
      have : I = [] := List.length_eq_zero_iff.mp (Nat.le_zero.mp hn)
      subst this
      exact ⟨fun h => absurd h wm_any_nil, fun h => absurd h (law_none hmem (fun h => nomatch h) hoff)⟩
    | succ n ih =>
      cases hI with
      | nil => exact ⟨fun h => absurd h wm_any_nil, fun h => absurd h (law_none hmem (fun h => nomatch h) hoff)⟩
      | @put _ q I' hq hI =>
        rw [wm_any_cons]
        have ec' : cutsI b (some q :: I') = cutsI q I' := rfl
        rw [ec']
        have hI' := rise_gt hI
        by_cases e : q = p
        · subst e
          have ih' := wm_law hP (Nat.le_refl _) hI (Int.le_refl _) (.inl rfl)
          have hP' := rise_gt hP
          constructor
          · rintro (⟨_, h⟩ | h)
            · have := ih'.mp h
              rw [ec]
              refine ⟨fun j hj => ?_, fun d hd => ?_⟩
              · obtain ⟨c, hc, hh⟩ := this.1 j fun q => hj (by rw [List.mem_cons, List.mem_cons, List.mem_cons, q]; simp)
                exact ⟨c, .tail _ hc, hh⟩
              · obtain ⟨c, hc, hh⟩ := this.2 d hd
                exact ⟨c, .tail _ hc, hh⟩
            · have := hI' q (wm_mem h q hmem)
              lia
          · intro h
            refine .inl ⟨rfl, ih'.mpr ⟨fun j hj => ?_, fun d hd => ?_⟩⟩
            · have hjp : (q : Int) < j := by
                by_cases m : some j ∈ P
                · exact hP' j m
                · by_cases m' : some j ∈ I'
                  · exact hI' j m'
                  · exact absurd ⟨fun x => absurd x m, fun x => absurd x m'⟩ hj
              obtain ⟨c, hc, hh⟩ := h.1 j fun e => hj (by
                rw [List.mem_cons, List.mem_cons, List.mem_cons] at e
                have hne : ¬ some j = some q := fun e => by cases e; lia
                simpa [hne] using e)
              rcases List.mem_cons.mp hc with rfl | hc
              · dsimp only at hh; lia
              · exact ⟨c, hc, hh⟩
            · have hd' := cuts_ge hI d hd
              obtain ⟨c, hc, hh⟩ := h.2 d hd
              rcases List.mem_cons.mp hc with rfl | hc
              · dsimp only at hh; lia
              · exact ⟨c, hc, hh⟩
        · have hne : ¬ (some q = some p) := fun x => e (by cases x; rfl)
          rw [show ((some q = some p ∧ WM P I') ∨ WM (none :: some p :: P) I') ↔ WM (none :: some p :: P) I' from ⟨fun h => h.resolve_left fun x => hne x.1, .inr⟩]
          by_cases lt : q < p
          · have e9 := ih _ _ (by simpa using hn) hI (by lia) (.inr ⟨_, rfl⟩)
            refine Iff.trans e9 ?_
            have hqP : some q ∉ none :: some p :: P := fun m => by
              rcases List.mem_cons.mp m with e' | m
              · cases e'
              rcases List.mem_cons.mp m with e' | m
              · exact hne e'
              · have := rise_gt hP q m; lia
            have hqI : some q ∉ I' := fun m => by have := hI' q m; lia
            constructor
            · intro h
              refine ⟨fun j hj => ?_, h.2⟩
              by_cases ej : j = q
              · subst ej
                exact ⟨_, .head _, by dsimp only; lia, by dsimp only; lia⟩
              · refine h.1 j fun x => hj ?_
                rw [x, List.mem_cons (a := some j) (b := some q)]
                have : ¬ some j = some q := fun x => ej (by cases x; rfl)
                simp [this]
            · intro h
              refine ⟨fun j hj => ?_, h.2⟩
              by_cases ej : j = q
              · subst ej
                exact absurd ⟨fun x => absurd x hqP, fun x => absurd x hqI⟩ hj
              · refine h.1 j fun x => hj ?_
                rw [x, List.mem_cons (a := some j) (b := some q)]
                have : ¬ some j = some q := fun x => ej (by cases x; rfl)
                simp [this]
          · have hp' : some p ∉ I' := fun m => by have := hI' p m; lia
            constructor
            · intro h; exact absurd (wm_mem h p hmem) hp'
            · intro h
              refine absurd h (law_none hmem (fun m => ?_) hoff)
              rcases List.mem_cons.mp m with e' | m
              · exact hne e'.symm
              · exact hp' m
      | @cut _ q I' hq hI =>
        rw [wm_any_cons]
        have hI' := rise_gt hI
        have ec' : cutsI b (none :: some q :: I') = (b, (q : Int)) :: cutsI b (some q :: I') := rfl
        rw [ec', show ((none = some p ∧ WM P (some q :: I')) ∨ WM (none :: some p :: P) (some q :: I')) ↔ WM (none :: some p :: P) (some q :: I') from ⟨fun h => h.resolve_left fun x => (nomatch x.1), .inr⟩]
        have e9 := ih _ (some q :: I') (by simpa using hn) (.put hq hI) hab (.inr ⟨_, rfl⟩)
        refine Iff.trans e9 ?_
        have mm : ∀ j : Nat, some j ∈ none :: some q :: I' ↔ some j ∈ some q :: I' := fun j => by simp
        by_cases le : q ≤ p
        · constructor
          · intro h
            refine ⟨fun j hj => h.1 j fun x => hj (by rw [mm]; exact x), fun d hd => ?_⟩
            rcases List.mem_cons.mp hd with rfl | hd
            · exact ⟨_, .head _, hab, by dsimp only; lia⟩
            · exact h.2 d hd
          · intro h
            exact ⟨fun j hj => h.1 j fun x => hj (by rw [← mm]; exact x), fun d hd => h.2 d (.tail _ hd)⟩
        · have hp' : some p ∉ some q :: I' := fun m => by
            rcases List.mem_cons.mp m with e' | m
            · cases e'; lia
            · have := hI' p m; lia
          constructor
          · intro h; exact absurd h (law_none hmem hp' hoff)
          · intro h; exact absurd h (law_none hmem (fun m => hp' ((mm p).mp m)) hoff)
end Mine
end

section
open PySem
namespace Mine
/-- blank or line end -/
noncomputable def isSep (c : Nat) : Bool := c == 32 || c == 10
/-- a text cut ahead of each blank and line end -/
noncomputable def tk : List Nat → List Nat × List (List Nat)
  | [] => ([], [])
  | c :: r => if isSep c then ([], (c :: (tk r).1) :: (tk r).2) else (c :: (tk r).1, (tk r).2)
theorem tk_app {b : List Nat} (h : (tk b).1 = []) : ∀ a : List Nat, tk (a ++ b) = ((tk a).1, (tk a).2 ++ (tk b).2)
  | [] => by
    show tk b = ([], [] ++ (tk b).2)
    exact Prod.ext h rfl
  | c :: r => by
    have := tk_app h r
    rw [List.cons_append, tk, tk, this]
    split <;> simp
/-- one piece of a text -/
noncomputable def TokOk (t : List Nat) : Prop := ∃ c b, t = c :: b ∧ isSep c = true ∧ ∀ x ∈ b, isSep x = false
theorem tk_plain {b : List Nat} : (∀ x ∈ b, isSep x = false) → ∀ g : List Nat, tk (b ++ g) = (b ++ (tk g).1, (tk g).2) := by
  induction b with
  | nil => intro _ g; rfl
  | cons x b ih =>
    intro h g
    rw [List.cons_append, tk, h x (.head _), ih fun y hy => h y (.tail _ hy)]
    simp
theorem tk_tok {t : List Nat} (h : TokOk t) (g : List Nat) : tk (t ++ g) = ([], (t ++ (tk g).1) :: (tk g).2) := by
  obtain ⟨c, b, rfl, hc, hb⟩ := h
  rw [List.cons_append, tk, hc, tk_plain hb]
  simp
theorem tk_toks : ∀ {G : List (List Nat)}, (∀ t ∈ G, TokOk t) → tk G.flatten = ([], G)
  | [], _ => rfl
  | t :: G, h => by
    rw [List.flatten_cons, tk_tok (h t (.head _)), tk_toks fun x hx => h x (.tail _ hx)]
    simp
/-- a pattern of pieces against a text -/
noncomputable def CM : List (Option (List Nat)) → List Nat → Prop
  | [], g => g = []
  | some t :: P, g => ∃ g', g = t ++ g' ∧ CM P g'
  | none :: P, g => ∃ x y, g = x ++ y ∧ CM P y
/-- pieces that end in a comma, but for the last -/
inductive PatOk : List (Option (List Nat)) → Prop
  | nil : PatOk []
  | last {t} : TokOk t → PatOk [some t]
  | put {t P} : TokOk t → t.getLast? = some 44 → PatOk P → PatOk (some t :: P)
  | any {t P} : PatOk (some t :: P) → PatOk (none :: some t :: P)
theorem PatOk.tok {t : List Nat} {P : List (Option (List Nat))} (h : PatOk (some t :: P)) : TokOk t := by
  cases h <;> assumption
theorem cm_wm : ∀ {P : List (Option (List Nat))}, PatOk P → ∀ {g : List Nat} {G : List (List Nat)}, tk g = ([], G) → (∀ t ∈ G, 44 ∉ t.dropLast) → CM P g → WM P (G.map some)
  | _, .nil, g, G, hg, _, h => by
    have : g = [] := h
    subst this
    cases hg
    rfl
  | _, .last ht, g, G, hg, _, ⟨g', e, h⟩ => by
    have : g' = [] := h
    subst this
    subst e
    rw [tk_tok ht] at hg
    have e2 := (Prod.mk.inj hg).2
    rw [← e2]
    exact ⟨[], by simp [tk], rfl⟩
  | _, .put (t := t) (P := P) ht h44 hP, g, G, hg, hG, ⟨g', e, h⟩ => by
    subst e
    rw [tk_tok ht] at hg
    have e2 := (Prod.mk.inj hg).2
    subst e2
    have h1 : (tk g').1 = [] := by
      cases e : (tk g').1 with
      | nil => rfl
      | cons y ys =>
        refine absurd ?_ (hG _ (.head _))
        rw [e, List.dropLast_append_of_ne_nil (by simp)]
        exact List.mem_append_left _ (List.mem_of_getLast? h44)
    refine ⟨(tk g').2.map some, by rw [h1]; simp, cm_wm hP (Prod.ext h1 rfl) (fun t ht => hG t (.tail _ ht)) h⟩
  | _, .any (t := t) (P := P) hP, g, G, hg, hG, ⟨x, y, e, h⟩ => by
    subst e
    have hy : (tk y).1 = [] := by
      obtain ⟨g', rfl, _⟩ := h
      rw [tk_tok hP.tok]
    rw [tk_app hy] at hg
    have e2 := (Prod.mk.inj hg).2
    subst e2
    refine ⟨(tk x).2.map some, (tk y).2.map some, by simp, cm_wm hP (Prod.ext hy rfl) (fun t ht => hG t (List.mem_append_right _ ht)) h⟩
theorem wm_cm : ∀ {P : List (Option (List Nat))} {G : List (List Nat)}, WM P (G.map some) → CM P G.flatten
  | [], G, h => by
    have : G = [] := by simpa [WM] using h
    subst this; rfl
  | some t :: P, G, ⟨I', e, h⟩ => by
    cases G with
    | nil => cases e
    | cons u G =>
      rw [List.map_cons] at e
      obtain ⟨e1, rfl⟩ := List.cons.inj e
      cases e1
      exact ⟨G.flatten, by simp, wm_cm h⟩
  | none :: P, G, ⟨X, Y, e, h⟩ => by
    obtain ⟨G1, G2, rfl, rfl, rfl⟩ := List.map_eq_append_iff.mp e
    exact ⟨G1.flatten, G2.flatten, by simp, wm_cm h⟩
theorem cm_iff {P : List (Option (List Nat))} {G : List (List Nat)} (hP : PatOk P) (hG : ∀ t ∈ G, TokOk t ∧ 44 ∉ t.dropLast) : CM P G.flatten ↔ WM P (G.map some) :=
  ⟨cm_wm hP (tk_toks fun t h => (hG t h).1) fun t h => (hG t h).2, wm_cm⟩
/-- rows, parted by none -/
noncomputable def pat {α : Type} : List (List α) → List (Option α)
  | [] => []
  | [R] => R.map some
  | R :: S :: rest => R.map some ++ none :: pat (S :: rest)
theorem cm_app {P : List (Option (List Nat))} : ∀ {R : List (List Nat)} {g : List Nat}, CM (R.map some ++ P) g ↔ ∃ g', g = R.flatten ++ g' ∧ CM P g'
  | [], g => by simp
  | t :: R, g => by
    show (∃ g', g = t ++ g' ∧ CM (R.map some ++ P) g') ↔ _
    constructor
    · rintro ⟨g', rfl, h⟩
      obtain ⟨g'', e, h2⟩ := cm_app.mp h
      exact ⟨g'', by rw [e]; simp, h2⟩
    · rintro ⟨g', rfl, h⟩
      exact ⟨R.flatten ++ g', by simp, cm_app.mpr ⟨g', rfl, h⟩⟩
theorem cm_row {R : List (List Nat)} {g : List Nat} : CM (R.map some) g ↔ g = R.flatten := by
  have := cm_app (P := []) (R := R) (g := g)
  rw [List.append_nil] at this
  rw [this]
  constructor
  · rintro ⟨g', rfl, h⟩
    have : g' = [] := h
    simp [this]
  · rintro rfl
    exact ⟨[], by simp, rfl⟩
/-- pieces one behind the other, anything between -/
noncomputable def GM : List (List Nat) → List Nat → Prop
  | [], _ => True
  | w :: ws, m => ∃ x r, m = x ++ w ++ r ∧ GM ws r
theorem cm_glue {Rl : List (List Nat)} : ∀ {mids : List (List (List Nat))} {R0 : List (List Nat)} {g : List Nat},
    CM (pat (R0 :: (mids ++ [Rl]))) g ↔ ∃ m, g = R0.flatten ++ m ++ Rl.flatten ∧ GM (mids.map List.flatten) m
  | [], R0, g => by
    show CM (R0.map some ++ none :: Rl.map some) g ↔ _
    rw [cm_app]
    constructor
    · rintro ⟨g', rfl, x, y, rfl, h⟩
      rw [cm_row] at h
      exact ⟨x, by rw [h, List.append_assoc], trivial⟩
    · rintro ⟨m, rfl, _⟩
      exact ⟨m ++ Rl.flatten, by rw [List.append_assoc], m, _, rfl, cm_row.mpr rfl⟩
  | S :: mids, R0, g => by
    show CM (R0.map some ++ none :: pat (S :: (mids ++ [Rl]))) g ↔ _
    rw [cm_app]
    constructor
    · rintro ⟨g', rfl, x, y, rfl, h⟩
      obtain ⟨m, rfl, hm⟩ := cm_glue.mp h
      exact ⟨x ++ S.flatten ++ m, by simp, x, m, rfl, hm⟩
    · rintro ⟨m, rfl, x, r, rfl, h⟩
      exact ⟨x ++ (S.flatten ++ r ++ Rl.flatten), by simp, x, _, rfl, cm_glue.mpr ⟨r, rfl, h⟩⟩
theorem chain_gm {g : List Nat} {hi : Nat} (hg : hi ≤ g.length) : ∀ {ws : List (List Nat)} {lo : Nat}, Chain g hi lo ws ↔ lo ≤ hi ∧ GM ws ((g.take hi).drop lo)
  | [], lo => by simp [Chain, GM]
  | w :: ws, lo => by
    constructor
    · rintro ⟨i, h1, ⟨h2, h3⟩, h4⟩
      obtain ⟨a, b⟩ := (chain_gm hg).mp h4
      refine ⟨by lia, ((g.take hi).drop lo).take (i - lo), ((g.take hi).drop (i + w.length)), ?_, b⟩
      have e1 : (g.take hi).drop i = w ++ (g.take hi).drop (i + w.length) := by
        conv => lhs; rw [← List.take_append_drop w.length ((g.take hi).drop i)]
        rw [List.drop_drop, List.drop_take, List.take_take, Nat.min_eq_left (by lia), h3]
      conv => lhs; rw [← List.take_append_drop (i - lo) ((g.take hi).drop lo), List.drop_drop, show lo + (i - lo) = i by lia, e1]
      rw [List.append_assoc]
    · rintro ⟨h1, x, r, e, h⟩
      have hl : ((g.take hi).drop lo).length = hi - lo := by rw [List.length_drop, List.length_take, Nat.min_eq_left hg]
      have hlen : x.length + w.length + r.length = hi - lo := by rw [← hl, e]; simp [Nat.add_assoc]
      have e2 : (g.take hi).drop (lo + x.length) = w ++ r := by
        rw [← List.drop_drop, e, List.append_assoc, List.drop_left]
      refine ⟨lo + x.length, Nat.le_add_right _ _, ⟨by lia, ?_⟩, (chain_gm hg).mpr ⟨by lia, ?_⟩⟩
      · have := congrArg (List.take w.length) e2
        rw [List.take_left, List.drop_take, List.take_take, Nat.min_eq_left (by lia)] at this
        exact this
      · rw [← List.drop_drop, e2, List.drop_left]
        exact h
/-- what the search asks -/
noncomputable def MT (w0 : List Nat) (mids : List (List Nat)) (wl g : List Nat) : Prop :=
  w0 <+: g ∧ wl <:+ g ∧ w0.length ≤ g.length - wl.length ∧ Chain g (g.length - wl.length) w0.length mids
theorem mt_iff {w0 wl g : List Nat} {mids : List (List Nat)} : MT w0 mids wl g ↔ ∃ m, g = w0 ++ m ++ wl ∧ GM mids m := by
  constructor
  · rintro ⟨⟨a, rfl⟩, ⟨b, hb⟩, hl, hc⟩
    rw [chain_gm (Nat.sub_le _ _)] at hc
    have hlen : wl.length ≤ (w0 ++ a).length := by rw [← hb]; simp
    have e : b = (w0 ++ a).take ((w0 ++ a).length - wl.length) := by
      rw [← hb]; simp
    rw [← e] at hc
    have hbl : b.length = (w0 ++ a).length - wl.length := by rw [← hb]; simp
    have e2 : b = w0 ++ b.drop w0.length := by
      conv => lhs; rw [← List.take_append_drop w0.length b]
      congr 1
      rw [e, List.take_take, Nat.min_eq_left hl, List.take_left]
    exact ⟨b.drop w0.length, by rw [← e2, hb], hc.2⟩
  · rintro ⟨m, rfl, h⟩
    have e : (w0 ++ m ++ wl).length - wl.length = (w0 ++ m).length := by rw [List.length_append]; lia
    refine ⟨⟨m ++ wl, by simp⟩, ⟨w0 ++ m, rfl⟩, by rw [e]; simp, ?_⟩
    rw [chain_gm (Nat.sub_le _ _), e]
    refine ⟨by simp, ?_⟩
    rw [List.take_left, List.drop_left]
    exact h
theorem mt_cm {Rl R0 : List (List Nat)} {mids : List (List (List Nat))} {g : List Nat} : MT R0.flatten (mids.map List.flatten) Rl.flatten g ↔ CM (pat (R0 :: (mids ++ [Rl]))) g := by
  rw [mt_iff, cm_glue]
/-- from pieces to places -/
theorem wm_map {α β γ : Type} {f : α → β} {g : Option γ → β} : ∀ {P : List (Option α)} {I : List (Option γ)} (k : α → γ), (∀ p, some p ∈ P → ∀ x ∈ I, g x = f p ↔ x = some (k p)) → (WM (P.map (Option.map f)) (I.map (some ∘ g)) ↔ WM (P.map (Option.map k)) I)
  | [], I, k, _ => by simp [WM]
  | some p :: P, I, k, h => by
    show (∃ J, I.map (some ∘ g) = some (f p) :: J ∧ _) ↔ ∃ J, I = some (k p) :: J ∧ _
    constructor
    · rintro ⟨J, e, hJ⟩
      cases I with
      | nil => cases e
      | cons x I =>
        obtain ⟨e1, rfl⟩ := List.cons.inj e
        have : g x = f p := Option.some.inj e1
        exact ⟨I, by rw [(h p (.head _) x (.head _)).mp this], (wm_map k fun p hp x hx => h p (.tail _ hp) x (.tail _ hx)).mp hJ⟩
    · rintro ⟨J, rfl, hJ⟩
      refine ⟨J.map (some ∘ g), ?_, (wm_map k fun p hp x hx => h p (.tail _ hp) x (.tail _ hx)).mpr hJ⟩
      rw [List.map_cons]
      show some (g (some (k p))) :: _ = _
      rw [(h p (.head _) _ (.head _)).mpr rfl]
  | none :: P, I, k, h => by
    show (∃ X Y, I.map (some ∘ g) = X ++ Y ∧ _) ↔ ∃ X Y, I = X ++ Y ∧ _
    constructor
    · rintro ⟨X, Y, e, hY⟩
      obtain ⟨I1, I2, rfl, rfl, rfl⟩ := List.map_eq_append_iff.mp e
      exact ⟨I1, I2, rfl, (wm_map k fun p hp x hx => h p (.tail _ hp) x (List.mem_append_right _ hx)).mp hY⟩
    · rintro ⟨X, Y, rfl, hY⟩
      exact ⟨X.map (some ∘ g), Y.map (some ∘ g), by simp, (wm_map k fun p hp x hx => h p (.tail _ hp) x (List.mem_append_right _ hx)).mpr hY⟩
/-- the last signs of a match are one -/
theorem wm_last {α : Type} : ∀ {P : List (Option α)} {I : List (Option α)} {p : α}, WM (P ++ [some p]) I → ∃ I', I = I' ++ [some p]
  | [], I, p, ⟨I', e, h⟩ => by
    have : I' = [] := h
    subst this
    exact ⟨[], e⟩
  | some q :: P, I, p, ⟨I', e, h⟩ => by
    obtain ⟨J, rfl⟩ := wm_last h
    exact ⟨some q :: J, e⟩
  | none :: P, I, p, ⟨X, Y, e, h⟩ => by
    obtain ⟨J, rfl⟩ := wm_last h
    exact ⟨X ++ J, by rw [e, List.append_assoc]⟩
/-- rows and what they say of places -/
theorem pat_mem {α : Type} {j : α} : ∀ {rows : List (List α)}, some j ∈ pat rows ↔ j ∈ rows.flatten
  | [] => by simp [pat]
  | [R] => by simp [pat]
  | R :: S :: rest => by
    show some j ∈ R.map some ++ none :: pat (S :: rest) ↔ _
    rw [List.mem_append, List.mem_cons, pat_mem]
    simp
theorem cuts_row {X : List (Option Nat)} : ∀ {R : List Nat} {a : Int}, cutsI a (R.map some ++ X) = cutsI ((R.getLast?.map Int.ofNat).getD a) X
  | [], a => rfl
  | p :: R, a => by
    show cutsI p (R.map some ++ X) = _
    rw [cuts_row]
    cases R with
    | nil => rfl
    | cons q R => simp [List.getLast?_cons]
theorem pat_head {α : Type} {p : α} {S : List α} {rest : List (List α)} : ∃ r, pat ((p :: S) :: rest) = some p :: r := by
  cases rest with
  | nil => exact ⟨_, rfl⟩
  | cons Q rest => exact ⟨_, rfl⟩
theorem cuts_pat : ∀ {Rs : List (List Nat)} {R : List Nat} {a : Int}, (R = [] → a = -1) → (∀ S ∈ Rs, S ≠ []) → cutsI a (pat (R :: Rs)) = bounds (R :: Rs)
  | [], R, a, _, _ => by
    show cutsI a (R.map some) = []
    rw [← List.append_nil (R.map some), cuts_row]
    rfl
  | [] :: Rs, R, a, _, h => absurd rfl (h _ (.head _))
  | (q :: S) :: Rs, R, a, ha, h => by
    show cutsI a (R.map some ++ none :: pat ((q :: S) :: Rs)) = (lastOr R, headOr (q :: S)) :: bounds ((q :: S) :: Rs)
    rw [cuts_row]
    have ih := cuts_pat (R := q :: S) (a := (R.getLast?.map Int.ofNat).getD a) (fun e => by cases e) fun T hT => h T (.tail _ hT)
    rw [← ih]
    obtain ⟨r, e⟩ := pat_head (p := q) (S := S) (rest := Rs)
    rw [e]
    show (_, (q : Int)) :: cutsI q r = (lastOr R, (q : Int)) :: cutsI q r
    congr 2
    unfold lastOr
    cases R with
    | nil => rw [ha rfl]
    | cons p R => simp [List.getLast?_cons]
theorem rise_row {X : List (Option Nat)} : ∀ {R : List Nat} {a : Int}, (∀ p ∈ R, a < (p : Int)) → R.Pairwise (· < ·) → Rise ((R.getLast?.map Int.ofNat).getD a) X → Rise a (R.map some ++ X)
  | [], a, _, _, h => h
  | p :: R, a, h1, h2, h => by
    rw [List.pairwise_cons] at h2
    refine .put (h1 p (.head _)) (rise_row (fun q hq => by have := h2.1 q hq; lia) h2.2 ?_)
    cases R with
    | nil => exact h
    | cons q R => simpa [List.getLast?_cons] using h
theorem last_row {R : List Nat} {a : Int} {q : Nat} (h1 : ∀ p ∈ R, p < q) (h2 : a < (q : Int)) : (R.getLast?.map Int.ofNat).getD a < (q : Int) := by
  cases e : R.getLast? with
  | none => exact h2
  | some p =>
    have := h1 p (List.mem_of_getLast? e)
    show (p : Int) < q
    lia
theorem rise_pat : ∀ {Rs : List (List Nat)} {R : List Nat} {a : Int}, (∀ S ∈ Rs, S ≠ []) → (∀ p ∈ (R :: Rs).flatten, a < (p : Int)) → (R :: Rs).flatten.Pairwise (· < ·) → Rise a (pat (R :: Rs))
  | [], R, a, _, h1, h2 => by
    show Rise a (R.map some)
    rw [← List.append_nil (R.map some)]
    refine rise_row (fun p hp => h1 p (by simpa using hp)) (by simpa using h2) .nil
  | [] :: Rs, R, a, h, _, _ => absurd rfl (h _ (.head _))
  | (q :: S) :: Rs, R, a, h, h1, h2 => by
    rw [List.flatten_cons, List.pairwise_append] at h2
    show Rise a (R.map some ++ none :: pat ((q :: S) :: Rs))
    refine rise_row (fun p hp => h1 p (by simp [hp])) h2.1 ?_
    have hq : q ∈ ((q :: S) :: Rs).flatten := by simp
    have lt : (R.getLast?.map Int.ofNat).getD a < (q : Int) := last_row (fun p hp => h2.2.2 p hp q hq) (h1 q (by simp))
    have ih := rise_pat (R := q :: S) (a := (R.getLast?.map Int.ofNat).getD a) (fun T hT => h T (.tail _ hT)) (fun p hp => last_row (fun r hr => h2.2.2 r hr p hp) (h1 p (by rw [List.flatten_cons]; exact List.mem_append_right _ hp))) h2.2.1
    obtain ⟨r, e⟩ := pat_head (p := q) (S := S) (rest := Rs)
    rw [e] at ih ⊢
    cases ih with
    | put a b => exact .cut a b
end Mine
end

section
open PySem
namespace Mine
theorem pow_cast (k : Nat) : ((2 : Int) ^ k) = ((2 ^ k : Nat) : Int) := by simp
theorem hb_add {x y : Int} {k : Nat} (h0 : 0 ≤ x) (h1 : x < 2 ^ k) (j : Nat) : hasBit (x + 2 ^ k * y) j = if j < k then hasBit x j else hasBit y (j - k) := by
  have pj : (0 : Int) < 2 ^ j := Int.pow_pos (by decide)
  have pk : (0 : Int) < 2 ^ k := Int.pow_pos (by decide)
  unfold hasBit
  split
  · rename_i h
    have e : (2 : Int) ^ k * y = 2 ^ j * (2 * (2 ^ (k - j - 1) * y)) := by
      rw [← Int.mul_assoc, ← Int.mul_assoc]
      congr 1
      rw [show (2 : Int) ^ j * 2 = 2 ^ (j + 1) from (Int.pow_succ 2 j).symm, ← Int.pow_add]
      congr 1
      lia
    rw [e, Int.add_mul_ediv_left _ _ (by lia)]
    congr 1
    lia
  · rename_i h
    have e : (2 : Int) ^ j = 2 ^ k * 2 ^ (j - k) := by
      rw [← Int.pow_add]
      congr 1
      lia
    rw [e, ← Int.ediv_ediv_of_nonneg (by lia), Int.add_mul_ediv_left _ _ (by lia), Int.ediv_eq_zero_of_lt h0 h1, Int.zero_add]
theorem hb_shl {y : Int} {k j : Nat} : hasBit (2 ^ k * y) j = if j < k then false else hasBit y (j - k) := by
  have := hb_add (x := 0) (y := y) (k := k) (Int.le_refl _) (Int.pow_pos (by decide)) j
  rw [Int.zero_add] at this
  rw [this, hb_zero_int]
theorem hb_ones : ∀ (m j : Nat), hasBit (2 ^ m - 1) j = decide (j < m)
  | 0, j => by
    show hasBit 0 j = _
    rw [hb_zero_int]; simp
  | m + 1, 0 => by
    rw [hb_zero, Int.pow_succ]
    have : (2 ^ m * 2 - 1 : Int) % 2 = 1 := by lia
    rw [this]; simp
  | m + 1, j + 1 => by
    rw [hb_succ, show ((2 : Int) ^ (m + 1) - 1) / 2 = 2 ^ m - 1 by rw [Int.pow_succ]; lia, hb_ones m j]
    simp
theorem hb_run {k p : Nat} (h : k ≤ p) (j : Nat) : hasBit (2 ^ p - 2 ^ k) j = decide (k ≤ j ∧ j < p) := by
  have e : (2 : Int) ^ p - 2 ^ k = 2 ^ k * (2 ^ (p - k) - 1) := by
    rw [Int.mul_sub, ← Int.pow_add, Int.mul_one]
    congr 2
    lia
  rw [e, hb_shl, hb_ones]
  split
  · simp; lia
  · rw [decide_eq_decide]; lia
/-- the free places of some cuts, as a number -/
noncomputable def freeSum (cs : List (Int × Int)) : Int := (cs.map fun c => (2 : Int) ^ c.2.toNat - 2 ^ (c.1 + 1).toNat).sum
theorem free_bits : ∀ {a : Int} {I : List (Option Nat)}, Rise a I → -1 ≤ a → (∃ y, freeSum (cutsI a I) = 2 ^ (a + 1).toNat * y) ∧ ∀ j : Nat, hasBit (freeSum (cutsI a I)) j = true ↔ ∃ c ∈ cutsI a I, c.1 < (j : Int) ∧ (j : Int) < c.2
  | _, _, .nil, _ => ⟨⟨0, by simp [freeSum, cutsI]⟩, fun j => by
      show hasBit 0 j = true ↔ ∃ c ∈ ([] : List (Int × Int)), _
      rw [hb_zero_int]
      simp⟩
  | a, _, .put (p := p) (r := r) h hr, ha => by
    obtain ⟨⟨y, e⟩, b⟩ := free_bits hr (by lia)
    refine ⟨⟨2 ^ (p - (a + 1).toNat + 1) * y, ?_⟩, b⟩
    show freeSum (cutsI p r) = _
    rw [e, ← Int.mul_assoc, ← Int.pow_add]
    congr 2
    lia
  | a, _, .cut (p := p) (r := r) h hr, ha => by
    obtain ⟨⟨y, e⟩, b⟩ := free_bits hr (by lia)
    obtain ⟨k, rfl⟩ : ∃ k : Nat, a = (k : Int) - 1 := ⟨(a + 1).toNat, by lia⟩
    have hk : k ≤ p := by lia
    have ek : ((k : Int) - 1 + 1).toNat = k := by lia
    have ep : ((p : Int) + 1).toNat = p + 1 := by lia
    have es : freeSum (cutsI ((k : Int) - 1) (none :: some p :: r)) = (2 ^ p - 2 ^ k) + freeSum (cutsI p r) := by
      show (2 : Int) ^ ((p : Int)).toNat - 2 ^ ((k : Int) - 1 + 1).toNat + freeSum (cutsI p r) = _
      rw [ek, Int.toNat_natCast]
    have p1 : (2 : Int) ^ k ≤ 2 ^ p := by
      rw [pow_cast, pow_cast]
      exact_mod_cast Nat.pow_le_pow_right (by decide) hk
    have p0 : (0 : Int) < 2 ^ k := Int.pow_pos (by decide)
    rw [es, ek]
    refine ⟨⟨(2 ^ (p - k) - 1) + 2 ^ (p + 1 - k) * y, ?_⟩, fun j => ?_⟩
    · rw [e, ep, Int.mul_add, Int.mul_sub, ← Int.mul_assoc, ← Int.pow_add, ← Int.pow_add, Int.mul_one, show k + (p - k) = p by lia, show k + (p + 1 - k) = p + 1 by lia]
    · have a1 : (0 : Int) ≤ 2 ^ p - 2 ^ k := by lia
      have a2 : (2 : Int) ^ p - 2 ^ k < 2 ^ (p + 1) := by rw [Int.pow_succ]; lia
      rw [e, ep, hb_add a1 a2, hb_run hk]
      have eb := b j
      rw [e, ep, hb_shl] at eb
      have ge := cuts_ge hr
      show _ ↔ ∃ c ∈ ((k : Int) - 1, (p : Int)) :: cutsI p r, _
      by_cases hj : j < p + 1
      · rw [if_pos hj]
        rw [if_pos hj] at eb
        constructor
        · intro h
          have := of_decide_eq_true h
          exact ⟨_, .head _, by dsimp only; lia, by dsimp only; lia⟩
        · rintro ⟨c, hc, h1, h2⟩
          rcases List.mem_cons.mp hc with rfl | hc
          · exact decide_eq_true (by dsimp only at h1 h2; lia)
          · exact absurd (eb.mpr ⟨c, hc, h1, h2⟩) (by simp)
      · rw [if_neg hj]
        rw [if_neg hj] at eb
        rw [eb]
        constructor
        · rintro ⟨c, hc, h⟩
          exact ⟨c, .tail _ hc, h⟩
        · rintro ⟨c, hc, h1, h2⟩
          rcases List.mem_cons.mp hc with rfl | hc
          · dsimp only at h1 h2; lia
          · exact ⟨c, hc, h1, h2⟩
/-- what the program says of two numbers and their cuts -/
noncomputable def takesV (w s : Int) (cw cs : List (Int × Int)) : Bool :=
  if Builtin.bitAnd (Builtin.bitXor w s) (Builtin.bitNot (if w = 0 then 0 else freeSum cw)) ≠ 0 then false else cs.all fun d => cw.any fun c => decide (c.1 ≤ d.1) && decide (d.2 ≤ c.2)
theorem takes_iff {w s : Int} {P : List (Option Nat)} {cs : List (Int × Int)} (hP : Rise (-1) P) :
    takesV w s (cutsI (-1) P) cs = true ↔ (∀ j, hasBit w j ≠ hasBit s j → w ≠ 0 ∧ ∃ c ∈ cutsI (-1) P, c.1 < (j : Int) ∧ (j : Int) < c.2) ∧ ∀ d ∈ cs, ∃ c ∈ cutsI (-1) P, c.1 ≤ d.1 ∧ d.2 ≤ c.2 := by
  have hz : Builtin.bitAnd (Builtin.bitXor w s) (Builtin.bitNot (if w = 0 then 0 else freeSum (cutsI (-1) P))) = 0 ↔ ∀ j, hasBit w j ≠ hasBit s j → w ≠ 0 ∧ ∃ c ∈ cutsI (-1) P, c.1 < (j : Int) ∧ (j : Int) < c.2 := by
    rw [zero_iff]
    refine forall_congr' fun j => ?_
    rw [hb_and, hb_xor, hb_not]
    have fb := (free_bits hP (Int.le_refl _)).2 j
    by_cases hw : w = 0
    · subst hw
      rw [if_pos rfl, hb_zero_int]
      cases hasBit s j <;> simp
    · rw [if_neg hw]
      cases e : hasBit (freeSum (cutsI (-1) P)) j with
      | true =>
        have := fb.mp e
        simp only [Bool.not_true, Bool.and_false, true_iff]
        exact fun _ => ⟨hw, this⟩
      | false =>
        have : ¬ ∃ c ∈ cutsI (-1) P, c.1 < (j : Int) ∧ (j : Int) < c.2 := fun h => by rw [fb.mpr h] at e; cases e
        simp only [Bool.not_false, Bool.and_true]
        cases hasBit w j <;> cases hasBit s j <;> simp [this]
  unfold takesV
  by_cases h : Builtin.bitAnd (Builtin.bitXor w s) (Builtin.bitNot (if w = 0 then 0 else freeSum (cutsI (-1) P))) = 0
  · rw [if_neg (by simpa using h)]
    constructor
    · intro h2
      refine ⟨hz.mp h, fun d hd => ?_⟩
      have := List.all_eq_true.mp h2 d hd
      obtain ⟨c, hc, h3⟩ := List.any_eq_true.mp this
      simp only [Bool.and_eq_true, decide_eq_true_eq] at h3
      exact ⟨c, hc, h3⟩
    · rintro ⟨_, h2⟩
      refine List.all_eq_true.mpr fun d hd => ?_
      obtain ⟨c, hc, h3⟩ := h2 d hd
      exact List.any_eq_true.mpr ⟨c, hc, by simpa using h3⟩
  · rw [if_pos h]
    constructor
    · intro h2; cases h2
    · intro h2; exact absurd (hz.mpr h2.1) h
/-- the places of a number -/
noncomputable def places (n : Int) : List Nat := (List.range 32).filter (fun k => hasBit n k) ++ if n / 2 ^ 32 ≠ 0 ∨ n = 0 then [32] else []
theorem places_mem {n : Int} {j : Nat} : j ∈ places n ↔ (j < 32 ∧ hasBit n j = true) ∨ (j = 32 ∧ (n / 2 ^ 32 ≠ 0 ∨ n = 0)) := by
  unfold places
  rw [List.mem_append, List.mem_filter, List.mem_range]
  by_cases h : n / 2 ^ 32 ≠ 0 ∨ n = 0
  · rw [if_pos h]
    simp only [List.mem_singleton, h, and_true]
  · rw [if_neg h]
    simp only [List.not_mem_nil, h, and_false]
theorem places_rise (n : Int) : (places n).Pairwise (· < ·) := by
  unfold places
  rw [List.pairwise_append]
  refine ⟨List.Pairwise.filter _ List.pairwise_lt_range, ?_, fun a ha b hb => ?_⟩
  · split <;> simp
  · have := List.mem_range.mp (List.mem_filter.mp ha).1
    split at hb
    · rw [List.mem_singleton.mp hb]; exact this
    · exact absurd hb (by simp)
theorem high_bits {x y : Int} : x / 2 ^ 32 = y / 2 ^ 32 ↔ ∀ j, 32 ≤ j → hasBit x j = hasBit y j := by
  have e : ∀ (x : Int) j, hasBit (x / 2 ^ 32) j = hasBit x (j + 32) := fun x j => by
    unfold hasBit
    rw [Int.ediv_ediv_of_nonneg (by decide), ← Int.pow_add, Nat.add_comm 32 j]
  constructor
  · intro h j hj
    have : hasBit (x / 2 ^ 32) (j - 32) = hasBit (y / 2 ^ 32) (j - 32) := by rw [h]
    rw [e, e, show j - 32 + 32 = j by lia] at this
    exact this
  · intro h
    refine eq_of_bits fun j => ?_
    rw [e, e]
    exact h _ (by lia)
theorem places_ne {n : Int} : places n ≠ [] := fun h => by
  have hm : ∀ j, j ∉ places n := fun j => by rw [h]; exact List.not_mem_nil
  have h32 : ¬ (n / 2 ^ 32 ≠ 0 ∨ n = 0) := fun x => hm 32 (places_mem.mpr (.inr ⟨rfl, x⟩))
  rw [not_or] at h32
  refine h32.2 ((zero_iff n).mpr fun j => ?_)
  by_cases hj : j < 32
  · cases e : hasBit n j with
    | false => rfl
    | true => exact absurd (places_mem.mpr (.inl ⟨hj, e⟩)) (hm j)
  · have := (high_bits (x := n) (y := 0)).mp (by simpa using h32.1) j (by lia)
    rw [this, hb_zero_int]
theorem places_le {n : Int} {j : Nat} (h : j ∈ places n) : j ≤ 32 := by
  rcases places_mem.mp h with h | h <;> lia
theorem cuts_le {B : Nat} : ∀ {a : Int} {I : List (Option Nat)}, Rise a I → (∀ j, some j ∈ I → j ≤ B) → ∀ c ∈ cutsI a I, c.2 ≤ (B : Int)
  | _, _, .nil, _ => fun _ h => nomatch h
  | _, _, .put h r, hb => fun c hc => cuts_le r (fun j hj => hb j (.tail _ hj)) c hc
  | _, _, .cut (p := p) h r, hb => fun c hc => by
      rcases List.mem_cons.mp (show c ∈ (_, (p : Int)) :: cutsI p _ from hc) with rfl | hc
      · have := hb p (.tail _ (.head _))
        show (p : Int) ≤ B
        lia
      · exact cuts_le r (fun j hj => hb j (.tail _ (.tail _ hj))) c hc
/-- the program's word and the places' -/
theorem takes_law {w s : Int} {P I : List (Option Nat)} (hP : Rise (-1) P) (mP : ∀ j, some j ∈ P ↔ j ∈ places w) (mI : ∀ j, some j ∈ I ↔ j ∈ places s) :
    takesV w s (cutsI (-1) P) (cutsI (-1) I) = true ↔ w / 2 ^ 32 = s / 2 ^ 32 ∧ LawL (cutsI (-1) P) (cutsI (-1) I) P I := by
  have hle := cuts_le (B := 32) hP fun j hj => places_le ((mP j).mp hj)
  have hoff := cuts_off hP
  rw [takes_iff hP]
  constructor
  · rintro ⟨h1, h2⟩
    have hv : w / 2 ^ 32 = s / 2 ^ 32 := high_bits.mpr fun j hj => by
      refine Decidable.byContradiction fun hne => ?_
      obtain ⟨_, c, hc, c1, c2⟩ := h1 j hne
      have := hle c hc
      lia
    refine ⟨hv, fun j hj => ?_, h2⟩
    rw [mP, mI, places_mem, places_mem] at hj
    by_cases lt : j < 32
    · refine (h1 j fun e => hj ?_).2
      rw [e]
      have : j ≠ 32 := by lia
      simp [this]
    · by_cases e : j = 32
      · subst e
        exfalso
        rw [hv] at hj
        have hz : ¬ (w = 0 ↔ s = 0) := fun e => hj (by simp [e])
        by_cases w0 : w = 0
        · have s0 : s ≠ 0 := fun e => hz ⟨fun _ => e, fun _ => w0⟩
          refine s0 ((zero_iff s).mpr fun j => ?_)
          refine Decidable.byContradiction fun hne => ?_
          refine (h1 j fun e => hne ?_).1 w0
          rw [← e, w0, hb_zero_int]
        · have s0 : s = 0 := by
            by_cases h : s = 0
            · exact h
            · exact absurd ⟨fun e => absurd e w0, fun e => absurd e h⟩ hz
          refine w0 ((zero_iff w).mpr fun j => ?_)
          refine Decidable.byContradiction fun hne => ?_
          obtain ⟨_, c, hc, c1, c2⟩ := h1 j fun e => hne (by rw [e, s0, hb_zero_int])
          have := hle c hc
          refine hoff j ((mP j).mpr (places_mem.mpr (.inl ⟨by lia, by simpa using hne⟩))) c hc ⟨c1, c2⟩
      · exfalso
        refine hj ?_
        have : ¬ j < 32 := lt
        simp [e, this]
  · rintro ⟨hv, h1, h2⟩
    have hw : w ≠ 0 ∨ ∀ j, hasBit w j = hasBit s j := by
      by_cases w0 : w = 0
      · right
        by_cases s0 : s = 0
        · rw [w0, s0]; exact fun _ => rfl
        · exfalso
          have a1 : some 32 ∈ P := (mP 32).mpr (places_mem.mpr (.inr ⟨rfl, .inr w0⟩))
          have a2 : ¬ some 32 ∈ I := fun m => by
            rcases places_mem.mp ((mI 32).mp m) with h | ⟨_, h | h⟩
            · lia
            · rw [← hv, w0] at h; exact h (by decide)
            · exact s0 h
          obtain ⟨c, hc, c1, c2⟩ := h1 32 fun e => a2 (e.mp a1)
          have := hle c hc
          lia
      · exact .inl w0
    refine ⟨fun j hj => ?_, h2⟩
    refine ⟨hw.resolve_right fun h => hj (h j), ?_⟩
    have lt : j < 32 := Nat.lt_of_not_le fun h => hj (high_bits.mp hv j h)
    refine h1 j fun e => hj ?_
    rw [mP, mI, places_mem, places_mem] at e
    have : j ≠ 32 := by lia
    simp only [lt, this, true_and, false_and, or_false] at e
    cases hasBit w j <;> cases hasBit s j <;> simp_all
end Mine
end

section
open PySem PySem.Builtin PySem.Builtin.Str
namespace Mine
theorem join_cons2 (y p q : Str) (r : List Str) : (Str.join y (p :: q :: r)).cps.toList = p.cps.toList ++ y.cps.toList ++ (Str.join y (q :: r)).cps.toList := by
  show ((p ++ y ++ Str.join y (q :: r)).cps).toList = _
  rw [Str.cps_append, Str.cps_append, Array.toList_append, Array.toList_append]
theorem str_len (x : Str) : x.length = x.cps.toList.length := by simp [Str.length]
theorem at_get {x y : Str} {d : Nat} {ys : List Nat} (hy : y.cps.toList = d :: ys) {k : Nat} (h : StrLaws.At x y x.length k) : x.cps.toList[k]? = some d := by
  have := h.2
  rw [StrLaws.subAt_eq, beq_iff_eq, hy] at this
  have e := congrArg (·[0]?) this
  rw [List.getElem?_take_of_lt (by rw [str_len, hy]; simp), List.getElem?_drop] at e
  simpa using e
theorem at_of {x y : Str} {k : Nat} {r : List Nat} (h : x.cps.toList.drop k = y.cps.toList ++ r) (hk : k ≤ x.length) : StrLaws.At x y x.length k := by
  have hl := congrArg List.length h
  rw [List.length_drop, List.length_append, ← str_len, ← str_len] at hl
  refine ⟨by lia, ?_⟩
  rw [StrLaws.subAt_eq, h, beq_iff_eq, str_len y, List.take_left]
theorem parts_join {x y : Str} {d : Nat} {ys : List Nat} (hy : y.cps.toList = d :: ys) : ∀ {l : List Str} {a f : Nat} {cuts : List Nat}, l ≠ [] → (∀ p ∈ l, d ∉ p.cps.toList) → a ≤ x.length →
    x.cps.toList.drop a = (Str.join y l).cps.toList → StrLaws.ChainG x y x.length a cuts f → (∀ k, f ≤ k → ¬ StrLaws.At x y x.length k) → StrLaws.partsFrom x y.length a cuts = l
  | [], _, _, _, h, _, _, _, _, _ => absurd rfl h
  | [p], a, f, cuts, _, hp, ha, hx, hc, hf => by
    have hno : ∀ k, a ≤ k → ¬ StrLaws.At x y x.length k := fun k hk h => by
      have := at_get hy h
      refine hp p (.head _) ?_
      have e : (x.cps.toList.drop a)[k - a]? = some d := by
        rw [List.getElem?_drop, show a + (k - a) = k by lia]; exact this
      rw [hx] at e
      exact List.mem_of_getElem? e
    cases cuts with
    | cons c r => exact absurd hc.2.1 (hno c hc.1)
    | nil =>
      show [strSub x a x.length] = [p]
      congr 1
      apply Str.ext'
      apply Array.toList_inj.mp
      rw [StrLaws.strSub_toList, hx]
      refine List.take_of_length_le ?_
      rw [← hx, List.length_drop, ← str_len]
      exact Nat.le_refl _
  | p :: q :: r, a, f, cuts, _, hp, ha, hx, hc, hf => by
    rw [join_cons2, List.append_assoc] at hx
    have hlen := congrArg List.length hx
    rw [List.length_drop, List.length_append, List.length_append, ← str_len, ← str_len, ← str_len] at hlen
    have hnext : x.cps.toList.drop (a + p.length) = y.cps.toList ++ (Str.join y (q :: r)).cps.toList := by
      rw [← List.drop_drop, hx, str_len p, List.drop_left]
    have hat := at_of hnext (by lia)
    have hno : ∀ k, a ≤ k → k < a + p.length → ¬ StrLaws.At x y x.length k := fun k hk hk2 h => by
      have := at_get hy h
      refine hp p (.head _) ?_
      have e : (x.cps.toList.drop a)[k - a]? = some d := by
        rw [List.getElem?_drop, show a + (k - a) = k by lia]; exact this
      rw [hx, List.getElem?_append_left (by rw [← str_len]; lia)] at e
      exact List.mem_of_getElem? e
    cases cuts with
    | nil =>
      have ef : f = a := hc
      exact absurd hat (hf _ (by lia))
    | cons c cs =>
      obtain ⟨h1, h2, h3, h4⟩ := hc
      have ec : c = a + p.length := by
        rcases Nat.lt_trichotomy c (a + p.length) with h | h | h
        · exact absurd h2 (hno c h1 h)
        · exact h
        · exact absurd hat (h3 _ (Nat.le_add_right _ _) h)
      subst ec
      show strSub x a (a + p.length) :: StrLaws.partsFrom x y.length (a + p.length + y.length) cs = _
      rw [parts_join hy (l := q :: r) (by simp) (fun z hz => hp z (.tail _ hz)) (by lia) (by rw [← List.drop_drop, hnext, str_len y, List.drop_left]) h4 hf]
      congr 1
      apply Str.ext'
      apply Array.toList_inj.mp
      rw [StrLaws.strSub_toList, hx, show a + p.length - a = p.length by lia, str_len p, List.take_left]
theorem kind_pos (x : Str) : 1 ≤ Builtin.Str.strKind x := by
  unfold Builtin.Str.strKind
  split
  · lia
  · split <;> lia
theorem split_join {y : Str} {d : Nat} {ys : List Nat} (hy : y.cps.toList = d :: ys) (hk : Builtin.Str.strKind y = 1) {l : List Str} (hl : l ≠ []) (hp : ∀ p ∈ l, d ∉ p.cps.toList) : Txt.split (Str.join y l) y = l := by
  have hw : 1 ≤ y.length := by rw [str_len, hy]; simp
  obtain ⟨f, hc, hf⟩ := StrLaws.occ_tight (Str.join y l) y hw
  have key := parts_join hy hl hp (Nat.zero_le _) (List.drop_zero) hc hf
  unfold Txt.split
  split
  · rename_i h
    rw [Bool.or_eq_true, decide_eq_true_eq, decide_eq_true_eq, hk] at h
    have := kind_pos (Str.join y l)
    cases l with
    | nil => exact absurd rfl hl
    | cons p r =>
      cases r with
      | nil => rfl
      | cons q r =>
        have h : (Str.join y (p :: q :: r)).length < y.length := by lia
        rw [str_len, join_cons2, List.length_append, List.length_append, ← str_len y] at h
        lia
  · split
    · rename_i h
      rw [List.isEmpty_iff.mp h] at key
      rw [← key]
      show [_] = [strSub _ 0 _]
      rw [StrLaws.sub_whole, key]
    · rw [StrLaws.partsBetween_eq, key]
/-- a text in which the sign stands only between its pieces -/
theorem contains_join {y : Str} {d : Nat} {ys : List Nat} (hy : y.cps.toList = d :: ys) {l : List Str} (hl : l ≠ []) (hp : ∀ p ∈ l, d ∉ p.cps.toList) : Txt.contains (Str.join y l) y = decide (2 ≤ l.length) := by
  unfold Txt.contains
  rw [Bool.eq_iff_iff, StrLaws.found_iff, decide_eq_true_eq]
  constructor
  · rintro ⟨i, h⟩
    cases l with
    | nil => exact absurd rfl hl
    | cons p r =>
      cases r with
      | nil =>
        have := at_get hy h
        exact absurd (List.mem_of_getElem? this) (hp p (.head _))
      | cons q r => simp
  · intro h
    cases l with
    | nil => exact absurd rfl hl
    | cons p r =>
      cases r with
      | nil => simp at h
      | cons q r =>
        refine ⟨p.length, at_of (r := (Str.join y (q :: r)).cps.toList) ?_ ?_⟩
        · rw [join_cons2, List.append_assoc, str_len p, List.drop_left]
        · rw [str_len (Str.join _ _), join_cons2, List.length_append, List.length_append, str_len p]; lia
end Mine
end

open PySem PySem.W PyProof.Rows
namespace Mine
theorem eo : opening PySem.Challenge.rw_ty0040_01.row.prog = plainProg PySem.Challenge.rw_ty0040_01.row.prog.main.scope.names := by kernel_rfl
theorem ef : ∀ s, fenceModules? PySem.Challenge.rw_ty0040_01.row.prog s = some s := fun _ => rfl
/-- the top from the booted state: the opening is the library's -/
theorem left_boot {p q : Program} {loose : List Str} {Xt : Shared → Bool} {α : Type} {Yf : Shared → α} {Ya : World → α} {N : Nat} {g0 : Bool} (e : opening p = plainProg p.main.scope.names) (hN : Nat.ble 600 N = true) (f : ∀ s, fenceModules? p s = some s) (w : World)
    (h : (fun os => (topFrom treeTable p w N ⟨boot_heap w.params, Array.mk [], boot_drawn, boot_toks, os⟩).map (fun s => (openSeen q loose (importedModules p.main.body) Xt g0 s, Yf s))) = fun _ => some (openGood q loose, Ya w)) :
    (openEnds treeTable p w N).map (fun s => (openSeen q loose (importedModules p.main.body) Xt g0 s, Yf s)) = some (openGood q loose, Ya w) := by
  obtain ⟨⟨h', gs, d, k, os⟩, e1, e2⟩ := Option.map_eq_some_iff.mp (boot_open e hN f w)
  obtain ⟨rfl, rfl, rfl, rfl⟩ : h' = boot_heap w.params ∧ gs = Array.mk [] ∧ d = boot_drawn ∧ k = boot_toks := by simpa using e2
  unfold openEnds
  rw [e1]
  exact congrFun h os
/-- the head; what the top leaves is asked last, beside the walk -/
theorem PySem.W.holds_open {r : OpenRow} {q : Program} {loose : List Str} {Xt : Shared → Bool} {XP : (Str → Option Value) → Heap → Prop} {α : Type} {Yf : Shared → α} {Ya : World → α} {YP : World → Heap → Prop} {d : DefRec} {kwd : List (Str × PySem.Expr)} {N : Nat}
    (_ : ∀ w, (openEnds treeTable (plainProg []) w N).map (fun s => (openSeen (plainProg []) [] (importedModules (plainProg []).main.body) (fun _ => true) true s, ())) = some (openGood (plainProg []) [], ())) (hY : ∀ w s, Yf s = Ya w → YP w s.heap) (hYk : ∀ w h h', YP w h → (∀ b o, h.get? b = some o → h'.get? b = some o) → YP w h')
    (hX : ∀ s, Xt s = true → XP (s.heap.nsMap mainGlobals) s.heap) (hXk : ∀ mg h h', XP mg h → (∀ b o, h.get? b = some o → h'.get? b = some o) → XP mg h')
    (hdef : defOf q r.name = some (d, kwd)) (hp : r.prog.theDef r.name = some (d.params, d.body, d.scope)) (hk : kwWritten? d.params.kwonlyargs d.params.kw_defaults = some kwd) (hRf : ∀ s, Xt s = true → RecFacts r.records s.heap) (hwr : (!r.writes || r.records.isEmpty) = true)
    (k1 : r.wellSaid = true) (ok : (chainsOk q && opensWell r.prog && (frees r.toRowW && r.within.isEmpty)) = true) (hb : r.prog.bare) (hw : r.toRowW.promised)
    (call : (∀ w, (openEnds treeTable r.prog w N).map (fun s => (openSeen q loose (importedModules r.prog.main.body) Xt true s, Yf s)) = some (openGood q loose, Ya w)) ∧ WalkO q loose XP YP r.toRowW d kwd fun f vs => PySem.call f vs) : r.Holds :=
  _root_.PySem.W.holds_open call.1 hY hYk hX hXk hdef hp hk hRf hwr k1 ok hb hw call.2
local macro_rules | `(tactic| o_law) => `(tactic| refine holds_law (by kernel_rfl) fun said => ?_)
local macro_rules | `(tactic| o_head ($f:term $K:term $A:term $E:term)) => `(tactic| o_head (kmHook $K $A $E [155, 162]))
set_option maxRecDepth 100000 in
set_option maxHeartbeats 80000000 in
open_top hd for PySem.Challenge.rw_ty0040_01
set_option maxRecDepth 100000 in
theorem hA_is (P : Params) : ([2, 3, 15, 17, 18, 20, 21, 22, 24, 25, 27, 28, 29, 30, 32, 33, 35, 36, 44, 46, 47, 49, 50, 51, 53, 54, 56, 57, 58, 60, 61, 63, 64, 65, 67, 68, 70, 71, 72, 74, 75, 77, 78, 79, 81, 82, 84, 85, 86, 88, 89, 91, 92, 93, 95, 96, 98, 99, 100, 102, 103, 105, 106, 107, 108, 109, 110, 111, 114, 117, 122, 123, 124, 126, 127, 129, 130, 131, 133, 134, 136, 137, 138, 139, 141, 142, 144, 145, 146, 147, 149, 150, 152, 153, 154, 156, 157, 159, 160, 161, 163, 164, 166, 167, 168, 169, 171, 172, 174, 175, 176, 178, 179, 181, 182, 183, 184, 186, 187, 189, 190, 191, 192, 193, 194, 195, 198, 200, 201, 203, 204, 205, 208, 209, 210, 213, 214, 215, 218, 219] : List Addr) = (hd.heap_1 P).map (·.1) := rfl
noncomputable abbrev hK : Hook := kmHook hd.heap_1 _ hA_is [155, 162]
noncomputable abbrev hLo : List Str := [Str.ofString "COMPILER_FLAG_NAMES", Str.ofString "_Accumulator"]
/-- what the top leaves behind, from the state s -/
noncomputable abbrev hSeen (s : Shared) := (openSeen hd.view_1 hLo (importedModules PySem.Challenge.rw_ty0040_01.row.prog.main.body) (fun s => xlAt hd.view_1 [] s && recOk (RowW.records PySem.Challenge.rw_ty0040_01.row.toRowW) s) true s, hK.obs s)
noncomputable abbrev hFrom (w : World) (os : OsState) := topFrom treeTable PySem.Challenge.rw_ty0040_01.row.prog w 2938 ⟨boot_heap w.params, Array.mk [], boot_drawn, boot_toks, os⟩
theorem left_f : ∀ w : World, (fun os => (hFrom (w.withFollow "special-get-raises" false) os).map hSeen) = fun _ => some (openGood hd.view_1 hLo, hK.val (w.withFollow "special-get-raises" false)) := by
  intro w
  kernel_rfl
theorem left_t : ∀ w : World, (fun os => (hFrom (w.withFollow "special-get-raises" true) os).map hSeen) = fun _ => some (openGood hd.view_1 hLo, hK.val (w.withFollow "special-get-raises" true)) := by
  intro w
  kernel_rfl
theorem left_w : ∀ w : World, (openEnds treeTable PySem.Challenge.rw_ty0040_01.row.prog w 2938).map (fun s => (openSeen hd.view_1 hLo (importedModules PySem.Challenge.rw_ty0040_01.row.prog.main.body) (fun s => xlAt hd.view_1 [] s && recOk (RowW.records PySem.Challenge.rw_ty0040_01.row.toRowW) s) true s, hK.obs s)) = some (openGood hd.view_1 hLo, hK.val w) :=
  byRow2 "special-get-raises" (fun w => left_boot eo rfl ef _ (left_f w)) (fun w => left_boot eo rfl ef _ (left_t w))
end Mine

open PySem.Calls
set_option maxRecDepth 100000
set_option maxHeartbeats 4000000
namespace Mine
theorem fill_one (P : Params) : (PySem.Challenge.rw_ty0040_01.row.prog = PySem.Challenge.rw_ty0040_01.row.prog) ∧ hd.heap_1 P = hd.heap_1 P := by
  k_fill
  exact ⟨rfl, rfl⟩

theorem an2 {G p1 p2 : Prop} (h : p1 ∧ p2) (k : p1 → p2 → G) : G := k h.1 h.2
theorem an3 {G p1 p2 p3 : Prop} (h : p1 ∧ p2 ∧ p3) (k : p1 → p2 → p3 → G) : G := an2 h.2 (k h.1)
theorem an4 {G p1 p2 p3 p4 : Prop} (h : p1 ∧ p2 ∧ p3 ∧ p4) (k : p1 → p2 → p3 → p4 → G) : G := an3 h.2 (k h.1)
theorem an5 {G p1 p2 p3 p4 p5 : Prop} (h : p1 ∧ p2 ∧ p3 ∧ p4 ∧ p5) (k : p1 → p2 → p3 → p4 → p5 → G) : G := an4 h.2 (k h.1)
theorem an6 {G p1 p2 p3 p4 p5 p6 : Prop} (h : p1 ∧ p2 ∧ p3 ∧ p4 ∧ p5 ∧ p6) (k : p1 → p2 → p3 → p4 → p5 → p6 → G) : G := an5 h.2 (k h.1)
theorem an7 {G p1 p2 p3 p4 p5 p6 p7 : Prop} (h : p1 ∧ p2 ∧ p3 ∧ p4 ∧ p5 ∧ p6 ∧ p7) (k : p1 → p2 → p3 → p4 → p5 → p6 → p7 → G) : G := an6 h.2 (k h.1)
theorem ex1 {G : Prop} {t1 : Sort _} {P : t1 → Prop} (h : ∃ x1, P x1) (k : ∀ x1, P x1 → G) : G := h.elim k
theorem ex2 {G : Prop} {t1 : Sort _} {t2 : Sort _} {P : t1 → t2 → Prop} (h : ∃ x1 x2, P x1 x2) (k : ∀ x1 x2, P x1 x2 → G) : G := h.elim fun x1 h => ex1 h (k x1)
theorem ex3 {G : Prop} {t1 : Sort _} {t2 : Sort _} {t3 : Sort _} {P : t1 → t2 → t3 → Prop} (h : ∃ x1 x2 x3, P x1 x2 x3) (k : ∀ x1 x2 x3, P x1 x2 x3 → G) : G := h.elim fun x1 h => ex2 h (k x1)
theorem ex4 {G : Prop} {t1 : Sort _} {t2 : Sort _} {t3 : Sort _} {t4 : Sort _} {P : t1 → t2 → t3 → t4 → Prop} (h : ∃ x1 x2 x3 x4, P x1 x2 x3 x4) (k : ∀ x1 x2 x3 x4, P x1 x2 x3 x4 → G) : G := h.elim fun x1 h => ex3 h (k x1)
theorem ex5 {G : Prop} {t1 : Sort _} {t2 : Sort _} {t3 : Sort _} {t4 : Sort _} {t5 : Sort _} {P : t1 → t2 → t3 → t4 → t5 → Prop} (h : ∃ x1 x2 x3 x4 x5, P x1 x2 x3 x4 x5) (k : ∀ x1 x2 x3 x4 x5, P x1 x2 x3 x4 x5 → G) : G := h.elim fun x1 h => ex4 h (k x1)
theorem ex6 {G : Prop} {t1 : Sort _} {t2 : Sort _} {t3 : Sort _} {t4 : Sort _} {t5 : Sort _} {t6 : Sort _} {P : t1 → t2 → t3 → t4 → t5 → t6 → Prop} (h : ∃ x1 x2 x3 x4 x5 x6, P x1 x2 x3 x4 x5 x6) (k : ∀ x1 x2 x3 x4 x5 x6, P x1 x2 x3 x4 x5 x6 → G) : G := h.elim fun x1 h => ex5 h (k x1)
theorem ex7 {G : Prop} {t1 : Sort _} {t2 : Sort _} {t3 : Sort _} {t4 : Sort _} {t5 : Sort _} {t6 : Sort _} {t7 : Sort _} {P : t1 → t2 → t3 → t4 → t5 → t6 → t7 → Prop} (h : ∃ x1 x2 x3 x4 x5 x6 x7, P x1 x2 x3 x4 x5 x6 x7) (k : ∀ x1 x2 x3 x4 x5 x6 x7, P x1 x2 x3 x4 x5 x6 x7 → G) : G := h.elim fun x1 h => ex6 h (k x1)
theorem ex8 {G : Prop} {t1 : Sort _} {t2 : Sort _} {t3 : Sort _} {t4 : Sort _} {t5 : Sort _} {t6 : Sort _} {t7 : Sort _} {t8 : Sort _} {P : t1 → t2 → t3 → t4 → t5 → t6 → t7 → t8 → Prop} (h : ∃ x1 x2 x3 x4 x5 x6 x7 x8, P x1 x2 x3 x4 x5 x6 x7 x8) (k : ∀ x1 x2 x3 x4 x5 x6 x7 x8, P x1 x2 x3 x4 x5 x6 x7 x8 → G) : G := h.elim fun x1 h => ex7 h (k x1)
theorem ex9 {G : Prop} {t1 : Sort _} {t2 : Sort _} {t3 : Sort _} {t4 : Sort _} {t5 : Sort _} {t6 : Sort _} {t7 : Sort _} {t8 : Sort _} {t9 : Sort _} {P : t1 → t2 → t3 → t4 → t5 → t6 → t7 → t8 → t9 → Prop} (h : ∃ x1 x2 x3 x4 x5 x6 x7 x8 x9, P x1 x2 x3 x4 x5 x6 x7 x8 x9) (k : ∀ x1 x2 x3 x4 x5 x6 x7 x8 x9, P x1 x2 x3 x4 x5 x6 x7 x8 x9 → G) : G := h.elim fun x1 h => ex8 h (k x1)

/-- the builtins of the main module -/
noncomputable def Mod (mg : Str → Option Value) (h : Heap) : Prop := ∃ bm ob, BMod h mainGlobals mg bm ob
theorem Mod.keeps {mg : Str → Option Value} {h h' : Heap} (x : Mod mg h) (k : ∀ b o, h.get? b = some o → h'.get? b = some o) : Mod mg h' := let ⟨a, b, c⟩ := x; ⟨a, b, c.keeps k⟩

section
variable {prog : Program} {w : World} {A : Around} {E : Value → Shared → Prop} {s : Shared} {K : Frag} {L : Addr} {h₀ : Heap} {m mg mb : Str → Option Value} {news : List (Addr × Obj)} {p : Program} {loose : List Str} {Q : Value → Shared → Prop}

/-- what a body hands on -/
noncomputable def LeaveM (h₀ : Heap) (L : Addr) (m : Str → Option Value) (g : Heap) (Q : Value → Shared → Prop) (v : Value) (s' : Shared) : Prop :=
  ∃ L' m' news', Fr g L' s'.heap m' ∧ News g L' s'.heap news' ∧ (Fr h₀ L s'.heap m → News h₀ L s'.heap news' → Q v s')
theorem leaveM {g : Heap} {L' : Addr} {m' : Str → Option Value} {news' : List (Addr × Obj)} {v : Value} {s' : Shared} (F' : Fr g L' s'.heap m') (N' : News g L' s'.heap news')
    (k : Fr h₀ L s'.heap m → News h₀ L s'.heap news' → Q v s') : LeaveM h₀ L m g Q v s' := ⟨L', m', news', F', N', k⟩

theorem enter {name qual : Str} {params : Arguments} {body : List Stmt} {scope : Scope} {dV kV doc pm cdv ct oc : Value} {an od : Option Addr} {osl : Array (Option Value)} {f : Addr} {pos : List Value} {kw : List (Str × Value)} {binds : List (Str × Value)}
    (F : Fr h₀ L s.heap m) (X : K.In h₀) (N : News h₀ L s.heap news) (T : TopRead p loose mg mb h₀)
    (ho : K.lookup f = some ⟨oc, od, .func (fnOf name qual params body scope dV kV doc pm an cdv ct), osl⟩) (hcd : codeIn K cdv qual = true) (hroom : A.depth < recursionLimit)
    (hbind : BindsTo s (fnOf name qual params body scope dV kV doc pm an cdv ct) ⟨pos, kw⟩ binds) (hloc : ∀ y ∈ binds, scope.names.lookup y.1 = some .local)
    (h : ∀ g L' h₁, Fr g L' h₁ (fun y => binds.reverse.lookup y) → News g L' h₁ news → K.In g → TopRead p loose mg mb g → (∀ p ∈ news, p.1 < L') → (∀ b o, h₀.get? b = some o → g.get? b = some o) →
      wpAny (model prog w) (A.deeper (envOf qual scope L' f cdv)) (execs body (envOf qual scope L' f cdv))
        (fun fl s' => LeaveM h₀ L m g Q (match fl with | .ret v => v | _ => .none) s') (fun _ _ => False)
        { s with heap := h₁, toks := s.toks + binds.length })
    (hco : scope.isCoroutine = false) (hgen : scope.isGenerator = false) (hk : scope.kind = .function)
    (hcell : ∀ x ∈ scope.names, x.2 ≠ .cell) : wpAny (model prog w) A (call (.ref f) pos kw) Q E s := by
  have nm : ∀ b o, h₀.get? b = some o → b ∉ news.map (·.1) := fun b o e q => by
    obtain ⟨p, hp, rfl⟩ := List.mem_map.mp q
    rw [(N p hp).2.2] at e; cases e
  have st : h₀.StaysIn (hideAll s.heap (news.map (·.1))) := fun b o e => hideAll_get _ (F.keep b o e) (nm b o e)
  obtain ⟨oL, es, ep, hL, hLd, hLk, hLf⟩ := F.ns
  have nL : L ∉ news.map (·.1) := fun q => by
    obtain ⟨p, hp, e⟩ := List.mem_map.mp q
    exact (N p hp).2.1 e
  have hLg := hideAll_get (news.map (·.1)) hL nL
  have XG : K.In (hideAll s.heap (news.map (·.1))) := Frag.In.keeps X st
  have TG : TopRead p loose mg mb (hideAll s.heap (news.map (·.1))) := TopRead.keeps T st
  refine wpAny_call (codeAny_call_def (fd := fnOf name qual params body scope dV kV doc pm an cdv ct) (body := body) (binds := binds) hroom ((X.keeps F.keep) _ _ ho) rfl (T.nolimit.keeps F.keep) (codeRec_of (X.keeps F.keep) hcd) rfl hbind hcell hloc (fun h₁ hns hk₁ => ?_) hco hgen hk)
  refine wpAny_mono (h (hideAll s.heap (news.map (·.1))) s.heap.objs.size h₁ ⟨hns, fun b o e => hk₁ b o (of_hideAll _ e), Nat.le_of_eq (hideAll_size _ _)⟩
    (fun p hp => ⟨hk₁ _ _ (N p hp).1, Nat.ne_of_lt (Heap.lt_size (N p hp).1), hideAll_none _ (List.mem_map_of_mem hp)⟩) XG TG (fun p hp => Heap.lt_size (N p hp).1) (fun b o e => hideAll_get _ (F.keep b o e) (nm b o e))) (fun fl s' hl => ?_) fun _ _ y => y.elim
  obtain ⟨L', m', news', F', N', k⟩ := hl
  refine k ⟨⟨oL, es, ep, F'.keep L oL hLg, hLd, hLk, hLf⟩, fun b o e => F'.keep b o (st b o e), F.above⟩ fun p hp => ⟨(N' p hp).1, fun q => ?_, ?_⟩
  · have := (N' p hp).2.2; rw [q, hLg] at this; cases this
  · cases q : h₀.get? p.1 with
    | none => rfl
    | some o => have := (N' p hp).2.2; rw [st _ _ q] at this; cases this
end

noncomputable def accObj (d : Addr) (items : Array Value) (ep : Nat) : Obj := ⟨.ref 193, some d, .seq items ep, #[]⟩

section
variable {prog : Program} {w : World} {A : Around} {E : Value → Shared → Prop} {s : Shared} {K : Frag} {L x C : Addr} {h₀ : Heap} {m mg mb : Str → Option Value} {news : List (Addr × Obj)} {p : Program} {loose : List Str} {Q : Value → Shared → Prop} {ox : Obj} {od : Option Obj}

/-- a method or slot of a built-in class, asked of an object of an own subclass -/
structure OnSub (owner id : String) : Prop where
  split : ∃ n, splitId id = some (owner, n) ∧ ((Manifest.find? owner).bind (·.attrs.lookup n) = some .slot ∨ (Manifest.find? owner).bind (·.attrs.lookup n) = some .method)
  plain : plainId id = true
theorem OnSub.of {owner id n : String} (h : splitId id = some (owner, n)) (k : (Manifest.find? owner).bind (·.attrs.lookup n) = some .slot ∨ (Manifest.find? owner).bind (·.attrs.lookup n) = some .method) (hp : plainId id = true) : OnSub owner id := ⟨⟨n, h, k⟩, hp⟩

theorem OnSub.check {owner id : String} (O : OnSub owner id) {rest : List Value} {Q : Unit → Shared → Prop} (X : K.In s.heap) (I : InstAt s.heap x ox C od) (hm : mroIn K C (.type owner) = some true) (ha : argsOk id ⟨.ref x :: rest, []⟩) (h : Q () s) :
    wpAny (model prog w) A (checkBuiltinCall id ⟨.ref x :: rest, []⟩) Q E s := by
  obtain ⟨⟨n, hsplit, hkind⟩, -⟩ := O
  have hk : builtinKind id = (Manifest.find? owner).bind (·.attrs.lookup n) := by simp only [builtinKind, hsplit]
  rcases hkind with e | e <;>
  · simp only [checkBuiltinCall, hk, e, hsplit]
    refine wpAny_bind (wpAny_bind (I.type.here ((looks_mroIn X hm).here ?_)))
    simp only [Bool.not_true, Bool.false_eq_true, if_false]
    cases hsig : Manifest.signature? id with
    | none => exact wpAny_pure h
    | some sig =>
      simp only [argsOk, hsig] at ha
      have h2 : Bind.checkArgs id sig ⟨.ref x :: rest, []⟩ = pure () := ha
      show wpAny _ _ (Bind.checkArgs id sig ⟨.ref x :: rest, []⟩) _ _ _
      rw [h2]; exact wpAny_pure h

theorem OnSub.call {owner id : String} (O : OnSub owner id) {rest : List Value} {b : Builtin} (hb : entryFor table id = some b) (X : K.In s.heap) (I : InstAt s.heap x ox C od) (hm : mroIn K C (.type owner) = some true) (ha : argsOk id ⟨.ref x :: rest, []⟩)
    (h : wpAny (model prog w) A.in1 (b ⟨.ref x :: rest, []⟩) (fun fin s' => ∃ v, fin = .done (.ret v) ∧ Q v s') E s) : wpAny (model prog w) A (call (.builtin id) (.ref x :: rest)) Q E s := by
  refine wpAny_call (codeAny_call_builtin O.plain hb (O.check X I hm ha (wpAny_mono h (fun fin s' hf => ?_) fun _ _ e => e)))
  obtain ⟨v, rfl, hv⟩ := hf; exact hv

end

theorem on_append : OnSub "list" "list.append" := .of (n := "append") (by decide +kernel) (by decide +kernel) (by decide +kernel)
theorem on_len : OnSub "list" "list.__len__" := .of (n := "__len__") (by decide +kernel) (by decide +kernel) (by decide +kernel)
theorem on_pop : OnSub "list" "list.pop" := .of (n := "pop") (by decide +kernel) (by decide +kernel) (by decide +kernel)
theorem on_init : OnSub "list" "list.__init__" := .of (n := "__init__") (by decide +kernel) (by decide +kernel) (by decide +kernel)
theorem on_iter : OnSub "list" "list.__iter__" := .of (n := "__iter__") (by decide +kernel) (by decide +kernel) (by decide +kernel)
theorem on_getitem : OnSub "list" "list.__getitem__" := .of (n := "__getitem__") (by decide +kernel) (by decide +kernel) (by decide +kernel)
theorem on_setitem : OnSub "list" "list.__setitem__" := .of (n := "__setitem__") (by decide +kernel) (by decide +kernel) (by decide +kernel)
theorem canon_list_ga : (Manifest.canonical "list.__getattribute__" != "object.__getattribute__") = false := by decide +kernel
theorem on_ga : OnSub "list" "list.__getattribute__" := .of (n := "__getattribute__") (by decide +kernel) (by decide +kernel) (by decide +kernel)

/-- attributes go by list's own __getattribute__, and there is no __getattr__ -/
noncomputable def listGet (K : Frag) (C : Addr) : Bool := findIn K (.ref C) "__getattribute__" == some (some (.builtin "list.__getattribute__")) && findIn K (.ref C) "__getattr__" == some none && mroIn K C (.type "list") == some true
section
variable {prog : Program} {w : World} {A : Around} {E : Value → Shared → Prop} {s : Shared} {K : Frag} {L x C : Addr} {h₀ : Heap} {m mg mb : Str → Option Value} {news : List (Addr × Obj)} {p : Program} {loose : List Str} {ox : Obj} {od : Option Obj} {name : Str}
theorem listGet_of (h : listGet K C = true) : findIn K (.ref C) "__getattribute__" = some (some (.builtin "list.__getattribute__")) ∧ findIn K (.ref C) "__getattr__" = some none ∧ mroIn K C (.type "list") = some true := by
  obtain ⟨ab, c⟩ := Bool.and_eq_true_iff.mp h
  obtain ⟨a, b⟩ := Bool.and_eq_true_iff.mp ab
  exact ⟨beq_iff_eq.mp a, beq_iff_eq.mp b, beq_iff_eq.mp c⟩

theorem sub_get {v : Value} {expr : Bool} {Q : Value → Shared → Prop} (X : K.In s.heap) (I : InstAt s.heap x ox C od) (hg : listGet K C = true)
    (hf : findObj K C od name = some (.value v)) (hh : handedIn v = true) (h : Q v { s with toks := s.toks + 1 }) : wpAny (model prog w) A (getAttr (.ref x) name expr) Q E s := by
  obtain ⟨hga, hk, hm⟩ := listGet_of hg
  obtain ⟨hp, g, d, t, os⟩ := s
  have L0 := I.type (M := model prog w)
  have L1 := looks_findIn (M := model prog w) X hga
  have L2 := looks_findIn (M := model prog w) X hk
  have L3 := looks_find (M := model prog w) X I hf
  unfold getAttr getAttrBy
  refine wpAny_bind (wpAny_mkText (wpAny_holding (wpAny_bind (L0.at (wpAny_bind (L1.at ?_))))))
  show wpAny _ _ (getAttrByItsOwn (.ref x) (.str name t) (.ref C) (.builtin "list.__getattribute__") true expr) _ _ _
  unfold getAttrByItsOwn hookBefore callGetattribute boundAndCalled
  refine wpAny_bind (show wpAny _ _ (typeLookup (.ref C) "__getattr__") _ _ _ from L2.at ?_)
  refine wpAny_bind (wpAny_attempt (wpAny_holding ?_))
  rw [if_neg (by simp [onTheHeap])]
  refine wpAny_bind (wpAny_of_eq (F.slot_list_getattribute.bind _) ?_)
  refine wpAny_mono (Q := fun v' s' => v' = v ∧ s' = ⟨hp, g, d, t + 1, os⟩) (E := fun _ _ => False) ?_ (fun v' s' hv => ?_) fun _ _ z => z.elim
  · refine on_ga.call (s := ⟨hp, g, d, t + 1, os⟩) am_entry_list_getattribute X I hm (F.args_list_getattribute_2 _ _) ?_
    unfold Builtin.«object.__getattribute__»
    refine wpAny_bind (wpAny_pure (wpAny_bind (wpAny_pure (wpAny_bind (L0.at (wpAny_bind (L3.at ?_)))))))
    exact wpAny_pure ⟨v, rfl, rfl, rfl⟩
  · obtain ⟨rfl, rfl⟩ := hv
    show wpAny _ _ (handedOut v') _ _ _
    rw [handedOut_of hh]; exact wpAny_pure h

theorem sub_own {expr : Bool} {Q : Value → Shared → Prop} {attr : Option Value} {v : Value} {es : List DictEntry} {n : Nat} (F : Fr h₀ L s.heap m) (X₀ : K.In h₀) (I : InstAt s.heap x ox C (some (dictOf es n))) (hg : listGet K C = true) (hh : hasDictIn K C = true)
    (ha : findIn K (.ref C) name = some attr) (hn : noGet K attr = true) (hl : getL name es = some (some v)) (hv : handedIn v = true) (h : Q v { s with toks := s.toks + 1 }) :
    wpAny (model prog w) A (getAttr (.ref x) name expr) Q E s :=
  sub_get (X₀.keeps F.keep) I hg (findObj_own hh ha hn hl) hv h

theorem sub_method {a : Value} {pl : Sem Bool} {Q : Value × List Value → Shared → Prop} {es : List DictEntry} {n : Nat} {T : String} (F : Fr h₀ L s.heap m) (X₀ : K.In h₀) (I : InstAt s.heap x ox C (some (dictOf es n))) (hg : listGet K C = true)
    (hf : findIn K (.ref C) name = some (some a)) (ht : typeIn K a = some (.type T)) (hT : T = "function" ∨ T = "method_descriptor") (hl : getL name es = some none) (h : Q (a, [.ref x]) s) : wpAny (model prog w) A (getMethod (.ref x) name pl) Q E s := by
  obtain ⟨hga, hk, hm⟩ := listGet_of hg
  have X := X₀.keeps F.keep
  have hcan := canon_list_ga
  unfold getMethod specialOf
  refine wpAny_bind (wpAny_bind (I.type.here ((looks_findIn X hga).here ?_)))
  dsimp only
  rw [hcan, if_neg (by decide)]
  refine wpAny_bind (wpAny_bind (I.type.here ((looks_findIn X hk).here ?_)))
  refine wpAny_bind (wpAny_bind (I.type.here ((looks_findIn X hf).here (wpAny_bind ((looks_typeIn X ht).here ?_)))))
  rw [if_neg (by rcases hT with rfl | rfl <;> decide +kernel)]
  refine wpAny_bind (wpAny_loadPart I.at_ ?_)
  have hd := I.dict
  cases e : ox.dict with
  | none => rw [e] at hd; exact hd.elim
  | some dx =>
    rw [e] at hd
    refine wpAny_bind (wpAny_bind (wpAny_loadPart hd ?_))
    rw [nsLook_of (show lookIn name (dictOf es n) = some none from hl)]
    exact wpAny_pure (wpAny_bind (wpAny_rule (wpAny_pure h)))
end

theorem mro_acc (P : Params) : mroIn (hd.heap_1 P) 193 (.type "list") = some true := by k_is
noncomputable abbrev epOf (a b : Array Value) (n : Nat) : Nat := if a.size == b.size then n else n + 1
theorem mapSeq_acc (d : Addr) (items : Array Value) (ep : Nat) (f : Array Value → Array Value) : Obj.mapSeq f (accObj d items ep) = accObj d (f items) (epOf (f items) items ep) := rfl
section
variable {prog : Program} {w : World} {A : Around} {E : Value → Shared → Prop} {s : Shared} {L x dx : Addr} {h₀ : Heap} {m mg mb : Str → Option Value} {news news' : List (Addr × Obj)} {Q : Value → Shared → Prop} {items : Array Value} {ep : Nat} {od : Obj}

theorem accInst {h : Heap} (N : News h₀ L h news) (h1 : (x, accObj dx items ep) ∈ news) (h2 : (dx, od) ∈ news) : InstAt h x (accObj dx items ep) 193 (some od) := ⟨(N _ h1).1, rfl, rfl, (N _ h2).1⟩

theorem acc_update {M : Model} {f : Array Value → Array Value} {Q : Unit → Shared → Prop} (F : Fr h₀ L s.heap m) (N : News h₀ L s.heap news) (U : Upd x (accObj dx items ep) (accObj dx (f items) (epOf (f items) items ep)) news news')
    (hz : items.size ≤ sizeLine) (hz' : (f items).size ≤ sizeLine + 1) (h : ∀ h', Fr h₀ L h' m → News h₀ L h' news' → Q () { s with heap := h' }) : wpAny M A (updateSeq x f) Q E s := by
  obtain ⟨pre, post, rfl, rfl, a, b⟩ := U.split
  have ho := (N (x, accObj dx items ep) (List.mem_append_right _ (.head _))).1
  obtain ⟨F', N'⟩ := news_upd (f := Obj.mapSeq f) F N a b (mapSeq_acc ..) rfl
  exact wpAny_updateSeq ho rfl (h _ F' N') hz hz'

theorem acc_append {v : Value} (F : Fr h₀ L s.heap m) (X : (hd.heap_1 w.params).In h₀) (N : News h₀ L s.heap news) (h1 : (x, accObj dx items ep) ∈ news) (h2 : (dx, od) ∈ news)
    (U : Upd x (accObj dx items ep) (accObj dx (items.push v) (ep + 1)) news news') (hz : items.size ≤ sizeLine)
    (h : ∀ h', Fr h₀ L h' m → News h₀ L h' news' → Q .none { s with heap := h' }) : wpAny (model prog w) A (call (.builtin "list.append") [.ref x, v]) Q E s := by
  refine on_append.call entry_list_append (X.keeps F.keep) (accInst N h1 h2) (mro_acc _) (args_list_append _ _) ?_
  show wpAny _ _ (updateSeq x (·.push v) >>= fun _ => ret .none) _ _ s
  refine wpAny_bind (acc_update F N (by rw [show epOf (items.push v) items ep = ep + 1 by simp [epOf]]; exact U) hz (by simp; omega) fun h' F' N' => wpAny_pure ⟨.none, rfl, h h' F' N'⟩)
end

/-- the dict of an accumulator -/
noncomputable abbrev accD (P : Params) (tk : Tok) (v : Value) : Obj := dictOf [⟨PyData.keyHash P "_initial_size", .str "_initial_size" tk, v⟩] 1
theorem acc_listGet (P : Params) : listGet (hd.heap_1 P) 193 = true := by
  unfold listGet
  rw [mro_acc, show findIn (hd.heap_1 P) (.ref 193) "__getattribute__" = some (some (.builtin "list.__getattribute__")) by k_is, show findIn (hd.heap_1 P) (.ref 193) "__getattr__" = some none by k_is]
  decide
noncomputable def Off (as : List Addr) (l : List (Addr × Obj)) : Prop := ∀ p ∈ l, p.1 ∉ as
theorem Off.cons {as : List Addr} {l : List (Addr × Obj)} {p : Addr × Obj} (h : Off as l) (hp : p.1 ∉ as) : Off as (p :: l) := fun q hq => by
  rcases List.mem_cons.mp hq with rfl | hq
  · exact hp
  · exact h q hq
theorem newsSub {h₀ h : Heap} {L : Addr} {l l' : List (Addr × Obj)} (N : News h₀ L h l) (hs : ∀ p ∈ l', p ∈ l) : News h₀ L h l' := fun p hp => N p (hs p hp)
/-- one object of the ledger -/
noncomputable def NewsAt (h₀ : Heap) (L : Addr) (h : Heap) (p : Addr × Obj) : Prop := h.get? p.1 = some p.2 ∧ p.1 ≠ L ∧ h₀.get? p.1 = none
theorem newsMk {h₀ h : Heap} {L : Addr} {p : Addr × Obj} {l : List (Addr × Obj)} (hp : NewsAt h₀ L h p) (N : News h₀ L h l) : News h₀ L h (p :: l) := fun q hq => by
  rcases List.mem_cons.mp hq with rfl | hq
  · exact hp
  · exact N q hq
theorem newsMk2 {h₀ h : Heap} {L : Addr} {p : Addr × Obj} {l l2 : List (Addr × Obj)} (N : News h₀ L h l2) (hp : p ∈ l2) (N2 : News h₀ L h l) : News h₀ L h (p :: l) := newsMk (N _ hp) N2
theorem news2 {h₀ h : Heap} {L : Addr} {p : Addr × Obj} {l : List (Addr × Obj)} (N : News h₀ L h (p :: l)) : NewsAt h₀ L h p ∧ News h₀ L h l := ⟨N p (.head _), fun q hq => N q (.tail _ hq)⟩
theorem news3 {h₀ h : Heap} {L : Addr} {p q : Addr × Obj} {l : List (Addr × Obj)} (N : News h₀ L h (p :: q :: l)) : NewsAt h₀ L h p ∧ NewsAt h₀ L h q ∧ News h₀ L h l := ⟨(news2 N).1, news2 (news2 N).2⟩
theorem news4 {h₀ h : Heap} {L : Addr} {p q r : Addr × Obj} {l : List (Addr × Obj)} (N : News h₀ L h (p :: q :: r :: l)) : NewsAt h₀ L h p ∧ NewsAt h₀ L h q ∧ NewsAt h₀ L h r ∧ News h₀ L h l := ⟨(news2 N).1, news3 (news2 N).2⟩
theorem Off.ne {as : List Addr} {l : List (Addr × Obj)} {a : Addr} (h : Off as l) (ha : a ∈ as) : ∀ p ∈ l, p.1 ≠ a := fun p hp e => h p hp (e ▸ ha)
/-- an object taken out of the ledger, wherever it stands -/
inductive Pull (x : Addr × Obj) : List (Addr × Obj) → List (Addr × Obj) → Prop
  | head {r} : Pull x (x :: r) r
  | tail {p r r'} : Pull x r r' → Pull x (p :: r) (p :: r')
theorem Pull.at {h₀ h : Heap} {L : Addr} {x : Addr × Obj} {l r : List (Addr × Obj)} (P : Pull x l r) (N : News h₀ L h l) : NewsAt h₀ L h x ∧ News h₀ L h r := by
  induction P with
  | head => exact news2 N
  | tail _ ih => exact ⟨(ih (news2 N).2).1, newsMk (news2 N).1 (ih (news2 N).2).2⟩
theorem Pull.front {h₀ h : Heap} {L : Addr} {x : Addr × Obj} {l r : List (Addr × Obj)} (P : Pull x l r) (N : News h₀ L h l) : News h₀ L h (x :: r) := newsMk (P.at N).1 (P.at N).2
theorem Pull.front2 {h₀ h : Heap} {L : Addr} {x y : Addr × Obj} {l r r' : List (Addr × Obj)} (P : Pull x l r) (P' : Pull y r r') (N : News h₀ L h l) : News h₀ L h (x :: y :: r') := newsMk (P.at N).1 (P'.front (P.at N).2)
theorem Pull.front3 {h₀ h : Heap} {L : Addr} {x y z : Addr × Obj} {l r r' r'' : List (Addr × Obj)} (P : Pull x l r) (P' : Pull y r r') (P'' : Pull z r' r'') (N : News h₀ L h l) : News h₀ L h (x :: y :: z :: r'') := newsMk (P.at N).1 (P'.front2 P'' (P.at N).2)
theorem Pull.mem {x : Addr × Obj} {l r : List (Addr × Obj)} (P : Pull x l r) : ∀ p ∈ r, p ∈ l := by
  induction P with
  | head => exact fun p hp => .tail _ hp
  | tail _ ih =>
    intro p hp
    rcases List.mem_cons.mp hp with rfl | hp
    · exact .head _
    · exact .tail _ (ih p hp)
noncomputable def AllNe (x : Addr) : List Addr → Prop
  | [] => True
  | a :: as => @Ne Nat x a ∧ AllNe x as
theorem AllNe.not {x : Addr} : ∀ {as : List Addr}, AllNe x as → x ∉ as
  | [], _ => List.not_mem_nil
  | _ :: _, h => fun m => by
      rcases List.mem_cons.mp m with e | m
      · exact h.1 e
      · exact AllNe.not h.2 m
theorem Off.put {as : List Addr} {l : List (Addr × Obj)} {p : Addr × Obj} (hp : AllNe p.1 as) (h : Off as l) : Off as (p :: l) := h.cons hp.not
theorem Off.sub {as as' : List Addr} {l : List (Addr × Obj)} (h : Off as' l) (hs : ∀ a ∈ as, a ∈ as') : Off as l := fun p hp m => h p hp (hs _ m)
theorem Off.nil {as : List Addr} : Off as [] := fun _ hp => nomatch hp
theorem subs_nil {as : List Addr} : ∀ a ∈ ([] : List Addr), a ∈ as := fun _ h => nomatch h
theorem subs_cons {x : Addr} {l as : List Addr} (h1 : x ∈ as) (h2 : ∀ a ∈ l, a ∈ as) : ∀ a ∈ x :: l, a ∈ as := fun a h => by
  rcases List.mem_cons.mp h with rfl | h
  · exact h1
  · exact h2 a h
theorem Pull.cases {x p : Addr × Obj} {l r : List (Addr × Obj)} (P : Pull x l r) (hp : p ∈ l) : p = x ∨ p ∈ r := by
  induction P with
  | head => exact List.mem_cons.mp hp
  | tail _ ih =>
    rcases List.mem_cons.mp hp with rfl | hp
    · exact .inr (.head _)
    · rcases ih hp with h | h
      · exact .inl h
      · exact .inr (.tail _ h)
theorem allLt_mem {d : Addr} : ∀ {l : List (Addr × Obj)}, AllLt d l → ∀ p ∈ l, p.1 < d
  | [], _, _, hp => nomatch hp
  | q :: l, h, p, hp => by
    rcases List.mem_cons.mp hp with rfl | hp
    · exact h.1
    · exact allLt_mem h.2 p hp
theorem lt2 {d : Addr} {x y : Addr × Obj} {l r r' : List (Addr × Obj)} (P : Pull x l r) (P' : Pull y r r') (h1 : x.1 < d) (h2 : y.1 < d) (h : AllLt d r') : ∀ p ∈ l, p.1 < d := fun p hp => by
  rcases P.cases hp with rfl | hp
  · exact h1
  rcases P'.cases hp with rfl | hp
  · exact h2
  exact allLt_mem h p hp
noncomputable abbrev pairObj (a b : Value) : Obj := { cls := .type "tuple", data := .seq #[a, b] 0 }
theorem kl1 {G : Prop} {d a1 : Addr} {o1 : Obj} {l : List (Addr × Obj)} (h : ∀ p ∈ (a1, o1) :: l, p.1 < d) (k : @LT.lt Nat _ a1 d → AllLt d l → G) : G := k (h _ (.head _)) (allLt_of (fun p hp => h p (.tail _ hp)))
theorem kl2 {G : Prop} {d a1 a2 : Addr} {o1 o2 : Obj} {l : List (Addr × Obj)} (h : ∀ p ∈ (a1, o1) :: (a2, o2) :: l, p.1 < d) (k : @LT.lt Nat _ a1 d → @LT.lt Nat _ a2 d → AllLt d l → G) : G := k (h _ (.head _)) (h _ (.tail _ (.head _))) (allLt_of (fun p hp => h p (.tail _ (.tail _ hp))))
theorem kl3 {G : Prop} {d a1 a2 a3 : Addr} {o1 o2 o3 : Obj} {l : List (Addr × Obj)} (h : ∀ p ∈ (a1, o1) :: (a2, o2) :: (a3, o3) :: l, p.1 < d) (k : @LT.lt Nat _ a1 d → @LT.lt Nat _ a2 d → @LT.lt Nat _ a3 d → AllLt d l → G) : G := k (h _ (.head _)) (h _ (.tail _ (.head _))) (h _ (.tail _ (.tail _ (.head _)))) (allLt_of (fun p hp => h p (.tail _ (.tail _ (.tail _ hp)))))
theorem kl5 {G : Prop} {d a1 a2 a3 a4 a5 : Addr} {o1 o2 o3 o4 o5 : Obj} {l : List (Addr × Obj)} (h : ∀ p ∈ (a1, o1) :: (a2, o2) :: (a3, o3) :: (a4, o4) :: (a5, o5) :: l, p.1 < d) (k : @LT.lt Nat _ a1 d → @LT.lt Nat _ a2 d → @LT.lt Nat _ a3 d → @LT.lt Nat _ a4 d → @LT.lt Nat _ a5 d → AllLt d l → G) : G := k (h _ (.head _)) (h _ (.tail _ (.head _))) (h _ (.tail _ (.tail _ (.head _)))) (h _ (.tail _ (.tail _ (.tail _ (.head _))))) (h _ (.tail _ (.tail _ (.tail _ (.tail _ (.head _)))))) (allLt_of (fun p hp => h p (.tail _ (.tail _ (.tail _ (.tail _ (.tail _ hp)))))))
theorem kl6 {G : Prop} {d a1 a2 a3 a4 a5 a6 : Addr} {o1 o2 o3 o4 o5 o6 : Obj} {l : List (Addr × Obj)} (h : ∀ p ∈ (a1, o1) :: (a2, o2) :: (a3, o3) :: (a4, o4) :: (a5, o5) :: (a6, o6) :: l, p.1 < d) (k : @LT.lt Nat _ a1 d → @LT.lt Nat _ a2 d → @LT.lt Nat _ a3 d → @LT.lt Nat _ a4 d → @LT.lt Nat _ a5 d → @LT.lt Nat _ a6 d → AllLt d l → G) : G := k (h _ (.head _)) (h _ (.tail _ (.head _))) (h _ (.tail _ (.tail _ (.head _)))) (h _ (.tail _ (.tail _ (.tail _ (.head _))))) (h _ (.tail _ (.tail _ (.tail _ (.tail _ (.head _)))))) (h _ (.tail _ (.tail _ (.tail _ (.tail _ (.tail _ (.head _))))))) (allLt_of (fun p hp => h p (.tail _ (.tail _ (.tail _ (.tail _ (.tail _ (.tail _ hp))))))))
theorem kl7 {G : Prop} {d a1 a2 a3 a4 a5 a6 a7 : Addr} {o1 o2 o3 o4 o5 o6 o7 : Obj} {l : List (Addr × Obj)} (h : ∀ p ∈ (a1, o1) :: (a2, o2) :: (a3, o3) :: (a4, o4) :: (a5, o5) :: (a6, o6) :: (a7, o7) :: l, p.1 < d) (k : @LT.lt Nat _ a1 d → @LT.lt Nat _ a2 d → @LT.lt Nat _ a3 d → @LT.lt Nat _ a4 d → @LT.lt Nat _ a5 d → @LT.lt Nat _ a6 d → @LT.lt Nat _ a7 d → AllLt d l → G) : G := k (h _ (.head _)) (h _ (.tail _ (.head _))) (h _ (.tail _ (.tail _ (.head _)))) (h _ (.tail _ (.tail _ (.tail _ (.head _))))) (h _ (.tail _ (.tail _ (.tail _ (.tail _ (.head _)))))) (h _ (.tail _ (.tail _ (.tail _ (.tail _ (.tail _ (.head _))))))) (h _ (.tail _ (.tail _ (.tail _ (.tail _ (.tail _ (.tail _ (.head _)))))))) (allLt_of (fun p hp => h p (.tail _ (.tail _ (.tail _ (.tail _ (.tail _ (.tail _ (.tail _ hp)))))))))
theorem kl8 {G : Prop} {d a1 a2 a3 a4 a5 a6 a7 a8 : Addr} {o1 o2 o3 o4 o5 o6 o7 o8 : Obj} {l : List (Addr × Obj)} (h : ∀ p ∈ (a1, o1) :: (a2, o2) :: (a3, o3) :: (a4, o4) :: (a5, o5) :: (a6, o6) :: (a7, o7) :: (a8, o8) :: l, p.1 < d) (k : @LT.lt Nat _ a1 d → @LT.lt Nat _ a2 d → @LT.lt Nat _ a3 d → @LT.lt Nat _ a4 d → @LT.lt Nat _ a5 d → @LT.lt Nat _ a6 d → @LT.lt Nat _ a7 d → @LT.lt Nat _ a8 d → AllLt d l → G) : G := k (h _ (.head _)) (h _ (.tail _ (.head _))) (h _ (.tail _ (.tail _ (.head _)))) (h _ (.tail _ (.tail _ (.tail _ (.head _))))) (h _ (.tail _ (.tail _ (.tail _ (.tail _ (.head _)))))) (h _ (.tail _ (.tail _ (.tail _ (.tail _ (.tail _ (.head _))))))) (h _ (.tail _ (.tail _ (.tail _ (.tail _ (.tail _ (.tail _ (.head _)))))))) (h _ (.tail _ (.tail _ (.tail _ (.tail _ (.tail _ (.tail _ (.tail _ (.head _))))))))) (allLt_of (fun p hp => h p (.tail _ (.tail _ (.tail _ (.tail _ (.tail _ (.tail _ (.tail _ (.tail _ hp))))))))))
theorem kl9 {G : Prop} {d a1 a2 a3 a4 a5 a6 a7 a8 a9 : Addr} {o1 o2 o3 o4 o5 o6 o7 o8 o9 : Obj} {l : List (Addr × Obj)} (h : ∀ p ∈ (a1, o1) :: (a2, o2) :: (a3, o3) :: (a4, o4) :: (a5, o5) :: (a6, o6) :: (a7, o7) :: (a8, o8) :: (a9, o9) :: l, p.1 < d) (k : @LT.lt Nat _ a1 d → @LT.lt Nat _ a2 d → @LT.lt Nat _ a3 d → @LT.lt Nat _ a4 d → @LT.lt Nat _ a5 d → @LT.lt Nat _ a6 d → @LT.lt Nat _ a7 d → @LT.lt Nat _ a8 d → @LT.lt Nat _ a9 d → AllLt d l → G) : G := k (h _ (.head _)) (h _ (.tail _ (.head _))) (h _ (.tail _ (.tail _ (.head _)))) (h _ (.tail _ (.tail _ (.tail _ (.head _))))) (h _ (.tail _ (.tail _ (.tail _ (.tail _ (.head _)))))) (h _ (.tail _ (.tail _ (.tail _ (.tail _ (.tail _ (.head _))))))) (h _ (.tail _ (.tail _ (.tail _ (.tail _ (.tail _ (.tail _ (.head _)))))))) (h _ (.tail _ (.tail _ (.tail _ (.tail _ (.tail _ (.tail _ (.tail _ (.head _))))))))) (h _ (.tail _ (.tail _ (.tail _ (.tail _ (.tail _ (.tail _ (.tail _ (.tail _ (.head _)))))))))) (allLt_of (fun p hp => h p (.tail _ (.tail _ (.tail _ (.tail _ (.tail _ (.tail _ (.tail _ (.tail _ (.tail _ hp)))))))))))
theorem kl10 {G : Prop} {d a1 a2 a3 a4 a5 a6 a7 a8 a9 a10 : Addr} {o1 o2 o3 o4 o5 o6 o7 o8 o9 o10 : Obj} {l : List (Addr × Obj)} (h : ∀ p ∈ (a1, o1) :: (a2, o2) :: (a3, o3) :: (a4, o4) :: (a5, o5) :: (a6, o6) :: (a7, o7) :: (a8, o8) :: (a9, o9) :: (a10, o10) :: l, p.1 < d) (k : @LT.lt Nat _ a1 d → @LT.lt Nat _ a2 d → @LT.lt Nat _ a3 d → @LT.lt Nat _ a4 d → @LT.lt Nat _ a5 d → @LT.lt Nat _ a6 d → @LT.lt Nat _ a7 d → @LT.lt Nat _ a8 d → @LT.lt Nat _ a9 d → @LT.lt Nat _ a10 d → AllLt d l → G) : G := k (h _ (.head _)) (h _ (.tail _ (.head _))) (h _ (.tail _ (.tail _ (.head _)))) (h _ (.tail _ (.tail _ (.tail _ (.head _))))) (h _ (.tail _ (.tail _ (.tail _ (.tail _ (.head _)))))) (h _ (.tail _ (.tail _ (.tail _ (.tail _ (.tail _ (.head _))))))) (h _ (.tail _ (.tail _ (.tail _ (.tail _ (.tail _ (.tail _ (.head _)))))))) (h _ (.tail _ (.tail _ (.tail _ (.tail _ (.tail _ (.tail _ (.tail _ (.head _))))))))) (h _ (.tail _ (.tail _ (.tail _ (.tail _ (.tail _ (.tail _ (.tail _ (.tail _ (.head _)))))))))) (h _ (.tail _ (.tail _ (.tail _ (.tail _ (.tail _ (.tail _ (.tail _ (.tail _ (.tail _ (.head _))))))))))) (allLt_of (fun p hp => h p (.tail _ (.tail _ (.tail _ (.tail _ (.tail _ (.tail _ (.tail _ (.tail _ (.tail _ (.tail _ hp))))))))))))
theorem pl1 {x a1 : Addr × Obj} {l : List (Addr × Obj)} : Pull x (a1 :: x :: l) (a1 :: l) := .tail .head
theorem pl2 {x a1 a2 : Addr × Obj} {l : List (Addr × Obj)} : Pull x (a1 :: a2 :: x :: l) (a1 :: a2 :: l) := .tail (.tail .head)
theorem pl3 {x a1 a2 a3 : Addr × Obj} {l : List (Addr × Obj)} : Pull x (a1 :: a2 :: a3 :: x :: l) (a1 :: a2 :: a3 :: l) := .tail (.tail (.tail .head))
theorem pl4 {x a1 a2 a3 a4 : Addr × Obj} {l : List (Addr × Obj)} : Pull x (a1 :: a2 :: a3 :: a4 :: x :: l) (a1 :: a2 :: a3 :: a4 :: l) := .tail (.tail (.tail (.tail .head)))
theorem pl6 {x a1 a2 a3 a4 a5 a6 : Addr × Obj} {l : List (Addr × Obj)} : Pull x (a1 :: a2 :: a3 :: a4 :: a5 :: a6 :: x :: l) (a1 :: a2 :: a3 :: a4 :: a5 :: a6 :: l) := .tail (.tail (.tail (.tail (.tail (.tail .head)))))
theorem pl7 {x a1 a2 a3 a4 a5 a6 a7 : Addr × Obj} {l : List (Addr × Obj)} : Pull x (a1 :: a2 :: a3 :: a4 :: a5 :: a6 :: a7 :: x :: l) (a1 :: a2 :: a3 :: a4 :: a5 :: a6 :: a7 :: l) := .tail (.tail (.tail (.tail (.tail (.tail (.tail .head))))))
theorem pl8 {x a1 a2 a3 a4 a5 a6 a7 a8 : Addr × Obj} {l : List (Addr × Obj)} : Pull x (a1 :: a2 :: a3 :: a4 :: a5 :: a6 :: a7 :: a8 :: x :: l) (a1 :: a2 :: a3 :: a4 :: a5 :: a6 :: a7 :: a8 :: l) := .tail (.tail (.tail (.tail (.tail (.tail (.tail (.tail .head)))))))
theorem rm0 {a m n : Nat} (h : a < m) (k : Nat.ble m n = true) : a < n := Nat.lt_of_lt_of_le h (Nat.le_of_ble_eq_true k)
theorem rmP (c : Nat) {a m n : Nat} (h : a < m) (k : Nat.ble (m + c) n = true) : a + c < n := Nat.lt_of_lt_of_le (Nat.add_lt_add_right h c) (Nat.le_of_ble_eq_true k)
theorem rmC (c : Nat) {a m : Nat} (h : a < m) (k : Nat.ble (m + c) 9900 = true) : a + c < cLine := cLine_is ▸ rmP c h k
theorem exc_t {M : Model} {A : Around} {E : Value → Shared → Prop} {st : Stmt} {rest : List Stmt} {env : Env} {Q : Flow → Shared → Prop} {h : Heap} {g' d' t o'} (g d o) (hg : g' = g) (hd : d' = d) (ho : o' = o)
    (k : ∀ tk, wpAny M A (exec st env) (fun f s' => match f with | .next => wpAny M A (execs rest env) Q E s' | f => Q f s') E ⟨h, g, d, tk, o⟩) : wpAny M A (execs (st :: rest) env) Q E ⟨h, g', d', t, o'⟩ := by
  subst hg hd ho
  exact wpAny_execs_cons (k t)
noncomputable def Dis : List Addr → Prop
  | [] => True
  | a :: as => AllNe a as ∧ Dis as
theorem fold_post {M : Model} {A : Around} {α : Type} {t : Sem α} {Q : α → Shared → Prop} {E : Value → Shared → Prop} {s : Shared} (k : ∀ Z : α → Shared → Prop, (∀ f s', Q f s' → Z f s') → wpAny M A t Z E s) : wpAny M A t Q E s := k Q fun _ _ h => h
theorem exc_g {M : Model} {A : Around} {E : Value → Shared → Prop} {st : Stmt} {rest : List Stmt} {env : Env} {Q : Flow → Shared → Prop} {h : Heap} {g' d' t o'} (g d o) (hg : g' = g) (hd : d' = d) (ho : o' = o)
    (k : ∀ Z : Flow → Shared → Prop, (∀ f s', (match f with | .next => wpAny M A (execs rest env) Q E s' | f => Q f s') → Z f s') → ∀ tk, wpAny M A (exec st env) Z E ⟨h, g, d, tk, o⟩) : wpAny M A (execs (st :: rest) env) Q E ⟨h, g', d', t, o'⟩ := by
  subst hg hd ho
  exact wpAny_execs_cons (k _ (fun _ _ h => h) t)
theorem fold_both {M : Model} {A : Around} {α : Type} {t : Sem α} {Q : α → Shared → Prop} {E : Value → Shared → Prop} {s : Shared} (k : ∀ (Z : α → Shared → Prop) (Y : Value → Shared → Prop), (∀ f s', Q f s' → Z f s') → (∀ f s', E f s' → Y f s') → wpAny M A t Z Y s) : wpAny M A t Q E s := k Q E (fun _ _ h => h) fun _ _ h => h
theorem at_for {M : Model} {A : Around} {E : Value → Shared → Prop} {s : Shared} {t i : Expr} {b o : List Stmt} {p : Pos} {env : Env} {Q : Flow → Shared → Prop} (h : wpAny M A (exec (.For t i b o p) env) Q E s) : wpAny M A (exec (.For t i b o p) env) Q E s := h
theorem at_cmp {M : Model} {A : Around} {E : Value → Shared → Prop} {s : Shared} {a b : Addr} {Q : Value → Shared → Prop} (h : wpAny M A (compareOp .Eq (.ref a) (.ref b)) Q E s) : wpAny M A (compareOp .Eq (.ref a) (.ref b)) Q E s := h
theorem atA {M : Model} {A : Around} {E : Value → Shared → Prop} {s : Shared} {p : List Value} {k : List (Str × Value)} {Q : Value → Shared → Prop} (n : Addr) (h : wpAny M A (call (.ref n) p k) Q E s) : wpAny M A (call (.ref n) p k) Q E s := h

local macro_rules | `(tactic| omega) => `(tactic| first | lia | omega (config := {}))
local macro_rules | `(tactic| walk_at "ent") => `(tactic| (k_whole; intro g' L' h' F' N' X' T' l1 st'; (try (with_reducible rename Mod _ _ => M9'; have M' := Mod.keeps M9' st')); clear st'; (try dsimp only)))
local macro_rules | `(tactic| walk_at "LeaveM") => `(tactic| (k_dflt (apply leaveM; k_asm; k_asm; k_whole); intro kF kN))
local macro_rules | `(tactic| walk_at "lt") => `(tactic| (intros; rename (∀ p ∈ _, Prod.fst p < _) => l1; (try k_lt l1)))
local macro_rules | `(tactic| walk_at "dis") => `(tactic| (rename Dis _ => c8; dsimp only [Dis, AllNe] at c8; simp only [and_true, and_assoc] at c8; (repeat (refine And.elim ?_ c8; clear c8; intro c7 c8))))
local macro_rules | `(tactic| walk_at "news") => `(tactic| ((with_reducible rename News _ _ _ _ => n9); (repeat (refine newsMk (n9 _ (by k_mem)) ?_)); k_mem))
local macro_rules | `(tactic| walk_at "accn") => `(tactic| (k_whole; intro x' dx' h' tk' ep' dk' it' F' N' l1 l2; have l3 : @LT.lt Nat _ dx' x' := l2; (try k_lt l1)))
set_option hygiene false
local macro_rules | `(tactic| k_ne) => `(tactic| (refine neN ?_; (try dsimp only); walk_at "neq"))
local macro_rules | `(tactic| k_lt $h:ident) => `(tactic| ((first | refine kl10 $h ?_ | refine kl9 $h ?_ | refine kl8 $h ?_ | refine kl7 $h ?_ | refine kl6 $h ?_ | refine kl5 $h ?_ | refine kl3 $h ?_ | refine kl2 $h ?_ | refine kl1 $h ?_); intros))
local macro_rules | `(tactic| k_mem) => `(tactic| first | exact Pull.head | exact pl1 | exact pl2 | exact pl3 | exact pl4 | exact pl6 | exact pl7 | exact pl8)
local macro_rules | `(tactic| k_mem) => `(tactic| first | exact Off.nil | (refine Off.sub (by with_reducible assumption) ?_; k_mem) | (refine Off.put ?_ ?_; walk_at "dis7"; k_mem) | ((with_reducible change Off _ _); first | exact off_none | exact off_lt (by assumption) | (refine off_cons ?_ ?_; k_mem; k_mem)) | exact subs_nil | (refine subs_cons ?_ ?_; k_mem; k_mem))
local macro_rules | `(tactic| walk_at "tl") => `(tactic| (intro p9 hp9; (repeat (first | exact hp9 | refine .tail _ ?_)); done))
local macro_rules | `(tactic| k_mem) => `(tactic| ((with_reducible change Tups _ _ _); first | exact Tups.nil | (apply Tups.cons; k_mem; exact Tups.nil) | (apply Tups.push; k_mem; k_mem) | focus (refine Tups.sub (by assumption) ?_; walk_at "tl")))
local macro_rules | `(tactic| k_mem) => `(tactic| ((with_reducible change News _ _ _ _); first | focus (refine newsSub (by assumption) ?_; walk_at "tl") | (refine newsMk2 (by assumption) ?_ ?_; k_mem; k_mem)))
local macro_rules | `(tactic| k_all) => `(tactic| (refine Off.ne (by with_reducible assumption) ?_; k_mem))
local macro_rules | `(tactic| k_inst) => `(tactic| (apply accInst; k_asm; k_mem; k_mem))
local macro_rules | `(tactic| k_room) => `(tactic| first | exact rm0 (by assumption) rfl | exact rmP 1 (by assumption) rfl | exact rmP 2 (by assumption) rfl | ((try simp only [depth_under_make, depth_under_kw, depth_in1, depth_deeper, depth_caller]); (try dsimp only [recursionLimit]); omega))
local macro_rules | `(tactic| walk_at "units") => `(tactic| first | exact rm0 (by assumption) rfl | exact rmP 1 (by assumption) rfl | exact rmP 3 (by assumption) rfl | exact rmP 4 (by assumption) rfl | exact rmC 1 (by assumption) rfl | exact rmC 3 (by assumption) rfl | exact rmC 4 (by assumption) rfl | exact rmC 5 (by assumption) rfl | exact rmC 67 (by assumption) rfl | ((have hcL' := cLine_is); (try simp only [units_in1, units_deeper]); omega))
local macro_rules | `(tactic| walk_at "binds") => `(tactic| first | exact BindsTo.of_eq rfl | exact binds_K (by k_in) rfl (by k_is) rfl rfl rfl)
local macro_rules | `(tactic| walk_at "nums") => `(tactic| first | assumption | omega | (dsimp only; assumption) | (dsimp only; omega) | (simp <;> omega))
local macro_rules | `(tactic| walk_at "dis7") => `(tactic| ((try dsimp only [Dis, AllNe]); (repeat' refine And.intro ?_ ?_) <;> first | exact True.intro | walk_at "neq"))
local macro_rules | `(tactic| walk_at "neq") => `(tactic| first | with_reducible (first | assumption | exact Ne.symm (by assumption) | exact Nat.ne_of_lt (by assumption) | exact Nat.ne_of_gt (by assumption)) | decide | omega)
local macro_rules | `(tactic| walk_at "cl") => `(tactic| first | (with_reducible change Pull _ _ _; k_mem) | (with_reducible change @Ne Nat _ _; k_ne) | k_asm | (with_reducible change _ = Option.none; with_unfolding_all assumption) | (with_reducible change @LT.lt Nat _ _ _; first | k_room | walk_at "units" | walk_at "nums") | k_mem | walk_at "nums" | walk_at "dis7")
local macro_rules | `(tactic| walk_at "cls") => `(tactic| ((repeat ((fail_if_success refine fun (_ : Heap) => ?_); walk_at "cl")); k_whole; refine fun (_ : Heap) => ?_; intros))
local macro_rules | `(tactic| walk_at "clsl") => `(tactic| (walk_at "cls"; walk_at "lt"))
local macro_rules | `(tactic| walk_at "stop") => `(tactic| with_reducible first | refine at_for ?_ | refine at_cmp ?_)
local macro_rules | `(tactic| walk_at "go") => `(tactic| ((fail_if_success walk_at "stop"); first | walk1 | (dsimp only; walk1) | ((try dsimp only); (first | k_unfold | ((with_reducible refine hZ _ _ ?_); clear hZ)); (try dsimp only)) | fail))
local macro_rules | `(tactic| walk_at "entr") => `(tactic| ((iterate 4 k_asm); k_is; k_is; k_room; walk_at "binds"))
local macro_rules | `(tactic| walk_at "entz") => `(tactic| (walk_at "entr"; exact locs rfl; k_whole; rotate_left; (iterate 3 exact rfl); decide))
local macro_rules | `(tactic| k_enter) => `(tactic| (focus (apply enter; walk_at "entz"); walk_at "ent"))
local macro_rules | `(tactic| ks_enter) => `(tactic| ((try refine wpAny_call ?_); focus (apply enterSC; walk_at "entz"); walk_at "ent"))
local macro_rules | `(tactic| walk_at "enterC") => `(tactic| (focus (apply enterC; walk_at "entz"); walk_at "ent"))
local macro_rules | `(tactic| walk_at "enterX") => `(tactic| (focus (apply enterX; walk_at "entr"; exact rfl; decide +kernel; k_whole; rotate_left; (iterate 3 exact rfl)); k_whole))
local macro_rules | `(tactic| walk_at "getMethod ref") => `(tactic| (k_here; k_dflt (first | (apply sub_method; k_asm; k_asm; k_inst; exact acc_listGet _; k_is; k_is; walk_at "lr"; k_get; k_whole) | (apply super_met found_len; walk_at "smet") | (apply super_met found_pop; walk_at "smet") | (apply super_met found_init; walk_at "smet"))))
local macro_rules | `(tactic| walk_at "smet") => `(tactic| ((iterate 3 k_asm); k_mem; k_inst; exact mro_acc _; k_is; ks_is; decide; walk_at "lt"))
local macro_rules | `(tactic| walk_at "lr") => `(tactic| first | exact .inl rfl | exact .inr rfl)
local macro_rules | `(tactic| walk_at "getAttr ref") => `(tactic| (k_here; k_dflt (first | ((with_reducible first | apply pf_cur | apply pf_lin | apply pf_max | apply pf_spl); (iterate 3 k_asm); k_mem; k_mem) | (apply sub_bound; (iterate 3 k_asm); k_inst; exact acc_listGet _; (iterate 5 k_is); decide +kernel; k_get; walk_at "lt") | (apply sub_own; k_asm; k_asm; k_inst; exact acc_listGet _; (iterate 3 k_is); k_get; k_handed; k_whole))))
local macro_rules | `(tactic| walk_at "call builtin:list.append") => `(tactic| (k_here; k_dflt (apply acc_append; (iterate 3 k_asm); k_mem; k_mem; k_upd; k_asm; k_whole); intros; (try k_sweep)))
local macro_rules | `(tactic| walk_at "wpAt") => `(tactic| first | (ks_step "attributeBase Call"; k_here; k_dflt (apply super_node; (iterate 4 k_asm); k_inst; k_is; rfl; rfl; k_is; rfl; (first | rfl | decide +kernel); (iterate 4 k_is); decide; (iterate 4 rfl); decide +kernel; (first | boot_by_name | rfl | kernel_rfl); walk_at "lt")) | (ks_step "eval Call"; k_dflt (refine ks_wpAt_MethodCall ?_)))
local macro_rules | `(tactic| walk_at "callWith ref") => `(tactic| (k_here; k_dflt (first | (apply callWith_bound0; k_asm; k_mem; walk_at "lr"; k_whole) | ((with_reducible apply callWith_MS); k_asm; k_asm; k_mem; k_is; k_whole; rotate_left; exact rfl))))
local macro_rules | `(tactic| walk_at "call ref") => `(tactic| (k_here; k_dflt (first | ((first | ((with_reducible refine atA 71 ?_); apply newline_call) | ((with_reducible refine atA 182 ?_); apply blank_any) | ((with_reducible refine atA 160 ?_); apply len_call) | ((with_reducible refine atA 167 ?_); apply str_call) | ((with_reducible refine atA 190 ?_); apply part_count_call)); walk_at "cls") | ((with_reducible refine atA 153 ?_); apply pop_one; walk_at "cls") | ((with_reducible refine atA 175 ?_); apply reset_none; walk_at "cls") | ((with_reducible refine atA 175 ?_); apply reset_list; walk_at "cls") | ((with_reducible refine atA 145 ?_); apply pop_from_call; walk_at "clsl") | ((with_reducible refine atA 137 ?_); apply push_call; walk_at "clsl") | ((with_reducible refine atA 193 ?_); apply acc_new; (iterate 4 k_asm); k_room; walk_at "accn") | ((with_reducible refine atA 153 ?_); apply pop_call; walk_at "cls") | ((with_reducible refine atA 153 ?_); apply pop_empty; walk_at "clsl") | ((with_reducible apply push_bound); walk_at "clsl") | (apply len_bound; k_asm; k_mem; k_mem) | (apply pop_bound; (iterate 3 k_asm); (iterate 3 k_mem); k_upd; k_asm; intros) | (apply init_bound; k_asm; k_asm; k_mem; k_mem; k_upd; intros) | fail)))
local macro_rules | `(tactic| walk_at "eval Name") => `(tactic| (k_here; k_dflt (first | (focus ((with_reducible apply ldVarG); k_asm; assumption; k_whole; rotate_left; rfl; rfl; decide); k_whole) | (focus ((with_reducible apply nameG_K); (iterate 3 k_asm); k_is; k_whole; rotate_left; (iterate 3 rfl); decide); k_whole) | (focus ((with_reducible apply nameG_B); (iterate 3 k_asm); k_is; boot_by_name; decide; k_whole; rotate_left; (iterate 4 rfl); decide); k_whole))))
local macro_rules | `(tactic| walk_at "call builtin:sum") => `(tactic| (k_here; k_dflt (apply sum_gen (f := lenPair); (iterate 3 k_asm); assumption; walk_at "nums"; assumption; solve_by_elim; k_whole; intros; (try k_sweep))))
local macro_rules | `(tactic| walk_at "call builtin:str.join") => `(tactic| (k_here; k_dflt (apply join_genW (f := catPair); (iterate 3 k_asm); assumption; walk_at "nums"; assumption; solve_by_elim; assumption; assumption; k_whole; intros; (try k_sweep))))
local macro_rules | `(tactic| walk_at "setAttr ref") => `(tactic| (k_here; k_dflt (apply acc_setattr; (iterate 3 k_asm); k_mem; k_mem; k_is; k_get; k_put; k_upd; exact Nat.le_of_ble_eq_true rfl; k_whole; intros; (try k_sweep))))
local macro_rules | `(tactic| walk_at "truthy ref") => `(tactic| (k_here; k_dflt (apply truthy_L; k_asm; k_asm; k_inst; (iterate 3 k_is); k_whole)))
local macro_rules | `(tactic| walk_at "call type:str") => `(tactic| (k_here; k_dflt ((with_reducible apply kso_call); walk_at "units"; k_in; k_inst; k_is; k_is; k_whole)))
local macro_rules | `(tactic| walk_at "eval Call Attribute cons nil") => `(tactic| (k_here; (with_reducible refine at_star ?_); k_dflt (refine MethodCallS_ ?_)))
local macro_rules | `(tactic| walk_at "subscriptTail") => `(tactic| (k_here; k_dflt (focus ((with_reducible apply acc_itemLast); (iterate 3 k_asm); k_mem; k_mem; walk_at "nums"; walk_at "nums"; k_whole; rotate_left; with_unfolding_all rfl); k_whole)))
local macro_rules | `(tactic| walk_at "tup") => `(tactic| (k_asm; k_asm; apply News.isTup; k_asm; k_mem; with_unfolding_all assumption; exact rfl))
local macro_rules | `(tactic| walk_at "assign Tuple") => `(tactic| (k_here; k_dflt ((with_reducible apply unpackN_); walk_at "tup"; exact rfl; k_whole); intros; (try k_sweep)))
local macro_rules | `(tactic| walk_at "unpackItems ref") => `(tactic| (k_here; k_dflt (apply unpackItemsN_; walk_at "tup"; k_whole); intros; (try k_sweep)))
local macro_rules | `(tactic| walk_at "call builtin:str.find") => `(tactic| (k_here; (with_reducible refine call_find4 ?_)))
local macro_rules | `(tactic| walk_at "execs cons") => `(tactic| walk_at "ex")
local macro_rules | `(tactic| walk_at "ex") => `(tactic| ((with_reducible refine exc_t s.gens s.drawn s.os rfl rfl rfl ?_); intro _))
local macro_rules | `(tactic| walk_at "fold") => `(tactic| ((try k_fold); walk_at "ex"; k_fold))

theorem slot_wd_get : Slot "wrapper_descriptor" "__get__" "wrapper_descriptor.__get__" := .of (owner := "wrapper_descriptor") (n := "__get__") (by rw [typeLookup_type, builtinLookup_eq_fast]; kernel_rfl) (by decide +kernel) (by decide +kernel) (by decide +kernel)
  (by first | exact .inl (by decide +kernel) | exact .inr (by decide +kernel)) (by rw [isSubtype_type]; kernel_rfl)
theorem slot_md_get : Slot "method_descriptor" "__get__" "method_descriptor.__get__" := .of (owner := "method_descriptor") (n := "__get__") (by rw [typeLookup_type, builtinLookup_eq_fast]; kernel_rfl) (by decide +kernel) (by decide +kernel) (by decide +kernel)
  (by first | exact .inl (by decide +kernel) | exact .inr (by decide +kernel)) (by rw [isSubtype_type]; kernel_rfl)
theorem entry_wd_get : entryFor table "wrapper_descriptor.__get__" = some Builtin.«wrapper_descriptor.__get__» := entryFor_of_tree (by kernel_rfl)
theorem entry_md_get : entryFor table "method_descriptor.__get__" = some Builtin.«method_descriptor.__get__» := entryFor_of_tree (by kernel_rfl)
theorem args_wd_get (a b c : Value) : argsOk "wrapper_descriptor.__get__" ⟨[a, b, c], []⟩ := by unfold argsOk; kernel_rfl
theorem args_md_get (a b c : Value) : argsOk "method_descriptor.__get__" ⟨[a, b, c], []⟩ := by unfold argsOk; kernel_rfl
theorem type_list_len : typeOf (.builtin "list.__len__") = pure (.type "wrapper_descriptor") := by show builtinType _ = _; rw [builtinType_eq_fast]; kernel_rfl
theorem type_list_init : typeOf (.builtin "list.__init__") = pure (.type "wrapper_descriptor") := by show builtinType _ = _; rw [builtinType_eq_fast]; kernel_rfl
theorem type_list_pop : typeOf (.builtin "list.pop") = pure (.type "method_descriptor") := by show builtinType _ = _; rw [builtinType_eq_fast]; kernel_rfl

section
variable {prog : Program} {w : World} {A : Around} {E : Value → Shared → Prop} {K : Frag} {x C : Addr} {h : Heap} {g : Array GenState} {d : Drawn} {t : Nat} {os : OsState} {ox : Obj} {od : Option Obj}
theorem wd_get {id : String} {Q : Value → Shared → Prop} (ht : typeOf (.builtin id) = pure (.type "wrapper_descriptor")) (ho : ".".intercalate (id.cutAt '.').dropLast = "list") (X : K.In h) (I : InstAt h x ox C od) (hm : mroIn K C (.type "list") = some true)
    (hq : Q (.ref h.objs.size) ⟨h.push { cls := .type "method-wrapper", data := .fields #[.builtin id, .ref x] }, g, d, t, os⟩) :
    wpAny (model prog w) A (call (.builtin "wrapper_descriptor.__get__") [.builtin id, .ref x, .ref C]) Q E ⟨h, g, d, t, os⟩ := by
  refine wpAny_call_entry slot_wd_get ht entry_wd_get ?_ (args_wd_get _ _ _)
  have L := I.type (M := model prog w)
  have L2 : Looks (model prog w) h (isSubtype (.ref C) (.type (".".intercalate (id.cutAt '.').dropLast))) true := ho ▸ looks_mroIn (M := model prog w) X hm
  unfold Builtin.«wrapper_descriptor.__get__»
  repeat (any_goals (first | assumption | (with_reducible refine Looks.at L ?_) | (with_reducible refine Looks.at L2 ?_) | (with_reducible refine wpAny_newObj_type ?_ (by size_fits)) | wp_step))
  exact ⟨_, rfl, hq⟩
theorem md_get {id : String} {Q : Value → Shared → Prop} (ht : typeOf (.builtin id) = pure (.type "method_descriptor")) (ho : ".".intercalate (id.cutAt '.').dropLast = "list") (hn : Manifest.toldItsClass.contains id = false) (X : K.In h) (I : InstAt h x ox C od) (hm : mroIn K C (.type "list") = some true)
    (hq : Q (.ref h.objs.size) ⟨h.push { cls := .type "builtin_function_or_method", data := .fields #[.builtin id, .ref x] }, g, d, t, os⟩) :
    wpAny (model prog w) A (call (.builtin "method_descriptor.__get__") [.builtin id, .ref x, .ref C]) Q E ⟨h, g, d, t, os⟩ := by
  refine wpAny_call_entry slot_md_get ht entry_md_get ?_ (args_md_get _ _ _)
  have L := I.type (M := model prog w)
  have L2 : Looks (model prog w) h (isSubtype (.ref C) (.type (".".intercalate (id.cutAt '.').dropLast))) true := ho ▸ looks_mroIn (M := model prog w) X hm
  unfold Builtin.«method_descriptor.__get__»
  repeat (any_goals (first | assumption | (with_reducible refine wpAny_ite_false (by rw [hn]; decide) ?_) | (with_reducible refine Looks.at L ?_) | (with_reducible refine Looks.at L2 ?_) | (with_reducible refine wpAny_newObj_type ?_ (by size_fits)) | wp_step))
  exact ⟨_, rfl, hq⟩

/-- a built-in method of list, found by super() and bound -/
theorem super_ga {so D : Addr} {l₀ l : List Value} {name : Str} {tk : Tok} {id DT BT : String} {Q : Fin → Shared → Prop}
    (hso : h.get? so = some { cls := .type "super", dict := none, data := .fields #[.ref D, .ref x, .ref C], slots := #[] }) (hno : Looks (model prog w) h (opaqueClassAbove (.ref C)) none)
    (hC : Looks (model prog w) h (mroOf (.ref C)) l₀) (hl : (l₀.dropWhile (· != .ref D)).drop 1 = l) (X : K.In h)
    (hf : alongIn K name l = some (some (.builtin id))) (ht : typeOf (.builtin id) = pure (.type DT)) (hg : typeLookup (.type DT) "__get__" = pure (some (.builtin (DT ++ ".__get__")))) (hxC : x ≠ C) (hn : (name == ("__class__" : Str)) = false)
    (hcall : ∀ {A : Around} {E : Value → Shared → Prop} {Q : Value → Shared → Prop}, Q (.ref h.objs.size) ⟨h.push { cls := .type BT, data := .fields #[.builtin id, .ref x] }, g, d, t, os⟩ → wpAny (model prog w) A (call (.builtin (DT ++ ".__get__")) [.builtin id, .ref x, .ref C]) Q E ⟨h, g, d, t, os⟩)
    (hq : Q (.done (.ret (.ref h.objs.size))) ⟨h.push { cls := .type BT, data := .fields #[.builtin id, .ref x] }, g, d, t, os⟩) :
    wpAny (model prog w) A (Builtin.«super.__getattribute__» ⟨[.ref so, .str name tk], []⟩) Q E ⟨h, g, d, t, os⟩ := by
  have hne : (Value.ref x == Value.ref C) = false := by simp [hxC]
  have hdt : ({ cls := .type "super", dict := none, data := .fields #[.ref D, .ref x, .ref C], slots := #[] } : Obj).data = .fields #[.ref D, .ref x, .ref C] := rfl
  have f0 : (#[.ref D, .ref x, .ref C] : Array Value)[0]? = some (.ref D) := rfl
  have f1 : (#[.ref D, .ref x, .ref C] : Array Value)[1]? = some (.ref x) := rfl
  have f2 : (#[.ref D, .ref x, .ref C] : Array Value)[2]? = some (.ref C) := rfl
  unfold Builtin.«super.__getattribute__»
  repeat (first
    | (with_reducible refine wpAny_field hso hdt f0 ?_) | (with_reducible refine wpAny_field hso hdt f1 ?_) | (with_reducible refine wpAny_field hso hdt f2 ?_)
    | (with_reducible refine ks_wpAny_notOpaque hno ?_)
    | (with_reducible refine Looks.at hC ?_; rw [hl])
    | (refine ks_forIn_along X (fun _ _ => rfl) rfl ?_ hf)
    | (with_reducible refine wpAny_of_eq ht ?_)
    | (with_reducible refine wpAny_of_eq hg ?_)
    | (with_reducible refine hcall ?_)
    | (simp only [hn, hne, Bool.or_false, Bool.false_eq_true, if_false])
    | wp_step
    | dsimp only)
  all_goals exact hq

noncomputable abbrev boundB (BT id : String) (x : Addr) : Obj := { cls := .type BT, data := .fields #[.builtin id, .ref x] }

/-- a method of list that super() finds, and its object -/
structure SuperFound (prog : Program) (w : World) (id DT BT : String) : Prop where
  ty : typeOf (.builtin id) = pure (.type DT)
  get : typeLookup (.type DT) "__get__" = pure (some (.builtin (DT ++ ".__get__")))
  call : ∀ {K : Frag} {x C : Addr} {h : Heap} {g : Array GenState} {d : Drawn} {t : Nat} {os : OsState} {ox : Obj} {od : Option Obj} (_ : K.In h) (_ : InstAt h x ox C od) (_ : mroIn K C (.type "list") = some true) {A : Around} {E : Value → Shared → Prop} {Q : Value → Shared → Prop},
    Q (.ref h.objs.size) ⟨h.push (boundB BT id x), g, d, t, os⟩ → wpAny (model prog w) A (PySem.call (.builtin (DT ++ ".__get__")) [.builtin id, .ref x, .ref C]) Q E ⟨h, g, d, t, os⟩

theorem super_getMethod {so D : Addr} {l₀ l : List Value} {name : Str} {id DT BT : String} {pl : Sem Bool} {Q : Value × List Value → Shared → Prop} (S : SuperFound prog w id DT BT)
    (hso : h.get? so = some { cls := .type "super", dict := none, data := .fields #[.ref D, .ref x, .ref C], slots := #[] }) (hno : Looks (model prog w) h (opaqueClassAbove (.ref C)) none)
    (hC : Looks (model prog w) h (mroOf (.ref C)) l₀) (hl : (l₀.dropWhile (· != .ref D)).drop 1 = l) (X : K.In h) (I : InstAt h x ox C od) (hm : mroIn K C (.type "list") = some true)
    (hf : alongIn K name l = some (some (.builtin id))) (hxC : x ≠ C) (hn : (name == ("__class__" : Str)) = false)
    (hq : Q (.ref h.objs.size, []) ⟨h.push (boundB BT id x), g, d, t + 1, os⟩) :
    wpAny (model prog w) A (getMethod (.ref so) name pl) Q E ⟨h, g, d, t, os⟩ := by
  have hlk := F.ks_slot_super_ga.lookup
  have hcan := F.ks_canon_super_ga
  have hT : ∀ t', (⟨h, g, d, t', os⟩ : Shared).TypeIs (.ref so) "super" := fun _ => ⟨_, hso, rfl⟩
  unfold getMethod
  refine wpAny_bind (wpAny_specialOf (hT _) hlk ?_)
  show wpAny _ _ (if (Manifest.canonical "super.__getattribute__" != "object.__getattribute__") = true then _ else _) _ _ _
  rw [if_pos hcan]
  unfold getAttr getAttrBy
  refine wpAny_bind (wpAny_bind (wpAny_mkText (wpAny_holding (wpAny_bind (wpAny_typeOf (hT _) (wpAny_bind (wpAny_of_eq hlk ?_)))))))
  show wpAny _ _ (getAttrByItsOwn (.ref so) (.str name t) (.type "super") (.builtin "super.__getattribute__") true false) _ _ _
  unfold getAttrByItsOwn hookBefore callGetattribute boundAndCalled
  refine wpAny_bind (wpAny_of_eq (show (if onTheHeap (.type "super") then typeLookup (.type "super") "__getattr__" else pure none) = pure none from rfl) ?_)
  refine wpAny_bind (wpAny_attempt (wpAny_holding ?_))
  show wpAny _ _ (bindSpecial (.builtin "super.__getattribute__") (.ref so) >>= _) _ _ _
  refine wpAny_bind (wpAny_of_eq (F.ks_slot_super_ga.bind _) ?_)
  refine wpAny_mono (Q := fun v s' => v = .ref h.objs.size ∧ s' = ⟨h.push (boundB BT id x), g, d, t + 1, os⟩) (E := fun _ _ => False)
    (wpAny_call_entry F.ks_slot_super_ga (hT _) F.ks_entry_super_ga (super_ga hso hno hC hl X hf S.ty S.get hxC hn (fun q => S.call X I hm q) ⟨_, rfl, rfl, rfl⟩) (F.ks_gaArgs_super _ _)) (fun v s' hv => ?_) fun _ _ z => z.elim
  obtain ⟨rfl, rfl⟩ := hv
  exact wpAny_pure (wpAny_pure hq)
end

theorem found_len {prog : Program} {w : World} : SuperFound prog w "list.__len__" "wrapper_descriptor" "method-wrapper" := ⟨type_list_len, slot_wd_get.lookup, fun X I hm _ _ _ q => wd_get type_list_len (by decide +kernel) X I hm q⟩
theorem found_init {prog : Program} {w : World} : SuperFound prog w "list.__init__" "wrapper_descriptor" "method-wrapper" := ⟨type_list_init, slot_wd_get.lookup, fun X I hm _ _ _ q => wd_get type_list_init (by decide +kernel) X I hm q⟩
theorem found_pop {prog : Program} {w : World} : SuperFound prog w "list.pop" "method_descriptor" "builtin_function_or_method" := ⟨type_list_pop, slot_md_get.lookup, fun X I hm _ _ _ q => md_get type_list_pop (by decide +kernel) (by decide +kernel) X I hm q⟩

section
variable {prog : Program} {w : World} {A : Around} {E : Value → Shared → Prop} {s : Shared} {K : Frag} {L x C D so : Addr} {h₀ : Heap} {m mg mb : Str → Option Value} {news : List (Addr × Obj)} {ox : Obj} {od : Option Obj}
theorem super_met {name : Str} {id DT BT : String} {pl : Sem Bool} {Q : Value × List Value → Shared → Prop} (S : SuperFound prog w id DT BT) (F : Fr h₀ L s.heap m) (X₀ : K.In h₀) (N : News h₀ L s.heap news) (hso : (so, ks_superObj D x C) ∈ news) (I : InstAt s.heap x ox C od)
    (hmro : mroIn K C (.type "list") = some true) (ho : nsIn K cStatics "thirdparty.any" = some none) (hm : ks_superIn K C D name = some (some (.builtin id))) (hn : (name == ("__class__" : Str)) = false)
    (h : ∀ q h', Fr h₀ L h' m → News h₀ L h' ((q, boundB BT id x) :: news) → (∀ p ∈ news, p.1 < q) → Q (.ref q, []) { s with heap := h', toks := s.toks + 1 }) : wpAny (model prog w) A (getMethod (.ref so) name pl) Q E s := by
  have X : K.In s.heap := X₀.keeps F.keep
  obtain ⟨hh, g, d, t, os⟩ := s
  cases hc : clsIn K C with
  | none => unfold ks_superIn at hm; rw [hc] at hm; cases hm
  | some cd =>
    unfold ks_superIn at hm
    rw [hc] at hm
    refine super_getMethod S (N _ hso).1 (looks_opaque X ho) (l₀ := cd.mro) ?_ rfl X I hmro hm (ks_ne X I hc) hn ?_
    · exact fun A Q E s k q => wpAny_bind ((looks_clsIn X hc) A _ E s k (wpAny_pure q))
    · obtain ⟨F', N', l'⟩ := ks_newsPush (s := ⟨hh, g, d, t, os⟩) (o := boundB BT id x) F N rfl (Heap.get?_push_at rfl rfl) (fun b o e => Heap.get?_push_of_some _ e)
      exact h _ _ F' N' l'
end

theorem chk_len (x : Addr) : checkBoundCall "list.__len__" ⟨[.ref x], []⟩ = pure () := by kernel_rfl
theorem chk_init (x : Addr) : checkBoundCall "list.__init__" ⟨[.ref x], []⟩ = pure () := by kernel_rfl
section
variable {prog : Program} {w : World} {A : Around} {E : Value → Shared → Prop} {s : Shared} {K : Frag} {L x C q : Addr} {h₀ : Heap} {m mg mb : Str → Option Value} {news : List (Addr × Obj)} {ox : Obj} {od : Option Obj} {env : Env} {pos : Pos}

theorem keeps_bound {M : Model} {BT id : String} (hBT : BT = "method-wrapper" ∨ BT = "builtin_function_or_method") (h : Heap) (X : h.get? q = some (boundB BT id x)) : ∃ k, (k = Keeper.frame ∨ k = Keeper.machine ∨ k = Keeper.boundFrame) ∧ Looks M h (keeperOf (.ref q)) k := by
  refine ⟨.machine, .inr (.inl rfl), (Looks.ld (part := none) X).andThen ?_⟩
  rcases hBT with rfl | rfl <;> exact .now

theorem bound_call {BT id : String} {args : List Value} {b : Builtin} {Q : Value → Shared → Prop} (hq : s.heap.get? q = some (boundB BT id x)) (hBT : BT = "method-wrapper" ∨ BT = "builtin_function_or_method") (hp : plainId id = true) (hb : entryFor table id = some b)
    (hc : ∀ {Q' : Unit → Shared → Prop} {E'}, Q' () s → wpAny (model prog w) A.in1 (checkBoundCall id ⟨.ref x :: args, []⟩) Q' E' s)
    (h : wpAny (model prog w) A.in1 (b ⟨.ref x :: args, []⟩) (fun fin s' => ∃ v, fin = .done (.ret v) ∧ Q v s') E s) : wpAny (model prog w) A (call (.ref q) args) Q E s := by
  refine wpAny_call (codeAny_of_tree ?_)
  show wpAny _ A.in1 (do let o ← load q; match o.data with
    | .func fd => callFunction q fd ⟨args, []⟩
    | .fields vs =>
      if o.cls == .type "method" || o.cls == .type "builtin_function_or_method" || o.cls == .type "method-wrapper" then
        let (some func, some self) := (vs[0]?, vs[1]?) | unsupported "internal:method-record"
        let all : Args := { pos := self :: args, kw := [] }
        if let .builtin id := func then
          if o.cls != .type "method" then
            checkBoundCall id all
            return ← again (.builtin id all)
        again (.call func all)
      else callAny.viaDunder (.ref q) ⟨args, []⟩
    | _ => callAny.viaDunder (.ref q) ⟨args, []⟩) _ _ s
  refine wpAny_bind (wpAny_load hq ?_)
  dsimp only [boundB]
  have t : (Value.type BT == Value.type "method" || Value.type BT == Value.type "builtin_function_or_method" || Value.type BT == Value.type "method-wrapper") = true := by rcases hBT with rfl | rfl <;> decide
  have n : (Value.type BT != Value.type "method") = true := by rcases hBT with rfl | rfl <;> decide
  rw [if_pos t]
  show wpAny _ A.in1 (if (Value.type BT != Value.type "method") = true then _ else _) _ _ s
  rw [if_pos n]
  refine wpAny_bind (hc ?_)
  refine wpAny_pure ⟨plainId_quiet hp _, codeAny_builtin hb ?_⟩
  rw [Around.under_plainId hp _]
  refine wpAny_mono h (fun fin s' hf => ?_) fun _ _ z => z
  obtain ⟨v, rfl, hv⟩ := hf
  exact hv
end
section
variable {prog : Program} {w : World} {A : Around} {E : Value → Shared → Prop} {s : Shared} {K : Frag} {L : Addr} {h₀ : Heap} {m mg mb : Str → Option Value} {news : List (Addr × Obj)} {p : Program} {loose : List Str} {Q : Value → Shared → Prop}
theorem enterSC {name qual : Str} {params : Arguments} {body : List Stmt} {scope : Scope} {dV kV doc pm cdv ct oc : Value} {an od : Option Addr} {osl : Array (Option Value)} {f cc : Addr} {pos : List Value} {kw : List (Str × Value)} {binds : List (Str × Value)}
    (F : Fr h₀ L s.heap m) (X : K.In h₀) (N : News h₀ L s.heap news) (T : TopRead p loose mg mb h₀)
    (ho : K.lookup f = some ⟨oc, od, .func (ksFn name qual params body scope dV kV doc pm an cdv ct cc), osl⟩) (hcd : codeIn K cdv qual = true) (hroom : A.depth < recursionLimit)
    (hbind : BindsTo s (ksFn name qual params body scope dV kV doc pm an cdv ct cc) ⟨pos, kw⟩ binds) (hloc : ∀ y ∈ binds, scope.names.lookup y.1 = some .local)
    (h : ∀ g L' h₁, Fr g L' h₁ (fun y => binds.reverse.lookup y) → News g L' h₁ news → K.In g → TopRead p loose mg mb g → (∀ p ∈ news, p.1 < L') → (∀ b o, h₀.get? b = some o → g.get? b = some o) →
      _root_.PySem.wpAt (model prog w) (A.deeper (ksEnv qual scope L' f cdv cc)) (.func body (ksEnv qual scope L' f cdv cc)) (execs body (ksEnv qual scope L' f cdv cc))
        (fun fl s' => LeaveM h₀ L m g Q (match fl with | .ret v => v | _ => .none) s') (fun _ _ => False)
        { s with heap := h₁, toks := s.toks + binds.length })
    (hco : scope.isCoroutine = false) (hgen : scope.isGenerator = false) (hk : scope.kind = .function)
    (hcell : ∀ x ∈ scope.names, x.2 ≠ .cell) : codeAny (model prog w) A (.call (.ref f) ⟨pos, kw⟩) (fun r s' => match r with | .ok (.ret v) => Q v s' | .ok _ => False | .error e => E e s') s := by
  have nm : ∀ b o, h₀.get? b = some o → b ∉ news.map (·.1) := fun b o e q => by
    obtain ⟨p, hp, rfl⟩ := List.mem_map.mp q
    rw [(N p hp).2.2] at e; cases e
  have st : h₀.StaysIn (hideAll s.heap (news.map (·.1))) := fun b o e => hideAll_get _ (F.keep b o e) (nm b o e)
  obtain ⟨oL, es, ep, hL, hLd, hLk, hLf⟩ := F.ns
  have nL : L ∉ news.map (·.1) := fun q => by
    obtain ⟨p, hp, e⟩ := List.mem_map.mp q
    exact (N p hp).2.1 e
  have hLg := hideAll_get (news.map (·.1)) hL nL
  have XG : K.In (hideAll s.heap (news.map (·.1))) := Frag.In.keeps X st
  have TG : TopRead p loose mg mb (hideAll s.heap (news.map (·.1))) := TopRead.keeps T st
  refine (ks_codeAny_call_defAt (fd := ksFn name qual params body scope dV kV doc pm an cdv ct cc) (body := body) (binds := binds) hroom ((X.keeps F.keep) _ _ ho) rfl (T.nolimit.keeps F.keep) (codeRec_of (X.keeps F.keep) hcd) rfl hbind hcell hloc (fun h₁ hns hk₁ => ?_) hco hgen hk)
  refine ks_wpAt_mono (h (hideAll s.heap (news.map (·.1))) s.heap.objs.size h₁ ⟨hns, fun b o e => hk₁ b o (of_hideAll _ e), Nat.le_of_eq (hideAll_size _ _)⟩
    (fun p hp => ⟨hk₁ _ _ (N p hp).1, Nat.ne_of_lt (Heap.lt_size (N p hp).1), hideAll_none _ (List.mem_map_of_mem hp)⟩) XG TG (fun p hp => Heap.lt_size (N p hp).1) (fun b o e => hideAll_get _ (F.keep b o e) (nm b o e))) (fun fl s' hl => ?_) fun _ _ (y : False) => y.elim
  obtain ⟨L', m', news', F', N', k⟩ := hl
  refine k ⟨⟨oL, es, ep, F'.keep L oL hLg, hLd, hLk, hLf⟩, fun b o e => F'.keep b o (st b o e), F.above⟩ fun p hp => ⟨(N' p hp).1, fun q => ?_, ?_⟩
  · have := (N' p hp).2.2; rw [q, hLg] at this; cases this
  · cases q : h₀.get? p.1 with
    | none => rfl
    | some o => have := (N' p hp).2.2; rw [st _ _ q] at this; cases this
end

section
variable {prog : Program} {w : World} {A : Around} {E : Value → Shared → Prop} {s : Shared} {h₀ : Heap} {L : Addr} {m mg mb : Str → Option Value} {news : List (Addr × Obj)} {K : Frag} {p : Program} {loose : List Str} {x C D f cc cda so : Addr} {ox : Obj} {odx : Option Obj}
/-- super() in a method of the class D, upon x of the class C -/
theorem super_node {body : List Stmt} {q : Str} {scope : Scope} {p0 p1 : Pos} {attr : Str} {whole : Sem Value} {fd : FuncData} {ar : Arg} {vs : Array Value} {file : Str} {tf : Tok} {oc ccl cl : Value} {od cdd cld : Option Addr} {osl ccs csl : Array (Option Value)} {cdD : ClassData} {Q : Value → Shared → Prop}
    (F : Fr h₀ L s.heap m) (X₀ : K.In h₀) (N : News h₀ L s.heap news) (T : TopRead p loose mg mb h₀) (I : InstAt s.heap x ox C odx)
    (hf : K.lookup f = some ⟨oc, od, .func fd, osl⟩) (hp : (fd.params.posonlyargs ++ fd.params.args).head? = some ar) (hv : m ar.arg = some (.ref x))
    (hcode : K.lookup cda = some ⟨ccl, cdd, .fields vs, ccs⟩) (hvs : vs[2]? = some (.str file tf)) (hfile : ((prog.main.file : Str) == file) = true)
    (hcell : K.lookup cc = some ⟨cl, cld, .cell (some (.ref D)), csl⟩) (hD : clsIn K D = some cdD) (hsub : mroIn K C (.ref D) = some true) (hsuper : nsIn K mainGlobals "super" = some none)
    (hat : (attr == ("__class__" : Str)) = false) (hks : scope.names.lookup ("super" : Str) = some .globalImplicit) (hkc : scope.names.lookup ("__class__" : Str) = some .free) (hka : scope.names.lookup ar.arg = some .local) (hk : scope.kind = .function)
    (htop : (prog.main.scope.names.lookup ("super" : Str)).isSome = false) (hboot : bootBuiltins "super" = some (.type "super"))
    (h : ∀ so h', Fr h₀ L h' m → News h₀ L h' ((so, ks_superObj D x C) :: news) → (∀ p ∈ news, p.1 < so) → Q (.ref so) { s with heap := h' }) :
    _root_.PySem.wpAt (model prog w) A (.func body (ksEnv q scope L f (.ref cda) cc)) (attributeBase (.Call (.Name "super" p0) [] [] p1) attr (ksEnv q scope L f (.ref cda) cc) whole) Q E s := by
  have X : K.In s.heap := X₀.keeps F.keep
  obtain ⟨hh, g, d, t, os⟩ := s
  obtain ⟨oD, hD1, hD2⟩ : ∃ oD, hh.get? D = some oD ∧ oD.data = .cls cdD := by
    unfold clsIn at hD
    split at hD
    · rename_i ho
      cases hD
      exact ⟨_, X _ _ ho, rfl⟩
    · cases hD
  have hnc : ∀ c, ox.data ≠ .cls c := fun c e => by
    have := I.no
    unfold notCls at this
    rw [e] at this
    exact Bool.noConfusion this
  refine ks_wpAt_super_base (env := ksEnv q scope L f (.ref cda) cc) hks hkc hat rfl (X _ _ hf) rfl hp rfl (X _ _ hcode) rfl hvs hfile htop ?_
  refine ks_loadName_global hk hks (loadGlobal_builtin (env := ksEnv q scope L f (.ref cda) cc) (T.g.keeps F.keep) (mg_none_of X₀ T.g hsuper) (T.b.keeps F.keep) ((T.builtins _ (by decide +kernel)).trans hboot) ⟨rfl, ?_⟩)
  refine wpAny_loadName_free hk hkc rfl ⟨_, X _ _ hcell, rfl⟩ (wpAny_loadName_local hk hka F.ns hv (ks_wpAny_isType_cls hD1 hD2 ⟨rfl, ?_⟩))
  refine ks_wpAny_call_super hD1 hD2 I.at_ I.cls hnc (looks_mroIn X hsub) (fun h' e k => ?_)
  obtain ⟨F', N', l'⟩ := ks_newsPush (s := ⟨hh, g, d, t, os⟩) F N rfl e k
  exact h _ _ F' N' l'
end

section
variable {prog : Program} {w : World} {A : Around} {E : Value → Shared → Prop} {s : Shared} {h₀ : Heap} {L x dx q : Addr} {m mg mb : Str → Option Value} {news news' : List (Addr × Obj)} {items : Array Value} {ep : Nat} {od : Obj} {Q : Value → Shared → Prop} {pos : Pos} {env : Env}
theorem callWith_bound0 {BT id : String} (N : News h₀ L s.heap news) (hq : (q, boundB BT id x) ∈ news) (hBT : BT = "method-wrapper" ∨ BT = "builtin_function_or_method") (h : wpAny (model prog w) A (call (.ref q) ([] ++ [])) Q E s) : wpAny (model prog w) A (callWith pos (.ref q) [] (backTo pos (starEach [] env)) []) Q E s :=
  callWith_of rfl (keeps_bound hBT) (evalArgs_nil3 ⟨(N _ hq).1, h⟩)
theorem len_bound (N : News h₀ L s.heap news) (hq : (q, boundB "method-wrapper" "list.__len__" x) ∈ news) (h1 : (x, accObj dx items ep) ∈ news) (h : Q (.int items.size s.toks) { s with toks := s.toks + 1 }) : wpAny (model prog w) A (call (.ref q) []) Q E s := by
  refine bound_call (N _ hq).1 (.inl rfl) on_len.plain F.entry_list_len (fun z => wpAny_of_eq (chk_len x) z) ?_
  show wpAny _ _ (do retInt (← seqSize x)) _ _ s
  unfold seqSize
  refine wpAny_bind (wpAny_bind (wpAny_loadPart (N _ h1).1 (wpAny_pure ?_)))
  exact wpAny_bind (wpAny_mkInt (wpAny_pure ⟨_, rfl, h⟩))
end
theorem args_pop (x : Addr) : (match Manifest.signature? "list.pop" with | some sig => Bind.checkArgs "list.pop" { sig with full := s!"{(Str.ofString "_Accumulator").toString}.{Bind.lastOf "list.pop"}" } ⟨[.ref x], []⟩ | none => pure ()) = pure () := by kernel_rfl
theorem kind_pop : builtinKind "list.pop" = some .method := by decide +kernel
section
variable {prog : Program} {w : World} {A : Around} {E : Value → Shared → Prop} {s : Shared} {K : Frag} {h₀ : Heap} {L x dx q C : Addr} {m mg mb : Str → Option Value} {news news' : List (Addr × Obj)} {items : Array Value} {ep : Nat} {od : Obj} {ox : Obj} {odx : Option Obj} {pos : Pos} {env : Env}
theorem chk_pop {cd : ClassData} {Q : Unit → Shared → Prop} (X : K.In s.heap) (I : InstAt s.heap x ox C odx) (hc : clsIn K C = some cd) (hqn : cd.qualname = Str.ofString "_Accumulator") (hm : mroIn K C (.type "module") = some false) (ht : typeIn K (.ref C) = some (.type "type")) (h : Q () s) : wpAny (model prog w) A (checkBoundCall "list.pop" ⟨[.ref x], []⟩) Q E s := by
  have hnc : ∀ c, ox.data ≠ .cls c := fun c e => by
    have := I.no
    unfold notCls at this
    rw [e] at this
    exact Bool.noConfusion this
  have L := I.type (M := model prog w)
  have L2 := looks_mroIn (M := model prog w) X hm
  have L3 := looks_clsIn (M := model prog w) X hc
  have L4 := looks_typeIn (M := model prog w) X ht
  have hk := kind_pop
  have ha := args_pop x
  rw [← hqn] at ha
  obtain ⟨hp, g, d, t, os⟩ := s
  unfold checkBoundCall
  cases hsig : Manifest.signature? "list.pop" with
  | none => exact wpAny_pure h
  | some sig =>
    simp only [hsig] at ha
    simp only [hk]
    repeat (first | (with_reducible refine Looks.at L ?_) | (with_reducible refine Looks.at L2 ?_) | (with_reducible refine Looks.at L3 ?_) | (with_reducible refine Looks.at L4 ?_) | (with_reducible refine ks_wpAny_isType_inst I.at_ hnc ?_) | (with_reducible refine wpAny_of_eq ha ?_) | wp_step)
    exact h
end

section
variable {prog : Program} {w : World} {A : Around} {E : Value → Shared → Prop} {s : Shared} {h₀ : Heap} {L x dx q : Addr} {m mg mb : Str → Option Value} {news news' : List (Addr × Obj)} {items : Array Value} {ep : Nat} {od : Obj} {Q : Value → Shared → Prop}
theorem cls_acc (P : Params) : ∃ cd, clsIn (hd.heap_1 P) 193 = some cd ∧ cd.qualname = Str.ofString "_Accumulator" := ⟨_, by k_is, rfl⟩
theorem mod_acc (P : Params) : mroIn (hd.heap_1 P) 193 (.type "module") = some false := by k_is
theorem type_acc (P : Params) : typeIn (hd.heap_1 P) (.ref 193) = some (.type "type") := by k_is
theorem pop_bound {v : Value} (F : Fr h₀ L s.heap m) (X : (hd.heap_1 w.params).In h₀) (N : News h₀ L s.heap news) (hq : (q, boundB "builtin_function_or_method" "list.pop" x) ∈ news) (h1 : (x, accObj dx (items.push v) ep) ∈ news) (h2 : (dx, od) ∈ news)
    (U : Upd x (accObj dx (items.push v) ep) (accObj dx items (ep + 1)) news news') (hz : items.size < sizeLine) (h : ∀ h', Fr h₀ L h' m → News h₀ L h' news' → Q v { s with heap := h' }) : wpAny (model prog w) A (call (.ref q) []) Q E s := by
  obtain ⟨cd, hcd, hqn⟩ := cls_acc w.params
  refine bound_call (N _ hq).1 (.inr rfl) on_pop.plain PySem.F.entry_list_pop (fun z => chk_pop (X.keeps F.keep) (accInst N h1 h2) hcd hqn (mod_acc _) (type_acc _) z) ?_
  have e : (items.push v).eraseIdxIfInBounds items.size = items := by
    apply Array.ext'
    simp [Array.eraseIdxIfInBounds, List.eraseIdx_append_of_length_le]
  have hsz : (items.push v).size = items.size + 1 := by simp
  unfold Builtin.«list.pop»
  refine wpAny_bind (wpAny_pure (wpAny_bind (wpAny_pure ?_)))
  dsimp only
  rw [if_neg (by decide)]
  refine wpAny_bind (wpAny_bind (wpAny_seqItems (N _ h1).1 rfl (wpAny_pure ?_)))
  rw [if_neg (by simp)]
  have hi : seqIndex? (-1) (items.push v).size = some items.size := by
    unfold seqIndex?
    rw [hsz]
    simp only [show (-1 : Int) < 0 by decide, if_true]
    rw [if_pos (by simp; omega)]
    congr 1
    omega
  have hx : (items.push v)[items.size]? = some v := by simp
  rw [hi]
  show wpAny _ _ (match (items.push v)[items.size]?.map (items.size, ·) with | some (k, x') => _ | none => _) _ _ _
  rw [hx]
  show wpAny _ _ (updateSeq x (·.eraseIdxIfInBounds items.size) >>= fun _ => ret v) _ _ _
  refine wpAny_bind (acc_update (f := (·.eraseIdxIfInBounds items.size)) F N (by rw [e]; simpa [epOf] using U) (by rw [hsz]; omega) (by rw [e]; omega) fun h' F' N' => wpAny_pure ⟨_, rfl, h h' F' N'⟩)
theorem init_bound (F : Fr h₀ L s.heap m) (N : News h₀ L s.heap news) (hq : (q, boundB "method-wrapper" "list.__init__" x) ∈ news) (h1 : (x, accObj dx #[] ep) ∈ news)
    (U : Upd x (accObj dx #[] ep) (accObj dx #[] ep) news news') (h : ∀ h', Fr h₀ L h' m → News h₀ L h' news' → Q .none { s with heap := h' }) : wpAny (model prog w) A (call (.ref q) []) Q E s := by
  refine bound_call (N _ hq).1 (.inl rfl) on_init.plain PySem.F.entry_list_init (fun z => wpAny_of_eq (chk_init x) z) ?_
  unfold Builtin.«list.__init__»
  refine wpAny_bind (wpAny_bind (wpAny_seqItems (N _ h1).1 rfl (wpAny_pure ?_)))
  show wpAny _ _ (updateSeq x (fun _ => #[]) >>= fun _ => _) _ _ _
  refine wpAny_bind (acc_update (f := fun _ => #[]) F N U (by decide) (by decide) fun h' F' N' => ?_)
  exact wpAny_bind (wpAny_letGo (wpAny_pure ⟨_, rfl, h h' F' N'⟩))
end

set_option maxHeartbeats 4000000
section
variable {w : World} {A : Around} {E : Value → Shared → Prop} {s : Shared} {L ac acd : Addr} {h₀ : Heap} {m mg mb : Str → Option Value} {loose : List Str} {news r1 rest : List (Addr × Obj)} {Q : Value → Shared → Prop} {items : Array Value} {ep : Nat} {dk it : Tok} {ini : Int}

theorem push_call {a b : Value} (F : Fr h₀ L s.heap m) (X : (hd.heap_1 w.params).In h₀) (N₀ : News h₀ L s.heap news) (T : TopRead hd.view_1 loose mg mb h₀)
    (P1 : Pull (ac, accObj acd items ep) news r1) (P2 : Pull (acd, accD w.params dk (.int ini it)) r1 rest)
    (hne : @Ne Nat ac acd) (hoff : Off [ac, acd] rest) (hz : items.size ≤ sizeLine) (hroom : A.depth < 990)
    (h : ∀ h' tk t, Fr h₀ L h' m → News h₀ L h' ((ac, accObj acd (items.push (.ref t)) (ep + 1)) :: (acd, accD w.params dk (.int ini it)) :: (t, pairObj a b) :: rest) → (∀ p ∈ news, p.1 < t) →
      Q .none { s with heap := h', toks := tk }) :
    wpAny (model PySem.Challenge.rw_ty0040_01.row.prog w) A (call (.ref 137) [.ref ac, a, b] []) Q E s := by
  have N := P1.front2 P2 N₀
  clear N₀
  k_enter
  repeat' (walk_at "go")
  rename (@LT.lt Nat _ ac _) => q1
  rename (@LT.lt Nat _ acd _) => q2
  (first | rename (AllLt _ _) => q3 | have q3 := trivial)
  have hlt := And.intro q1 (And.intro q2 q3)
  rename_i kF kN
  obtain ⟨n1, n2, n3, nr⟩ := news4 kN
  exact h _ _ _ kF (newsMk n2 (newsMk n3 (newsMk n1 nr))) (lt2 P1 P2 hlt.1 hlt.2.1 hlt.2.2)
end

set_option maxHeartbeats 4000000
theorem news5 {h₀ h : Heap} {L : Addr} {p q r t : Addr × Obj} {l : List (Addr × Obj)} (N : News h₀ L h (p :: q :: r :: t :: l)) : NewsAt h₀ L h p ∧ NewsAt h₀ L h q ∧ NewsAt h₀ L h r ∧ NewsAt h₀ L h t ∧ News h₀ L h l := ⟨(news2 N).1, news4 (news2 N).2⟩
section
variable {w : World} {A : Around} {E : Value → Shared → Prop} {s : Shared} {L ac acd : Addr} {h₀ : Heap} {m mg mb : Str → Option Value} {loose : List Str} {news r1 rest : List (Addr × Obj)} {Q : Value → Shared → Prop} {items : Array Value} {ep : Nat} {dk it : Tok} {ini : Int}

theorem part_count_call (F : Fr h₀ L s.heap m) (X : (hd.heap_1 w.params).In h₀) (N₀ : News h₀ L s.heap news) (T : TopRead hd.view_1 loose mg mb h₀)
    (P1 : Pull (ac, accObj acd items ep) news r1) (P2 : Pull (acd, accD w.params dk (.int ini it)) r1 rest) (hroom : A.depth < 990)
    (h : ∀ h' tk it', Fr h₀ L h' m → News h₀ L h' ((ac, accObj acd items ep) :: (acd, accD w.params dk (.int ini it)) :: rest) → Q (.int items.size it') { s with heap := h', toks := tk }) :
    wpAny (model PySem.Challenge.rw_ty0040_01.row.prog w) A (call (.ref 190) [.ref ac] []) Q E s := by
  have N := P1.front2 P2 N₀
  clear N₀
  ks_enter
  repeat' (walk_at "go")
  rename_i kF kN
  obtain ⟨n1, n2, n3, n4, nr⟩ := news5 kN
  exact h _ _ _ kF (newsMk n3 (newsMk n4 nr))
end

set_option maxHeartbeats 4000000
section
variable {w : World} {A : Around} {E : Value → Shared → Prop} {s : Shared} {L ac acd : Addr} {h₀ : Heap} {m mg mb : Str → Option Value} {loose : List Str} {news r1 rest : List (Addr × Obj)} {Q : Value → Shared → Prop} {items : Array Value} {ep : Nat} {dk it : Tok} {ini : Int}
theorem pop_call {v : Value} (F : Fr h₀ L s.heap m) (X : (hd.heap_1 w.params).In h₀) (N₀ : News h₀ L s.heap news) (T : TopRead hd.view_1 loose mg mb h₀)
    (P1 : Pull (ac, accObj acd (items.push v) ep) news r1) (P2 : Pull (acd, accD w.params dk (.int ini it)) r1 rest)
    (hne : @Ne Nat ac acd) (hoff : Off [ac, acd] rest) (hz : items.size < sizeLine) (hroom : A.depth < 980)
    (h : ∀ h' tk, Fr h₀ L h' m → News h₀ L h' ((ac, accObj acd items (ep + 1)) :: (acd, accD w.params dk (.int ini it)) :: rest) → Q v { s with heap := h', toks := tk }) :
    wpAny (model PySem.Challenge.rw_ty0040_01.row.prog w) A (call (.ref 153) [.ref ac] []) Q E s := by
  have N := P1.front2 P2 N₀
  clear N₀
  ks_enter
  iterate 13 (first | (dsimp only; walk1) | walk1 | ((try dsimp only); k_unfold; (try dsimp only)) | fail)
  · exfalso
    rename_i hsz
    simp at hsz
    omega
  repeat' (first | (dsimp only; walk1) | walk1 | ((try dsimp only); k_unfold; (try dsimp only)) | fail)
  rename_i kF kN
  obtain ⟨n1, n2, n3, n4, nr⟩ := news5 kN
  exact h _ _ kF (newsMk n3 (newsMk n4 nr))

theorem pop_empty (F : Fr h₀ L s.heap m) (X : (hd.heap_1 w.params).In h₀) (N₀ : News h₀ L s.heap news) (T : TopRead hd.view_1 loose mg mb h₀)
    (P1 : Pull (ac, accObj acd #[] ep) news r1) (P2 : Pull (acd, accD w.params dk (.int ini it)) r1 rest)
    (hne : @Ne Nat ac acd) (hoff : Off [ac, acd] rest) (hroom : A.depth < 980)
    (h : ∀ h' tk t a b, Fr h₀ L h' m → News h₀ L h' ((ac, accObj acd #[] ep) :: (acd, accD w.params dk (.int ini it)) :: (t, pairObj (.str "" a) (.str "" b)) :: rest) → (∀ p ∈ news, p.1 < t) → Q (.ref t) { s with heap := h', toks := tk }) :
    wpAny (model PySem.Challenge.rw_ty0040_01.row.prog w) A (call (.ref 153) [.ref ac] []) Q E s := by
  have N := P1.front2 P2 N₀
  clear N₀
  ks_enter
  repeat' (first | (dsimp only; walk1) | walk1 | ((try dsimp only); k_unfold; (try dsimp only)) | fail)
  rename (@LT.lt Nat _ ac _) => q1
  rename (@LT.lt Nat _ acd _) => q2
  (first | rename (AllLt _ _) => q3 | have q3 := trivial)
  have hlt := And.intro q1 (And.intro q2 q3)
  rename_i kF kN
  obtain ⟨n1, n2, n3, nr⟩ := news4 kN
  exact h _ _ _ _ _ kF (newsMk n2 (newsMk n3 (newsMk n1 nr))) (lt2 P1 P2 hlt.1 hlt.2.1 hlt.2.2)
end

section
variable {prog : Program} {w : World} {A : Around} {E : Value → Shared → Prop} {s : Shared} {K : Frag} {L x C sl : Addr} {h₀ : Heap} {m : Str → Option Value} {news : List (Addr × Obj)} {ox : Obj} {od : Option Obj} {items : Array Value} {ep : Nat}
theorem sub_special {name : Str} {id : String} {args : List Value} {Q : Option Value → Shared → Prop} (X : K.In s.heap) (I : InstAt s.heap x ox C od) (hs : findIn K (.ref C) name = some (some (.builtin id))) (hb : ∀ self, bindSpecial (.builtin id) self = pure (.builtin id, [self]))
    (h : wpAny (model prog w) A (call (.builtin id) (.ref x :: args)) (fun v => Q (some v)) E s) : wpAny (model prog w) A (callSpecial? (.ref x) name args) Q E s := by
  simp only [callSpecial?, specialOf]
  refine wpAny_bind (wpAny_bind (I.type.here ((looks_findIn X hs).here ?_)))
  simp only [hb]
  refine wpAny_holding (wpAny_bind (wpAny_pure ?_))
  exact wpAny_bind (wpAny_mono h (fun _ _ z => wpAny_pure z) fun _ _ z => z)
theorem sub_seqKey {i : Value} {name : Str} {Q : Value → Shared → Prop} (X : K.In s.heap) (I : InstAt s.heap x ox C od) (hq : noSeq K C = true) (h : Q i s) : wpAny (model prog w) A (sequenceKey (.ref x) i name) Q E s := by
  unfold sequenceKey
  refine wpAny_bind (I.type.here ?_)
  refine wpAny_bind ((anyM_none X hq).here ?_)
  rw [if_pos (show (!false) = true from rfl)]
  exact wpAny_pure h
/-- what the class of an accumulator has under its names -/
structure ListSub (K : Frag) (C : Addr) : Prop where
  noSeq : noSeq K C = true
  mro : mroIn K C (.type "list") = some true
  getitem : findIn K (.ref C) "__getitem__" = some (some (.builtin "list.__getitem__"))
  setitem : findIn K (.ref C) "__setitem__" = some (some (.builtin "list.__setitem__"))
  iter : findIn K (.ref C) "__iter__" = some (some (.builtin "list.__iter__"))

theorem sub_getItem_slice {vl vu vs : Value} {lo hi st : Option Int} {Q : Value → Shared → Prop} (X : K.In s.heap) (I : InstAt s.heap x ox C od) (S : ListSub K C) (hd : ox.data = .seq items ep)
    (hs : s.heap.IsSliceOf sl vl vu vs) (pl : IsPart vl lo) (pu : IsPart vu hi) (ps : IsPart vs st) (h0 : st ≠ some 0) (hz : items.size ≤ sizeLine)
    (h : Q (.ref s.heap.objs.size) { s with heap := s.heap.push { cls := .type "list", data := .seq (slicePick items lo hi st) } }) : wpAny (model prog w) A (getItem (.ref x) (.ref sl)) Q E s := by
  obtain ⟨os, hos, hcs, hds⟩ := id hs
  have hTs : s.TypeIs (.ref sl) "slice" := ⟨os, hos, hcs⟩
  unfold getItem
  refine wpAny_holding (wpAny_bind (sub_seqKey X I S.noSeq (wpAny_bind (sub_special X I S.getitem slot_list_getitem.bind (on_getitem.call entry_list_getitem X I S.mro (args_list_getitem _ _) ?_)))))
  show wpAny _ _ (Builtin.List.listSubscript? (.ref sl) >>= _) _ _ s
  unfold Builtin.List.listSubscript?
  refine wpAny_bind (wpAny_bind (wpAny_specialOf hTs slice_no_index ?_))
  simp only [Option.isNone_none, if_true]
  refine wpAny_pure ?_
  show wpAny _ _ (typeOf (.ref sl) >>= _) _ _ s
  refine wpAny_bind (wpAny_typeOf hTs ?_)
  rw [if_neg (by decide), listSliceParts_eq]
  have hstep : ¬ ((rawPart st == rawInt 0) = true) := by
    cases st with
    | none => exact Bool.false_ne_true
    | some c => intro hh; exact h0 (by have : c = 0 := by simpa [rawPart, rawInt] using hh
                                       rw [this])
  refine wpAny_bind (wpAny_bind (wpAny_field hos hds (x := vs) rfl (wpAny_bind (wpAny_listPart ps ?_))))
  rw [if_neg hstep]
  refine wpAny_bind (wpAny_field hos hds (x := vl) rfl (wpAny_bind (wpAny_listPart pl ?_)))
  refine wpAny_bind (wpAny_field hos hds (x := vu) rfl (wpAny_bind (wpAny_listPart pu (wpAny_pure ?_))))
  refine wpAny_bind (m := Builtin.List.listItems (.ref x)) (wpAny_bind (wpAny_seqItems I.at_ hd (wpAny_pure ?_)))
  refine wpAny_bind (wpAny_of_eq (sliceIndices_raw lo hi st items.size h0) ?_)
  exact wpAny_bind (wpAny_newObj_type (wpAny_pure ⟨_, rfl, wpAny_pure h⟩) (Nat.le_trans (slicePick_size_le items lo hi st) hz))

theorem sub_getItem_int {k : Int} {t : Tok} {v : Value} {Q : Value → Shared → Prop} (X : K.In s.heap) (I : InstAt s.heap x ox C od) (S : ListSub K C) (hd : ox.data = .seq items ep) (h0 : 0 ≤ k) (hk : Builtin.List.listFitsIndex k = true) (hx : items[k.toNat]? = some v)
    (h : Q v s) : wpAny (model prog w) A (getItem (.ref x) (.int k t)) Q E s := by
  unfold getItem
  refine wpAny_holding (wpAny_bind (sub_seqKey X I S.noSeq (wpAny_bind (sub_special X I S.getitem slot_list_getitem.bind (on_getitem.call entry_list_getitem X I S.mro (args_list_getitem _ _) ?_)))))
  show wpAny _ _ (Builtin.List.listSubscript? (.int k t) >>= _) _ _ s
  refine wpAny_bind (wpAny_listSubscript_int hk ?_)
  clear hk
  obtain ⟨j, rfl⟩ := Int.eq_ofNat_of_zero_le h0
  have hx' : items[j]? = some v := hx
  show wpAny _ _ ((seqItemAt x j >>= fun r => pure (r.map (j, ·))) >>= _) _ _ s
  refine wpAny_bind (wpAny_bind (wpAny_seqItemAt I.at_ hd (wpAny_pure ?_)))
  rw [hx']
  exact wpAny_pure ⟨v, rfl, wpAny_pure h⟩

/-- a slice of step one is stored -/
theorem sub_setItem_slice {vl vu : Value} {lo hi : Option Int} {v : Addr} {new : Array Value} {Q : Unit → Shared → Prop} (X : K.In s.heap) (I : InstAt s.heap x ox C od) (S : ListSub K C) (hd : ox.data = .seq items ep)
    (hs : s.heap.IsSliceOf sl vl vu .none) (pl : IsPart vl lo) (pu : IsPart vu hi) (hv : s.heap.IsList v new) (hvx : v ≠ x) {a b : Nat} (hb : sliceBounds lo hi none items.size = ((a : Int), (b : Int), (1 : Int))) (hz : items.size + new.size ≤ sizeLine)
    (h : wpAny (model prog w) A.in1 (updateSeq x fun xs => xs.extract 0 a ++ new ++ xs.extract (max a b) xs.size) Q E s) :
    wpAny (model prog w) A (setItem (.ref x) (.ref sl) (.ref v)) Q E s := by
  obtain ⟨os, hos, hcs, hds⟩ := id hs
  have hTs : s.TypeIs (.ref sl) "slice" := ⟨os, hos, hcs⟩
  unfold setItem
  refine wpAny_holding (wpAny_bind (sub_seqKey X I S.noSeq (wpAny_bind (sub_special X I S.setitem slot_list_setitem.bind (on_setitem.call entry_list_setitem X I S.mro (args_list_setitem _ _ _) ?_)))))
  unfold Builtin.«list.__setitem__»
  refine wpAny_bind (wpAny_pure ?_)
  show wpAny _ _ (Builtin.List.listSubscript? (.ref sl) >>= _) _ _ s
  unfold Builtin.List.listSubscript?
  refine wpAny_bind (wpAny_bind (wpAny_specialOf hTs slice_no_index ?_))
  simp only [Option.isNone_none, if_true]
  refine wpAny_pure ?_
  show wpAny _ _ (typeOf (.ref sl) >>= _) _ _ s
  refine wpAny_bind (wpAny_typeOf hTs ?_)
  rw [if_neg (by decide), listSliceParts_eq]
  refine wpAny_bind (wpAny_bind (wpAny_field hos hds (x := .none) rfl (wpAny_bind (wpAny_listPart .none ?_))))
  rw [if_neg (by decide)]
  refine wpAny_bind (wpAny_field hos hds (x := vl) rfl (wpAny_bind (wpAny_listPart pl ?_)))
  refine wpAny_bind (wpAny_field hos hds (x := vu) rfl (wpAny_bind (wpAny_listPart pu (wpAny_pure ?_))))
  dsimp only
  have hne : Builtin.List.listSameRef (.ref x) (.ref v) = false := by simp [Builtin.List.listSameRef, Ne.symm hvx]
  have hTv : s.TypeIs (.ref v) "list" := hv.typeIs
  obtain ⟨ov, hov, hcv, nv, hdv⟩ := id hv
  rw [hne]
  refine wpAny_bind (m := Builtin.List.listAllItems (.ref v) _) ?_
  unfold Builtin.List.listAllItems
  refine wpAny_bind (wpAny_typeOf hTv ?_)
  rw [if_pos (by decide)]
  refine wpAny_bind (wpAny_seqItems hov hdv (wpAny_pure ?_))
  refine wpAny_bind (m := Builtin.List.listItems (.ref x)) (wpAny_bind (wpAny_seqItems I.at_ hd (wpAny_pure ?_)))
  refine wpAny_bind (wpAny_of_eq (sliceIndices_raw lo hi none items.size (by simp)) ?_)
  rw [hb]
  dsimp only
  rw [if_pos (by decide)]
  refine wpAny_bind (wpAny_rule ?_)
  rw [if_neg (by unfold Builtin.List.listTooLong; simpa using hz)]
  refine wpAny_bind (m := Builtin.List.listUpdate (.ref x) _) ?_
  show wpAny _ _ (updateSeq x _) _ _ _
  have e1 : (max (a : Int) (b : Int)).toNat = max a b := by omega
  simp only [Int.toNat_natCast, e1]
  exact wpAny_mono h (fun _ s' hq => wpAny_bind (wpAny_letGo (wpAny_pure ⟨_, rfl, wpAny_pure hq⟩))) fun _ _ z => z
end
theorem acc_listSub (P : Params) : ListSub (hd.heap_1 P) 193 := ⟨by k_is, mro_acc P, by k_is, by k_is, by k_is⟩
noncomputable abbrev sliceObj (a b c : Value) : Obj := { cls := .type "slice", data := .fields #[a, b, c] }
theorem bounds_last (n : Nat) : sliceBounds (some (n : Int)) none none (n + 1) = ((n : Int), ((n + 1 : Nat) : Int), (1 : Int)) := by
  simp only [sliceBounds]
  refine Prod.ext ?_ (Prod.ext rfl rfl)
  simp
  omega
theorem bounds_all (n : Nat) : sliceBounds none none none n = (((0 : Nat) : Int), ((n : Nat) : Int), (1 : Int)) := rfl
theorem pick_last (ys : Array Value) (v : Value) : slicePick (ys.push v) (some (ys.size : Int)) none none = #[v] := by
  rw [slicePick_from']
  simp
theorem drop_last (ys : Array Value) (v : Value) : (ys.push v).extract 0 ys.size ++ #[] ++ (ys.push v).extract (max ys.size (ys.size + 1)) (ys.push v).size = ys := by
  apply Array.ext'
  simp
theorem set_all (xs new : Array Value) : xs.extract 0 0 ++ new ++ xs.extract (max 0 xs.size) xs.size = new := by
  apply Array.ext'
  simp
section
variable {prog : Program} {w : World} {A : Around} {E : Value → Shared → Prop} {s : Shared} {L x dx : Addr} {h₀ : Heap} {m : Str → Option Value} {news news' : List (Addr × Obj)} {ys items new : Array Value} {ep n : Nat} {od : Obj} {value slice : Expr}
theorem slice_facts {a b c : Value} (F : Fr h₀ L s.heap m) (N : News h₀ L s.heap news) : Fr h₀ L (s.heap.push (sliceObj a b c)) m ∧ News h₀ L (s.heap.push (sliceObj a b c)) ((s.heap.objs.size, sliceObj a b c) :: news) := ⟨F.push _, N.push F _⟩

theorem acc_takeLast {i : Int} {t : Tok} {v : Value} {Q : Value → Shared → Prop} (F : Fr h₀ L s.heap m) (X : (hd.heap_1 w.params).In h₀) (N : News h₀ L s.heap news) (h1 : (x, accObj dx (ys.push v) ep) ∈ news) (h2 : (dx, od) ∈ news) (hi : i = ys.size) (hz : ys.size < sizeLine)
    (h : ∀ D h', Fr h₀ L h' m → News h₀ L h' ((D, listOf #[v] 0) :: news) → (∀ p ∈ news, p.1 < D) → Q (.ref D) { s with heap := h' })
    (hs : subscripted slice false (.ref x) (.ref s.heap.objs.size) = operate [.ref s.heap.objs.size, .ref x] (getItem (.ref x) (.ref s.heap.objs.size))) :
    wpAny (model prog w) A (subscriptTail value slice (.ref x) (.ref s.heap.objs.size)) Q E { s with heap := s.heap.push (sliceObj (.int i t) .none .none) } := by
  subst hi
  obtain ⟨F', N'⟩ := slice_facts (a := .int ys.size t) (b := .none) (c := .none) F N
  have I := accInst N' (.tail _ h1) (.tail _ h2)
  have hsl : (s.heap.push (sliceObj (.int _ t) .none .none)).IsSliceOf s.heap.objs.size (.int _ t) .none .none := ⟨_, (N' _ (.head _)).1, rfl, rfl⟩
  have X' := X.keeps F'.keep
  unfold subscriptTail getitemInPython
  refine wpAny_bind (wpAny_bind (wpAny_bind (I.type.here ((looks_findIn X' (acc_listSub w.params).getitem).here ?_))))
  dsimp only
  refine wpAny_pure ?_
  rw [hs]
  refine wpAny_bind (wpAny_operating ?_)
  refine sub_getItem_slice X' I (acc_listSub _) rfl hsl (.int _ t) .none .none (by decide) (by rw [Array.size_push]; exact hz) ?_
  refine wpAny_bind (wpAny_letTemporaryGo (wpAny_pure ?_))
  rw [pick_last]
  have N'' := N'.push F' (listOf #[v] 0)
  exact h _ _ (F'.push _) (newsMk (news3 N'').1 (news3 N'').2.2) fun p hp => by rw [Heap.size_push]; exact Nat.lt_succ_of_lt (Heap.lt_size (N p hp).1)

theorem acc_dropLast {i : Int} {t : Tok} {v : Value} {l : Addr} {Q : Unit → Shared → Prop} (F : Fr h₀ L s.heap m) (X : (hd.heap_1 w.params).In h₀) (N : News h₀ L s.heap news) (h1 : (x, accObj dx (ys.push v) ep) ∈ news) (h2 : (dx, od) ∈ news) (hl : (l, listOf #[] n) ∈ news) (hlx : l ≠ x) (hi : i = ys.size) (hz : ys.size < sizeLine)
    (U : Upd x (accObj dx (ys.push v) ep) (accObj dx ys (ep + 1)) news news')
    (h : ∀ h', Fr h₀ L h' m → News h₀ L h' news' → Q () { s with heap := h' }) :
    wpAny (model prog w) A (setItem (.ref x) (.ref s.heap.objs.size) (.ref l)) Q E { s with heap := s.heap.push (sliceObj (.int i t) .none .none) } := by
  obtain ⟨F', N'⟩ := slice_facts (a := .int i t) (b := .none) (c := .none) F N
  have I := accInst N' (.tail _ h1) (.tail _ h2)
  have hsl : (s.heap.push (sliceObj (.int i t) .none .none)).IsSliceOf s.heap.objs.size (.int i t) .none .none := ⟨_, (N' _ (.head _)).1, rfl, rfl⟩
  have hne : (x : Nat) ≠ s.heap.objs.size := fun e => absurd (Heap.lt_size (N _ h1).1) (by rw [show x = s.heap.objs.size from e]; exact Nat.lt_irrefl _)
  subst hi
  refine sub_setItem_slice (new := #[]) (X.keeps F'.keep) I (acc_listSub _) rfl hsl (.int _ t) .none ⟨_, (N' _ (.tail _ hl)).1, rfl, n, rfl⟩ hlx (by rw [Array.size_push]; exact bounds_last _) (by simp; omega) ?_
  have e := drop_last ys v
  refine acc_update (dx := dx) (ep := ep) (news' := (s.heap.objs.size, sliceObj (.int ys.size t) .none .none) :: news') (items := ys.push v) (f := fun xs => xs.extract 0 ys.size ++ #[] ++ xs.extract (max ys.size (ys.size + 1)) xs.size) F' N' ?_ (by simp; omega) (by rw [e]; omega) fun h' F'' N'' => h h' F'' (news2 N'').2
  refine .tail (fun q => hne q.symm) ?_
  rw [e]
  simpa [epOf] using U

theorem acc_setAll {l : Addr} {Q : Unit → Shared → Prop} (F : Fr h₀ L s.heap m) (X : (hd.heap_1 w.params).In h₀) (N : News h₀ L s.heap news) (h1 : (x, accObj dx items ep) ∈ news) (h2 : (dx, od) ∈ news) (hl : (l, listOf new n) ∈ news) (hlx : l ≠ x) (hz : items.size + new.size ≤ sizeLine)
    (U : Upd x (accObj dx items ep) (accObj dx new (epOf new items ep)) news news')
    (h : ∀ h', Fr h₀ L h' m → News h₀ L h' news' → Q () { s with heap := h' }) :
    wpAny (model prog w) A (setItem (.ref x) (.ref s.heap.objs.size) (.ref l)) Q E { s with heap := s.heap.push (sliceObj .none .none .none) } := by
  obtain ⟨F', N'⟩ := slice_facts (a := .none) (b := .none) (c := .none) F N
  have I := accInst N' (.tail _ h1) (.tail _ h2)
  have hsl : (s.heap.push (sliceObj .none .none .none)).IsSliceOf s.heap.objs.size .none .none .none := ⟨_, (N' _ (.head _)).1, rfl, rfl⟩
  have hne : (x : Nat) ≠ s.heap.objs.size := fun e => absurd (Heap.lt_size (N _ h1).1) (by rw [show x = s.heap.objs.size from e]; exact Nat.lt_irrefl _)
  refine sub_setItem_slice (new := new) (X.keeps F'.keep) I (acc_listSub _) rfl hsl .none .none ⟨_, (N' _ (.tail _ hl)).1, rfl, n, rfl⟩ hlx (bounds_all _) hz ?_
  have e := set_all items new
  refine acc_update (dx := dx) (ep := ep) (news' := (s.heap.objs.size, sliceObj .none .none .none) :: news') (items := items) (f := fun xs => xs.extract 0 0 ++ new ++ xs.extract (max 0 items.size) xs.size) F' N' ?_ (by omega) (by rw [e]; omega) fun h' F'' N'' => h h' F'' (news2 N'').2
  refine .tail (fun q => hne q.symm) ?_
  rw [e]
  exact U
end

section
variable {prog : Program} {w : World} {A : Around} {E : Value → Shared → Prop} {s : Shared}
theorem next_item {it l : Addr} {i n : Nat} {ol : Obj} {items : Array Value} {x : Value} {Q : Option Value → Shared → Prop} (hit : s.heap.IsListIter it l i)
    (hol : s.heap.get? l = some ol) (hdl : ol.data = .seq items n) (hx : items[i]? = some x)
    (hQ : ∀ h', h'.IsListIter it l (i + 1) → Heap.SameBut it s.heap h' → Q (some x) { s with heap := h' }) :
    wpAny (model prog w) A (pyNext (.ref it)) Q E s := by
  obtain ⟨o, ho, hc, hd⟩ := id hit
  unfold pyNext
  refine wpAny_bind (wpAny_attempt (wpAny_callSpecial?_slot (name := Str.ofString "__next__") hit.typeIs slot_listiter_next (wpAny_call_entry slot_listiter_next hit.typeIs entry_listiter_next ?_ (args_listiter_next _))))
  show wpAny _ _ (field (.ref it) 0 >>= _) _ _ s
  refine wpAny_bind (wpAny_field ho hd (x := .ref l) rfl ?_)
  show wpAny _ _ (if (Value.ref l == Value.none) = true then _ else _) _ _ s
  rw [if_neg (show ¬ ((Value.ref l == Value.none) = true) from Bool.false_ne_true)]
  show wpAny _ _ (field (.ref it) 1 >>= _) _ _ s
  refine wpAny_bind (wpAny_field ho hd (x := .int i 0) rfl ?_)
  show wpAny _ _ (seqItems? (.ref l) >>= _) _ _ s
  refine wpAny_bind (wpAny_seqItems hol hdl ?_)
  simp only [Int.toNat_natCast, hx]
  refine wpAny_bind (wpAny_setField ho hd (by simp) (wpAny_pure ⟨x, rfl, wpAny_pure (hQ _ ?_ (Heap.SameBut.update ..))⟩))
  exact ⟨_, Heap.get?_update_self _ ho (Obj.isFreed_of_fields (Obj.data_mapFields hd _)), (Obj.cls_mapFields ..).trans hc, by rw [Obj.data_mapFields hd]; simp [rawInt]⟩

theorem next_end {it l : Addr} {i n : Nat} {ol : Obj} {items : Array Value} {Q : Option Value → Shared → Prop} (hh : A.handled = none) (hit : s.heap.IsListIter it l i)
    (hol : s.heap.get? l = some ol) (hdl : ol.data = .seq items n) (hx : items[i]? = none)
    (hQ : ∀ h', Heap.ExtBut it s.heap h' → Q none { s with heap := h' }) : wpAny (model prog w) A (pyNext (.ref it)) Q E s := by
  obtain ⟨o, ho, hc, hd⟩ := id hit
  unfold pyNext
  refine wpAny_bind (wpAny_attempt (wpAny_callSpecial?_slot (name := Str.ofString "__next__") hit.typeIs slot_listiter_next (wpAny_call_entry slot_listiter_next hit.typeIs entry_listiter_next ?_ (args_listiter_next _))))
  show wpAny _ _ (field (.ref it) 0 >>= _) _ _ s
  refine wpAny_bind (wpAny_field ho hd (x := .ref l) rfl ?_)
  show wpAny _ _ (if (Value.ref l == Value.none) = true then _ else _) _ _ s
  rw [if_neg (show ¬ ((Value.ref l == Value.none) = true) from Bool.false_ne_true)]
  show wpAny _ _ (field (.ref it) 1 >>= _) _ _ s
  refine wpAny_bind (wpAny_field ho hd (x := .int i 0) rfl ?_)
  show wpAny _ _ (seqItems? (.ref l) >>= _) _ _ s
  refine wpAny_bind (wpAny_seqItems hol hdl ?_)
  simp only [Int.toNat_natCast, hx]
  refine wpAny_bind (wpAny_rule (wpAny_bind (wpAny_setField ho hd (by simp) ?_)))
  show wpAny _ _ (newExc (.type "StopIteration") [] >>= _) _ _ _
  refine wpAny_bind ?_
  simp only [newExc, newTuple]
  refine wpAny_bind (wpAny_newObj_type ?_ (by size_fits))
  refine wpAny_bind (m := firstArgMember _ _) (wpAny_of_eq (a := Value.none) (by first | rfl | (simp only [firstArgMember]; rfl)) ?_)
  refine wpAny_newObj_type ?_ (by size_fits)
  simp only [raiseNew]
  refine wpAny_bind (wpAny_handled ?_)
  rw [show A.in1.handled = none from hh]
  refine wpAny_bind (wpAny_pure (wpAny_throw ?_))
  refine wpAny_bind (wpAny_isInstance (T := "StopIteration") (b := true) ⟨_, Heap.get?_push_size _ rfl, rfl⟩ isSubtype_stop ?_)
  exact wpAny_pure (hQ _ (((Heap.SameBut.update ..).extBut.push _).push _))
end

theorem accWalks {prog : Program} {w : World} {A : Around} (hh : A.handled = none) (I ax : Addr) (ol : Obj) (n : Nat) (hne : ax ≠ I) (items : Array Value) (hdl : ol.data = .seq items n) (Ts : Nat → Addr) (vals : Nat → Array Value)
    (hit : ∀ j, j < items.size → items[j]? = some (.ref (Ts j))) (hTI : ∀ j, j < items.size → Ts j ≠ I) :
    WalksU prog w A I (I :: ax :: (List.range items.size).map Ts) [I] items.size (fun j v => j < items.size ∧ v = vals j)
      (fun j h => h.IsListIter I ax j ∧ h.get? ax = some ol ∧ ∀ k, k < items.size → h.IsTuple (Ts k) (vals k))
      (fun j T h => (j < items.size ∧ T = Ts j) ∧ h.IsListIter I ax (j + 1) ∧ h.get? ax = some ol ∧ ∀ k, k < items.size → h.IsTuple (Ts k) (vals k)) where
  sub := fun b hb => by simp at hb; simp [hb]
  frame := fun _ _ _ st hk => ⟨st.1.at fun o e => hk I (by simp) o e, hk ax (by simp) _ st.2.1,
    fun k hk' => (st.2.2 k hk').at fun o e => hk (Ts k) (List.mem_cons_of_mem _ (List.mem_cons_of_mem _ (List.mem_map.mpr ⟨k, List.mem_range.mpr hk', rfl⟩))) o e⟩
  item := fun i s Q E hi st hQ => by
    refine next_item st.1 st.2.1 hdl (x := .ref (Ts i)) (hit i hi) fun h' hit' hs' => ?_
    have tup : ∀ k, k < items.size → h'.IsTuple (Ts k) (vals k) := fun k hk' => (st.2.2 k hk').extBut hs'.extBut (hTI k hk')
    exact hQ (Ts i) (vals i) h' s.toks ⟨hi, rfl⟩ (tup i hi) ⟨⟨hi, rfl⟩, hit', hs'.extBut _ _ hne st.2.1, tup⟩ fun b o hb e => hs'.extBut b o (fun h => hb (by simp [h])) e
  go := fun _ _ _ _ _ s Q _ hm hQ => wpAny_letOwnedTupleGo_listiter hm.2.1 (hQ s.heap hm.2 fun _ _ _ e => e)
  apart := fun j T _ hm hmem => by
    rcases List.mem_cons.mp hmem with e | e
    · exact hTI j hm.1.1 (hm.1.2 ▸ e)
    · cases e
  done := fun s Q E st hQ => next_end hh st.1 st.2.1 hdl (by simp) fun h' he' => hQ h' s.toks fun b o hb e => he' b o (fun h => hb (by simp [h])) e
  self := fun _ _ _ _ st hQ => wpAny_pyIter_listiter st.1 hQ

section
variable {prog : Program} {w : World} {A : Around} {E : Value → Shared → Prop} {s : Shared} {K : Frag} {x C : Addr} {ox : Obj} {od : Option Obj} {items : Array Value} {ep : Nat}
theorem sub_iter {Q : Value → Shared → Prop} (X : K.In s.heap) (I : InstAt s.heap x ox C od) (S : ListSub K C)
    (h : Q (.ref s.heap.objs.size) { s with heap := s.heap.push { cls := .type "list_iterator", data := .fields #[.ref x, .int 0 0] } }) : wpAny (model prog w) A (pyIter (.ref x)) Q E s := by
  unfold pyIter
  simp only [specialOf]
  refine wpAny_bind (wpAny_bind (I.type.here ((looks_findIn X S.iter).here ?_)))
  show wpAny _ _ (callSpecialIfBoundUnlessNone? (.ref x) "__iter__" _ >>= _) _ _ s
  have body : wpAny (model prog w) A (call (.builtin "list.__iter__") [.ref x]) (fun v s' => v = .ref s.heap.objs.size ∧ s' = { s with heap := s.heap.push { cls := .type "list_iterator", data := .fields #[.ref x, .int 0 0] } }) E s := by
    refine on_iter.call entry_list_iter X I S.mro (args_list_iter _) ?_
    show wpAny _ _ (do ret (← newFields "list_iterator" [.ref x, rawInt 0])) _ _ s
    exact wpAny_bind (wpAny_newObj_type (wpAny_pure ⟨_, rfl, rfl, rfl⟩))
  simp only [callSpecialIfBoundUnlessNone?, bindSpecialIfBound?, specialOf]
  refine wpAny_bind (wpAny_holding (wpAny_bind (wpAny_bind (wpAny_bind (I.type.here ((looks_findIn X S.iter).here ?_))))))
  simp only [slot_list_iter.bind]
  refine wpAny_bind (wpAny_askSetting (wpAny_ite ?_))
  split
  all_goals first | refine wpAny_bind (wpAny_pure (wpAny_pure ?_)) | refine wpAny_tryCatch (wpAny_bind (wpAny_pure (wpAny_pure ?_)))
  all_goals
    simp only [builtin_beq_none, Bool.false_eq_true, if_false]
    refine wpAny_bind (wpAny_mono body (fun v s' hv => ?_) fun _ _ z => z)
    obtain ⟨rfl, rfl⟩ := hv
    refine wpAny_pure ?_
    show wpAny _ _ (specialOf (.ref s.heap.objs.size) "__next__" >>= _) _ _ _
    exact wpAny_bind (wpAny_specialOf ⟨_, Heap.get?_push_size _ rfl, rfl⟩ slot_listiter_next.lookup (wpAny_pure h))
end

/-- a generator that stands, whatever texts are made since -/
noncomputable def GenT (prog : Program) (w : World) (A : Around) (K a : Addr) (n : Nat) (Fv : Nat → Value → Prop) (h : Heap) (gs : Array GenState) (s : Shared) (tk : Tok) : Prop :=
  ∀ tk', tk ≤ tk' → Gen prog w A K a n Fv { s with heap := h, gens := gs, toks := tk' }

/-- the pairs of words that an accumulator's items stand for -/
inductive Tups (news : List (Addr × Obj)) : List Value → List (Str × Str) → Prop
  | nil : Tups news [] []
  | cons {t : Addr} {a b : Str} {ta tb : Tok} {vs : List Value} {ws : List (Str × Str)} : (t, pairObj (.str a ta) (.str b tb)) ∈ news → Tups news vs ws → Tups news (.ref t :: vs) ((a, b) :: ws)
theorem Tups.sub {news news' : List (Addr × Obj)} {vs : List Value} {ws : List (Str × Str)} (h : Tups news vs ws) (k : ∀ p ∈ news, p ∈ news') : Tups news' vs ws := by
  induction h with
  | nil => exact .nil
  | cons hm _ ih => exact .cons (k _ hm) ih
theorem Tups.snoc {news : List (Addr × Obj)} {vs : List Value} {ws : List (Str × Str)} {t : Addr} {a b : Str} {ta tb : Tok} (h : Tups news vs ws) (hm : (t, pairObj (.str a ta) (.str b tb)) ∈ news) : Tups news (vs ++ [.ref t]) (ws ++ [(a, b)]) := by
  induction h with
  | nil => exact .cons hm .nil
  | cons hm' _ ih => exact .cons hm' ih
theorem Tups.length {news : List (Addr × Obj)} {vs : List Value} {ws : List (Str × Str)} (h : Tups news vs ws) : vs.length = ws.length := by
  induction h with
  | nil => rfl
  | cons _ _ ih => simp [ih]
theorem Tups.data {news : List (Addr × Obj)} {vs : List Value} {ws : List (Str × Str)} (h : Tups news vs ws) : ∃ tvs : List (Addr × (Str × Tok) × (Str × Tok)),
    vs = tvs.map (fun q => .ref q.1) ∧ ws = tvs.map (fun q => (q.2.1.1, q.2.2.1)) ∧ ∀ q ∈ tvs, (q.1, pairObj (.str q.2.1.1 q.2.1.2) (.str q.2.2.1 q.2.2.2)) ∈ news := by
  induction h with
  | nil => exact ⟨[], rfl, rfl, fun _ h => nomatch h⟩
  | @cons t a b ta tb vs ws hm _ ih =>
    obtain ⟨tvs, rfl, rfl, k⟩ := ih
    exact ⟨(t, (a, ta), (b, tb)) :: tvs, rfl, rfl, fun q hq => by
      rcases List.mem_cons.mp hq with rfl | hq
      · exact hm
      · exact k q hq⟩
/-- the generator over pairs of words -/
noncomputable def GenW (prog : Program) (w : World) (A : Around) (K a : Addr) (ws : List (Str × Str)) (Fv : Str × Str → Value → Prop) (h : Heap) (gs : Array GenState) (s : Shared) (tk : Tok) : Prop :=
  GenT prog w A K a ws.length (fun j y => ∃ i, (List.range ws.length)[j]? = some i ∧ ∃ p, ws[i]? = some p ∧ Fv p y) h gs s tk
section
variable {prog : Program} {w : World} {A : Around} {E : Value → Shared → Prop} {s : Shared} {L ac acd c P : Addr} {h₀ : Heap} {m mg mb : Str → Option Value} {loose : List Str} {news rest : List (Addr × Obj)} {items : Array Value} {ep : Nat} {od : Obj} {ps : Array Value} {ws : List (Str × Str)}

theorem tab_code {M : Model} {env : Env} {pos : Pos} {qualname : Str} {scope : Scope} {Q : Value → Shared → Prop} (hc : env.code = .ref c) (hok : s.heap.IsCode c P ps) (htab : s.heap.TableAt c P ps)
    (h : ∀ code h' tk ps', Heap.ExtBut P s.heap h' → s.heap.objs.size ≤ h'.objs.size → TriplesOk ps'.toList → h'.get? P = some (tabObj ps') → Q code { s with heap := h', toks := tk }) :
    wpAny M A (genexprCode env pos qualname scope) Q E s := by
  cases hf : codeAmong pos ps.toList with
  | some c' =>
    refine wpAny_genexprCode_hit hc hok hf (h c' s.heap s.toks ps (Heap.ExtBut.refl _ _) (Nat.le_refl _) ?_ htab.2)
    obtain ⟨_, _, _, _, _, _, _, _, _, _, _, _, _, _, _, _, _, _, _, r, _⟩ := hok
    exact r
  | none =>
    refine wpAny_genexprCodeX hc hok htab hf fun c' h' tk hx h1 h2 hok' _ htab' _ => h _ h' tk _ hx (by omega) ?_ htab'.2
    obtain ⟨_, _, _, _, _, _, _, _, _, _, _, _, _, _, _, _, _, _, _, r, _⟩ := hok'
    exact r

theorem gen_acc {Fv : Str × Str → Value → Prop} {env : Env} {elt iter : Expr} {xa xb : Str} {pa pb pt : Pos} {kt : Nat} {scope : Scope} {cl : List (Str × Addr)} {pos : Pos} {Q : Value → Shared → Prop}
    (F : Fr h₀ L s.heap m) (X : (hd.heap_1 w.params).In h₀) (N : News h₀ L s.heap news) (G : AllBare s.gens) (M : Mod mg h₀) (T : TopRead hd.view_1 loose mg mb h₀)
    (h1 : (ac, accObj acd items ep) ∈ news) (h2 : (acd, od) ∈ news) (PT : Pull (P, tabObj ps) news rest) (ht : TriplesOk ps.toList) (C : CodeHd h₀ c P) (hTu : Tups news items.toList ws)
    (hac : (ac : Nat) ≠ P) (hz : ∀ t, Value.ref t ∈ items.toList → (t : Nat) ≠ P) (hoff : Off [P] rest)
    (hcode : env.code = .ref c) (hglob : env.globals = mainGlobals)
    (hh : A.handled = none) (hco : scope.isCoroutine = false) (hclos : closureFor scope env = pure cl) (hcell : ∀ y ∈ scope.names, y.2 ≠ .cell) (h0 : scope.names.lookup (".0" : Str) = some NameKind.local)
    (hxa : scope.names.lookup xa = some .local) (hxb : scope.names.lookup xb = some .local) (hab : xa ≠ xb) (hkind : scope.kind = .function) (hroom : A.depth < recursionLimit)
    (hi : wpAny (model prog w) A (eval iter env) (fun xv s₁ => xv = .ref ac ∧ s₁ = s) E s)
    (he : ∀ (D : Addr) (code : Value) (A' : Around) E' (a b : Str) (ta tb : Tok) (t : Shared) (m₂ : Str → Option Value), A'.handled = none → A'.depth ≤ A.depth + 1 → A'.units ≤ A.units + 8 → (a, b) ∈ ws → Fr h₀ D t.heap m₂ → m₂ xa = some (.str a ta) → m₂ xb = some (.str b tb) →
      wpAny (model prog w) A' (eval elt (genEnv scope cl D code builtinsNs env)) (fun y s₃ => Fv (a, b) y ∧ Keeps t s₃) E' t)
    (hs : ∀ x, genFold iter env x = pure x)
    (hQ : ∀ g h' gs tk ps', Fr h₀ L h' m → News h₀ L h' ((P, tabObj ps') :: rest) → TriplesOk ps'.toList → AllBare gs → GenW prog w A (s.heap.objs.size - 1) g ws Fv h' gs s tk →
      Q (.ref g) { s with heap := h', gens := gs, toks := tk }) :
    wpAny (model prog w) A (eval (.GeneratorExp elt [⟨.Tuple [.Name xa pa, .Name xb pb] kt pt, iter, [], 0⟩] scope pos) env) Q E s := by
  obtain ⟨bm, ob, M⟩ := M
  refine wpAny_GeneratorExp_walksQTD hh hco hclos hcell h0 hxa hxb hab hkind hroom (wpAny_mono hi (fun xv s₁ h₁' => ?_) fun _ _ e => e) hs
  obtain ⟨rfl, rfl⟩ := h₁'
  refine sub_iter (X.keeps F.keep) (accInst N h1 h2) (acc_listSub _) ?_
  have hsz0 : L < s₁.heap.objs.size := F.ns.lt
  have F2 := F.push { cls := .type "list_iterator", data := .fields #[.ref ac, .int 0 0] }
  have N2 := newsSub (N.push F { cls := .type "list_iterator", data := .fields #[.ref ac, .int 0 0] }) fun p hp => List.mem_cons_of_mem _ hp
  have NI := (N.push F { cls := .type "list_iterator", data := .fields #[.ref ac, .int 0 0] }) _ (.head _)
  have hlim : (s₁.heap.push { cls := .type "list_iterator", data := .fields #[.ref ac, .int 0 0] }).NoLimit := T.nolimit.keeps F2.keep
  have hP2 := (PT.at N2).1
  have hcode2 := (C.keeps F2.keep).code hP2.1 ht
  have hPl : P < (s₁.heap.push { cls := .type "list_iterator", data := .fields #[.ref ac, .int 0 0] }).objs.size := Heap.lt_size hP2.1
  refine ⟨hlim, tab_code hcode hcode2 ((C.keeps F2.keep).tab hP2.1) fun code h₃ tk₃ ps' hx₃ hge₃ hcode₃ htab₃ => ?_⟩
  have hIsz : s₁.heap.objs.size < h₃.objs.size := by rw [Heap.size_push] at hge₃; omega
  have hLP : L ≠ P := fun e => hP2.2.1 e.symm
  have nP : ∀ b o, h₀.get? b = some o → b ≠ P := fun b o e q => by rw [q, hP2.2.2] at e; cases e
  have F3 : Fr h₀ L h₃ m := ⟨F2.ns.at fun o e => hx₃ _ o hLP e, fun b o e => hx₃ b o (nP b o e) (F2.keep b o e), F2.above⟩
  have hcP : cStatics ≠ P := fun e => by
    obtain ⟨_, hns, _⟩ := hlim
    obtain ⟨o, es, ep, ho, hd, _⟩ := hns
    rw [e, hP2.1] at ho; cases ho; cases hd
  have hl₃ : h₃.NoLimit := hlim.extBut hx₃ hcP
  have M3 : BMod h₃ env.globals mg bm ob := hglob ▸ M.keeps F3.keep
  refine wpAny_builtinsFor M3.ns M3.name M3.ne M3.obj M3.cls M3.dict M3.data ?_
  obtain ⟨tvs, hv, hw, hm⟩ := hTu.data
  have hsize : items.size = tvs.length := by rw [← Array.length_toList, hv, List.length_map]
  have hwl : ws.length = tvs.length := by rw [hw, List.length_map]
  let Ts : Nat → Addr := fun j => (tvs[j]?.map fun q => q.1).getD 0
  let vals : Nat → Array Value := fun j => (tvs[j]?.map fun q => (#[.str q.2.1.1 q.2.1.2, .str q.2.2.1 q.2.2.2] : Array Value)).getD #[]
  have at_ : ∀ j, j < items.size → ∃ q, tvs[j]? = some q ∧ q ∈ tvs := fun j hj => ⟨tvs[j]'(hsize ▸ hj), List.getElem?_eq_getElem _, List.getElem_mem _⟩
  have hit : ∀ j, j < items.size → items[j]? = some (.ref (Ts j)) := fun j hj => by
    obtain ⟨q, e, _⟩ := at_ j hj
    rw [← Array.getElem?_toList, hv, List.getElem?_map, e]
    simp [Ts, e]
  have memI : ∀ q ∈ tvs, Value.ref q.1 ∈ items.toList := fun q hq => by rw [hv]; exact List.mem_map_of_mem hq
  have hTs : ∀ j, j < items.size → h₃.IsTuple (Ts j) (vals j) ∧ Ts j < s₁.heap.objs.size := fun j hj => by
    obtain ⟨q, e, hq⟩ := at_ j hj
    simp only [Ts, vals, e, Option.map_some, Option.getD_some]
    exact ⟨⟨_, hx₃ _ _ (hz _ (memI q hq)) (N2 _ (hm q hq)).1, rfl, 0, rfl⟩, Heap.lt_size (N _ (hm q hq)).1⟩
  have hacl : ac < s₁.heap.objs.size := Heap.lt_size (N _ h1).1
  have hPl' : P < s₁.heap.objs.size := Heap.lt_size (PT.at N).1.1
  have hIP : (s₁.heap.objs.size : Nat) ≠ P := Nat.ne_of_gt hPl'
  have hL0 : h₀.objs.size ≤ L := F.above
  have hcl : cStatics < s₁.heap.objs.size := by
    obtain ⟨_, hns, _⟩ := T.nolimit
    exact Nat.lt_of_lt_of_le (Nat.lt_of_lt_of_le hns.lt hL0) (Nat.le_of_lt hsz0)
  refine ⟨s₁.heap.objs.size, _, _, _, _, _, _, fun _ => true, fun i y => ∃ p, ws[i]? = some p ∧ Fv p y, rfl,
    fun A' hA => accWalks hA s₁.heap.objs.size ac (accObj acd items ep) ep (Nat.ne_of_lt hacl) items rfl Ts vals hit fun j hj => Nat.ne_of_lt (hTs j hj).2, ?_, ⟨?_, ?_, fun k hk => (hTs k hk).1⟩, ?_, hl₃, ?_, ?_, ?_⟩
  · rintro i v ⟨hi, rfl⟩
    obtain ⟨q, e, _⟩ := at_ i hi
    exact ⟨.str q.2.1.1 q.2.1.2, .str q.2.2.1 q.2.2.2, by simp only [vals, e, Option.map_some, Option.getD_some]⟩
  · exact ⟨_, hx₃ _ _ hIP NI.1, rfl, rfl⟩
  · exact hx₃ _ _ hac (N2 _ h1).1
  · intro b hb
    show b < h₃.objs.size
    rcases List.mem_cons.mp hb with hb | hb
    · rw [hb]; exact hIsz
    rcases List.mem_cons.mp hb with hb | hb
    · rw [hb]; exact Nat.lt_trans hacl hIsz
    obtain ⟨j, hj, rfl⟩ := List.mem_map.mp hb
    exact Nat.lt_trans (hTs j (List.mem_range.mp hj)).2 hIsz
  · exact fun hm => Nat.ne_of_lt hcl (List.mem_singleton.mp hm)
  · intro href hhref
    refine ⟨fun A' E' i va vb t m₂ _ _ _ _ _ _ _ _ => ?_, fun A' E' i va vb t m₂ hA hD hU hP _ hn hma hmb hkp => ?_⟩
    · simp only [List.forIn_nil]
      exact wpAny_pure ⟨rfl, _, _, rfl, fun _ _ e => e⟩
    · obtain ⟨hi, e⟩ := hP
      obtain ⟨q, eq, hq⟩ := at_ i hi
      simp only [vals, eq, Option.map_some, Option.getD_some] at e
      obtain ⟨rfl, rfl⟩ : va = .str q.2.1.1 q.2.1.2 ∧ vb = .str q.2.2.1 q.2.2.2 := by simpa using congrArg Array.toList e
      have hwi : ws[i]? = some (q.2.1.1, q.2.2.1) := by rw [hw, List.getElem?_map, eq]; rfl
      refine wpAny_mono (he _ code A' E' _ _ _ _ t m₂ hA hD hU (List.mem_of_getElem? hwi) ⟨hn, fun b o eb => ?_, ?_⟩ hma hmb) (fun y s₃ hy => ⟨⟨_, hwi, hy.1⟩, hy.2⟩) fun _ _ z => z
      · have hb : b < s₁.heap.objs.size := Nat.lt_of_lt_of_le (Nat.lt_of_lt_of_le (Heap.lt_size eb) hL0) (Nat.le_of_lt hsz0)
        exact hkp b (List.mem_range.mpr (Nat.lt_trans hb hIsz)) (fun hm => Nat.ne_of_lt hb (List.mem_singleton.mp hm)) o (hhref b o (F3.keep b o eb))
      · exact Nat.le_trans hL0 (Nat.le_of_lt (Nat.lt_trans hsz0 hIsz))
  · intro a h₅ tk gs hgb hag hsz₅ hk₅ W hat
    have hpass : passing (fun _ => true) items.size 0 = List.range items.size := by simp [passing]
    rw [hpass, List.length_range, hsize, ← hwl] at W
    rw [hsize, ← hwl] at hat
    refine hQ a h₅ _ tk ps' (F3.keeps hk₅) (newsMk ⟨hk₅ _ _ htab₃, hP2.2.1, hP2.2.2⟩ fun p hp => ?_) hcode₃ (G.push hgb) fun tk' htk => ?_
    · have hn := N2 p (PT.mem p hp)
      exact ⟨hk₅ _ _ (hx₃ _ _ (fun q => hoff p hp (List.mem_singleton.mpr q)) hn.1), hn.2⟩
    · refine ⟨_, _, _, _, W, W.frame 0 _ h₅ tk' hat htk fun _ _ _ e => e, fun i s' st => st.1.typeIs, List.mem_cons_self, ?_, ?_⟩
      · intro b hb
        show b < h₅.objs.size
        rw [hsz₅]
        rcases List.mem_cons.mp hb with rfl | hb
        · exact Nat.lt_succ_self _
        rcases List.mem_cons.mp hb with rfl | hb
        · exact Nat.lt_succ_of_lt hag
        · exact Nat.lt_succ_of_lt (Nat.lt_trans (List.mem_range.mp hb) hag)
      · intro b hb
        have hlt : s₁.heap.objs.size - 1 < s₁.heap.objs.size := Nat.sub_one_lt_of_lt hsz0
        rcases List.mem_cons.mp hb with hb | hb
        · rw [hb]; exact Nat.lt_trans hlt hIsz
        · rw [List.mem_singleton.mp hb]; exact hlt
end

section
variable {prog : Program} {w : World} {A : Around} {E : Value → Shared → Prop} {s : Shared}
/-- a walk that counts from one -/
theorem shiftW {I : Addr} {fp wr : List Addr} {G : Array GenState → Array GenState → Prop} {n : Nat} {P : Nat → Value → Prop} {St : Nat → Shared → Prop} (W : WalksS prog w A I fp wr G n P St) :
    WalksS prog w A I fp wr G (n + 1) (fun i v => match i with | 0 => False | i + 1 => P i v) (fun i s => match i with | 0 => False | i + 1 => St i s) where
  sub := W.sub
  grefl := W.grefl
  gtrans := W.gtrans
  frame := fun i s h' tk st ht hk => by
    cases i with
    | zero => exact st
    | succ i => exact W.frame i s h' tk st ht hk
  item := fun i s Q E hi st hQ => by
    cases i with
    | zero => exact st.elim
    | succ i => exact W.item i s Q E (by omega) st hQ
  done := fun s Q E st hQ => W.done s Q E st hQ
  self := fun i s Q E st hQ => by
    cases i with
    | zero => exact st.elim
    | succ i => exact W.self i s Q E st hQ

theorem preSum_shift (ini : Int) (val : Nat → Int) : ∀ n, preSum (fun i => match i with | 0 => ini | i + 1 => val i) (n + 1) = ini + preSum val n
  | 0 => by simp [preSum]
  | n + 1 => by
    rw [preSum, preSum_shift ini val n]
    simp [preSum, Int.add_assoc]

theorem sum_start {a : Addr} {fp wr : List Addr} {G : Array GenState → Array GenState → Prop} {n : Nat} {P : Nat → Value → Prop} {St : Nat → Shared → Prop} {val : Nat → Int} {ini : Int} {it : Tok} {Q : Value → Shared → Prop}
    (W : WalksS prog w A.in1 a fp wr G n P St) (hst : St 0 s) (hfp : ∀ b ∈ fp, b < s.heap.objs.size) (hval : ∀ i v, P i v → ∃ t, v = .int (val i) t)
    (hQ : ∀ s' t', Moved wr G s s' → Q (.int (ini + preSum val n) t') s') :
    wpAny (model prog w) A (call (.builtin "sum") [.ref a, .int ini it]) Q E s := by
  refine call_function_tree F.kind_sum F.plain_sum F.entry_sum (show argsOk "sum" ⟨[_, _], []⟩ by unfold argsOk; kernel_rfl) ?_
  unfold Builtin.«sum»
  simp only [List.length_cons, List.length_nil]
  rw [if_neg (by decide)]
  refine wpAny_bind (wpAny_of_eq (show Builtin.Builtins.bindParams "sum" ["start"] 0 ⟨[.int ini it], []⟩ = pure [some (.int ini it)] from rfl) ?_)
  refine wpAny_bind (W.self 0 _ _ _ hst ?_)
  have W' := shiftW W
  let val' : Nat → Int := fun i => match i with | 0 => ini | i + 1 => val i
  dsimp only
  split
  · refine wpAny_bind (wpAny_rule (wpAny_bind (wpAny_mkInt (wpAny_bind (wpAny_pure ?_)))))
    simp only [List.forIn_cons, List.forIn_nil]
    refine wpAny_bind (wpAny_bind (wpAny_bind (wpAny_isInstance (T := "int") (b := false) (typeIs_int _ _ _) _root_.PySem.sub_int_str ?_)))
    simp only [Bool.false_eq_true, if_false]
    refine wpAny_pure (wpAny_bind (wpAny_bind (wpAny_isInstance (T := "int") (b := false) (typeIs_int _ _ _) sub_int_bytes ?_)))
    simp only [Bool.false_eq_true, if_false]
    refine wpAny_pure (wpAny_bind (wpAny_bind (wpAny_isInstance (T := "int") (b := false) (typeIs_int _ _ _) sub_int_bytearray ?_)))
    simp only [Bool.false_eq_true, if_false]
    refine wpAny_pure (wpAny_pure ?_)
    refine wpAny_bind (wpAny_newObj_type ?_)
    have hSf : s.heap.objs.size ∉ fp := fun hm => Nat.lt_irrefl _ (hfp _ hm)
    refine wpAny_pure ⟨plainId_quiet F.plain_sum_loop _, codeAny_sum_loopAnyS W' val' (fun i v hP => ?_) s.heap.objs.size hSf n 1 _ s.toks 0 0 (.inl rfl) (by omega) (by omega)
      (W.frame 0 s _ _ hst (Nat.le_succ _) fun b _ o e => Heap.get?_push_of_some _ e) ?_ fun s' t' hm => ?_⟩
    · cases i with
      | zero => exact hP.elim
      | succ i => exact hval i v hP
    · have e1 : preSum val' 1 = ini := by simp [preSum, val']
      rw [e1]
      exact Heap.get?_push_size _ rfl
    · show Q (.int (preSum val' (n + 1)) t') s'
      rw [preSum_shift ini val n]
      exact hQ s' t' (hm.drop_new (Nat.le_succ _))
  · refine wpAny_bind (wpAny_pure ?_)
    simp only [List.forIn_cons, List.forIn_nil]
    refine wpAny_bind (wpAny_bind (wpAny_bind (wpAny_isInstance (T := "int") (b := false) (typeIs_int _ _ _) _root_.PySem.sub_int_str ?_)))
    simp only [Bool.false_eq_true, if_false]
    refine wpAny_pure (wpAny_bind (wpAny_bind (wpAny_isInstance (T := "int") (b := false) (typeIs_int _ _ _) sub_int_bytes ?_)))
    simp only [Bool.false_eq_true, if_false]
    refine wpAny_pure (wpAny_bind (wpAny_bind (wpAny_isInstance (T := "int") (b := false) (typeIs_int _ _ _) sub_int_bytearray ?_)))
    simp only [Bool.false_eq_true, if_false]
    refine wpAny_pure (wpAny_pure ?_)
    refine wpAny_bind (wpAny_newObj_type ?_)
    have hSf : s.heap.objs.size ∉ fp := fun hm => Nat.lt_irrefl _ (hfp _ hm)
    refine wpAny_pure ⟨plainId_quiet F.plain_sum_loop _, codeAny_sum_loopAnyS W' val' (fun i v hP => ?_) s.heap.objs.size hSf n 1 _ it 0 2 (.inr rfl) (by omega) (by omega)
      (W.frame 0 s _ _ hst (Nat.le_refl _) fun b _ o e => Heap.get?_push_of_some _ e) ?_ fun s' t' hm => ?_⟩
    · cases i with
      | zero => exact hP.elim
      | succ i => exact hval i v hP
    · have e1 : preSum val' 1 = ini := by simp [preSum, val']
      rw [e1]
      exact Heap.get?_push_size _ rfl
    · show Q (.int (preSum val' (n + 1)) t') s'
      rw [preSum_shift ini val n]
      exact hQ s' t' (hm.drop_new (Nat.le_refl _))
end
section
variable {prog : Program} {w : World} {A : Around} {E : Value → Shared → Prop} {s : Shared} {h₀ : Heap} {L K g : Addr} {m : Str → Option Value} {news : List (Addr × Obj)} {ws : List (Str × Str)} {h : Heap} {gs : Array GenState} {s₀ : Shared} {tk tk' : Tok}
theorem preSum_take (f : Str × Str → Int) (ws : List (Str × Str)) : ∀ n, n ≤ ws.length → preSum (fun i => f (ws.getD i ("", ""))) n = ((ws.take n).map f).sum
  | 0, _ => by simp [preSum]
  | n + 1, h => by
    have hn : n < ws.length := h
    rw [preSum, preSum_take f ws n (Nat.le_of_lt hn), List.take_succ_eq_append_getElem hn]
    have e : ws.getD n ("", "") = ws[n] := by simp [List.getD_eq_getElem?_getD, hn]
    rw [e, List.map_append, List.sum_append]
    simp
theorem preSum_list (f : Str × Str → Int) (ws : List (Str × Str)) : preSum (fun i => f (ws.getD i ("", ""))) ws.length = (ws.map f).sum := by
  rw [preSum_take f ws _ (Nat.le_refl _), List.take_length]
theorem range_at {n i j : Nat} (h : (List.range n)[i]? = some j) : j = i := by
  obtain ⟨hl, e⟩ := List.getElem?_eq_some_iff.mp h
  simpa using e.symm
/-- sum over the pairs of an accumulator, from a start -/
theorem sum_gen {f : Str × Str → Int} {ini : Int} {it : Tok} {Q : Value → Shared → Prop} (F : Fr h₀ L h m) (N : News h₀ L h news) (G : AllBare gs)
    (X : GenW prog w A K g ws (fun p y => ∃ t, y = .int (f p) t) h gs s₀ tk) (ht : tk ≤ tk') (hLK : L ≤ K) (hnK : ∀ p ∈ news, p.1 ≤ K)
    (hQ : ∀ h' gs' tk' t', Fr h₀ L h' m → News h₀ L h' news → AllBare gs' → Q (.int (ini + (ws.map f).sum) t') { s₀ with heap := h', gens := gs', toks := tk' }) :
    wpAny (model prog w) A (call (.builtin "sum") [.ref g, .int ini it]) Q E { s₀ with heap := h, gens := gs, toks := tk' } := by
  obtain ⟨fp, wr, gi, St, W, hst, _, _, hfp, hwr⟩ := X tk' ht
  refine sum_start (val := fun i => f (ws.getD i ("", ""))) W.in4_1 hst hfp (fun i v hv => ?_) fun s' t' hm => ?_
  · obtain ⟨j, hj, p, hp, t, rfl⟩ := hv
    obtain rfl := range_at hj
    exact ⟨t, by simp [List.getD_eq_getElem?_getD, hp]⟩
  · rw [preSum_list]
    have F' := F.moved hm fun b hb => Nat.lt_of_le_of_lt hLK (hwr b hb)
    have N' : News h₀ L s'.heap news := fun p hp => ⟨hm.heap _ _ (fun hb => Nat.lt_irrefl _ (Nat.lt_of_lt_of_le (hwr _ hb) (hnK p hp))) (N p hp).1, (N p hp).2⟩
    have G' : AllBare s'.gens := G.movedS hm
    have hd := hm.drawn
    have ho := hm.os
    obtain ⟨h', g', d', t', o'⟩ := s'
    cases hd
    cases ho
    exact hQ h' g' t' _ F' N' G'
end
section
variable {prog : Program} {w : World} {A : Around} {E : Value → Shared → Prop} {h₀ : Heap} {L K g : Addr} {m : Str → Option Value} {news : List (Addr × Obj)} {ws : List (Str × Str)} {h : Heap} {gs : Array GenState} {s₀ : Shared} {tk tk' : Tok}
/-- join over the pairs of an accumulator -/
theorem join_genW {f : Str × Str → Str} {sep : Str} {t : Tok} {Q : Value → Shared → Prop} (F : Fr h₀ L h m) (N : News h₀ L h news) (G : AllBare gs)
    (X : GenW prog w A K g ws (fun p y => ∃ t, y = .str (f p) t) h gs s₀ tk) (ht : tk ≤ tk') (hLK : L ≤ K) (hnK : ∀ p ∈ news, p.1 ≤ K) (hok : JoinOk sep (ws.map f) = true) (hz : ws.length ≤ sizeLine)
    (hQ : ∀ h' gs' tk' t', Fr h₀ L h' m → News h₀ L h' news → AllBare gs' → Q (.str (Txt.join sep (ws.map f)) t') { s₀ with heap := h', gens := gs', toks := tk' }) :
    wpAny (model prog w) A (call (.builtin "str.join") [.str sep t, .ref g]) Q E { s₀ with heap := h, gens := gs, toks := tk' } := by
  obtain ⟨fp, wr, gi, St, W, hst, hT, ha, hfp, hwr⟩ := X tk' ht
  have htx : ∀ (j : Nat) (v : Value), (∃ i, (List.range ws.length)[j]? = some i ∧ ∃ p, ws[i]? = some p ∧ ∃ t, v = .str (f p) t) → ∃ u, ∃ p, ws[j]? = some p ∧ v = .str (f p) u := by
    rintro j v ⟨i, hi, p, hp, u, rfl⟩
    obtain rfl := range_at hi
    exact ⟨u, p, hp, rfl⟩
  refine SC.joinGen W.in4_2 hT hst hfp ha (fun j v hv => let ⟨u, p, _, e⟩ := htx j v hv; ⟨_, u, e⟩) (fun s' lt hm hacc => ?_) hz
  have hsz : lt.length = ws.length := by simpa [strValues] using hacc.1
  have hl : lt.map (·.1) = ws.map f := by
    apply List.ext_getElem?
    intro j
    by_cases hj : j < ws.length
    · have hj' : j < lt.length := hsz ▸ hj
      obtain ⟨u, p, hp, hv⟩ := htx j _ (hacc.2 j (.str lt[j].1 lt[j].2) (by simp [strValues, List.getElem?_eq_getElem hj']))
      injection hv with h1 _
      simp [List.getElem?_eq_getElem hj', hp, h1]
    · rw [List.getElem?_eq_none (by simpa [hsz] using Nat.le_of_not_lt hj), List.getElem?_eq_none (by simpa using Nat.le_of_not_lt hj)]
  rw [hl]
  have F' := F.moved hm fun b hb => Nat.lt_of_le_of_lt hLK (hwr b hb)
  have N' : News h₀ L s'.heap news := fun p hp => ⟨hm.heap _ _ (fun hb => Nat.lt_irrefl _ (Nat.lt_of_lt_of_le (hwr _ hb) (hnK p hp))) (N p hp).1, (N p hp).2⟩
  have G' : AllBare s'.gens := G.movedS hm
  have hd := hm.drawn
  have ho := hm.os
  obtain ⟨h', g', d', t', o'⟩ := s'
  cases hd
  cases ho
  exact ⟨hok, fun t'' k => hQ h' g' k t'' F' N' G'⟩
end

theorem codeHd_len (P : Params) : codeHdIn (hd.heap_1 P) 159 155 = true := by kernel_rfl
theorem codeHd_str (P : Params) : codeHdIn (hd.heap_1 P) 166 162 = true := by kernel_rfl
noncomputable def lenPair (p : Str × Str) : Int := (p.1.length : Int) + (p.2.length : Int)
noncomputable def catPair (p : Str × Str) : Str := Txt.join "" [p.1, p.2]
section
variable {prog : Program} {w : World} {A : Around} {E : Value → Shared → Prop} {s : Shared} {L ac acd c P : Addr} {h₀ : Heap} {m mg mb : Str → Option Value} {loose : List Str} {news rest : List (Addr × Obj)} {items : Array Value} {ep : Nat} {od : Obj} {ps : Array Value} {ws : List (Str × Str)}
theorem Tups.ne {as : List Addr} {a : Addr} (h : Tups rest items.toList ws) (ho : Off as rest) (ha : a ∈ as) : ∀ t, Value.ref t ∈ items.toList → (t : Nat) ≠ a := by
  intro t ht e
  obtain ⟨tvs, hv, _, hm⟩ := h.data
  rw [hv] at ht
  obtain ⟨q, hq, e2⟩ := List.mem_map.mp ht
  cases e2
  exact ho _ (hm q hq) (by rw [show q.1 = a from e]; exact ha)
theorem gen_at {Fv : Str × Str → Value → Prop} {env : Env} {elt iter : Expr} {xa xb : Str} {pa pb pt : Pos} {kt : Nat} {scope : Scope} {cl : List (Str × Addr)} {pos : Pos} {Q : Value → Shared → Prop}
    (F : Fr h₀ L s.heap m) (X : (hd.heap_1 w.params).In h₀) (N : News h₀ L s.heap news) (G : AllBare s.gens) (M : Mod mg h₀) (T : TopRead hd.view_1 loose mg mb h₀)
    (PT : Pull (P, tabObj ps) news rest) (h1 : (ac, accObj acd items ep) ∈ rest) (h2 : (acd, od) ∈ rest) (ht : TriplesOk ps.toList) (hC : codeHdIn (hd.heap_1 w.params) c P = true) (hTu : Tups rest items.toList ws) (hoff : Off [P] rest)
    (hcode : env.code = .ref c) (hglob : env.globals = mainGlobals)
    (hh : A.handled = none) (hco : scope.isCoroutine = false) (hclos : closureFor scope env = pure cl) (hcell : ∀ y ∈ scope.names, y.2 ≠ .cell) (h0 : scope.names.lookup (".0" : Str) = some NameKind.local)
    (hxa : scope.names.lookup xa = some .local) (hxb : scope.names.lookup xb = some .local) (hab : xa ≠ xb) (hkind : scope.kind = .function) (hroom : A.depth < recursionLimit)
    (hs : ∀ x, genFold iter env x = pure x)
    (hi : wpAny (model prog w) A (eval iter env) (fun xv s₁ => xv = .ref ac ∧ s₁ = s) E s)
    (he : ∀ (D : Addr) (code : Value) (A' : Around) E' (a b : Str) (ta tb : Tok) (t : Shared) (m₂ : Str → Option Value), A'.handled = none → A'.depth ≤ A.depth + 1 → A'.units ≤ A.units + 8 → (a, b) ∈ ws → Fr h₀ D t.heap m₂ → m₂ xa = some (.str a ta) → m₂ xb = some (.str b tb) →
      wpAny (model prog w) A' (eval elt (genEnv scope cl D code builtinsNs env)) (fun y s₃ => Fv (a, b) y ∧ Keeps t s₃) E' t)
    (hQ : ∀ g h' gs tk ps', Fr h₀ L h' m → News h₀ L h' ((P, tabObj ps') :: rest) → TriplesOk ps'.toList → AllBare gs → GenW prog w A (s.heap.objs.size - 1) g ws Fv h' gs s tk → L ≤ s.heap.objs.size - 1 → (∀ ps', ∀ p ∈ (P, tabObj ps') :: rest, p.1 ≤ s.heap.objs.size - 1) →
      Q (.ref g) { s with heap := h', gens := gs, toks := tk }) :
    wpAny (model prog w) A (eval (.GeneratorExp elt [⟨.Tuple [.Name xa pa, .Name xb pb] kt pt, iter, [], 0⟩] scope pos) env) Q E s := by
  have hac : (ac : Nat) ≠ P := fun e => hoff _ h1 (List.mem_singleton.mpr e)
  refine gen_acc F X N G M T (PT.mem _ h1) (PT.mem _ h2) PT ht (codeHd_of_K (X) hC) (hTu.sub PT.mem) hac (hTu.ne hoff (List.mem_singleton.mpr rfl)) hoff hcode hglob hh hco hclos hcell h0 hxa hxb hab hkind hroom hi he hs
    fun g h' gs tk ps' F' N' ht' G' X' => hQ g h' gs tk ps' F' N' ht' G' X' (Nat.le_sub_one_of_lt F.ns.lt) fun ps'' p hp => ?_
  rcases List.mem_cons.mp hp with rfl | hp
  · exact Nat.le_sub_one_of_lt (Heap.lt_size (PT.at N).1.1)
  · exact Nat.le_sub_one_of_lt (Heap.lt_size (N _ (PT.mem p hp)).1)
end
section
variable {M : Model} {A : Around} {E : Value → Shared → Prop} {s : Shared} {h₀ : Heap} {L : Addr} {m : Str → Option Value} {env : Env}
theorem nameG_B {K : Frag} {mg mb : Str → Option Value} {p : Program} {loose : List Str} {x : Str} {pos : Pos} {v : Value} {Q : Value → Shared → Prop} (F : Fr h₀ L s.heap m) (X : K.In h₀) (T : TopRead p loose mg mb h₀)
    (e : nsIn K mainGlobals x = some none) (hv : bootBuiltins x = some v) (hn : x ≠ "__name__") (h : Q v s) (hg : env.globals = mainGlobals) (hb : env.builtins = builtinsNs) (hk : env.scope.kind = .function) (hx : env.kindOf x = some .globalImplicit) (hd : (x == ("__debug__" : Str)) = false) :
    wpAny M A (eval (.Name x pos) env) Q E s :=
  Name_function_global hk hx (loadGlobal_builtin (env := env) (by rw [hg]; exact T.g.keeps F.keep) (mg_none_of X T.g e) (by rw [hb]; exact T.b.keeps F.keep) ((T.builtins x hn).trans hv) h) hd
end

set_option maxHeartbeats 4000000
section
variable {w : World} {A : Around} {E : Value → Shared → Prop} {s : Shared} {L ac acd : Addr} {h₀ : Heap} {m mg mb : Str → Option Value} {loose : List Str} {news r1 r2 rest : List (Addr × Obj)} {Q : Value → Shared → Prop} {items : Array Value} {ep : Nat} {dk it : Tok} {ini : Int} {ps : Array Value} {ws : List (Str × Str)}
theorem len_call (F : Fr h₀ L s.heap m) (X : (hd.heap_1 w.params).In h₀) (N₀ : News h₀ L s.heap news) (T : TopRead hd.view_1 loose mg mb h₀) (G : AllBare s.gens) (M : Mod mg h₀)
    (P1 : Pull (ac, accObj acd items ep) news r1) (P2 : Pull (acd, accD w.params dk (.int ini it)) r1 r2) (P3 : Pull ((155 : Nat), tabObj ps) r2 rest)
    (ht : TriplesOk ps.toList) (hTu : Tups rest items.toList ws)
    (hne : @Ne Nat ac acd) (hne1 : @Ne Nat ac (155 : Nat)) (hne2 : @Ne Nat acd 155) (hoff : Off [ac, acd, (155 : Nat)] rest) (hb : ∀ p ∈ ws, p.1.length ≤ 1000 ∧ p.2.length ≤ 1000) (hroom : A.depth < 980) (hh : A.handled = none)
    (h : ∀ h' gs tk ps' it', Fr h₀ L h' m → News h₀ L h' ((ac, accObj acd items ep) :: (acd, accD w.params dk (.int ini it)) :: ((155 : Nat), tabObj ps') :: rest) → TriplesOk ps'.toList → AllBare gs →
      Q (.int (ini + (ws.map lenPair).sum) it') { s with heap := h', gens := gs, toks := tk }) :
    wpAny (model PySem.Challenge.rw_ty0040_01.row.prog w) A (call (.ref 160) [.ref ac] []) Q E s := by
  have N := P1.front3 P2 P3 N₀
  clear N₀
  k_enter
  iterate 6 (walk_at "go")
  refine' gen_at (Fv := fun p y => ∃ t, y = Value.int (lenPair p) t) (c := 159) (P := (155 : Nat)) ?g1 ?g2 ?g3 ?g4 ?g5 ?g6 ?g7 ?g8 ?g9 ?g10 (codeHd_len _) ?g11 ?g12 rfl rfl ?g13 rfl rfl ?g14 rfl rfl rfl ?g15 rfl ?g16 ?g17 ?hi ?he ?hQ
  case g1 | g2 | g3 | g4 | g5 | g6 => k_asm
  case g7 | g8 | g9 => k_mem
  case g10 => k_asm
  case g11 => refine Tups.sub (by assumption) ?_; intro p9 h9; (repeat (first | exact h9 | refine .tail _ ?_))
  case g12 => k_mem
  case g13 => with_unfolding_all assumption
  case g14 | g15 => decide
  case g16 => k_room
  case g17 => intro x; rfl
  case hi =>
    repeat' walk1
  case he =>
    intro D code A' E' a b ta tb t m₂ hA hD hU hab F2 hma hmb
    have hfa := (hb _ hab).1
    have hfb := (hb _ hab).2
    dsimp only at hfa hfb
    iterate 16 walk1
    exact ⟨⟨_, rfl⟩, _, _, rfl, fun _ _ e => e⟩
  case hQ =>
    intro g h' gs tk ps' F' N' ht' G' X' hLK hnK
    have hnK' := hnK ps'
    clear hnK
    iterate 7 walk1
    rename_i G9 kF kN
    obtain ⟨n1, n2, n3, nr⟩ := news4 kN
    exact h _ _ _ _ _ kF (newsMk n2 (newsMk n3 (newsMk n1 nr))) ht' G9
end

set_option maxHeartbeats 4000000
section
variable {w : World} {A : Around} {E : Value → Shared → Prop} {s : Shared} {L ac acd : Addr} {h₀ : Heap} {m mg mb : Str → Option Value} {loose : List Str} {news r1 r2 rest : List (Addr × Obj)} {Q : Value → Shared → Prop} {items : Array Value} {ep : Nat} {dk it : Tok} {ini : Int} {ps : Array Value} {ws : List (Str × Str)}
theorem str_call (F : Fr h₀ L s.heap m) (X : (hd.heap_1 w.params).In h₀) (N₀ : News h₀ L s.heap news) (T : TopRead hd.view_1 loose mg mb h₀) (G : AllBare s.gens) (M : Mod mg h₀)
    (P1 : Pull (ac, accObj acd items ep) news r1) (P2 : Pull (acd, accD w.params dk (.int ini it)) r1 r2) (P3 : Pull ((162 : Nat), tabObj ps) r2 rest)
    (ht : TriplesOk ps.toList) (hTu : Tups rest items.toList ws)
    (hne : @Ne Nat ac acd) (hne1 : @Ne Nat ac (162 : Nat)) (hne2 : @Ne Nat acd 162) (hoff : Off [ac, acd, (162 : Nat)] rest) (hok : JoinOk "" (ws.map catPair) = true) (hz : ws.length ≤ sizeLine) (hb : ∀ p ∈ ws, p.1.length ≤ 1000 ∧ p.2.length ≤ 1000) (hroom : A.depth < 980) (hh : A.handled = none)
    (h : ∀ h' gs tk ps' it', Fr h₀ L h' m → News h₀ L h' ((ac, accObj acd items ep) :: (acd, accD w.params dk (.int ini it)) :: ((162 : Nat), tabObj ps') :: rest) → TriplesOk ps'.toList → AllBare gs →
      Q (.str (Txt.join "" (ws.map catPair)) it') { s with heap := h', gens := gs, toks := tk }) :
    wpAny (model PySem.Challenge.rw_ty0040_01.row.prog w) A (call (.ref 167) [.ref ac] []) Q E s := by
  have N := P1.front3 P2 P3 N₀
  clear N₀
  k_enter
  iterate 7 (walk_at "go")
  refine' gen_at (Fv := fun p y => ∃ t, y = Value.str (catPair p) t) (c := 166) (P := (162 : Nat)) ?g1 ?g2 ?g3 ?g4 ?g5 ?g6 ?g7 ?g8 ?g9 ?g10 (codeHd_str _) ?g11 ?g12 rfl rfl ?g13 rfl rfl ?g14 rfl rfl rfl ?g15 rfl ?g16 ?g17 ?hi ?he ?hQ
  case g1 | g2 | g3 | g4 | g5 | g6 => k_asm
  case g7 | g8 | g9 => k_mem
  case g10 => k_asm
  case g11 => refine Tups.sub (by assumption) ?_; intro p9 h9; (repeat (first | exact h9 | refine .tail _ ?_))
  case g12 => k_mem
  case g13 => with_unfolding_all assumption
  case g14 | g15 => decide
  case g16 => k_room
  case g17 => intro x; rfl
  case hi =>
    repeat' walk1
  case he =>
    intro D code A' E' a b ta tb t m₂ hA hD hU hab F2 hma hmb
    have hfa := (hb _ hab).1
    have hfb := (hb _ hab).2
    dsimp only at hfa hfb
    iterate 11 walk1
    refine wpAny_newTuple ?_
    walk1
    refine join_tuple (items := #[.str a ta, .str b tb]) (ys := [a, b]) ⟨_, Heap.get?_push_size _ rfl, rfl, _, rfl⟩ (.cons _ _ (.cons _ _ .nil)) ?_ fun t' k => ⟨⟨t', rfl⟩, _, _, rfl, fun b o e => Heap.get?_push_of_some _ e⟩
    have e0 : (Str.ofString "").length = 0 := rfl
    rw [e0]
    simp only [List.map_cons, List.map_nil, List.sum_cons, List.sum_nil]
    omega
  case hQ =>
    intro g h' gs tk ps' F' N' ht' G' X' hLK hnK
    have hnK' := hnK ps'
    clear hnK
    iterate 3 walk1
    rename_i G9 kF kN
    obtain ⟨n1, n2, n3, nr⟩ := news4 kN
    exact h _ _ _ _ _ kF (newsMk n2 (newsMk n3 (newsMk n1 nr))) ht' G9
end

noncomputable def listObj : List Value → Bool
  | [.ref _, .type a, .type b] => a == "list" && b == "object"
  | _ => false
theorem listObj_of {l : List Value} (h : listObj l = true) : ∃ c, l = [.ref c, .type "list", .type "object"] := by
  unfold listObj at h
  split at h
  · rename_i c a b
    obtain ⟨e1, e2⟩ := Bool.and_eq_true_iff.mp h
    rw [beq_iff_eq] at e1 e2
    exact ⟨c, by rw [e1, e2]⟩
  · cases h
theorem cls_acc_mro (P : Params) : ((clsIn (hd.heap_1 P) 193).any fun cd => listObj cd.mro && cd.hasDict) = true := by kernel_rfl
theorem passes_list (self : Value) : refuseLoop self "__setattr__" [.type "list", .type "object"] = pure () := by kernel_rfl
theorem set_acc_slot (P : Params) : findIn (hd.heap_1 P) (.ref 193) "__setattr__" = some (some (.builtin "object.__setattr__")) := by k_is
section
variable {prog : Program} {w : World} {A : Around} {E : Value → Shared → Prop} {s : Shared} {L x dx : Addr} {h₀ : Heap} {m : Str → Option Value} {news news' : List (Addr × Obj)} {items : Array Value} {ep n n' : Nat} {es es' : List DictEntry} {name : Str} {v : Value}
theorem acc_setattr {Q : Unit → Shared → Prop} (F : Fr h₀ L s.heap m) (X₀ : (hd.heap_1 w.params).In h₀) (N : News h₀ L s.heap news) (hx : (x, accObj dx items ep) ∈ news) (hdx : (dx, dictOf es n) ∈ news)
    (ht : takerIn (hd.heap_1 w.params) 193 name = some none) (hl : (getL name es).isSome = true)
    (e : (putL name (PyData.keyHash w.params name) (.str name (s.toks + 1)) v es, putN name es n) = (es', n')) (U : Upd dx (dictOf es n) (dictOf es' n') news news') (hz : es'.length ≤ 1000)
    (h : ∀ h', Fr h₀ L h' m → News h₀ L h' news' → Q () { s with heap := h', toks := s.toks + 2 }) :
    wpAny (model prog w) A (setAttr (.ref x) name v) Q E s := by
  obtain ⟨hp, g, d, t, os⟩ := s
  have X := X₀.keeps F.keep
  have I := accInst N hx hdx
  obtain ⟨pre, post, rfl, rfl, a, b⟩ := U.split
  obtain ⟨e1, e2⟩ := Prod.mk.inj e
  have SF := PySem.F.store_object
  obtain ⟨cd, hc, ho⟩ := any_some (cls_acc_mro w.params)
  obtain ⟨ho, hdd⟩ := Bool.and_eq_true_iff.mp ho
  obtain ⟨c, hmro⟩ := listObj_of ho
  refine set_plain X I (set_acc_slot _) ?_
  have sub : Looks (model prog w) hp (isInstance (.ref x) (.type "object")) true := I.type.andThen (looks_mroIn X (by unfold mroIn; rw [hc, Option.bind_some, hmro, if_neg (by simp)]; simp))
  refine codeAny_call_builtin SF.slot.plain SF.entry (@check_slot (model prog w) _ _ _ "object.__setattr__" "object" "__setattr__" (.ref x) [.str name t, v] [] _ SF.kind SF.split sub (SF.args (.ref x) (.str name t) v) ?_)
  obtain ⟨attr, ha, hr⟩ := Option.bind_eq_some_iff.mp ht
  have hm : Looks (model prog w) hp (mroOf (.ref 193)) cd.mro := (looks_clsIn X hc).andThen .now
  have L3 : Looks (model prog w) hp (Builtin.ObjectAttr.storeTaker? attr) none := by
    cases attr with
    | none => exact .now
    | some a =>
      obtain ⟨b, hb, q⟩ := Option.map_eq_some_iff.mp hr
      refine (looks_takesIn X hb).andThen ?_
      cases b
      · exact .now
      · cases q
  have L0 := I.type (M := model prog w)
  have L1 := hm
  have L2 := looks_findIn (M := model prog w) X ha
  have L4 := looks_clsIn (M := model prog w) X hc
  rw [osa_eq, refuse_eq]
  refine wpAny_bind (wpAny_bind (L0.at (wpAny_bind (L1.at ?_))))
  rw [hmro, refuseLoop_ref, passes_list]
  refine wpAny_pure (wpAny_bind (L0.at (wpAny_bind (L2.at (wpAny_bind (L3.at ?_))))))
  obtain ⟨U1, U2⟩ := news_upd (f := Obj.putName name (PyData.keyHash w.params name) (.str name (t + 1)) v) F N a b (by rw [putName_dict, e1, e2]) rfl
  have D := (N (dx, dictOf es n) (by simp)).1
  have D' := (U2 (dx, dictOf es' n') (by simp)).1
  have hxo := I.at_
  refine wpAny_bind (wpAny_pure (wpAny_bind (wpAny_bind (wpAny_loadPart hxo (wpAny_bind (L4.at ?_))))))
  rw [hdd]
  refine wpAny_pure (a := some dx) (wpAny_bind (wpAny_pure (wpAny_bind ?_)))
  unfold nsSet
  refine wpAny_bind (wpAny_bind (wpAny_askSetting (wpAny_pure (wpAny_bind (wpAny_mkText (wpAny_bind (wpAny_loadPart D ?_)))))))
  have c9 : (!es.toArray.any (·.key.isStr name) && es.toArray.any (·.refKey)) = false := by
    have hl' := hl
    unfold getL at hl'
    rw [List.any_toArray, List.any_toArray]
    split at hl'
    · rename_i en he
      rw [List.any_eq_true.mpr ⟨en, List.mem_of_find?_eq_some he, List.find?_some he⟩]; rfl
    · split at hl'
      · cases hl'
      · rename_i z; rw [Bool.not_eq_true] at z; rw [z, Bool.and_false]
  dsimp only
  rw [aRefKeyMayBeTheName_at, c9]
  refine wpAny_updatePart D ?_
  refine wpAny_bind (wpAny_lookBehind D' (pastItsLine_dict (by rw [List.size_toArray, sizeLine_eq]; omega)) ?_)
  exact wpAny_pure (h _ U1 U2)
end

set_option maxHeartbeats 4000000
section
variable {w : World} {A : Around} {E : Value → Shared → Prop} {s : Shared} {L ac acd : Addr} {h₀ : Heap} {m mg mb : Str → Option Value} {loose : List Str} {news r1 r2 rest : List (Addr × Obj)} {Q : Value → Shared → Prop} {items new : Array Value} {ep n : Nat} {dk it : Tok} {ini : Int}
theorem reset_none (F : Fr h₀ L s.heap m) (X : (hd.heap_1 w.params).In h₀) (N₀ : News h₀ L s.heap news) (T : TopRead hd.view_1 loose mg mb h₀)
    (P1 : Pull (ac, accObj acd items ep) news r1) (P2 : Pull (acd, accD w.params dk (.int ini it)) r1 rest)
    (hne : @Ne Nat ac acd) (hoff : Off [ac, acd] rest) (hz : items.size ≤ 1000) (hroom : A.depth < 980)
    (h : ∀ h' tk ep' it', Fr h₀ L h' m → News h₀ L h' ((ac, accObj acd #[] ep') :: (acd, accD w.params dk (.int 0 it')) :: rest) → Q .none { s with heap := h', toks := tk }) :
    wpAny (model PySem.Challenge.rw_ty0040_01.row.prog w) A (call (.ref 175) [.ref ac] []) Q E s := by
  have N := P1.front2 P2 N₀
  clear N₀
  k_enter
  repeat' (walk_at "go")
  refine' acc_setAll (new := #[]) ?Fz ?Xz ?Nz ?h1z ?h2z ?hlz ?hlxz ?hzz ?Uz ?_
  case Fz => k_asm
  case Xz => k_asm
  case Nz => k_asm
  case h1z => k_mem
  case h2z => k_mem
  case hlz => k_mem
  case hlxz => k_ne
  case hzz => (simp [sizeLine]; omega)
  case Uz => k_upd
  intro h' F' N'
  repeat' (walk_at "go")
  rename_i kF kN
  exact h _ _ _ _ kF (by k_mem)
end
section
variable {w : World} {A : Around} {E : Value → Shared → Prop} {s : Shared} {L ac acd l : Addr} {h₀ : Heap} {m mg mb : Str → Option Value} {loose : List Str} {news r1 r2 rest : List (Addr × Obj)} {Q : Value → Shared → Prop} {items new ys : Array Value} {ep n : Nat} {dk it : Tok} {ini : Int}
theorem reset_list (F : Fr h₀ L s.heap m) (X : (hd.heap_1 w.params).In h₀) (N₀ : News h₀ L s.heap news) (T : TopRead hd.view_1 loose mg mb h₀)
    (P1 : Pull (ac, accObj acd items ep) news r1) (P2 : Pull (acd, accD w.params dk (.int ini it)) r1 r2) (P3 : Pull (l, listOf new n) r2 rest)
    (hne : @Ne Nat ac acd) (hne2 : @Ne Nat l ac) (hne3 : @Ne Nat l acd) (hoff : Off [ac, acd, l] rest) (hz : items.size ≤ 1000) (hz2 : new.size ≤ 1000) (hroom : A.depth < 980)
    (h : ∀ h' tk ep' it', Fr h₀ L h' m → News h₀ L h' ((ac, accObj acd new ep') :: (acd, accD w.params dk (.int 0 it')) :: rest) → Q .none { s with heap := h', toks := tk }) :
    wpAny (model PySem.Challenge.rw_ty0040_01.row.prog w) A (call (.ref 175) [.ref ac, .ref l] []) Q E s := by
  have N := P1.front3 P2 P3 N₀
  clear N₀
  k_enter
  repeat' (walk_at "go")
  refine' acc_setAll (new := new) ?Fz ?Xz ?Nz ?h1z ?h2z ?hlz ?hlxz ?hzz ?Uz ?_
  case Fz => k_asm
  case Xz => k_asm
  case Nz => k_asm
  case h1z => k_mem
  case h2z => k_mem
  case hlz => k_mem
  case hlxz => k_ne
  case hzz => (simp [sizeLine]; omega)
  case Uz => k_upd
  intro h' F' N'
  repeat' (walk_at "go")
  rename_i kF kN
  exact h _ _ _ _ kF (by k_mem)
theorem pop_from_call {v : Value} {i : Int} {t : Tok} (F : Fr h₀ L s.heap m) (X : (hd.heap_1 w.params).In h₀) (N₀ : News h₀ L s.heap news) (T : TopRead hd.view_1 loose mg mb h₀)
    (P1 : Pull (ac, accObj acd (ys.push v) ep) news r1) (P2 : Pull (acd, accD w.params dk (.int ini it)) r1 rest)
    (hi : i = ys.size) (hne : @Ne Nat ac acd) (hoff : Off [ac, acd] rest) (hz : ys.size ≤ 1000) (hroom : A.depth < 980)
    (h : ∀ h' tk D, Fr h₀ L h' m → News h₀ L h' ((D, listOf #[v] 0) :: (ac, accObj acd ys (ep + 1)) :: (acd, accD w.params dk (.int ini it)) :: rest) → (∀ p ∈ news, p.1 < D) → Q (.ref D) { s with heap := h', toks := tk }) :
    wpAny (model PySem.Challenge.rw_ty0040_01.row.prog w) A (call (.ref 145) [.ref ac, .int i t] []) Q E s := by
  have N := P1.front2 P2 N₀
  clear N₀
  k_enter
  repeat' (walk_at "go")
  refine' acc_takeLast ?Fz ?Xz ?Nz ?h1z ?h2z ?hiz ?hzz ?_ ?hsz
  case Fz => k_asm
  case Xz => k_asm
  case Nz => k_asm
  case h1z => k_mem
  case h2z => k_mem
  case hiz => exact hi
  case hzz => (simp [sizeLine]; omega)
  case hsz => rfl
  intro D h' F' N' hD
  k_lt hD
  repeat' (walk_at "go")
  refine' acc_dropLast ?Fz ?Xz ?Nz ?h1z ?h2z ?hlz ?hlxz ?hiz ?hzz ?Uz ?_
  case Fz => k_asm
  case Xz => k_asm
  case Nz => k_asm
  case h1z => k_mem
  case h2z => k_mem
  case hlz => k_mem
  case hlxz => k_ne
  case hiz => exact hi
  case hzz => (simp [sizeLine]; omega)
  case Uz => k_upd
  intro h' F' N'
  repeat' (walk_at "go")
  rename_i kF kN
  exact h _ _ _ kF (by k_mem) (lt2 P1 P2 (by assumption) (by assumption) (by assumption))
end

/-- the class of accumulators as a maker of instances -/
noncomputable def makesL (K : Frag) (C : Addr) : Bool := match K.lookup C with
  | some ⟨_, _, .cls cd, sl⟩ => !cd.abstract && !cd.hasDel && (sl.toList[4]?).join == some (.builtin "list.__new__") && listObj cd.mro && cd.mro.contains (.ref C) && cd.hasDict &&
      specialIn K (.ref C) "__call__" == some (some (.builtin "type.__call__")) && instIn K (.ref C) (.type "type") == some true
  | _ => false
structure MakesL (M : Model) (h : Heap) (C : Addr) : Prop where
  obj : ∃ oc od cd sl, h.get? C = some ⟨oc, od, .cls cd, sl⟩ ∧ cd.abstract = false ∧ cd.hasDel = false ∧ cd.mro.isEmpty = false ∧ cd.hasDict = true
  made : Looks M h (Bind.madeBy (.ref C)) (some "list.__new__")
  base : Looks M h (Bind.staticBase (.ref C)) (.ref C)
  self : Looks M h (isSubtype (.ref C) (.ref C)) true
  top : Looks M h (isSubtype (.ref C) (.type "list")) true
  call : Looks M h (specialOf (.ref C) "__call__") (some (.builtin "type.__call__"))
  typ : Looks M h (isInstance (.ref C) (.type "type")) true
theorem makesL_of {K : Frag} {M : Model} {h : Heap} (X : K.In h) {C : Addr} (e : makesL K C = true) : MakesL M h C := by
  unfold makesL at e
  split at e
  · rename_i oc od cd sl ho
    simp only [Bool.and_eq_true, Bool.not_eq_true', beq_iff_eq] at e
    obtain ⟨⟨⟨⟨⟨⟨⟨e1, e2⟩, e3⟩, e4⟩, e5⟩, e6⟩, e7⟩, e8⟩ := e
    have hc : clsIn K C = some cd := by unfold clsIn; rw [ho]
    have hm : Looks M h (mroOf (.ref C)) cd.mro := (looks_clsIn X hc).andThen .now
    obtain ⟨c, hl⟩ := listObj_of e4
    have hne : cd.mro.isEmpty = false := by rw [hl]; rfl
    have made : Looks M h (Bind.madeBy (.ref C)) (some "list.__new__") := by
      intro A Q E s k q
      unfold Bind.madeBy
      refine wpAny_bind (hm A _ E s k ?_)
      rw [hl, List.forIn_cons]
      refine wpAny_bind (wpAny_bind (wpAny_bind (wpAny_bind (wpAny_loadPart (k _ _ (X _ _ ho)) (wpAny_pure ?_)))))
      dsimp only
      rw [← Array.getElem?_toList, e3]
      exact wpAny_pure (wpAny_pure (wpAny_pure q))
    refine ⟨⟨oc, od, cd, sl, X _ _ ho, e1, e2, hne, e6⟩, made, ?_, looks_mroIn X ?_, looks_mroIn X ?_, looks_specialIn X e7, looks_instIn X e8⟩
    · intro A Q E s k q
      unfold Bind.staticBase
      refine wpAny_bind (hm A _ E s k ?_)
      rw [hl, List.forIn_cons]
      exact wpAny_bind (wpAny_bind (wpAny_bind (made A _ E s k (wpAny_pure (wpAny_pure (wpAny_pure q))))))
    · unfold mroIn; rw [hc, Option.bind_some, if_neg (by rw [hne]; decide), e5]
    · unfold mroIn; rw [hc, Option.bind_some, if_neg (by rw [hne]; decide), hl]; simp
  · cases e
theorem makesL_acc (P : Params) : makesL (hd.heap_1 P) 193 = true := by kernel_rfl
section
variable {prog : Program} {w : World} {A : Around} {K : Frag} {C : Addr} {R : Result → Shared → Prop} {h : Heap} {g : Array GenState} {d : Drawn} {t : Nat} {os : OsState}
theorem newL {v : Value} (Y : MakesL (model prog w) h C)
    (hq : R (.ok (.ret (.ref (h.objs.size + 1)))) ⟨(h.push emptyDict).push ⟨.ref C, some h.objs.size, .seq #[] 0, #[]⟩, g, d, t, os⟩) :
    codeAny (model prog w) A (.call (.builtin "list.__new__") ⟨[.ref C, v], []⟩) R ⟨h, g, d, t, os⟩ := by
  obtain ⟨⟨oc, od, cd, sl, hC, e1, e2, e4, e5⟩, made, base, self, top, call, typ⟩ := Y
  refine codeAny_of_tree ?_
  show wpAny _ A.in1 (do checkBuiltinCall "list.__new__" ⟨[.ref C, v], []⟩; again (.builtin "list.__new__" ⟨[.ref C, v], []⟩)) _ _ _
  have k1 : builtinKind "list.__new__" = some .builtinFn := by decide +kernel
  have k2 : splitId "list.__new__" = some ("list", "__new__") := by decide +kernel
  simp only [checkBuiltinCall, k1, k2]
  rw [if_pos (by decide)]
  have hsg : Manifest.signature? "list.__new__" = some ⟨.any, "list", "list", .cls, [⟨"args", .varPos, false⟩, ⟨"kwargs", .varKw, false⟩]⟩ := by kernel_rfl
  have args : Bind.checkArgs "list.__new__" ⟨.any, "list", "list", .cls, [⟨"args", .varPos, false⟩, ⟨"kwargs", .varKw, false⟩]⟩ ⟨[.ref C, v], []⟩ = pure () := by kernel_rfl

  rw [hsg]
  dsimp only
  rw [args]
  repeat (first | simp only [bne_self_eq_false, Bool.not_true, Bool.false_eq_true, if_false] | lk)
  refine ⟨plainId_quiet F.plain_list_new _, codeAny_builtin_stack F.entry_list_new rfl fun p st => ?_⟩
  rw [Around.under_plainId F.plain_list_new _]
  have hown := owner_list_new
  simp only [hown]
  repeat (first | simp only [bne_self_eq_false, Bool.not_true, Bool.false_eq_true, if_false] | lk)
  refine wpAny_load (Heap.get?_push_of_some _ (Heap.get?_push_of_some _ hC)) (wpAny_pure ?_)
  rw [e2]
  refine wpAny_pure (wpAny_pure ?_)
  show R _ _
  rw [Heap.size_push]
  exact hq

theorem makeL {v init : Value} (Y : MakesL (model prog w) h C) (hi : Looks (model prog w) h (typeLookup (.ref C) "__init__") (some init))
    (hb : ∀ self, Looks (model prog w) h (bindSpecial init self) (init, [self]))
    (hq : codeAny (model prog w) (A.under (.builtin "type.__call__" ⟨[.ref C, v], []⟩)) (.call init ⟨[.ref (h.objs.size + 1), v], []⟩) (InitBack (h.objs.size + 1) R) ⟨(h.push emptyDict).push ⟨.ref C, some h.objs.size, .seq #[] 0, #[]⟩, g, d, t, os⟩) :
    codeAny (model prog w) A (.call (.ref C) ⟨[v], []⟩) R ⟨h, g, d, t, os⟩ := by
  have Y' := Y
  obtain ⟨⟨oc, od, cd, sl, hC, e1, e2, e4, e5⟩, made, base, self, top, call, typ⟩ := Y
  refine codeAny_of_tree ?_
  show wpAny _ _ (callAny (.ref C) _) _ _ _
  refine nd_load hC ?_
  show wpAny _ _ (callAny.viaDunder (.ref C) _) _ _ _
  unfold callAny.viaDunder
  refine wpAny_bind (call.at ?_)
  dsimp only
  rw [tc_bind]
  refine wpAny_bind (wpAny_pure (wpAny_bind (wpAny_pure ?_)))
  refine wpAny_pure (a := Fin.again (.call (.builtin "type.__call__") ⟨[.ref C, v], []⟩)) (And.intro rfl ?_)
  refine codeAny_call_builtin_at (Code.quiet_builtin _ (by decide +kernel)) entry_typeCall (check_slot tc_kind tc_split typ (tc_args _ _ _) ?_)
  unfold Builtin.«type.__call__»
  have hm : Looks (model prog w) h (mroOf (.ref C)) cd.mro := ((Looks.ld (part := none) hC).andThen .now).andThen .now
  repeat (first | simp only [e4, Bool.false_eq_true, if_false] | with_reducible refine wpAny_call ?_ | lk)
  refine newL Y' ?_
  have k : ∀ b o, h.get? b = some o → ((h.push emptyDict).push ⟨.ref C, some h.objs.size, .seq #[] 0, #[]⟩).get? b = some o := fun b o e => Heap.get?_push_of_some _ (Heap.get?_push_of_some _ e)
  have hx : ((h.push emptyDict).push ⟨.ref C, some h.objs.size, .seq #[] 0, #[]⟩).get? (h.objs.size + 1) = some ⟨.ref C, some h.objs.size, .seq #[] 0, #[]⟩ := by heap_get
  have t1 : Looks (model prog w) ((h.push emptyDict).push ⟨.ref C, some h.objs.size, .seq #[] 0, #[]⟩) (typeOf (.ref (h.objs.size + 1))) (.ref C) := (Looks.ld hx).andThen .now
  have s1 := self.keeps k
  have i1 := hi.keeps k
  have b1 := (hb (.ref (h.objs.size + 1))).keeps k
  unfold isInstance callSpecial? specialOf
  repeat (first | with_reducible refine wpAny_call ?_ | lk)
  refine codeAny_mono hq fun r s' z => ?_
  rcases r with e | (v | _ | _ | _) <;> first | exact z | exact z.elim | skip
  obtain ⟨rfl, z⟩ := z
  exact wpAny_pure (wpAny_pure z)
end

set_option maxHeartbeats 4000000
section
variable {w : World} {A : Around} {E : Value → Shared → Prop} {s : Shared} {L ac acd : Addr} {h₀ : Heap} {m mg mb : Str → Option Value} {loose : List Str} {news r1 r2 rest : List (Addr × Obj)} {Q : Value → Shared → Prop} {ep n : Nat} {t : Tok} {ini : Int}
theorem init_call (F : Fr h₀ L s.heap m) (X : (hd.heap_1 w.params).In h₀) (N : News h₀ L s.heap ((ac, accObj acd #[] 0) :: (acd, dictOf [] 0) :: rest)) (T : TopRead hd.view_1 loose mg mb h₀)
    (hne : @Ne Nat ac acd) (hoff : Off [ac, acd] rest) (hroom : A.depth < 980)
    (h : ∀ h' tk ep' dk' it', Fr h₀ L h' m → News h₀ L h' ((ac, accObj acd #[] ep') :: (acd, accD w.params dk' (.int ini it')) :: rest) → Q .none { s with heap := h', toks := tk }) :
    codeAny (model PySem.Challenge.rw_ty0040_01.row.prog w) A (.call (.ref 130) ⟨[.ref ac, .int ini t], []⟩) (fun r s' => match r with | .ok (.ret v) => Q v s' | .ok _ => False | .error e => E e s') s := by
  ks_enter
  iterate 7 (first | (dsimp only; walk1) | walk1 | ((try dsimp only); k_unfold; (try dsimp only)) | fail)
  refine ks_wpAt_Expr_any ?_
  repeat' (first | (dsimp only; walk1) | walk1 | ((try dsimp only); k_unfold; (try dsimp only)) | fail)
  rename_i kF kN
  exact h _ _ _ _ _ kF (by k_mem)
theorem init_acc (P : Params) : findIn (hd.heap_1 P) (.ref 193) "__init__" = some (some (.ref 130)) := by k_is
theorem fn_acc (P : Params) : typeIn (hd.heap_1 P) (.ref 130) = some (.type "function") := by k_is
theorem acc_new (F : Fr h₀ L s.heap m) (X : (hd.heap_1 w.params).In h₀) (N : News h₀ L s.heap news) (T : TopRead hd.view_1 loose mg mb h₀) (hroom : A.depth < 970)
    (h : ∀ x dx h' tk ep dk' it', Fr h₀ L h' m → News h₀ L h' ((x, accObj dx #[] ep) :: (dx, accD w.params dk' (.int ini it')) :: news) → (∀ p ∈ news, p.1 < dx) → dx < x → Q (.ref x) { s with heap := h', toks := tk }) :
    wpAny (model PySem.Challenge.rw_ty0040_01.row.prog w) A (call (.ref 193) [.int ini t] []) Q E s := by
  refine wpAny_call ?_
  have Xs := X.keeps F.keep
  have N' := (N.push F emptyDict).push (F.push _) (accObj s.heap.objs.size #[] 0)
  rw [Heap.size_push] at N'
  have F' := (F.push emptyDict).push (accObj s.heap.objs.size #[] 0)
  have lt : ∀ p ∈ news, p.1 < s.heap.objs.size := fun p hp => Heap.lt_size (N p hp).1
  obtain ⟨hh, g, d, t₀, os⟩ := s
  refine makeL (makesL_of Xs (makesL_acc _)) (looks_findIn Xs (init_acc _)) (fun self => bind_fn Xs self (fn_acc _)) ?_
  refine codeAny_mono (init_call (s := ⟨_, g, d, t₀, os⟩) (rest := news) (E := fun _ _ => False)
    (Q := fun v s' => v = .none ∧ Q (.ref (hh.objs.size + 1)) s') F' X N' T (Nat.succ_ne_self _) ?_ ?_ fun h' tk ep' dk' it' F1 N1 => ⟨rfl, h _ _ h' tk ep' dk' it' F1 N1 lt (Nat.lt_succ_self _)⟩) fun r s' z => ?_
  · intro p hp hm
    rcases List.mem_cons.mp hm with e | hm
    · exact absurd (lt p hp) (by rw [e]; exact Nat.not_lt_of_le (Nat.le_succ _))
    · exact absurd (lt p hp) (by rw [List.mem_singleton.mp hm]; exact Nat.lt_irrefl _)
  · k_room
  · rcases r with e | (v | _ | _ | _)
    all_goals first | exact And.intro (And.left z) (And.right z) | exact False.elim z
end

set_option maxHeartbeats 4000000
section
variable {w : World} {A : Around} {E : Value → Shared → Prop} {s : Shared} {L ac acd : Addr} {h₀ : Heap} {m mg mb : Str → Option Value} {loose : List Str} {news r1 r2 r3 rest : List (Addr × Obj)} {Q : Value → Shared → Prop} {items : Array Value} {ep : Nat} {dk it : Tok} {ini : Int} {ps ps2 : Array Value} {ws : List (Str × Str)}
/-- a head is there: not blank alone -/
theorem blank_head (F : Fr h₀ L s.heap m) (X : (hd.heap_1 w.params).In h₀) (N₀ : News h₀ L s.heap news) (T : TopRead hd.view_1 loose mg mb h₀)
    (P1 : Pull (ac, accObj acd items ep) news r1) (P2 : Pull (acd, accD w.params dk (.int ini it)) r1 rest)
    (hi : ini ≠ 0) (hne : @Ne Nat ac acd) (hoff : Off [ac, acd] rest) (hroom : A.depth < 970)
    (h : ∀ h' tk, Fr h₀ L h' m → News h₀ L h' ((ac, accObj acd items ep) :: (acd, accD w.params dk (.int ini it)) :: rest) → Q (.bool false) { s with heap := h', toks := tk }) :
    wpAny (model PySem.Challenge.rw_ty0040_01.row.prog w) A (call (.ref 182) [.ref ac] []) Q E s := by
  have N := P1.front2 P2 N₀
  clear N₀
  k_enter
  repeat' (walk_at "go")
  rename_i kF kN
  have e0 : (ini == 0) = false := by simpa using hi
  dsimp only
  rw [e0]
  exact h _ _ kF (by k_mem)
end

section
variable {prog : Program} {w : World} {A : Around} {E : Value → Shared → Prop} {s : Shared} {K : Frag} {L x C f : Addr} {h₀ : Heap} {m : Str → Option Value} {ox : Obj} {od : Option Obj}
noncomputable def TruthBack (Q : Bool → Shared → Prop) (v : Value) (s' : Shared) : Prop := match v with
  | .int n _ => (0 ≤ n ∧ n < 2 ^ 63) ∧ Q (n != 0) { s' with toks := s'.toks + 1 }
  | _ => False
theorem truthy_L {Q : Bool → Shared → Prop} (F : Fr h₀ L s.heap m) (X₀ : K.In h₀) (I : InstAt s.heap x ox C od) (hb : findIn K (.ref C) "__bool__" = some none) (hl : findIn K (.ref C) "__len__" = some (some (.ref f))) (hf : isFn K (.ref f) = true)
    (h : wpAny (model prog w) A.in1 (call (.ref f) [.ref x]) (TruthBack Q) E s) : wpAny (model prog w) A (truthy (.ref x)) Q E s := by
  have X := X₀.keeps F.keep
  unfold truthy
  refine wpAny_bind (m := callSpecial? (.ref x) (Str.ofString "__bool__")) (wpAny_bind (wpAny_bind (I.type.here ((looks_findIn X hb).here (wpAny_pure ?_)))))
  refine wpAny_bind (wpAny_bind (I.type.here ((looks_findIn X hl).here ?_)))
  show wpAny _ _ (runValue (.builtin "len" ⟨[.ref x], []⟩) >>= _) _ _ _
  refine wpAny_bind (wpAny_runValue (codeAny_builtin entry_len ?_))
  rw [Around.under_plainId plain_len _]
  unfold Builtin.«len»
  refine wpAny_bind (m := oneArg "len" _) (wpAny_pure ?_)
  refine wpAny_bind (m := callSpecial? (.ref x) (Str.ofString "__len__")) (special_fn X I hl (beq_iff_eq.mp hf) (wpAny_mono h (fun r s' hr => ?_) fun _ _ y => y))
  cases r <;> first | exact hr.elim | skip
  rename_i n u
  obtain ⟨⟨h0, h1⟩, hq⟩ := hr
  refine wpAny_bind (wpAny_holding (wpAny_pure ?_))
  refine wpAny_bind (wpAny_letGo ?_)
  show wpAny _ _ (if n < 0 then _ else _) _ _ _
  rw [if_neg (by omega)]
  show wpAny _ _ (if n ≥ 2 ^ 63 then _ else _) _ _ _
  rw [if_neg (by omega)]
  exact wpAny_bind (wpAny_mkInt (wpAny_pure (wpAny_pure hq)))
end

theorem Pull.front4 {h₀ h : Heap} {L : Addr} {x y z u : Addr × Obj} {l r r' r'' q : List (Addr × Obj)} (P : Pull x l r) (P' : Pull y r r') (P'' : Pull z r' r'') (P3 : Pull u r'' q) (N : News h₀ L h l) : News h₀ L h (x :: y :: z :: u :: q) := newsMk (P.at N).1 (P'.front3 P'' P3 (P.at N).2)
set_option maxHeartbeats 4000000
section
variable {w : World} {A : Around} {E : Value → Shared → Prop} {s : Shared} {L ac acd : Addr} {h₀ : Heap} {m mg mb : Str → Option Value} {loose : List Str} {news r1 r2 r3 rest : List (Addr × Obj)} {Q : Value → Shared → Prop} {items : Array Value} {ep : Nat} {dk it : Tok} {ps ps2 : Array Value} {ws : List (Str × Str)}
/-- words are there: not blank alone -/
theorem blank_text (F : Fr h₀ L s.heap m) (X : (hd.heap_1 w.params).In h₀) (N₀ : News h₀ L s.heap news) (T : TopRead hd.view_1 loose mg mb h₀) (G : AllBare s.gens) (M : Mod mg h₀)
    (P1 : Pull (ac, accObj acd items ep) news r1) (P2 : Pull (acd, accD w.params dk (.int 0 it)) r1 r2) (P3 : Pull ((155 : Nat), tabObj ps) r2 r3) (P4 : Pull ((162 : Nat), tabObj ps2) r3 rest)
    (ht : TriplesOk ps.toList) (ht2 : TriplesOk ps2.toList) (hTu : Tups rest items.toList ws)
    (hne : @Ne Nat ac acd) (hne1 : @Ne Nat ac (155 : Nat)) (hne2 : @Ne Nat acd (155 : Nat)) (hne3 : @Ne Nat ac (162 : Nat)) (hne4 : @Ne Nat acd (162 : Nat)) (hoff : Off [ac, acd, (155 : Nat), (162 : Nat)] rest)
    (hb : ∀ p ∈ ws, p.1.length ≤ 1000 ∧ p.2.length ≤ 1000) (hok : JoinOk "" (ws.map catPair) = true) (hz : ws.length ≤ sizeLine)
    (hpos : 0 < (ws.map lenPair).sum) (hbig : (ws.map lenPair).sum < 2 ^ 62) (hsp : Txt.isspace (Txt.join "" (ws.map catPair)) = false) (hroom : A.depth < 970) (hh : A.handled = none) (hu : A.units < 9000)
    (h : ∀ h' gs tk ps' ps2', Fr h₀ L h' m → News h₀ L h' ((ac, accObj acd items ep) :: (acd, accD w.params dk (.int 0 it)) :: ((155 : Nat), tabObj ps') :: ((162 : Nat), tabObj ps2') :: rest) → TriplesOk ps'.toList → TriplesOk ps2'.toList → AllBare gs →
      Q (.bool false) { s with heap := h', gens := gs, toks := tk }) :
    wpAny (model PySem.Challenge.rw_ty0040_01.row.prog w) A (call (.ref 182) [.ref ac] []) Q E s := by
  have N := P1.front4 P2 P3 P4 N₀
  clear N₀
  k_enter
  repeat' (walk_at "go")
  refine ⟨⟨by omega, by omega⟩, ?_⟩
  have e0 : ((0 : Int) + (ws.map lenPair).sum != 0) = true := by simp; omega
  rw [e0]
  dsimp only [Bool.not_true]
  repeat' (walk_at "go")
  rename_i ht5 G5
  dsimp only [StrBack]
  repeat' (walk_at "go")
  rename_i kF kN
  rw [hsp]
  exact h _ _ _ _ _ kF (by k_mem) (by assumption) (by assumption) (by assumption)
end

/-- the dict of a formatter -/
noncomputable abbrev pfD (P : Params) (kt : Nat → Tok) (width : Int) (ln ac : Addr) : Obj := dictOf [⟨PyData.keyHash P "_maxlen", .str "_maxlen" (kt 0), .int width (kt 6)⟩, ⟨PyData.keyHash P "_continuation_ws", .str "_continuation_ws" (kt 1), .str " " (kt 7)⟩,
  ⟨PyData.keyHash P "_continuation_ws_len", .str "_continuation_ws_len" (kt 2), .int 1 (kt 8)⟩, ⟨PyData.keyHash P "_splitchars", .str "_splitchars" (kt 3), .str " " (kt 9)⟩, ⟨PyData.keyHash P "_lines", .str "_lines" (kt 4), .ref ln⟩, ⟨PyData.keyHash P "_current_line", .str "_current_line" (kt 5), .ref ac⟩] 6

/-! starred arguments of a method call -/
section
variable {prog : Program} {w : World} {A : Around} {E : Value → Shared → Prop} {s : Shared} {K : Frag} {L : Addr} {h₀ : Heap} {m mg mb : Str → Option Value} {news : List (Addr × Obj)} {p : Program} {loose : List Str} {Q : Value → Shared → Prop}
theorem enterC {name qual : Str} {params : Arguments} {body : List Stmt} {scope : Scope} {dV kV doc pm cdv ct oc : Value} {an od : Option Addr} {osl : Array (Option Value)} {f : Addr} {pos : List Value} {kw : List (Str × Value)} {binds : List (Str × Value)}
    (F : Fr h₀ L s.heap m) (X : K.In h₀) (N : News h₀ L s.heap news) (T : TopRead p loose mg mb h₀)
    (ho : K.lookup f = some ⟨oc, od, .func (fnOf name qual params body scope dV kV doc pm an cdv ct), osl⟩) (hcd : codeIn K cdv qual = true) (hroom : A.depth < recursionLimit)
    (hbind : BindsTo s (fnOf name qual params body scope dV kV doc pm an cdv ct) ⟨pos, kw⟩ binds) (hloc : ∀ y ∈ binds, scope.names.lookup y.1 = some .local)
    (h : ∀ g L' h₁, Fr g L' h₁ (fun y => binds.reverse.lookup y) → News g L' h₁ news → K.In g → TopRead p loose mg mb g → (∀ p ∈ news, p.1 < L') → (∀ b o, h₀.get? b = some o → g.get? b = some o) →
      wpAny (model prog w) (A.deeper (envOf qual scope L' f cdv)) (execs body (envOf qual scope L' f cdv))
        (fun fl s' => LeaveM h₀ L m g Q (match fl with | .ret v => v | _ => .none) s') (fun _ _ => False)
        { s with heap := h₁, toks := s.toks + binds.length })
    (hco : scope.isCoroutine = false) (hgen : scope.isGenerator = false) (hk : scope.kind = .function)
    (hcell : ∀ x ∈ scope.names, x.2 ≠ .cell) : codeAny (model prog w) A (.call (.ref f) ⟨pos, kw⟩) (fun r s' => match r with | .ok (.ret v) => Q v s' | .ok _ => False | .error e => E e s') s := by
  have nm : ∀ b o, h₀.get? b = some o → b ∉ news.map (·.1) := fun b o e q => by
    obtain ⟨p, hp, rfl⟩ := List.mem_map.mp q
    rw [(N p hp).2.2] at e; cases e
  have st : h₀.StaysIn (hideAll s.heap (news.map (·.1))) := fun b o e => hideAll_get _ (F.keep b o e) (nm b o e)
  obtain ⟨oL, es, ep, hL, hLd, hLk, hLf⟩ := F.ns
  have nL : L ∉ news.map (·.1) := fun q => by
    obtain ⟨p, hp, e⟩ := List.mem_map.mp q
    exact (N p hp).2.1 e
  have hLg := hideAll_get (news.map (·.1)) hL nL
  have XG : K.In (hideAll s.heap (news.map (·.1))) := Frag.In.keeps X st
  have TG : TopRead p loose mg mb (hideAll s.heap (news.map (·.1))) := TopRead.keeps T st
  refine (codeAny_call_def (fd := fnOf name qual params body scope dV kV doc pm an cdv ct) (body := body) (binds := binds) hroom ((X.keeps F.keep) _ _ ho) rfl (T.nolimit.keeps F.keep) (codeRec_of (X.keeps F.keep) hcd) rfl hbind hcell hloc (fun h₁ hns hk₁ => ?_) hco hgen hk)
  refine wpAny_mono (h (hideAll s.heap (news.map (·.1))) s.heap.objs.size h₁ ⟨hns, fun b o e => hk₁ b o (of_hideAll _ e), Nat.le_of_eq (hideAll_size _ _)⟩
    (fun p hp => ⟨hk₁ _ _ (N p hp).1, Nat.ne_of_lt (Heap.lt_size (N p hp).1), hideAll_none _ (List.mem_map_of_mem hp)⟩) XG TG (fun p hp => Heap.lt_size (N p hp).1) (fun b o e => hideAll_get _ (F.keep b o e) (nm b o e))) (fun fl s' hl => ?_) fun _ _ y => y.elim
  obtain ⟨L', m', news', F', N', k⟩ := hl
  refine k ⟨⟨oL, es, ep, F'.keep L oL hLg, hLd, hLk, hLf⟩, fun b o e => F'.keep b o (st b o e), F.above⟩ fun p hp => ⟨(N' p hp).1, fun q => ?_, ?_⟩
  · have := (N' p hp).2.2; rw [q, hLg] at this; cases this
  · cases q : h₀.get? p.1 with
    | none => rfl
    | some o => have := (N' p hp).2.2; rw [st _ _ q] at this; cases this
end

section
variable {M : Model} {A : Around} {E : Value → Shared → Prop} {s : Shared} {env : Env}
theorem at_star {o e : Expr} {name : Str} {apos pos p : Pos} {Q : Value → Shared → Prop} (h : wpAny M A (eval (.Call (.Attribute o name apos) [.Starred e p] [] pos) env) Q E s) : wpAny M A (eval (.Call (.Attribute o name apos) [.Starred e p] [] pos) env) Q E s := h
theorem MethodCallS_ {o e : Expr} {name : Str} {apos pos p : Pos} {Q : Value → Shared → Prop}
    (h : wpAny M A (eval o env) (fun ov s₁ => wpAny M A (getAttr ov name true) (fun f s₂ => wpAny M A (callWith pos f [] (backTo pos (starEach [.Starred e p] env)) []) Q E s₂) E s₁) E s)
    (he : eval (.Call (.Attribute o name apos) [.Starred e p] [] pos) env = (do
      let ov ← eval o env
      standAt apos.atName
      let (f, first) ← holding [ov] (do pure (← getAttr ov name true, []))
      callWith pos f first (backTo pos (starEach [.Starred e p] env)) []) := by rfl) :
    wpAny M A (eval (.Call (.Attribute o name apos) [.Starred e p] [] pos) env) Q E s := by
  rw [he]
  refine wpAny_bind (wpAny_mono h (fun ov s₁ h₁ => wpAny_bind (wpAny_standAt (wpAny_bind (wpAny_holding (wpAny_bind (wpAny_mono h₁ (fun fx s₂ h₂ => wpAny_pure ?_) fun _ _ x => x)))))) fun _ _ x => x)
  exact h₂
theorem callWith_MS {K : Frag} {pos p : Pos} {first : List Value} {e : Expr} {Q : Value → Shared → Prop} {h₀ : Heap} {L : Addr} {news : List (Addr × Obj)} {q g : Addr} {self : Value} (_X : K.In h₀) (_N : News h₀ L s.heap news) (_q : (q, methodObj (.ref g) self) ∈ news) (hf : fnIn K g = true)
    (h : wpAny M A (eval e env) (fun v s₁ => StarOf M A E v (fun vs s₂ => MethP K q g self s₂.heap ∧ wpAny M A (call (.ref q) (first ++ vs)) Q E s₂) s₁) E s)
    (he : starEach [.Starred e p] env = [(true, eval e env)] := by rfl) :
    wpAny M A (callWith pos (.ref q) first (backTo pos (starEach [.Starred e p] env)) []) Q E s := by
  rw [he]
  exact ks_call rfl (keeps_M hf) (ks_lone h)
end

section
variable {prog : Program} {w : World} {A : Around} {E : Value → Shared → Prop} {s : Shared} {K : Frag} {L x C f : Addr} {h₀ : Heap} {m : Str → Option Value} {news : List (Addr × Obj)} {ox : Obj} {name : Str} {es : List DictEntry} {n : Nat} {Q : Value → Shared → Prop}
theorem sub_bound {expr : Bool} (F : Fr h₀ L s.heap m) (X₀ : K.In h₀) (N : News h₀ L s.heap news) (I : InstAt s.heap x ox C (some (dictOf es n))) (hg : listGet K C = true) (hh : hasDictIn K C = true) (ha : findIn K (.ref C) name = some (some (.ref f))) (hf : isFn K (.ref f) = true)
    (hgf : specialIn K (.ref f) "__get__" = some (some (.builtin "function.__get__"))) (ht : takesIn K (.ref f) = some false) (hc : copiedNames.contains name = false) (hl : getL name es = some none)
    (h : ∀ q h', Fr h₀ L h' m → News h₀ L h' ((q, methodObj (.ref f) (.ref x)) :: news) → (∀ p ∈ news, p.1 < q) → Q (.ref q) { s with heap := h', toks := s.toks + 1 }) : wpAny (model prog w) A (getAttr (.ref x) name expr) Q E s := by
  obtain ⟨hga, hk, hm⟩ := listGet_of hg
  have X := X₀.keeps F.keep
  have hfo := findObj_fn (od := dictOf es n) hh ha hgf ht hc (by show lookIn name (dictOf es n) = _; rw [lookIn_dict, hl])
  have FP := F.push (o := methodObj (.ref f) (.ref x))
  have NP := N.push F (methodObj (.ref f) (.ref x))
  have lt : ∀ p ∈ news, p.1 < s.heap.objs.size := fun p hp => Heap.lt_size (N p hp).1
  obtain ⟨hp, g, d, t, os⟩ := s
  have L0 := I.type (M := model prog w)
  have L1 := looks_findIn (M := model prog w) X hga
  have L2 := looks_findIn (M := model prog w) X hk
  have L3 := looks_find (M := model prog w) X I hfo
  unfold getAttr getAttrBy
  refine wpAny_bind (wpAny_mkText (wpAny_holding (wpAny_bind (L0.at (wpAny_bind (L1.at ?_))))))
  show wpAny _ _ (getAttrByItsOwn (.ref x) (.str name t) (.ref C) (.builtin "list.__getattribute__") true expr) _ _ _
  unfold getAttrByItsOwn hookBefore callGetattribute boundAndCalled
  refine wpAny_bind (show wpAny _ _ (typeLookup (.ref C) "__getattr__") _ _ _ from L2.at ?_)
  refine wpAny_bind (wpAny_attempt (wpAny_holding ?_))
  rw [if_neg (by simp [onTheHeap])]
  refine wpAny_bind (wpAny_of_eq (PySem.F.slot_list_getattribute.bind _) ?_)
  refine wpAny_mono (Q := fun v' s' => ∃ q h', v' = .ref q ∧ s' = ⟨h', g, d, t + 1, os⟩ ∧ Fr h₀ L h' m ∧ News h₀ L h' ((q, methodObj (.ref f) (.ref x)) :: news) ∧ (∀ p ∈ news, p.1 < q)) (E := fun _ _ => False) ?_ (fun v' s' hv => ?_) fun _ _ z => z.elim
  · refine on_ga.call (s := ⟨hp, g, d, t + 1, os⟩) am_entry_list_getattribute X I hm (PySem.F.args_list_getattribute_2 _ _) ?_
    unfold Builtin.«object.__getattribute__»
    refine wpAny_bind (wpAny_pure (wpAny_bind (wpAny_pure (wpAny_bind (L0.at (wpAny_bind (L3.at ?_)))))))
    show wpAny _ _ (holding [Value.ref f] (call (.builtin "function.__get__") [.ref f, .ref x, .ref C]) >>= ret) _ _ _
    refine wpAny_bind (wpAny_holding (wpAny_call (fn_get (s := ⟨hp, g, d, t + 1, os⟩) X (beq_iff_eq.mp hf) (wpAny_pure ?_))))
    exact ⟨_, rfl, hp.objs.size, _, rfl, rfl, FP, NP, lt⟩
  · obtain ⟨q, h', rfl, rfl, F', N', l'⟩ := hv
    show wpAny _ _ (handedOut (.ref q)) _ _ _
    exact handed_on rfl (h q h' F' N' l')
end

set_option maxHeartbeats 4000000
section
variable {w : World} {A : Around} {E : Value → Shared → Prop} {s : Shared} {L ac acd : Addr} {h₀ : Heap} {m mg mb : Str → Option Value} {loose : List Str} {news r1 rest : List (Addr × Obj)} {Q : Value → Shared → Prop} {items : Array Value} {ep : Nat} {dk it : Tok} {ini : Int}

/-- push by a bound method -/
theorem push_bound {q : Addr} {a b : Value} (F : Fr h₀ L s.heap m) (X : (hd.heap_1 w.params).In h₀) (N₀ : News h₀ L s.heap news) (T : TopRead hd.view_1 loose mg mb h₀)
    (P1 : Pull (ac, accObj acd items ep) news r1) (P2 : Pull (acd, accD w.params dk (.int ini it)) r1 rest)
    (hq : (q, methodObj (.ref 137) (.ref ac)) ∈ rest) (hne : @Ne Nat ac acd) (hoff : Off [ac, acd] rest) (hz : items.size ≤ sizeLine) (hroom : A.depth < 990)
    (h : ∀ h' tk t, Fr h₀ L h' m → News h₀ L h' ((ac, accObj acd (items.push (.ref t)) (ep + 1)) :: (acd, accD w.params dk (.int ini it)) :: (t, pairObj a b) :: rest) → (∀ p ∈ news, p.1 < t) →
      Q .none { s with heap := h', toks := tk }) :
    wpAny (model PySem.Challenge.rw_ty0040_01.row.prog w) A (call (.ref q) [a, b] []) Q E s := by
  have N := P1.front2 P2 N₀
  clear N₀
  refine call_meth N (.tail _ (.tail _ hq)) ?_
  walk_at "enterC"
  repeat' (walk_at "go")
  rename (@LT.lt Nat _ ac _) => q1
  rename (@LT.lt Nat _ acd _) => q2
  (first | rename (AllLt _ _) => q3 | have q3 := trivial)
  have hlt := And.intro q1 (And.intro q2 q3)
  rename_i kF kN
  obtain ⟨n1, n2, n3, nr⟩ := news4 kN
  exact h _ _ _ kF (newsMk n2 (newsMk n3 (newsMk n1 nr))) (lt2 P1 P2 hlt.1 hlt.2.1 hlt.2.2)
end

set_option maxHeartbeats 4000000
section
variable {w : World} {A : Around} {E : Value → Shared → Prop} {s : Shared} {L pf pfd ln ac : Addr} {h₀ : Heap} {m mg mb : Str → Option Value} {loose : List Str} {news : List (Addr × Obj)} {Q : Value → Shared → Prop} {kt : Nat → Tok} {width : Int} {expr : Bool}
theorem pf_cur (F : Fr h₀ L s.heap m) (X : (hd.heap_1 w.params).In h₀) (N : News h₀ L s.heap news) (h1 : (pf, instObj 109 pfd) ∈ news) (h2 : (pfd, pfD w.params kt width ln ac) ∈ news)
    (h : Q (.ref ac) { s with toks := s.toks + 1 }) : wpAny (model PySem.Challenge.rw_ty0040_01.row.prog w) A (getAttr (.ref pf) "_current_line" expr) Q E s := by
  refine get_own F X (InstAt.of_news N h1 h2) (by k_is) (by k_is) (by k_is) (by k_is) ?_ ?_ h
  · k_get
  · k_handed
theorem pf_lin (F : Fr h₀ L s.heap m) (X : (hd.heap_1 w.params).In h₀) (N : News h₀ L s.heap news) (h1 : (pf, instObj 109 pfd) ∈ news) (h2 : (pfd, pfD w.params kt width ln ac) ∈ news)
    (h : Q (.ref ln) { s with toks := s.toks + 1 }) : wpAny (model PySem.Challenge.rw_ty0040_01.row.prog w) A (getAttr (.ref pf) "_lines" expr) Q E s := by
  refine get_own F X (InstAt.of_news N h1 h2) (by k_is) (by k_is) (by k_is) (by k_is) ?_ ?_ h
  · k_get
  · k_handed
theorem pf_max (F : Fr h₀ L s.heap m) (X : (hd.heap_1 w.params).In h₀) (N : News h₀ L s.heap news) (h1 : (pf, instObj 109 pfd) ∈ news) (h2 : (pfd, pfD w.params kt width ln ac) ∈ news)
    (h : Q (.int width (kt 6)) { s with toks := s.toks + 1 }) : wpAny (model PySem.Challenge.rw_ty0040_01.row.prog w) A (getAttr (.ref pf) "_maxlen" expr) Q E s := by
  refine get_own F X (InstAt.of_news N h1 h2) (by k_is) (by k_is) (by k_is) (by k_is) ?_ ?_ h
  · k_get
  · k_handed
theorem pf_spl (F : Fr h₀ L s.heap m) (X : (hd.heap_1 w.params).In h₀) (N : News h₀ L s.heap news) (h1 : (pf, instObj 109 pfd) ∈ news) (h2 : (pfd, pfD w.params kt width ln ac) ∈ news)
    (h : Q (.str " " (kt 9)) { s with toks := s.toks + 1 }) : wpAny (model PySem.Challenge.rw_ty0040_01.row.prog w) A (getAttr (.ref pf) "_splitchars" expr) Q E s := by
  refine get_own F X (InstAt.of_news N h1 h2) (by k_is) (by k_is) (by k_is) (by k_is) ?_ ?_ h
  · k_get
  · k_handed
end

theorem shaped_pair {a b : Str} (ha : PyData.strOk a = true) (hb : PyData.strOk b = true) : SeqAt.shaped (.tuple [.str a, .str b]) = true := by
  simp [SeqAt.shaped, PyData.canLay0, PyData.canLayAll0, PyData.depth, PyData.depthAll, ha, hb]
theorem eqv_pair (a b c d : Str) : PyData.eqv (.tuple [.str a, .str b]) (.tuple [.str c, .str d]) = (a == c && b == d) := by
  simp [PyData.eqv, PyData.eqvAll]
theorem Tups.push {news : List (Addr × Obj)} {ys : Array Value} {ws : List (Str × Str)} {t : Addr} {a b : Str} {ta tb : Tok} (h : Tups news ys.toList ws) (hm : (t, pairObj (.str a ta) (.str b tb)) ∈ news) : Tups news (ys.push (.ref t)).toList (ws ++ [(a, b)]) := by
  rw [Array.toList_push]
  exact h.snoc hm
section
variable {w : World} {A : Around} {E : Value → Shared → Prop} {s : Shared} {L ac acd : Addr} {h₀ : Heap} {m mg mb : Str → Option Value} {loose : List Str} {news r1 r2 r3 rest : List (Addr × Obj)} {Q : Value → Shared → Prop} {items : Array Value} {ini : Int} {ep : Nat} {dk it : Tok} {ps ps2 : Array Value} {ws : List (Str × Str)}
theorem blank_any (F : Fr h₀ L s.heap m) (X : (hd.heap_1 w.params).In h₀) (N₀ : News h₀ L s.heap news) (T : TopRead hd.view_1 loose mg mb h₀) (G : AllBare s.gens) (M : Mod mg h₀)
    (P1 : Pull (ac, accObj acd items ep) news r1) (P2 : Pull (acd, accD w.params dk (.int ini it)) r1 r2) (P3 : Pull ((155 : Nat), tabObj ps) r2 r3) (P4 : Pull ((162 : Nat), tabObj ps2) r3 rest)
    (ht : TriplesOk ps.toList) (ht2 : TriplesOk ps2.toList) (hTu : Tups rest items.toList ws)
    (hne : @Ne Nat ac acd) (hne1 : @Ne Nat ac (155 : Nat)) (hne2 : @Ne Nat acd (155 : Nat)) (hne3 : @Ne Nat ac (162 : Nat)) (hne4 : @Ne Nat acd (162 : Nat)) (hoff : Off [ac, acd, (155 : Nat), (162 : Nat)] rest)
    (hb : ∀ p ∈ ws, p.1.length ≤ 1000 ∧ p.2.length ≤ 1000) (hok : JoinOk "" (ws.map catPair) = true) (hz : ws.length ≤ sizeLine)
    (hbig : (ws.map lenPair).sum < 2 ^ 62) (hor : ini ≠ 0 ∨ 0 < (ws.map lenPair).sum ∧ Txt.isspace (Txt.join "" (ws.map catPair)) = false) (hroom : A.depth < 970) (hh : A.handled = none) (hu : A.units < 9000)
    (h : ∀ h' gs tk ps' ps2' it', Fr h₀ L h' m → News h₀ L h' ((ac, accObj acd items ep) :: (acd, accD w.params dk (.int ini it')) :: ((155 : Nat), tabObj ps') :: ((162 : Nat), tabObj ps2') :: rest) → TriplesOk ps'.toList → TriplesOk ps2'.toList → AllBare gs →
      Q (.bool false) { s with heap := h', gens := gs, toks := tk }) :
    wpAny (model PySem.Challenge.rw_ty0040_01.row.prog w) A (call (.ref 182) [.ref ac] []) Q E s := by
  by_cases e : ini = 0
  · subst e
    obtain ⟨hp, hs⟩ := hor.resolve_left (by simp)
    exact blank_text F X N₀ T G M P1 P2 P3 P4 ht ht2 hTu hne hne1 hne2 hne3 hne4 hoff hb hok hz hp hbig hs hroom hh hu fun h' gs tk p1 p2 F' N' a b c => h h' gs tk p1 p2 it F' N' a b c
  · have hoff' : Off [ac, acd] (((155 : Nat), tabObj ps) :: ((162 : Nat), tabObj ps2) :: rest) :=
      Off.put ⟨hne1.symm, hne2.symm, trivial⟩ (Off.put ⟨hne3.symm, hne4.symm, trivial⟩ (hoff.sub fun a h => by simp at h ⊢; rcases h with h | h <;> simp [h]))
    exact blank_head F X (P1.front4 P2 P3 P4 N₀) T .head .head e hne hoff' hroom fun h' tk F' N' => h h' s.gens tk ps ps2 it F' N' ht ht2 G
end

set_option maxHeartbeats 4000000
section
local macro_rules | `(tactic| walk_at "execs cons") => `(tactic| walk_at "fold")
variable {w : World} {A : Around} {E : Value → Shared → Prop} {s : Shared} {L pf pfd ln ac acd : Addr} {h₀ : Heap} {m mg mb : Str → Option Value} {loose : List Str} {news r1 r2 r3 r4 r5 r6 rest : List (Addr × Obj)} {Q : Value → Shared → Prop} {items ls : Array Value} {ep nl : Nat} {dk it : Tok} {ps ps2 : Array Value} {kt : Nat → Tok} {width ini : Int} {ws : List (Str × Str)}
theorem newline_idle (F : Fr h₀ L s.heap m) (X : (hd.heap_1 w.params).In h₀) (N₀ : News h₀ L s.heap news) (T : TopRead hd.view_1 loose mg mb h₀) (G : AllBare s.gens) (M : Mod mg h₀)
    (P1 : Pull (pf, instObj 109 pfd) news r1) (P2 : Pull (pfd, pfD w.params kt width ln ac) r1 r2) (P3 : Pull (ln, listOf ls nl) r2 r3) (P4 : Pull (ac, accObj acd #[] ep) r3 r4) (P5 : Pull (acd, accD w.params dk (.int 0 it)) r4 r5)
    (P6 : Pull ((155 : Nat), tabObj ps) r5 r6) (P7 : Pull ((162 : Nat), tabObj ps2) r6 rest) (ht : TriplesOk ps.toList) (ht2 : TriplesOk ps2.toList)
    (hd : Dis [pf, pfd, ln, ac, acd, (155 : Nat), (162 : Nat)]) (hoff : Off [pf, pfd, ln, ac, acd, (155 : Nat), (162 : Nat)] rest) (hroom : A.depth < 960) (hh : A.handled = none) (hu : A.units < 8000)
    (h : ∀ h' gs tk ep' dk' it' ps' ps2', Fr h₀ L h' m → News h₀ L h' ((pf, instObj 109 pfd) :: (pfd, pfD w.params kt width ln ac) :: (ln, listOf ls nl) :: (ac, accObj acd #[] ep') :: (acd, accD w.params dk' (.int 0 it')) :: ((155 : Nat), tabObj ps') :: ((162 : Nat), tabObj ps2') :: rest) →
      TriplesOk ps'.toList → TriplesOk ps2'.toList → AllBare gs → Q .none { s with heap := h', gens := gs, toks := tk }) :
    wpAny (model PySem.Challenge.rw_ty0040_01.row.prog w) A (call (.ref 71) [.ref pf] []) Q E s := by
  have N := newsMk (P1.at N₀).1 (newsMk (P2.at (P1.at N₀).2).1 (newsMk (P3.at (P2.at (P1.at N₀).2).2).1 (P4.front4 P5 P6 P7 (P3.at (P2.at (P1.at N₀).2).2).2)))
  clear N₀
  walk_at "dis"
  have hb0 : ∀ p ∈ [(("" : Str), ("" : Str))], p.1.length ≤ 1000 ∧ p.2.length ≤ 1000 := by intro p hp; cases hp with | head => exact ⟨Nat.zero_le _, Nat.zero_le _⟩ | tail _ hp => cases hp
  k_enter
  repeat' (walk_at "go")
  have e0 : ((0 : Int) + (List.map lenPair [(("" : Str), ("" : Str))]).sum) = 0 := by decide
  rw [e0]
  dsimp only [W.LenBack]
  refine ⟨⟨by decide, by decide⟩, ?_⟩
  repeat' (walk_at "go")
  rename_i kF kN
  refine' h _ _ _ _ _ _ _ _ kF ?nz ?c1z ?c2z ?c3z
  case nz => walk_at "news"
  case c1z => assumption
  case c2z => assumption
  case c3z => assumption
end

set_option maxHeartbeats 4000000
section
local macro_rules | `(tactic| walk_at "execs cons") => `(tactic| walk_at "fold")
variable {w : World} {A : Around} {E : Value → Shared → Prop} {s : Shared} {L pf pfd ln ac acd : Addr} {h₀ : Heap} {m mg mb : Str → Option Value} {loose : List Str} {news r1 r2 r3 r4 r5 r6 rest : List (Addr × Obj)} {Q : Value → Shared → Prop} {items ls : Array Value} {ep nl : Nat} {dk it : Tok} {ps ps2 : Array Value} {kt : Nat → Tok} {width ini : Int} {ws : List (Str × Str)}
theorem newline_head (F : Fr h₀ L s.heap m) (X : (hd.heap_1 w.params).In h₀) (N₀ : News h₀ L s.heap news) (T : TopRead hd.view_1 loose mg mb h₀) (G : AllBare s.gens) (M : Mod mg h₀)
    (P1 : Pull (pf, instObj 109 pfd) news r1) (P2 : Pull (pfd, pfD w.params kt width ln ac) r1 r2) (P3 : Pull (ln, listOf ls nl) r2 r3) (P4 : Pull (ac, accObj acd #[] ep) r3 r4) (P5 : Pull (acd, accD w.params dk (.int ini it)) r4 r5) (h0 : 0 < ini) (h9 : ini ≤ 1000) (hls : ls.size ≤ sizeLine)
    (P6 : Pull ((155 : Nat), tabObj ps) r5 r6) (P7 : Pull ((162 : Nat), tabObj ps2) r6 rest) (ht : TriplesOk ps.toList) (ht2 : TriplesOk ps2.toList)
    (hd : Dis [pf, pfd, ln, ac, acd, (155 : Nat), (162 : Nat)]) (hoff : Off [pf, pfd, ln, ac, acd, (155 : Nat), (162 : Nat)] rest) (hroom : A.depth < 960) (hh : A.handled = none) (hu : A.units < 8000)
    (h : ∀ h' gs tk ep' dk' it' ps' ps2' nl' t5, Fr h₀ L h' m → News h₀ L h' ((pf, instObj 109 pfd) :: (pfd, pfD w.params kt width ln ac) :: (ln, listOf (ls.push (.str "" t5)) nl') :: (ac, accObj acd #[] ep') :: (acd, accD w.params dk' (.int 0 it')) :: ((155 : Nat), tabObj ps') :: ((162 : Nat), tabObj ps2') :: rest) →
      TriplesOk ps'.toList → TriplesOk ps2'.toList → AllBare gs → Q .none { s with heap := h', gens := gs, toks := tk }) :
    wpAny (model PySem.Challenge.rw_ty0040_01.row.prog w) A (call (.ref 71) [.ref pf] []) Q E s := by
  have N := newsMk (P1.at N₀).1 (newsMk (P2.at (P1.at N₀).2).1 (newsMk (P3.at (P2.at (P1.at N₀).2).2).1 (P4.front4 P5 P6 P7 (P3.at (P2.at (P1.at N₀).2).2).2)))
  clear N₀
  walk_at "dis"
  have hb0 : ∀ p ∈ [(("" : Str), ("" : Str))], p.1.length ≤ 1000 ∧ p.2.length ≤ 1000 := by intro p hp; cases hp with | head => exact ⟨Nat.zero_le _, Nat.zero_le _⟩ | tail _ hp => cases hp
  have hok0 : JoinOk "" ([(("" : Str), ("" : Str))].map catPair) = true := by decide
  have hz0 : [(("" : Str), ("" : Str))].length ≤ sizeLine := by decide
  have hbig0 : ([(("" : Str), ("" : Str))].map lenPair).sum < 2 ^ 62 := by decide
  have hor0 : ini ≠ 0 ∨ 0 < ([(("" : Str), ("" : Str))].map lenPair).sum ∧ Txt.isspace (Txt.join "" ([(("" : Str), ("" : Str))].map catPair)) = false := .inl (by omega)
  k_enter
  repeat' (walk_at "go")
  have e0 : (ini + (List.map lenPair [(("" : Str), ("" : Str))]).sum) = ini := by rw [show (List.map lenPair [(("" : Str), ("" : Str))]).sum = 0 by decide]; omega
  rw [e0]
  dsimp only [W.LenBack]
  refine ⟨⟨by omega, by omega⟩, ?_⟩
  repeat' (walk_at "go")
  dsimp only [StrBack]
  rw [show Txt.join (Str.ofString "") (List.map catPair [(("" : Str), ("" : Str))]) = "" by decide]
  repeat' (walk_at "go")

  rename_i kF kN
  refine' h _ _ _ _ _ _ _ _ _ _ kF ?nz ?c1z ?c2z ?c3z
  case nz => walk_at "news"
  case c1z => assumption
  case c2z => assumption
  case c3z => assumption
end

set_option maxHeartbeats 4000000
section
local macro_rules | `(tactic| walk_at "execs cons") => `(tactic| walk_at "fold")
variable {w : World} {A : Around} {E : Value → Shared → Prop} {s : Shared} {L pf pfd ln ac acd : Addr} {h₀ : Heap} {m mg mb : Str → Option Value} {loose : List Str} {news r1 r2 r3 r4 r5 r6 rest : List (Addr × Obj)} {Q : Value → Shared → Prop} {items ls : Array Value} {ep nl : Nat} {dk it : Tok} {ps ps2 : Array Value} {kt : Nat → Tok} {width ini : Int} {ws : List (Str × Str)}
theorem newline_words {ys : Array Value} {t : Addr} {ta tb : Tok} {b : Str} (F : Fr h₀ L s.heap m) (X : (hd.heap_1 w.params).In h₀) (N₀ : News h₀ L s.heap news) (T : TopRead hd.view_1 loose mg mb h₀) (G : AllBare s.gens) (M : Mod mg h₀)
    (P1 : Pull (pf, instObj 109 pfd) news r1) (P2 : Pull (pfd, pfD w.params kt width ln ac) r1 r2) (P3 : Pull (ln, listOf ls nl) r2 r3) (P4 : Pull (ac, accObj acd (ys.push (.ref t)) ep) r3 r4) (P5 : Pull (acd, accD w.params dk (.int ini it)) r4 r5) (h0 : 0 ≤ ini) (h9 : ini ≤ 1000)
    (hm : (t, pairObj (.str " " ta) (.str b tb)) ∈ rest) (hTu : Tups rest ys.toList ws) (hbn : b ≠ "") (hbo : PyData.strOk b = true) (hsz : ys.size ≤ 900) (hls : ls.size ≤ sizeLine)
    (hb : ∀ p ∈ ws ++ [((" " : Str), b)], p.1.length ≤ 1000 ∧ p.2.length ≤ 1000) (hok : JoinOk "" ((ws ++ [((" " : Str), b)]).map catPair) = true) (hz : (ws ++ [((" " : Str), b)]).length ≤ sizeLine)
    (hpos : 0 < ((ws ++ [((" " : Str), b)]).map lenPair).sum) (hbig : ((ws ++ [((" " : Str), b)]).map lenPair).sum < 2 ^ 61) (hsp : Txt.isspace (Txt.join "" ((ws ++ [((" " : Str), b)]).map catPair)) = false)
    (P6 : Pull ((155 : Nat), tabObj ps) r5 r6) (P7 : Pull ((162 : Nat), tabObj ps2) r6 rest) (ht : TriplesOk ps.toList) (ht2 : TriplesOk ps2.toList)
    (hd : Dis [pf, pfd, ln, ac, acd, (155 : Nat), (162 : Nat)]) (hoff : Off [pf, pfd, ln, ac, acd, (155 : Nat), (162 : Nat)] rest) (hroom : A.depth < 960) (hh : A.handled = none) (hu : A.units < 8000)
    (h : ∀ h' gs tk ep' dk' it' ps' ps2' nl' t5, Fr h₀ L h' m → News h₀ L h' ((pf, instObj 109 pfd) :: (pfd, pfD w.params kt width ln ac) :: (ln, listOf (ls.push (.str (Txt.join "" ((ws ++ [((" " : Str), b)]).map catPair)) t5)) nl') :: (ac, accObj acd #[] ep') :: (acd, accD w.params dk' (.int 0 it')) :: ((155 : Nat), tabObj ps') :: ((162 : Nat), tabObj ps2') :: rest) →
      TriplesOk ps'.toList → TriplesOk ps2'.toList → AllBare gs → Q .none { s with heap := h', gens := gs, toks := tk }) :
    wpAny (model PySem.Challenge.rw_ty0040_01.row.prog w) A (call (.ref 71) [.ref pf] []) Q E s := by
  have N1 := newsMk (P1.at N₀).1 (newsMk (P2.at (P1.at N₀).2).1 (newsMk (P3.at (P2.at (P1.at N₀).2).2).1 (P4.front4 P5 P6 P7 (P3.at (P2.at (P1.at N₀).2).2).2)))
  have N : News h₀ L s.heap ((pf, instObj 109 pfd) :: (pfd, pfD w.params kt width ln ac) :: (ln, listOf ls nl) :: (ac, accObj acd (ys.push (.ref t)) ep) :: (acd, accD w.params dk (.int ini it)) :: ((155 : Nat), tabObj ps) :: ((162 : Nat), tabObj ps2) :: (t, pairObj (.str " " ta) (.str b tb)) :: rest) := by
    intro p hp
    simp only [List.mem_cons] at hp
    rcases hp with rfl | rfl | rfl | rfl | rfl | rfl | rfl | rfl | hp
    all_goals first | exact N1 _ (by k_mem) | exact N1 _ (.tail _ (.tail _ (.tail _ (.tail _ (.tail _ (.tail _ (.tail _ hm))))))) | exact N1 _ (.tail _ (.tail _ (.tail _ (.tail _ (.tail _ (.tail _ (.tail _ hp)))))))
  clear N₀ N1
  have ho := hoff _ hm
  simp only [List.mem_cons, List.not_mem_nil, or_false, not_or] at ho
  obtain ⟨o1, o2, o3, o4, o5, o6, o7⟩ := ho
  walk_at "dis"
  have hbig0 : ((ws ++ [((" " : Str), b)]).map lenPair).sum < 2 ^ 62 := by omega
  have hz8 : ys.size ≤ sizeLine := by rw [sizeLine_eq]; omega
  have hz9 : ys.size < sizeLine := by rw [sizeLine_eq]; omega
  have hor0 : ini ≠ 0 ∨ 0 < ((ws ++ [((" " : Str), b)]).map lenPair).sum ∧ Txt.isspace (Txt.join "" ((ws ++ [((" " : Str), b)]).map catPair)) = false := .inr ⟨hpos, hsp⟩
  k_enter
  repeat' (walk_at "go")
  refine ne_dataH (by ke_read) (by ke_read) ?az ?bz ?cz ?_
  case az => exact shaped_pair (by decide +kernel) hbo
  case bz => exact shaped_pair (by decide +kernel) (by decide +kernel)
  case cz => walk_at "units"
  rw [eqv_pair, show (b == ("" : Str)) = false by simpa using hbn, Bool.and_false, Bool.not_false]
  repeat' (walk_at "go")
  dsimp only [W.LenBack]
  refine ⟨⟨by omega, by omega⟩, ?_⟩
  repeat' (walk_at "go")
  dsimp only [StrBack]
  repeat' (walk_at "go")
  rename_i kF kN
  refine' h _ _ _ _ _ _ _ _ _ _ kF ?nz ?c1z ?c2z ?c3z
  case nz => walk_at "news"
  case c1z => assumption
  case c2z => assumption
  case c3z => assumption
end

/-- a word of a page -/
noncomputable def WordOk (b : Str) : Prop := PyData.strOk b = true ∧ b.length ≤ 40 ∧ ∃ c ∈ b.cps.toList, Unicode.isSpace c = false
noncomputable def spaced (bs : List Str) : List (Str × Str) := bs.map fun b => ((" " : Str), b)
/-- the text of a row -/
noncomputable def rowTxt (bs : List Str) : Str := Txt.join "" ((spaced bs).map catPair)
noncomputable def rowLen (bs : List Str) : Int := ((spaced bs).map lenPair).sum
theorem join_empty_list : ∀ l : List Str, (Str.join "" l).cps.toList = l.flatMap fun x => x.cps.toList
  | [] => rfl
  | [x] => by simp [Str.join]
  | x :: y :: r => by
    show ((x ++ ("" : Str) ++ Str.join "" (y :: r)).cps).toList = _
    rw [Str.cps_append, Str.cps_append, Array.toList_append, Array.toList_append, join_empty_list (y :: r)]
    show _ ++ (#[] : Array Nat).toList ++ _ = _
    simp
theorem txt_join (sep : Str) (l : List Str) : Txt.join sep l = Str.join sep l := StrLaws.glued_eq_join sep l
theorem catPair_list (p : Str × Str) : (catPair p).cps.toList = p.1.cps.toList ++ p.2.cps.toList := by
  unfold catPair
  rw [txt_join, join_empty_list]
  simp
theorem rowTxt_list (bs : List Str) : (rowTxt bs).cps.toList = bs.flatMap fun b => 32 :: b.cps.toList := by
  unfold rowTxt spaced
  rw [txt_join, join_empty_list, List.map_map, List.flatMap_map]
  congr 1
  funext b
  show (catPair ((" " : Str), b)).cps.toList = _
  rw [catPair_list]
  rfl
theorem rowLen_cons (b : Str) (bs : List Str) : rowLen (b :: bs) = 1 + b.length + rowLen bs := by
  simp [rowLen, spaced, lenPair]
  rfl
theorem rowLen_bounds : ∀ {bs : List Str}, (∀ b ∈ bs, WordOk b) → 0 ≤ rowLen bs ∧ rowLen bs ≤ 41 * bs.length
  | [], _ => ⟨Int.le_refl _, Int.le_refl _⟩
  | b :: bs, h => by
    have := rowLen_bounds fun x hx => h x (.tail _ hx)
    have hb := (h b (.head _)).2.1
    rw [rowLen_cons, List.length_cons]
    omega
theorem rowLen_pos {b : Str} {bs : List Str} (h : ∀ x ∈ b :: bs, WordOk x) : 0 < rowLen (b :: bs) := by
  have := (rowLen_bounds fun x hx => h x (.tail _ hx)).1
  rw [rowLen_cons]
  omega
theorem rowLen_append (a b : List Str) : rowLen (a ++ b) = rowLen a + rowLen b := by
  simp [rowLen, spaced, List.sum_append]
theorem spaced_append (a b : List Str) : spaced (a ++ b) = spaced a ++ spaced b := by simp [spaced]
theorem spaced_length (bs : List Str) : (spaced bs).length = bs.length := by simp [spaced]
theorem row_hb {bs : List Str} (h : ∀ b ∈ bs, WordOk b) : ∀ p ∈ spaced bs, p.1.length ≤ 1000 ∧ p.2.length ≤ 1000 := by
  intro p hp
  obtain ⟨b, hb, rfl⟩ := List.mem_map.mp hp
  have := (h b hb).2.1
  exact ⟨by show 1 ≤ 1000; omega, by show b.length ≤ 1000; omega⟩
theorem length_list (x : Str) : x.length = x.cps.toList.length := by simp [Str.length]
theorem row_ok {bs : List Str} (h : ∀ b ∈ bs, WordOk b) (hl : bs.length ≤ 100) : JoinOk "" ((spaced bs).map catPair) = true := by
  unfold JoinOk
  rw [Bool.not_eq_true']
  refine StrLaws.joinFits (B := 41) (fun y hy => ?_) ?_
  · obtain ⟨p, hp, rfl⟩ := List.mem_map.mp hy
    obtain ⟨b, hb, rfl⟩ := List.mem_map.mp hp
    rw [length_list, catPair_list]
    have := (h b hb).2.1
    rw [length_list] at this
    show (32 :: b.cps.toList).length ≤ 41
    rw [List.length_cons]
    omega
  · rw [List.length_map, spaced_length]
    show bs.length * 41 + bs.length * 0 ≤ _
    omega
theorem row_sp {b : Str} {bs : List Str} (h : ∀ x ∈ b :: bs, WordOk x) : Txt.isspace (rowTxt (b :: bs)) = false := by
  obtain ⟨c, hc, hs⟩ := (h b (.head _)).2.2
  unfold Txt.isspace
  rw [Bool.and_eq_false_iff]
  right
  rw [← Bool.not_eq_true, ← Array.all_toList, List.all_eq_true]
  intro hall
  have := hall c (by rw [rowTxt_list]; simp [hc])
  rw [hs] at this
  cases this
theorem word_ne {b : Str} (h : WordOk b) : b ≠ "" := fun e => by
  obtain ⟨c, hc, _⟩ := h.2.2
  rw [e] at hc
  cases hc

theorem Tups.unsnoc {news : List (Addr × Obj)} {a b : Str} : ∀ {ws : List (Str × Str)} {vs : List Value}, Tups news vs (ws ++ [(a, b)]) →
    ∃ (vs' : List Value) (t : Addr) (ta tb : Tok), vs = vs' ++ [.ref t] ∧ (t, pairObj (.str a ta) (.str b tb)) ∈ news ∧ Tups news vs' ws
  | [], _, h => by
    cases h with
    | cons hm ht =>
      cases ht
      exact ⟨[], _, _, _, rfl, hm, .nil⟩
  | _ :: ws, _, h => by
    cases h with
    | cons hm ht =>
      obtain ⟨vs', t, ta, tb, e, hm', ht'⟩ := Tups.unsnoc ht
      subst e
      exact ⟨_ :: vs', t, ta, tb, rfl, hm', .cons hm ht'⟩
theorem Tups.nil_items {news : List (Addr × Obj)} {items : Array Value} (h : Tups news items.toList []) : items = #[] := by
  have : items.toList = [] := by cases e : items.toList with
    | nil => rfl
    | cons a r => rw [e] at h; cases h
  exact Array.ext' this
theorem Tups.push_items {news : List (Addr × Obj)} {a b : Str} {items : Array Value} {ws : List (Str × Str)} (h : Tups news items.toList (ws ++ [(a, b)])) :
    ∃ (ys : Array Value) (t : Addr) (ta tb : Tok), items = ys.push (.ref t) ∧ (t, pairObj (.str a ta) (.str b tb)) ∈ news ∧ Tups news ys.toList ws := by
  obtain ⟨vs', t, ta, tb, e, hm, ht⟩ := h.unsnoc
  refine ⟨vs'.toArray, t, ta, tb, ?_, hm, by simpa using ht⟩
  apply Array.ext'
  rw [Array.toList_push, e]
set_option maxHeartbeats 4000000
section
variable {w : World} {A : Around} {E : Value → Shared → Prop} {s : Shared} {L pf pfd ln ac acd : Addr} {h₀ : Heap} {m mg mb : Str → Option Value} {loose : List Str} {news r1 r2 r3 r4 r5 r6 rest : List (Addr × Obj)} {Q : Value → Shared → Prop} {items ls : Array Value} {ep nl : Nat} {dk it : Tok} {ps ps2 : Array Value} {kt : Nat → Tok} {width ini : Int} {bs : List Str}
/-- the lines after a flush -/
noncomputable def flushed (ls : Array Value) (bs : List Str) (ini : Int) (t : Tok) : Array Value := if bs = [] ∧ ini = 0 then ls else ls.push (.str (rowTxt bs) t)
theorem newline_call (F : Fr h₀ L s.heap m) (X : (hd.heap_1 w.params).In h₀) (N₀ : News h₀ L s.heap news) (T : TopRead hd.view_1 loose mg mb h₀) (G : AllBare s.gens) (M : Mod mg h₀)
    (P1 : Pull (pf, instObj 109 pfd) news r1) (P2 : Pull (pfd, pfD w.params kt width ln ac) r1 r2) (P3 : Pull (ln, listOf ls nl) r2 r3) (P4 : Pull (ac, accObj acd items ep) r3 r4) (P5 : Pull (acd, accD w.params dk (.int ini it)) r4 r5)
    (P6 : Pull ((155 : Nat), tabObj ps) r5 r6) (P7 : Pull ((162 : Nat), tabObj ps2) r6 rest) (ht : TriplesOk ps.toList) (ht2 : TriplesOk ps2.toList)
    (h0 : 0 ≤ ini) (h9 : ini ≤ 1000) (hls : ls.size ≤ sizeLine) (hTu : Tups rest items.toList (spaced bs)) (hw : ∀ b ∈ bs, WordOk b) (hl : bs.length ≤ 40)
    (hd : Dis [pf, pfd, ln, ac, acd, (155 : Nat), (162 : Nat)]) (hoff : Off [pf, pfd, ln, ac, acd, (155 : Nat), (162 : Nat)] rest) (hroom : A.depth < 960) (hh : A.handled = none) (hu : A.units < 8000)
    (h : ∀ h' gs tk ep' dk' it' ps' ps2' nl' t5, Fr h₀ L h' m → News h₀ L h' ((pf, instObj 109 pfd) :: (pfd, pfD w.params kt width ln ac) :: (ln, listOf (flushed ls bs ini t5) nl') :: (ac, accObj acd #[] ep') :: (acd, accD w.params dk' (.int 0 it')) :: ((155 : Nat), tabObj ps') :: ((162 : Nat), tabObj ps2') :: rest) →
      TriplesOk ps'.toList → TriplesOk ps2'.toList → AllBare gs → Q .none { s with heap := h', gens := gs, toks := tk }) :
    wpAny (model PySem.Challenge.rw_ty0040_01.row.prog w) A (call (.ref 71) [.ref pf] []) Q E s := by
  rcases List.eq_nil_or_concat bs with rfl | ⟨bs', b, rfl⟩
  · have ei := hTu.nil_items
    subst ei
    by_cases e : ini = 0
    · subst e
      refine newline_idle F X N₀ T G M P1 P2 P3 P4 P5 P6 P7 ht ht2 hd hoff hroom hh hu fun h' gs tk ep' dk' it' ps' ps2' F' N' a b c => h h' gs tk ep' dk' it' ps' ps2' nl 0 F' ?_ a b c
      rw [flushed, if_pos ⟨rfl, rfl⟩]
      exact N'
    · refine newline_head F X N₀ T G M P1 P2 P3 P4 P5 (by omega) h9 hls P6 P7 ht ht2 hd hoff hroom hh hu fun h' gs tk ep' dk' it' ps' ps2' nl' t5 F' N' a b c => h h' gs tk ep' dk' it' ps' ps2' nl' t5 F' ?_ a b c
      rw [flushed, if_neg fun k => e k.2]
      exact N'
  · rw [List.concat_eq_append] at hTu hw hl h
    rw [spaced_append] at hTu
    obtain ⟨ys, t, ta, tb, rfl, hm, hTy⟩ := hTu.push_items
    have hb := hw b (by simp)
    have hsz := hTy.length
    rw [spaced_length] at hsz
    rw [List.length_append] at hl
    have hw' : ∀ x ∈ bs' ++ [b], WordOk x := hw
    have e : spaced bs' ++ [((" " : Str), b)] = spaced (bs' ++ [b]) := by rw [spaced_append]; rfl
    obtain ⟨l1, l2⟩ := rowLen_bounds hw'
    rw [List.length_append] at l2
    have hp : 0 < rowLen (bs' ++ [b]) := by
      rw [rowLen_append]
      have := (rowLen_bounds fun x hx => hw' x (List.mem_append_left _ hx)).1
      have := rowLen_pos (b := b) (bs := []) fun x hx => hw' x (List.mem_append_right _ hx)
      omega
    have hsp : Txt.isspace (rowTxt (bs' ++ [b])) = false := by
      cases bs' with
      | nil => exact row_sp hw'
      | cons c r => exact row_sp hw'
    have hsz' : ys.size ≤ 900 := by
      have : ys.size = ys.toList.length := by simp
      simp at hl
      omega
    refine newline_words F X N₀ T G M P1 P2 P3 P4 P5 h0 h9 hm hTy (word_ne hb) hb.1 hsz' hls ?_ ?_ ?_ ?_ ?_ ?_ P6 P7 ht ht2 hd hoff hroom hh hu fun h' gs tk ep' dk' it' ps' ps2' nl' t5 F' N' a b c => h h' gs tk ep' dk' it' ps' ps2' nl' t5 F' ?_ a b c
    · rw [e]; exact row_hb hw'
    · rw [e]; exact row_ok hw' (by simp at hl ⊢; omega)
    · rw [e, spaced_length, sizeLine_eq, List.length_append]; simp at hl ⊢; omega
    · rw [e]; exact hp
    · rw [e]; show rowLen (bs' ++ [b]) < _; simp at hl l2; omega
    · rw [e]; exact hsp
    · rw [flushed, if_neg fun k => by simp at k]
      rw [e] at N'
      exact N'
end

/-! loops with a written else, whose turns may make generators -/
noncomputable def objsAt (fp : List Addr) (h : Heap) : List (Addr × Obj) := fp.map fun b => (b, (h.get? b).getD emptyDict)
/-- an error is not met -/
noncomputable abbrev NoErr : Value → Shared → Prop := fun _ _ => False
section
variable {prog : Program} {w : World} {A : Around} {s : Shared} {env : Env} {h₀ : Heap} {m : Str → Option Value} {news : List (Addr × Obj)} {x : Str} {px : Pos} {body orelse : List Stmt} {Q : Flow → Shared → Prop}
noncomputable def StepG (h₀ : Heap) (L : Addr) (wr : List Addr) (own : List (Addr × Obj)) (Jn : (Str → Option Value) → List (Addr × Obj) → Array GenState → Prop) (s : Shared) (Q : Flow → Shared → Prop) (f : Flow) (s₂ : Shared) : Prop := match f with
  | .ret v => Q (.ret v) s₂
  | .brk => Q .next s₂
  | _ => ∃ h' gs' tk' m₂ news₂, s₂ = { s with heap := h', gens := gs', toks := tk' } ∧ Fr h₀ L h' m₂ ∧ News h₀ L h' (own ++ news₂) ∧ (∀ p ∈ news₂, p.1 ∉ wr) ∧ Jn m₂ news₂ gs'
theorem codeAny_loopG {I : Addr} {fp wr : List Addr} {n : Nat} {P : Nat → Value → Prop} {St : Nat → Heap → Prop} (W : Walks prog w A I fp wr n P St) (hx : env.kindOf x = some .local)
    (hp : (env.scope.kind == .class || (env.scope.kind == .module && env.locals != env.globals)) = false)
    (hfp : ∀ b ∈ fp, h₀.get? b = none ∧ b ≠ env.locals) (hhas : ∀ i h, St i h → ∀ b ∈ fp, (h.get? b).isSome = true)
    (hst : St 0 s.heap) (F : Fr h₀ env.locals s.heap m) (N : News h₀ env.locals s.heap news) (hnw : ∀ p ∈ news, p.1 ∉ wr)
    (J : Nat → (Str → Option Value) → List (Addr × Obj) → Array GenState → Prop) (h0 : J 0 m news s.gens)
    (step : ∀ i v m₁ news₁ h₁ gs tk, i < n → P i v → J i m₁ news₁ gs → (∀ p ∈ news₁, p.1 ∉ wr) → Fr h₀ env.locals h₁ (fun y => if y = x then some v else m₁ y) → News h₀ env.locals h₁ (objsAt fp h₁ ++ news₁) →
      wpAny (model prog w) A (execs body env) (StepG h₀ env.locals wr (objsAt fp h₁) (J (i + 1)) s Q) NoErr { s with heap := h₁, gens := gs, toks := tk })
    (hR : ∀ h' gs tk m' news', Fr h₀ env.locals h' m' → News h₀ env.locals h' news' → (∀ p ∈ news', p.1 ∉ wr) → J n m' news' gs → wpAny (model prog w) A (execs orelse env) Q NoErr { s with heap := h', gens := gs, toks := tk }) :
    codeAny (model prog w) A (.forLoop (.Name x px) (.ref I) body orelse env) (fun r s' => match r with | .ok f => Q f s' | .error e => cameBackBy (model prog w) A env NoErr e s') s := by
  have hLw : env.locals ∉ wr := fun h => (hfp _ (W.sub _ h)).2 rfl
  have old : ∀ b o, h₀.get? b = some o → b ∉ wr := fun b o e hb => by rw [(hfp b (W.sub _ hb)).1] at e; cases e
  refine codeAny_forLoop
    (fun k s' => ∃ h' gs tk m' news' i, s' = { s with heap := h', gens := gs, toks := tk } ∧ St i h' ∧ Fr h₀ env.locals h' m' ∧ News h₀ env.locals h' news' ∧ (∀ p ∈ news', p.1 ∉ wr) ∧ J i m' news' gs ∧ i ≤ n ∧ k = n + 1 - i) ?_ (n + 1)
    ⟨s.heap, s.gens, s.toks, m, news, 0, rfl, hst, F, N, hnw, h0, Nat.zero_le _, rfl⟩
  rintro k s' ⟨h', gs, tk, m', news', i, rfl, hst', F', N', hnw', hJ, hi, rfl⟩
  have next : ∀ h₁ : Heap, (∀ b o, b ∉ wr → h'.get? b = some o → h₁.get? b = some o) → Fr h₀ env.locals h₁ m' ∧ News h₀ env.locals h₁ news' := fun h₁ hk₁ =>
    ⟨⟨F'.ns.at' fun o e => hk₁ _ o hLw e, fun b o e => hk₁ b o (old b o e) (F'.keep b o e), F'.above⟩, fun p hp => ⟨hk₁ _ _ (hnw' p hp) (N' p hp).1, (N' p hp).2⟩⟩
  by_cases hlt : i < n
  · refine W.item i _ _ _ hlt hst' fun v h₁ tk₁ hP hst₁ hk₁ => ?_
    obtain ⟨F₁, N₁⟩ := next h₁ hk₁
    refine wpAny_assign_Name (wpAny_storeName_local hx F₁.ns (fun h₂ hn₂ hs₂ => ?_) hp)
    have F₂ := F₁.set hn₂ hs₂
    have hst₂ : St (i + 1) h₂ := W.frame _ _ _ hst₁ fun b hb o e => (hs₂.2 b (hfp b hb).2).trans e
    have Nown : News h₀ env.locals h₂ (objsAt fp h₂) := fun p hp => by
      obtain ⟨b, hb, rfl⟩ := List.mem_map.mp hp
      obtain ⟨o, ho⟩ := Option.isSome_iff_exists.mp (hhas _ _ hst₂ b hb)
      exact ⟨by show h₂.get? b = some ((h₂.get? b).getD emptyDict); rw [ho]; rfl, (hfp b hb).2, (hfp b hb).1⟩
    refine wpAny_mono (step i v m' news' _ gs _ hlt hP hJ hnw' F₂ (Nown.append (N₁.set hs₂))) (fun f s₃ h₃ => ?_) fun _ _ (e : False) => e.elim
    have go : (∃ h' gs' tk' m₂ news₂, s₃ = { s with heap := h', gens := gs', toks := tk' } ∧ Fr h₀ env.locals h' m₂ ∧ News h₀ env.locals h' (objsAt fp h₂ ++ news₂) ∧ (∀ p ∈ news₂, p.1 ∉ wr) ∧ J (i + 1) m₂ news₂ gs') →
        ∃ m, m < n + 1 - i ∧ ∃ h' gs tk m' news' i, s₃ = { s with heap := h', gens := gs, toks := tk } ∧ St i h' ∧ Fr h₀ env.locals h' m' ∧ News h₀ env.locals h' news' ∧ (∀ p ∈ news', p.1 ∉ wr) ∧ J i m' news' gs ∧ i ≤ n ∧ m = n + 1 - i := by
      rintro ⟨h₃', gs₃, tk₃, m₂, news₂, rfl, F₃, N₃, ha₃, hJ₃⟩
      refine ⟨n + 1 - (i + 1), by omega, h₃', gs₃, tk₃, m₂, news₂, i + 1, rfl, ?_, F₃, N₃.right, ha₃, hJ₃, hlt, rfl⟩
      refine W.frame _ _ _ hst₂ fun b hb o e => ?_
      have := (N₃ (b, (h₂.get? b).getD emptyDict) (List.mem_append_left _ (List.mem_map.mpr ⟨b, hb, rfl⟩))).1
      rw [e] at this
      exact this
    cases f with
    | ret v => exact h₃
    | brk => exact h₃
    | cont => exact go h₃
    | next => exact go h₃
  · have hin : i = n := by omega
    subst hin
    refine W.done _ _ _ hst' fun h₁ tk₁ hk₁ => ?_
    obtain ⟨F₁, N₁⟩ := next h₁ hk₁
    exact wpAny_mono (hR h₁ gs tk₁ m' news' F₁ N₁ hnw' hJ) (fun _ _ x => x) fun _ _ (e : False) => e.elim
theorem for_G {iter : Expr} {pos : Pos} (h : wpAny (model prog w) A (eval iter env) (fun xv s₁ => wpAny (model prog w) A (pyIter xv) (fun it s₂ =>
      codeAny (model prog w) A (.forLoop (.Name x px) it body orelse env) (fun r s' => match r with | .ok f => Q f s' | .error e => cameBackBy (model prog w) A env NoErr e s') s₂) NoErr s₁) NoErr s)
    (hs : ∀ x, foldedSetIterable iter env x = pure x := by intro _; rfl) : wpAny (model prog w) A (exec (.For (.Name x px) iter body orelse pos) env) Q NoErr s := wpAny_For h hs
/-- a loop over the text of one blank -/
theorem sp_loop {t : Tok} (hh : A.handled = none) (hx : env.kindOf x = some .local) (hp : (env.scope.kind == .class || (env.scope.kind == .module && env.locals != env.globals)) = false)
    (F : Fr h₀ env.locals s.heap m) (N : News h₀ env.locals s.heap news)
    (turn : ∀ I o u h tk, (∀ p ∈ news, p.1 < I) → Fr h₀ env.locals h (fun y => if y = x then some (.str " " u) else m y) → News h₀ env.locals h ((I, o) :: news) →
      wpAny (model prog w) A (execs body env) (StepG h₀ env.locals [I] [(I, o)] (fun m₂ news₂ gs' => ∀ h'' tk'', Fr h₀ env.locals h'' m₂ → News h₀ env.locals h'' news₂ → wpAny (model prog w) A (execs orelse env) Q NoErr { s with heap := h'', gens := gs', toks := tk'' }) s Q) NoErr { s with heap := h, toks := tk }) :
    wpAny (model prog w) A (pyIter (.str " " t)) (fun it s₂ => codeAny (model prog w) A (.forLoop (.Name x px) it body orelse env) (fun r s' => match r with | .ok f => Q f s' | .error e => cameBackBy (model prog w) A env NoErr e s') s₂) NoErr s := by
  refine wpAny_pyIter_ascii (by decide +kernel) ?_
  have lt : ∀ p ∈ news, p.1 < s.heap.objs.size := fun p hp => Heap.lt_size (N p hp).1
  have hfresh : ∀ b ∈ [s.heap.objs.size], h₀.get? b = none ∧ b ≠ env.locals := fun b hb => by
    obtain rfl := List.mem_singleton.mp hb
    obtain ⟨oL, es, ep, hL, _⟩ := F.ns
    refine ⟨?_, fun e => Nat.lt_irrefl _ (e ▸ Heap.lt_size hL)⟩
    cases e : h₀.get? s.heap.objs.size with
    | none => rfl
    | some o => exact absurd (Heap.lt_size (F.keep _ _ e)) (Nat.lt_irrefl _)
  refine codeAny_loopG (s := { s with heap := _ }) (n := 1) (J := fun i m₁ nx gs => match i with
    | 0 => m₁ = m ∧ nx = news ∧ gs = s.gens
    | _ => ∀ h'' tk'', Fr h₀ env.locals h'' m₁ → News h₀ env.locals h'' nx → wpAny (model prog w) A (execs orelse env) Q NoErr { s with heap := h'', gens := gs, toks := tk'' })
    (Walks.strAscii hh _ (" " : Str) t) hx hp hfresh ?_ ⟨_, Heap.get?_push_size _ rfl, rfl, rfl⟩ (F.push _) (fun p hp => (N.push F _) p (.tail _ hp)) (fun p hp q => Nat.ne_of_lt (lt p hp) (List.mem_singleton.mp q)) ⟨rfl, rfl, rfl⟩ ?_ ?_
  · intro i h ⟨o, ho, _⟩ b hb
    obtain rfl := List.mem_singleton.mp hb
    rw [ho]; rfl
  · intro i v m₁ nx h₁ gs tk hi hP hJ hnx F₁ N₁
    obtain rfl : i = 0 := by omega
    obtain ⟨rfl, rfl, rfl⟩ := hJ
    obtain ⟨c, u, hc, rfl⟩ := hP
    have : c = 32 := by
      have e : ((" " : Str).cps[0]?) = some 32 := by decide +kernel
      rw [e] at hc
      exact (Option.some.inj hc).symm
    subst this
    exact turn _ _ u h₁ tk lt F₁ N₁
  · intro h' gs tk m' nx F' N' _ hJ
    exact hJ h' tk F' N'
end

section
variable {prog : Program} {w : World} {A : Around} {s : Shared} {env : Env} {h₀ : Heap} {m : Str → Option Value} {news : List (Addr × Obj)} {x : Str} {px : Pos} {body orelse : List Stmt} {Q : Flow → Shared → Prop}
theorem fresh_at (F : Fr h₀ env.locals s.heap m) : ∀ b ∈ [s.heap.objs.size], h₀.get? b = none ∧ b ≠ env.locals := fun b hb => by
  obtain rfl := List.mem_singleton.mp hb
  obtain ⟨oL, es, ep, hL, _⟩ := F.ns
  refine ⟨?_, fun e => Nat.lt_irrefl _ (e ▸ Heap.lt_size hL)⟩
  cases e : h₀.get? s.heap.objs.size with
  | none => rfl
  | some o => exact absurd (Heap.lt_size (F.keep _ _ e)) (Nat.lt_irrefl _)
/-- a loop over a range that leaves in its first turn -/
theorem range_first {r : Addr} {a b c : Int} {t u v : Tok} {n : Nat} (hh : A.handled = none) (hx : env.kindOf x = some .local) (hp : (env.scope.kind == .class || (env.scope.kind == .module && env.locals != env.globals)) = false)
    (F : Fr h₀ env.locals s.heap m) (N : News h₀ env.locals s.heap news) (hr : IsRange s.heap r a b c t u v) (hsmall : Builtin.Range.small a b c = true) (hn : Builtin.Range.rangeSize a b c = (n : Int)) (hpos : 0 < n)
    (turn : ∀ I o u' h tk, (∀ p ∈ news, p.1 < I) → Fr h₀ env.locals h (fun y => if y = x then some (.int a u') else m y) → News h₀ env.locals h ((I, o) :: news) →
      wpAny (model prog w) A (execs body env) (StepG h₀ env.locals [I] [(I, o)] (fun _ _ _ => False) s Q) NoErr { s with heap := h, toks := tk }) :
    wpAny (model prog w) A (pyIter (.ref r)) (fun it s₂ => codeAny (model prog w) A (.forLoop (.Name x px) it body orelse env) (fun r s' => match r with | .ok f => Q f s' | .error e => cameBackBy (model prog w) A env NoErr e s') s₂) NoErr s := by
  refine wpAny_pyIter_range hr hsmall ?_
  have lt : ∀ p ∈ news, p.1 < s.heap.objs.size := fun p hp => Heap.lt_size (N p hp).1
  rw [hn]
  refine codeAny_loopG (s := { s with heap := _ }) (n := n) (J := fun i m₁ nx gs => match i with
    | 0 => m₁ = m ∧ nx = news ∧ gs = s.gens
    | _ => False)
    (Walks.range hh _ a c n) hx hp (fresh_at F) ?_ (by show IsRangeIter _ _ (a + ((0 : Nat) : Int) * c) ((n : Int) - ((0 : Nat) : Int)) c; rw [show a + ((0 : Nat) : Int) * c = a by simp, show (n : Int) - ((0 : Nat) : Int) = n by simp]; exact Heap.get?_push_size _ rfl) (F.push _) (fun p hp => (N.push F _) p (.tail _ hp)) (fun p hp q => Nat.ne_of_lt (lt p hp) (List.mem_singleton.mp q)) ⟨rfl, rfl, rfl⟩ ?_ ?_
  · intro i h ho b hb
    obtain rfl := List.mem_singleton.mp hb
    rw [show h.get? s.heap.objs.size = _ from ho]; rfl
  · intro i v m₁ nx h₁ gs tk hi hP hJ hnx F₁ N₁
    cases i with
    | succ i => exact hJ.elim
    | zero =>
      obtain ⟨rfl, rfl, rfl⟩ := hJ
      obtain ⟨u', rfl⟩ := hP
      rw [show a + ((0 : Nat) : Int) * c = a by simp] at F₁
      exact turn _ _ u' h₁ tk lt F₁ N₁
  · intro h' gs tk m' nx F' N' _ hJ
    cases n with
    | zero => exact absurd hpos (Nat.lt_irrefl 0)
    | succ n => exact hJ.elim
/-- a loop over an empty range -/
theorem range_none {r : Addr} {a b c : Int} {t u v : Tok} (hh : A.handled = none) (hx : env.kindOf x = some .local) (hp : (env.scope.kind == .class || (env.scope.kind == .module && env.locals != env.globals)) = false)
    (F : Fr h₀ env.locals s.heap m) (N : News h₀ env.locals s.heap news) (hr : IsRange s.heap r a b c t u v) (hsmall : Builtin.Range.small a b c = true) (hn : Builtin.Range.rangeSize a b c = ((0 : Nat) : Int))
    (h : ∀ h tk, Fr h₀ env.locals h m → News h₀ env.locals h news → wpAny (model prog w) A (execs orelse env) Q NoErr { s with heap := h, toks := tk }) :
    wpAny (model prog w) A (pyIter (.ref r)) (fun it s₂ => codeAny (model prog w) A (.forLoop (.Name x px) it body orelse env) (fun r s' => match r with | .ok f => Q f s' | .error e => cameBackBy (model prog w) A env NoErr e s') s₂) NoErr s := by
  refine wpAny_pyIter_range hr hsmall ?_
  have lt : ∀ p ∈ news, p.1 < s.heap.objs.size := fun p hp => Heap.lt_size (N p hp).1
  rw [hn]
  refine codeAny_loopG (s := { s with heap := _ }) (n := 0) (J := fun i m₁ nx gs => m₁ = m ∧ nx = news ∧ gs = s.gens)
    (Walks.range hh _ a c 0) hx hp (fresh_at F) ?_ (by show IsRangeIter _ _ (a + ((0 : Nat) : Int) * c) (((0 : Nat) : Int) - ((0 : Nat) : Int)) c; rw [show a + ((0 : Nat) : Int) * c = a by simp, show ((0 : Nat) : Int) - ((0 : Nat) : Int) = ((0 : Nat) : Int) by simp]; exact Heap.get?_push_size _ rfl) (F.push _) (fun p hp => (N.push F _) p (.tail _ hp)) (fun p hp q => Nat.ne_of_lt (lt p hp) (List.mem_singleton.mp q)) ⟨rfl, rfl, rfl⟩ ?_ ?_
  · intro i h ho b hb
    obtain rfl := List.mem_singleton.mp hb
    rw [show h.get? s.heap.objs.size = _ from ho]; rfl
  · intro i v m₁ nx h₁ gs tk hi
    exact absurd hi (Nat.not_lt_zero _)
  · intro h' gs tk m' nx F' N' _ hJ
    obtain ⟨rfl, rfl, rfl⟩ := hJ
    exact h h' tk F' N'
end
theorem range_down {k : Int} (h0 : 0 ≤ k) : Builtin.Range.rangeSize k 0 (-1) = (k.toNat : Int) := by
  unfold Builtin.Range.rangeSize
  rw [if_neg (by decide)]
  split
  · rw [show (-(-1 : Int)) = 1 by decide, Int.ediv_one]; omega
  · omega
theorem range_small {k : Int} (h0 : 0 ≤ k) (h1 : k ≤ 1000) : Builtin.Range.small k 0 (-1) = true := by
  unfold Builtin.Range.small
  rw [range_down h0]
  simp [Builtin.Range.rangeFitsLong]
  omega

set_option maxHeartbeats 4000000
section
variable {prog : Program} {w : World} {A : Around} {E : Value → Shared → Prop} {s : Shared} {L x dx : Addr} {h₀ : Heap} {m : Str → Option Value} {news news' : List (Addr × Obj)} {ys items new : Array Value} {ep n : Nat} {od : Obj} {value slice : Expr}
theorem acc_itemLast {i : Int} {t : Tok} {v : Value} {Q : Value → Shared → Prop} (F : Fr h₀ L s.heap m) (X : (hd.heap_1 w.params).In h₀) (N : News h₀ L s.heap news) (h1 : (x, accObj dx (ys.push v) ep) ∈ news) (h2 : (dx, od) ∈ news) (hi : i = ys.size) (hz : ys.size ≤ 1000)
    (h : Q v s) (hs : subscripted slice false (.ref x) (.int i t) = operate [.ref x, .int i t] (getItem (.ref x) (.int i t))) :
    wpAny (model prog w) A (subscriptTail value slice (.ref x) (.int i t)) Q E s := by
  subst hi
  have I := accInst N h1 h2
  have X' := X.keeps F.keep
  unfold subscriptTail getitemInPython
  refine wpAny_bind (wpAny_bind (wpAny_bind (I.type.here ((looks_findIn X' (acc_listSub w.params).getitem).here ?_))))
  dsimp only
  refine wpAny_pure ?_
  rw [hs]
  refine wpAny_bind (wpAny_operating ?_)
  refine sub_getItem_int X' I (acc_listSub _) rfl (Int.natCast_nonneg _) (by simp [Builtin.List.listFitsIndex]; omega) (v := v) (by simp) ?_
  exact wpAny_bind (wpAny_letTemporaryGo (wpAny_pure h))
end
section
variable {w : World} {A : Around} {E : Value → Shared → Prop} {s : Shared} {L ac acd : Addr} {h₀ : Heap} {m mg mb : Str → Option Value} {loose : List Str} {news r1 rest : List (Addr × Obj)} {Q : Value → Shared → Prop} {ep : Nat} {dk it : Tok} {ini : Int}
theorem pop_one {v : Value} (F : Fr h₀ L s.heap m) (X : (hd.heap_1 w.params).In h₀) (N₀ : News h₀ L s.heap news) (T : TopRead hd.view_1 loose mg mb h₀)
    (P1 : Pull (ac, accObj acd #[v] ep) news r1) (P2 : Pull (acd, accD w.params dk (.int ini it)) r1 rest)
    (hne : @Ne Nat ac acd) (hoff : Off [ac, acd] rest) (hroom : A.depth < 980)
    (h : ∀ h' tk, Fr h₀ L h' m → News h₀ L h' ((ac, accObj acd #[] (ep + 1)) :: (acd, accD w.params dk (.int ini it)) :: rest) → Q v { s with heap := h', toks := tk }) :
    wpAny (model PySem.Challenge.rw_ty0040_01.row.prog w) A (call (.ref 153) [.ref ac] []) Q E s :=
  pop_call (items := #[]) F X N₀ T P1 P2 hne hoff (by rw [sizeLine_eq]; decide) hroom h
end

set_option maxHeartbeats 4000000
section
local macro_rules | `(tactic| walk_at "execs cons") => `(tactic| walk_at "fold")
variable {w : World} {A : Around} {E : Value → Shared → Prop} {s : Shared} {L pf pfd ln ac acd : Addr} {h₀ : Heap} {m mg mb : Str → Option Value} {loose : List Str} {news r1 r2 r3 r4 r5 r6 rest : List (Addr × Obj)} {Q : Value → Shared → Prop} {items ls : Array Value} {ep nl : Nat} {dk it : Tok} {ps ps2 : Array Value} {kt : Nat → Tok} {width ini : Int} {bs : List Str} {b : Str} {a1 a2 : Tok}
theorem chunk_fits (F : Fr h₀ L s.heap m) (X : (hd.heap_1 w.params).In h₀) (N₀ : News h₀ L s.heap news) (T : TopRead hd.view_1 loose mg mb h₀) (G : AllBare s.gens) (M : Mod mg h₀)
    (P1 : Pull (pf, instObj 109 pfd) news r1) (P2 : Pull (pfd, pfD w.params kt width ln ac) r1 r2) (P3 : Pull (ln, listOf ls nl) r2 r3) (P4 : Pull (ac, accObj acd items ep) r3 r4) (P5 : Pull (acd, accD w.params dk (.int ini it)) r4 r5)
    (P6 : Pull ((155 : Nat), tabObj ps) r5 r6) (P7 : Pull ((162 : Nat), tabObj ps2) r6 rest) (ht : TriplesOk ps.toList) (ht2 : TriplesOk ps2.toList)
    (h0 : 0 ≤ ini) (h9 : ini ≤ 1000) (hls : ls.size ≤ sizeLine) (hTu : Tups rest items.toList (spaced bs)) (hw : ∀ x ∈ bs ++ [b], WordOk x) (hl : bs.length ≤ 39)
    (hfit : ini + rowLen (bs ++ [b]) ≤ width)
    (hd : Dis [pf, pfd, ln, ac, acd, (155 : Nat), (162 : Nat)]) (hoff : Off [pf, pfd, ln, ac, acd, (155 : Nat), (162 : Nat)] rest) (hroom : A.depth < 950) (hh : A.handled = none) (hu : A.units < 7000)
    (h : ∀ h' gs tk ep' dk' it' ps' ps2' nl' (t5 : Tok) (t : Addr) (ta tb : Tok), Fr h₀ L h' m → News h₀ L h' ((pf, instObj 109 pfd) :: (pfd, pfD w.params kt width ln ac) :: (ln, listOf (ls) nl') :: (ac, accObj acd (items.push (.ref t)) ep') :: (acd, accD w.params dk' (.int ini it')) :: ((155 : Nat), tabObj ps') :: ((162 : Nat), tabObj ps2') :: (t, pairObj (.str " " ta) (.str b tb)) :: rest) →
      (∀ p ∈ news, p.1 < t) → TriplesOk ps'.toList → TriplesOk ps2'.toList → AllBare gs → Q .none { s with heap := h', gens := gs, toks := tk }) :
    wpAny (model PySem.Challenge.rw_ty0040_01.row.prog w) A (call (.ref 106) [.ref pf, .str " " a1, .str b a2] []) Q E s := by
  have N := newsMk (P1.at N₀).1 (newsMk (P2.at (P1.at N₀).2).1 (newsMk (P3.at (P2.at (P1.at N₀).2).2).1 (P4.front4 P5 P6 P7 (P3.at (P2.at (P1.at N₀).2).2).2)))
  clear N₀
  have lts : ∀ t, pf < t → pfd < t → ln < t → ac < t → acd < t → (155 : Nat) < t → (162 : Nat) < t → AllLt t rest → ∀ p ∈ news, p.1 < t := by
    intro t a1 a2 a3 a4 a5 a6 a7 a8 p hp
    rcases P1.cases hp with rfl | hp
    · exact a1
    rcases P2.cases hp with rfl | hp
    · exact a2
    rcases P3.cases hp with rfl | hp
    · exact a3
    rcases P4.cases hp with rfl | hp
    · exact a4
    rcases P5.cases hp with rfl | hp
    · exact a5
    rcases P6.cases hp with rfl | hp
    · exact a6
    rcases P7.cases hp with rfl | hp
    · exact a7
    exact allLt_mem a8 p hp
  walk_at "dis"
  have hb1 : ∀ p ∈ spaced bs ++ [((" " : Str), b)], p.1.length ≤ 1000 ∧ p.2.length ≤ 1000 := by
    rw [show spaced bs ++ [((" " : Str), b)] = spaced (bs ++ [b]) by rw [spaced_append]; rfl]
    exact row_hb hw
  have hlen : ini + ((spaced bs ++ [((" " : Str), b)]).map lenPair).sum = ini + rowLen (bs ++ [b]) := by rw [show spaced bs ++ [((" " : Str), b)] = spaced (bs ++ [b]) by rw [spaced_append]; rfl]; rfl
  obtain ⟨b1, b2⟩ := rowLen_bounds hw
  rw [List.length_append] at b2
  simp only [List.length_cons, List.length_nil] at b2
  have hsz := hTu.length
  rw [spaced_length] at hsz
  have hsi : items.size = items.toList.length := by simp
  have hz8 : items.size ≤ sizeLine := by rw [sizeLine_eq]; omega
  have hz9 : items.size < sizeLine := by rw [sizeLine_eq]; omega
  k_enter
  repeat' (walk_at "go")
  rw [hlen]
  dsimp only [W.LenBack]
  refine ⟨⟨by omega, by omega⟩, ?_⟩
  repeat' (walk_at "go")
  rename_i kF kN
  refine' h _ _ _ _ _ _ _ _ _ 0 _ _ _ kF ?nz ?lz ?c1z ?c2z ?c3z
  case nz => walk_at "news"
  case lz => refine lts _ ?_ ?_ ?_ ?_ ?_ ?_ ?_ ?_ <;> assumption
  case c1z => assumption
  case c2z => assumption
  case c3z => assumption

end

theorem off_cons {a : Addr} {as : List Addr} {l : List (Addr × Obj)} (h1 : Off [a] l) (h2 : Off as l) : Off (a :: as) l := fun p hp hm => by
  rcases List.mem_cons.mp hm with e | hm
  · exact h1 p hp (by rw [e]; exact .head _)
  · exact h2 p hp hm
theorem off_lt {d : Addr} {l : List (Addr × Obj)} (h : AllLt d l) : Off [d] l := fun p hp hm => Nat.ne_of_lt (allLt_mem h p hp) (List.mem_singleton.mp hm)
theorem off_none {l : List (Addr × Obj)} : Off [] l := fun _ _ hm => nomatch hm
/-- one word more on a page -/
noncomputable def layStep (width : Int) (st : List (List Str) × List Str × Int) (b : Str) : List (List Str) × List Str × Int :=
  if st.2.2 + rowLen (st.2.1 ++ [b]) ≤ width then (st.1, st.2.1 ++ [b], st.2.2)
  else if st.2.1.isEmpty && st.2.2 == 0 then (st.1, [b], 0)
  else (st.1 ++ [st.2.1], [b], 0)

set_option maxHeartbeats 4000000
section
local macro_rules | `(tactic| walk_at "execs cons") => `(tactic| walk_at "fold")
variable {w : World} {A : Around} {E : Value → Shared → Prop} {s : Shared} {L pf pfd ln ac acd : Addr} {h₀ : Heap} {m mg mb : Str → Option Value} {loose : List Str} {news r1 r2 r3 r4 r5 r6 rest : List (Addr × Obj)} {Q : Value → Shared → Prop} {items ls : Array Value} {ep nl : Nat} {dk it : Tok} {ps ps2 : Array Value} {kt : Nat → Tok} {width ini : Int} {bs : List Str} {b : Str} {a1 a2 : Tok}
theorem chunk_split (F : Fr h₀ L s.heap m) (X : (hd.heap_1 w.params).In h₀) (N₀ : News h₀ L s.heap news) (T : TopRead hd.view_1 loose mg mb h₀) (G : AllBare s.gens) (M : Mod mg h₀)
    (P1 : Pull (pf, instObj 109 pfd) news r1) (P2 : Pull (pfd, pfD w.params kt width ln ac) r1 r2) (P3 : Pull (ln, listOf ls nl) r2 r3) (P4 : Pull (ac, accObj acd items ep) r3 r4) (P5 : Pull (acd, accD w.params dk (.int ini it)) r4 r5)
    (P6 : Pull ((155 : Nat), tabObj ps) r5 r6) (P7 : Pull ((162 : Nat), tabObj ps2) r6 rest) (ht : TriplesOk ps.toList) (ht2 : TriplesOk ps2.toList)
    (h0 : 0 ≤ ini) (h9 : ini ≤ 1000) (hls : ls.size ≤ sizeLine) (hTu : Tups rest items.toList (spaced bs)) (hw : ∀ x ∈ bs ++ [b], WordOk x) (hl : bs.length ≤ 39)
    (hfit : width < ini + rowLen (bs ++ [b])) (hne : bs ≠ [])
    (hd : Dis [pf, pfd, ln, ac, acd, (155 : Nat), (162 : Nat)]) (hoff : Off [pf, pfd, ln, ac, acd, (155 : Nat), (162 : Nat)] rest) (hroom : A.depth < 950) (hh : A.handled = none) (hu : A.units < 7000)
    (h : ∀ h' gs tk ep' dk' it' ps' ps2' nl' (t5 : Tok) (t : Addr) (ta tb : Tok), Fr h₀ L h' m → News h₀ L h' ((pf, instObj 109 pfd) :: (pfd, pfD w.params kt width ln ac) :: (ln, listOf (ls.push (.str (rowTxt bs) t5)) nl') :: (ac, accObj acd (#[.ref t]) ep') :: (acd, accD w.params dk' (.int 0 it')) :: ((155 : Nat), tabObj ps') :: ((162 : Nat), tabObj ps2') :: (t, pairObj (.str " " ta) (.str b tb)) :: rest) →
      (∀ p ∈ news, p.1 < t) → TriplesOk ps'.toList → TriplesOk ps2'.toList → AllBare gs → Q .none { s with heap := h', gens := gs, toks := tk }) :
    wpAny (model PySem.Challenge.rw_ty0040_01.row.prog w) A (call (.ref 106) [.ref pf, .str " " a1, .str b a2] []) Q E s := by
  have N := newsMk (P1.at N₀).1 (newsMk (P2.at (P1.at N₀).2).1 (newsMk (P3.at (P2.at (P1.at N₀).2).2).1 (P4.front4 P5 P6 P7 (P3.at (P2.at (P1.at N₀).2).2).2)))
  clear N₀
  have lts : ∀ t, pf < t → pfd < t → ln < t → ac < t → acd < t → (155 : Nat) < t → (162 : Nat) < t → AllLt t rest → ∀ p ∈ news, p.1 < t := by
    intro t a1 a2 a3 a4 a5 a6 a7 a8 p hp
    rcases P1.cases hp with rfl | hp
    · exact a1
    rcases P2.cases hp with rfl | hp
    · exact a2
    rcases P3.cases hp with rfl | hp
    · exact a3
    rcases P4.cases hp with rfl | hp
    · exact a4
    rcases P5.cases hp with rfl | hp
    · exact a5
    rcases P6.cases hp with rfl | hp
    · exact a6
    rcases P7.cases hp with rfl | hp
    · exact a7
    exact allLt_mem a8 p hp
  walk_at "dis"
  have hb1 : ∀ p ∈ spaced bs ++ [((" " : Str), b)], p.1.length ≤ 1000 ∧ p.2.length ≤ 1000 := by
    rw [show spaced bs ++ [((" " : Str), b)] = spaced (bs ++ [b]) by rw [spaced_append]; rfl]
    exact row_hb hw
  have hlen : ini + ((spaced bs ++ [((" " : Str), b)]).map lenPair).sum = ini + rowLen (bs ++ [b]) := by rw [show spaced bs ++ [((" " : Str), b)] = spaced (bs ++ [b]) by rw [spaced_append]; rfl]; rfl
  obtain ⟨b1, b2⟩ := rowLen_bounds hw
  rw [List.length_append] at b2
  simp only [List.length_cons, List.length_nil] at b2
  have hsz := hTu.length
  rw [spaced_length] at hsz
  have hsi : items.size = items.toList.length := by simp
  have hz7 : items.size ≤ 1000 := by omega
  have hz8 : items.size ≤ sizeLine := by rw [sizeLine_eq]; omega
  have hz9 : items.size < sizeLine := by rw [sizeLine_eq]; omega
  have hwb : ∀ x ∈ bs, WordOk x := fun x hx => hw x (List.mem_append_left _ hx)
  have hb0 : ∀ p ∈ spaced bs, p.1.length ≤ 1000 ∧ p.2.length ≤ 1000 := row_hb hwb
  have hok0 : JoinOk "" ((spaced bs).map catPair) = true := row_ok hwb (by omega)
  have hz0 : (spaced bs).length ≤ sizeLine := by rw [spaced_length, sizeLine_eq]; omega
  k_enter
  repeat' (walk_at "go")
  rw [hlen]
  dsimp only [W.LenBack]
  refine ⟨⟨by omega, by omega⟩, ?_⟩
  repeat' (walk_at "go")
  refine for_G ?_
  repeat' (walk_at "go")
  refine' sp_loop ?k1z ?k2z ?k3z ?k4z ?k5z ?_
  case k1z => with_unfolding_all assumption
  case k2z => rfl
  case k3z => rfl
  case k4z => k_asm
  case k5z => k_asm
  intro I9 o9 u9 h9 tk9 l9 F9 N9
  k_lt l9
  repeat' (walk_at "go")
  refine for_G ?_
  repeat' (walk_at "go")
  have ek : ∀ v : Value, (((items.push v).size : Nat) : Int) - 1 = (items.size : Int) := fun v => by simp
  refine' range_first (n := items.size) ?k1z ?k2z ?k3z ?k4z ?k5z ?krz ?ksz ?knz ?kpz ?_
  case k1z => with_unfolding_all assumption
  case k2z => rfl
  case k3z => rfl
  case k4z => k_asm
  case k5z => k_asm
  case krz => assumption
  case ksz => (rw [ek]; exact range_small (Int.natCast_nonneg _) (by omega))
  case knz => (rw [ek]; exact range_down (Int.natCast_nonneg _))
  case kpz => (cases bs with
    | nil => exact absurd rfl hne
    | cons _ _ => (rw [List.length_cons] at hsz; omega))
  intro I8 o8 u8 h8 tk8 l8 F8 N8
  k_lt l8
  simp only [ek] at F8
  repeat' (first | walk_at "go" | (dsimp only [StepG]; walk1) | (dsimp only [StrBack]; walk1) | fail)
  rename_i kF kN
  refine' h _ _ _ _ _ _ _ _ _ _ _ _ _ kF ?nz ?lz ?c1z ?c2z ?c3z
  case nz => walk_at "news"
  case lz => refine lts _ ?_ ?_ ?_ ?_ ?_ ?_ ?_ ?_ <;> assumption
  case c1z => assumption
  case c2z => assumption
  case c3z => assumption
end

set_option maxHeartbeats 4000000
section
local macro_rules | `(tactic| walk_at "execs cons") => `(tactic| walk_at "fold")
variable {w : World} {A : Around} {E : Value → Shared → Prop} {s : Shared} {L pf pfd ln ac acd : Addr} {h₀ : Heap} {m mg mb : Str → Option Value} {loose : List Str} {news r1 r2 r3 r4 r5 r6 rest : List (Addr × Obj)} {Q : Value → Shared → Prop} {items ls : Array Value} {ep nl : Nat} {dk it : Tok} {ps ps2 : Array Value} {kt : Nat → Tok} {width ini : Int} {bs : List Str} {b : Str} {a1 a2 : Tok}
theorem chunk_single (F : Fr h₀ L s.heap m) (X : (hd.heap_1 w.params).In h₀) (N₀ : News h₀ L s.heap news) (T : TopRead hd.view_1 loose mg mb h₀) (G : AllBare s.gens) (M : Mod mg h₀)
    (P1 : Pull (pf, instObj 109 pfd) news r1) (P2 : Pull (pfd, pfD w.params kt width ln ac) r1 r2) (P3 : Pull (ln, listOf ls nl) r2 r3) (P4 : Pull (ac, accObj acd #[] ep) r3 r4) (P5 : Pull (acd, accD w.params dk (.int ini it)) r4 r5)
    (P6 : Pull ((155 : Nat), tabObj ps) r5 r6) (P7 : Pull ((162 : Nat), tabObj ps2) r6 rest) (ht : TriplesOk ps.toList) (ht2 : TriplesOk ps2.toList)
    (h0 : 0 ≤ ini) (h9 : ini ≤ 1000) (hls : ls.size ≤ sizeLine) (hw : WordOk b)
    (hfit : width < ini + rowLen [b])
    (hd : Dis [pf, pfd, ln, ac, acd, (155 : Nat), (162 : Nat)]) (hoff : Off [pf, pfd, ln, ac, acd, (155 : Nat), (162 : Nat)] rest) (hroom : A.depth < 950) (hh : A.handled = none) (hu : A.units < 7000)
    (h : ∀ h' gs tk ep' dk' it' ps' ps2' nl' (t5 : Tok) (t : Addr) (ta tb : Tok), Fr h₀ L h' m → News h₀ L h' ((pf, instObj 109 pfd) :: (pfd, pfD w.params kt width ln ac) :: (ln, listOf (flushed ls [] ini t5) nl') :: (ac, accObj acd (#[.ref t]) ep') :: (acd, accD w.params dk' (.int 0 it')) :: ((155 : Nat), tabObj ps') :: ((162 : Nat), tabObj ps2') :: (t, pairObj (.str " " ta) (.str b tb)) :: rest) →
      (∀ p ∈ news, p.1 < t) → TriplesOk ps'.toList → TriplesOk ps2'.toList → AllBare gs → Q .none { s with heap := h', gens := gs, toks := tk }) :
    wpAny (model PySem.Challenge.rw_ty0040_01.row.prog w) A (call (.ref 106) [.ref pf, .str " " a1, .str b a2] []) Q E s := by
  have N := newsMk (P1.at N₀).1 (newsMk (P2.at (P1.at N₀).2).1 (newsMk (P3.at (P2.at (P1.at N₀).2).2).1 (P4.front4 P5 P6 P7 (P3.at (P2.at (P1.at N₀).2).2).2)))
  clear N₀
  have lts : ∀ t, pf < t → pfd < t → ln < t → ac < t → acd < t → (155 : Nat) < t → (162 : Nat) < t → AllLt t rest → ∀ p ∈ news, p.1 < t := by
    intro t a1 a2 a3 a4 a5 a6 a7 a8 p hp
    rcases P1.cases hp with rfl | hp
    · exact a1
    rcases P2.cases hp with rfl | hp
    · exact a2
    rcases P3.cases hp with rfl | hp
    · exact a3
    rcases P4.cases hp with rfl | hp
    · exact a4
    rcases P5.cases hp with rfl | hp
    · exact a5
    rcases P6.cases hp with rfl | hp
    · exact a6
    rcases P7.cases hp with rfl | hp
    · exact a7
    exact allLt_mem a8 p hp
  walk_at "dis"
  have hb1 : ∀ p ∈ [((" " : Str), b)], p.1.length ≤ 1000 ∧ p.2.length ≤ 1000 := row_hb (bs := [b]) fun x hx => by simp at hx; subst hx; exact hw
  have hlen : ini + ([((" " : Str), b)].map lenPair).sum = ini + rowLen [b] := rfl
  obtain ⟨b1, b2⟩ := rowLen_bounds (bs := [b]) fun x hx => by simp at hx; subst hx; exact hw
  simp only [List.length_cons, List.length_nil] at b2
  have hTu0 : Tups rest (#[] : Array Value).toList (spaced []) := .nil
  have hw0 : ∀ b ∈ ([] : List Str), WordOk b := fun _ h => nomatch h
  have hl0 : ([] : List Str).length ≤ 40 := Nat.zero_le _
  k_enter
  repeat' (walk_at "go")
  rw [hlen]
  dsimp only [W.LenBack]
  refine ⟨⟨by omega, by omega⟩, ?_⟩
  repeat' (walk_at "go")
  refine for_G ?_
  repeat' (walk_at "go")
  refine' sp_loop ?k1z ?k2z ?k3z ?k4z ?k5z ?_
  case k1z => with_unfolding_all assumption
  case k2z => rfl
  case k3z => rfl
  case k4z => k_asm
  case k5z => k_asm
  intro I9 o9 u9 h9 tk9 l9 F9 N9
  k_lt l9
  repeat' (walk_at "go")
  refine for_G ?_
  repeat' (walk_at "go")
  refine' range_none ?k1z ?k2z ?k3z ?k4z ?k5z ?krz ?ksz ?knz ?_
  case k1z => with_unfolding_all assumption
  case k2z => rfl
  case k3z => rfl
  case k4z => k_asm
  case k5z => k_asm
  case krz => assumption
  case ksz => exact range_small (k := 0) (by decide) (by decide)
  case knz => exact range_down (k := 0) (by decide)
  intro h8 tk8 F8 N8
  repeat' (walk_at "go")
  show StepG _ _ _ _ _ _ _ .cont _
  refine' ⟨_, _, _, _, (ac, accObj acd _ _) :: (acd, accD w.params dk _) :: (pf, instObj 109 pfd) :: (pfd, pfD w.params kt width ln ac) :: (ln, listOf ls nl) :: ((155 : Nat), _) :: ((162 : Nat), _) :: (_, pairObj (.str " " _) (.str b _)) :: rest, rfl, F8, ?nz, ?offz, ?goz⟩
  case nz => walk_at "news"
  case offz =>
    have hof : Off [I9] rest := fun p hp q => Nat.ne_of_lt (allLt_mem (by assumption) p hp) (List.mem_singleton.mp q)
    show Off [I9] _
    k_mem
  intro h7 tk7 F7 N7
  repeat' (first | walk_at "go" | (dsimp only [StepG]; walk1) | fail)
  · rename_i kF kN
    refine' h _ _ _ _ _ _ _ _ _ _ _ _ _ kF ?nz ?lz ?c1z ?c2z ?c3z
    case nz => walk_at "news"
    case lz => refine lts _ ?_ ?_ ?_ ?_ ?_ ?_ ?_ ?_ <;> assumption
    case c1z => assumption
    case c2z => assumption
    case c3z => assumption
  · rename_i kF kN
    have hi : ini = 0 := by omega
    subst hi
    have hf : flushed ls [] 0 0 = ls := if_pos ⟨rfl, rfl⟩
    refine' h _ _ _ _ _ _ _ _ _ 0 _ _ _ kF ?nz ?lz ?c1z ?c2z ?c3z
    case nz => (rw [hf]; walk_at "news")
    case lz => refine lts _ ?_ ?_ ?_ ?_ ?_ ?_ ?_ ?_ <;> assumption
    case c1z => assumption
    case c2z => assumption
    case c3z => assumption
end

set_option maxHeartbeats 4000000
section
variable {w : World} {A : Around} {E : Value → Shared → Prop} {s : Shared} {L pf pfd : Addr} {h₀ : Heap} {m mg mb : Str → Option Value} {loose : List Str} {news : List (Addr × Obj)} {Q : Value → Shared → Prop} {head width : Int} {t1 t2 t3 t4 : Tok}
theorem fmt_init (F : Fr h₀ L s.heap m) (X : (hd.heap_1 w.params).In h₀) (N : News h₀ L s.heap ((pf, instObj 109 pfd) :: (pfd, dictOf [] 0) :: news)) (T : TopRead hd.view_1 loose mg mb h₀) (M : Mod mg h₀)
    (hne : @Ne Nat pf pfd) (hoff : Off [pf, pfd] news) (hroom : A.depth < 940)
    (h : ∀ ln ac acd h' tk ep nl dk it (ks : List Tok), Fr h₀ L h' m → News h₀ L h' ((pf, instObj 109 pfd) :: (pfd, pfD w.params (fun i => ks.getD i 0) width ln ac) :: (ln, listOf #[] nl) :: (ac, accObj acd #[] ep) :: (acd, accD w.params dk (.int head it)) :: news) →
      (∀ p ∈ (pf, instObj 109 pfd) :: (pfd, dictOf [] 0) :: news, p.1 < ln ∧ p.1 < ac ∧ p.1 < acd) → @LT.lt Nat _ ln ac → @LT.lt Nat _ ln acd → @LT.lt Nat _ acd ac → Q .none { s with heap := h', toks := tk }) :
    codeAny (model PySem.Challenge.rw_ty0040_01.row.prog w) A (.call (.ref 50) ⟨[.ref pf, .int head t1, .int width t2, .str " " t3, .str " " t4], []⟩) (fun r s' => match r with | .ok (.ret v) => Q v s' | .ok _ => False | .error e => E e s') s := by
  walk_at "enterC"
  repeat' (walk_at "go")
  rename_i kF kN
  refine' h _ _ _ _ _ _ _ _ _ [_, _, _, _, _, _, _, _, _, _] kF ?nz ?lz ?c1z ?c2z ?c3z
  case nz => walk_at "news"
  case lz =>
    intro p hp
    simp only [List.mem_cons] at hp
    rcases hp with rfl | rfl | hp
    · refine ⟨?_, ?_, ?_⟩ <;> (show @LT.lt Nat _ _ _; dsimp only; omega)
    · refine ⟨?_, ?_, ?_⟩ <;> (show @LT.lt Nat _ _ _; dsimp only; omega)
    · exact ⟨allLt_mem (by assumption) p hp, Nat.lt_trans (allLt_mem (by assumption) p hp) (by assumption), allLt_mem (by assumption) p hp⟩
  case c1z => omega
  case c2z => omega
  case c3z => omega
theorem fmt_new (F : Fr h₀ L s.heap m) (X : (hd.heap_1 w.params).In h₀) (N : News h₀ L s.heap news) (T : TopRead hd.view_1 loose mg mb h₀) (M : Mod mg h₀) (hroom : A.depth < 930)
    (h : ∀ x dx ln ac acd h' tk ep nl dk it (ks : List Tok), Fr h₀ L h' m → News h₀ L h' ((x, instObj 109 dx) :: (dx, pfD w.params (fun i => ks.getD i 0) width ln ac) :: (ln, listOf #[] nl) :: (ac, accObj acd #[] ep) :: (acd, accD w.params dk (.int head it)) :: news) →
      (∀ p ∈ news, @LT.lt Nat _ p.1 x ∧ @LT.lt Nat _ p.1 dx ∧ @LT.lt Nat _ p.1 ln ∧ @LT.lt Nat _ p.1 ac ∧ @LT.lt Nat _ p.1 acd) → Dis [x, dx, ln, ac, acd] → Q (.ref x) { s with heap := h', toks := tk }) :
    wpAny (model PySem.Challenge.rw_ty0040_01.row.prog w) A (call (.ref 109) [.int head t1, .int width t2, .str " " t3, .str " " t4] []) Q E s := by
  refine call_cls F X N (by k_is) (by k_is) (by k_is) ?_
  intro x dx h' F' N' l1 l2
  refine codeAny_mono (fmt_init (s := { s with heap := h' }) (news := news) (E := fun _ _ => False) (Q := fun v s' => v = .none ∧ Q (.ref x) s') F' X N' T M (Nat.ne_of_gt l2) ?_ ?_ ?_) fun r s' z => ?_
  · intro p hp hm
    have a := l1 p hp
    rcases List.mem_cons.mp hm with e | hm
    · rw [e] at a; exact absurd (Nat.lt_trans a l2) (Nat.lt_irrefl _)
    · rw [List.mem_singleton.mp hm] at a; exact Nat.lt_irrefl _ a
  · k_room
  · intro ln ac acd h'' tk ep nl dk it ks F'' N'' lt a b c
    refine ⟨rfl, h x dx ln ac acd h'' tk ep nl dk it ks F'' N'' (fun p hp => ?_) ?_⟩
    · have a := l1 p hp
      obtain ⟨b1, b2, b3⟩ := lt p (.tail _ (.tail _ hp))
      exact ⟨Nat.lt_trans a l2, a, b1, b2, b3⟩
    · obtain ⟨b1, b2, b3⟩ := lt _ (.head _)
      obtain ⟨d1, d2, d3⟩ := lt _ (.tail _ (.head _))
      have e : @LT.lt Nat _ dx x := l2
      exact ⟨⟨Nat.ne_of_gt e, Nat.ne_of_lt b1, Nat.ne_of_lt b2, Nat.ne_of_lt b3, trivial⟩, ⟨Nat.ne_of_lt d1, Nat.ne_of_lt d2, Nat.ne_of_lt d3, trivial⟩, ⟨Nat.ne_of_lt a, Nat.ne_of_lt b, trivial⟩, ⟨Nat.ne_of_gt c, trivial⟩, trivial, trivial⟩
  · rcases r with e | (v | _ | _ | _)
    all_goals first | exact And.intro (And.left z) (And.right z) | exact False.elim z
end

set_option maxHeartbeats 4000000
theorem strs_snoc {vs : List Value} {ys : List Str} {y : Str} {t : Tok} (h : StrsAre vs ys) : StrsAre (vs ++ [.str y t]) (ys ++ [y]) := by
  induction h with
  | nil => exact .cons _ _ .nil
  | cons a b _ ih => exact .cons _ _ ih
theorem strs_len {vs : List Value} {ys : List Str} (h : StrsAre vs ys) : vs.length = ys.length := by
  induction h with
  | nil => rfl
  | cons _ _ _ ih => simp [ih]
/-- the lines after a flush, as texts -/
noncomputable def flushedL (lines : List Str) (bs : List Str) (ini : Int) : List Str := if bs = [] ∧ ini = 0 then lines else lines ++ [rowTxt bs]
theorem flushed_strs {ls : Array Value} {lines bs : List Str} {ini : Int} {t : Tok} (h : StrsAre ls.toList lines) : StrsAre (flushed ls bs ini t).toList (flushedL lines bs ini) := by
  unfold flushed flushedL
  split
  · exact h
  · rw [Array.toList_push]
    exact strs_snoc h
theorem rowTxt_len {bs : List Str} : ((rowTxt bs).length : Int) = rowLen bs := by
  rw [length_list, rowTxt_list]
  induction bs with
  | nil => rfl
  | cons b bs ih =>
    rw [rowLen_cons, List.flatMap_cons, List.length_append, ← ih, List.length_cons, length_list b]
    push_cast
    omega
section
variable {w : World} {A : Around} {E : Value → Shared → Prop} {s : Shared} {L pf pfd ln ac acd : Addr} {h₀ : Heap} {m mg mb : Str → Option Value} {loose : List Str} {news r1 r2 r3 r4 r5 r6 rest : List (Addr × Obj)} {Q : Value → Shared → Prop} {items ls : Array Value} {ep nl : Nat} {dk it : Tok} {ps ps2 : Array Value} {kt : Nat → Tok} {width ini : Int} {bs lines : List Str} {sep : Str} {t1 : Tok}
theorem str_page (F : Fr h₀ L s.heap m) (X : (hd.heap_1 w.params).In h₀) (N₀ : News h₀ L s.heap news) (T : TopRead hd.view_1 loose mg mb h₀) (G : AllBare s.gens) (M : Mod mg h₀)
    (P1 : Pull (pf, instObj 109 pfd) news r1) (P2 : Pull (pfd, pfD w.params kt width ln ac) r1 r2) (P3 : Pull (ln, listOf ls nl) r2 r3) (P4 : Pull (ac, accObj acd items ep) r3 r4) (P5 : Pull (acd, accD w.params dk (.int ini it)) r4 r5)
    (P6 : Pull ((155 : Nat), tabObj ps) r5 r6) (P7 : Pull ((162 : Nat), tabObj ps2) r6 rest) (ht : TriplesOk ps.toList) (ht2 : TriplesOk ps2.toList)
    (h0 : 0 ≤ ini) (h9 : ini ≤ 1000) (hS : StrsAre ls.toList lines) (hwt : (lines.map (·.length)).sum + lines.length ≤ 1000000) (hTu : Tups rest items.toList (spaced bs)) (hw : ∀ b ∈ bs, WordOk b) (hl : bs.length ≤ 40) (hsep : sep.length ≤ 16)
    (hd : Dis [pf, pfd, ln, ac, acd, (155 : Nat), (162 : Nat)]) (hoff : Off [pf, pfd, ln, ac, acd, (155 : Nat), (162 : Nat)] rest) (hroom : A.depth < 940) (hh : A.handled = none) (hu : A.units < 7000)
    (h : ∀ h' gs tk ep' dk' it' ps' ps2' nl' ls' t5, Fr h₀ L h' m → News h₀ L h' ((pf, instObj 109 pfd) :: (pfd, pfD w.params kt width ln ac) :: (ln, listOf ls' nl') :: (ac, accObj acd #[] ep') :: (acd, accD w.params dk' (.int 0 it')) :: ((155 : Nat), tabObj ps') :: ((162 : Nat), tabObj ps2') :: rest) →
      StrsAre ls'.toList (flushedL lines bs ini) → TriplesOk ps'.toList → TriplesOk ps2'.toList → AllBare gs → Q (.str (Txt.join sep (flushedL lines bs ini)) t5) { s with heap := h', gens := gs, toks := tk }) :
    wpAny (model PySem.Challenge.rw_ty0040_01.row.prog w) A (call (.ref 57) [.ref pf, .str sep t1] []) Q E s := by
  have N := newsMk (P1.at N₀).1 (newsMk (P2.at (P1.at N₀).2).1 (newsMk (P3.at (P2.at (P1.at N₀).2).2).1 (P4.front4 P5 P6 P7 (P3.at (P2.at (P1.at N₀).2).2).2)))
  clear N₀
  have hlen := strs_len hS
  have hls : ls.size ≤ sizeLine := by
    rw [sizeLine_eq]
    have : ls.size = ls.toList.length := by simp
    omega
  have hwt' : ((flushedL lines bs ini).map (·.length)).sum + (flushedL lines bs ini).length ≤ 1048576 := by
    unfold flushedL
    split
    · omega
    · have a := (rowLen_bounds hw).2
      rw [← rowTxt_len] at a
      simp only [List.map_append, List.sum_append, List.length_append, List.map_cons, List.map_nil, List.sum_cons, List.sum_nil, List.length_cons, List.length_nil]
      omega
  walk_at "dis"
  k_enter
  repeat' (walk_at "go")
  rename_i nl9 t9 F9 N9 hta htb hG
  refine join_listW (News.isList N9 (by k_mem)) (flushed_strs hS) hsep hwt' fun t' k => ?_
  repeat' (walk_at "go")
  rename_i kF kN
  refine' h _ _ _ _ _ _ _ _ _ _ _ kF ?nz ?hsz ?c1z ?c2z ?c3z
  case nz => walk_at "news"
  case hsz => exact flushed_strs hS
  case c1z => assumption
  case c2z => assumption
  case c3z => assumption
end

section
variable {w : World} {A : Around} {E : Value → Shared → Prop} {s : Shared} {L pf pfd ln ac acd : Addr} {h₀ : Heap} {m mg mb : Str → Option Value} {loose : List Str} {news r1 r2 r3 r4 r5 r6 rest : List (Addr × Obj)} {Q : Value → Shared → Prop} {items ls : Array Value} {ep nl : Nat} {dk it : Tok} {ps ps2 : Array Value} {kt : Nat → Tok} {width ini : Int} {bs : List Str} {b : Str} {a1 a2 : Tok} {rows : List (List Str)} {tl : List (Addr × Obj)}
theorem chunk_call (F : Fr h₀ L s.heap m) (X : (hd.heap_1 w.params).In h₀) (N₀ : News h₀ L s.heap news) (T : TopRead hd.view_1 loose mg mb h₀) (G : AllBare s.gens) (M : Mod mg h₀)
    (P1 : Pull (pf, instObj 109 pfd) news r1) (P2 : Pull (pfd, pfD w.params kt width ln ac) r1 r2) (P3 : Pull (ln, listOf ls nl) r2 r3) (P4 : Pull (ac, accObj acd items ep) r3 r4) (P5 : Pull (acd, accD w.params dk (.int ini it)) r4 r5)
    (P6 : Pull ((155 : Nat), tabObj ps) r5 r6) (P7 : Pull ((162 : Nat), tabObj ps2) r6 rest) (ht : TriplesOk ps.toList) (ht2 : TriplesOk ps2.toList)
    (h0 : 0 ≤ ini) (h9 : ini ≤ 1000) (hS : StrsAre ls.toList (rows.map rowTxt)) (hrl : rows.length ≤ 1000) (htl : ∀ p ∈ tl, p ∈ rest) (hTu : Tups tl items.toList (spaced bs)) (hw : ∀ x ∈ bs ++ [b], WordOk x) (hl : bs.length ≤ 39)
    (hd : Dis [pf, pfd, ln, ac, acd, (155 : Nat), (162 : Nat)]) (hoff : Off [pf, pfd, ln, ac, acd, (155 : Nat), (162 : Nat)] rest) (hroom : A.depth < 950) (hh : A.handled = none) (hu : A.units < 7000)
    (h : ∀ h' gs tk ep' dk' it' ps' ps2' nl' ls' (items' : Array Value) (t : Addr) (ta tb : Tok), Fr h₀ L h' m → News h₀ L h' ((pf, instObj 109 pfd) :: (pfd, pfD w.params kt width ln ac) :: (ln, listOf ls' nl') :: (ac, accObj acd items' ep') :: (acd, accD w.params dk' (.int (layStep width (rows, bs, ini) b).2.2 it')) :: ((155 : Nat), tabObj ps') :: ((162 : Nat), tabObj ps2') :: (t, pairObj (.str " " ta) (.str b tb)) :: rest) →
      (∀ p ∈ news, p.1 < t) → StrsAre ls'.toList ((layStep width (rows, bs, ini) b).1.map rowTxt) → Tups ((t, pairObj (.str " " ta) (.str b tb)) :: tl) items'.toList (spaced (layStep width (rows, bs, ini) b).2.1) →
      TriplesOk ps'.toList → TriplesOk ps2'.toList → AllBare gs → Q .none { s with heap := h', gens := gs, toks := tk }) :
    wpAny (model PySem.Challenge.rw_ty0040_01.row.prog w) A (call (.ref 106) [.ref pf, .str " " a1, .str b a2] []) Q E s := by
  have hls : ls.size ≤ sizeLine := by
    have a := strs_len hS
    rw [List.length_map] at a
    rw [sizeLine_eq]
    have : ls.size = ls.toList.length := by simp
    omega
  have hnew : ∀ {t : Addr} {ta tb : Tok}, Tups ((t, pairObj (.str " " ta) (.str b tb)) :: tl) #[Value.ref t].toList (spaced [b]) := .cons (.head _) .nil
  by_cases hfit : ini + rowLen (bs ++ [b]) ≤ width
  · have e : layStep width (rows, bs, ini) b = (rows, bs ++ [b], ini) := if_pos hfit
    rw [e] at h
    refine chunk_fits F X N₀ T G M P1 P2 P3 P4 P5 P6 P7 ht ht2 h0 h9 hls (hTu.sub htl) hw hl hfit hd hoff hroom hh hu fun h' gs tk ep' dk' it' ps' ps2' nl' t5 t ta tb F' N' lt c1 c2 c3 => h h' gs tk ep' dk' it' ps' ps2' nl' ls _ t ta tb F' N' lt hS ?_ c1 c2 c3
    rw [spaced_append]
    exact Tups.push (hTu.sub fun p hp => .tail _ hp) (.head _)
  · by_cases hb : bs = []
    · subst hb
      have ei := hTu.nil_items
      subst ei
      have e : layStep width (rows, [], ini) b = (if ini = 0 then rows else rows ++ [[]], [b], 0) := by
        unfold layStep
        rw [if_neg hfit]
        by_cases hi : ini = 0
        · rw [if_pos (by simp [hi]), if_pos hi]
        · rw [if_neg (by simp [hi]), if_neg hi]
      rw [e] at h
      refine chunk_single F X N₀ T G M P1 P2 P3 P4 P5 P6 P7 ht ht2 h0 h9 hls (hw b (by simp)) (by simpa using hfit) hd hoff hroom hh hu fun h' gs tk ep' dk' it' ps' ps2' nl' t5 t ta tb F' N' lt c1 c2 c3 => h h' gs tk ep' dk' it' ps' ps2' nl' _ _ t ta tb F' N' lt ?_ hnew c1 c2 c3
      have z := flushed_strs (bs := []) (ini := ini) (t := t5) hS
      unfold flushedL at z
      by_cases hi : ini = 0
      · rw [if_pos ⟨rfl, hi⟩] at z; rw [if_pos hi]; exact z
      · rw [if_neg fun k => hi k.2] at z; rw [if_neg hi, List.map_append]; exact z
    · have e : layStep width (rows, bs, ini) b = (rows ++ [bs], [b], 0) := by
        unfold layStep
        rw [if_neg hfit, if_neg (by simp [hb])]
      rw [e] at h
      refine chunk_split F X N₀ T G M P1 P2 P3 P4 P5 P6 P7 ht ht2 h0 h9 hls (hTu.sub htl) hw hl (by omega) hb hd hoff hroom hh hu fun h' gs tk ep' dk' it' ps' ps2' nl' t5 t ta tb F' N' lt c1 c2 c3 => h h' gs tk ep' dk' it' ps' ps2' nl' _ _ t ta tb F' N' lt ?_ hnew c1 c2 c3
      rw [List.map_append, Array.toList_push]
      exact strs_snoc hS
end

section
variable {prog : Program} {w : World} {A : Around} {s : Shared} {env : Env} {h₀ : Heap} {m : Str → Option Value} {news : List (Addr × Obj)} {x : Str} {px : Pos} {body orelse : List Stmt} {Q : Flow → Shared → Prop}
/-- a loop over a list of the ledger -/
theorem list_loop {D : Addr} {its : Array Value} {n : Nat} {od : Obj} (hh : A.handled = none) (hx : env.kindOf x = some .local) (hp : (env.scope.kind == .class || (env.scope.kind == .module && env.locals != env.globals)) = false)
    (F : Fr h₀ env.locals s.heap m) (ND : News h₀ env.locals s.heap ((D, od) :: news)) (hod : od.cls = .type "list") (hdat : od.data = .seq its n)
    (J : Nat → (Str → Option Value) → List (Addr × Obj) → Array GenState → Prop) (h0 : J 0 m news s.gens)
    (turn : ∀ i v m₁ nx h₁ gs tk I o o2, its[i]? = some v → J i m₁ nx gs → (∀ p ∈ nx, @Ne Nat p.1 I) → (∀ p ∈ news, @LT.lt Nat _ p.1 I) → @LT.lt Nat _ D I → Fr h₀ env.locals h₁ (fun y => if y = x then some v else m₁ y) → News h₀ env.locals h₁ ((I, o) :: (D, o2) :: nx) →
      wpAny (model prog w) A (execs body env) (StepG h₀ env.locals [I] [(I, o), (D, o2)] (J (i + 1)) s Q) NoErr { s with heap := h₁, gens := gs, toks := tk })
    (done : ∀ h' gs tk m' nx, Fr h₀ env.locals h' m' → News h₀ env.locals h' nx → J its.size m' nx gs → wpAny (model prog w) A (execs orelse env) Q NoErr { s with heap := h', gens := gs, toks := tk }) :
    wpAny (model prog w) A (pyIter (.ref D)) (fun it s₂ => codeAny (model prog w) A (.forLoop (.Name x px) it body orelse env) (fun r s' => match r with | .ok f => Q f s' | .error e => cameBackBy (model prog w) A env NoErr e s') s₂) NoErr s := by
  obtain ⟨nD, N⟩ := news2 ND
  have hl : s.heap.IsList D its := ⟨od, nD.1, hod, n, hdat⟩
  refine wpAny_pyIter_list hl ?_
  have lt : ∀ p ∈ news, p.1 < s.heap.objs.size := fun p hp => Heap.lt_size (N p hp).1
  have ltD : D < s.heap.objs.size := Heap.lt_size nD.1
  have keepD : (s.heap.push { cls := .type "list_iterator", data := .fields #[.ref D, .int 0 0] }).get? D = some od := Heap.get?_push_of_some _ nD.1
  refine codeAny_loopG (s := { s with heap := _ }) (n := its.size) (J := J) (Walks.list hh _ D (Nat.ne_of_lt ltD) its) hx hp ?_ ?_ ⟨⟨_, Heap.get?_push_size _ rfl, rfl, rfl⟩, od, keepD, hod, n, hdat⟩ (F.push _) (fun p hp => (N.push F _) p (.tail _ hp)) (fun p hp q => Nat.ne_of_lt (lt p hp) (List.mem_singleton.mp q)) h0 ?_ ?_
  · intro b hb
    rcases List.mem_cons.mp hb with rfl | hb
    · exact fresh_at F _ (.head _)
    · obtain rfl := List.mem_singleton.mp hb
      exact ⟨nD.2.2, nD.2.1⟩
  · intro i h ⟨⟨o, ho, _⟩, o', ho', _⟩ b hb
    rcases List.mem_cons.mp hb with rfl | hb
    · rw [ho]; rfl
    · obtain rfl := List.mem_singleton.mp hb
      rw [ho']; rfl
  · intro i v m₁ nx h₁ gs tk hi hP hJ hnx F₁ N₁
    exact turn i v m₁ nx h₁ gs tk _ _ _ hP hJ (fun p hp e => hnx p hp (by rw [e]; exact .head _)) lt ltD F₁ N₁
  · intro h' gs tk m' nx F' N' _ hJ
    exact done h' gs tk m' nx F' N' hJ
end

theorem lay_facts {width : Int} : ∀ (l : List Str) (st : List (List Str) × List Str × Int), (l.foldl (layStep width) st).1.flatten ++ (l.foldl (layStep width) st).2.1 = st.1.flatten ++ st.2.1 ++ l ∧ (l.foldl (layStep width) st).1.length ≤ st.1.length + l.length ∧
    ((l.foldl (layStep width) st).2.2 = st.2.2 ∨ (l.foldl (layStep width) st).2.2 = 0)
  | [], st => ⟨by simp, Nat.le_refl _, .inl rfl⟩
  | b :: l, (rows, row, ini) => by
    rw [List.foldl_cons]
    obtain ⟨a, c, d⟩ := lay_facts l (layStep width (rows, row, ini) b)
    rw [a]
    refine ⟨?_, Nat.le_trans c ?_, ?_⟩
    · unfold layStep
      split
      · simp
      · split
        · rename_i h
          have : row = [] := by simpa using (Bool.and_eq_true_iff.mp h).1
          simp [this]
        · simp
    · unfold layStep
      rw [List.length_cons]
      split
      · show rows.length + _ ≤ rows.length + _; omega
      · split
        · show rows.length + _ ≤ rows.length + _; omega
        · show (rows ++ [row]).length + _ ≤ rows.length + _
          rw [List.length_append]
          simp
          omega
    · rcases d with d | d
      · rw [d]
        unfold layStep
        split
        · exact .inl rfl
        · split <;> exact .inr rfl
      · exact .inr d
set_option maxHeartbeats 4000000
section
variable {w : World} {A : Around} {E : Value → Shared → Prop} {s : Shared} {L : Addr} {h₀ : Heap} {m mg mb : Str → Option Value} {loose : List Str} {news r6 rest : List (Addr × Obj)} {Q : Value → Shared → Prop} {ps ps2 : Array Value} {width head : Int} {bs : List Str} {words : Str} {t1 t2 t3 : Tok}
/-- above everything of a ledger -/
noncomputable def Above (l : List (Addr × Obj)) (a : Addr) : Prop := ∀ p ∈ l, @LT.lt Nat _ p.1 a
theorem page_call (F : Fr h₀ L s.heap m) (X : (hd.heap_1 w.params).In h₀) (N₀ : News h₀ L s.heap news) (T : TopRead hd.view_1 loose mg mb h₀) (G : AllBare s.gens) (M : Mod mg h₀)
    (P6 : Pull ((155 : Nat), tabObj ps) news r6) (P7 : Pull ((162 : Nat), tabObj ps2) r6 rest) (ht : TriplesOk ps.toList) (ht2 : TriplesOk ps2.toList)
    (h0 : 0 ≤ head) (h9 : head ≤ 1000) (hsp : Txt.split words " " = bs) (hw : ∀ b ∈ bs, WordOk b) (hl : bs.length ≤ 39) (hwl : words.length ≤ 4000)
    (hoff : Off [(155 : Nat), (162 : Nat)] rest) (hroom : A.depth < 920) (hh : A.handled = none) (hu : A.units < 6000)
    (h : ∀ h' gs tk pf pfd ln ac acd ls nl items ep dk it ps' ps2' kt junk, Fr h₀ L h' m → News h₀ L h' ((pf, instObj 109 pfd) :: (pfd, pfD w.params kt width ln ac) :: (ln, listOf ls nl) :: (ac, accObj acd items ep) :: (acd, accD w.params dk (.int (bs.foldl (layStep width) ([], [], head)).2.2 it)) ::
        ((155 : Nat), tabObj ps') :: ((162 : Nat), tabObj ps2') :: (junk ++ rest)) → StrsAre ls.toList ((bs.foldl (layStep width) ([], [], head)).1.map rowTxt) → Tups junk items.toList (spaced (bs.foldl (layStep width) ([], [], head)).2.1) →
      Dis [pf, pfd, ln, ac, acd, (155 : Nat), (162 : Nat)] → Above news pf → Above news pfd → Above news ln → Above news ac → Above news acd → (∀ p ∈ junk, Above news p.1 ∧ @LT.lt Nat _ pf p.1 ∧ @LT.lt Nat _ pfd p.1 ∧ @LT.lt Nat _ ln p.1 ∧ @LT.lt Nat _ ac p.1 ∧ @LT.lt Nat _ acd p.1) →
      TriplesOk ps'.toList → TriplesOk ps2'.toList → AllBare gs → Q (.ref pf) { s with heap := h', gens := gs, toks := tk }) :
    wpAny (model PySem.Challenge.rw_ty0040_01.row.prog w) A (call (.ref 204) [.str words t1, .int width t2, .int head t3] []) Q E s := by
  have N := P6.front2 P7 N₀
  clear N₀
  have hoffR : ∀ {pf pfd ln ac acd : Addr} {junk : List (Addr × Obj)}, Above rest pf → Above rest pfd → Above rest ln → Above rest ac → Above rest acd → (∀ p ∈ junk, (@LT.lt Nat _ 155 p.1 ∧ @LT.lt Nat _ 162 p.1) ∧ @LT.lt Nat _ pf p.1 ∧ @LT.lt Nat _ pfd p.1 ∧ @LT.lt Nat _ ln p.1 ∧ @LT.lt Nat _ ac p.1 ∧ @LT.lt Nat _ acd p.1) →
      Off [pf, pfd, ln, ac, acd, (155 : Nat), (162 : Nat)] (junk ++ rest) := by
    intro pf pfd ln ac acd junk a1 a2 a3 a4 a5 hj p hp
    rcases List.mem_append.mp hp with hp | hp
    · obtain ⟨⟨b6, b7⟩, b1, b2, b3, b4, b5⟩ := hj p hp
      exact AllNe.not ⟨Nat.ne_of_gt b1, Nat.ne_of_gt b2, Nat.ne_of_gt b3, Nat.ne_of_gt b4, Nat.ne_of_gt b5, Nat.ne_of_gt b6, Nat.ne_of_gt b7, trivial⟩
    · have c := hoff p hp
      simp only [List.mem_cons, List.not_mem_nil, or_false, not_or] at c
      exact AllNe.not ⟨Nat.ne_of_lt (a1 p hp), Nat.ne_of_lt (a2 p hp), Nat.ne_of_lt (a3 p hp), Nat.ne_of_lt (a4 p hp), Nat.ne_of_lt (a5 p hp), c.1, c.2, trivial⟩
  have hsub : ∀ p ∈ news, p = ((155 : Nat), tabObj ps) ∨ p = ((162 : Nat), tabObj ps2) ∨ p ∈ rest := fun p hp => (P6.cases hp).imp_right fun hp => P7.cases hp
  k_enter
  repeat' (walk_at "go")
  refine' fmt_new ?k1z ?k2z ?k3z ?k4z ?k5z ?k6z ?_
  case k1z => k_asm
  case k2z => k_asm
  case k3z => k_asm
  case k4z => k_asm
  case k5z => k_asm
  case k6z => k_room
  intro pf pfd ln ac acd h1 tk1 ep1 nl1 dk1 it1 ks F1 N1 lt1 dis1
  have l155 := lt1 _ (.head _)
  have l162 := lt1 _ (.tail _ (.head _))
  have lrest : ∀ p ∈ rest, _ := fun p hp => lt1 p (.tail _ (.tail _ hp))
  dsimp only at l155 l162
  obtain ⟨i1, i2, i3, i4, i5⟩ := l155
  obtain ⟨j1, j2, j3, j4, j5⟩ := l162
  walk_at "dis"
  iterate 2 walk1
  refine for_G ?_
  iterate 7 walk1
  with_reducible rename News _ _ _ _ => Nb
  with_reducible rename Fr _ _ _ _ => Fb
  refine splitN1A Fb Nb rfl (fun lw h2 k2 e1 e2 e3 e4 eF eN => ?_) (by rw [sizeLine_eq]; omega)
  have ltD := fun (p : Addr × Obj) hp => (show @LT.lt Nat _ p.1 _ from Heap.lt_size (Nb p hp).1)
  obtain ⟨P, eF⟩ : ∃ P : Str → Option Value, Fr _ _ h2 (fun y => if y = "page" then some (.ref pf) else P y) := ⟨_, eF⟩
  have q1 := ltD _ (.head _)
  have q2 := ltD _ (.tail _ (.head _))
  have q3 := ltD _ (.tail _ (.tail _ (.head _)))
  have q4 := ltD _ (.tail _ (.tail _ (.tail _ (.head _))))
  have q5 := ltD _ (.tail _ (.tail _ (.tail _ (.tail _ (.head _)))))
  have q6 := ltD _ (.tail _ (.tail _ (.tail _ (.tail _ (.tail _ (.head _))))))
  have q7 := ltD _ (.tail _ (.tail _ (.tail _ (.tail _ (.tail _ (.tail _ (.head _)))))))
  dsimp only at q1 q2 q3 q4 q5 q6 q7
  refine' list_loop (its := (strValues lw).toArray) ?hhz rfl rfl eF eN rfl rfl (fun i m₁ nx gs => (∀ y, y ≠ ("word" : Str) → m₁ y = (if y = "page" then some (.ref pf) else P y)) ∧ AllBare gs ∧ ∃ (ls : Array Value) (nl : Nat) (items : Array Value) (ep : Nat) (dk it : Tok) (ps ps2 : Array Value) (junk : List (Addr × Obj)),
    nx = (pf, instObj 109 pfd) :: (pfd, pfD w.params (fun i => ks.getD i 0) width ln ac) :: (ln, listOf ls nl) :: (ac, accObj acd items ep) :: (acd, accD w.params dk (.int ((bs.take i).foldl (layStep width) ([], [], head)).2.2 it)) :: ((155 : Nat), tabObj ps) :: ((162 : Nat), tabObj ps2) :: (junk ++ rest) ∧
    StrsAre ls.toList (((bs.take i).foldl (layStep width) ([], [], head)).1.map rowTxt) ∧ Tups junk items.toList (spaced ((bs.take i).foldl (layStep width) ([], [], head)).2.1) ∧ TriplesOk ps.toList ∧ TriplesOk ps2.toList ∧
    (∀ p ∈ junk, ((@LT.lt Nat _ 155 p.1 ∧ @LT.lt Nat _ 162 p.1) ∧ @LT.lt Nat _ pf p.1 ∧ @LT.lt Nat _ pfd p.1 ∧ @LT.lt Nat _ ln p.1 ∧ @LT.lt Nat _ ac p.1 ∧ @LT.lt Nat _ acd p.1) ∧ Above rest p.1)) ?h0z ?turnz ?donez
  case hhz => with_unfolding_all assumption
  case h0z => exact ⟨fun _ _ => rfl, by assumption, _, _, _, _, _, _, _, _, [], rfl, .nil, .nil, ht, ht2, fun _ h => nomatch h⟩
  case turnz =>
    intro i v m₁ nx h₁ gs tk I o o2 hv hq1
    refine an3 hq1 ?_
    clear hq1
    intro hm hG hn2
    refine ex9 hn2 ?_
    clear hn2
    intro ls nl items ep dk it ps' ps2' junk hn3
    refine an6 hn3 ?_
    clear hn3
    intro eq4 hS hT hta htb hj
    subst eq4
    intro hI ltI DI F₁ N₁
    obtain ⟨b, tb, rfl, hbi⟩ : ∃ b t, v = .str b t ∧ bs[i]? = some b := by
      have hv' : (strValues lw)[i]? = some v := by simpa using hv
      rw [strValues, List.getElem?_map] at hv'
      obtain ⟨p, hp, rfl⟩ := Option.map_eq_some_iff.mp hv'
      refine ⟨p.1, p.2, rfl, ?_⟩
      rw [← hsp, ← e1, List.getElem?_map, hp]
      rfl
    have eM : (fun y => if y = ("word" : Str) then some (Value.str b tb) else m₁ y) = (fun y => if y = ("word" : Str) then some (Value.str b tb) else if y = "page" then some (.ref pf) else P y) := funext fun y => by
      by_cases hy : y = ("word" : Str)
      · rw [if_pos hy, if_pos hy]
      · rw [if_neg hy, if_neg hy, hm y hy]
    rw [eM] at F₁
    have etake : bs.take (i + 1) = bs.take i ++ [b] := by rw [List.take_add_one, hbi]; rfl
    have hib : i < bs.length := (List.getElem?_eq_some_iff.mp hbi).1
    have hbm : b ∈ bs := List.mem_of_getElem? hbi
    obtain ⟨f1, f2, f3⟩ := lay_facts (width := width) (bs.take i) ([], [], head)
    have tkl : (bs.take i).length ≤ 39 := by rw [List.length_take]; omega
    have hsub2 : ∀ x ∈ bs.take i, WordOk x := fun x hx => hw x (List.mem_of_mem_take hx)
    rw [etake]
    simp only [List.foldl_append, List.foldl_cons, List.foldl_nil]
    generalize (bs.take i).foldl (layStep width) ([], [], head) = st at *
    obtain ⟨rows, row, ini⟩ := st
    dsimp only at f1 f2 f3 hS hT N₁
    simp only [List.flatten_nil, List.nil_append, List.length_nil, Nat.zero_add] at f1 f2
    have hrow : ∀ x ∈ row ++ [b], WordOk x := fun x hx => by
      rcases List.mem_append.mp hx with hx | hx
      · exact hsub2 x (by rw [← f1]; exact List.mem_append_right _ hx)
      · rw [List.mem_singleton.mp hx]; exact hw b hbm
    have hrl : row.length ≤ 39 := by
      have := congrArg List.length f1
      rw [List.length_append] at this
      omega
    have hrw : rows.length ≤ 1000 := by omega
    have hi0 : 0 ≤ ini := by rcases f3 with e | e <;> omega
    have hi9 : ini ≤ 1000 := by rcases f3 with e | e <;> omega
    have u1 := ltI _ (.head _)
    have u2 := ltI _ (.tail _ (.head _))
    have u3 := ltI _ (.tail _ (.tail _ (.head _)))
    have u4 := ltI _ (.tail _ (.tail _ (.tail _ (.head _))))
    have u5 := ltI _ (.tail _ (.tail _ (.tail _ (.tail _ (.head _)))))
    have u6 := ltI _ (.tail _ (.tail _ (.tail _ (.tail _ (.tail _ (.head _))))))
    have u7 := ltI _ (.tail _ (.tail _ (.tail _ (.tail _ (.tail _ (.tail _ (.head _)))))))
    dsimp only at u1 u2 u3 u4 u5 u6 u7
    iterate 12 walk1
    refine' chunk_call (tl := junk) (rows := rows) ?k1z ?k2z ?k3z ?k4z ?k5z ?k6z ?p1z ?p2z ?p3z ?p4z ?p5z ?p6z ?p7z hta htb hi0 hi9 hS hrw ?htlz hT hrow hrl ?hdz ?hoffz ?hroomz ?hhz ?huz ?_
    case k1z => k_asm
    case k2z => k_asm
    case k3z => k_asm
    case k4z => k_asm
    case k5z => k_asm
    case k6z => k_asm
    case p1z => k_mem
    case p2z => k_mem
    case p3z => k_mem
    case p4z => k_mem
    case p5z => k_mem
    case p6z => k_mem
    case p7z => k_mem
    case htlz => exact fun p hp => .tail _ (.tail _ (List.mem_append_left _ hp))
    case hdz => walk_at "dis7"
    case hoffz =>
      refine Off.put ?_ (Off.put ?_ (hoffR (fun p hp => (lrest p hp).1) (fun p hp => (lrest p hp).2.1) (fun p hp => (lrest p hp).2.2.1) (fun p hp => (lrest p hp).2.2.2.1) (fun p hp => (lrest p hp).2.2.2.2) fun p hp => (hj p hp).1))
      · walk_at "dis7"
      · walk_at "dis7"
    case hroomz => k_room
    case hhz => with_unfolding_all assumption
    case huz => (simp only [units_in1, units_deeper]; omega)
    intro h3 gs3 tk3 ep3 dk3 it3 ps3 ps23 nl3 ls3 items3 t9 ta9 tb9 F3 N3 lt3 hS3 hT3 c1 c2 c3
    repeat' (walk_at "go")
    refine ⟨_, _, _, _, (pf, _) :: (pfd, _) :: (ln, _) :: (ac, _) :: (acd, _) :: ((155 : Nat), _) :: ((162 : Nat), _) :: (((t9, _) :: junk) ++ rest), rfl, F3, ?nz, ?offz, fun y hy => if_neg hy, c3, ls3, nl3, items3, ep3, dk3, it3, ps3, ps23, (t9, _) :: junk, rfl, hS3, hT3, c1, c2, ?hjz⟩
    case nz =>
      intro p hp
      refine N3 p ?_
      simp only [List.mem_cons, List.mem_append, List.cons_append, List.nil_append] at hp ⊢
      rcases hp with h | h | h | h | h | h | h | h | h | h | h | h <;> simp [h]
    case offz =>
      have g0 := lt3 _ (.head _)
      intro p hp hm
      have hm := List.mem_singleton.mp hm
      simp only [List.mem_cons, List.mem_append, List.cons_append] at hp
      rcases hp with h | h | h | h | h | h | h | h | h | h
      · rw [h] at hm; exact Nat.ne_of_lt u1 hm
      · rw [h] at hm; exact Nat.ne_of_lt u2 hm
      · rw [h] at hm; exact Nat.ne_of_lt u3 hm
      · rw [h] at hm; exact Nat.ne_of_lt u4 hm
      · rw [h] at hm; exact Nat.ne_of_lt u5 hm
      · rw [h] at hm; exact Nat.ne_of_lt u6 hm
      · rw [h] at hm; exact Nat.ne_of_lt u7 hm
      · rw [h] at hm; exact Nat.ne_of_gt g0 hm
      · exact hI p (.tail _ (.tail _ (.tail _ (.tail _ (.tail _ (.tail _ (.tail _ (List.mem_append_left _ h)))))))) hm
      · exact hI p (.tail _ (.tail _ (.tail _ (.tail _ (.tail _ (.tail _ (.tail _ (List.mem_append_right _ h)))))))) hm
    case hjz =>
      intro p hp
      rcases List.mem_cons.mp hp with rfl | hp
      · exact ⟨⟨⟨lt3 _ (.tail _ (.tail _ (.tail _ (.tail _ (.tail _ (.tail _ (.tail _ (.head _)))))))), lt3 _ (.tail _ (.tail _ (.tail _ (.tail _ (.tail _ (.tail _ (.tail _ (.tail _ (.head _)))))))))⟩, lt3 _ (.tail _ (.tail _ (.head _))), lt3 _ (.tail _ (.tail _ (.tail _ (.head _)))), lt3 _ (.tail _ (.tail _ (.tail _ (.tail _ (.head _))))),
          lt3 _ (.tail _ (.tail _ (.tail _ (.tail _ (.tail _ (.head _)))))), lt3 _ (.tail _ (.tail _ (.tail _ (.tail _ (.tail _ (.tail _ (.head _)))))))⟩,
          fun q hq => lt3 q (.tail _ (.tail _ (.tail _ (.tail _ (.tail _ (.tail _ (.tail _ (.tail _ (.tail _ (List.mem_append_right _ hq))))))))))⟩
      · exact hj p hp
  case donez =>
    intro h3 gs3 tk3 m3 nx F3 N3 hq5
    refine an3 hq5 ?_
    clear hq5
    intro hm hG hn6
    refine ex9 hn6 ?_
    clear hn6
    intro ls nl items ep dk it ps' ps2' junk hn7
    refine an6 hn7 ?_
    clear hn7
    intro hnx hS hT hta htb hj
    have hsz : (strValues lw).toArray.size = bs.length := by
      rw [← hsp, ← e1]
      simp [strValues]
    rw [hsz, List.take_length] at hnx hS hT
    subst hnx
    have eM : m3 = (fun y => if y = ("word" : Str) then m3 ("word" : Str) else if y = "page" then some (.ref pf) else P y) := funext fun y => by
      by_cases hy : y = ("word" : Str)
      · rw [if_pos hy, hy]
      · rw [if_neg hy, hm y hy]
    rw [eM] at F3
    clear hm eM
    generalize m3 ("word" : Str) = vw at F3
    repeat' (walk_at "go")
    rename_i kF kN
    refine h _ _ _ _ _ _ _ _ _ _ _ _ _ _ _ _ _ _ kF kN hS hT ?_ ?_ ?_ ?_ ?_ ?_ ?_ hta htb hG
    · walk_at "dis7"
    all_goals first
      | (intro p hp; rcases hsub p hp with rfl | rfl | hp; (first | exact i1 | exact i2 | exact i3 | exact i4 | exact i5); (first | exact j1 | exact j2 | exact j3 | exact j4 | exact j5); (first | exact (lrest p hp).1 | exact (lrest p hp).2.1 | exact (lrest p hp).2.2.1 | exact (lrest p hp).2.2.2.1 | exact (lrest p hp).2.2.2.2); done)
      | (intro p hp; obtain ⟨⟨⟨b6, b7⟩, b1, b2, b3, b4, b5⟩, b8⟩ := hj p hp; refine ⟨?_, b1, b2, b3, b4, b5⟩; intro q hq; rcases hsub q hq with rfl | rfl | hq; exact b6; exact b7; exact b8 q hq)
end

section
variable {prog : Program} {w : World} {A : Around} {s : Shared} {env : Env} {h₀ : Heap} {m : Str → Option Value} {news : List (Addr × Obj)} {x : Str} {px : Pos} {body orelse : List Stmt} {Q : Flow → Shared → Prop}
/-- a loop over range(n) -/
theorem range_loop {r : Addr} {t u v : Tok} {n : Nat} (hh : A.handled = none) (hx : env.kindOf x = some .local) (hp : (env.scope.kind == .class || (env.scope.kind == .module && env.locals != env.globals)) = false)
    (F : Fr h₀ env.locals s.heap m) (N : News h₀ env.locals s.heap news) (hr : IsRange s.heap r 0 n 1 t u v) (hsmall : Builtin.Range.small 0 n 1 = true) (hn : Builtin.Range.rangeSize 0 n 1 = (n : Int))
    (J : Nat → (Str → Option Value) → List (Addr × Obj) → Array GenState → Prop) (h0 : J 0 m news s.gens)
    (turn : ∀ i u' m₁ nx h₁ gs tk I o, i < n → J i m₁ nx gs → (∀ p ∈ nx, @Ne Nat p.1 I) → (∀ p ∈ news, @LT.lt Nat _ p.1 I) → Fr h₀ env.locals h₁ (fun y => if y = x then some (.int (i : Int) u') else m₁ y) → News h₀ env.locals h₁ ((I, o) :: nx) →
      wpAny (model prog w) A (execs body env) (StepG h₀ env.locals [I] [(I, o)] (J (i + 1)) s Q) NoErr { s with heap := h₁, gens := gs, toks := tk })
    (done : ∀ h' gs tk m' nx, Fr h₀ env.locals h' m' → News h₀ env.locals h' nx → J n m' nx gs → wpAny (model prog w) A (execs orelse env) Q NoErr { s with heap := h', gens := gs, toks := tk }) :
    wpAny (model prog w) A (pyIter (.ref r)) (fun it s₂ => codeAny (model prog w) A (.forLoop (.Name x px) it body orelse env) (fun r s' => match r with | .ok f => Q f s' | .error e => cameBackBy (model prog w) A env NoErr e s') s₂) NoErr s := by
  refine wpAny_pyIter_range hr hsmall ?_
  have lt : ∀ p ∈ news, p.1 < s.heap.objs.size := fun p hp => Heap.lt_size (N p hp).1
  rw [hn]
  refine codeAny_loopG (s := { s with heap := _ }) (n := n) (J := J)
    (Walks.range hh _ 0 1 n) hx hp (fresh_at F) ?_ (by show IsRangeIter _ _ (0 + ((0 : Nat) : Int) * 1) ((n : Int) - ((0 : Nat) : Int)) 1; rw [show (0 : Int) + ((0 : Nat) : Int) * 1 = 0 by simp, show (n : Int) - ((0 : Nat) : Int) = n by simp]; exact Heap.get?_push_size _ rfl) (F.push _) (fun p hp => (N.push F _) p (.tail _ hp)) (fun p hp q => Nat.ne_of_lt (lt p hp) (List.mem_singleton.mp q)) h0 ?_ ?_
  · intro i h ho b hb
    obtain rfl := List.mem_singleton.mp hb
    rw [show h.get? s.heap.objs.size = _ from ho]; rfl
  · intro i v m₁ nx h₁ gs tk hi hP hJ hnx F₁ N₁
    obtain ⟨u', rfl⟩ := hP
    rw [show (0 : Int) + (i : Int) * 1 = i by simp] at F₁
    exact turn i u' m₁ nx h₁ gs tk _ _ hi hJ (fun p hp e => hnx p hp (by rw [e]; exact .head _)) lt F₁ N₁
  · intro h' gs tk m' nx F' N' _ hJ
    exact done h' gs tk m' nx F' N' hJ
end

/-- the names of the flags of a number -/
noncomputable def flagTab : List Str := [("OPTIMIZED" : Str), "NEWLOCALS", "VARARGS", "VARKEYWORDS", "NESTED", "GENERATOR", "NOFREE", "COROUTINE", "ITERABLE_COROUTINE", "ASYNC_GENERATOR"]
noncomputable def flagName (i : Nat) : Str := (flagTab[i]?).getD (baseText "0x" 16 (1 * 2 ^ ((i : Int)).toNat))
theorem flag_cases (i : Nat) : i = 0 ∨ i = 1 ∨ i = 2 ∨ i = 3 ∨ i = 4 ∨ i = 5 ∨ i = 6 ∨ i = 7 ∨ i = 8 ∨ i = 9 ∨ 10 ≤ i := (Nat.lt_or_ge i 10).elim ((by decide : ∀ i, i < 10 → i = 0 ∨ i = 1 ∨ i = 2 ∨ i = 3 ∨ i = 4 ∨ i = 5 ∨ i = 6 ∨ i = 7 ∨ i = 8 ∨ i = 9 ∨ 10 ≤ i) i) fun h => .inr (.inr (.inr (.inr (.inr (.inr (.inr (.inr (.inr (.inr h)))))))))
theorem each_flag {h : Heap} {R : Value → Prop} {i : Nat} (hi : i < 32) (hp : ∀ t, R (.str (flagName i) t)) :
    KTD.Each h ((1 : Int) * 2 ^ ((i : Int)).toNat) R (KTD.Opened h R (.flat (PyData.str (baseText "0x" 16 (1 * 2 ^ ((i : Int)).toNat)))))
      (KTD.asDat [((1 : Int), PyData.str "OPTIMIZED"), (2, PyData.str "NEWLOCALS"), (4, PyData.str "VARARGS"), (8, PyData.str "VARKEYWORDS"), (16, PyData.str "NESTED"), (32, PyData.str "GENERATOR"), (64, PyData.str "NOFREE"), (128, PyData.str "COROUTINE"), (256, PyData.str "ITERABLE_COROUTINE"), (512, PyData.str "ASYNC_GENERATOR")]) := by
  have hc := flag_cases i
  rcases hc with rfl | rfl | rfl | rfl | rfl | rfl | rfl | rfl | rfl | rfl | hc
  iterate 10 exact hp
  have e : (1 : Int) * 2 ^ ((i : Int)).toNat = 1024 * 2 ^ (i - 10) := by
    rw [Int.one_mul, Int.toNat_natCast]
    conv => lhs; rw [show i = 10 + (i - 10) by omega, Int.pow_add]
    rfl
  have hpos : (0 : Int) < 2 ^ (i - 10) := Int.pow_pos (by decide)
  have hn : flagName i = baseText "0x" 16 (1 * 2 ^ ((i : Int)).toNat) := by
    unfold flagName
    rw [List.getElem?_eq_none (by show 10 ≤ i; exact hc)]
    rfl
  rw [hn] at hp
  generalize (1 : Int) * 2 ^ ((i : Int)).toNat = k at *
  simp only [KTD.asDat, List.map, KTD.Each]
  iterate 10 rw [if_neg (by simp only [decide_eq_true_eq]; omega)]
  exact hp
theorem hex_len {x : Int} (h : x.natAbs < 16 ^ 20) : (baseText "0x" 16 x).length ≤ 40 := by
  unfold baseText
  rw [Str.length_append, Str.length_append, PySem.ofString_length, PySem.ofString_length, PySem.ofString_length]
  have := StrLaws.toDigits_len (k := 20) (by decide) h
  have e : (String.ofList (Nat.toDigits 16 x.natAbs)).length = (Nat.toDigits 16 x.natAbs).length := by simp
  rw [e]
  split
  · show 1 + 2 + _ ≤ 40; omega
  · show 0 + 2 + _ ≤ 40; omega
/-- what is left of the flags before turn i, and the names told -/
noncomputable def flRest (n : Int) : Nat → Int
  | 0 => n
  | i + 1 => if Builtin.bitAnd (flRest n i) (1 * 2 ^ ((i : Int)).toNat) ≠ 0 then Builtin.bitXor (flRest n i) (1 * 2 ^ ((i : Int)).toNat) else flRest n i
noncomputable def flNames (n : Int) : Nat → List Str
  | 0 => []
  | i + 1 => if Builtin.bitAnd (flRest n i) (1 * 2 ^ ((i : Int)).toNat) ≠ 0 then flNames n i ++ [flagName i] else flNames n i
noncomputable def flagWords (n : Int) : List Str := flNames n 32 ++ (if flRest n 32 ≠ 0 ∨ n = 0 then [baseText "0x" 16 (flRest n 32)] else [])
theorem fl_pow (i : Nat) : (1 : Int) * 2 ^ ((i : Int)).toNat = 2 ^ i := by rw [Int.one_mul, Int.toNat_natCast]
theorem fl_step {f : Int} {i : Nat} (h : Builtin.bitAnd f (2 ^ i) ≠ 0) : Builtin.bitXor f (2 ^ i) = f - 2 ^ i := by
  rw [bitXor_and]
  rw [kbt_bit] at h ⊢
  have : f / 2 ^ i % 2 = 1 := by
    rcases Int.emod_two_eq (f / 2 ^ i) with e | e
    · rw [e] at h; simp at h
    · exact e
  rw [this]
  omega
theorem fl_bound (n : Int) : ∀ i, n + 1 - 2 ^ i ≤ flRest n i ∧ flRest n i ≤ n
  | 0 => ⟨by show n + 1 - 1 ≤ n; omega, Int.le_refl n⟩
  | i + 1 => by
    obtain ⟨a, b⟩ := fl_bound n i
    have p : (0 : Int) < 2 ^ i := Int.pow_pos (by decide)
    rw [flRest, Int.pow_succ]
    simp only [fl_pow]
    split
    · rename_i h
      rw [fl_step h]
      omega
    · omega
theorem fl_zero {n : Int} {k : Nat} (h : flRest n k = 0) : ∀ d, flRest n (k + d) = 0 ∧ flNames n (k + d) = flNames n k
  | 0 => ⟨h, rfl⟩
  | d + 1 => by
    obtain ⟨a, b⟩ := fl_zero h d
    have z : ∀ x, Builtin.bitAnd 0 x = 0 := fun x => by rw [bitAnd_comm]; exact bitAnd_zero x
    rw [show k + (d + 1) = (k + d) + 1 from rfl, flRest, flNames, a, z, if_neg (by simp), if_neg (by simp)]
    exact ⟨rfl, b⟩
theorem fl_len : ∀ {n : Int} (i : Nat), i ≤ 32 → (flNames n i).length ≤ i ∧ ∀ x ∈ flNames n i, x.length ≤ 40
  | n, 0, _ => ⟨Nat.le_refl _, fun _ h => nomatch h⟩
  | n, i + 1, hi => by
    obtain ⟨a, b⟩ := fl_len (n := n) i (by omega)
    rw [flNames]
    split
    · refine ⟨by rw [List.length_append]; exact Nat.add_le_add_right a 1, fun x hx => ?_⟩
      rcases List.mem_append.mp hx with hx | hx
      · exact b x hx
      · rw [List.mem_singleton.mp hx]
        unfold flagName
        cases e : flagTab[i]? with
        | none =>
          refine hex_len ?_
          rw [fl_pow]
          have : (2 : Int) ^ i ≤ 2 ^ 32 := by exact_mod_cast Nat.pow_le_pow_right (by decide : 1 ≤ 2) (by omega : i ≤ 32)
          have p : (0 : Int) < 2 ^ i := Int.pow_pos (by decide)
          have q : (2 : Int) ^ 32 = 4294967296 := by decide
          omega
        | some y =>
          have hy : y ∈ flagTab := List.mem_of_getElem? e
          revert hy
          have : ∀ y ∈ flagTab, y.length ≤ 40 := by decide +kernel
          exact this y
    · exact ⟨by omega, b⟩
theorem sum_le_of {B : Nat} : ∀ {l : List Str}, (∀ x ∈ l, x.length ≤ B) → (l.map (·.length)).sum ≤ l.length * B
  | l, h => StrLaws.sumLen_le l h
theorem flagWords_weight {n : Int} (h1 : -2 ^ 34 ≤ n) (h2 : n < 2 ^ 34) : ((flagWords n).map (·.length)).sum + (flagWords n).length ≤ 1048576 ∧ (baseText "0x" 16 (flRest n 32)).length ≤ 40 := by
  obtain ⟨a, b⟩ := fl_len (n := n) 32 (Nat.le_refl _)
  have hx : (baseText "0x" 16 (flRest n 32)).length ≤ 40 := by
    refine hex_len ?_
    obtain ⟨c, d⟩ := fl_bound n 32
    have q : (2 : Int) ^ 32 = 4294967296 := by decide
    have q' : (2 : Int) ^ 34 = 17179869184 := by decide
    omega
  have hl : (flagWords n).length ≤ 33 ∧ ∀ x ∈ flagWords n, x.length ≤ 40 := by
    unfold flagWords
    split
    · refine ⟨by rw [List.length_append]; exact Nat.add_le_add_right a 1, fun x hx' => ?_⟩
      rcases List.mem_append.mp hx' with h | h
      · exact b x h
      · rw [List.mem_singleton.mp h]; exact hx
    · rw [List.append_nil]; exact ⟨by omega, b⟩
  have := sum_le_of hl.2
  exact ⟨by omega, hx⟩
theorem flagWords_brk {n : Int} {i : Nat} (hi : i < 32) (h : flRest n (i + 1) = 0) (hn : n ≠ 0) : flagWords n = flNames n (i + 1) := by
  obtain ⟨a, b⟩ := fl_zero h (32 - (i + 1))
  rw [show i + 1 + (32 - (i + 1)) = 32 by omega] at a b
  unfold flagWords
  rw [a, if_neg (by simp [hn]), b, List.append_nil]
set_option maxHeartbeats 4000000
section
variable {w : World} {A : Around} {E : Value → Shared → Prop} {s : Shared} {L : Addr} {h₀ : Heap} {m mg mb : Str → Option Value} {loose : List Str} {news : List (Addr × Obj)} {Q : Value → Shared → Prop} {n : Int} {t1 : Tok}
theorem flags_call (F : Fr h₀ L s.heap m) (X : (hd.heap_1 w.params).In h₀) (N : News h₀ L s.heap news) (T : TopRead hd.view_1 loose mg mb h₀) (M : Mod mg h₀)
    (hn : -2 ^ 34 ≤ n) (hn2 : n < 2 ^ 34) (hroom : A.depth < 920) (hh : A.handled = none) (hu : A.units < 6000)
    (h : ∀ h' tk t, Fr h₀ L h' m → News h₀ L h' news → Q (.str (Txt.join ", " (flagWords n)) t) { s with heap := h', toks := tk }) :
    wpAny (model PySem.Challenge.rw_ty0040_01.row.prog w) A (call (.ref 36) [.int n t1] []) Q E s := by
  k_enter
  iterate 6 walk1
  rename_i nmA hA1 lA hA2 FA NA
  walk1
  refine for_G ?_
  repeat' (walk_at "go")
  with_reducible rename News _ _ _ _ => Nb
  with_reducible rename Fr _ _ _ _ => Fb
  refine' range_loop (n := 32) ?hhz rfl rfl Fb Nb ?hrz (by decide) (by decide) (fun i m₁ nx gs => gs = s.gens ∧ (∃ t, m₁ ("flags" : Str) = some (.int (flRest n i) t)) ∧ m₁ ("names" : Str) = some (.ref nmA) ∧ (flRest n i ≠ 0 ∨ n = 0) ∧ ∃ ls nl, nx = (nmA, listOf ls nl) :: news ∧ StrsAre ls.toList (flNames n i)) ?h0z ?turnz ?donez
  case hhz => with_unfolding_all assumption
  case hrz => assumption
  case h0z => exact ⟨rfl, ⟨t1, rfl⟩, rfl, by by_cases e : n = 0 <;> simp [e, flRest], #[], 0, rfl, .nil⟩
  case donez =>
    intro h3 gs3 tk3 m3 nx F3 N3 hq8
    refine an5 hq8 ?_
    clear hq8
    intro eq9 ne10 hnm hnz hn11
    subst eq9
    refine ex1 ne10 ?_
    intro t9 hf
    refine ex2 hn11 ?_
    clear hn11
    intro ls nl hn13
    refine an2 hn13 ?_
    clear hn13
    intro hnx hS
    subst hnx
    have eM : m3 = (fun y => if y = ("flags" : Str) then some (.int (flRest n 32) t9) else if y = ("names" : Str) then some (.ref nmA) else m3 y) := funext fun y => by
      by_cases h2 : y = ("flags" : Str)
      · rw [if_pos h2, h2, hf]
      · rw [if_neg h2]
        by_cases h3 : y = ("names" : Str)
        · rw [if_pos h3, h3, hnm]
        · rw [if_neg h3]
    rw [eM] at F3
    have hwt := flagWords_weight hn hn2
    have hhx2 : (baseText "0x" 16 (flRest n 32)).length ≤ sizeLine := by rw [sizeLine_eq]; omega
    have hls3 := strs_len hS
    have hfl := fl_len (n := n) 32 (Nat.le_refl _)
    have hls4 : ls.size = ls.toList.length := by simp
    have hls2 : ls.size ≤ sizeLine := by rw [sizeLine_eq]; omega
    repeat' (walk_at "go")
    with_reducible rename News _ _ _ _ => Nj
    refine join_listW (ys := flagWords n) (News.isList Nj (by k_mem)) (by
      unfold flagWords
      rw [if_pos hnz, Array.toList_push]
      exact strs_snoc hS) (by decide) hwt.1 fun t' k => ?_
    repeat' (walk_at "go")
    rename_i kF kN
    exact h _ _ _ kF (by k_mem)
  intro i u' m₁ nx h₁ gs tk I o hi hq14
  refine an5 hq14 ?_
  clear hq14
  intro hgs ne15 hnm hnz hn16
  refine ex1 ne15 ?_
  intro t9 hf
  refine ex2 hn16 ?_
  clear hn16
  intro ls nl hn18
  refine an2 hn18 ?_
  clear hn18
  intro hnx hS
  intro hI lI F₁ N₁
  subst hnx
  have eM : (fun y => if y = ("i" : Str) then some (Value.int (i : Int) u') else m₁ y) = (fun y => if y = ("i" : Str) then some (Value.int (i : Int) u') else if y = "flags" then some (.int (flRest n i) t9) else if y = "names" then m₁ ("names" : Str) else m₁ y) := funext fun y => by
    by_cases h1 : y = ("i" : Str)
    · rw [if_pos h1, if_pos h1]
    · rw [if_neg h1, if_neg h1]
      by_cases h2 : y = ("flags" : Str)
      · rw [if_pos h2, h2, hf]
      · rw [if_neg h2]
        by_cases h3 : y = ("names" : Str)
        · rw [if_pos h3, h3]
        · rw [if_neg h3]
  rw [eM, hnm] at F₁
  have lnI := hI _ (.head _)
  dsimp only at lnI
  have hls3 := strs_len hS
  have hfl := fl_len (n := n) i (by omega)
  have hls4 : ls.size = ls.toList.length := by simp
  have hls2 : ls.size ≤ sizeLine := by rw [sizeLine_eq]; omega
  have hpw : (1 : Int) * 2 ^ ((i : Int)).toNat ≤ 2 ^ 32 := by
    rw [Int.one_mul, Int.toNat_natCast]
    exact_mod_cast Nat.pow_le_pow_right (by decide : 1 ≤ 2) (by omega : i ≤ 32)
  have hpw0 : (0 : Int) ≤ 1 * 2 ^ ((i : Int)).toNat := by
    rw [Int.one_mul]
    exact Int.pow_nonneg (by decide)
  have hhx : (baseText "0x" 16 (1 * 2 ^ ((i : Int)).toNat)).length ≤ sizeLine := by
    rw [sizeLine_eq]
    refine Nat.le_trans (hex_len ?_) (by decide)
    have : (2 : Int) ^ 32 = 4294967296 := by decide
    omega
  iterate 24 (walk_at "go")
  · rename_i FZ NZ hset
    have hwt := flagWords_weight hn hn2
    iterate 15 (walk_at "go")
    refine KTD.get2_keyed (by with_reducible assumption) (by kt_keeps) (PyProof.V.Flat.str _ _) ?_
    refine each_flag hi ?_
    intro t8
    repeat' (walk_at "go")
    · rename_i FB NB hbx
      refine' ⟨_, _, _, _, (nmA, listOf (ls.push (.str (flagName i) t8)) (nl + 1)) :: news, rfl, FB, NB, ?q1z, hgs, ⟨_, ?q2z⟩, rfl, .inl ?q3z, _, _, rfl, ?q4z⟩
      case q1z =>
        intro p hp q
        rcases List.mem_cons.mp hp with rfl | hp
        · exact lnI (List.mem_singleton.mp q)
        · exact hI p (.tail _ hp) (List.mem_singleton.mp q)
      case q2z =>
        rw [flRest, if_pos hset]
        exact rfl
      case q3z =>
        rw [flRest, if_pos hset]
        exact hbx
      case q4z =>
        rw [flNames, if_pos hset, Array.toList_push]
        exact strs_snoc hS
    · skip
      rename_i FB NB hbx
      have hj : StrsAre (ls.push (.str (flagName i) t8)).toList (flagWords n) := by
        rw [flagWords_brk hi (by rw [flRest, if_pos hset]; exact hbx) (fun e => by
          subst e
          have z := (fl_zero (n := 0) (k := 0) rfl i).1
          rw [Nat.zero_add] at z
          rw [z, bitAnd_comm, bitAnd_zero] at hset
          exact hset rfl), flNames, if_pos hset, Array.toList_push]
        exact strs_snoc hS
      subst hgs
      dsimp only [StepG]
      repeat' (walk_at "go")
      with_reducible rename News _ _ _ _ => Nj
      refine join_listW (ys := flagWords n) (News.isList Nj (by k_mem)) hj (by decide) hwt.1 fun t' k => ?_
      repeat' (walk_at "go")
      rename_i kF kN
      exact h _ _ _ kF (by k_mem)
  · repeat' (walk_at "go")
    rename_i FZ NZ hset
    refine ⟨_, _, _, _, (nmA, listOf ls nl) :: news, rfl, FZ, NZ, ?_, hgs, ⟨t9, ?_⟩, rfl, ?_, ls, nl, rfl, ?_⟩
    · intro p hp q
      rcases List.mem_cons.mp hp with rfl | hp
      · exact lnI (List.mem_singleton.mp q)
      · exact hI p (.tail _ hp) (List.mem_singleton.mp q)
    · rw [flRest, if_neg (by simpa using hset)]
      exact rfl
    · rw [flRest, if_neg (by simpa using hset)]
      exact hnz
    · rw [flNames, if_neg (by simpa using hset)]
      exact hS
end

theorem gives_find4 (x y : Str) (i j : Int) (t u v v' : Tok) : Gives (Builtin.«str.find» ⟨[.str x t, .str y u, .int i v, .int j v'], []⟩) (.int (match Builtin.Str.occurrences x y (fromIndex x.length i) (min (fromIndex x.length j) x.length) 1 with | k :: _ => (k : Int) | [] => -1)) := by
  show Gives (match Builtin.Str.occurrences x y (fromIndex x.length i) (min (fromIndex x.length j) x.length) 1 with | k :: _ => retInt k | [] => (do rule "str.find.not-found"; retInt (-1))) _
  cases Builtin.Str.occurrences x y (fromIndex x.length i) (min (fromIndex x.length j) x.length) 1 with
  | nil => exact .rule (.of_eq rfl)
  | cons k _ => exact .of_eq rfl
/-- find between two places -/
noncomputable def find4 (x y : Str) (i j : Int) : Int := match Builtin.Str.occurrences x y (fromIndex x.length i) (min (fromIndex x.length j) x.length) 1 with | k :: _ => (k : Int) | [] => -1
section
variable {prog : Program} {w : World} {A : Around} {E : Value → Shared → Prop} {s : Shared} {L D : Addr} {h₀ : Heap} {m : Str → Option Value} {news : List (Addr × Obj)} {its : Array Value} {n : Nat} {value slice : Expr}
theorem call_find4 {x y : Str} {i j : Int} {t u v v' : Tok} {Q : Value → Shared → Prop} (hq : Q (.int (find4 x y i j) s.toks) { s with toks := s.toks + 1 }) : wpAny (model prog w) A (call (.builtin "str.find") [.str x t, .str y u, .int i v, .int j v']) Q E s :=
  call_gives PySem.F.slot_str_find (typeIs_str _ _ _) PySem.F.entry_str_find (PySem.F.args_str_find_4 _ _ _ _) (gives_find4 x y i j t u v v') hq
theorem strs_get : ∀ {vs : List Value} {ws : List Str} {i : Nat} {y : Str}, StrsAre vs ws → ws[i]? = some y → ∃ t, vs[i]? = some (.str y t)
  | _, _, i, y, .cons a t r, h => by
    cases i with
    | zero => exact ⟨t, by simpa using h⟩
    | succ i =>
      obtain ⟨t', e⟩ := strs_get (i := i) (y := y) r (by simpa using h)
      exact ⟨t', by simpa using e⟩
theorem strs_erase : ∀ {vs : List Value} {ws : List Str} (i : Nat), StrsAre vs ws → StrsAre (vs.eraseIdx i) (ws.eraseIdx i)
  | _, _, _, .nil => .nil
  | _, _, i, .cons a t r => by
    cases i with
    | zero => exact r
    | succ i => exact .cons a t (strs_erase i r)
end

set_option maxHeartbeats 4000000
section
variable {w : World} {A : Around} {E : Value → Shared → Prop} {s : Shared} {L : Addr} {h₀ : Heap} {m mg mb : Str → Option Value} {loose : List Str} {news : List (Addr × Obj)} {Q : Value → Shared → Prop} {want got : Str} {t1 t2 : Tok} {ws : List Str}
/-- no marker: the texts are compared -/
theorem ellip_plain (F : Fr h₀ L s.heap m) (X : (hd.heap_1 w.params).In h₀) (N : News h₀ L s.heap news) (T : TopRead hd.view_1 loose mg mb h₀) (M : Mod mg h₀)
    (hw : want.length ≤ 4000) (hg : got.length ≤ 4000) (hc : Txt.contains want "..." = false) (hroom : A.depth < 920) (hh : A.handled = none)
    (h : ∀ h' tk, Fr h₀ L h' m → News h₀ L h' news → Q (.bool (want == got)) { s with heap := h', toks := tk }) :
    wpAny (model PySem.Challenge.rw_ty0040_01.row.prog w) A (call (.ref 28) [.str want t1, .str got t2] []) Q E s := by
  k_enter
  iterate 6 (walk_at "go")
  rw [show (Builtin.Str.occurrences want "..." 0 want.length 1).isEmpty = true by simpa [Txt.contains] using hc]
  repeat' (walk_at "go")
  rename_i kF kN
  exact h _ _ kF kN
/-- the word of the search -/
noncomputable def EllipB (w0 : Str) (mids : List Str) (wl got : Str) (b : Bool) : Prop := b = true ↔ MT w0.cps.toList (mids.map (·.cps.toList)) wl.cps.toList got.cps.toList
theorem sw_iff {x y : Str} : Txt.startswith x y = true ↔ y.cps.toList <+: x.cps.toList := by
  unfold Txt.startswith
  rw [Bool.and_eq_true, decide_eq_true_eq, StrLaws.subAt_eq, List.drop_zero, beq_iff_eq, List.prefix_iff_eq_take, str_len y]
  constructor
  · rintro ⟨_, h⟩; exact h.symm
  · intro h
    refine ⟨?_, h.symm⟩
    have := congrArg List.length h
    rw [List.length_take, ← str_len x] at this
    omega
theorem ew_iff {x y : Str} : Txt.endswith x y = true ↔ y.cps.toList <:+ x.cps.toList := by
  unfold Txt.endswith
  rw [Bool.and_eq_true, decide_eq_true_eq, StrLaws.subAt_eq, beq_iff_eq, List.suffix_iff_eq_drop, ← str_len x, ← str_len y]
  constructor
  · rintro ⟨h1, h⟩
    rw [List.take_of_length_le (by rw [List.length_drop, ← str_len x]; omega)] at h
    exact h.symm
  · intro h
    have := congrArg List.length h
    rw [List.length_drop, ← str_len x, ← str_len y] at this
    refine ⟨by omega, ?_⟩
    rw [List.take_of_length_le (by rw [List.length_drop, ← str_len x]; omega)]
    exact h.symm
theorem at_iff {x y : Str} {hi i : Nat} : StrLaws.At x y hi i ↔ AtL x.cps.toList y.cps.toList hi i := by
  unfold StrLaws.At AtL
  rw [StrLaws.subAt_eq, beq_iff_eq, str_len y]
theorem occ_at (x y : Str) (lo hi limit : Nat) (hl : 1 ≤ limit) :
    (Builtin.Str.occurrences x y lo hi limit = [] ∧ ∀ i, lo ≤ i → ¬ StrLaws.At x y hi i) ∨
    ∃ i r, Builtin.Str.occurrences x y lo hi limit = i :: r ∧ lo ≤ i ∧ StrLaws.At x y hi i ∧ ∀ k, lo ≤ k → k < i → ¬ StrLaws.At x y hi k := by
  rw [StrLaws.occ_eq]
  rcases StrLaws.occ_first x y hi limit hl (List.range' lo (hi + 1 - lo)) lo (fun i hi => by have := List.mem_range'_1.mp hi; omega) with ⟨h0, hn⟩ | ⟨pre, a, post, e, h0, ha, hn⟩
  · refine .inl ⟨by rw [h0], fun i hlo hi => ?_⟩
    exact hn i (by have := hi.1; rw [List.mem_range'_1]; omega) hi
  · have hs := StrLaws.range'_split_from e
    refine .inr ⟨a, ((forIn (List.range' lo (hi + 1 - lo)) ((#[] : Array Nat), lo) (StrLaws.occBody x y hi limit)).run.fst.toList).tail, ?_, hs.1, ha, fun k hk0 hk => hn k (hs.2 k hk0 hk)⟩
    generalize (forIn (List.range' lo (hi + 1 - lo)) ((#[] : Array Nat), lo) (StrLaws.occBody x y hi limit)).run.fst = arr at h0
    have h1 : arr.toList[0]? = some a := by simpa using h0
    cases hL : arr.toList with
    | nil => rw [hL] at h1; cases h1
    | cons b t => rw [hL] at h1; simp at h1; rw [h1]; rfl
theorem find4_at {x y : Str} {i j : Int} {lo hi : Nat} (hi1 : i = lo) (hj : j = hi) (h2 : hi ≤ x.length) :
    (find4 x y i j = -1 ∧ FirstAt x.cps.toList y.cps.toList lo hi none) ∨ ∃ k : Nat, find4 x y i j = (k : Int) ∧ FirstAt x.cps.toList y.cps.toList lo hi (some k) := by
  subst hi1 hj
  have e1 : fromIndex x.length (lo : Int) = lo := by unfold fromIndex; omega
  have e2 : min (fromIndex x.length (hi : Int)) x.length = hi := by unfold fromIndex; omega
  unfold find4
  rw [e1, e2]
  rcases occ_at x y lo hi 1 (Nat.le_refl 1) with ⟨h0, hn⟩ | ⟨k, r, h0, h1, h2, h3⟩
  · rw [h0]
    exact .inl ⟨rfl, fun k hk h => hn k hk (at_iff.mpr h)⟩
  · rw [h0]
    exact .inr ⟨k, rfl, h1, at_iff.mp h2, fun q a b h => h3 q a b (at_iff.mpr h)⟩
theorem chain_empty {g : List Nat} {hi lo : Nat} {ws : List (List Nat)} (h : lo ≤ hi) : Chain g hi lo ([] :: ws) ↔ Chain g hi lo ws := by
  constructor
  · rintro ⟨i, h1, _, h3⟩
    exact h3.mono h1
  · intro h'
    exact ⟨lo, Nat.le_refl _, ⟨h, rfl⟩, h'⟩
theorem empty_of {x : Str} (h : x.length = 0) : x.cps.toList = [] := by
  rw [str_len] at h
  exact List.length_eq_zero_iff.mp h
theorem seq_first {n : Nat} (h : 0 < n) : seqIndex? 0 n = some 0 := by simp [seqIndex?, h]
theorem seq_last {n : Nat} (h : 0 < n) : seqIndex? (-1) n = some (n - 1) := by
  unfold seqIndex?
  have h' : (0 : Int) < n := by exact_mod_cast h
  simp <;> omega
theorem del_item {D : Addr} {its : Array Value} {n : Nat} {i : Int} {u : Tok} {k : Nat} {news' : List (Addr × Obj)} {Q : Unit → Shared → Prop} (F : Fr h₀ L s.heap m) (N : News h₀ L s.heap news)
    (U : Upd D (listOf its n) (listOf (its.toList.eraseIdx k).toArray (n + 1)) news news') (hf : Builtin.List.listFitsIndex i = true) (hk : seqIndex? i its.size = some k) (hz : its.size ≤ sizeLine)
    (h : ∀ h', Fr h₀ L h' m → News h₀ L h' news' → Q () { s with heap := h' }) : wpAny (model PySem.Challenge.rw_ty0040_01.row.prog w) A (delItem (.ref D) (.int i u)) Q E s := by
  obtain ⟨pre, post, rfl, rfl, a, b⟩ := U.split
  have z := N (D, listOf its n) (List.mem_append_right _ (.head _))
  exact delItem_at z.1 hf hk (fun h' hs ho' => h h' (F.change hs z.2.1 z.2.2) (N.setAt a b hs ho')) hz
theorem strs_len' {vs : Array Value} {ys : List Str} (h : StrsAre vs.toList ys) : ys.length = vs.size := by rw [← strs_len h]; simp
theorem strs_of : ∀ lw : List (Str × Tok), StrsAre (strValues lw) (lw.map (·.1))
  | [] => .nil
  | p :: r => .cons p.1 p.2 (strs_of r)
/-- a marker, and a text at each end -/
theorem ellip_parts {w0 wl : Str} {mids : List Str} (F : Fr h₀ L s.heap m) (X : (hd.heap_1 w.params).In h₀) (N : News h₀ L s.heap news) (T : TopRead hd.view_1 loose mg mb h₀) (M : Mod mg h₀)
    (hw : want.length ≤ 4000) (hg : got.length ≤ 4000) (hc : Txt.contains want "..." = true) (hs : Txt.split want "..." = w0 :: (mids ++ [wl])) (hm : mids.length ≤ 1000) (hwl : wl ≠ "") (hroom : A.depth < 920) (hh : A.handled = none)
    (h : ∀ h' tk b, Fr h₀ L h' m → News h₀ L h' news → EllipB w0 mids wl got b → Q (.bool b) { s with heap := h', toks := tk }) :
    wpAny (model PySem.Challenge.rw_ty0040_01.row.prog w) A (call (.ref 28) [.str want t1, .str got t2] []) Q E s := by
  have hwl1 : wl.length ≠ 0 := fun e => hwl (Str.ext' (Array.toList_inj.mp (empty_of e)))
  k_enter
  with_reducible rename News _ _ _ _ => N1
  have lt0 := fun (p : Addr × Obj) hp => (show @LT.lt Nat _ p.1 _ from Heap.lt_size (N1 p hp).1)
  iterate 6 (walk_at "go")
  rw [show (Builtin.Str.occurrences want "..." 0 want.length 1).isEmpty = false by simpa [Txt.contains] using hc]
  iterate 15 (walk_at "go")
  rename (List.map _ _ = Txt.split want _) => e1
  rename (∀ a ∈ List.map _ _, _ ≤ want.length) => e3
  with_reducible rename News _ _ _ _ => Nb
  with_reducible rename Fr _ _ _ _ => Fb
  have e6 := e1.trans hs
  rename List (Str × Tok) => lw
  have hS := strs_of lw
  rw [e6] at hS
  have e3' : ∀ a ∈ w0 :: (mids ++ [wl]), a.length ≤ want.length := by rw [← e6]; exact e3
  clear e3 e1
  have hsz : (strValues lw).length = mids.length + 2 := by rw [strs_len hS]; simp
  have hlw : (strValues lw).toArray.size = mids.length + 2 := by rw [List.size_toArray, hsz]
  have hS : StrsAre (strValues lw).toArray.toList (w0 :: (mids ++ [wl])) := hS
  clear e6
  generalize (strValues lw).toArray = ls at *
  repeat' (walk_at "go")
  generalize hx0 : (w0 :: (mids ++ [wl])).getD (Int.toNat 0) Str.empty = x0 at *
  obtain rfl : w0 = x0 := hx0
  have q0 : w0.length ≤ 4000 := Nat.le_trans (e3' _ (.head _)) hw
  have q1 : w0.length ≤ sizeLine := by rw [sizeLine_eq]; omega
  have q2 : wl.length ≤ 4000 := Nat.le_trans (e3' _ (by simp)) hw
  have q3 : wl.length ≤ sizeLine := by rw [sizeLine_eq]; omega
  have q4 : ∀ a ∈ mids, a.length ≤ 4000 := fun a ha => Nat.le_trans (e3' _ (by simp [ha])) hw
  repeat' (walk_at "go")
  · with_reducible rename StrsAre _ _ => hS
    with_reducible rename News _ _ _ _ => N4
    with_reducible rename Txt.startswith _ _ = true => hsw
    have hpf := sw_iff.mp hsw
    refine del_item (k := 0) (by k_asm) (newsSub N4 fun p hp => .tail _ hp) (.head fun p hp => Nat.ne_of_lt (lt0 p hp)) (by decide) (seq_first (by omega)) (by rw [sizeLine_eq]; omega) ?_
    clear N4
    intro h5 F5 N5
    have hS5 : StrsAre (ls.toList.eraseIdx 0).toArray.toList (mids ++ [wl]) := strs_erase 0 hS
    have hz5 : (ls.toList.eraseIdx 0).toArray.size = mids.length + 1 := by rw [← strs_len' hS5]; simp
    clear hS
    generalize (ls.toList.eraseIdx 0).toArray = ls5 at *
    repeat' (walk_at "go")
    generalize hx1 : List.getD (mids ++ [wl]) _ Str.empty = x1 at *
    obtain rfl : wl = x1 := by
      rw [← hx1, show (-1 + ((mids ++ [wl]).length : Int)).toNat = mids.length by simp <;> omega]
      simp [List.getD]
    repeat' (walk_at "go")
    rotate_left
    · with_reducible rename Txt.endswith _ _ = false => hew
      rename_i kF kN
      exact h _ _ _ kF (newsSub kN fun p hp => .tail _ hp) ⟨fun e => (nomatch e), fun e => absurd (ew_iff.mpr e.2.1) (by rw [hew]; decide)⟩
    try any_goals (exfalso; omega)
    with_reducible rename Txt.endswith _ _ = true => hew
    have hsf := ew_iff.mp hew
    have hle : wl.length ≤ got.length := by rw [str_len, str_len got]; exact hsf.length_le
    refine del_item (k := ls5.size - 1) (by k_asm) (by k_asm) (.head fun p hp => Nat.ne_of_lt (lt0 p hp)) (by decide) (seq_last (by omega)) (by rw [sizeLine_eq]; omega) ?_
    intro h6 F6 N6
    have hS6 : StrsAre (ls5.toList.eraseIdx (ls5.size - 1)).toArray.toList mids := by
      have := strs_erase (ls5.size - 1) hS5
      rw [hz5, Nat.add_sub_cancel] at this
      have e : (mids ++ [wl]).eraseIdx (mids.length) = mids := by simp [List.eraseIdx_append_of_length_le]
      have this : StrsAre (ls5.toList.eraseIdx (mids.length)) ((mids ++ [wl]).eraseIdx (mids.length)) := this
      rw [e] at this
      rw [hz5, Nat.add_sub_cancel]
      exact this
    have hz6 : (ls5.toList.eraseIdx (ls5.size - 1)).toArray.size = mids.length := (strs_len' hS6).symm
    clear hS5 hz5
    generalize (ls5.toList.eraseIdx (ls5.size - 1)).toArray = ls6 at *
    repeat' (walk_at "go")
    · rename_i kF kN
      exact h _ _ _ kF (newsSub kN fun p hp => .tail _ hp) ⟨fun e => (nomatch e), fun e => absurd e.2.2.1 (by rw [← str_len, ← str_len, ← str_len]; omega)⟩
    refine for_G ?_
    walk1
    refine' list_loop (its := ls6) ?hhz rfl rfl (by k_asm) N6 rfl rfl (fun i m₁ nx gs => gs = s.gens ∧ nx = news ∧ m₁ ("got" : Str) = some (.str got t2) ∧ (∃ t, m₁ ("endpos" : Str) = some (.int ((got.length : Int) - (wl.length : Int)) t)) ∧
      ∃ (sp : Nat) (t : Tok), m₁ ("startpos" : Str) = some (.int (sp : Int) t) ∧ sp ≤ got.length - wl.length ∧ ∀ b, Found got.cps.toList (got.length - wl.length) sp ((mids.drop i).map (·.cps.toList)) b → EllipB w0 mids wl got b) ?h0z ?turnz ?donez
    case hhz => with_unfolding_all assumption
    case h0z => exact ⟨rfl, rfl, rfl, ⟨_, rfl⟩, w0.length, _, rfl, by omega, fun b hb => by
        have hb := found_iff (by omega) hb
        unfold EllipB MT
        rw [hb, ← str_len, ← str_len, ← str_len]
        exact ⟨fun e => ⟨hpf, hsf, by omega, e⟩, fun e => e.2.2.2⟩⟩
    case donez =>
      intro h3 gs3 tk3 m3 nx F3 N3 hq19
      refine an5 hq19 ?_
      clear hq19
      intro hgs hnx _ _ hn20
      refine ex2 hn20 ?_
      clear hn20
      intro sp t9 hn21
      refine an3 hn21 ?_
      clear hn21
      intro _ hsp hinv
      subst hgs hnx
      have eb := hinv true (by rw [hz6, List.drop_eq_nil_of_le (by simp)]; rfl)
      repeat' (walk_at "go")
      rename_i kF kN
      exact h _ _ _ kF kN eb
    case turnz =>
      intro i v m₁ nx h₁ gs tk I o o2 hv hq22
      refine an5 hq22 ?_
      clear hq22
      intro hgs hnx hgot ne23 hn24
      refine ex1 ne23 ?_
      intro te hend
      refine ex2 hn24 ?_
      clear hn24
      intro sp t9 hn26
      refine an3 hn26 ?_
      clear hn26
      intro hsp1 hsp hinv
      intro hI ltI DI F₁ N₁
      subst hnx
      have hil : i < mids.length := by
        rw [← hz6]
        exact (Array.getElem?_eq_some_iff.mp hv).1
      obtain ⟨y, hy⟩ : ∃ y, mids[i]? = some y := ⟨_, List.getElem?_eq_getElem (by simpa using hil)⟩
      obtain ⟨ty, hty⟩ := strs_get hS6 hy
      obtain rfl : v = .str y ty := by
        rw [Array.getElem?_toList, hv] at hty
        exact Option.some.inj hty
      have hyl : y.length ≤ 4000 := q4 y (List.mem_of_getElem? hy)
      have hdrop : mids.drop i = y :: mids.drop (i + 1) := by
        rw [List.drop_eq_getElem_cons (by simpa using hil)]
        congr 1
        have := (List.getElem?_eq_some_iff.mp hy).2
        simpa using this
      rw [hdrop] at hinv
      have eM : (fun z => if z = ("w" : Str) then some (Value.str y ty) else m₁ z) = (fun z => if z = ("w" : Str) then some (Value.str y ty) else if z = "startpos" then some (.int (sp : Int) t9) else if z = "endpos" then some (.int ((got.length : Int) - (wl.length : Int)) te) else if z = "got" then some (.str got t2) else m₁ z) := funext fun z => by
        by_cases z1 : z = ("w" : Str)
        · rw [if_pos z1, if_pos z1]
        rw [if_neg z1, if_neg z1]
        by_cases z2 : z = ("startpos" : Str)
        · rw [if_pos z2, z2, hsp1]
        rw [if_neg z2]
        by_cases z3 : z = ("endpos" : Str)
        · rw [if_pos z3, z3, hend]
        rw [if_neg z3]
        by_cases z4 : z = ("got" : Str)
        · rw [if_pos z4, z4, hgot]
        rw [if_neg z4]
      rw [eM] at F₁
      have hf4 := find4_at (x := got) (y := y) (i := (sp : Int)) (j := (got.length : Int) - (wl.length : Int)) (lo := sp) (hi := got.length - wl.length) rfl (by omega) (by omega)
      have hyl2 : y.length ≤ sizeLine := by rw [sizeLine_eq]; omega
      repeat' (walk_at "go")
      · with_reducible rename find4 _ _ _ _ < 0 => hneg
        rcases hf4 with ⟨_, hfa⟩ | ⟨k, hk, _⟩
        · have eb := hinv false ⟨none, hfa, rfl⟩
          subst hgs
          dsimp only [StepG]
          repeat' (walk_at "go")
          rename_i kF kN
          exact h _ _ _ kF (newsSub kN fun p hp => .tail _ (.tail _ hp)) eb
        · exfalso
          rw [hk] at hneg
          omega
      · with_reducible rename ¬ find4 _ _ _ _ < 0 => hneg
        with_reducible rename Fr _ _ _ _ => FB
        with_reducible rename News _ _ _ _ => NB
        rcases hf4 with ⟨hk, _⟩ | ⟨k, hk, hfa⟩
        · exact absurd (show find4 got y (sp : Int) ((got.length : Int) - (wl.length : Int)) < 0 by rw [hk]; decide) hneg
        · have e9 : find4 got y (sp : Int) ((got.length : Int) - (wl.length : Int)) + (y.length : Int) = ((k + y.length : Nat) : Int) := by rw [hk]; push_cast; rfl
          rw [e9] at FB
          have hk2 := hfa.2.1.1
          rw [← str_len] at hk2
          refine ⟨_, _, _, _, nx, rfl, FB, NB, ?_, hgs, rfl, rfl, ⟨_, rfl⟩, k + y.length, _, rfl, hk2, fun b hb => hinv b ⟨some k, hfa, by rw [← str_len]; exact hb⟩⟩
          exact fun p hp q => hI p hp (List.mem_singleton.mp q)
  · with_reducible rename Txt.startswith _ _ = false => hsw
    rename_i kF kN
    exact h _ _ _ kF (newsSub kN fun p hp => .tail _ (.tail _ hp)) ⟨fun e => (nomatch e), fun e => absurd (sw_iff.mpr e.1) (by rw [hsw]; decide)⟩
  · with_reducible rename StrsAre _ _ => hS5
    with_reducible rename News _ _ _ _ => N4
    have N5 := newsSub N4 fun p hp => .tail _ hp
    clear N4
    have hz5 : ls.size = (w0 :: mids).length + 1 := by rw [← strs_len' hS5]; simp
    have hw0 : w0.length = 0 := by omega
    generalize ls = ls5 at *
    generalize hx1 : List.getD (w0 :: (mids ++ [wl])) _ Str.empty = x1 at *
    obtain rfl : wl = x1 := by
      rw [← hx1, show (-1 + ((w0 :: (mids ++ [wl])).length : Int)).toNat = mids.length + 1 by simp <;> omega]
      simp [List.getD]
    have q5 : ∀ a ∈ w0 :: mids, a.length ≤ 4000 := List.forall_mem_cons.mpr ⟨q0, q4⟩
    repeat' (walk_at "go")
    rotate_left
    · with_reducible rename Txt.endswith _ _ = false => hew
      rename_i kF kN
      exact h _ _ _ kF (newsSub kN fun p hp => .tail _ hp) ⟨fun e => (nomatch e), fun e => absurd (ew_iff.mpr e.2.1) (by rw [hew]; decide)⟩
    try any_goals (exfalso; omega)
    with_reducible rename Txt.endswith _ _ = true => hew
    have hsf := ew_iff.mp hew
    have hle : wl.length ≤ got.length := by rw [str_len, str_len got]; exact hsf.length_le
    refine del_item (k := ls5.size - 1) (by k_asm) (by k_asm) (.head fun p hp => Nat.ne_of_lt (lt0 p hp)) (by decide) (seq_last (by omega)) (by rw [sizeLine_eq]; omega) ?_
    intro h6 F6 N6
    have hS6 : StrsAre (ls5.toList.eraseIdx (ls5.size - 1)).toArray.toList (w0 :: mids) := by
      have := strs_erase (ls5.size - 1) hS5
      rw [hz5, Nat.add_sub_cancel] at this
      have e : ((w0 :: mids) ++ [wl]).eraseIdx ((w0 :: mids).length) = (w0 :: mids) := by simp [List.eraseIdx_append_of_length_le]
      have this : StrsAre (ls5.toList.eraseIdx ((w0 :: mids).length)) (((w0 :: mids) ++ [wl]).eraseIdx ((w0 :: mids).length)) := this
      rw [e] at this
      rw [hz5, Nat.add_sub_cancel]
      exact this
    have hz6 : (ls5.toList.eraseIdx (ls5.size - 1)).toArray.size = (w0 :: mids).length := (strs_len' hS6).symm
    clear hS5 hz5
    generalize (ls5.toList.eraseIdx (ls5.size - 1)).toArray = ls6 at *
    repeat' (walk_at "go")
    refine for_G ?_
    walk1
    refine' list_loop (its := ls6) ?hhz rfl rfl (by k_asm) N6 rfl rfl (fun i m₁ nx gs => gs = s.gens ∧ nx = news ∧ m₁ ("got" : Str) = some (.str got t2) ∧ (∃ t, m₁ ("endpos" : Str) = some (.int ((got.length : Int) - (wl.length : Int)) t)) ∧
      ∃ (sp : Nat) (t : Tok), m₁ ("startpos" : Str) = some (.int (sp : Int) t) ∧ sp ≤ got.length - wl.length ∧ ∀ b, Found got.cps.toList (got.length - wl.length) sp (((w0 :: mids).drop i).map (·.cps.toList)) b → EllipB w0 mids wl got b) ?h0z ?turnz ?donez
    case hhz => with_unfolding_all assumption
    case h0z => exact ⟨rfl, rfl, rfl, ⟨_, rfl⟩, 0, _, rfl, by omega, fun b hb => by
        have hb := found_iff (by omega) hb
        unfold EllipB MT
        rw [hb, ← str_len, ← str_len, ← str_len, hw0]
        show Chain _ _ 0 (w0.cps.toList :: _) ↔ _
        rw [empty_of hw0, chain_empty (by omega)]
        exact ⟨fun e => ⟨List.nil_prefix, hsf, by omega, e⟩, fun e => e.2.2.2⟩⟩
    case donez =>
      intro h3 gs3 tk3 m3 nx F3 N3 hq27
      refine an5 hq27 ?_
      clear hq27
      intro hgs hnx _ _ hn28
      refine ex2 hn28 ?_
      clear hn28
      intro sp t9 hn29
      refine an3 hn29 ?_
      clear hn29
      intro _ hsp hinv
      subst hgs hnx
      have eb := hinv true (by rw [hz6, List.drop_eq_nil_of_le (by simp)]; rfl)
      repeat' (walk_at "go")
      rename_i kF kN
      exact h _ _ _ kF kN eb
    case turnz =>
      intro i v m₁ nx h₁ gs tk I o o2 hv hq30
      refine an5 hq30 ?_
      clear hq30
      intro hgs hnx hgot ne31 hn32
      refine ex1 ne31 ?_
      intro te hend
      refine ex2 hn32 ?_
      clear hn32
      intro sp t9 hn34
      refine an3 hn34 ?_
      clear hn34
      intro hsp1 hsp hinv
      intro hI ltI DI F₁ N₁
      subst hnx
      have hil : i < (w0 :: mids).length := by
        rw [← hz6]
        exact (Array.getElem?_eq_some_iff.mp hv).1
      obtain ⟨y, hy⟩ : ∃ y, (w0 :: mids)[i]? = some y := ⟨_, List.getElem?_eq_getElem (by simpa using hil)⟩
      obtain ⟨ty, hty⟩ := strs_get hS6 hy
      obtain rfl : v = .str y ty := by
        rw [Array.getElem?_toList, hv] at hty
        exact Option.some.inj hty
      have hyl : y.length ≤ 4000 := q5 y (List.mem_of_getElem? hy)
      have hdrop : (w0 :: mids).drop i = y :: (w0 :: mids).drop (i + 1) := by
        rw [List.drop_eq_getElem_cons (by simpa using hil)]
        congr 1
        have := (List.getElem?_eq_some_iff.mp hy).2
        simpa using this
      rw [hdrop] at hinv
      have eM : (fun z => if z = ("w" : Str) then some (Value.str y ty) else m₁ z) = (fun z => if z = ("w" : Str) then some (Value.str y ty) else if z = "startpos" then some (.int (sp : Int) t9) else if z = "endpos" then some (.int ((got.length : Int) - (wl.length : Int)) te) else if z = "got" then some (.str got t2) else m₁ z) := funext fun z => by
        by_cases z1 : z = ("w" : Str)
        · rw [if_pos z1, if_pos z1]
        rw [if_neg z1, if_neg z1]
        by_cases z2 : z = ("startpos" : Str)
        · rw [if_pos z2, z2, hsp1]
        rw [if_neg z2]
        by_cases z3 : z = ("endpos" : Str)
        · rw [if_pos z3, z3, hend]
        rw [if_neg z3]
        by_cases z4 : z = ("got" : Str)
        · rw [if_pos z4, z4, hgot]
        rw [if_neg z4]
      rw [eM] at F₁
      have hf4 := find4_at (x := got) (y := y) (i := (sp : Int)) (j := (got.length : Int) - (wl.length : Int)) (lo := sp) (hi := got.length - wl.length) rfl (by omega) (by omega)
      have hyl2 : y.length ≤ sizeLine := by rw [sizeLine_eq]; omega
      repeat' (walk_at "go")
      · with_reducible rename find4 _ _ _ _ < 0 => hneg
        rcases hf4 with ⟨_, hfa⟩ | ⟨k, hk, _⟩
        · have eb := hinv false ⟨none, hfa, rfl⟩
          subst hgs
          dsimp only [StepG]
          repeat' (walk_at "go")
          rename_i kF kN
          exact h _ _ _ kF (newsSub kN fun p hp => .tail _ (.tail _ hp)) eb
        · exfalso
          rw [hk] at hneg
          omega
      · with_reducible rename ¬ find4 _ _ _ _ < 0 => hneg
        with_reducible rename Fr _ _ _ _ => FB
        with_reducible rename News _ _ _ _ => NB
        rcases hf4 with ⟨hk, _⟩ | ⟨k, hk, hfa⟩
        · exact absurd (show find4 got y (sp : Int) ((got.length : Int) - (wl.length : Int)) < 0 by rw [hk]; decide) hneg
        · have e9 : find4 got y (sp : Int) ((got.length : Int) - (wl.length : Int)) + (y.length : Int) = ((k + y.length : Nat) : Int) := by rw [hk]; push_cast; rfl
          rw [e9] at FB
          have hk2 := hfa.2.1.1
          rw [← str_len] at hk2
          refine ⟨_, _, _, _, nx, rfl, FB, NB, ?_, hgs, rfl, rfl, ⟨_, rfl⟩, k + y.length, _, rfl, hk2, fun b hb => hinv b ⟨some k, hfa, by rw [← str_len]; exact hb⟩⟩
          exact fun p hp q => hI p hp (List.mem_singleton.mp q)
end

section
variable {prog : Program} {w : World} {A : Around} {E : Value → Shared → Prop} {s : Shared} {K : Frag} {L : Addr} {h₀ : Heap} {m mg mb : Str → Option Value} {news : List (Addr × Obj)} {p : Program} {loose : List Str} {Q : Value → Shared → Prop}
/-- enter a def whose names are kept in cells -/
theorem enterX {name qual : Str} {params : Arguments} {body : List Stmt} {scope : Scope} {dV kV doc pm cdv ct oc : Value} {an od : Option Addr} {osl : Array (Option Value)} {f : Addr} {pos : List Value} {kw : List (Str × Value)} {binds : List (Str × Value)}
    (F : Fr h₀ L s.heap m) (X : K.In h₀) (N : News h₀ L s.heap news) (T : TopRead p loose mg mb h₀)
    (ho : K.lookup f = some ⟨oc, od, .func (fnOf name qual params body scope dV kV doc pm an cdv ct), osl⟩) (hcd : codeIn K cdv qual = true) (hroom : A.depth < recursionLimit)
    (hbind : BindsTo s (fnOf name qual params body scope dV kV doc pm an cdv ct) ⟨pos, kw⟩ binds) (hkind : (binds.all fun y => scope.names.lookup y.1 == some .local || scope.names.lookup y.1 == some .cell) = true)
    (hnd : ((cellsFrom 0 scope.names []).map (·.1)).Nodup)
    (h : ∀ g L' h₁ tk cells, Fr g L' h₁ (bindL (envOfC qual scope L' f cdv).kindOf binds fun _ => none) → News g L' h₁ (cells ++ news) →
      CellsAre (bindC (envOfC qual scope L' f cdv).kindOf binds fun _ => none) (cellsFrom (L' + 1) scope.names []) cells → K.In g → TopRead p loose mg mb g → (∀ p ∈ news, p.1 < L') → (∀ b o, h₀.get? b = some o → g.get? b = some o) →
      wpAny (model prog w) (A.deeper (envOfC qual scope L' f cdv)) (execs body (envOfC qual scope L' f cdv))
        (fun fl s' => LeaveM h₀ L m g Q (match fl with | .ret v => v | _ => .none) s') (fun _ _ => False)
        { s with heap := h₁, toks := tk })
    (hco : scope.isCoroutine = false) (hgen : scope.isGenerator = false) (hk : scope.kind = .function) : wpAny (model prog w) A (call (.ref f) pos kw) Q E s := by
  have nm : ∀ b o, h₀.get? b = some o → b ∉ news.map (·.1) := fun b o e q => by
    obtain ⟨p, hp, rfl⟩ := List.mem_map.mp q
    rw [(N p hp).2.2] at e; cases e
  have st : h₀.StaysIn (hideAll s.heap (news.map (·.1))) := fun b o e => hideAll_get _ (F.keep b o e) (nm b o e)
  obtain ⟨oL, es, ep, hL, hLd, hLk, hLf⟩ := F.ns
  have nL : L ∉ news.map (·.1) := fun q => by
    obtain ⟨p, hp, e⟩ := List.mem_map.mp q
    exact (N p hp).2.1 e
  have hLg := hideAll_get (news.map (·.1)) hL nL
  have XG : K.In (hideAll s.heap (news.map (·.1))) := Frag.In.keeps X st
  have TG : TopRead p loose mg mb (hideAll s.heap (news.map (·.1))) := TopRead.keeps T st
  refine wpAny_call (codeAny_call_function hroom ((X.keeps F.keep) _ _ ho) rfl hco hgen rfl (codeRec_of (X.keeps F.keep) hcd) (hbind _ _ _ _ ?_))
  refine wpAny_newFunctionEnv_cells hk (kindsX hkind _) fun env' he s' x => ?_
  subst he
  refine ⟨(T.nolimit.keeps F.keep).keeps x.toInCall.keep, codeAny_func ?_⟩
  obtain ⟨h₁, tk, rfl, _⟩ := x.done
  have hk₁ := x.toInCall.keep
  obtain ⟨cells, NC, Y⟩ := Cl.news (h₀ := s.heap) (Nat.le_refl _) fun n c hm => ⟨x.cell n c (lookup_of_mem_nodup (cellsFrom_names scope.names 0 (s.heap.objs.size + 1) [] [] rfl ▸ hnd) hm), x.above n c hm⟩
  refine wpAny_mono (h (hideAll s.heap (news.map (·.1))) s.heap.objs.size h₁ tk cells ⟨x.toInCall.ns, fun b o e => hk₁ b o (of_hideAll _ e), Nat.le_of_eq (hideAll_size _ _)⟩
    (fun p hp => ?_) Y XG TG (fun p hp => Heap.lt_size (N p hp).1) (fun b o e => hideAll_get _ (F.keep b o e) (nm b o e))) (fun fl s' hl => ?_) fun _ _ y => y.elim
  · rcases List.mem_append.mp hp with hp | hp
    · refine ⟨(NC p hp).1, (NC p hp).2.1, ?_⟩
      cases q : (hideAll s.heap (news.map (·.1))).get? p.1 with
      | none => rfl
      | some o => have := of_hideAll _ q; rw [(NC p hp).2.2] at this; cases this
    · exact ⟨hk₁ _ _ (N p hp).1, Nat.ne_of_lt (Heap.lt_size (N p hp).1), hideAll_none _ (List.mem_map_of_mem hp)⟩
  · obtain ⟨L', m', news', F', N', k⟩ := hl
    refine k ⟨⟨oL, es, ep, F'.keep L oL hLg, hLd, hLk, hLf⟩, fun b o e => F'.keep b o (st b o e), F.above⟩ fun p hp => ⟨(N' p hp).1, fun q => ?_, ?_⟩
    · have := (N' p hp).2.2; rw [q, hLg] at this; cases this
    · cases q : h₀.get? p.1 with
      | none => rfl
      | some o => have := (N' p hp).2.2; rw [st _ _ q] at this; cases this
end

section
variable {prog : Program} {w : World} {A : Around} {s : Shared} {h₀ : Heap} {L : Addr} {m : Str → Option Value} {env : Env}
open PyProof.Rows.LCg PyProof.Rows.LCt PyProof.Rows.LCp
theorem compEnd_mono {s₁ s₂ : Shared} {I C D : Addr} {oI oC oD : Obj} {S : List (Addr × Obj) → Prop} {R R' : Value → List (Addr × Obj) → Prop} {y : Value} (h : CompEnd h₀ L m s₁ I oI C oC D oD S R y s₂) (k : ∀ nw, R y nw → R' y nw) : CompEnd h₀ L m s₁ I oI C oC D oD S R' y s₂ :=
  let ⟨a, b, c, d, e, f, g, i, j⟩ := h; ⟨a, b, c, d, e, f, g, i, k _ j⟩
/-- a list comprehension with a test, by an invariant -/
theorem comp_T {ct elt : Expr} {x : Str} {scope : Scope} {cl : List (Str × Addr)} {S : List (Addr × Obj) → Prop} {P : Nat → Value → Prop} {Fin : List Value → List (Addr × Obj) → Prop} {n : Nat} (J : Nat → List Value → List (Addr × Obj) → Prop)
    (step : ∀ i ys news, i < n → J i ys news → ∀ v I oI C oC D m₂ h tk (E' : Value → Shared → Prop), P i v → NsObj oC m₂ → m₂ x = some v → Fr h₀ L h m → News h₀ L h ((I, oI) :: (C, oC) :: (D, lst ys) :: news) → Off3 I C D news → ((@Ne Nat I C) ∧ (@Ne Nat I D) ∧ (@Ne Nat C D)) →
      wpAny (model prog w) A (isTrue ct (compEnvC scope cl C env) (eval ct (compEnvC scope cl C env))) (fun ok s' => if ok = true then
        wpAny (model prog w) A (eval elt (compEnvC scope cl C env)) (CompEnd h₀ L m { s with heap := h, toks := tk } I oI C oC D (lst ys) S (fun y news' => J (i + 1) (ys ++ [y]) news')) E' s'
        else CompEnd h₀ L m { s with heap := h, toks := tk } I oI C oC D (lst ys) S (fun _ news' => J (i + 1) ys news') Value.none s') E' { s with heap := h, toks := tk })
    (fin : ∀ ys news, J n ys news → Fin ys news) : ∀ k i ys news, i + k = n → J i ys news → CompRestT prog w A h₀ L m env ct elt x scope cl s S P Fin k i ys news
  | 0, i, ys, news, e, h => fin ys news (by rw [← e]; exact h)
  | k + 1, i, ys, news, e, h => CompRestT.succ fun v I oI C oC D m₂ h' tk E' hv hC hx F N off ne =>
      wpAny_mono (step i ys news (by omega) h v I oI C oC D m₂ h' tk E' hv hC hx F N off ne) (fun ok s' hs => by
        cases ok with
        | true =>
          simp only [if_true] at hs ⊢
          exact wpAny_mono hs (fun y s'' hy => compEnd_mono hy fun nw hn => comp_T J step fin k (i + 1) _ _ (by omega) hn) fun _ _ z => z
        | false =>
          simp only [Bool.false_eq_true, if_false] at hs ⊢
          exact compEnd_mono hs fun nw hn => comp_T J step fin k (i + 1) _ _ (by omega) hn) fun _ _ z => z
/-- a list comprehension over pairs, by an invariant -/
theorem comp_P {elt : Expr} {x x₂ : Str} {scope : Scope} {cl : List (Str × Addr)} {S : List (Addr × Obj) → Prop} {P : Nat → Value → Prop} {Fin : List Value → List (Addr × Obj) → Prop} {n : Nat} (J : Nat → List Value → List (Addr × Obj) → Prop)
    (step : ∀ i ys news, i < n → J i ys news → ∀ v, P i v → ∃ (t : Addr) (ot : Obj) (v₁ v₂ : Value) (nt : Nat), v = .ref t ∧ (t, ot) ∈ news ∧ ot.cls = .type "tuple" ∧ ot.data = .seq #[v₁, v₂] nt ∧
      ∀ I oI C oC D m₂ h tk (E' : Value → Shared → Prop), NsObj oC m₂ → m₂ x = some v₁ → m₂ x₂ = some v₂ → Fr h₀ L h m → News h₀ L h ((I, oI) :: (C, oC) :: (D, lst ys) :: news) → Off3 I C D news → ((@Ne Nat I C) ∧ (@Ne Nat I D) ∧ (@Ne Nat C D)) →
      wpAny (model prog w) A (eval elt (compEnvC scope cl C env)) (CompEnd h₀ L m { s with heap := h, toks := tk } I oI C oC D (lst ys) S (fun y news' => J (i + 1) (ys ++ [y]) news')) E' { s with heap := h, toks := tk })
    (fin : ∀ ys news, J n ys news → Fin ys news) : ∀ k i ys news, i + k = n → J i ys news → CompRestP prog w A h₀ L m env elt x x₂ scope cl s S P Fin k i ys news
  | 0, i, ys, news, e, h => fin ys news (by rw [← e]; exact h)
  | k + 1, i, ys, news, e, h => CompRestP.succ fun v hv => by
      obtain ⟨t, ot, v₁, v₂, nt, a, b, c, d, go⟩ := step i ys news (by omega) h v hv
      exact ⟨t, ot, v₁, v₂, nt, a, b, c, d, fun I oI C oC D m₂ h' tk E' hC hx hy F N off ne =>
        wpAny_mono (go I oI C oC D m₂ h' tk E' hC hx hy F N off ne) (fun y s'' hy => compEnd_mono hy fun nw hn => comp_P J step fin k (i + 1) _ _ (by omega) hn) fun _ _ z => z⟩
end
/-- made pairs of ints -/
inductive IntTups (news : List (Addr × Obj)) : List Value → List (Int × Int) → Prop
  | nil : IntTups news [] []
  | cons {t : Addr} {a b : Int} {ta tb : Tok} {vs : List Value} {ps : List (Int × Int)} : (t, pairObj (.int a ta) (.int b tb)) ∈ news → IntTups news vs ps → IntTups news (.ref t :: vs) ((a, b) :: ps)
theorem IntTups.sub {news news' : List (Addr × Obj)} (hs : ∀ p ∈ news, p ∈ news') {vs : List Value} {ps : List (Int × Int)} (h : IntTups news vs ps) : IntTups news' vs ps := by
  induction h with
  | nil => exact .nil
  | cons hm _ ih => exact .cons (hs _ hm) ih
theorem IntTups.snoc {news : List (Addr × Obj)} {t : Addr} {a b : Int} {ta tb : Tok} (hm : (t, pairObj (.int a ta) (.int b tb)) ∈ news) {vs : List Value} {ps : List (Int × Int)} (h : IntTups news vs ps) : IntTups news (vs ++ [.ref t]) (ps ++ [(a, b)]) := by
  induction h with
  | nil => exact .cons hm .nil
  | cons hq _ ih => exact .cons hq ih
theorem IntTups.len {news : List (Addr × Obj)} {vs : List Value} {ps : List (Int × Int)} (h : IntTups news vs ps) : vs.length = ps.length := by
  induction h with
  | nil => rfl
  | cons _ _ ih => exact congrArg (· + 1) ih
theorem IntTups.at {news : List (Addr × Obj)} {vs : List Value} {ps : List (Int × Int)} {i : Nat} {v : Value} (h : IntTups news vs ps) (e : vs[i]? = some v) : ∃ t p ta tb, v = .ref t ∧ ps[i]? = some p ∧ (t, pairObj (.int p.1 ta) (.int p.2 tb)) ∈ news := by
  induction h generalizing i with
  | nil => cases e
  | cons hm _ ih =>
    cases i with
    | zero => exact ⟨_, _, _, _, (Option.some.inj e).symm, rfl, hm⟩
    | succ i => exact ih e

section
variable {prog : Program} {w : World} {A : Around} {s : Shared} {env : Env} {h₀ : Heap} {m : Str → Option Value} {news : List (Addr × Obj)} {target : Expr} {body orelse : List Stmt} {Q : Flow → Shared → Prop}
theorem codeAny_forLoopA {R : Result → Shared → Prop} {it : Value} (I : Nat → Shared → Prop)
    (turn : ∀ n s, I n s → wpAny (model prog w) A (pyNext it) (fun r s₁ => match r with
      | none => wpAny (model prog w) A (execs orelse env) (fun f s₃ => R (.ok f) s₃) (notedBy (model prog w) A env fun e s' => R (.error e) s') s₁
      | some v => wpAny (model prog w) A (letOwnedTupleGo target it v) (fun _ s₁' => wpAny (model prog w) A (assign target env v) (fun _ s₂ => wpAny (model prog w) A (execs body env) (fun f s₃ => match f with
          | .next | .cont => ∃ m, m < n ∧ I m s₃
          | .brk => R (.ok .next) s₃
          | .ret v => R (.ok (.ret v)) s₃) (notedBy (model prog w) A env fun e s' => R (.error e) s') s₂) (notedBy (model prog w) A env fun e s' => R (.error e) s') s₁') (notedBy (model prog w) A env fun e s' => R (.error e) s') s₁) (notedBy (model prog w) A env fun e s' => R (.error e) s') s)
    (n : Nat) (h : I n s) : codeAny (model prog w) A (.forLoop target it body orelse env) R s := by
  refine codeAny_loop' rfl I (fun n s hI => ?_) n h
  show wpAny _ _ ((forTurn target it body orelse env).onRaise (fun x => do noteFrame x env; theTreesLotGoes x)) _ _ s
  refine wpAny_noted ?_
  simp only [forTurn]
  refine wpAny_bind (wpAny_standAt (wpAny_bind (wpAny_onRaise (wpAny_mono (turn n s hI) (fun r s₁ h₁ => ?_) fun _ _ h' => wpAny_standAt h'))))
  cases r with
  | none => exact wpAny_pure (.inr ⟨rfl, codeAny_block h₁⟩)
  | some v =>
    refine wpAny_bind (wpAny_mono h₁ (fun _ s₁' h₁' => ?_) fun _ _ h' => h')
    refine wpAny_bind (wpAny_mono h₁' (fun _ s₂ h₂ => wpAny_bind (wpAny_mono h₂ (fun f s₃ h₃ => ?_) fun _ _ h' => h')) fun _ _ h' => h')
    cases f with
    | next => exact wpAny_pure (.inl ⟨rfl, h₃⟩)
    | cont => exact wpAny_pure (.inl ⟨rfl, h₃⟩)
    | brk => exact wpAny_pure h₃
    | ret v => exact wpAny_pure h₃
theorem codeAny_loopA {I : Addr} {fp wr : List Addr} {n : Nat} {P : Nat → Value → Prop} {St : Nat → Heap → Prop} (W : Walks prog w A I fp wr n P St)
    (hlet : ∀ i v (s' : Shared) (Q : Unit → Shared → Prop), P i v → St (i + 1) s'.heap → Q () s' → wpAny (model prog w) A (letOwnedTupleGo target (.ref I) v) Q NoErr s')
    (hfp : ∀ b ∈ fp, h₀.get? b = none ∧ b ≠ env.locals) (hhas : ∀ i h, St i h → ∀ b ∈ fp, (h.get? b).isSome = true)
    (hst : St 0 s.heap) (F : Fr h₀ env.locals s.heap m) (N : News h₀ env.locals s.heap news) (hnw : ∀ p ∈ news, p.1 ∉ wr)
    (J : Nat → (Str → Option Value) → List (Addr × Obj) → Array GenState → Prop) (h0 : J 0 m news s.gens)
    (step : ∀ i v m₁ news₁ h₁ gs tk, i < n → P i v → St (i + 1) h₁ → J i m₁ news₁ gs → (∀ p ∈ news₁, p.1 ∉ wr) → Fr h₀ env.locals h₁ m₁ → News h₀ env.locals h₁ (objsAt fp h₁ ++ news₁) →
      wpAny (model prog w) A (assign target env v) (fun _ s₂ => wpAny (model prog w) A (execs body env) (StepG h₀ env.locals wr (objsAt fp h₁) (J (i + 1)) s Q) NoErr s₂) NoErr { s with heap := h₁, gens := gs, toks := tk })
    (hR : ∀ h' gs tk m' news', Fr h₀ env.locals h' m' → News h₀ env.locals h' news' → (∀ p ∈ news', p.1 ∉ wr) → J n m' news' gs → wpAny (model prog w) A (execs orelse env) Q NoErr { s with heap := h', gens := gs, toks := tk }) :
    codeAny (model prog w) A (.forLoop target (.ref I) body orelse env) (fun r s' => match r with | .ok f => Q f s' | .error e => cameBackBy (model prog w) A env NoErr e s') s := by
  have hLw : env.locals ∉ wr := fun h => (hfp _ (W.sub _ h)).2 rfl
  have old : ∀ b o, h₀.get? b = some o → b ∉ wr := fun b o e hb => by rw [(hfp b (W.sub _ hb)).1] at e; cases e
  refine codeAny_forLoopA
    (fun k s' => ∃ h' gs tk m' news' i, s' = { s with heap := h', gens := gs, toks := tk } ∧ St i h' ∧ Fr h₀ env.locals h' m' ∧ News h₀ env.locals h' news' ∧ (∀ p ∈ news', p.1 ∉ wr) ∧ J i m' news' gs ∧ i ≤ n ∧ k = n + 1 - i) ?_ (n + 1)
    ⟨s.heap, s.gens, s.toks, m, news, 0, rfl, hst, F, N, hnw, h0, Nat.zero_le _, rfl⟩
  rintro k s' ⟨h', gs, tk, m', news', i, rfl, hst', F', N', hnw', hJ, hi, rfl⟩
  have next : ∀ h₁ : Heap, (∀ b o, b ∉ wr → h'.get? b = some o → h₁.get? b = some o) → Fr h₀ env.locals h₁ m' ∧ News h₀ env.locals h₁ news' := fun h₁ hk₁ =>
    ⟨⟨F'.ns.at' fun o e => hk₁ _ o hLw e, fun b o e => hk₁ b o (old b o e) (F'.keep b o e), F'.above⟩, fun p hp => ⟨hk₁ _ _ (hnw' p hp) (N' p hp).1, (N' p hp).2⟩⟩
  by_cases hlt : i < n
  · refine W.item i _ _ _ hlt hst' fun v h₁ tk₁ hP hst₁ hk₁ => ?_
    obtain ⟨F₁, N₁⟩ := next h₁ hk₁
    have Nown : News h₀ env.locals h₁ (objsAt fp h₁) := fun p hp => by
      obtain ⟨b, hb, rfl⟩ := List.mem_map.mp hp
      obtain ⟨o, ho⟩ := Option.isSome_iff_exists.mp (hhas _ _ hst₁ b hb)
      exact ⟨by show h₁.get? b = some ((h₁.get? b).getD emptyDict); rw [ho]; rfl, (hfp b hb).2, (hfp b hb).1⟩
    refine wpAny_mono (hlet i v _ _ hP hst₁ (wpAny_mono (step i v m' news' h₁ gs tk₁ hlt hP hst₁ hJ hnw' F₁ (Nown.append N₁)) (fun _ s₂ h₂ => wpAny_mono h₂ (fun f s₃ h₃ => ?_) fun _ _ (e : False) => e.elim) fun _ _ (e : False) => e.elim)) (fun _ _ x => x) fun _ _ (e : False) => e.elim
    have go : (∃ h' gs' tk' m₂ news₂, s₃ = { s with heap := h', gens := gs', toks := tk' } ∧ Fr h₀ env.locals h' m₂ ∧ News h₀ env.locals h' (objsAt fp h₁ ++ news₂) ∧ (∀ p ∈ news₂, p.1 ∉ wr) ∧ J (i + 1) m₂ news₂ gs') →
        ∃ m, m < n + 1 - i ∧ ∃ h' gs tk m' news' i, s₃ = { s with heap := h', gens := gs, toks := tk } ∧ St i h' ∧ Fr h₀ env.locals h' m' ∧ News h₀ env.locals h' news' ∧ (∀ p ∈ news', p.1 ∉ wr) ∧ J i m' news' gs ∧ i ≤ n ∧ m = n + 1 - i := by
      rintro ⟨h₃', gs₃, tk₃, m₂, news₂, rfl, F₃, N₃, ha₃, hJ₃⟩
      refine ⟨n + 1 - (i + 1), by omega, h₃', gs₃, tk₃, m₂, news₂, i + 1, rfl, ?_, F₃, N₃.right, ha₃, hJ₃, hlt, rfl⟩
      refine W.frame _ _ _ hst₁ fun b hb o e => ?_
      have := (N₃ (b, (h₁.get? b).getD emptyDict) (List.mem_append_left _ (List.mem_map.mpr ⟨b, hb, rfl⟩))).1
      rw [e] at this
      exact this
    cases f with
    | ret v => exact h₃
    | brk => exact h₃
    | cont => exact go h₃
    | next => exact go h₃
  · have hin : i = n := by omega
    subst hin
    refine W.done _ _ _ hst' fun h₁ tk₁ hk₁ => ?_
    obtain ⟨F₁, N₁⟩ := next h₁ hk₁
    exact wpAny_mono (hR h₁ gs tk₁ m' news' F₁ N₁ hnw' hJ) (fun _ _ x => x) fun _ _ (e : False) => e.elim
theorem for_A {iter : Expr} {pos : Pos} (h : wpAny (model prog w) A (eval iter env) (fun xv s₁ => wpAny (model prog w) A (pyIter xv) (fun it s₂ =>
      codeAny (model prog w) A (.forLoop target it body orelse env) (fun r s' => match r with | .ok f => Q f s' | .error e => cameBackBy (model prog w) A env NoErr e s') s₂) NoErr s₁) NoErr s)
    (hs : ∀ x, foldedSetIterable iter env x = pure x := by intro _; rfl) : wpAny (model prog w) A (exec (.For target iter body orelse pos) env) Q NoErr s := wpAny_For h hs
/-- a loop over a list of the ledger, any target -/
theorem list_loopA {D : Addr} {its : Array Value} {n : Nat} {od : Obj} (hh : A.handled = none) (hT : ∀ (I i : Nat) v (s' : Shared) (Q : Unit → Shared → Prop), its[i]? = some v → s'.heap.IsListIter I D (i + 1) → Q () s' → wpAny (model prog w) A (letOwnedTupleGo target (.ref I) v) Q NoErr s')
    (F : Fr h₀ env.locals s.heap m) (ND : News h₀ env.locals s.heap ((D, od) :: news)) (hod : od.cls = .type "list") (hdat : od.data = .seq its n)
    (J : Nat → (Str → Option Value) → List (Addr × Obj) → Array GenState → Prop) (h0 : J 0 m news s.gens)
    (turn : ∀ i v m₁ nx h₁ gs tk I o o2, its[i]? = some v → (o2.cls = .type "list" ∧ ∃ k, o2.data = .seq its k) → J i m₁ nx gs → (∀ p ∈ nx, @Ne Nat p.1 I) → (∀ p ∈ news, @LT.lt Nat _ p.1 I) → @LT.lt Nat _ D I → Fr h₀ env.locals h₁ m₁ → News h₀ env.locals h₁ ((I, o) :: (D, o2) :: nx) →
      wpAny (model prog w) A (assign target env v) (fun _ s₂ => wpAny (model prog w) A (execs body env) (StepG h₀ env.locals [I] [(I, o), (D, o2)] (J (i + 1)) s Q) NoErr s₂) NoErr { s with heap := h₁, gens := gs, toks := tk })
    (done : ∀ h' gs tk m' nx, Fr h₀ env.locals h' m' → News h₀ env.locals h' nx → J its.size m' nx gs → wpAny (model prog w) A (execs orelse env) Q NoErr { s with heap := h', gens := gs, toks := tk }) :
    wpAny (model prog w) A (pyIter (.ref D)) (fun it s₂ => codeAny (model prog w) A (.forLoop target it body orelse env) (fun r s' => match r with | .ok f => Q f s' | .error e => cameBackBy (model prog w) A env NoErr e s') s₂) NoErr s := by
  obtain ⟨nD, N⟩ := news2 ND
  have hl : s.heap.IsList D its := ⟨od, nD.1, hod, n, hdat⟩
  refine wpAny_pyIter_list hl ?_
  have lt : ∀ p ∈ news, p.1 < s.heap.objs.size := fun p hp => Heap.lt_size (N p hp).1
  have ltD : D < s.heap.objs.size := Heap.lt_size nD.1
  have keepD : (s.heap.push { cls := .type "list_iterator", data := .fields #[.ref D, .int 0 0] }).get? D = some od := Heap.get?_push_of_some _ nD.1
  refine codeAny_loopA (s := { s with heap := _ }) (n := its.size) (J := J) (Walks.list hh _ D (Nat.ne_of_lt ltD) its) (fun i v s' Q hP hs hq => hT _ i v s' Q hP hs.1 hq) ?_ ?_ ⟨⟨_, Heap.get?_push_size _ rfl, rfl, rfl⟩, od, keepD, hod, n, hdat⟩ (F.push _) (fun p hp => (N.push F _) p (.tail _ hp)) (fun p hp q => Nat.ne_of_lt (lt p hp) (List.mem_singleton.mp q)) h0 ?_ ?_
  · intro b hb
    rcases List.mem_cons.mp hb with rfl | hb
    · exact fresh_at F _ (.head _)
    · obtain rfl := List.mem_singleton.mp hb
      exact ⟨nD.2.2, nD.2.1⟩
  · intro i h ⟨⟨o, ho, _⟩, o', ho', _⟩ b hb
    rcases List.mem_cons.mp hb with rfl | hb
    · rw [ho]; rfl
    · obtain rfl := List.mem_singleton.mp hb
      rw [ho']; rfl
  · intro i v m₁ nx h₁ gs tk hi hP hSt hJ hnx F₁ N₁
    refine turn i v m₁ nx h₁ gs tk _ _ _ hP ?_ hJ (fun p hp e => hnx p hp (by rw [e]; exact .head _)) lt ltD F₁ N₁
    obtain ⟨_, o', ho', hc', k', hd'⟩ := hSt
    rw [ho']
    exact ⟨hc', k', hd'⟩
  · intro h' gs tk m' nx F' N' _ hJ
    exact done h' gs tk m' nx F' N' hJ
/-- no tuple is let go by a list's iterator -/
theorem let_list {elts : List Expr} {x1} {pos : Pos} {I D : Addr} {i : Nat} {v : Value} {s' : Shared} {Q : Unit → Shared → Prop} (hv : ∃ t, v = .ref t) (hit : s'.heap.IsListIter I D i) (hQ : Q () s') :
    wpAny (model prog w) A (letOwnedTupleGo (.Tuple elts x1 pos) (.ref I) v) Q NoErr s' := by
  obtain ⟨t, rfl⟩ := hv
  exact wpAny_letOwnedTupleGo_listiter hit hQ
end
section
variable {prog : Program} {w : World} {A : Around} {E : Value → Shared → Prop} {s : Shared} {D : Addr} {its : Array Value} {value slice : Expr}
theorem isList_of {h₀ h : Heap} {L : Addr} {news : List (Addr × Obj)} {o : Obj} (N : News h₀ L h news) (hm : (D, o) ∈ news) (ho : o.cls = .type "list" ∧ ∃ k, o.data = .seq its k) : h.IsList D its := ⟨o, (N _ hm).1, ho.1, ho.2.choose, ho.2.choose_spec⟩
theorem item_last {t : Tok} {x : Value} {Q : Value → Shared → Prop} (hl : s.heap.IsList D its) (h1 : 1 ≤ its.size) (hx : its[its.size - 1]? = some x) (h : Q x s)
    (hs : subscripted slice false (.ref D) (.int (-1) t) = operate [.ref D, .int (-1) t] (getItem (.ref D) (.int (-1) t))) : wpAny (model prog w) A (subscriptTail value slice (.ref D) (.int (-1) t)) Q E s :=
  tail_any hl.typeIs slot_list_getitem.lookup (wpAny_getItem_list_neg hl (by decide) (by omega) (by decide) (by rw [show ((-1 : Int) + (its.size : Int)).toNat = its.size - 1 by omega]; exact hx) h) hs
end

noncomputable def tupData (ps : List (Int × Int)) : List PyData := ps.map fun p => .tuple [.int p.1, .int p.2]
theorem tup_lay : ∀ ps : List (Int × Int), PyData.canLayAll0 (tupData ps) = true
  | [] => rfl
  | p :: r => by
    have := tup_lay r
    unfold tupData at this ⊢
    simp [PyData.canLayAll0, PyData.canLay0, this]
theorem tup_depth : ∀ ps : List (Int × Int), PyData.depthAll (tupData ps) ≤ 1
  | [] => by simp [tupData, PyData.depthAll]
  | p :: r => by
    have := tup_depth r
    unfold tupData at this ⊢
    simp [PyData.depthAll, PyData.depth]
    omega
theorem tup_shaped (ps : List (Int × Int)) : SeqAt.shaped (.list (tupData ps)) = true := by
  have := tup_depth ps
  simp [SeqAt.shaped, PyData.canLay0, PyData.depth, tup_lay]
  omega
section
variable {prog : Program} {w : World} {A : Around} {E : Value → Shared → Prop} {s : Shared} {h₀ : Heap} {L a b : Addr} {news jn : List (Addr × Obj)} {Q : Value → Shared → Prop} {items : Array Value} {n n' : Nat} {ps : List (Int × Int)}
theorem tups_read (N : News h₀ L s.heap jn) {vs : List Value} {ps : List (Int × Int)} (h : IntTups jn vs ps) : ∃ as, ReadsAll s.heap vs (tupData ps) as := by
  induction h with
  | nil => exact ⟨_, .nil⟩
  | cons hm _ ih => exact ih.elim fun as h => ⟨_, .cons (.tuple (N _ hm).1 rfl rfl (.cons (.int _ _) (.cons (.int _ _) .nil))) h⟩
theorem eq_nil (N : News h₀ L s.heap news) (ha : (a, listOf items n) ∈ news) (hb : (b, listOf #[] n') ∈ news) (hj : ∀ p ∈ jn, p ∈ news) (hT : IntTups jn items.toList ps) (hu : A.units + 64 < cLine) (h : Q (.bool ps.isEmpty) s) :
    wpAny (model prog w) A (compareOp .Eq (.ref a) (.ref b)) Q E s := by
  obtain ⟨as, hr⟩ := tups_read (newsSub N hj) hT
  refine eq_dataH (.list (N _ ha).1 rfl rfl hr) (.list (N _ hb).1 rfl rfl .nil) (tup_shaped ps) (by rfl) hu ?_
  have e : PyData.eqv (.list (tupData ps)) (.list []) = ps.isEmpty := by
    cases ps with
    | nil => simp [tupData, PyData.eqv, PyData.eqvAll]
    | cons p r => simp [tupData, PyData.eqv, PyData.eqvAll]
  rw [e]
  exact h
end

/-- the lengths of the words -/
noncomputable def names10 : List Int := [9, 9, 7, 11, 6, 9, 6, 9, 18, 15]
noncomputable def sizeOf (k : Nat) : Int := if k < 10 then names10.getD k 0 else 3 + (k : Int) / 4
noncomputable def rawSizes (n : Int) (i : Nat) : List (Int × Int) := ((List.range i).filter fun k => hasBit n k).map fun k : Nat => ((k : Int), sizeOf k)
theorem rawSizes_succ (n : Int) (i : Nat) : rawSizes n (i + 1) = if hasBit n i then rawSizes n i ++ [((i : Int), sizeOf i)] else rawSizes n i := by
  unfold rawSizes
  rw [List.range_succ, List.filter_append, List.map_append]
  cases h : hasBit n i <;> simp [h]
theorem off3_put {I C D t : Addr} {o : Obj} {a b c : Addr × Obj} {r : List (Addr × Obj)} (h : LCg.Off3 I C D (a :: b :: c :: r)) (hI : @LT.lt Nat _ I t) (hC : @LT.lt Nat _ C t) (hD : @LT.lt Nat _ D t) : LCg.Off3 I C D (a :: b :: c :: (t, o) :: r) :=
  ⟨h.1, h.2.1, h.2.2.1, ⟨Nat.ne_of_gt hI, Nat.ne_of_gt hC, Nat.ne_of_gt hD⟩, h.2.2.2⟩
theorem bit_iff {n : Int} {i : Nat} : Builtin.bitAnd (n.fdiv (2 ^ ((i : Int)).toNat)) 1 = 1 ↔ hasBit n i = true := by
  have e : Builtin.bitAnd (n.fdiv (2 ^ ((i : Int)).toNat)) 1 = n / 2 ^ i % 2 := by
    have := kbt_bit (n.fdiv (2 ^ ((i : Int)).toNat)) 0
    rw [Int.pow_zero, Int.ediv_one, Int.mul_one] at this
    rw [this, Int.toNat_natCast, Int.fdiv_eq_ediv_of_nonneg _ (Int.le_of_lt (Int.pow_pos (by decide)))]
  rw [e]
  unfold hasBit
  rw [beq_iff_eq]
theorem size_small : ∀ i : Nat, i < 10 → ([9, 9, 7, 11, 6, 9, 6, 9, 18, 15] : List Int).getD i 0 = sizeOf i := by decide
noncomputable def SizeJ (n : Int) (lN : Addr) (a b c : Addr × Obj) (news : List (Addr × Obj)) (i : Nat) (ys : List Value) (nw : List (Addr × Obj)) : Prop := ∃ junk, nw = a :: b :: c :: (junk ++ news) ∧ IntTups junk ys (rawSizes n i) ∧ ∀ p ∈ junk, @LT.lt Nat _ lN p.1
theorem size_put {h₀ h5 : Heap} {L I C D t lN : Addr} {m : Str → Option Value} {s₁ : Shared} {oI oC : Obj} {a b c : Addr × Obj} {junk news : List (Addr × Obj)} {n : Int} {i : Nat} {ys : List Value} {ta tb : Tok} {tk : Nat} (F5 : Fr h₀ L h5 m)
    (N5 : News h₀ L h5 ((t, pairObj (.int (i : Int) ta) (.int (sizeOf i) tb)) :: (I, oI) :: (C, oC) :: (D, LCg.lst ys) :: a :: b :: c :: (junk ++ news))) (off : LCg.Off3 I C D (a :: b :: c :: (junk ++ news)))
    (hI : @LT.lt Nat _ I t) (hC : @LT.lt Nat _ C t) (hD : @LT.lt Nat _ D t) (hN : @LT.lt Nat _ lN t) (hbit : hasBit n i = true) (hT : IntTups junk ys (rawSizes n i)) (hj : ∀ p ∈ junk, @LT.lt Nat _ lN p.1) :
    LCg.CompEnd h₀ L m s₁ I oI C oC D (LCg.lst ys) (fun _ => True) (fun y nw => SizeJ n lN a b c news (i + 1) (ys ++ [y]) nw) (.ref t) { s₁ with heap := h5, toks := tk } := by
  refine LCg.CompEnd.intro F5 N5 (a :: b :: c :: ((t, pairObj (.int (i : Int) ta) (.int (sizeOf i) tb)) :: junk ++ news)) ?_ (off3_put off hI hC hD) trivial ⟨_ :: junk, rfl, ?_, ?_⟩
  · intro p hp
    simp only [List.mem_cons, List.cons_append] at hp ⊢
    rcases hp with h | h | h | h | h | h | h | h <;> simp [h]
  · rw [rawSizes_succ, hbit]
    exact IntTups.snoc (.head _) (hT.sub fun p hp => .tail _ hp)
  · exact List.forall_mem_cons.mpr ⟨hN, hj⟩
theorem size_skip {h₀ h5 : Heap} {L I C D lN : Addr} {m : Str → Option Value} {s₁ : Shared} {oI oC : Obj} {a b c : Addr × Obj} {junk news : List (Addr × Obj)} {n : Int} {i : Nat} {ys : List Value} {tk : Nat} (F5 : Fr h₀ L h5 m)
    (N5 : News h₀ L h5 ((I, oI) :: (C, oC) :: (D, LCg.lst ys) :: a :: b :: c :: (junk ++ news))) (off : LCg.Off3 I C D (a :: b :: c :: (junk ++ news)))
    (hbit : hasBit n i = false) (hT : IntTups junk ys (rawSizes n i)) (hj : ∀ p ∈ junk, @LT.lt Nat _ lN p.1) :
    LCg.CompEnd h₀ L m s₁ I oI C oC D (LCg.lst ys) (fun _ => True) (fun _ nw => SizeJ n lN a b c news (i + 1) ys nw) .none { s₁ with heap := h5, toks := tk } :=
  LCg.CompEnd.intro F5 N5 _ (fun _ h => h) off trivial ⟨junk, rfl, by rw [rawSizes_succ, hbit]; exact hT, hj⟩
/-- paths that meet -/
noncomputable def CutEnd (s : Shared) (h₀ : Heap) (L : Addr) (mm : Str → Option Value) (K : Heap → Prop) (f : Flow) (s' : Shared) : Prop := f = .next ∧ ∃ h' tk, s' = { s with heap := h', toks := tk } ∧ Fr h₀ L h' mm ∧ K h'
theorem cut_if {M : Model} {A : Around} {E : Value → Shared → Prop} {s : Shared} {t : Sem Flow} {h₀ h5 : Heap} {L : Addr} {mm : Str → Option Value} {Q : Flow → Shared → Prop} (_F5 : Fr h₀ L h5 mm) (K : Heap → Prop)
    (h1 : wpAny M A t (CutEnd s h₀ L mm K) E s) (h2 : ∀ h' tk, Fr h₀ L h' mm → K h' → Q .next { s with heap := h', toks := tk }) : wpAny M A t Q E s :=
  wpAny_mono h1 (fun f s' hs => by obtain ⟨rfl, h', tk, rfl, F, k⟩ := hs; exact h2 h' tk F k) fun _ _ e => e
noncomputable def sizes1 (n : Int) : List (Int × Int) := rawSizes n 32 ++ if n / 2 ^ 32 ≠ 0 then [(32, if n > 0 then 11 else 12)] else []
theorem off_of1 {D : Addr} : ∀ {l : List (Addr × Obj)}, LCg.Off1 D l → Off [D] l
  | [], _ => fun _ h => nomatch h
  | p :: r, h => Off.put (p := p) ⟨h.1, trivial⟩ (off_of1 h.2)
theorem rawSizes_len (n : Int) (i : Nat) : (rawSizes n i).length ≤ i := by
  unfold rawSizes
  rw [List.length_map]
  exact Nat.le_trans (List.length_filter_le _ _) (by rw [List.length_range]; exact Nat.le_refl _)
theorem cut_append {h₀ h' : Heap} {L D0 t : Addr} {a b : Int} {ta tb : Tok} {ys : Array Value} {k : Nat} {c : Addr × Obj} {junk news : List (Addr × Obj)} {ps : List (Int × Int)}
    (N : News h₀ L h' ((t, pairObj (.int a ta) (.int b tb)) :: (D0, listOf (ys.push (.ref t)) k) :: c :: (junk ++ news))) (hT : IntTups junk ys.toList ps) (off : Off [D0] (c :: (junk ++ news))) (hlt : @LT.lt Nat _ D0 t) :
    ∃ ys' k' junk', News h₀ L h' ((D0, listOf ys' k') :: c :: (junk' ++ news)) ∧ IntTups junk' ys'.toList (ps ++ [(a, b)]) ∧ Off [D0] (c :: (junk' ++ news)) := by
  refine ⟨ys.push (.ref t), k, (t, pairObj (.int a ta) (.int b tb)) :: junk, newsSub N ?_, ?_, ?_⟩
  · intro p hp
    simp only [List.mem_cons, List.cons_append] at hp ⊢
    rcases hp with h | h | h | h <;> simp [h]
  · rw [Array.toList_push]
    exact IntTups.snoc (.head _) (hT.sub fun p hp => .tail _ hp)
  · intro p hp hm
    simp only [List.mem_cons, List.cons_append] at hp
    rcases hp with h | h | h
    · exact off p (by simp [h]) hm
    · have e := List.mem_singleton.mp hm
      rw [h] at e
      exact Nat.ne_of_gt hlt e
    · exact off p (by simp [h]) hm
noncomputable def sizes2 (n : Int) : List (Int × Int) := if (sizes1 n).isEmpty then [(32, 3)] else sizes1 n
/-- one place more -/
noncomputable def cutStep (width head last : Int) (st : List (Int × Int) × Int × Int) (p : Int × Int) : List (Int × Int) × Int × Int :=
  let full := if p.1 < last then p.2 + 2 else p.2 + 1
  if st.2.1 < full ∧ 0 ≤ st.2.2 + head then (st.1 ++ [(st.2.2, p.1)], width - full, p.1) else (st.1, st.2.1 - full, p.1)
noncomputable def lastOf (n : Int) : Int := ((sizes2 n).getLast?.map (·.1)).getD 0
noncomputable def cutsV (n width head : Int) : List (Int × Int) := ((sizes2 n).foldl (cutStep width head (lastOf n)) ([], width - head, -1)).1
theorem sizes2_ne (n : Int) : sizes2 n ≠ [] := by
  unfold sizes2
  split
  · simp
  · rename_i h
    intro e
    rw [e] at h
    exact h rfl
theorem newsDrop2 {h₀ h : Heap} {L : Addr} {p q : Addr × Obj} {r : List (Addr × Obj)} (N : News h₀ L h (p :: q :: r)) : News h₀ L h (p :: r) := newsSub N fun x hx => by
  rcases List.mem_cons.mp hx with rfl | hx
  · exact .head _
  · exact .tail _ (.tail _ hx)
theorem lastOf_get {n : Int} {p : Int × Int} (h : (sizes2 n)[(sizes2 n).length - 1]? = some p) : lastOf n = p.1 := by
  unfold lastOf
  rw [List.getLast?_eq_getElem?, h]
  rfl
theorem sizes2_len (n : Int) : (sizes2 n).length ≤ 33 := by
  have a2 := rawSizes_len n 32
  have a3 : (sizes1 n).length ≤ 33 := by
    unfold sizes1
    rw [List.length_append]
    split <;> simp <;> omega
  unfold sizes2
  split
  · simp
  · exact a3
theorem turn_cut {h₀ h8 : Heap} {L t9 Dc : Addr} {a b : Value} {x1 x2 x3 x4 : Addr × Obj} {cs : Array Value} {k : Nat} {junk2 rest : List (Addr × Obj)} (N8 : News h₀ L h8 ((t9, pairObj a b) :: x1 :: x2 :: x3 :: x4 :: (Dc, listOf (cs.push (.ref t9)) k) :: (junk2 ++ rest))) :
    News h₀ L h8 ([x3, x4] ++ ((Dc, listOf (cs.push (.ref t9)) k) :: ((t9, pairObj a b) :: junk2 ++ rest))) := newsSub N8 fun x hx => by
  simp only [List.mem_cons, List.cons_append, List.nil_append] at hx ⊢
  rcases hx with h | h | h | h | h <;> simp [h]
theorem cutStep_cut {width head last full : Int} {st : List (Int × Int) × Int × Int} {p : Int × Int} (hfull : (if p.1 < last then p.2 + 2 else p.2 + 1) = full) (hf : st.2.1 < full) (ha : 0 ≤ st.2.2 + head) : cutStep width head last st p = (st.1 ++ [(st.2.2, p.1)], width - full, p.1) := by
  unfold cutStep
  rw [hfull, if_pos ⟨hf, ha⟩]
theorem cutStep_on {width head last full : Int} {st : List (Int × Int) × Int × Int} {p : Int × Int} (hfull : (if p.1 < last then p.2 + 2 else p.2 + 1) = full) (hf : ¬ (st.2.1 < full ∧ 0 ≤ st.2.2 + head)) : cutStep width head last st p = (st.1, st.2.1 - full, p.1) := by
  unfold cutStep
  rw [hfull, if_neg hf]
theorem off_sub3 {I a b : Addr} {o1 o2 o3 : Obj} {l l' : List (Addr × Obj)} (h : ∀ p ∈ (a, o1) :: (l ++ l'), @Ne Nat p.1 I) (hb : @Ne Nat b I) : ∀ p ∈ (a, o2) :: ((b, o3) :: l ++ l'), p.1 ∉ [I] := fun p hp q => by
  have q := List.mem_singleton.mp q
  rcases List.mem_cons.mp hp with rfl | hp
  · exact h (a, o1) (.head _) q
  · rcases List.mem_cons.mp hp with rfl | hp
    · exact hb q
    · exact h p (.tail _ hp) q
set_option maxHeartbeats 4000000
section
variable {w : World} {A : Around} {E : Value → Shared → Prop} {s : Shared} {L : Addr} {h₀ : Heap} {m mg mb : Str → Option Value} {loose : List Str} {news : List (Addr × Obj)} {Q : Value → Shared → Prop} {n width head : Int} {t1 t2 t3 : Tok}
theorem cuts_call (F : Fr h₀ L s.heap m) (X : (hd.heap_1 w.params).In h₀) (N : News h₀ L s.heap news) (T : TopRead hd.view_1 loose mg mb h₀) (M : Mod mg h₀)
    (hn : -2 ^ 34 ≤ n) (hn2 : n < 2 ^ 34) (hroom : A.depth < 920) (hh : A.handled = none) (hu : A.units < 6000)
    (h : ∀ h' tk Dc cs k junk, Fr h₀ L h' m → News h₀ L h' ((Dc, listOf cs k) :: (junk ++ news)) → IntTups junk cs.toList (cutsV n width head) → (∀ p ∈ news, @LT.lt Nat _ p.1 Dc) → (∀ p ∈ junk, @LT.lt Nat _ Dc p.1) → Q (.ref Dc) { s with heap := h', toks := tk }) :
    wpAny (model PySem.Challenge.rw_ty0040_01.row.prog w) A (call (.ref 209) [.int n t1, .int width t2, .int head t3] []) Q E s := by
  walk_at "enterX"
  intro g1 L1 h1 tk1 cells1 F1 N1 Y1 X1 T1 l1 st1
  have M1 := M.keeps st1
  obtain ⟨c1, c2, rfl, d1, d2⟩ := CellsAre.two Y1
  clear Y1 st1
  simp only [List.cons_append, List.nil_append] at N1
  have z1 : Off [L1 + 1 + 1, L1 + 1] news := fun p hp hm => by
    have := l1 p hp
    simp only [List.mem_cons, List.not_mem_nil, or_false] at hm
    have q : @LT.lt Nat _ p.1 L1 := this
    rcases hm with e | e <;> (have e' : @Eq Nat p.1 _ := e; omega)
  have z2 : Off [L1 + 1 + 1] ((L1 + 1, c2) :: news) := Off.put ⟨Nat.ne_of_lt (Nat.lt_succ_self _), trivial⟩ fun p hp hm => z1 p hp (by rw [List.mem_singleton.mp hm]; exact .head _)
  iterate 25 (walk_at "go")
  rename_i lN h2 F2 N2 ll2 ca cb cc
  iterate 2 (walk_at "go")
  rename_i h3 oN F3 N3 d3 _
  with_reducible rename Fr _ _ _ _ => Fb
  with_reducible rename News _ _ _ _ => Nb
  refine LCt.Assign_ListComp_T (F₀ := Fb) (by rfl) (by with_unfolding_all rfl) (by with_unfolding_all rfl) (by decide) (by rfl) (by decide) (by rfl) (by rfl) (by rfl) ?_
  iterate 7 walk1
  refine LCt.CompSrcT.range (n := 32) (by with_unfolding_all assumption) (by k_asm) (by k_asm) (by assumption) (by decide) (by rfl) (by rw [sizeLine_eq]; decide) ?_
  intro g9
  have q1 := trivial
  have q2 := trivial
  rename (AllLt _ news) => q3
  have hl0 := And.intro q1 (And.intro q2 q3)
  refine comp_T (n := 32) (SizeJ n lN (lN, _) (L1 + 1 + 1, oN) (L1 + 1, c2) news) ?stepz ?finz 32 0 [] _ rfl ⟨[], rfl, .nil, fun _ h => nomatch h⟩
  case stepz =>
    rintro i ys nw hi ⟨junk, rfl, hT, hj⟩ v I oI C oC D m₂ h4 tk4 E' ⟨t4, rfl⟩ hC hx F4 N4 off ne
    rw [Int.zero_add] at hx
    repeat' (walk_at "go")
    · rename (@LT.lt Nat _ I _) => q1
      rename (@LT.lt Nat _ C _) => q2
      rename (@LT.lt Nat _ D _) => q3
      rename (@LT.lt Nat _ lN _) => q4
      (first | rename (AllLt _ _) => q5 | have q5 := trivial)
      have hlt := And.intro q1 (And.intro q2 (And.intro q3 (And.intro q4 q5)))
      rename (Builtin.bitAnd _ 1 = 1) => hbit
      rename ((i : Int) < 10) => hi10
      with_reducible rename News _ _ _ _ => N5
      with_reducible rename Fr _ _ _ _ => F5
      rw [Int.toNat_natCast, size_small i (by omega)] at N5
      exact size_put F5 N5 off hlt.1 hlt.2.1 hlt.2.2.1 hlt.2.2.2.1 (bit_iff.mp hbit) hT hj
    · rename (@LT.lt Nat _ I _) => q1
      rename (@LT.lt Nat _ C _) => q2
      rename (@LT.lt Nat _ D _) => q3
      rename (@LT.lt Nat _ lN _) => q4
      (first | rename (AllLt _ _) => q5 | have q5 := trivial)
      have hlt := And.intro q1 (And.intro q2 (And.intro q3 (And.intro q4 q5)))
      rename (Builtin.bitAnd _ 1 = 1) => hbit
      rename (¬ (i : Int) < 10) => hi10
      with_reducible rename News _ _ _ _ => N5
      with_reducible rename Fr _ _ _ _ => F5
      rw [show 3 + ((i : Int)).fdiv 4 = sizeOf i by rw [sizeOf, if_neg (by omega), Int.fdiv_eq_ediv_of_nonneg _ (by decide)]] at N5
      exact size_put F5 N5 off hlt.1 hlt.2.1 hlt.2.2.1 hlt.2.2.2.1 (bit_iff.mp hbit) hT hj
    · rename (Builtin.bitAnd _ 1 ≠ 1) => hbit
      refine size_skip F4 N4 off ?_ hT hj
      rw [Ne, bit_iff] at hbit
      simpa using hbit
  case finz =>
    rintro ys nw ⟨junk, rfl, hT, hj⟩
    unfold LCg.FinA
    intro D0 h5 tk5 F5 N5 o5
    dsimp only
    walk1
    have N6 : News g1 L1 h5 ((D0, listOf ys.toArray ys.length) :: (L1 + 1, c2) :: (junk ++ news)) := newsSub N5 fun p hp => by
      simp only [List.mem_cons] at hp ⊢
      rcases hp with h | h | h <;> simp [h]
    have z5 : Off [D0] ((L1 + 1, c2) :: (junk ++ news)) := fun p hp => off_of1 o5 p (.tail _ (.tail _ hp))
    clear N5
    have hzl : ys.length ≤ 32 := by rw [hT.len]; exact rawSizes_len n 32
    have hzs : ys.toArray.size ≤ sizeLine := by rw [List.size_toArray, sizeLine_eq]; omega
    refine cut_if F5 (fun h' => ∃ ys' k' junk', News g1 L1 h' ((D0, listOf ys' k') :: (L1 + 1, c2) :: (junk' ++ news)) ∧ IntTups junk' ys'.toList (sizes1 n) ∧ Off [D0] ((L1 + 1, c2) :: (junk' ++ news))) ?_ ?_
    · have hv : n.fdiv (2 ^ Int.toNat 32) = n / 2 ^ 32 := Int.fdiv_eq_ediv_of_nonneg _ (by decide)
      repeat' (walk_at "go")
      · rename (0 < n) => hp
        rename (n.fdiv _ ≠ 0) => h0
        rename (@LT.lt Nat _ D0 _) => q1
        (first | rename (AllLt _ _) => q2 | have q2 := trivial)
        have hlt := And.intro q1 q2
        with_reducible rename News _ _ _ _ => N7
        with_reducible rename Fr _ _ _ _ => F7
        refine ⟨rfl, _, _, rfl, F7, ?_⟩
        rw [sizes1, if_pos (by rw [← hv]; exact h0), if_pos hp]
        exact cut_append N7 hT z5 hlt.1
      · rename (¬ 0 < n) => hp
        rename (n.fdiv _ ≠ 0) => h0
        rename (@LT.lt Nat _ D0 _) => q1
        (first | rename (AllLt _ _) => q2 | have q2 := trivial)
        have hlt := And.intro q1 q2
        with_reducible rename News _ _ _ _ => N7
        with_reducible rename Fr _ _ _ _ => F7
        refine ⟨rfl, _, _, rfl, F7, ?_⟩
        rw [sizes1, if_pos (by rw [← hv]; exact h0), if_neg hp]
        exact cut_append N7 hT z5 hlt.1
      · rename (n.fdiv _ = 0) => h0
        refine ⟨rfl, _, _, rfl, F5, _, _, junk, N6, ?_, z5⟩
        rw [sizes1, if_neg (by rw [← hv, h0]; decide), List.append_nil]
        exact hT
    rintro h6 tk6 F6 ⟨ys6, k6, junk6, N7, hT6, z6⟩
    clear N6 hT z5 hj F5
    dsimp only
    walk1
    have hz6 : ys6.size ≤ 33 := by
      have a1 := hT6.len
      have a2 := rawSizes_len n 32
      have a3 : (sizes1 n).length ≤ 33 := by
        unfold sizes1
        rw [List.length_append]
        split <;> simp <;> omega
      rw [Array.length_toList] at a1
      omega
    have hzs6 : ys6.size ≤ sizeLine := by rw [sizeLine_eq]; omega
    refine cut_if F6 (fun h' => ∃ ys' k' junk', News g1 L1 h' ((D0, listOf ys' k') :: (L1 + 1, c2) :: (junk' ++ news)) ∧ IntTups junk' ys'.toList (sizes2 n) ∧ Off [D0] ((L1 + 1, c2) :: (junk' ++ news))) ?_ ?_
    · repeat' (walk_at "go")
      with_reducible rename News _ _ _ _ => N8
      refine eq_nil N8 (.tail _ (.head _)) (.head _) (fun p hp => .tail _ (.tail _ (.tail _ (List.mem_append_left _ hp)))) hT6 (by (simp only [units_in1, units_deeper, cLine_is]; omega)) ?_
      repeat' (walk_at "go")
      · rename ((sizes1 n).isEmpty = true) => h0
        have q1 := trivial
        rename (@LT.lt Nat _ D0 _) => q2
        (first | rename (AllLt _ _) => q3 | have q3 := trivial)
        have hlt := And.intro q1 (And.intro q2 q3)
        with_reducible rename News _ _ _ _ => N9
        with_reducible rename Fr _ _ _ _ => F9
        refine ⟨rfl, _, _, rfl, F9, ?_⟩
        have e1 : sizes2 n = sizes1 n ++ [(32, 3)] := by rw [sizes2, if_pos h0, List.isEmpty_iff.mp h0]; rfl
        rw [e1]
        exact cut_append (newsDrop2 N9) hT6 z6 hlt.2.1
      · rename ((sizes1 n).isEmpty = false) => h0
        with_reducible rename Fr _ _ _ _ => F9
        refine ⟨rfl, _, _, rfl, F9, ys6, k6, junk6, newsSub N8 fun p hp => .tail _ hp, ?_, z6⟩
        rw [sizes2, if_neg (by rw [h0]; decide)]
        exact hT6
    rintro h7 tk7 F7 ⟨ys7, k7, junk7, N8, hT7, z7⟩
    clear N7 hT6 z6 F6 hzs6 hz6
    dsimp only
    iterate 6 (walk_at "go")
    rename_i Dc _ _ _ _ _ _ _ _
    rename (@LT.lt Nat _ D0 _) => q1
    rename (AllLt _ _) => q2
    have hlt := And.intro q1 (And.intro q1 q2)
    iterate 14 (walk_at "go")
    refine for_A ?_
    walk1
    with_reducible rename News _ _ _ _ => N9
    with_reducible rename Fr _ _ _ _ => F9
    have N10 : News g1 L1 _ ((D0, listOf ys7 k7) :: (Dc, listOf #[] 0) :: (junk7 ++ news)) := newsSub N9 fun p hp => by
      simp only [List.mem_cons] at hp ⊢
      rcases hp with h | h | h <;> simp [h]
    have hlen7 := hT7.len
    rw [Array.length_toList] at hlen7
    have hne := sizes2_ne n
    have hpos : 1 ≤ ys7.size := by
      rw [hlen7]
      exact List.length_pos_iff.mpr hne
    obtain ⟨vl, hvl⟩ : ∃ vl, ys7[ys7.size - 1]? = some vl := ⟨_, Array.getElem?_eq_getElem (by omega)⟩
    obtain ⟨tl, pl, tla, tlb, rfl, hpl, hml⟩ := hT7.at (by rw [Array.getElem?_toList]; exact hvl)
    rw [hlen7] at hpl
    have elast := lastOf_get hpl
    have j7lt : ∀ p ∈ junk7 ++ news, @LT.lt Nat _ p.1 Dc := allLt_mem hlt.2.2
    have htl : @LT.lt Nat _ tl Dc := j7lt _ (List.mem_append_left _ hml)
    refine' list_loopA (its := ys7) ?hhz ?hTz F9 N10 rfl rfl (fun i m₁ nx gs => gs = s.gens ∧ m₁ ("width" : Str) = some (.int width t2) ∧ m₁ ("head" : Str) = some (.int head t3) ∧ m₁ ("sizes" : Str) = some (.ref D0) ∧ m₁ ("cuts" : Str) = some (.ref Dc) ∧
      ∃ (st : List (Int × Int) × Int × Int) (junk2 : List (Addr × Obj)) (cs : Array Value) (k : Nat) (tr ta : Tok), st = ((sizes2 n).take i).foldl (cutStep width head (lastOf n)) ([], width - head, -1) ∧ m₁ ("room" : Str) = some (.int st.2.1 tr) ∧ m₁ ("ahead" : Str) = some (.int st.2.2 ta) ∧
        nx = (Dc, listOf cs k) :: (junk2 ++ (junk7 ++ news)) ∧ IntTups junk2 cs.toList st.1 ∧ (∀ p ∈ junk2, @LT.lt Nat _ Dc p.1) ∧ cs.size ≤ i) ?h0z ?turnz ?donez
    case hhz => with_unfolding_all assumption
    case hTz =>
      intro I i v s' Q' hv hit hq
      obtain ⟨t, _, _, _, e, _⟩ := hT7.at (by rw [Array.getElem?_toList]; exact hv)
      exact let_list ⟨t, e⟩ hit hq
    case h0z => exact ⟨rfl, rfl, rfl, rfl, rfl, _, [], #[], 0, _, _, rfl, rfl, rfl, rfl, .nil, (fun _ h => nomatch h), Nat.le_refl _⟩
    case donez =>
      intro h3 gs3 tk3 m3 nx F3 N3 hq35
      refine an6 hq35 ?_
      clear hq35
      intro hgs _ _ _ hc1 hn36
      refine ex6 hn36 ?_
      clear hn36
      intro st junk2 cs k tr ta hn37
      refine an7 hn37 ?_
      clear hn37
      intro hst _ _ hnx hT2 hj2 _
      subst hgs hnx
      have eM : m3 = (fun y => if y = ("cuts" : Str) then some (.ref Dc) else m3 y) := funext fun y => by
        by_cases y4 : y = ("cuts" : Str)
        · rw [if_pos y4, y4, hc1]
        rw [if_neg y4]
      rw [eM] at F3
      clear eM
      repeat' (walk_at "go")
      rename_i kF kN
      have hst2 : st.1 = cutsV n width head := by
        rw [hst, hlen7, List.take_length]
        rfl
      rw [hst2] at hT2
      refine h _ _ Dc cs k junk2 kF (newsSub kN ?_) hT2 (fun p hp => j7lt p (List.mem_append_right _ hp)) hj2
      intro x hx
      simp only [List.mem_cons, List.mem_append] at hx ⊢
      rcases hx with h | h | h <;> simp [h]
    case turnz =>
      intro i v m₁ nx h₁ gs tk I o o2 hv ho2 hq38
      refine an6 hq38 ?_
      clear hq38
      intro hgs hw1 hh1 hs1 hc1 hn39
      refine ex6 hn39 ?_
      clear hn39
      intro st junk2 cs k tr ta hn40
      refine an7 hn40 ?_
      clear hn40
      intro hst hr1 ha1 hnx hT2 hj2 hcs
      intro hI ltI DI F₁ N₁
      subst hnx
      obtain ⟨t, p, tp, tq, rfl, hp, hm⟩ := hT7.at (by rw [Array.getElem?_toList]; exact hv)
      have ht : @LT.lt Nat _ t Dc := j7lt _ (List.mem_append_left _ hm)
      have eM : m₁ = (fun y => if y = ("width" : Str) then some (.int width t2) else if y = "head" then some (.int head t3) else if y = "sizes" then some (.ref D0) else if y = "cuts" then some (.ref Dc) else if y = "room" then some (.int st.2.1 tr) else if y = "ahead" then some (.int st.2.2 ta) else m₁ y) := funext fun y => by
        by_cases y1 : y = ("width" : Str)
        · rw [if_pos y1, y1, hw1]
        rw [if_neg y1]
        by_cases y2 : y = ("head" : Str)
        · rw [if_pos y2, y2, hh1]
        rw [if_neg y2]
        by_cases y3 : y = ("sizes" : Str)
        · rw [if_pos y3, y3, hs1]
        rw [if_neg y3]
        by_cases y4 : y = ("cuts" : Str)
        · rw [if_pos y4, y4, hc1]
        rw [if_neg y4]
        by_cases y5 : y = ("room" : Str)
        · rw [if_pos y5, y5, hr1]
        rw [if_neg y5]
        by_cases y6 : y = ("ahead" : Str)
        · rw [if_pos y6, y6, ha1]
        rw [if_neg y6]
      rw [eM] at F₁
      clear eM
      have N₂ := newsMk (N₁ _ (.tail _ (.tail _ (.tail _ (List.mem_append_right _ (List.mem_append_left _ hm)))))) (newsMk (N₁ _ (.tail _ (.tail _ (.tail _ (List.mem_append_right _ (List.mem_append_left _ hml)))))) N₁)
      clear N₁
      repeat' (walk_at "go")
      with_reducible rename News _ _ _ _ => N3
      refine item_last (isList_of N3 (.tail _ (.tail _ (.tail _ (.head _)))) ho2) hpos hvl ?_ (by with_unfolding_all rfl)
      have hcs2 : cs.size ≤ sizeLine := by
        have := (Array.getElem?_eq_some_iff.mp hv).1
        have a3 := sizes2_len n
        rw [sizeLine_eq]
        omega
      have hnext : ((sizes2 n).take (i + 1)).foldl (cutStep width head (lastOf n)) ([], width - head, -1) = cutStep width head (lastOf n) st p := by
        rw [List.take_add_one, hp, List.foldl_append, ← hst]
        rfl
      have hfull : (if p.1 < lastOf n then p.2 + 2 else p.2 + 1) = if p.1 < pl.1 then p.2 + 2 else p.2 + 1 := by rw [elast]
      have zD : Off [Dc] (junk2 ++ (junk7 ++ news)) := fun x hx hm => by
        have e := List.mem_singleton.mp hm
        rcases List.mem_append.mp hx with hx | hx
        · exact Nat.ne_of_gt (hj2 x hx) e
        · exact Nat.ne_of_lt (j7lt x hx) e
      have hD0 := hlt.1
      have hDcI := ltI _ (.head _)
      dsimp only at hDcI
      have offI : ∀ x ∈ (Dc, listOf cs k) :: (junk2 ++ (junk7 ++ news)), x.1 ∉ [I] := fun x hx q => hI x hx (List.mem_singleton.mp q)
      clear l1 z1 z2 z7 hlt
      repeat' (walk_at "go")
      · rename (p.1 < pl.1) => hc
        rename (st.2.1 < p.2 + 2) => hf
        rename (0 ≤ st.2.2 + head) => ha
        with_reducible rename Fr _ _ _ _ => F8
        with_reducible rename News _ _ _ _ => N8
        have e := hnext.trans (cutStep_cut (hfull.trans (if_pos hc)) hf ha)
        rename (@LT.lt Nat _ t _) => q1
        rename (@LT.lt Nat _ tl _) => q2
        rename (@LT.lt Nat _ I _) => q3
        rename (@LT.lt Nat _ D0 _) => q4
        rename (@LT.lt Nat _ Dc _) => q5
        (first | rename (AllLt _ _) => q6 | have q6 := trivial)
        have hlt := And.intro q1 (And.intro q2 (And.intro q3 (And.intro q4 (And.intro q5 q6))))
        exact ⟨_, _, _, _, _, rfl, F8, turn_cut N8, off_sub3 hI (Nat.ne_of_gt hlt.2.2.1), hgs, rfl, rfl, rfl, rfl, (st.1 ++ [(st.2.2, p.1)], width - (p.2 + 2), p.1), _ :: junk2, _, _, _, _, e.symm, rfl, rfl, rfl, by rw [Array.toList_push]; exact IntTups.snoc (.head _) (hT2.sub fun x hx => .tail _ hx), List.forall_mem_cons.mpr ⟨hlt.2.2.2.2.1, hj2⟩, by rw [Array.size_push]; omega⟩
      · rename (p.1 < pl.1) => hc
        rename (st.2.1 < p.2 + 2) => hf
        rename (¬ 0 ≤ st.2.2 + head) => ha
        with_reducible rename Fr _ _ _ _ => F8
        with_reducible rename News _ _ _ _ => N8
        have e := hnext.trans (cutStep_on (hfull.trans (if_pos hc)) (fun h => ha h.2))
        exact ⟨_, _, _, _, (Dc, listOf cs k) :: (junk2 ++ (junk7 ++ news)), rfl, F8, newsSub N8 fun x hx => .tail _ (.tail _ hx), offI, hgs, rfl, rfl, rfl, rfl, (st.1, st.2.1 - (p.2 + 2), p.1), junk2, cs, k, _, _, e.symm, rfl, rfl, rfl, hT2, hj2, by omega⟩
      · rename (p.1 < pl.1) => hc
        rename (¬ st.2.1 < p.2 + 2) => hf
        with_reducible rename Fr _ _ _ _ => F8
        with_reducible rename News _ _ _ _ => N8
        have e := hnext.trans (cutStep_on (hfull.trans (if_pos hc)) (fun h => hf h.1))
        exact ⟨_, _, _, _, (Dc, listOf cs k) :: (junk2 ++ (junk7 ++ news)), rfl, F8, newsSub N8 fun x hx => .tail _ (.tail _ hx), offI, hgs, rfl, rfl, rfl, rfl, (st.1, st.2.1 - (p.2 + 2), p.1), junk2, cs, k, _, _, e.symm, rfl, rfl, rfl, hT2, hj2, by omega⟩
      · rename (¬ p.1 < pl.1) => hc
        rename (st.2.1 < p.2 + 1) => hf
        rename (0 ≤ st.2.2 + head) => ha
        with_reducible rename Fr _ _ _ _ => F8
        with_reducible rename News _ _ _ _ => N8
        have e := hnext.trans (cutStep_cut (hfull.trans (if_neg hc)) hf ha)
        rename (@LT.lt Nat _ t _) => q1
        rename (@LT.lt Nat _ tl _) => q2
        rename (@LT.lt Nat _ I _) => q3
        rename (@LT.lt Nat _ D0 _) => q4
        rename (@LT.lt Nat _ Dc _) => q5
        (first | rename (AllLt _ _) => q6 | have q6 := trivial)
        have hlt := And.intro q1 (And.intro q2 (And.intro q3 (And.intro q4 (And.intro q5 q6))))
        exact ⟨_, _, _, _, _, rfl, F8, turn_cut N8, off_sub3 hI (Nat.ne_of_gt hlt.2.2.1), hgs, rfl, rfl, rfl, rfl, (st.1 ++ [(st.2.2, p.1)], width - (p.2 + 1), p.1), _ :: junk2, _, _, _, _, e.symm, rfl, rfl, rfl, by rw [Array.toList_push]; exact IntTups.snoc (.head _) (hT2.sub fun x hx => .tail _ hx), List.forall_mem_cons.mpr ⟨hlt.2.2.2.2.1, hj2⟩, by rw [Array.size_push]; omega⟩
      · rename (¬ p.1 < pl.1) => hc
        rename (st.2.1 < p.2 + 1) => hf
        rename (¬ 0 ≤ st.2.2 + head) => ha
        with_reducible rename Fr _ _ _ _ => F8
        with_reducible rename News _ _ _ _ => N8
        have e := hnext.trans (cutStep_on (hfull.trans (if_neg hc)) (fun h => ha h.2))
        exact ⟨_, _, _, _, (Dc, listOf cs k) :: (junk2 ++ (junk7 ++ news)), rfl, F8, newsSub N8 fun x hx => .tail _ (.tail _ hx), offI, hgs, rfl, rfl, rfl, rfl, (st.1, st.2.1 - (p.2 + 1), p.1), junk2, cs, k, _, _, e.symm, rfl, rfl, rfl, hT2, hj2, by omega⟩
      · rename (¬ p.1 < pl.1) => hc
        rename (¬ st.2.1 < p.2 + 1) => hf
        with_reducible rename Fr _ _ _ _ => F8
        with_reducible rename News _ _ _ _ => N8
        have e := hnext.trans (cutStep_on (hfull.trans (if_neg hc)) (fun h => hf h.1))
        exact ⟨_, _, _, _, (Dc, listOf cs k) :: (junk2 ++ (junk7 ++ news)), rfl, F8, newsSub N8 fun x hx => .tail _ (.tail _ hx), offI, hgs, rfl, rfl, rfl, rfl, (st.1, st.2.1 - (p.2 + 1), p.1), junk2, cs, k, _, _, e.symm, rfl, rfl, rfl, hT2, hj2, by omega⟩
end

/-- paths that meet, with a frame of their own -/
noncomputable def CutEndM (s : Shared) (h₀ : Heap) (L : Addr) (K : Heap → (Str → Option Value) → Prop) (f : Flow) (s' : Shared) : Prop := f = .next ∧ ∃ h' tk m', s' = { s with heap := h', toks := tk } ∧ Fr h₀ L h' m' ∧ K h' m'
theorem cut_ifM {M : Model} {A : Around} {E : Value → Shared → Prop} {s : Shared} {t : Sem Flow} {Q : Flow → Shared → Prop} (h₀ : Heap) (L : Addr) (K : Heap → (Str → Option Value) → Prop)
    (h1 : wpAny M A t (CutEndM s h₀ L K) E s) (h2 : ∀ h' tk m', Fr h₀ L h' m' → K h' m' → Q .next { s with heap := h', toks := tk }) : wpAny M A t Q E s :=
  wpAny_mono h1 (fun f s' hs => by obtain ⟨rfl, h', tk, m', rfl, F, k⟩ := hs; exact h2 h' tk m' F k) fun _ _ e => e
theorem ints_snoc {vs : List Value} {ns : List Int} {i : Int} {t : Tok} (h : IntsAre vs ns) : IntsAre (vs ++ [.int i t]) (ns ++ [i]) := by
  induction h with
  | nil => exact .cons _ _ .nil
  | cons a b _ ih => exact .cons _ _ ih
theorem fr4 {h₀ h : Heap} {L : Addr} {b : Str → Option Value} {n1 n2 n3 n4 : Str} {v1 v2 v3 v4 : Value} (F : Fr h₀ L h b) (e1 : b n1 = some v1) (e2 : b n2 = some v2) (e3 : b n3 = some v3) (e4 : b n4 = some v4) :
    ∃ m : Str → Option Value, Fr h₀ L h (fun z => if z = n1 then some v1 else if z = n2 then some v2 else if z = n3 then some v3 else if z = n4 then some v4 else m z) := by
  refine ⟨b, (congrArg (Fr h₀ L h) (funext fun z => ?_)).mp F⟩
  by_cases y1 : z = n1
  · rw [if_pos y1, y1, e1]
  rw [if_neg y1]
  by_cases y2 : z = n2
  · rw [if_pos y2, y2, e2]
  rw [if_neg y2]
  by_cases y3 : z = n3
  · rw [if_pos y3, y3, e3]
  rw [if_neg y3]
  by_cases y4 : z = n4
  · rw [if_pos y4, y4, e4]
  rw [if_neg y4]
theorem filter_next {α : Type} {l : List α} {q : α → Bool} {j : Nat} {c : α} (h : l[j]? = some c) : (l.take (j + 1)).filter q = if q c then (l.take j).filter q ++ [c] else (l.take j).filter q := by
  rw [List.take_add_one, h, List.filter_append]
  cases e : q c <;> simp [e]
theorem all_false {α : Type} {l : List α} {q : α → Bool} (n : Nat) (h : (l.take n).all q = false) : l.all q = false := by
  cases e : l.all q with
  | false => rfl
  | true =>
    have : (l.take n).all q = true := List.all_eq_true.mpr fun x hx => List.all_eq_true.mp e x (List.mem_of_mem_take hx)
    rw [this] at h
    cases h
theorem any_of_empty {α : Type} {l : List α} {q : α → Bool} (h : (l.filter q).isEmpty = true) : l.any q = false := by
  cases e : l.any q with
  | false => rfl
  | true =>
    obtain ⟨x, hx, hq⟩ := List.any_eq_true.mp e
    have : x ∈ l.filter q := List.mem_filter.mpr ⟨hx, hq⟩
    rw [List.isEmpty_iff.mp h] at this
    cases this
theorem any_of_some {α : Type} {l : List α} {q : α → Bool} (h : (l.filter q).isEmpty = false) : l.any q = true := by
  cases e : l.filter q with
  | nil => rw [e] at h; cases h
  | cons x r =>
    have hx : x ∈ l.filter q := by rw [e]; exact .head _
    exact List.any_eq_true.mpr ⟨x, List.mem_filter.mp hx⟩
noncomputable def powC (c : Int × Int) : Int := (2 : Int) ^ c.2.toNat - 2 ^ (c.1 + 1).toNat
set_option maxHeartbeats 4000000
section
variable {w : World} {A : Around} {E : Value → Shared → Prop} {s : Shared} {L C O : Addr} {h₀ : Heap} {m mg mb : Str → Option Value} {loose : List Str} {news rest jn1 jn2 : List (Addr × Obj)} {Q : Value → Shared → Prop} {wt sh : Int} {t1 t2 : Tok} {cs os : Array Value} {k k2 : Nat} {cw co : List (Int × Int)}
theorem takes_call (F : Fr h₀ L s.heap m) (X : (hd.heap_1 w.params).In h₀) (N : News h₀ L s.heap news) (T : TopRead hd.view_1 loose mg mb h₀) (M : Mod mg h₀)
    (P1 : Pull (O, listOf os k2) news rest) (hC : (C, listOf cs k) ∈ rest) (hj1 : ∀ p ∈ jn1, p ∈ rest) (hj2 : ∀ p ∈ jn2, p ∈ rest) (hT1 : IntTups jn1 cs.toList cw) (hT2 : IntTups jn2 os.toList co)
    (hb : ∀ c ∈ cw, -1 ≤ c.1 ∧ c.1 < c.2 ∧ c.2 ≤ 32) (hl1 : cw.length ≤ 40) (hl2 : co.length ≤ 40) (hroom : A.depth < 920) (hh : A.handled = none) (hu : A.units < 6000)
    (h : ∀ h' tk, Fr h₀ L h' m → News h₀ L h' news → Q (.bool (takesV wt sh cw co)) { s with heap := h', toks := tk }) :
    wpAny (model PySem.Challenge.rw_ty0040_01.row.prog w) A (call (.ref 214) [.int wt t1, .ref C, .int sh t2, .ref O] []) Q E s := by
  have N₀ := P1.front N
  walk_at "enterX"
  intro g1 L1 h1 tk1 cells1 F1 N1 Y1 X1 T1 l1 st1
  have M1 := M.keeps st1
  obtain ⟨c1, c2, rfl, d1, d2⟩ := CellsAre.two Y1
  clear Y1 st1
  simp only [List.cons_append, List.nil_append] at N1
  obtain ⟨mbx, F2⟩ := fr4 (n1 := "wanted") (n2 := "cuts") (n3 := "shown") (n4 := "others") (v1 := .int wt t1) (v2 := .ref C) (v3 := .int sh t2) (v4 := .ref O) F1 rfl rfl rfl rfl
  clear F1
  iterate 5 (walk_at "go")
  refine cut_ifM g1 L1 (fun h' m' => News g1 L1 h' ((L1 + 1 + 1, c1) :: (L1 + 1, c2) :: (O, listOf os k2) :: rest) ∧ ∃ tf, m' = (fun z => if z = ("free" : Str) then some (.int (if wt = 0 then 0 else freeSum cw) tf) else if z = "wanted" then some (.int wt t1) else if z = "cuts" then some (.ref C) else if z = "shown" then some (.int sh t2) else if z = "others" then some (.ref O) else mbx z)) ?_ ?_
  · have hcl := hT1.len
    have hcl2 : cs.size = cw.length := by rw [← hcl]; simp
    iterate 9 (walk_at "go")
    · rename (wt ≠ 0) => hw
      iterate 4 (walk_at "go")
      with_reducible rename Fr _ _ _ _ => Fb
      with_reducible rename News _ _ _ _ => Nb
      refine LCp.ListComp_P (F₀ := Fb) (by with_unfolding_all rfl) (by decide) (by rfl) (by decide) (by rfl) (by rfl) (by decide) ?_
      walk1
      refine LCp.SrcLP.ledger (its := cs) (k := k) (by with_unfolding_all assumption) Fb Nb (.tail _ (.tail _ (.tail _ hC))) (by rw [hcl2, sizeLine_eq]; omega) ?_
      intro g9
      refine comp_P (n := cs.size) (fun i ys nw => nw = (L1 + 1 + 1, c1) :: (L1 + 1, c2) :: (O, listOf os k2) :: rest ∧ IntsAre ys ((cw.take i).map powC)) ?stepz ?finz cs.size 0 [] _ (Nat.zero_add _) ⟨rfl, .nil⟩
      case stepz =>
        rintro i ys nw hi ⟨rfl, hI⟩ v hv
        obtain ⟨t, p, tp, tq, rfl, hp, hm⟩ := hT1.at (by rw [Array.getElem?_toList]; exact hv)
        refine ⟨t, _, _, _, 0, rfl, .tail _ (.tail _ (.tail _ (hj1 _ hm))), rfl, rfl, ?_⟩
        intro I oI C' oC D m₂ h4 tk4 E' hC' hx hy F4 N4 off ne
        obtain ⟨b1, b2, b3⟩ := hb p (List.mem_of_getElem? hp)
        have b4 : 0 ≤ p.1 + 1 := by omega
        have b5 : p.1 + 1 ≤ 32 := by omega
        have b6 : 0 ≤ p.2 := by omega
        repeat' (walk_at "go")
        refine LCg.CompEnd.intro F4 N4 _ (fun _ h => h) off (.inr ⟨_, .tail _ (.tail _ (.tail _ hC)), rfl, k, rfl⟩) ⟨rfl, ?_⟩
        rw [List.take_add_one, hp, List.map_append]
        have e9 : (1 : Int) * 2 ^ p.2.toNat = 2 ^ p.2.toNat := Int.one_mul _
        exact ints_snoc hI
      case finz =>
        rintro ys nw ⟨rfl, hI⟩
        unfold LCg.FinE
        intro D5 h5 tk5 F5 N5 o5
        dsimp only
        rw [hcl2, List.take_length] at hI
        walk1
        refine sumK (by with_unfolding_all assumption) F5 N5 ⟨_, (N5 _ (.head _)).1, rfl, _, rfl⟩ hI fun h6 tk6 t6 F6 N6 => ?_
        repeat' (walk_at "go")
        with_reducible rename Fr _ _ _ _ => F7
        with_reducible rename News _ _ _ _ => N7
        refine ⟨rfl, _, _, _, rfl, F7, newsSub N7 fun p hp => .tail _ hp, t6, ?_⟩
        rw [if_neg hw]
        funext z
        by_cases y1 : z = ("free" : Str)
        · rw [if_pos y1, if_pos y1]; rfl
        · rw [if_neg y1, if_neg y1, if_neg y1]
    · rename (wt = 0) => hw
      repeat' (walk_at "go")
      with_reducible rename Fr _ _ _ _ => F7
      with_reducible rename News _ _ _ _ => N7
      refine ⟨rfl, _, _, _, rfl, F7, N7, ?_⟩
      rw [if_pos hw]
      exact ⟨_, rfl⟩
  rintro h2 tk2 m2 F3 ⟨N3, tf, rfl⟩
  dsimp only
  generalize hfv : (if wt = 0 then 0 else freeSum cw) = fv at *
  repeat' (walk_at "go")
  · rename (Builtin.bitAnd _ _ ≠ 0) => hne
    rename_i kF kN
    have e : takesV wt sh cw co = false := by unfold takesV; rw [hfv, if_pos hne]
    rw [e] at h
    exact h _ _ kF (newsSub kN fun p hp => (P1.cases hp).elim (fun e => e ▸ .tail _ (.tail _ (.head _))) fun hp => .tail _ (.tail _ (.tail _ hp)))
  rename (Builtin.bitAnd _ _ = 0) => heq
  refine for_A ?_
  walk1
  have hcl := hT1.len
  have hcl2 : cs.size = cw.length := by rw [← hcl]; simp
  have hol := hT2.len
  have hol2 : os.size = co.length := by rw [← hol]; simp
  have N4 : News g1 L1 _ ((O, listOf os k2) :: (O, listOf os k2) :: (L1 + 1 + 1, c1) :: (L1 + 1, c2) :: rest) := newsSub N3 fun p hp => by
    simp only [List.mem_cons] at hp ⊢
    rcases hp with h | h | h | h | h <;> simp [h]
  have hcsz : cs.size ≤ sizeLine := by rw [hcl2, sizeLine_eq]; omega
  refine' list_loopA (its := os) ?hhz ?hTz F3 N4 rfl rfl (fun i m₁ nx gs => gs = s.gens ∧ m₁ ("cuts" : Str) = some (.ref C) ∧ (∃ oa ob va vb, nx = (O, listOf os k2) :: (L1 + 1 + 1, oa) :: (L1 + 1, ob) :: rest ∧ oa.data = .cell va ∧ ob.data = .cell vb) ∧
    ((co.take i).all fun d => cw.any fun c => decide (c.1 ≤ d.1) && decide (d.2 ≤ c.2)) = true) ?h0z ?turnz ?donez
  case hhz => with_unfolding_all assumption
  case hTz =>
    intro I i v s' Q' hv hit hq
    obtain ⟨t, _, _, _, e, _⟩ := hT2.at (by rw [Array.getElem?_toList]; exact hv)
    exact let_list ⟨t, e⟩ hit hq
  case h0z => exact ⟨rfl, rfl, ⟨c1, c2, _, _, rfl, d1, d2⟩, rfl⟩
  case donez =>
    intro h3 gs3 tk3 m3 nx F5 N5 hq41
    refine an4 hq41 ?_
    clear hq41
    intro hgs hc1 ne42 hall
    refine ex4 ne42 ?_
    intro oa ob va vb hn43
    refine an3 hn43 ?_
    clear hn43
    intro hnx _ _
    subst hgs hnx
    rw [hol2, List.take_length] at hall
    have e : takesV wt sh cw co = true := by
      unfold takesV
      rw [hfv, if_neg (by simpa using heq)]
      exact hall
    rw [e] at h
    repeat' (walk_at "go")
    rename_i kF kN
    exact h _ _ kF (newsSub kN fun x hx => (P1.cases hx).elim (fun e => e ▸ .head _) fun hx => .tail _ (.tail _ (.tail _ hx)))
  case turnz =>
    intro i v m₁ nx h₁ gs tk I o o2 hv ho2 hq44
    refine an4 hq44 ?_
    clear hq44
    intro hgs hc1 ne45 hall
    refine ex4 ne45 ?_
    intro oa ob va vb hn46
    refine an3 hn46 ?_
    clear hn46
    intro hnx da db
    intro hI ltI DI F₁ N₁
    subst hnx
    obtain ⟨t, p, tp, tq, rfl, hp, hm⟩ := hT2.at (by rw [Array.getElem?_toList]; exact hv)
    have eM : m₁ = (fun y => if y = ("cuts" : Str) then some (.ref C) else m₁ y) := funext fun y => by
      by_cases y1 : y = ("cuts" : Str)
      · rw [if_pos y1, y1, hc1]
      rw [if_neg y1]
    rw [eM] at F₁
    clear eM
    have N₂ := newsMk (N₁ _ (.tail _ (.tail _ (.tail _ (.tail _ (.tail _ (hj2 _ hm))))))) N₁
    clear N₁
    have tL : @LT.lt Nat _ t L1 := l1 _ (.tail _ (hj2 _ hm))
    have OL : @LT.lt Nat _ O L1 := l1 _ (.head _)
    have I2 : @LT.lt Nat _ (L1 + 1 + 1) I := ltI _ (.tail _ (.head _))
    have I1 : @LT.lt Nat _ (L1 + 1) I := ltI _ (.tail _ (.tail _ (.head _)))
    have z3 : Off [L1 + 1] rest := fun x hx q => by
      have a := l1 x (.tail _ hx)
      have e := List.mem_singleton.mp q
      have a' : @LT.lt Nat _ x.1 L1 := a
      have e' : @Eq Nat x.1 (L1 + 1) := e
      omega
    have z4 : ∀ o9, Off [L1 + 1 + 1] ((L1 + 1, o9) :: rest) := fun o9 => Off.put ⟨Nat.ne_of_lt (Nat.lt_succ_self _), trivial⟩ fun x hx q => by
      have a := l1 x (.tail _ hx)
      have e := List.mem_singleton.mp q
      have a' : @LT.lt Nat _ x.1 L1 := a
      have e' : @Eq Nat x.1 (L1 + 1 + 1) := e
      omega
    repeat' (walk_at "go")
    rename Obj => o9
    have z5 := z4 o9
    repeat' (walk_at "go")
    rename Obj => o8
    rename (o9.data = _) => d9
    rename (o8.data = _) => d8
    with_reducible rename Fr _ _ _ _ => Fb
    with_reducible rename News _ _ _ _ => Nb
    refine LCt.ListComp_T (F₀ := Fb) (by with_unfolding_all rfl) (by decide) (by rfl) (by decide) (by rfl) ?_
    walk1
    refine LCt.CompSrcT.ledger (its := cs) (k := k) (by with_unfolding_all assumption) Fb Nb (.tail _ (.tail _ (.tail _ (.tail _ (.tail _ (.tail _ hC)))))) hcsz ?_
    intro g9
    refine comp_T (n := cs.size) (fun j ys nw => nw = (t, pairObj (.int p.1 tp) (.int p.2 tq)) :: (I, o) :: (O, o2) :: (O, listOf os k2) :: (L1 + 1 + 1, o8) :: (L1 + 1, o9) :: rest ∧ IntTups jn1 ys ((cw.take j).filter fun c => decide (c.1 ≤ p.1) && decide (p.2 ≤ c.2))) ?stepz ?finz cs.size 0 [] _ (Nat.zero_add _) ⟨rfl, .nil⟩
    case stepz =>
      rintro j ys nw hj ⟨rfl, hI9⟩ v I9 oI9 C9 oC9 D9 m₂ h4 tk4 E' hv9 hC9 hx F4 N4 off ne
      obtain ⟨t9, c, ca, cb, rfl, hc, hmc⟩ := hT1.at (by rw [Array.getElem?_toList]; exact hv9)
      have N5 := newsMk (N4 _ (.tail _ (.tail _ (.tail _ (.tail _ (.tail _ (.tail _ (.tail _ (.tail _ (.tail _ (hj1 _ hmc))))))))))) N4
      have hS : LCg.SrcAt g1 C cs ((t, pairObj (.int p.1 tp) (.int p.2 tq)) :: (I, o) :: (O, o2) :: (O, listOf os k2) :: (L1 + 1 + 1, o8) :: (L1 + 1, o9) :: rest) := .inr ⟨_, .tail _ (.tail _ (.tail _ (.tail _ (.tail _ (.tail _ hC))))), rfl, k, rfl⟩
      repeat' (walk_at "go")
      · rename (c.1 ≤ p.1) => h1
        rename (p.2 ≤ c.2) => h2
        refine LCg.CompEnd.intro F4 N4 _ (fun _ h => h) off hS ⟨rfl, ?_⟩
        rw [filter_next hc, show (decide (c.1 ≤ p.1) && decide (p.2 ≤ c.2)) = true by simp [h1, h2]]
        exact IntTups.snoc hmc hI9
      · rename (¬ p.2 ≤ c.2) => h2
        refine LCg.CompEnd.intro F4 N4 _ (fun _ h => h) off hS ⟨rfl, ?_⟩
        rw [filter_next hc, show (decide (c.1 ≤ p.1) && decide (p.2 ≤ c.2)) = false by simp [h2]]
        exact hI9
      · rename (¬ c.1 ≤ p.1) => h1
        refine LCg.CompEnd.intro F4 N4 _ (fun _ h => h) off hS ⟨rfl, ?_⟩
        rw [filter_next hc, show (decide (c.1 ≤ p.1) && decide (p.2 ≤ c.2)) = false by simp [h1]]
        exact hI9
    case finz =>
      rintro ys nw ⟨rfl, hI9⟩
      unfold LCg.FinE
      intro D5 h5 tk5 F5 N5 o5
      dsimp only
      rw [hcl2, List.take_length] at hI9
      repeat' (walk_at "go")
      with_reducible rename News _ _ _ _ => N6
      refine eq_nil (items := ys.toArray) N6 (.tail _ (.head _)) (.head _) (fun x hx => .tail _ (.tail _ (.tail _ (.tail _ (.tail _ (.tail _ (.tail _ (.tail _ (hj1 x hx))))))))) hI9 (by (simp only [units_in1, units_deeper, cLine_is]; omega)) ?_
      have hnext : ((co.take (i + 1)).all fun d => cw.any fun c => decide (c.1 ≤ d.1) && decide (d.2 ≤ c.2)) = cw.any fun c => decide (c.1 ≤ p.1) && decide (p.2 ≤ c.2) := by
        rw [List.take_add_one, hp, List.all_append, hall]
        simp
      repeat' (walk_at "go")
      · rename (List.isEmpty _ = true) => hem
        have e : takesV wt sh cw co = false := by
          unfold takesV
          rw [hfv, if_neg (by simpa using heq)]
          refine all_false (i + 1) (hnext.trans ?_)
          exact any_of_empty hem
        rw [e] at h
        subst hgs
        dsimp only [StepG]
        repeat' (walk_at "go")
        rename_i kF kN
        exact h _ _ kF (newsSub kN fun x hx => (P1.cases hx).elim (fun e => e ▸ .tail _ (.tail _ (.tail _ (.tail _ (.tail _ (.head _)))))) fun hx => .tail _ (.tail _ (.tail _ (.tail _ (.tail _ (.tail _ (.tail _ (.tail _ hx))))))))
      · rename (List.isEmpty _ = false) => hem
        with_reducible rename Fr _ _ _ _ => F6
        refine ⟨_, _, _, _, (O, listOf os k2) :: (L1 + 1 + 1, o8) :: (L1 + 1, o9) :: rest, rfl, F6, newsSub N6 ?_, ?_, hgs, rfl, ⟨o8, o9, _, _, rfl, d8, d9⟩, hnext.trans (any_of_some hem)⟩
        · intro x hx
          simp only [List.mem_cons, List.cons_append, List.nil_append] at hx ⊢
          rcases hx with h | h | h | h | h | h <;> simp [h]
        · intro x hx q
          have q := List.mem_singleton.mp q
          rcases List.mem_cons.mp hx with rfl | hx
          · exact hI _ (.head _) q
          rcases List.mem_cons.mp hx with rfl | hx
          · exact Nat.ne_of_lt I2 q
          rcases List.mem_cons.mp hx with rfl | hx
          · exact Nat.ne_of_lt I1 q
          exact hI x (.tail _ (.tail _ (.tail _ hx))) q
end

theorem bit_set {x : Int} {i : Nat} : Builtin.bitAnd x (2 ^ i) ≠ 0 ↔ hasBit x i = true := by
  rw [kbt_bit]
  unfold hasBit
  have p : (0 : Int) < 2 ^ i := Int.pow_pos (by decide)
  rw [beq_iff_eq]
  rcases Int.emod_two_eq (x / 2 ^ i) with e | e <;> rw [e]
  · simp
  · simp; omega
theorem flRest_eq (n : Int) : ∀ i, flRest n i = 2 ^ i * (n / 2 ^ i)
  | 0 => by simp [flRest]
  | i + 1 => by
    have ih := flRest_eq n i
    have p : (0 : Int) < 2 ^ i := Int.pow_pos (by decide)
    have d : n / 2 ^ (i + 1) = n / 2 ^ i / 2 := by rw [Int.pow_succ, Int.ediv_ediv_of_nonneg (Int.le_of_lt p)]
    have hb : ∀ y : Int, hasBit (2 ^ i * y) i = hasBit y 0 := fun y => by rw [hb_shl, if_neg (Nat.lt_irrefl i), Nat.sub_self]
    rw [flRest]
    simp only [fl_pow]
    rw [d, Int.pow_succ, Int.mul_assoc]
    split
    · rename_i h
      rw [fl_step h, ih]
      rw [ih, bit_set, hb, hb_zero, beq_iff_eq] at h
      have e : 2 * (n / 2 ^ i / 2) = n / 2 ^ i - 1 := by omega
      rw [e, Int.mul_sub, Int.mul_one]
    · rename_i h
      rw [ih]
      have h : ¬ Builtin.bitAnd (flRest n i) (2 ^ i) ≠ 0 := h
      rw [ih, bit_set, hb, hb_zero, beq_iff_eq] at h
      have e : 2 * (n / 2 ^ i / 2) = n / 2 ^ i := by omega
      rw [e]
theorem flNames_eq (n : Int) : ∀ i, flNames n i = ((List.range i).filter fun k => hasBit n k).map flagName
  | 0 => rfl
  | i + 1 => by
    rw [flNames, List.range_succ, List.filter_append, List.map_append, flNames_eq n i]
    simp only [fl_pow]
    have hb : hasBit (flRest n i) i = hasBit n i := by
      rw [flRest_eq, hb_shl, if_neg (Nat.lt_irrefl i), Nat.sub_self, hb_zero]
      rfl
    cases e : hasBit n i with
    | true => rw [if_pos (bit_set.mpr (hb.trans e))]; simp [e]
    | false =>
      rw [if_neg (fun h => by rw [bit_set, hb, e] at h; cases h)]
      simp [e]
/-- the word of a place -/
noncomputable def wordS (n : Int) (p : Nat) : Str := if p < 32 then flagName p else baseText "0x" 16 (2 ^ 32 * (n / 2 ^ 32))
noncomputable def lastP (n : Int) : Nat := (places n).getLast?.getD 0
noncomputable def tokS (n : Int) (p : Nat) : Str := if p < lastP n then wordS n p ++ "," else wordS n p
theorem flagWords_eq (n : Int) : flagWords n = (places n).map (wordS n) := by
  unfold flagWords places
  rw [flNames_eq, flRest_eq, List.map_append]
  congr 1
  · refine List.map_congr_left fun p hp => ?_
    have := List.mem_range.mp (List.mem_filter.mp hp).1
    unfold wordS
    rw [if_pos this]
  · have e : (2 ^ 32 * (n / 2 ^ 32) ≠ 0 ∨ n = 0) ↔ (n / 2 ^ 32 ≠ 0 ∨ n = 0) := by
      have : (2 : Int) ^ 32 * (n / 2 ^ 32) = 0 ↔ n / 2 ^ 32 = 0 := by
        rw [Int.mul_eq_zero]
        exact ⟨fun h => h.resolve_left (by decide), .inr⟩
      rw [Ne, Ne, this]
    by_cases h : n / 2 ^ 32 ≠ 0 ∨ n = 0
    · rw [if_pos h, if_pos (e.mpr h)]; rfl
    · rw [if_neg h, if_neg fun x => h (e.mp x)]; rfl
theorem lastP_eq {n : Int} : ∃ A, places n = A ++ [lastP n] := by
  have h := places_ne (n := n)
  refine ⟨(places n).dropLast, ?_⟩
  unfold lastP
  rw [List.getLast?_eq_some_getLast h]
  exact (List.dropLast_concat_getLast h).symm
theorem lastP_mem {n : Int} : lastP n ∈ places n := by
  obtain ⟨A, e⟩ := lastP_eq (n := n)
  rw [e]; simp
theorem le_lastP {n : Int} {p : Nat} (h : p ∈ places n) : p ≤ lastP n := by
  obtain ⟨A, e⟩ := lastP_eq (n := n)
  have r := places_rise n
  rw [e] at h r
  rcases List.mem_append.mp h with h | h
  · exact Nat.le_of_lt ((List.pairwise_append.mp r).2.2 p h _ (.head _))
  · rw [List.mem_singleton.mp h]; exact Nat.le_refl _
/-- a word has no blank, line end, full stop or comma -/
noncomputable def cleanW (x : Str) : Bool := x.cps.toList.all (fun c => c != 32 && c != 10 && c != 46 && c != 44) && x.cps.toList.any (fun c => !Unicode.isSpace c) && PyData.strOk x && decide (x.length ≤ 20)
theorem clean_small : ∀ p, p < 32 → cleanW (flagName p) = true ∧ ((flagName p).length : Int) = sizeOf p := by
  have : (List.range 32).all (fun p => cleanW (flagName p) && decide (((flagName p).length : Int) = sizeOf p)) = true := by decide +kernel
  intro p hp
  have := List.all_eq_true.mp this p (List.mem_range.mpr hp)
  rwa [Bool.and_eq_true, decide_eq_true_eq] at this
theorem high_cases {n : Int} (h1 : -2 ^ 34 ≤ n) (h2 : n < 2 ^ 34) : n / 2 ^ 32 = -4 ∨ n / 2 ^ 32 = -3 ∨ n / 2 ^ 32 = -2 ∨ n / 2 ^ 32 = -1 ∨ n / 2 ^ 32 = 0 ∨ n / 2 ^ 32 = 1 ∨ n / 2 ^ 32 = 2 ∨ n / 2 ^ 32 = 3 := by omega
noncomputable def topS (v : Int) : Str := baseText "0x" 16 (2 ^ 32 * v)
noncomputable def tops : List Int := [-4, -3, -2, -1, 0, 1, 2, 3]
theorem top_mem {n : Int} (h1 : -2 ^ 34 ≤ n) (h2 : n < 2 ^ 34) : n / 2 ^ 32 ∈ tops := by
  rcases high_cases h1 h2 with e | e | e | e | e | e | e | e <;> rw [e] <;> decide
theorem clean_top : ∀ v ∈ tops, cleanW (topS v) = true ∧ ((topS v).length : Int) = if v = 0 then 3 else if v > 0 then 11 else 12 := by decide +kernel
theorem top_inj : ∀ v ∈ tops, ∀ u ∈ tops, topS v = topS u → v = u := by decide +kernel
theorem flag_inj : ∀ p, p < 32 → ∀ q, q < 32 → flagName p = flagName q → p = q := by
  have : (List.range 32).all (fun p => (List.range 32).all fun q => decide (flagName p = flagName q → p = q)) = true := by decide +kernel
  intro p hp q hq h
  have := List.all_eq_true.mp (List.all_eq_true.mp this p (List.mem_range.mpr hp)) q (List.mem_range.mpr hq)
  exact of_decide_eq_true this h
theorem flag_top : ∀ p, p < 32 → ∀ v ∈ tops, flagName p ≠ topS v := by
  have : (List.range 32).all (fun p => tops.all fun v => decide (flagName p ≠ topS v)) = true := by decide +kernel
  intro p hp v hv
  have := List.all_eq_true.mp (List.all_eq_true.mp this p (List.mem_range.mpr hp)) v hv
  exact of_decide_eq_true this
section
variable {n : Int} {p : Nat}
theorem word_clean (h1 : -2 ^ 34 ≤ n) (h2 : n < 2 ^ 34) (_h : p ∈ places n) : cleanW (wordS n p) = true := by
  unfold wordS
  split
  · rename_i h; exact (clean_small p h).1
  · exact (clean_top _ (top_mem h1 h2)).1
noncomputable def sizeAt (n : Int) (p : Nat) : Int := if p < 32 then sizeOf p else if n / 2 ^ 32 = 0 then 3 else if n > 0 then 11 else 12
theorem word_size (h1 : -2 ^ 34 ≤ n) (h2 : n < 2 ^ 34) : ((wordS n p).length : Int) = sizeAt n p := by
  unfold wordS sizeAt
  split
  · rename_i h; exact (clean_small p h).2
  · have := (clean_top _ (top_mem h1 h2)).2
    have e : (n / 2 ^ 32 > 0) ↔ (n / 2 ^ 32 ≠ 0 ∧ n > 0) := by omega
    show ((topS (n / 2 ^ 32)).length : Int) = _
    rw [this]
    by_cases h0 : n / 2 ^ 32 = 0
    · rw [if_pos h0, if_pos h0]
    · rw [if_neg h0, if_neg h0]
      by_cases h3 : n > 0
      · rw [if_pos (e.mpr ⟨h0, h3⟩), if_pos h3]
      · rw [if_neg fun x => h3 (e.mp x).2, if_neg h3]
theorem sizes2_eq : sizes2 n = (places n).map fun p : Nat => ((p : Int), sizeAt n p) := by
  have e1 : rawSizes n 32 = ((List.range 32).filter fun k => hasBit n k).map fun p : Nat => ((p : Int), sizeAt n p) := by
    unfold rawSizes
    refine List.map_congr_left fun p hp => ?_
    have := List.mem_range.mp (List.mem_filter.mp hp).1
    unfold sizeAt
    rw [if_pos this]
  have hne := places_ne (n := n)
  unfold sizes2 sizes1 places
  unfold places at hne
  rw [e1, List.map_append]
  by_cases h : n / 2 ^ 32 = 0
  · have f1 : (if n / 2 ^ 32 ≠ 0 then [((32 : Int), if n > 0 then (11 : Int) else 12)] else []) = [] := if_neg fun x => x h
    rw [f1, List.append_nil]
    by_cases h0 : n = 0
    · subst h0
      have e : ((List.range 32).filter fun k => hasBit 0 k) = [] := List.filter_eq_nil_iff.mpr fun k _ => by simp [hb_zero_int]
      rw [e]
      simp [sizeAt]
    · have f2 : (if n / 2 ^ 32 ≠ 0 ∨ n = 0 then [32] else []) = ([] : List Nat) := if_neg fun x => x.elim (fun y => y h) h0
      rw [f2, List.append_nil] at hne
      rw [f2, if_neg fun x => hne (List.map_eq_nil_iff.mp (List.isEmpty_iff.mp x)), List.map_nil, List.append_nil]
  · have f1 : (if n / 2 ^ 32 ≠ 0 then [((32 : Int), if n > 0 then (11 : Int) else 12)] else []) = [((32 : Int), if n > 0 then (11 : Int) else 12)] := if_pos h
    have f2 : (if n / 2 ^ 32 ≠ 0 ∨ n = 0 then [32] else []) = ([32] : List Nat) := if_pos (.inl h)
    rw [f1, f2]
    have f3 : ∀ l : List (Int × Int), ∀ x, (l ++ [x]).isEmpty = false := fun l x => by cases l <;> rfl
    rw [f3, if_neg (by decide)]
    congr 1
    show _ = [(((32 : Nat) : Int), sizeAt n 32)]
    have f4 : sizeAt n 32 = if n > 0 then 11 else 12 := by
      unfold sizeAt
      rw [if_neg (by decide : ¬ 32 < 32), if_neg h]
    rw [f4]
    rfl
theorem lastOf_eq : lastOf n = (lastP n : Int) := by
  unfold lastOf
  rw [sizes2_eq]
  obtain ⟨A, e⟩ := lastP_eq (n := n)
  rw [e]
  simp
end

section
variable {n width head : Int} {p : Nat}
theorem cut_fold {sz : Nat → Int} {last : Int} : ∀ (l : List Nat) (cuts : List (Int × Int)) (room ahead : Int), ((l.map fun p : Nat => ((p : Int), sz p)).foldl (cutStep width head last) (cuts, room, ahead)).1 = cutGo head width (fun p => if (p : Int) < last then sz p + 2 else sz p + 1) cuts room ahead l
  | [], _, _, _ => rfl
  | p :: r, cuts, room, ahead => by
    rw [List.map_cons, List.foldl_cons, cutGo]
    by_cases h : room < (if (p : Int) < last then sz p + 2 else sz p + 1) ∧ 0 ≤ ahead + head
    · rw [if_pos ⟨h.1, h.2⟩, ← cut_fold r]
      congr 2
      unfold cutStep
      rw [if_pos h]
    · rw [if_neg fun x => h ⟨x.1, x.2⟩, ← cut_fold r]
      congr 2
      unfold cutStep
      rw [if_neg h]
noncomputable def fullP (n : Int) (p : Nat) : Int := if (p : Int) < (lastP n : Int) then sizeAt n p + 2 else sizeAt n p + 1
/-- the rows of a page, as places -/
noncomputable def rowsP (n width head : Int) : List (List Nat) := grow (fullP n) width [] [] head (places n)
theorem cutsV_eq (h0 : 0 ≤ head) : cutsV n width head = bounds (rowsP n width head) := by
  unfold cutsV rowsP
  rw [sizes2_eq, lastOf_eq, cut_fold]
  have := cut_grow (width := width) (fullP n) h0 (places n) [] [] head fun _ => ⟨rfl, rfl⟩
  rw [← this]
  show cutGo head width (fullP n) [] _ _ _ = cutGo head width (fullP n) [] _ _ _
  congr 1
  simp [rowSum]
noncomputable def strLen (b : Str) : Int := 1 + (b.length : Int)
theorem rowSum_strLen : ∀ row : List Str, rowSum strLen row = rowLen row
  | [] => rfl
  | b :: r => by
    have := rowSum_strLen r
    unfold rowSum at this ⊢
    rw [List.map_cons, List.sum_cons, this, rowLen_cons]
    rfl
theorem lay_grow : ∀ (l : List Str) (rows : List (List Str)) (row : List Str) (ini : Int), (l.foldl (layStep width) (rows, row, ini)).1 ++ [(l.foldl (layStep width) (rows, row, ini)).2.1] = grow strLen width rows row ini l
  | [], _, _, _ => rfl
  | b :: l, rows, row, ini => by
    rw [List.foldl_cons, grow, rowSum_strLen]
    unfold layStep
    dsimp only
    split
    · exact lay_grow l rows (row ++ [b]) ini
    · split
      · exact lay_grow l rows [b] 0
      · exact lay_grow l (rows ++ [row]) [b] 0
theorem tok_len (h1 : -2 ^ 34 ≤ n) (h2 : n < 2 ^ 34) : strLen (tokS n p) = fullP n p := by
  have := word_size (p := p) h1 h2
  unfold strLen tokS fullP
  by_cases h : p < lastP n
  · rw [if_pos h, if_pos (by exact_mod_cast h), Str.length_append, ← this]
    show 1 + (((wordS n p).length + 1 : Nat) : Int) = _
    omega
  · rw [if_neg h, if_neg (by exact_mod_cast h), ← this]
    omega
/-- the words of a page -/
noncomputable def toksS (n : Int) : List Str := (places n).map (tokS n)
theorem page_rows (h1 : -2 ^ 34 ≤ n) (h2 : n < 2 ^ 34) : ((toksS n).foldl (layStep width) ([], [], head)).1 ++ [((toksS n).foldl (layStep width) ([], [], head)).2.1] = (rowsP n width head).map (List.map (tokS n)) := by
  rw [lay_grow]
  exact grow_map (fullP n) strLen (tokS n) width (places n) [] [] head (fun _ h => nomatch h) fun p _ => tok_len h1 h2
/-- a piece of a page: clean, but for a comma at its end -/
theorem clean_chars {x : Str} (h : cleanW x = true) : (∀ c ∈ x.cps.toList, c ≠ 32 ∧ c ≠ 10 ∧ c ≠ 46 ∧ c ≠ 44) ∧ (∃ c ∈ x.cps.toList, Unicode.isSpace c = false) ∧ PyData.strOk x = true ∧ x.length ≤ 20 := by
  unfold cleanW at h
  simp only [Bool.and_eq_true, decide_eq_true_eq] at h
  obtain ⟨⟨⟨a, b⟩, c⟩, d⟩ := h
  refine ⟨fun y hy => ?_, ?_, c, d⟩
  · have := List.all_eq_true.mp a y hy
    simp only [Bool.and_eq_true, bne_iff_ne] at this
    exact ⟨this.1.1.1, this.1.1.2, this.1.2, this.2⟩
  · obtain ⟨y, hy, e⟩ := List.any_eq_true.mp b
    exact ⟨y, hy, by simpa using e⟩
theorem tok_chars : (tokS n p).cps.toList = (wordS n p).cps.toList ++ if p < lastP n then [44] else [] := by
  unfold tokS
  split
  · rw [Str.cps_append, Array.toList_append]; rfl
  · rw [List.append_nil]
theorem tok_free (h1 : -2 ^ 34 ≤ n) (h2 : n < 2 ^ 34) (h : p ∈ places n) : ∀ c ∈ (tokS n p).cps.toList, c ≠ 32 ∧ c ≠ 10 ∧ c ≠ 46 := by
  intro c hc
  have hw := (clean_chars (word_clean h1 h2 h)).1
  rw [tok_chars] at hc
  rcases List.mem_append.mp hc with hc | hc
  · exact ⟨(hw c hc).1, (hw c hc).2.1, (hw c hc).2.2.1⟩
  · split at hc
    · rw [List.mem_singleton.mp hc]; decide
    · cases hc
theorem strOk_comma {x : Str} (h : PyData.strOk x = true) : PyData.strOk (x ++ ("," : Str)) = true := by
  unfold PyData.strOk at h ⊢
  rw [← Array.all_toList] at h ⊢
  rw [Str.cps_append, Array.toList_append, List.all_append, h]
  decide
theorem tok_ok (h1 : -2 ^ 34 ≤ n) (h2 : n < 2 ^ 34) (h : p ∈ places n) : WordOk (tokS n p) := by
  obtain ⟨_, ⟨c, hc, hs⟩, hok, hl⟩ := clean_chars (word_clean h1 h2 h)
  refine ⟨?_, ?_, c, ?_, hs⟩
  · unfold tokS
    split
    · exact strOk_comma hok
    · exact hok
  · unfold tokS
    split
    · rw [Str.length_append]
      show (wordS n p).length + 1 ≤ 40
      omega
    · omega
  · rw [tok_chars]
    exact List.mem_append_left _ hc
/-- the words' text, cut at its blanks -/
theorem join_toks : ∀ {A : List Str} {l : Str}, Str.join ", " (A ++ [l]) = Str.join " " (A.map (fun x : Str => x ++ ("," : Str)) ++ [l])
  | [], l => rfl
  | [a], l => by
    show a ++ (", " : Str) ++ l = a ++ ("," : Str) ++ (" " : Str) ++ l
    apply Str.ext'
    apply Array.toList_inj.mp
    simp only [Str.cps_append, Array.toList_append, List.append_assoc]
    rfl
  | a :: b :: A, l => by
    have ih := join_toks (A := b :: A) (l := l)
    show a ++ (", " : Str) ++ Str.join ", " (b :: A ++ [l]) = a ++ ("," : Str) ++ (" " : Str) ++ Str.join " " ((b ++ ("," : Str)) :: A.map (fun x : Str => x ++ ("," : Str)) ++ [l])
    rw [ih]
    apply Str.ext'
    apply Array.toList_inj.mp
    simp only [Str.cps_append, Array.toList_append, List.append_assoc, List.map_cons]
    rfl
theorem words_join : Txt.join ", " (flagWords n) = Str.join " " (toksS n) := by
  rw [txt_join, flagWords_eq]
  obtain ⟨A, e⟩ := lastP_eq (n := n)
  unfold toksS
  have hlt : ∀ p ∈ A, p < lastP n := fun p hp => by
    have r := places_rise n
    rw [e] at r
    exact (List.pairwise_append.mp r).2.2 p hp _ (.head _)
  rw [e, List.map_append, List.map_append, List.map_singleton, List.map_singleton, join_toks, List.map_map]
  congr 2
  · refine List.map_congr_left fun p hp => ?_
    show wordS n p ++ ("," : Str) = tokS n p
    rw [tokS, if_pos (hlt p hp)]
  · rw [tokS, if_neg (Nat.lt_irrefl _)]
theorem words_split (h1 : -2 ^ 34 ≤ n) (h2 : n < 2 ^ 34) : Txt.split (Txt.join ", " (flagWords n)) " " = toksS n := by
  rw [words_join]
  refine split_join (d := 32) (ys := []) rfl (by decide +kernel) ?_ fun x hx => ?_
  · unfold toksS
    intro h
    exact places_ne (List.map_eq_nil_iff.mp h)
  · obtain ⟨p, hp, rfl⟩ := List.mem_map.mp hx
    exact fun hc => (tok_free h1 h2 hp 32 hc).1 rfl
end

section
variable {n w s width head : Int} {p : Nat}
/-- one piece of a page's text -/
noncomputable def tauW (n : Int) (p : Nat) : List Nat := 32 :: (tokS n p).cps.toList
noncomputable def tauS (n : Int) : Option Nat → List Nat
  | none => [10]
  | some p => tauW n p
theorem sep_clean {l : List Nat} (h : ∀ c ∈ l, c ≠ 32 ∧ c ≠ 10 ∧ c ≠ 46) : ∀ x ∈ l, isSep x = false := fun x hx => by
  unfold isSep
  simp [(h x hx).1, (h x hx).2.1]
theorem tau_ok (h1 : -2 ^ 34 ≤ n) (h2 : n < 2 ^ 34) (h : p ∈ places n) : TokOk (tauW n p) := ⟨32, _, rfl, rfl, sep_clean (tok_free h1 h2 h)⟩
theorem tau_comma (h : p < lastP n) : (tauW n p).getLast? = some 44 := by
  unfold tauW
  rw [tok_chars, if_pos h]
  simp [List.getLast?_cons]
theorem tau_mid (h1 : -2 ^ 34 ≤ n) (h2 : n < 2 ^ 34) (h : p ∈ places n) : 44 ∉ (tauW n p).dropLast := by
  have hw := (clean_chars (word_clean h1 h2 h)).1
  unfold tauW
  rw [tok_chars]
  intro hm
  split at hm
  · rw [← List.cons_append, List.dropLast_concat] at hm
    rcases List.mem_cons.mp hm with e | hm
    · cases e
    · exact (hw 44 hm).2.2.2 rfl
  · rw [List.append_nil] at hm
    have hm := (List.dropLast_sublist _).subset hm
    rcases List.mem_cons.mp hm with e | hm
    · cases e
    · exact (hw 44 hm).2.2.2 rfl
theorem patok_rise {f : Nat → List Nat} {l : Nat} : ∀ {a : Int} {P : List (Option Nat)}, Rise a P → (∀ p, some p ∈ P → TokOk (f p) ∧ p ≤ l ∧ (p < l → (f p).getLast? = some 44)) → PatOk (P.map (Option.map f))
  | _, _, .nil, _ => .nil
  | _, _, .put (p := p) (r := r) h hr, hc => by
    have ih := patok_rise hr fun q hq => hc q (.tail _ hq)
    obtain ⟨c1, c2, c3⟩ := hc p (.head _)
    have more : ∀ q, some q ∈ r → p < l := fun q hq => by
      have a := rise_gt hr q hq
      have b := (hc q (.tail _ hq)).2.1
      omega
    cases hr with
    | nil => exact .last c1
    | put h2 r2 => exact .put c1 (c3 (more _ (.head _))) ih
    | cut h2 r2 => exact .put c1 (c3 (more _ (.tail _ (.head _)))) ih
  | _, _, .cut (p := p) (r := r) h hr, hc => .any (patok_rise (.put (a := (p : Int) - 1) (by omega) hr) fun q hq => hc q (.tail _ hq))
theorem word_inj {q : Nat} (hw1 : -2 ^ 34 ≤ w) (hw2 : w < 2 ^ 34) (hs1 : -2 ^ 34 ≤ s) (hs2 : s < 2 ^ 34) (hp : p ∈ places w) (hq : q ∈ places s) (h : wordS w p = wordS s q) : p = q ∧ (p = 32 → w / 2 ^ 32 = s / 2 ^ 32) := by
  have a1 := top_mem hw1 hw2
  have a2 := top_mem hs1 hs2
  unfold wordS at h
  by_cases c1 : p < 32 <;> by_cases c2 : q < 32
  · rw [if_pos c1, if_pos c2] at h
    exact ⟨flag_inj p c1 q c2 h, fun e => by omega⟩
  · rw [if_pos c1, if_neg c2] at h
    exact absurd h (flag_top p c1 _ a2)
  · rw [if_neg c1, if_pos c2] at h
    exact absurd h.symm (flag_top q c2 _ a1)
  · rw [if_neg c1, if_neg c2] at h
    have := places_le hp
    have := places_le hq
    exact ⟨by omega, fun _ => top_inj _ a1 _ a2 h⟩
theorem tau_inj {q : Nat} (hw1 : -2 ^ 34 ≤ w) (hw2 : w < 2 ^ 34) (hs1 : -2 ^ 34 ≤ s) (hs2 : s < 2 ^ 34) (hp : p ∈ places w) (hq : q ∈ places s) (h : tauW w p = tauW s q) : p = q ∧ (p = 32 → w / 2 ^ 32 = s / 2 ^ 32) ∧ (p < lastP w ↔ q < lastP s) := by
  have cw := (clean_chars (word_clean hw1 hw2 hp)).1
  have cs := (clean_chars (word_clean hs1 hs2 hq)).1
  have h := (List.cons.inj h).2
  rw [tok_chars, tok_chars] at h
  have fin : ∀ (x y : Str), (∀ c ∈ x.cps.toList, c ≠ 32 ∧ c ≠ 10 ∧ c ≠ 46 ∧ c ≠ 44) → x.cps.toList = y.cps.toList ++ [44] → False := fun x y hx e => (hx 44 (by rw [e]; simp)).2.2.2 rfl
  by_cases c1 : p < lastP w <;> by_cases c2 : q < lastP s
  · rw [if_pos c1, if_pos c2] at h
    have := word_inj hw1 hw2 hs1 hs2 hp hq (Str.ext' (Array.toList_inj.mp (List.append_cancel_right h)))
    exact ⟨this.1, this.2, iff_of_true c1 c2⟩
  · rw [if_pos c1, if_neg c2, List.append_nil] at h
    exact (fin _ _ cs h.symm).elim
  · rw [if_neg c1, if_pos c2, List.append_nil] at h
    exact (fin _ _ cw h).elim
  · rw [if_neg c1, if_neg c2, List.append_nil, List.append_nil] at h
    have := word_inj hw1 hw2 hs1 hs2 hp hq (Str.ext' (Array.toList_inj.mp h))
    exact ⟨this.1, this.2, iff_of_false c1 c2⟩
/-- rows of places -/
structure Rows (n : Int) (rows : List (List Nat)) : Prop where
  flat : rows.flatten = places n
  shape : ∃ R Rs, rows = R :: Rs ∧ ∀ S ∈ Rs, S ≠ []
theorem rowsP_rows : Rows n (rowsP n width head) where
  flat := by unfold rowsP; rw [grow_flat]; rfl
  shape := grow_shape (fullP n) width (places n) [] [] head (.inr places_ne) (fun _ h => nomatch h) fun h => absurd rfl h
section
variable {rows : List (List Nat)}
theorem Rows.rise (r : Rows n rows) : Rise (-1) (pat rows) := by
  obtain ⟨R, Rs, rfl, h⟩ := r.shape
  exact rise_pat h (fun p _ => by omega) (by rw [r.flat]; exact places_rise n)
theorem Rows.mem (r : Rows n rows) (j : Nat) : some j ∈ pat rows ↔ j ∈ places n := by rw [pat_mem, r.flat]
theorem Rows.cuts (r : Rows n rows) : cutsI (-1) (pat rows) = bounds rows := by
  obtain ⟨R, Rs, rfl, h⟩ := r.shape
  exact cuts_pat (fun _ => rfl) h
theorem pat_last {α : Type} {l : α} : ∀ {Rs : List (List α)} {R A : List α}, (∀ S ∈ Rs, S ≠ []) → (R :: Rs).flatten = A ++ [l] → ∃ P, pat (R :: Rs) = P ++ [some l]
  | [], R, A, _, e => by
    have e : R = A ++ [l] := by simpa using e
    exact ⟨A.map some, by show R.map some = _; rw [e]; simp⟩
  | S :: Rs, R, A, h, e => by
    have hS := h S (.head _)
    obtain ⟨A', e'⟩ : ∃ A', (S :: Rs).flatten = A' ++ [l] := by
      have hne : (S :: Rs).flatten ≠ [] := fun x => hS (List.append_eq_nil_iff.mp x).1
      refine ⟨(S :: Rs).flatten.dropLast, ?_⟩
      have hl : ((R :: S :: Rs).flatten).getLast? = some l := by rw [e]; simp
      rw [List.flatten_cons, List.getLast?_append, List.getLast?_eq_some_getLast hne] at hl
      have hl : (S :: Rs).flatten.getLast hne = l := by simpa using hl
      rw [← hl]
      exact (List.dropLast_concat_getLast hne).symm
    obtain ⟨P, eP⟩ := pat_last (fun T hT => h T (.tail _ hT)) e'
    exact ⟨R.map some ++ none :: P, by show R.map some ++ none :: pat (S :: Rs) = _; rw [eP]; simp⟩
theorem Rows.last (r : Rows n rows) : ∃ P, pat rows = P ++ [some (lastP n)] := by
  obtain ⟨R, Rs, rfl, h⟩ := r.shape
  obtain ⟨A, e⟩ := lastP_eq (n := n)
  exact pat_last h (r.flat.trans e)
end
/-- the pieces match as the law says -/
theorem match_law {rw rs : List (List Nat)} (hw1 : -2 ^ 34 ≤ w) (hw2 : w < 2 ^ 34) (hs1 : -2 ^ 34 ≤ s) (hs2 : s < 2 ^ 34) (rW : Rows w rw) (rS : Rows s rs) :
    CM ((pat rw).map (Option.map (tauW w))) (((pat rs).map (tauS s)).flatten) ↔ takesV w s (bounds rw) (bounds rs) = true := by
  have hG : ∀ t ∈ (pat rs).map (tauS s), TokOk t ∧ 44 ∉ t.dropLast := by
    intro t ht
    obtain ⟨x, hx, rfl⟩ := List.mem_map.mp ht
    cases x with
    | none => exact ⟨⟨10, [], rfl, rfl, fun _ h => nomatch h⟩, (by decide : 44 ∉ ([10] : List Nat).dropLast)⟩
    | some q =>
      have hq := (rS.mem q).mp hx
      exact ⟨tau_ok hs1 hs2 hq, tau_mid hs1 hs2 hq⟩
  have hP : PatOk ((pat rw).map (Option.map (tauW w))) := patok_rise (l := lastP w) rW.rise fun p hp => by
    have hp := (rW.mem p).mp hp
    exact ⟨tau_ok hw1 hw2 hp, le_lastP hp, tau_comma⟩
  rw [cm_iff hP hG, ← rW.cuts, ← rS.cuts, takes_law rW.rise rW.mem rS.mem, ← wm_law rW.rise (Nat.le_refl _) rS.rise (Int.le_refl _) (.inl rfl), List.map_map]
  obtain ⟨PW, eW⟩ := rW.last
  obtain ⟨PS, eS⟩ := rS.last
  have hlastI : ∀ {X : List (Option (List Nat))}, ((pat rs).map (some ∘ tauS s)) = X ++ [some (tauW w (lastP w))] → tauW w (lastP w) = tauW s (lastP s) := fun {X} e => by
    rw [eS, List.map_append, List.map_singleton] at e
    have := (List.append_inj' e rfl).2
    exact (Option.some.inj (List.cons.inj this).1).symm
  by_cases hl : lastP w = lastP s ∧ w / 2 ^ 32 = s / 2 ^ 32
  · have hm := wm_map (f := tauW w) (g := tauS s) (P := pat rw) (I := pat rs) id fun p hp x hx => by
      have hp := (rW.mem p).mp hp
      cases x with
      | none => exact ⟨fun e => (by cases (List.cons.inj e).1), fun e => (nomatch e)⟩
      | some q =>
        have hq := (rS.mem q).mp hx
        constructor
        · intro e
          rw [(tau_inj hw1 hw2 hs1 hs2 hp hq e.symm).1]; rfl
        · intro e
          cases e
          show 32 :: (tokS s p).cps.toList = 32 :: (tokS w p).cps.toList
          rw [tok_chars, tok_chars]
          have e1 : wordS s p = wordS w p := by unfold wordS; rw [hl.2]
          rw [e1, hl.1]
    rw [hm, show (pat rw).map (Option.map id) = pat rw by simp]
    exact ⟨fun h => ⟨hl.2, h⟩, fun h => h.2⟩
  · constructor
    · intro h
      exfalso
      rw [eW, List.map_append, List.map_singleton] at h
      obtain ⟨X, e⟩ := wm_last h
      have e := hlastI e
      obtain ⟨a, b, c⟩ := tau_inj hw1 hw2 hs1 hs2 lastP_mem lastP_mem e
      refine hl ⟨a, ?_⟩
      by_cases h32 : lastP w = 32
      · exact b h32
      · have z : ∀ {n : Int}, lastP n ≠ 32 → n / 2 ^ 32 = 0 := fun {n} h => by
          refine Decidable.byContradiction fun hne => h ?_
          have m : 32 ∈ places n := places_mem.mpr (.inr ⟨rfl, .inl hne⟩)
          have := le_lastP m
          have := places_le (lastP_mem (n := n))
          omega
        rw [z h32, z (by rw [← a]; exact h32)]
    · rintro ⟨hv, h⟩
      exfalso
      rw [eW] at h
      obtain ⟨X, e⟩ := wm_last h
      rw [eS] at e
      have := (List.append_inj' e rfl).2
      have e2 := Option.some.inj (List.cons.inj this).1
      exact hl ⟨e2.symm, hv⟩
end

section
variable {n w s width head wide front : Int} {p : Nat}
/-- the text of a page -/
noncomputable def pageTxt (sep : Str) (n : Int) (rows : List (List Nat)) : Str := Txt.join sep (rows.map fun R => rowTxt (R.map (tokS n)))
theorem row_tau (R : List Nat) : (rowTxt (R.map (tokS n))).cps.toList = (R.map (tauW n)).flatten := by
  rw [rowTxt_list, List.flatMap_map, List.flatMap_def]
  rfl
theorem join_pat (n : Int) : ∀ rows : List (List Nat), (Str.join ("\n" : Str) (rows.map fun R => rowTxt (R.map (tokS n)))).cps.toList = ((pat rows).map (tauS n)).flatten
  | [] => rfl
  | [R] => by
    show (rowTxt (R.map (tokS n))).cps.toList = ((R.map some).map (tauS n)).flatten
    rw [row_tau, List.map_map]
    rfl
  | R :: S :: rest => by
    have ih := join_pat n (S :: rest)
    rw [List.map_cons] at ih
    rw [List.map_cons, List.map_cons, join_cons2, ih, row_tau]
    show _ ++ [10] ++ _ = ((R.map some ++ none :: pat (S :: rest)).map (tauS n)).flatten
    rw [List.map_append, List.flatten_append, List.map_cons, List.flatten_cons, List.map_map, List.append_assoc]
    rfl
theorem pageTxt_nl (rows : List (List Nat)) : (pageTxt "\n" n rows).cps.toList = ((pat rows).map (tauS n)).flatten := by
  unfold pageTxt
  rw [txt_join, join_pat]
theorem pat_map {α β : Type} (f : α → β) : ∀ rows : List (List α), pat (rows.map (List.map f)) = (pat rows).map (Option.map f)
  | [] => rfl
  | [R] => by
    show (R.map f).map some = (R.map some).map (Option.map f)
    rw [List.map_map, List.map_map]
    rfl
  | R :: S :: rest => by
    show (R.map f).map some ++ none :: pat ((S :: rest).map (List.map f)) = (R.map some ++ none :: pat (S :: rest)).map (Option.map f)
    rw [pat_map f (S :: rest), List.map_append, List.map_map, List.map_map, List.map_cons]
    rfl
theorem row_nodot (h1 : -2 ^ 34 ≤ n) (h2 : n < 2 ^ 34) {R : List Nat} (h : ∀ p ∈ R, p ∈ places n) : 46 ∉ (rowTxt (R.map (tokS n))).cps.toList := by
  rw [row_tau]
  intro hm
  obtain ⟨l, hl, hc⟩ := List.mem_flatten.mp hm
  obtain ⟨p, hp, rfl⟩ := List.mem_map.mp hl
  rcases List.mem_cons.mp hc with e | hc
  · cases e
  · exact (tok_free h1 h2 (h p hp) 46 hc).2.2 rfl
theorem places_len (n : Int) : (places n).length ≤ 33 := by
  unfold places
  rw [List.length_append]
  have := List.length_filter_le (fun k => hasBit n k) (List.range 32)
  rw [List.length_range] at this
  split <;> simp <;> omega
theorem flat_len {α : Type} : ∀ {Rs : List (List α)}, (∀ S ∈ Rs, S ≠ []) → Rs.length ≤ Rs.flatten.length
  | [], _ => Nat.le_refl _
  | S :: Rs, h => by
    have := flat_len fun T hT => h T (.tail _ hT)
    have hS := List.length_pos_iff.mpr (h S (.head _))
    rw [List.flatten_cons, List.length_append, List.length_cons]
    omega
theorem Rows.len {rows : List (List Nat)} (r : Rows n rows) : 1 ≤ rows.length ∧ rows.length ≤ 34 := by
  obtain ⟨R, Rs, rfl, h⟩ := r.shape
  have a := flat_len h
  have b := congrArg List.length r.flat
  rw [List.flatten_cons, List.length_append] at b
  have c := places_len n
  rw [List.length_cons]
  omega
theorem Rows.sub {rows : List (List Nat)} (r : Rows n rows) : ∀ R ∈ rows, ∀ p ∈ R, p ∈ places n := fun R hR p hp => by
  rw [← r.flat]
  exact List.mem_flatten.mpr ⟨R, hR, hp⟩
theorem rows_weight (h1 : -2 ^ 34 ≤ n) (h2 : n < 2 ^ 34) : ∀ {rows : List (List Nat)}, (∀ R ∈ rows, ∀ p ∈ R, p ∈ places n) → ((rows.map fun R => rowTxt (R.map (tokS n))).map (·.length)).sum ≤ 41 * rows.flatten.length
  | [], _ => Nat.le_refl _
  | R :: rows, h => by
    have ih := rows_weight h1 h2 (rows := rows) fun S hS => h S (.tail _ hS)
    have a := (rowLen_bounds (bs := R.map (tokS n)) fun x hx => by
      obtain ⟨p, hp, rfl⟩ := List.mem_map.mp hx
      exact tok_ok h1 h2 (h R (.head _) p hp)).2
    rw [← rowTxt_len, List.length_map] at a
    rw [List.map_cons, List.map_cons, List.sum_cons, List.flatten_cons, List.length_append]
    omega
theorem page_weight (h1 : -2 ^ 34 ≤ n) (h2 : n < 2 ^ 34) {rows : List (List Nat)} (r : Rows n rows) : ((rows.map fun R => rowTxt (R.map (tokS n))).map (·.length)).sum ≤ 1353 := by
  have a := rows_weight h1 h2 r.sub
  have b := congrArg List.length r.flat
  have c := places_len n
  omega
theorem page_len (h1 : -2 ^ 34 ≤ n) (h2 : n < 2 ^ 34) {rows : List (List Nat)} (r : Rows n rows) {sep : Str} (hsep : sep.length ≤ 3) : (pageTxt sep n rows).length ≤ 4000 := by
  unfold pageTxt
  rw [txt_join]
  have a := StrLaws.join_length_le sep (rows.map fun R => rowTxt (R.map (tokS n)))
  have b := page_weight h1 h2 r
  have c := r.len.2
  rw [List.length_map] at a
  have d : rows.length * sep.length ≤ 34 * 3 := Nat.mul_le_mul c hsep
  omega
/-- one row: the texts are compared -/
theorem one_law {R : List Nat} {rs : List (List Nat)} (hw1 : -2 ^ 34 ≤ w) (hw2 : w < 2 ^ 34) (hs1 : -2 ^ 34 ≤ s) (hs2 : s < 2 ^ 34) (rW : Rows w [R]) (rS : Rows s rs) :
    (pageTxt "..." w [R] == pageTxt "\n" s rs) = takesV w s (bounds [R]) (bounds rs) := by
  have := match_law hw1 hw2 hs1 hs2 rW rS
  rw [← pageTxt_nl] at this
  rw [Bool.eq_iff_iff, ← this, beq_iff_eq]
  show _ ↔ CM ((R.map some).map (Option.map (tauW w))) _
  rw [List.map_map, show (Option.map (tauW w)) ∘ some = some ∘ tauW w from rfl, ← List.map_map, cm_row, ← row_tau]
  have e : pageTxt "..." w [R] = rowTxt (R.map (tokS w)) := rfl
  rw [e]
  constructor
  · intro h; rw [← h]
  · intro h; exact (Str.ext' (Array.toList_inj.mp h)).symm
/-- more rows: the search answers as the law says -/
theorem more_law {R0 Rl : List Nat} {mids rs : List (List Nat)} {b : Bool} (hw1 : -2 ^ 34 ≤ w) (hw2 : w < 2 ^ 34) (hs1 : -2 ^ 34 ≤ s) (hs2 : s < 2 ^ 34) (rW : Rows w (R0 :: (mids ++ [Rl]))) (rS : Rows s rs)
    (h : EllipB (rowTxt (R0.map (tokS w))) (mids.map fun R => rowTxt (R.map (tokS w))) (rowTxt (Rl.map (tokS w))) (pageTxt "\n" s rs) b) : b = takesV w s (bounds (R0 :: (mids ++ [Rl]))) (bounds rs) := by
  have := match_law hw1 hw2 hs1 hs2 rW rS
  rw [← pageTxt_nl, ← pat_map] at this
  rw [Bool.eq_iff_iff, ← this]
  unfold EllipB at h
  rw [h, row_tau, row_tau, List.map_map, show ((fun x : Str => x.cps.toList) ∘ fun R => rowTxt (R.map (tokS w))) = (List.flatten ∘ List.map (tauW w)) from funext fun R => row_tau R, ← List.map_map, mt_cm]
  rw [List.map_cons, List.map_append, List.map_singleton]
end
set_option maxHeartbeats 4000000
section
variable {w : World} {A : Around} {E : Value → Shared → Prop} {s : Shared} {L : Addr} {h₀ : Heap} {m mg mb : Str → Option Value} {loose : List Str} {news : List (Addr × Obj)} {Q : Value → Shared → Prop} {t1 t2 : Tok} {wt sh : Int} {rw_ rs : List (List Nat)}
/-- _ellipsis_match of two pages -/
theorem ellip_call (F : Fr h₀ L s.heap m) (X : (hd.heap_1 w.params).In h₀) (N : News h₀ L s.heap news) (T : TopRead hd.view_1 loose mg mb h₀) (M : Mod mg h₀)
    (hw1 : -2 ^ 34 ≤ wt) (hw2 : wt < 2 ^ 34) (hs1 : -2 ^ 34 ≤ sh) (hs2 : sh < 2 ^ 34) (rW : Rows wt rw_) (rS : Rows sh rs) (hroom : A.depth < 920) (hh : A.handled = none)
    (h : ∀ h' tk, Fr h₀ L h' m → News h₀ L h' news → Q (.bool (takesV wt sh (bounds rw_) (bounds rs))) { s with heap := h', toks := tk }) :
    wpAny (model PySem.Challenge.rw_ty0040_01.row.prog w) A (call (.ref 28) [.str (pageTxt "..." wt rw_) t1, .str (pageTxt "\n" sh rs) t2] []) Q E s := by
  have l1 := page_len hw1 hw2 rW (sep := "...") (by decide)
  have l2 := page_len hs1 hs2 rS (sep := "\n") (by decide)
  have hfree : ∀ x ∈ rw_.map (fun R => rowTxt (R.map (tokS wt))), 46 ∉ x.cps.toList := fun x hx => by
    obtain ⟨R, hR, rfl⟩ := List.mem_map.mp hx
    exact row_nodot hw1 hw2 (rW.sub R hR)
  have hne : rw_.map (fun R => rowTxt (R.map (tokS wt))) ≠ [] := fun e => by
    have := rW.len.1
    rw [List.map_eq_nil_iff.mp e] at this
    cases this
  have hct : Txt.contains (pageTxt "..." wt rw_) "..." = decide (2 ≤ rw_.length) := by
    unfold pageTxt
    rw [txt_join, contains_join (d := 46) (ys := [46, 46]) rfl hne hfree, List.length_map]
  have hsp : Txt.split (pageTxt "..." wt rw_) "..." = rw_.map (fun R => rowTxt (R.map (tokS wt))) := by
    unfold pageTxt
    rw [txt_join]
    exact split_join (d := 46) (ys := [46, 46]) rfl (by decide +kernel) hne hfree
  obtain ⟨R0, Rs, rfl, hsh⟩ := rW.shape
  by_cases h1 : Rs = []
  · subst h1
    refine ellip_plain F X N T M l1 l2 (by rw [hct]; rfl) hroom hh fun h' tk F' N' => ?_
    rw [one_law hw1 hw2 hs1 hs2 rW rS]
    exact h h' tk F' N'
  · obtain ⟨mids, Rl, rfl⟩ : ∃ mids Rl, Rs = mids ++ [Rl] := ⟨Rs.dropLast, Rs.getLast h1, (List.dropLast_concat_getLast h1).symm⟩
    have hlen := rW.len.2
    rw [List.length_cons, List.length_append] at hlen
    refine ellip_parts F X N T M l1 l2 (by rw [hct]; simp) (w0 := rowTxt (R0.map (tokS wt))) (mids := mids.map fun R => rowTxt (R.map (tokS wt))) (wl := rowTxt (Rl.map (tokS wt))) (by rw [hsp, List.map_cons, List.map_append, List.map_singleton]) (by rw [List.length_map]; omega) ?_ hroom hh fun h' tk b F' N' hb => ?_
    · intro e
      have hl := hsh Rl (by simp)
      cases Rl with
      | nil => exact hl rfl
      | cons p r =>
        have := congrArg (fun x : Str => x.cps.toList) e
        have this : (rowTxt ((p :: r).map (tokS wt))).cps.toList = [] := this
        rw [row_tau] at this
        cases this
    · rw [more_law hw1 hw2 hs1 hs2 rW rS hb]
      exact h h' tk F' N'
end

/-- the tables of two methods' generators, taken out of the base -/
noncomputable def tabs2 : List (Addr × Addr) := [(159, 155), (166, 162)]
theorem noTabs_K (P : Params) : noTabs (hd.heap_1 P) = true := by kernel_rfl
theorem ghost_all {w : World} {h₁ h : Heap} {L : Addr} {m mg mb : Str → Option Value} {loose : List Str} {mean : ExcName → Option Value} {news : List (Addr × Obj)} (KX : (hd.heap_1 w.params).In h₁) (hT8 : ∀ P ∈ [(155 : Nat), (162 : Nat)], h₁.get? P = some (tabObj #[]))
    (F : Fr h₁ L h m) (N : News h₁ L h news) (T : Top hd.view_1 loose mean mg mb h₁) :
    ∃ h₀, Fr h₀ L h m ∧ News h₀ L h (news ++ [((155 : Nat), tabObj #[]), ((162 : Nat), tabObj #[])]) ∧ (hd.heap_1 w.params).In h₀ ∧ TopRead hd.view_1 loose mg mb h₀ ∧ Mod mg h₀ ∧ (∀ a its, h₁.IsList a its → h₀.IsList a its) ∧
      ∀ h' ps ps2, (∀ b o, h₀.get? b = some o → h'.get? b = some o) → h'.get? (155 : Nat) = some (tabObj ps) → h'.get? (162 : Nat) = some (tabObj ps2) → OldK h₁ h' := by
  have hT : TabsAt tabs2 h₁ := List.forall_mem_cons.mpr ⟨⟨codeHd_of_K KX (codeHd_len _), hT8 _ (.head _)⟩, List.forall_mem_cons.mpr ⟨⟨codeHd_of_K KX (codeHd_str _), hT8 _ (.tail _ (.head _))⟩, fun _ h => nomatch h⟩⟩
  refine ⟨ghostOf h₁ tabs2, ghost_fr hT F, ghost_news hT F N, ghost_K hT KX (noTabs_K _), ⟨ghost_ns hT T.g, ghost_ns hT T.b, ?_, T.builtins, T.free⟩, bmod_of_top (ghost_top hT T), fun a its x => ghost_list hT x, ?_⟩
  · obtain ⟨mc, a, r⟩ := T.nolimit
    exact ⟨mc, ghost_ns hT a, r⟩
  · intro h' ps ps2 hk e1 e2
    have c1 : h₁.TableAt 159 155 #[] := (hT (159, 155) (.head _)).1.tab (hT (159, 155) (.head _)).2
    have c2 : h₁.TableAt 166 162 #[] := (hT (166, 162) (.tail _ (.head _))).1.tab (hT (166, 162) (.tail _ (.head _))).2
    refine ⟨fun b o e => ?_, fun b o e => ?_⟩
    · by_cases b1 : b = 155
      · subst b1
        obtain rfl : o = tabObj #[] := Option.some.inj (e.symm.trans c1.2)
        exact .inr (.inl ⟨c1.isCodeTable, rfl, #[], ps, rfl, by rw [e1, Array.empty_append]⟩)
      by_cases b2 : b = 162
      · subst b2
        obtain rfl : o = tabObj #[] := Option.some.inj (e.symm.trans c2.2)
        exact .inr (.inl ⟨c2.isCodeTable, rfl, #[], ps2, rfl, by rw [e2, Array.empty_append]⟩)
      exact .inl (hk _ _ (ghost_ne e (by simp [tabs2]; exact ⟨b1, b2⟩)))
    · by_cases b1 : b = 155
      · exact ⟨_, b1 ▸ e1⟩
      by_cases b2 : b = 162
      · exact ⟨_, b2 ▸ e2⟩
      exact ⟨o, hk _ _ (ghost_ne e (by simp [tabs2]; exact ⟨b1, b2⟩))⟩

section
variable {n width head : Int}
theorem str_ext : ∀ {x y : Str}, x.cps.toList = y.cps.toList → x = y
  | ⟨_⟩, ⟨_⟩, h => congrArg Str.mk (Array.toList_inj.mp h)
theorem join_blank : ∀ {xs : List Str}, xs ≠ [] → 32 :: (Str.join " " xs).cps.toList = xs.flatMap fun b => 32 :: b.cps.toList
  | [], h => absurd rfl h
  | [x], _ => by
    rw [List.flatMap_cons, List.flatMap_nil, List.append_nil]
    rfl
  | x :: y :: r, _ => by
    have ih := join_blank (xs := y :: r) (by simp)
    rw [join_cons2, List.flatMap_cons, ← ih]
    rw [show ((" " : Str).cps.toList) = [32] from rfl]
    simp
theorem page_words {rows : List (List Nat)} (r : Rows n rows) : pageTxt "" n rows = " " ++ Txt.join ", " (flagWords n) := by
  refine str_ext ?_
  unfold pageTxt
  rw [txt_join, join_empty_list, words_join, List.flatMap_map]
  rw [show ((" " : Str) ++ Str.join " " (toksS n)).cps.toList = 32 :: (Str.join " " (toksS n)).cps.toList from Array.toList_append]
  rw [join_blank (by unfold toksS; intro e; exact places_ne (List.map_eq_nil_iff.mp e))]
  unfold toksS
  rw [← r.flat]
  clear r
  induction rows with
  | nil => rfl
  | cons R rows ih =>
    rw [List.flatMap_cons, ih, List.flatten_cons, List.map_append, List.flatMap_append, rowTxt_list]
theorem page_flush (h1 : -2 ^ 34 ≤ n) (h2 : n < 2 ^ 34) {st : List (List Str) × List Str × Int} (hst : (toksS n).foldl (layStep width) ([], [], head) = st) :
    flushedL (st.1.map rowTxt) st.2.1 st.2.2 = (rowsP n width head).map fun R => rowTxt (R.map (tokS n)) := by
  have e := page_rows (width := width) (head := head) h1 h2
  rw [hst] at e
  have hne : st.2.1 ≠ [] := by
    intro h
    rw [h] at e
    obtain ⟨R, Rs, er, hs⟩ := (rowsP_rows (n := n) (width := width) (head := head)).shape
    have hf := (rowsP_rows (n := n) (width := width) (head := head)).flat
    rw [er] at e hf
    have hl := congrArg List.getLast? e
    rw [List.getLast?_concat] at hl
    rcases List.eq_nil_or_concat Rs with rfl | ⟨l, S, rfl⟩
    · have : R = [] := by simpa using hl.symm
      rw [this] at hf
      exact places_ne hf.symm
    · have e2 : List.map (List.map (tokS n)) (R :: l.concat S) = List.map (List.map (tokS n)) (R :: l) ++ [S.map (tokS n)] := by simp
      rw [e2, List.getLast?_concat] at hl
      have : S = [] := List.map_eq_nil_iff.mp (Option.some.inj hl).symm
      exact hs S (by simp) this
  unfold flushedL
  rw [if_neg fun h => hne h.1, show [rowTxt st.2.1] = List.map rowTxt [st.2.1] from rfl, ← List.map_append, e, List.map_map]
  rfl
end
/-- the rows that a formatter holds -/
noncomputable def PgV (w : World) (n : Int) (rows : List (List Nat)) (junk : List (Addr × Obj)) (pfd ln ac acd : Addr) (tl : List (Addr × Obj)) : Prop :=
  ∃ (kt : Nat → Tok) (width : Int) (ls : Array Value) (nl : Nat) (items : Array Value) (ep : Nat) (dk it : Tok) (ini : Int) (lines bs : List Str), tl = [(pfd, pfD w.params kt width ln ac), (ln, listOf ls nl), (ac, accObj acd items ep), (acd, accD w.params dk (.int ini it))] ∧ (0 ≤ ini ∧ ini ≤ 1000) ∧ StrsAre ls.toList lines ∧
    Tups junk items.toList (spaced bs) ∧ (∀ b ∈ bs, WordOk b) ∧ bs.length ≤ 40 ∧ (lines.map (·.length)).sum + lines.length ≤ 1000000 ∧ flushedL lines bs ini = rows.map fun R => rowTxt (R.map (tokS n))
theorem pg_of {w : World} {n width head : Int} {junk : List (Addr × Obj)} {pfd ln ac acd : Addr} {kt : Nat → Tok} {ls items : Array Value} {nl ep : Nat} {dk it : Tok} (h1 : -2 ^ 34 ≤ n) (h2 : n < 2 ^ 34) (h0 : 0 ≤ head) (h9 : head < 16)
    (hS : StrsAre ls.toList (((toksS n).foldl (layStep width) ([], [], head)).1.map rowTxt)) (hT : Tups junk items.toList (spaced ((toksS n).foldl (layStep width) ([], [], head)).2.1)) :
    PgV w n (rowsP n width head) junk pfd ln ac acd [(pfd, pfD w.params kt width ln ac), (ln, listOf ls nl), (ac, accObj acd items ep), (acd, accD w.params dk (.int ((toksS n).foldl (layStep width) ([], [], head)).2.2 it))] := by
  have hf := page_flush (width := width) (head := head) h1 h2 rfl
  obtain ⟨a, _, d⟩ := lay_facts (width := width) (toksS n) ([], [], head)
  have hr := rowsP_rows (n := n) (width := width) (head := head)
  have hw := page_weight h1 h2 hr
  have hl := hr.len.2
  have hq := page_rows (width := width) (head := head) h1 h2
  generalize (toksS n).foldl (layStep width) ([], [], head) = st at *
  have hsub : ∀ b ∈ st.2.1, b ∈ toksS n := fun b hb => by
    have : b ∈ st.1.flatten ++ st.2.1 := List.mem_append_right _ hb
    rw [a] at this
    simpa using this
  have hlen : st.2.1.length ≤ (toksS n).length := by
    have := congrArg List.length a
    simp only [List.length_append, List.flatten_nil, List.length_nil] at this
    omega
  have htok : (toksS n).length ≤ 33 := by
    unfold toksS
    rw [List.length_map]
    exact places_len n
  refine ⟨kt, width, ls, nl, items, ep, dk, it, st.2.2, _, st.2.1, rfl, ?_, hS, hT, fun b hb => ?_, by omega, ?_, hf⟩
  · have d : st.2.2 = head ∨ st.2.2 = 0 := d
    omega
  · obtain ⟨p, hp, rfl⟩ := List.mem_map.mp (hsub b hb)
    exact tok_ok h1 h2 hp
  · have e1 : (rowsP n width head).map (fun R => rowTxt (R.map (tokS n))) = (st.1 ++ [st.2.1]).map rowTxt := by
      rw [hq, List.map_map]
      rfl
    have e2 := congrArg List.length hq
    rw [List.length_append, List.length_map] at e2
    rw [e1, List.map_append, List.map_append, List.sum_append] at hw
    rw [List.length_map]
    simp only [List.length_singleton] at e2
    omega
theorem words_len {n : Int} (h1 : -2 ^ 34 ≤ n) (h2 : n < 2 ^ 34) : (Txt.join ", " (flagWords n)).length ≤ 4000 := by
  have r : Rows n (rowsP n 4 0) := rowsP_rows
  have := page_len h1 h2 r (sep := "") (by decide)
  rw [page_words r] at this
  have e : ((" " : Str) ++ Txt.join ", " (flagWords n)).length = 1 + (Txt.join ", " (flagWords n)).length := by
    rw [length_list, length_list, show ((" " : Str) ++ Txt.join ", " (flagWords n)).cps.toList = 32 :: (Txt.join ", " (flagWords n)).cps.toList from Array.toList_append]
    simp [Nat.add_comm]
  omega
set_option maxHeartbeats 4000000
section
variable {w : World} {A : Around} {E : Value → Shared → Prop} {s : Shared} {L pf pfd ln ac acd : Addr} {h₀ : Heap} {m mg mb : Str → Option Value} {loose : List Str} {news r6 rest tl junk : List (Addr × Obj)} {Q : Value → Shared → Prop} {ps ps2 : Array Value} {n width head : Int} {rows : List (List Nat)} {sep : Str} {t1 t2 t3 : Tok}
theorem pg_call (F : Fr h₀ L s.heap m) (X : (hd.heap_1 w.params).In h₀) (N₀ : News h₀ L s.heap news) (T : TopRead hd.view_1 loose mg mb h₀) (G : AllBare s.gens) (M : Mod mg h₀)
    (P6 : Pull ((155 : Nat), tabObj ps) news r6) (P7 : Pull ((162 : Nat), tabObj ps2) r6 rest) (ht : TriplesOk ps.toList) (ht2 : TriplesOk ps2.toList) (h1 : -2 ^ 34 ≤ n) (h2 : n < 2 ^ 34)
    (h0 : 0 ≤ head) (h9 : head < 16) (hoff : Off [(155 : Nat), (162 : Nat)] rest) (hroom : A.depth < 920) (hh : A.handled = none) (hu : A.units < 6000)
    (h : ∀ h' gs tk pf pfd ln ac acd ps' ps2' tl junk, Fr h₀ L h' m → News h₀ L h' ((pf, instObj 109 pfd) :: (tl ++ ((155 : Nat), tabObj ps') :: ((162 : Nat), tabObj ps2') :: (junk ++ rest))) → PgV w n (rowsP n width head) junk pfd ln ac acd tl →
      Dis [pf, pfd, ln, ac, acd, (155 : Nat), (162 : Nat)] → (∀ a ∈ [pf, pfd, ln, ac, acd], Above news a) → (∀ p ∈ junk, Above news p.1 ∧ ∀ a ∈ [pf, pfd, ln, ac, acd], @LT.lt Nat _ a p.1) →
      TriplesOk ps'.toList → TriplesOk ps2'.toList → AllBare gs → Q (.ref pf) { s with heap := h', gens := gs, toks := tk }) :
    wpAny (model PySem.Challenge.rw_ty0040_01.row.prog w) A (call (.ref 204) [.str (Txt.join ", " (flagWords n)) t1, .int width t2, .int head t3] []) Q E s := by
  have hlen : (toksS n).length ≤ 33 := by
    unfold toksS
    rw [List.length_map]
    exact places_len n
  refine page_call F X N₀ T G M P6 P7 ht ht2 h0 (by omega) (words_split h1 h2) (fun b hb => ?_) (by omega) (words_len h1 h2) hoff hroom hh hu ?_
  · obtain ⟨p, hp, rfl⟩ := List.mem_map.mp hb
    exact tok_ok h1 h2 hp
  intro h' gs tk pf pfd ln ac acd ls nl items ep dk it ps' ps2' kt junk F1 N1 hS hT hd a1 a2 a3 a4 a5 hj ht1 ht3 hg
  refine h h' gs tk pf pfd ln ac acd ps' ps2' _ junk F1 N1 (pg_of h1 h2 h0 h9 hS hT) hd ?_ (fun p hp => ?_) ht1 ht3 hg
  · intro a ha
    simp only [List.mem_cons, List.not_mem_nil, or_false] at ha
    rcases ha with rfl | rfl | rfl | rfl | rfl <;> assumption
  · obtain ⟨b0, b1, b2, b3, b4, b5⟩ := hj p hp
    refine ⟨b0, fun a ha => ?_⟩
    simp only [List.mem_cons, List.not_mem_nil, or_false] at ha
    rcases ha with rfl | rfl | rfl | rfl | rfl <;> assumption
theorem str_pg (F : Fr h₀ L s.heap m) (X : (hd.heap_1 w.params).In h₀) (N₀ : News h₀ L s.heap ((pf, instObj 109 pfd) :: (tl ++ ((155 : Nat), tabObj ps) :: ((162 : Nat), tabObj ps2) :: rest))) (T : TopRead hd.view_1 loose mg mb h₀) (G : AllBare s.gens) (M : Mod mg h₀)
    (hP : PgV w n rows junk pfd ln ac acd tl) (hj : ∀ p ∈ junk, p ∈ rest) (ht : TriplesOk ps.toList) (ht2 : TriplesOk ps2.toList) (h1 : -2 ^ 34 ≤ n) (h2 : n < 2 ^ 34) (r : Rows n rows) (hsep : sep.length ≤ 3)
    (hD : Dis [pf, pfd, ln, ac, acd, (155 : Nat), (162 : Nat)]) (hoff : Off [pf, pfd, ln, ac, acd, (155 : Nat), (162 : Nat)] rest) (hroom : A.depth < 940) (hh : A.handled = none) (hu : A.units < 7000)
    (h : ∀ h' gs tk ps' ps2' tl' t5, Fr h₀ L h' m → News h₀ L h' ((pf, instObj 109 pfd) :: (tl' ++ ((155 : Nat), tabObj ps') :: ((162 : Nat), tabObj ps2') :: rest)) → PgV w n rows [] pfd ln ac acd tl' → TriplesOk ps'.toList → TriplesOk ps2'.toList → AllBare gs →
      Q (.str (pageTxt sep n rows) t5) { s with heap := h', gens := gs, toks := tk }) :
    wpAny (model PySem.Challenge.rw_ty0040_01.row.prog w) A (call (.ref 57) [.ref pf, .str sep t1] []) Q E s := by
  obtain ⟨kt, width, ls, nl, items, ep, dk, it, ini, lines, bs, rfl, ⟨i0, i9⟩, hS, hT, hw, hl, hwt, hf⟩ := hP
  simp only [List.cons_append, List.nil_append] at N₀
  refine str_page F X N₀ T G M .head .head .head .head .head .head .head ht ht2 i0 i9 hS hwt (hT.sub hj) hw hl (by omega) hD hoff hroom hh hu ?_
  intro h' gs tk ep' dk' it' ps' ps2' nl' ls' t5 F1 N1 hS1 ht1 ht3 hg
  rw [hf] at hS1 ⊢
  have hwt2 := page_weight h1 h2 r
  have hrl := r.len.2
  refine h h' gs tk ps' ps2' _ t5 F1 N1 ⟨kt, width, ls', nl', #[], ep', dk', it', 0, _, [], rfl, ⟨by decide, by decide⟩, hS1, ?_, (fun _ h => nomatch h), by decide, ?_, ?_⟩ ht1 ht3 hg
  · exact .nil
  · rw [List.length_map]
    omega
  · unfold flushedL
    rw [if_pos ⟨rfl, rfl⟩]
end

theorem pg_addrs {w : World} {n : Int} {rows : List (List Nat)} {junk : List (Addr × Obj)} {pfd ln ac acd : Addr} {tl : List (Addr × Obj)} (h : PgV w n rows junk pfd ln ac acd tl) : ∃ o1 o2 o3 o4, tl = [(pfd, o1), (ln, o2), (ac, o3), (acd, o4)] := by
  obtain ⟨_, _, _, _, _, _, _, _, _, _, _, rfl, _⟩ := h
  exact ⟨_, _, _, _, rfl⟩
theorem Off.app {as : List Addr} {l l' : List (Addr × Obj)} (h : Off as l) (h' : Off as l') : Off as (l ++ l') := fun p hp => (List.mem_append.mp hp).elim (h p) (h' p)
/-- two pages and the rest of the ledger -/
structure Lay2 (as1 as2 : List Addr) (fix : List (Addr × Obj)) : Prop where
  e1 : Off (as1 ++ [(155 : Nat), (162 : Nat)]) fix
  e2 : Off (as2 ++ [(155 : Nat), (162 : Nat)]) fix
  cross : ∀ a ∈ as1, ∀ b ∈ as2, @LT.lt Nat _ a b
  d1 : Dis (as1 ++ [(155 : Nat), (162 : Nat)])
  d2 : Dis (as2 ++ [(155 : Nat), (162 : Nat)])
theorem AllNe.ne {x a : Addr} : ∀ {as : List Addr}, AllNe x as → a ∈ as → x ≠ a := fun h m e => h.not (e ▸ m)
theorem dis_tab : ∀ {as : List Addr}, Dis (as ++ [(155 : Nat), (162 : Nat)]) → ∀ a ∈ as, a ≠ (155 : Nat) ∧ a ≠ (162 : Nat)
  | [], _, _, h => nomatch h
  | x :: as, h, a, ha => by
    rcases List.mem_cons.mp ha with rfl | ha
    · exact ⟨h.1.ne (List.mem_append_right _ (.head _)), h.1.ne (List.mem_append_right _ (.tail _ (.head _)))⟩
    · exact dis_tab h.2 a ha
theorem off_of {as : List Addr} {l : List (Addr × Obj)} (h1 : ∀ p ∈ l, ∀ a ∈ as, @Ne Nat p.1 a) (h2 : Off [(155 : Nat), (162 : Nat)] l) : Off (as ++ [(155 : Nat), (162 : Nat)]) l := fun p hp hm =>
  (List.mem_append.mp hm).elim (fun m => h1 p hp _ m rfl) (h2 p hp)
section
variable {w : World} {n n2 : Int} {rows rows2 : List (List Nat)} {jk1 jk2 tl1 tl2 fix news : List (Addr × Obj)} {pf pfd ln ac acd pf2 pfd2 ln2 ac2 acd2 : Addr} {i i2 x y z : Obj}
theorem pg_mem (hP : PgV w n rows jk1 pfd ln ac acd tl1) (p : Addr × Obj) (hp : p ∈ (pf, i) :: tl1) : p.1 ∈ [pf, pfd, ln, ac, acd] := by
  obtain ⟨o1, o2, o3, o4, rfl⟩ := pg_addrs hP
  simp only [List.mem_cons, List.not_mem_nil, or_false] at hp ⊢
  rcases hp with rfl | rfl | rfl | rfl | rfl <;> simp
theorem pg_mem2 (hP : PgV w n rows jk1 pfd ln ac acd tl1) {a : Addr} (ha : a ∈ [pf, pfd, ln, ac, acd]) : ∃ o, (a, o) ∈ (pf, i) :: tl1 := by
  obtain ⟨o1, o2, o3, o4, rfl⟩ := pg_addrs hP
  simp only [List.mem_cons, List.not_mem_nil, or_false] at ha
  rcases ha with rfl | rfl | rfl | rfl | rfl
  · exact ⟨_, .head _⟩
  · exact ⟨_, .tail _ (.head _)⟩
  · exact ⟨_, .tail _ (.tail _ (.head _))⟩
  · exact ⟨_, .tail _ (.tail _ (.tail _ (.head _)))⟩
  · exact ⟨_, .tail _ (.tail _ (.tail _ (.tail _ (.head _))))⟩
/-- the tables lie off a page and its junk -/
theorem off_pg (hP : PgV w n rows jk1 pfd ln ac acd tl1) (hD : Dis [pf, pfd, ln, ac, acd, (155 : Nat), (162 : Nat)]) (hj : ∀ p ∈ jk1, Above (((155 : Nat), x) :: ((162 : Nat), y) :: fix) p.1) (hf : Off [(155 : Nat), (162 : Nat)] fix) :
    Off [(155 : Nat), (162 : Nat)] ((pf, i) :: (tl1 ++ (jk1 ++ fix))) := fun p hp hm => by
  rw [← List.cons_append] at hp
  rcases List.mem_append.mp hp with hp | hp
  · obtain ⟨a, b⟩ := dis_tab (as := [pf, pfd, ln, ac, acd]) hD _ (pg_mem hP p hp)
    simp only [List.mem_cons, List.not_mem_nil, or_false] at hm
    exact hm.elim a b
  · rcases List.mem_append.mp hp with hp | hp
    · have a := hj p hp _ (.head _)
      have b := hj p hp _ (.tail _ (.head _))
      simp only [List.mem_cons, List.not_mem_nil, or_false] at hm
      exact hm.elim (Nat.ne_of_gt a) (Nat.ne_of_gt b)
    · exact hf p hp hm
theorem lay2_mk (hP1 : PgV w n rows jk1 pfd ln ac acd tl1) (hD1 : Dis [pf, pfd, ln, ac, acd, (155 : Nat), (162 : Nat)]) (ha1 : ∀ a ∈ [pf, pfd, ln, ac, acd], Above (((155 : Nat), x) :: ((162 : Nat), y) :: fix) a)
    (hj1 : ∀ p ∈ jk1, Above (((155 : Nat), x) :: ((162 : Nat), y) :: fix) p.1 ∧ ∀ a ∈ [pf, pfd, ln, ac, acd], @LT.lt Nat _ a p.1) (hf : Off [(155 : Nat), (162 : Nat)] fix)
    (hD2 : Dis [pf2, pfd2, ln2, ac2, acd2, (155 : Nat), (162 : Nat)]) (hs : ∀ p ∈ ((155 : Nat), i) :: ((162 : Nat), i2) :: (pf, z) :: (tl1 ++ (jk1 ++ fix)), p ∈ news) (ha2 : ∀ a ∈ [pf2, pfd2, ln2, ac2, acd2], Above news a)
    (hj2 : ∀ p ∈ jk2, Above news p.1 ∧ ∀ a ∈ [pf2, pfd2, ln2, ac2, acd2], @LT.lt Nat _ a p.1) : Lay2 [pf, pfd, ln, ac, acd] [pf2, pfd2, ln2, ac2, acd2] (jk2 ++ (jk1 ++ fix)) := by
  have inN : ∀ {a : Addr}, a ∈ [pf, pfd, ln, ac, acd] → ∃ o, (a, o) ∈ news := fun ha => by
    obtain ⟨o, ho⟩ := pg_mem2 (i := z) hP1 ha
    refine ⟨o, hs _ (.tail _ (.tail _ ?_))⟩
    rw [← List.cons_append]
    exact List.mem_append_left _ ho
  have n155 : ((155 : Nat), i) ∈ news := hs _ (.head _)
  have n162 : ((162 : Nat), i2) ∈ news := hs _ (.tail _ (.head _))
  have t1 : Off [(155 : Nat), (162 : Nat)] (jk1 ++ fix) := fun p hp hm => by
    rcases List.mem_append.mp hp with hp | hp
    · have a := (hj1 p hp).1 _ (.head _)
      have b := (hj1 p hp).1 _ (.tail _ (.head _))
      simp only [List.mem_cons, List.not_mem_nil, or_false] at hm
      exact hm.elim (Nat.ne_of_gt a) (Nat.ne_of_gt b)
    · exact hf p hp hm
  have t2 : Off [(155 : Nat), (162 : Nat)] jk2 := fun p hp hm => by
    have a := (hj2 p hp).1 _ n155
    have b := (hj2 p hp).1 _ n162
    simp only [List.mem_cons, List.not_mem_nil, or_false] at hm
    exact hm.elim (Nat.ne_of_gt a) (Nat.ne_of_gt b)
  refine ⟨off_of (fun p hp a ha => ?_) (t2.app t1), off_of (fun p hp a ha => ?_) (t2.app t1), fun a ha b hb => ?_, hD1, hD2⟩
  · rcases List.mem_append.mp hp with hp | hp
    · obtain ⟨o, ho⟩ := inN ha
      exact Nat.ne_of_gt ((hj2 p hp).1 _ ho)
    · rcases List.mem_append.mp hp with hp | hp
      · exact Nat.ne_of_gt ((hj1 p hp).2 a ha)
      · exact Nat.ne_of_lt (ha1 a ha p (.tail _ (.tail _ hp)))
  · rcases List.mem_append.mp hp with hp | hp
    · exact Nat.ne_of_gt ((hj2 p hp).2 a ha)
    · exact Nat.ne_of_lt (ha2 a ha p (hs p (.tail _ (.tail _ (.tail _ (List.mem_append_right _ hp))))))
  · obtain ⟨o, ho⟩ := inN ha
    exact ha2 b hb _ ho
/-- the ledger of the law -/
noncomputable abbrev led2 (pf pf2 : Addr) (i i2 x y : Obj) (tl1 tl2 fix : List (Addr × Obj)) : List (Addr × Obj) := (pf, i) :: (pf2, i2) :: ((155 : Nat), x) :: ((162 : Nat), y) :: (tl1 ++ (tl2 ++ fix))
theorem lay2_more {Dc : Addr} {o : Obj} {jc : List (Addr × Obj)} (hL : Lay2 [pf, pfd, ln, ac, acd] [pf2, pfd2, ln2, ac2, acd2] fix) (hP1 : PgV w n rows jk1 pfd ln ac acd tl1) (hP2 : PgV w n2 rows2 jk2 pfd2 ln2 ac2 acd2 tl2)
    (h1 : ∀ p ∈ led2 pf pf2 i i2 x y tl1 tl2 fix, @LT.lt Nat _ p.1 Dc) (h2 : ∀ p ∈ jc, @LT.lt Nat _ Dc p.1) : Lay2 [pf, pfd, ln, ac, acd] [pf2, pfd2, ln2, ac2, acd2] ((Dc, o) :: (jc ++ fix)) := by
  have up : ∀ q ∈ (Dc, o) :: jc, ∀ b : Addr, @LT.lt Nat _ b Dc → @Ne Nat q.1 b := fun q hq b hb => by
    rcases List.mem_cons.mp hq with rfl | hq
    · exact Nat.ne_of_gt hb
    · exact Nat.ne_of_gt (Nat.lt_trans hb (h2 q hq))
  have a1 : ∀ a ∈ [pf, pfd, ln, ac, acd], @LT.lt Nat _ a Dc := fun a ha => by
    obtain ⟨q, hq⟩ := pg_mem2 (i := i) hP1 ha
    refine h1 (a, q) ?_
    rcases List.mem_cons.mp hq with e | hq
    · rw [e]; exact .head _
    · exact .tail _ (.tail _ (.tail _ (.tail _ (List.mem_append_left _ hq))))
  have a2 : ∀ a ∈ [pf2, pfd2, ln2, ac2, acd2], @LT.lt Nat _ a Dc := fun a ha => by
    obtain ⟨q, hq⟩ := pg_mem2 (i := i2) hP2 ha
    refine h1 (a, q) ?_
    rcases List.mem_cons.mp hq with e | hq
    · rw [e]; exact .tail _ (.head _)
    · exact .tail _ (.tail _ (.tail _ (.tail _ (List.mem_append_right _ (List.mem_append_left _ hq)))))
  have t : Off [(155 : Nat), (162 : Nat)] ((Dc, o) :: jc) := fun p hp hm => by
    simp only [List.mem_cons, List.not_mem_nil, or_false] at hm
    exact hm.elim (up p hp _ (h1 _ (.tail _ (.tail _ (.head _))))) (up p hp _ (h1 _ (.tail _ (.tail _ (.tail _ (.head _))))))
  refine ⟨?_, ?_, hL.cross, hL.d1, hL.d2⟩
  · exact Off.app (l := (Dc, o) :: jc) (off_of (fun p hp a ha => up p hp a (a1 a ha)) t) hL.e1
  · exact Off.app (l := (Dc, o) :: jc) (off_of (fun p hp a ha => up p hp a (a2 a ha)) t) hL.e2
end
set_option maxHeartbeats 4000000
section
variable {w : World} {A : Around} {E : Value → Shared → Prop} {s : Shared} {L : Addr} {h₀ : Heap} {m mg mb : Str → Option Value} {loose : List Str} {Q : Value → Shared → Prop} {ps ps2 : Array Value} {sep : Str} {t1 : Tok} {n n2 : Int} {rows rows2 : List (List Nat)} {jk1 jk2 tl1 tl2 fix : List (Addr × Obj)} {pf pfd ln ac acd pf2 pfd2 ln2 ac2 acd2 : Addr}
theorem str_one (F : Fr h₀ L s.heap m) (X : (hd.heap_1 w.params).In h₀) (N : News h₀ L s.heap (led2 pf pf2 (instObj 109 pfd) (instObj 109 pfd2) (tabObj ps) (tabObj ps2) tl1 tl2 fix)) (T : TopRead hd.view_1 loose mg mb h₀) (G : AllBare s.gens) (M : Mod mg h₀)
    (hL : Lay2 [pf, pfd, ln, ac, acd] [pf2, pfd2, ln2, ac2, acd2] fix) (hP1 : PgV w n rows jk1 pfd ln ac acd tl1) (hP2 : PgV w n2 rows2 jk2 pfd2 ln2 ac2 acd2 tl2) (hj : ∀ p ∈ jk1, p ∈ fix) (ht : TriplesOk ps.toList) (ht2 : TriplesOk ps2.toList) (h1 : -2 ^ 34 ≤ n) (h2 : n < 2 ^ 34) (r : Rows n rows) (hsep : sep.length ≤ 3)
    (hroom : A.depth < 940) (hh : A.handled = none) (hu : A.units < 7000)
    (h : ∀ h' gs tk ps' ps2' tl' t5, Fr h₀ L h' m → News h₀ L h' (led2 pf pf2 (instObj 109 pfd) (instObj 109 pfd2) (tabObj ps') (tabObj ps2') tl' tl2 fix) → PgV w n rows [] pfd ln ac acd tl' → TriplesOk ps'.toList → TriplesOk ps2'.toList → AllBare gs →
      Q (.str (pageTxt sep n rows) t5) { s with heap := h', gens := gs, toks := tk }) :
    wpAny (model PySem.Challenge.rw_ty0040_01.row.prog w) A (call (.ref 57) [.ref pf, .str sep t1] []) Q E s := by
  refine str_pg (rest := (pf2, instObj 109 pfd2) :: (tl2 ++ fix)) F X (newsSub N fun p hp => ?_) T G M hP1 (fun p hp => .tail _ (List.mem_append_right _ (hj p hp))) ht ht2 h1 h2 r hsep hL.d1 ?_ hroom hh hu ?_
  · simp only [led2, List.mem_cons, List.mem_append] at hp ⊢
    rcases hp with h | h | h | h | h | h | h <;> simp [h]
  · rw [← List.cons_append]
    refine Off.app (fun p hp hm => ?_) hL.e1
    have q := pg_mem hP2 p hp
    rcases List.mem_append.mp (show p.1 ∈ [pf, pfd, ln, ac, acd] ++ [(155 : Nat), (162 : Nat)] from hm) with hm | hm
    · exact Nat.lt_irrefl _ (hL.cross _ hm _ q)
    · obtain ⟨a, b⟩ := dis_tab hL.d2 _ q
      simp only [List.mem_cons, List.not_mem_nil, or_false] at hm
      exact hm.elim a b
  · intro h' gs tk ps' ps2' tl' t5 F1 N1 hP' ht1 ht3 hg
    refine h h' gs tk ps' ps2' tl' t5 F1 (newsSub N1 fun p hp => ?_) hP' ht1 ht3 hg
    simp only [led2, List.mem_cons, List.mem_append] at hp ⊢
    rcases hp with h | h | h | h | h | h | h <;> simp [h]
theorem str_two (F : Fr h₀ L s.heap m) (X : (hd.heap_1 w.params).In h₀) (N : News h₀ L s.heap (led2 pf pf2 (instObj 109 pfd) (instObj 109 pfd2) (tabObj ps) (tabObj ps2) tl1 tl2 fix)) (T : TopRead hd.view_1 loose mg mb h₀) (G : AllBare s.gens) (M : Mod mg h₀)
    (hL : Lay2 [pf, pfd, ln, ac, acd] [pf2, pfd2, ln2, ac2, acd2] fix) (hP1 : PgV w n rows jk1 pfd ln ac acd tl1) (hP2 : PgV w n2 rows2 jk2 pfd2 ln2 ac2 acd2 tl2) (hj : ∀ p ∈ jk2, p ∈ fix) (ht : TriplesOk ps.toList) (ht2 : TriplesOk ps2.toList) (h1 : -2 ^ 34 ≤ n2) (h2 : n2 < 2 ^ 34) (r : Rows n2 rows2) (hsep : sep.length ≤ 3)
    (hroom : A.depth < 940) (hh : A.handled = none) (hu : A.units < 7000)
    (h : ∀ h' gs tk ps' ps2' tl' t5, Fr h₀ L h' m → News h₀ L h' (led2 pf pf2 (instObj 109 pfd) (instObj 109 pfd2) (tabObj ps') (tabObj ps2') tl1 tl' fix) → PgV w n2 rows2 [] pfd2 ln2 ac2 acd2 tl' → TriplesOk ps'.toList → TriplesOk ps2'.toList → AllBare gs →
      Q (.str (pageTxt sep n2 rows2) t5) { s with heap := h', gens := gs, toks := tk }) :
    wpAny (model PySem.Challenge.rw_ty0040_01.row.prog w) A (call (.ref 57) [.ref pf2, .str sep t1] []) Q E s := by
  refine str_pg (rest := (pf, instObj 109 pfd) :: (tl1 ++ fix)) F X (newsSub N fun p hp => ?_) T G M hP2 (fun p hp => .tail _ (List.mem_append_right _ (hj p hp))) ht ht2 h1 h2 r hsep hL.d2 ?_ hroom hh hu ?_
  · simp only [led2, List.mem_cons, List.mem_append] at hp ⊢
    rcases hp with h | h | h | h | h | h | h <;> simp [h]
  · rw [← List.cons_append]
    refine Off.app (fun p hp hm => ?_) hL.e2
    have q := pg_mem hP1 p hp
    rcases List.mem_append.mp (show p.1 ∈ [pf2, pfd2, ln2, ac2, acd2] ++ [(155 : Nat), (162 : Nat)] from hm) with hm | hm
    · exact Nat.lt_irrefl _ (hL.cross _ q _ hm)
    · obtain ⟨a, b⟩ := dis_tab hL.d1 _ q
      simp only [List.mem_cons, List.not_mem_nil, or_false] at hm
      exact hm.elim a b
  · intro h' gs tk ps' ps2' tl' t5 F1 N1 hP' ht1 ht3 hg
    refine h h' gs tk ps' ps2' tl' t5 F1 (newsSub N1 fun p hp => ?_) hP' ht1 ht3 hg
    simp only [led2, List.mem_cons, List.mem_append] at hp ⊢
    rcases hp with h | h | h | h | h | h | h <;> simp [h]
end

theorem pow_ne (k : Nat) : (100 : Int) ^ k ≠ 0 := Int.ne_of_gt (Int.pow_pos (by decide))
theorem ints_at : ∀ {vs : List Value} {ns : List Int} {i : Nat} {v : Value}, IntsAre vs ns → vs[i]? = some v → ∃ n t, v = .int n t ∧ n ∈ ns
  | _, _, i, v, .nil, h => by simp at h
  | _, _, 0, v, .cons n t _, h => ⟨n, t, by simpa using h.symm, .head _⟩
  | _, _, i + 1, v, .cons n t r, h => let ⟨n, t, e, m⟩ := ints_at (i := i) r (by simpa using h); ⟨n, t, e, .tail _ m⟩
theorem fmod_mem {g : Int → Int} {ks : List Int} {n : Int} (h : n ∈ List.map (fun k => (g k).fmod 50) ks) : 0 ≤ n ∧ n < 50 := by
  obtain ⟨k, _, rfl⟩ := List.mem_map.mp h
  exact ⟨Int.fmod_nonneg_of_pos _ (by decide), Int.fmod_lt_of_pos _ (by decide)⟩
theorem bit_pow {p j : Nat} (h : p < j) : hasBit (2 ^ p) j = false := by
  unfold hasBit
  rw [Int.ediv_eq_zero_of_lt (Int.pow_nonneg (by decide)) (Int.pow_lt_pow_of_lt (by decide) h)]
  rfl
theorem xor_range {n : Int} {p : Nat} (h1 : -2 ^ 34 ≤ n) (h2 : n < 2 ^ 34) (hp : p < 34) : -2 ^ 34 ≤ Builtin.bitXor n (2 ^ p) ∧ Builtin.bitXor n (2 ^ p) < 2 ^ 34 := by
  have e : Builtin.bitXor n (2 ^ p) / 2 ^ 34 = n / 2 ^ 34 := by
    refine eq_of_bits fun j => ?_
    have q : ∀ x : Int, hasBit (x / 2 ^ 34) j = hasBit x (j + 34) := fun x => by
      unfold hasBit
      rw [Int.ediv_ediv_of_nonneg (by decide), ← Int.pow_add, Nat.add_comm 34 j]
    rw [q, q, hb_xor, bit_pow (by omega), Bool.bne_false]
  omega
section
variable {prog : Program} {w : World} {A : Around} {x : Str} {px : Pos} {body orelse : List Stmt} {env : Env} {Q : Flow → Shared → Prop} {s : Shared} {h₀ : Heap} {m : Str → Option Value} {news : List (Addr × Obj)}
theorem int_loop {D : Addr} {its : List Value} {ns : List Int} (hh : A.handled = none) (hx : env.kindOf x = some .local) (hp : (env.scope.kind == .class || (env.scope.kind == .module && env.locals != env.globals)) = false)
    (F : Fr h₀ env.locals s.heap m) (N : News h₀ env.locals s.heap ((D, listOf its.toArray 0) :: news)) (hI : IntsAre its ns) (hG : AllBare s.gens) (K : (Str → Option Value) → Prop) (h0 : K m)
    (turn : ∀ p t m₁ h₁ gs tk I o o2, p ∈ ns → K m₁ → AllBare gs → (∀ p ∈ news, @Ne Nat p.1 I) → Fr h₀ env.locals h₁ (fun y => if y = x then some (.int p t) else m₁ y) → News h₀ env.locals h₁ ((I, o) :: (D, o2) :: news) →
      wpAny (model prog w) A (execs body env) (StepG h₀ env.locals [I] [(I, o), (D, o2)] (fun m₂ nx gs => K m₂ ∧ nx = news ∧ AllBare gs) s Q) NoErr { s with heap := h₁, gens := gs, toks := tk })
    (done : ∀ h' gs tk m', Fr h₀ env.locals h' m' → News h₀ env.locals h' news → K m' → AllBare gs → wpAny (model prog w) A (execs orelse env) Q NoErr { s with heap := h', gens := gs, toks := tk }) :
    wpAny (model prog w) A (pyIter (.ref D)) (fun it s₂ => codeAny (model prog w) A (.forLoop (.Name x px) it body orelse env) (fun r s' => match r with | .ok f => Q f s' | .error e => cameBackBy (model prog w) A env NoErr e s') s₂) NoErr s := by
  refine list_loop hh hx hp F N rfl rfl (fun _ m₂ nx gs => K m₂ ∧ nx = news ∧ AllBare gs) ⟨h0, rfl, hG⟩ ?_ ?_
  · rintro i v m₁ nx h₁ gs tk I o o2 hv ⟨hK, rfl, hg⟩ hn _ _ F1 N1
    obtain ⟨p, t, rfl, hp⟩ := ints_at hI (by simpa using hv)
    exact turn p t m₁ h₁ gs tk I o o2 hp hK hg hn F1 N1
  · rintro h' gs tk m' nx F1 N1 ⟨hK, rfl, hg⟩
    exact done h' gs tk m' F1 N1 hK hg
end
theorem map2 {m : Str → Option Value} {n1 n2 : Str} {v1 v2 : Value} (e1 : m n1 = some v1) (e2 : m n2 = some v2) : ∃ mm : Str → Option Value, m = fun z => if z = n1 then some v1 else if z = n2 then some v2 else mm z := by
  refine ⟨m, funext fun z => ?_⟩
  by_cases y1 : z = n1
  · rw [if_pos y1, y1, e1]
  rw [if_neg y1]
  by_cases y2 : z = n2
  · rw [if_pos y2, y2, e2]
  rw [if_neg y2]
theorem map3 {m : Str → Option Value} {n1 n2 n3 : Str} {v1 v2 v3 : Value} (e1 : m n1 = some v1) (e2 : m n2 = some v2) (e3 : m n3 = some v3) : ∃ mm : Str → Option Value, m = fun z => if z = n1 then some v1 else if z = n2 then some v2 else if z = n3 then some v3 else mm z := by
  obtain ⟨mm, e⟩ := map2 e2 e3
  refine ⟨mm, funext fun z => ?_⟩
  by_cases y1 : z = n1
  · rw [if_pos y1, y1, e1]
  rw [if_neg y1, ← congrFun e z]
theorem at_ifexp {M : Model} {A : Around} {E : Value → Shared → Prop} {s : Shared} {ts : List Expr} {a b c : Expr} {p q : Pos} {env : Env} {Q : Flow → Shared → Prop} (h : wpAny M A (exec (.Assign ts (.IfExp a b c q) p) env) Q E s) : wpAny M A (exec (.Assign ts (.IfExp a b c q) p) env) Q E s := h
theorem no_pyl (y : Int) {k : Nat} (h : k ≤ 14) : Builtin.divisionGoesByPylong y ((100 : Int) ^ k) = false := PyProof.noPylong_of_log2 (by
  have e : ((100 : Int) ^ k).natAbs = 100 ^ k := by rw [Int.natAbs_pow]; rfl
  rw [e, Nat.log2_lt (Nat.ne_of_gt (Nat.pow_pos (by decide)))]
  exact Nat.lt_of_le_of_lt (Nat.pow_le_pow_right (by decide) h) (by decide +kernel))
theorem cut_num {M : Model} {A : Around} {E : Value → Shared → Prop} {s : Shared} {t : Sem Flow} {Q : Flow → Shared → Prop} {h₀ : Heap} {L D : Addr} {m : Str → Option Value} {rest : List (Addr × Obj)}
    (_F : Fr h₀ L s.heap (fun z => if z = ("parts" : Str) then some (.ref D) else m z)) (_N : News h₀ L s.heap rest)
    (h1 : wpAny M A t (CutEndM s h₀ L (fun h' m' => News h₀ L h' rest ∧ ∃ n t, (-2 ^ 34 ≤ n ∧ n < 2 ^ 34) ∧ m' = fun z => if z = ("number" : Str) then some (.int n t) else if z = ("parts" : Str) then some (.ref D) else m z)) E s)
    (h2 : ∀ h' tk (n : Int) t, -2 ^ 34 ≤ n → n < 2 ^ 34 → Fr h₀ L h' (fun z => if z = ("number" : Str) then some (.int n t) else if z = ("parts" : Str) then some (.ref D) else m z) → News h₀ L h' rest → Q .next { s with heap := h', toks := tk }) : wpAny M A t Q E s :=
  cut_ifM h₀ L _ h1 fun h' tk m' F k => by
    obtain ⟨N, n, t, hr, rfl⟩ := k
    exact h2 h' tk n t hr.1 hr.2 F N
theorem fr_any {h₀ h : Heap} {L : Addr} {m : Str → Option Value} (F : Fr h₀ L h m) : ∃ mb : Str → Option Value, Fr h₀ L h mb := ⟨m, F⟩
theorem step_end {h₀ h : Heap} {L : Addr} {wr : Addr} {own nx : List (Addr × Obj)} {Jn : (Str → Option Value) → List (Addr × Obj) → Array GenState → Prop} {s : Shared} {Q : Flow → Shared → Prop} {m₂ : Str → Option Value} {gs : Array GenState} {tk : Nat}
    (F : Fr h₀ L h m₂) (N : News h₀ L h (own ++ nx)) (off : ∀ p ∈ nx, @Ne Nat p.1 wr) (j : Jn m₂ nx gs) : StepG h₀ L [wr] own Jn s Q .next { s with heap := h, gens := gs, toks := tk } :=
  ⟨h, gs, tk, m₂, nx, rfl, F, N, fun p hp hm => off p hp (List.mem_singleton.mp hm), j⟩
theorem at_tup {M : Model} {A : Around} {E : Value → Shared → Prop} {s : Shared} {es : List Expr} {k : Nat} {v : Expr} {p q : Pos} {env : Env} {Q : Flow → Shared → Prop} (h : wpAny M A (exec (.Assign [.Tuple es k q] v p) env) Q E s) : wpAny M A (exec (.Assign [.Tuple es k q] v p) env) Q E s := h
theorem cut_menu {M : Model} {A : Around} {E : Value → Shared → Prop} {s : Shared} {t : Sem Flow} {Q : Flow → Shared → Prop} {h₀ : Heap} {L : Addr} {m : Str → Option Value} {rest : List (Addr × Obj)} {hv wv : Int} {th tw : Tok}
    (_F : Fr h₀ L s.heap (fun z => if z = ("head" : Str) then some (.int hv th) else if z = ("width" : Str) then some (.int wv tw) else m z)) (_N : News h₀ L s.heap rest) (hb : 0 ≤ hv ∧ hv < 16)
    (h1 : wpAny M A t (CutEndM s h₀ L (fun h' m' => News h₀ L h' rest ∧ ∃ f wi t1 t2, (0 ≤ f ∧ f < 16) ∧ m' = fun z => if z = ("front" : Str) then some (.int f t1) else if z = ("wide" : Str) then some (.int wi t2) else if z = ("head" : Str) then some (.int hv th) else if z = ("width" : Str) then some (.int wv tw) else m z)) E s)
    (h2 : ∀ h' tk (f wi hv wv : Int) t1 t2, 0 ≤ f → f < 16 → 0 ≤ hv → hv < 16 → Fr h₀ L h' (fun z => if z = ("front" : Str) then some (.int f t1) else if z = ("wide" : Str) then some (.int wi t2) else if z = ("head" : Str) then some (.int hv th) else if z = ("width" : Str) then some (.int wv tw) else m z) → News h₀ L h' rest → Q .next { s with heap := h', toks := tk }) : wpAny M A t Q E s :=
  cut_ifM h₀ L _ h1 fun h' tk m' F k => by
    obtain ⟨N, f, wi, t1, t2, hr, rfl⟩ := k
    exact h2 h' tk f wi hv wv t1 t2 hr.1 hr.2 hb.1 hb.2 F N
theorem fix_of {h₀ h : Heap} {L : Addr} {a b c p x y : Addr × Obj} (N : News h₀ L h [a, b, c, p, x, y]) : News h₀ L h (x :: y :: [b, c, p]) := newsSub N fun z hz => by
  simp only [List.mem_cons, List.not_mem_nil, or_false] at hz ⊢
  rcases hz with h | h | h | h | h <;> simp [h]
theorem off_fix {h₀ h : Heap} {L : Addr} {b c p x y : Addr × Obj} (_N : News h₀ L h (x :: y :: [b, c, p])) (b1 : @LT.lt Nat _ 155 b.1) (b2 : @LT.lt Nat _ 162 b.1) (c1 : @LT.lt Nat _ 155 c.1) (c2 : @LT.lt Nat _ 162 c.1) (p1 : @LT.lt Nat _ 155 p.1) (p2 : @LT.lt Nat _ 162 p.1) : Off [(155 : Nat), (162 : Nat)] [b, c, p] :=
  Off.put ⟨Nat.ne_of_gt b1, Nat.ne_of_gt b2, trivial⟩ (Off.put ⟨Nat.ne_of_gt c1, Nat.ne_of_gt c2, trivial⟩ (Off.put ⟨Nat.ne_of_gt p1, Nat.ne_of_gt p2, trivial⟩ Off.nil))
theorem lt3 {a b : Nat} (h : a < b) : a < b + 1 + 1 + 1 := Nat.lt_succ_of_lt (Nat.lt_succ_of_lt (Nat.lt_succ_of_lt h))
theorem gen_fix {h₀ h : Heap} {L : Addr} {x y : Addr × Obj} {l : List (Addr × Obj)} (N : News h₀ L h (x :: y :: l)) (O : Off [(155 : Nat), (162 : Nat)] l) : ∃ fix, (∀ p ∈ l, p ∈ fix) ∧ News h₀ L h (x :: y :: fix) ∧ Off [(155 : Nat), (162 : Nat)] fix := ⟨l, fun _ h => h, N, O⟩
theorem tabs_up {h₀ h : Heap} {L : Addr} {p x y : Addr × Obj} {tl l : List (Addr × Obj)} (N : News h₀ L h (p :: (tl ++ x :: y :: l))) : News h₀ L h (x :: y :: p :: (tl ++ l)) := newsSub N fun z hz => by
  simp only [List.mem_cons, List.mem_append] at hz ⊢
  rcases hz with h | h | h | h | h <;> simp [h]
theorem led_up {h₀ h : Heap} {L pf pf2 : Addr} {i i2 x y : Obj} {tl1 tl2 j1 j2 fix : List (Addr × Obj)} (N : News h₀ L h ((pf2, i2) :: (tl2 ++ ((155 : Nat), x) :: ((162 : Nat), y) :: (j2 ++ ((pf, i) :: (tl1 ++ (j1 ++ fix))))))) : News h₀ L h (led2 pf pf2 i i2 x y tl1 tl2 (j2 ++ (j1 ++ fix))) := newsSub N fun z hz => by
  simp only [led2, List.mem_cons, List.mem_append] at hz ⊢
  rcases hz with h | h | h | h | h | h | h | h | h <;> simp [h]
theorem led_more {h₀ h : Heap} {L pf pf2 : Addr} {i i2 x y : Obj} {c : Addr × Obj} {tl1 tl2 jc fix : List (Addr × Obj)} (N : News h₀ L h (c :: (jc ++ led2 pf pf2 i i2 x y tl1 tl2 fix))) : News h₀ L h (led2 pf pf2 i i2 x y tl1 tl2 (c :: (jc ++ fix))) := newsSub N fun z hz => by
  simp only [led2, List.mem_cons, List.mem_append] at hz ⊢
  rcases hz with h | h | h | h | h | h | h | h | h <;> simp [h]
theorem gen_all {h₀ h : Heap} {L pf pf2 : Addr} {i i2 x y : Obj} {c1 c2 : Addr × Obj} {tl1 tl2 jc1 jc2 jk1 jk2 fix : List (Addr × Obj)} {as1 as2 : List Addr} (N : News h₀ L h (led2 pf pf2 i i2 x y tl1 tl2 (c2 :: (jc2 ++ (c1 :: (jc1 ++ (jk2 ++ (jk1 ++ fix)))))))) (hL : Lay2 as1 as2 (c2 :: (jc2 ++ (c1 :: (jc1 ++ (jk2 ++ (jk1 ++ fix))))))) :
    ∃ fx, News h₀ L h (led2 pf pf2 i i2 x y tl1 tl2 fx) ∧ Lay2 as1 as2 fx ∧ c2 ∈ fx ∧ c1 ∈ fx ∧ (∀ p ∈ jc2, p ∈ fx) ∧ (∀ p ∈ jc1, p ∈ fx) ∧ (∀ p ∈ jk2, p ∈ fx) ∧ (∀ p ∈ jk1, p ∈ fx) ∧ (∀ p ∈ fix, p ∈ fx) := by
  refine ⟨_, N, hL, .head _, ?_, fun p h => ?_, fun p h => ?_, fun p h => ?_, fun p h => ?_, fun p h => ?_⟩ <;> simp only [List.mem_cons, List.mem_append]
  · simp
  all_goals simp [h]
theorem pg_open {w : World} {n : Int} {rows : List (List Nat)} {junk : List (Addr × Obj)} {pfd ln ac acd : Addr} {tl : List (Addr × Obj)} (h : PgV w n rows junk pfd ln ac acd tl) : ∃ kt wd, (pfd, pfD w.params kt wd ln ac) ∈ tl := by
  obtain ⟨kt, wd, _, _, _, _, _, _, _, _, _, rfl, _⟩ := h
  exact ⟨kt, wd, .head _⟩
theorem news_pre {h₀ h : Heap} {L : Addr} {a b : Addr × Obj} {l : List (Addr × Obj)} (N : News h₀ L h l) (ha : a ∈ l) (hb : b ∈ l) : News h₀ L h (a :: b :: l) := newsSub N fun p hp => by
  simp only [List.mem_cons] at hp
  rcases hp with rfl | rfl | hp <;> assumption
theorem at_getm {M : Model} {A : Around} {E : Value → Shared → Prop} {s : Shared} {v : Value} {x : Str} {pl : Sem Bool} {Q : Value × List Value → Shared → Prop} (h : wpAny M A (getMethod v x pl) Q E s) : wpAny M A (getMethod v x pl) Q E s := h

theorem at_c57 {M : Model} {A : Around} {E : Value → Shared → Prop} {s : Shared} {l : List Value} {Q : Value → Shared → Prop} (h : wpAny M A (call (.ref 57) l []) Q E s) : wpAny M A (call (.ref 57) l []) Q E s := h
section
variable {w : World} {A : Around} {E : Value → Shared → Prop} {s : Shared} {L : Addr} {h₀ : Heap} {m : Str → Option Value} {led : List (Addr × Obj)} {n n2 : Int} {rows rows2 : List (List Nat)} {jk1 jk2 tl1 tl2 fix : List (Addr × Obj)} {pf pfd ln ac acd pf2 pfd2 ln2 ac2 acd2 : Addr} {i i2 x y : Obj}
theorem pg_in1 (h : PgV w n rows jk1 pfd ln ac acd tl1) : ∃ kt wd, (pfd, pfD w.params kt wd ln ac) ∈ led2 pf pf2 i i2 x y tl1 tl2 fix := by
  obtain ⟨kt, wd, hm⟩ := pg_open h
  exact ⟨kt, wd, .tail _ (.tail _ (.tail _ (.tail _ (List.mem_append_left _ hm))))⟩
theorem pg_in2 (h : PgV w n2 rows2 jk2 pfd2 ln2 ac2 acd2 tl2) : ∃ kt wd, (pfd2, pfD w.params kt wd ln2 ac2) ∈ led2 pf pf2 i i2 x y tl1 tl2 fix := by
  obtain ⟨kt, wd, hm⟩ := pg_open h
  exact ⟨kt, wd, .tail _ (.tail _ (.tail _ (.tail _ (List.mem_append_right _ (List.mem_append_left _ hm)))))⟩
set_option maxHeartbeats 4000000
theorem pg_meth {pl : Sem Bool} {Q : Value × List Value → Shared → Prop} (F : Fr h₀ L s.heap m) (X : (hd.heap_1 w.params).In h₀) (N : News h₀ L s.heap led) (hi : (pf, instObj 109 pfd) ∈ led)
    (hp : ∃ kt wd, (pfd, pfD w.params kt wd ln ac) ∈ led) (h : Q (.ref 57, [.ref pf]) s) : wpAny (model PySem.Challenge.rw_ty0040_01.row.prog w) A (getMethod (.ref pf) "_str" pl) Q E s := by
  obtain ⟨kt, wd, hp⟩ := hp
  have N2 := news_pre N hi hp
  clear N hi hp
  walk1
  exact h
end
theorem blank_size {n : Int} (h1 : -2 ^ 34 ≤ n) (h2 : n < 2 ^ 34) : (" " : Str).length + (Txt.join ", " (flagWords n)).length ≤ sizeLine := by
  have a := words_len h1 h2
  have e : (" " : Str).length = 1 := by decide
  rw [e, sizeLine_eq]
  omega
theorem bounds_ok {n : Int} {rows : List (List Nat)} (r : Rows n rows) : ∀ c ∈ bounds rows, -1 ≤ c.1 ∧ c.1 < c.2 ∧ c.2 ≤ 32 := fun c hc => by
  rw [← r.cuts] at hc
  obtain ⟨a, b⟩ := cuts_ge r.rise c hc
  exact ⟨a, b, cuts_le (B := 32) r.rise (fun j hj => places_le ((r.mem j).mp hj)) c hc⟩
theorem bounds_len : ∀ rows : List (List Nat), (bounds rows).length ≤ rows.length
  | [] => Nat.le_refl _
  | [_] => Nat.zero_le _
  | _ :: S :: rest => Nat.succ_le_succ (bounds_len (S :: rest))
theorem in_fx {pf pf2 : Addr} {i i2 x y : Obj} {tl1 tl2 fx : List (Addr × Obj)} {p : Addr × Obj} (h : p ∈ fx) : p ∈ led2 pf pf2 i i2 x y tl1 tl2 fx :=
  .tail _ (.tail _ (.tail _ (.tail _ (List.mem_append_right _ (List.mem_append_right _ h)))))
section
variable {w : World} {A : Around} {E : Value → Shared → Prop} {s : Shared} {L C O : Addr} {h₀ : Heap} {m mg mb : Str → Option Value} {loose : List Str} {led jn1 jn2 : List (Addr × Obj)} {Q : Value → Shared → Prop} {wt sh n n2 width wide head front : Int} {t1 t2 : Tok} {cs os : Array Value} {k k2 : Nat}
theorem takes_led (F : Fr h₀ L s.heap m) (X : (hd.heap_1 w.params).In h₀) (N : News h₀ L s.heap led) (T : TopRead hd.view_1 loose mg mb h₀) (M : Mod mg h₀)
    (hO : (O, listOf os k2) ∈ led) (hC : (C, listOf cs k) ∈ led) (hj1 : ∀ p ∈ jn1, p ∈ led) (hj2 : ∀ p ∈ jn2, p ∈ led) (hT1 : IntTups jn1 cs.toList (cutsV n width head)) (hT2 : IntTups jn2 os.toList (cutsV n2 wide front))
    (h0 : 0 ≤ head) (f0 : 0 ≤ front) (hroom : A.depth < 920) (hh : A.handled = none) (hu : A.units < 6000)
    (h : ∀ h' tk, Fr h₀ L h' m → News h₀ L h' led → Q (.bool (takesV wt sh (bounds (rowsP n width head)) (bounds (rowsP n2 wide front)))) { s with heap := h', toks := tk }) :
    wpAny (model PySem.Challenge.rw_ty0040_01.row.prog w) A (call (.ref 214) [.int wt t1, .ref C, .int sh t2, .ref O] []) Q E s := by
  rw [cutsV_eq h0] at hT1
  rw [cutsV_eq f0] at hT2
  have r1 : Rows n (rowsP n width head) := rowsP_rows
  have r2 : Rows n2 (rowsP n2 wide front) := rowsP_rows
  have N2 := newsMk (N _ hO) N
  exact takes_call F X N2 T M .head hC hj1 hj2 hT1 hT2 (bounds_ok r1) (by have a := bounds_len (rowsP n width head); have b := r1.len.2; omega) (by have a := bounds_len (rowsP n2 wide front); have b := r2.len.2; omega) hroom hh hu
    fun h' tk F' N' => h h' tk F' (newsSub N' fun p hp => .tail _ hp)
end
theorem turn_end {h₀ h : Heap} {L pf pf2 : Addr} {i i2 x y : Obj} {a b c : Addr × Obj} {tl1 tl2 fx : List (Addr × Obj)} (N : News h₀ L h (led2 pf pf2 i i2 x y tl1 tl2 fx)) (ha : a ∈ fx) (hb : b ∈ fx) (hc : c ∈ fx) :
    News h₀ L h ([a, b] ++ [c, ((155 : Nat), x), ((162 : Nat), y)]) := newsSub N fun p hp => by
  simp only [List.cons_append, List.nil_append, List.mem_cons, List.not_mem_nil, or_false] at hp
  rcases hp with rfl | rfl | rfl | rfl | rfl
  · exact in_fx ha
  · exact in_fx hb
  · exact in_fx hc
  · exact .tail _ (.tail _ (.head _))
  · exact .tail _ (.tail _ (.tail _ (.head _)))
theorem toNat_lt {p : Int} {n : Nat} (h0 : 0 ≤ p) (h : p < (n : Int)) : p.toNat < n := by omega

local macro_rules | `(tactic| omega) => `(tactic| omega (config := {}))
local macro_rules | `(tactic| walk_at "om") => `(tactic| ((repeat (rename (_ ∧ _) => z9; clear z9)); (repeat (rename (_ ≠ _) => z9; clear z9)); omega))
local macro_rules | `(tactic| side_arith) => `(tactic| walk_at "om")
local macro_rules | `(tactic| l_bnd) => `(tactic| walk_at "om")
local macro_rules | `(tactic| l_idx) => `(tactic| ((try simp only [List.length_append, List.length_cons, List.length_nil, List.length_map]); walk_at "om"))
local macro_rules | `(tactic| walk_at "binaryOp FloorDiv int int") => `(tactic| (with_reducible refine floordiv_int (pow_ne _) ?_ (.inl (no_pyl _ (by walk_at "om")))))
local macro_rules | `(tactic| walk_at "binaryOp Add str str") => `(tactic| ((refine add_str ?_ (blank_size (by assumption) (by assumption))); intro _ _))
local macro_rules | `(tactic| walk_at "subscriptTail Name Constant ref int") => `(tactic| (k_here; kri_at))
local macro_rules | `(tactic| walk_at "subscriptTail List BinOp ref int") => `(tactic| (k_here; first | ((with_unfolding_all refine' item_litK ?k1 ?k2 ?k3 ?k4 ?_ ?k6; (case k1 => is_list); (case k2 => decide); (case k3 => decide); (case k4 => rfl); (case k6 => with_unfolding_all rfl); k_whole)) | kcs_split))
local macro_rules | `(tactic| walk_at "stop") => `(tactic| with_reducible first | refine atA 36 ?_ | refine atA 204 ?_ | refine atA 209 ?_ | refine atA 214 ?_ | refine atA 28 ?_)
local macro_rules | `(tactic| walk_at "execs cons") => `(tactic| ((with_reducible refine exc_g gs s₁.drawn s₁.os rfl rfl rfl ?_); intro Z hZ _))
set_option maxHeartbeats 8000000 in
theorem law_walk : PySem.Challenge.rw_ty0040_01.Holds := hd ⟨left_w, by
  k_fill
  intro w s₀ s₁ mg mb G Y fa o pm cd doc dV kV ho hd hcd hD hmg hg args vals as hpre hlay hrd hwl hlo
  have KX := km_in_of Y
  have hT8 := km_tabs_of Y
  lge_behind G ho hd hcd hD hmg hpre hlay hrd hwl hlo cd
  with_reducible rename LGe.Mark => lgeM9
  clear lgeM9
  with_reducible rename Fr _ _ _ _ => F0
  with_reducible rename News _ _ _ _ => N0
  with_reducible rename Top _ _ _ _ _ _ => T0
  rename (IntsAre _ _) => hI
  rename (Heap.IsList s₁.heap _ _) => hL
  rename (¬ ((63 : Nat) : Int) < _) => hlen
  obtain ⟨h₀, F1, N1, X1, T1, M1, hB, hEnd⟩ := ghost_all KX hT8 F0 N0 T0
  have hL1 := hB _ _ hL
  rename (CellsAre _ _ _) => Y0
  obtain ⟨oy, ob, oss, hc3, dy, db, ds⟩ := CellsAre.three Y0
  simp only [List.cons.injEq, Prod.mk.injEq, true_and, and_true] at hc3
  obtain ⟨e1, e2, e3⟩ := hc3
  simp only [List.cons_append, List.nil_append] at N1
  rw [e1, e2, e3] at N1
  obtain ⟨mbx, F2⟩ := fr_any F1
  clear F1 Y0 hL hB
  have lt155 : @LT.lt Nat _ 155 s₁.heap.objs.size := Heap.lt_size (hT8 155 (.head _))
  have lt162 : @LT.lt Nat _ 162 s₁.heap.objs.size := Heap.lt_size (hT8 162 (.tail _ (.head _)))
  generalize s₁.heap.objs.size = L at *
  refine fold_both ?_
  intro Z Y hZ _
  repeat' walk_at "go"
  rename (IntsAre _ (List.map _ _)) => hI8
  refine wpAny_mono (E := NoErr) ?_ (fun _ _ q => q) fun _ _ (z : False) => z.elim
  refine for_A ?_
  repeat' walk_at "go"
  rename (IntsAre _ (_ ++ List.map _ _)) => hI9
  with_reducible rename Fr _ _ _ _ => F3
  with_reducible rename News _ _ _ _ => N3
  rename List Value => ws

  refine' list_loopA (its := ws.toArray) (n := 0) (od := listOf ws.toArray 0) ?hh ?hT F3 (news := [(L + 1 + 1 + 1, oy), ((155 : Nat), tabObj #[]), ((162 : Nat), tabObj #[])]) (newsSub N3 ?nsub) rfl rfl (fun i m₁ nx gs => AllBare gs ∧ ∃ oy ps ps2 vy, nx = (L + 1 + 1 + 1, oy) :: ((155 : Nat), tabObj ps) :: ((162 : Nat), tabObj ps2) :: [] ∧ oy.data = .cell vy ∧ TriplesOk ps.toList ∧ TriplesOk ps2.toList) ?h0 ?turn ?done
  case hh => rfl
  case hT => exact fun I i v s' Q' hv hit hq => wpAny_pure hq
  case nsub =>
    intro p hp
    simp only [List.mem_cons, List.not_mem_nil, or_false] at hp ⊢
    rcases hp with h | h | h | h <;> simp [h]
  case h0 => exact ⟨AllBare.of_eq hg, oy, #[], #[], _, rfl, dy, trivial, trivial⟩
  case done =>
    intro h3 gs tk3 m3 nx F4 N4 hq47
    refine an2 hq47 ?_
    clear hq47
    intro hG4 hn48
    refine ex4 hn48 ?_
    clear hn48
    intro oy ps ps2 vy hn49
    refine an4 hn49 ?_
    clear hn49
    intro eq50 _ ht ht2
    subst eq50
    repeat' walk_at "go"
    show GoodWG _ _ _ _ _ _ _
    exact ⟨.inl ⟨.bool true, .bool true, [], rfl, fun cls => rfl, .bool true, postW_of rfl (w_eq_bool (w_res rfl) w_lit) rfl, fun _ => ⟨List.nodup_nil, fun _ h => nomatch h⟩⟩, hEnd h3 ps ps2 F4.keep (N4 _ (.tail _ (.head _))).1 (N4 _ (.tail _ (.tail _ (.head _)))).1, rfl, hG4⟩
  case turn =>
    intro i v m₁ nx h₁ gs tk I o o2 hv ho2 hq51
    refine an2 hq51 ?_
    clear hq51
    intro hG hn52
    refine ex4 hn52 ?_
    clear hn52
    intro oy ps ps2 vy hn53
    refine an4 hn53 ?_
    clear hn53
    intro eq54 hdy ht ht2
    subst eq54
    intro hIn ltI DI F₁ N₁
    obtain ⟨y, ty, rfl, _⟩ := ints_at hI9 (by simpa using hv)
    have hIy := ltI _ (.head _)
    have hI155 := ltI _ (.tail _ (.head _))
    have hI162 := ltI _ (.tail _ (.tail _ (.head _)))
    dsimp only at hIy hI155 hI162
    refine fold_post ?_
    intro Z hZ
    repeat' ((fail_if_success (with_reducible refine at_ifexp ?_)); walk_at "go")
    rename_i D5 h5 tk5 F5 N5 o5 _
    refine cut_num F5 N5 ?_ ?_
    · repeat' walk_at "go"
      all_goals with_reducible rename Fr _ _ _ _ => F6
      all_goals with_reducible rename News _ _ _ _ => N6
      all_goals exact ⟨rfl, _, _, _, rfl, F6, N6, _, _, by decide, rfl⟩
    intro h6 tk6 n t6 hn1 hn2 F6 N6
    clear F5 N5
    repeat' ((fail_if_success (with_reducible refine at_for ?_)); walk_at "go")
    refine for_G ?_
    repeat' walk_at "go"
    with_reducible rename Fr _ _ _ _ => F7
    with_reducible rename News _ _ _ _ => N7
    rename (IntsAre _ _) => hI7
    refine' int_loop ?_ rfl rfl F7 N7 hI7 hG (fun m₁ => m₁ ("parts" : Str) = some (.ref D5) ∧ ∃ n t, m₁ ("number" : Str) = some (.int n t) ∧ -2 ^ 34 ≤ n ∧ n < 2 ^ 34) ?_ ?_ ?_
    · rfl
    · exact ⟨rfl, n, t6, rfl, hn1, hn2⟩
    · intro p tp m8 h8 gs tk8 I8 o8 o28 hp hr1
      refine an2 hr1 ?_
      intro e1 hr2
      refine ex2 hr2 ?_
      clear hr2
      intro n8 t8 hr3
      refine an3 hr3 ?_
      clear hr3
      intro e2 hn3 hn4 hG8 hI8 F8 N8
      obtain ⟨p1, p2⟩ := fmod_mem (List.mem_of_mem_drop hp)
      obtain ⟨mm, rfl⟩ := map2 e2 e1
      refine fold_post ?_
      intro Z hZ
      repeat' walk_at "go"
      · with_reducible rename Fr _ _ _ _ => F9
        with_reducible rename News _ _ _ _ => N9
        obtain ⟨r1, r2⟩ := xor_range (p := p.toNat) hn3 hn4 (toNat_lt p1 (by assumption))
        exact step_end F9 N9 hI8 ⟨⟨rfl, _, _, rfl, r1, r2⟩, rfl, hG8⟩
      · exact step_end F8 N8 hI8 ⟨⟨rfl, _, _, rfl, hn3, hn4⟩, rfl, hG8⟩
    intro h8 gs tk8 m8 F8 N8 hq55
    refine an2 hq55 ?_
    clear hq55
    intro e1 hn56
    refine ex2 hn56 ?_
    clear hn56
    intro n8 t8 hn57
    refine an3 hn57 ?_
    clear hn57
    intro e2 hn3 hn4
    intro hG8
    obtain ⟨mm, rfl⟩ := map2 e2 e1
    clear F7 N7 e1 e2
    repeat' ((fail_if_success (with_reducible refine at_for ?_)); walk_at "go")
    refine for_G ?_
    repeat' walk_at "go"
    with_reducible rename Fr _ _ _ _ => F10
    with_reducible rename News _ _ _ _ => N10
    rename (IntsAre _ _) => hI10
    refine' int_loop ?_ rfl rfl F10 N10 hI10 hG8 (fun m₁ => m₁ ("parts" : Str) = some (.ref D5) ∧ m₁ ("number" : Str) = some (.int n8 t8) ∧ ∃ n t, m₁ ("other" : Str) = some (.int n t) ∧ -2 ^ 34 ≤ n ∧ n < 2 ^ 34) ?_ ?_ ?_
    · rfl
    · exact ⟨rfl, rfl, n8, t8, rfl, hn3, hn4⟩
    · intro p tp m11 h11 gs tk11 I11 o11 o12 hp hr1
      refine an3 hr1 ?_
      clear hr1
      intro e1 e2 hr2
      refine ex2 hr2 ?_
      clear hr2
      intro n11 t11 hr3
      refine an3 hr3 ?_
      clear hr3
      intro e3 hn5 hn6 hG11 hI11 F11 N11
      obtain ⟨p1, p2⟩ := fmod_mem (List.mem_of_mem_take hp)
      obtain ⟨mm, rfl⟩ := map3 e3 e2 e1
      refine fold_post ?_
      intro Z hZ
      repeat' walk_at "go"
      · with_reducible rename Fr _ _ _ _ => F9
        with_reducible rename News _ _ _ _ => N9
        obtain ⟨r1, r2⟩ := xor_range (p := p.toNat) hn5 hn6 (toNat_lt p1 (by assumption))
        exact step_end F9 N9 hI11 ⟨⟨rfl, rfl, _, _, rfl, r1, r2⟩, rfl, hG11⟩
      · exact step_end F11 N11 hI11 ⟨⟨rfl, rfl, _, _, rfl, hn5, hn6⟩, rfl, hG11⟩
    intro h12 gs tk12 m12 F12 N12 hq58
    refine an3 hq58 ?_
    clear hq58
    intro e1 e2 hn59
    refine ex2 hn59 ?_
    clear hn59
    intro n12 t12 hn60
    refine an3 hn60 ?_
    clear hn60
    intro e3 hn5 hn6
    intro hG12
    obtain ⟨mm2, rfl⟩ := map3 e3 e2 e1
    clear F10 N10 e1 e2 e3
    repeat' ((fail_if_success (with_reducible refine at_tup ?_)); walk_at "go")
    with_reducible rename Fr _ _ _ _ => F13
    with_reducible rename News _ _ _ _ => N13
    refine cut_menu F13 N13 ⟨Int.fmod_nonneg_of_pos _ (by decide), Int.fmod_lt_of_pos _ (by decide)⟩ ?_ ?_
    · repeat' walk_at "go"
      all_goals with_reducible rename Fr _ _ _ _ => F14
      all_goals with_reducible rename News _ _ _ _ => N14
      all_goals refine ⟨rfl, _, _, _, rfl, F14, newsSub N14 fun p hp => .tail _ (.tail _ (.tail _ (.tail _ hp))), _, _, _, _, ?_, rfl⟩
      all_goals first | exact ⟨by decide, by decide⟩ | exact ⟨Int.fmod_nonneg_of_pos _ (by decide), Int.fmod_lt_of_pos _ (by decide)⟩
    clear F13
    intro h14 tk14 front wide head width t14 u14 f0 f9 hd0 hd9 F14 N14
    have N15 := fix_of N14
    have hoff := off_fix N15 hI155 hI162 (by assumption) (by assumption) (lt3 lt155) (lt3 lt162)
    obtain ⟨fix, hfix, N15, hoff⟩ := gen_fix N15 hoff
    clear N14 N13 N12 F12 hI8
    repeat' walk_at "go"
    refine flags_call F14 X1 N15 T1 M1 hn3 hn4 (Nat.le_of_ble_eq_true rfl) rfl (Nat.le_of_ble_eq_true rfl) ?_
    clear F14 N15
    intro h15 tk15 t15 F15 N15
    repeat' walk_at "go"
    with_reducible rename Fr _ _ _ _ => F16
    with_reducible rename News _ _ _ _ => N16
    refine flags_call F16 X1 N16 T1 M1 hn5 hn6 (Nat.le_of_ble_eq_true rfl) rfl (Nat.le_of_ble_eq_true rfl) ?_
    clear F16 N16
    intro h17 tk17 t17 F17 N17
    repeat' walk_at "go"
    with_reducible rename Fr _ _ _ _ => F18
    with_reducible rename News _ _ _ _ => N18
    refine pg_call F18 X1 N18 T1 hG12 M1 .head .head ht ht2 hn3 hn4 hd0 hd9 hoff (Nat.le_of_ble_eq_true rfl) rfl (Nat.le_of_ble_eq_true rfl) ?_
    clear F18 N18
    intro h19 gs tk19 pf pfd ln ac acd ps' ps2' tl1 jk1 F19 N19 hP1 hD1 ha1 hj1 ht3 ht4 hG19
    have N20 := tabs_up N19
    have hoff2 := off_pg (i := instObj 109 pfd) hP1 hD1 (fun p hp => (hj1 p hp).1) hoff
    clear N19
    repeat' walk_at "go"
    with_reducible rename Fr _ _ _ _ => F20
    with_reducible rename News _ _ _ _ => N20
    refine pg_call F20 X1 N20 T1 hG19 M1 .head .head ht3 ht4 hn5 hn6 f0 f9 hoff2 (Nat.le_of_ble_eq_true rfl) rfl (Nat.le_of_ble_eq_true rfl) ?_
    clear F20 N20
    intro h21 gs tk21 pf2 pfd2 ln2 ac2 acd2 ps3 ps4 tl2 jk2 F21 N21 hP2 hD2 ha2 hj2 ht5 ht6 hG21
    have hL := lay2_mk hP1 hD1 ha1 hj1 hoff hD2 (fun _ h => h) ha2 hj2
    have N22 := led_up N21
    clear N21
    repeat' walk_at "go"
    with_reducible rename Fr _ _ _ _ => F23
    with_reducible rename News _ _ _ _ => N23
    refine cuts_call F23 X1 N23 T1 M1 hn3 hn4 (Nat.le_of_ble_eq_true rfl) rfl (Nat.le_of_ble_eq_true rfl) ?_
    clear F23 N23
    intro h24 tk24 C1 cs1 k1 jc1 F24 N24 hC1 lc1 lj1
    have hL1 := lay2_more (o := listOf cs1 k1) hL hP1 hP2 lc1 lj1
    have N25 := led_more N24
    clear N24
    repeat' walk_at "go"
    with_reducible rename Fr _ _ _ _ => F26
    with_reducible rename News _ _ _ _ => N26
    refine cuts_call F26 X1 N26 T1 M1 hn5 hn6 (Nat.le_of_ble_eq_true rfl) rfl (Nat.le_of_ble_eq_true rfl) ?_
    clear F26 N26
    intro h27 tk27 C2 cs2 k2 jc2 F27 N27 hC2 lc2 lj2
    have hL2 := lay2_more (o := listOf cs2 k2) hL1 hP1 hP2 lc2 lj2
    have N28 := led_more N27
    clear N27
    obtain ⟨fx, N28, hL2, mc2, mc1, mj2, mj1, mk2, mk1, mf⟩ := gen_all N28 hL2
    clear hL1 hL hoff2 lc1 lj1 lc2 lj2 ha1 hj1 ha2 hj2
    repeat' ((fail_if_success (with_reducible refine at_getm ?_)); walk_at "go")
    with_reducible rename Fr _ _ _ _ => F29
    with_reducible rename News _ _ _ _ => N29
    refine' pg_meth ?mf1 X1 ?mn1 ?mi1 ?mp1 ?_
    case mf1 => exact F29
    case mn1 => exact N29
    case mi1 => exact (.head _)
    case mp1 => exact pg_in1 hP1
    repeat' ((fail_if_success (with_reducible refine at_c57 ?_)); walk_at "go")
    with_reducible rename Fr _ _ _ _ => F31
    with_reducible rename News _ _ _ _ => N31
    refine str_one F31 X1 N31 T1 hG21 M1 hL2 hP1 hP2 mk1 ht5 ht6 hn3 hn4 rowsP_rows (by decide) (Nat.le_of_ble_eq_true rfl) rfl (Nat.le_of_ble_eq_true rfl) ?_
    clear F31 N31 hP1
    intro h32 gs tk32 ps5 ps6 tl1 t32 F32 N32 hP1 ht7 ht8 hG32
    rw [page_words rowsP_rows]
    repeat' ((fail_if_success (with_reducible refine at_getm ?_)); walk_at "go")
    try exact absurd (by assumption : (_ != _) = true) (by simp)
    with_reducible rename Fr _ _ _ _ => F33
    with_reducible rename News _ _ _ _ => N33
    refine' pg_meth ?mf2 X1 ?mn2 ?mi2 ?mp2 ?_
    case mf2 => exact F33
    case mn2 => exact N33
    case mi2 => exact (.tail _ (.head _))
    case mp2 => exact pg_in2 hP2
    repeat' ((fail_if_success (with_reducible refine at_c57 ?_)); walk_at "go")
    with_reducible rename Fr _ _ _ _ => F34
    with_reducible rename News _ _ _ _ => N34
    refine str_two F34 X1 N34 T1 hG32 M1 hL2 hP1 hP2 mk2 ht7 ht8 hn5 hn6 rowsP_rows (by decide) (Nat.le_of_ble_eq_true rfl) rfl (Nat.le_of_ble_eq_true rfl) ?_
    clear F34 N34 hP2
    intro h35 gs tk35 ps7 ps8 tl2 t35 F35 N35 hP2 ht9 ht10 hG35
    rw [page_words rowsP_rows]
    repeat' ((fail_if_success (with_reducible refine at_getm ?_)); walk_at "go")
    try exact absurd (by assumption : (_ != _) = true) (by simp)
    with_reducible rename Fr _ _ _ _ => F40
    with_reducible rename News _ _ _ _ => N40
    refine' pg_meth ?mf3 X1 ?mn3 ?mi3 ?mp3 ?_
    case mf3 => exact F40
    case mn3 => exact N40
    case mi3 => exact (.head _)
    case mp3 => exact pg_in1 hP1
    repeat' ((fail_if_success (with_reducible refine at_c57 ?_)); walk_at "go")
    with_reducible rename Fr _ _ _ _ => F41
    with_reducible rename News _ _ _ _ => N41
    refine str_one F41 X1 N41 T1 hG35 M1 hL2 hP1 hP2 (fun _ h => nomatch h) ht9 ht10 hn3 hn4 rowsP_rows (by decide) (Nat.le_of_ble_eq_true rfl) rfl (Nat.le_of_ble_eq_true rfl) ?_
    clear F41 N41 hP1
    intro h42 gs tk42 ps42a ps42b tl1 t42 F42 N42 hP1 ht42a ht42b hG42
    repeat' ((fail_if_success (with_reducible refine at_getm ?_)); walk_at "go")
    with_reducible rename Fr _ _ _ _ => F43
    with_reducible rename News _ _ _ _ => N43
    refine' pg_meth ?mf4 X1 ?mn4 ?mi4 ?mp4 ?_
    case mf4 => exact F43
    case mn4 => exact N43
    case mi4 => exact (.tail _ (.head _))
    case mp4 => exact pg_in2 hP2
    repeat' ((fail_if_success (with_reducible refine at_c57 ?_)); walk_at "go")
    with_reducible rename Fr _ _ _ _ => F44
    with_reducible rename News _ _ _ _ => N44
    refine str_two F44 X1 N44 T1 hG42 M1 hL2 hP1 hP2 (fun _ h => nomatch h) ht42a ht42b hn5 hn6 rowsP_rows (by decide) (Nat.le_of_ble_eq_true rfl) rfl (Nat.le_of_ble_eq_true rfl) ?_
    clear F44 N44 hP2
    intro h45 gs tk45 ps45a ps45b tl2 t45 F45 N45 hP2 ht45a ht45b hG45
    repeat' walk_at "go"
    with_reducible rename Fr _ _ _ _ => F46
    with_reducible rename News _ _ _ _ => N46
    refine ellip_call F46 X1 N46 T1 M1 hn3 hn4 hn5 hn6 rowsP_rows rowsP_rows (Nat.le_of_ble_eq_true rfl) rfl ?_
    clear F46 N46
    intro h47 tk47 F47 N47
    repeat' walk_at "go"
    with_reducible rename Fr _ _ _ _ => F48
    with_reducible rename News _ _ _ _ => N48
    refine takes_led F48 X1 N48 T1 M1 (in_fx mc2) (in_fx mc1) (fun p hp => in_fx (mj1 p hp)) (fun p hp => in_fx (mj2 p hp)) hC1 hC2 hd0 f0 (Nat.le_of_ble_eq_true rfl) rfl (Nat.le_of_ble_eq_true rfl) ?_
    clear F48 N48
    intro h49 tk49 F49 N49
    repeat' ((fail_if_success (with_reducible refine at_getm ?_)); walk_at "go")
    try exact absurd (by assumption : (_ != _) = true) (by simp)
    with_reducible rename Fr _ _ _ _ => F50
    with_reducible rename News _ _ _ _ => N50
    refine' pg_meth ?mf5 X1 ?mn5 ?mi5 ?mp5 ?_
    case mf5 => exact F50
    case mn5 => exact N50
    case mi5 => exact (.tail _ (.head _))
    case mp5 => exact pg_in2 hP2
    repeat' ((fail_if_success (with_reducible refine at_c57 ?_)); walk_at "go")
    with_reducible rename Fr _ _ _ _ => F51
    with_reducible rename News _ _ _ _ => N51
    refine str_two F51 X1 N51 T1 hG45 M1 hL2 hP1 hP2 (fun _ h => nomatch h) ht45a ht45b hn5 hn6 rowsP_rows (by decide) (Nat.le_of_ble_eq_true rfl) rfl (Nat.le_of_ble_eq_true rfl) ?_
    clear F51 N51 hP2
    intro h52 gs tk52 ps52a ps52b tl2 t52 F52 N52 hP2 ht52a ht52b hG52
    repeat' ((fail_if_success (with_reducible refine at_getm ?_)); walk_at "go")
    with_reducible rename Fr _ _ _ _ => F53
    with_reducible rename News _ _ _ _ => N53
    refine' pg_meth ?mf6 X1 ?mn6 ?mi6 ?mp6 ?_
    case mf6 => exact F53
    case mn6 => exact N53
    case mi6 => exact (.head _)
    case mp6 => exact pg_in1 hP1
    repeat' ((fail_if_success (with_reducible refine at_c57 ?_)); walk_at "go")
    with_reducible rename Fr _ _ _ _ => F54
    with_reducible rename News _ _ _ _ => N54
    refine str_one F54 X1 N54 T1 hG52 M1 hL2 hP1 hP2 (fun _ h => nomatch h) ht52a ht52b hn3 hn4 rowsP_rows (by decide) (Nat.le_of_ble_eq_true rfl) rfl (Nat.le_of_ble_eq_true rfl) ?_
    clear F54 N54 hP1
    intro h55 gs tk55 ps55a ps55b tl1 t55 F55 N55 hP1 ht55a ht55b hG55
    repeat' walk_at "go"
    with_reducible rename Fr _ _ _ _ => F56
    with_reducible rename News _ _ _ _ => N56
    refine ellip_call F56 X1 N56 T1 M1 hn5 hn6 hn3 hn4 rowsP_rows rowsP_rows (Nat.le_of_ble_eq_true rfl) rfl ?_
    clear F56 N56
    intro h57 tk57 F57 N57
    repeat' walk_at "go"
    with_reducible rename Fr _ _ _ _ => F58
    with_reducible rename News _ _ _ _ => N58
    refine takes_led F58 X1 N58 T1 M1 (in_fx mc1) (in_fx mc2) (fun p hp => in_fx (mj2 p hp)) (fun p hp => in_fx (mj1 p hp)) hC2 hC1 f0 hd0 (Nat.le_of_ble_eq_true rfl) rfl (Nat.le_of_ble_eq_true rfl) ?_
    clear F58 N58
    intro h59 tk59 F59 N59
    repeat' walk_at "go"
    try exact absurd (by assumption : (_ != _) = true) (by simp)
    with_reducible rename Fr _ _ _ _ => F60
    with_reducible rename News _ _ _ _ => N60
    exact step_end F60 (turn_end N60 (mf _ (hfix _ (.head _))) (mf _ (hfix _ (.tail _ (.head _)))) (mf _ (hfix _ (.tail _ (.tail _ (.head _))))))
      (List.forall_mem_cons.mpr ⟨Nat.ne_of_lt hIy, List.forall_mem_cons.mpr ⟨Nat.ne_of_lt hI155, List.forall_mem_cons.mpr ⟨Nat.ne_of_lt hI162, fun _ h => nomatch h⟩⟩⟩)
      ⟨hG55, _, _, _, _, rfl, by assumption, ht55a, ht55b⟩⟩

end Mine

theorem PySem.Challenge.cw_ty0040_01_holds : PySem.Challenge.rw_ty0040_01.Holds :=
  Mine.law_walk
