import PyProof.Rows.All
import Wide.All
import OpenK.AllK
import Wide.FinOn
import PySem.Challenge.RW_ki0093_01
open PySem PySem.W PyProof.Rows
set_option Elab.async false
set_option maxRecDepth 100000
set_option maxHeartbeats 8000000

-- part PL
namespace Mine

def rowL : List Str := [Str.ofString "(", Str.ofString ")", Str.ofString "[", Str.ofString "]", Str.ofString ":", Str.ofString ",", Str.ofString ";", Str.ofString "+", Str.ofString "-", Str.ofString "*", Str.ofString "/", Str.ofString "|", Str.ofString "&", Str.ofString "<", Str.ofString ">", Str.ofString "=", Str.ofString ".", Str.ofString "%", Str.ofString "{", Str.ofString "}", Str.ofString "==", Str.ofString "!=", Str.ofString "<=", Str.ofString ">=", Str.ofString "~", Str.ofString "^", Str.ofString "<<", Str.ofString ">>", Str.ofString "**", Str.ofString "+=", Str.ofString "-=", Str.ofString "*=", Str.ofString "/=", Str.ofString "%=", Str.ofString "&=", Str.ofString "|=", Str.ofString "^=", Str.ofString "<<=", Str.ofString ">>=", Str.ofString "**=", Str.ofString "//", Str.ofString "//=", Str.ofString "@", Str.ofString "@=", Str.ofString "->", Str.ofString "...", Str.ofString ":=", Str.ofString "!"]
def tabD : List (Str × PyData) := [(Str.ofString "!", .int 54), (Str.ofString "!=", .int 28), (Str.ofString "%", .int 24), (Str.ofString "%=", .int 40), (Str.ofString "&", .int 19), (Str.ofString "&=", .int 41), (Str.ofString "(", .int 7), (Str.ofString ")", .int 8), (Str.ofString "*", .int 16), (Str.ofString "**", .int 35), (Str.ofString "**=", .int 46), (Str.ofString "*=", .int 38), (Str.ofString "+", .int 14), (Str.ofString "+=", .int 36), (Str.ofString ",", .int 12), (Str.ofString "-", .int 15), (Str.ofString "-=", .int 37), (Str.ofString "->", .int 51), (Str.ofString ".", .int 23), (Str.ofString "...", .int 52), (Str.ofString "/", .int 17), (Str.ofString "//", .int 47), (Str.ofString "//=", .int 48), (Str.ofString "/=", .int 39), (Str.ofString ":", .int 11), (Str.ofString ":=", .int 53), (Str.ofString ";", .int 13), (Str.ofString "<", .int 20), (Str.ofString "<<", .int 33), (Str.ofString "<<=", .int 44), (Str.ofString "<=", .int 29), (Str.ofString "=", .int 22), (Str.ofString "==", .int 27), (Str.ofString ">", .int 21), (Str.ofString ">=", .int 30), (Str.ofString ">>", .int 34), (Str.ofString ">>=", .int 45), (Str.ofString "@", .int 49), (Str.ofString "@=", .int 50), (Str.ofString "[", .int 9), (Str.ofString "]", .int 10), (Str.ofString "^", .int 32), (Str.ofString "^=", .int 43), (Str.ofString "{", .int 25), (Str.ofString "|", .int 18), (Str.ofString "|=", .int 42), (Str.ofString "}", .int 26), (Str.ofString "~", .int 31)]
def rowN : List (List Nat) := [[40], [41], [91], [93], [58], [44], [59], [43], [45], [42], [47], [124], [38], [60], [62], [61], [46], [37], [123], [125], [61, 61], [33, 61], [60, 61], [62, 61], [126], [94], [60, 60], [62, 62], [42, 42], [43, 61], [45, 61], [42, 61], [47, 61], [37, 61], [38, 61], [124, 61], [94, 61], [60, 60, 61], [62, 62, 61], [42, 42, 61], [47, 47], [47, 47, 61], [64], [64, 61], [45, 62], [46, 46, 46], [58, 61], [33]]
def tabN : List (List Nat × Nat) := [([33], 54), ([33, 61], 28), ([37], 24), ([37, 61], 40), ([38], 19), ([38, 61], 41), ([40], 7), ([41], 8), ([42], 16), ([42, 42], 35), ([42, 42, 61], 46), ([42, 61], 38), ([43], 14), ([43, 61], 36), ([44], 12), ([45], 15), ([45, 61], 37), ([45, 62], 51), ([46], 23), ([46, 46, 46], 52), ([47], 17), ([47, 47], 47), ([47, 47, 61], 48), ([47, 61], 39), ([58], 11), ([58, 61], 53), ([59], 13), ([60], 20), ([60, 60], 33), ([60, 60, 61], 44), ([60, 61], 29), ([61], 22), ([61, 61], 27), ([62], 21), ([62, 61], 30), ([62, 62], 34), ([62, 62, 61], 45), ([64], 49), ([64, 61], 50), ([91], 9), ([93], 10), ([94], 32), ([94, 61], 43), ([123], 25), ([124], 18), ([124, 61], 42), ([125], 26), ([126], 31)]
def alpha : List Nat := [33, 37, 38, 40, 41, 42, 43, 44, 45, 46, 47, 58, 59, 60, 61, 62, 64, 91, 93, 94, 123, 124, 125, 126, 32, 97, 36, 63, 96]
abbrev tabP : List (PyData × PyData) := tabD.map fun p => (PyData.str p.1, p.2)
def okText (p : Str) : Prop := ∀ c ∈ p.cps.toList, c ∈ alpha
abbrev lacks (x : String) (q : Str) : Bool := (Builtin.Str.occurrences (Str.ofString x) (PySem.Txt.item q 0) 0 (Str.ofString x).length 1).isEmpty

def width (p : Str) : Int :=
  if (PySem.Txt.slice p none (some 3) == Str.ofString "...") = true then 3
  else if (PySem.Txt.slice p none (some 2) == Str.ofString "->") = true then 2
  else if lacks "*/<>" p = false ∧ (PySem.Txt.slice p (some 1) (some 2) == PySem.Txt.item p 0) = true then
    (if lacks "!%&*+-/:<=>@^|" p = false ∧ (PySem.Txt.slice p (some 2) (some (2 + 1)) == Str.ofString "=") = true then 2 + 1 else 2)
  else
    (if lacks "!%&*+-/:<=>@^|" p = false ∧ (PySem.Txt.slice p (some 1) (some (1 + 1)) == Str.ofString "=") = true then 1 + 1 else 1)

theorem width_dots {p : Str} (h : (PySem.Txt.slice p none (some 3) == Str.ofString "...") = true) : width p = 3 := by
  unfold width; rw [if_pos h]
theorem width_arrow {p : Str} (h : (PySem.Txt.slice p none (some 3) == Str.ofString "...") = false) (h2 : (PySem.Txt.slice p none (some 2) == Str.ofString "->") = true) : width p = 2 := by
  unfold width; rw [if_neg (by rw [h]; exact Bool.false_ne_true), if_pos h2]
section
variable {p : Str} (h : (PySem.Txt.slice p none (some 3) == Str.ofString "...") = false) (h2 : (PySem.Txt.slice p none (some 2) == Str.ofString "->") = false)
include h h2
theorem width_one_eq (hd : lacks "*/<>" p = true ∨ (PySem.Txt.slice p (some 1) (some 2) == PySem.Txt.item p 0) = false) (he : lacks "!%&*+-/:<=>@^|" p = false) (hs : (PySem.Txt.slice p (some 1) (some (1 + 1)) == Str.ofString "=") = true) : width p = 1 + 1 := by
  unfold width
  rw [if_neg (by rw [h]; exact Bool.false_ne_true), if_neg (by rw [h2]; exact Bool.false_ne_true), if_neg (by rintro ⟨a, b⟩; rcases hd with q | q <;> simp_all), if_pos ⟨he, hs⟩]
theorem width_one (hd : lacks "*/<>" p = true ∨ (PySem.Txt.slice p (some 1) (some 2) == PySem.Txt.item p 0) = false) (he : lacks "!%&*+-/:<=>@^|" p = true ∨ (PySem.Txt.slice p (some 1) (some (1 + 1)) == Str.ofString "=") = false) : width p = 1 := by
  unfold width
  rw [if_neg (by rw [h]; exact Bool.false_ne_true), if_neg (by rw [h2]; exact Bool.false_ne_true), if_neg (by rintro ⟨a, b⟩; rcases hd with q | q <;> simp_all), if_neg (by rintro ⟨a, b⟩; rcases he with q | q <;> simp_all)]
theorem width_two_eq (hd : lacks "*/<>" p = false) (hb : (PySem.Txt.slice p (some 1) (some 2) == PySem.Txt.item p 0) = true) (he : lacks "!%&*+-/:<=>@^|" p = false) (hs : (PySem.Txt.slice p (some 2) (some (2 + 1)) == Str.ofString "=") = true) : width p = 2 + 1 := by
  unfold width
  rw [if_neg (by rw [h]; exact Bool.false_ne_true), if_neg (by rw [h2]; exact Bool.false_ne_true), if_pos ⟨hd, hb⟩, if_pos ⟨he, hs⟩]
theorem width_two (hd : lacks "*/<>" p = false) (hb : (PySem.Txt.slice p (some 1) (some 2) == PySem.Txt.item p 0) = true) (he : lacks "!%&*+-/:<=>@^|" p = true ∨ (PySem.Txt.slice p (some 2) (some (2 + 1)) == Str.ofString "=") = false) : width p = 2 := by
  unfold width
  rw [if_neg (by rw [h]; exact Bool.false_ne_true), if_neg (by rw [h2]; exact Bool.false_ne_true), if_pos ⟨hd, hb⟩, if_neg (by rintro ⟨a, b⟩; rcases he with q | q <;> simp_all)]
end

def wL (l : List Nat) : Nat :=
  if l.take 3 = [46, 46, 46] then 3
  else if l.take 2 = [45, 62] then 2
  else if l.headD 0 ∈ [42, 47, 60, 62] ∧ (l.drop 1).take 1 = [l.headD 0] then
    (if l.headD 0 ∈ [33, 37, 38, 42, 43, 45, 47, 58, 60, 61, 62, 64, 94, 124] ∧ (l.drop 2).take 1 = [61] then 3 else 2)
  else
    (if l.headD 0 ∈ [33, 37, 38, 42, 43, 45, 47, 58, 60, 61, 62, 64, 94, 124] ∧ (l.drop 1).take 1 = [61] then 2 else 1)

theorem lit_dots : Str.ofString "..." = ⟨#[46, 46, 46]⟩ := by decide +kernel
theorem lit_arrow : Str.ofString "->" = ⟨#[45, 62]⟩ := by decide +kernel
theorem lit_eq : Str.ofString "=" = ⟨#[61]⟩ := by decide +kernel

theorem lacks_iff (x : String) (q : Str) : lacks x q = !decide ((PySem.Txt.charAt q 0).getD 0 ∈ (Str.ofString x).cps.toList) := by
  have h := PySem.StrLaws.found_one (Str.ofString x) ((PySem.Txt.charAt q 0).getD 0)
  unfold lacks PySem.Txt.item
  rw [← h, Bool.not_not]
theorem cps_dbl : (Str.ofString "*/<>").cps.toList = [42, 47, 60, 62] := by decide +kernel
theorem cps_eqs : (Str.ofString "!%&*+-/:<=>@^|").cps.toList = [33, 37, 38, 42, 43, 45, 47, 58, 60, 61, 62, 64, 94, 124] := by decide +kernel
theorem cps_bl : (Str.ofString " a$?`").cps.toList = [32, 97, 36, 63, 96] := by decide +kernel

theorem beq_str (x y : Str) : (x == y) = decide (x.cps.toList = y.cps.toList) := by
  by_cases h : x = y
  · subst h; simp
  · have : ¬ x.cps.toList = y.cps.toList := fun e => h (by cases x; cases y; simp only [Str.mk.injEq]; exact Array.toList_inj.mp e)
    simp [h, this]


theorem width1 (a : Nat) : width ⟨#[a]⟩ = wL [a] := by
  unfold width
  rw [lacks_iff, lacks_iff, cps_dbl, cps_eqs, lit_dots, lit_arrow, lit_eq]
  simp only [beq_str]
  rw [show PySem.Txt.slice ⟨#[a]⟩ none (some 3) = (⟨#[a]⟩ : Str) from by with_unfolding_all rfl, show PySem.Txt.slice ⟨#[a]⟩ none (some 2) = (⟨#[a]⟩ : Str) from by with_unfolding_all rfl,
    show PySem.Txt.slice ⟨#[a]⟩ (some 1) (some 2) = (⟨#[]⟩ : Str) from by with_unfolding_all rfl, show PySem.Txt.slice ⟨#[a]⟩ (some 2) (some (2 + 1)) = (⟨#[]⟩ : Str) from by with_unfolding_all rfl, show PySem.Txt.slice ⟨#[a]⟩ (some 1) (some (1 + 1)) = (⟨#[]⟩ : Str) from by with_unfolding_all rfl,
    show PySem.Txt.item ⟨#[a]⟩ 0 = (⟨#[a]⟩ : Str) from by with_unfolding_all rfl, show (PySem.Txt.charAt ⟨#[a]⟩ 0).getD 0 = a from by with_unfolding_all rfl]
  unfold wL
  simp only [List.take, List.drop, List.headD, decide_eq_true_eq, Bool.not_eq_false', apply_ite (fun x : Nat => (x : Int))]
  rfl

theorem width2 (a b : Nat) : width ⟨#[a, b]⟩ = wL [a, b] := by
  unfold width
  rw [lacks_iff, lacks_iff, cps_dbl, cps_eqs, lit_dots, lit_arrow, lit_eq]
  simp only [beq_str]
  rw [show PySem.Txt.slice ⟨#[a, b]⟩ none (some 3) = (⟨#[a, b]⟩ : Str) from by with_unfolding_all rfl, show PySem.Txt.slice ⟨#[a, b]⟩ none (some 2) = (⟨#[a, b]⟩ : Str) from by with_unfolding_all rfl,
    show PySem.Txt.slice ⟨#[a, b]⟩ (some 1) (some 2) = (⟨#[b]⟩ : Str) from by with_unfolding_all rfl, show PySem.Txt.slice ⟨#[a, b]⟩ (some 2) (some (2 + 1)) = (⟨#[]⟩ : Str) from by with_unfolding_all rfl, show PySem.Txt.slice ⟨#[a, b]⟩ (some 1) (some (1 + 1)) = (⟨#[b]⟩ : Str) from by with_unfolding_all rfl,
    show PySem.Txt.item ⟨#[a, b]⟩ 0 = (⟨#[a]⟩ : Str) from by with_unfolding_all rfl, show (PySem.Txt.charAt ⟨#[a, b]⟩ 0).getD 0 = a from by with_unfolding_all rfl]
  unfold wL
  simp only [List.take, List.drop, List.headD, decide_eq_true_eq, Bool.not_eq_false', apply_ite (fun x : Nat => (x : Int))]
  rfl

theorem width3 (a b c : Nat) : width ⟨#[a, b, c]⟩ = wL [a, b, c] := by
  unfold width
  rw [lacks_iff, lacks_iff, cps_dbl, cps_eqs, lit_dots, lit_arrow, lit_eq]
  simp only [beq_str]
  rw [show PySem.Txt.slice ⟨#[a, b, c]⟩ none (some 3) = (⟨#[a, b, c]⟩ : Str) from by with_unfolding_all rfl, show PySem.Txt.slice ⟨#[a, b, c]⟩ none (some 2) = (⟨#[a, b]⟩ : Str) from by with_unfolding_all rfl,
    show PySem.Txt.slice ⟨#[a, b, c]⟩ (some 1) (some 2) = (⟨#[b]⟩ : Str) from by with_unfolding_all rfl, show PySem.Txt.slice ⟨#[a, b, c]⟩ (some 2) (some (2 + 1)) = (⟨#[c]⟩ : Str) from by with_unfolding_all rfl, show PySem.Txt.slice ⟨#[a, b, c]⟩ (some 1) (some (1 + 1)) = (⟨#[b]⟩ : Str) from by with_unfolding_all rfl,
    show PySem.Txt.item ⟨#[a, b, c]⟩ 0 = (⟨#[a]⟩ : Str) from by with_unfolding_all rfl, show (PySem.Txt.charAt ⟨#[a, b, c]⟩ 0).getD 0 = a from by with_unfolding_all rfl]
  unfold wL
  simp only [List.take, List.drop, List.headD, decide_eq_true_eq, Bool.not_eq_false', apply_ite (fun x : Nat => (x : Int))]
  rfl

theorem width4 (a b c d : Nat) : width ⟨#[a, b, c, d]⟩ = wL [a, b, c, d] := by
  unfold width
  rw [lacks_iff, lacks_iff, cps_dbl, cps_eqs, lit_dots, lit_arrow, lit_eq]
  simp only [beq_str]
  rw [show PySem.Txt.slice ⟨#[a, b, c, d]⟩ none (some 3) = (⟨#[a, b, c]⟩ : Str) from by with_unfolding_all rfl, show PySem.Txt.slice ⟨#[a, b, c, d]⟩ none (some 2) = (⟨#[a, b]⟩ : Str) from by with_unfolding_all rfl,
    show PySem.Txt.slice ⟨#[a, b, c, d]⟩ (some 1) (some 2) = (⟨#[b]⟩ : Str) from by with_unfolding_all rfl, show PySem.Txt.slice ⟨#[a, b, c, d]⟩ (some 2) (some (2 + 1)) = (⟨#[c]⟩ : Str) from by with_unfolding_all rfl, show PySem.Txt.slice ⟨#[a, b, c, d]⟩ (some 1) (some (1 + 1)) = (⟨#[b]⟩ : Str) from by with_unfolding_all rfl,
    show PySem.Txt.item ⟨#[a, b, c, d]⟩ 0 = (⟨#[a]⟩ : Str) from by with_unfolding_all rfl, show (PySem.Txt.charAt ⟨#[a, b, c, d]⟩ 0).getD 0 = a from by with_unfolding_all rfl]
  unfold wL
  simp only [List.take, List.drop, List.headD, decide_eq_true_eq, Bool.not_eq_false', apply_ite (fun x : Nat => (x : Int))]
  rfl

theorem shapes {q : Str} (h1 : 1 ≤ q.length) (h4 : q.length ≤ 4) : (∃ a, q = ⟨#[a]⟩) ∨ (∃ a b, q = ⟨#[a, b]⟩) ∨ (∃ a b c, q = ⟨#[a, b, c]⟩) ∨ ∃ a b c d, q = ⟨#[a, b, c, d]⟩ := by
  obtain ⟨⟨l⟩⟩ := q
  have h1' : 1 ≤ l.length := h1
  have h4' : l.length ≤ 4 := h4
  match l, h1', h4' with
  | [a], _, _ => exact .inl ⟨a, rfl⟩
  | [a, b], _, _ => exact .inr (.inl ⟨a, b, rfl⟩)
  | [a, b, c], _, _ => exact .inr (.inr (.inl ⟨a, b, c, rfl⟩))
  | [a, b, c, d], _, _ => exact .inr (.inr (.inr ⟨a, b, c, d, rfl⟩))
  | _ :: _ :: _ :: _ :: _ :: _, _, h => simp at h

theorem width_eq {q : Str} (h1 : 1 ≤ q.length) (h4 : q.length ≤ 4) : width q = wL q.cps.toList := by
  rcases shapes h1 h4 with ⟨a, rfl⟩ | ⟨a, b, rfl⟩ | ⟨a, b, c, rfl⟩ | ⟨a, b, c, d, rfl⟩
  · exact width1 a
  · exact width2 a b
  · exact width3 a b c
  · exact width4 a b c d

theorem wL_bounds (l : List Nat) : 1 ≤ wL l ∧ wL l ≤ 3 := by
  unfold wL
  (repeat' split) <;> omega

theorem rows1 : ∀ a ∈ alpha, a ∉ [32, 97, 36, 63, 96] → [a] ∈ rowN := by decide +kernel
theorem rows2 : ∀ a ∈ alpha, ∀ b ∈ alpha, a ∉ [32, 97, 36, 63, 96] → wL [a, b] = 2 → [a, b] ∈ rowN := by decide +kernel
theorem rows3 (a b c : Nat) (h : wL [a, b, c] = 3) : [a, b, c] ∈ rowN := by
  unfold wL at h
  split at h
  · rename_i e
    simp only [List.take, List.cons.injEq] at e
    obtain ⟨rfl, rfl, rfl, _⟩ := e
    decide +kernel
  · split at h
    · omega
    · split at h
      · rename_i e
        split at h
        · rename_i f
          simp only [List.take, List.drop, List.headD, List.cons.injEq, and_true] at e f
          obtain ⟨e1, rfl⟩ := e
          obtain ⟨_, rfl⟩ := f
          have key : ∀ x ∈ [42, 47, 60, 62], [x, x, 61] ∈ rowN := by decide +kernel
          exact key _ e1
        · omega
      · split at h <;> omega
theorem rowN_ok : ∀ l ∈ rowN, l.headD 0 ∉ [32, 97, 36, 63, 96] ∧ wL l = l.length := by decide +kernel
theorem rowL_eq : rowL = rowN.map fun l => (⟨l.toArray⟩ : Str) := by decide +kernel

theorem mem_row {q : Str} : q ∈ rowL ↔ q.cps.toList ∈ rowN := by
  rw [rowL_eq, List.mem_map]
  constructor
  · rintro ⟨l, hl, rfl⟩; simpa using hl
  · intro h; exact ⟨_, h, by cases q; simp⟩

def isInt7 (d : Option PyData) (j : Nat) : Bool := match d with
  | some (.int n) => n == 7 + (j : Int)
  | _ => false
theorem isInt7_of {d : Option PyData} {j : Nat} (h : isInt7 d j = true) : d = some (.int (7 + (j : Int))) := by
  unfold isInt7 at h
  split at h
  · rw [beq_iff_eq.mp h]
  · cases h
theorem tab_at : ∀ j : _root_.Fin 48, (rowL[j.val]?).any (fun q => isInt7 (PySem.Spec.lookup (.str q) tabP) j.val) = true ∧ ∀ m : _root_.Fin 48, m.val < j.val → rowL[m.val]? ≠ rowL[j.val]? := by decide +kernel
theorem keys_in : ∀ p ∈ tabD, p.1 ∈ rowL := by decide +kernel

theorem lookup_none {q : Str} : ∀ {D : List (Str × PyData)}, (∀ p ∈ D, p.1 ≠ q) → PySem.Spec.lookup (.str q) (D.map fun p => (PyData.str p.1, p.2)) = none
  | [], _ => rfl
  | (k, v) :: D, h => by
    show (if PySem.Spec.same (PyData.str k) (PyData.str q) = true then some v else PySem.Spec.lookup (PyData.str q) (D.map fun p => (PyData.str p.1, p.2))) = none
    rw [PyProof.V.same_str, if_neg (by simpa using h (k, v) (.head _))]
    exact lookup_none fun p hp => h p (.tail _ hp)

theorem lacks_bl {q : Str} (h1 : 1 ≤ q.length) : lacks " a$?`" q = true ↔ q.cps.toList.headD 0 ∉ [32, 97, 36, 63, 96] := by
  rw [lacks_iff, cps_bl]
  have e : (PySem.Txt.charAt q 0).getD 0 = q.cps.toList.headD 0 := by
    obtain ⟨⟨l⟩⟩ := q
    match l, h1 with
    | a :: r, _ =>
      show ((PySem.seqIndex? 0 (r.length + 1)).bind _).getD 0 = a
      rw [show PySem.seqIndex? 0 (r.length + 1) = some 0 from by unfold PySem.seqIndex?; simp]
      rfl
  rw [e]
  simp

theorem lawB {q : Str} (hq : okText q) (h1 : 1 ≤ q.length) (h4 : q.length ≤ 4) (hb : lacks " a$?`" q = true) (hw : width q = (q.length : Int)) :
    ∃ j : Nat, j < 48 ∧ rowL[j]? = some q ∧ (∀ m, m < j → rowL[m]? ≠ some q) ∧ PySem.Spec.lookup (.str q) tabP = some (.int (7 + (j : Int))) := by
  have hmem : q ∈ rowL := by
    rw [mem_row]
    rw [width_eq h1 h4] at hw
    rw [lacks_bl h1] at hb
    rcases shapes h1 h4 with ⟨a, rfl⟩ | ⟨a, b, rfl⟩ | ⟨a, b, c, rfl⟩ | ⟨a, b, c, d, rfl⟩
    · exact rows1 a (hq a (by simp)) hb
    · exact rows2 a (hq a (by simp)) b (hq b (by simp)) hb (Int.ofNat.inj hw)
    · exact rows3 a b c (Int.ofNat.inj hw)
    · have := (wL_bounds [a, b, c, d]).2
      have e := Int.ofNat.inj hw
      have e' : wL [a, b, c, d] = 4 := e
      omega
  obtain ⟨j, hj, e⟩ := List.mem_iff_getElem.mp hmem
  have hj' : j < 48 := hj
  have e' : rowL[j]? = some q := by rw [List.getElem?_eq_getElem hj, e]
  obtain ⟨k1, k2⟩ := tab_at ⟨j, hj'⟩
  refine ⟨j, hj', e', fun m hm => ?_, ?_⟩
  · rw [← e']; exact k2 ⟨m, by omega⟩ hm
  · rw [e'] at k1
    exact isInt7_of k1

theorem lawN {q : Str} (h1 : 1 ≤ q.length) (h4 : q.length ≤ 4) (h : lacks " a$?`" q = false ∨ width q ≠ (q.length : Int)) : PySem.Spec.lookup (.str q) tabP = none := by
  refine lookup_none fun p hp e => ?_
  have hm := mem_row.mp (keys_in p hp)
  rw [e] at hm
  obtain ⟨a, b⟩ := rowN_ok _ hm
  rcases h with h | h
  · rw [(lacks_bl h1).mpr a] at h; cases h
  · refine h ?_
    rw [width_eq h1 h4, b]
    rfl
end Mine

-- part HD
namespace Mine
open_top hd for PySem.Challenge.rw_ki0093_01
end Mine

-- part BS
namespace Mine
open PySem.Calls PySem.Spec
noncomputable abbrev Prg := PySem.Challenge.rw_ki0093_01.row.prog
noncomputable abbrev Loose : List Str := looseW hd.view_39 [Str.ofString "EXACT_TOKEN_TYPES"]
abbrev Claim (f : Addr) (news : List (Addr × Obj)) (pre : Prop) (vs : List Value) (R : Tok → Value) : Prop :=
  ∀ (w : World) (mean : ExcName → Option Value) (mg mb : Str → Option Value), CbClaim Prg w (hd.heap_39 w.params) hd.view_39 Loose mean mg mb f news [] pre vs R

theorem okText_slice {x : Str} {i j : Int} (hq : okText x) (h0 : 0 ≤ i) (h1 : i ≤ j) (h2 : j ≤ x.length) : okText (Txt.slice x (some i) (some j)) := by
  rw [eq_of_beq (slice_closesL h0 h1 h2)]
  intro c hc
  exact hq c (List.mem_of_mem_drop (List.mem_of_mem_take hc))

section
variable {prog : Program} {w : World} {A : Around} {E : Value → Shared → Prop} {s : Shared} {h₀ : Heap} {L : Addr} {m : Str → Option Value} {news : List (Addr × Obj)} {x : Str} {t : Tok} {value slice : Expr} {Q : Value → Shared → Prop}
theorem piece_slice {i j : Int} {ui uj : Tok} (hF : Fr h₀ L s.heap m) (hN : News h₀ L s.heap news) (hq : okText x) (h0 : 0 ≤ i) (h1 : i ≤ j) (h2 : j ≤ x.length) (hsz : x.length ≤ sizeLine)
    (h : ∀ q h' t' k, Fr h₀ L h' m → News h₀ L h' news → okText q → (q.length : Int) = j - i → Q (.str q t') { s with heap := h', toks := k })
    (hs : subscripted slice false (.str x t) (.ref s.heap.objs.size) = operate [.ref s.heap.objs.size, .str x t] (getItem (.str x t) (.ref s.heap.objs.size)) := by with_unfolding_all rfl)
    (ht : ∀ r, letTemporaryGo value (.str x t) r = pure () := by intro _; with_unfolding_all rfl) :
    wpAny (model prog w) A (subscriptTail value slice (.str x t) (.ref s.heap.objs.size)) Q E { s with heap := s.heap.push { cls := .type "slice", data := .fields #[.int i ui, .int j uj, .none] } } :=
  slice_strN_ss hF hN (fun h' t' k a b => h _ h' t' k a b (okText_slice hq h0 h1 h2) (fact_slice_ss x i j h0 h1 h2)) hs ht hsz

theorem strs_at {vs : List Value} {ys : List Str} (hi : StrsAre vs ys) : ∀ (j : Nat) (y : Str), ys[j]? = some y → ∃ t, vs[j]? = some (.str y t) := by
  induction hi with
  | nil => intro j y h; simp at h
  | cons z u r ih =>
    intro j y h
    cases j with
    | zero => simp at h; subst h; exact ⟨u, by simp⟩
    | succ j => simpa using ih j y (by simpa using h)

theorem row_index {vs : List Value} {ys : List Str} {D : Addr} {n j : Nat} {q : Str} (N : News h₀ L s.heap news) (hm : (D, listOf vs.toArray n) ∈ news) (hi : StrsAre vs ys) (hj : ys[j]? = some q) (hno : ∀ k, k < j → ys[k]? ≠ some q) (hs : j < 48)
    (h : Q (.int j s.toks) { s with toks := s.toks + 1 }) : wpAny (model prog w) A (call (.builtin "list.index") [.ref D, .str q t]) Q E s := by
  have hlen : vs.length = ys.length := hi.length
  have hj' : j < ys.length := (List.getElem?_eq_some_iff.mp hj).1
  have hv : j < vs.length := by omega
  refine call_meets PySem.F.slot_list_index ⟨_, (N _ hm).1, rfl⟩ PySem.F.entry_list_index (PySem.F.args_list_index_2 _ _)
    (MeetsSeq.list_index D vs.toArray n (.str q t) (isStrOf q) (fun y hy => eq_isStrOf q t hi y (by simpa using hy)) j (by simpa using hv) (by omega) ?_ ?_) ⟨(N _ hm).1, h⟩
  · obtain ⟨u, e⟩ := strs_at hi j q hj
    have e' : vs.toArray[j]'(by simpa using hv) = .str q u := by
      have := (List.getElem?_eq_some_iff.mp e).2
      simpa using this
    rw [e']
    simp [isStrOf]
  · intro k hk hlt
    have hk' : k < ys.length := by omega
    obtain ⟨u, e⟩ := strs_at hi k ys[k] (List.getElem?_eq_getElem hk')
    have e' : vs.toArray[k] = .str ys[k] u := by
      have := (List.getElem?_eq_some_iff.mp e).2
      simpa using this
    rw [e']
    have hne := hno k hlt
    rw [List.getElem?_eq_getElem hk'] at hne
    simpa [isStrOf] using fun (e : ys[k] = q) => hne (by rw [e])
end

theorem tab_in (prog : Program) (w : World) {h : Heap} (X : (hd.heap_39 w.params).In h) : StrTab prog w h 15 tabP := kt_tab_in (D := tabD) prog w X (by kernel_rfl) (by decide +kernel) (by kernel_rfl)

section
variable {prog : Program} {w : World} {A : Around} {E : Value → Shared → Prop} {s : Shared} {h₀ : Heap} {L : Addr} {m : Str → Option Value} {q : Str} {t : Tok} {Q : Value → Shared → Prop}
theorem tab_get_some {k : Int} (X : (hd.heap_39 w.params).In h₀) (F : Fr h₀ L s.heap m) (hl : PySem.Spec.lookup (.str q) tabP = some (.int k)) (h : ∀ t', Q (.int k t') { s with toks := s.toks + 1 }) :
    wpAny (model prog w) A (call (.builtin "dict.get") [.ref 15, .str q t]) Q E s :=
  kt_get1_thereS (tab_in prog w (X.keeps F.keep)) hl fun v hv => by obtain ⟨t', rfl⟩ := hv.int_inv; exact h t'
theorem tab_get_none (X : (hd.heap_39 w.params).In h₀) (F : Fr h₀ L s.heap m) (hl : PySem.Spec.lookup (.str q) tabP = none) (h : Q .none { s with toks := s.toks + 1 }) :
    wpAny (model prog w) A (call (.builtin "dict.get") [.ref 15, .str q t]) Q E s :=
  kt_get1_noneS (tab_in prog w (X.keeps F.keep)) hl h
theorem tab_method {pl : Sem Bool} {Q : Value × List Value → Shared → Prop} (X : (hd.heap_39 w.params).In h₀) (F : Fr h₀ L s.heap m) (h : Q (.builtin "dict.get", [.ref 15]) s) :
    wpAny (model prog w) A (getMethod (.ref 15) "get" pl) Q E s := getMethod_strTab_get (tab_in prog w (X.keeps F.keep)) h
end
section
variable {prog : Program} {w : World} {A : Around} {E : Value → Shared → Prop} {s : Shared} {h₀ : Heap} {L : Addr} {m : Str → Option Value} {news : List (Addr × Obj)} {t : Tok} {Q : Value → Shared → Prop}
theorem index_line {vs : List Value} {D : Addr} {n : Nat} {q : Str} (N : News h₀ L s.heap news) (hm : (D, listOf vs.toArray n) ∈ news) (hi : StrsAre vs rowL) (hq : okText q) (h1 : 1 ≤ q.length) (h4 : q.length ≤ 4) (hb : lacks " a$?`" q = true) (hw : width q = (q.length : Int))
    (h : ∀ j : Nat, j < 48 → PySem.Spec.lookup (.str q) tabP = some (.int (7 + (j : Int))) → Q (.int j s.toks) { s with toks := s.toks + 1 }) : wpAny (model prog w) A (call (.builtin "list.index") [.ref D, .str q t]) Q E s := by
  obtain ⟨j, hj, ha, hno, hlk⟩ := lawB hq h1 h4 hb hw
  exact row_index N hm hi ha hno hj (h j hj hlk)
end
end Mine

-- part W1
namespace Mine
open PySem.Calls PySem.Spec
section
local macro_rules | `(tactic| walk_at "execs cons") => `(tactic| ((with_reducible refine wpAny_execs_cons ?_); try dsimp only))
local macro_rules | `(tactic| walk_at "execs nil") => `(tactic| refine wpAny_execs_nil ?_)
theorem width_call (news : List (Addr × Obj)) (p : Str) (t : Tok) : Claim 52 news (p.length ≠ 0 ∧ p.length ≤ 4) [.str p t] (fun t' => .int (width p) t') := by
  w_top off
  unfold Claim Prg Loose
  k_fill
  dsimp only [Claim, CbClaim, CbLists, CbRet]; intros; rename_i hret
  have cbI : CbIn 52 := CbIn.mk
  refine wpAny_call ?_
  (first | k_dflt cell_enter | ktn_no "k_call_by: the def is not entered")
  k_steps
  all_goals (refine cb_retI hret (Eq.symm ?_) (by with_reducible assumption) (by with_reducible assumption); first
    | exact width_dots (by with_reducible assumption)
    | exact width_arrow (by with_reducible assumption) (by with_reducible assumption)
    | exact width_one_eq (by with_reducible assumption) (by with_reducible assumption) (by first | exact .inl (by with_reducible assumption) | exact .inr (by with_reducible assumption)) (by with_reducible assumption) (by with_reducible assumption)
    | exact width_one (by with_reducible assumption) (by with_reducible assumption) (by first | exact .inl (by with_reducible assumption) | exact .inr (by with_reducible assumption)) (by first | exact .inl (by with_reducible assumption) | exact .inr (by with_reducible assumption))
    | exact width_two_eq (by with_reducible assumption) (by with_reducible assumption) (by with_reducible assumption) (by with_reducible assumption) (by with_reducible assumption) (by with_reducible assumption)
    | exact width_two (by with_reducible assumption) (by with_reducible assumption) (by with_reducible assumption) (by with_reducible assumption) (by first | exact .inl (by with_reducible assumption) | exact .inr (by with_reducible assumption)))

end
theorem width_go {w : World} {mean : ExcName → Option Value} {mg mb : Str → Option Value} {news : List (Addr × Obj)} {p : Str} {t : Tok} {dp un : Nat} {gd : Option (List Code)} {cn : Str} {cs : Scope} {a : Addr} {ccd : Value} {cl : List (Str × Addr)} {outer : List Env} {A₀ : Around} {base h₀ : Heap} {L : Addr} {m : Str → Option Value} {s : Shared} {Q E : Value → Shared → Prop}
    (B : Below A₀ base outer h₀) (F : Fr h₀ L s.heap m) (X : (hd.heap_39 w.params).In h₀) (N : News h₀ L s.heap news) (T : Top hd.view_39 Loose mean mg mb h₀) (hk : cs.kind = .function)
    (h1 : 1 ≤ p.length) (h4 : p.length ≤ 4) (hdp : dp + 1 < recursionLimit) (hun : un + 8 < cLine)
    (hret : ∀ (t : Tok) (h' : Heap) (tk' : Nat), Fr h₀ L h' m → News h₀ L h' news → Q (.int (width p) t) { s with heap := h', toks := tk' }) :
    wpAny (model Prg w) (ktrTop dp un gd cn cs L a ccd cl outer) (call (.ref 52) [.str p t]) Q E s :=
  width_call news p t w mean mg mb dp un gd cn cs a ccd cl outer A₀ base h₀ L m s Q E B F X N T hk ⟨by omega, h4⟩ hdp hun hret
end Mine

-- part S1
namespace Mine
open PySem.Calls PySem.Spec
theorem due_ne {j : Nat} (h : (7 : Int) + (j : Int) ≠ 7 + (j : Int)) : False := h rfl
theorem due_kinds {j : Nat} (hj : j < 48) (h : (decide ((7 : Int) + (j : Int) < 256) == true && (decide ((256 : Int) ≤ 7 + (j : Int)) == false && ((7 : Int) + (j : Int) == 0) == false)) = false) : False := by
  have h1 : decide ((7 : Int) + (j : Int) < 256) = true := decide_eq_true (by omega)
  have h2 : decide ((256 : Int) ≤ 7 + (j : Int)) = false := decide_eq_false (by omega)
  have h3 : ((7 : Int) + (j : Int) == 0) = false := beq_eq_false_iff_ne.mpr (by omega)
  rw [h1, h2, h3] at h
  cases h
section
local macro_rules | `(tactic| walk_at "subscriptTail Name Slice str ref") => `(tactic| (k_here; (with_reducible show wpAny _ _ (subscriptTail _ (Expr.Slice (some _) (some _) none _) _ _) _ _ _); (with_reducible rename Fr _ _ _ _ => F'); (with_reducible rename News _ _ _ _ => N'); (refine piece_slice (s := ⟨_, _, _, _, _⟩) F' N' (by assumption) (by omega) (by omega) (by omega) (by rw [sizeLine_eq]; omega) ?_); intro q' h' t' k' F' N' hq' hl'; (have hq1 : 1 ≤ q'.length := by omega); (have hq4 : q'.length ≤ 4 := by omega)))
local macro_rules | `(tactic| walk_at "call ref") => `(tactic| (k_here; (with_reducible show wpAny _ _ (call (Value.ref 52) [Value.str _ _]) _ _ _); k_dflt (refine' width_go ?k1 ?k2 ?k3 ?k4 ?k5 ?kK ?h1 ?h4 ?kd ?ku ?_; (case k1 => k_asm); (case k2 => k_asm); (case k3 => k_asm); (case k4 => k_asm); (case k5 => k_asm); (case kK => exact rfl); (case h1 => assumption); (case h4 => assumption); (case kd => ktr_room); (case ku => ktr_units); intro t9 h9 tk9 F9 N9; (try dsimp only); (try k_fold))))
local macro_rules | `(tactic| walk_at "call builtin:list.index") => `(tactic| (k_here; (with_reducible show wpAny _ _ (call (Value.builtin "list.index") [Value.ref _, Value.str _ _]) _ _ _); k_dflt (refine' index_line ?k1 ?k2 ?k3 ?k4 ?k5 ?k6 ?k7 ?k8 ?_; (case k1 => k_asm); (case k2 => k_mem); (case k3 => assumption); (case k4 => assumption); (case k5 => assumption); (case k6 => assumption); (case k7 => assumption); (case k8 => omega)); intro j' hj48 hjlk))
local macro_rules | `(tactic| walk_at "call builtin:dict.get") => `(tactic| (k_here; (with_reducible show wpAny _ _ (call (Value.builtin "dict.get") [Value.ref _, Value.str _ _]) _ _ _); k_dflt (first
  | (refine tab_get_some (by k_asm) (by k_asm) (by assumption) ?_; intro t8)
  | (refine tab_get_none (by k_asm) (by k_asm) (lawN (by assumption) (by assumption) (.inl (by assumption))) ?_)
  | (refine tab_get_none (by k_asm) (by k_asm) (lawN (by assumption) (by assumption) (.inr (by omega))) ?_))))
local macro_rules | `(tactic| walk_at "execs cons") => `(tactic| ((with_reducible refine wpAny_execs_cons ?_); try dsimp only))
local macro_rules | `(tactic| walk_at "execs nil") => `(tactic| refine wpAny_execs_nil ?_)
local macro_rules | `(tactic| walk_at "InvEndN") => `(tactic| ksr_close)
theorem slices_call {w : World} {mean : ExcName → Option Value} {mg mb : Str → Option Value} {news : List (Addr × Obj)} {p : Str} {t : Tok} {i : Int} {ti : Tok} {l : Addr} {vs : List Value} {cn : Str} {cs : Scope} {a : Addr} {ccd : Value} {cl : List (Str × Addr)} {base h₀ : Heap} {L : Addr} {m : Str → Option Value} {s : Shared} {Q E : Value → Shared → Prop}
    (hvs : StrsAre vs rowL) (hp : okText p) (hlen : p.length ≤ 100) (hi0 : 0 ≤ i) (hi : i < p.length)
    (B : Below callerA base [] h₀) (F : Fr h₀ L s.heap m) (X : (hd.heap_39 w.params).In h₀) (N : News h₀ L s.heap ((l, listOf vs.toArray 0) :: news)) (T : Top hd.view_39 (looseW hd.view_39 [Str.ofString "EXACT_TOKEN_TYPES"]) mean mg mb h₀) (hk : cs.kind = .function)
    (hret : ∀ (h' : Heap) (tk' : Nat), Fr h₀ L h' m → News h₀ L h' ((l, listOf vs.toArray 0) :: news) → Q (.bool true) { s with heap := h', toks := tk' }) :
    wpAny (model PySem.Challenge.rw_ki0093_01.row.prog w) (callerA.deeper (envX cn cs L a ccd cl)) (call (.ref 66) [.str p t, .int i ti, .ref l]) Q E s := by
  w_top off
  revert X
  k_fill
  intro X
  (k_with "pyIter ref" => k_search (fun _ => True))
  refine wpAny_call ?_
  (first | k_dflt cell_enter | ktn_no "k_call_by: the def is not entered")
  k_steps
  all_goals first
    | exact hret _ _ (by assumption) (by assumption)
    | exact (due_ne (by assumption)).elim
    | exact (due_kinds (by assumption) (by assumption)).elim
end
end Mine

-- part LB
namespace Mine
open PySem.Calls PySem.Spec
abbrev signs : Str := Str.ofString "!%&()*+,-./:;<=>\x40[]^{|}~ a$?`"
theorem signs_in : ∀ n : _root_.Fin 29, signs.cps.getD n.val 0 ∈ alpha := by decide +kernel
theorem sign_ok (k : Int) : okText (Txt.item signs (k.fmod 29)) := by
  have h0 := fmod_lo k (n := 29) (by decide)
  have h1 := fmod_hi k (n := 29) (by decide)
  have hl : signs.length = 29 := by decide +kernel
  rw [PySem.W.item_meets (x := signs) ⟨h0, by rw [hl]; exact h1⟩]
  intro c hc
  have : c = signs.cps.getD (k.fmod 29).toNat 0 := by simpa using hc
  rw [this]
  exact signs_in ⟨(k.fmod 29).toNat, by omega⟩

theorem okText_append {x y : Str} (hx : okText x) (hy : okText y) : okText (x ++ y) := by
  intro c hc
  have : c ∈ x.cps.toList ++ y.cps.toList := by simpa using (show c ∈ (x.cps ++ y.cps).toList from hc)
  rcases List.mem_append.mp this with h | h
  · exact hx c h
  · exact hy c h
theorem okText_tail : okText (Str.ofString "<<=**//->...!=<>==:") := by unfold okText; decide +kernel
theorem tail_len : (Str.ofString "<<=**//->...!=<>==:").length = 19 := by decide +kernel
theorem row_split : Txt.split (Str.ofString "( ) [ ] : , ; + - * / | & < > = . % { } == != <= >= ~ ^ << >> ** " ++ Str.ofString "+= -= *= /= %= &= |= ^= <<= >>= **= // //= @ @= -> ... := !") (Str.ofString " ") = rowL := by decide +kernel
theorem row_strs {vs : List Value} {ys : List Str} (h : StrsAre vs ys) (e : ys = Txt.split (Str.ofString "( ) [ ] : , ; + - * / | & < > = . % { } == != <= >= ~ ^ << >> ** " ++ Str.ofString "+= -= *= /= %= &= |= ^= <<= >>= **= // //= @ @= -> ... := !") (Str.ofString " ")) : StrsAre vs rowL := by
  rw [row_split] at e
  rw [← e]
  exact h
theorem okText_join : ∀ {ts : List Str}, (∀ x ∈ ts, okText x) → okText (Txt.join (Str.ofString "") ts) := by
  intro ts h
  unfold Txt.join
  rw [PySem.StrLaws.glued_eq_join]
  induction ts with
  | nil => intro c hc; exact absurd hc (by simp [Str.join, Str.empty])
  | cons x r ih =>
    cases r with
    | nil => exact h x (.head _)
    | cons y r =>
      show okText (x ++ Str.ofString "" ++ Str.join (Str.ofString "") (y :: r))
      refine okText_append (okText_append (h x (.head _)) ?_) (ih fun z hz => h z (.tail _ hz))
      intro c hc
      exact absurd hc (by rw [show (Str.ofString "").cps.toList = [] from by decide +kernel]; simp)
section
variable {prog : Program} {w : World} {A : Around} {E : Value → Shared → Prop} {s : Shared} {D : Addr} {ys : List Value} {ks : List Int} {t : Tok} {Q : Value → Shared → Prop}
theorem sign_join {sg : Str} (hg : ∀ k : Int, okText (Txt.item sg (k.fmod 29))) (hl : s.heap.IsList D ys.toArray) (hc : CarriedAll ys (ks.map fun k => PyData.str (Txt.item sg (k.fmod 29)))) (hn : ks.length ≤ 63)
    (h : ∀ x t' k, okText x → x.length = ks.length → Q (.str x t') { s with toks := k }) :
    wpAny (model prog w) A (call (.builtin "str.join") [.str (Str.ofString "") t, .ref D]) Q E s :=
  KT.join_1 (l := ks) (g := fun k : Int => Txt.item sg (k.fmod 29)) hl hc (fun k _ => len_item sg (k.fmod 29)) (by omega) fun t' k e => h _ t' k (okText_join fun x hx => by
    obtain ⟨k, _, rfl⟩ := List.mem_map.mp hx
    exact hg k) e
theorem text_add {x y : Str} {u : Tok} (hx : okText x) (hl : x.length ≤ 63) (hy : okText y) (hly : y.length = 19)
    (h : ∀ z t' k, okText z → z.length ≤ 100 → Q (.str z t') { s with toks := k }) :
    wpAny (model prog w) A (binaryOp .Add (.str x t) (.str y u)) Q E s :=
  SBL.add (fun t' k e => h _ t' k (okText_append hx hy) (by omega)) (by rw [sizeLine_eq]; omega)
end
section
variable {prog : Program} {w : World} {A : Around} {E : Value → Shared → Prop} {s : Shared} {h₀ : Heap} {L D : Addr} {m : Str → Option Value} {news : List (Addr × Obj)} {Q : Value → Shared → Prop}
theorem tab_len (X : (hd.heap_39 w.params).In h₀) (F : Fr h₀ L s.heap m) (h : Q (.int 48 (s.toks + 1)) { s with toks := s.toks + 1 + 1 }) :
    wpAny (model prog w) A (call (.builtin "len") [.ref 15]) Q E s :=
  len_tab (knd := PySem.strKind prog w) (enc := PyData.str) (tab_in prog w (X.keeps F.keep)) (by decide +kernel) h
theorem row_len {vs : List Value} {ys : List Str} {n : Nat} (N : News h₀ L s.heap news) (hm : (D, listOf vs.toArray n) ∈ news) (hi : StrsAre vs ys)
    (e : ys = Txt.split (Str.ofString "( ) [ ] : , ; + - * / | & < > = . % { } == != <= >= ~ ^ << >> ** " ++ Str.ofString "+= -= *= /= %= &= |= ^= <<= >>= **= // //= @ @= -> ... := !") (Str.ofString " "))
    (h : Q (.int 48 (s.toks + 1)) { s with toks := s.toks + 1 + 1 }) : wpAny (model prog w) A (call (.builtin "len") [.ref D]) Q E s :=
  kst_len N hm (k := 48) (by have := (row_strs hi e).length; rw [this]; rfl) (by decide) h
theorem ne_bools {x y : Addr} {a1 a2 a3 b1 b2 b3 : Bool} {n k : Nat} (N : News h₀ L s.heap news) (h1 : (x, listOf #[.bool a1, .bool a2, .bool a3] n) ∈ news) (h2 : (y, listOf #[.bool b1, .bool b2, .bool b3] k) ∈ news)
    (e : a1 = b1 ∧ a2 = b2 ∧ a3 = b3) (hu : A.units + 64 < cLine) (h : Q (.bool false) s) : wpAny (model prog w) A (compareOp .NotEq (.ref x) (.ref y)) Q E s := by
  obtain ⟨rfl, rfl, rfl⟩ := e
  refine ne_dataH (reads_list_at (N.get h1) rfl rfl (.cons (.bool _) (.cons (.bool _) (.cons (.bool _) .nil)))) (reads_list_at (N.get h2) rfl rfl (.cons (.bool _) (.cons (.bool _) (.cons (.bool _) .nil)))) rfl rfl hu ?_
  simp only [PyData.eqv, PyData.eqvAll, beq_self_eq_true, Bool.and_true, Bool.not_true]
  exact h
theorem kinds_eq (n : Int) : decide (n < 256) = ((if (255 : Int) > n then (255 : Int) else n) == 255) ∧ decide ((256 : Int) ≤ n) = (!((if (255 : Int) > n then (255 : Int) else n) == 255)) ∧ (n == 0) = ([(0 : Int)].any fun x => x == n) := by
  by_cases h : (255 : Int) > n
  · rw [if_pos h]
    refine ⟨by simp; omega, by simp; omega, ?_⟩
    simp only [List.any_cons, List.any_nil, Bool.or_false]
    exact Bool.eq_iff_iff.mpr ⟨fun e => by rw [beq_iff_eq] at e ⊢; exact e.symm, fun e => by rw [beq_iff_eq] at e ⊢; exact e.symm⟩
  · rw [if_neg h]
    refine ⟨Bool.eq_iff_iff.mpr (by simp; omega), Bool.eq_iff_iff.mpr (by simp; omega), ?_⟩
    simp only [List.any_cons, List.any_nil, Bool.or_false]
    exact Bool.eq_iff_iff.mpr ⟨fun e => by rw [beq_iff_eq] at e ⊢; exact e.symm, fun e => by rw [beq_iff_eq] at e ⊢; exact e.symm⟩
end
end Mine

-- part L1
namespace Mine
open PySem.Calls PySem.Spec
section
local macro_rules | `(tactic| walk_at "CompSrc") => `(tactic| (k_here; k_dflt (refine LCg.CompSrc.ledger (by rfl) (by k_asm) (by k_asm) (by k_mem) (by kcf_size) ?_; intro g'; (refine' kct_list (fun k : Int => Txt.item signs (k.fmod 29)) (by first | assumption | l_ints) (fun k' t' I' oI' C' oC' D' m' ys' h' tk' E' hk' hC' hx' F' N' off' ne' hMark' => ?_) ?_); (all_goals (try (simp only [LCg.Off3, and_true] at off'))); kcf_last)))
local macro_rules | `(tactic| walk_at "call builtin:str.join") => `(tactic| (k_here; (with_reducible show wpAny _ _ (call (Value.builtin "str.join") [Value.str _ _, Value.ref _]) _ _ _); (with_reducible rename CarriedAll _ (List.map _ _) => ktC); refine sign_join (ks := List.take 48 _) sign_ok (by first | assumption | is_list | exact News.isList (by k_asm) (by k_mem)) ktC (by omega) ?_; intro x' t' k' hx' hl'))
local macro_rules | `(tactic| walk_at "binaryOp Add str str") => `(tactic| (k_here; (with_reducible show wpAny _ _ (binaryOp Operator.Add (Value.str _ _) (Value.str _ _)) _ _ _); refine text_add (by assumption) (by omega) okText_tail tail_len ?_; intro z' t' k' hz' hl'))
local macro_rules | `(tactic| walk_at "exec For Name BinOp cons nil") => `(tactic| (k_here; (rename Fr _ _ _ _ => lF'); (with_unfolding_all refine' For_invVF lF' ?k1 ?k2 ?_; (case k1 => exact rfl); (case k2 => exact rfl); k_whole)))
local macro_rules | `(tactic| walk_at "call ref") => `(tactic| (k_here; (with_reducible show wpAny _ _ (call (Value.ref 66) [Value.str _ _, Value.int _ _, Value.ref _]) _ _ _); k_dflt (refine' slices_call ?v ?p ?len ?i0 ?i ?B ?F ?X ?N ?T ?k ?_; (case F => k_asm); (case N => k_asm); (case B => k_asm); (case X => k_asm); (case T => k_asm); (case k => exact rfl); (case v => exact row_strs (by assumption) (by assumption)); (case p => assumption); (case len => assumption); (case i0 => omega); (case i => omega); intro h9 tk9 F9 N9; (try dsimp only); (try k_fold))))
local macro_rules | `(tactic| walk_at "compareOp NotEq ref ref") => `(tactic| (k_here; (with_reducible show wpAny _ _ (compareOp CmpOp.NotEq (Value.ref _) (Value.ref _)) _ _ _); k_dflt (refine' ne_bools ?k1 ?k2 ?k3 ?k4 ?k5 ?_; (case k1 => k_asm); (case k2 => k_mem); (case k3 => k_mem); (case k4 => exact kinds_eq _); (case k5 => ke_room))))
local macro_rules | `(tactic| walk_at "call builtin:len") => `(tactic| (k_here; (with_reducible show wpAny _ _ (call (Value.builtin "len") [Value.ref _]) _ _ _); k_dflt (first
  | (refine tab_len (by k_asm) (by k_asm) ?_)
  | (refine row_len (by k_asm) (by k_mem) (by assumption) (by assumption) ?_))))
local macro_rules | `(tactic| walk_at "CompEnd") => `(tactic| (k_here; k_dflt (refine LCg.CompEnd.intro (by assumption) (by assumption) _ (fun _ hp => hp) (by first | assumption | (simp only [LCg.Off3, and_true]; assumption)) (by first | lcg_src | assumption) ?_)))
local macro_rules | `(tactic| walk_at "execs cons") => `(tactic| ((with_reducible refine wpAny_execs_cons ?_); try dsimp only))
local macro_rules | `(tactic| walk_at "execs nil") => `(tactic| refine wpAny_execs_nil ?_)
local macro_rules | `(tactic| walk_at "InvEndN") => `(tactic| ksr_close)
theorem law_walk : PySem.Challenge.rw_ki0093_01.Holds := hd (by
  (k_with "pyIter ref" => k_search (fun _ => True))
  k_go0
  (all_goals try k_fold)
  k_steps
  done)
end
end Mine

theorem PySem.Challenge.cw_ki0093_01_holds : PySem.Challenge.rw_ki0093_01.Holds :=
  Mine.law_walk
