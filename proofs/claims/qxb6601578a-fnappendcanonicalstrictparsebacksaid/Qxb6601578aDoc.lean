/-
  JSON documents, told plainly; nothing of the program in it. A document of depth at most n: its kind, its text, its items, its members.
-/
import Derived.Test.Qxb6601578aPlain2
namespace Go.Proofs.Qxb6601578a.Js

def Doc : Nat → Type
  | 0 => Empty
  | n + 1 => Nat × List UInt8 × List (Doc n) × List (List UInt8 × Doc n)

/-- Texts with commas between them. -/
def join : List (List UInt8) → List UInt8
  | [] => []
  | x :: r => x ++ (match r with | [] => [] | _ :: _ => 44 :: join r)

theorem join_snoc (l : List (List UInt8)) (x : List UInt8) : join (l ++ [x]) = if l = [] then x else join l ++ 44 :: x := by
  induction l with
  | nil => simp [join]
  | cons a r ih =>
    cases r with
    | nil => simp [join]
    | cons b r =>
      simp only [List.cons_append, join] at ih ⊢
      rw [ih]
      simp

/-- How far the digits go. -/
def digs : List UInt8 → Nat
  | [] => 0
  | c :: r => if 48 ≤ c ∧ c ≤ 57 then digs r + 1 else 0

/-- The fraction's length behind a '.', none where a digit lacks. -/
def fracLen (l : List UInt8) : Option Nat :=
  match l with
  | [] => some 0
  | c :: r => if c = 46 then (if digs r = 0 then none else some (digs r + 1)) else some 0
def sgnLen (l : List UInt8) : Nat :=
  match l with
  | [] => 0
  | c :: _ => if c = 43 ∨ c = 45 then 1 else 0
def expLen (l : List UInt8) : Option Nat :=
  match l with
  | [] => some 0
  | c :: r => if c = 101 ∨ c = 69 then (if digs (r.drop (sgnLen r)) = 0 then none else some (1 + sgnLen r + digs (r.drop (sgnLen r)))) else some 0
def intLen (l : List UInt8) : Option Nat :=
  match l with
  | [] => none
  | c :: _ => if c = 48 then some 1 else if 49 ≤ c ∧ c ≤ 57 then some (digs l) else none
def negLen (l : List UInt8) : Nat :=
  match l with
  | [] => 0
  | c :: _ => if c = 45 then 1 else 0
/-- How far RFC 8259's number goes. -/
def numLen (l : List UInt8) : Option Nat :=
  match intLen (l.drop (negLen l)) with
  | none => none
  | some b => match fracLen (l.drop (negLen l + b)) with
    | none => none
    | some f => match expLen (l.drop (negLen l + b + f)) with
      | none => none
      | some e => some (negLen l + b + f + e)
def isNum (l : List UInt8) : Bool := numLen l == some l.length

/-- The canonical text. -/
def canon : (n : Nat) → Doc n → List UInt8
  | 0, _ => []
  | n + 1, (k, t, is, ms) =>
    if k = 0 then [110, 117, 108, 108] else if k = 1 then [102, 97, 108, 115, 101] else if k = 2 then [116, 114, 117, 101] else if k = 3 then t
    else if k = 4 then quoted t else if k = 5 then 91 :: (join (is.map (canon n)) ++ [93])
    else 123 :: (join (ms.map fun m => quoted m.1 ++ 58 :: canon n m.2) ++ [125])

/-- Is what the writer reads well formed? -/
def good : (n : Nat) → Bool → Doc n → Bool
  | 0, _, _ => false
  | n + 1, u, (k, t, is, ms) =>
    (!u || (decide (k ≤ 6) && (decide (k ≠ 3) || isNum t))) && (is.all (good n (u && decide (k = 5))) && ms.all fun m => good n (u && decide (k = 6)) m.2)

/-- What the converter charges. -/
def cost : (n : Nat) → Doc n → Nat
  | 0, _ => 0
  | n + 1, (_, t, is, ms) => t.length + (is.map fun d => 72 + cost n d).sum + (ms.map fun m => 88 + m.1.length + cost n m.2).sum

theorem join_length (l : List (List UInt8)) : (join l).length ≤ (l.map fun x => x.length + 1).sum := by
  induction l with
  | nil => simp [join]
  | cons a r ih =>
    cases r with
    | nil => simp [join]
    | cons b r => simp only [join, List.length_append, List.length_cons, List.map_cons, List.sum_cons] at ih ⊢; omega

theorem sum_le {α : Type} (f g : α → Nat) (l : List α) (h : ∀ x ∈ l, f x ≤ g x) : (l.map f).sum ≤ (l.map g).sum := by
  induction l with
  | nil => simp
  | cons a r ih =>
    have h1 := h a (List.mem_cons_self ..)
    have h2 := ih (fun x hx => h x (List.mem_cons_of_mem _ hx))
    simp only [List.map_cons, List.sum_cons]; omega

theorem sum_mul {α : Type} (c : Nat) (f : α → Nat) (l : List α) : (l.map fun x => c * f x).sum = c * (l.map f).sum := by
  induction l with
  | nil => simp
  | cons a r ih => simp only [List.map_cons, List.sum_cons, ih, Nat.mul_add]

theorem canon_length : ∀ (n : Nat) (d : Doc n), (canon n d).length ≤ 6 * cost n d + 8
  | 0, _ => by simp [canon]
  | n + 1, (k, t, is, ms) => by
    have ih := canon_length n
    have h1 : (join (is.map (canon n))).length ≤ 6 * (is.map fun d => 72 + cost n d).sum := by
      refine Nat.le_trans (join_length _) ?_
      rw [← sum_mul, List.map_map]
      refine sum_le _ _ _ (fun d _ => ?_)
      have := ih d
      simp only [Function.comp]; omega
    have h2 : (join (ms.map fun m => quoted m.1 ++ 58 :: canon n m.2)).length ≤ 6 * (ms.map fun m => 88 + m.1.length + cost n m.2).sum := by
      refine Nat.le_trans (join_length _) ?_
      rw [← sum_mul, List.map_map]
      refine sum_le _ _ _ (fun m _ => ?_)
      have := ih m.2
      have := escs_length m.1
      simp only [Function.comp, List.length_append, List.length_cons, quoted_length]; omega
    have h3 := escs_length t
    have h4 := quoted_length t
    simp only [canon, cost]
    repeat' split
    all_goals (try simp only [List.length_cons, List.length_append, List.length_nil]); omega
end Go.Proofs.Qxb6601578a.Js
