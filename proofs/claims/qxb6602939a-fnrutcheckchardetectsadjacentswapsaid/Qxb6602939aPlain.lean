/-
  The check digit, told plainly; nothing of the program in it.
-/
namespace Go.Proofs.Qxb6602939a.Rt

/-- What a byte counts as: (c - '0') mod 256. -/
def vl (c : UInt8) : Nat := (c.toNat + 208) % 256
/-- The weighted digit at place j. -/
def term (l : List UInt8) (j : Nat) : Nat := vl (l.getD j 0) * (2 + (l.length - 1 - j) % 6)
def sumTo (f : Nat → Nat) : Nat → Nat
  | 0 => 0
  | k + 1 => sumTo f k + f k
/-- The check value of a weighted sum. -/
def chk (t : Nat) : Nat := (11 - t % 11) % 11
/-- The check character of a check value. -/
def chr (r : Nat) : Nat := if r = 10 then 75 else 48 + r
def total (l : List UInt8) : Nat := sumTo (term l) l.length

theorem vl_lt (c : UInt8) : vl c < 256 := Nat.mod_lt _ (by decide)
theorem term_le (l : List UInt8) (j : Nat) : term l j ≤ 1785 := by
  have h1 := vl_lt (l.getD j 0)
  have h2 : (l.length - 1 - j) % 6 < 6 := Nat.mod_lt _ (by decide)
  unfold term
  have : vl (l.getD j 0) * (2 + (l.length - 1 - j) % 6) ≤ 255 * 7 := Nat.mul_le_mul (by omega) (by omega)
  omega
theorem sumTo_le (f : Nat → Nat) (b : Nat) (h : ∀ j, f j ≤ b) (k : Nat) : sumTo f k ≤ b * k := by
  induction k with
  | zero => simp [sumTo]
  | succ k ih => have := h k; simp only [sumTo, Nat.mul_succ]; omega
theorem sumTo_front (f : Nat → Nat) (n : Nat) : sumTo f (n + 1) = f 0 + sumTo (fun j => f (j + 1)) n := by
  induction n with
  | zero => simp [sumTo]
  | succ n ih => rw [sumTo, ih, sumTo]; omega
theorem sumTo_congr (f g : Nat → Nat) (n : Nat) (h : ∀ j, j < n → f j = g j) : sumTo f n = sumTo g n := by
  induction n with
  | zero => rfl
  | succ n ih => rw [sumTo, sumTo, ih (fun j hj => h j (by omega)), h n (by omega)]
/-- The sum from the right is the sum from the left. -/
theorem sumTo_rev (n : Nat) : ∀ f : Nat → Nat, sumTo (fun j => f (n - 1 - j)) n = sumTo f n := by
  induction n with
  | zero => intro f; rfl
  | succ n ih =>
    intro f
    rw [sumTo_front]
    have e : sumTo (fun j => f (n + 1 - 1 - (j + 1))) n = sumTo f n := by
      rw [← ih f]
      exact sumTo_congr _ _ _ (fun j hj => by rw [show n + 1 - 1 - (j + 1) = n - 1 - j from by omega])
    rw [e, show n + 1 - 1 - 0 = n from by omega, sumTo]
    omega
theorem chk_lt (t : Nat) : chk t < 11 := Nat.mod_lt _ (by decide)
theorem chr_inj {a b : Nat} (ha : a < 11) (hb : b < 11) (h : chr a = chr b) : a = b := by
  unfold chr at h; split at h <;> split at h <;> omega

theorem vl_int (c : UInt8) : ((vl c : Nat) : Int) = ((c.toNat : Int) - 48) % 256 := by
  have := c.toNat_lt
  unfold vl; omega

/-- One step of the sum from the right. -/
theorem right_step (l : List UInt8) (n k : Nat) (hl : l.length = n) (hk : k < n) :
    sumTo (fun j => term l (n - 1 - j)) (n - k) = sumTo (fun j => term l (n - 1 - j)) (n - (k + 1)) + vl (l.getD k 0) * (2 + (n - (k + 1)) % 6) := by
  obtain ⟨m, rfl⟩ : ∃ m, n = k + 1 + m := ⟨n - (k + 1), by omega⟩
  rw [show k + 1 + m - k = m + 1 from by omega, show k + 1 + m - (k + 1) = m from by omega, sumTo]
  rw [show k + 1 + m - 1 - m = k from by omega]
  unfold term
  rw [hl, show k + 1 + m - 1 - k = m from by omega]

theorem right_le (l : List UInt8) (n m : Nat) : sumTo (fun j => term l (n - 1 - j)) m ≤ 1785 * m := sumTo_le _ _ (fun _ => term_le _ _) m

theorem right_total (l : List UInt8) (n : Nat) (h : l.length = n) : sumTo (fun j => term l (n - 1 - j)) n = total l := by
  unfold total; rw [h]; exact sumTo_rev n (term l)

theorem tab_all : ∀ n : Fin 11, ((⟨#[48, 49, 50, 51, 52, 53, 54, 55, 56, 57, 75]⟩ : ByteArray)[n.val]'(n.isLt)).toNat = chr n.val := by decide

theorem tab_at (t n : Nat) (hn : n = chk t) (h : n < (⟨#[48, 49, 50, 51, 52, 53, 54, 55, 56, 57, 75]⟩ : ByteArray).size) :
    ((⟨#[48, 49, 50, 51, 52, 53, 54, 55, 56, 57, 75]⟩ : ByteArray)[n]'h).toNat = chr (chk t) := by
  subst hn
  exact tab_all ⟨chk t, chk_lt t⟩

theorem chk_int (t : Nat) : (-((t : Int) % 11) % 11).toNat = chk t := by unfold chk; omega
end Go.Proofs.Qxb6602939a.Rt
