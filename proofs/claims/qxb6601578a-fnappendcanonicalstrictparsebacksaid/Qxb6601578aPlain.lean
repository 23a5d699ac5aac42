namespace Go.Proofs.Qxb6601578a.Js

/-- The lower-case hex digit of d, as a byte. -/
def hexd (d : UInt8) : UInt8 := if d < 10 then 48 + d else 87 + d

/-- The canonical spelling of one byte. -/
def esc (c : UInt8) : List UInt8 :=
  if c = 34 then [92, 34] else if c = 92 then [92, 92] else if c = 8 then [92, 98] else if c = 9 then [92, 116]
  else if c = 10 then [92, 110] else if c = 12 then [92, 102] else if c = 13 then [92, 114]
  else if c < 32 then [92, 117, 48, 48, hexd (c / 16), hexd (c % 16)] else [c]

def escs (l : List UInt8) : List UInt8 := l.flatMap esc
def quoted (l : List UInt8) : List UInt8 := 34 :: (escs l ++ [34])

theorem u8_ne {c d : UInt8} (h : (c.toNat : Int) ≠ (d.toNat : Int)) : c ≠ d := fun e => h (by rw [e])
theorem u8_eq {c d : UInt8} (h : (c.toNat : Int) = (d.toNat : Int)) : c = d := UInt8.toNat_inj.1 (by omega)

/-- A byte that is neither a control byte, a quote nor a backslash is itself. -/
theorem esc_plain (c : UInt8) (h1 : 32 ≤ (c.toNat : Int)) (h2 : (c.toNat : Int) ≠ 34) (h3 : (c.toNat : Int) ≠ 92) : esc c = [c] := by
  have n (d : UInt8) (hd : (d.toNat : Int) < 32) : c ≠ d := u8_ne (by omega)
  have h4 : ¬ c < 32 := by rw [UInt8.lt_iff_toNat_lt]; show ¬ c.toNat < 32; omega
  simp [esc, u8_ne (c := c) (d := 34) h2, u8_ne (c := c) (d := 92) h3, n 8 (by decide), n 9 (by decide), n 10 (by decide), n 12 (by decide), n 13 (by decide), h4]

/-- A control byte without a letter. -/
theorem esc_ctl (c : UInt8) (h1 : (c.toNat : Int) < 32) (h2 : (c.toNat : Int) ≠ 8) (h3 : (c.toNat : Int) ≠ 12) (h4 : (c.toNat : Int) ≠ 10) (h5 : (c.toNat : Int) ≠ 13) (h6 : (c.toNat : Int) ≠ 9) :
    esc c = [92, 117, 48, 48, hexd (c / 16), hexd (c % 16)] := by
  have n (d : UInt8) (hd : 32 ≤ (d.toNat : Int)) : c ≠ d := u8_ne (by omega)
  have h7 : c < 32 := by rw [UInt8.lt_iff_toNat_lt]; show c.toNat < 32; omega
  simp [esc, n 34 (by decide), n 92 (by decide), u8_ne (c := c) (d := 8) h2, u8_ne (c := c) (d := 9) h6, u8_ne (c := c) (d := 10) h4, u8_ne (c := c) (d := 12) h3, u8_ne (c := c) (d := 13) h5, h7]

/-- The table of hex digits, read at a number below sixteen. -/
theorem hex_all : ∀ n : Fin 16, (⟨#[48, 49, 50, 51, 52, 53, 54, 55, 56, 57, 97, 98, 99, 100, 101, 102]⟩ : ByteArray)[n.val]'(n.isLt) = hexd (UInt8.ofNat n.val) := by decide

theorem hex_tab (n : Nat) (d : UInt8) (hn : n = d.toNat) (hd : n < 16) (h : n < (⟨#[48, 49, 50, 51, 52, 53, 54, 55, 56, 57, 97, 98, 99, 100, 101, 102]⟩ : ByteArray).size) :
    ((⟨#[48, 49, 50, 51, 52, 53, 54, 55, 56, 57, 97, 98, 99, 100, 101, 102]⟩ : ByteArray)[n]'h).toNat = (hexd d).toNat := by
  have := hex_all ⟨n, hd⟩
  rw [show d = UInt8.ofNat n from by rw [hn]; simp]
  exact congrArg UInt8.toNat this

theorem escs_nil : escs [] = [] := rfl
theorem escs_append (a b : List UInt8) : escs (a ++ b) = escs a ++ escs b := by simp [escs]
theorem escs_one (c : UInt8) : escs [c] = esc c := by simp [escs]

theorem esc_length (c : UInt8) : 1 ≤ (esc c).length ∧ (esc c).length ≤ 6 := by
  unfold esc; repeat' split
  all_goals simp

theorem escs_length (l : List UInt8) : (escs l).length ≤ 6 * l.length := by
  induction l with
  | nil => simp [escs]
  | cons a t ih =>
    have := (esc_length a).2
    simp only [escs, List.flatMap_cons, List.length_append, List.length_cons] at *
    omega

theorem quoted_length (l : List UInt8) : (quoted l).length = (escs l).length + 2 := by simp [quoted]

theorem take_snoc (l : List UInt8) (k : Nat) (h : k < l.length) : l.take (k + 1) = l.take k ++ [l[k]] := by
  rw [List.take_succ_eq_append_getElem h]

theorem escs_take_succ (l : List UInt8) (k : Nat) (h : k < l.length) : escs (l.take (k + 1)) = escs (l.take k) ++ esc l[k] := by
  rw [take_snoc l k h, escs_append, escs_one]

/-- A byte that stays itself: the run from the last special byte on grows by it. -/
theorem run_step (l : List UInt8) (st k : Nat) (hst : st ≤ k) (h : k < l.length) (hc : esc l[k] = [l[k]])
    (hr : escs (l.take k) = escs (l.take st) ++ (l.take k).drop st) : escs (l.take (k + 1)) = escs (l.take st) ++ (l.take (k + 1)).drop st := by
  rw [escs_take_succ l k h, hr, hc, take_snoc l k h, List.drop_append_of_le_length (by simp; omega)]
  simp

theorem extract_list (s : ByteArray) (j k : Nat) : (s.extract j k).data.toList = (s.data.toList.take k).drop j := by
  simp [ByteArray.extract, ByteArray.copySlice, List.drop_take]

/-- At a special byte: what stood before, the run, and the byte's own spelling. -/
theorem stop_step (s : ByteArray) (l L news : List UInt8) (j k : Nat) (h : k < s.size) (hc : esc s[k] = news)
    (hr : escs (s.data.toList.take k) = escs (s.data.toList.take j) ++ (s.data.toList.take k).drop j) (hL : L = l ++ 34 :: escs (s.data.toList.take j)) :
    L ++ (s.extract j k).data.toList ++ news = l ++ 34 :: escs (s.data.toList.take (k + 1)) := by
  have hk : k < s.data.toList.length := by simpa using h
  rw [escs_take_succ _ k hk, hr, extract_list, hL, ← hc]
  simp
  rfl

/-- At the text's end: the last run and the closing quote. -/
theorem end_step (s : ByteArray) (l L : List UInt8) (j k : Nat) (hk : k = s.size)
    (hr : escs (s.data.toList.take k) = escs (s.data.toList.take j) ++ (s.data.toList.take k).drop j) (hL : L = l ++ 34 :: escs (s.data.toList.take j)) :
    L ++ (s.extract j s.size).data.toList ++ [34] = l ++ quoted s.data.toList := by
  have e : s.data.toList.take k = s.data.toList := List.take_of_length_le (by rw [hk]; simp)
  rw [extract_list, ← hk, hL, quoted]
  rw [e] at hr ⊢
  rw [hr]
  simp

/-- The law of concatenation. -/
theorem quoted_append (a b : List UInt8) : quoted (a ++ b) = (quoted a).take ((quoted a).length - 1) ++ (quoted b).drop 1 := by
  simp [quoted, escs_append]

end Go.Proofs.Qxb6601578a.Js
