import Derived.Laws.Strings
namespace Go.Proofs.Qxb6606388a.Plain

/-! ### The bytes of a string, as numbers -/
def zs (s : ByteArray) (t : Nat) : Int := ((s.data.toList.getD t 0).toNat : Int)

theorem zs_at (s : ByteArray) (t : Nat) (h : t < s.size) : ((s[t]'h).toNat : Int) = zs s t := by
  have h' : t < s.data.toList.length := by simpa using h
  unfold zs
  rw [List.getD_eq_getElem?_getD, List.getElem?_eq_getElem h']
  rfl

theorem zs_nat {s : ByteArray} {t : Nat} {a : UInt8} (h : t < s.size) : s[t] = a ↔ zs s t = (a.toNat : Int) := by
  rw [← zs_at s t h, Int.natCast_inj]
  exact ⟨fun e => by rw [e], fun e => UInt8.toNat_inj.1 e⟩

theorem two_list (s : ByteArray) (j : Nat) (h : j + 1 < s.size) : (s.extract j (j + 2)).toList = [s[j], s[j + 1]] := by
  have e : (s.extract j (j + 2)).toList = (s.data.toList.drop j).take 2 := by
    rw [ByteArray.toList_eq]
    simp [ByteArray.data_extract, List.extract_eq_take_drop]
  have h' : j + 1 < s.data.toList.length := by simpa using h
  rw [e, List.drop_eq_getElem_cons (by omega), List.drop_eq_getElem_cons h']
  rfl

theorem two_eq (s : ByteArray) (j : Nat) (h : j + 1 < s.size) (a b : UInt8) :
    ((s.extract j (j + 2)).toList == [a, b]) = decide (zs s j = (a.toNat : Int) ∧ zs s (j + 1) = (b.toNat : Int)) := by
  rw [two_list s j h, Bool.eq_iff_iff]
  simp [zs_nat (show j < s.size by omega), zs_nat h]

/-! ### What skipNestedComment computes: the depth d, the place j, so much fuel -/
def scan (z : Nat → Int) (n : Nat) : Nat → Int → Nat → Nat
  | 0, _, _ => n
  | f + 1, d, j =>
    if j + 1 < n then
      if z j = 47 ∧ z (j + 1) = 42 then scan z n f (d + 1) (j + 2)
      else if z j = 42 ∧ z (j + 1) = 47 then (if d - 1 = 0 then j + 2 else scan z n f (d - 1) (j + 2))
      else scan z n f d (j + 1)
    else n

theorem scan_fuel (z : Nat → Int) (n : Nat) : ∀ (f g : Nat) (d : Int) (j : Nat), n ≤ f + j → n ≤ g + j → scan z n f d j = scan z n g d j := by
  intro f
  induction f with
  | zero =>
    intro g d j h1 h2
    cases g with
    | zero => rfl
    | succ g => rw [scan, scan, if_neg (by omega)]
  | succ f ih =>
    intro g d j h1 h2
    cases g with
    | zero => rw [scan, scan, if_neg (by omega)]
    | succ g =>
      rw [scan, scan, ih g (d + 1) (j + 2) (by omega) (by omega), ih g (d - 1) (j + 2) (by omega) (by omega), ih g d (j + 1) (by omega) (by omega)]

/-- With fuel enough. -/
def S (z : Nat → Int) (n : Nat) (d : Int) (j : Nat) : Nat := scan z n n d j

theorem S_succ (z : Nat → Int) (n : Nat) (d : Int) (j : Nat) : S z n d j =
    if j + 1 < n then
      if z j = 47 ∧ z (j + 1) = 42 then S z n (d + 1) (j + 2)
      else if z j = 42 ∧ z (j + 1) = 47 then (if d - 1 = 0 then j + 2 else S z n (d - 1) (j + 2))
      else S z n d (j + 1)
    else n := by
  unfold S
  rw [scan_fuel z n n (n + 1) d j (by omega) (by omega)]
  conv => lhs; rw [scan]

theorem S_le (z : Nat → Int) (n : Nat) (d : Int) (j : Nat) : S z n d j ≤ n := by
  suffices h : ∀ (f : Nat) (d : Int) (j : Nat), scan z n f d j ≤ n from h _ _ _
  intro f
  induction f with
  | zero => intro d j; exact Nat.le_refl _
  | succ f ih =>
    intro d j
    rw [scan]
    repeat' split
    all_goals first | exact ih _ _ | omega

/-- Text put before moves the answer by its length. -/
theorem S_shift (z z' : Nat → Int) (n P : Nat) (hz : ∀ t, z' (t + P) = z t) (d : Int) (j : Nat) : S z' (n + P) d (j + P) = S z n d j + P := by
  have h : ∀ (f : Nat) (d : Int) (j : Nat), scan z' (n + P) f d (j + P) = scan z n f d j + P := by
    intro f
    induction f with
    | zero => intro d j; rfl
    | succ f ih =>
      intro d j
      rw [scan, scan, hz j, show j + P + 1 = j + 1 + P by omega, hz (j + 1), show j + P + 2 = j + 2 + P by omega, ih, ih, ih]
      by_cases h1 : j + 1 < n
      · rw [if_pos h1, if_pos (by omega)]
        repeat' split
        all_goals omega
      · rw [if_neg h1, if_neg (by omega)]
  show scan z' (n + P) (n + P) d (j + P) = scan z n n d j + P
  rw [scan_fuel z' (n + P) (n + P) n d (j + P) (by omega) (by omega), h]

/-! ### What the parser by recursive descent computes -/
def body (z : Nat → Int) (n : Nat) : Nat → Nat → Int
  | 0, _ => -1
  | f + 1, k =>
    if k + 1 < n then
      if z k = 42 ∧ z (k + 1) = 47 then (k : Int) + 2
      else if z k = 47 ∧ z (k + 1) = 42 then (if body z n f (k + 2) < 0 then -1 else body z n f (body z n f (k + 2)).toNat)
      else body z n f (k + 1)
    else -1

theorem body_range (z : Nat → Int) (n : Nat) : ∀ (f k : Nat), body z n f k = -1 ∨ ((k : Int) + 2 ≤ body z n f k ∧ body z n f k ≤ n) := by
  intro f
  induction f with
  | zero => intro k; exact .inl rfl
  | succ f ih =>
    intro k
    rw [body]
    split
    · split
      · right; omega
      · split
        · split
          · exact .inl rfl
          · have a := ih (k + 2)
            have b := ih (body z n f (k + 2)).toNat
            omega
        · have a := ih (k + 1)
          omega
    · exact .inl rfl

theorem body_fuel (z : Nat → Int) (n : Nat) : ∀ (f g k : Nat), n ≤ f + k → n ≤ g + k → body z n f k = body z n g k := by
  intro f
  induction f with
  | zero =>
    intro g k h1 h2
    cases g with
    | zero => rfl
    | succ g => rw [body, body, if_neg (by omega)]
  | succ f ih =>
    intro g k h1 h2
    cases g with
    | zero => rw [body, body, if_neg (by omega)]
    | succ g =>
      rw [body, body, ih g (k + 2) (by omega) (by omega), ih g (k + 1) (by omega) (by omega)]
      have r := body_range z n g (k + 2)
      by_cases hn : body z n g (k + 2) < 0
      · simp only [if_pos hn]
      · simp only [if_neg hn]
        rw [ih g (body z n g (k + 2)).toNat (by omega) (by omega)]

def B (z : Nat → Int) (n : Nat) (k : Nat) : Int := body z n n k

theorem B_range (z : Nat → Int) (n k : Nat) : B z n k = -1 ∨ ((k : Int) + 2 ≤ B z n k ∧ B z n k ≤ n) := body_range z n n k

theorem B_succ (z : Nat → Int) (n k : Nat) : B z n k =
    if k + 1 < n then
      if z k = 42 ∧ z (k + 1) = 47 then (k : Int) + 2
      else if z k = 47 ∧ z (k + 1) = 42 then (if B z n (k + 2) < 0 then -1 else B z n (B z n (k + 2)).toNat)
      else B z n (k + 1)
    else -1 := by
  unfold B
  rw [body_fuel z n n (n + 1) k (by omega) (by omega)]
  conv => lhs; rw [body]

/-- At depth d, the scan goes on behind the end of the body that it stands in. -/
theorem S_B (z : Nat → Int) (n : Nat) : ∀ (m j : Nat) (d : Int), n ≤ j + m → 1 ≤ d →
    S z n d j = if B z n j < 0 then n else if d - 1 = 0 then (B z n j).toNat else S z n (d - 1) (B z n j).toNat := by
  intro m
  induction m with
  | zero =>
    intro j d hm hd
    have e1 : S z n d j = n := by rw [S_succ, if_neg (by omega)]
    have e2 : B z n j = -1 := by rw [B_succ, if_neg (by omega)]
    rw [e1, e2, if_pos (by omega)]
  | succ m ih =>
    intro j d hm hd
    by_cases h1 : j + 1 < n
    · by_cases ho : z j = 47 ∧ z (j + 1) = 42
      · have hc : ¬ (z j = 42 ∧ z (j + 1) = 47) := by omega
        have e1 : S z n d j = S z n (d + 1) (j + 2) := by rw [S_succ, if_pos h1, if_pos ho]
        have e2 : B z n j = if B z n (j + 2) < 0 then -1 else B z n (B z n (j + 2)).toNat := by
          conv => lhs; rw [B_succ, if_pos h1, if_neg hc, if_pos ho]
        rw [e1, e2, ih (j + 2) (d + 1) (by omega) (by omega)]
        have r := B_range z n (j + 2)
        by_cases hn : B z n (j + 2) < 0
        · rw [if_pos hn, if_pos hn, if_pos (by omega)]
        · rw [if_neg hn, if_neg hn, if_neg (by omega), show d + 1 - 1 = d by omega]
          exact ih (B z n (j + 2)).toNat d (by omega) hd
      · by_cases hc : z j = 42 ∧ z (j + 1) = 47
        · have e1 : S z n d j = if d - 1 = 0 then j + 2 else S z n (d - 1) (j + 2) := by
            conv => lhs; rw [S_succ, if_pos h1, if_neg ho, if_pos hc]
          have e2 : B z n j = (j : Int) + 2 := by rw [B_succ, if_pos h1, if_pos hc]
          have e3 : ((j : Int) + 2).toNat = j + 2 := by omega
          rw [e1, e2, e3, if_neg (show ¬ (j : Int) + 2 < 0 by omega)]
        · have e1 : S z n d j = S z n d (j + 1) := by rw [S_succ, if_pos h1, if_neg ho, if_neg hc]
          have e2 : B z n j = B z n (j + 1) := by rw [B_succ, if_pos h1, if_neg hc, if_neg ho]
          rw [e1, e2]
          exact ih (j + 1) d (by omega) hd
    · have e1 : S z n d j = n := by rw [S_succ, if_neg h1]
      have e2 : B z n j = -1 := by rw [B_succ, if_neg h1]
      rw [e1, e2, if_pos (by omega)]

/-- Where a comment opens at i: the scan from depth 0 ends where the body that begins at i + 2 ends, or at the text's end. -/
theorem S_open (z : Nat → Int) (n i : Nat) (h : i + 1 < n) (h1 : z i = 47) (h2 : z (i + 1) = 42) :
    (S z n 0 i : Int) = if B z n (i + 2) < 0 then (n : Int) else B z n (i + 2) := by
  rw [S_succ, if_pos h, if_pos ⟨h1, h2⟩, S_B z n n (i + 2) (0 + 1) (by omega) (by omega)]
  have r := B_range z n (i + 2)
  by_cases hn : B z n (i + 2) < 0
  · rw [if_pos hn, if_pos hn]
  · rw [if_neg hn, if_neg hn, if_pos (by omega)]
    omega
end Go.Proofs.Qxb6606388a.Plain
