import Derived.Test.Qxb6606203aParse
import Derived.Laws.CopyOwn
namespace Go.Proofs.Qxb6606203a.Text
open Go.RowKit

theorem info5 : (Try.prog.info? 5).map (fun i => (i.zero, i.size, i.bytes)) = some (some (.int .u8 0), 1, 1) := by kernel_rfl

theorem int_eq {k : IntKind} {a b : Int} (h : a = b) : Value.int k a = .int k b := by rw [h]

/-- M without its last k decimal digits. -/
def dv (M : Int) : Nat → Int
  | 0 => M
  | k + 1 => dv M k / 10

theorem dv_nonneg {M : Int} (h : 0 ≤ M) (k : Nat) : 0 ≤ dv M k := by
  induction k with
  | zero => exact h
  | succ k ih => show 0 ≤ dv M k / 10; omega

theorem dv_le {M : Int} (h : 0 ≤ M) (k : Nat) : dv M k ≤ M := by
  induction k with
  | zero => exact Int.le_refl _
  | succ k ih => have := dv_nonneg h k; show dv M k / 10 ≤ M; omega

theorem dv_lt {M : Int} (r s : Nat) (hm : M < 10 ^ (r + s)) : dv M r < 10 ^ s := by
  induction r generalizing s with
  | zero => simpa [dv] using hm
  | succ r ih =>
    have a := ih (s + 1) (by rw [show r + (s + 1) = r + 1 + s by omega]; exact hm)
    rw [Int.pow_succ] at a
    show dv M r / 10 < 10 ^ s
    omega

theorem dv_19 {M : Int} (h : 0 ≤ M) (hm : M ≤ 9223372036854775808) : dv M 19 = 0 := by
  have c : (10 : Int) ^ (19 + 0) = 10000000000000000000 := by decide
  have a := dv_lt (M := M) 19 0 (by omega)
  have b := dv_nonneg h 19
  simp at a
  omega

/-- The text's bytes, as numbers, one cell each. -/
def rowOf (z : Nat → Int) (n : Nat) : List Value := (List.range n).map fun t => .int .u8 (z t)

theorem row_step {z : Nat → Int} {n : Nat} {c : Int} (h : z n = c) : rowOf z n ++ [.int .u8 c] = rowOf z (n + 1) := by
  simp [rowOf, List.range_succ, h]

theorem row_at (z : Nat → Int) {n t : Nat} (h : t < n) : (rowOf z n)[t]? = some (.int .u8 (z t)) := by
  simp [rowOf, h]

/-- Leading noughts, then the digits of M: they read as M. -/
theorem val_text {z : Nat → Int} {M : Int} {Z D : Nat} (hM : 0 ≤ M) (h0 : ∀ t, t < Z → z t = 48) (hd : ∀ i, i < D → z (Z + i) = 48 + dv M (D - 1 - i) % 10) (hD : dv M D = 0) : Parse.val z (Z + D) = M := by
  have a : ∀ k, k ≤ Z → Parse.val z k = 0 := by
    intro k
    induction k with
    | zero => intro _; rfl
    | succ k ih =>
      intro hk
      show Parse.val z k * 10 + (z k - 48) = 0
      rw [ih (by omega), h0 k (by omega)]
      rfl
  have b : ∀ i, i ≤ D → Parse.val z (Z + i) = dv M (D - i) := by
    intro i
    induction i with
    | zero => intro _; rw [Nat.add_zero, a Z (Nat.le_refl _), Nat.sub_zero, hD]
    | succ i ih =>
      intro hi
      show Parse.val z (Z + i) * 10 + (z (Z + i) - 48) = dv M (D - (i + 1))
      rw [ih (by omega), hd i (by omega), show D - i = (D - (i + 1)) + 1 by omega, show D - 1 - i = D - (i + 1) by omega]
      have := dv_nonneg hM (D - (i + 1))
      show dv M (D - (i + 1)) / 10 * 10 + (48 + dv M (D - (i + 1)) % 10 - 48) = dv M (D - (i + 1))
      omega
  rw [b D (Nat.le_refl _), Nat.sub_self]
  rfl

/-- The local array 'digits' in block B: its twenty bytes. -/
def Arr (w : World) (B : Nat) (d : Nat → Int) : Prop := (∀ j, j < 20 → w.cell? ⟨B, j, none⟩ = some (.int .u8 (d j))) ∧ ∀ j, j < 20 → w.frozen? ⟨B, j, none⟩ = false

theorem arr_start (w : World) : Arr (w.alloc (.cells #[.int .u8 0, .int .u8 0, .int .u8 0, .int .u8 0, .int .u8 0, .int .u8 0, .int .u8 0, .int .u8 0, .int .u8 0, .int .u8 0, .int .u8 0, .int .u8 0, .int .u8 0, .int .u8 0, .int .u8 0, .int .u8 0, .int .u8 0, .int .u8 0, .int .u8 0, .int .u8 0] 31)) w.heap.size (fun _ => 0) := by
  refine ⟨fun j hj => ?_, fun j _ => World.frozen?_alloc_new w _ _ j⟩
  rw [World.cell?_alloc_at (hn := rfl)]
  show (Array.replicate 20 (Value.int .u8 0))[j]? = _
  simp [hj]

theorem arr_set {w : World} {B s : Nat} {d : Nat → Int} (h : Arr w B d) (hs : s < 20) (c : Int) : Arr (w.setCell ⟨B, s, none⟩ (.int .u8 c)) B (fun j => if j = s then c else d j) := by
  refine ⟨fun j hj => ?_, fun j hj => by rw [World.frozen?_setCell]; exact h.2 j hj⟩
  show _ = some (Value.int .u8 (if j = s then c else d j))
  by_cases e : j = s
  · subst e
    rw [if_pos rfl]
    exact World.cell?_setCell_same w _ _ (h.1 j hj)
  · rw [if_neg e, World.cell?_setCell_other (h := by intro hh; cases hh; exact e rfl)]
    exact h.1 j hj

/-- What is known of the array behind the writing of place s, the places above it being written. -/
theorem digs_set {M v : Int} {s : Nat} {d : Nat → Int} (hs : s < 20) (hv : v = dv M (19 - s)) (h : ∀ j, s < j → j < 20 → d j = 48 + dv M (19 - j) % 10) :
    ∀ j, s ≤ j → j < 20 → (fun j => if j = s then 48 + v % 10 else d j) j = 48 + dv M (19 - j) % 10 := by
  intro j h1 h2
  show (if j = s then 48 + v % 10 else d j) = _
  by_cases e : j = s
  · subst e; rw [if_pos rfl, hv]
  · rw [if_neg e]; exact h j (by omega) h2

/-- 'append(text, c)' first lays c in a block of its own. -/
theorem one_new (w : World) (v : Value) (t : TypeId) : ∀ j u, [v][j]? = some u → (w.alloc (.cells #[v] t)).cell? ((⟨w.heap.size, 0, none⟩ : Addr).add j) = some u := by
  intro j u h
  match j, h with
  | 0, h =>
    simp at h
    subst h
    simp [Addr.add]

theorem one_one (k : IntKind) (c : Int) : ∀ u ∈ [Value.int k c], u.oneCell' = true := by
  intro u hu
  simp at hu
  subst hu
  rfl

/-- The text's bytes: l signs, Z noughts, then the array's bytes from place s on. -/
def zf (l Z s : Nat) (e : Nat → Int) (t : Nat) : Int := if t < l then 45 else if t < l + Z then 48 else e (s + (t - (l + Z)))
theorem zf_zero {l Z s q : Nat} {e : Nat → Int} (h : q < Z) : zf l Z s e (q + l) = 48 := by
  unfold zf; rw [if_neg (by omega), if_pos (by omega)]
theorem zf_dig {l Z s : Nat} (e : Nat → Int) (p : Nat) : zf l Z s e (Z + l + p) = e (s + p) := by
  unfold zf; rw [if_neg (by omega), if_neg (by omega), show s + (Z + l + p - (l + Z)) = s + p by omega]

theorem dig_48 : Parse.Dig 48 := by unfold Parse.Dig; omega
theorem dig_of (x : Int) : Parse.Dig (48 + x % 10) := by unfold Parse.Dig; omega
theorem not_dig_45 : ¬ Parse.Dig 45 := by unfold Parse.Dig; omega

/-- No sign: every byte is a digit, and the text reads as M. -/
theorem text_dig {M : Int} {Z s p : Nat} {e : Nat → Int} (hp : s + p = 20) (he : ∀ j, s ≤ j → j < 20 → e j = 48 + dv M (19 - j) % 10) : ∀ t, t < Z + p → Parse.Dig (zf 0 Z s e t) := by
  intro t ht
  by_cases h : t < Z
  · rw [show t = t + 0 from rfl, zf_zero h]; exact dig_48
  · obtain ⟨q, rfl⟩ : ∃ q, t = Z + 0 + q := ⟨t - Z, by omega⟩
    rw [zf_dig, he (s + q) (by omega) (by omega)]
    exact dig_of _

theorem text_val {M : Int} {Z s p : Nat} {e : Nat → Int} (hM : 0 ≤ M) (hp : s + p = 20) (hend : dv M (20 - s) = 0) (he : ∀ j, s ≤ j → j < 20 → e j = 48 + dv M (19 - j) % 10) : Parse.val (zf 0 Z s e) (Z + p) = M := by
  refine val_text hM (fun t ht => zf_zero ht) (fun i hi => ?_) (by rw [show p = 20 - s by omega]; exact hend)
  rw [show Z + i = Z + 0 + i from rfl, zf_dig, he (s + i) (by omega) (by omega), show 19 - (s + i) = p - 1 - i by omega]

theorem push_rest {B G : Nat} {w wr w1 : World} {d : Nat → Int} {o : Obj} (hB : B < G) (hsz : B < wr.heap.size) (hd : ∀ j, j < 20 → wr.cell? ⟨B, j, none⟩ = some (.int .u8 (d j)))
    (hb : Below B w wr) (hg : (wr.alloc o).grownBy w1 (some G)) : (∀ j, j < 20 → w1.cell? ⟨B, j, none⟩ = some (.int .u8 (d j))) ∧ Below B w w1 ∧ B < w1.heap.size := by
  refine ⟨fun j hj => ?_, (hb.alloc (by omega) o).grown hg (by simp; omega) (by intro k h; cases h; omega), ?_⟩
  · refine hg.cell (a := ⟨B, j, none⟩) ?_ (by simp; omega)
    rw [World.cell?_of_block (w := wr) (Below.heap_alloc wr o B hsz)]
    exact hd j hj
  · have := hg.size; simp at this; omega

theorem made_rest {B : Nat} {w wr w1 : World} {d : Nat → Int} (hsz : B < wr.heap.size) (hd : ∀ j, j < 20 → wr.cell? ⟨B, j, none⟩ = some (.int .u8 (d j)))
    (hb : Below B w wr) (hg : wr.grownBy w1 none) : (∀ j, j < 20 → w1.cell? ⟨B, j, none⟩ = some (.int .u8 (d j))) ∧ Below B w w1 ∧ B < w1.heap.size := by
  refine ⟨fun j hj => hg.cell (a := ⟨B, j, none⟩) (hd j hj) (by simp), hb.grown hg (by omega) (by intro k h; cases h), ?_⟩
  have := hg.size; omega
end Go.Proofs.Qxb6606203a.Text
