import PyProof.Rows.All
import Wide.All
import OpenK.AllK
import Wide.FinOn
import PyProof.Walk
import PyProof.WalkLemmas
import PySem.Challenge.RW_ny0120_01
set_option Elab.async false
open PySem PySem.W PyProof.Rows
local macro_rules | `(tactic| walk_at $s:str) => `(tactic| k_extra $s)

section
namespace Mine
/-- how many of the codes below d are written by one sign -/
def blw (d : Int) (last body : Bool) : Int :=
  if body && last then ((([10, 13, 62, 63] : List Int).filter (fun c => decide (c < d))).length : Int) + min (max (d - 33) 0) 28
  else if body then min d 63
  else if last then ((([32, 33, 42, 43, 45, 47] : List Int).filter (fun c => decide (c < d))).length : Int) + min (max (d - 48) 0) 10
  else min (max (d - 1) 0) 26 + min (max (d - 33) 0) 26
def moreL (row : List Int) (p e : Int) : List Int :=
  (List.range row.length).map fun k => (if 0 < k then p * row.getD (k - 1) 0 else 0) + (if 2 < k then e * row.getD (k - 3) 0 else 0)
def unitL (g : Int) : List Int := (List.range 13).map fun s : Nat => if (s : Int) = g then 1 else 0
def addL (a b : List Int) : List Int := (List.range 13).map fun s => a.getD s 0 + b.getD s 0
def freeL (body : Bool) : Nat → List Int → List Int
  | 0, row => row
  | f + 1, row => freeL body f (moreL row (blw 64 (f == 0) body) (64 - blw 64 (f == 0) body))
/-- the least digit at place k of size -/
def least (k size : Nat) : Int := if k = 0 ∧ 1 < size then 1 else 0
/-- one turn of the middle loop: the digit d at place k of size -/
def rowK (body : Bool) (size k : Nat) (d signs : Int) : List Int :=
  freeL body (size - 1 - k) (moreL (unitL signs) (blw d (size - 1 - k == 0) body - blw (least k size) (size - 1 - k == 0) body)
    (d - least k size - (blw d (size - 1 - k == 0) body - blw (least k size) (size - 1 - k == 0) body)))
def sgn (d : Int) (last body : Bool) : Int := 3 - 2 * (blw (d + 1) last body - blw d last body)
/-- the middle loop from place k on -/
def topL (body : Bool) (size : Nat) : Nat → List Int → List Int → Int → List Int
  | _, [], told, _ => told
  | k, d :: r, told, signs => topL body size (k + 1) r (addL told (rowK body size k d signs)) (signs + sgn d (size - 1 - k == 0) body)
/-- the outer loop over the sizes below n's -/
def fullL (body : Bool) : Nat → List Int
  | 0 => List.replicate 13 0
  | s + 1 => topL body (s + 1) 0 [64] (fullL body s) 0
def countsL (body : Bool) (places : List Int) : List Int := topL body places.length 0 places (fullL body (places.length - 1)) 0

/-- the signs of a number, by its digits -/
def szL (body : Bool) : List Int → Int
  | [] => 0
  | d :: r => sgn d r.isEmpty body + szL body r
def digs (n : Int) : List Int :=
  if n < 64 then [n % 64] else if n < 4096 then [n / 64 % 64, n % 64] else if n < 262144 then [n / 64 / 64 % 64, n / 64 % 64, n % 64] else [n / 64 / 64 / 64 % 64, n / 64 / 64 % 64, n / 64 % 64, n % 64]

/-! ## rows of thirteen -/
theorem ext13 {a b : List Int} (ha : a.length = 13) (hb : b.length = 13) (h : ∀ s, s < 13 → a.getD s 0 = b.getD s 0) : a = b := by
  refine List.ext_getElem (by omega) fun i h1 h2 => ?_
  have := h i (by omega)
  simpa [List.getD, h1, h2] using this
@[simp] theorem len_unitL (g : Int) : (unitL g).length = 13 := by simp [unitL]
@[simp] theorem len_addL (a b : List Int) : (addL a b).length = 13 := by simp [addL]
@[simp] theorem len_moreL (a : List Int) (p e : Int) : (moreL a p e).length = a.length := by simp [moreL]
@[simp] theorem len_freeL (body : Bool) (f : Nat) : ∀ row : List Int, (freeL body f row).length = row.length := by
  induction f with
  | zero => intro row; rfl
  | succ f ih => intro row; rw [freeL, ih, len_moreL]
@[simp] theorem len_rowK (body : Bool) (size k : Nat) (d g : Int) : (rowK body size k d g).length = 13 := by simp [rowK]
theorem at_unitL {g : Int} {s : Nat} (hs : s < 13) : (unitL g).getD s 0 = if (s : Int) = g then 1 else 0 := by simp [unitL, List.getD, hs]
theorem at_addL {a b : List Int} {s : Nat} (hs : s < 13) : (addL a b).getD s 0 = a.getD s 0 + b.getD s 0 := by simp [addL, List.getD, hs]
theorem at_moreL {a : List Int} {p e : Int} {s : Nat} (hs : s < a.length) : (moreL a p e).getD s 0 = (if 0 < s then p * a.getD (s - 1) 0 else 0) + (if 2 < s then e * a.getD (s - 3) 0 else 0) := by
  simp [moreL, List.getD, hs]
theorem addL_comm (a b : List Int) : addL a b = addL b a := ext13 (by simp) (by simp) fun s hs => by rw [at_addL hs, at_addL hs]; omega
theorem addL_assoc (a b c : List Int) : addL (addL a b) c = addL a (addL b c) := ext13 (by simp) (by simp) fun s hs => by simp only [at_addL hs]; omega
def zeroL : List Int := List.replicate 13 0
theorem at_zeroL {s : Nat} : zeroL.getD s 0 = 0 := by
  unfold zeroL
  rw [List.getD_eq_getElem?_getD, List.getElem?_replicate]
  split <;> rfl
theorem addL_zero {a : List Int} (ha : a.length = 13) : addL a zeroL = a := ext13 (by simp) ha fun s hs => by rw [at_addL hs, at_zeroL]; omega
theorem zero_addL {a : List Int} (ha : a.length = 13) : addL zeroL a = a := by rw [addL_comm, addL_zero ha]

theorem moreL_add {a b : List Int} (ha : a.length = 13) (hb : b.length = 13) (p e : Int) : moreL (addL a b) p e = addL (moreL a p e) (moreL b p e) :=
  ext13 (by simp) (by simp) fun s hs => by
    rw [at_moreL (by simpa using hs), at_addL hs, at_moreL (by omega), at_moreL (by omega)]
    by_cases h0 : 0 < s <;> by_cases h2 : 2 < s <;> simp only [h0, h2, if_true, if_false] <;> (try rw [at_addL (by omega)]) <;> (try rw [at_addL (by omega)]) <;> (try simp only [Int.mul_add]) <;> omega
theorem freeL_add (body : Bool) (f : Nat) : ∀ {a b : List Int}, a.length = 13 → b.length = 13 → freeL body f (addL a b) = addL (freeL body f a) (freeL body f b) := by
  induction f with
  | zero => intros; rfl
  | succ f ih => intro a b ha hb; rw [freeL, moreL_add ha hb, ih (by simpa using ha) (by simpa using hb)]; rfl
theorem moreL_zero (row : List Int) (hr : row.length = 13) : moreL row 0 0 = zeroL := ext13 (by simpa using hr) (by simp [zeroL]) fun s hs => by
  rw [at_moreL (by omega), at_zeroL]; simp
theorem freeL_zero (body : Bool) (f : Nat) : freeL body f zeroL = zeroL := by
  induction f with
  | zero => rfl
  | succ f ih =>
    rw [freeL]
    have : ∀ p e, moreL zeroL p e = zeroL := fun p e => ext13 (by simp [zeroL]) (by simp [zeroL]) fun s hs => by
      rw [at_moreL (by simpa [zeroL] using hs)]; simp only [at_zeroL]; simp
    rw [this, ih]
/-- one case more: a sign or three -/
theorem moreL_unit_succ {g p e x : Int} (hg : 0 ≤ g) (hx : x = 0 ∨ x = 1) : moreL (unitL g) (p + x) (e + (1 - x)) = addL (moreL (unitL g) p e) (unitL (g + (3 - 2 * x))) :=
  ext13 (by simp) (by simp) fun s hs => by
    rw [at_moreL (by simpa using hs), at_addL hs, at_moreL (by simpa using hs), at_unitL hs]
    have u1 : 0 < s → (unitL g).getD (s - 1) 0 = if (s : Int) = g + 1 then 1 else 0 := fun h => by
      rw [at_unitL (by omega)]
      by_cases q : (s : Int) = g + 1
      · rw [if_pos q, if_pos (by omega)]
      · rw [if_neg q, if_neg (by omega)]
    have u3 : 2 < s → (unitL g).getD (s - 3) 0 = if (s : Int) = g + 3 then 1 else 0 := fun h => by
      rw [at_unitL (by omega)]
      by_cases q : (s : Int) = g + 3
      · rw [if_pos q, if_pos (by omega)]
      · rw [if_neg q, if_neg (by omega)]
    by_cases h0 : 0 < s
    · rw [if_pos h0, if_pos h0, u1 h0]
      by_cases h2 : 2 < s
      · rw [if_pos h2, if_pos h2, u3 h2]
        rcases hx with rfl | rfl
        · by_cases q : (s : Int) = g + 1
          · rw [if_pos q, if_neg (by omega), if_neg (by omega)]; omega
          · rw [if_neg q]; by_cases r : (s : Int) = g + 3
            · rw [if_pos r, if_pos (by omega)]; omega
            · rw [if_neg r, if_neg (by omega)]; omega
        · by_cases q : (s : Int) = g + 1
          · rw [if_pos q, if_neg (by omega), if_pos (by omega)]; omega
          · rw [if_neg q]; by_cases r : (s : Int) = g + 3
            · rw [if_pos r, if_neg (by omega)]; omega
            · rw [if_neg r, if_neg (by omega)]; omega
      · rw [if_neg h2, if_neg h2]
        rcases hx with rfl | rfl
        · rw [if_neg (c := (s : Int) = g + (3 - 2 * 0)) (by omega)]; simp
        · by_cases q : (s : Int) = g + 1
          · rw [if_pos q, if_pos (by omega)]; omega
          · rw [if_neg q, if_neg (by omega)]; omega
    · rw [if_neg h0, if_neg h0, if_neg (by omega), if_neg (by omega), if_neg (by rcases hx with rfl | rfl <;> omega)]; rfl

/-! ## the table of signs -/
theorem flt_succ (l : List Int) (hl : l.Nodup) (d : Int) : ((l.filter (fun c => decide (c < d + 1))).length : Int) = ((l.filter (fun c => decide (c < d))).length : Int) + (if d ∈ l then 1 else 0) := by
  induction l with
  | nil => simp
  | cons c l ih =>
    have hl' := List.nodup_cons.mp hl
    have ih := ih hl'.2
    simp only [List.filter_cons, List.mem_cons]
    by_cases h1 : c < d
    · rw [if_pos (by simpa using (by omega : c < d + 1)), if_pos (by simpa using h1)]
      simp only [List.length_cons]
      have : (d = c ∨ d ∈ l) ↔ d ∈ l := ⟨fun h => h.resolve_left (by omega), .inr⟩
      simp only [this]; omega
    · by_cases h2 : c = d
      · subst h2
        rw [if_pos (by simp; omega), if_neg (by simp), if_pos (.inl rfl)]
        simp only [List.length_cons]
        rw [if_neg hl'.1] at ih; omega
      · rw [if_neg (by simp; omega), if_neg (by simp; omega)]
        have : (d = c ∨ d ∈ l) ↔ d ∈ l := ⟨fun h => h.resolve_left (fun e => h2 e.symm), .inr⟩
        simp only [this]; omega
theorem blw_succ (d : Int) (last body : Bool) : blw (d + 1) last body - blw d last body = 0 ∨ blw (d + 1) last body - blw d last body = 1 := by
  unfold blw
  cases last <;> cases body
  · simp; omega
  · simp; omega
  · simp only [Bool.and_true, Bool.false_eq_true, if_false, if_true, Bool.and_self]
    rw [flt_succ _ (by decide)]
    split
    · rename_i h; simp at h; omega
    · omega
  · simp only [Bool.and_self, if_true]
    rw [flt_succ _ (by decide)]
    split
    · rename_i h; simp at h; omega
    · omega
theorem blw_zero (last body : Bool) : blw 0 last body = 0 := by cases last <;> cases body <;> decide
theorem sgn_two (d : Int) (last body : Bool) : sgn d last body = 1 ∨ sgn d last body = 3 := by
  unfold sgn; rcases blw_succ d last body with h | h <;> rw [h] <;> simp

theorem rowK_succ (body : Bool) (size k : Nat) (d g : Int) (hg : 0 ≤ g) : rowK body size k (d + 1) g = addL (rowK body size k d g) (freeL body (size - 1 - k) (unitL (g + sgn d (size - 1 - k == 0) body))) := by
  unfold rowK
  rw [← freeL_add _ _ (by simp) (by simp)]
  congr 1
  unfold sgn
  rw [← moreL_unit_succ hg (blw_succ d (size - 1 - k == 0) body)]
  congr 1 <;> omega
theorem rowK_zero (body : Bool) (size k : Nat) (g : Int) : rowK body size k (least k size) g = zeroL := by
  unfold rowK
  rw [Int.sub_self, Int.sub_self, Int.sub_self, moreL_zero _ (by simp), freeL_zero]
theorem rowK_full (body : Bool) (size k : Nat) (hk : k < size) (h0 : 0 < k) (g : Int) : rowK body size k 64 g = freeL body (size - k) (unitL g) := by
  have e : size - k = size - 1 - k + 1 := by omega
  have l : least k size = 0 := by unfold least; rw [if_neg (by omega)]
  rw [e, freeL]
  unfold rowK
  rw [l, blw_zero, Int.sub_zero, Int.sub_zero]
theorem topL_acc (body : Bool) (size : Nat) : ∀ (ds : List Int) (k : Nat) (told : List Int) (g : Int), told.length = 13 → topL body size k ds told g = addL told (topL body size k ds zeroL g)
  | [], _, told, _, h => (addL_zero h).symm
  | d :: r, k, told, g, _ => by
    rw [topL, topL_acc body size r _ _ _ (by simp), topL, topL_acc body size r _ (addL zeroL _) _ (by simp), zero_addL (by simp), addL_assoc]
@[simp] theorem len_topL (body : Bool) (size : Nat) : ∀ (ds : List Int) (k : Nat) (told : List Int) (g : Int), told.length = 13 → (topL body size k ds told g).length = 13
  | [], _, _, _, h => h
  | d :: r, k, told, g, _ => by rw [topL]; exact len_topL body size r _ _ _ (by simp)
theorem topL_cons (body : Bool) (size k : Nat) (d : Int) (r : List Int) (g : Int) : topL body size k (d :: r) zeroL g = addL (rowK body size k d g) (topL body size (k + 1) r zeroL (g + sgn d (size - 1 - k == 0) body)) := by
  rw [topL, topL_acc _ _ _ _ _ _ (by simp), zero_addL (by simp)]

/-- the next number's digits; none if all are 63 -/
def incD : List Int → Option (List Int)
  | [] => none
  | d :: r => match incD r with
    | some r' => some (d :: r')
    | none => if d = 63 then none else some ((d + 1) :: List.replicate r.length 0)
theorem top_zeros (body : Bool) (size : Nat) : ∀ (j k : Nat) (g : Int), 0 < k → topL body size k (List.replicate j 0) zeroL g = zeroL
  | 0, _, _, _ => rfl
  | j + 1, k, g, hk => by
    rw [List.replicate_succ, topL_cons, top_zeros body size j _ _ (by omega)]
    have l : least k size = 0 := by unfold least; rw [if_neg (by omega)]
    have := rowK_zero body size k g
    rw [l] at this
    rw [this, addL_zero (by simp [zeroL])]
theorem sgn_pos (d : Int) (last body : Bool) : 0 < sgn d last body := by rcases sgn_two d last body with h | h <;> omega
theorem inc_len : ∀ {ds ds' : List Int}, incD ds = some ds' → ds'.length = ds.length
  | [], _, h => by cases h
  | d :: r, ds', h => by
    unfold incD at h
    split at h
    · rename_i r' hr; cases h; simp [inc_len hr]
    · split at h
      · cases h
      · cases h; simp
/-- the places behind the first -/
theorem top_inc (body : Bool) (size : Nat) : ∀ (ds : List Int) (k : Nat) (g : Int), 0 < k → k + ds.length = size → ds ≠ [] → 0 ≤ g →
    (∀ ds', incD ds = some ds' → topL body size k ds' zeroL g = addL (topL body size k ds zeroL g) (unitL (g + szL body ds))) ∧
    (incD ds = none → addL (topL body size k ds zeroL g) (unitL (g + szL body ds)) = freeL body ds.length (unitL g))
  | [], _, _, _, _, h, _ => absurd rfl h
  | d :: r, k, g, hk, hs, _, hg => by
    have hlast : (size - 1 - k == 0) = r.isEmpty := by
      cases r with
      | nil => simp at hs ⊢; omega
      | cons _ _ => simp at hs ⊢; omega
    have hf : size - 1 - k = r.length := by simp at hs; omega
    have hsz : szL body (d :: r) = sgn d r.isEmpty body + szL body r := rfl
    have hsg := sgn_pos d r.isEmpty body
    have hsucc := rowK_succ body size k d g hg
    rw [hlast, hf] at hsucc
    -- the places behind d are full
    have full : incD r = none → addL (topL body size k (d :: r) zeroL g) (unitL (g + szL body (d :: r))) = rowK body size k (d + 1) g := by
      intro hn
      rw [topL_cons, hlast, addL_assoc, hsucc]
      congr 1
      cases r with
      | nil => rw [topL, zero_addL (by simp)]; simp [szL, freeL]
      | cons c r' =>
        have := (top_inc body size (c :: r') (k + 1) (g + sgn d (c :: r').isEmpty body) (by omega) (by simp at hs ⊢; omega) (by simp) (by omega)).2 hn
        rw [hsz, ← Int.add_assoc]; exact this
    refine ⟨fun ds' h => ?_, fun h => ?_⟩
    · unfold incD at h
      split at h
      · rename_i r' hr
        cases h
        have hne : r ≠ [] := by rintro rfl; cases hr
        have := (top_inc body size r (k + 1) (g + sgn d r.isEmpty body) (by omega) (by simp at hs ⊢; omega) hne (by omega)).1 r' hr
        rw [topL_cons, topL_cons, hlast, this, addL_assoc, hsz, Int.add_assoc]
      · rename_i hr
        split at h
        · cases h
        · cases h
          rw [full hr, topL_cons, top_zeros _ _ _ _ _ (by omega), addL_zero (by simp)]
    · unfold incD at h
      split at h
      · cases h
      · rename_i hr
        split at h
        · rename_i h63
          rw [full hr, h63]
          rw [show (63 : Int) + 1 = 64 from rfl, rowK_full body size k (by simp at hs; omega) hk]
          congr 1
          simp at hs ⊢; omega
        · cases h
/-- the whole: one number more -/
theorem countsL_inc (body : Bool) (ds ds' : List Int) (hne : ds ≠ []) (h : incD ds = some ds') : countsL body ds' = addL (countsL body ds) (unitL (szL body ds)) := by
  have hfl : ∀ s, (fullL body s).length = 13 := by
    intro s; cases s with
    | zero => simp [fullL]
    | succ s =>
      rw [fullL]
      induction s with
      | zero => exact len_topL _ _ _ _ _ _ (by simp [fullL])
      | succ s ih => rw [fullL]; exact len_topL _ _ _ _ _ _ ih
  unfold countsL
  rw [inc_len h, topL_acc _ _ ds' _ _ _ (hfl _), topL_acc _ _ ds _ _ _ (hfl _), addL_assoc]
  congr 1
  cases ds with
  | nil => exact absurd rfl hne
  | cons d r =>
    have hlast : ((d :: r).length - 1 - 0 == 0) = r.isEmpty := by cases r <;> simp
    have hf : (d :: r).length - 1 - 0 = r.length := by simp
    have hsucc := rowK_succ body (d :: r).length 0 d 0 (by omega)
    rw [hlast, hf, Int.zero_add] at hsucc
    have hsg := sgn_pos d r.isEmpty body
    have hsz : szL body (d :: r) = sgn d r.isEmpty body + szL body r := rfl
    unfold incD at h
    split at h
    · rename_i r' hr
      cases h
      have hne' : r ≠ [] := by rintro rfl; cases hr
      have := (top_inc body (d :: r).length r 1 (sgn d r.isEmpty body) (by omega) (by simp; omega) hne' (by omega)).1 r' hr
      rw [topL_cons, topL_cons, hlast, Int.zero_add, this, addL_assoc, hsz]
    · rename_i hr
      split at h
      · cases h
      · cases h
        rw [topL_cons, topL_cons, top_zeros _ _ _ _ _ (by omega), addL_zero (by simp), hsucc, hlast, Int.zero_add, addL_assoc]
        congr 1
        cases r with
        | nil => rw [topL, zero_addL (by simp)]; simp [szL, freeL]
        | cons c r' =>
          have := (top_inc body (d :: c :: r').length (c :: r') 1 (sgn d (c :: r').isEmpty body) (by omega) (by simp; omega) (by simp) (by omega)).2 hr
          rw [hsz]; exact this.symm
end Mine
end

section
namespace Mine
theorem d_mod {m d : Int} (h : 0 ≤ d ∧ d ≤ 63) : (m * 64 + d) % 64 = d := by omega
theorem d_div {m d : Int} (h : 0 ≤ d ∧ d ≤ 63) : (m * 64 + d) / 64 = m := by omega
theorem d_low {d : Int} (h : 0 ≤ d ∧ d ≤ 63) : d % 64 = d := by omega
theorem d_lt {m d k K : Int} (e : k * 64 = K) (h : 0 ≤ d ∧ d ≤ 63) (hm : m < k) : m * 64 + d < K := by omega
theorem d_ge {m d k K : Int} (e : k * 64 = K) (h : 0 ≤ d ∧ d ≤ 63) (hm : ¬ m < k) : ¬ m * 64 + d < K := by omega
theorem digs1 {d : Int} (h : 0 ≤ d ∧ d ≤ 63) : digs d = [d] := by
  unfold digs
  rw [if_pos (Int.lt_of_le_of_lt h.2 (by decide)), d_low h]
theorem digs2 {c d : Int} (h : 0 ≤ d ∧ d ≤ 63) (hc : 0 ≤ c ∧ c ≤ 63) (h1 : ¬ c < 1) : digs (c * 64 + d) = [c, d] := by
  have h4 : c < 64 := Int.lt_of_le_of_lt hc.2 (by decide)
  unfold digs
  rw [if_neg (d_ge (k := 1) (K := 64) rfl h h1), if_pos (d_lt (k := 64) (K := 4096) rfl h h4), d_mod h, d_div h, d_low hc]
theorem digs3 {b c d : Int} (h : 0 ≤ d ∧ d ≤ 63) (hc : 0 ≤ c ∧ c ≤ 63) (hb : 0 ≤ b ∧ b ≤ 63) (h1 : ¬ b < 1) : digs ((b * 64 + c) * 64 + d) = [b, c, d] := by
  have h4 : b < 64 := Int.lt_of_le_of_lt hb.2 (by decide)
  have g1 : ¬ b * 64 + c < 64 := d_ge (k := 1) (K := 64) rfl hc h1
  unfold digs
  rw [if_neg (d_ge (k := 1) (K := 64) rfl h fun q => g1 (Int.lt_trans q (by decide))), if_neg (d_ge (k := 64) (K := 4096) rfl h g1), if_pos (d_lt (k := 4096) (K := 262144) rfl h (d_lt (k := 64) (K := 4096) rfl hc h4)), d_mod h, d_div h, d_div hc, d_mod hc, d_low hb]
theorem digs4 {a b c d : Int} (h : 0 ≤ d ∧ d ≤ 63) (hc : 0 ≤ c ∧ c ≤ 63) (hb : 0 ≤ b ∧ b ≤ 63) (ha : 0 ≤ a ∧ a ≤ 63) (h1 : ¬ a < 1) : digs (((a * 64 + b) * 64 + c) * 64 + d) = [a, b, c, d] := by
  have g1 : ¬ a * 64 + b < 64 := d_ge (k := 1) (K := 64) rfl hb h1
  have g2 : ¬ (a * 64 + b) * 64 + c < 4096 := d_ge (k := 64) (K := 4096) rfl hc g1
  unfold digs
  rw [if_neg (d_ge (k := 1) (K := 64) rfl h fun q => g2 (Int.lt_trans q (by decide))), if_neg (d_ge (k := 64) (K := 4096) rfl h fun q => g2 (Int.lt_trans q (by decide))), if_neg (d_ge (k := 4096) (K := 262144) rfl h g2), d_mod h, d_div h, d_div hc, d_div hb, d_mod hc, d_mod hb, d_low ha]
theorem split64 (n : Int) : ∃ m d, n = m * 64 + d ∧ (0 ≤ d ∧ d ≤ 63) := ⟨n / 64, n % 64, by omega, by omega⟩
theorem inc_full : ∀ l : List Int, (∀ x ∈ l, x = 63) → incD l = none
  | [], _ => rfl
  | x :: l, h => by
    rw [incD, inc_full l fun y hy => h y (List.mem_cons_of_mem _ hy)]
    dsimp only
    rw [if_pos (h x List.mem_cons_self)]
theorem inc_one {d : Int} {l : List Int} (h : d ≠ 63) (hl : ∀ x ∈ l, x = 63) : incD (d :: l) = some ((d + 1) :: List.replicate l.length 0) := by
  rw [incD, inc_full l hl]
  dsimp only
  rw [if_neg h]
theorem inc_skip {d : Int} {l l' : List Int} (h : incD l = some l') : incD (d :: l) = some (d :: l') := by rw [incD, h]
theorem up {d : Int} (h : 0 ≤ d ∧ d ≤ 63) (h3 : d ≠ 63) : 0 ≤ d + 1 ∧ d + 1 ≤ 63 := by omega
theorem up1 {d : Int} (h : 0 ≤ d ∧ d ≤ 63) : ¬ d + 1 < 1 := by omega
theorem all63 : ∀ {l : List Int}, (∀ x ∈ l, x = 63) → ∀ x ∈ (63 : Int) :: l, x = 63
  | _, h, _, .head _ => rfl
  | _, h, x, .tail _ hx => h x hx
theorem inc_digs {n : Int} (h0 : 0 ≤ n) (h1 : n < 16777215) (a : n ≠ 63) (b : n ≠ 4095) (c : n ≠ 262143) : incD (digs n) = some (digs (n + 1)) := by
  have z : (0 : Int) ≤ 0 ∧ (0 : Int) ≤ 63 := by decide
  have e0 : ∀ x ∈ ([] : List Int), x = 63 := fun _ h => nomatch h
  obtain ⟨m, d, rfl, hd⟩ := split64 n
  by_cases c1 : m < 1
  · obtain rfl : m = 0 := by omega
    rw [Int.zero_mul, Int.zero_add] at a ⊢
    rw [digs1 hd, digs1 (up hd a)]
    exact inc_one a e0
  obtain ⟨m, q, rfl, hq⟩ := split64 m
  by_cases c2 : m < 1
  · obtain rfl : m = 0 := by omega
    rw [Int.zero_mul, Int.zero_add] at b c1 ⊢
    rw [digs2 hd hq c1]
    by_cases k : d = 63
    · subst k
      have kq : q ≠ 63 := fun e => b (by rw [e]; rfl)
      rw [show q * 64 + 63 + 1 = (q + 1) * 64 + 0 by omega, digs2 z (up hq kq) (up1 hq)]
      exact inc_one kq (all63 e0)
    · rw [Int.add_assoc, digs2 (up hd k) hq c1]
      exact inc_skip (inc_one k e0)
  obtain ⟨m, r, rfl, hr⟩ := split64 m
  by_cases c3 : m < 1
  · obtain rfl : m = 0 := by omega
    rw [Int.zero_mul, Int.zero_add] at c c2 ⊢
    rw [digs3 hd hq hr c2]
    by_cases k : d = 63
    · subst k
      by_cases kq : q = 63
      · subst kq
        have kr : r ≠ 63 := fun e => c (by rw [e]; rfl)
        rw [show (r * 64 + 63) * 64 + 63 + 1 = ((r + 1) * 64 + 0) * 64 + 0 by omega, digs3 z z (up hr kr) (up1 hr)]
        exact inc_one kr (all63 (all63 e0))
      · rw [show (r * 64 + q) * 64 + 63 + 1 = (r * 64 + (q + 1)) * 64 + 0 by omega, digs3 z (up hq kq) hr c2]
        exact inc_skip (inc_one kq (all63 e0))
    · rw [Int.add_assoc, digs3 (up hd k) hq hr c2]
      exact inc_skip (inc_skip (inc_one k e0))
  have hm : 0 ≤ m ∧ m ≤ 63 := by omega
  rw [digs4 hd hq hr hm c3]
  by_cases k : d = 63
  · subst k
    by_cases kq : q = 63
    · subst kq
      by_cases kr : r = 63
      · subst kr
        have km : m ≠ 63 := fun e => by rw [e] at h1; exact absurd h1 (by decide)
        rw [show ((m * 64 + 63) * 64 + 63) * 64 + 63 + 1 = (((m + 1) * 64 + 0) * 64 + 0) * 64 + 0 by omega, digs4 z z z (up hm km) (up1 hm)]
        exact inc_one km (all63 (all63 (all63 e0)))
      · rw [show ((m * 64 + r) * 64 + 63) * 64 + 63 + 1 = ((m * 64 + (r + 1)) * 64 + 0) * 64 + 0 by omega, digs4 z z (up hr kr) hm c3]
        exact inc_skip (inc_one kr (all63 (all63 e0)))
    · rw [show ((m * 64 + r) * 64 + q) * 64 + 63 + 1 = ((m * 64 + r) * 64 + (q + 1)) * 64 + 0 by omega, digs4 z (up hq kq) hr hm c3]
      exact inc_skip (inc_skip (inc_one kq (all63 e0)))
  · rw [Int.add_assoc, digs4 (up hd k) hq hr hm c3]
    exact inc_skip (inc_skip (inc_skip (inc_one k e0)))
theorem digs_ne0 (n : Int) : digs n ≠ [] := by unfold digs; (repeat' split) <;> simp
theorem counts_succ (bd : Bool) {n : Int} (h0 : 0 ≤ n) (h1 : n < 16777215) : countsL bd (digs (n + 1)) = addL (countsL bd (digs n)) (unitL (szL bd (digs n))) := by
  by_cases a : n = 63
  · subst a; cases bd <;> decide +kernel
  by_cases b : n = 4095
  · subst b; cases bd <;> decide +kernel
  by_cases c : n = 262143
  · subst c; cases bd <;> decide +kernel
  exact countsL_inc bd _ _ (digs_ne0 n) (inc_digs h0 h1 a b c)
end Mine
end

section
open PySem PySem.W PyProof.Rows
set_option maxRecDepth 1000000
set_option linter.unusedVariables false
namespace Mine
/-! ## the head by hand: the top's run, its states -/
noncomputable abbrev PR : Program := PySem.Challenge.rw_ny0120_01.row.toRowW.1
noncomputable def fnAt (i : Nat) : Arguments × List Stmt × Scope := match (PR.main.body)[i]? with
  | some (.FunctionDef _ a b _ _ _ s _ _ _) => (a, b, s)
  | _ => (default, [], default)
noncomputable def vw : Program := { PR with main := { PR.main with body := [0, 1, 2, 3, 4, 5, 6, 7, 8, 13, 15, 20, 22, 23, 24, 25, 26].filterMap fun i => (PR.main.body)[i]? } }
noncomputable def EV : Env := { scope := PR.main.scope, locals := mainNs, globals := mainNs, cells := [], code := Value.ref 13, frame := some 14 }
noncomputable abbrev CE : Code := Code.body (behindTheImports PR) EV
noncomputable abbrev BB : List Frame := [topFrame { line := 0, col := 0, endLine := 0, endCol := 0 }]
noncomputable def cut (a b : Nat) : List Stmt := ((behindTheImports PR).drop a).take b
abbrev st (t : BT) (n k : Nat) (os : OsState) : SharedT := { tree := t, n := n, life := {}, gens := { toList := [] }, drawn := {}, toks := k, os := os }
abbrev sh (h : Heap) (k : Nat) (os : OsState) : Shared := { heap := h, toks := k, os := os }
noncomputable abbrev o_42 (P : Params) : Obj := boot_o_0 P
noncomputable abbrev o_43 (P : Params) : Obj := boot_o_1 P
noncomputable def o_44 (P : Params) : Obj := { cls := Value.none, data := Data.dict #[] }
noncomputable def o_45 (P : Params) : Obj :=
  { cls := Value.type "dict",
    data :=
      Data.dict
        #[{ hash := PyData.keyHash P (Str.ofString "__name__"), key := Value.str (Str.ofString "__name__") 165, val := Value.str (Str.ofString "__main__") 164 },
          { hash := PyData.keyHash P (Str.ofString "__doc__"), key := Value.str (Str.ofString "__doc__") 166, val := Value.none },
          { hash := PyData.keyHash P (Str.ofString "__package__"), key := Value.str (Str.ofString "__package__") 167, val := Value.none },
          { hash := PyData.keyHash P (Str.ofString "__loader__"), key := Value.str (Str.ofString "__loader__") 168, val := Value.builtin "__main__.__loader__#opaque" },
          { hash := PyData.keyHash P (Str.ofString "__spec__"), key := Value.str (Str.ofString "__spec__") 169, val := Value.none },
          { hash := PyData.keyHash P (Str.ofString "__annotations__"), key := Value.str (Str.ofString "__annotations__") 170, val := Value.ref 6 },
          { hash := PyData.keyHash P (Str.ofString "__builtins__"), key := Value.str (Str.ofString "__builtins__") 171, val := Value.ref 4 },
          { hash := PyData.keyHash P (Str.ofString "__file__"), key := Value.str (Str.ofString "__file__") 173, val := Value.str (Str.ofString "/claim/cut.py") 172 },
          { hash := PyData.keyHash P (Str.ofString "__cached__"), key := Value.str (Str.ofString "__cached__") 174, val := Value.none }]
        9 }
noncomputable def o_46 (P : Params) : Obj := { cls := Value.type "module", dict := some 0 }
noncomputable def o_47 (P : Params) : Obj := { cls := Value.type "module", dict := some 3 }
noncomputable def o_48 (P : Params) : Obj := { cls := Value.type "dict", data := Data.dict #[] }
noncomputable def o_49 (P : Params) : Obj := { cls := Value.type "tuple", data := Data.seq #[] }
noncomputable def o_50 (P : Params) : Obj := { cls := Value.none, data := Data.fields #[] }
noncomputable def o_51 (P : Params) : Obj :=
  { cls := Value.type "code",
    data :=
      Data.fields
        #[Value.str (Str.ofString "<module>") 176, Value.str (Str.ofString "<module>") 177, Value.str (Str.ofString "/claim/cut.py") 178, Value.int 1 0, Value.int 0 0, Value.int 0 0, Value.int 0 0,
          Value.int 0 0, Value.ref 7, Value.bool false, Value.int 175 0, Value.ref 8, Value.none, Value.none, Value.none, Value.none, Value.int 179 0, Value.int 1 0,
          Value.str (Str.ofString "/claim/cut.py") 180] }
noncomputable def o_52 (P : Params) : Obj := { cls := Value.type "frame", slots := #[some (Value.ref 9), some (Value.ref 3), some (Value.ref 3), none, some (Value.str (Str.ofString "__main__") 164), none, some (Value.ref 0)] }
noncomputable def o_53 (P : Params) : Obj := { cls := Value.type "tuple", data := Data.seq #[] }
noncomputable def o_54 (P : Params) : Obj := { cls := Value.none, data := Data.fields #[] }
noncomputable def o_55 (P : Params) : Obj :=
  { cls := Value.type "code",
    data :=
      Data.fields
        #[Value.str (Str.ofString "<module>") 182, Value.str (Str.ofString "<module>") 183, Value.str (Str.ofString "/claim/cut.py") 184, Value.int 1 0, Value.int 0 0, Value.int 0 0, Value.int 0 0,
          Value.int 0 0, Value.ref 11, Value.bool false, Value.int 181 0, Value.ref 12, Value.none, Value.none, Value.none, Value.none, Value.int 185 0, Value.int 1 0,
          Value.str (Str.ofString "/claim/cut.py") 186] }
noncomputable def o_56 (P : Params) : Obj := { cls := Value.type "frame", slots := #[some (Value.ref 13), some (Value.ref 3), some (Value.ref 3), none, some (Value.str (Str.ofString "__main__") 164), none, some (Value.ref 0)] }
noncomputable def o_59 (P : Params) : Obj :=
  { cls := Value.type "dict",
    data :=
      Data.dict
        #[{ hash := PyData.keyHash P (Str.ofString "__name__"), key := Value.str (Str.ofString "__name__") 165, val := Value.str (Str.ofString "__main__") 164 },
          { hash := PyData.keyHash P (Str.ofString "__doc__"), key := Value.str (Str.ofString "__doc__") 166, val := Value.none },
          { hash := PyData.keyHash P (Str.ofString "__package__"), key := Value.str (Str.ofString "__package__") 167, val := Value.none },
          { hash := PyData.keyHash P (Str.ofString "__loader__"), key := Value.str (Str.ofString "__loader__") 168, val := Value.builtin "__main__.__loader__#opaque" },
          { hash := PyData.keyHash P (Str.ofString "__spec__"), key := Value.str (Str.ofString "__spec__") 169, val := Value.none },
          { hash := PyData.keyHash P (Str.ofString "__annotations__"), key := Value.str (Str.ofString "__annotations__") 170, val := Value.ref 6 },
          { hash := PyData.keyHash P (Str.ofString "__builtins__"), key := Value.str (Str.ofString "__builtins__") 171, val := Value.ref 4 },
          { hash := PyData.keyHash P (Str.ofString "__file__"), key := Value.str (Str.ofString "__file__") 173, val := Value.str (Str.ofString "/claim/cut.py") 172 },
          { hash := PyData.keyHash P (Str.ofString "__cached__"), key := Value.str (Str.ofString "__cached__") 174, val := Value.none },
          { hash := PyData.keyHash P (Str.ofString "CRLF"), key := Value.str (Str.ofString "CRLF") 188, val := Value.str (Str.ofString "\x0d\n") 187 },
          { hash := PyData.keyHash P (Str.ofString "NL"), key := Value.str (Str.ofString "NL") 190, val := Value.str (Str.ofString "\n") 189 }]
        11 }
noncomputable def o_61 (P : Params) : Obj :=
  { cls := Value.type "dict",
    data :=
      Data.dict
        #[{ hash := PyData.keyHash P (Str.ofString "__name__"), key := Value.str (Str.ofString "__name__") 165, val := Value.str (Str.ofString "__main__") 164 },
          { hash := PyData.keyHash P (Str.ofString "__doc__"), key := Value.str (Str.ofString "__doc__") 166, val := Value.none },
          { hash := PyData.keyHash P (Str.ofString "__package__"), key := Value.str (Str.ofString "__package__") 167, val := Value.none },
          { hash := PyData.keyHash P (Str.ofString "__loader__"), key := Value.str (Str.ofString "__loader__") 168, val := Value.builtin "__main__.__loader__#opaque" },
          { hash := PyData.keyHash P (Str.ofString "__spec__"), key := Value.str (Str.ofString "__spec__") 169, val := Value.none },
          { hash := PyData.keyHash P (Str.ofString "__annotations__"), key := Value.str (Str.ofString "__annotations__") 170, val := Value.ref 6 },
          { hash := PyData.keyHash P (Str.ofString "__builtins__"), key := Value.str (Str.ofString "__builtins__") 171, val := Value.ref 4 },
          { hash := PyData.keyHash P (Str.ofString "__file__"), key := Value.str (Str.ofString "__file__") 173, val := Value.str (Str.ofString "/claim/cut.py") 172 },
          { hash := PyData.keyHash P (Str.ofString "__cached__"), key := Value.str (Str.ofString "__cached__") 174, val := Value.none },
          { hash := PyData.keyHash P (Str.ofString "CRLF"), key := Value.str (Str.ofString "CRLF") 188, val := Value.str (Str.ofString "\x0d\n") 187 },
          { hash := PyData.keyHash P (Str.ofString "NL"), key := Value.str (Str.ofString "NL") 190, val := Value.str (Str.ofString "\n") 189 },
          { hash := PyData.keyHash P (Str.ofString "_QUOPRI_MAP"), key := Value.str (Str.ofString "_QUOPRI_MAP") 1218, val := Value.ref 17 }]
        12 }
noncomputable def o_62 (P : Params) : Obj := { cls := Value.type "range", data := Data.fields #[Value.int 0 192, Value.int 256 191, Value.int 1 193] }
noncomputable def o_66 (P : Params) : Obj := { cls := Value.type "tuple", data := Data.seq #[] }
noncomputable def o_64 (P : Params) : Obj :=
  { cls := Value.type "list",
    data :=
      Data.seq
        #[Value.str (Str.ofString "=00") 197, Value.str (Str.ofString "=01") 201, Value.str (Str.ofString "=02") 205, Value.str (Str.ofString "=03") 209, Value.str (Str.ofString "=04") 213,
          Value.str (Str.ofString "=05") 217, Value.str (Str.ofString "=06") 221, Value.str (Str.ofString "=07") 225, Value.str (Str.ofString "=08") 229, Value.str (Str.ofString "=09") 233,
          Value.str (Str.ofString "=0A") 237, Value.str (Str.ofString "=0B") 241, Value.str (Str.ofString "=0C") 245, Value.str (Str.ofString "=0D") 249, Value.str (Str.ofString "=0E") 253,
          Value.str (Str.ofString "=0F") 257, Value.str (Str.ofString "=10") 261, Value.str (Str.ofString "=11") 265, Value.str (Str.ofString "=12") 269, Value.str (Str.ofString "=13") 273,
          Value.str (Str.ofString "=14") 277, Value.str (Str.ofString "=15") 281, Value.str (Str.ofString "=16") 285, Value.str (Str.ofString "=17") 289, Value.str (Str.ofString "=18") 293,
          Value.str (Str.ofString "=19") 297, Value.str (Str.ofString "=1A") 301, Value.str (Str.ofString "=1B") 305, Value.str (Str.ofString "=1C") 309, Value.str (Str.ofString "=1D") 313,
          Value.str (Str.ofString "=1E") 317, Value.str (Str.ofString "=1F") 321, Value.str (Str.ofString "=20") 325, Value.str (Str.ofString "=21") 329, Value.str (Str.ofString "=22") 333,
          Value.str (Str.ofString "=23") 337, Value.str (Str.ofString "=24") 341, Value.str (Str.ofString "=25") 345, Value.str (Str.ofString "=26") 349, Value.str (Str.ofString "=27") 353,
          Value.str (Str.ofString "=28") 357, Value.str (Str.ofString "=29") 361, Value.str (Str.ofString "=2A") 365, Value.str (Str.ofString "=2B") 369, Value.str (Str.ofString "=2C") 373,
          Value.str (Str.ofString "=2D") 377, Value.str (Str.ofString "=2E") 381, Value.str (Str.ofString "=2F") 385, Value.str (Str.ofString "=30") 389, Value.str (Str.ofString "=31") 393,
          Value.str (Str.ofString "=32") 397, Value.str (Str.ofString "=33") 401, Value.str (Str.ofString "=34") 405, Value.str (Str.ofString "=35") 409, Value.str (Str.ofString "=36") 413,
          Value.str (Str.ofString "=37") 417, Value.str (Str.ofString "=38") 421, Value.str (Str.ofString "=39") 425, Value.str (Str.ofString "=3A") 429, Value.str (Str.ofString "=3B") 433,
          Value.str (Str.ofString "=3C") 437, Value.str (Str.ofString "=3D") 441, Value.str (Str.ofString "=3E") 445, Value.str (Str.ofString "=3F") 449, Value.str (Str.ofString "=40") 453,
          Value.str (Str.ofString "=41") 457, Value.str (Str.ofString "=42") 461, Value.str (Str.ofString "=43") 465, Value.str (Str.ofString "=44") 469, Value.str (Str.ofString "=45") 473,
          Value.str (Str.ofString "=46") 477, Value.str (Str.ofString "=47") 481, Value.str (Str.ofString "=48") 485, Value.str (Str.ofString "=49") 489, Value.str (Str.ofString "=4A") 493,
          Value.str (Str.ofString "=4B") 497, Value.str (Str.ofString "=4C") 501, Value.str (Str.ofString "=4D") 505, Value.str (Str.ofString "=4E") 509, Value.str (Str.ofString "=4F") 513,
          Value.str (Str.ofString "=50") 517, Value.str (Str.ofString "=51") 521, Value.str (Str.ofString "=52") 525, Value.str (Str.ofString "=53") 529, Value.str (Str.ofString "=54") 533,
          Value.str (Str.ofString "=55") 537, Value.str (Str.ofString "=56") 541, Value.str (Str.ofString "=57") 545, Value.str (Str.ofString "=58") 549, Value.str (Str.ofString "=59") 553,
          Value.str (Str.ofString "=5A") 557, Value.str (Str.ofString "=5B") 561, Value.str (Str.ofString "=5C") 565, Value.str (Str.ofString "=5D") 569, Value.str (Str.ofString "=5E") 573,
          Value.str (Str.ofString "=5F") 577, Value.str (Str.ofString "=60") 581, Value.str (Str.ofString "=61") 585, Value.str (Str.ofString "=62") 589, Value.str (Str.ofString "=63") 593,
          Value.str (Str.ofString "=64") 597, Value.str (Str.ofString "=65") 601, Value.str (Str.ofString "=66") 605, Value.str (Str.ofString "=67") 609, Value.str (Str.ofString "=68") 613,
          Value.str (Str.ofString "=69") 617, Value.str (Str.ofString "=6A") 621, Value.str (Str.ofString "=6B") 625, Value.str (Str.ofString "=6C") 629, Value.str (Str.ofString "=6D") 633,
          Value.str (Str.ofString "=6E") 637, Value.str (Str.ofString "=6F") 641, Value.str (Str.ofString "=70") 645, Value.str (Str.ofString "=71") 649, Value.str (Str.ofString "=72") 653,
          Value.str (Str.ofString "=73") 657, Value.str (Str.ofString "=74") 661, Value.str (Str.ofString "=75") 665, Value.str (Str.ofString "=76") 669, Value.str (Str.ofString "=77") 673,
          Value.str (Str.ofString "=78") 677, Value.str (Str.ofString "=79") 681, Value.str (Str.ofString "=7A") 685, Value.str (Str.ofString "=7B") 689, Value.str (Str.ofString "=7C") 693,
          Value.str (Str.ofString "=7D") 697, Value.str (Str.ofString "=7E") 701, Value.str (Str.ofString "=7F") 705, Value.str (Str.ofString "=80") 709, Value.str (Str.ofString "=81") 713,
          Value.str (Str.ofString "=82") 717, Value.str (Str.ofString "=83") 721, Value.str (Str.ofString "=84") 725, Value.str (Str.ofString "=85") 729, Value.str (Str.ofString "=86") 733,
          Value.str (Str.ofString "=87") 737, Value.str (Str.ofString "=88") 741, Value.str (Str.ofString "=89") 745, Value.str (Str.ofString "=8A") 749, Value.str (Str.ofString "=8B") 753,
          Value.str (Str.ofString "=8C") 757, Value.str (Str.ofString "=8D") 761, Value.str (Str.ofString "=8E") 765, Value.str (Str.ofString "=8F") 769, Value.str (Str.ofString "=90") 773,
          Value.str (Str.ofString "=91") 777, Value.str (Str.ofString "=92") 781, Value.str (Str.ofString "=93") 785, Value.str (Str.ofString "=94") 789, Value.str (Str.ofString "=95") 793,
          Value.str (Str.ofString "=96") 797, Value.str (Str.ofString "=97") 801, Value.str (Str.ofString "=98") 805, Value.str (Str.ofString "=99") 809, Value.str (Str.ofString "=9A") 813,
          Value.str (Str.ofString "=9B") 817, Value.str (Str.ofString "=9C") 821, Value.str (Str.ofString "=9D") 825, Value.str (Str.ofString "=9E") 829, Value.str (Str.ofString "=9F") 833,
          Value.str (Str.ofString "=A0") 837, Value.str (Str.ofString "=A1") 841, Value.str (Str.ofString "=A2") 845, Value.str (Str.ofString "=A3") 849, Value.str (Str.ofString "=A4") 853,
          Value.str (Str.ofString "=A5") 857, Value.str (Str.ofString "=A6") 861, Value.str (Str.ofString "=A7") 865, Value.str (Str.ofString "=A8") 869, Value.str (Str.ofString "=A9") 873,
          Value.str (Str.ofString "=AA") 877, Value.str (Str.ofString "=AB") 881, Value.str (Str.ofString "=AC") 885, Value.str (Str.ofString "=AD") 889, Value.str (Str.ofString "=AE") 893,
          Value.str (Str.ofString "=AF") 897, Value.str (Str.ofString "=B0") 901, Value.str (Str.ofString "=B1") 905, Value.str (Str.ofString "=B2") 909, Value.str (Str.ofString "=B3") 913,
          Value.str (Str.ofString "=B4") 917, Value.str (Str.ofString "=B5") 921, Value.str (Str.ofString "=B6") 925, Value.str (Str.ofString "=B7") 929, Value.str (Str.ofString "=B8") 933,
          Value.str (Str.ofString "=B9") 937, Value.str (Str.ofString "=BA") 941, Value.str (Str.ofString "=BB") 945, Value.str (Str.ofString "=BC") 949, Value.str (Str.ofString "=BD") 953,
          Value.str (Str.ofString "=BE") 957, Value.str (Str.ofString "=BF") 961, Value.str (Str.ofString "=C0") 965, Value.str (Str.ofString "=C1") 969, Value.str (Str.ofString "=C2") 973,
          Value.str (Str.ofString "=C3") 977, Value.str (Str.ofString "=C4") 981, Value.str (Str.ofString "=C5") 985, Value.str (Str.ofString "=C6") 989, Value.str (Str.ofString "=C7") 993,
          Value.str (Str.ofString "=C8") 997, Value.str (Str.ofString "=C9") 1001, Value.str (Str.ofString "=CA") 1005, Value.str (Str.ofString "=CB") 1009, Value.str (Str.ofString "=CC") 1013,
          Value.str (Str.ofString "=CD") 1017, Value.str (Str.ofString "=CE") 1021, Value.str (Str.ofString "=CF") 1025, Value.str (Str.ofString "=D0") 1029, Value.str (Str.ofString "=D1") 1033,
          Value.str (Str.ofString "=D2") 1037, Value.str (Str.ofString "=D3") 1041, Value.str (Str.ofString "=D4") 1045, Value.str (Str.ofString "=D5") 1049, Value.str (Str.ofString "=D6") 1053,
          Value.str (Str.ofString "=D7") 1057, Value.str (Str.ofString "=D8") 1061, Value.str (Str.ofString "=D9") 1065, Value.str (Str.ofString "=DA") 1069, Value.str (Str.ofString "=DB") 1073,
          Value.str (Str.ofString "=DC") 1077, Value.str (Str.ofString "=DD") 1081, Value.str (Str.ofString "=DE") 1085, Value.str (Str.ofString "=DF") 1089, Value.str (Str.ofString "=E0") 1093,
          Value.str (Str.ofString "=E1") 1097, Value.str (Str.ofString "=E2") 1101, Value.str (Str.ofString "=E3") 1105, Value.str (Str.ofString "=E4") 1109, Value.str (Str.ofString "=E5") 1113,
          Value.str (Str.ofString "=E6") 1117, Value.str (Str.ofString "=E7") 1121, Value.str (Str.ofString "=E8") 1125, Value.str (Str.ofString "=E9") 1129, Value.str (Str.ofString "=EA") 1133,
          Value.str (Str.ofString "=EB") 1137, Value.str (Str.ofString "=EC") 1141, Value.str (Str.ofString "=ED") 1145, Value.str (Str.ofString "=EE") 1149, Value.str (Str.ofString "=EF") 1153,
          Value.str (Str.ofString "=F0") 1157, Value.str (Str.ofString "=F1") 1161, Value.str (Str.ofString "=F2") 1165, Value.str (Str.ofString "=F3") 1169, Value.str (Str.ofString "=F4") 1173,
          Value.str (Str.ofString "=F5") 1177, Value.str (Str.ofString "=F6") 1181, Value.str (Str.ofString "=F7") 1185, Value.str (Str.ofString "=F8") 1189, Value.str (Str.ofString "=F9") 1193,
          Value.str (Str.ofString "=FA") 1197, Value.str (Str.ofString "=FB") 1201, Value.str (Str.ofString "=FC") 1205, Value.str (Str.ofString "=FD") 1209, Value.str (Str.ofString "=FE") 1213,
          Value.str (Str.ofString "=FF") 1217]
        256 }
noncomputable def o_63 (P : Params) : Obj := { cls := Value.type "range_iterator", data := Data.fields #[Value.int 256 0, Value.int 0 0, Value.int 1 0] }
noncomputable def o_67 (P : Params) : Obj := { cls := Value.type "StopIteration", data := Data.fields #[Value.ref 19, Value.none, Value.none, Value.none, Value.bool false, Value.none] }
noncomputable def o_65 (P : Params) : Obj := { cls := Value.type "dict", data := Data.dict #[] 2 }
noncomputable def o_360 (P : Params) : Obj :=
  { cls := Value.type "dict",
    data :=
      Data.dict
        #[{ hash := PyData.keyHash P (Str.ofString "__name__"), key := Value.str (Str.ofString "__name__") 165, val := Value.str (Str.ofString "cpy313.email.quoprimime") 1229 },
          { hash := PyData.keyHash P (Str.ofString "__doc__"), key := Value.str (Str.ofString "__doc__") 166, val := Value.none },
          { hash := PyData.keyHash P (Str.ofString "__package__"), key := Value.str (Str.ofString "__package__") 167, val := Value.none },
          { hash := PyData.keyHash P (Str.ofString "__loader__"), key := Value.str (Str.ofString "__loader__") 168, val := Value.builtin "__main__.__loader__#opaque" },
          { hash := PyData.keyHash P (Str.ofString "__spec__"), key := Value.str (Str.ofString "__spec__") 169, val := Value.none },
          { hash := PyData.keyHash P (Str.ofString "__annotations__"), key := Value.str (Str.ofString "__annotations__") 170, val := Value.ref 6 },
          { hash := PyData.keyHash P (Str.ofString "__builtins__"), key := Value.str (Str.ofString "__builtins__") 171, val := Value.ref 4 },
          { hash := PyData.keyHash P (Str.ofString "__file__"), key := Value.str (Str.ofString "__file__") 173, val := Value.str (Str.ofString "/claim/cut.py") 172 },
          { hash := PyData.keyHash P (Str.ofString "__cached__"), key := Value.str (Str.ofString "__cached__") 174, val := Value.none },
          { hash := PyData.keyHash P (Str.ofString "CRLF"), key := Value.str (Str.ofString "CRLF") 188, val := Value.str (Str.ofString "\x0d\n") 187 },
          { hash := PyData.keyHash P (Str.ofString "NL"), key := Value.str (Str.ofString "NL") 190, val := Value.str (Str.ofString "\n") 189 },
          { hash := PyData.keyHash P (Str.ofString "_QUOPRI_MAP"), key := Value.str (Str.ofString "_QUOPRI_MAP") 1218, val := Value.ref 17 },
          { hash := PyData.keyHash P (Str.ofString "_QUOPRI_HEADER_MAP"), key := Value.str (Str.ofString "_QUOPRI_HEADER_MAP") 1219, val := Value.ref 22 },
          { hash := PyData.keyHash P (Str.ofString "_QUOPRI_BODY_MAP"), key := Value.str (Str.ofString "_QUOPRI_BODY_MAP") 1220, val := Value.ref 24 },
          { hash := PyData.keyHash P (Str.ofString "ascii_lowercase"), key := Value.str (Str.ofString "ascii_lowercase") 1222, val := Value.str (Str.ofString "abcdefghijklmnopqrstuvwxyz") 1221 },
          { hash := PyData.keyHash P (Str.ofString "ascii_uppercase"), key := Value.str (Str.ofString "ascii_uppercase") 1224, val := Value.str (Str.ofString "ABCDEFGHIJKLMNOPQRSTUVWXYZ") 1223 },
          { hash := PyData.keyHash P (Str.ofString "ascii_letters"), key := Value.str (Str.ofString "ascii_letters") 1226,
            val := Value.str (Str.ofString "abcdefghijklmnopqrstuvwxyzABCDEFGHIJKLMNOPQRSTUVWXYZ") 1225 },
          { hash := PyData.keyHash P (Str.ofString "digits"), key := Value.str (Str.ofString "digits") 1228, val := Value.str (Str.ofString "0123456789") 1227 }]
        18 }
noncomputable def o_363 (P : Params) : Obj := { cls := Value.type "slice", data := Data.fields #[Value.none, Value.none, Value.none] }
noncomputable def o_361 (P : Params) : Obj := { cls := Value.type "slice", data := Data.fields #[Value.none, Value.none, Value.none] }
noncomputable def o_364 (P : Params) : Obj :=
  { cls := Value.type "list",
    data :=
      Data.seq
        #[Value.str (Str.ofString "=00") 197, Value.str (Str.ofString "=01") 201, Value.str (Str.ofString "=02") 205, Value.str (Str.ofString "=03") 209, Value.str (Str.ofString "=04") 213,
          Value.str (Str.ofString "=05") 217, Value.str (Str.ofString "=06") 221, Value.str (Str.ofString "=07") 225, Value.str (Str.ofString "=08") 229, Value.str (Str.ofString "=09") 233,
          Value.str (Str.ofString "=0A") 237, Value.str (Str.ofString "=0B") 241, Value.str (Str.ofString "=0C") 245, Value.str (Str.ofString "=0D") 249, Value.str (Str.ofString "=0E") 253,
          Value.str (Str.ofString "=0F") 257, Value.str (Str.ofString "=10") 261, Value.str (Str.ofString "=11") 265, Value.str (Str.ofString "=12") 269, Value.str (Str.ofString "=13") 273,
          Value.str (Str.ofString "=14") 277, Value.str (Str.ofString "=15") 281, Value.str (Str.ofString "=16") 285, Value.str (Str.ofString "=17") 289, Value.str (Str.ofString "=18") 293,
          Value.str (Str.ofString "=19") 297, Value.str (Str.ofString "=1A") 301, Value.str (Str.ofString "=1B") 305, Value.str (Str.ofString "=1C") 309, Value.str (Str.ofString "=1D") 313,
          Value.str (Str.ofString "=1E") 317, Value.str (Str.ofString "=1F") 321, Value.str (Str.ofString "=20") 325, Value.str (Str.ofString "=21") 329, Value.str (Str.ofString "=22") 333,
          Value.str (Str.ofString "=23") 337, Value.str (Str.ofString "=24") 341, Value.str (Str.ofString "=25") 345, Value.str (Str.ofString "=26") 349, Value.str (Str.ofString "=27") 353,
          Value.str (Str.ofString "=28") 357, Value.str (Str.ofString "=29") 361, Value.str (Str.ofString "=2A") 365, Value.str (Str.ofString "=2B") 369, Value.str (Str.ofString "=2C") 373,
          Value.str (Str.ofString "=2D") 377, Value.str (Str.ofString "=2E") 381, Value.str (Str.ofString "=2F") 385, Value.str (Str.ofString "=30") 389, Value.str (Str.ofString "=31") 393,
          Value.str (Str.ofString "=32") 397, Value.str (Str.ofString "=33") 401, Value.str (Str.ofString "=34") 405, Value.str (Str.ofString "=35") 409, Value.str (Str.ofString "=36") 413,
          Value.str (Str.ofString "=37") 417, Value.str (Str.ofString "=38") 421, Value.str (Str.ofString "=39") 425, Value.str (Str.ofString "=3A") 429, Value.str (Str.ofString "=3B") 433,
          Value.str (Str.ofString "=3C") 437, Value.str (Str.ofString "=3D") 441, Value.str (Str.ofString "=3E") 445, Value.str (Str.ofString "=3F") 449, Value.str (Str.ofString "=40") 453,
          Value.str (Str.ofString "=41") 457, Value.str (Str.ofString "=42") 461, Value.str (Str.ofString "=43") 465, Value.str (Str.ofString "=44") 469, Value.str (Str.ofString "=45") 473,
          Value.str (Str.ofString "=46") 477, Value.str (Str.ofString "=47") 481, Value.str (Str.ofString "=48") 485, Value.str (Str.ofString "=49") 489, Value.str (Str.ofString "=4A") 493,
          Value.str (Str.ofString "=4B") 497, Value.str (Str.ofString "=4C") 501, Value.str (Str.ofString "=4D") 505, Value.str (Str.ofString "=4E") 509, Value.str (Str.ofString "=4F") 513,
          Value.str (Str.ofString "=50") 517, Value.str (Str.ofString "=51") 521, Value.str (Str.ofString "=52") 525, Value.str (Str.ofString "=53") 529, Value.str (Str.ofString "=54") 533,
          Value.str (Str.ofString "=55") 537, Value.str (Str.ofString "=56") 541, Value.str (Str.ofString "=57") 545, Value.str (Str.ofString "=58") 549, Value.str (Str.ofString "=59") 553,
          Value.str (Str.ofString "=5A") 557, Value.str (Str.ofString "=5B") 561, Value.str (Str.ofString "=5C") 565, Value.str (Str.ofString "=5D") 569, Value.str (Str.ofString "=5E") 573,
          Value.str (Str.ofString "=5F") 577, Value.str (Str.ofString "=60") 581, Value.str (Str.ofString "=61") 585, Value.str (Str.ofString "=62") 589, Value.str (Str.ofString "=63") 593,
          Value.str (Str.ofString "=64") 597, Value.str (Str.ofString "=65") 601, Value.str (Str.ofString "=66") 605, Value.str (Str.ofString "=67") 609, Value.str (Str.ofString "=68") 613,
          Value.str (Str.ofString "=69") 617, Value.str (Str.ofString "=6A") 621, Value.str (Str.ofString "=6B") 625, Value.str (Str.ofString "=6C") 629, Value.str (Str.ofString "=6D") 633,
          Value.str (Str.ofString "=6E") 637, Value.str (Str.ofString "=6F") 641, Value.str (Str.ofString "=70") 645, Value.str (Str.ofString "=71") 649, Value.str (Str.ofString "=72") 653,
          Value.str (Str.ofString "=73") 657, Value.str (Str.ofString "=74") 661, Value.str (Str.ofString "=75") 665, Value.str (Str.ofString "=76") 669, Value.str (Str.ofString "=77") 673,
          Value.str (Str.ofString "=78") 677, Value.str (Str.ofString "=79") 681, Value.str (Str.ofString "=7A") 685, Value.str (Str.ofString "=7B") 689, Value.str (Str.ofString "=7C") 693,
          Value.str (Str.ofString "=7D") 697, Value.str (Str.ofString "=7E") 701, Value.str (Str.ofString "=7F") 705, Value.str (Str.ofString "=80") 709, Value.str (Str.ofString "=81") 713,
          Value.str (Str.ofString "=82") 717, Value.str (Str.ofString "=83") 721, Value.str (Str.ofString "=84") 725, Value.str (Str.ofString "=85") 729, Value.str (Str.ofString "=86") 733,
          Value.str (Str.ofString "=87") 737, Value.str (Str.ofString "=88") 741, Value.str (Str.ofString "=89") 745, Value.str (Str.ofString "=8A") 749, Value.str (Str.ofString "=8B") 753,
          Value.str (Str.ofString "=8C") 757, Value.str (Str.ofString "=8D") 761, Value.str (Str.ofString "=8E") 765, Value.str (Str.ofString "=8F") 769, Value.str (Str.ofString "=90") 773,
          Value.str (Str.ofString "=91") 777, Value.str (Str.ofString "=92") 781, Value.str (Str.ofString "=93") 785, Value.str (Str.ofString "=94") 789, Value.str (Str.ofString "=95") 793,
          Value.str (Str.ofString "=96") 797, Value.str (Str.ofString "=97") 801, Value.str (Str.ofString "=98") 805, Value.str (Str.ofString "=99") 809, Value.str (Str.ofString "=9A") 813,
          Value.str (Str.ofString "=9B") 817, Value.str (Str.ofString "=9C") 821, Value.str (Str.ofString "=9D") 825, Value.str (Str.ofString "=9E") 829, Value.str (Str.ofString "=9F") 833,
          Value.str (Str.ofString "=A0") 837, Value.str (Str.ofString "=A1") 841, Value.str (Str.ofString "=A2") 845, Value.str (Str.ofString "=A3") 849, Value.str (Str.ofString "=A4") 853,
          Value.str (Str.ofString "=A5") 857, Value.str (Str.ofString "=A6") 861, Value.str (Str.ofString "=A7") 865, Value.str (Str.ofString "=A8") 869, Value.str (Str.ofString "=A9") 873,
          Value.str (Str.ofString "=AA") 877, Value.str (Str.ofString "=AB") 881, Value.str (Str.ofString "=AC") 885, Value.str (Str.ofString "=AD") 889, Value.str (Str.ofString "=AE") 893,
          Value.str (Str.ofString "=AF") 897, Value.str (Str.ofString "=B0") 901, Value.str (Str.ofString "=B1") 905, Value.str (Str.ofString "=B2") 909, Value.str (Str.ofString "=B3") 913,
          Value.str (Str.ofString "=B4") 917, Value.str (Str.ofString "=B5") 921, Value.str (Str.ofString "=B6") 925, Value.str (Str.ofString "=B7") 929, Value.str (Str.ofString "=B8") 933,
          Value.str (Str.ofString "=B9") 937, Value.str (Str.ofString "=BA") 941, Value.str (Str.ofString "=BB") 945, Value.str (Str.ofString "=BC") 949, Value.str (Str.ofString "=BD") 953,
          Value.str (Str.ofString "=BE") 957, Value.str (Str.ofString "=BF") 961, Value.str (Str.ofString "=C0") 965, Value.str (Str.ofString "=C1") 969, Value.str (Str.ofString "=C2") 973,
          Value.str (Str.ofString "=C3") 977, Value.str (Str.ofString "=C4") 981, Value.str (Str.ofString "=C5") 985, Value.str (Str.ofString "=C6") 989, Value.str (Str.ofString "=C7") 993,
          Value.str (Str.ofString "=C8") 997, Value.str (Str.ofString "=C9") 1001, Value.str (Str.ofString "=CA") 1005, Value.str (Str.ofString "=CB") 1009, Value.str (Str.ofString "=CC") 1013,
          Value.str (Str.ofString "=CD") 1017, Value.str (Str.ofString "=CE") 1021, Value.str (Str.ofString "=CF") 1025, Value.str (Str.ofString "=D0") 1029, Value.str (Str.ofString "=D1") 1033,
          Value.str (Str.ofString "=D2") 1037, Value.str (Str.ofString "=D3") 1041, Value.str (Str.ofString "=D4") 1045, Value.str (Str.ofString "=D5") 1049, Value.str (Str.ofString "=D6") 1053,
          Value.str (Str.ofString "=D7") 1057, Value.str (Str.ofString "=D8") 1061, Value.str (Str.ofString "=D9") 1065, Value.str (Str.ofString "=DA") 1069, Value.str (Str.ofString "=DB") 1073,
          Value.str (Str.ofString "=DC") 1077, Value.str (Str.ofString "=DD") 1081, Value.str (Str.ofString "=DE") 1085, Value.str (Str.ofString "=DF") 1089, Value.str (Str.ofString "=E0") 1093,
          Value.str (Str.ofString "=E1") 1097, Value.str (Str.ofString "=E2") 1101, Value.str (Str.ofString "=E3") 1105, Value.str (Str.ofString "=E4") 1109, Value.str (Str.ofString "=E5") 1113,
          Value.str (Str.ofString "=E6") 1117, Value.str (Str.ofString "=E7") 1121, Value.str (Str.ofString "=E8") 1125, Value.str (Str.ofString "=E9") 1129, Value.str (Str.ofString "=EA") 1133,
          Value.str (Str.ofString "=EB") 1137, Value.str (Str.ofString "=EC") 1141, Value.str (Str.ofString "=ED") 1145, Value.str (Str.ofString "=EE") 1149, Value.str (Str.ofString "=EF") 1153,
          Value.str (Str.ofString "=F0") 1157, Value.str (Str.ofString "=F1") 1161, Value.str (Str.ofString "=F2") 1165, Value.str (Str.ofString "=F3") 1169, Value.str (Str.ofString "=F4") 1173,
          Value.str (Str.ofString "=F5") 1177, Value.str (Str.ofString "=F6") 1181, Value.str (Str.ofString "=F7") 1185, Value.str (Str.ofString "=F8") 1189, Value.str (Str.ofString "=F9") 1193,
          Value.str (Str.ofString "=FA") 1197, Value.str (Str.ofString "=FB") 1201, Value.str (Str.ofString "=FC") 1205, Value.str (Str.ofString "=FD") 1209, Value.str (Str.ofString "=FE") 1213,
          Value.str (Str.ofString "=FF") 1217] }
noncomputable def o_362 (P : Params) : Obj :=
  { cls := Value.type "list",
    data :=
      Data.seq
        #[Value.str (Str.ofString "=00") 197, Value.str (Str.ofString "=01") 201, Value.str (Str.ofString "=02") 205, Value.str (Str.ofString "=03") 209, Value.str (Str.ofString "=04") 213,
          Value.str (Str.ofString "=05") 217, Value.str (Str.ofString "=06") 221, Value.str (Str.ofString "=07") 225, Value.str (Str.ofString "=08") 229, Value.str (Str.ofString "=09") 233,
          Value.str (Str.ofString "=0A") 237, Value.str (Str.ofString "=0B") 241, Value.str (Str.ofString "=0C") 245, Value.str (Str.ofString "=0D") 249, Value.str (Str.ofString "=0E") 253,
          Value.str (Str.ofString "=0F") 257, Value.str (Str.ofString "=10") 261, Value.str (Str.ofString "=11") 265, Value.str (Str.ofString "=12") 269, Value.str (Str.ofString "=13") 273,
          Value.str (Str.ofString "=14") 277, Value.str (Str.ofString "=15") 281, Value.str (Str.ofString "=16") 285, Value.str (Str.ofString "=17") 289, Value.str (Str.ofString "=18") 293,
          Value.str (Str.ofString "=19") 297, Value.str (Str.ofString "=1A") 301, Value.str (Str.ofString "=1B") 305, Value.str (Str.ofString "=1C") 309, Value.str (Str.ofString "=1D") 313,
          Value.str (Str.ofString "=1E") 317, Value.str (Str.ofString "=1F") 321, Value.str (Str.ofString "=20") 325, Value.str (Str.ofString "=21") 329, Value.str (Str.ofString "=22") 333,
          Value.str (Str.ofString "=23") 337, Value.str (Str.ofString "=24") 341, Value.str (Str.ofString "=25") 345, Value.str (Str.ofString "=26") 349, Value.str (Str.ofString "=27") 353,
          Value.str (Str.ofString "=28") 357, Value.str (Str.ofString "=29") 361, Value.str (Str.ofString "=2A") 365, Value.str (Str.ofString "=2B") 369, Value.str (Str.ofString "=2C") 373,
          Value.str (Str.ofString "=2D") 377, Value.str (Str.ofString "=2E") 381, Value.str (Str.ofString "=2F") 385, Value.str (Str.ofString "=30") 389, Value.str (Str.ofString "=31") 393,
          Value.str (Str.ofString "=32") 397, Value.str (Str.ofString "=33") 401, Value.str (Str.ofString "=34") 405, Value.str (Str.ofString "=35") 409, Value.str (Str.ofString "=36") 413,
          Value.str (Str.ofString "=37") 417, Value.str (Str.ofString "=38") 421, Value.str (Str.ofString "=39") 425, Value.str (Str.ofString "=3A") 429, Value.str (Str.ofString "=3B") 433,
          Value.str (Str.ofString "=3C") 437, Value.str (Str.ofString "=3D") 441, Value.str (Str.ofString "=3E") 445, Value.str (Str.ofString "=3F") 449, Value.str (Str.ofString "=40") 453,
          Value.str (Str.ofString "=41") 457, Value.str (Str.ofString "=42") 461, Value.str (Str.ofString "=43") 465, Value.str (Str.ofString "=44") 469, Value.str (Str.ofString "=45") 473,
          Value.str (Str.ofString "=46") 477, Value.str (Str.ofString "=47") 481, Value.str (Str.ofString "=48") 485, Value.str (Str.ofString "=49") 489, Value.str (Str.ofString "=4A") 493,
          Value.str (Str.ofString "=4B") 497, Value.str (Str.ofString "=4C") 501, Value.str (Str.ofString "=4D") 505, Value.str (Str.ofString "=4E") 509, Value.str (Str.ofString "=4F") 513,
          Value.str (Str.ofString "=50") 517, Value.str (Str.ofString "=51") 521, Value.str (Str.ofString "=52") 525, Value.str (Str.ofString "=53") 529, Value.str (Str.ofString "=54") 533,
          Value.str (Str.ofString "=55") 537, Value.str (Str.ofString "=56") 541, Value.str (Str.ofString "=57") 545, Value.str (Str.ofString "=58") 549, Value.str (Str.ofString "=59") 553,
          Value.str (Str.ofString "=5A") 557, Value.str (Str.ofString "=5B") 561, Value.str (Str.ofString "=5C") 565, Value.str (Str.ofString "=5D") 569, Value.str (Str.ofString "=5E") 573,
          Value.str (Str.ofString "=5F") 577, Value.str (Str.ofString "=60") 581, Value.str (Str.ofString "=61") 585, Value.str (Str.ofString "=62") 589, Value.str (Str.ofString "=63") 593,
          Value.str (Str.ofString "=64") 597, Value.str (Str.ofString "=65") 601, Value.str (Str.ofString "=66") 605, Value.str (Str.ofString "=67") 609, Value.str (Str.ofString "=68") 613,
          Value.str (Str.ofString "=69") 617, Value.str (Str.ofString "=6A") 621, Value.str (Str.ofString "=6B") 625, Value.str (Str.ofString "=6C") 629, Value.str (Str.ofString "=6D") 633,
          Value.str (Str.ofString "=6E") 637, Value.str (Str.ofString "=6F") 641, Value.str (Str.ofString "=70") 645, Value.str (Str.ofString "=71") 649, Value.str (Str.ofString "=72") 653,
          Value.str (Str.ofString "=73") 657, Value.str (Str.ofString "=74") 661, Value.str (Str.ofString "=75") 665, Value.str (Str.ofString "=76") 669, Value.str (Str.ofString "=77") 673,
          Value.str (Str.ofString "=78") 677, Value.str (Str.ofString "=79") 681, Value.str (Str.ofString "=7A") 685, Value.str (Str.ofString "=7B") 689, Value.str (Str.ofString "=7C") 693,
          Value.str (Str.ofString "=7D") 697, Value.str (Str.ofString "=7E") 701, Value.str (Str.ofString "=7F") 705, Value.str (Str.ofString "=80") 709, Value.str (Str.ofString "=81") 713,
          Value.str (Str.ofString "=82") 717, Value.str (Str.ofString "=83") 721, Value.str (Str.ofString "=84") 725, Value.str (Str.ofString "=85") 729, Value.str (Str.ofString "=86") 733,
          Value.str (Str.ofString "=87") 737, Value.str (Str.ofString "=88") 741, Value.str (Str.ofString "=89") 745, Value.str (Str.ofString "=8A") 749, Value.str (Str.ofString "=8B") 753,
          Value.str (Str.ofString "=8C") 757, Value.str (Str.ofString "=8D") 761, Value.str (Str.ofString "=8E") 765, Value.str (Str.ofString "=8F") 769, Value.str (Str.ofString "=90") 773,
          Value.str (Str.ofString "=91") 777, Value.str (Str.ofString "=92") 781, Value.str (Str.ofString "=93") 785, Value.str (Str.ofString "=94") 789, Value.str (Str.ofString "=95") 793,
          Value.str (Str.ofString "=96") 797, Value.str (Str.ofString "=97") 801, Value.str (Str.ofString "=98") 805, Value.str (Str.ofString "=99") 809, Value.str (Str.ofString "=9A") 813,
          Value.str (Str.ofString "=9B") 817, Value.str (Str.ofString "=9C") 821, Value.str (Str.ofString "=9D") 825, Value.str (Str.ofString "=9E") 829, Value.str (Str.ofString "=9F") 833,
          Value.str (Str.ofString "=A0") 837, Value.str (Str.ofString "=A1") 841, Value.str (Str.ofString "=A2") 845, Value.str (Str.ofString "=A3") 849, Value.str (Str.ofString "=A4") 853,
          Value.str (Str.ofString "=A5") 857, Value.str (Str.ofString "=A6") 861, Value.str (Str.ofString "=A7") 865, Value.str (Str.ofString "=A8") 869, Value.str (Str.ofString "=A9") 873,
          Value.str (Str.ofString "=AA") 877, Value.str (Str.ofString "=AB") 881, Value.str (Str.ofString "=AC") 885, Value.str (Str.ofString "=AD") 889, Value.str (Str.ofString "=AE") 893,
          Value.str (Str.ofString "=AF") 897, Value.str (Str.ofString "=B0") 901, Value.str (Str.ofString "=B1") 905, Value.str (Str.ofString "=B2") 909, Value.str (Str.ofString "=B3") 913,
          Value.str (Str.ofString "=B4") 917, Value.str (Str.ofString "=B5") 921, Value.str (Str.ofString "=B6") 925, Value.str (Str.ofString "=B7") 929, Value.str (Str.ofString "=B8") 933,
          Value.str (Str.ofString "=B9") 937, Value.str (Str.ofString "=BA") 941, Value.str (Str.ofString "=BB") 945, Value.str (Str.ofString "=BC") 949, Value.str (Str.ofString "=BD") 953,
          Value.str (Str.ofString "=BE") 957, Value.str (Str.ofString "=BF") 961, Value.str (Str.ofString "=C0") 965, Value.str (Str.ofString "=C1") 969, Value.str (Str.ofString "=C2") 973,
          Value.str (Str.ofString "=C3") 977, Value.str (Str.ofString "=C4") 981, Value.str (Str.ofString "=C5") 985, Value.str (Str.ofString "=C6") 989, Value.str (Str.ofString "=C7") 993,
          Value.str (Str.ofString "=C8") 997, Value.str (Str.ofString "=C9") 1001, Value.str (Str.ofString "=CA") 1005, Value.str (Str.ofString "=CB") 1009, Value.str (Str.ofString "=CC") 1013,
          Value.str (Str.ofString "=CD") 1017, Value.str (Str.ofString "=CE") 1021, Value.str (Str.ofString "=CF") 1025, Value.str (Str.ofString "=D0") 1029, Value.str (Str.ofString "=D1") 1033,
          Value.str (Str.ofString "=D2") 1037, Value.str (Str.ofString "=D3") 1041, Value.str (Str.ofString "=D4") 1045, Value.str (Str.ofString "=D5") 1049, Value.str (Str.ofString "=D6") 1053,
          Value.str (Str.ofString "=D7") 1057, Value.str (Str.ofString "=D8") 1061, Value.str (Str.ofString "=D9") 1065, Value.str (Str.ofString "=DA") 1069, Value.str (Str.ofString "=DB") 1073,
          Value.str (Str.ofString "=DC") 1077, Value.str (Str.ofString "=DD") 1081, Value.str (Str.ofString "=DE") 1085, Value.str (Str.ofString "=DF") 1089, Value.str (Str.ofString "=E0") 1093,
          Value.str (Str.ofString "=E1") 1097, Value.str (Str.ofString "=E2") 1101, Value.str (Str.ofString "=E3") 1105, Value.str (Str.ofString "=E4") 1109, Value.str (Str.ofString "=E5") 1113,
          Value.str (Str.ofString "=E6") 1117, Value.str (Str.ofString "=E7") 1121, Value.str (Str.ofString "=E8") 1125, Value.str (Str.ofString "=E9") 1129, Value.str (Str.ofString "=EA") 1133,
          Value.str (Str.ofString "=EB") 1137, Value.str (Str.ofString "=EC") 1141, Value.str (Str.ofString "=ED") 1145, Value.str (Str.ofString "=EE") 1149, Value.str (Str.ofString "=EF") 1153,
          Value.str (Str.ofString "=F0") 1157, Value.str (Str.ofString "=F1") 1161, Value.str (Str.ofString "=F2") 1165, Value.str (Str.ofString "=F3") 1169, Value.str (Str.ofString "=F4") 1173,
          Value.str (Str.ofString "=F5") 1177, Value.str (Str.ofString "=F6") 1181, Value.str (Str.ofString "=F7") 1185, Value.str (Str.ofString "=F8") 1189, Value.str (Str.ofString "=F9") 1193,
          Value.str (Str.ofString "=FA") 1197, Value.str (Str.ofString "=FB") 1201, Value.str (Str.ofString "=FC") 1205, Value.str (Str.ofString "=FD") 1209, Value.str (Str.ofString "=FE") 1213,
          Value.str (Str.ofString "=FF") 1217] }
noncomputable def o_365 (P : Params) : Obj :=
  { cls := Value.type "dict",
    data :=
      Data.dict
        #[{ hash := PyData.keyHash P (Str.ofString "__name__"), key := Value.str (Str.ofString "__name__") 165, val := Value.str (Str.ofString "cpy313.email.quoprimime") 1229 },
          { hash := PyData.keyHash P (Str.ofString "__doc__"), key := Value.str (Str.ofString "__doc__") 166, val := Value.none },
          { hash := PyData.keyHash P (Str.ofString "__package__"), key := Value.str (Str.ofString "__package__") 167, val := Value.none },
          { hash := PyData.keyHash P (Str.ofString "__loader__"), key := Value.str (Str.ofString "__loader__") 168, val := Value.builtin "__main__.__loader__#opaque" },
          { hash := PyData.keyHash P (Str.ofString "__spec__"), key := Value.str (Str.ofString "__spec__") 169, val := Value.none },
          { hash := PyData.keyHash P (Str.ofString "__annotations__"), key := Value.str (Str.ofString "__annotations__") 170, val := Value.ref 6 },
          { hash := PyData.keyHash P (Str.ofString "__builtins__"), key := Value.str (Str.ofString "__builtins__") 171, val := Value.ref 4 },
          { hash := PyData.keyHash P (Str.ofString "__file__"), key := Value.str (Str.ofString "__file__") 173, val := Value.str (Str.ofString "/claim/cut.py") 172 },
          { hash := PyData.keyHash P (Str.ofString "__cached__"), key := Value.str (Str.ofString "__cached__") 174, val := Value.none },
          { hash := PyData.keyHash P (Str.ofString "CRLF"), key := Value.str (Str.ofString "CRLF") 188, val := Value.str (Str.ofString "\x0d\n") 187 },
          { hash := PyData.keyHash P (Str.ofString "NL"), key := Value.str (Str.ofString "NL") 190, val := Value.str (Str.ofString "\n") 189 },
          { hash := PyData.keyHash P (Str.ofString "_QUOPRI_MAP"), key := Value.str (Str.ofString "_QUOPRI_MAP") 1218, val := Value.ref 17 },
          { hash := PyData.keyHash P (Str.ofString "_QUOPRI_HEADER_MAP"), key := Value.str (Str.ofString "_QUOPRI_HEADER_MAP") 1219, val := Value.ref 22 },
          { hash := PyData.keyHash P (Str.ofString "_QUOPRI_BODY_MAP"), key := Value.str (Str.ofString "_QUOPRI_BODY_MAP") 1220, val := Value.ref 24 },
          { hash := PyData.keyHash P (Str.ofString "ascii_lowercase"), key := Value.str (Str.ofString "ascii_lowercase") 1222, val := Value.str (Str.ofString "abcdefghijklmnopqrstuvwxyz") 1221 },
          { hash := PyData.keyHash P (Str.ofString "ascii_uppercase"), key := Value.str (Str.ofString "ascii_uppercase") 1224, val := Value.str (Str.ofString "ABCDEFGHIJKLMNOPQRSTUVWXYZ") 1223 },
          { hash := PyData.keyHash P (Str.ofString "ascii_letters"), key := Value.str (Str.ofString "ascii_letters") 1226,
            val := Value.str (Str.ofString "abcdefghijklmnopqrstuvwxyzABCDEFGHIJKLMNOPQRSTUVWXYZ") 1225 },
          { hash := PyData.keyHash P (Str.ofString "digits"), key := Value.str (Str.ofString "digits") 1228, val := Value.str (Str.ofString "0123456789") 1227 },
          { hash := PyData.keyHash P (Str.ofString "c"), key := Value.str (Str.ofString "c") 1239, val := Value.int 57 1436 }]
        19 }
noncomputable def o_369 (P : Params) : Obj := { cls := Value.type "StopIteration", data := Data.fields #[Value.ref 26, Value.none, Value.none, Value.none, Value.bool false, Value.none] }
noncomputable def o_367 (P : Params) : Obj := { cls := Value.type "bytes_iterator", data := Data.fields #[Value.none, Value.int 67 0] }
noncomputable def o_368 (P : Params) : Obj := { cls := Value.type "tuple", data := Data.seq #[] }
noncomputable def o_366 (P : Params) : Obj :=
  { cls := Value.type "list",
    data :=
      Data.seq
        #[Value.str (Str.ofString "=00") 197, Value.str (Str.ofString "=01") 201, Value.str (Str.ofString "=02") 205, Value.str (Str.ofString "=03") 209, Value.str (Str.ofString "=04") 213,
          Value.str (Str.ofString "=05") 217, Value.str (Str.ofString "=06") 221, Value.str (Str.ofString "=07") 225, Value.str (Str.ofString "=08") 229, Value.str (Str.ofString "=09") 233,
          Value.str (Str.ofString "=0A") 237, Value.str (Str.ofString "=0B") 241, Value.str (Str.ofString "=0C") 245, Value.str (Str.ofString "=0D") 249, Value.str (Str.ofString "=0E") 253,
          Value.str (Str.ofString "=0F") 257, Value.str (Str.ofString "=10") 261, Value.str (Str.ofString "=11") 265, Value.str (Str.ofString "=12") 269, Value.str (Str.ofString "=13") 273,
          Value.str (Str.ofString "=14") 277, Value.str (Str.ofString "=15") 281, Value.str (Str.ofString "=16") 285, Value.str (Str.ofString "=17") 289, Value.str (Str.ofString "=18") 293,
          Value.str (Str.ofString "=19") 297, Value.str (Str.ofString "=1A") 301, Value.str (Str.ofString "=1B") 305, Value.str (Str.ofString "=1C") 309, Value.str (Str.ofString "=1D") 313,
          Value.str (Str.ofString "=1E") 317, Value.str (Str.ofString "=1F") 321, Value.str (Str.ofString "=20") 325, Value.str (Str.ofString "!") 1243, Value.str (Str.ofString "=22") 333,
          Value.str (Str.ofString "=23") 337, Value.str (Str.ofString "=24") 341, Value.str (Str.ofString "=25") 345, Value.str (Str.ofString "=26") 349, Value.str (Str.ofString "=27") 353,
          Value.str (Str.ofString "=28") 357, Value.str (Str.ofString "=29") 361, Value.str (Str.ofString "*") 1246, Value.str (Str.ofString "+") 1249, Value.str (Str.ofString "=2C") 373,
          Value.str (Str.ofString "-") 1240, Value.str (Str.ofString "=2E") 381, Value.str (Str.ofString "/") 1252, Value.str (Str.ofString "0") 1411, Value.str (Str.ofString "1") 1414,
          Value.str (Str.ofString "2") 1417, Value.str (Str.ofString "3") 1420, Value.str (Str.ofString "4") 1423, Value.str (Str.ofString "5") 1426, Value.str (Str.ofString "6") 1429,
          Value.str (Str.ofString "7") 1432, Value.str (Str.ofString "8") 1435, Value.str (Str.ofString "9") 1438, Value.str (Str.ofString "=3A") 429, Value.str (Str.ofString "=3B") 433,
          Value.str (Str.ofString "=3C") 437, Value.str (Str.ofString "=3D") 441, Value.str (Str.ofString "=3E") 445, Value.str (Str.ofString "=3F") 449, Value.str (Str.ofString "=40") 453,
          Value.str (Str.ofString "A") 1333, Value.str (Str.ofString "B") 1336, Value.str (Str.ofString "C") 1339, Value.str (Str.ofString "D") 1342, Value.str (Str.ofString "E") 1345,
          Value.str (Str.ofString "F") 1348, Value.str (Str.ofString "G") 1351, Value.str (Str.ofString "H") 1354, Value.str (Str.ofString "I") 1357, Value.str (Str.ofString "J") 1360,
          Value.str (Str.ofString "K") 1363, Value.str (Str.ofString "L") 1366, Value.str (Str.ofString "M") 1369, Value.str (Str.ofString "N") 1372, Value.str (Str.ofString "O") 1375,
          Value.str (Str.ofString "P") 1378, Value.str (Str.ofString "Q") 1381, Value.str (Str.ofString "R") 1384, Value.str (Str.ofString "S") 1387, Value.str (Str.ofString "T") 1390,
          Value.str (Str.ofString "U") 1393, Value.str (Str.ofString "V") 1396, Value.str (Str.ofString "W") 1399, Value.str (Str.ofString "X") 1402, Value.str (Str.ofString "Y") 1405,
          Value.str (Str.ofString "Z") 1408, Value.str (Str.ofString "=5B") 561, Value.str (Str.ofString "=5C") 565, Value.str (Str.ofString "=5D") 569, Value.str (Str.ofString "=5E") 573,
          Value.str (Str.ofString "=5F") 577, Value.str (Str.ofString "=60") 581, Value.str (Str.ofString "a") 1255, Value.str (Str.ofString "b") 1258, Value.str (Str.ofString "c") 1261,
          Value.str (Str.ofString "d") 1264, Value.str (Str.ofString "e") 1267, Value.str (Str.ofString "f") 1270, Value.str (Str.ofString "g") 1273, Value.str (Str.ofString "h") 1276,
          Value.str (Str.ofString "i") 1279, Value.str (Str.ofString "j") 1282, Value.str (Str.ofString "k") 1285, Value.str (Str.ofString "l") 1288, Value.str (Str.ofString "m") 1291,
          Value.str (Str.ofString "n") 1294, Value.str (Str.ofString "o") 1297, Value.str (Str.ofString "p") 1300, Value.str (Str.ofString "q") 1303, Value.str (Str.ofString "r") 1306,
          Value.str (Str.ofString "s") 1309, Value.str (Str.ofString "t") 1312, Value.str (Str.ofString "u") 1315, Value.str (Str.ofString "v") 1318, Value.str (Str.ofString "w") 1321,
          Value.str (Str.ofString "x") 1324, Value.str (Str.ofString "y") 1327, Value.str (Str.ofString "z") 1330, Value.str (Str.ofString "=7B") 689, Value.str (Str.ofString "=7C") 693,
          Value.str (Str.ofString "=7D") 697, Value.str (Str.ofString "=7E") 701, Value.str (Str.ofString "=7F") 705, Value.str (Str.ofString "=80") 709, Value.str (Str.ofString "=81") 713,
          Value.str (Str.ofString "=82") 717, Value.str (Str.ofString "=83") 721, Value.str (Str.ofString "=84") 725, Value.str (Str.ofString "=85") 729, Value.str (Str.ofString "=86") 733,
          Value.str (Str.ofString "=87") 737, Value.str (Str.ofString "=88") 741, Value.str (Str.ofString "=89") 745, Value.str (Str.ofString "=8A") 749, Value.str (Str.ofString "=8B") 753,
          Value.str (Str.ofString "=8C") 757, Value.str (Str.ofString "=8D") 761, Value.str (Str.ofString "=8E") 765, Value.str (Str.ofString "=8F") 769, Value.str (Str.ofString "=90") 773,
          Value.str (Str.ofString "=91") 777, Value.str (Str.ofString "=92") 781, Value.str (Str.ofString "=93") 785, Value.str (Str.ofString "=94") 789, Value.str (Str.ofString "=95") 793,
          Value.str (Str.ofString "=96") 797, Value.str (Str.ofString "=97") 801, Value.str (Str.ofString "=98") 805, Value.str (Str.ofString "=99") 809, Value.str (Str.ofString "=9A") 813,
          Value.str (Str.ofString "=9B") 817, Value.str (Str.ofString "=9C") 821, Value.str (Str.ofString "=9D") 825, Value.str (Str.ofString "=9E") 829, Value.str (Str.ofString "=9F") 833,
          Value.str (Str.ofString "=A0") 837, Value.str (Str.ofString "=A1") 841, Value.str (Str.ofString "=A2") 845, Value.str (Str.ofString "=A3") 849, Value.str (Str.ofString "=A4") 853,
          Value.str (Str.ofString "=A5") 857, Value.str (Str.ofString "=A6") 861, Value.str (Str.ofString "=A7") 865, Value.str (Str.ofString "=A8") 869, Value.str (Str.ofString "=A9") 873,
          Value.str (Str.ofString "=AA") 877, Value.str (Str.ofString "=AB") 881, Value.str (Str.ofString "=AC") 885, Value.str (Str.ofString "=AD") 889, Value.str (Str.ofString "=AE") 893,
          Value.str (Str.ofString "=AF") 897, Value.str (Str.ofString "=B0") 901, Value.str (Str.ofString "=B1") 905, Value.str (Str.ofString "=B2") 909, Value.str (Str.ofString "=B3") 913,
          Value.str (Str.ofString "=B4") 917, Value.str (Str.ofString "=B5") 921, Value.str (Str.ofString "=B6") 925, Value.str (Str.ofString "=B7") 929, Value.str (Str.ofString "=B8") 933,
          Value.str (Str.ofString "=B9") 937, Value.str (Str.ofString "=BA") 941, Value.str (Str.ofString "=BB") 945, Value.str (Str.ofString "=BC") 949, Value.str (Str.ofString "=BD") 953,
          Value.str (Str.ofString "=BE") 957, Value.str (Str.ofString "=BF") 961, Value.str (Str.ofString "=C0") 965, Value.str (Str.ofString "=C1") 969, Value.str (Str.ofString "=C2") 973,
          Value.str (Str.ofString "=C3") 977, Value.str (Str.ofString "=C4") 981, Value.str (Str.ofString "=C5") 985, Value.str (Str.ofString "=C6") 989, Value.str (Str.ofString "=C7") 993,
          Value.str (Str.ofString "=C8") 997, Value.str (Str.ofString "=C9") 1001, Value.str (Str.ofString "=CA") 1005, Value.str (Str.ofString "=CB") 1009, Value.str (Str.ofString "=CC") 1013,
          Value.str (Str.ofString "=CD") 1017, Value.str (Str.ofString "=CE") 1021, Value.str (Str.ofString "=CF") 1025, Value.str (Str.ofString "=D0") 1029, Value.str (Str.ofString "=D1") 1033,
          Value.str (Str.ofString "=D2") 1037, Value.str (Str.ofString "=D3") 1041, Value.str (Str.ofString "=D4") 1045, Value.str (Str.ofString "=D5") 1049, Value.str (Str.ofString "=D6") 1053,
          Value.str (Str.ofString "=D7") 1057, Value.str (Str.ofString "=D8") 1061, Value.str (Str.ofString "=D9") 1065, Value.str (Str.ofString "=DA") 1069, Value.str (Str.ofString "=DB") 1073,
          Value.str (Str.ofString "=DC") 1077, Value.str (Str.ofString "=DD") 1081, Value.str (Str.ofString "=DE") 1085, Value.str (Str.ofString "=DF") 1089, Value.str (Str.ofString "=E0") 1093,
          Value.str (Str.ofString "=E1") 1097, Value.str (Str.ofString "=E2") 1101, Value.str (Str.ofString "=E3") 1105, Value.str (Str.ofString "=E4") 1109, Value.str (Str.ofString "=E5") 1113,
          Value.str (Str.ofString "=E6") 1117, Value.str (Str.ofString "=E7") 1121, Value.str (Str.ofString "=E8") 1125, Value.str (Str.ofString "=E9") 1129, Value.str (Str.ofString "=EA") 1133,
          Value.str (Str.ofString "=EB") 1137, Value.str (Str.ofString "=EC") 1141, Value.str (Str.ofString "=ED") 1145, Value.str (Str.ofString "=EE") 1149, Value.str (Str.ofString "=EF") 1153,
          Value.str (Str.ofString "=F0") 1157, Value.str (Str.ofString "=F1") 1161, Value.str (Str.ofString "=F2") 1165, Value.str (Str.ofString "=F3") 1169, Value.str (Str.ofString "=F4") 1173,
          Value.str (Str.ofString "=F5") 1177, Value.str (Str.ofString "=F6") 1181, Value.str (Str.ofString "=F7") 1185, Value.str (Str.ofString "=F8") 1189, Value.str (Str.ofString "=F9") 1193,
          Value.str (Str.ofString "=FA") 1197, Value.str (Str.ofString "=FB") 1201, Value.str (Str.ofString "=FC") 1205, Value.str (Str.ofString "=FD") 1209, Value.str (Str.ofString "=FE") 1213,
          Value.str (Str.ofString "=FF") 1217] }
noncomputable def o_378 (P : Params) : Obj :=
  { cls := Value.type "list",
    data :=
      Data.seq
        #[Value.str (Str.ofString "=00") 197, Value.str (Str.ofString "=01") 201, Value.str (Str.ofString "=02") 205, Value.str (Str.ofString "=03") 209, Value.str (Str.ofString "=04") 213,
          Value.str (Str.ofString "=05") 217, Value.str (Str.ofString "=06") 221, Value.str (Str.ofString "=07") 225, Value.str (Str.ofString "=08") 229, Value.str (Str.ofString "=09") 233,
          Value.str (Str.ofString "=0A") 237, Value.str (Str.ofString "=0B") 241, Value.str (Str.ofString "=0C") 245, Value.str (Str.ofString "=0D") 249, Value.str (Str.ofString "=0E") 253,
          Value.str (Str.ofString "=0F") 257, Value.str (Str.ofString "=10") 261, Value.str (Str.ofString "=11") 265, Value.str (Str.ofString "=12") 269, Value.str (Str.ofString "=13") 273,
          Value.str (Str.ofString "=14") 277, Value.str (Str.ofString "=15") 281, Value.str (Str.ofString "=16") 285, Value.str (Str.ofString "=17") 289, Value.str (Str.ofString "=18") 293,
          Value.str (Str.ofString "=19") 297, Value.str (Str.ofString "=1A") 301, Value.str (Str.ofString "=1B") 305, Value.str (Str.ofString "=1C") 309, Value.str (Str.ofString "=1D") 313,
          Value.str (Str.ofString "=1E") 317, Value.str (Str.ofString "=1F") 321, Value.str (Str.ofString "_") 1439, Value.str (Str.ofString "!") 1243, Value.str (Str.ofString "=22") 333,
          Value.str (Str.ofString "=23") 337, Value.str (Str.ofString "=24") 341, Value.str (Str.ofString "=25") 345, Value.str (Str.ofString "=26") 349, Value.str (Str.ofString "=27") 353,
          Value.str (Str.ofString "=28") 357, Value.str (Str.ofString "=29") 361, Value.str (Str.ofString "*") 1246, Value.str (Str.ofString "+") 1249, Value.str (Str.ofString "=2C") 373,
          Value.str (Str.ofString "-") 1240, Value.str (Str.ofString "=2E") 381, Value.str (Str.ofString "/") 1252, Value.str (Str.ofString "0") 1411, Value.str (Str.ofString "1") 1414,
          Value.str (Str.ofString "2") 1417, Value.str (Str.ofString "3") 1420, Value.str (Str.ofString "4") 1423, Value.str (Str.ofString "5") 1426, Value.str (Str.ofString "6") 1429,
          Value.str (Str.ofString "7") 1432, Value.str (Str.ofString "8") 1435, Value.str (Str.ofString "9") 1438, Value.str (Str.ofString "=3A") 429, Value.str (Str.ofString "=3B") 433,
          Value.str (Str.ofString "=3C") 437, Value.str (Str.ofString "=3D") 441, Value.str (Str.ofString "=3E") 445, Value.str (Str.ofString "=3F") 449, Value.str (Str.ofString "=40") 453,
          Value.str (Str.ofString "A") 1333, Value.str (Str.ofString "B") 1336, Value.str (Str.ofString "C") 1339, Value.str (Str.ofString "D") 1342, Value.str (Str.ofString "E") 1345,
          Value.str (Str.ofString "F") 1348, Value.str (Str.ofString "G") 1351, Value.str (Str.ofString "H") 1354, Value.str (Str.ofString "I") 1357, Value.str (Str.ofString "J") 1360,
          Value.str (Str.ofString "K") 1363, Value.str (Str.ofString "L") 1366, Value.str (Str.ofString "M") 1369, Value.str (Str.ofString "N") 1372, Value.str (Str.ofString "O") 1375,
          Value.str (Str.ofString "P") 1378, Value.str (Str.ofString "Q") 1381, Value.str (Str.ofString "R") 1384, Value.str (Str.ofString "S") 1387, Value.str (Str.ofString "T") 1390,
          Value.str (Str.ofString "U") 1393, Value.str (Str.ofString "V") 1396, Value.str (Str.ofString "W") 1399, Value.str (Str.ofString "X") 1402, Value.str (Str.ofString "Y") 1405,
          Value.str (Str.ofString "Z") 1408, Value.str (Str.ofString "=5B") 561, Value.str (Str.ofString "=5C") 565, Value.str (Str.ofString "=5D") 569, Value.str (Str.ofString "=5E") 573,
          Value.str (Str.ofString "=5F") 577, Value.str (Str.ofString "=60") 581, Value.str (Str.ofString "a") 1255, Value.str (Str.ofString "b") 1258, Value.str (Str.ofString "c") 1261,
          Value.str (Str.ofString "d") 1264, Value.str (Str.ofString "e") 1267, Value.str (Str.ofString "f") 1270, Value.str (Str.ofString "g") 1273, Value.str (Str.ofString "h") 1276,
          Value.str (Str.ofString "i") 1279, Value.str (Str.ofString "j") 1282, Value.str (Str.ofString "k") 1285, Value.str (Str.ofString "l") 1288, Value.str (Str.ofString "m") 1291,
          Value.str (Str.ofString "n") 1294, Value.str (Str.ofString "o") 1297, Value.str (Str.ofString "p") 1300, Value.str (Str.ofString "q") 1303, Value.str (Str.ofString "r") 1306,
          Value.str (Str.ofString "s") 1309, Value.str (Str.ofString "t") 1312, Value.str (Str.ofString "u") 1315, Value.str (Str.ofString "v") 1318, Value.str (Str.ofString "w") 1321,
          Value.str (Str.ofString "x") 1324, Value.str (Str.ofString "y") 1327, Value.str (Str.ofString "z") 1330, Value.str (Str.ofString "=7B") 689, Value.str (Str.ofString "=7C") 693,
          Value.str (Str.ofString "=7D") 697, Value.str (Str.ofString "=7E") 701, Value.str (Str.ofString "=7F") 705, Value.str (Str.ofString "=80") 709, Value.str (Str.ofString "=81") 713,
          Value.str (Str.ofString "=82") 717, Value.str (Str.ofString "=83") 721, Value.str (Str.ofString "=84") 725, Value.str (Str.ofString "=85") 729, Value.str (Str.ofString "=86") 733,
          Value.str (Str.ofString "=87") 737, Value.str (Str.ofString "=88") 741, Value.str (Str.ofString "=89") 745, Value.str (Str.ofString "=8A") 749, Value.str (Str.ofString "=8B") 753,
          Value.str (Str.ofString "=8C") 757, Value.str (Str.ofString "=8D") 761, Value.str (Str.ofString "=8E") 765, Value.str (Str.ofString "=8F") 769, Value.str (Str.ofString "=90") 773,
          Value.str (Str.ofString "=91") 777, Value.str (Str.ofString "=92") 781, Value.str (Str.ofString "=93") 785, Value.str (Str.ofString "=94") 789, Value.str (Str.ofString "=95") 793,
          Value.str (Str.ofString "=96") 797, Value.str (Str.ofString "=97") 801, Value.str (Str.ofString "=98") 805, Value.str (Str.ofString "=99") 809, Value.str (Str.ofString "=9A") 813,
          Value.str (Str.ofString "=9B") 817, Value.str (Str.ofString "=9C") 821, Value.str (Str.ofString "=9D") 825, Value.str (Str.ofString "=9E") 829, Value.str (Str.ofString "=9F") 833,
          Value.str (Str.ofString "=A0") 837, Value.str (Str.ofString "=A1") 841, Value.str (Str.ofString "=A2") 845, Value.str (Str.ofString "=A3") 849, Value.str (Str.ofString "=A4") 853,
          Value.str (Str.ofString "=A5") 857, Value.str (Str.ofString "=A6") 861, Value.str (Str.ofString "=A7") 865, Value.str (Str.ofString "=A8") 869, Value.str (Str.ofString "=A9") 873,
          Value.str (Str.ofString "=AA") 877, Value.str (Str.ofString "=AB") 881, Value.str (Str.ofString "=AC") 885, Value.str (Str.ofString "=AD") 889, Value.str (Str.ofString "=AE") 893,
          Value.str (Str.ofString "=AF") 897, Value.str (Str.ofString "=B0") 901, Value.str (Str.ofString "=B1") 905, Value.str (Str.ofString "=B2") 909, Value.str (Str.ofString "=B3") 913,
          Value.str (Str.ofString "=B4") 917, Value.str (Str.ofString "=B5") 921, Value.str (Str.ofString "=B6") 925, Value.str (Str.ofString "=B7") 929, Value.str (Str.ofString "=B8") 933,
          Value.str (Str.ofString "=B9") 937, Value.str (Str.ofString "=BA") 941, Value.str (Str.ofString "=BB") 945, Value.str (Str.ofString "=BC") 949, Value.str (Str.ofString "=BD") 953,
          Value.str (Str.ofString "=BE") 957, Value.str (Str.ofString "=BF") 961, Value.str (Str.ofString "=C0") 965, Value.str (Str.ofString "=C1") 969, Value.str (Str.ofString "=C2") 973,
          Value.str (Str.ofString "=C3") 977, Value.str (Str.ofString "=C4") 981, Value.str (Str.ofString "=C5") 985, Value.str (Str.ofString "=C6") 989, Value.str (Str.ofString "=C7") 993,
          Value.str (Str.ofString "=C8") 997, Value.str (Str.ofString "=C9") 1001, Value.str (Str.ofString "=CA") 1005, Value.str (Str.ofString "=CB") 1009, Value.str (Str.ofString "=CC") 1013,
          Value.str (Str.ofString "=CD") 1017, Value.str (Str.ofString "=CE") 1021, Value.str (Str.ofString "=CF") 1025, Value.str (Str.ofString "=D0") 1029, Value.str (Str.ofString "=D1") 1033,
          Value.str (Str.ofString "=D2") 1037, Value.str (Str.ofString "=D3") 1041, Value.str (Str.ofString "=D4") 1045, Value.str (Str.ofString "=D5") 1049, Value.str (Str.ofString "=D6") 1053,
          Value.str (Str.ofString "=D7") 1057, Value.str (Str.ofString "=D8") 1061, Value.str (Str.ofString "=D9") 1065, Value.str (Str.ofString "=DA") 1069, Value.str (Str.ofString "=DB") 1073,
          Value.str (Str.ofString "=DC") 1077, Value.str (Str.ofString "=DD") 1081, Value.str (Str.ofString "=DE") 1085, Value.str (Str.ofString "=DF") 1089, Value.str (Str.ofString "=E0") 1093,
          Value.str (Str.ofString "=E1") 1097, Value.str (Str.ofString "=E2") 1101, Value.str (Str.ofString "=E3") 1105, Value.str (Str.ofString "=E4") 1109, Value.str (Str.ofString "=E5") 1113,
          Value.str (Str.ofString "=E6") 1117, Value.str (Str.ofString "=E7") 1121, Value.str (Str.ofString "=E8") 1125, Value.str (Str.ofString "=E9") 1129, Value.str (Str.ofString "=EA") 1133,
          Value.str (Str.ofString "=EB") 1137, Value.str (Str.ofString "=EC") 1141, Value.str (Str.ofString "=ED") 1145, Value.str (Str.ofString "=EE") 1149, Value.str (Str.ofString "=EF") 1153,
          Value.str (Str.ofString "=F0") 1157, Value.str (Str.ofString "=F1") 1161, Value.str (Str.ofString "=F2") 1165, Value.str (Str.ofString "=F3") 1169, Value.str (Str.ofString "=F4") 1173,
          Value.str (Str.ofString "=F5") 1177, Value.str (Str.ofString "=F6") 1181, Value.str (Str.ofString "=F7") 1185, Value.str (Str.ofString "=F8") 1189, Value.str (Str.ofString "=F9") 1193,
          Value.str (Str.ofString "=FA") 1197, Value.str (Str.ofString "=FB") 1201, Value.str (Str.ofString "=FC") 1205, Value.str (Str.ofString "=FD") 1209, Value.str (Str.ofString "=FE") 1213,
          Value.str (Str.ofString "=FF") 1217] }
noncomputable def o_380 (P : Params) : Obj :=
  { cls := Value.type "dict",
    data :=
      Data.dict
        #[{ hash := PyData.keyHash P (Str.ofString "__name__"), key := Value.str (Str.ofString "__name__") 165, val := Value.str (Str.ofString "cpy313.email.quoprimime") 1229 },
          { hash := PyData.keyHash P (Str.ofString "__doc__"), key := Value.str (Str.ofString "__doc__") 166, val := Value.none },
          { hash := PyData.keyHash P (Str.ofString "__package__"), key := Value.str (Str.ofString "__package__") 167, val := Value.none },
          { hash := PyData.keyHash P (Str.ofString "__loader__"), key := Value.str (Str.ofString "__loader__") 168, val := Value.builtin "__main__.__loader__#opaque" },
          { hash := PyData.keyHash P (Str.ofString "__spec__"), key := Value.str (Str.ofString "__spec__") 169, val := Value.none },
          { hash := PyData.keyHash P (Str.ofString "__annotations__"), key := Value.str (Str.ofString "__annotations__") 170, val := Value.ref 6 },
          { hash := PyData.keyHash P (Str.ofString "__builtins__"), key := Value.str (Str.ofString "__builtins__") 171, val := Value.ref 4 },
          { hash := PyData.keyHash P (Str.ofString "__file__"), key := Value.str (Str.ofString "__file__") 173, val := Value.str (Str.ofString "/claim/cut.py") 172 },
          { hash := PyData.keyHash P (Str.ofString "__cached__"), key := Value.str (Str.ofString "__cached__") 174, val := Value.none },
          { hash := PyData.keyHash P (Str.ofString "CRLF"), key := Value.str (Str.ofString "CRLF") 188, val := Value.str (Str.ofString "\x0d\n") 187 },
          { hash := PyData.keyHash P (Str.ofString "NL"), key := Value.str (Str.ofString "NL") 190, val := Value.str (Str.ofString "\n") 189 },
          { hash := PyData.keyHash P (Str.ofString "_QUOPRI_MAP"), key := Value.str (Str.ofString "_QUOPRI_MAP") 1218, val := Value.ref 17 },
          { hash := PyData.keyHash P (Str.ofString "_QUOPRI_HEADER_MAP"), key := Value.str (Str.ofString "_QUOPRI_HEADER_MAP") 1219, val := Value.ref 22 },
          { hash := PyData.keyHash P (Str.ofString "_QUOPRI_BODY_MAP"), key := Value.str (Str.ofString "_QUOPRI_BODY_MAP") 1220, val := Value.ref 24 },
          { hash := PyData.keyHash P (Str.ofString "ascii_lowercase"), key := Value.str (Str.ofString "ascii_lowercase") 1222, val := Value.str (Str.ofString "abcdefghijklmnopqrstuvwxyz") 1221 },
          { hash := PyData.keyHash P (Str.ofString "ascii_uppercase"), key := Value.str (Str.ofString "ascii_uppercase") 1224, val := Value.str (Str.ofString "ABCDEFGHIJKLMNOPQRSTUVWXYZ") 1223 },
          { hash := PyData.keyHash P (Str.ofString "ascii_letters"), key := Value.str (Str.ofString "ascii_letters") 1226,
            val := Value.str (Str.ofString "abcdefghijklmnopqrstuvwxyzABCDEFGHIJKLMNOPQRSTUVWXYZ") 1225 },
          { hash := PyData.keyHash P (Str.ofString "digits"), key := Value.str (Str.ofString "digits") 1228, val := Value.str (Str.ofString "0123456789") 1227 },
          { hash := PyData.keyHash P (Str.ofString "c"), key := Value.str (Str.ofString "c") 1239, val := Value.int 9 1725 }]
        19 }
noncomputable def o_383 (P : Params) : Obj := { cls := Value.type "tuple", data := Data.seq #[] }
noncomputable def o_381 (P : Params) : Obj :=
  { cls := Value.type "list",
    data :=
      Data.seq
        #[Value.str (Str.ofString "=00") 197, Value.str (Str.ofString "=01") 201, Value.str (Str.ofString "=02") 205, Value.str (Str.ofString "=03") 209, Value.str (Str.ofString "=04") 213,
          Value.str (Str.ofString "=05") 217, Value.str (Str.ofString "=06") 221, Value.str (Str.ofString "=07") 225, Value.str (Str.ofString "=08") 229, Value.str (Str.ofString "\t") 1727,
          Value.str (Str.ofString "=0A") 237, Value.str (Str.ofString "=0B") 241, Value.str (Str.ofString "=0C") 245, Value.str (Str.ofString "=0D") 249, Value.str (Str.ofString "=0E") 253,
          Value.str (Str.ofString "=0F") 257, Value.str (Str.ofString "=10") 261, Value.str (Str.ofString "=11") 265, Value.str (Str.ofString "=12") 269, Value.str (Str.ofString "=13") 273,
          Value.str (Str.ofString "=14") 277, Value.str (Str.ofString "=15") 281, Value.str (Str.ofString "=16") 285, Value.str (Str.ofString "=17") 289, Value.str (Str.ofString "=18") 293,
          Value.str (Str.ofString "=19") 297, Value.str (Str.ofString "=1A") 301, Value.str (Str.ofString "=1B") 305, Value.str (Str.ofString "=1C") 309, Value.str (Str.ofString "=1D") 313,
          Value.str (Str.ofString "=1E") 317, Value.str (Str.ofString "=1F") 321, Value.str (Str.ofString " ") 1445, Value.str (Str.ofString "!") 1448, Value.str (Str.ofString "\"") 1451,
          Value.str (Str.ofString "#") 1454, Value.str (Str.ofString "$") 1457, Value.str (Str.ofString "%") 1460, Value.str (Str.ofString "&") 1463, Value.str (Str.ofString "'") 1466,
          Value.str (Str.ofString "(") 1469, Value.str (Str.ofString ")") 1472, Value.str (Str.ofString "*") 1475, Value.str (Str.ofString "+") 1478, Value.str (Str.ofString ",") 1481,
          Value.str (Str.ofString "-") 1484, Value.str (Str.ofString ".") 1487, Value.str (Str.ofString "/") 1490, Value.str (Str.ofString "0") 1493, Value.str (Str.ofString "1") 1496,
          Value.str (Str.ofString "2") 1499, Value.str (Str.ofString "3") 1502, Value.str (Str.ofString "4") 1505, Value.str (Str.ofString "5") 1508, Value.str (Str.ofString "6") 1511,
          Value.str (Str.ofString "7") 1514, Value.str (Str.ofString "8") 1517, Value.str (Str.ofString "9") 1520, Value.str (Str.ofString ":") 1523, Value.str (Str.ofString ";") 1526,
          Value.str (Str.ofString "<") 1529, Value.str (Str.ofString "=3D") 441, Value.str (Str.ofString ">") 1532, Value.str (Str.ofString "?") 1535, Value.str (Str.ofString "@") 1538,
          Value.str (Str.ofString "A") 1541, Value.str (Str.ofString "B") 1544, Value.str (Str.ofString "C") 1547, Value.str (Str.ofString "D") 1550, Value.str (Str.ofString "E") 1553,
          Value.str (Str.ofString "F") 1556, Value.str (Str.ofString "G") 1559, Value.str (Str.ofString "H") 1562, Value.str (Str.ofString "I") 1565, Value.str (Str.ofString "J") 1568,
          Value.str (Str.ofString "K") 1571, Value.str (Str.ofString "L") 1574, Value.str (Str.ofString "M") 1577, Value.str (Str.ofString "N") 1580, Value.str (Str.ofString "O") 1583,
          Value.str (Str.ofString "P") 1586, Value.str (Str.ofString "Q") 1589, Value.str (Str.ofString "R") 1592, Value.str (Str.ofString "S") 1595, Value.str (Str.ofString "T") 1598,
          Value.str (Str.ofString "U") 1601, Value.str (Str.ofString "V") 1604, Value.str (Str.ofString "W") 1607, Value.str (Str.ofString "X") 1610, Value.str (Str.ofString "Y") 1613,
          Value.str (Str.ofString "Z") 1616, Value.str (Str.ofString "[") 1619, Value.str (Str.ofString "\\") 1622, Value.str (Str.ofString "]") 1625, Value.str (Str.ofString "^") 1628,
          Value.str (Str.ofString "_") 1631, Value.str (Str.ofString "`") 1634, Value.str (Str.ofString "a") 1637, Value.str (Str.ofString "b") 1640, Value.str (Str.ofString "c") 1643,
          Value.str (Str.ofString "d") 1646, Value.str (Str.ofString "e") 1649, Value.str (Str.ofString "f") 1652, Value.str (Str.ofString "g") 1655, Value.str (Str.ofString "h") 1658,
          Value.str (Str.ofString "i") 1661, Value.str (Str.ofString "j") 1664, Value.str (Str.ofString "k") 1667, Value.str (Str.ofString "l") 1670, Value.str (Str.ofString "m") 1673,
          Value.str (Str.ofString "n") 1676, Value.str (Str.ofString "o") 1679, Value.str (Str.ofString "p") 1682, Value.str (Str.ofString "q") 1685, Value.str (Str.ofString "r") 1688,
          Value.str (Str.ofString "s") 1691, Value.str (Str.ofString "t") 1694, Value.str (Str.ofString "u") 1697, Value.str (Str.ofString "v") 1700, Value.str (Str.ofString "w") 1703,
          Value.str (Str.ofString "x") 1706, Value.str (Str.ofString "y") 1709, Value.str (Str.ofString "z") 1712, Value.str (Str.ofString "{") 1715, Value.str (Str.ofString "|") 1718,
          Value.str (Str.ofString "}") 1721, Value.str (Str.ofString "~") 1724, Value.str (Str.ofString "=7F") 705, Value.str (Str.ofString "=80") 709, Value.str (Str.ofString "=81") 713,
          Value.str (Str.ofString "=82") 717, Value.str (Str.ofString "=83") 721, Value.str (Str.ofString "=84") 725, Value.str (Str.ofString "=85") 729, Value.str (Str.ofString "=86") 733,
          Value.str (Str.ofString "=87") 737, Value.str (Str.ofString "=88") 741, Value.str (Str.ofString "=89") 745, Value.str (Str.ofString "=8A") 749, Value.str (Str.ofString "=8B") 753,
          Value.str (Str.ofString "=8C") 757, Value.str (Str.ofString "=8D") 761, Value.str (Str.ofString "=8E") 765, Value.str (Str.ofString "=8F") 769, Value.str (Str.ofString "=90") 773,
          Value.str (Str.ofString "=91") 777, Value.str (Str.ofString "=92") 781, Value.str (Str.ofString "=93") 785, Value.str (Str.ofString "=94") 789, Value.str (Str.ofString "=95") 793,
          Value.str (Str.ofString "=96") 797, Value.str (Str.ofString "=97") 801, Value.str (Str.ofString "=98") 805, Value.str (Str.ofString "=99") 809, Value.str (Str.ofString "=9A") 813,
          Value.str (Str.ofString "=9B") 817, Value.str (Str.ofString "=9C") 821, Value.str (Str.ofString "=9D") 825, Value.str (Str.ofString "=9E") 829, Value.str (Str.ofString "=9F") 833,
          Value.str (Str.ofString "=A0") 837, Value.str (Str.ofString "=A1") 841, Value.str (Str.ofString "=A2") 845, Value.str (Str.ofString "=A3") 849, Value.str (Str.ofString "=A4") 853,
          Value.str (Str.ofString "=A5") 857, Value.str (Str.ofString "=A6") 861, Value.str (Str.ofString "=A7") 865, Value.str (Str.ofString "=A8") 869, Value.str (Str.ofString "=A9") 873,
          Value.str (Str.ofString "=AA") 877, Value.str (Str.ofString "=AB") 881, Value.str (Str.ofString "=AC") 885, Value.str (Str.ofString "=AD") 889, Value.str (Str.ofString "=AE") 893,
          Value.str (Str.ofString "=AF") 897, Value.str (Str.ofString "=B0") 901, Value.str (Str.ofString "=B1") 905, Value.str (Str.ofString "=B2") 909, Value.str (Str.ofString "=B3") 913,
          Value.str (Str.ofString "=B4") 917, Value.str (Str.ofString "=B5") 921, Value.str (Str.ofString "=B6") 925, Value.str (Str.ofString "=B7") 929, Value.str (Str.ofString "=B8") 933,
          Value.str (Str.ofString "=B9") 937, Value.str (Str.ofString "=BA") 941, Value.str (Str.ofString "=BB") 945, Value.str (Str.ofString "=BC") 949, Value.str (Str.ofString "=BD") 953,
          Value.str (Str.ofString "=BE") 957, Value.str (Str.ofString "=BF") 961, Value.str (Str.ofString "=C0") 965, Value.str (Str.ofString "=C1") 969, Value.str (Str.ofString "=C2") 973,
          Value.str (Str.ofString "=C3") 977, Value.str (Str.ofString "=C4") 981, Value.str (Str.ofString "=C5") 985, Value.str (Str.ofString "=C6") 989, Value.str (Str.ofString "=C7") 993,
          Value.str (Str.ofString "=C8") 997, Value.str (Str.ofString "=C9") 1001, Value.str (Str.ofString "=CA") 1005, Value.str (Str.ofString "=CB") 1009, Value.str (Str.ofString "=CC") 1013,
          Value.str (Str.ofString "=CD") 1017, Value.str (Str.ofString "=CE") 1021, Value.str (Str.ofString "=CF") 1025, Value.str (Str.ofString "=D0") 1029, Value.str (Str.ofString "=D1") 1033,
          Value.str (Str.ofString "=D2") 1037, Value.str (Str.ofString "=D3") 1041, Value.str (Str.ofString "=D4") 1045, Value.str (Str.ofString "=D5") 1049, Value.str (Str.ofString "=D6") 1053,
          Value.str (Str.ofString "=D7") 1057, Value.str (Str.ofString "=D8") 1061, Value.str (Str.ofString "=D9") 1065, Value.str (Str.ofString "=DA") 1069, Value.str (Str.ofString "=DB") 1073,
          Value.str (Str.ofString "=DC") 1077, Value.str (Str.ofString "=DD") 1081, Value.str (Str.ofString "=DE") 1085, Value.str (Str.ofString "=DF") 1089, Value.str (Str.ofString "=E0") 1093,
          Value.str (Str.ofString "=E1") 1097, Value.str (Str.ofString "=E2") 1101, Value.str (Str.ofString "=E3") 1105, Value.str (Str.ofString "=E4") 1109, Value.str (Str.ofString "=E5") 1113,
          Value.str (Str.ofString "=E6") 1117, Value.str (Str.ofString "=E7") 1121, Value.str (Str.ofString "=E8") 1125, Value.str (Str.ofString "=E9") 1129, Value.str (Str.ofString "=EA") 1133,
          Value.str (Str.ofString "=EB") 1137, Value.str (Str.ofString "=EC") 1141, Value.str (Str.ofString "=ED") 1145, Value.str (Str.ofString "=EE") 1149, Value.str (Str.ofString "=EF") 1153,
          Value.str (Str.ofString "=F0") 1157, Value.str (Str.ofString "=F1") 1161, Value.str (Str.ofString "=F2") 1165, Value.str (Str.ofString "=F3") 1169, Value.str (Str.ofString "=F4") 1173,
          Value.str (Str.ofString "=F5") 1177, Value.str (Str.ofString "=F6") 1181, Value.str (Str.ofString "=F7") 1185, Value.str (Str.ofString "=F8") 1189, Value.str (Str.ofString "=F9") 1193,
          Value.str (Str.ofString "=FA") 1197, Value.str (Str.ofString "=FB") 1201, Value.str (Str.ofString "=FC") 1205, Value.str (Str.ofString "=FD") 1209, Value.str (Str.ofString "=FE") 1213,
          Value.str (Str.ofString "=FF") 1217] }
noncomputable def o_382 (P : Params) : Obj := { cls := Value.type "bytes_iterator", data := Data.fields #[Value.none, Value.int 95 0] }
noncomputable def o_384 (P : Params) : Obj := { cls := Value.type "StopIteration", data := Data.fields #[Value.ref 29, Value.none, Value.none, Value.none, Value.bool false, Value.none] }
noncomputable def o_396 (P : Params) : Obj :=
  { cls := Value.type "dict",
    data :=
      Data.dict
        #[{ hash := PyData.keyHash P (Str.ofString "__name__"), key := Value.str (Str.ofString "__name__") 165, val := Value.str (Str.ofString "law_ny0120_01") 1784 },
          { hash := PyData.keyHash P (Str.ofString "__doc__"), key := Value.str (Str.ofString "__doc__") 166, val := Value.none },
          { hash := PyData.keyHash P (Str.ofString "__package__"), key := Value.str (Str.ofString "__package__") 167, val := Value.none },
          { hash := PyData.keyHash P (Str.ofString "__loader__"), key := Value.str (Str.ofString "__loader__") 168, val := Value.builtin "__main__.__loader__#opaque" },
          { hash := PyData.keyHash P (Str.ofString "__spec__"), key := Value.str (Str.ofString "__spec__") 169, val := Value.none },
          { hash := PyData.keyHash P (Str.ofString "__annotations__"), key := Value.str (Str.ofString "__annotations__") 170, val := Value.ref 6 },
          { hash := PyData.keyHash P (Str.ofString "__builtins__"), key := Value.str (Str.ofString "__builtins__") 171, val := Value.ref 4 },
          { hash := PyData.keyHash P (Str.ofString "__file__"), key := Value.str (Str.ofString "__file__") 173, val := Value.str (Str.ofString "/claim/cut.py") 172 },
          { hash := PyData.keyHash P (Str.ofString "__cached__"), key := Value.str (Str.ofString "__cached__") 174, val := Value.none },
          { hash := PyData.keyHash P (Str.ofString "CRLF"), key := Value.str (Str.ofString "CRLF") 188, val := Value.str (Str.ofString "\x0d\n") 187 },
          { hash := PyData.keyHash P (Str.ofString "NL"), key := Value.str (Str.ofString "NL") 190, val := Value.str (Str.ofString "\n") 189 },
          { hash := PyData.keyHash P (Str.ofString "_QUOPRI_MAP"), key := Value.str (Str.ofString "_QUOPRI_MAP") 1218, val := Value.ref 17 },
          { hash := PyData.keyHash P (Str.ofString "_QUOPRI_HEADER_MAP"), key := Value.str (Str.ofString "_QUOPRI_HEADER_MAP") 1219, val := Value.ref 22 },
          { hash := PyData.keyHash P (Str.ofString "_QUOPRI_BODY_MAP"), key := Value.str (Str.ofString "_QUOPRI_BODY_MAP") 1220, val := Value.ref 24 },
          { hash := PyData.keyHash P (Str.ofString "ascii_lowercase"), key := Value.str (Str.ofString "ascii_lowercase") 1222, val := Value.str (Str.ofString "abcdefghijklmnopqrstuvwxyz") 1221 },
          { hash := PyData.keyHash P (Str.ofString "ascii_uppercase"), key := Value.str (Str.ofString "ascii_uppercase") 1224, val := Value.str (Str.ofString "ABCDEFGHIJKLMNOPQRSTUVWXYZ") 1223 },
          { hash := PyData.keyHash P (Str.ofString "ascii_letters"), key := Value.str (Str.ofString "ascii_letters") 1226,
            val := Value.str (Str.ofString "abcdefghijklmnopqrstuvwxyzABCDEFGHIJKLMNOPQRSTUVWXYZ") 1225 },
          { hash := PyData.keyHash P (Str.ofString "digits"), key := Value.str (Str.ofString "digits") 1228, val := Value.str (Str.ofString "0123456789") 1227 },
          { hash := PyData.keyHash P (Str.ofString "quote"), key := Value.str (Str.ofString "quote") 1734, val := Value.ref 37 },
          { hash := PyData.keyHash P (Str.ofString "header_encode"), key := Value.str (Str.ofString "header_encode") 1744, val := Value.ref 45 },
          { hash := PyData.keyHash P (Str.ofString "_QUOPRI_BODY_ENCODE_MAP"), key := Value.str (Str.ofString "_QUOPRI_BODY_ENCODE_MAP") 1745, val := Value.ref 47 },
          { hash := PyData.keyHash P (Str.ofString "body_encode"), key := Value.str (Str.ofString "body_encode") 1772, val := Value.ref 58 },
          { hash := PyData.keyHash P (Str.ofString "_parse_varint"), key := Value.str (Str.ofString "_parse_varint") 1783, val := Value.ref 65 },
          { hash := PyData.keyHash P (Str.ofString "_law_digits"), key := Value.str (Str.ofString "_law_digits") 1793, val := Value.ref 72 },
          { hash := PyData.keyHash P (Str.ofString "_law_below"), key := Value.str (Str.ofString "_law_below") 1799, val := Value.ref 77 },
          { hash := PyData.keyHash P (Str.ofString "_law_more"), key := Value.str (Str.ofString "_law_more") 1805, val := Value.ref 82 }]
        28 }
noncomputable def o_398 (P : Params) : Obj := { cls := Value.type "tuple", data := Data.seq #[] }
noncomputable def o_430 (P : Params) : Obj :=
  { cls := Value.none,
    data :=
      Data.func
        { name := Str.ofString "_parse_varint", qualname := Str.ofString "_parse_varint",
          params := (fnAt 20).1, body := FuncBody.stmts (fnAt 20).2.1, scope := (fnAt 20).2.2, globals := 0, closure := [], defaults := Value.none, kwdefaults := Value.none } }
noncomputable def o_414 (P : Params) : Obj :=
  { cls := Value.type "list",
    data :=
      Data.seq
        #[Value.str (Str.ofString "=00") 197, Value.str (Str.ofString "=01") 201, Value.str (Str.ofString "=02") 205, Value.str (Str.ofString "=03") 209, Value.str (Str.ofString "=04") 213,
          Value.str (Str.ofString "=05") 217, Value.str (Str.ofString "=06") 221, Value.str (Str.ofString "=07") 225, Value.str (Str.ofString "=08") 229, Value.str (Str.ofString "\t") 1727,
          Value.str (Str.ofString "\n") 1752, Value.str (Str.ofString "=0B") 241, Value.str (Str.ofString "=0C") 245, Value.str (Str.ofString "\x0d") 1749, Value.str (Str.ofString "=0E") 253,
          Value.str (Str.ofString "=0F") 257, Value.str (Str.ofString "=10") 261, Value.str (Str.ofString "=11") 265, Value.str (Str.ofString "=12") 269, Value.str (Str.ofString "=13") 273,
          Value.str (Str.ofString "=14") 277, Value.str (Str.ofString "=15") 281, Value.str (Str.ofString "=16") 285, Value.str (Str.ofString "=17") 289, Value.str (Str.ofString "=18") 293,
          Value.str (Str.ofString "=19") 297, Value.str (Str.ofString "=1A") 301, Value.str (Str.ofString "=1B") 305, Value.str (Str.ofString "=1C") 309, Value.str (Str.ofString "=1D") 313,
          Value.str (Str.ofString "=1E") 317, Value.str (Str.ofString "=1F") 321, Value.str (Str.ofString " ") 1445, Value.str (Str.ofString "!") 1448, Value.str (Str.ofString "\"") 1451,
          Value.str (Str.ofString "#") 1454, Value.str (Str.ofString "$") 1457, Value.str (Str.ofString "%") 1460, Value.str (Str.ofString "&") 1463, Value.str (Str.ofString "'") 1466,
          Value.str (Str.ofString "(") 1469, Value.str (Str.ofString ")") 1472, Value.str (Str.ofString "*") 1475, Value.str (Str.ofString "+") 1478, Value.str (Str.ofString ",") 1481,
          Value.str (Str.ofString "-") 1484, Value.str (Str.ofString ".") 1487, Value.str (Str.ofString "/") 1490, Value.str (Str.ofString "0") 1493, Value.str (Str.ofString "1") 1496,
          Value.str (Str.ofString "2") 1499, Value.str (Str.ofString "3") 1502, Value.str (Str.ofString "4") 1505, Value.str (Str.ofString "5") 1508, Value.str (Str.ofString "6") 1511,
          Value.str (Str.ofString "7") 1514, Value.str (Str.ofString "8") 1517, Value.str (Str.ofString "9") 1520, Value.str (Str.ofString ":") 1523, Value.str (Str.ofString ";") 1526,
          Value.str (Str.ofString "<") 1529, Value.str (Str.ofString "=3D") 441, Value.str (Str.ofString ">") 1532, Value.str (Str.ofString "?") 1535, Value.str (Str.ofString "@") 1538,
          Value.str (Str.ofString "A") 1541, Value.str (Str.ofString "B") 1544, Value.str (Str.ofString "C") 1547, Value.str (Str.ofString "D") 1550, Value.str (Str.ofString "E") 1553,
          Value.str (Str.ofString "F") 1556, Value.str (Str.ofString "G") 1559, Value.str (Str.ofString "H") 1562, Value.str (Str.ofString "I") 1565, Value.str (Str.ofString "J") 1568,
          Value.str (Str.ofString "K") 1571, Value.str (Str.ofString "L") 1574, Value.str (Str.ofString "M") 1577, Value.str (Str.ofString "N") 1580, Value.str (Str.ofString "O") 1583,
          Value.str (Str.ofString "P") 1586, Value.str (Str.ofString "Q") 1589, Value.str (Str.ofString "R") 1592, Value.str (Str.ofString "S") 1595, Value.str (Str.ofString "T") 1598,
          Value.str (Str.ofString "U") 1601, Value.str (Str.ofString "V") 1604, Value.str (Str.ofString "W") 1607, Value.str (Str.ofString "X") 1610, Value.str (Str.ofString "Y") 1613,
          Value.str (Str.ofString "Z") 1616, Value.str (Str.ofString "[") 1619, Value.str (Str.ofString "\\") 1622, Value.str (Str.ofString "]") 1625, Value.str (Str.ofString "^") 1628,
          Value.str (Str.ofString "_") 1631, Value.str (Str.ofString "`") 1634, Value.str (Str.ofString "a") 1637, Value.str (Str.ofString "b") 1640, Value.str (Str.ofString "c") 1643,
          Value.str (Str.ofString "d") 1646, Value.str (Str.ofString "e") 1649, Value.str (Str.ofString "f") 1652, Value.str (Str.ofString "g") 1655, Value.str (Str.ofString "h") 1658,
          Value.str (Str.ofString "i") 1661, Value.str (Str.ofString "j") 1664, Value.str (Str.ofString "k") 1667, Value.str (Str.ofString "l") 1670, Value.str (Str.ofString "m") 1673,
          Value.str (Str.ofString "n") 1676, Value.str (Str.ofString "o") 1679, Value.str (Str.ofString "p") 1682, Value.str (Str.ofString "q") 1685, Value.str (Str.ofString "r") 1688,
          Value.str (Str.ofString "s") 1691, Value.str (Str.ofString "t") 1694, Value.str (Str.ofString "u") 1697, Value.str (Str.ofString "v") 1700, Value.str (Str.ofString "w") 1703,
          Value.str (Str.ofString "x") 1706, Value.str (Str.ofString "y") 1709, Value.str (Str.ofString "z") 1712, Value.str (Str.ofString "{") 1715, Value.str (Str.ofString "|") 1718,
          Value.str (Str.ofString "}") 1721, Value.str (Str.ofString "~") 1724, Value.str (Str.ofString "=7F") 705, Value.str (Str.ofString "=80") 709, Value.str (Str.ofString "=81") 713,
          Value.str (Str.ofString "=82") 717, Value.str (Str.ofString "=83") 721, Value.str (Str.ofString "=84") 725, Value.str (Str.ofString "=85") 729, Value.str (Str.ofString "=86") 733,
          Value.str (Str.ofString "=87") 737, Value.str (Str.ofString "=88") 741, Value.str (Str.ofString "=89") 745, Value.str (Str.ofString "=8A") 749, Value.str (Str.ofString "=8B") 753,
          Value.str (Str.ofString "=8C") 757, Value.str (Str.ofString "=8D") 761, Value.str (Str.ofString "=8E") 765, Value.str (Str.ofString "=8F") 769, Value.str (Str.ofString "=90") 773,
          Value.str (Str.ofString "=91") 777, Value.str (Str.ofString "=92") 781, Value.str (Str.ofString "=93") 785, Value.str (Str.ofString "=94") 789, Value.str (Str.ofString "=95") 793,
          Value.str (Str.ofString "=96") 797, Value.str (Str.ofString "=97") 801, Value.str (Str.ofString "=98") 805, Value.str (Str.ofString "=99") 809, Value.str (Str.ofString "=9A") 813,
          Value.str (Str.ofString "=9B") 817, Value.str (Str.ofString "=9C") 821, Value.str (Str.ofString "=9D") 825, Value.str (Str.ofString "=9E") 829, Value.str (Str.ofString "=9F") 833,
          Value.str (Str.ofString "=A0") 837, Value.str (Str.ofString "=A1") 841, Value.str (Str.ofString "=A2") 845, Value.str (Str.ofString "=A3") 849, Value.str (Str.ofString "=A4") 853,
          Value.str (Str.ofString "=A5") 857, Value.str (Str.ofString "=A6") 861, Value.str (Str.ofString "=A7") 865, Value.str (Str.ofString "=A8") 869, Value.str (Str.ofString "=A9") 873,
          Value.str (Str.ofString "=AA") 877, Value.str (Str.ofString "=AB") 881, Value.str (Str.ofString "=AC") 885, Value.str (Str.ofString "=AD") 889, Value.str (Str.ofString "=AE") 893,
          Value.str (Str.ofString "=AF") 897, Value.str (Str.ofString "=B0") 901, Value.str (Str.ofString "=B1") 905, Value.str (Str.ofString "=B2") 909, Value.str (Str.ofString "=B3") 913,
          Value.str (Str.ofString "=B4") 917, Value.str (Str.ofString "=B5") 921, Value.str (Str.ofString "=B6") 925, Value.str (Str.ofString "=B7") 929, Value.str (Str.ofString "=B8") 933,
          Value.str (Str.ofString "=B9") 937, Value.str (Str.ofString "=BA") 941, Value.str (Str.ofString "=BB") 945, Value.str (Str.ofString "=BC") 949, Value.str (Str.ofString "=BD") 953,
          Value.str (Str.ofString "=BE") 957, Value.str (Str.ofString "=BF") 961, Value.str (Str.ofString "=C0") 965, Value.str (Str.ofString "=C1") 969, Value.str (Str.ofString "=C2") 973,
          Value.str (Str.ofString "=C3") 977, Value.str (Str.ofString "=C4") 981, Value.str (Str.ofString "=C5") 985, Value.str (Str.ofString "=C6") 989, Value.str (Str.ofString "=C7") 993,
          Value.str (Str.ofString "=C8") 997, Value.str (Str.ofString "=C9") 1001, Value.str (Str.ofString "=CA") 1005, Value.str (Str.ofString "=CB") 1009, Value.str (Str.ofString "=CC") 1013,
          Value.str (Str.ofString "=CD") 1017, Value.str (Str.ofString "=CE") 1021, Value.str (Str.ofString "=CF") 1025, Value.str (Str.ofString "=D0") 1029, Value.str (Str.ofString "=D1") 1033,
          Value.str (Str.ofString "=D2") 1037, Value.str (Str.ofString "=D3") 1041, Value.str (Str.ofString "=D4") 1045, Value.str (Str.ofString "=D5") 1049, Value.str (Str.ofString "=D6") 1053,
          Value.str (Str.ofString "=D7") 1057, Value.str (Str.ofString "=D8") 1061, Value.str (Str.ofString "=D9") 1065, Value.str (Str.ofString "=DA") 1069, Value.str (Str.ofString "=DB") 1073,
          Value.str (Str.ofString "=DC") 1077, Value.str (Str.ofString "=DD") 1081, Value.str (Str.ofString "=DE") 1085, Value.str (Str.ofString "=DF") 1089, Value.str (Str.ofString "=E0") 1093,
          Value.str (Str.ofString "=E1") 1097, Value.str (Str.ofString "=E2") 1101, Value.str (Str.ofString "=E3") 1105, Value.str (Str.ofString "=E4") 1109, Value.str (Str.ofString "=E5") 1113,
          Value.str (Str.ofString "=E6") 1117, Value.str (Str.ofString "=E7") 1121, Value.str (Str.ofString "=E8") 1125, Value.str (Str.ofString "=E9") 1129, Value.str (Str.ofString "=EA") 1133,
          Value.str (Str.ofString "=EB") 1137, Value.str (Str.ofString "=EC") 1141, Value.str (Str.ofString "=ED") 1145, Value.str (Str.ofString "=EE") 1149, Value.str (Str.ofString "=EF") 1153,
          Value.str (Str.ofString "=F0") 1157, Value.str (Str.ofString "=F1") 1161, Value.str (Str.ofString "=F2") 1165, Value.str (Str.ofString "=F3") 1169, Value.str (Str.ofString "=F4") 1173,
          Value.str (Str.ofString "=F5") 1177, Value.str (Str.ofString "=F6") 1181, Value.str (Str.ofString "=F7") 1185, Value.str (Str.ofString "=F8") 1189, Value.str (Str.ofString "=F9") 1193,
          Value.str (Str.ofString "=FA") 1197, Value.str (Str.ofString "=FB") 1201, Value.str (Str.ofString "=FC") 1205, Value.str (Str.ofString "=FD") 1209, Value.str (Str.ofString "=FE") 1213,
          Value.str (Str.ofString "=FF") 1217] }
noncomputable def o_446 (P : Params) : Obj := { cls := Value.none, data := Data.fields #[] }
noncomputable def o_406 (P : Params) : Obj := { cls := Value.type "tuple", data := Data.seq #[] }
noncomputable def o_438 (P : Params) : Obj :=
  { cls := Value.type "code",
    data :=
      Data.fields
        #[Value.str (Str.ofString "_law_digits") 1786, Value.str (Str.ofString "_law_digits") 1787, Value.str (Str.ofString "/claim/cut.py") 1788, Value.int 75 0, Value.int 1 0, Value.int 0 0,
          Value.int 0 0, Value.int 3 0, Value.ref 66, Value.bool true, Value.int 181 0, Value.ref 67, Value.none, Value.ref 68, Value.ref 69, Value.ref 70, Value.int 1791 0, Value.int 75 0,
          Value.str (Str.ofString "/claim/cut.py") 1792] }
noncomputable def o_422 (P : Params) : Obj := { cls := Value.type "tuple", data := Data.seq #[] }
noncomputable def o_402 (P : Params) : Obj :=
  { cls := Value.none,
    data :=
      Data.func
        { name := Str.ofString "quote", qualname := Str.ofString "quote",
          params := (fnAt 13).1, body := FuncBody.stmts (fnAt 13).2.1, scope := (fnAt 13).2.2, globals := 0, closure := [], defaults := Value.none, kwdefaults := Value.none } }
noncomputable def o_434 (P : Params) : Obj := { cls := Value.none, data := Data.fields #[] }
noncomputable def o_418 (P : Params) : Obj := { cls := Value.type "tuple", data := Data.seq #[Value.int 76 1753, Value.str (Str.ofString "\n") 189] }
noncomputable def o_410 (P : Params) : Obj :=
  { cls := Value.none,
    data :=
      Data.func
        { name := Str.ofString "header_encode", qualname := Str.ofString "header_encode",
          params := (fnAt 14).1, body := FuncBody.stmts (fnAt 14).2.1, scope := (fnAt 14).2.2, globals := 0, closure := [], defaults := Value.none, kwdefaults := Value.none } }
noncomputable def o_442 (P : Params) : Obj :=
  { cls := Value.none,
    data :=
      Data.func
        { name := Str.ofString "_law_below", qualname := Str.ofString "_law_below",
          params := (fnAt 23).1, body := FuncBody.stmts (fnAt 23).2.1, scope := (fnAt 23).2.2, globals := 0, closure := [], defaults := Value.none, kwdefaults := Value.none } }
noncomputable def o_426 (P : Params) : Obj := { cls := Value.type "tuple", data := Data.seq #[] }
noncomputable def o_400 (P : Params) : Obj := { cls := Value.type "tuple", data := Data.seq #[Value.str (Str.ofString "c") 1731] }
noncomputable def o_432 (P : Params) : Obj :=
  { cls := Value.type "function",
    data :=
      Data.func
        { name := Str.ofString "_parse_varint", qualname := Str.ofString "_parse_varint",
          params := (fnAt 20).1, body := FuncBody.stmts (fnAt 20).2.1, scope := (fnAt 20).2.2, globals := 3, closure := [], defaults := Value.none, kwdefaults := Value.none, pyModule := Value.str (Str.ofString "cpy313.dis") 1773, code := Value.ref 64 } }
noncomputable def o_416 (P : Params) : Obj := { cls := Value.type "tuple", data := Data.seq #[] }
noncomputable def o_448 (P : Params) : Obj :=
  { cls := Value.type "code",
    data :=
      Data.fields
        #[Value.str (Str.ofString "_law_more") 1800, Value.str (Str.ofString "_law_more") 1801, Value.str (Str.ofString "/claim/cut.py") 1802, Value.int 89 0, Value.int 3 0, Value.int 0 0,
          Value.int 0 0, Value.int 3 0, Value.ref 78, Value.bool true, Value.int 181 0, Value.ref 79, Value.none, Value.none, Value.none, Value.ref 80, Value.int 1803 0, Value.int 89 0,
          Value.str (Str.ofString "/claim/cut.py") 1804] }
noncomputable def o_408 (P : Params) : Obj := { cls := Value.type "tuple", data := Data.seq #[Value.str (Str.ofString "header_bytes") 1739, Value.str (Str.ofString "charset") 1740, Value.str (Str.ofString "encoded") 1741] }
noncomputable def o_440 (P : Params) : Obj := { cls := Value.type "tuple", data := Data.seq #[] }
noncomputable def o_424 (P : Params) : Obj :=
  { cls := Value.type "code",
    data :=
      Data.fields
        #[Value.str (Str.ofString "body_encode") 1754, Value.str (Str.ofString "body_encode") 1755, Value.str (Str.ofString "/claim/cut.py") 1756, Value.int 27 0, Value.int 3 0, Value.int 0 0,
          Value.int 0 0, Value.int 3 0, Value.ref 52, Value.bool true, Value.int 181 0, Value.ref 53, Value.none, Value.ref 54, Value.ref 55, Value.ref 56, Value.int 1770 0, Value.int 27 0,
          Value.str (Str.ofString "/claim/cut.py") 1771] }
noncomputable def o_404 (P : Params) : Obj :=
  { cls := Value.type "function",
    data :=
      Data.func
        { name := Str.ofString "quote", qualname := Str.ofString "quote",
          params := (fnAt 13).1, body := FuncBody.stmts (fnAt 13).2.1, scope := (fnAt 13).2.2, globals := 3, closure := [], defaults := Value.none, kwdefaults := Value.none, pyModule := Value.str (Str.ofString "cpy313.email.quoprimime") 1229, code := Value.ref 36 } }
noncomputable def o_436 (P : Params) : Obj := { cls := Value.type "tuple", data := Data.seq #[] }
noncomputable def o_420 (P : Params) : Obj := { cls := Value.none, data := Data.fields #[] }
noncomputable def o_412 (P : Params) : Obj :=
  { cls := Value.type "function",
    data :=
      Data.func
        { name := Str.ofString "header_encode", qualname := Str.ofString "header_encode",
          params := (fnAt 14).1, body := FuncBody.stmts (fnAt 14).2.1, scope := (fnAt 14).2.2, globals := 3, closure := [], defaults := Value.ref 38, kwdefaults := Value.none, pyModule := Value.str (Str.ofString "cpy313.email.quoprimime") 1229, code := Value.ref 44 } }
noncomputable def o_444 (P : Params) : Obj :=
  { cls := Value.type "function",
    data :=
      Data.func
        { name := Str.ofString "_law_below", qualname := Str.ofString "_law_below",
          params := (fnAt 23).1, body := FuncBody.stmts (fnAt 23).2.1, scope := (fnAt 23).2.2, globals := 3, closure := [], defaults := Value.none, kwdefaults := Value.none, pyModule := Value.str (Str.ofString "law_ny0120_01") 1784, code := Value.ref 76 } }
noncomputable def o_428 (P : Params) : Obj := { cls := Value.type "tuple", data := Data.seq #[Value.str (Str.ofString "iterator") 1778, Value.str (Str.ofString "b") 1779, Value.str (Str.ofString "val") 1780] }
noncomputable def o_399 (P : Params) : Obj := { cls := Value.none, data := Data.fields #[] }
noncomputable def o_431 (P : Params) : Obj :=
  { cls := Value.type "code",
    data :=
      Data.fields
        #[Value.str (Str.ofString "_parse_varint") 1775, Value.str (Str.ofString "_parse_varint") 1776, Value.str (Str.ofString "/claim/cut.py") 1777, Value.int 66 0, Value.int 1 0, Value.int 0 0,
          Value.int 0 0, Value.int 3 0, Value.ref 59, Value.bool true, Value.int 181 0, Value.ref 60, Value.none, Value.ref 61, Value.ref 62, Value.ref 63, Value.int 1781 0, Value.int 66 0,
          Value.str (Str.ofString "/claim/cut.py") 1782] }
noncomputable def o_415 (P : Params) : Obj := { cls := Value.type "bytes_iterator", data := Data.fields #[Value.none, Value.int 2 0] }
noncomputable def o_447 (P : Params) : Obj :=
  { cls := Value.none,
    data :=
      Data.func
        { name := Str.ofString "_law_more", qualname := Str.ofString "_law_more",
          params := (fnAt 24).1, body := FuncBody.stmts (fnAt 24).2.1, scope := (fnAt 24).2.2, globals := 0, closure := [], defaults := Value.none, kwdefaults := Value.none } }
noncomputable def o_407 (P : Params) : Obj := { cls := Value.none, data := Data.fields #[] }
noncomputable def o_439 (P : Params) : Obj :=
  { cls := Value.type "function",
    data :=
      Data.func
        { name := Str.ofString "_law_digits", qualname := Str.ofString "_law_digits",
          params := (fnAt 22).1, body := FuncBody.stmts (fnAt 22).2.1, scope := (fnAt 22).2.2, globals := 3,
          closure := [], defaults := Value.none, kwdefaults := Value.none, pyModule := Value.str (Str.ofString "law_ny0120_01") 1784, code := Value.ref 71 } }
noncomputable def o_423 (P : Params) : Obj :=
  { cls := Value.none,
    data :=
      Data.func
        { name := Str.ofString "body_encode", qualname := Str.ofString "body_encode",
          params := (fnAt 18).1, body := FuncBody.stmts (fnAt 18).2.1, scope := (fnAt 18).2.2, globals := 0, closure := [], defaults := Value.none, kwdefaults := Value.none } }
noncomputable def o_397 (P : Params) : Obj :=
  { cls := Value.none,
    data :=
      Data.fields
        #[Value.int 16 0, Value.int 0 0, Value.ref 36, Value.int 18 0, Value.int 0 0, Value.ref 44, Value.int 27 0, Value.int 0 0, Value.ref 57, Value.int 66 0, Value.int 0 0, Value.ref 64,
          Value.int 75 0, Value.int 0 0, Value.ref 71, Value.int 81 0, Value.int 0 0, Value.ref 76, Value.int 89 0, Value.int 0 0, Value.ref 81] }
noncomputable def o_403 (P : Params) : Obj :=
  { cls := Value.type "code",
    data :=
      Data.fields
        #[Value.str (Str.ofString "quote") 1728, Value.str (Str.ofString "quote") 1729, Value.str (Str.ofString "/claim/cut.py") 1730, Value.int 16 0, Value.int 1 0, Value.int 0 0, Value.int 0 0,
          Value.int 3 0, Value.ref 31, Value.bool true, Value.int 181 0, Value.ref 32, Value.none, Value.ref 33, Value.ref 34, Value.ref 35, Value.int 1732 0, Value.int 16 0,
          Value.str (Str.ofString "/claim/cut.py") 1733] }
noncomputable def o_435 (P : Params) : Obj := { cls := Value.type "tuple", data := Data.seq #[Value.str (Str.ofString "n") 1789, Value.str (Str.ofString "places") 1790] }
noncomputable def o_419 (P : Params) : Obj := { cls := Value.type "tuple", data := Data.seq #[] }
noncomputable def o_411 (P : Params) : Obj :=
  { cls := Value.type "code",
    data :=
      Data.fields
        #[Value.str (Str.ofString "header_encode") 1736, Value.str (Str.ofString "header_encode") 1737, Value.str (Str.ofString "/claim/cut.py") 1738, Value.int 18 0, Value.int 2 0, Value.int 0 0,
          Value.int 0 0, Value.int 3 0, Value.ref 39, Value.bool true, Value.int 181 0, Value.ref 40, Value.none, Value.ref 41, Value.ref 42, Value.ref 43, Value.int 1742 0, Value.int 18 0,
          Value.str (Str.ofString "/claim/cut.py") 1743] }
noncomputable def o_443 (P : Params) : Obj :=
  { cls := Value.type "code",
    data :=
      Data.fields
        #[Value.str (Str.ofString "_law_below") 1794, Value.str (Str.ofString "_law_below") 1795, Value.str (Str.ofString "/claim/cut.py") 1796, Value.int 81 0, Value.int 3 0, Value.int 0 0,
          Value.int 0 0, Value.int 3 0, Value.ref 73, Value.bool true, Value.int 181 0, Value.ref 74, Value.none, Value.none, Value.none, Value.ref 75, Value.int 1797 0, Value.int 81 0,
          Value.str (Str.ofString "/claim/cut.py") 1798] }
noncomputable def o_427 (P : Params) : Obj := { cls := Value.none, data := Data.fields #[] }
noncomputable def o_401 (P : Params) : Obj := { cls := Value.type "tuple", data := Data.seq #[] }
noncomputable def o_433 (P : Params) : Obj := { cls := Value.type "tuple", data := Data.seq #[] }
noncomputable def o_417 (P : Params) : Obj := { cls := Value.type "StopIteration", data := Data.fields #[Value.ref 49, Value.none, Value.none, Value.none, Value.bool false, Value.none] }
noncomputable def o_449 (P : Params) : Obj :=
  { cls := Value.type "function",
    data :=
      Data.func
        { name := Str.ofString "_law_more", qualname := Str.ofString "_law_more",
          params := (fnAt 24).1, body := FuncBody.stmts (fnAt 24).2.1, scope := (fnAt 24).2.2, globals := 3, closure := [], defaults := Value.none, kwdefaults := Value.none, pyModule := Value.str (Str.ofString "law_ny0120_01") 1784, code := Value.ref 81 } }
noncomputable def o_409 (P : Params) : Obj := { cls := Value.type "tuple", data := Data.seq #[] }
noncomputable def o_441 (P : Params) : Obj := { cls := Value.none, data := Data.fields #[] }
noncomputable def o_425 (P : Params) : Obj :=
  { cls := Value.type "function",
    data :=
      Data.func
        { name := Str.ofString "body_encode", qualname := Str.ofString "body_encode",
          params := (fnAt 18).1, body := FuncBody.stmts (fnAt 18).2.1, scope := (fnAt 18).2.2, globals := 3, closure := [], defaults := Value.ref 51, kwdefaults := Value.none, pyModule := Value.str (Str.ofString "cpy313.email.quoprimime") 1229, code := Value.ref 57 } }
noncomputable def o_405 (P : Params) : Obj := { cls := Value.type "tuple", data := Data.seq #[Value.str (Str.ofString "iso-8859-1") 1735] }
noncomputable def o_437 (P : Params) : Obj :=
  { cls := Value.none,
    data :=
      Data.func
        { name := Str.ofString "_law_digits", qualname := Str.ofString "_law_digits",
          params := (fnAt 22).1, body := FuncBody.stmts (fnAt 22).2.1, scope := (fnAt 22).2.2, globals := 0,
          closure := [], defaults := Value.none, kwdefaults := Value.none } }
noncomputable def o_421 (P : Params) : Obj :=
  { cls := Value.type "tuple",
    data :=
      Data.seq
        #[Value.str (Str.ofString "body") 1757, Value.str (Str.ofString "maxlinelen") 1758, Value.str (Str.ofString "eol") 1759, Value.str (Str.ofString "soft_break") 1760,
          Value.str (Str.ofString "maxlinelen1") 1761, Value.str (Str.ofString "encoded_body") 1762, Value.str (Str.ofString "append") 1763, Value.str (Str.ofString "line") 1764,
          Value.str (Str.ofString "start") 1765, Value.str (Str.ofString "laststart") 1766, Value.str (Str.ofString "stop") 1767, Value.str (Str.ofString "room") 1768,
          Value.str (Str.ofString "q") 1769] }
noncomputable def o_413 (P : Params) : Obj := { cls := Value.type "slice", data := Data.fields #[Value.none, Value.none, Value.none] }
noncomputable def o_445 (P : Params) : Obj := { cls := Value.type "tuple", data := Data.seq #[] }
noncomputable def o_429 (P : Params) : Obj := { cls := Value.type "tuple", data := Data.seq #[] }
noncomputable def o_452 (P : Params) : Obj :=
  { cls := Value.type "dict",
    data :=
      Data.dict
        #[{ hash := PyData.keyHash P (Str.ofString "__name__"), key := Value.str (Str.ofString "__name__") 165, val := Value.str (Str.ofString "law_ny0120_01") 1784 },
          { hash := PyData.keyHash P (Str.ofString "__doc__"), key := Value.str (Str.ofString "__doc__") 166, val := Value.none },
          { hash := PyData.keyHash P (Str.ofString "__package__"), key := Value.str (Str.ofString "__package__") 167, val := Value.none },
          { hash := PyData.keyHash P (Str.ofString "__loader__"), key := Value.str (Str.ofString "__loader__") 168, val := Value.builtin "__main__.__loader__#opaque" },
          { hash := PyData.keyHash P (Str.ofString "__spec__"), key := Value.str (Str.ofString "__spec__") 169, val := Value.none },
          { hash := PyData.keyHash P (Str.ofString "__annotations__"), key := Value.str (Str.ofString "__annotations__") 170, val := Value.ref 6 },
          { hash := PyData.keyHash P (Str.ofString "__builtins__"), key := Value.str (Str.ofString "__builtins__") 171, val := Value.ref 4 },
          { hash := PyData.keyHash P (Str.ofString "__file__"), key := Value.str (Str.ofString "__file__") 173, val := Value.str (Str.ofString "/claim/cut.py") 172 },
          { hash := PyData.keyHash P (Str.ofString "__cached__"), key := Value.str (Str.ofString "__cached__") 174, val := Value.none },
          { hash := PyData.keyHash P (Str.ofString "CRLF"), key := Value.str (Str.ofString "CRLF") 188, val := Value.str (Str.ofString "\x0d\n") 187 },
          { hash := PyData.keyHash P (Str.ofString "NL"), key := Value.str (Str.ofString "NL") 190, val := Value.str (Str.ofString "\n") 189 },
          { hash := PyData.keyHash P (Str.ofString "_QUOPRI_MAP"), key := Value.str (Str.ofString "_QUOPRI_MAP") 1218, val := Value.ref 17 },
          { hash := PyData.keyHash P (Str.ofString "_QUOPRI_HEADER_MAP"), key := Value.str (Str.ofString "_QUOPRI_HEADER_MAP") 1219, val := Value.ref 22 },
          { hash := PyData.keyHash P (Str.ofString "_QUOPRI_BODY_MAP"), key := Value.str (Str.ofString "_QUOPRI_BODY_MAP") 1220, val := Value.ref 24 },
          { hash := PyData.keyHash P (Str.ofString "ascii_lowercase"), key := Value.str (Str.ofString "ascii_lowercase") 1222, val := Value.str (Str.ofString "abcdefghijklmnopqrstuvwxyz") 1221 },
          { hash := PyData.keyHash P (Str.ofString "ascii_uppercase"), key := Value.str (Str.ofString "ascii_uppercase") 1224, val := Value.str (Str.ofString "ABCDEFGHIJKLMNOPQRSTUVWXYZ") 1223 },
          { hash := PyData.keyHash P (Str.ofString "ascii_letters"), key := Value.str (Str.ofString "ascii_letters") 1226,
            val := Value.str (Str.ofString "abcdefghijklmnopqrstuvwxyzABCDEFGHIJKLMNOPQRSTUVWXYZ") 1225 },
          { hash := PyData.keyHash P (Str.ofString "digits"), key := Value.str (Str.ofString "digits") 1228, val := Value.str (Str.ofString "0123456789") 1227 },
          { hash := PyData.keyHash P (Str.ofString "quote"), key := Value.str (Str.ofString "quote") 1734, val := Value.ref 37 },
          { hash := PyData.keyHash P (Str.ofString "header_encode"), key := Value.str (Str.ofString "header_encode") 1744, val := Value.ref 45 },
          { hash := PyData.keyHash P (Str.ofString "_QUOPRI_BODY_ENCODE_MAP"), key := Value.str (Str.ofString "_QUOPRI_BODY_ENCODE_MAP") 1745, val := Value.ref 47 },
          { hash := PyData.keyHash P (Str.ofString "body_encode"), key := Value.str (Str.ofString "body_encode") 1772, val := Value.ref 58 },
          { hash := PyData.keyHash P (Str.ofString "_parse_varint"), key := Value.str (Str.ofString "_parse_varint") 1783, val := Value.ref 65 },
          { hash := PyData.keyHash P (Str.ofString "_law_digits"), key := Value.str (Str.ofString "_law_digits") 1793, val := Value.ref 72 },
          { hash := PyData.keyHash P (Str.ofString "_law_below"), key := Value.str (Str.ofString "_law_below") 1799, val := Value.ref 77 },
          { hash := PyData.keyHash P (Str.ofString "_law_more"), key := Value.str (Str.ofString "_law_more") 1805, val := Value.ref 82 },
          { hash := PyData.keyHash P (Str.ofString "_law_counts"), key := Value.str (Str.ofString "_law_counts") 1811, val := Value.ref 87 },
          { hash := PyData.keyHash P (Str.ofString "law"), key := Value.str (Str.ofString "law") 1817, val := Value.ref 92 }]
        30 }
noncomputable def o_458 (P : Params) : Obj :=
  { cls := Value.type "function",
    data :=
      Data.func
        { name := Str.ofString "_law_counts", qualname := Str.ofString "_law_counts",
          params := (fnAt 25).1, body := FuncBody.stmts (fnAt 25).2.1, scope := (fnAt 25).2.2, globals := 3, closure := [], defaults := Value.none, kwdefaults := Value.none, pyModule := Value.str (Str.ofString "law_ny0120_01") 1784, code := Value.ref 86 } }
noncomputable def o_454 (P : Params) : Obj := { cls := Value.type "tuple", data := Data.seq #[] }
noncomputable def o_462 (P : Params) : Obj :=
  { cls := Value.type "code",
    data :=
      Data.fields
        #[Value.str (Str.ofString "law") 1812, Value.str (Str.ofString "law") 1813, Value.str (Str.ofString "/claim/cut.py") 1814, Value.int 108 0, Value.int 1 0, Value.int 0 0, Value.int 0 0,
          Value.int 3 0, Value.ref 88, Value.bool true, Value.int 181 0, Value.ref 89, Value.none, Value.none, Value.none, Value.ref 90, Value.int 1815 0, Value.int 108 0,
          Value.str (Str.ofString "/claim/cut.py") 1816] }
noncomputable def o_460 (P : Params) : Obj := { cls := Value.none, data := Data.fields #[] }
noncomputable def o_456 (P : Params) : Obj :=
  { cls := Value.none,
    data :=
      Data.func
        { name := Str.ofString "_law_counts", qualname := Str.ofString "_law_counts",
          params := (fnAt 25).1, body := FuncBody.stmts (fnAt 25).2.1, scope := (fnAt 25).2.2, globals := 0, closure := [], defaults := Value.none, kwdefaults := Value.none } }
noncomputable def o_459 (P : Params) : Obj := { cls := Value.type "tuple", data := Data.seq #[] }
noncomputable def o_453 (P : Params) : Obj :=
  { cls := Value.none,
    data :=
      Data.fields
        #[Value.int 16 0, Value.int 0 0, Value.ref 36, Value.int 18 0, Value.int 0 0, Value.ref 44, Value.int 27 0, Value.int 0 0, Value.ref 57, Value.int 66 0, Value.int 0 0, Value.ref 64,
          Value.int 75 0, Value.int 0 0, Value.ref 71, Value.int 81 0, Value.int 0 0, Value.ref 76, Value.int 89 0, Value.int 0 0, Value.ref 81, Value.int 91 0, Value.int 0 0, Value.ref 86,
          Value.int 108 0, Value.int 0 0, Value.ref 91] }
noncomputable def o_455 (P : Params) : Obj := { cls := Value.none, data := Data.fields #[] }
noncomputable def o_463 (P : Params) : Obj :=
  { cls := Value.type "function",
    data :=
      Data.func
        { name := Str.ofString "law", qualname := Str.ofString "law",
          params := (fnAt 26).1, body := FuncBody.stmts (fnAt 26).2.1, scope := (fnAt 26).2.2, globals := 3, closure := [], defaults := Value.none, kwdefaults := Value.none, pyModule := Value.str (Str.ofString "law_ny0120_01") 1784, code := Value.ref 91 } }
noncomputable def o_461 (P : Params) : Obj :=
  { cls := Value.none,
    data :=
      Data.func
        { name := Str.ofString "law", qualname := Str.ofString "law",
          params := (fnAt 26).1, body := FuncBody.stmts (fnAt 26).2.1, scope := (fnAt 26).2.2, globals := 0, closure := [], defaults := Value.none, kwdefaults := Value.none } }
noncomputable def o_457 (P : Params) : Obj :=
  { cls := Value.type "code",
    data :=
      Data.fields
        #[Value.str (Str.ofString "_law_counts") 1806, Value.str (Str.ofString "_law_counts") 1807, Value.str (Str.ofString "/claim/cut.py") 1808, Value.int 91 0, Value.int 2 0, Value.int 0 0,
          Value.int 0 0, Value.int 3 0, Value.ref 83, Value.bool true, Value.int 181 0, Value.ref 84, Value.none, Value.none, Value.none, Value.ref 85, Value.int 1809 0, Value.int 91 0,
          Value.str (Str.ofString "/claim/cut.py") 1810] }
noncomputable def tree_57 (P : Params) : BT :=
  BT.node (o_42 P)
    (BT.node (o_43 P) (BT.node (o_45 P) (BT.node (o_49 P) BT.nil BT.nil) (BT.node (o_53 P) BT.nil BT.nil))
      (BT.node (o_47 P) (BT.node (o_51 P) BT.nil BT.nil) (BT.node (o_55 P) BT.nil BT.nil)))
    (BT.node (o_44 P) (BT.node (o_46 P) (BT.node (o_50 P) BT.nil BT.nil) (BT.node (o_54 P) BT.nil BT.nil))
      (BT.node (o_48 P) (BT.node (o_52 P) BT.nil BT.nil) (BT.node (o_56 P) BT.nil BT.nil)))
noncomputable def tree_59 (P : Params) : BT :=
  BT.node (o_42 P)
    (BT.node (o_43 P) (BT.node (o_59 P) (BT.node (o_49 P) BT.nil BT.nil) (BT.node (o_53 P) BT.nil BT.nil))
      (BT.node (o_47 P) (BT.node (o_51 P) BT.nil BT.nil) (BT.node (o_55 P) BT.nil BT.nil)))
    (BT.node (o_44 P) (BT.node (o_46 P) (BT.node (o_50 P) BT.nil BT.nil) (BT.node (o_54 P) BT.nil BT.nil))
      (BT.node (o_48 P) (BT.node (o_52 P) BT.nil BT.nil) (BT.node (o_56 P) BT.nil BT.nil)))
noncomputable def tree_67 (P : Params) : BT :=
  BT.node (o_42 P)
    (BT.node (o_43 P)
      (BT.node (o_61 P) (BT.node (o_49 P) (BT.node (o_62 P) BT.nil BT.nil) BT.nil)
        (BT.node (o_53 P) (BT.node (o_66 P) BT.nil BT.nil) BT.nil))
      (BT.node (o_47 P) (BT.node (o_51 P) (BT.node (o_64 P) BT.nil BT.nil) BT.nil) (BT.node (o_55 P) BT.nil BT.nil)))
    (BT.node (o_44 P)
      (BT.node (o_46 P) (BT.node (o_50 P) (BT.node (o_63 P) BT.nil BT.nil) BT.nil)
        (BT.node (o_54 P) (BT.node (o_67 P) BT.nil BT.nil) BT.nil))
      (BT.node (o_48 P) (BT.node (o_52 P) (BT.node (o_65 P) BT.nil BT.nil) BT.nil) (BT.node (o_56 P) BT.nil BT.nil)))
noncomputable def tree_364 (P : Params) : BT :=
  BT.node (o_42 P)
    (BT.node (o_43 P)
      (BT.node (o_360 P) (BT.node (o_49 P) (BT.node (o_62 P) BT.nil BT.nil) (BT.node (o_363 P) BT.nil BT.nil))
        (BT.node (o_53 P) (BT.node (o_66 P) BT.nil BT.nil) BT.nil))
      (BT.node (o_47 P) (BT.node (o_51 P) (BT.node (o_64 P) BT.nil BT.nil) BT.nil)
        (BT.node (o_55 P) (BT.node (o_361 P) BT.nil BT.nil) BT.nil)))
    (BT.node (o_44 P)
      (BT.node (o_46 P) (BT.node (o_50 P) (BT.node (o_63 P) BT.nil BT.nil) (BT.node (o_364 P) BT.nil BT.nil))
        (BT.node (o_54 P) (BT.node (o_67 P) BT.nil BT.nil) BT.nil))
      (BT.node (o_48 P) (BT.node (o_52 P) (BT.node (o_65 P) BT.nil BT.nil) BT.nil)
        (BT.node (o_56 P) (BT.node (o_362 P) BT.nil BT.nil) BT.nil)))
noncomputable def tree_369 (P : Params) : BT :=
  BT.node (o_42 P)
    (BT.node (o_43 P)
      (BT.node (o_365 P) (BT.node (o_49 P) (BT.node (o_62 P) BT.nil BT.nil) (BT.node (o_363 P) BT.nil BT.nil))
        (BT.node (o_53 P) (BT.node (o_66 P) BT.nil BT.nil) (BT.node (o_369 P) BT.nil BT.nil)))
      (BT.node (o_47 P) (BT.node (o_51 P) (BT.node (o_64 P) BT.nil BT.nil) (BT.node (o_367 P) BT.nil BT.nil))
        (BT.node (o_55 P) (BT.node (o_361 P) BT.nil BT.nil) BT.nil)))
    (BT.node (o_44 P)
      (BT.node (o_46 P) (BT.node (o_50 P) (BT.node (o_63 P) BT.nil BT.nil) (BT.node (o_364 P) BT.nil BT.nil))
        (BT.node (o_54 P) (BT.node (o_67 P) BT.nil BT.nil) BT.nil))
      (BT.node (o_48 P) (BT.node (o_52 P) (BT.node (o_65 P) BT.nil BT.nil) (BT.node (o_368 P) BT.nil BT.nil))
        (BT.node (o_56 P) (BT.node (o_366 P) BT.nil BT.nil) BT.nil)))
noncomputable def tree_378 (P : Params) : BT :=
  BT.node (o_42 P)
    (BT.node (o_43 P)
      (BT.node (o_365 P) (BT.node (o_49 P) (BT.node (o_62 P) BT.nil BT.nil) (BT.node (o_363 P) BT.nil BT.nil))
        (BT.node (o_53 P) (BT.node (o_66 P) BT.nil BT.nil) (BT.node (o_369 P) BT.nil BT.nil)))
      (BT.node (o_47 P) (BT.node (o_51 P) (BT.node (o_64 P) BT.nil BT.nil) (BT.node (o_367 P) BT.nil BT.nil))
        (BT.node (o_55 P) (BT.node (o_361 P) BT.nil BT.nil) BT.nil)))
    (BT.node (o_44 P)
      (BT.node (o_46 P) (BT.node (o_50 P) (BT.node (o_63 P) BT.nil BT.nil) (BT.node (o_364 P) BT.nil BT.nil))
        (BT.node (o_54 P) (BT.node (o_67 P) BT.nil BT.nil) BT.nil))
      (BT.node (o_48 P) (BT.node (o_52 P) (BT.node (o_65 P) BT.nil BT.nil) (BT.node (o_368 P) BT.nil BT.nil))
        (BT.node (o_56 P) (BT.node (o_378 P) BT.nil BT.nil) BT.nil)))
noncomputable def tree_384 (P : Params) : BT :=
  BT.node (o_42 P)
    (BT.node (o_43 P)
      (BT.node (o_380 P) (BT.node (o_49 P) (BT.node (o_62 P) BT.nil BT.nil) (BT.node (o_363 P) BT.nil BT.nil))
        (BT.node (o_53 P) (BT.node (o_66 P) BT.nil BT.nil) (BT.node (o_369 P) BT.nil BT.nil)))
      (BT.node (o_47 P) (BT.node (o_51 P) (BT.node (o_64 P) BT.nil BT.nil) (BT.node (o_367 P) BT.nil BT.nil))
        (BT.node (o_55 P) (BT.node (o_361 P) BT.nil BT.nil) (BT.node (o_383 P) BT.nil BT.nil))))
    (BT.node (o_44 P)
      (BT.node (o_46 P) (BT.node (o_50 P) (BT.node (o_63 P) BT.nil BT.nil) (BT.node (o_381 P) BT.nil BT.nil))
        (BT.node (o_54 P) (BT.node (o_67 P) BT.nil BT.nil) (BT.node (o_382 P) BT.nil BT.nil)))
      (BT.node (o_48 P) (BT.node (o_52 P) (BT.node (o_65 P) BT.nil BT.nil) (BT.node (o_368 P) BT.nil BT.nil))
        (BT.node (o_56 P) (BT.node (o_378 P) BT.nil BT.nil) (BT.node (o_384 P) BT.nil BT.nil))))
noncomputable def tree_449 (P : Params) : BT :=
  BT.node (o_42 P)
    (BT.node (o_43 P)
      (BT.node (o_396 P)
        (BT.node (o_49 P)
          (BT.node (o_62 P) (BT.node (o_398 P) (BT.node (o_430 P) BT.nil BT.nil) BT.nil)
            (BT.node (o_414 P) (BT.node (o_446 P) BT.nil BT.nil) BT.nil))
          (BT.node (o_363 P) (BT.node (o_406 P) (BT.node (o_438 P) BT.nil BT.nil) BT.nil) (BT.node (o_422 P) BT.nil BT.nil)))
        (BT.node (o_53 P) (BT.node (o_66 P) (BT.node (o_402 P) (BT.node (o_434 P) BT.nil BT.nil) BT.nil) (BT.node (o_418 P) BT.nil BT.nil))
          (BT.node (o_369 P) (BT.node (o_410 P) (BT.node (o_442 P) BT.nil BT.nil) BT.nil) (BT.node (o_426 P) BT.nil BT.nil))))
      (BT.node (o_47 P)
        (BT.node (o_51 P)
          (BT.node (o_64 P) (BT.node (o_400 P) (BT.node (o_432 P) BT.nil BT.nil) BT.nil)
            (BT.node (o_416 P) (BT.node (o_448 P) BT.nil BT.nil) BT.nil))
          (BT.node (o_367 P) (BT.node (o_408 P) (BT.node (o_440 P) BT.nil BT.nil) BT.nil) (BT.node (o_424 P) BT.nil BT.nil)))
        (BT.node (o_55 P) (BT.node (o_361 P) (BT.node (o_404 P) (BT.node (o_436 P) BT.nil BT.nil) BT.nil) (BT.node (o_420 P) BT.nil BT.nil))
          (BT.node (o_383 P) (BT.node (o_412 P) (BT.node (o_444 P) BT.nil BT.nil) BT.nil) (BT.node (o_428 P) BT.nil BT.nil)))))
    (BT.node (o_44 P)
      (BT.node (o_46 P)
        (BT.node (o_50 P)
          (BT.node (o_63 P) (BT.node (o_399 P) (BT.node (o_431 P) BT.nil BT.nil) BT.nil)
            (BT.node (o_415 P) (BT.node (o_447 P) BT.nil BT.nil) BT.nil))
          (BT.node (o_381 P) (BT.node (o_407 P) (BT.node (o_439 P) BT.nil BT.nil) BT.nil) (BT.node (o_423 P) BT.nil BT.nil)))
        (BT.node (o_397 P) (BT.node (o_67 P) (BT.node (o_403 P) (BT.node (o_435 P) BT.nil BT.nil) BT.nil) (BT.node (o_419 P) BT.nil BT.nil))
          (BT.node (o_382 P) (BT.node (o_411 P) (BT.node (o_443 P) BT.nil BT.nil) BT.nil) (BT.node (o_427 P) BT.nil BT.nil))))
      (BT.node (o_48 P)
        (BT.node (o_52 P)
          (BT.node (o_65 P) (BT.node (o_401 P) (BT.node (o_433 P) BT.nil BT.nil) BT.nil)
            (BT.node (o_417 P) (BT.node (o_449 P) BT.nil BT.nil) BT.nil))
          (BT.node (o_368 P) (BT.node (o_409 P) (BT.node (o_441 P) BT.nil BT.nil) BT.nil) (BT.node (o_425 P) BT.nil BT.nil)))
        (BT.node (o_56 P) (BT.node (o_378 P) (BT.node (o_405 P) (BT.node (o_437 P) BT.nil BT.nil) BT.nil) (BT.node (o_421 P) BT.nil BT.nil))
          (BT.node (o_384 P) (BT.node (o_413 P) (BT.node (o_445 P) BT.nil BT.nil) BT.nil) (BT.node (o_429 P) BT.nil BT.nil)))))
noncomputable def tree_463 (P : Params) : BT :=
  BT.node (o_42 P)
    (BT.node (o_43 P)
      (BT.node (o_452 P)
        (BT.node (o_49 P)
          (BT.node (o_62 P) (BT.node (o_398 P) (BT.node (o_430 P) BT.nil BT.nil) BT.nil)
            (BT.node (o_414 P) (BT.node (o_446 P) BT.nil BT.nil) BT.nil))
          (BT.node (o_363 P) (BT.node (o_406 P) (BT.node (o_438 P) BT.nil BT.nil) BT.nil)
            (BT.node (o_422 P) (BT.node (o_458 P) BT.nil BT.nil) BT.nil)))
        (BT.node (o_53 P)
          (BT.node (o_66 P) (BT.node (o_402 P) (BT.node (o_434 P) BT.nil BT.nil) BT.nil)
            (BT.node (o_418 P) (BT.node (o_454 P) BT.nil BT.nil) BT.nil))
          (BT.node (o_369 P) (BT.node (o_410 P) (BT.node (o_442 P) BT.nil BT.nil) BT.nil)
            (BT.node (o_426 P) (BT.node (o_462 P) BT.nil BT.nil) BT.nil))))
      (BT.node (o_47 P)
        (BT.node (o_51 P)
          (BT.node (o_64 P) (BT.node (o_400 P) (BT.node (o_432 P) BT.nil BT.nil) BT.nil)
            (BT.node (o_416 P) (BT.node (o_448 P) BT.nil BT.nil) BT.nil))
          (BT.node (o_367 P) (BT.node (o_408 P) (BT.node (o_440 P) BT.nil BT.nil) BT.nil)
            (BT.node (o_424 P) (BT.node (o_460 P) BT.nil BT.nil) BT.nil)))
        (BT.node (o_55 P)
          (BT.node (o_361 P) (BT.node (o_404 P) (BT.node (o_436 P) BT.nil BT.nil) BT.nil)
            (BT.node (o_420 P) (BT.node (o_456 P) BT.nil BT.nil) BT.nil))
          (BT.node (o_383 P) (BT.node (o_412 P) (BT.node (o_444 P) BT.nil BT.nil) BT.nil) (BT.node (o_428 P) BT.nil BT.nil)))))
    (BT.node (o_44 P)
      (BT.node (o_46 P)
        (BT.node (o_50 P)
          (BT.node (o_63 P) (BT.node (o_399 P) (BT.node (o_431 P) BT.nil BT.nil) BT.nil)
            (BT.node (o_415 P) (BT.node (o_447 P) BT.nil BT.nil) BT.nil))
          (BT.node (o_381 P) (BT.node (o_407 P) (BT.node (o_439 P) BT.nil BT.nil) BT.nil)
            (BT.node (o_423 P) (BT.node (o_459 P) BT.nil BT.nil) BT.nil)))
        (BT.node (o_453 P)
          (BT.node (o_67 P) (BT.node (o_403 P) (BT.node (o_435 P) BT.nil BT.nil) BT.nil)
            (BT.node (o_419 P) (BT.node (o_455 P) BT.nil BT.nil) BT.nil))
          (BT.node (o_382 P) (BT.node (o_411 P) (BT.node (o_443 P) BT.nil BT.nil) BT.nil)
            (BT.node (o_427 P) (BT.node (o_463 P) BT.nil BT.nil) BT.nil))))
      (BT.node (o_48 P)
        (BT.node (o_52 P)
          (BT.node (o_65 P) (BT.node (o_401 P) (BT.node (o_433 P) BT.nil BT.nil) BT.nil)
            (BT.node (o_417 P) (BT.node (o_449 P) BT.nil BT.nil) BT.nil))
          (BT.node (o_368 P) (BT.node (o_409 P) (BT.node (o_441 P) BT.nil BT.nil) BT.nil)
            (BT.node (o_425 P) (BT.node (o_461 P) BT.nil BT.nil) BT.nil)))
        (BT.node (o_56 P)
          (BT.node (o_378 P) (BT.node (o_405 P) (BT.node (o_437 P) BT.nil BT.nil) BT.nil)
            (BT.node (o_421 P) (BT.node (o_457 P) BT.nil BT.nil) BT.nil))
          (BT.node (o_384 P) (BT.node (o_413 P) (BT.node (o_445 P) BT.nil BT.nil) BT.nil) (BT.node (o_429 P) BT.nil BT.nil)))))
noncomputable def heap_52 (P : Params) : Heap := { objs := { toList := [o_42 P, o_43 P, o_44 P, o_45 P, o_46 P, o_47 P, o_48 P, o_49 P, o_50 P, o_51 P, o_52 P] } }
noncomputable def heap_56 (P : Params) : Heap := { objs := { toList := [o_42 P, o_43 P, o_44 P, o_45 P, o_46 P, o_47 P, o_48 P, o_49 P, o_50 P, o_51 P, o_52 P, o_53 P, o_54 P, o_55 P, o_56 P] } }
noncomputable def heap_464 (P : Params) : Heap := { objs := { toList := [o_42 P, o_43 P, o_44 P, o_452 P, o_46 P, o_47 P, o_48 P, o_49 P, o_50 P, o_51 P, o_52 P, o_53 P, o_453 P, o_55 P, o_56 P, o_62 P, o_63 P, o_64 P, o_65 P, o_66 P, o_67 P, o_361 P, o_378 P, o_363 P, o_381 P, o_367 P, o_368 P, o_369 P, o_382 P, o_383 P, o_384 P, o_398 P, o_399 P, o_400 P, o_401 P, o_402 P, o_403 P, o_404 P, o_405 P, o_406 P, o_407 P, o_408 P, o_409 P, o_410 P, o_411 P, o_412 P, o_413 P, o_414 P, o_415 P, o_416 P, o_417 P, o_418 P, o_419 P, o_420 P, o_421 P, o_422 P, o_423 P, o_424 P, o_425 P, o_426 P, o_427 P, o_428 P, o_429 P, o_430 P, o_431 P, o_432 P, o_433 P, o_434 P, o_435 P, o_436 P, o_437 P, o_438 P, o_439 P, o_440 P, o_441 P, o_442 P, o_443 P, o_444 P, o_445 P, o_446 P, o_447 P, o_448 P, o_449 P, o_454 P, o_455 P, o_456 P, o_457 P, o_458 P, o_459 P, o_460 P, o_461 P, o_462 P, o_463 P] } }
noncomputable def kf (P : Params) : Frag := [(2, o_44 P), (3, o_452 P), (6, o_48 P), (17, o_64 P), (22, o_378 P), (24, o_381 P), (31, o_398 P), (33, o_400 P), (34, o_401 P), (36, o_403 P), (37, o_404 P), (38, o_405 P), (39, o_406 P), (41, o_408 P), (42, o_409 P), (44, o_411 P), (45, o_412 P), (47, o_414 P), (51, o_418 P), (52, o_419 P), (54, o_421 P), (55, o_422 P), (57, o_424 P), (58, o_425 P), (59, o_426 P), (61, o_428 P), (62, o_429 P), (64, o_431 P), (65, o_432 P), (66, o_433 P), (68, o_435 P), (69, o_436 P), (71, o_438 P), (72, o_439 P), (73, o_440 P), (76, o_443 P), (77, o_444 P), (78, o_445 P), (81, o_448 P), (82, o_449 P), (83, o_454 P), (86, o_457 P), (87, o_458 P), (88, o_459 P), (91, o_462 P), (92, o_463 P)]
abbrev ks : List Addr := [2, 3, 6, 17, 22, 24, 31, 33, 34, 36, 37, 38, 39, 41, 42, 44, 45, 47, 51, 52, 54, 55, 57, 58, 59, 61, 62, 64, 65, 66, 68, 69, 71, 72, 73, 76, 77, 78, 81, 82, 83, 86, 87, 88, 91, 92]
section
variable {tb : String → Option Builtin} {p : Program} {w : World} {n₀ : Nat} {ann : Option Value} {b : Nat}
theorem seg_more : ∀ {n m : Nat} {s : SharedT} {t : Thread} {r : Flow × SharedT × Code × Pos}, segRunT tb p w n₀ ann b n s t = some r → segRunT tb p w n₀ ann b (n + m) s t = some r
  | 0, _, _, _, _, h => by cases h
  | n + 1, m, s, t, r, h => by
    rw [show n + 1 + m = (n + m) + 1 by omega]
    unfold segRunT at h ⊢
    cases he : endAt b t with
    | some x => rw [he] at h; exact h
    | none =>
      rw [he] at h
      cases hk : stepOk n₀ ann t with
      | false => rw [hk] at h; cases h
      | true =>
        rw [hk] at h
        cases hs : stepT (denote tb) p w s t with
        | none => rw [hs] at h; cases h
        | some q => obtain ⟨s₂, t₂⟩ := q; rw [hs] at h; exact seg_more h
theorem seg_cat : ∀ {a n : Nat} {s s' : SharedT} {t t' : Thread} {r : Flow × SharedT × Code × Pos}, segGoT tb p w n₀ ann b a s t = some (s', t') → segRunT tb p w n₀ ann b n s' t' = some r → segRunT tb p w n₀ ann b (a + n) s t = some r
  | 0, n, _, _, _, _, _, h, k => by cases h; rwa [Nat.zero_add]
  | a + 1, n, s, s', t, t', r, h, k => by
    rw [show a + 1 + n = (a + n) + 1 by omega]
    unfold segGoT at h
    unfold segRunT
    cases he : endAt b t with
    | some x => rw [he] at h; cases h
    | none =>
      rw [he] at h
      cases hk : stepOk n₀ ann t with
      | false => rw [hk] at h; cases h
      | true =>
        rw [hk] at h
        cases hs : stepT (denote tb) p w s t with
        | none => rw [hs] at h; cases h
        | some q => obtain ⟨s₂, t₂⟩ := q; rw [hs] at h; exact seg_cat h k
end
theorem seg_cat_ {tb : String → Option Builtin} {p : Program} {w : World} {n₀ : Nat} {ann : Option Value} {b a n N : Nat} {s s' : SharedT} {t t' : Thread} {r : Flow × SharedT × Code × Pos} (h : segGoT tb p w n₀ ann b a s t = some (s', t')) (k : segRunT tb p w n₀ ann b n s' t' = some r) (e : a + n = N) : segRunT tb p w n₀ ann b N s t = some r := e ▸ seg_cat h k
theorem seg_more_ {tb : String → Option Builtin} {p : Program} {w : World} {n₀ : Nat} {ann : Option Value} {b m n N : Nat} {s : SharedT} {t : Thread} {r : Flow × SharedT × Code × Pos} (h : segRunT tb p w n₀ ann b n s t = some r) (e : n + m = N) : segRunT tb p w n₀ ann b N s t = some r := e ▸ seg_more h
abbrev wr1 (w : World) (b : Bool) : World := w.withFollow "special-get-raises" b
abbrev wr2 (w : World) (b c : Bool) : World := (w.withFollow "special-get-raises" b).withFollow "comprehension-iter-twice" c
noncomputable abbrev GOT (w : World) (n : Nat) (s : SharedT) (t : Thread) : Option (SharedT × Thread) := PySem.W.Fast.tw10295753902157049106 PySem.W.Fast.tw14364793385576792824 PR w 11 (some (Value.ref 6)) 1 n s t
def G0 (w : World) : Prop := (fun os => segRunT treeTable PR w 11 (some (Value.ref 6)) 1 19 (st (tree_57 w.params) 15 187 os) (piecesOf (cut 0 2) EV CE { line := 0, col := 0, endLine := 0, endCol := 0 } BB)) = fun os => some (Flow.next, st (tree_59 w.params) 15 191 os, CE, { line := 2, col := 0, endLine := 2, endCol := 2 })
theorem g0 (w : World) : G0 w := by
  unfold G0
  rw [PySem.W.Fast.te10110043849684766642, PySem.W.Fast.te14364793385576792824]
  kernel_rfl
def G1 (w : World) : Prop := (fun os => segRunT treeTable PR w 11 (some (Value.ref 6)) 1 9552 (st (tree_59 w.params) 15 191 os) (piecesOf (cut 2 1) EV CE { line := 2, col := 0, endLine := 2, endCol := 2 } BB)) = fun os => some (Flow.next, st (tree_67 w.params) 21 1219 os, CE, { line := 3, col := 0, endLine := 3, endCol := 11 })
noncomputable def x2_0_15 (P : Params) : Obj :=
  { cls := Value.type "range", data := Data.fields #[Value.int 0 192, Value.int 256 191, Value.int 1 193] }
noncomputable def x2_0_16 (P : Params) : Obj :=
  { cls := Value.type "range_iterator", data := Data.fields #[Value.int 1 0, Value.int 255 0, Value.int 1 0] }
noncomputable def x2_0_17 (P : Params) : Obj :=
  { cls := Value.type "list", data := Data.seq #[Value.str (Str.ofString "=00") 197] 1 }
noncomputable def x2_0_18 (P : Params) : Obj :=
  { cls := Value.type "dict", data := Data.dict #[{ hash := PyData.keyHash P (Str.ofString "c"), key := Value.str (Str.ofString "c") 195, val := Value.int 0 194 }] 1 }
noncomputable def tr2_0 (P : Params) : BT := BT.node (o_42 P) (BT.node (o_43 P) (BT.node (o_59 P) (BT.node (o_49 P) (BT.node (x2_0_15 P) BT.nil BT.nil) BT.nil) (BT.node (o_53 P) BT.nil BT.nil)) (BT.node (o_47 P) (BT.node (o_51 P) (BT.node (x2_0_17 P) BT.nil BT.nil) BT.nil) (BT.node (o_55 P) BT.nil BT.nil))) (BT.node (o_44 P) (BT.node (o_46 P) (BT.node (o_50 P) (BT.node (x2_0_16 P) BT.nil BT.nil) BT.nil) (BT.node (o_54 P) BT.nil BT.nil)) (BT.node (o_48 P) (BT.node (o_52 P) (BT.node (x2_0_18 P) BT.nil BT.nil) BT.nil) (BT.node (o_56 P) BT.nil BT.nil)))
noncomputable def S2_0 (w : World) (os : OsState) : SharedT := st (tr2_0 w.params) 19 198 os
noncomputable def x2_1_15 (P : Params) : Obj :=
  { cls := Value.type "range", data := Data.fields #[Value.int 0 192, Value.int 256 191, Value.int 1 193] }
noncomputable def x2_1_16 (P : Params) : Obj :=
  { cls := Value.type "range_iterator", data := Data.fields #[Value.int 65 0, Value.int 191 0, Value.int 1 0] }
noncomputable def x2_1_17 (P : Params) : Obj :=
  { cls := Value.type "list",
    data :=
      Data.seq
        #[Value.str (Str.ofString "=00") 197, Value.str (Str.ofString "=01") 201, Value.str (Str.ofString "=02") 205, Value.str (Str.ofString "=03") 209, Value.str (Str.ofString "=04") 213,
          Value.str (Str.ofString "=05") 217, Value.str (Str.ofString "=06") 221, Value.str (Str.ofString "=07") 225, Value.str (Str.ofString "=08") 229, Value.str (Str.ofString "=09") 233,
          Value.str (Str.ofString "=0A") 237, Value.str (Str.ofString "=0B") 241, Value.str (Str.ofString "=0C") 245, Value.str (Str.ofString "=0D") 249, Value.str (Str.ofString "=0E") 253,
          Value.str (Str.ofString "=0F") 257, Value.str (Str.ofString "=10") 261, Value.str (Str.ofString "=11") 265, Value.str (Str.ofString "=12") 269, Value.str (Str.ofString "=13") 273,
          Value.str (Str.ofString "=14") 277, Value.str (Str.ofString "=15") 281, Value.str (Str.ofString "=16") 285, Value.str (Str.ofString "=17") 289, Value.str (Str.ofString "=18") 293,
          Value.str (Str.ofString "=19") 297, Value.str (Str.ofString "=1A") 301, Value.str (Str.ofString "=1B") 305, Value.str (Str.ofString "=1C") 309, Value.str (Str.ofString "=1D") 313,
          Value.str (Str.ofString "=1E") 317, Value.str (Str.ofString "=1F") 321, Value.str (Str.ofString "=20") 325, Value.str (Str.ofString "=21") 329, Value.str (Str.ofString "=22") 333,
          Value.str (Str.ofString "=23") 337, Value.str (Str.ofString "=24") 341, Value.str (Str.ofString "=25") 345, Value.str (Str.ofString "=26") 349, Value.str (Str.ofString "=27") 353,
          Value.str (Str.ofString "=28") 357, Value.str (Str.ofString "=29") 361, Value.str (Str.ofString "=2A") 365, Value.str (Str.ofString "=2B") 369, Value.str (Str.ofString "=2C") 373,
          Value.str (Str.ofString "=2D") 377, Value.str (Str.ofString "=2E") 381, Value.str (Str.ofString "=2F") 385, Value.str (Str.ofString "=30") 389, Value.str (Str.ofString "=31") 393,
          Value.str (Str.ofString "=32") 397, Value.str (Str.ofString "=33") 401, Value.str (Str.ofString "=34") 405, Value.str (Str.ofString "=35") 409, Value.str (Str.ofString "=36") 413,
          Value.str (Str.ofString "=37") 417, Value.str (Str.ofString "=38") 421, Value.str (Str.ofString "=39") 425, Value.str (Str.ofString "=3A") 429, Value.str (Str.ofString "=3B") 433,
          Value.str (Str.ofString "=3C") 437, Value.str (Str.ofString "=3D") 441, Value.str (Str.ofString "=3E") 445, Value.str (Str.ofString "=3F") 449, Value.str (Str.ofString "=40") 453]
        65 }
noncomputable def x2_1_18 (P : Params) : Obj :=
  { cls := Value.type "dict", data := Data.dict #[{ hash := PyData.keyHash P (Str.ofString "c"), key := Value.str (Str.ofString "c") 195, val := Value.int 64 450 }] 1 }
noncomputable def tr2_1 (P : Params) : BT := BT.node (o_42 P) (BT.node (o_43 P) (BT.node (o_59 P) (BT.node (o_49 P) (BT.node (x2_1_15 P) BT.nil BT.nil) BT.nil) (BT.node (o_53 P) BT.nil BT.nil)) (BT.node (o_47 P) (BT.node (o_51 P) (BT.node (x2_1_17 P) BT.nil BT.nil) BT.nil) (BT.node (o_55 P) BT.nil BT.nil))) (BT.node (o_44 P) (BT.node (o_46 P) (BT.node (o_50 P) (BT.node (x2_1_16 P) BT.nil BT.nil) BT.nil) (BT.node (o_54 P) BT.nil BT.nil)) (BT.node (o_48 P) (BT.node (o_52 P) (BT.node (x2_1_18 P) BT.nil BT.nil) BT.nil) (BT.node (o_56 P) BT.nil BT.nil)))
noncomputable def S2_1 (w : World) (os : OsState) : SharedT := st (tr2_1 w.params) 19 454 os
noncomputable def x2_2_15 (P : Params) : Obj :=
  { cls := Value.type "range", data := Data.fields #[Value.int 0 192, Value.int 256 191, Value.int 1 193] }
noncomputable def x2_2_16 (P : Params) : Obj :=
  { cls := Value.type "range_iterator", data := Data.fields #[Value.int 129 0, Value.int 127 0, Value.int 1 0] }
noncomputable def x2_2_17 (P : Params) : Obj :=
  { cls := Value.type "list",
    data :=
      Data.seq
        #[Value.str (Str.ofString "=00") 197, Value.str (Str.ofString "=01") 201, Value.str (Str.ofString "=02") 205, Value.str (Str.ofString "=03") 209, Value.str (Str.ofString "=04") 213,
          Value.str (Str.ofString "=05") 217, Value.str (Str.ofString "=06") 221, Value.str (Str.ofString "=07") 225, Value.str (Str.ofString "=08") 229, Value.str (Str.ofString "=09") 233,
          Value.str (Str.ofString "=0A") 237, Value.str (Str.ofString "=0B") 241, Value.str (Str.ofString "=0C") 245, Value.str (Str.ofString "=0D") 249, Value.str (Str.ofString "=0E") 253,
          Value.str (Str.ofString "=0F") 257, Value.str (Str.ofString "=10") 261, Value.str (Str.ofString "=11") 265, Value.str (Str.ofString "=12") 269, Value.str (Str.ofString "=13") 273,
          Value.str (Str.ofString "=14") 277, Value.str (Str.ofString "=15") 281, Value.str (Str.ofString "=16") 285, Value.str (Str.ofString "=17") 289, Value.str (Str.ofString "=18") 293,
          Value.str (Str.ofString "=19") 297, Value.str (Str.ofString "=1A") 301, Value.str (Str.ofString "=1B") 305, Value.str (Str.ofString "=1C") 309, Value.str (Str.ofString "=1D") 313,
          Value.str (Str.ofString "=1E") 317, Value.str (Str.ofString "=1F") 321, Value.str (Str.ofString "=20") 325, Value.str (Str.ofString "=21") 329, Value.str (Str.ofString "=22") 333,
          Value.str (Str.ofString "=23") 337, Value.str (Str.ofString "=24") 341, Value.str (Str.ofString "=25") 345, Value.str (Str.ofString "=26") 349, Value.str (Str.ofString "=27") 353,
          Value.str (Str.ofString "=28") 357, Value.str (Str.ofString "=29") 361, Value.str (Str.ofString "=2A") 365, Value.str (Str.ofString "=2B") 369, Value.str (Str.ofString "=2C") 373,
          Value.str (Str.ofString "=2D") 377, Value.str (Str.ofString "=2E") 381, Value.str (Str.ofString "=2F") 385, Value.str (Str.ofString "=30") 389, Value.str (Str.ofString "=31") 393,
          Value.str (Str.ofString "=32") 397, Value.str (Str.ofString "=33") 401, Value.str (Str.ofString "=34") 405, Value.str (Str.ofString "=35") 409, Value.str (Str.ofString "=36") 413,
          Value.str (Str.ofString "=37") 417, Value.str (Str.ofString "=38") 421, Value.str (Str.ofString "=39") 425, Value.str (Str.ofString "=3A") 429, Value.str (Str.ofString "=3B") 433,
          Value.str (Str.ofString "=3C") 437, Value.str (Str.ofString "=3D") 441, Value.str (Str.ofString "=3E") 445, Value.str (Str.ofString "=3F") 449, Value.str (Str.ofString "=40") 453,
          Value.str (Str.ofString "=41") 457, Value.str (Str.ofString "=42") 461, Value.str (Str.ofString "=43") 465, Value.str (Str.ofString "=44") 469, Value.str (Str.ofString "=45") 473,
          Value.str (Str.ofString "=46") 477, Value.str (Str.ofString "=47") 481, Value.str (Str.ofString "=48") 485, Value.str (Str.ofString "=49") 489, Value.str (Str.ofString "=4A") 493,
          Value.str (Str.ofString "=4B") 497, Value.str (Str.ofString "=4C") 501, Value.str (Str.ofString "=4D") 505, Value.str (Str.ofString "=4E") 509, Value.str (Str.ofString "=4F") 513,
          Value.str (Str.ofString "=50") 517, Value.str (Str.ofString "=51") 521, Value.str (Str.ofString "=52") 525, Value.str (Str.ofString "=53") 529, Value.str (Str.ofString "=54") 533,
          Value.str (Str.ofString "=55") 537, Value.str (Str.ofString "=56") 541, Value.str (Str.ofString "=57") 545, Value.str (Str.ofString "=58") 549, Value.str (Str.ofString "=59") 553,
          Value.str (Str.ofString "=5A") 557, Value.str (Str.ofString "=5B") 561, Value.str (Str.ofString "=5C") 565, Value.str (Str.ofString "=5D") 569, Value.str (Str.ofString "=5E") 573,
          Value.str (Str.ofString "=5F") 577, Value.str (Str.ofString "=60") 581, Value.str (Str.ofString "=61") 585, Value.str (Str.ofString "=62") 589, Value.str (Str.ofString "=63") 593,
          Value.str (Str.ofString "=64") 597, Value.str (Str.ofString "=65") 601, Value.str (Str.ofString "=66") 605, Value.str (Str.ofString "=67") 609, Value.str (Str.ofString "=68") 613,
          Value.str (Str.ofString "=69") 617, Value.str (Str.ofString "=6A") 621, Value.str (Str.ofString "=6B") 625, Value.str (Str.ofString "=6C") 629, Value.str (Str.ofString "=6D") 633,
          Value.str (Str.ofString "=6E") 637, Value.str (Str.ofString "=6F") 641, Value.str (Str.ofString "=70") 645, Value.str (Str.ofString "=71") 649, Value.str (Str.ofString "=72") 653,
          Value.str (Str.ofString "=73") 657, Value.str (Str.ofString "=74") 661, Value.str (Str.ofString "=75") 665, Value.str (Str.ofString "=76") 669, Value.str (Str.ofString "=77") 673,
          Value.str (Str.ofString "=78") 677, Value.str (Str.ofString "=79") 681, Value.str (Str.ofString "=7A") 685, Value.str (Str.ofString "=7B") 689, Value.str (Str.ofString "=7C") 693,
          Value.str (Str.ofString "=7D") 697, Value.str (Str.ofString "=7E") 701, Value.str (Str.ofString "=7F") 705, Value.str (Str.ofString "=80") 709]
        129 }
noncomputable def x2_2_18 (P : Params) : Obj :=
  { cls := Value.type "dict", data := Data.dict #[{ hash := PyData.keyHash P (Str.ofString "c"), key := Value.str (Str.ofString "c") 195, val := Value.int 128 706 }] 1 }
noncomputable def tr2_2 (P : Params) : BT := BT.node (o_42 P) (BT.node (o_43 P) (BT.node (o_59 P) (BT.node (o_49 P) (BT.node (x2_2_15 P) BT.nil BT.nil) BT.nil) (BT.node (o_53 P) BT.nil BT.nil)) (BT.node (o_47 P) (BT.node (o_51 P) (BT.node (x2_2_17 P) BT.nil BT.nil) BT.nil) (BT.node (o_55 P) BT.nil BT.nil))) (BT.node (o_44 P) (BT.node (o_46 P) (BT.node (o_50 P) (BT.node (x2_2_16 P) BT.nil BT.nil) BT.nil) (BT.node (o_54 P) BT.nil BT.nil)) (BT.node (o_48 P) (BT.node (o_52 P) (BT.node (x2_2_18 P) BT.nil BT.nil) BT.nil) (BT.node (o_56 P) BT.nil BT.nil)))
noncomputable def S2_2 (w : World) (os : OsState) : SharedT := st (tr2_2 w.params) 19 710 os
noncomputable def x2_3_15 (P : Params) : Obj :=
  { cls := Value.type "range", data := Data.fields #[Value.int 0 192, Value.int 256 191, Value.int 1 193] }
noncomputable def x2_3_16 (P : Params) : Obj :=
  { cls := Value.type "range_iterator", data := Data.fields #[Value.int 193 0, Value.int 63 0, Value.int 1 0] }
noncomputable def x2_3_17 (P : Params) : Obj :=
  { cls := Value.type "list",
    data :=
      Data.seq
        #[Value.str (Str.ofString "=00") 197, Value.str (Str.ofString "=01") 201, Value.str (Str.ofString "=02") 205, Value.str (Str.ofString "=03") 209, Value.str (Str.ofString "=04") 213,
          Value.str (Str.ofString "=05") 217, Value.str (Str.ofString "=06") 221, Value.str (Str.ofString "=07") 225, Value.str (Str.ofString "=08") 229, Value.str (Str.ofString "=09") 233,
          Value.str (Str.ofString "=0A") 237, Value.str (Str.ofString "=0B") 241, Value.str (Str.ofString "=0C") 245, Value.str (Str.ofString "=0D") 249, Value.str (Str.ofString "=0E") 253,
          Value.str (Str.ofString "=0F") 257, Value.str (Str.ofString "=10") 261, Value.str (Str.ofString "=11") 265, Value.str (Str.ofString "=12") 269, Value.str (Str.ofString "=13") 273,
          Value.str (Str.ofString "=14") 277, Value.str (Str.ofString "=15") 281, Value.str (Str.ofString "=16") 285, Value.str (Str.ofString "=17") 289, Value.str (Str.ofString "=18") 293,
          Value.str (Str.ofString "=19") 297, Value.str (Str.ofString "=1A") 301, Value.str (Str.ofString "=1B") 305, Value.str (Str.ofString "=1C") 309, Value.str (Str.ofString "=1D") 313,
          Value.str (Str.ofString "=1E") 317, Value.str (Str.ofString "=1F") 321, Value.str (Str.ofString "=20") 325, Value.str (Str.ofString "=21") 329, Value.str (Str.ofString "=22") 333,
          Value.str (Str.ofString "=23") 337, Value.str (Str.ofString "=24") 341, Value.str (Str.ofString "=25") 345, Value.str (Str.ofString "=26") 349, Value.str (Str.ofString "=27") 353,
          Value.str (Str.ofString "=28") 357, Value.str (Str.ofString "=29") 361, Value.str (Str.ofString "=2A") 365, Value.str (Str.ofString "=2B") 369, Value.str (Str.ofString "=2C") 373,
          Value.str (Str.ofString "=2D") 377, Value.str (Str.ofString "=2E") 381, Value.str (Str.ofString "=2F") 385, Value.str (Str.ofString "=30") 389, Value.str (Str.ofString "=31") 393,
          Value.str (Str.ofString "=32") 397, Value.str (Str.ofString "=33") 401, Value.str (Str.ofString "=34") 405, Value.str (Str.ofString "=35") 409, Value.str (Str.ofString "=36") 413,
          Value.str (Str.ofString "=37") 417, Value.str (Str.ofString "=38") 421, Value.str (Str.ofString "=39") 425, Value.str (Str.ofString "=3A") 429, Value.str (Str.ofString "=3B") 433,
          Value.str (Str.ofString "=3C") 437, Value.str (Str.ofString "=3D") 441, Value.str (Str.ofString "=3E") 445, Value.str (Str.ofString "=3F") 449, Value.str (Str.ofString "=40") 453,
          Value.str (Str.ofString "=41") 457, Value.str (Str.ofString "=42") 461, Value.str (Str.ofString "=43") 465, Value.str (Str.ofString "=44") 469, Value.str (Str.ofString "=45") 473,
          Value.str (Str.ofString "=46") 477, Value.str (Str.ofString "=47") 481, Value.str (Str.ofString "=48") 485, Value.str (Str.ofString "=49") 489, Value.str (Str.ofString "=4A") 493,
          Value.str (Str.ofString "=4B") 497, Value.str (Str.ofString "=4C") 501, Value.str (Str.ofString "=4D") 505, Value.str (Str.ofString "=4E") 509, Value.str (Str.ofString "=4F") 513,
          Value.str (Str.ofString "=50") 517, Value.str (Str.ofString "=51") 521, Value.str (Str.ofString "=52") 525, Value.str (Str.ofString "=53") 529, Value.str (Str.ofString "=54") 533,
          Value.str (Str.ofString "=55") 537, Value.str (Str.ofString "=56") 541, Value.str (Str.ofString "=57") 545, Value.str (Str.ofString "=58") 549, Value.str (Str.ofString "=59") 553,
          Value.str (Str.ofString "=5A") 557, Value.str (Str.ofString "=5B") 561, Value.str (Str.ofString "=5C") 565, Value.str (Str.ofString "=5D") 569, Value.str (Str.ofString "=5E") 573,
          Value.str (Str.ofString "=5F") 577, Value.str (Str.ofString "=60") 581, Value.str (Str.ofString "=61") 585, Value.str (Str.ofString "=62") 589, Value.str (Str.ofString "=63") 593,
          Value.str (Str.ofString "=64") 597, Value.str (Str.ofString "=65") 601, Value.str (Str.ofString "=66") 605, Value.str (Str.ofString "=67") 609, Value.str (Str.ofString "=68") 613,
          Value.str (Str.ofString "=69") 617, Value.str (Str.ofString "=6A") 621, Value.str (Str.ofString "=6B") 625, Value.str (Str.ofString "=6C") 629, Value.str (Str.ofString "=6D") 633,
          Value.str (Str.ofString "=6E") 637, Value.str (Str.ofString "=6F") 641, Value.str (Str.ofString "=70") 645, Value.str (Str.ofString "=71") 649, Value.str (Str.ofString "=72") 653,
          Value.str (Str.ofString "=73") 657, Value.str (Str.ofString "=74") 661, Value.str (Str.ofString "=75") 665, Value.str (Str.ofString "=76") 669, Value.str (Str.ofString "=77") 673,
          Value.str (Str.ofString "=78") 677, Value.str (Str.ofString "=79") 681, Value.str (Str.ofString "=7A") 685, Value.str (Str.ofString "=7B") 689, Value.str (Str.ofString "=7C") 693,
          Value.str (Str.ofString "=7D") 697, Value.str (Str.ofString "=7E") 701, Value.str (Str.ofString "=7F") 705, Value.str (Str.ofString "=80") 709, Value.str (Str.ofString "=81") 713,
          Value.str (Str.ofString "=82") 717, Value.str (Str.ofString "=83") 721, Value.str (Str.ofString "=84") 725, Value.str (Str.ofString "=85") 729, Value.str (Str.ofString "=86") 733,
          Value.str (Str.ofString "=87") 737, Value.str (Str.ofString "=88") 741, Value.str (Str.ofString "=89") 745, Value.str (Str.ofString "=8A") 749, Value.str (Str.ofString "=8B") 753,
          Value.str (Str.ofString "=8C") 757, Value.str (Str.ofString "=8D") 761, Value.str (Str.ofString "=8E") 765, Value.str (Str.ofString "=8F") 769, Value.str (Str.ofString "=90") 773,
          Value.str (Str.ofString "=91") 777, Value.str (Str.ofString "=92") 781, Value.str (Str.ofString "=93") 785, Value.str (Str.ofString "=94") 789, Value.str (Str.ofString "=95") 793,
          Value.str (Str.ofString "=96") 797, Value.str (Str.ofString "=97") 801, Value.str (Str.ofString "=98") 805, Value.str (Str.ofString "=99") 809, Value.str (Str.ofString "=9A") 813,
          Value.str (Str.ofString "=9B") 817, Value.str (Str.ofString "=9C") 821, Value.str (Str.ofString "=9D") 825, Value.str (Str.ofString "=9E") 829, Value.str (Str.ofString "=9F") 833,
          Value.str (Str.ofString "=A0") 837, Value.str (Str.ofString "=A1") 841, Value.str (Str.ofString "=A2") 845, Value.str (Str.ofString "=A3") 849, Value.str (Str.ofString "=A4") 853,
          Value.str (Str.ofString "=A5") 857, Value.str (Str.ofString "=A6") 861, Value.str (Str.ofString "=A7") 865, Value.str (Str.ofString "=A8") 869, Value.str (Str.ofString "=A9") 873,
          Value.str (Str.ofString "=AA") 877, Value.str (Str.ofString "=AB") 881, Value.str (Str.ofString "=AC") 885, Value.str (Str.ofString "=AD") 889, Value.str (Str.ofString "=AE") 893,
          Value.str (Str.ofString "=AF") 897, Value.str (Str.ofString "=B0") 901, Value.str (Str.ofString "=B1") 905, Value.str (Str.ofString "=B2") 909, Value.str (Str.ofString "=B3") 913,
          Value.str (Str.ofString "=B4") 917, Value.str (Str.ofString "=B5") 921, Value.str (Str.ofString "=B6") 925, Value.str (Str.ofString "=B7") 929, Value.str (Str.ofString "=B8") 933,
          Value.str (Str.ofString "=B9") 937, Value.str (Str.ofString "=BA") 941, Value.str (Str.ofString "=BB") 945, Value.str (Str.ofString "=BC") 949, Value.str (Str.ofString "=BD") 953,
          Value.str (Str.ofString "=BE") 957, Value.str (Str.ofString "=BF") 961, Value.str (Str.ofString "=C0") 965]
        193 }
noncomputable def x2_3_18 (P : Params) : Obj :=
  { cls := Value.type "dict", data := Data.dict #[{ hash := PyData.keyHash P (Str.ofString "c"), key := Value.str (Str.ofString "c") 195, val := Value.int 192 962 }] 1 }
noncomputable def tr2_3 (P : Params) : BT := BT.node (o_42 P) (BT.node (o_43 P) (BT.node (o_59 P) (BT.node (o_49 P) (BT.node (x2_3_15 P) BT.nil BT.nil) BT.nil) (BT.node (o_53 P) BT.nil BT.nil)) (BT.node (o_47 P) (BT.node (o_51 P) (BT.node (x2_3_17 P) BT.nil BT.nil) BT.nil) (BT.node (o_55 P) BT.nil BT.nil))) (BT.node (o_44 P) (BT.node (o_46 P) (BT.node (o_50 P) (BT.node (x2_3_16 P) BT.nil BT.nil) BT.nil) (BT.node (o_54 P) BT.nil BT.nil)) (BT.node (o_48 P) (BT.node (o_52 P) (BT.node (x2_3_18 P) BT.nil BT.nil) BT.nil) (BT.node (o_56 P) BT.nil BT.nil)))
noncomputable def S2_3 (w : World) (os : OsState) : SharedT := st (tr2_3 w.params) 19 966 os
noncomputable def T2 (w : World) (os : OsState) : Thread := match GOT (wr2 w false false) 89 (st (tree_59 w.params) 15 191 os) (piecesOf (cut 2 1) EV CE { line := 2, col := 0, endLine := 2, endCol := 2 } BB) with | some (_, t) => t | none => piecesOf [] EV CE { line := 2, col := 0, endLine := 2, endCol := 2 } BB
theorem g1a_ff (w : World) : (fun os => segGoT treeTable PR (wr2 w false false) 11 (some (Value.ref 6)) 1 89 (st (tree_59 (wr2 w false false).params) 15 191 os) (piecesOf (cut 2 1) EV CE { line := 2, col := 0, endLine := 2, endCol := 2 } BB)) = fun os => some (S2_0 (wr2 w false false) os, T2 (wr2 w false false) os) := by
  rw [PySem.W.Fast.te10295753902157049106, PySem.W.Fast.te14364793385576792824]
  kernel_rfl
theorem g1a_ft (w : World) : (fun os => segGoT treeTable PR (wr2 w false true) 11 (some (Value.ref 6)) 1 79 (st (tree_59 (wr2 w false true).params) 15 191 os) (piecesOf (cut 2 1) EV CE { line := 2, col := 0, endLine := 2, endCol := 2 } BB)) = fun os => some (S2_0 (wr2 w false true) os, T2 (wr2 w false true) os) := by
  rw [PySem.W.Fast.te10295753902157049106, PySem.W.Fast.te14364793385576792824]
  kernel_rfl
theorem g1a_tf (w : World) : (fun os => segGoT treeTable PR (wr2 w true false) 11 (some (Value.ref 6)) 1 89 (st (tree_59 (wr2 w true false).params) 15 191 os) (piecesOf (cut 2 1) EV CE { line := 2, col := 0, endLine := 2, endCol := 2 } BB)) = fun os => some (S2_0 (wr2 w true false) os, T2 (wr2 w true false) os) := by
  rw [PySem.W.Fast.te10295753902157049106, PySem.W.Fast.te14364793385576792824]
  kernel_rfl
theorem g1a_tt (w : World) : (fun os => segGoT treeTable PR (wr2 w true true) 11 (some (Value.ref 6)) 1 79 (st (tree_59 (wr2 w true true).params) 15 191 os) (piecesOf (cut 2 1) EV CE { line := 2, col := 0, endLine := 2, endCol := 2 } BB)) = fun os => some (S2_0 (wr2 w true true) os, T2 (wr2 w true true) os) := by
  rw [PySem.W.Fast.te10295753902157049106, PySem.W.Fast.te14364793385576792824]
  kernel_rfl
theorem g1c_0 (w : World) : (fun os => segGoT treeTable PR w 11 (some (Value.ref 6)) 1 2368 (S2_0 w os) (T2 w os)) = fun os => some (S2_1 w os, T2 w os) := by
  rw [PySem.W.Fast.te10295753902157049106, PySem.W.Fast.te14364793385576792824]
  kernel_rfl
theorem g1c_1 (w : World) : (fun os => segGoT treeTable PR w 11 (some (Value.ref 6)) 1 2368 (S2_1 w os) (T2 w os)) = fun os => some (S2_2 w os, T2 w os) := by
  rw [PySem.W.Fast.te10295753902157049106, PySem.W.Fast.te14364793385576792824]
  kernel_rfl
theorem g1c_2 (w : World) : (fun os => segGoT treeTable PR w 11 (some (Value.ref 6)) 1 2368 (S2_2 w os) (T2 w os)) = fun os => some (S2_3 w os, T2 w os) := by
  rw [PySem.W.Fast.te10295753902157049106, PySem.W.Fast.te14364793385576792824]
  kernel_rfl
theorem g1d (w : World) : (fun os => segRunT treeTable PR w 11 (some (Value.ref 6)) 1 2359 (S2_3 w os) (T2 w os)) = fun os => some (Flow.next, st (tree_67 w.params) 21 1219 os, CE, { line := 3, col := 0, endLine := 3, endCol := 11 }) := by
  rw [PySem.W.Fast.te10110043849684766642, PySem.W.Fast.te14364793385576792824]
  kernel_rfl
theorem g1e (w : World) (os : OsState) : segRunT treeTable PR w 11 (some (Value.ref 6)) 1 9463 (S2_0 w os) (T2 w os) = some (Flow.next, st (tree_67 w.params) 21 1219 os, CE, { line := 3, col := 0, endLine := 3, endCol := 11 }) :=
  seg_cat_ (congrFun (g1c_0 w) os) (seg_cat_ (congrFun (g1c_1 w) os) (seg_cat_ (congrFun (g1c_2 w) os) (congrFun (g1d w) os) (rfl : 2368 + 2359 = 4727)) (rfl : 2368 + 4727 = 7095)) (rfl : 2368 + 7095 = 9463)
theorem g1_f_f (w : World) : G1 (wr2 w false false) := funext fun os => seg_cat_ (congrFun (g1a_ff w) os) (g1e (wr2 w false false) os) (rfl : 89 + 9463 = 9552)
theorem g1_f_t (w : World) : G1 (wr2 w false true) := funext fun os => seg_cat_ (congrFun (g1a_ft w) os) (seg_more_ (g1e (wr2 w false true) os) (rfl : 9463 + 10 = 9473)) (rfl : 79 + 9473 = 9552)
theorem g1_t_f (w : World) : G1 (wr2 w true false) := funext fun os => seg_cat_ (congrFun (g1a_tf w) os) (g1e (wr2 w true false) os) (rfl : 89 + 9463 = 9552)
theorem g1_t_t (w : World) : G1 (wr2 w true true) := funext fun os => seg_cat_ (congrFun (g1a_tt w) os) (seg_more_ (g1e (wr2 w true true) os) (rfl : 9463 + 10 = 9473)) (rfl : 79 + 9473 = 9552)
theorem g1 (w : World) : G1 w := byRow2 "comprehension-iter-twice" (P := G1) (byRow2 "special-get-raises" (P := fun w => G1 (w.withFollow "comprehension-iter-twice" false)) g1_f_f g1_t_f) (byRow2 "special-get-raises" (P := fun w => G1 (w.withFollow "comprehension-iter-twice" true)) g1_f_t g1_t_t) w
def G2 (w : World) : Prop := (fun os => segRunT treeTable PR w 11 (some (Value.ref 6)) 1 109 (st (tree_67 w.params) 21 1219 os) (piecesOf (cut 3 7) EV CE { line := 3, col := 0, endLine := 3, endCol := 11 } BB)) = fun os => some (Flow.next, st (tree_364 w.params) 25 1231 os, CE, { line := 10, col := 0, endLine := 10, endCol := 8 })
theorem g2 (w : World) : G2 w := by
  unfold G2
  rw [PySem.W.Fast.te10110043849684766642, PySem.W.Fast.te14364793385576792824]
  kernel_rfl
def G3 (w : World) : Prop := (fun os => segRunT treeTable PR w 11 (some (Value.ref 6)) 1 3077 (st (tree_364 w.params) 25 1231 os) (piecesOf (cut 10 1) EV CE { line := 10, col := 0, endLine := 10, endCol := 8 } BB)) = fun os => some (Flow.next, st (tree_369 w.params) 28 1439 os, CE, { line := 11, col := 9, endLine := 11, endCol := 74 })
noncomputable def x10_0_3 (P : Params) : Obj :=
  { cls := Value.type "dict",
    data :=
      Data.dict
        #[{ hash := PyData.keyHash P (Str.ofString "__name__"), key := Value.str (Str.ofString "__name__") 165, val := Value.str (Str.ofString "cpy313.email.quoprimime") 1229 },
          { hash := PyData.keyHash P (Str.ofString "__doc__"), key := Value.str (Str.ofString "__doc__") 166, val := Value.none },
          { hash := PyData.keyHash P (Str.ofString "__package__"), key := Value.str (Str.ofString "__package__") 167, val := Value.none },
          { hash := PyData.keyHash P (Str.ofString "__loader__"), key := Value.str (Str.ofString "__loader__") 168, val := Value.builtin "__main__.__loader__#opaque" },
          { hash := PyData.keyHash P (Str.ofString "__spec__"), key := Value.str (Str.ofString "__spec__") 169, val := Value.none },
          { hash := PyData.keyHash P (Str.ofString "__annotations__"), key := Value.str (Str.ofString "__annotations__") 170, val := Value.ref 6 },
          { hash := PyData.keyHash P (Str.ofString "__builtins__"), key := Value.str (Str.ofString "__builtins__") 171, val := Value.ref 4 },
          { hash := PyData.keyHash P (Str.ofString "__file__"), key := Value.str (Str.ofString "__file__") 173, val := Value.str (Str.ofString "/claim/cut.py") 172 },
          { hash := PyData.keyHash P (Str.ofString "__cached__"), key := Value.str (Str.ofString "__cached__") 174, val := Value.none },
          { hash := PyData.keyHash P (Str.ofString "CRLF"), key := Value.str (Str.ofString "CRLF") 188, val := Value.str (Str.ofString "\x0d\n") 187 },
          { hash := PyData.keyHash P (Str.ofString "NL"), key := Value.str (Str.ofString "NL") 190, val := Value.str (Str.ofString "\n") 189 },
          { hash := PyData.keyHash P (Str.ofString "_QUOPRI_MAP"), key := Value.str (Str.ofString "_QUOPRI_MAP") 1218, val := Value.ref 17 },
          { hash := PyData.keyHash P (Str.ofString "_QUOPRI_HEADER_MAP"), key := Value.str (Str.ofString "_QUOPRI_HEADER_MAP") 1219, val := Value.ref 22 },
          { hash := PyData.keyHash P (Str.ofString "_QUOPRI_BODY_MAP"), key := Value.str (Str.ofString "_QUOPRI_BODY_MAP") 1220, val := Value.ref 24 },
          { hash := PyData.keyHash P (Str.ofString "ascii_lowercase"), key := Value.str (Str.ofString "ascii_lowercase") 1222, val := Value.str (Str.ofString "abcdefghijklmnopqrstuvwxyz") 1221 },
          { hash := PyData.keyHash P (Str.ofString "ascii_uppercase"), key := Value.str (Str.ofString "ascii_uppercase") 1224, val := Value.str (Str.ofString "ABCDEFGHIJKLMNOPQRSTUVWXYZ") 1223 },
          { hash := PyData.keyHash P (Str.ofString "ascii_letters"), key := Value.str (Str.ofString "ascii_letters") 1226,
            val := Value.str (Str.ofString "abcdefghijklmnopqrstuvwxyzABCDEFGHIJKLMNOPQRSTUVWXYZ") 1225 },
          { hash := PyData.keyHash P (Str.ofString "digits"), key := Value.str (Str.ofString "digits") 1228, val := Value.str (Str.ofString "0123456789") 1227 },
          { hash := PyData.keyHash P (Str.ofString "c"), key := Value.str (Str.ofString "c") 1239, val := Value.int 45 1238 }]
        19 }
noncomputable def x10_0_22 (P : Params) : Obj :=
  { cls := Value.type "list",
    data :=
      Data.seq
        #[Value.str (Str.ofString "=00") 197, Value.str (Str.ofString "=01") 201, Value.str (Str.ofString "=02") 205, Value.str (Str.ofString "=03") 209, Value.str (Str.ofString "=04") 213,
          Value.str (Str.ofString "=05") 217, Value.str (Str.ofString "=06") 221, Value.str (Str.ofString "=07") 225, Value.str (Str.ofString "=08") 229, Value.str (Str.ofString "=09") 233,
          Value.str (Str.ofString "=0A") 237, Value.str (Str.ofString "=0B") 241, Value.str (Str.ofString "=0C") 245, Value.str (Str.ofString "=0D") 249, Value.str (Str.ofString "=0E") 253,
          Value.str (Str.ofString "=0F") 257, Value.str (Str.ofString "=10") 261, Value.str (Str.ofString "=11") 265, Value.str (Str.ofString "=12") 269, Value.str (Str.ofString "=13") 273,
          Value.str (Str.ofString "=14") 277, Value.str (Str.ofString "=15") 281, Value.str (Str.ofString "=16") 285, Value.str (Str.ofString "=17") 289, Value.str (Str.ofString "=18") 293,
          Value.str (Str.ofString "=19") 297, Value.str (Str.ofString "=1A") 301, Value.str (Str.ofString "=1B") 305, Value.str (Str.ofString "=1C") 309, Value.str (Str.ofString "=1D") 313,
          Value.str (Str.ofString "=1E") 317, Value.str (Str.ofString "=1F") 321, Value.str (Str.ofString "=20") 325, Value.str (Str.ofString "=21") 329, Value.str (Str.ofString "=22") 333,
          Value.str (Str.ofString "=23") 337, Value.str (Str.ofString "=24") 341, Value.str (Str.ofString "=25") 345, Value.str (Str.ofString "=26") 349, Value.str (Str.ofString "=27") 353,
          Value.str (Str.ofString "=28") 357, Value.str (Str.ofString "=29") 361, Value.str (Str.ofString "=2A") 365, Value.str (Str.ofString "=2B") 369, Value.str (Str.ofString "=2C") 373,
          Value.str (Str.ofString "-") 1240, Value.str (Str.ofString "=2E") 381, Value.str (Str.ofString "=2F") 385, Value.str (Str.ofString "=30") 389, Value.str (Str.ofString "=31") 393,
          Value.str (Str.ofString "=32") 397, Value.str (Str.ofString "=33") 401, Value.str (Str.ofString "=34") 405, Value.str (Str.ofString "=35") 409, Value.str (Str.ofString "=36") 413,
          Value.str (Str.ofString "=37") 417, Value.str (Str.ofString "=38") 421, Value.str (Str.ofString "=39") 425, Value.str (Str.ofString "=3A") 429, Value.str (Str.ofString "=3B") 433,
          Value.str (Str.ofString "=3C") 437, Value.str (Str.ofString "=3D") 441, Value.str (Str.ofString "=3E") 445, Value.str (Str.ofString "=3F") 449, Value.str (Str.ofString "=40") 453,
          Value.str (Str.ofString "=41") 457, Value.str (Str.ofString "=42") 461, Value.str (Str.ofString "=43") 465, Value.str (Str.ofString "=44") 469, Value.str (Str.ofString "=45") 473,
          Value.str (Str.ofString "=46") 477, Value.str (Str.ofString "=47") 481, Value.str (Str.ofString "=48") 485, Value.str (Str.ofString "=49") 489, Value.str (Str.ofString "=4A") 493,
          Value.str (Str.ofString "=4B") 497, Value.str (Str.ofString "=4C") 501, Value.str (Str.ofString "=4D") 505, Value.str (Str.ofString "=4E") 509, Value.str (Str.ofString "=4F") 513,
          Value.str (Str.ofString "=50") 517, Value.str (Str.ofString "=51") 521, Value.str (Str.ofString "=52") 525, Value.str (Str.ofString "=53") 529, Value.str (Str.ofString "=54") 533,
          Value.str (Str.ofString "=55") 537, Value.str (Str.ofString "=56") 541, Value.str (Str.ofString "=57") 545, Value.str (Str.ofString "=58") 549, Value.str (Str.ofString "=59") 553,
          Value.str (Str.ofString "=5A") 557, Value.str (Str.ofString "=5B") 561, Value.str (Str.ofString "=5C") 565, Value.str (Str.ofString "=5D") 569, Value.str (Str.ofString "=5E") 573,
          Value.str (Str.ofString "=5F") 577, Value.str (Str.ofString "=60") 581, Value.str (Str.ofString "=61") 585, Value.str (Str.ofString "=62") 589, Value.str (Str.ofString "=63") 593,
          Value.str (Str.ofString "=64") 597, Value.str (Str.ofString "=65") 601, Value.str (Str.ofString "=66") 605, Value.str (Str.ofString "=67") 609, Value.str (Str.ofString "=68") 613,
          Value.str (Str.ofString "=69") 617, Value.str (Str.ofString "=6A") 621, Value.str (Str.ofString "=6B") 625, Value.str (Str.ofString "=6C") 629, Value.str (Str.ofString "=6D") 633,
          Value.str (Str.ofString "=6E") 637, Value.str (Str.ofString "=6F") 641, Value.str (Str.ofString "=70") 645, Value.str (Str.ofString "=71") 649, Value.str (Str.ofString "=72") 653,
          Value.str (Str.ofString "=73") 657, Value.str (Str.ofString "=74") 661, Value.str (Str.ofString "=75") 665, Value.str (Str.ofString "=76") 669, Value.str (Str.ofString "=77") 673,
          Value.str (Str.ofString "=78") 677, Value.str (Str.ofString "=79") 681, Value.str (Str.ofString "=7A") 685, Value.str (Str.ofString "=7B") 689, Value.str (Str.ofString "=7C") 693,
          Value.str (Str.ofString "=7D") 697, Value.str (Str.ofString "=7E") 701, Value.str (Str.ofString "=7F") 705, Value.str (Str.ofString "=80") 709, Value.str (Str.ofString "=81") 713,
          Value.str (Str.ofString "=82") 717, Value.str (Str.ofString "=83") 721, Value.str (Str.ofString "=84") 725, Value.str (Str.ofString "=85") 729, Value.str (Str.ofString "=86") 733,
          Value.str (Str.ofString "=87") 737, Value.str (Str.ofString "=88") 741, Value.str (Str.ofString "=89") 745, Value.str (Str.ofString "=8A") 749, Value.str (Str.ofString "=8B") 753,
          Value.str (Str.ofString "=8C") 757, Value.str (Str.ofString "=8D") 761, Value.str (Str.ofString "=8E") 765, Value.str (Str.ofString "=8F") 769, Value.str (Str.ofString "=90") 773,
          Value.str (Str.ofString "=91") 777, Value.str (Str.ofString "=92") 781, Value.str (Str.ofString "=93") 785, Value.str (Str.ofString "=94") 789, Value.str (Str.ofString "=95") 793,
          Value.str (Str.ofString "=96") 797, Value.str (Str.ofString "=97") 801, Value.str (Str.ofString "=98") 805, Value.str (Str.ofString "=99") 809, Value.str (Str.ofString "=9A") 813,
          Value.str (Str.ofString "=9B") 817, Value.str (Str.ofString "=9C") 821, Value.str (Str.ofString "=9D") 825, Value.str (Str.ofString "=9E") 829, Value.str (Str.ofString "=9F") 833,
          Value.str (Str.ofString "=A0") 837, Value.str (Str.ofString "=A1") 841, Value.str (Str.ofString "=A2") 845, Value.str (Str.ofString "=A3") 849, Value.str (Str.ofString "=A4") 853,
          Value.str (Str.ofString "=A5") 857, Value.str (Str.ofString "=A6") 861, Value.str (Str.ofString "=A7") 865, Value.str (Str.ofString "=A8") 869, Value.str (Str.ofString "=A9") 873,
          Value.str (Str.ofString "=AA") 877, Value.str (Str.ofString "=AB") 881, Value.str (Str.ofString "=AC") 885, Value.str (Str.ofString "=AD") 889, Value.str (Str.ofString "=AE") 893,
          Value.str (Str.ofString "=AF") 897, Value.str (Str.ofString "=B0") 901, Value.str (Str.ofString "=B1") 905, Value.str (Str.ofString "=B2") 909, Value.str (Str.ofString "=B3") 913,
          Value.str (Str.ofString "=B4") 917, Value.str (Str.ofString "=B5") 921, Value.str (Str.ofString "=B6") 925, Value.str (Str.ofString "=B7") 929, Value.str (Str.ofString "=B8") 933,
          Value.str (Str.ofString "=B9") 937, Value.str (Str.ofString "=BA") 941, Value.str (Str.ofString "=BB") 945, Value.str (Str.ofString "=BC") 949, Value.str (Str.ofString "=BD") 953,
          Value.str (Str.ofString "=BE") 957, Value.str (Str.ofString "=BF") 961, Value.str (Str.ofString "=C0") 965, Value.str (Str.ofString "=C1") 969, Value.str (Str.ofString "=C2") 973,
          Value.str (Str.ofString "=C3") 977, Value.str (Str.ofString "=C4") 981, Value.str (Str.ofString "=C5") 985, Value.str (Str.ofString "=C6") 989, Value.str (Str.ofString "=C7") 993,
          Value.str (Str.ofString "=C8") 997, Value.str (Str.ofString "=C9") 1001, Value.str (Str.ofString "=CA") 1005, Value.str (Str.ofString "=CB") 1009, Value.str (Str.ofString "=CC") 1013,
          Value.str (Str.ofString "=CD") 1017, Value.str (Str.ofString "=CE") 1021, Value.str (Str.ofString "=CF") 1025, Value.str (Str.ofString "=D0") 1029, Value.str (Str.ofString "=D1") 1033,
          Value.str (Str.ofString "=D2") 1037, Value.str (Str.ofString "=D3") 1041, Value.str (Str.ofString "=D4") 1045, Value.str (Str.ofString "=D5") 1049, Value.str (Str.ofString "=D6") 1053,
          Value.str (Str.ofString "=D7") 1057, Value.str (Str.ofString "=D8") 1061, Value.str (Str.ofString "=D9") 1065, Value.str (Str.ofString "=DA") 1069, Value.str (Str.ofString "=DB") 1073,
          Value.str (Str.ofString "=DC") 1077, Value.str (Str.ofString "=DD") 1081, Value.str (Str.ofString "=DE") 1085, Value.str (Str.ofString "=DF") 1089, Value.str (Str.ofString "=E0") 1093,
          Value.str (Str.ofString "=E1") 1097, Value.str (Str.ofString "=E2") 1101, Value.str (Str.ofString "=E3") 1105, Value.str (Str.ofString "=E4") 1109, Value.str (Str.ofString "=E5") 1113,
          Value.str (Str.ofString "=E6") 1117, Value.str (Str.ofString "=E7") 1121, Value.str (Str.ofString "=E8") 1125, Value.str (Str.ofString "=E9") 1129, Value.str (Str.ofString "=EA") 1133,
          Value.str (Str.ofString "=EB") 1137, Value.str (Str.ofString "=EC") 1141, Value.str (Str.ofString "=ED") 1145, Value.str (Str.ofString "=EE") 1149, Value.str (Str.ofString "=EF") 1153,
          Value.str (Str.ofString "=F0") 1157, Value.str (Str.ofString "=F1") 1161, Value.str (Str.ofString "=F2") 1165, Value.str (Str.ofString "=F3") 1169, Value.str (Str.ofString "=F4") 1173,
          Value.str (Str.ofString "=F5") 1177, Value.str (Str.ofString "=F6") 1181, Value.str (Str.ofString "=F7") 1185, Value.str (Str.ofString "=F8") 1189, Value.str (Str.ofString "=F9") 1193,
          Value.str (Str.ofString "=FA") 1197, Value.str (Str.ofString "=FB") 1201, Value.str (Str.ofString "=FC") 1205, Value.str (Str.ofString "=FD") 1209, Value.str (Str.ofString "=FE") 1213,
          Value.str (Str.ofString "=FF") 1217] }
noncomputable def x10_0_25 (P : Params) : Obj :=
  { cls := Value.type "bytes_iterator",
    data :=
      Data.fields
        #[Value.bytes
            #[45, 33, 42, 43, 47, 97, 98, 99, 100, 101, 102, 103, 104, 105, 106, 107, 108, 109, 110, 111, 112, 113, 114, 115, 116, 117, 118, 119, 120, 121, 122, 65, 66, 67, 68, 69, 70, 71, 72, 73, 74,
              75, 76, 77, 78, 79, 80, 81, 82, 83, 84, 85, 86, 87, 88, 89, 90, 48, 49, 50, 51, 52, 53, 54, 55, 56, 57]
            1237,
          Value.int 1 0] }
noncomputable def tr10_0 (P : Params) : BT := BT.node (o_42 P) (BT.node (o_43 P) (BT.node (x10_0_3 P) (BT.node (o_49 P) (BT.node (o_62 P) BT.nil BT.nil) (BT.node (o_363 P) BT.nil BT.nil)) (BT.node (o_53 P) (BT.node (o_66 P) BT.nil BT.nil) BT.nil)) (BT.node (o_47 P) (BT.node (o_51 P) (BT.node (o_64 P) BT.nil BT.nil) (BT.node (x10_0_25 P) BT.nil BT.nil)) (BT.node (o_55 P) (BT.node (o_361 P) BT.nil BT.nil) BT.nil))) (BT.node (o_44 P) (BT.node (o_46 P) (BT.node (o_50 P) (BT.node (o_63 P) BT.nil BT.nil) (BT.node (o_364 P) BT.nil BT.nil)) (BT.node (o_54 P) (BT.node (o_67 P) BT.nil BT.nil) BT.nil)) (BT.node (o_48 P) (BT.node (o_52 P) (BT.node (o_65 P) BT.nil BT.nil) BT.nil) (BT.node (o_56 P) (BT.node (x10_0_22 P) BT.nil BT.nil) BT.nil)))
noncomputable def S10_0 (w : World) (os : OsState) : SharedT := st (tr10_0 w.params) 26 1241 os
noncomputable def x10_1_3 (P : Params) : Obj :=
  { cls := Value.type "dict",
    data :=
      Data.dict
        #[{ hash := PyData.keyHash P (Str.ofString "__name__"), key := Value.str (Str.ofString "__name__") 165, val := Value.str (Str.ofString "cpy313.email.quoprimime") 1229 },
          { hash := PyData.keyHash P (Str.ofString "__doc__"), key := Value.str (Str.ofString "__doc__") 166, val := Value.none },
          { hash := PyData.keyHash P (Str.ofString "__package__"), key := Value.str (Str.ofString "__package__") 167, val := Value.none },
          { hash := PyData.keyHash P (Str.ofString "__loader__"), key := Value.str (Str.ofString "__loader__") 168, val := Value.builtin "__main__.__loader__#opaque" },
          { hash := PyData.keyHash P (Str.ofString "__spec__"), key := Value.str (Str.ofString "__spec__") 169, val := Value.none },
          { hash := PyData.keyHash P (Str.ofString "__annotations__"), key := Value.str (Str.ofString "__annotations__") 170, val := Value.ref 6 },
          { hash := PyData.keyHash P (Str.ofString "__builtins__"), key := Value.str (Str.ofString "__builtins__") 171, val := Value.ref 4 },
          { hash := PyData.keyHash P (Str.ofString "__file__"), key := Value.str (Str.ofString "__file__") 173, val := Value.str (Str.ofString "/claim/cut.py") 172 },
          { hash := PyData.keyHash P (Str.ofString "__cached__"), key := Value.str (Str.ofString "__cached__") 174, val := Value.none },
          { hash := PyData.keyHash P (Str.ofString "CRLF"), key := Value.str (Str.ofString "CRLF") 188, val := Value.str (Str.ofString "\x0d\n") 187 },
          { hash := PyData.keyHash P (Str.ofString "NL"), key := Value.str (Str.ofString "NL") 190, val := Value.str (Str.ofString "\n") 189 },
          { hash := PyData.keyHash P (Str.ofString "_QUOPRI_MAP"), key := Value.str (Str.ofString "_QUOPRI_MAP") 1218, val := Value.ref 17 },
          { hash := PyData.keyHash P (Str.ofString "_QUOPRI_HEADER_MAP"), key := Value.str (Str.ofString "_QUOPRI_HEADER_MAP") 1219, val := Value.ref 22 },
          { hash := PyData.keyHash P (Str.ofString "_QUOPRI_BODY_MAP"), key := Value.str (Str.ofString "_QUOPRI_BODY_MAP") 1220, val := Value.ref 24 },
          { hash := PyData.keyHash P (Str.ofString "ascii_lowercase"), key := Value.str (Str.ofString "ascii_lowercase") 1222, val := Value.str (Str.ofString "abcdefghijklmnopqrstuvwxyz") 1221 },
          { hash := PyData.keyHash P (Str.ofString "ascii_uppercase"), key := Value.str (Str.ofString "ascii_uppercase") 1224, val := Value.str (Str.ofString "ABCDEFGHIJKLMNOPQRSTUVWXYZ") 1223 },
          { hash := PyData.keyHash P (Str.ofString "ascii_letters"), key := Value.str (Str.ofString "ascii_letters") 1226,
            val := Value.str (Str.ofString "abcdefghijklmnopqrstuvwxyzABCDEFGHIJKLMNOPQRSTUVWXYZ") 1225 },
          { hash := PyData.keyHash P (Str.ofString "digits"), key := Value.str (Str.ofString "digits") 1228, val := Value.str (Str.ofString "0123456789") 1227 },
          { hash := PyData.keyHash P (Str.ofString "c"), key := Value.str (Str.ofString "c") 1239, val := Value.int 115 1307 }]
        19 }
noncomputable def x10_1_22 (P : Params) : Obj :=
  { cls := Value.type "list",
    data :=
      Data.seq
        #[Value.str (Str.ofString "=00") 197, Value.str (Str.ofString "=01") 201, Value.str (Str.ofString "=02") 205, Value.str (Str.ofString "=03") 209, Value.str (Str.ofString "=04") 213,
          Value.str (Str.ofString "=05") 217, Value.str (Str.ofString "=06") 221, Value.str (Str.ofString "=07") 225, Value.str (Str.ofString "=08") 229, Value.str (Str.ofString "=09") 233,
          Value.str (Str.ofString "=0A") 237, Value.str (Str.ofString "=0B") 241, Value.str (Str.ofString "=0C") 245, Value.str (Str.ofString "=0D") 249, Value.str (Str.ofString "=0E") 253,
          Value.str (Str.ofString "=0F") 257, Value.str (Str.ofString "=10") 261, Value.str (Str.ofString "=11") 265, Value.str (Str.ofString "=12") 269, Value.str (Str.ofString "=13") 273,
          Value.str (Str.ofString "=14") 277, Value.str (Str.ofString "=15") 281, Value.str (Str.ofString "=16") 285, Value.str (Str.ofString "=17") 289, Value.str (Str.ofString "=18") 293,
          Value.str (Str.ofString "=19") 297, Value.str (Str.ofString "=1A") 301, Value.str (Str.ofString "=1B") 305, Value.str (Str.ofString "=1C") 309, Value.str (Str.ofString "=1D") 313,
          Value.str (Str.ofString "=1E") 317, Value.str (Str.ofString "=1F") 321, Value.str (Str.ofString "=20") 325, Value.str (Str.ofString "!") 1243, Value.str (Str.ofString "=22") 333,
          Value.str (Str.ofString "=23") 337, Value.str (Str.ofString "=24") 341, Value.str (Str.ofString "=25") 345, Value.str (Str.ofString "=26") 349, Value.str (Str.ofString "=27") 353,
          Value.str (Str.ofString "=28") 357, Value.str (Str.ofString "=29") 361, Value.str (Str.ofString "*") 1246, Value.str (Str.ofString "+") 1249, Value.str (Str.ofString "=2C") 373,
          Value.str (Str.ofString "-") 1240, Value.str (Str.ofString "=2E") 381, Value.str (Str.ofString "/") 1252, Value.str (Str.ofString "=30") 389, Value.str (Str.ofString "=31") 393,
          Value.str (Str.ofString "=32") 397, Value.str (Str.ofString "=33") 401, Value.str (Str.ofString "=34") 405, Value.str (Str.ofString "=35") 409, Value.str (Str.ofString "=36") 413,
          Value.str (Str.ofString "=37") 417, Value.str (Str.ofString "=38") 421, Value.str (Str.ofString "=39") 425, Value.str (Str.ofString "=3A") 429, Value.str (Str.ofString "=3B") 433,
          Value.str (Str.ofString "=3C") 437, Value.str (Str.ofString "=3D") 441, Value.str (Str.ofString "=3E") 445, Value.str (Str.ofString "=3F") 449, Value.str (Str.ofString "=40") 453,
          Value.str (Str.ofString "=41") 457, Value.str (Str.ofString "=42") 461, Value.str (Str.ofString "=43") 465, Value.str (Str.ofString "=44") 469, Value.str (Str.ofString "=45") 473,
          Value.str (Str.ofString "=46") 477, Value.str (Str.ofString "=47") 481, Value.str (Str.ofString "=48") 485, Value.str (Str.ofString "=49") 489, Value.str (Str.ofString "=4A") 493,
          Value.str (Str.ofString "=4B") 497, Value.str (Str.ofString "=4C") 501, Value.str (Str.ofString "=4D") 505, Value.str (Str.ofString "=4E") 509, Value.str (Str.ofString "=4F") 513,
          Value.str (Str.ofString "=50") 517, Value.str (Str.ofString "=51") 521, Value.str (Str.ofString "=52") 525, Value.str (Str.ofString "=53") 529, Value.str (Str.ofString "=54") 533,
          Value.str (Str.ofString "=55") 537, Value.str (Str.ofString "=56") 541, Value.str (Str.ofString "=57") 545, Value.str (Str.ofString "=58") 549, Value.str (Str.ofString "=59") 553,
          Value.str (Str.ofString "=5A") 557, Value.str (Str.ofString "=5B") 561, Value.str (Str.ofString "=5C") 565, Value.str (Str.ofString "=5D") 569, Value.str (Str.ofString "=5E") 573,
          Value.str (Str.ofString "=5F") 577, Value.str (Str.ofString "=60") 581, Value.str (Str.ofString "a") 1255, Value.str (Str.ofString "b") 1258, Value.str (Str.ofString "c") 1261,
          Value.str (Str.ofString "d") 1264, Value.str (Str.ofString "e") 1267, Value.str (Str.ofString "f") 1270, Value.str (Str.ofString "g") 1273, Value.str (Str.ofString "h") 1276,
          Value.str (Str.ofString "i") 1279, Value.str (Str.ofString "j") 1282, Value.str (Str.ofString "k") 1285, Value.str (Str.ofString "l") 1288, Value.str (Str.ofString "m") 1291,
          Value.str (Str.ofString "n") 1294, Value.str (Str.ofString "o") 1297, Value.str (Str.ofString "p") 1300, Value.str (Str.ofString "q") 1303, Value.str (Str.ofString "r") 1306,
          Value.str (Str.ofString "s") 1309, Value.str (Str.ofString "=74") 661, Value.str (Str.ofString "=75") 665, Value.str (Str.ofString "=76") 669, Value.str (Str.ofString "=77") 673,
          Value.str (Str.ofString "=78") 677, Value.str (Str.ofString "=79") 681, Value.str (Str.ofString "=7A") 685, Value.str (Str.ofString "=7B") 689, Value.str (Str.ofString "=7C") 693,
          Value.str (Str.ofString "=7D") 697, Value.str (Str.ofString "=7E") 701, Value.str (Str.ofString "=7F") 705, Value.str (Str.ofString "=80") 709, Value.str (Str.ofString "=81") 713,
          Value.str (Str.ofString "=82") 717, Value.str (Str.ofString "=83") 721, Value.str (Str.ofString "=84") 725, Value.str (Str.ofString "=85") 729, Value.str (Str.ofString "=86") 733,
          Value.str (Str.ofString "=87") 737, Value.str (Str.ofString "=88") 741, Value.str (Str.ofString "=89") 745, Value.str (Str.ofString "=8A") 749, Value.str (Str.ofString "=8B") 753,
          Value.str (Str.ofString "=8C") 757, Value.str (Str.ofString "=8D") 761, Value.str (Str.ofString "=8E") 765, Value.str (Str.ofString "=8F") 769, Value.str (Str.ofString "=90") 773,
          Value.str (Str.ofString "=91") 777, Value.str (Str.ofString "=92") 781, Value.str (Str.ofString "=93") 785, Value.str (Str.ofString "=94") 789, Value.str (Str.ofString "=95") 793,
          Value.str (Str.ofString "=96") 797, Value.str (Str.ofString "=97") 801, Value.str (Str.ofString "=98") 805, Value.str (Str.ofString "=99") 809, Value.str (Str.ofString "=9A") 813,
          Value.str (Str.ofString "=9B") 817, Value.str (Str.ofString "=9C") 821, Value.str (Str.ofString "=9D") 825, Value.str (Str.ofString "=9E") 829, Value.str (Str.ofString "=9F") 833,
          Value.str (Str.ofString "=A0") 837, Value.str (Str.ofString "=A1") 841, Value.str (Str.ofString "=A2") 845, Value.str (Str.ofString "=A3") 849, Value.str (Str.ofString "=A4") 853,
          Value.str (Str.ofString "=A5") 857, Value.str (Str.ofString "=A6") 861, Value.str (Str.ofString "=A7") 865, Value.str (Str.ofString "=A8") 869, Value.str (Str.ofString "=A9") 873,
          Value.str (Str.ofString "=AA") 877, Value.str (Str.ofString "=AB") 881, Value.str (Str.ofString "=AC") 885, Value.str (Str.ofString "=AD") 889, Value.str (Str.ofString "=AE") 893,
          Value.str (Str.ofString "=AF") 897, Value.str (Str.ofString "=B0") 901, Value.str (Str.ofString "=B1") 905, Value.str (Str.ofString "=B2") 909, Value.str (Str.ofString "=B3") 913,
          Value.str (Str.ofString "=B4") 917, Value.str (Str.ofString "=B5") 921, Value.str (Str.ofString "=B6") 925, Value.str (Str.ofString "=B7") 929, Value.str (Str.ofString "=B8") 933,
          Value.str (Str.ofString "=B9") 937, Value.str (Str.ofString "=BA") 941, Value.str (Str.ofString "=BB") 945, Value.str (Str.ofString "=BC") 949, Value.str (Str.ofString "=BD") 953,
          Value.str (Str.ofString "=BE") 957, Value.str (Str.ofString "=BF") 961, Value.str (Str.ofString "=C0") 965, Value.str (Str.ofString "=C1") 969, Value.str (Str.ofString "=C2") 973,
          Value.str (Str.ofString "=C3") 977, Value.str (Str.ofString "=C4") 981, Value.str (Str.ofString "=C5") 985, Value.str (Str.ofString "=C6") 989, Value.str (Str.ofString "=C7") 993,
          Value.str (Str.ofString "=C8") 997, Value.str (Str.ofString "=C9") 1001, Value.str (Str.ofString "=CA") 1005, Value.str (Str.ofString "=CB") 1009, Value.str (Str.ofString "=CC") 1013,
          Value.str (Str.ofString "=CD") 1017, Value.str (Str.ofString "=CE") 1021, Value.str (Str.ofString "=CF") 1025, Value.str (Str.ofString "=D0") 1029, Value.str (Str.ofString "=D1") 1033,
          Value.str (Str.ofString "=D2") 1037, Value.str (Str.ofString "=D3") 1041, Value.str (Str.ofString "=D4") 1045, Value.str (Str.ofString "=D5") 1049, Value.str (Str.ofString "=D6") 1053,
          Value.str (Str.ofString "=D7") 1057, Value.str (Str.ofString "=D8") 1061, Value.str (Str.ofString "=D9") 1065, Value.str (Str.ofString "=DA") 1069, Value.str (Str.ofString "=DB") 1073,
          Value.str (Str.ofString "=DC") 1077, Value.str (Str.ofString "=DD") 1081, Value.str (Str.ofString "=DE") 1085, Value.str (Str.ofString "=DF") 1089, Value.str (Str.ofString "=E0") 1093,
          Value.str (Str.ofString "=E1") 1097, Value.str (Str.ofString "=E2") 1101, Value.str (Str.ofString "=E3") 1105, Value.str (Str.ofString "=E4") 1109, Value.str (Str.ofString "=E5") 1113,
          Value.str (Str.ofString "=E6") 1117, Value.str (Str.ofString "=E7") 1121, Value.str (Str.ofString "=E8") 1125, Value.str (Str.ofString "=E9") 1129, Value.str (Str.ofString "=EA") 1133,
          Value.str (Str.ofString "=EB") 1137, Value.str (Str.ofString "=EC") 1141, Value.str (Str.ofString "=ED") 1145, Value.str (Str.ofString "=EE") 1149, Value.str (Str.ofString "=EF") 1153,
          Value.str (Str.ofString "=F0") 1157, Value.str (Str.ofString "=F1") 1161, Value.str (Str.ofString "=F2") 1165, Value.str (Str.ofString "=F3") 1169, Value.str (Str.ofString "=F4") 1173,
          Value.str (Str.ofString "=F5") 1177, Value.str (Str.ofString "=F6") 1181, Value.str (Str.ofString "=F7") 1185, Value.str (Str.ofString "=F8") 1189, Value.str (Str.ofString "=F9") 1193,
          Value.str (Str.ofString "=FA") 1197, Value.str (Str.ofString "=FB") 1201, Value.str (Str.ofString "=FC") 1205, Value.str (Str.ofString "=FD") 1209, Value.str (Str.ofString "=FE") 1213,
          Value.str (Str.ofString "=FF") 1217] }
noncomputable def x10_1_25 (P : Params) : Obj :=
  { cls := Value.type "bytes_iterator",
    data :=
      Data.fields
        #[Value.bytes
            #[45, 33, 42, 43, 47, 97, 98, 99, 100, 101, 102, 103, 104, 105, 106, 107, 108, 109, 110, 111, 112, 113, 114, 115, 116, 117, 118, 119, 120, 121, 122, 65, 66, 67, 68, 69, 70, 71, 72, 73, 74,
              75, 76, 77, 78, 79, 80, 81, 82, 83, 84, 85, 86, 87, 88, 89, 90, 48, 49, 50, 51, 52, 53, 54, 55, 56, 57]
            1237,
          Value.int 24 0] }
noncomputable def tr10_1 (P : Params) : BT := BT.node (o_42 P) (BT.node (o_43 P) (BT.node (x10_1_3 P) (BT.node (o_49 P) (BT.node (o_62 P) BT.nil BT.nil) (BT.node (o_363 P) BT.nil BT.nil)) (BT.node (o_53 P) (BT.node (o_66 P) BT.nil BT.nil) BT.nil)) (BT.node (o_47 P) (BT.node (o_51 P) (BT.node (o_64 P) BT.nil BT.nil) (BT.node (x10_1_25 P) BT.nil BT.nil)) (BT.node (o_55 P) (BT.node (o_361 P) BT.nil BT.nil) BT.nil))) (BT.node (o_44 P) (BT.node (o_46 P) (BT.node (o_50 P) (BT.node (o_63 P) BT.nil BT.nil) (BT.node (o_364 P) BT.nil BT.nil)) (BT.node (o_54 P) (BT.node (o_67 P) BT.nil BT.nil) BT.nil)) (BT.node (o_48 P) (BT.node (o_52 P) (BT.node (o_65 P) BT.nil BT.nil) BT.nil) (BT.node (o_56 P) (BT.node (x10_1_22 P) BT.nil BT.nil) BT.nil)))
noncomputable def S10_1 (w : World) (os : OsState) : SharedT := st (tr10_1 w.params) 26 1310 os
noncomputable def x10_2_3 (P : Params) : Obj :=
  { cls := Value.type "dict",
    data :=
      Data.dict
        #[{ hash := PyData.keyHash P (Str.ofString "__name__"), key := Value.str (Str.ofString "__name__") 165, val := Value.str (Str.ofString "cpy313.email.quoprimime") 1229 },
          { hash := PyData.keyHash P (Str.ofString "__doc__"), key := Value.str (Str.ofString "__doc__") 166, val := Value.none },
          { hash := PyData.keyHash P (Str.ofString "__package__"), key := Value.str (Str.ofString "__package__") 167, val := Value.none },
          { hash := PyData.keyHash P (Str.ofString "__loader__"), key := Value.str (Str.ofString "__loader__") 168, val := Value.builtin "__main__.__loader__#opaque" },
          { hash := PyData.keyHash P (Str.ofString "__spec__"), key := Value.str (Str.ofString "__spec__") 169, val := Value.none },
          { hash := PyData.keyHash P (Str.ofString "__annotations__"), key := Value.str (Str.ofString "__annotations__") 170, val := Value.ref 6 },
          { hash := PyData.keyHash P (Str.ofString "__builtins__"), key := Value.str (Str.ofString "__builtins__") 171, val := Value.ref 4 },
          { hash := PyData.keyHash P (Str.ofString "__file__"), key := Value.str (Str.ofString "__file__") 173, val := Value.str (Str.ofString "/claim/cut.py") 172 },
          { hash := PyData.keyHash P (Str.ofString "__cached__"), key := Value.str (Str.ofString "__cached__") 174, val := Value.none },
          { hash := PyData.keyHash P (Str.ofString "CRLF"), key := Value.str (Str.ofString "CRLF") 188, val := Value.str (Str.ofString "\x0d\n") 187 },
          { hash := PyData.keyHash P (Str.ofString "NL"), key := Value.str (Str.ofString "NL") 190, val := Value.str (Str.ofString "\n") 189 },
          { hash := PyData.keyHash P (Str.ofString "_QUOPRI_MAP"), key := Value.str (Str.ofString "_QUOPRI_MAP") 1218, val := Value.ref 17 },
          { hash := PyData.keyHash P (Str.ofString "_QUOPRI_HEADER_MAP"), key := Value.str (Str.ofString "_QUOPRI_HEADER_MAP") 1219, val := Value.ref 22 },
          { hash := PyData.keyHash P (Str.ofString "_QUOPRI_BODY_MAP"), key := Value.str (Str.ofString "_QUOPRI_BODY_MAP") 1220, val := Value.ref 24 },
          { hash := PyData.keyHash P (Str.ofString "ascii_lowercase"), key := Value.str (Str.ofString "ascii_lowercase") 1222, val := Value.str (Str.ofString "abcdefghijklmnopqrstuvwxyz") 1221 },
          { hash := PyData.keyHash P (Str.ofString "ascii_uppercase"), key := Value.str (Str.ofString "ascii_uppercase") 1224, val := Value.str (Str.ofString "ABCDEFGHIJKLMNOPQRSTUVWXYZ") 1223 },
          { hash := PyData.keyHash P (Str.ofString "ascii_letters"), key := Value.str (Str.ofString "ascii_letters") 1226,
            val := Value.str (Str.ofString "abcdefghijklmnopqrstuvwxyzABCDEFGHIJKLMNOPQRSTUVWXYZ") 1225 },
          { hash := PyData.keyHash P (Str.ofString "digits"), key := Value.str (Str.ofString "digits") 1228, val := Value.str (Str.ofString "0123456789") 1227 },
          { hash := PyData.keyHash P (Str.ofString "c"), key := Value.str (Str.ofString "c") 1239, val := Value.int 79 1373 }]
        19 }
noncomputable def x10_2_22 (P : Params) : Obj :=
  { cls := Value.type "list",
    data :=
      Data.seq
        #[Value.str (Str.ofString "=00") 197, Value.str (Str.ofString "=01") 201, Value.str (Str.ofString "=02") 205, Value.str (Str.ofString "=03") 209, Value.str (Str.ofString "=04") 213,
          Value.str (Str.ofString "=05") 217, Value.str (Str.ofString "=06") 221, Value.str (Str.ofString "=07") 225, Value.str (Str.ofString "=08") 229, Value.str (Str.ofString "=09") 233,
          Value.str (Str.ofString "=0A") 237, Value.str (Str.ofString "=0B") 241, Value.str (Str.ofString "=0C") 245, Value.str (Str.ofString "=0D") 249, Value.str (Str.ofString "=0E") 253,
          Value.str (Str.ofString "=0F") 257, Value.str (Str.ofString "=10") 261, Value.str (Str.ofString "=11") 265, Value.str (Str.ofString "=12") 269, Value.str (Str.ofString "=13") 273,
          Value.str (Str.ofString "=14") 277, Value.str (Str.ofString "=15") 281, Value.str (Str.ofString "=16") 285, Value.str (Str.ofString "=17") 289, Value.str (Str.ofString "=18") 293,
          Value.str (Str.ofString "=19") 297, Value.str (Str.ofString "=1A") 301, Value.str (Str.ofString "=1B") 305, Value.str (Str.ofString "=1C") 309, Value.str (Str.ofString "=1D") 313,
          Value.str (Str.ofString "=1E") 317, Value.str (Str.ofString "=1F") 321, Value.str (Str.ofString "=20") 325, Value.str (Str.ofString "!") 1243, Value.str (Str.ofString "=22") 333,
          Value.str (Str.ofString "=23") 337, Value.str (Str.ofString "=24") 341, Value.str (Str.ofString "=25") 345, Value.str (Str.ofString "=26") 349, Value.str (Str.ofString "=27") 353,
          Value.str (Str.ofString "=28") 357, Value.str (Str.ofString "=29") 361, Value.str (Str.ofString "*") 1246, Value.str (Str.ofString "+") 1249, Value.str (Str.ofString "=2C") 373,
          Value.str (Str.ofString "-") 1240, Value.str (Str.ofString "=2E") 381, Value.str (Str.ofString "/") 1252, Value.str (Str.ofString "=30") 389, Value.str (Str.ofString "=31") 393,
          Value.str (Str.ofString "=32") 397, Value.str (Str.ofString "=33") 401, Value.str (Str.ofString "=34") 405, Value.str (Str.ofString "=35") 409, Value.str (Str.ofString "=36") 413,
          Value.str (Str.ofString "=37") 417, Value.str (Str.ofString "=38") 421, Value.str (Str.ofString "=39") 425, Value.str (Str.ofString "=3A") 429, Value.str (Str.ofString "=3B") 433,
          Value.str (Str.ofString "=3C") 437, Value.str (Str.ofString "=3D") 441, Value.str (Str.ofString "=3E") 445, Value.str (Str.ofString "=3F") 449, Value.str (Str.ofString "=40") 453,
          Value.str (Str.ofString "A") 1333, Value.str (Str.ofString "B") 1336, Value.str (Str.ofString "C") 1339, Value.str (Str.ofString "D") 1342, Value.str (Str.ofString "E") 1345,
          Value.str (Str.ofString "F") 1348, Value.str (Str.ofString "G") 1351, Value.str (Str.ofString "H") 1354, Value.str (Str.ofString "I") 1357, Value.str (Str.ofString "J") 1360,
          Value.str (Str.ofString "K") 1363, Value.str (Str.ofString "L") 1366, Value.str (Str.ofString "M") 1369, Value.str (Str.ofString "N") 1372, Value.str (Str.ofString "O") 1375,
          Value.str (Str.ofString "=50") 517, Value.str (Str.ofString "=51") 521, Value.str (Str.ofString "=52") 525, Value.str (Str.ofString "=53") 529, Value.str (Str.ofString "=54") 533,
          Value.str (Str.ofString "=55") 537, Value.str (Str.ofString "=56") 541, Value.str (Str.ofString "=57") 545, Value.str (Str.ofString "=58") 549, Value.str (Str.ofString "=59") 553,
          Value.str (Str.ofString "=5A") 557, Value.str (Str.ofString "=5B") 561, Value.str (Str.ofString "=5C") 565, Value.str (Str.ofString "=5D") 569, Value.str (Str.ofString "=5E") 573,
          Value.str (Str.ofString "=5F") 577, Value.str (Str.ofString "=60") 581, Value.str (Str.ofString "a") 1255, Value.str (Str.ofString "b") 1258, Value.str (Str.ofString "c") 1261,
          Value.str (Str.ofString "d") 1264, Value.str (Str.ofString "e") 1267, Value.str (Str.ofString "f") 1270, Value.str (Str.ofString "g") 1273, Value.str (Str.ofString "h") 1276,
          Value.str (Str.ofString "i") 1279, Value.str (Str.ofString "j") 1282, Value.str (Str.ofString "k") 1285, Value.str (Str.ofString "l") 1288, Value.str (Str.ofString "m") 1291,
          Value.str (Str.ofString "n") 1294, Value.str (Str.ofString "o") 1297, Value.str (Str.ofString "p") 1300, Value.str (Str.ofString "q") 1303, Value.str (Str.ofString "r") 1306,
          Value.str (Str.ofString "s") 1309, Value.str (Str.ofString "t") 1312, Value.str (Str.ofString "u") 1315, Value.str (Str.ofString "v") 1318, Value.str (Str.ofString "w") 1321,
          Value.str (Str.ofString "x") 1324, Value.str (Str.ofString "y") 1327, Value.str (Str.ofString "z") 1330, Value.str (Str.ofString "=7B") 689, Value.str (Str.ofString "=7C") 693,
          Value.str (Str.ofString "=7D") 697, Value.str (Str.ofString "=7E") 701, Value.str (Str.ofString "=7F") 705, Value.str (Str.ofString "=80") 709, Value.str (Str.ofString "=81") 713,
          Value.str (Str.ofString "=82") 717, Value.str (Str.ofString "=83") 721, Value.str (Str.ofString "=84") 725, Value.str (Str.ofString "=85") 729, Value.str (Str.ofString "=86") 733,
          Value.str (Str.ofString "=87") 737, Value.str (Str.ofString "=88") 741, Value.str (Str.ofString "=89") 745, Value.str (Str.ofString "=8A") 749, Value.str (Str.ofString "=8B") 753,
          Value.str (Str.ofString "=8C") 757, Value.str (Str.ofString "=8D") 761, Value.str (Str.ofString "=8E") 765, Value.str (Str.ofString "=8F") 769, Value.str (Str.ofString "=90") 773,
          Value.str (Str.ofString "=91") 777, Value.str (Str.ofString "=92") 781, Value.str (Str.ofString "=93") 785, Value.str (Str.ofString "=94") 789, Value.str (Str.ofString "=95") 793,
          Value.str (Str.ofString "=96") 797, Value.str (Str.ofString "=97") 801, Value.str (Str.ofString "=98") 805, Value.str (Str.ofString "=99") 809, Value.str (Str.ofString "=9A") 813,
          Value.str (Str.ofString "=9B") 817, Value.str (Str.ofString "=9C") 821, Value.str (Str.ofString "=9D") 825, Value.str (Str.ofString "=9E") 829, Value.str (Str.ofString "=9F") 833,
          Value.str (Str.ofString "=A0") 837, Value.str (Str.ofString "=A1") 841, Value.str (Str.ofString "=A2") 845, Value.str (Str.ofString "=A3") 849, Value.str (Str.ofString "=A4") 853,
          Value.str (Str.ofString "=A5") 857, Value.str (Str.ofString "=A6") 861, Value.str (Str.ofString "=A7") 865, Value.str (Str.ofString "=A8") 869, Value.str (Str.ofString "=A9") 873,
          Value.str (Str.ofString "=AA") 877, Value.str (Str.ofString "=AB") 881, Value.str (Str.ofString "=AC") 885, Value.str (Str.ofString "=AD") 889, Value.str (Str.ofString "=AE") 893,
          Value.str (Str.ofString "=AF") 897, Value.str (Str.ofString "=B0") 901, Value.str (Str.ofString "=B1") 905, Value.str (Str.ofString "=B2") 909, Value.str (Str.ofString "=B3") 913,
          Value.str (Str.ofString "=B4") 917, Value.str (Str.ofString "=B5") 921, Value.str (Str.ofString "=B6") 925, Value.str (Str.ofString "=B7") 929, Value.str (Str.ofString "=B8") 933,
          Value.str (Str.ofString "=B9") 937, Value.str (Str.ofString "=BA") 941, Value.str (Str.ofString "=BB") 945, Value.str (Str.ofString "=BC") 949, Value.str (Str.ofString "=BD") 953,
          Value.str (Str.ofString "=BE") 957, Value.str (Str.ofString "=BF") 961, Value.str (Str.ofString "=C0") 965, Value.str (Str.ofString "=C1") 969, Value.str (Str.ofString "=C2") 973,
          Value.str (Str.ofString "=C3") 977, Value.str (Str.ofString "=C4") 981, Value.str (Str.ofString "=C5") 985, Value.str (Str.ofString "=C6") 989, Value.str (Str.ofString "=C7") 993,
          Value.str (Str.ofString "=C8") 997, Value.str (Str.ofString "=C9") 1001, Value.str (Str.ofString "=CA") 1005, Value.str (Str.ofString "=CB") 1009, Value.str (Str.ofString "=CC") 1013,
          Value.str (Str.ofString "=CD") 1017, Value.str (Str.ofString "=CE") 1021, Value.str (Str.ofString "=CF") 1025, Value.str (Str.ofString "=D0") 1029, Value.str (Str.ofString "=D1") 1033,
          Value.str (Str.ofString "=D2") 1037, Value.str (Str.ofString "=D3") 1041, Value.str (Str.ofString "=D4") 1045, Value.str (Str.ofString "=D5") 1049, Value.str (Str.ofString "=D6") 1053,
          Value.str (Str.ofString "=D7") 1057, Value.str (Str.ofString "=D8") 1061, Value.str (Str.ofString "=D9") 1065, Value.str (Str.ofString "=DA") 1069, Value.str (Str.ofString "=DB") 1073,
          Value.str (Str.ofString "=DC") 1077, Value.str (Str.ofString "=DD") 1081, Value.str (Str.ofString "=DE") 1085, Value.str (Str.ofString "=DF") 1089, Value.str (Str.ofString "=E0") 1093,
          Value.str (Str.ofString "=E1") 1097, Value.str (Str.ofString "=E2") 1101, Value.str (Str.ofString "=E3") 1105, Value.str (Str.ofString "=E4") 1109, Value.str (Str.ofString "=E5") 1113,
          Value.str (Str.ofString "=E6") 1117, Value.str (Str.ofString "=E7") 1121, Value.str (Str.ofString "=E8") 1125, Value.str (Str.ofString "=E9") 1129, Value.str (Str.ofString "=EA") 1133,
          Value.str (Str.ofString "=EB") 1137, Value.str (Str.ofString "=EC") 1141, Value.str (Str.ofString "=ED") 1145, Value.str (Str.ofString "=EE") 1149, Value.str (Str.ofString "=EF") 1153,
          Value.str (Str.ofString "=F0") 1157, Value.str (Str.ofString "=F1") 1161, Value.str (Str.ofString "=F2") 1165, Value.str (Str.ofString "=F3") 1169, Value.str (Str.ofString "=F4") 1173,
          Value.str (Str.ofString "=F5") 1177, Value.str (Str.ofString "=F6") 1181, Value.str (Str.ofString "=F7") 1185, Value.str (Str.ofString "=F8") 1189, Value.str (Str.ofString "=F9") 1193,
          Value.str (Str.ofString "=FA") 1197, Value.str (Str.ofString "=FB") 1201, Value.str (Str.ofString "=FC") 1205, Value.str (Str.ofString "=FD") 1209, Value.str (Str.ofString "=FE") 1213,
          Value.str (Str.ofString "=FF") 1217] }
noncomputable def x10_2_25 (P : Params) : Obj :=
  { cls := Value.type "bytes_iterator",
    data :=
      Data.fields
        #[Value.bytes
            #[45, 33, 42, 43, 47, 97, 98, 99, 100, 101, 102, 103, 104, 105, 106, 107, 108, 109, 110, 111, 112, 113, 114, 115, 116, 117, 118, 119, 120, 121, 122, 65, 66, 67, 68, 69, 70, 71, 72, 73, 74,
              75, 76, 77, 78, 79, 80, 81, 82, 83, 84, 85, 86, 87, 88, 89, 90, 48, 49, 50, 51, 52, 53, 54, 55, 56, 57]
            1237,
          Value.int 46 0] }
noncomputable def tr10_2 (P : Params) : BT := BT.node (o_42 P) (BT.node (o_43 P) (BT.node (x10_2_3 P) (BT.node (o_49 P) (BT.node (o_62 P) BT.nil BT.nil) (BT.node (o_363 P) BT.nil BT.nil)) (BT.node (o_53 P) (BT.node (o_66 P) BT.nil BT.nil) BT.nil)) (BT.node (o_47 P) (BT.node (o_51 P) (BT.node (o_64 P) BT.nil BT.nil) (BT.node (x10_2_25 P) BT.nil BT.nil)) (BT.node (o_55 P) (BT.node (o_361 P) BT.nil BT.nil) BT.nil))) (BT.node (o_44 P) (BT.node (o_46 P) (BT.node (o_50 P) (BT.node (o_63 P) BT.nil BT.nil) (BT.node (o_364 P) BT.nil BT.nil)) (BT.node (o_54 P) (BT.node (o_67 P) BT.nil BT.nil) BT.nil)) (BT.node (o_48 P) (BT.node (o_52 P) (BT.node (o_65 P) BT.nil BT.nil) BT.nil) (BT.node (o_56 P) (BT.node (x10_2_22 P) BT.nil BT.nil) BT.nil)))
noncomputable def S10_2 (w : World) (os : OsState) : SharedT := st (tr10_2 w.params) 26 1376 os
noncomputable def T10 (w : World) (os : OsState) : Thread := match GOT (wr1 w false) 89 (st (tree_364 w.params) 25 1231 os) (piecesOf (cut 10 1) EV CE { line := 10, col := 0, endLine := 10, endCol := 8 } BB) with | some (_, t) => t | none => piecesOf [] EV CE { line := 10, col := 0, endLine := 10, endCol := 8 } BB
theorem g3a_f (w : World) : (fun os => segGoT treeTable PR (wr1 w false) 11 (some (Value.ref 6)) 1 89 (st (tree_364 (wr1 w false).params) 25 1231 os) (piecesOf (cut 10 1) EV CE { line := 10, col := 0, endLine := 10, endCol := 8 } BB)) = fun os => some (S10_0 (wr1 w false) os, T10 (wr1 w false) os) := by
  rw [PySem.W.Fast.te10295753902157049106, PySem.W.Fast.te14364793385576792824]
  kernel_rfl
theorem g3a_t (w : World) : (fun os => segGoT treeTable PR (wr1 w true) 11 (some (Value.ref 6)) 1 89 (st (tree_364 (wr1 w true).params) 25 1231 os) (piecesOf (cut 10 1) EV CE { line := 10, col := 0, endLine := 10, endCol := 8 } BB)) = fun os => some (S10_0 (wr1 w true) os, T10 (wr1 w true) os) := by
  rw [PySem.W.Fast.te10295753902157049106, PySem.W.Fast.te14364793385576792824]
  kernel_rfl
theorem g3c_0 (w : World) : (fun os => segGoT treeTable PR w 11 (some (Value.ref 6)) 1 1035 (S10_0 w os) (T10 w os)) = fun os => some (S10_1 w os, T10 w os) := by
  rw [PySem.W.Fast.te10295753902157049106, PySem.W.Fast.te14364793385576792824]
  kernel_rfl
theorem g3c_1 (w : World) : (fun os => segGoT treeTable PR w 11 (some (Value.ref 6)) 1 990 (S10_1 w os) (T10 w os)) = fun os => some (S10_2 w os, T10 w os) := by
  rw [PySem.W.Fast.te10295753902157049106, PySem.W.Fast.te14364793385576792824]
  kernel_rfl
theorem g3d (w : World) : (fun os => segRunT treeTable PR w 11 (some (Value.ref 6)) 1 963 (S10_2 w os) (T10 w os)) = fun os => some (Flow.next, st (tree_369 w.params) 28 1439 os, CE, { line := 11, col := 9, endLine := 11, endCol := 74 }) := by
  rw [PySem.W.Fast.te10110043849684766642, PySem.W.Fast.te14364793385576792824]
  kernel_rfl
theorem g3e (w : World) (os : OsState) : segRunT treeTable PR w 11 (some (Value.ref 6)) 1 2988 (S10_0 w os) (T10 w os) = some (Flow.next, st (tree_369 w.params) 28 1439 os, CE, { line := 11, col := 9, endLine := 11, endCol := 74 }) :=
  seg_cat_ (congrFun (g3c_0 w) os) (seg_cat_ (congrFun (g3c_1 w) os) (congrFun (g3d w) os) (rfl : 990 + 963 = 1953)) (rfl : 1035 + 1953 = 2988)
theorem g3_f (w : World) : G3 (wr1 w false) := funext fun os => seg_cat_ (congrFun (g3a_f w) os) (g3e (wr1 w false) os) (rfl : 89 + 2988 = 3077)
theorem g3_t (w : World) : G3 (wr1 w true) := funext fun os => seg_cat_ (congrFun (g3a_t w) os) (g3e (wr1 w true) os) (rfl : 89 + 2988 = 3077)
theorem g3 (w : World) : G3 w := byRow2 "special-get-raises" g3_f g3_t w
def G4 (w : World) : Prop := (fun os => segRunT treeTable PR w 11 (some (Value.ref 6)) 1 25 (st (tree_369 w.params) 28 1439 os) (piecesOf (cut 11 1) EV CE { line := 11, col := 9, endLine := 11, endCol := 74 } BB)) = fun os => some (Flow.next, st (tree_378 w.params) 28 1442 os, CE, { line := 13, col := 0, endLine := 13, endCol := 28 })
theorem g4 (w : World) : G4 w := by
  unfold G4
  rw [PySem.W.Fast.te10110043849684766642, PySem.W.Fast.te14364793385576792824]
  kernel_rfl
def G5 (w : World) : Prop := (fun os => segRunT treeTable PR w 11 (some (Value.ref 6)) 1 4303 (st (tree_378 w.params) 28 1442 os) (piecesOf (cut 12 1) EV CE { line := 13, col := 0, endLine := 13, endCol := 28 } BB)) = fun os => some (Flow.next, st (tree_384 w.params) 31 1728 os, CE, { line := 14, col := 9, endLine := 14, endCol := 110 })
noncomputable def x12_0_3 (P : Params) : Obj :=
  { cls := Value.type "dict",
    data :=
      Data.dict
        #[{ hash := PyData.keyHash P (Str.ofString "__name__"), key := Value.str (Str.ofString "__name__") 165, val := Value.str (Str.ofString "cpy313.email.quoprimime") 1229 },
          { hash := PyData.keyHash P (Str.ofString "__doc__"), key := Value.str (Str.ofString "__doc__") 166, val := Value.none },
          { hash := PyData.keyHash P (Str.ofString "__package__"), key := Value.str (Str.ofString "__package__") 167, val := Value.none },
          { hash := PyData.keyHash P (Str.ofString "__loader__"), key := Value.str (Str.ofString "__loader__") 168, val := Value.builtin "__main__.__loader__#opaque" },
          { hash := PyData.keyHash P (Str.ofString "__spec__"), key := Value.str (Str.ofString "__spec__") 169, val := Value.none },
          { hash := PyData.keyHash P (Str.ofString "__annotations__"), key := Value.str (Str.ofString "__annotations__") 170, val := Value.ref 6 },
          { hash := PyData.keyHash P (Str.ofString "__builtins__"), key := Value.str (Str.ofString "__builtins__") 171, val := Value.ref 4 },
          { hash := PyData.keyHash P (Str.ofString "__file__"), key := Value.str (Str.ofString "__file__") 173, val := Value.str (Str.ofString "/claim/cut.py") 172 },
          { hash := PyData.keyHash P (Str.ofString "__cached__"), key := Value.str (Str.ofString "__cached__") 174, val := Value.none },
          { hash := PyData.keyHash P (Str.ofString "CRLF"), key := Value.str (Str.ofString "CRLF") 188, val := Value.str (Str.ofString "\x0d\n") 187 },
          { hash := PyData.keyHash P (Str.ofString "NL"), key := Value.str (Str.ofString "NL") 190, val := Value.str (Str.ofString "\n") 189 },
          { hash := PyData.keyHash P (Str.ofString "_QUOPRI_MAP"), key := Value.str (Str.ofString "_QUOPRI_MAP") 1218, val := Value.ref 17 },
          { hash := PyData.keyHash P (Str.ofString "_QUOPRI_HEADER_MAP"), key := Value.str (Str.ofString "_QUOPRI_HEADER_MAP") 1219, val := Value.ref 22 },
          { hash := PyData.keyHash P (Str.ofString "_QUOPRI_BODY_MAP"), key := Value.str (Str.ofString "_QUOPRI_BODY_MAP") 1220, val := Value.ref 24 },
          { hash := PyData.keyHash P (Str.ofString "ascii_lowercase"), key := Value.str (Str.ofString "ascii_lowercase") 1222, val := Value.str (Str.ofString "abcdefghijklmnopqrstuvwxyz") 1221 },
          { hash := PyData.keyHash P (Str.ofString "ascii_uppercase"), key := Value.str (Str.ofString "ascii_uppercase") 1224, val := Value.str (Str.ofString "ABCDEFGHIJKLMNOPQRSTUVWXYZ") 1223 },
          { hash := PyData.keyHash P (Str.ofString "ascii_letters"), key := Value.str (Str.ofString "ascii_letters") 1226,
            val := Value.str (Str.ofString "abcdefghijklmnopqrstuvwxyzABCDEFGHIJKLMNOPQRSTUVWXYZ") 1225 },
          { hash := PyData.keyHash P (Str.ofString "digits"), key := Value.str (Str.ofString "digits") 1228, val := Value.str (Str.ofString "0123456789") 1227 },
          { hash := PyData.keyHash P (Str.ofString "c"), key := Value.str (Str.ofString "c") 1239, val := Value.int 32 1443 }]
        19 }
noncomputable def x12_0_24 (P : Params) : Obj :=
  { cls := Value.type "list",
    data :=
      Data.seq
        #[Value.str (Str.ofString "=00") 197, Value.str (Str.ofString "=01") 201, Value.str (Str.ofString "=02") 205, Value.str (Str.ofString "=03") 209, Value.str (Str.ofString "=04") 213,
          Value.str (Str.ofString "=05") 217, Value.str (Str.ofString "=06") 221, Value.str (Str.ofString "=07") 225, Value.str (Str.ofString "=08") 229, Value.str (Str.ofString "=09") 233,
          Value.str (Str.ofString "=0A") 237, Value.str (Str.ofString "=0B") 241, Value.str (Str.ofString "=0C") 245, Value.str (Str.ofString "=0D") 249, Value.str (Str.ofString "=0E") 253,
          Value.str (Str.ofString "=0F") 257, Value.str (Str.ofString "=10") 261, Value.str (Str.ofString "=11") 265, Value.str (Str.ofString "=12") 269, Value.str (Str.ofString "=13") 273,
          Value.str (Str.ofString "=14") 277, Value.str (Str.ofString "=15") 281, Value.str (Str.ofString "=16") 285, Value.str (Str.ofString "=17") 289, Value.str (Str.ofString "=18") 293,
          Value.str (Str.ofString "=19") 297, Value.str (Str.ofString "=1A") 301, Value.str (Str.ofString "=1B") 305, Value.str (Str.ofString "=1C") 309, Value.str (Str.ofString "=1D") 313,
          Value.str (Str.ofString "=1E") 317, Value.str (Str.ofString "=1F") 321, Value.str (Str.ofString " ") 1445, Value.str (Str.ofString "=21") 329, Value.str (Str.ofString "=22") 333,
          Value.str (Str.ofString "=23") 337, Value.str (Str.ofString "=24") 341, Value.str (Str.ofString "=25") 345, Value.str (Str.ofString "=26") 349, Value.str (Str.ofString "=27") 353,
          Value.str (Str.ofString "=28") 357, Value.str (Str.ofString "=29") 361, Value.str (Str.ofString "=2A") 365, Value.str (Str.ofString "=2B") 369, Value.str (Str.ofString "=2C") 373,
          Value.str (Str.ofString "=2D") 377, Value.str (Str.ofString "=2E") 381, Value.str (Str.ofString "=2F") 385, Value.str (Str.ofString "=30") 389, Value.str (Str.ofString "=31") 393,
          Value.str (Str.ofString "=32") 397, Value.str (Str.ofString "=33") 401, Value.str (Str.ofString "=34") 405, Value.str (Str.ofString "=35") 409, Value.str (Str.ofString "=36") 413,
          Value.str (Str.ofString "=37") 417, Value.str (Str.ofString "=38") 421, Value.str (Str.ofString "=39") 425, Value.str (Str.ofString "=3A") 429, Value.str (Str.ofString "=3B") 433,
          Value.str (Str.ofString "=3C") 437, Value.str (Str.ofString "=3D") 441, Value.str (Str.ofString "=3E") 445, Value.str (Str.ofString "=3F") 449, Value.str (Str.ofString "=40") 453,
          Value.str (Str.ofString "=41") 457, Value.str (Str.ofString "=42") 461, Value.str (Str.ofString "=43") 465, Value.str (Str.ofString "=44") 469, Value.str (Str.ofString "=45") 473,
          Value.str (Str.ofString "=46") 477, Value.str (Str.ofString "=47") 481, Value.str (Str.ofString "=48") 485, Value.str (Str.ofString "=49") 489, Value.str (Str.ofString "=4A") 493,
          Value.str (Str.ofString "=4B") 497, Value.str (Str.ofString "=4C") 501, Value.str (Str.ofString "=4D") 505, Value.str (Str.ofString "=4E") 509, Value.str (Str.ofString "=4F") 513,
          Value.str (Str.ofString "=50") 517, Value.str (Str.ofString "=51") 521, Value.str (Str.ofString "=52") 525, Value.str (Str.ofString "=53") 529, Value.str (Str.ofString "=54") 533,
          Value.str (Str.ofString "=55") 537, Value.str (Str.ofString "=56") 541, Value.str (Str.ofString "=57") 545, Value.str (Str.ofString "=58") 549, Value.str (Str.ofString "=59") 553,
          Value.str (Str.ofString "=5A") 557, Value.str (Str.ofString "=5B") 561, Value.str (Str.ofString "=5C") 565, Value.str (Str.ofString "=5D") 569, Value.str (Str.ofString "=5E") 573,
          Value.str (Str.ofString "=5F") 577, Value.str (Str.ofString "=60") 581, Value.str (Str.ofString "=61") 585, Value.str (Str.ofString "=62") 589, Value.str (Str.ofString "=63") 593,
          Value.str (Str.ofString "=64") 597, Value.str (Str.ofString "=65") 601, Value.str (Str.ofString "=66") 605, Value.str (Str.ofString "=67") 609, Value.str (Str.ofString "=68") 613,
          Value.str (Str.ofString "=69") 617, Value.str (Str.ofString "=6A") 621, Value.str (Str.ofString "=6B") 625, Value.str (Str.ofString "=6C") 629, Value.str (Str.ofString "=6D") 633,
          Value.str (Str.ofString "=6E") 637, Value.str (Str.ofString "=6F") 641, Value.str (Str.ofString "=70") 645, Value.str (Str.ofString "=71") 649, Value.str (Str.ofString "=72") 653,
          Value.str (Str.ofString "=73") 657, Value.str (Str.ofString "=74") 661, Value.str (Str.ofString "=75") 665, Value.str (Str.ofString "=76") 669, Value.str (Str.ofString "=77") 673,
          Value.str (Str.ofString "=78") 677, Value.str (Str.ofString "=79") 681, Value.str (Str.ofString "=7A") 685, Value.str (Str.ofString "=7B") 689, Value.str (Str.ofString "=7C") 693,
          Value.str (Str.ofString "=7D") 697, Value.str (Str.ofString "=7E") 701, Value.str (Str.ofString "=7F") 705, Value.str (Str.ofString "=80") 709, Value.str (Str.ofString "=81") 713,
          Value.str (Str.ofString "=82") 717, Value.str (Str.ofString "=83") 721, Value.str (Str.ofString "=84") 725, Value.str (Str.ofString "=85") 729, Value.str (Str.ofString "=86") 733,
          Value.str (Str.ofString "=87") 737, Value.str (Str.ofString "=88") 741, Value.str (Str.ofString "=89") 745, Value.str (Str.ofString "=8A") 749, Value.str (Str.ofString "=8B") 753,
          Value.str (Str.ofString "=8C") 757, Value.str (Str.ofString "=8D") 761, Value.str (Str.ofString "=8E") 765, Value.str (Str.ofString "=8F") 769, Value.str (Str.ofString "=90") 773,
          Value.str (Str.ofString "=91") 777, Value.str (Str.ofString "=92") 781, Value.str (Str.ofString "=93") 785, Value.str (Str.ofString "=94") 789, Value.str (Str.ofString "=95") 793,
          Value.str (Str.ofString "=96") 797, Value.str (Str.ofString "=97") 801, Value.str (Str.ofString "=98") 805, Value.str (Str.ofString "=99") 809, Value.str (Str.ofString "=9A") 813,
          Value.str (Str.ofString "=9B") 817, Value.str (Str.ofString "=9C") 821, Value.str (Str.ofString "=9D") 825, Value.str (Str.ofString "=9E") 829, Value.str (Str.ofString "=9F") 833,
          Value.str (Str.ofString "=A0") 837, Value.str (Str.ofString "=A1") 841, Value.str (Str.ofString "=A2") 845, Value.str (Str.ofString "=A3") 849, Value.str (Str.ofString "=A4") 853,
          Value.str (Str.ofString "=A5") 857, Value.str (Str.ofString "=A6") 861, Value.str (Str.ofString "=A7") 865, Value.str (Str.ofString "=A8") 869, Value.str (Str.ofString "=A9") 873,
          Value.str (Str.ofString "=AA") 877, Value.str (Str.ofString "=AB") 881, Value.str (Str.ofString "=AC") 885, Value.str (Str.ofString "=AD") 889, Value.str (Str.ofString "=AE") 893,
          Value.str (Str.ofString "=AF") 897, Value.str (Str.ofString "=B0") 901, Value.str (Str.ofString "=B1") 905, Value.str (Str.ofString "=B2") 909, Value.str (Str.ofString "=B3") 913,
          Value.str (Str.ofString "=B4") 917, Value.str (Str.ofString "=B5") 921, Value.str (Str.ofString "=B6") 925, Value.str (Str.ofString "=B7") 929, Value.str (Str.ofString "=B8") 933,
          Value.str (Str.ofString "=B9") 937, Value.str (Str.ofString "=BA") 941, Value.str (Str.ofString "=BB") 945, Value.str (Str.ofString "=BC") 949, Value.str (Str.ofString "=BD") 953,
          Value.str (Str.ofString "=BE") 957, Value.str (Str.ofString "=BF") 961, Value.str (Str.ofString "=C0") 965, Value.str (Str.ofString "=C1") 969, Value.str (Str.ofString "=C2") 973,
          Value.str (Str.ofString "=C3") 977, Value.str (Str.ofString "=C4") 981, Value.str (Str.ofString "=C5") 985, Value.str (Str.ofString "=C6") 989, Value.str (Str.ofString "=C7") 993,
          Value.str (Str.ofString "=C8") 997, Value.str (Str.ofString "=C9") 1001, Value.str (Str.ofString "=CA") 1005, Value.str (Str.ofString "=CB") 1009, Value.str (Str.ofString "=CC") 1013,
          Value.str (Str.ofString "=CD") 1017, Value.str (Str.ofString "=CE") 1021, Value.str (Str.ofString "=CF") 1025, Value.str (Str.ofString "=D0") 1029, Value.str (Str.ofString "=D1") 1033,
          Value.str (Str.ofString "=D2") 1037, Value.str (Str.ofString "=D3") 1041, Value.str (Str.ofString "=D4") 1045, Value.str (Str.ofString "=D5") 1049, Value.str (Str.ofString "=D6") 1053,
          Value.str (Str.ofString "=D7") 1057, Value.str (Str.ofString "=D8") 1061, Value.str (Str.ofString "=D9") 1065, Value.str (Str.ofString "=DA") 1069, Value.str (Str.ofString "=DB") 1073,
          Value.str (Str.ofString "=DC") 1077, Value.str (Str.ofString "=DD") 1081, Value.str (Str.ofString "=DE") 1085, Value.str (Str.ofString "=DF") 1089, Value.str (Str.ofString "=E0") 1093,
          Value.str (Str.ofString "=E1") 1097, Value.str (Str.ofString "=E2") 1101, Value.str (Str.ofString "=E3") 1105, Value.str (Str.ofString "=E4") 1109, Value.str (Str.ofString "=E5") 1113,
          Value.str (Str.ofString "=E6") 1117, Value.str (Str.ofString "=E7") 1121, Value.str (Str.ofString "=E8") 1125, Value.str (Str.ofString "=E9") 1129, Value.str (Str.ofString "=EA") 1133,
          Value.str (Str.ofString "=EB") 1137, Value.str (Str.ofString "=EC") 1141, Value.str (Str.ofString "=ED") 1145, Value.str (Str.ofString "=EE") 1149, Value.str (Str.ofString "=EF") 1153,
          Value.str (Str.ofString "=F0") 1157, Value.str (Str.ofString "=F1") 1161, Value.str (Str.ofString "=F2") 1165, Value.str (Str.ofString "=F3") 1169, Value.str (Str.ofString "=F4") 1173,
          Value.str (Str.ofString "=F5") 1177, Value.str (Str.ofString "=F6") 1181, Value.str (Str.ofString "=F7") 1185, Value.str (Str.ofString "=F8") 1189, Value.str (Str.ofString "=F9") 1193,
          Value.str (Str.ofString "=FA") 1197, Value.str (Str.ofString "=FB") 1201, Value.str (Str.ofString "=FC") 1205, Value.str (Str.ofString "=FD") 1209, Value.str (Str.ofString "=FE") 1213,
          Value.str (Str.ofString "=FF") 1217] }
noncomputable def x12_0_28 (P : Params) : Obj :=
  { cls := Value.type "bytes_iterator",
    data :=
      Data.fields
        #[Value.bytes
            #[32, 33, 34, 35, 36, 37, 38, 39, 40, 41, 42, 43, 44, 45, 46, 47, 48, 49, 50, 51, 52, 53, 54, 55, 56, 57, 58, 59, 60, 62, 63, 64, 65, 66, 67, 68, 69, 70, 71, 72, 73, 74, 75, 76, 77, 78, 79,
              80, 81, 82, 83, 84, 85, 86, 87, 88, 89, 90, 91, 92, 93, 94, 95, 96, 97, 98, 99, 100, 101, 102, 103, 104, 105, 106, 107, 108, 109, 110, 111, 112, 113, 114, 115, 116, 117, 118, 119, 120,
              121, 122, 123, 124, 125, 126, 9]
            1442,
          Value.int 1 0] }
noncomputable def tr12_0 (P : Params) : BT := BT.node (o_42 P) (BT.node (o_43 P) (BT.node (x12_0_3 P) (BT.node (o_49 P) (BT.node (o_62 P) BT.nil BT.nil) (BT.node (o_363 P) BT.nil BT.nil)) (BT.node (o_53 P) (BT.node (o_66 P) BT.nil BT.nil) (BT.node (o_369 P) BT.nil BT.nil))) (BT.node (o_47 P) (BT.node (o_51 P) (BT.node (o_64 P) BT.nil BT.nil) (BT.node (o_367 P) BT.nil BT.nil)) (BT.node (o_55 P) (BT.node (o_361 P) BT.nil BT.nil) BT.nil))) (BT.node (o_44 P) (BT.node (o_46 P) (BT.node (o_50 P) (BT.node (o_63 P) BT.nil BT.nil) (BT.node (x12_0_24 P) BT.nil BT.nil)) (BT.node (o_54 P) (BT.node (o_67 P) BT.nil BT.nil) (BT.node (x12_0_28 P) BT.nil BT.nil))) (BT.node (o_48 P) (BT.node (o_52 P) (BT.node (o_65 P) BT.nil BT.nil) (BT.node (o_368 P) BT.nil BT.nil)) (BT.node (o_56 P) (BT.node (o_378 P) BT.nil BT.nil) BT.nil)))
noncomputable def S12_0 (w : World) (os : OsState) : SharedT := st (tr12_0 w.params) 29 1446 os
noncomputable def x12_1_3 (P : Params) : Obj :=
  { cls := Value.type "dict",
    data :=
      Data.dict
        #[{ hash := PyData.keyHash P (Str.ofString "__name__"), key := Value.str (Str.ofString "__name__") 165, val := Value.str (Str.ofString "cpy313.email.quoprimime") 1229 },
          { hash := PyData.keyHash P (Str.ofString "__doc__"), key := Value.str (Str.ofString "__doc__") 166, val := Value.none },
          { hash := PyData.keyHash P (Str.ofString "__package__"), key := Value.str (Str.ofString "__package__") 167, val := Value.none },
          { hash := PyData.keyHash P (Str.ofString "__loader__"), key := Value.str (Str.ofString "__loader__") 168, val := Value.builtin "__main__.__loader__#opaque" },
          { hash := PyData.keyHash P (Str.ofString "__spec__"), key := Value.str (Str.ofString "__spec__") 169, val := Value.none },
          { hash := PyData.keyHash P (Str.ofString "__annotations__"), key := Value.str (Str.ofString "__annotations__") 170, val := Value.ref 6 },
          { hash := PyData.keyHash P (Str.ofString "__builtins__"), key := Value.str (Str.ofString "__builtins__") 171, val := Value.ref 4 },
          { hash := PyData.keyHash P (Str.ofString "__file__"), key := Value.str (Str.ofString "__file__") 173, val := Value.str (Str.ofString "/claim/cut.py") 172 },
          { hash := PyData.keyHash P (Str.ofString "__cached__"), key := Value.str (Str.ofString "__cached__") 174, val := Value.none },
          { hash := PyData.keyHash P (Str.ofString "CRLF"), key := Value.str (Str.ofString "CRLF") 188, val := Value.str (Str.ofString "\x0d\n") 187 },
          { hash := PyData.keyHash P (Str.ofString "NL"), key := Value.str (Str.ofString "NL") 190, val := Value.str (Str.ofString "\n") 189 },
          { hash := PyData.keyHash P (Str.ofString "_QUOPRI_MAP"), key := Value.str (Str.ofString "_QUOPRI_MAP") 1218, val := Value.ref 17 },
          { hash := PyData.keyHash P (Str.ofString "_QUOPRI_HEADER_MAP"), key := Value.str (Str.ofString "_QUOPRI_HEADER_MAP") 1219, val := Value.ref 22 },
          { hash := PyData.keyHash P (Str.ofString "_QUOPRI_BODY_MAP"), key := Value.str (Str.ofString "_QUOPRI_BODY_MAP") 1220, val := Value.ref 24 },
          { hash := PyData.keyHash P (Str.ofString "ascii_lowercase"), key := Value.str (Str.ofString "ascii_lowercase") 1222, val := Value.str (Str.ofString "abcdefghijklmnopqrstuvwxyz") 1221 },
          { hash := PyData.keyHash P (Str.ofString "ascii_uppercase"), key := Value.str (Str.ofString "ascii_uppercase") 1224, val := Value.str (Str.ofString "ABCDEFGHIJKLMNOPQRSTUVWXYZ") 1223 },
          { hash := PyData.keyHash P (Str.ofString "ascii_letters"), key := Value.str (Str.ofString "ascii_letters") 1226,
            val := Value.str (Str.ofString "abcdefghijklmnopqrstuvwxyzABCDEFGHIJKLMNOPQRSTUVWXYZ") 1225 },
          { hash := PyData.keyHash P (Str.ofString "digits"), key := Value.str (Str.ofString "digits") 1228, val := Value.str (Str.ofString "0123456789") 1227 },
          { hash := PyData.keyHash P (Str.ofString "c"), key := Value.str (Str.ofString "c") 1239, val := Value.int 56 1515 }]
        19 }
noncomputable def x12_1_24 (P : Params) : Obj :=
  { cls := Value.type "list",
    data :=
      Data.seq
        #[Value.str (Str.ofString "=00") 197, Value.str (Str.ofString "=01") 201, Value.str (Str.ofString "=02") 205, Value.str (Str.ofString "=03") 209, Value.str (Str.ofString "=04") 213,
          Value.str (Str.ofString "=05") 217, Value.str (Str.ofString "=06") 221, Value.str (Str.ofString "=07") 225, Value.str (Str.ofString "=08") 229, Value.str (Str.ofString "=09") 233,
          Value.str (Str.ofString "=0A") 237, Value.str (Str.ofString "=0B") 241, Value.str (Str.ofString "=0C") 245, Value.str (Str.ofString "=0D") 249, Value.str (Str.ofString "=0E") 253,
          Value.str (Str.ofString "=0F") 257, Value.str (Str.ofString "=10") 261, Value.str (Str.ofString "=11") 265, Value.str (Str.ofString "=12") 269, Value.str (Str.ofString "=13") 273,
          Value.str (Str.ofString "=14") 277, Value.str (Str.ofString "=15") 281, Value.str (Str.ofString "=16") 285, Value.str (Str.ofString "=17") 289, Value.str (Str.ofString "=18") 293,
          Value.str (Str.ofString "=19") 297, Value.str (Str.ofString "=1A") 301, Value.str (Str.ofString "=1B") 305, Value.str (Str.ofString "=1C") 309, Value.str (Str.ofString "=1D") 313,
          Value.str (Str.ofString "=1E") 317, Value.str (Str.ofString "=1F") 321, Value.str (Str.ofString " ") 1445, Value.str (Str.ofString "!") 1448, Value.str (Str.ofString "\"") 1451,
          Value.str (Str.ofString "#") 1454, Value.str (Str.ofString "$") 1457, Value.str (Str.ofString "%") 1460, Value.str (Str.ofString "&") 1463, Value.str (Str.ofString "'") 1466,
          Value.str (Str.ofString "(") 1469, Value.str (Str.ofString ")") 1472, Value.str (Str.ofString "*") 1475, Value.str (Str.ofString "+") 1478, Value.str (Str.ofString ",") 1481,
          Value.str (Str.ofString "-") 1484, Value.str (Str.ofString ".") 1487, Value.str (Str.ofString "/") 1490, Value.str (Str.ofString "0") 1493, Value.str (Str.ofString "1") 1496,
          Value.str (Str.ofString "2") 1499, Value.str (Str.ofString "3") 1502, Value.str (Str.ofString "4") 1505, Value.str (Str.ofString "5") 1508, Value.str (Str.ofString "6") 1511,
          Value.str (Str.ofString "7") 1514, Value.str (Str.ofString "8") 1517, Value.str (Str.ofString "=39") 425, Value.str (Str.ofString "=3A") 429, Value.str (Str.ofString "=3B") 433,
          Value.str (Str.ofString "=3C") 437, Value.str (Str.ofString "=3D") 441, Value.str (Str.ofString "=3E") 445, Value.str (Str.ofString "=3F") 449, Value.str (Str.ofString "=40") 453,
          Value.str (Str.ofString "=41") 457, Value.str (Str.ofString "=42") 461, Value.str (Str.ofString "=43") 465, Value.str (Str.ofString "=44") 469, Value.str (Str.ofString "=45") 473,
          Value.str (Str.ofString "=46") 477, Value.str (Str.ofString "=47") 481, Value.str (Str.ofString "=48") 485, Value.str (Str.ofString "=49") 489, Value.str (Str.ofString "=4A") 493,
          Value.str (Str.ofString "=4B") 497, Value.str (Str.ofString "=4C") 501, Value.str (Str.ofString "=4D") 505, Value.str (Str.ofString "=4E") 509, Value.str (Str.ofString "=4F") 513,
          Value.str (Str.ofString "=50") 517, Value.str (Str.ofString "=51") 521, Value.str (Str.ofString "=52") 525, Value.str (Str.ofString "=53") 529, Value.str (Str.ofString "=54") 533,
          Value.str (Str.ofString "=55") 537, Value.str (Str.ofString "=56") 541, Value.str (Str.ofString "=57") 545, Value.str (Str.ofString "=58") 549, Value.str (Str.ofString "=59") 553,
          Value.str (Str.ofString "=5A") 557, Value.str (Str.ofString "=5B") 561, Value.str (Str.ofString "=5C") 565, Value.str (Str.ofString "=5D") 569, Value.str (Str.ofString "=5E") 573,
          Value.str (Str.ofString "=5F") 577, Value.str (Str.ofString "=60") 581, Value.str (Str.ofString "=61") 585, Value.str (Str.ofString "=62") 589, Value.str (Str.ofString "=63") 593,
          Value.str (Str.ofString "=64") 597, Value.str (Str.ofString "=65") 601, Value.str (Str.ofString "=66") 605, Value.str (Str.ofString "=67") 609, Value.str (Str.ofString "=68") 613,
          Value.str (Str.ofString "=69") 617, Value.str (Str.ofString "=6A") 621, Value.str (Str.ofString "=6B") 625, Value.str (Str.ofString "=6C") 629, Value.str (Str.ofString "=6D") 633,
          Value.str (Str.ofString "=6E") 637, Value.str (Str.ofString "=6F") 641, Value.str (Str.ofString "=70") 645, Value.str (Str.ofString "=71") 649, Value.str (Str.ofString "=72") 653,
          Value.str (Str.ofString "=73") 657, Value.str (Str.ofString "=74") 661, Value.str (Str.ofString "=75") 665, Value.str (Str.ofString "=76") 669, Value.str (Str.ofString "=77") 673,
          Value.str (Str.ofString "=78") 677, Value.str (Str.ofString "=79") 681, Value.str (Str.ofString "=7A") 685, Value.str (Str.ofString "=7B") 689, Value.str (Str.ofString "=7C") 693,
          Value.str (Str.ofString "=7D") 697, Value.str (Str.ofString "=7E") 701, Value.str (Str.ofString "=7F") 705, Value.str (Str.ofString "=80") 709, Value.str (Str.ofString "=81") 713,
          Value.str (Str.ofString "=82") 717, Value.str (Str.ofString "=83") 721, Value.str (Str.ofString "=84") 725, Value.str (Str.ofString "=85") 729, Value.str (Str.ofString "=86") 733,
          Value.str (Str.ofString "=87") 737, Value.str (Str.ofString "=88") 741, Value.str (Str.ofString "=89") 745, Value.str (Str.ofString "=8A") 749, Value.str (Str.ofString "=8B") 753,
          Value.str (Str.ofString "=8C") 757, Value.str (Str.ofString "=8D") 761, Value.str (Str.ofString "=8E") 765, Value.str (Str.ofString "=8F") 769, Value.str (Str.ofString "=90") 773,
          Value.str (Str.ofString "=91") 777, Value.str (Str.ofString "=92") 781, Value.str (Str.ofString "=93") 785, Value.str (Str.ofString "=94") 789, Value.str (Str.ofString "=95") 793,
          Value.str (Str.ofString "=96") 797, Value.str (Str.ofString "=97") 801, Value.str (Str.ofString "=98") 805, Value.str (Str.ofString "=99") 809, Value.str (Str.ofString "=9A") 813,
          Value.str (Str.ofString "=9B") 817, Value.str (Str.ofString "=9C") 821, Value.str (Str.ofString "=9D") 825, Value.str (Str.ofString "=9E") 829, Value.str (Str.ofString "=9F") 833,
          Value.str (Str.ofString "=A0") 837, Value.str (Str.ofString "=A1") 841, Value.str (Str.ofString "=A2") 845, Value.str (Str.ofString "=A3") 849, Value.str (Str.ofString "=A4") 853,
          Value.str (Str.ofString "=A5") 857, Value.str (Str.ofString "=A6") 861, Value.str (Str.ofString "=A7") 865, Value.str (Str.ofString "=A8") 869, Value.str (Str.ofString "=A9") 873,
          Value.str (Str.ofString "=AA") 877, Value.str (Str.ofString "=AB") 881, Value.str (Str.ofString "=AC") 885, Value.str (Str.ofString "=AD") 889, Value.str (Str.ofString "=AE") 893,
          Value.str (Str.ofString "=AF") 897, Value.str (Str.ofString "=B0") 901, Value.str (Str.ofString "=B1") 905, Value.str (Str.ofString "=B2") 909, Value.str (Str.ofString "=B3") 913,
          Value.str (Str.ofString "=B4") 917, Value.str (Str.ofString "=B5") 921, Value.str (Str.ofString "=B6") 925, Value.str (Str.ofString "=B7") 929, Value.str (Str.ofString "=B8") 933,
          Value.str (Str.ofString "=B9") 937, Value.str (Str.ofString "=BA") 941, Value.str (Str.ofString "=BB") 945, Value.str (Str.ofString "=BC") 949, Value.str (Str.ofString "=BD") 953,
          Value.str (Str.ofString "=BE") 957, Value.str (Str.ofString "=BF") 961, Value.str (Str.ofString "=C0") 965, Value.str (Str.ofString "=C1") 969, Value.str (Str.ofString "=C2") 973,
          Value.str (Str.ofString "=C3") 977, Value.str (Str.ofString "=C4") 981, Value.str (Str.ofString "=C5") 985, Value.str (Str.ofString "=C6") 989, Value.str (Str.ofString "=C7") 993,
          Value.str (Str.ofString "=C8") 997, Value.str (Str.ofString "=C9") 1001, Value.str (Str.ofString "=CA") 1005, Value.str (Str.ofString "=CB") 1009, Value.str (Str.ofString "=CC") 1013,
          Value.str (Str.ofString "=CD") 1017, Value.str (Str.ofString "=CE") 1021, Value.str (Str.ofString "=CF") 1025, Value.str (Str.ofString "=D0") 1029, Value.str (Str.ofString "=D1") 1033,
          Value.str (Str.ofString "=D2") 1037, Value.str (Str.ofString "=D3") 1041, Value.str (Str.ofString "=D4") 1045, Value.str (Str.ofString "=D5") 1049, Value.str (Str.ofString "=D6") 1053,
          Value.str (Str.ofString "=D7") 1057, Value.str (Str.ofString "=D8") 1061, Value.str (Str.ofString "=D9") 1065, Value.str (Str.ofString "=DA") 1069, Value.str (Str.ofString "=DB") 1073,
          Value.str (Str.ofString "=DC") 1077, Value.str (Str.ofString "=DD") 1081, Value.str (Str.ofString "=DE") 1085, Value.str (Str.ofString "=DF") 1089, Value.str (Str.ofString "=E0") 1093,
          Value.str (Str.ofString "=E1") 1097, Value.str (Str.ofString "=E2") 1101, Value.str (Str.ofString "=E3") 1105, Value.str (Str.ofString "=E4") 1109, Value.str (Str.ofString "=E5") 1113,
          Value.str (Str.ofString "=E6") 1117, Value.str (Str.ofString "=E7") 1121, Value.str (Str.ofString "=E8") 1125, Value.str (Str.ofString "=E9") 1129, Value.str (Str.ofString "=EA") 1133,
          Value.str (Str.ofString "=EB") 1137, Value.str (Str.ofString "=EC") 1141, Value.str (Str.ofString "=ED") 1145, Value.str (Str.ofString "=EE") 1149, Value.str (Str.ofString "=EF") 1153,
          Value.str (Str.ofString "=F0") 1157, Value.str (Str.ofString "=F1") 1161, Value.str (Str.ofString "=F2") 1165, Value.str (Str.ofString "=F3") 1169, Value.str (Str.ofString "=F4") 1173,
          Value.str (Str.ofString "=F5") 1177, Value.str (Str.ofString "=F6") 1181, Value.str (Str.ofString "=F7") 1185, Value.str (Str.ofString "=F8") 1189, Value.str (Str.ofString "=F9") 1193,
          Value.str (Str.ofString "=FA") 1197, Value.str (Str.ofString "=FB") 1201, Value.str (Str.ofString "=FC") 1205, Value.str (Str.ofString "=FD") 1209, Value.str (Str.ofString "=FE") 1213,
          Value.str (Str.ofString "=FF") 1217] }
noncomputable def x12_1_28 (P : Params) : Obj :=
  { cls := Value.type "bytes_iterator",
    data :=
      Data.fields
        #[Value.bytes
            #[32, 33, 34, 35, 36, 37, 38, 39, 40, 41, 42, 43, 44, 45, 46, 47, 48, 49, 50, 51, 52, 53, 54, 55, 56, 57, 58, 59, 60, 62, 63, 64, 65, 66, 67, 68, 69, 70, 71, 72, 73, 74, 75, 76, 77, 78, 79,
              80, 81, 82, 83, 84, 85, 86, 87, 88, 89, 90, 91, 92, 93, 94, 95, 96, 97, 98, 99, 100, 101, 102, 103, 104, 105, 106, 107, 108, 109, 110, 111, 112, 113, 114, 115, 116, 117, 118, 119, 120,
              121, 122, 123, 124, 125, 126, 9]
            1442,
          Value.int 25 0] }
noncomputable def tr12_1 (P : Params) : BT := BT.node (o_42 P) (BT.node (o_43 P) (BT.node (x12_1_3 P) (BT.node (o_49 P) (BT.node (o_62 P) BT.nil BT.nil) (BT.node (o_363 P) BT.nil BT.nil)) (BT.node (o_53 P) (BT.node (o_66 P) BT.nil BT.nil) (BT.node (o_369 P) BT.nil BT.nil))) (BT.node (o_47 P) (BT.node (o_51 P) (BT.node (o_64 P) BT.nil BT.nil) (BT.node (o_367 P) BT.nil BT.nil)) (BT.node (o_55 P) (BT.node (o_361 P) BT.nil BT.nil) BT.nil))) (BT.node (o_44 P) (BT.node (o_46 P) (BT.node (o_50 P) (BT.node (o_63 P) BT.nil BT.nil) (BT.node (x12_1_24 P) BT.nil BT.nil)) (BT.node (o_54 P) (BT.node (o_67 P) BT.nil BT.nil) (BT.node (x12_1_28 P) BT.nil BT.nil))) (BT.node (o_48 P) (BT.node (o_52 P) (BT.node (o_65 P) BT.nil BT.nil) (BT.node (o_368 P) BT.nil BT.nil)) (BT.node (o_56 P) (BT.node (o_378 P) BT.nil BT.nil) BT.nil)))
noncomputable def S12_1 (w : World) (os : OsState) : SharedT := st (tr12_1 w.params) 29 1518 os
noncomputable def x12_2_3 (P : Params) : Obj :=
  { cls := Value.type "dict",
    data :=
      Data.dict
        #[{ hash := PyData.keyHash P (Str.ofString "__name__"), key := Value.str (Str.ofString "__name__") 165, val := Value.str (Str.ofString "cpy313.email.quoprimime") 1229 },
          { hash := PyData.keyHash P (Str.ofString "__doc__"), key := Value.str (Str.ofString "__doc__") 166, val := Value.none },
          { hash := PyData.keyHash P (Str.ofString "__package__"), key := Value.str (Str.ofString "__package__") 167, val := Value.none },
          { hash := PyData.keyHash P (Str.ofString "__loader__"), key := Value.str (Str.ofString "__loader__") 168, val := Value.builtin "__main__.__loader__#opaque" },
          { hash := PyData.keyHash P (Str.ofString "__spec__"), key := Value.str (Str.ofString "__spec__") 169, val := Value.none },
          { hash := PyData.keyHash P (Str.ofString "__annotations__"), key := Value.str (Str.ofString "__annotations__") 170, val := Value.ref 6 },
          { hash := PyData.keyHash P (Str.ofString "__builtins__"), key := Value.str (Str.ofString "__builtins__") 171, val := Value.ref 4 },
          { hash := PyData.keyHash P (Str.ofString "__file__"), key := Value.str (Str.ofString "__file__") 173, val := Value.str (Str.ofString "/claim/cut.py") 172 },
          { hash := PyData.keyHash P (Str.ofString "__cached__"), key := Value.str (Str.ofString "__cached__") 174, val := Value.none },
          { hash := PyData.keyHash P (Str.ofString "CRLF"), key := Value.str (Str.ofString "CRLF") 188, val := Value.str (Str.ofString "\x0d\n") 187 },
          { hash := PyData.keyHash P (Str.ofString "NL"), key := Value.str (Str.ofString "NL") 190, val := Value.str (Str.ofString "\n") 189 },
          { hash := PyData.keyHash P (Str.ofString "_QUOPRI_MAP"), key := Value.str (Str.ofString "_QUOPRI_MAP") 1218, val := Value.ref 17 },
          { hash := PyData.keyHash P (Str.ofString "_QUOPRI_HEADER_MAP"), key := Value.str (Str.ofString "_QUOPRI_HEADER_MAP") 1219, val := Value.ref 22 },
          { hash := PyData.keyHash P (Str.ofString "_QUOPRI_BODY_MAP"), key := Value.str (Str.ofString "_QUOPRI_BODY_MAP") 1220, val := Value.ref 24 },
          { hash := PyData.keyHash P (Str.ofString "ascii_lowercase"), key := Value.str (Str.ofString "ascii_lowercase") 1222, val := Value.str (Str.ofString "abcdefghijklmnopqrstuvwxyz") 1221 },
          { hash := PyData.keyHash P (Str.ofString "ascii_uppercase"), key := Value.str (Str.ofString "ascii_uppercase") 1224, val := Value.str (Str.ofString "ABCDEFGHIJKLMNOPQRSTUVWXYZ") 1223 },
          { hash := PyData.keyHash P (Str.ofString "ascii_letters"), key := Value.str (Str.ofString "ascii_letters") 1226,
            val := Value.str (Str.ofString "abcdefghijklmnopqrstuvwxyzABCDEFGHIJKLMNOPQRSTUVWXYZ") 1225 },
          { hash := PyData.keyHash P (Str.ofString "digits"), key := Value.str (Str.ofString "digits") 1228, val := Value.str (Str.ofString "0123456789") 1227 },
          { hash := PyData.keyHash P (Str.ofString "c"), key := Value.str (Str.ofString "c") 1239, val := Value.int 81 1587 }]
        19 }
noncomputable def x12_2_24 (P : Params) : Obj :=
  { cls := Value.type "list",
    data :=
      Data.seq
        #[Value.str (Str.ofString "=00") 197, Value.str (Str.ofString "=01") 201, Value.str (Str.ofString "=02") 205, Value.str (Str.ofString "=03") 209, Value.str (Str.ofString "=04") 213,
          Value.str (Str.ofString "=05") 217, Value.str (Str.ofString "=06") 221, Value.str (Str.ofString "=07") 225, Value.str (Str.ofString "=08") 229, Value.str (Str.ofString "=09") 233,
          Value.str (Str.ofString "=0A") 237, Value.str (Str.ofString "=0B") 241, Value.str (Str.ofString "=0C") 245, Value.str (Str.ofString "=0D") 249, Value.str (Str.ofString "=0E") 253,
          Value.str (Str.ofString "=0F") 257, Value.str (Str.ofString "=10") 261, Value.str (Str.ofString "=11") 265, Value.str (Str.ofString "=12") 269, Value.str (Str.ofString "=13") 273,
          Value.str (Str.ofString "=14") 277, Value.str (Str.ofString "=15") 281, Value.str (Str.ofString "=16") 285, Value.str (Str.ofString "=17") 289, Value.str (Str.ofString "=18") 293,
          Value.str (Str.ofString "=19") 297, Value.str (Str.ofString "=1A") 301, Value.str (Str.ofString "=1B") 305, Value.str (Str.ofString "=1C") 309, Value.str (Str.ofString "=1D") 313,
          Value.str (Str.ofString "=1E") 317, Value.str (Str.ofString "=1F") 321, Value.str (Str.ofString " ") 1445, Value.str (Str.ofString "!") 1448, Value.str (Str.ofString "\"") 1451,
          Value.str (Str.ofString "#") 1454, Value.str (Str.ofString "$") 1457, Value.str (Str.ofString "%") 1460, Value.str (Str.ofString "&") 1463, Value.str (Str.ofString "'") 1466,
          Value.str (Str.ofString "(") 1469, Value.str (Str.ofString ")") 1472, Value.str (Str.ofString "*") 1475, Value.str (Str.ofString "+") 1478, Value.str (Str.ofString ",") 1481,
          Value.str (Str.ofString "-") 1484, Value.str (Str.ofString ".") 1487, Value.str (Str.ofString "/") 1490, Value.str (Str.ofString "0") 1493, Value.str (Str.ofString "1") 1496,
          Value.str (Str.ofString "2") 1499, Value.str (Str.ofString "3") 1502, Value.str (Str.ofString "4") 1505, Value.str (Str.ofString "5") 1508, Value.str (Str.ofString "6") 1511,
          Value.str (Str.ofString "7") 1514, Value.str (Str.ofString "8") 1517, Value.str (Str.ofString "9") 1520, Value.str (Str.ofString ":") 1523, Value.str (Str.ofString ";") 1526,
          Value.str (Str.ofString "<") 1529, Value.str (Str.ofString "=3D") 441, Value.str (Str.ofString ">") 1532, Value.str (Str.ofString "?") 1535, Value.str (Str.ofString "@") 1538,
          Value.str (Str.ofString "A") 1541, Value.str (Str.ofString "B") 1544, Value.str (Str.ofString "C") 1547, Value.str (Str.ofString "D") 1550, Value.str (Str.ofString "E") 1553,
          Value.str (Str.ofString "F") 1556, Value.str (Str.ofString "G") 1559, Value.str (Str.ofString "H") 1562, Value.str (Str.ofString "I") 1565, Value.str (Str.ofString "J") 1568,
          Value.str (Str.ofString "K") 1571, Value.str (Str.ofString "L") 1574, Value.str (Str.ofString "M") 1577, Value.str (Str.ofString "N") 1580, Value.str (Str.ofString "O") 1583,
          Value.str (Str.ofString "P") 1586, Value.str (Str.ofString "Q") 1589, Value.str (Str.ofString "=52") 525, Value.str (Str.ofString "=53") 529, Value.str (Str.ofString "=54") 533,
          Value.str (Str.ofString "=55") 537, Value.str (Str.ofString "=56") 541, Value.str (Str.ofString "=57") 545, Value.str (Str.ofString "=58") 549, Value.str (Str.ofString "=59") 553,
          Value.str (Str.ofString "=5A") 557, Value.str (Str.ofString "=5B") 561, Value.str (Str.ofString "=5C") 565, Value.str (Str.ofString "=5D") 569, Value.str (Str.ofString "=5E") 573,
          Value.str (Str.ofString "=5F") 577, Value.str (Str.ofString "=60") 581, Value.str (Str.ofString "=61") 585, Value.str (Str.ofString "=62") 589, Value.str (Str.ofString "=63") 593,
          Value.str (Str.ofString "=64") 597, Value.str (Str.ofString "=65") 601, Value.str (Str.ofString "=66") 605, Value.str (Str.ofString "=67") 609, Value.str (Str.ofString "=68") 613,
          Value.str (Str.ofString "=69") 617, Value.str (Str.ofString "=6A") 621, Value.str (Str.ofString "=6B") 625, Value.str (Str.ofString "=6C") 629, Value.str (Str.ofString "=6D") 633,
          Value.str (Str.ofString "=6E") 637, Value.str (Str.ofString "=6F") 641, Value.str (Str.ofString "=70") 645, Value.str (Str.ofString "=71") 649, Value.str (Str.ofString "=72") 653,
          Value.str (Str.ofString "=73") 657, Value.str (Str.ofString "=74") 661, Value.str (Str.ofString "=75") 665, Value.str (Str.ofString "=76") 669, Value.str (Str.ofString "=77") 673,
          Value.str (Str.ofString "=78") 677, Value.str (Str.ofString "=79") 681, Value.str (Str.ofString "=7A") 685, Value.str (Str.ofString "=7B") 689, Value.str (Str.ofString "=7C") 693,
          Value.str (Str.ofString "=7D") 697, Value.str (Str.ofString "=7E") 701, Value.str (Str.ofString "=7F") 705, Value.str (Str.ofString "=80") 709, Value.str (Str.ofString "=81") 713,
          Value.str (Str.ofString "=82") 717, Value.str (Str.ofString "=83") 721, Value.str (Str.ofString "=84") 725, Value.str (Str.ofString "=85") 729, Value.str (Str.ofString "=86") 733,
          Value.str (Str.ofString "=87") 737, Value.str (Str.ofString "=88") 741, Value.str (Str.ofString "=89") 745, Value.str (Str.ofString "=8A") 749, Value.str (Str.ofString "=8B") 753,
          Value.str (Str.ofString "=8C") 757, Value.str (Str.ofString "=8D") 761, Value.str (Str.ofString "=8E") 765, Value.str (Str.ofString "=8F") 769, Value.str (Str.ofString "=90") 773,
          Value.str (Str.ofString "=91") 777, Value.str (Str.ofString "=92") 781, Value.str (Str.ofString "=93") 785, Value.str (Str.ofString "=94") 789, Value.str (Str.ofString "=95") 793,
          Value.str (Str.ofString "=96") 797, Value.str (Str.ofString "=97") 801, Value.str (Str.ofString "=98") 805, Value.str (Str.ofString "=99") 809, Value.str (Str.ofString "=9A") 813,
          Value.str (Str.ofString "=9B") 817, Value.str (Str.ofString "=9C") 821, Value.str (Str.ofString "=9D") 825, Value.str (Str.ofString "=9E") 829, Value.str (Str.ofString "=9F") 833,
          Value.str (Str.ofString "=A0") 837, Value.str (Str.ofString "=A1") 841, Value.str (Str.ofString "=A2") 845, Value.str (Str.ofString "=A3") 849, Value.str (Str.ofString "=A4") 853,
          Value.str (Str.ofString "=A5") 857, Value.str (Str.ofString "=A6") 861, Value.str (Str.ofString "=A7") 865, Value.str (Str.ofString "=A8") 869, Value.str (Str.ofString "=A9") 873,
          Value.str (Str.ofString "=AA") 877, Value.str (Str.ofString "=AB") 881, Value.str (Str.ofString "=AC") 885, Value.str (Str.ofString "=AD") 889, Value.str (Str.ofString "=AE") 893,
          Value.str (Str.ofString "=AF") 897, Value.str (Str.ofString "=B0") 901, Value.str (Str.ofString "=B1") 905, Value.str (Str.ofString "=B2") 909, Value.str (Str.ofString "=B3") 913,
          Value.str (Str.ofString "=B4") 917, Value.str (Str.ofString "=B5") 921, Value.str (Str.ofString "=B6") 925, Value.str (Str.ofString "=B7") 929, Value.str (Str.ofString "=B8") 933,
          Value.str (Str.ofString "=B9") 937, Value.str (Str.ofString "=BA") 941, Value.str (Str.ofString "=BB") 945, Value.str (Str.ofString "=BC") 949, Value.str (Str.ofString "=BD") 953,
          Value.str (Str.ofString "=BE") 957, Value.str (Str.ofString "=BF") 961, Value.str (Str.ofString "=C0") 965, Value.str (Str.ofString "=C1") 969, Value.str (Str.ofString "=C2") 973,
          Value.str (Str.ofString "=C3") 977, Value.str (Str.ofString "=C4") 981, Value.str (Str.ofString "=C5") 985, Value.str (Str.ofString "=C6") 989, Value.str (Str.ofString "=C7") 993,
          Value.str (Str.ofString "=C8") 997, Value.str (Str.ofString "=C9") 1001, Value.str (Str.ofString "=CA") 1005, Value.str (Str.ofString "=CB") 1009, Value.str (Str.ofString "=CC") 1013,
          Value.str (Str.ofString "=CD") 1017, Value.str (Str.ofString "=CE") 1021, Value.str (Str.ofString "=CF") 1025, Value.str (Str.ofString "=D0") 1029, Value.str (Str.ofString "=D1") 1033,
          Value.str (Str.ofString "=D2") 1037, Value.str (Str.ofString "=D3") 1041, Value.str (Str.ofString "=D4") 1045, Value.str (Str.ofString "=D5") 1049, Value.str (Str.ofString "=D6") 1053,
          Value.str (Str.ofString "=D7") 1057, Value.str (Str.ofString "=D8") 1061, Value.str (Str.ofString "=D9") 1065, Value.str (Str.ofString "=DA") 1069, Value.str (Str.ofString "=DB") 1073,
          Value.str (Str.ofString "=DC") 1077, Value.str (Str.ofString "=DD") 1081, Value.str (Str.ofString "=DE") 1085, Value.str (Str.ofString "=DF") 1089, Value.str (Str.ofString "=E0") 1093,
          Value.str (Str.ofString "=E1") 1097, Value.str (Str.ofString "=E2") 1101, Value.str (Str.ofString "=E3") 1105, Value.str (Str.ofString "=E4") 1109, Value.str (Str.ofString "=E5") 1113,
          Value.str (Str.ofString "=E6") 1117, Value.str (Str.ofString "=E7") 1121, Value.str (Str.ofString "=E8") 1125, Value.str (Str.ofString "=E9") 1129, Value.str (Str.ofString "=EA") 1133,
          Value.str (Str.ofString "=EB") 1137, Value.str (Str.ofString "=EC") 1141, Value.str (Str.ofString "=ED") 1145, Value.str (Str.ofString "=EE") 1149, Value.str (Str.ofString "=EF") 1153,
          Value.str (Str.ofString "=F0") 1157, Value.str (Str.ofString "=F1") 1161, Value.str (Str.ofString "=F2") 1165, Value.str (Str.ofString "=F3") 1169, Value.str (Str.ofString "=F4") 1173,
          Value.str (Str.ofString "=F5") 1177, Value.str (Str.ofString "=F6") 1181, Value.str (Str.ofString "=F7") 1185, Value.str (Str.ofString "=F8") 1189, Value.str (Str.ofString "=F9") 1193,
          Value.str (Str.ofString "=FA") 1197, Value.str (Str.ofString "=FB") 1201, Value.str (Str.ofString "=FC") 1205, Value.str (Str.ofString "=FD") 1209, Value.str (Str.ofString "=FE") 1213,
          Value.str (Str.ofString "=FF") 1217] }
noncomputable def x12_2_28 (P : Params) : Obj :=
  { cls := Value.type "bytes_iterator",
    data :=
      Data.fields
        #[Value.bytes
            #[32, 33, 34, 35, 36, 37, 38, 39, 40, 41, 42, 43, 44, 45, 46, 47, 48, 49, 50, 51, 52, 53, 54, 55, 56, 57, 58, 59, 60, 62, 63, 64, 65, 66, 67, 68, 69, 70, 71, 72, 73, 74, 75, 76, 77, 78, 79,
              80, 81, 82, 83, 84, 85, 86, 87, 88, 89, 90, 91, 92, 93, 94, 95, 96, 97, 98, 99, 100, 101, 102, 103, 104, 105, 106, 107, 108, 109, 110, 111, 112, 113, 114, 115, 116, 117, 118, 119, 120,
              121, 122, 123, 124, 125, 126, 9]
            1442,
          Value.int 49 0] }
noncomputable def tr12_2 (P : Params) : BT := BT.node (o_42 P) (BT.node (o_43 P) (BT.node (x12_2_3 P) (BT.node (o_49 P) (BT.node (o_62 P) BT.nil BT.nil) (BT.node (o_363 P) BT.nil BT.nil)) (BT.node (o_53 P) (BT.node (o_66 P) BT.nil BT.nil) (BT.node (o_369 P) BT.nil BT.nil))) (BT.node (o_47 P) (BT.node (o_51 P) (BT.node (o_64 P) BT.nil BT.nil) (BT.node (o_367 P) BT.nil BT.nil)) (BT.node (o_55 P) (BT.node (o_361 P) BT.nil BT.nil) BT.nil))) (BT.node (o_44 P) (BT.node (o_46 P) (BT.node (o_50 P) (BT.node (o_63 P) BT.nil BT.nil) (BT.node (x12_2_24 P) BT.nil BT.nil)) (BT.node (o_54 P) (BT.node (o_67 P) BT.nil BT.nil) (BT.node (x12_2_28 P) BT.nil BT.nil))) (BT.node (o_48 P) (BT.node (o_52 P) (BT.node (o_65 P) BT.nil BT.nil) (BT.node (o_368 P) BT.nil BT.nil)) (BT.node (o_56 P) (BT.node (o_378 P) BT.nil BT.nil) BT.nil)))
noncomputable def S12_2 (w : World) (os : OsState) : SharedT := st (tr12_2 w.params) 29 1590 os
noncomputable def x12_3_3 (P : Params) : Obj :=
  { cls := Value.type "dict",
    data :=
      Data.dict
        #[{ hash := PyData.keyHash P (Str.ofString "__name__"), key := Value.str (Str.ofString "__name__") 165, val := Value.str (Str.ofString "cpy313.email.quoprimime") 1229 },
          { hash := PyData.keyHash P (Str.ofString "__doc__"), key := Value.str (Str.ofString "__doc__") 166, val := Value.none },
          { hash := PyData.keyHash P (Str.ofString "__package__"), key := Value.str (Str.ofString "__package__") 167, val := Value.none },
          { hash := PyData.keyHash P (Str.ofString "__loader__"), key := Value.str (Str.ofString "__loader__") 168, val := Value.builtin "__main__.__loader__#opaque" },
          { hash := PyData.keyHash P (Str.ofString "__spec__"), key := Value.str (Str.ofString "__spec__") 169, val := Value.none },
          { hash := PyData.keyHash P (Str.ofString "__annotations__"), key := Value.str (Str.ofString "__annotations__") 170, val := Value.ref 6 },
          { hash := PyData.keyHash P (Str.ofString "__builtins__"), key := Value.str (Str.ofString "__builtins__") 171, val := Value.ref 4 },
          { hash := PyData.keyHash P (Str.ofString "__file__"), key := Value.str (Str.ofString "__file__") 173, val := Value.str (Str.ofString "/claim/cut.py") 172 },
          { hash := PyData.keyHash P (Str.ofString "__cached__"), key := Value.str (Str.ofString "__cached__") 174, val := Value.none },
          { hash := PyData.keyHash P (Str.ofString "CRLF"), key := Value.str (Str.ofString "CRLF") 188, val := Value.str (Str.ofString "\x0d\n") 187 },
          { hash := PyData.keyHash P (Str.ofString "NL"), key := Value.str (Str.ofString "NL") 190, val := Value.str (Str.ofString "\n") 189 },
          { hash := PyData.keyHash P (Str.ofString "_QUOPRI_MAP"), key := Value.str (Str.ofString "_QUOPRI_MAP") 1218, val := Value.ref 17 },
          { hash := PyData.keyHash P (Str.ofString "_QUOPRI_HEADER_MAP"), key := Value.str (Str.ofString "_QUOPRI_HEADER_MAP") 1219, val := Value.ref 22 },
          { hash := PyData.keyHash P (Str.ofString "_QUOPRI_BODY_MAP"), key := Value.str (Str.ofString "_QUOPRI_BODY_MAP") 1220, val := Value.ref 24 },
          { hash := PyData.keyHash P (Str.ofString "ascii_lowercase"), key := Value.str (Str.ofString "ascii_lowercase") 1222, val := Value.str (Str.ofString "abcdefghijklmnopqrstuvwxyz") 1221 },
          { hash := PyData.keyHash P (Str.ofString "ascii_uppercase"), key := Value.str (Str.ofString "ascii_uppercase") 1224, val := Value.str (Str.ofString "ABCDEFGHIJKLMNOPQRSTUVWXYZ") 1223 },
          { hash := PyData.keyHash P (Str.ofString "ascii_letters"), key := Value.str (Str.ofString "ascii_letters") 1226,
            val := Value.str (Str.ofString "abcdefghijklmnopqrstuvwxyzABCDEFGHIJKLMNOPQRSTUVWXYZ") 1225 },
          { hash := PyData.keyHash P (Str.ofString "digits"), key := Value.str (Str.ofString "digits") 1228, val := Value.str (Str.ofString "0123456789") 1227 },
          { hash := PyData.keyHash P (Str.ofString "c"), key := Value.str (Str.ofString "c") 1239, val := Value.int 105 1659 }]
        19 }
noncomputable def x12_3_24 (P : Params) : Obj :=
  { cls := Value.type "list",
    data :=
      Data.seq
        #[Value.str (Str.ofString "=00") 197, Value.str (Str.ofString "=01") 201, Value.str (Str.ofString "=02") 205, Value.str (Str.ofString "=03") 209, Value.str (Str.ofString "=04") 213,
          Value.str (Str.ofString "=05") 217, Value.str (Str.ofString "=06") 221, Value.str (Str.ofString "=07") 225, Value.str (Str.ofString "=08") 229, Value.str (Str.ofString "=09") 233,
          Value.str (Str.ofString "=0A") 237, Value.str (Str.ofString "=0B") 241, Value.str (Str.ofString "=0C") 245, Value.str (Str.ofString "=0D") 249, Value.str (Str.ofString "=0E") 253,
          Value.str (Str.ofString "=0F") 257, Value.str (Str.ofString "=10") 261, Value.str (Str.ofString "=11") 265, Value.str (Str.ofString "=12") 269, Value.str (Str.ofString "=13") 273,
          Value.str (Str.ofString "=14") 277, Value.str (Str.ofString "=15") 281, Value.str (Str.ofString "=16") 285, Value.str (Str.ofString "=17") 289, Value.str (Str.ofString "=18") 293,
          Value.str (Str.ofString "=19") 297, Value.str (Str.ofString "=1A") 301, Value.str (Str.ofString "=1B") 305, Value.str (Str.ofString "=1C") 309, Value.str (Str.ofString "=1D") 313,
          Value.str (Str.ofString "=1E") 317, Value.str (Str.ofString "=1F") 321, Value.str (Str.ofString " ") 1445, Value.str (Str.ofString "!") 1448, Value.str (Str.ofString "\"") 1451,
          Value.str (Str.ofString "#") 1454, Value.str (Str.ofString "$") 1457, Value.str (Str.ofString "%") 1460, Value.str (Str.ofString "&") 1463, Value.str (Str.ofString "'") 1466,
          Value.str (Str.ofString "(") 1469, Value.str (Str.ofString ")") 1472, Value.str (Str.ofString "*") 1475, Value.str (Str.ofString "+") 1478, Value.str (Str.ofString ",") 1481,
          Value.str (Str.ofString "-") 1484, Value.str (Str.ofString ".") 1487, Value.str (Str.ofString "/") 1490, Value.str (Str.ofString "0") 1493, Value.str (Str.ofString "1") 1496,
          Value.str (Str.ofString "2") 1499, Value.str (Str.ofString "3") 1502, Value.str (Str.ofString "4") 1505, Value.str (Str.ofString "5") 1508, Value.str (Str.ofString "6") 1511,
          Value.str (Str.ofString "7") 1514, Value.str (Str.ofString "8") 1517, Value.str (Str.ofString "9") 1520, Value.str (Str.ofString ":") 1523, Value.str (Str.ofString ";") 1526,
          Value.str (Str.ofString "<") 1529, Value.str (Str.ofString "=3D") 441, Value.str (Str.ofString ">") 1532, Value.str (Str.ofString "?") 1535, Value.str (Str.ofString "@") 1538,
          Value.str (Str.ofString "A") 1541, Value.str (Str.ofString "B") 1544, Value.str (Str.ofString "C") 1547, Value.str (Str.ofString "D") 1550, Value.str (Str.ofString "E") 1553,
          Value.str (Str.ofString "F") 1556, Value.str (Str.ofString "G") 1559, Value.str (Str.ofString "H") 1562, Value.str (Str.ofString "I") 1565, Value.str (Str.ofString "J") 1568,
          Value.str (Str.ofString "K") 1571, Value.str (Str.ofString "L") 1574, Value.str (Str.ofString "M") 1577, Value.str (Str.ofString "N") 1580, Value.str (Str.ofString "O") 1583,
          Value.str (Str.ofString "P") 1586, Value.str (Str.ofString "Q") 1589, Value.str (Str.ofString "R") 1592, Value.str (Str.ofString "S") 1595, Value.str (Str.ofString "T") 1598,
          Value.str (Str.ofString "U") 1601, Value.str (Str.ofString "V") 1604, Value.str (Str.ofString "W") 1607, Value.str (Str.ofString "X") 1610, Value.str (Str.ofString "Y") 1613,
          Value.str (Str.ofString "Z") 1616, Value.str (Str.ofString "[") 1619, Value.str (Str.ofString "\\") 1622, Value.str (Str.ofString "]") 1625, Value.str (Str.ofString "^") 1628,
          Value.str (Str.ofString "_") 1631, Value.str (Str.ofString "`") 1634, Value.str (Str.ofString "a") 1637, Value.str (Str.ofString "b") 1640, Value.str (Str.ofString "c") 1643,
          Value.str (Str.ofString "d") 1646, Value.str (Str.ofString "e") 1649, Value.str (Str.ofString "f") 1652, Value.str (Str.ofString "g") 1655, Value.str (Str.ofString "h") 1658,
          Value.str (Str.ofString "i") 1661, Value.str (Str.ofString "=6A") 621, Value.str (Str.ofString "=6B") 625, Value.str (Str.ofString "=6C") 629, Value.str (Str.ofString "=6D") 633,
          Value.str (Str.ofString "=6E") 637, Value.str (Str.ofString "=6F") 641, Value.str (Str.ofString "=70") 645, Value.str (Str.ofString "=71") 649, Value.str (Str.ofString "=72") 653,
          Value.str (Str.ofString "=73") 657, Value.str (Str.ofString "=74") 661, Value.str (Str.ofString "=75") 665, Value.str (Str.ofString "=76") 669, Value.str (Str.ofString "=77") 673,
          Value.str (Str.ofString "=78") 677, Value.str (Str.ofString "=79") 681, Value.str (Str.ofString "=7A") 685, Value.str (Str.ofString "=7B") 689, Value.str (Str.ofString "=7C") 693,
          Value.str (Str.ofString "=7D") 697, Value.str (Str.ofString "=7E") 701, Value.str (Str.ofString "=7F") 705, Value.str (Str.ofString "=80") 709, Value.str (Str.ofString "=81") 713,
          Value.str (Str.ofString "=82") 717, Value.str (Str.ofString "=83") 721, Value.str (Str.ofString "=84") 725, Value.str (Str.ofString "=85") 729, Value.str (Str.ofString "=86") 733,
          Value.str (Str.ofString "=87") 737, Value.str (Str.ofString "=88") 741, Value.str (Str.ofString "=89") 745, Value.str (Str.ofString "=8A") 749, Value.str (Str.ofString "=8B") 753,
          Value.str (Str.ofString "=8C") 757, Value.str (Str.ofString "=8D") 761, Value.str (Str.ofString "=8E") 765, Value.str (Str.ofString "=8F") 769, Value.str (Str.ofString "=90") 773,
          Value.str (Str.ofString "=91") 777, Value.str (Str.ofString "=92") 781, Value.str (Str.ofString "=93") 785, Value.str (Str.ofString "=94") 789, Value.str (Str.ofString "=95") 793,
          Value.str (Str.ofString "=96") 797, Value.str (Str.ofString "=97") 801, Value.str (Str.ofString "=98") 805, Value.str (Str.ofString "=99") 809, Value.str (Str.ofString "=9A") 813,
          Value.str (Str.ofString "=9B") 817, Value.str (Str.ofString "=9C") 821, Value.str (Str.ofString "=9D") 825, Value.str (Str.ofString "=9E") 829, Value.str (Str.ofString "=9F") 833,
          Value.str (Str.ofString "=A0") 837, Value.str (Str.ofString "=A1") 841, Value.str (Str.ofString "=A2") 845, Value.str (Str.ofString "=A3") 849, Value.str (Str.ofString "=A4") 853,
          Value.str (Str.ofString "=A5") 857, Value.str (Str.ofString "=A6") 861, Value.str (Str.ofString "=A7") 865, Value.str (Str.ofString "=A8") 869, Value.str (Str.ofString "=A9") 873,
          Value.str (Str.ofString "=AA") 877, Value.str (Str.ofString "=AB") 881, Value.str (Str.ofString "=AC") 885, Value.str (Str.ofString "=AD") 889, Value.str (Str.ofString "=AE") 893,
          Value.str (Str.ofString "=AF") 897, Value.str (Str.ofString "=B0") 901, Value.str (Str.ofString "=B1") 905, Value.str (Str.ofString "=B2") 909, Value.str (Str.ofString "=B3") 913,
          Value.str (Str.ofString "=B4") 917, Value.str (Str.ofString "=B5") 921, Value.str (Str.ofString "=B6") 925, Value.str (Str.ofString "=B7") 929, Value.str (Str.ofString "=B8") 933,
          Value.str (Str.ofString "=B9") 937, Value.str (Str.ofString "=BA") 941, Value.str (Str.ofString "=BB") 945, Value.str (Str.ofString "=BC") 949, Value.str (Str.ofString "=BD") 953,
          Value.str (Str.ofString "=BE") 957, Value.str (Str.ofString "=BF") 961, Value.str (Str.ofString "=C0") 965, Value.str (Str.ofString "=C1") 969, Value.str (Str.ofString "=C2") 973,
          Value.str (Str.ofString "=C3") 977, Value.str (Str.ofString "=C4") 981, Value.str (Str.ofString "=C5") 985, Value.str (Str.ofString "=C6") 989, Value.str (Str.ofString "=C7") 993,
          Value.str (Str.ofString "=C8") 997, Value.str (Str.ofString "=C9") 1001, Value.str (Str.ofString "=CA") 1005, Value.str (Str.ofString "=CB") 1009, Value.str (Str.ofString "=CC") 1013,
          Value.str (Str.ofString "=CD") 1017, Value.str (Str.ofString "=CE") 1021, Value.str (Str.ofString "=CF") 1025, Value.str (Str.ofString "=D0") 1029, Value.str (Str.ofString "=D1") 1033,
          Value.str (Str.ofString "=D2") 1037, Value.str (Str.ofString "=D3") 1041, Value.str (Str.ofString "=D4") 1045, Value.str (Str.ofString "=D5") 1049, Value.str (Str.ofString "=D6") 1053,
          Value.str (Str.ofString "=D7") 1057, Value.str (Str.ofString "=D8") 1061, Value.str (Str.ofString "=D9") 1065, Value.str (Str.ofString "=DA") 1069, Value.str (Str.ofString "=DB") 1073,
          Value.str (Str.ofString "=DC") 1077, Value.str (Str.ofString "=DD") 1081, Value.str (Str.ofString "=DE") 1085, Value.str (Str.ofString "=DF") 1089, Value.str (Str.ofString "=E0") 1093,
          Value.str (Str.ofString "=E1") 1097, Value.str (Str.ofString "=E2") 1101, Value.str (Str.ofString "=E3") 1105, Value.str (Str.ofString "=E4") 1109, Value.str (Str.ofString "=E5") 1113,
          Value.str (Str.ofString "=E6") 1117, Value.str (Str.ofString "=E7") 1121, Value.str (Str.ofString "=E8") 1125, Value.str (Str.ofString "=E9") 1129, Value.str (Str.ofString "=EA") 1133,
          Value.str (Str.ofString "=EB") 1137, Value.str (Str.ofString "=EC") 1141, Value.str (Str.ofString "=ED") 1145, Value.str (Str.ofString "=EE") 1149, Value.str (Str.ofString "=EF") 1153,
          Value.str (Str.ofString "=F0") 1157, Value.str (Str.ofString "=F1") 1161, Value.str (Str.ofString "=F2") 1165, Value.str (Str.ofString "=F3") 1169, Value.str (Str.ofString "=F4") 1173,
          Value.str (Str.ofString "=F5") 1177, Value.str (Str.ofString "=F6") 1181, Value.str (Str.ofString "=F7") 1185, Value.str (Str.ofString "=F8") 1189, Value.str (Str.ofString "=F9") 1193,
          Value.str (Str.ofString "=FA") 1197, Value.str (Str.ofString "=FB") 1201, Value.str (Str.ofString "=FC") 1205, Value.str (Str.ofString "=FD") 1209, Value.str (Str.ofString "=FE") 1213,
          Value.str (Str.ofString "=FF") 1217] }
noncomputable def x12_3_28 (P : Params) : Obj :=
  { cls := Value.type "bytes_iterator",
    data :=
      Data.fields
        #[Value.bytes
            #[32, 33, 34, 35, 36, 37, 38, 39, 40, 41, 42, 43, 44, 45, 46, 47, 48, 49, 50, 51, 52, 53, 54, 55, 56, 57, 58, 59, 60, 62, 63, 64, 65, 66, 67, 68, 69, 70, 71, 72, 73, 74, 75, 76, 77, 78, 79,
              80, 81, 82, 83, 84, 85, 86, 87, 88, 89, 90, 91, 92, 93, 94, 95, 96, 97, 98, 99, 100, 101, 102, 103, 104, 105, 106, 107, 108, 109, 110, 111, 112, 113, 114, 115, 116, 117, 118, 119, 120,
              121, 122, 123, 124, 125, 126, 9]
            1442,
          Value.int 73 0] }
noncomputable def tr12_3 (P : Params) : BT := BT.node (o_42 P) (BT.node (o_43 P) (BT.node (x12_3_3 P) (BT.node (o_49 P) (BT.node (o_62 P) BT.nil BT.nil) (BT.node (o_363 P) BT.nil BT.nil)) (BT.node (o_53 P) (BT.node (o_66 P) BT.nil BT.nil) (BT.node (o_369 P) BT.nil BT.nil))) (BT.node (o_47 P) (BT.node (o_51 P) (BT.node (o_64 P) BT.nil BT.nil) (BT.node (o_367 P) BT.nil BT.nil)) (BT.node (o_55 P) (BT.node (o_361 P) BT.nil BT.nil) BT.nil))) (BT.node (o_44 P) (BT.node (o_46 P) (BT.node (o_50 P) (BT.node (o_63 P) BT.nil BT.nil) (BT.node (x12_3_24 P) BT.nil BT.nil)) (BT.node (o_54 P) (BT.node (o_67 P) BT.nil BT.nil) (BT.node (x12_3_28 P) BT.nil BT.nil))) (BT.node (o_48 P) (BT.node (o_52 P) (BT.node (o_65 P) BT.nil BT.nil) (BT.node (o_368 P) BT.nil BT.nil)) (BT.node (o_56 P) (BT.node (o_378 P) BT.nil BT.nil) BT.nil)))
noncomputable def S12_3 (w : World) (os : OsState) : SharedT := st (tr12_3 w.params) 29 1662 os
noncomputable def T12 (w : World) (os : OsState) : Thread := match GOT (wr1 w false) 55 (st (tree_378 w.params) 28 1442 os) (piecesOf (cut 12 1) EV CE { line := 13, col := 0, endLine := 13, endCol := 28 } BB) with | some (_, t) => t | none => piecesOf [] EV CE { line := 13, col := 0, endLine := 13, endCol := 28 } BB
theorem g5a_f (w : World) : (fun os => segGoT treeTable PR (wr1 w false) 11 (some (Value.ref 6)) 1 55 (st (tree_378 (wr1 w false).params) 28 1442 os) (piecesOf (cut 12 1) EV CE { line := 13, col := 0, endLine := 13, endCol := 28 } BB)) = fun os => some (S12_0 (wr1 w false) os, T12 (wr1 w false) os) := by
  rw [PySem.W.Fast.te10295753902157049106, PySem.W.Fast.te14364793385576792824]
  kernel_rfl
theorem g5a_t (w : World) : (fun os => segGoT treeTable PR (wr1 w true) 11 (some (Value.ref 6)) 1 55 (st (tree_378 (wr1 w true).params) 28 1442 os) (piecesOf (cut 12 1) EV CE { line := 13, col := 0, endLine := 13, endCol := 28 } BB)) = fun os => some (S12_0 (wr1 w true) os, T12 (wr1 w true) os) := by
  rw [PySem.W.Fast.te10295753902157049106, PySem.W.Fast.te14364793385576792824]
  kernel_rfl
theorem g5c_0 (w : World) : (fun os => segGoT treeTable PR w 11 (some (Value.ref 6)) 1 1080 (S12_0 w os) (T12 w os)) = fun os => some (S12_1 w os, T12 w os) := by
  rw [PySem.W.Fast.te10295753902157049106, PySem.W.Fast.te14364793385576792824]
  kernel_rfl
theorem g5c_1 (w : World) : (fun os => segGoT treeTable PR w 11 (some (Value.ref 6)) 1 1080 (S12_1 w os) (T12 w os)) = fun os => some (S12_2 w os, T12 w os) := by
  rw [PySem.W.Fast.te10295753902157049106, PySem.W.Fast.te14364793385576792824]
  kernel_rfl
theorem g5c_2 (w : World) : (fun os => segGoT treeTable PR w 11 (some (Value.ref 6)) 1 1080 (S12_2 w os) (T12 w os)) = fun os => some (S12_3 w os, T12 w os) := by
  rw [PySem.W.Fast.te10295753902157049106, PySem.W.Fast.te14364793385576792824]
  kernel_rfl
theorem g5d (w : World) : (fun os => segRunT treeTable PR w 11 (some (Value.ref 6)) 1 1008 (S12_3 w os) (T12 w os)) = fun os => some (Flow.next, st (tree_384 w.params) 31 1728 os, CE, { line := 14, col := 9, endLine := 14, endCol := 110 }) := by
  rw [PySem.W.Fast.te10110043849684766642, PySem.W.Fast.te14364793385576792824]
  kernel_rfl
theorem g5e (w : World) (os : OsState) : segRunT treeTable PR w 11 (some (Value.ref 6)) 1 4248 (S12_0 w os) (T12 w os) = some (Flow.next, st (tree_384 w.params) 31 1728 os, CE, { line := 14, col := 9, endLine := 14, endCol := 110 }) :=
  seg_cat_ (congrFun (g5c_0 w) os) (seg_cat_ (congrFun (g5c_1 w) os) (seg_cat_ (congrFun (g5c_2 w) os) (congrFun (g5d w) os) (rfl : 1080 + 1008 = 2088)) (rfl : 1080 + 2088 = 3168)) (rfl : 1080 + 3168 = 4248)
theorem g5_f (w : World) : G5 (wr1 w false) := funext fun os => seg_cat_ (congrFun (g5a_f w) os) (g5e (wr1 w false) os) (rfl : 55 + 4248 = 4303)
theorem g5_t (w : World) : G5 (wr1 w true) := funext fun os => seg_cat_ (congrFun (g5a_t w) os) (g5e (wr1 w true) os) (rfl : 55 + 4248 = 4303)
theorem g5 (w : World) : G5 w := byRow2 "special-get-raises" g5_f g5_t w
def G6 (w : World) : Prop := (fun os => segRunT treeTable PR w 11 (some (Value.ref 6)) 1 389 (st (tree_384 w.params) 31 1728 os) (piecesOf (cut 13 12) EV CE { line := 14, col := 9, endLine := 14, endCol := 110 } BB)) = fun os => some (Flow.next, st (tree_449 w.params) 83 1806 os, CE, { line := 89, col := 0, endLine := 90, endCol := 115 })
theorem g6_f (w : World) : G6 (w.withFollow "special-get-raises" false) := by
  unfold G6
  rw [PySem.W.Fast.te10110043849684766642, PySem.W.Fast.te14364793385576792824]
  kernel_rfl
theorem g6_t (w : World) : G6 (w.withFollow "special-get-raises" true) := by
  unfold G6
  rw [PySem.W.Fast.te10110043849684766642, PySem.W.Fast.te14364793385576792824]
  kernel_rfl
theorem g6 (w : World) : G6 w := byRow2 "special-get-raises" g6_f g6_t w
def G7 (w : World) : Prop := (fun os => segRunT treeTable PR w 11 (some (Value.ref 6)) 1 53 (st (tree_449 w.params) 83 1806 os) (piecesOf (cut 25 2) EV CE { line := 89, col := 0, endLine := 90, endCol := 115 } BB)) = fun os => some (Flow.next, st (tree_463 w.params) 93 1818 os, CE, { line := 108, col := 0, endLine := 125, endCol := 15 })
theorem g7 (w : World) : G7 w := by
  unfold G7
  rw [PySem.W.Fast.te10110043849684766642, PySem.W.Fast.te14364793385576792824]
  kernel_rfl
end Mine
end

section
open PySem PySem.W PyProof.Rows
set_option maxRecDepth 1000000
set_option linter.unusedVariables false
namespace Mine
abbrev rhsOf {α : Type} {a b : α} (_ : a = b) : α := b
noncomputable abbrev fn13 : Arguments × List Stmt × Scope := by
  have e : fnAt 13 = fnAt 13 := rfl
  conv at e => rhs; whnf
  exact rhsOf e
noncomputable abbrev fn14 : Arguments × List Stmt × Scope := by
  have e : fnAt 14 = fnAt 14 := rfl
  conv at e => rhs; whnf
  exact rhsOf e
noncomputable abbrev fn18 : Arguments × List Stmt × Scope := by
  have e : fnAt 18 = fnAt 18 := rfl
  conv at e => rhs; whnf
  exact rhsOf e
noncomputable abbrev fn20 : Arguments × List Stmt × Scope := by
  have e : fnAt 20 = fnAt 20 := rfl
  conv at e => rhs; whnf
  exact rhsOf e
noncomputable abbrev fn22 : Arguments × List Stmt × Scope := by
  have e : fnAt 22 = fnAt 22 := rfl
  conv at e => rhs; whnf
  exact rhsOf e
noncomputable abbrev fn23 : Arguments × List Stmt × Scope := by
  have e : fnAt 23 = fnAt 23 := rfl
  conv at e => rhs; whnf
  exact rhsOf e
noncomputable abbrev fn24 : Arguments × List Stmt × Scope := by
  have e : fnAt 24 = fnAt 24 := rfl
  conv at e => rhs; whnf
  exact rhsOf e
noncomputable abbrev fn25 : Arguments × List Stmt × Scope := by
  have e : fnAt 25 = fnAt 25 := rfl
  conv at e => rhs; whnf
  exact rhsOf e
noncomputable abbrev fn26 : Arguments × List Stmt × Scope := by
  have e : fnAt 26 = fnAt 26 := rfl
  conv at e => rhs; whnf
  exact rhsOf e
noncomputable abbrev k2 (P : Params) : Obj := { cls := Value.none, data := Data.dict #[] }
noncomputable abbrev k3 (P : Params) : Obj :=
  { cls := Value.type "dict",
    data :=
      Data.dict
        #[{ hash := PyData.keyHash P (Str.ofString "__name__"), key := Value.str (Str.ofString "__name__") 165, val := Value.str (Str.ofString "law_ny0120_01") 1784 },
          { hash := PyData.keyHash P (Str.ofString "__doc__"), key := Value.str (Str.ofString "__doc__") 166, val := Value.none },
          { hash := PyData.keyHash P (Str.ofString "__package__"), key := Value.str (Str.ofString "__package__") 167, val := Value.none },
          { hash := PyData.keyHash P (Str.ofString "__loader__"), key := Value.str (Str.ofString "__loader__") 168, val := Value.builtin "__main__.__loader__#opaque" },
          { hash := PyData.keyHash P (Str.ofString "__spec__"), key := Value.str (Str.ofString "__spec__") 169, val := Value.none },
          { hash := PyData.keyHash P (Str.ofString "__annotations__"), key := Value.str (Str.ofString "__annotations__") 170, val := Value.ref 6 },
          { hash := PyData.keyHash P (Str.ofString "__builtins__"), key := Value.str (Str.ofString "__builtins__") 171, val := Value.ref 4 },
          { hash := PyData.keyHash P (Str.ofString "__file__"), key := Value.str (Str.ofString "__file__") 173, val := Value.str (Str.ofString "/claim/cut.py") 172 },
          { hash := PyData.keyHash P (Str.ofString "__cached__"), key := Value.str (Str.ofString "__cached__") 174, val := Value.none },
          { hash := PyData.keyHash P (Str.ofString "CRLF"), key := Value.str (Str.ofString "CRLF") 188, val := Value.str (Str.ofString "\x0d\n") 187 },
          { hash := PyData.keyHash P (Str.ofString "NL"), key := Value.str (Str.ofString "NL") 190, val := Value.str (Str.ofString "\n") 189 },
          { hash := PyData.keyHash P (Str.ofString "_QUOPRI_MAP"), key := Value.str (Str.ofString "_QUOPRI_MAP") 1218, val := Value.ref 17 },
          { hash := PyData.keyHash P (Str.ofString "_QUOPRI_HEADER_MAP"), key := Value.str (Str.ofString "_QUOPRI_HEADER_MAP") 1219, val := Value.ref 22 },
          { hash := PyData.keyHash P (Str.ofString "_QUOPRI_BODY_MAP"), key := Value.str (Str.ofString "_QUOPRI_BODY_MAP") 1220, val := Value.ref 24 },
          { hash := PyData.keyHash P (Str.ofString "ascii_lowercase"), key := Value.str (Str.ofString "ascii_lowercase") 1222, val := Value.str (Str.ofString "abcdefghijklmnopqrstuvwxyz") 1221 },
          { hash := PyData.keyHash P (Str.ofString "ascii_uppercase"), key := Value.str (Str.ofString "ascii_uppercase") 1224, val := Value.str (Str.ofString "ABCDEFGHIJKLMNOPQRSTUVWXYZ") 1223 },
          { hash := PyData.keyHash P (Str.ofString "ascii_letters"), key := Value.str (Str.ofString "ascii_letters") 1226,
            val := Value.str (Str.ofString "abcdefghijklmnopqrstuvwxyzABCDEFGHIJKLMNOPQRSTUVWXYZ") 1225 },
          { hash := PyData.keyHash P (Str.ofString "digits"), key := Value.str (Str.ofString "digits") 1228, val := Value.str (Str.ofString "0123456789") 1227 },
          { hash := PyData.keyHash P (Str.ofString "quote"), key := Value.str (Str.ofString "quote") 1734, val := Value.ref 37 },
          { hash := PyData.keyHash P (Str.ofString "header_encode"), key := Value.str (Str.ofString "header_encode") 1744, val := Value.ref 45 },
          { hash := PyData.keyHash P (Str.ofString "_QUOPRI_BODY_ENCODE_MAP"), key := Value.str (Str.ofString "_QUOPRI_BODY_ENCODE_MAP") 1745, val := Value.ref 47 },
          { hash := PyData.keyHash P (Str.ofString "body_encode"), key := Value.str (Str.ofString "body_encode") 1772, val := Value.ref 58 },
          { hash := PyData.keyHash P (Str.ofString "_parse_varint"), key := Value.str (Str.ofString "_parse_varint") 1783, val := Value.ref 65 },
          { hash := PyData.keyHash P (Str.ofString "_law_digits"), key := Value.str (Str.ofString "_law_digits") 1793, val := Value.ref 72 },
          { hash := PyData.keyHash P (Str.ofString "_law_below"), key := Value.str (Str.ofString "_law_below") 1799, val := Value.ref 77 },
          { hash := PyData.keyHash P (Str.ofString "_law_more"), key := Value.str (Str.ofString "_law_more") 1805, val := Value.ref 82 },
          { hash := PyData.keyHash P (Str.ofString "_law_counts"), key := Value.str (Str.ofString "_law_counts") 1811, val := Value.ref 87 },
          { hash := PyData.keyHash P (Str.ofString "law"), key := Value.str (Str.ofString "law") 1817, val := Value.ref 92 }]
        30 }
noncomputable abbrev k6 (P : Params) : Obj := { cls := Value.type "dict", data := Data.dict #[] }
noncomputable abbrev k17 (P : Params) : Obj :=
  { cls := Value.type "list",
    data :=
      Data.seq
        #[Value.str (Str.ofString "=00") 197, Value.str (Str.ofString "=01") 201, Value.str (Str.ofString "=02") 205, Value.str (Str.ofString "=03") 209, Value.str (Str.ofString "=04") 213,
          Value.str (Str.ofString "=05") 217, Value.str (Str.ofString "=06") 221, Value.str (Str.ofString "=07") 225, Value.str (Str.ofString "=08") 229, Value.str (Str.ofString "=09") 233,
          Value.str (Str.ofString "=0A") 237, Value.str (Str.ofString "=0B") 241, Value.str (Str.ofString "=0C") 245, Value.str (Str.ofString "=0D") 249, Value.str (Str.ofString "=0E") 253,
          Value.str (Str.ofString "=0F") 257, Value.str (Str.ofString "=10") 261, Value.str (Str.ofString "=11") 265, Value.str (Str.ofString "=12") 269, Value.str (Str.ofString "=13") 273,
          Value.str (Str.ofString "=14") 277, Value.str (Str.ofString "=15") 281, Value.str (Str.ofString "=16") 285, Value.str (Str.ofString "=17") 289, Value.str (Str.ofString "=18") 293,
          Value.str (Str.ofString "=19") 297, Value.str (Str.ofString "=1A") 301, Value.str (Str.ofString "=1B") 305, Value.str (Str.ofString "=1C") 309, Value.str (Str.ofString "=1D") 313,
          Value.str (Str.ofString "=1E") 317, Value.str (Str.ofString "=1F") 321, Value.str (Str.ofString "=20") 325, Value.str (Str.ofString "=21") 329, Value.str (Str.ofString "=22") 333,
          Value.str (Str.ofString "=23") 337, Value.str (Str.ofString "=24") 341, Value.str (Str.ofString "=25") 345, Value.str (Str.ofString "=26") 349, Value.str (Str.ofString "=27") 353,
          Value.str (Str.ofString "=28") 357, Value.str (Str.ofString "=29") 361, Value.str (Str.ofString "=2A") 365, Value.str (Str.ofString "=2B") 369, Value.str (Str.ofString "=2C") 373,
          Value.str (Str.ofString "=2D") 377, Value.str (Str.ofString "=2E") 381, Value.str (Str.ofString "=2F") 385, Value.str (Str.ofString "=30") 389, Value.str (Str.ofString "=31") 393,
          Value.str (Str.ofString "=32") 397, Value.str (Str.ofString "=33") 401, Value.str (Str.ofString "=34") 405, Value.str (Str.ofString "=35") 409, Value.str (Str.ofString "=36") 413,
          Value.str (Str.ofString "=37") 417, Value.str (Str.ofString "=38") 421, Value.str (Str.ofString "=39") 425, Value.str (Str.ofString "=3A") 429, Value.str (Str.ofString "=3B") 433,
          Value.str (Str.ofString "=3C") 437, Value.str (Str.ofString "=3D") 441, Value.str (Str.ofString "=3E") 445, Value.str (Str.ofString "=3F") 449, Value.str (Str.ofString "=40") 453,
          Value.str (Str.ofString "=41") 457, Value.str (Str.ofString "=42") 461, Value.str (Str.ofString "=43") 465, Value.str (Str.ofString "=44") 469, Value.str (Str.ofString "=45") 473,
          Value.str (Str.ofString "=46") 477, Value.str (Str.ofString "=47") 481, Value.str (Str.ofString "=48") 485, Value.str (Str.ofString "=49") 489, Value.str (Str.ofString "=4A") 493,
          Value.str (Str.ofString "=4B") 497, Value.str (Str.ofString "=4C") 501, Value.str (Str.ofString "=4D") 505, Value.str (Str.ofString "=4E") 509, Value.str (Str.ofString "=4F") 513,
          Value.str (Str.ofString "=50") 517, Value.str (Str.ofString "=51") 521, Value.str (Str.ofString "=52") 525, Value.str (Str.ofString "=53") 529, Value.str (Str.ofString "=54") 533,
          Value.str (Str.ofString "=55") 537, Value.str (Str.ofString "=56") 541, Value.str (Str.ofString "=57") 545, Value.str (Str.ofString "=58") 549, Value.str (Str.ofString "=59") 553,
          Value.str (Str.ofString "=5A") 557, Value.str (Str.ofString "=5B") 561, Value.str (Str.ofString "=5C") 565, Value.str (Str.ofString "=5D") 569, Value.str (Str.ofString "=5E") 573,
          Value.str (Str.ofString "=5F") 577, Value.str (Str.ofString "=60") 581, Value.str (Str.ofString "=61") 585, Value.str (Str.ofString "=62") 589, Value.str (Str.ofString "=63") 593,
          Value.str (Str.ofString "=64") 597, Value.str (Str.ofString "=65") 601, Value.str (Str.ofString "=66") 605, Value.str (Str.ofString "=67") 609, Value.str (Str.ofString "=68") 613,
          Value.str (Str.ofString "=69") 617, Value.str (Str.ofString "=6A") 621, Value.str (Str.ofString "=6B") 625, Value.str (Str.ofString "=6C") 629, Value.str (Str.ofString "=6D") 633,
          Value.str (Str.ofString "=6E") 637, Value.str (Str.ofString "=6F") 641, Value.str (Str.ofString "=70") 645, Value.str (Str.ofString "=71") 649, Value.str (Str.ofString "=72") 653,
          Value.str (Str.ofString "=73") 657, Value.str (Str.ofString "=74") 661, Value.str (Str.ofString "=75") 665, Value.str (Str.ofString "=76") 669, Value.str (Str.ofString "=77") 673,
          Value.str (Str.ofString "=78") 677, Value.str (Str.ofString "=79") 681, Value.str (Str.ofString "=7A") 685, Value.str (Str.ofString "=7B") 689, Value.str (Str.ofString "=7C") 693,
          Value.str (Str.ofString "=7D") 697, Value.str (Str.ofString "=7E") 701, Value.str (Str.ofString "=7F") 705, Value.str (Str.ofString "=80") 709, Value.str (Str.ofString "=81") 713,
          Value.str (Str.ofString "=82") 717, Value.str (Str.ofString "=83") 721, Value.str (Str.ofString "=84") 725, Value.str (Str.ofString "=85") 729, Value.str (Str.ofString "=86") 733,
          Value.str (Str.ofString "=87") 737, Value.str (Str.ofString "=88") 741, Value.str (Str.ofString "=89") 745, Value.str (Str.ofString "=8A") 749, Value.str (Str.ofString "=8B") 753,
          Value.str (Str.ofString "=8C") 757, Value.str (Str.ofString "=8D") 761, Value.str (Str.ofString "=8E") 765, Value.str (Str.ofString "=8F") 769, Value.str (Str.ofString "=90") 773,
          Value.str (Str.ofString "=91") 777, Value.str (Str.ofString "=92") 781, Value.str (Str.ofString "=93") 785, Value.str (Str.ofString "=94") 789, Value.str (Str.ofString "=95") 793,
          Value.str (Str.ofString "=96") 797, Value.str (Str.ofString "=97") 801, Value.str (Str.ofString "=98") 805, Value.str (Str.ofString "=99") 809, Value.str (Str.ofString "=9A") 813,
          Value.str (Str.ofString "=9B") 817, Value.str (Str.ofString "=9C") 821, Value.str (Str.ofString "=9D") 825, Value.str (Str.ofString "=9E") 829, Value.str (Str.ofString "=9F") 833,
          Value.str (Str.ofString "=A0") 837, Value.str (Str.ofString "=A1") 841, Value.str (Str.ofString "=A2") 845, Value.str (Str.ofString "=A3") 849, Value.str (Str.ofString "=A4") 853,
          Value.str (Str.ofString "=A5") 857, Value.str (Str.ofString "=A6") 861, Value.str (Str.ofString "=A7") 865, Value.str (Str.ofString "=A8") 869, Value.str (Str.ofString "=A9") 873,
          Value.str (Str.ofString "=AA") 877, Value.str (Str.ofString "=AB") 881, Value.str (Str.ofString "=AC") 885, Value.str (Str.ofString "=AD") 889, Value.str (Str.ofString "=AE") 893,
          Value.str (Str.ofString "=AF") 897, Value.str (Str.ofString "=B0") 901, Value.str (Str.ofString "=B1") 905, Value.str (Str.ofString "=B2") 909, Value.str (Str.ofString "=B3") 913,
          Value.str (Str.ofString "=B4") 917, Value.str (Str.ofString "=B5") 921, Value.str (Str.ofString "=B6") 925, Value.str (Str.ofString "=B7") 929, Value.str (Str.ofString "=B8") 933,
          Value.str (Str.ofString "=B9") 937, Value.str (Str.ofString "=BA") 941, Value.str (Str.ofString "=BB") 945, Value.str (Str.ofString "=BC") 949, Value.str (Str.ofString "=BD") 953,
          Value.str (Str.ofString "=BE") 957, Value.str (Str.ofString "=BF") 961, Value.str (Str.ofString "=C0") 965, Value.str (Str.ofString "=C1") 969, Value.str (Str.ofString "=C2") 973,
          Value.str (Str.ofString "=C3") 977, Value.str (Str.ofString "=C4") 981, Value.str (Str.ofString "=C5") 985, Value.str (Str.ofString "=C6") 989, Value.str (Str.ofString "=C7") 993,
          Value.str (Str.ofString "=C8") 997, Value.str (Str.ofString "=C9") 1001, Value.str (Str.ofString "=CA") 1005, Value.str (Str.ofString "=CB") 1009, Value.str (Str.ofString "=CC") 1013,
          Value.str (Str.ofString "=CD") 1017, Value.str (Str.ofString "=CE") 1021, Value.str (Str.ofString "=CF") 1025, Value.str (Str.ofString "=D0") 1029, Value.str (Str.ofString "=D1") 1033,
          Value.str (Str.ofString "=D2") 1037, Value.str (Str.ofString "=D3") 1041, Value.str (Str.ofString "=D4") 1045, Value.str (Str.ofString "=D5") 1049, Value.str (Str.ofString "=D6") 1053,
          Value.str (Str.ofString "=D7") 1057, Value.str (Str.ofString "=D8") 1061, Value.str (Str.ofString "=D9") 1065, Value.str (Str.ofString "=DA") 1069, Value.str (Str.ofString "=DB") 1073,
          Value.str (Str.ofString "=DC") 1077, Value.str (Str.ofString "=DD") 1081, Value.str (Str.ofString "=DE") 1085, Value.str (Str.ofString "=DF") 1089, Value.str (Str.ofString "=E0") 1093,
          Value.str (Str.ofString "=E1") 1097, Value.str (Str.ofString "=E2") 1101, Value.str (Str.ofString "=E3") 1105, Value.str (Str.ofString "=E4") 1109, Value.str (Str.ofString "=E5") 1113,
          Value.str (Str.ofString "=E6") 1117, Value.str (Str.ofString "=E7") 1121, Value.str (Str.ofString "=E8") 1125, Value.str (Str.ofString "=E9") 1129, Value.str (Str.ofString "=EA") 1133,
          Value.str (Str.ofString "=EB") 1137, Value.str (Str.ofString "=EC") 1141, Value.str (Str.ofString "=ED") 1145, Value.str (Str.ofString "=EE") 1149, Value.str (Str.ofString "=EF") 1153,
          Value.str (Str.ofString "=F0") 1157, Value.str (Str.ofString "=F1") 1161, Value.str (Str.ofString "=F2") 1165, Value.str (Str.ofString "=F3") 1169, Value.str (Str.ofString "=F4") 1173,
          Value.str (Str.ofString "=F5") 1177, Value.str (Str.ofString "=F6") 1181, Value.str (Str.ofString "=F7") 1185, Value.str (Str.ofString "=F8") 1189, Value.str (Str.ofString "=F9") 1193,
          Value.str (Str.ofString "=FA") 1197, Value.str (Str.ofString "=FB") 1201, Value.str (Str.ofString "=FC") 1205, Value.str (Str.ofString "=FD") 1209, Value.str (Str.ofString "=FE") 1213,
          Value.str (Str.ofString "=FF") 1217]
        256 }
noncomputable abbrev k22 (P : Params) : Obj :=
  { cls := Value.type "list",
    data :=
      Data.seq
        #[Value.str (Str.ofString "=00") 197, Value.str (Str.ofString "=01") 201, Value.str (Str.ofString "=02") 205, Value.str (Str.ofString "=03") 209, Value.str (Str.ofString "=04") 213,
          Value.str (Str.ofString "=05") 217, Value.str (Str.ofString "=06") 221, Value.str (Str.ofString "=07") 225, Value.str (Str.ofString "=08") 229, Value.str (Str.ofString "=09") 233,
          Value.str (Str.ofString "=0A") 237, Value.str (Str.ofString "=0B") 241, Value.str (Str.ofString "=0C") 245, Value.str (Str.ofString "=0D") 249, Value.str (Str.ofString "=0E") 253,
          Value.str (Str.ofString "=0F") 257, Value.str (Str.ofString "=10") 261, Value.str (Str.ofString "=11") 265, Value.str (Str.ofString "=12") 269, Value.str (Str.ofString "=13") 273,
          Value.str (Str.ofString "=14") 277, Value.str (Str.ofString "=15") 281, Value.str (Str.ofString "=16") 285, Value.str (Str.ofString "=17") 289, Value.str (Str.ofString "=18") 293,
          Value.str (Str.ofString "=19") 297, Value.str (Str.ofString "=1A") 301, Value.str (Str.ofString "=1B") 305, Value.str (Str.ofString "=1C") 309, Value.str (Str.ofString "=1D") 313,
          Value.str (Str.ofString "=1E") 317, Value.str (Str.ofString "=1F") 321, Value.str (Str.ofString "_") 1439, Value.str (Str.ofString "!") 1243, Value.str (Str.ofString "=22") 333,
          Value.str (Str.ofString "=23") 337, Value.str (Str.ofString "=24") 341, Value.str (Str.ofString "=25") 345, Value.str (Str.ofString "=26") 349, Value.str (Str.ofString "=27") 353,
          Value.str (Str.ofString "=28") 357, Value.str (Str.ofString "=29") 361, Value.str (Str.ofString "*") 1246, Value.str (Str.ofString "+") 1249, Value.str (Str.ofString "=2C") 373,
          Value.str (Str.ofString "-") 1240, Value.str (Str.ofString "=2E") 381, Value.str (Str.ofString "/") 1252, Value.str (Str.ofString "0") 1411, Value.str (Str.ofString "1") 1414,
          Value.str (Str.ofString "2") 1417, Value.str (Str.ofString "3") 1420, Value.str (Str.ofString "4") 1423, Value.str (Str.ofString "5") 1426, Value.str (Str.ofString "6") 1429,
          Value.str (Str.ofString "7") 1432, Value.str (Str.ofString "8") 1435, Value.str (Str.ofString "9") 1438, Value.str (Str.ofString "=3A") 429, Value.str (Str.ofString "=3B") 433,
          Value.str (Str.ofString "=3C") 437, Value.str (Str.ofString "=3D") 441, Value.str (Str.ofString "=3E") 445, Value.str (Str.ofString "=3F") 449, Value.str (Str.ofString "=40") 453,
          Value.str (Str.ofString "A") 1333, Value.str (Str.ofString "B") 1336, Value.str (Str.ofString "C") 1339, Value.str (Str.ofString "D") 1342, Value.str (Str.ofString "E") 1345,
          Value.str (Str.ofString "F") 1348, Value.str (Str.ofString "G") 1351, Value.str (Str.ofString "H") 1354, Value.str (Str.ofString "I") 1357, Value.str (Str.ofString "J") 1360,
          Value.str (Str.ofString "K") 1363, Value.str (Str.ofString "L") 1366, Value.str (Str.ofString "M") 1369, Value.str (Str.ofString "N") 1372, Value.str (Str.ofString "O") 1375,
          Value.str (Str.ofString "P") 1378, Value.str (Str.ofString "Q") 1381, Value.str (Str.ofString "R") 1384, Value.str (Str.ofString "S") 1387, Value.str (Str.ofString "T") 1390,
          Value.str (Str.ofString "U") 1393, Value.str (Str.ofString "V") 1396, Value.str (Str.ofString "W") 1399, Value.str (Str.ofString "X") 1402, Value.str (Str.ofString "Y") 1405,
          Value.str (Str.ofString "Z") 1408, Value.str (Str.ofString "=5B") 561, Value.str (Str.ofString "=5C") 565, Value.str (Str.ofString "=5D") 569, Value.str (Str.ofString "=5E") 573,
          Value.str (Str.ofString "=5F") 577, Value.str (Str.ofString "=60") 581, Value.str (Str.ofString "a") 1255, Value.str (Str.ofString "b") 1258, Value.str (Str.ofString "c") 1261,
          Value.str (Str.ofString "d") 1264, Value.str (Str.ofString "e") 1267, Value.str (Str.ofString "f") 1270, Value.str (Str.ofString "g") 1273, Value.str (Str.ofString "h") 1276,
          Value.str (Str.ofString "i") 1279, Value.str (Str.ofString "j") 1282, Value.str (Str.ofString "k") 1285, Value.str (Str.ofString "l") 1288, Value.str (Str.ofString "m") 1291,
          Value.str (Str.ofString "n") 1294, Value.str (Str.ofString "o") 1297, Value.str (Str.ofString "p") 1300, Value.str (Str.ofString "q") 1303, Value.str (Str.ofString "r") 1306,
          Value.str (Str.ofString "s") 1309, Value.str (Str.ofString "t") 1312, Value.str (Str.ofString "u") 1315, Value.str (Str.ofString "v") 1318, Value.str (Str.ofString "w") 1321,
          Value.str (Str.ofString "x") 1324, Value.str (Str.ofString "y") 1327, Value.str (Str.ofString "z") 1330, Value.str (Str.ofString "=7B") 689, Value.str (Str.ofString "=7C") 693,
          Value.str (Str.ofString "=7D") 697, Value.str (Str.ofString "=7E") 701, Value.str (Str.ofString "=7F") 705, Value.str (Str.ofString "=80") 709, Value.str (Str.ofString "=81") 713,
          Value.str (Str.ofString "=82") 717, Value.str (Str.ofString "=83") 721, Value.str (Str.ofString "=84") 725, Value.str (Str.ofString "=85") 729, Value.str (Str.ofString "=86") 733,
          Value.str (Str.ofString "=87") 737, Value.str (Str.ofString "=88") 741, Value.str (Str.ofString "=89") 745, Value.str (Str.ofString "=8A") 749, Value.str (Str.ofString "=8B") 753,
          Value.str (Str.ofString "=8C") 757, Value.str (Str.ofString "=8D") 761, Value.str (Str.ofString "=8E") 765, Value.str (Str.ofString "=8F") 769, Value.str (Str.ofString "=90") 773,
          Value.str (Str.ofString "=91") 777, Value.str (Str.ofString "=92") 781, Value.str (Str.ofString "=93") 785, Value.str (Str.ofString "=94") 789, Value.str (Str.ofString "=95") 793,
          Value.str (Str.ofString "=96") 797, Value.str (Str.ofString "=97") 801, Value.str (Str.ofString "=98") 805, Value.str (Str.ofString "=99") 809, Value.str (Str.ofString "=9A") 813,
          Value.str (Str.ofString "=9B") 817, Value.str (Str.ofString "=9C") 821, Value.str (Str.ofString "=9D") 825, Value.str (Str.ofString "=9E") 829, Value.str (Str.ofString "=9F") 833,
          Value.str (Str.ofString "=A0") 837, Value.str (Str.ofString "=A1") 841, Value.str (Str.ofString "=A2") 845, Value.str (Str.ofString "=A3") 849, Value.str (Str.ofString "=A4") 853,
          Value.str (Str.ofString "=A5") 857, Value.str (Str.ofString "=A6") 861, Value.str (Str.ofString "=A7") 865, Value.str (Str.ofString "=A8") 869, Value.str (Str.ofString "=A9") 873,
          Value.str (Str.ofString "=AA") 877, Value.str (Str.ofString "=AB") 881, Value.str (Str.ofString "=AC") 885, Value.str (Str.ofString "=AD") 889, Value.str (Str.ofString "=AE") 893,
          Value.str (Str.ofString "=AF") 897, Value.str (Str.ofString "=B0") 901, Value.str (Str.ofString "=B1") 905, Value.str (Str.ofString "=B2") 909, Value.str (Str.ofString "=B3") 913,
          Value.str (Str.ofString "=B4") 917, Value.str (Str.ofString "=B5") 921, Value.str (Str.ofString "=B6") 925, Value.str (Str.ofString "=B7") 929, Value.str (Str.ofString "=B8") 933,
          Value.str (Str.ofString "=B9") 937, Value.str (Str.ofString "=BA") 941, Value.str (Str.ofString "=BB") 945, Value.str (Str.ofString "=BC") 949, Value.str (Str.ofString "=BD") 953,
          Value.str (Str.ofString "=BE") 957, Value.str (Str.ofString "=BF") 961, Value.str (Str.ofString "=C0") 965, Value.str (Str.ofString "=C1") 969, Value.str (Str.ofString "=C2") 973,
          Value.str (Str.ofString "=C3") 977, Value.str (Str.ofString "=C4") 981, Value.str (Str.ofString "=C5") 985, Value.str (Str.ofString "=C6") 989, Value.str (Str.ofString "=C7") 993,
          Value.str (Str.ofString "=C8") 997, Value.str (Str.ofString "=C9") 1001, Value.str (Str.ofString "=CA") 1005, Value.str (Str.ofString "=CB") 1009, Value.str (Str.ofString "=CC") 1013,
          Value.str (Str.ofString "=CD") 1017, Value.str (Str.ofString "=CE") 1021, Value.str (Str.ofString "=CF") 1025, Value.str (Str.ofString "=D0") 1029, Value.str (Str.ofString "=D1") 1033,
          Value.str (Str.ofString "=D2") 1037, Value.str (Str.ofString "=D3") 1041, Value.str (Str.ofString "=D4") 1045, Value.str (Str.ofString "=D5") 1049, Value.str (Str.ofString "=D6") 1053,
          Value.str (Str.ofString "=D7") 1057, Value.str (Str.ofString "=D8") 1061, Value.str (Str.ofString "=D9") 1065, Value.str (Str.ofString "=DA") 1069, Value.str (Str.ofString "=DB") 1073,
          Value.str (Str.ofString "=DC") 1077, Value.str (Str.ofString "=DD") 1081, Value.str (Str.ofString "=DE") 1085, Value.str (Str.ofString "=DF") 1089, Value.str (Str.ofString "=E0") 1093,
          Value.str (Str.ofString "=E1") 1097, Value.str (Str.ofString "=E2") 1101, Value.str (Str.ofString "=E3") 1105, Value.str (Str.ofString "=E4") 1109, Value.str (Str.ofString "=E5") 1113,
          Value.str (Str.ofString "=E6") 1117, Value.str (Str.ofString "=E7") 1121, Value.str (Str.ofString "=E8") 1125, Value.str (Str.ofString "=E9") 1129, Value.str (Str.ofString "=EA") 1133,
          Value.str (Str.ofString "=EB") 1137, Value.str (Str.ofString "=EC") 1141, Value.str (Str.ofString "=ED") 1145, Value.str (Str.ofString "=EE") 1149, Value.str (Str.ofString "=EF") 1153,
          Value.str (Str.ofString "=F0") 1157, Value.str (Str.ofString "=F1") 1161, Value.str (Str.ofString "=F2") 1165, Value.str (Str.ofString "=F3") 1169, Value.str (Str.ofString "=F4") 1173,
          Value.str (Str.ofString "=F5") 1177, Value.str (Str.ofString "=F6") 1181, Value.str (Str.ofString "=F7") 1185, Value.str (Str.ofString "=F8") 1189, Value.str (Str.ofString "=F9") 1193,
          Value.str (Str.ofString "=FA") 1197, Value.str (Str.ofString "=FB") 1201, Value.str (Str.ofString "=FC") 1205, Value.str (Str.ofString "=FD") 1209, Value.str (Str.ofString "=FE") 1213,
          Value.str (Str.ofString "=FF") 1217] }
noncomputable abbrev k24 (P : Params) : Obj :=
  { cls := Value.type "list",
    data :=
      Data.seq
        #[Value.str (Str.ofString "=00") 197, Value.str (Str.ofString "=01") 201, Value.str (Str.ofString "=02") 205, Value.str (Str.ofString "=03") 209, Value.str (Str.ofString "=04") 213,
          Value.str (Str.ofString "=05") 217, Value.str (Str.ofString "=06") 221, Value.str (Str.ofString "=07") 225, Value.str (Str.ofString "=08") 229, Value.str (Str.ofString "\t") 1727,
          Value.str (Str.ofString "=0A") 237, Value.str (Str.ofString "=0B") 241, Value.str (Str.ofString "=0C") 245, Value.str (Str.ofString "=0D") 249, Value.str (Str.ofString "=0E") 253,
          Value.str (Str.ofString "=0F") 257, Value.str (Str.ofString "=10") 261, Value.str (Str.ofString "=11") 265, Value.str (Str.ofString "=12") 269, Value.str (Str.ofString "=13") 273,
          Value.str (Str.ofString "=14") 277, Value.str (Str.ofString "=15") 281, Value.str (Str.ofString "=16") 285, Value.str (Str.ofString "=17") 289, Value.str (Str.ofString "=18") 293,
          Value.str (Str.ofString "=19") 297, Value.str (Str.ofString "=1A") 301, Value.str (Str.ofString "=1B") 305, Value.str (Str.ofString "=1C") 309, Value.str (Str.ofString "=1D") 313,
          Value.str (Str.ofString "=1E") 317, Value.str (Str.ofString "=1F") 321, Value.str (Str.ofString " ") 1445, Value.str (Str.ofString "!") 1448, Value.str (Str.ofString "\"") 1451,
          Value.str (Str.ofString "#") 1454, Value.str (Str.ofString "$") 1457, Value.str (Str.ofString "%") 1460, Value.str (Str.ofString "&") 1463, Value.str (Str.ofString "'") 1466,
          Value.str (Str.ofString "(") 1469, Value.str (Str.ofString ")") 1472, Value.str (Str.ofString "*") 1475, Value.str (Str.ofString "+") 1478, Value.str (Str.ofString ",") 1481,
          Value.str (Str.ofString "-") 1484, Value.str (Str.ofString ".") 1487, Value.str (Str.ofString "/") 1490, Value.str (Str.ofString "0") 1493, Value.str (Str.ofString "1") 1496,
          Value.str (Str.ofString "2") 1499, Value.str (Str.ofString "3") 1502, Value.str (Str.ofString "4") 1505, Value.str (Str.ofString "5") 1508, Value.str (Str.ofString "6") 1511,
          Value.str (Str.ofString "7") 1514, Value.str (Str.ofString "8") 1517, Value.str (Str.ofString "9") 1520, Value.str (Str.ofString ":") 1523, Value.str (Str.ofString ";") 1526,
          Value.str (Str.ofString "<") 1529, Value.str (Str.ofString "=3D") 441, Value.str (Str.ofString ">") 1532, Value.str (Str.ofString "?") 1535, Value.str (Str.ofString "@") 1538,
          Value.str (Str.ofString "A") 1541, Value.str (Str.ofString "B") 1544, Value.str (Str.ofString "C") 1547, Value.str (Str.ofString "D") 1550, Value.str (Str.ofString "E") 1553,
          Value.str (Str.ofString "F") 1556, Value.str (Str.ofString "G") 1559, Value.str (Str.ofString "H") 1562, Value.str (Str.ofString "I") 1565, Value.str (Str.ofString "J") 1568,
          Value.str (Str.ofString "K") 1571, Value.str (Str.ofString "L") 1574, Value.str (Str.ofString "M") 1577, Value.str (Str.ofString "N") 1580, Value.str (Str.ofString "O") 1583,
          Value.str (Str.ofString "P") 1586, Value.str (Str.ofString "Q") 1589, Value.str (Str.ofString "R") 1592, Value.str (Str.ofString "S") 1595, Value.str (Str.ofString "T") 1598,
          Value.str (Str.ofString "U") 1601, Value.str (Str.ofString "V") 1604, Value.str (Str.ofString "W") 1607, Value.str (Str.ofString "X") 1610, Value.str (Str.ofString "Y") 1613,
          Value.str (Str.ofString "Z") 1616, Value.str (Str.ofString "[") 1619, Value.str (Str.ofString "\\") 1622, Value.str (Str.ofString "]") 1625, Value.str (Str.ofString "^") 1628,
          Value.str (Str.ofString "_") 1631, Value.str (Str.ofString "`") 1634, Value.str (Str.ofString "a") 1637, Value.str (Str.ofString "b") 1640, Value.str (Str.ofString "c") 1643,
          Value.str (Str.ofString "d") 1646, Value.str (Str.ofString "e") 1649, Value.str (Str.ofString "f") 1652, Value.str (Str.ofString "g") 1655, Value.str (Str.ofString "h") 1658,
          Value.str (Str.ofString "i") 1661, Value.str (Str.ofString "j") 1664, Value.str (Str.ofString "k") 1667, Value.str (Str.ofString "l") 1670, Value.str (Str.ofString "m") 1673,
          Value.str (Str.ofString "n") 1676, Value.str (Str.ofString "o") 1679, Value.str (Str.ofString "p") 1682, Value.str (Str.ofString "q") 1685, Value.str (Str.ofString "r") 1688,
          Value.str (Str.ofString "s") 1691, Value.str (Str.ofString "t") 1694, Value.str (Str.ofString "u") 1697, Value.str (Str.ofString "v") 1700, Value.str (Str.ofString "w") 1703,
          Value.str (Str.ofString "x") 1706, Value.str (Str.ofString "y") 1709, Value.str (Str.ofString "z") 1712, Value.str (Str.ofString "{") 1715, Value.str (Str.ofString "|") 1718,
          Value.str (Str.ofString "}") 1721, Value.str (Str.ofString "~") 1724, Value.str (Str.ofString "=7F") 705, Value.str (Str.ofString "=80") 709, Value.str (Str.ofString "=81") 713,
          Value.str (Str.ofString "=82") 717, Value.str (Str.ofString "=83") 721, Value.str (Str.ofString "=84") 725, Value.str (Str.ofString "=85") 729, Value.str (Str.ofString "=86") 733,
          Value.str (Str.ofString "=87") 737, Value.str (Str.ofString "=88") 741, Value.str (Str.ofString "=89") 745, Value.str (Str.ofString "=8A") 749, Value.str (Str.ofString "=8B") 753,
          Value.str (Str.ofString "=8C") 757, Value.str (Str.ofString "=8D") 761, Value.str (Str.ofString "=8E") 765, Value.str (Str.ofString "=8F") 769, Value.str (Str.ofString "=90") 773,
          Value.str (Str.ofString "=91") 777, Value.str (Str.ofString "=92") 781, Value.str (Str.ofString "=93") 785, Value.str (Str.ofString "=94") 789, Value.str (Str.ofString "=95") 793,
          Value.str (Str.ofString "=96") 797, Value.str (Str.ofString "=97") 801, Value.str (Str.ofString "=98") 805, Value.str (Str.ofString "=99") 809, Value.str (Str.ofString "=9A") 813,
          Value.str (Str.ofString "=9B") 817, Value.str (Str.ofString "=9C") 821, Value.str (Str.ofString "=9D") 825, Value.str (Str.ofString "=9E") 829, Value.str (Str.ofString "=9F") 833,
          Value.str (Str.ofString "=A0") 837, Value.str (Str.ofString "=A1") 841, Value.str (Str.ofString "=A2") 845, Value.str (Str.ofString "=A3") 849, Value.str (Str.ofString "=A4") 853,
          Value.str (Str.ofString "=A5") 857, Value.str (Str.ofString "=A6") 861, Value.str (Str.ofString "=A7") 865, Value.str (Str.ofString "=A8") 869, Value.str (Str.ofString "=A9") 873,
          Value.str (Str.ofString "=AA") 877, Value.str (Str.ofString "=AB") 881, Value.str (Str.ofString "=AC") 885, Value.str (Str.ofString "=AD") 889, Value.str (Str.ofString "=AE") 893,
          Value.str (Str.ofString "=AF") 897, Value.str (Str.ofString "=B0") 901, Value.str (Str.ofString "=B1") 905, Value.str (Str.ofString "=B2") 909, Value.str (Str.ofString "=B3") 913,
          Value.str (Str.ofString "=B4") 917, Value.str (Str.ofString "=B5") 921, Value.str (Str.ofString "=B6") 925, Value.str (Str.ofString "=B7") 929, Value.str (Str.ofString "=B8") 933,
          Value.str (Str.ofString "=B9") 937, Value.str (Str.ofString "=BA") 941, Value.str (Str.ofString "=BB") 945, Value.str (Str.ofString "=BC") 949, Value.str (Str.ofString "=BD") 953,
          Value.str (Str.ofString "=BE") 957, Value.str (Str.ofString "=BF") 961, Value.str (Str.ofString "=C0") 965, Value.str (Str.ofString "=C1") 969, Value.str (Str.ofString "=C2") 973,
          Value.str (Str.ofString "=C3") 977, Value.str (Str.ofString "=C4") 981, Value.str (Str.ofString "=C5") 985, Value.str (Str.ofString "=C6") 989, Value.str (Str.ofString "=C7") 993,
          Value.str (Str.ofString "=C8") 997, Value.str (Str.ofString "=C9") 1001, Value.str (Str.ofString "=CA") 1005, Value.str (Str.ofString "=CB") 1009, Value.str (Str.ofString "=CC") 1013,
          Value.str (Str.ofString "=CD") 1017, Value.str (Str.ofString "=CE") 1021, Value.str (Str.ofString "=CF") 1025, Value.str (Str.ofString "=D0") 1029, Value.str (Str.ofString "=D1") 1033,
          Value.str (Str.ofString "=D2") 1037, Value.str (Str.ofString "=D3") 1041, Value.str (Str.ofString "=D4") 1045, Value.str (Str.ofString "=D5") 1049, Value.str (Str.ofString "=D6") 1053,
          Value.str (Str.ofString "=D7") 1057, Value.str (Str.ofString "=D8") 1061, Value.str (Str.ofString "=D9") 1065, Value.str (Str.ofString "=DA") 1069, Value.str (Str.ofString "=DB") 1073,
          Value.str (Str.ofString "=DC") 1077, Value.str (Str.ofString "=DD") 1081, Value.str (Str.ofString "=DE") 1085, Value.str (Str.ofString "=DF") 1089, Value.str (Str.ofString "=E0") 1093,
          Value.str (Str.ofString "=E1") 1097, Value.str (Str.ofString "=E2") 1101, Value.str (Str.ofString "=E3") 1105, Value.str (Str.ofString "=E4") 1109, Value.str (Str.ofString "=E5") 1113,
          Value.str (Str.ofString "=E6") 1117, Value.str (Str.ofString "=E7") 1121, Value.str (Str.ofString "=E8") 1125, Value.str (Str.ofString "=E9") 1129, Value.str (Str.ofString "=EA") 1133,
          Value.str (Str.ofString "=EB") 1137, Value.str (Str.ofString "=EC") 1141, Value.str (Str.ofString "=ED") 1145, Value.str (Str.ofString "=EE") 1149, Value.str (Str.ofString "=EF") 1153,
          Value.str (Str.ofString "=F0") 1157, Value.str (Str.ofString "=F1") 1161, Value.str (Str.ofString "=F2") 1165, Value.str (Str.ofString "=F3") 1169, Value.str (Str.ofString "=F4") 1173,
          Value.str (Str.ofString "=F5") 1177, Value.str (Str.ofString "=F6") 1181, Value.str (Str.ofString "=F7") 1185, Value.str (Str.ofString "=F8") 1189, Value.str (Str.ofString "=F9") 1193,
          Value.str (Str.ofString "=FA") 1197, Value.str (Str.ofString "=FB") 1201, Value.str (Str.ofString "=FC") 1205, Value.str (Str.ofString "=FD") 1209, Value.str (Str.ofString "=FE") 1213,
          Value.str (Str.ofString "=FF") 1217] }
noncomputable abbrev k31 (P : Params) : Obj := { cls := Value.type "tuple", data := Data.seq #[] }
noncomputable abbrev k33 (P : Params) : Obj := { cls := Value.type "tuple", data := Data.seq #[Value.str (Str.ofString "c") 1731] }
noncomputable abbrev k34 (P : Params) : Obj := { cls := Value.type "tuple", data := Data.seq #[] }
noncomputable abbrev k36 (P : Params) : Obj :=
  { cls := Value.type "code",
    data :=
      Data.fields
        #[Value.str (Str.ofString "quote") 1728, Value.str (Str.ofString "quote") 1729, Value.str (Str.ofString "/claim/cut.py") 1730, Value.int 16 0, Value.int 1 0, Value.int 0 0, Value.int 0 0,
          Value.int 3 0, Value.ref 31, Value.bool true, Value.int 181 0, Value.ref 32, Value.none, Value.ref 33, Value.ref 34, Value.ref 35, Value.int 1732 0, Value.int 16 0,
          Value.str (Str.ofString "/claim/cut.py") 1733] }
noncomputable abbrev k37 (P : Params) : Obj :=
  { cls := Value.type "function",
    data :=
      Data.func
        { name := Str.ofString "quote", qualname := Str.ofString "quote",
          params := fn13.1, body := FuncBody.stmts fn13.2.1, scope := fn13.2.2, globals := 3, closure := [], defaults := Value.none, kwdefaults := Value.none, pyModule := Value.str (Str.ofString "cpy313.email.quoprimime") 1229, code := Value.ref 36 } }
noncomputable abbrev k38 (P : Params) : Obj := { cls := Value.type "tuple", data := Data.seq #[Value.str (Str.ofString "iso-8859-1") 1735] }
noncomputable abbrev k39 (P : Params) : Obj := { cls := Value.type "tuple", data := Data.seq #[] }
noncomputable abbrev k41 (P : Params) : Obj := { cls := Value.type "tuple", data := Data.seq #[Value.str (Str.ofString "header_bytes") 1739, Value.str (Str.ofString "charset") 1740, Value.str (Str.ofString "encoded") 1741] }
noncomputable abbrev k42 (P : Params) : Obj := { cls := Value.type "tuple", data := Data.seq #[] }
noncomputable abbrev k44 (P : Params) : Obj :=
  { cls := Value.type "code",
    data :=
      Data.fields
        #[Value.str (Str.ofString "header_encode") 1736, Value.str (Str.ofString "header_encode") 1737, Value.str (Str.ofString "/claim/cut.py") 1738, Value.int 18 0, Value.int 2 0, Value.int 0 0,
          Value.int 0 0, Value.int 3 0, Value.ref 39, Value.bool true, Value.int 181 0, Value.ref 40, Value.none, Value.ref 41, Value.ref 42, Value.ref 43, Value.int 1742 0, Value.int 18 0,
          Value.str (Str.ofString "/claim/cut.py") 1743] }
noncomputable abbrev k45 (P : Params) : Obj :=
  { cls := Value.type "function",
    data :=
      Data.func
        { name := Str.ofString "header_encode", qualname := Str.ofString "header_encode",
          params := fn14.1, body := FuncBody.stmts fn14.2.1, scope := fn14.2.2, globals := 3, closure := [], defaults := Value.ref 38, kwdefaults := Value.none, pyModule := Value.str (Str.ofString "cpy313.email.quoprimime") 1229, code := Value.ref 44 } }
noncomputable abbrev k47 (P : Params) : Obj :=
  { cls := Value.type "list",
    data :=
      Data.seq
        #[Value.str (Str.ofString "=00") 197, Value.str (Str.ofString "=01") 201, Value.str (Str.ofString "=02") 205, Value.str (Str.ofString "=03") 209, Value.str (Str.ofString "=04") 213,
          Value.str (Str.ofString "=05") 217, Value.str (Str.ofString "=06") 221, Value.str (Str.ofString "=07") 225, Value.str (Str.ofString "=08") 229, Value.str (Str.ofString "\t") 1727,
          Value.str (Str.ofString "\n") 1752, Value.str (Str.ofString "=0B") 241, Value.str (Str.ofString "=0C") 245, Value.str (Str.ofString "\x0d") 1749, Value.str (Str.ofString "=0E") 253,
          Value.str (Str.ofString "=0F") 257, Value.str (Str.ofString "=10") 261, Value.str (Str.ofString "=11") 265, Value.str (Str.ofString "=12") 269, Value.str (Str.ofString "=13") 273,
          Value.str (Str.ofString "=14") 277, Value.str (Str.ofString "=15") 281, Value.str (Str.ofString "=16") 285, Value.str (Str.ofString "=17") 289, Value.str (Str.ofString "=18") 293,
          Value.str (Str.ofString "=19") 297, Value.str (Str.ofString "=1A") 301, Value.str (Str.ofString "=1B") 305, Value.str (Str.ofString "=1C") 309, Value.str (Str.ofString "=1D") 313,
          Value.str (Str.ofString "=1E") 317, Value.str (Str.ofString "=1F") 321, Value.str (Str.ofString " ") 1445, Value.str (Str.ofString "!") 1448, Value.str (Str.ofString "\"") 1451,
          Value.str (Str.ofString "#") 1454, Value.str (Str.ofString "$") 1457, Value.str (Str.ofString "%") 1460, Value.str (Str.ofString "&") 1463, Value.str (Str.ofString "'") 1466,
          Value.str (Str.ofString "(") 1469, Value.str (Str.ofString ")") 1472, Value.str (Str.ofString "*") 1475, Value.str (Str.ofString "+") 1478, Value.str (Str.ofString ",") 1481,
          Value.str (Str.ofString "-") 1484, Value.str (Str.ofString ".") 1487, Value.str (Str.ofString "/") 1490, Value.str (Str.ofString "0") 1493, Value.str (Str.ofString "1") 1496,
          Value.str (Str.ofString "2") 1499, Value.str (Str.ofString "3") 1502, Value.str (Str.ofString "4") 1505, Value.str (Str.ofString "5") 1508, Value.str (Str.ofString "6") 1511,
          Value.str (Str.ofString "7") 1514, Value.str (Str.ofString "8") 1517, Value.str (Str.ofString "9") 1520, Value.str (Str.ofString ":") 1523, Value.str (Str.ofString ";") 1526,
          Value.str (Str.ofString "<") 1529, Value.str (Str.ofString "=3D") 441, Value.str (Str.ofString ">") 1532, Value.str (Str.ofString "?") 1535, Value.str (Str.ofString "@") 1538,
          Value.str (Str.ofString "A") 1541, Value.str (Str.ofString "B") 1544, Value.str (Str.ofString "C") 1547, Value.str (Str.ofString "D") 1550, Value.str (Str.ofString "E") 1553,
          Value.str (Str.ofString "F") 1556, Value.str (Str.ofString "G") 1559, Value.str (Str.ofString "H") 1562, Value.str (Str.ofString "I") 1565, Value.str (Str.ofString "J") 1568,
          Value.str (Str.ofString "K") 1571, Value.str (Str.ofString "L") 1574, Value.str (Str.ofString "M") 1577, Value.str (Str.ofString "N") 1580, Value.str (Str.ofString "O") 1583,
          Value.str (Str.ofString "P") 1586, Value.str (Str.ofString "Q") 1589, Value.str (Str.ofString "R") 1592, Value.str (Str.ofString "S") 1595, Value.str (Str.ofString "T") 1598,
          Value.str (Str.ofString "U") 1601, Value.str (Str.ofString "V") 1604, Value.str (Str.ofString "W") 1607, Value.str (Str.ofString "X") 1610, Value.str (Str.ofString "Y") 1613,
          Value.str (Str.ofString "Z") 1616, Value.str (Str.ofString "[") 1619, Value.str (Str.ofString "\\") 1622, Value.str (Str.ofString "]") 1625, Value.str (Str.ofString "^") 1628,
          Value.str (Str.ofString "_") 1631, Value.str (Str.ofString "`") 1634, Value.str (Str.ofString "a") 1637, Value.str (Str.ofString "b") 1640, Value.str (Str.ofString "c") 1643,
          Value.str (Str.ofString "d") 1646, Value.str (Str.ofString "e") 1649, Value.str (Str.ofString "f") 1652, Value.str (Str.ofString "g") 1655, Value.str (Str.ofString "h") 1658,
          Value.str (Str.ofString "i") 1661, Value.str (Str.ofString "j") 1664, Value.str (Str.ofString "k") 1667, Value.str (Str.ofString "l") 1670, Value.str (Str.ofString "m") 1673,
          Value.str (Str.ofString "n") 1676, Value.str (Str.ofString "o") 1679, Value.str (Str.ofString "p") 1682, Value.str (Str.ofString "q") 1685, Value.str (Str.ofString "r") 1688,
          Value.str (Str.ofString "s") 1691, Value.str (Str.ofString "t") 1694, Value.str (Str.ofString "u") 1697, Value.str (Str.ofString "v") 1700, Value.str (Str.ofString "w") 1703,
          Value.str (Str.ofString "x") 1706, Value.str (Str.ofString "y") 1709, Value.str (Str.ofString "z") 1712, Value.str (Str.ofString "{") 1715, Value.str (Str.ofString "|") 1718,
          Value.str (Str.ofString "}") 1721, Value.str (Str.ofString "~") 1724, Value.str (Str.ofString "=7F") 705, Value.str (Str.ofString "=80") 709, Value.str (Str.ofString "=81") 713,
          Value.str (Str.ofString "=82") 717, Value.str (Str.ofString "=83") 721, Value.str (Str.ofString "=84") 725, Value.str (Str.ofString "=85") 729, Value.str (Str.ofString "=86") 733,
          Value.str (Str.ofString "=87") 737, Value.str (Str.ofString "=88") 741, Value.str (Str.ofString "=89") 745, Value.str (Str.ofString "=8A") 749, Value.str (Str.ofString "=8B") 753,
          Value.str (Str.ofString "=8C") 757, Value.str (Str.ofString "=8D") 761, Value.str (Str.ofString "=8E") 765, Value.str (Str.ofString "=8F") 769, Value.str (Str.ofString "=90") 773,
          Value.str (Str.ofString "=91") 777, Value.str (Str.ofString "=92") 781, Value.str (Str.ofString "=93") 785, Value.str (Str.ofString "=94") 789, Value.str (Str.ofString "=95") 793,
          Value.str (Str.ofString "=96") 797, Value.str (Str.ofString "=97") 801, Value.str (Str.ofString "=98") 805, Value.str (Str.ofString "=99") 809, Value.str (Str.ofString "=9A") 813,
          Value.str (Str.ofString "=9B") 817, Value.str (Str.ofString "=9C") 821, Value.str (Str.ofString "=9D") 825, Value.str (Str.ofString "=9E") 829, Value.str (Str.ofString "=9F") 833,
          Value.str (Str.ofString "=A0") 837, Value.str (Str.ofString "=A1") 841, Value.str (Str.ofString "=A2") 845, Value.str (Str.ofString "=A3") 849, Value.str (Str.ofString "=A4") 853,
          Value.str (Str.ofString "=A5") 857, Value.str (Str.ofString "=A6") 861, Value.str (Str.ofString "=A7") 865, Value.str (Str.ofString "=A8") 869, Value.str (Str.ofString "=A9") 873,
          Value.str (Str.ofString "=AA") 877, Value.str (Str.ofString "=AB") 881, Value.str (Str.ofString "=AC") 885, Value.str (Str.ofString "=AD") 889, Value.str (Str.ofString "=AE") 893,
          Value.str (Str.ofString "=AF") 897, Value.str (Str.ofString "=B0") 901, Value.str (Str.ofString "=B1") 905, Value.str (Str.ofString "=B2") 909, Value.str (Str.ofString "=B3") 913,
          Value.str (Str.ofString "=B4") 917, Value.str (Str.ofString "=B5") 921, Value.str (Str.ofString "=B6") 925, Value.str (Str.ofString "=B7") 929, Value.str (Str.ofString "=B8") 933,
          Value.str (Str.ofString "=B9") 937, Value.str (Str.ofString "=BA") 941, Value.str (Str.ofString "=BB") 945, Value.str (Str.ofString "=BC") 949, Value.str (Str.ofString "=BD") 953,
          Value.str (Str.ofString "=BE") 957, Value.str (Str.ofString "=BF") 961, Value.str (Str.ofString "=C0") 965, Value.str (Str.ofString "=C1") 969, Value.str (Str.ofString "=C2") 973,
          Value.str (Str.ofString "=C3") 977, Value.str (Str.ofString "=C4") 981, Value.str (Str.ofString "=C5") 985, Value.str (Str.ofString "=C6") 989, Value.str (Str.ofString "=C7") 993,
          Value.str (Str.ofString "=C8") 997, Value.str (Str.ofString "=C9") 1001, Value.str (Str.ofString "=CA") 1005, Value.str (Str.ofString "=CB") 1009, Value.str (Str.ofString "=CC") 1013,
          Value.str (Str.ofString "=CD") 1017, Value.str (Str.ofString "=CE") 1021, Value.str (Str.ofString "=CF") 1025, Value.str (Str.ofString "=D0") 1029, Value.str (Str.ofString "=D1") 1033,
          Value.str (Str.ofString "=D2") 1037, Value.str (Str.ofString "=D3") 1041, Value.str (Str.ofString "=D4") 1045, Value.str (Str.ofString "=D5") 1049, Value.str (Str.ofString "=D6") 1053,
          Value.str (Str.ofString "=D7") 1057, Value.str (Str.ofString "=D8") 1061, Value.str (Str.ofString "=D9") 1065, Value.str (Str.ofString "=DA") 1069, Value.str (Str.ofString "=DB") 1073,
          Value.str (Str.ofString "=DC") 1077, Value.str (Str.ofString "=DD") 1081, Value.str (Str.ofString "=DE") 1085, Value.str (Str.ofString "=DF") 1089, Value.str (Str.ofString "=E0") 1093,
          Value.str (Str.ofString "=E1") 1097, Value.str (Str.ofString "=E2") 1101, Value.str (Str.ofString "=E3") 1105, Value.str (Str.ofString "=E4") 1109, Value.str (Str.ofString "=E5") 1113,
          Value.str (Str.ofString "=E6") 1117, Value.str (Str.ofString "=E7") 1121, Value.str (Str.ofString "=E8") 1125, Value.str (Str.ofString "=E9") 1129, Value.str (Str.ofString "=EA") 1133,
          Value.str (Str.ofString "=EB") 1137, Value.str (Str.ofString "=EC") 1141, Value.str (Str.ofString "=ED") 1145, Value.str (Str.ofString "=EE") 1149, Value.str (Str.ofString "=EF") 1153,
          Value.str (Str.ofString "=F0") 1157, Value.str (Str.ofString "=F1") 1161, Value.str (Str.ofString "=F2") 1165, Value.str (Str.ofString "=F3") 1169, Value.str (Str.ofString "=F4") 1173,
          Value.str (Str.ofString "=F5") 1177, Value.str (Str.ofString "=F6") 1181, Value.str (Str.ofString "=F7") 1185, Value.str (Str.ofString "=F8") 1189, Value.str (Str.ofString "=F9") 1193,
          Value.str (Str.ofString "=FA") 1197, Value.str (Str.ofString "=FB") 1201, Value.str (Str.ofString "=FC") 1205, Value.str (Str.ofString "=FD") 1209, Value.str (Str.ofString "=FE") 1213,
          Value.str (Str.ofString "=FF") 1217] }
noncomputable abbrev k51 (P : Params) : Obj := { cls := Value.type "tuple", data := Data.seq #[Value.int 76 1753, Value.str (Str.ofString "\n") 189] }
noncomputable abbrev k52 (P : Params) : Obj := { cls := Value.type "tuple", data := Data.seq #[] }
noncomputable abbrev k54 (P : Params) : Obj :=
  { cls := Value.type "tuple",
    data :=
      Data.seq
        #[Value.str (Str.ofString "body") 1757, Value.str (Str.ofString "maxlinelen") 1758, Value.str (Str.ofString "eol") 1759, Value.str (Str.ofString "soft_break") 1760,
          Value.str (Str.ofString "maxlinelen1") 1761, Value.str (Str.ofString "encoded_body") 1762, Value.str (Str.ofString "append") 1763, Value.str (Str.ofString "line") 1764,
          Value.str (Str.ofString "start") 1765, Value.str (Str.ofString "laststart") 1766, Value.str (Str.ofString "stop") 1767, Value.str (Str.ofString "room") 1768,
          Value.str (Str.ofString "q") 1769] }
noncomputable abbrev k55 (P : Params) : Obj := { cls := Value.type "tuple", data := Data.seq #[] }
noncomputable abbrev k57 (P : Params) : Obj :=
  { cls := Value.type "code",
    data :=
      Data.fields
        #[Value.str (Str.ofString "body_encode") 1754, Value.str (Str.ofString "body_encode") 1755, Value.str (Str.ofString "/claim/cut.py") 1756, Value.int 27 0, Value.int 3 0, Value.int 0 0,
          Value.int 0 0, Value.int 3 0, Value.ref 52, Value.bool true, Value.int 181 0, Value.ref 53, Value.none, Value.ref 54, Value.ref 55, Value.ref 56, Value.int 1770 0, Value.int 27 0,
          Value.str (Str.ofString "/claim/cut.py") 1771] }
noncomputable abbrev k58 (P : Params) : Obj :=
  { cls := Value.type "function",
    data :=
      Data.func
        { name := Str.ofString "body_encode", qualname := Str.ofString "body_encode",
          params := fn18.1, body := FuncBody.stmts fn18.2.1, scope := fn18.2.2, globals := 3, closure := [], defaults := Value.ref 51, kwdefaults := Value.none, pyModule := Value.str (Str.ofString "cpy313.email.quoprimime") 1229, code := Value.ref 57 } }
noncomputable abbrev k59 (P : Params) : Obj := { cls := Value.type "tuple", data := Data.seq #[] }
noncomputable abbrev k61 (P : Params) : Obj := { cls := Value.type "tuple", data := Data.seq #[Value.str (Str.ofString "iterator") 1778, Value.str (Str.ofString "b") 1779, Value.str (Str.ofString "val") 1780] }
noncomputable abbrev k62 (P : Params) : Obj := { cls := Value.type "tuple", data := Data.seq #[] }
noncomputable abbrev k64 (P : Params) : Obj :=
  { cls := Value.type "code",
    data :=
      Data.fields
        #[Value.str (Str.ofString "_parse_varint") 1775, Value.str (Str.ofString "_parse_varint") 1776, Value.str (Str.ofString "/claim/cut.py") 1777, Value.int 66 0, Value.int 1 0, Value.int 0 0,
          Value.int 0 0, Value.int 3 0, Value.ref 59, Value.bool true, Value.int 181 0, Value.ref 60, Value.none, Value.ref 61, Value.ref 62, Value.ref 63, Value.int 1781 0, Value.int 66 0,
          Value.str (Str.ofString "/claim/cut.py") 1782] }
noncomputable abbrev k65 (P : Params) : Obj :=
  { cls := Value.type "function",
    data :=
      Data.func
        { name := Str.ofString "_parse_varint", qualname := Str.ofString "_parse_varint",
          params := fn20.1, body := FuncBody.stmts fn20.2.1, scope := fn20.2.2, globals := 3, closure := [], defaults := Value.none, kwdefaults := Value.none, pyModule := Value.str (Str.ofString "cpy313.dis") 1773, code := Value.ref 64 } }
noncomputable abbrev k66 (P : Params) : Obj := { cls := Value.type "tuple", data := Data.seq #[] }
noncomputable abbrev k68 (P : Params) : Obj := { cls := Value.type "tuple", data := Data.seq #[Value.str (Str.ofString "n") 1789, Value.str (Str.ofString "places") 1790] }
noncomputable abbrev k69 (P : Params) : Obj := { cls := Value.type "tuple", data := Data.seq #[] }
noncomputable abbrev k71 (P : Params) : Obj :=
  { cls := Value.type "code",
    data :=
      Data.fields
        #[Value.str (Str.ofString "_law_digits") 1786, Value.str (Str.ofString "_law_digits") 1787, Value.str (Str.ofString "/claim/cut.py") 1788, Value.int 75 0, Value.int 1 0, Value.int 0 0,
          Value.int 0 0, Value.int 3 0, Value.ref 66, Value.bool true, Value.int 181 0, Value.ref 67, Value.none, Value.ref 68, Value.ref 69, Value.ref 70, Value.int 1791 0, Value.int 75 0,
          Value.str (Str.ofString "/claim/cut.py") 1792] }
noncomputable abbrev k72 (P : Params) : Obj :=
  { cls := Value.type "function",
    data :=
      Data.func
        { name := Str.ofString "_law_digits", qualname := Str.ofString "_law_digits",
          params := fn22.1, body := FuncBody.stmts fn22.2.1, scope := fn22.2.2, globals := 3,
          closure := [], defaults := Value.none, kwdefaults := Value.none, pyModule := Value.str (Str.ofString "law_ny0120_01") 1784, code := Value.ref 71 } }
noncomputable abbrev k73 (P : Params) : Obj := { cls := Value.type "tuple", data := Data.seq #[] }
noncomputable abbrev k76 (P : Params) : Obj :=
  { cls := Value.type "code",
    data :=
      Data.fields
        #[Value.str (Str.ofString "_law_below") 1794, Value.str (Str.ofString "_law_below") 1795, Value.str (Str.ofString "/claim/cut.py") 1796, Value.int 81 0, Value.int 3 0, Value.int 0 0,
          Value.int 0 0, Value.int 3 0, Value.ref 73, Value.bool true, Value.int 181 0, Value.ref 74, Value.none, Value.none, Value.none, Value.ref 75, Value.int 1797 0, Value.int 81 0,
          Value.str (Str.ofString "/claim/cut.py") 1798] }
noncomputable abbrev k77 (P : Params) : Obj :=
  { cls := Value.type "function",
    data :=
      Data.func
        { name := Str.ofString "_law_below", qualname := Str.ofString "_law_below",
          params := fn23.1, body := FuncBody.stmts fn23.2.1, scope := fn23.2.2, globals := 3, closure := [], defaults := Value.none, kwdefaults := Value.none, pyModule := Value.str (Str.ofString "law_ny0120_01") 1784, code := Value.ref 76 } }
noncomputable abbrev k78 (P : Params) : Obj := { cls := Value.type "tuple", data := Data.seq #[] }
noncomputable abbrev k81 (P : Params) : Obj :=
  { cls := Value.type "code",
    data :=
      Data.fields
        #[Value.str (Str.ofString "_law_more") 1800, Value.str (Str.ofString "_law_more") 1801, Value.str (Str.ofString "/claim/cut.py") 1802, Value.int 89 0, Value.int 3 0, Value.int 0 0,
          Value.int 0 0, Value.int 3 0, Value.ref 78, Value.bool true, Value.int 181 0, Value.ref 79, Value.none, Value.none, Value.none, Value.ref 80, Value.int 1803 0, Value.int 89 0,
          Value.str (Str.ofString "/claim/cut.py") 1804] }
noncomputable abbrev k82 (P : Params) : Obj :=
  { cls := Value.type "function",
    data :=
      Data.func
        { name := Str.ofString "_law_more", qualname := Str.ofString "_law_more",
          params := fn24.1, body := FuncBody.stmts fn24.2.1, scope := fn24.2.2, globals := 3, closure := [], defaults := Value.none, kwdefaults := Value.none, pyModule := Value.str (Str.ofString "law_ny0120_01") 1784, code := Value.ref 81 } }
noncomputable abbrev k83 (P : Params) : Obj := { cls := Value.type "tuple", data := Data.seq #[] }
noncomputable abbrev k86 (P : Params) : Obj :=
  { cls := Value.type "code",
    data :=
      Data.fields
        #[Value.str (Str.ofString "_law_counts") 1806, Value.str (Str.ofString "_law_counts") 1807, Value.str (Str.ofString "/claim/cut.py") 1808, Value.int 91 0, Value.int 2 0, Value.int 0 0,
          Value.int 0 0, Value.int 3 0, Value.ref 83, Value.bool true, Value.int 181 0, Value.ref 84, Value.none, Value.none, Value.none, Value.ref 85, Value.int 1809 0, Value.int 91 0,
          Value.str (Str.ofString "/claim/cut.py") 1810] }
noncomputable abbrev k87 (P : Params) : Obj :=
  { cls := Value.type "function",
    data :=
      Data.func
        { name := Str.ofString "_law_counts", qualname := Str.ofString "_law_counts",
          params := fn25.1, body := FuncBody.stmts fn25.2.1, scope := fn25.2.2, globals := 3, closure := [], defaults := Value.none, kwdefaults := Value.none, pyModule := Value.str (Str.ofString "law_ny0120_01") 1784, code := Value.ref 86 } }
noncomputable abbrev k88 (P : Params) : Obj := { cls := Value.type "tuple", data := Data.seq #[] }
noncomputable abbrev k91 (P : Params) : Obj :=
  { cls := Value.type "code",
    data :=
      Data.fields
        #[Value.str (Str.ofString "law") 1812, Value.str (Str.ofString "law") 1813, Value.str (Str.ofString "/claim/cut.py") 1814, Value.int 108 0, Value.int 1 0, Value.int 0 0, Value.int 0 0,
          Value.int 3 0, Value.ref 88, Value.bool true, Value.int 181 0, Value.ref 89, Value.none, Value.none, Value.none, Value.ref 90, Value.int 1815 0, Value.int 108 0,
          Value.str (Str.ofString "/claim/cut.py") 1816] }
noncomputable abbrev k92 (P : Params) : Obj :=
  { cls := Value.type "function",
    data :=
      Data.func
        { name := Str.ofString "law", qualname := Str.ofString "law",
          params := fn26.1, body := FuncBody.stmts fn26.2.1, scope := fn26.2.2, globals := 3, closure := [], defaults := Value.none, kwdefaults := Value.none, pyModule := Value.str (Str.ofString "law_ny0120_01") 1784, code := Value.ref 91 } }
noncomputable def kG : Params → Frag := fun P => (nat_lit 2, k2 P) :: (nat_lit 3, k3 P) :: (nat_lit 6, k6 P) :: (nat_lit 17, k17 P) :: (nat_lit 22, k22 P) :: (nat_lit 24, k24 P) :: (nat_lit 31, k31 P) :: (nat_lit 33, k33 P) :: (nat_lit 34, k34 P) :: (nat_lit 36, k36 P) :: (nat_lit 37, k37 P) :: (nat_lit 38, k38 P) :: (nat_lit 39, k39 P) :: (nat_lit 41, k41 P) :: (nat_lit 42, k42 P) :: (nat_lit 44, k44 P) :: (nat_lit 45, k45 P) :: (nat_lit 47, k47 P) :: (nat_lit 51, k51 P) :: (nat_lit 52, k52 P) :: (nat_lit 54, k54 P) :: (nat_lit 55, k55 P) :: (nat_lit 57, k57 P) :: (nat_lit 58, k58 P) :: (nat_lit 59, k59 P) :: (nat_lit 61, k61 P) :: (nat_lit 62, k62 P) :: (nat_lit 64, k64 P) :: (nat_lit 65, k65 P) :: (nat_lit 66, k66 P) :: (nat_lit 68, k68 P) :: (nat_lit 69, k69 P) :: (nat_lit 71, k71 P) :: (nat_lit 72, k72 P) :: (nat_lit 73, k73 P) :: (nat_lit 76, k76 P) :: (nat_lit 77, k77 P) :: (nat_lit 78, k78 P) :: (nat_lit 81, k81 P) :: (nat_lit 82, k82 P) :: (nat_lit 83, k83 P) :: (nat_lit 86, k86 P) :: (nat_lit 87, k87 P) :: (nat_lit 88, k88 P) :: (nat_lit 91, k91 P) :: (nat_lit 92, k92 P) :: []
theorem pre (w : World) : (fun os => topGo treeTable PR w 11 (some (Value.ref 6)) 12 (sh (heap_52 w.params) 181 os) (topStub PR)) = fun os => some (sh (heap_56 w.params) 187 os, (⟨denote treeTable CE, CE, { line := 0, col := 0, endLine := 0, endCol := 0 }, BB⟩ : Thread)) := by
  rw [PySem.W.Fast.te15667345088766844465, PySem.W.Fast.te14364793385576792824, PySem.W.Fast.te11892475500146522536]
  kernel_rfl
theorem blk (w : World) : (fun os => segRun treeTable PR w 11 (some (Value.ref 6)) 1 1 (sh (heap_56 w.params) 187 os) (blockOf (behindTheImports PR) EV CE { line := 0, col := 0, endLine := 0, endCol := 0 } BB)) = fun os => some (Flow.next, (st (tree_57 w.params) 15 187 os).abs, CE, { line := 0, col := 0, endLine := 0, endCol := 0 }) := by
  rw [PySem.W.Fast.te14374325043358763698, PySem.W.Fast.te14364793385576792824]
  kernel_rfl
theorem fin (w : World) : (fun os => topRun treeTable PR w 11 (some (Value.ref 6)) 2 (st (tree_463 w.params) 93 1818 os).abs (⟨doneF .next, CE, { line := 108, col := 0, endLine := 125, endCol := 15 }, BB⟩ : Thread)) = fun os => some (sh (heap_464 w.params) 1818 os) := by
  rw [PySem.W.Fast.te14082659384304107361, PySem.W.Fast.te14364793385576792824]
  kernel_rfl
theorem body_cut : behindTheImports PR = cut 0 2 ++ (cut 2 1 ++ (cut 3 7 ++ (cut 10 1 ++ (cut 11 1 ++ (cut 12 1 ++ (cut 13 12 ++ (cut 25 2 ++ []))))))) := by kernel_rfl
theorem run (w : World) (os : OsState) : topRun treeTable PR w 11 (some (Value.ref 6)) (12 + (1 + (19 + (9552 + (109 + (3077 + (25 + (4303 + (389 + (53 + 2)))))))))) (sh (heap_52 w.params) 181 os) (topStub PR) = some (sh (heap_464 w.params) 1818 os) :=
  go_top (congrFun (pre w) os) (piece_block (congrFun (blk w) os) ((congrArg (fun b => topRun treeTable PR w 11 (some (Value.ref 6)) (19 + (9552 + (109 + (3077 + (25 + (4303 + (389 + (53 + 2)))))))) (st (tree_57 w.params) 15 187 os).abs (restOf b EV CE { line := 0, col := 0, endLine := 0, endCol := 0 } BB)) body_cut).trans
    (piece_app (segRun_of (congrFun (g0 w) os)) (piece_app (segRun_of (congrFun (g1 w) os)) (piece_app (segRun_of (congrFun (g2 w) os)) (piece_app (segRun_of (congrFun (g3 w) os)) (piece_app (segRun_of (congrFun (g4 w) os)) (piece_app (segRun_of (congrFun (g5 w) os)) (piece_app (segRun_of (congrFun (g6 w) os)) (piece_app (segRun_of (congrFun (g7 w) os)) (piece_nil (congrFun (fin w) os))))))))))))
theorem opn (w : World) : (fencedOpening treeTable PR w 35164).map (fun s => (s.heap, s.gens, s.drawn, s.toks)) = some (heap_52 w.params, #[], {}, 181) := by
  rw [PySem.W.Fast.te14364793385576792824]
  kernel_rfl
theorem siz (w : World) : ((heap_52 w.params).isNs mainGlobals && (#[] : Array GenState).size == 0, (heap_52 w.params).objs.size, (heap_52 w.params).nsMap mainGlobals "__annotations__") = (true, 11, some (Value.ref 6)) := by kernel_rfl
def LO : List PySem.Str := [Str.ofString "_QUOPRI_MAP", Str.ofString "_QUOPRI_HEADER_MAP", Str.ofString "_QUOPRI_BODY_MAP", Str.ofString "ascii_letters", Str.ofString "header_encode", Str.ofString "_QUOPRI_BODY_ENCODE_MAP", Str.ofString "body_encode"]
def LV : List (PySem.Str × WData) := [(Str.ofString "ascii_letters", WData.str ⟨#[97, 98, 99, 100, 101, 102, 103, 104, 105, 106, 107, 108, 109, 110, 111, 112, 113, 114, 115, 116, 117, 118, 119, 120, 121, 122, 65, 66, 67, 68, 69, 70, 71, 72, 73, 74, 75, 76, 77, 78, 79, 80, 81, 82, 83, 84, 85, 86, 87, 88, 89, 90]⟩)]
noncomputable abbrev XT (s : Shared) : Bool := xlAt vw LV s && recOk (RowW.records PySem.Challenge.rw_ny0120_01.row.toRowW) s
theorem ks_eq (P : Params) : ks = (kG P).map (·.1) := by kernel_rfl
noncomputable abbrev HK : Hook := kHook kG ks ks_eq
theorem lk1 (w : World) (os : OsState) : (staticsOk (importedModules PR.main.body) (heap_52 w.params) (heap_464 w.params) && namesBound PR (heap_464 w.params) && gensDone (sh (heap_464 w.params) 1818 os) && laidKept (heap_52 w.params) (heap_464 w.params)) = true := by kernel_rfl
theorem lk2 (w : World) (os : OsState) : openSeen vw LO (importedModules PR.main.body) XT true (sh (heap_464 w.params) 1818 os) = openGood vw LO := by
  rw [PySem.W.Fast.te4187177175401517315]
  kernel_rfl
theorem lk3 (w : World) (os : OsState) : Hook.obs HK (sh (heap_464 w.params) 1818 os) = Hook.val HK w := by kernel_rfl
theorem left : LeftO PR vw LO XT (Hook.obs HK) (Hook.val HK) 35164 :=
  LeftO.of_pieces (H₀ := heap_52) (H₁ := heap_464) (gs₀ := #[]) (gs₁ := #[]) (d₀ := {}) (d₁ := {}) (k₀ := 181) (k₁ := 1818) (m₀ := 11) (ann := some (.ref 6)) opn siz run (by decide +kernel)
    (fun w => funext fun os => looks_pair (lk1 w os) (looks_pair (lk2 w os) (lk3 w os)))
end Mine
end

section
open PySem PySem.W PySem.Spec PySem.Calls PyProof.Rows
set_option maxRecDepth 100000
namespace Mine
/-- the answer of a def that hands back a new list of ints: all else stands -/
def RetL (h₀ : Heap) (L : Addr) (m : PySem.Str → Option Value) (news : List (Addr × Obj)) (s : Shared) (Q : Value → Shared → Prop) (ns : List Int) : Prop :=
  ∀ (l : Addr) (vs : List Value) (c : Nat) (h' : Heap) (tk' : Nat), Fr h₀ L h' m → News h₀ L h' ((l, listOf vs.toArray c) :: news) → LCg.Off1 l news → IntsAre vs ns → Q (.ref l) { s with heap := h', toks := tk' }
/-- the answer of a def that hands back a plain value -/
def RetV (h₀ : Heap) (L : Addr) (m : PySem.Str → Option Value) (news : List (Addr × Obj)) (s : Shared) (Q : Value → Shared → Prop) (R : Value → Prop) : Prop :=
  ∀ (v : Value) (h' : Heap) (tk' : Nat), Fr h₀ L h' m → News h₀ L h' news → R v → Q v { s with heap := h', toks := tk' }
/-- a contract of one of the text's defs, for any caller: lead are the caller's objects that the call may change or forget -/
def Ctr (lv : Nat) (w : World) (f : Addr) (args : List Value) (lead : List (Addr × Obj)) (pre : List (Addr × Obj) → Prop) (Ret : Heap → Addr → (PySem.Str → Option Value) → List (Addr × Obj) → Shared → (Value → Shared → Prop) → Prop) : Prop :=
  ∀ (p : Program) (loose : List PySem.Str) (mean : ExcName → Option Value) (mg mb : PySem.Str → Option Value) (news : List (Addr × Obj))
    (dp un : Nat) (gd : Option (List Code)) (cn : PySem.Str) (cs : Scope) (a : Addr) (ccd : Value) (cl : List (PySem.Str × Addr)) (outer : List Env) (A₀ : Around) (base h₀ : Heap) (L : Addr) (m : PySem.Str → Option Value) (s : Shared) (Q E : Value → Shared → Prop),
    Below A₀ base outer h₀ → Fr h₀ L s.heap m → (kG w.params).In h₀ → News h₀ L s.heap (lead ++ news) → Top p loose mean mg mb h₀ → cs.kind = .function →
    pre news → dp + 4 * lv < recursionLimit → un + 40 * lv < cLine → Ret h₀ L m news s Q →
      wpAny (model PySem.Challenge.rw_ny0120_01.prog w) (ktrTop dp un gd cn cs L a ccd cl outer) (call (.ref f) args) Q E s
theorem Ctr.use {lv : Nat} {w : World} {f : Addr} {args : List Value} {lead : List (Addr × Obj)} {pre : List (Addr × Obj) → Prop} {Ret : Heap → Addr → (PySem.Str → Option Value) → List (Addr × Obj) → Shared → (Value → Shared → Prop) → Prop} (C : Ctr lv w f args lead pre Ret)
    {p : Program} {loose : List PySem.Str} {mean : ExcName → Option Value} {mg mb : PySem.Str → Option Value} {news : List (Addr × Obj)}
    {dp un : Nat} {gd : Option (List Code)} {cn : PySem.Str} {cs : Scope} {a : Addr} {ccd : Value} {cl : List (PySem.Str × Addr)} {outer : List Env} {A₀ : Around} {base h₀ : Heap} {L : Addr} {m : PySem.Str → Option Value} {s : Shared} {Q E : Value → Shared → Prop}
    (B : Below A₀ base outer h₀) (F : Fr h₀ L s.heap m) (X : (kG w.params).In h₀) (N : News h₀ L s.heap (lead ++ news)) (T : Top p loose mean mg mb h₀) (hk : cs.kind = .function)
    (hp : pre news) (hd : dp + 4 * lv < recursionLimit) (hu : un + 40 * lv < cLine) (hr : Ret h₀ L m news s Q) :
    wpAny (model PySem.Challenge.rw_ny0120_01.prog w) (ktrTop dp un gd cn cs L a ccd cl outer) (call (.ref f) args) Q E s :=
  C p loose mean mg mb news dp un gd cn cs a ccd cl outer A₀ base h₀ L m s Q E B F X N T hk hp hd hu hr
theorem fdiv64 (x : Int) : x.fdiv 64 = x / 64 := Int.fdiv_eq_ediv_of_nonneg _ (by decide)
theorem fmod64 (x : Int) : x.fmod 64 = x % 64 := Int.fmod_eq_emod_of_nonneg _ (by decide)
theorem retL_end {h₀ h' : Heap} {L l : Addr} {m : PySem.Str → Option Value} {news news' : List (Addr × Obj)} {s : Shared} {Q : Value → Shared → Prop} {ns : List Int} {vs : List Value} {c tk' : Nat}
    (hret : RetL h₀ L m news s Q ns) (F : Fr h₀ L h' m) (N : News h₀ L h' news') (hm : (l, listOf vs.toArray c) ∈ news') (hs : ∀ p ∈ news, p ∈ news') (hl : LCg.Off1 l news) (hi : IntsAre vs ns) : Q (.ref l) { s with heap := h', toks := tk' } :=
  hret l vs c h' tk' F (fun p hp => N p ((List.mem_cons.mp hp).elim (fun e => e ▸ hm) (hs p))) hl hi
theorem retV_end {h₀ h' : Heap} {L : Addr} {m : PySem.Str → Option Value} {news news' : List (Addr × Obj)} {s : Shared} {Q : Value → Shared → Prop} {R : Value → Prop} {v : Value} {tk' : Nat}
    (hret : RetV h₀ L m news s Q R) (F : Fr h₀ L h' m) (N : News h₀ L h' news') (hs : ∀ p ∈ news, p ∈ news') (hr : R v) : Q v { s with heap := h', toks := tk' } :=
  hret v h' tk' F (fun p hp => N p (hs p hp)) hr

theorem allLt_ne {d : Nat} : ∀ {l : List (Addr × Obj)}, AllLt d l → ∀ p ∈ l, p.1 ≠ d
  | [], _, _, hp => nomatch hp
  | _ :: _, h, p, hp => by
    rcases List.mem_cons.mp hp with rfl | hp
    · exact Nat.ne_of_lt h.1
    · exact allLt_ne h.2 p hp
theorem off1_of : ∀ {d : Nat} {l : List (Addr × Obj)}, AllLt d l → LCg.Off1 d l
  | _, [], _ => True.intro
  | _, _ :: _, h => ⟨Nat.ne_of_lt h.1, off1_of h.2⟩
theorem allLt_lt {d : Nat} : ∀ {l : List (Addr × Obj)}, AllLt d l → ∀ p ∈ l, p.1 < d
  | [], _, _, hp => nomatch hp
  | _ :: _, h, p, hp => by
    rcases List.mem_cons.mp hp with rfl | hp
    · exact h.1
    · exact allLt_lt h.2 p hp
/-! ## iter and next of a list -/
abbrev liObj (l : Addr) (i : Nat) : Obj := { cls := .type "list_iterator", data := .fields #[.ref l, .int i 0] }
section
variable {prog : Program} {w : World} {A : Around} {E : Value → Shared → Prop} {s : Shared} {h₀ : Heap} {L l it : Addr} {m : PySem.Str → Option Value} {news : List (Addr × Obj)} {g : Obj → List (Addr × Obj)} {items : Array Value} {vs : List Value} {c i : Nat} {x : Value}
theorem li_iter {Q : Value → Shared → Prop} (F : Fr h₀ L s.heap m) (N : News h₀ L s.heap news) (hp : (l, listOf items c) ∈ news)
    (h : ∀ (I : Addr) h', Fr h₀ L h' m → News h₀ L h' ((I, liObj l 0) :: news) → (∀ p ∈ news, p.1 < I) → Q (.ref I) { s with heap := h' }) :
    wpAny (model prog w) A (call (.builtin "iter") [.ref l]) Q E s := by
  refine call_function_entry (by decide +kernel) (by decide +kernel) kdk_entry_iter (kdk_args_iter _) ?_
  unfold Builtin.«iter»
  refine wpAny_bind (m := someArgs "iter" 1 2 _) (wpAny_of_eq (a := [Value.ref l]) (by first | rfl | kernel_rfl!) ?_)
  show wpAny _ _ (pyIter (.ref l) >>= _) _ _ _
  refine wpAny_bind (wpAny_pyIter_list ⟨_, (N _ hp).1, rfl, _, rfl⟩ ?_)
  exact wpAny_pure ⟨_, rfl, h _ _ (F.push _) (News.push F N _ rfl) (fun q hq => Heap.lt_size (N q hq).1)⟩
theorem li_next {Q : Value → Shared → Prop} (F : Fr h₀ L s.heap m) (N : News h₀ L s.heap news) (U : UpdF it (liObj l i) news g) (hp : (l, listOf vs.toArray c) ∈ news) (hx : vs[i]? = some x)
    (h : ∀ h', Fr h₀ L h' m → News h₀ L h' (g (liObj l (i + 1))) → Q x { s with heap := h' }) :
    wpAny (model prog w) A (call (.builtin "next") [.ref it]) Q E s := by
  obtain ⟨pre, post, hl, hg, a, b⟩ := U.split
  have hmem : (it, liObj l i) ∈ news := by rw [hl]; exact List.mem_append_right _ (.head _)
  have hm := N (it, liObj l i) hmem
  have hit : s.heap.IsListIter it l i := ⟨_, hm.1, rfl, rfl⟩
  refine call_function_entry (by decide +kernel) (by decide +kernel) kdk_entry_next (kdk_args_next _) ?_
  unfold Builtin.«next»
  refine wpAny_bind (m := someArgs "next" 1 2 _) (wpAny_of_eq (a := [Value.ref it]) (by first | rfl | kernel_rfl!) ?_)
  dsimp only
  refine wpAny_bind (wpAny_specialOf (name := Str.ofString "__next__") hit.typeIs slot_listiter_next.lookup ?_)
  refine wpAny_ite_split (fun hab => absurd hab (by decide)) (fun _ => ?_)
  refine wpAny_bind (wpAny_callSpecial?_slot (name := Str.ofString "__next__") hit.typeIs slot_listiter_next
    (wpAny_call_entry slot_listiter_next hit.typeIs entry_listiter_next ?_ (args_listiter_next _)))
  show wpAny _ _ (field (.ref it) 0 >>= _) _ _ s
  refine wpAny_bind (wpAny_field hm.1 rfl (x := .ref l) rfl ?_)
  show wpAny _ _ (if (Value.ref l == Value.none) = true then _ else _) _ _ s
  rw [if_neg (show ¬ ((Value.ref l == Value.none) = true) from Bool.false_ne_true)]
  show wpAny _ _ (field (.ref it) 1 >>= _) _ _ s
  refine wpAny_bind (wpAny_field hm.1 rfl (x := .int i 0) rfl ?_)
  show wpAny _ _ (seqItems? (.ref l) >>= _) _ _ s
  refine wpAny_bind (wpAny_seqItems (N _ hp).1 rfl ?_)
  have hx' : vs.toArray[i]? = some x := by simpa using hx
  simp only [Int.toNat_natCast, hx']
  refine wpAny_bind (wpAny_setField hm.1 rfl (by simp) (wpAny_pure ⟨x, rfl, wpAny_pure ⟨_, rfl, ?_⟩⟩))
  have hs : Heap.SameBut it s.heap (s.heap.update it (Obj.mapFields (·.setIfInBounds 1 (rawInt ((i : Int) + 1))))) := Heap.SameBut.update ..
  refine h _ (F.change hs hm.2.1 hm.2.2) (hg (liObj l (i + 1)) ▸ (show News h₀ L s.heap (pre ++ (it, liObj l i) :: post) from hl ▸ N).setIn a b hs ?_)
  rw [Heap.get?_update_self _ hm.1 (Obj.isFreed_of_fields (Obj.data_mapFields rfl _))]
  simp [rawInt, Obj.mapFields]
end
end Mine
end

section
open PySem PySem.W PySem.Spec PySem.Calls PyProof.Rows
set_option maxRecDepth 100000
namespace Mine
set_option maxHeartbeats 8000000 in
theorem digits_c (w : World) (n : Int) (tn : Tok) : Ctr 1 w 72 [.int n tn] [] (fun _ => 0 ≤ n ∧ n < 16777216) (fun h₀ L m news s Q => RetL h₀ L m news s Q (digs n)) := by
  k_with_none
  k_with "WhlIf" => (first | (refine WhlIf.yes (decide_eq_true (by (try simp only [fdiv64, fmod64]); omega)) ?_) | (refine WhlIf.no (decide_eq_false (by (try simp only [fdiv64, fmod64]); omega)) ?_))
  w_top off
  unfold Ctr
  k_fill
  intro p loose mean mg mb news dp un gd cn cs a ccd cl outer A₀ base h₀ L m s Q E B F X N T hk hp hd hu hret
  obtain ⟨hn0, hn1⟩ := hp
  have hc : n < 64 ∨ (64 ≤ n ∧ n < 4096) ∨ (4096 ≤ n ∧ n < 262144) ∨ 262144 ≤ n := by omega
  rcases hc with hc | hc | hc | hc
  all_goals refine wpAny_call ?_
  all_goals k_dflt cell_enter
  all_goals k_steps
  all_goals refine retL_end hret (by k_asm) (by assumption) (.head _) (fun p hp => .tail _ (.tail _ hp)) (off1_of (by assumption : _ ∧ AllLt _ _).2) ?_
  · rw [digs, if_pos hc, ← fmod64]; exact .cons _ _ .nil
  · rw [digs, if_neg (by omega), if_pos hc.2, ← fmod64, ← fmod64, ← fdiv64]; exact .cons _ _ (.cons _ _ .nil)
  · rw [digs, if_neg (by omega), if_neg (by omega), if_pos hc.2]; simp only [← fmod64, ← fdiv64]; exact .cons _ _ (.cons _ _ (.cons _ _ .nil))
  · rw [digs, if_neg (by omega), if_neg (by omega), if_neg (by omega)]; simp only [← fmod64, ← fdiv64]; exact .cons _ _ (.cons _ _ (.cons _ _ (.cons _ _ .nil)))
end Mine
end

section
open PySem PySem.W PySem.Spec PySem.Calls PyProof.Rows
set_option maxRecDepth 100000
namespace Mine
local macro_rules | `(tactic| k_all) => `(tactic| k_extra "k_all")
local macro_rules | `(tactic| k_mem) => `(tactic| k_extra "k_mem")
section
variable {prog : Program} {w : World} {A : Around} {E : Value → Shared → Prop} {s : Shared} {Q : Value → Shared → Prop} {d v : Int} {t u : Tok}
theorem bit_low (h : 0 ≤ d ∧ d ≤ 63) : Builtin.bitAnd d 63 = d := by have := kbt_mask d 6; rw [show (2 : Int) ^ 6 - 1 = 63 from rfl, show (2 : Int) ^ 6 = 64 from rfl] at this; omega
theorem bit_mask (d : Int) : Builtin.bitAnd d 63 = d % 64 := kbt_mask d 6
theorem bit_64 (d : Int) : Builtin.bitAnd d 64 = (d / 64 % 2) * 64 := kbt_bit d 6
theorem bit_or (hv : 0 ≤ v) (h : 0 ≤ d ∧ d ≤ 63) : Builtin.bitOr (v * 64) d = v * 64 + d := by
  rw [bitOr_and, bitAnd_pp (by omega) h.1]
  have : (v * 64).toNat &&& d.toNat = 0 := by
    have e : (v * 64).toNat = 2 ^ 6 * v.toNat := by omega
    have l : d.toNat < 2 ^ 6 := by omega
    have h1 := Nat.two_pow_add_eq_or_of_lt l v.toNat
    have h2 := Nat.and_or_distrib_left
    rw [e]
    apply Nat.eq_of_testBit_eq
    intro i
    rw [Nat.testBit_and, Nat.zero_testBit, Nat.testBit_two_pow_mul]
    by_cases hi : i < 6
    · simp [show ¬ 6 ≤ i by omega]
    · rw [Nat.testBit_lt_two_pow (Nat.lt_of_lt_of_le l (Nat.pow_le_pow_right (by decide) (by omega)))]; simp
  rw [this]; simp
theorem and63_hi (h : 0 ≤ d ∧ d ≤ 63) (hQ : Q (.int d s.toks) { s with toks := s.toks + 1 }) : wpAny (model prog w) A (binaryOp .BitAnd (.int (64 + d) t) (.int 63 u)) Q E s :=
  and_int (by rw [bit_mask, show (64 + d) % 64 = d by omega]; exact hQ)
theorem and63_lo (h : 0 ≤ d ∧ d ≤ 63) (hQ : Q (.int d s.toks) { s with toks := s.toks + 1 }) : wpAny (model prog w) A (binaryOp .BitAnd (.int d t) (.int 63 u)) Q E s :=
  and_int (by rw [bit_low h]; exact hQ)
theorem and64_hi (h : 0 ≤ d ∧ d ≤ 63) (hQ : Q (.int 64 s.toks) { s with toks := s.toks + 1 }) : wpAny (model prog w) A (binaryOp .BitAnd (.int (64 + d) t) (.int 64 u)) Q E s :=
  and_int (by rw [bit_64, show (64 + d) / 64 % 2 * 64 = 64 by omega]; exact hQ)
theorem and64_lo (h : 0 ≤ d ∧ d ≤ 63) (hQ : Q (.int 0 s.toks) { s with toks := s.toks + 1 }) : wpAny (model prog w) A (binaryOp .BitAnd (.int d t) (.int 64 u)) Q E s :=
  and_int (by rw [bit_64, show d / 64 % 2 * 64 = 0 by omega]; exact hQ)
theorem shl6 (h : 0 ≤ v ∧ v < 16777216) (hQ : Q (.int (v * 64) s.toks) { s with toks := s.toks + 1 }) : wpAny (model prog w) A (inplaceOp .LShift (.int v t) (.int 6 u)) Q E s :=
  ilshift_int_small (by decide) (by decide) (by omega) hQ
theorem or6 (hv : 0 ≤ v) (h : 0 ≤ d ∧ d ≤ 63) (hQ : Q (.int (v * 64 + d) s.toks) { s with toks := s.toks + 1 }) : wpAny (model prog w) A (inplaceOp .BitOr (.int (v * 64) t) (.int d u)) Q E s :=
  ior_int (by rw [bit_or hv h]; exact hQ)
end
/-- a number's octets, by its digits -/
def octs : List Int → List Int
  | [] => []
  | [d] => [d]
  | d :: e :: r => (64 + d) :: octs (e :: r)
def valD (ds : List Int) : Int := ds.foldl (fun v d => v * 64 + d) 0
theorem ints_cons {vs : List Value} {a : Int} {l : List Int} (h : IntsAre vs (a :: l)) : ∃ t r, vs = .int a t :: r ∧ IntsAre r l := by
  cases h with
  | cons _ t r => exact ⟨t, _, rfl, r⟩
theorem ints_nil {vs : List Value} (h : IntsAre vs []) : vs = [] := by cases h; rfl
set_option maxHeartbeats 8000000 in
theorem parse_c (w : World) (it l : Addr) (vs : List Value) (c : Nat) (ds : List Int) (hi : IntsAre vs (octs ds)) : Ctr 1 w 65 [.ref it] [(it, liObj l 0)] (fun news => (∀ d ∈ ds, 0 ≤ d ∧ d ≤ 63) ∧ ds ≠ [] ∧ ds.length ≤ 4 ∧ (l, listOf vs.toArray c) ∈ news ∧ ∀ p ∈ news, p.1 ≠ it)
    (fun h₀ L m news s Q => RetV h₀ L m news s Q (fun v => ∃ t, v = .int (valD ds) t)) := by
  k_with_none
  k_with "k_all" => (assumption)
  k_with "k_mem" => (exact List.Mem.tail _ (by assumption))
  k_with "exec While" => (k_here; k_dflt (refine whl_start 100 ?_))
  k_with "exec While BinOp" => (k_here; k_dflt (refine whl_start 100 ?_))
  k_with "call builtin:next" => (k_here; (with_reducible show wpAny _ _ (call (Value.builtin "next") [Value.ref _]) _ _ _); k_dflt (refine' li_next ?zFW ?zNW ?zUW ?zpW ?zxW ?_; (case zFW => k_asm); (case zNW => k_asm); (case zUW => k_updF); (case zpW => k_mem); (case zxW => rfl); intro h'w F'w N'w; (try k_sweep)))
  k_with "binaryOp BitAnd int int" => (first | refine and63_hi (by omega) ?_ | refine and63_lo (by omega) ?_ | refine and64_hi (by omega) ?_ | refine and64_lo (by omega) ?_)
  k_with "inplaceOp LShift int int" => (refine shl6 (by omega) ?_)
  k_with "inplaceOp BitOr int int" => (refine or6 (by omega) (by omega) ?_)
  w_top off
  unfold Ctr
  k_fill
  intro p loose mean mg mb news dp un gd cn cs a ccd cl outer A₀ base h₀ L m s Q E B F X N T hk hp hd hu hret
  obtain ⟨hds, hne, hlen, hmem, hit⟩ := hp
  dsimp only [List.cons_append, List.nil_append] at N
  rcases ds with _ | ⟨a1, _ | ⟨a2, _ | ⟨a3, _ | ⟨a4, _ | ⟨a5, r⟩⟩⟩⟩⟩
  · exact absurd rfl hne
  · obtain ⟨t1, v1, rfl, e1⟩ := ints_cons (l := []) hi
    obtain rfl := ints_nil e1
    have h1 := hds a1 (by simp); clear hds hi e1 hne hlen
    refine wpAny_call ?_
    k_dflt cell_enter
    k_steps
    exact retV_end hret (by k_asm) (by assumption) (fun p hp => .tail _ hp) ⟨_, by simp [valD]; rfl⟩
  · obtain ⟨t1, v1, rfl, e1⟩ := ints_cons (l := [a2]) hi
    obtain ⟨t2, v2, rfl, e2⟩ := ints_cons e1
    obtain rfl := ints_nil e2
    have h1 := hds a1 (by simp); have h2 := hds a2 (by simp); clear hds hi e1 e2 hne hlen
    refine wpAny_call ?_
    k_dflt cell_enter
    k_steps
    exact retV_end hret (by k_asm) (by assumption) (fun p hp => .tail _ hp) ⟨_, by simp [valD]; rfl⟩
  · obtain ⟨t1, v1, rfl, e1⟩ := ints_cons (l := [64 + a2, a3]) hi
    obtain ⟨t2, v2, rfl, e2⟩ := ints_cons e1
    obtain ⟨t3, v3, rfl, e3⟩ := ints_cons e2
    obtain rfl := ints_nil e3
    have h1 := hds a1 (by simp); have h2 := hds a2 (by simp); have h3 := hds a3 (by simp); clear hds hi e1 e2 e3 hne hlen
    refine wpAny_call ?_
    k_dflt cell_enter
    k_steps
    exact retV_end hret (by k_asm) (by assumption) (fun p hp => .tail _ hp) ⟨_, by simp [valD]; rfl⟩
  · obtain ⟨t1, v1, rfl, e1⟩ := ints_cons (l := [64 + a2, 64 + a3, a4]) hi
    obtain ⟨t2, v2, rfl, e2⟩ := ints_cons e1
    obtain ⟨t3, v3, rfl, e3⟩ := ints_cons e2
    obtain ⟨t4, v4, rfl, e4⟩ := ints_cons e3
    obtain rfl := ints_nil e4
    have h1 := hds a1 (by simp); have h2 := hds a2 (by simp); have h3 := hds a3 (by simp); have h4 := hds a4 (by simp); clear hds hi e1 e2 e3 e4 hne hlen
    refine wpAny_call ?_
    k_dflt cell_enter
    k_steps
    exact retV_end hret (by k_asm) (by assumption) (fun p hp => .tail _ hp) ⟨_, by simp [valD]; rfl⟩
  · simp only [List.length_cons] at hlen; omega
end Mine
end

section
open PySem PySem.W PySem.Spec PySem.Calls PyProof.Rows
set_option maxRecDepth 100000
namespace Mine
def flatP (ps : List PySem.Str) : List Nat := ps.reverse.flatMap fun p => p.cps.toList
theorem flatP_cons (p : PySem.Str) (ps : List PySem.Str) : flatP (p :: ps) = flatP ps ++ p.cps.toList := by simp [flatP]
theorem flatP_eq (ps : List PySem.Str) : ps.reverse.foldl (fun acc p => acc ++ p.cps) #[] = (flatP ps).toArray := by
  unfold flatP
  generalize ps.reverse = l
  have : ∀ (l : List PySem.Str) (a : Array Nat), l.foldl (fun acc p => acc ++ p.cps) a = a ++ (l.flatMap fun p => p.cps.toList).toArray := by
    intro l
    induction l with
    | nil => intro a; simp
    | cons p l ih => intro a; rw [List.foldl_cons, ih]; apply Array.ext'; simp
  rw [this]; simp
section
variable {prog : Program} {w : World} {A : Around} {E : Value → Shared → Prop} {s : Shared}
theorem look_list {T : Addr} {items : Array Value} {c : Nat} {x : PySem.Str} {tk : Tok} {Q : Builtin.Str.Mapped → Shared → Prop} (hT : s.heap.IsList T items) (hc : c < 1000) (hx : items[c]? = some (.str x tk))
    (h : Q (.text x) { s with toks := s.toks + 1 }) : wpAny (model prog w) A (Builtin.Str.tableLookup (.ref T) c) Q E s := by
  unfold Builtin.Str.tableLookup
  refine wpAny_bind (wpAny_attempt ?_)
  refine wpAny_bind (wpAny_mkInt ?_)
  refine wpAny_getItem_list (s := { s with toks := s.toks + 1 }) hT (by omega) (by omega) (by simpa using hx) ?_
  dsimp only
  exact wpAny_bind (wpAny_pure (wpAny_bind (wpAny_pure (wpAny_pure h))))
open Builtin Builtin.Str in
theorem translate_tree {T : Addr} {x : PySem.Str} {t : Tok} {items : Array Value} {g : Nat → PySem.Str} {P : Fin → Shared → Prop} (hT : s.heap.IsList T items) (hne : x.cps.size ≠ 0) (hsz : x.cps.size ≤ 1000)
    (hx : ∀ c ∈ x.cps.toList, c < 128 ∧ (g c).length ≤ 3 ∧ ∃ tk, items[c]? = some (.str (g c) tk))
    (h : ∀ t' k, P (.done (.ret (.str ⟨(x.cps.toList.flatMap fun c => (g c).cps.toList).toArray⟩ t'))) { s with toks := k }) :
    wpAny (model prog w) A («str.translate» ⟨[.str x t, .ref T], []⟩) P E s := by
  unfold «str.translate»
  refine wpAny_bind (m := strOneArg "translate" _) (wpAny_of_eq (a := (.str x t, x, .ref T)) (by first | rfl | kernel_rfl!) ?_)
  dsimp only
  rw [if_neg (by simpa [PySem.Str.length] using hne)]
  refine wpAny_bind (forIn_array_ _ (fun rest b s' => ∃ (done : List Nat) (k : Nat), x.cps.toList = done ++ rest ∧ s' = { s with toks := k } ∧ flatP b.1 = done.flatMap (fun c => (g c).cps.toList) ∧ b.2.1 ≤ 3 * done.length ∧
      (∀ c a, b.2.2.2.1.lookup c = some a → ∃ d, a = some d ∧ g c = ⟨#[d]⟩) ∧ b.2.2.2.2 = false) _ ?_ ?_ x.cps _ (by exact ⟨[], s.toks, rfl, rfl, rfl, Nat.le_refl _, (fun c a e => nomatch e), rfl⟩))
  · rintro c rest ⟨pieces, total, fast, known, ad⟩ s' ⟨done, k, hcut, rfl, hfl, htot, hkn, had⟩
    dsimp only at hfl htot hkn had ⊢
    subst had
    have hlen : done.length < 1000 := by
      have := congrArg List.length hcut
      simp at this; omega
    obtain ⟨hc, hg3, tk, hit⟩ := hx c (by rw [hcut]; simp)
    have htl : tooLong total = false := by
      unfold tooLong
      rw [sizeLine_eq]
      exact decide_eq_false (by omega)
    rw [htl]
    simp only [Bool.false_eq_true, if_false]
    have plain : ∀ (fast' : Bool) (known' : List (Nat × Option Nat)) (k' : Nat), (∀ c a, known'.lookup c = some a → ∃ d, a = some d ∧ g c = ⟨#[d]⟩) →
        ∃ (done : List Nat) (k : Nat), x.cps.toList = done ++ rest ∧ ({ s with toks := k' } : Shared) = { s with toks := k } ∧ flatP (g c :: pieces) = done.flatMap (fun c => (g c).cps.toList) ∧ total + (g c).length ≤ 3 * done.length ∧
          (∀ c a, known'.lookup c = some a → ∃ d, a = some d ∧ g c = ⟨#[d]⟩) ∧ false = false := by
      intro fast' known' k' hk'
      refine ⟨done ++ [c], k', by rw [hcut]; simp, rfl, ?_, by simp; omega, hk', rfl⟩
      rw [flatP_cons, hfl]; simp
    have one : ∀ d, g c = ⟨#[d]⟩ → (({ cps := #[d] } : PySem.Str) = g c ∧ total + 1 = total + (g c).length) := by
      intro d hd; rw [hd]; exact ⟨rfl, rfl⟩
    cases fast with
    | false =>
      simp only [Bool.false_eq_true, if_false]
      refine wpAny_bind (look_list (s := { s with toks := k }) hT (by omega) hit ?_)
      exact wpAny_pure (plain false known _ hkn)
    | true =>
      simp only [if_true]
      cases hl : known.lookup c with
      | some a =>
        obtain ⟨d, rfl, hd⟩ := hkn c a hl
        dsimp only
        refine wpAny_bind (wpAny_pure ?_)
        dsimp only
        refine wpAny_pure ?_
        dsimp only
        rw [(one d hd).1, (one d hd).2]
        exact plain true known _ hkn
      | none =>
        dsimp only
        refine wpAny_bind (look_list (s := { s with toks := k }) hT (by omega) hit ?_)
        dsimp only
        by_cases h1 : ((g c).length == 1 && (g c).cps.all fun x => decide (x < 128)) = true
        · rw [if_pos h1]
          have hs1 : (g c).cps.size = 1 := by
            have := (Bool.and_eq_true_iff.mp h1).1
            simpa [PySem.Str.length] using this
          obtain ⟨d, hd⟩ : ∃ d, g c = ⟨#[d]⟩ := by
            obtain ⟨d, hd⟩ := Array.size_eq_one_iff.mp hs1
            exact ⟨d, congrArg PySem.Str.mk hd⟩
          have hz : (g c).cps[0]? = some d := by rw [hd]; rfl
          rw [hz]
          dsimp only
          refine wpAny_bind (wpAny_pure ?_)
          dsimp only
          refine wpAny_pure ?_
          dsimp only
          rw [(one d hd).1, (one d hd).2]
          refine plain true ((c, some d) :: known) _ ?_
          intro c' a' e
          rw [List.lookup_cons] at e
          by_cases hcc : (c' == c) = true
          · rw [hcc] at e
            cases e
            have : c' = c := by simpa using hcc
            exact ⟨d, rfl, this ▸ hd⟩
          · rw [show (c' == c) = false by simpa using hcc] at e
            exact hkn c' a' e
        · rw [if_neg h1]
          dsimp only
          refine wpAny_bind (wpAny_pure ?_)
          dsimp only
          refine wpAny_bind (wpAny_rule ?_)
          refine wpAny_bind (look_list (s := { s with toks := k + 1 }) hT (by omega) hit ?_)
          exact wpAny_pure (plain false known _ hkn)
  · rintro ⟨pieces, total, fast, known, ad⟩ s' ⟨done, k, hcut, rfl, hfl, htot, _, _⟩
    dsimp only at hfl htot ⊢
    have hd : done = x.cps.toList := by simpa using hcut.symm
    subst hd
    have hlen : x.cps.toList.length ≤ 1000 := by simpa using hsz
    have htl : tooLong total = false := by
      unfold tooLong
      rw [sizeLine_eq]
      exact decide_eq_false (by omega)
    rw [htl, flatP_eq, hfl]
    simp only [Bool.false_eq_true, if_false]
    unfold retStr
    refine wpAny_bind (wpAny_mkStr (wpAny_pure (h _ _)) ?_)
    have hb : ∀ l : List Nat, (∀ c ∈ l, (g c).length ≤ 3) → (l.flatMap (fun c => (g c).cps.toList)).length ≤ 3 * l.length := by
      intro l
      induction l with
      | nil => simp
      | cons c l ih =>
        intro hl
        have := ih fun c hc => hl c (.tail _ hc)
        have h3 := hl c (.head _)
        simp [PySem.Str.length] at this h3 ⊢
        omega
    have := hb x.cps.toList fun c hc => (hx c hc).2.1
    rw [sizeLine_eq]
    show (x.cps.toList.flatMap (fun c => (g c).cps.toList)).toArray.size ≤ _
    rw [List.size_toArray]; omega
open Builtin in
theorem call_translate {T : Addr} {x : PySem.Str} {t : Tok} {items : Array Value} {g : Nat → PySem.Str} {Q : Value → Shared → Prop} (hT : s.heap.IsList T items) (hne : x.cps.size ≠ 0) (hsz : x.cps.size ≤ 1000)
    (hx : ∀ c ∈ x.cps.toList, c < 128 ∧ (g c).length ≤ 3 ∧ ∃ tk, items[c]? = some (.str (g c) tk))
    (h : ∀ t' k, Q (.str ⟨(x.cps.toList.flatMap fun c => (g c).cps.toList).toArray⟩ t') { s with toks := k }) :
    wpAny (model prog w) A (call (.builtin "str.translate") [.str x t, .ref T]) Q E s :=
  wpAny_call_entry F.slot_str_translate (typeIs_str _ _ _) F.entry_str_translate (translate_tree hT hne hsz hx fun t' k => ⟨_, rfl, h t' k⟩) (F.args_str_translate_2 _ _)
theorem get_translate {M : Model} {x : PySem.Str} {t : Tok} {pl : Sem Bool} {Q : Value × List Value → Shared → Prop} (h : Q (.builtin "str.translate", [.str x t]) s) : wpAny M A (getMethod (.str x t) "translate" pl) Q E s := by
  with_reducible exact GM.of (.str x t) (typeIs_str _ _ _) F.slot_str_translate F.type_str_translate GM.noRef h
end
end Mine
end

section
open PySem PySem.W PySem.Spec PySem.Calls PyProof.Rows
set_option maxRecDepth 100000
namespace Mine
open Builtin
theorem args_decode_2 (a b : Value) : argsOk "bytes.decode" ⟨[a, b], []⟩ := by
  unfold argsOk; rw [signature?_of (id := "bytes.decode") (n := ['e', 'd', 'o', 'c', 'e', 'd']) (o := ['s', 'e', 't', 'y', 'b']) (by kernel_rfl) FB.owner_bytes]; kernel_rfl
section
variable {b : Array UInt8} {c : UInt8} {cs : List UInt8} {t : Tok} {x : PySem.Str} {n : Nat}
theorem lat_road {id : String} : _codecs.decodeRoad id b (PySem.Str.ofString "latin1") none [] = (_codecs.runDecoder id _codecs.latin1Decoder none true b 0 [] >>= fun r => mkStr ⟨r.1⟩) := by kernel_rfl
theorem lat_run {id : String} (bs : List UInt8) (h0 : bs ≠ []) (h4 : bs.length ≤ 4) : _codecs.runDecoder id _codecs.latin1Decoder none true bs.toArray 0 [] = pure ((bs.map UInt8.toNat).toArray, bs.length) := by
  match bs, h0, h4 with
  | [a], _, _ => kernel_rfl
  | [a, b], _, _ => kernel_rfl
  | [a, b, c], _, _ => kernel_rfl
  | [a, b, c, d], _, _ => kernel_rfl
theorem lat_text {t1 t2 : Tok} {d : PySem.Str} (hd : ∀ id, _codecs.runDecoder id _codecs.latin1Decoder none true b 0 [] = pure (x.cps, n)) :
    Meets («_codecs.decode.text» ⟨[.bytes b t, .str (PySem.Str.ofString "latin1") t1, .none, .str d t2], []⟩) (fun _ R s => x.length ≤ sizeLine ∧ R (.ok (.ret (.str x s.toks))) { s with toks := s.toks + 1 }) := by
  refine .of_wp fun prog w A R s hS => ?_
  obtain ⟨hsz, h⟩ := hS
  show wpAny _ _ (Bytes.bytesLike _ (.bytes b t) >>= fun r => _) _ _ s
  refine wpAny_bind (wpAny_of_eq KBd.like_eq ?_)
  refine wpAny_bind (wpAny_of_eq KBd.held_eq ?_)
  show wpAny _ _ (_codecs.decodeRoad _ b (PySem.Str.ofString "latin1") none [] >>= fun v => _) _ _ s
  rw [lat_road, hd]
  refine wpAny_bind (wpAny_bind (wpAny_pure ?_))
  exact wpAny_mkStr (wpAny_pure ⟨_, rfl, h⟩) hsz
theorem lat_entry {t1 : Tok} : «bytes.decode» ⟨[.bytes (c :: cs).toArray t, .str (PySem.Str.ofString "latin1") t1], []⟩ = (mkStr (PySem.Str.ofString "utf-8") >>= fun _ => mkStr (PySem.Str.ofString "latin1") >>= fun e => mkStr (PySem.Str.ofString "bytes.decode") >>= fun d =>
    call (.builtin "_codecs.decode.text") [.bytes (c :: cs).toArray t, e, .none, d] >>= fun v => ret v) := by kernel_rfl
theorem lat_meets {t1 : Tok} (hd : ∀ id, _codecs.runDecoder id _codecs.latin1Decoder none true (c :: cs).toArray 0 [] = pure (x.cps, n)) :
    Meets («bytes.decode» ⟨[.bytes (c :: cs).toArray t, .str (PySem.Str.ofString "latin1") t1], []⟩) (fun _ R s => x.length ≤ sizeLine ∧ ∀ t' k, R (.ok (.ret (.str x t'))) { s with toks := k }) := by
  refine .of_wp fun prog w A R s hS => ?_
  obtain ⟨hsz, h⟩ := hS
  rw [lat_entry]
  refine wpAny_bind (wpAny_mkStr ?_ (by decide))
  refine wpAny_bind (wpAny_mkStr ?_ (by decide))
  refine wpAny_bind (wpAny_mkStr ?_ (by decide))
  exact wpAny_bind (call_function_meets KBd.kind_text KBd.plain_text KBd.entry_text (KBd.args_text _ _ _ _) (lat_text hd) ⟨hsz, wpAny_pure ⟨_, rfl, h _ _⟩⟩)
end
section
variable {prog : Program} {w : World} {A : Around} {E : Value → Shared → Prop} {s : Shared} {t t1 : Tok}
theorem call_latin1 {bs : List UInt8} {Q : Value → Shared → Prop} (h0 : bs ≠ []) (h4 : bs.length ≤ 4) (h : ∀ t' k, Q (.str ⟨(bs.map UInt8.toNat).toArray⟩ t') { s with toks := k }) :
    wpAny (model prog w) A (call (.builtin "bytes.decode") [.bytes bs.toArray t, .str (PySem.Str.ofString "latin1") t1]) Q E s := by
  cases bs with
  | nil => exact absurd rfl h0
  | cons c cs =>
    refine call_meets FB.slot_bytes_decode (typeIs_bytes _ _ _) FB.entry_bytes_decode (args_decode_2 _ _) (lat_meets (x := ⟨((c :: cs).map UInt8.toNat).toArray⟩) (n := (c :: cs).length) fun id => lat_run (c :: cs) h0 h4) ⟨?_, h⟩
    rw [sizeLine_eq]
    show (((c :: cs).map UInt8.toNat).toArray).size ≤ _
    simp at h4 ⊢; omega
end
end Mine
end

section
open PySem PySem.W PySem.Spec PySem.Calls PyProof.Rows
set_option maxRecDepth 100000
namespace Mine
/-! ## the tables of the text -/
noncomputable def tabL (P : Params) (a : Addr) : List Value := match (kG P).lookup a with | some ⟨_, _, .seq its _, _⟩ => its.toList | _ => []
theorem tab22 (P : Params) : (kG P).lookup 22 = some ⟨.type "list", none, .seq (tabL P 22).toArray 0, #[]⟩ := by kernel_rfl
theorem tab47 (P : Params) : (kG P).lookup 47 = some ⟨.type "list", none, .seq (tabL P 47).toArray 0, #[]⟩ := by kernel_rfl
theorem tab17 (P : Params) : (kG P).lookup 17 = some ⟨.type "list", none, .seq (tabL P 17).toArray 256, #[]⟩ := by kernel_rfl
def txt : Option Value → PySem.Str
  | some (.str x _) => x
  | _ => ⟨#[]⟩
noncomputable def tabG (P : Params) (a : Addr) (c : Nat) : PySem.Str := txt ((tabL P a)[c]?)
def isTxt : Option Value → Bool
  | some (.str _ _) => true
  | _ => false
theorem txt_of {o : Option Value} (h : isTxt o = true) : ∃ tk, o = some (.str (txt o) tk) := by
  match o, h with
  | some (.str x tk), _ => exact ⟨tk, rfl⟩
/-- the codes that a header writes by one sign -/
def hOne (c : Nat) : Bool := c == 32 || c == 33 || c == 42 || c == 43 || c == 45 || c == 47 || (48 ≤ c && c ≤ 57) || (65 ≤ c && c ≤ 90) || (97 ≤ c && c ≤ 122)
/-- the codes that a body keeps -/
def bOne (c : Nat) : Bool := c == 9 || c == 10 || c == 13 || (32 ≤ c && c ≤ 126 && c != 61)
/-- three signs, none of them a blank or a line's end -/
def three (x : PySem.Str) : Bool := x.cps.size == 3 && x.cps.all fun d => 33 ≤ d && d ≤ 126
theorem all22 (P : Params) : ((List.range 128).all fun c => isTxt ((tabL P 22)[c]?) && ((tabG P 22 c).length == if hOne c then 1 else 3)) = true := by kernel_rfl
theorem all47 (P : Params) : ((List.range 128).all fun c => isTxt ((tabL P 47)[c]?) && (if bOne c then (tabG P 47 c).cps.toList == [c] else three (tabG P 47 c))) = true := by kernel_rfl
theorem all17 (P : Params) : ((List.range 128).all fun c => isTxt ((tabL P 17)[c]?) && three (tabG P 17 c)) = true := by kernel_rfl
theorem at22 (P : Params) {c : Nat} (hc : c < 128) : (∃ tk, (tabL P 22).toArray[c]? = some (.str (tabG P 22 c) tk)) ∧ (tabG P 22 c).length = if hOne c then 1 else 3 := by
  have h := List.all_eq_true.mp (all22 P) c (List.mem_range.mpr hc)
  have h := Bool.and_eq_true_iff.mp h
  obtain ⟨tk, ht⟩ := txt_of h.1
  exact ⟨⟨tk, by simpa [tabG] using ht⟩, by simpa using h.2⟩
theorem at47 (P : Params) {c : Nat} (hc : c < 128) : (∃ tk, (tabL P 47).toArray[c]? = some (.str (tabG P 47 c) tk)) ∧ (if bOne c then (tabG P 47 c).cps.toList == [c] else three (tabG P 47 c)) = true := by
  have h := List.all_eq_true.mp (all47 P) c (List.mem_range.mpr hc)
  have h := Bool.and_eq_true_iff.mp h
  obtain ⟨tk, ht⟩ := txt_of h.1
  exact ⟨⟨tk, by simpa [tabG] using ht⟩, h.2⟩
theorem at17 (P : Params) {c : Nat} (hc : c < 128) : (∃ tk, (tabL P 17)[c]? = some (.str (tabG P 17 c) tk)) ∧ three (tabG P 17 c) = true := by
  have h := List.all_eq_true.mp (all17 P) c (List.mem_range.mpr hc)
  have h := Bool.and_eq_true_iff.mp h
  obtain ⟨tk, ht⟩ := txt_of h.1
  exact ⟨⟨tk, ht⟩, h.2⟩
/-- how long a translated text is -/
def sumN (f : Nat → Nat) : List Nat → Nat
  | [] => 0
  | c :: r => f c + sumN f r
theorem flat_len {g : Nat → PySem.Str} {f : Nat → Nat} : ∀ {l : List Nat}, (∀ c ∈ l, (g c).length = f c) → (l.flatMap fun c => (g c).cps.toList).length = sumN f l
  | [], _ => rfl
  | c :: l, h => by
    have := flat_len (l := l) fun c hc => h c (.tail _ hc)
    have h1 := h c (.head _)
    simp [PySem.Str.length] at this h1 ⊢
    rw [sumN, h1, this]
section
variable {prog : Program} {w : World} {A : Around} {E : Value → Shared → Prop} {s : Shared} {h₀ : Heap} {L : Addr} {m : PySem.Str → Option Value} {Q : Value → Shared → Prop} {x : PySem.Str} {t : Tok}
theorem sumN_le {f : Nat → Nat} (hf : ∀ c, f c ≤ 3) : ∀ l : List Nat, sumN f l ≤ 3 * l.length
  | [] => Nat.le_refl _
  | c :: l => by have := sumN_le hf l; have := hf c; rw [sumN, List.length_cons]; omega
theorem hOne_le (c : Nat) : (if hOne c then 1 else 3) ≤ 3 := by split <;> decide
theorem translate22 (F : Fr h₀ L s.heap m) (X : (kG w.params).In h₀) (hne : x.cps.size ≠ 0) (hsz : x.cps.size ≤ 4) (hx : ∀ c ∈ x.cps.toList, c < 128)
    (h : ∀ y t' k, PySem.Str.length y = sumN (fun c => if hOne c then 1 else 3) x.cps.toList → PySem.Str.length y ≤ 12 → Q (.str y t') { s with toks := k }) : wpAny (model prog w) A (call (.builtin "str.translate") [.str x t, .ref 22]) Q E s :=
  call_translate (g := tabG w.params 22) (lstK (X.keeps F.keep) (tab22 _)) hne (by omega) (fun c hc => ⟨hx c hc, by rw [(at22 w.params (hx c hc)).2]; split <;> decide, (at22 w.params (hx c hc)).1⟩)
    fun t' k => by
      have e : PySem.Str.length ⟨(x.cps.toList.flatMap fun c => (tabG w.params 22 c).cps.toList).toArray⟩ = sumN (fun c => if hOne c then 1 else 3) x.cps.toList := by
        show (List.toArray _).size = _
        rw [List.size_toArray]; exact flat_len fun c hc => (at22 w.params (hx c hc)).2
      have := sumN_le hOne_le x.cps.toList
      have h4 : x.cps.toList.length ≤ 4 := by simpa using hsz
      exact h _ t' k e (by omega)
end
end Mine
end

section
open PySem PySem.W PySem.Spec PySem.Calls PyProof.Rows
set_option maxRecDepth 100000
namespace Mine
theorem len_e0 : PySem.Str.empty.length = 0 := rfl
theorem len_e1 : (PySem.Str.ofString "=?").length = 2 := by decide +kernel
theorem len_e2 : (PySem.Str.ofString "x").length = 1 := by decide +kernel
theorem len_e3 : (PySem.Str.ofString "?q?").length = 3 := by decide +kernel
theorem len_e4 : (PySem.Str.ofString "?=").length = 2 := by decide +kernel
set_option maxHeartbeats 8000000 in
theorem header_c (w : World) (bs : List UInt8) (t t2 : Tok) : Ctr 1 w 45 [.bytes bs.toArray t, .str (PySem.Str.ofString "x") t2] [] (fun _ => bs ≠ [] ∧ bs.length ≤ 4 ∧ ∀ b ∈ bs, b.toNat < 128)
    (fun h₀ L m news s Q => RetV h₀ L m news s Q (fun v => ∃ y t, v = .str y t ∧ y.length = 8 + sumN (fun c => if hOne c then 1 else 3) (bs.map UInt8.toNat))) := by
  k_with_none
  k_with "getMethod str" => ((with_reducible refine get_translate ?_))
  k_with "call builtin:str.translate" => (k_here; (with_reducible show wpAny _ _ (call (Value.builtin "str.translate") [Value.str _ _, Value.ref 22]) _ _ _); k_dflt (refine' translate22 ?zFW ?zXW ?z1W ?z2W ?z3W ?_; (case zFW => k_asm); (case zXW => k_asm); (case z1W => assumption); (case z2W => assumption); (case z3W => assumption); intro y'w t'w k'w hy'w hz'w))
  k_with "call builtin:bytes.decode" => (k_here; k_dflt (refine call_latin1 (by assumption) (by assumption) ?_; intro t'w k'w))
  w_top off
  unfold Ctr
  k_fill
  intro p loose mean mg mb news dp un gd cn cs a ccd cl outer A₀ base h₀ L m s Q E B F X N T hk hp hd hu hret
  dsimp only [List.cons_append, List.nil_append] at N
  obtain ⟨hb0, hb4, hb⟩ := hp
  have hx1 : (PySem.Str.mk (bs.map UInt8.toNat).toArray).cps.size ≠ 0 := by simpa using hb0
  have hx2 : (PySem.Str.mk (bs.map UInt8.toNat).toArray).cps.size ≤ 4 := by simpa using hb4
  have hx3 : ∀ c ∈ (PySem.Str.mk (bs.map UInt8.toNat).toArray).cps.toList, c < 128 := by
    intro c hc; simp at hc; obtain ⟨b, hb', rfl⟩ := hc; exact hb b hb'
  refine wpAny_call ?_
  k_dflt (refine' code_def ?k1 ?k2 ?k3 ?k4 ?k5 ?kA ?kF ?kK ?k6 ?k7 ?k8 ?k9 ?kB ?_ ?c2 ?c3 ?c4 ?c5; (case kA => exact rfl); (case kF => exact rfl); (case kK => assumption); (case k1 => k_asm); (case k2 => k_asm); (case k3 => k_asm); (case k4 => k_asm); (case k5 => k_asm); (case k6 => k_is); (case k7 => k_is); (case k8 => ktr_room); (case k9 => exact binds_K (by k_in) rfl (by k_is) rfl rfl rfl); (case c5 => decide); (case kB => exact locs rfl); (case c2 => exact rfl); (case c3 => exact rfl); (case c4 => exact rfl); k_whole; intro g' L' h' FG' F' N' B' X' T'; (try dsimp only); (try k_lift B'); (try k_fold))
  k_steps
  · refine retV_end hret (by k_asm) (by assumption) (fun p hp => hp) ⟨_, _, rfl, ?_⟩
    simp only [PySem.Str.length_append, len_e1, len_e2, len_e3, len_e4, len_e0]
    rename PySem.Str.length _ = sumN _ _ => e
    dsimp only at e
    omega
  · have e : ((bs.toArray.size : Nat) : Int) = 0 := by assumption
    exact absurd (by simpa using e) hb0
end Mine
end

section
open PySem PySem.W PySem.Spec PySem.Calls PyProof.Rows
set_option maxRecDepth 100000
namespace Mine
open Builtin Builtin.Str StrLaws
/-! ## the lines of a short text -/
def lastD (x : PySem.Str) : Nat := x.cps.getD (x.cps.size - 1) 0
theorem ls_none (s : PySem.Str) : ∀ (m cur : Nat) (st : LsSt), (∀ j, cur ≤ j → j < cur + m → Unicode.isLineBreak (s.cps.getD j 0) = false) → Id.run (forIn (m := Id) (List.range' cur m) st (lsBody s)) = st
  | 0, cur, st, _ => rfl
  | m + 1, cur, (lines, start), h => by
    rw [List.range'_succ, List.forIn_cons]
    unfold lsBody
    rw [h cur (by omega) (by omega)]
    simp only [Bool.and_false, Bool.false_eq_true, if_false]
    exact ls_none s m (cur + 1) _ fun j h1 h2 => h j (by omega) (by omega)
theorem ls_last (s : PySem.Str) : ∀ (m cur : Nat) (lines : Array (Nat × Nat × Nat)) (start : Nat), start ≤ cur → (∀ j, cur ≤ j → j < cur + m → Unicode.isLineBreak (s.cps.getD j 0) = false) → Unicode.isLineBreak (s.cps.getD (cur + m) 0) = true →
    Id.run (forIn (m := Id) (List.range' cur (m + 1)) ((lines, start) : LsSt) (lsBody s)) = (lines.push (start, cur + m, lsNext s (cur + m)), lsNext s (cur + m))
  | 0, cur, lines, start, hs, _, hb => by
    rw [List.range'_succ, List.forIn_cons]
    unfold lsBody
    rw [Nat.add_zero] at hb
    rw [hb, decide_eq_true hs]
    rfl
  | m + 1, cur, lines, start, hs, h, hb => by
    rw [List.range'_succ, List.forIn_cons]
    unfold lsBody
    rw [h cur (by omega) (by omega)]
    simp only [Bool.and_false, Bool.false_eq_true, if_false]
    have e : cur + (m + 1) = cur + 1 + m := by omega
    rw [e] at hb ⊢
    exact ls_last s m (cur + 1) lines start (by omega) (fun j h1 h2 => h j (by omega) (by omega)) hb
theorem lines_plain {x : PySem.Str} (h0 : x.cps.size ≠ 0) (h : ∀ j, j < x.cps.size → Unicode.isLineBreak (x.cps.getD j 0) = false) : Txt.lines x = [x] := by
  have e : lineSpans x = [(0, x.length, x.length)] := by
    rw [ls_eq, ls_none x x.length 0 _ fun j _ h2 => h j (by simpa [PySem.Str.length] using h2)]
    unfold lsEnd
    rw [if_pos (by show 0 < x.length; unfold PySem.Str.length; omega)]
    rfl
  have c : lineCuts x = [(0, x.length)] := by unfold lineCuts; rw [e]; rfl
  unfold Txt.lines
  rw [c]; simp
theorem lines_end {x : PySem.Str} {k : Nat} (h0 : x.cps.size = k + 1) (h : ∀ j, j < k → Unicode.isLineBreak (x.cps.getD j 0) = false) (hk : Unicode.isLineBreak (x.cps.getD k 0) = true) : Txt.lines x = [strSub x 0 k] := by
  have hl : x.length = k + 1 := h0
  have hnx : lsNext x k = k + 1 := by
    unfold lsNext
    rw [if_neg]
    rw [show x.cps[k + 1]? = none by simp; omega]
    simp
  have e : lineSpans x = [(0, k, k + 1)] := by
    rw [ls_eq, hl, ls_last x k 0 #[] 0 (Nat.zero_le _) (fun j _ h2 => h j (by omega)) (by rw [Nat.zero_add]; exact hk), Nat.zero_add, hnx]
    unfold lsEnd
    rw [if_neg (by show ¬ k + 1 < x.length; omega)]
    rfl
  have c : lineCuts x = [(0, k)] := by unfold lineCuts; rw [e]; rfl
  unfold Txt.lines linesOf
  rw [c, hl]
  simp
theorem len_slice_all (x : PySem.Str) : (Txt.slice x (some 0) none).length = x.length := by
  have e : strSliceIndices (some 0) none 1 x.length = strSliceIndices (some ((0 : Nat) : Int)) (some ((x.length : Nat) : Int)) 1 x.length := by
    unfold strSliceIndices
    simp only [show ¬ ((x.length : Nat) : Int) < 0 by omega, if_false, show ((1 : Int) > 0) = True by simp, if_true, Int.min_self]
    congr 1
    try omega
  unfold Txt.slice
  split
  · rfl
  · rw [e, sliced_plain x (Nat.zero_le _) (Nat.le_refl _)]
    simp [PySem.Str.length]
theorem len_slice_last (x : PySem.Str) (h : x.length ≠ 0) : (Txt.slice x (some 0) (some (-1))).length = x.length - 1 := by
  have e : strSliceIndices (some 0) (some (-1)) 1 x.length = strSliceIndices (some ((0 : Nat) : Int)) (some ((x.length - 1 : Nat) : Int)) 1 x.length := by
    unfold strSliceIndices
    simp only [show ¬ ((x.length - 1 : Nat) : Int) < 0 by omega, show ((-1 : Int) < 0) = True by simp, if_false, show ((1 : Int) > 0) = True by simp, if_true]
    congr 1
    omega
  unfold Txt.slice
  rw [e]
  rw [if_neg (by rw [strSliceIndices_plain (Nat.zero_le _) (by omega)]; simp; omega)]
  rw [sliced_plain x (Nat.zero_le _) (by omega)]
  simp [PySem.Str.length]
theorem len_join1 (sep a : PySem.Str) : (Txt.join sep [a]).length = a.length := by unfold Txt.join; rw [size_glued]; simp
theorem len_join2 (sep a b : PySem.Str) : (Txt.join sep [a, b]).length = a.length + b.length + sep.length := by unfold Txt.join; rw [size_glued]; simp
section
variable {prog : Program} {w : World} {A : Around} {E : Value → Shared → Prop} {s : Shared} {h₀ : Heap} {L : Addr} {m : PySem.Str → Option Value} {news : List (Addr × Obj)} {Q : Value → Shared → Prop} {x z : PySem.Str} {t u : Tok} {d : Nat}
theorem split_one (hF : Fr h₀ L s.heap m) (hN : News h₀ L s.heap news) (hz : Txt.lines x = [z]) (hsz : x.length ≤ 12)
    (h : ∀ l h' k tz, Fr h₀ L h' m → News h₀ L h' ((l, listOf #[.str z tz] 0) :: news) → (∀ p ∈ news, p.1 < l) → Q (.ref l) { s with heap := h', toks := k }) :
    wpAny (model prog w) A (call (.builtin "str.splitlines") [.str x t]) Q E s := by
  refine splitlinesN hF hN (fun l h' k e F' N' => ?_) (by rw [sizeLine_eq]; omega) (by rw [sizeLine_eq]; have := lineCuts_le x; omega)
  rw [hz] at e
  match l, e with
  | [(z', tz)], e =>
    obtain rfl : z' = z := by simpa using e
    exact h _ h' k tz F' N' fun p hp => Heap.lt_size (hN p hp).1
theorem item_last {value slice : Expr} (h0 : x.length ≠ 0) (h : Q (.str ⟨#[lastD x]⟩ s.toks) { s with toks := s.toks + 1 })
    (hs : subscripted slice false (.str x t) (.int (-1) u) = operate [.str x t, .int (-1) u] (getItem (.str x t) (.int (-1) u)) := by with_unfolding_all rfl)
    (ht : ∀ r, letTemporaryGo value (.str x t) r = pure () := by intro _; with_unfolding_all rfl) :
    wpAny (model prog w) A (subscriptTail value slice (.str x t) (.int (-1) u)) Q E s := by
  have hl : x.length = x.cps.size := rfl
  rw [hl] at h0
  refine item_str (by decide) (by omega) (by omega) (fun _ => ?_) hs ht
  have e : Txt.item x (-1) = ⟨#[lastD x]⟩ := by
    have e1 : seqIndex? (-1) x.length = some (x.cps.size - 1) := by
      unfold seqIndex?
      simp only [hl, show ((-1 : Int) < 0) = True from by simp, if_true]
      rw [if_pos (by simp; omega)]
      congr 1; omega
    unfold Txt.item Txt.charAt lastD
    rw [e1]
    simp [Array.getD_eq_getD_getElem?]
  rw [e]; exact h
theorem in_blank (h : Q (.bool (decide (d = 32) || decide (d = 9))) s) : wpAny (model prog w) A (compareOp .In (.str ⟨#[d]⟩ u) (.str (PySem.Str.ofString " \t") t)) Q E s := by
  refine PySem.P.in_str ?_
  rw [found_one, show (PySem.Str.ofString " \t").cps.toList = [32, 9] by decide +kernel]
  simpa using h
theorem in_crlf (h : Q (.bool (decide (d = 13) || decide (d = 10))) s) : wpAny (model prog w) A (compareOp .In (.str ⟨#[d]⟩ u) (.str (PySem.Str.ofString "\r\n") t)) Q E s := by
  refine PySem.P.in_str ?_
  rw [found_one, show (PySem.Str.ofString "\r\n").cps.toList = [13, 10] by decide +kernel]
  simpa using h
theorem join_two {D : Addr} {a b : PySem.Str} {ta tb : Tok} {c : Nat} (N : News h₀ L s.heap news) (hm : (D, listOf ((#[].push (Value.str a ta)).push (Value.str b tb)) c) ∈ news) (ha : a.length ≤ 1000) (hb : b.length ≤ 1000) (hx : x.length ≤ 16)
    (h : ∀ t' k, Q (.str (Txt.join x [a, b]) t') { s with toks := k }) : wpAny (model prog w) A (call (.builtin "str.join") [.str x t, .ref D]) Q E s :=
  SC.join (l := [(a, ta), (b, tb)]) ⟨_, (N _ hm).1, rfl, c, rfl⟩ rfl (joinOk_of_weight (by simp; omega) hx) h
end
end Mine
end

section
open PySem PySem.W PySem.Spec PySem.Calls PyProof.Rows
set_option maxRecDepth 100000
namespace Mine
abbrev bmObj (l : Addr) : Obj := { cls := .type "builtin_function_or_method", data := .fields #[.builtin "list.append", .ref l] }
theorem md_get : typeLookup (.type "method_descriptor") "__get__" = pure (some (.builtin "method_descriptor.__get__")) := by rw [typeLookup_type, builtinLookup_eq_fast]; kernel_rfl
theorem md_set : typeLookup (.type "method_descriptor") "__set__" = pure none := by rw [typeLookup_type, builtinLookup_eq_fast]; kernel_rfl
theorem md_del : typeLookup (.type "method_descriptor") "__delete__" = pure none := by rw [typeLookup_type, builtinLookup_eq_fast]; kernel_rfl
theorem md_type : typeOf (.builtin "list.append") = pure (.type "method_descriptor") := by show builtinType _ = _; rw [builtinType_eq_fast]; kernel_rfl
theorem md_slot : Slot "method_descriptor" "__get__" "method_descriptor.__get__" :=
  .of (owner := "method_descriptor") (n := "__get__") (by rw [typeLookup_type, builtinLookup_eq_fast]; kernel_rfl) (by decide +kernel) (by decide +kernel) (by decide +kernel)
    (by first | exact .inl (by decide +kernel) | exact .inr (by decide +kernel)) (by rw [isSubtype_type]; kernel_rfl)
theorem md_entry : entryFor table "method_descriptor.__get__" = some Builtin.«method_descriptor.__get__» := entryFor_of_tree (by kernel_rfl)
theorem md_args (a b c : Value) : argsOk "method_descriptor.__get__" ⟨[a, b, c], []⟩ := by unfold argsOk; kernel_rfl
theorem sub_ll : isSubtype (.type "list") (.type "list") = pure true := by rw [isSubtype_type]; kernel_rfl
theorem sub_lm : isSubtype (.type "list") (.type "module") = pure false := by rw [isSubtype_type]; kernel_rfl
theorem md_tree (l : Addr) : ∃ raising : Sem PUnit, Builtin.«method_descriptor.__get__» ⟨[.builtin "list.append", .ref l, .type "list"], []⟩ =
    ((isInstance (.ref l) (.type "list") >>= fun b => if (!b) = true then raising else pure ()) >>= fun _ => newFields "builtin_function_or_method" [.builtin "list.append", .ref l] >>= fun v => ret v) := by
  refine ⟨?r, ?h⟩
  case h => rfl
section
variable {prog : Program} {w : World} {A : Around} {E : Value → Shared → Prop} {s : Shared} {h₀ : Heap} {L l : Addr} {m : PySem.Str → Option Value} {news : List (Addr × Obj)} {its : Array Value} {c : Nat}
theorem md_bind {P : PySem.Fin → Shared → Prop} (ho : s.heap.get? l = some (listOf its c)) (h : P (.done (.ret (.ref s.heap.objs.size))) { s with heap := s.heap.push (bmObj l) }) :
    wpAny (model prog w) A (Builtin.«method_descriptor.__get__» ⟨[.builtin "list.append", .ref l, .type "list"], []⟩) P E s := by
  obtain ⟨raising, e⟩ := md_tree l
  rw [e]
  refine wpAny_bind (wpAny_bind (wpAny_isInstance (T := "list") ⟨_, ho, rfl⟩ sub_ll ?_))
  exact wpAny_pure (wpAny_bind (wpAny_newObj_type (wpAny_pure h)))
theorem ga_bind {P : PySem.Fin → Shared → Prop} {u : Tok} (ho : s.heap.get? l = some (listOf its c)) (h : P (.done (.ret (.ref s.heap.objs.size))) { s with heap := s.heap.push (bmObj l) }) :
    wpAny (model prog w) A (Builtin.«object.__getattribute__» ⟨[.ref l, .str "append" u], []⟩) P E s := by
  obtain ⟨hp, g, d, tk, os⟩ := s
  have hT : (⟨hp, g, d, tk, os⟩ : Shared).TypeIs (.ref l) "list" := ⟨_, ho, rfl⟩
  have f3 := PySem.slot_list_append.lookup
  have f4 := md_type
  have f5 := md_get
  have f6 := md_set
  have f7 := md_del
  unfold Builtin.«object.__getattribute__»
  repeat (any_goals (first | ((with_reducible show wpAny _ _ (call (Value.builtin "method_descriptor.__get__") _ _) _ _ _); refine wpAny_call_entry md_slot md_type md_entry (md_bind ho ⟨_, rfl, ?_⟩) (md_args _ _ _)) | wp_step | assumption))
theorem get_append {Q : Value → Shared → Prop} (F : Fr h₀ L s.heap m) (N : News h₀ L s.heap news) (hl : (l, listOf its c) ∈ news)
    (h : ∀ q h' tk, Fr h₀ L h' m → News h₀ L h' ((q, bmObj l) :: news) → (∀ p ∈ news, p.1 < q) → Q (.ref q) { s with heap := h', toks := tk }) :
    wpAny (model prog w) A (getAttr (.ref l) "append" true) Q E s := by
  have ho := (N _ hl).1
  have hf := h s.heap.objs.size _ (s.toks + 1) (F.push (bmObj l)) (News.push F N (bmObj l) rfl) (fun p hp => Heap.lt_size (N p hp).1)
  clear h F N hl
  obtain ⟨hp, g, d, tk, os⟩ := s
  have hT : ∀ tk', (⟨hp, g, d, tk', os⟩ : Shared).TypeIs (.ref l) "list" := fun _ => ⟨_, ho, rfl⟩
  have f3 := F.slot_list_getattribute.lookup
  have f4 := F.slot_list_getattribute.bind (.ref l)
  have f5 := am_list_getattr_none
  unfold getAttr getAttrBy
  repeat (any_goals (first | assumption | exact hT _ | ((with_reducible show wpAny _ _ (call (Value.builtin "list.__getattribute__") _ _) _ _ _); refine wpAny_call_entry F.slot_list_getattribute (hT _) am_entry_list_getattribute (ga_bind ho ⟨_, rfl, ?_⟩) (F.args_list_getattribute_2 _ _)) | wp_step))
end
end Mine
end

section
open PySem PySem.W PySem.Spec PySem.Calls PyProof.Rows
set_option maxRecDepth 100000
namespace Mine
theorem sig_append : Manifest.signature? "list.append" = some ⟨.oneArg, "list.append", "append", .self, [⟨"object", .posOnly, true⟩]⟩ := by kernel_rfl
theorem kind_append : builtinKind "list.append" = some .method := by kernel_rfl
theorem var_append : Manifest.varargsMethods.contains "list.append" = false := by decide +kernel
theorem full_append : toString (Bind.lastOf "list") ++ toString "." ++ toString (Bind.lastOf "list.append") = "list.append" := by decide +kernel
theorem chk_append (l : Addr) (x : Value) : Bind.checkArgs "list.append" ⟨.oneArg, "list.append", "append", .self, [⟨"object", .posOnly, true⟩]⟩ ⟨[.ref l, x], []⟩ = pure () := by kernel_rfl
section
variable {prog : Program} {w : World} {A : Around} {E : Value → Shared → Prop} {s : Shared} {h₀ : Heap} {L l q : Addr} {m : PySem.Str → Option Value} {news news' : List (Addr × Obj)} {its : Array Value} {c : Nat}
theorem check_bm {Q : Unit → Shared → Prop} {x : Value} (ho : s.heap.get? l = some (listOf its c)) (h : Q () s) : wpAny (model prog w) A (checkBoundCall "list.append" ⟨[.ref l, x], []⟩) Q E s := by
  have hT : s.TypeIs (.ref l) "list" := ⟨_, ho, rfl⟩
  unfold checkBoundCall
  rw [sig_append]
  dsimp only
  rw [kind_append]
  dsimp only
  rw [if_neg (by decide)]
  refine wpAny_bind (wpAny_isInstance hT sub_lm ?_)
  rw [var_append, if_neg (by decide)]
  refine wpAny_bind ?_
  unfold isType
  refine wpAny_bind ?_
  unfold loadHead
  refine wpAny_loadPart ho ?_
  refine wpAny_pure ?_
  dsimp only
  rw [if_neg (by decide)]
  refine wpAny_bind (wpAny_typeOf hT ?_)
  dsimp only
  rw [full_append]
  exact wpAny_of_eq (chk_append l x) h
theorem call_bm {Q : Value → Shared → Prop} {x : Value} (F : Fr h₀ L s.heap m) (N : News h₀ L s.heap news) (hq : (q, bmObj l) ∈ news) (U : Upd l (listOf its c) (listOf (its.push x) (c + 1)) news news')
    (h : ∀ h', Fr h₀ L h' m → News h₀ L h' news' → Q .none { s with heap := h' }) (hsz : its.size ≤ sizeLine := by size_fits) : wpAny (model prog w) A (call (.ref q) [x]) Q E s := by
  obtain ⟨pre, post, rfl, rfl, a, b⟩ := U.split
  have z := N (l, listOf its c) (List.mem_append.mpr (.inr (.head _)))
  have hb := (N _ hq).1
  refine wpAny_call (codeAny_of_tree ?_)
  show wpAny _ _ (callAny (.ref q) _) _ _ _
  refine nd_load hb ?_
  show wpAny _ _ (checkBoundCall "list.append" ⟨[.ref l, x], []⟩ >>= fun _ => again (.builtin "list.append" ⟨[.ref l, x], []⟩)) _ _ _
  refine wpAny_bind (check_bm z.1 (wpAny_pure ⟨plainId_quiet PySem.slot_list_append.plain _, ?_⟩))
  refine codeAny_builtin PySem.entry_list_append ?_
  rw [Around.under_plainId PySem.slot_list_append.plain]
  have hd : (listOf its c).data = .seq its c := rfl
  show wpAny _ _ (updateSeq l (·.push x) >>= fun _ => ret .none) _ _ s
  refine wpAny_bind ?_
  refine wpAny_updateSeq z.1 hd (wpAny_pure ?_)
  refine h _ (F.change (Heap.SameBut.update ..) z.2.1 z.2.2) (news_set N a b (Heap.SameBut.update ..) ?_)
  rw [Heap.get?_update_self _ z.1 (by rw [Obj.mapSeq_push_plain]; rfl), Obj.mapSeq_push_plain]
def BmAt (q l : Addr) (h : Heap) : Prop := h.get? q = some (bmObj l)
theorem bmAt {h : Heap} (N : News h₀ L h news) (hq : (q, bmObj l) ∈ news) : BmAt q l h := (N _ hq).1
theorem keeps_bm {M : Model} (h : Heap) (X : BmAt q l h) : ∃ k, (k = Keeper.frame ∨ k = Keeper.machine ∨ k = Keeper.boundFrame) ∧ Looks M h (keeperOf (.ref q)) k :=
  ⟨.machine, .inr (.inl rfl), (Looks.ld (part := none) X).andThen .now⟩
theorem callWith_bm {M : Model} {env : Env} {pos : Pos} {first : List Value} {Q : Value → Shared → Prop} {e : Expr} {rest : List Expr} (_N : News h₀ L s.heap news) (_q : (q, bmObj l) ∈ news)
    (h : wpAny M A (spliced (backTo pos (starEach (e :: rest) env))) (fun vs s₁ => BmAt q l s₁.heap ∧ wpAny M A (call (.ref q) (first ++ vs)) Q E s₁) E s)
    (he : starEach (e :: rest) env = (false, eval e env) :: starEach rest env := by rfl) (hplain : (backTo pos (starEach rest env)).any (·.1) = false := by rfl) :
    wpAny M A (callWith pos (.ref q) first (backTo pos (starEach (e :: rest) env)) []) Q E s := by
  rw [he] at h ⊢
  exact callWith_of (by show ((false || (backTo pos (starEach rest env)).any (·.1)) || false) = false; rw [hplain]; rfl) keeps_bm (evalArgs_plain h)
end
end Mine
end

section
open PySem PySem.W PySem.Spec PySem.Calls PyProof.Rows
set_option maxRecDepth 100000
namespace Mine
section
variable {prog : Program} {w : World} {A : Around} {E : Value → Shared → Prop} {s : Shared} {h₀ : Heap} {L : Addr} {m : PySem.Str → Option Value} {news : List (Addr × Obj)} {Q : Value → Shared → Prop} {x y : PySem.Str} {t u : Tok} {d : Nat}
theorem quote_item {value slice : Expr} (F : Fr h₀ L s.heap m) (X : (kG w.params).In h₀) (hd : d < 128) (h : ∀ y tk, PySem.Str.length y = 3 → Q (.str y tk) s)
    (hs : subscripted slice false (.ref 17) (.int d u) = operate [.ref 17, .int d u] (getItem (.ref 17) (.int d u)) := by with_unfolding_all rfl) :
    wpAny (model prog w) A (subscriptTail value slice (.ref 17) (.int d u)) Q E s := by
  obtain ⟨⟨tk, ht⟩, h3⟩ := at17 w.params hd
  exact topList_K F X (tab17 _) (by omega) (by omega) (by simpa using ht) (h _ _ (by have := Bool.and_eq_true_iff.mp h3; simpa [PySem.Str.length] using this.1)) hs
end
set_option maxHeartbeats 8000000 in
theorem quote_c (w : World) (d : Nat) (t : Tok) : Ctr 1 w 37 [.str ⟨#[d]⟩ t] [] (fun _ => d < 128) (fun h₀ L m news s Q => RetV h₀ L m news s Q (fun v => ∃ y t, v = .str y t ∧ y.length = 3)) := by
  k_with_none
  k_with "subscriptTail" => (k_here; (with_reducible show wpAny _ _ (subscriptTail _ _ (Value.ref 17) (Value.int _ _)) _ _ _); k_dflt (refine' quote_item ?zFW ?zXW ?z1W ?_; (case zFW => k_asm); (case zXW => k_asm); (case z1W => assumption); intro y'w t'w hy'w))
  w_top off
  unfold Ctr
  k_fill
  intro p loose mean mg mb news dp un gd cn cs a ccd cl outer A₀ base h₀ L m s Q E B F X N T hk hp hd hu hret
  dsimp only [List.cons_append, List.nil_append] at N
  refine wpAny_call ?_
  k_dflt cell_enter
  k_steps
  exact retV_end hret (by k_asm) (by assumption) (fun p hp => hp) ⟨_, _, rfl, by assumption⟩
/-- a text as the body's table writes it -/
noncomputable def tr47 (P : Params) (x : PySem.Str) : PySem.Str := ⟨(x.cps.toList.flatMap fun c => (tabG P 47 c).cps.toList).toArray⟩
theorem tab47_le (P : Params) {c : Nat} (hc : c < 128) : (tabG P 47 c).length ≤ 3 := by
  have h := (at47 P hc).2
  split at h
  · have : (tabG P 47 c).cps.toList.length = 1 := by rw [eq_of_beq h]; rfl
    simp [PySem.Str.length] at this ⊢; omega
  · have := Bool.and_eq_true_iff.mp h
    have : (tabG P 47 c).cps.size = 3 := by simpa using this.1
    simp [PySem.Str.length, this]
section
variable {prog : Program} {w : World} {A : Around} {E : Value → Shared → Prop} {s : Shared} {h₀ : Heap} {L : Addr} {m : PySem.Str → Option Value} {news : List (Addr × Obj)} {Q : Value → Shared → Prop} {x y : PySem.Str} {t u : Tok} {d : Nat}
theorem translate47 (F : Fr h₀ L s.heap m) (X : (kG w.params).In h₀) (hne : x.cps.size ≠ 0) (hsz : x.cps.size ≤ 4) (hx : ∀ c ∈ x.cps.toList, c < 128) (hy : y = tr47 w.params x)
    (h : ∀ t' k, Q (.str y t') { s with toks := k }) : wpAny (model prog w) A (call (.builtin "str.translate") [.str x t, .ref 47]) Q E s :=
  call_translate (g := tabG w.params 47) (lstK (X.keeps F.keep) (tab47 _)) hne (by omega) (fun c hc => ⟨hx c hc, tab47_le w.params (hx c hc), (at47 w.params (hx c hc)).1⟩)
    fun t' k => by have := h t' k; rw [hy] at this; exact this
end
theorem iter_one {prog : Program} {w : World} {A : Around} {E : Value → Shared → Prop} {s : Shared} {env : Env} {h₀ : Heap} {x : PySem.Str} {body : List Stmt} {Q : Flow → Shared → Prop} {ax : Addr} {v : Value} {n : Nat} {m₀ : PySem.Str → Option Value} {news : List (Addr × Obj)}
    (hh : A.handled = none) (F : Fr h₀ env.locals s.heap m₀) (N : News h₀ env.locals s.heap news) (hm : (ax, listOf #[v] n) ∈ news)
    (rest₀ : ∀ I : Addr, (∀ p ∈ news, p.1 < I) → ListRest prog w A E h₀ env x body Q s I (ax, listOf #[v] n) [v] m₀ news) :
    wpAny (model prog w) A (pyIter (.ref ax)) (fun it s₂ => LoopAtV prog w A h₀ env x body Q E it s₂) E s :=
  iter_listUnr (vs := [v]) hh F N hm rfl rfl rest₀
def bodyLen (y z : PySem.Str) : Nat := (if z.cps.size ≠ 0 ∧ (lastD z = 32 ∨ lastD z = 9) then z.length + 2 else z.length) + (if lastD y = 13 ∨ lastD y = 10 then 1 else 0)
theorem sl_le {z q : PySem.Str} {i j : Option Int} (hz : z.length ≤ 12) (hq : q.length = 3) : (Txt.slice z i j ++ q).length ≤ 1000 := by
  have := Txt.slice_le z i j
  rw [PySem.Str.length_append]; omega
theorem sl_le' {z : PySem.Str} {i j : Option Int} (hz : z.length ≤ 12) : (Txt.slice z i j).length ≤ 1000 := by
  have := Txt.slice_le z i j
  omega
theorem len_nl : (PySem.Str.ofString "\n").length = 1 := by decide +kernel
theorem len_no : (PySem.Str.ofString "").length = 0 := by decide +kernel
section
variable {y z q : PySem.Str}
theorem bl_q2 (h0 : ((z.length : Nat) : Int) ≠ 0) (hb : (decide (lastD z = 32) || decide (lastD z = 9)) = true) (hq : q.length = 3) (hc : (decide (lastD y = 13) || decide (lastD y = 10)) = true) :
    (Txt.join (PySem.Str.ofString "\n") [Txt.slice z (some 0) (some (-1)) ++ q, PySem.Str.ofString ""]).length = bodyLen y z := by
  have hz : z.length ≠ 0 := by omega
  rw [len_join2, PySem.Str.length_append, len_slice_last z hz, len_nl, len_no]
  unfold bodyLen
  rw [if_pos ⟨hz, by simpa using hb⟩, if_pos (by simpa using hc)]; omega
theorem bl_q1 (h0 : ((z.length : Nat) : Int) ≠ 0) (hb : (decide (lastD z = 32) || decide (lastD z = 9)) = true) (hq : q.length = 3) (hc : (decide (lastD y = 13) || decide (lastD y = 10)) = false) :
    (Txt.join (PySem.Str.ofString "\n") [Txt.slice z (some 0) (some (-1)) ++ q]).length = bodyLen y z := by
  have hz : z.length ≠ 0 := by omega
  rw [len_join1, PySem.Str.length_append, len_slice_last z hz]
  unfold bodyLen
  rw [if_pos ⟨hz, by simpa using hb⟩, if_neg (by simpa using hc)]; omega
theorem bl_p2 (hb : (decide (lastD z = 32) || decide (lastD z = 9)) = false) (hc : (decide (lastD y = 13) || decide (lastD y = 10)) = true) :
    (Txt.join (PySem.Str.ofString "\n") [Txt.slice z (some 0) none, PySem.Str.ofString ""]).length = bodyLen y z := by
  rw [len_join2, len_slice_all, len_nl, len_no]
  unfold bodyLen
  rw [if_neg (fun h => absurd h.2 (by simpa using hb)), if_pos (by simpa using hc)]
theorem bl_p1 (hb : (decide (lastD z = 32) || decide (lastD z = 9)) = false) (hc : (decide (lastD y = 13) || decide (lastD y = 10)) = false) :
    (Txt.join (PySem.Str.ofString "\n") [Txt.slice z (some 0) none]).length = bodyLen y z := by
  rw [len_join1, len_slice_all]
  unfold bodyLen
  rw [if_neg (fun h => absurd h.2 (by simpa using hb)), if_neg (by simpa using hc)]; rfl
theorem bl_z2 (h0 : ((z.length : Nat) : Int) = 0) (hc : (decide (lastD y = 13) || decide (lastD y = 10)) = true) :
    (Txt.join (PySem.Str.ofString "\n") [Txt.slice z (some 0) none, PySem.Str.ofString ""]).length = bodyLen y z := by
  have hz : z.cps.size = 0 := by have : z.length = z.cps.size := rfl; omega
  rw [len_join2, len_slice_all, len_nl, len_no]
  unfold bodyLen
  rw [if_neg (fun h => absurd hz h.1), if_pos (by simpa using hc)]
theorem bl_z1 (h0 : ((z.length : Nat) : Int) = 0) (hc : (decide (lastD y = 13) || decide (lastD y = 10)) = false) :
    (Txt.join (PySem.Str.ofString "\n") [Txt.slice z (some 0) none]).length = bodyLen y z := by
  have hz : z.cps.size = 0 := by have : z.length = z.cps.size := rfl; omega
  rw [len_join1, len_slice_all]
  unfold bodyLen
  rw [if_neg (fun h => absurd hz h.1), if_neg (by simpa using hc)]; rfl
end
set_option maxHeartbeats 8000000 in
theorem body_c (w : World) (x y z : PySem.Str) (t : Tok) : Ctr 2 w 58 [.str x t] [] (fun _ => (x.cps.size ≠ 0 ∧ x.cps.size ≤ 4 ∧ ∀ c ∈ x.cps.toList, c < 128) ∧ y = tr47 w.params x ∧ y.cps.size ≠ 0 ∧ y.length ≤ 12 ∧ Txt.lines y = [z] ∧ z.length ≤ 12 ∧ lastD z < 128)
    (fun h₀ L m news s Q => RetV h₀ L m news s Q (fun v => ∃ r t, v = .str r t ∧ r.length = bodyLen y z)) := by
  k_with_none
  k_with "subscriptTail" => (k_here; (with_reducible show wpAny _ _ (subscriptTail _ _ (Value.ref 17) (Value.int _ _)) _ _ _); k_dflt (refine' quote_item ?zFW ?zXW ?z1W ?_; (case zFW => k_asm); (case zXW => k_asm); (case z1W => assumption); intro y'w t'w hy'w))
  k_with "getMethod str" => ((with_reducible refine get_translate ?_))
  k_with "call builtin:str.translate" => (k_here; (with_reducible show wpAny _ _ (call (Value.builtin "str.translate") [Value.str _ _, Value.ref 47]) _ _ _); k_dflt (refine' translate47 ?zFW ?zXW ?z1W ?z2W ?z3W ?z4W ?_; (case zFW => k_asm); (case zXW => k_asm); (case z1W => assumption); (case z2W => assumption); (case z3W => assumption); (case z4W => assumption); intro t'w k'w))
  k_with "call builtin:str.splitlines" => (k_here; k_dflt (refine' split_one ?zFW ?zNW ?z1W ?z2W ?_; (case zFW => k_asm); (case zNW => k_asm); (case z1W => assumption); (case z2W => assumption); intro l'w h'w k'w t'w F'w N'w l1w; (try k_lt l1w); (try k_sweep)))
  k_with "subscriptTail" => (k_here; (with_reducible show wpAny _ _ (subscriptTail _ _ (Value.str _ _) (Value.int (-1) _)) _ _ _); refine item_last (by first | assumption | omega) ?_)
  k_with "subscriptTail Name UnaryOp str int" => (k_here; (with_reducible show wpAny _ _ (subscriptTail _ _ (Value.str _ _) (Value.int (-1) _)) _ _ _); refine item_last (by first | assumption | omega) ?_)
  k_with "compareOp In str str" => (first | refine in_blank ?_ | refine in_crlf ?_)
  k_with "WhlIf" => (first | (refine WhlIf.yes (decide_eq_true (by omega)) ?_) | (refine WhlIf.no (decide_eq_false (by omega)) ?_))
  k_with "call ref" => (k_here; (with_reducible show wpAny _ _ (call (Value.ref 37) [Value.str _ _]) _ _ _); k_dflt (refine' Ctr.use (quote_c _ _ _) ?k1W ?k2W ?k3W ?k4W ?k5W ?kKW ?kpW ?kdW ?kuW ?_; (case k1W => k_asm); (case k2W => k_asm); (case k3W => k_asm); (case k4W => k_asm); (case k5W => k_asm); (case kKW => first | exact rfl | assumption); (case kpW => assumption); (case kdW => ktr_room); (case kuW => ktr_units)); intro v9w h9w tk9w F9w N9w r9w; obtain ⟨y9w, t9w, e9w, l9w⟩ := r9w; subst e9w; (try dsimp only); (try k_fold))
  k_with "getAttr ref" => (k_here; (with_reducible show wpAny _ _ (getAttr (Value.ref _) (PySem.Str.ofString "append") _) _ _ _); k_dflt (refine' get_append ?zFW ?zNW ?zlW ?_; (case zFW => k_asm); (case zNW => k_asm); (case zlW => k_mem); intro q'w h'w k'w F'w N'w l1w; (try k_lt l1w); (try k_sweep)))
  k_with "call ref" => (k_here; (with_reducible show wpAny _ _ (call (Value.ref _) [_]) _ _ _); k_dflt (refine' call_bm ?zFW ?zNW ?zqW ?zUW ?_ ?zzW; (case zFW => k_asm); (case zNW => k_asm); (case zqW => k_mem); (case zUW => k_upd); (case zzW => size_fits); intro h'w F'w N'w; (try k_sweep)))
  k_with "pyIter ref" => ((with_reducible show wpAny _ _ (pyIter (Value.ref _)) (fun it s₂ => LoopAtV _ _ _ _ _ _ _ _ _ it s₂) _ _); k_dflt (refine' iter_one ?zhW ?zFW ?zNW ?zmW ?_; (case zhW => rfl); (case zFW => k_asm); (case zNW => k_asm); (case zmW => k_mem); intro i'w l1w; (try k_lt l1w)))
  k_with "UnrEnd" => (refine UnrEnd.intro (by k_asm) (by k_asm) _ (fun p hp => hp) (allLt_ne (by assumption)) ⟨by k_mem, ?_⟩)
  k_with "callWith ref" => (k_here; (with_reducible show wpAny _ _ (callWith _ (Value.ref _) _ (backTo _ (starEach (_ :: _) _)) []) _ _ _); k_dflt (refine' callWith_bm ?zNW ?zMW ?_; (case zNW => k_asm); (case zMW => k_mem); k_whole))
  k_with "And" => ((with_reducible show BmAt _ _ _ ∧ _); k_dflt (refine ⟨bmAt (by k_asm) (by k_mem), ?_⟩); (try dsimp only [List.nil_append, List.cons_append]))
  k_with "call builtin:str.join" => (k_here; k_dflt (refine' join_two ?zNW ?zMW ?z1W ?z2W ?z3W ?_; (case zNW => k_asm); (case zMW => k_mem); (case z1W => first | exact sl_le (by assumption) (by assumption) | exact sl_le' (by assumption)); (case z2W => (rw [len_no]; decide)); (case z3W => (rw [len_nl]; decide)); intro t'w k'w))
  w_top off
  unfold Ctr
  k_fill
  intro p loose mean mg mb news dp un gd cn cs a ccd cl outer A₀ base h₀ L m s Q E B F X N T hk hp hd hu hret
  dsimp only [List.cons_append, List.nil_append] at N
  obtain ⟨⟨hx0, hx4, hx⟩, hy, hy0, hy12, hz, hz12, hzl⟩ := hp
  have hxl : x.length ≤ 4 := hx4
  have hxl0 : x.length ≠ 0 := hx0
  have hyl0 : y.length ≠ 0 := hy0
  refine wpAny_call ?_
  k_dflt (refine' code_def ?k1 ?k2 ?k3 ?k4 ?k5 ?kA ?kF ?kK ?k6 ?k7 ?k8 ?k9 ?kB ?_ ?c2 ?c3 ?c4 ?c5; (case kA => exact rfl); (case kF => exact rfl); (case kK => assumption); (case k1 => k_asm); (case k2 => k_asm); (case k3 => k_asm); (case k4 => k_asm); (case k5 => k_asm); (case k6 => k_is); (case k7 => k_is); (case k8 => ktr_room); (case k9 => exact binds_K (by k_in) rfl (by k_is) rfl rfl rfl); (case c5 => decide); (case kB => exact locs rfl); (case c2 => exact rfl); (case c3 => exact rfl); (case c4 => exact rfl); k_whole; intro g' L' h' FG' F' N' B' X' T'; (try dsimp only); (try k_lift B'); (try k_fold))
  k_steps
  · exact retV_end hret (by k_asm) (by assumption) (fun p hp => by simp [hp]) ⟨_, _, rfl, bl_q2 (by assumption) (by assumption) (by assumption) (by assumption)⟩
  · exact retV_end hret (by k_asm) (by assumption) (fun p hp => by simp [hp]) ⟨_, _, rfl, bl_q1 (by assumption) (by assumption) (by assumption) (by assumption)⟩
  · exact retV_end hret (by k_asm) (by assumption) (fun p hp => by simp [hp]) ⟨_, _, rfl, bl_p2 (by assumption) (by assumption)⟩
  · exact retV_end hret (by k_asm) (by assumption) (fun p hp => by simp [hp]) ⟨_, _, rfl, bl_p1 (by assumption) (by assumption)⟩
  · exact retV_end hret (by k_asm) (by assumption) (fun p hp => by simp [hp]) ⟨_, _, rfl, bl_z2 (by assumption) (by assumption)⟩
  · exact retV_end hret (by k_asm) (by assumption) (fun p hp => by simp [hp]) ⟨_, _, rfl, bl_z1 (by assumption) (by assumption)⟩
  · have e : ((x.length : Nat) : Int) = 0 := by assumption
    exact absurd (by omega) hxl0
end Mine
end

section
open PySem PySem.W PySem.Spec PySem.Calls PyProof.Rows
set_option maxRecDepth 100000
namespace Mine
open LCg LCt
abbrev tupOf (its : Array Value) (n : Nat) : Obj := { cls := .type "tuple", data := .seq its n }
def SrcTT (prog : Program) (w : World) (A : Around) (h₀ : Heap) (L : Addr) (m : PySem.Str → Option Value) (env : Env) (ct elt : Expr) (x : PySem.Str) (scope : Scope) (cl : List (PySem.Str × Addr)) (Fin : Shared → List Value → List (Addr × Obj) → Prop) (xv : Value) (s₁ : Shared) : Prop :=
  ∃ ax its c news, xv = .ref ax ∧ A.handled = none ∧ Fr h₀ L s₁.heap m ∧ News h₀ L s₁.heap news ∧ (ax, tupOf its c) ∈ news ∧ its.size ≤ sizeLine ∧
    ∀ s₂ : Shared, (∃ h, s₂ = { s₁ with heap := h }) → CompRestT prog w A h₀ L m env ct elt x scope cl s₂ (fun nw => (ax, tupOf its c) ∈ nw) (fun i v => its[i]? = some v) (Fin s₂) its.size 0 [] news
/-- which fold a walk is to take -/
structure UseG (G : List Int → Int → List Int) : Prop where
structure UseF (g : Int → Int) : Prop where
section
variable {prog : Program} {w : World} {A : Around} {E : Value → Shared → Prop} {s : Shared} {h₀ : Heap} {L : Addr} {m : PySem.Str → Option Value} {env : Env}
theorem SrcTT.intro {ct elt : Expr} {x : PySem.Str} {scope : Scope} {cl : List (PySem.Str × Addr)} {Fin : Shared → List Value → List (Addr × Obj) → Prop} {ax : Addr} {its : Array Value} {c : Nat} {news : List (Addr × Obj)} {s₁ : Shared}
    (hh : A.handled = none) (F : Fr h₀ L s₁.heap m) (N : News h₀ L s₁.heap news) (hm : (ax, tupOf its c) ∈ news) (hsz : its.size ≤ sizeLine)
    (h : ∀ g, CompRestT prog w A h₀ L m env ct elt x scope cl { s₁ with heap := g } (fun nw => (ax, tupOf its c) ∈ nw) (fun i v => its[i]? = some v) (Fin { s₁ with heap := g }) its.size 0 [] news) :
    SrcTT prog w A h₀ L m env ct elt x scope cl Fin (.ref ax) s₁ := ⟨ax, its, c, news, rfl, hh, F, N, hm, hsz, fun _ ⟨g, e⟩ => e ▸ h g⟩
/-- the same over written ints, folded by G -/
theorem SrcTT.fold {ct elt : Expr} {x : PySem.Str} {scope : Scope} {cl : List (PySem.Str × Addr)} {Q : Value → Shared → Prop} {ax : Addr} {vs : List Value} {ns : List Int} {c : Nat} {news : List (Addr × Obj)} {s₁ : Shared} {G : List Int → Int → List Int} (_u : UseG G) (hg : KPfGrows G)
    (hh : A.handled = none) (F : Fr h₀ L s₁.heap m) (N : News h₀ L s₁.heap news) (hm : (ax, tupOf vs.toArray c) ∈ news) (hi : IntsAre vs ns) (hsz : ns.length ≤ 1000)
    (turn : ∀ k t I oI C oC D m₂ ys l h tk (E' : Value → Shared → Prop), LCg.NsObj oC m₂ → m₂ x = some (.int k t) → Fr h₀ L h m → News h₀ L h ((I, oI) :: (C, oC) :: (D, LCg.lst ys) :: news) → LCg.Off3 I C D news →
      wpAny (model prog w) A (isTrue ct (compEnvC scope cl C env) (eval ct (compEnvC scope cl C env))) (fun b s' => if b = true then wpAny (model prog w) A (eval elt (compEnvC scope cl C env)) (LCg.CompEnd h₀ L m { s₁ with heap := h, toks := tk } I oI C oC D (LCg.lst ys) (fun nw => (ax, tupOf vs.toArray c) ∈ nw) (fun y news' => KCiEl news l (G l k) y news')) E' s'
        else LCg.CompEnd h₀ L m { s₁ with heap := h, toks := tk } I oI C oC D (LCg.lst ys) (fun nw => (ax, tupOf vs.toArray c) ∈ nw) (fun _ news' => KCiNo news l (G l k) news') Value.none s') E' { s₁ with heap := h, toks := tk })
    (fin : ∀ ys, IntsAre ys (ns.foldl G []) → ys.length ≤ 1000 → ∀ D h tk, Fr h₀ L h m → News h₀ L h ((D, LCg.lst ys) :: news) → Off1 D news → Q (.ref D) { s₁ with heap := h, toks := tk }) :
    SrcTT prog w A h₀ L m env ct elt x scope cl (fun s₂ => FinE h₀ L m s₂ Q) (.ref ax) s₁ :=
  SrcTT.intro hh F N hm (by rw [List.size_toArray, hi.length, sizeLine_eq]; omega) fun g =>
    kci_rest (ks := ns) G (by rw [List.size_toArray]; exact hi.length.symm) (fun i v _ hv => by
      obtain ⟨k, t, e, hk⟩ := IntsAre.at hi i v (by simpa using hv)
      exact ⟨k, t, hk, e⟩) (fun k t I oI C oC D m₂ ys l h tk E' _ _ hC hx F' N' off _ _ => turn k t I oI C oC D m₂ ys l h tk E' hC hx F' N' off)
      (fun ys hy hl D h tk F' N' off => fin ys hy (by rw [List.size_toArray, hi.length] at hl; omega) D h tk F' N' off) hg
/-- a list made over a range, item by item g -/
theorem srcR {elt : Expr} {x : PySem.Str} {scope : Scope} {cl : List (PySem.Str × Addr)} {Q : Value → Shared → Prop} {r : Addr} {b : Int} {t u v : Tok} {n : Nat} {news : List (Addr × Obj)} {s₁ : Shared} {g : Int → Int} (_u : UseF g)
    (hh : A.handled = none) (F : Fr h₀ L s₁.heap m) (N : News h₀ L s₁.heap news) (hr : IsRange s₁.heap r 0 b 1 t u v) (hb : b = (n : Int)) (hsz : n ≤ 1000)
    (turn : ∀ k t I oI C oC D m₂ ys h tk (E' : Value → Shared → Prop), 0 ≤ k → k < (n : Int) → LCg.NsObj oC m₂ → m₂ x = some (.int k t) → Fr h₀ L h m → News h₀ L h ((I, oI) :: (C, oC) :: (D, LCg.lst ys) :: news) → LCg.Off3 I C D news →
      wpAny (model prog w) A (eval elt (compEnvC scope cl C env)) (LCg.CompEnd h₀ L m { s₁ with heap := h, toks := tk } I oI C oC D (LCg.lst ys) (fun _ => True) (fun y news' => KCfEl news (g k) y news')) E' { s₁ with heap := h, toks := tk })
    (fin : ∀ ys, IntsAre ys ((List.range n).map fun (i : Nat) => g (i : Int)) → ∀ D h tk, Fr h₀ L h m → News h₀ L h ((D, LCg.lst ys) :: news) → Off1 D news → Q (.ref D) { s₁ with heap := h, toks := tk }) :
    LCg.CompSrc prog w A h₀ L m env elt x scope cl (fun s₂ => FinE h₀ L m s₂ Q) (.ref r) s₁ := by
  subst hb
  refine LCg.CompSrc.range hh F N hr (small_one (by omega) (by omega) (by omega) (by omega)) (n := n) ?_ (by rw [sizeLine_eq]; omega) fun g' => ?_
  · rw [rangeSize_nat]; omega
  · refine kcf_range g (fun k t I oI C oC D m₂ ys h tk E' h1 h2 hC hx F' N' off _ _ => turn k t I oI C oC D m₂ ys h tk E' h1 (by omega) hC hx F' N' off) ?_
    intro ys hy D h tk F' N' off
    refine fin ys ?_ D h tk F' N' off
    have e : (rangeKs 0 n).map g = (List.range n).map fun (i : Nat) => g (i : Int) := by simp [rangeKs]
    rw [← e]; exact hy
theorem tup_st {ax I : Addr} {its : Array Value} {c : Nat} : ∀ i (h h' : Heap) (o : Obj) (nw : List (Addr × Obj)), (h.IsTupleIter I ax i ∧ h.IsTuple ax its) → h.get? I = some o → h'.get? I = some o → (∀ b o, h₀.get? b = some o → h'.get? b = some o) → News h₀ L h' nw → (ax, tupOf its c) ∈ nw → (h'.IsTupleIter I ax i ∧ h'.IsTuple ax its) :=
  fun i h h' o nw st e e' k N S => ⟨by obtain ⟨o', q, r⟩ := st.1; rw [e] at q; cases q; exact ⟨o, e', r⟩, ⟨_, (N _ S).1, rfl, c, rfl⟩⟩
/-- a list made over a written tuple, with a test -/
theorem ListComp_TT {ct elt iter : Expr} {x : PySem.Str} {px : Pos} {scope : Scope} {cl : List (PySem.Str × Addr)} {pos : Pos} {Q : Value → Shared → Prop} (_F₀ : Fr h₀ L s.heap m)
    (hclos : closureFor scope env = pure cl) (hcell : ∀ y ∈ scope.names, y.2 ≠ .cell) (hkind : scope.kind = .function)
    (hnames : ∀ y ∈ scope.names, y.2 = .local → scope.names.lookup y.1 = some .local) (hx : scope.names.lookup x = some .local)
    (h : wpAny (model prog w) A (eval iter env) (SrcTT prog w A h₀ L m env ct elt x scope cl (fun s₂ => FinE h₀ L m s₂ Q)) E s)
    (hs : ∀ x, foldedSetIterable iter env x = pure x := by intro _; rfl) :
    wpAny (model prog w) A (eval (.ListComp elt [⟨.Name x px, iter, [ct], 0⟩] scope pos) env) Q E s := by
  rw [eval_ListComp]
  refine wpAny_comprehension_free (use := none) rfl hs hclos hkind hnames (wpAny_mono h (fun xv s₁ h₁ => ?_) fun _ _ e => e)
  rcases h₁ with ⟨ax, its, c, news, rfl, hh, F, N, S, hsz, R⟩
  have hl : s₁.heap.IsTuple ax its := ⟨_, (N _ S).1, rfl, c, rfl⟩
  have hlt : ax < s₁.heap.objs.size := Heap.lt_size (N _ S).1
  refine wpAny_pyIter_tuple hl ?_
  have up : ∀ b o, s₁.heap.get? b = some o → (s₁.heap.push { cls := .type "tuple_iterator", data := .fields #[.ref ax, .int 0 0] }).get? b = some o := fun b o e => Heap.get?_push_of_some _ e
  refine block_T (Walks.tuple hh s₁.heap.objs.size ax (Nat.ne_of_lt hlt) its) hsz (fun i h st => by obtain ⟨o, e, _⟩ := st.1; exact ⟨o, e⟩) tup_st hcell hkind hx ⟨⟨_, Heap.get?_push_size _ rfl, rfl, rfl⟩, hl.push _⟩ (fun b hb => ?_)
    (F.keeps up) (N.grown up) (Nat.ne_of_lt F.ns.lt) (next_is_new F) (fun p hp => Nat.ne_of_lt (Heap.lt_size (N p hp).1)) S (R _ ⟨_, rfl⟩) ?_
  · show b < (s₁.heap.push _).objs.size
    rw [Heap.size_push]
    rcases List.mem_cons.mp hb with rfl | hb
    · exact Nat.lt_succ_self _
    · rw [List.mem_singleton.mp hb]; exact Nat.lt_succ_of_lt hlt
  · intro D C h tk m' ys news' F' N' o1 hn hC₀ hD₀ hCL hDL hCD offC fin
    refine ⟨m', hn, fun h'' hs'' => fin D h'' tk (F'.change hs'' hCL hC₀) (fun p hp => ?_) o1⟩
    refine ⟨hs''.extBut _ _ ?_ (N' p hp).1, (N' p hp).2⟩
    rcases List.mem_cons.mp hp with rfl | hp
    · exact Ne.symm hCD
    · exact offC p hp
end
end Mine
end

section
open PySem PySem.W PySem.Spec PySem.Calls PyProof.Rows
set_option maxRecDepth 100000
namespace Mine
open LCg LCt
theorem mnmx (c e : Int) : (if c < if 0 > e then 0 else e then c else if 0 > e then 0 else e) = min (max e 0) c := by
  by_cases h : 0 > e
  · rw [if_pos h]; by_cases h2 : c < 0
    · rw [if_pos h2]; omega
    · rw [if_neg h2]; omega
  · rw [if_neg h]; by_cases h2 : c < e
    · rw [if_pos h2]; omega
    · rw [if_neg h2]; omega
theorem bl_ff (d : Int) : (if 26 < if 0 > d - 1 then 0 else d - 1 then 26 else if 0 > d - 1 then 0 else d - 1) + (if 26 < if 0 > d - 33 then 0 else d - 33 then 26 else if 0 > d - 33 then 0 else d - 33) = blw d false false := by
  rw [mnmx, mnmx]; rfl
theorem bl_ft (d : Int) : (if 63 < d then 63 else d) = blw d false true := by
  show _ = min d 63
  by_cases h : 63 < d
  · rw [if_pos h]; omega
  · rw [if_neg h]; omega
theorem bl_tf (d : Int) : ((([32, 33, 42, 43, 45, 47] : List Int).filter (fun k => decide (k < d))).length : Int) + (if 10 < if 0 > d - 48 then 0 else d - 48 then 10 else if 0 > d - 48 then 0 else d - 48) = blw d true false := by
  rw [mnmx]; rfl
theorem bl_tt (d : Int) : ((([10, 13, 62, 63] : List Int).filter (fun k => decide (k < d))).length : Int) + (if 28 < if 0 > d - 33 then 0 else d - 33 then 28 else if 0 > d - 33 then 0 else d - 33) = blw d true true := by
  rw [mnmx]; rfl
theorem flt_le (l : List Int) (d : Int) : (l.filter (fun k => decide (k < d))).length ≤ l.length := List.length_filter_le _ _
theorem blw_bnd (d : Int) (last body : Bool) (h : 0 ≤ d) : 0 ≤ blw d last body ∧ blw d last body ≤ 63 := by
  unfold blw
  cases last <;> cases body <;> simp only [Bool.and_true, Bool.and_false, Bool.and_self, Bool.false_eq_true, if_true, if_false]
  · omega
  · omega
  · have := flt_le [32, 33, 42, 43, 45, 47] d; simp only [List.length_cons, List.length_nil] at this; omega
  · have := flt_le [10, 13, 62, 63] d; simp only [List.length_cons, List.length_nil] at this; omega
/-- the fold of a test -/
theorem flt_fold (d : Int) (ks : List Int) : ∀ l, ks.foldl (fun l k => if k < d then l ++ [k] else l) l = l ++ ks.filter (fun k => decide (k < d)) := by
  induction ks with
  | nil => intro l; simp
  | cons k ks ih => intro l; rw [List.foldl_cons, ih, List.filter_cons]; by_cases h : k < d <;> simp [h]
theorem flt_grows (d : Int) : KPfGrows (fun l k => if k < d then l ++ [k] else l) := by
  intro l k
  dsimp only
  split <;> simp
theorem fi_yes {news : List (Addr × Obj)} {l : List Int} {d k : Int} {t : Tok} (h : decide (k < d) = true) : KCiEl news l (if k < d then l ++ [k] else l) (.int k t) news := kci_el (if_pos (of_decide_eq_true h)) rfl rfl
theorem fi_no {news : List (Addr × Obj)} {l : List Int} {d k : Int} (h : decide (k < d) = false) : KCiNo news l (if k < d then l ++ [k] else l) news := kci_no (if_neg (of_decide_eq_false h)) rfl
theorem len_flt {prog : Program} {w : World} {A : Around} {E : Value → Shared → Prop} {s : Shared} {h₀ : Heap} {L l : Addr} {news : List (Addr × Obj)} {us : List Value} {ks : List Int} {d : Int} {Q : Value → Shared → Prop} (N : News h₀ L s.heap news) (hm : (l, LCg.lst us) ∈ news)
    (hi : IntsAre us (ks.foldl (fun l k => if k < d then l ++ [k] else l) [])) (hl : us.length ≤ 1000) (h : ∀ t k, Q (.int ((ks.filter (fun k => decide (k < d))).length : Nat) t) { s with toks := k }) :
    wpAny (model prog w) A (call (.builtin "len") [.ref l]) Q E s := by
  have e : us.length = (ks.filter (fun k => decide (k < d))).length := by rw [hi.length, flt_fold]; simp
  exact kst_len (c := us.length) N hm e (by omega) (by first | exact fun t k => h t k | exact h _ _)
set_option maxHeartbeats 8000000 in
theorem below_c (w : World) (d : Int) (td : Tok) (last body : Bool) : Ctr 1 w 77 [.int d td, .bool last, .bool body] [] (fun _ => 0 ≤ d ∧ d ≤ 1000) (fun h₀ L m news s Q => RetV h₀ L m news s Q (fun v => ∃ t, v = .int (blw d last body) t ∧ 0 ≤ blw d last body ∧ blw d last body ≤ 63)) := by
  k_with_none
  k_with "eval ListComp" => (k_here; k_dflt (refine ListComp_TT (by k_asm) (by with_unfolding_all rfl) (by decide) (by rfl) (by decide) (by rfl) ?_))
  k_with "SrcTT" => (k_dflt (refine' SrcTT.fold (vs := [_, _, _, _]) (by assumption) (flt_grows _) ?zhW ?zFW ?zNW ?zmW ?ziW ?zsW (fun k'w t'w I'w o'w C'w p'w D'w m'w y'w l'w h'w q'w E'w hC'w hx'w F'w N'w off'w => ?_) (fun y'w hy'w hl'w D'w h'w k'w F'w N'w off'w => ?_); (case zhW => rfl); (case zFW => k_asm); (case zNW => k_asm); (case zmW => k_mem); (case ziW => exact (.cons _ _ (.cons _ _ (.cons _ _ (.cons _ _ .nil))))); (case zsW => decide)))
  k_with "SrcTT" => (k_dflt (refine' SrcTT.fold (vs := [_, _, _, _, _, _]) (by assumption) (flt_grows _) ?zhW ?zFW ?zNW ?zmW ?ziW ?zsW (fun k'w t'w I'w o'w C'w p'w D'w m'w y'w l'w h'w q'w E'w hC'w hx'w F'w N'w off'w => ?_) (fun y'w hy'w hl'w D'w h'w k'w F'w N'w off'w => ?_); (case zhW => rfl); (case zFW => k_asm); (case zNW => k_asm); (case zmW => k_mem); (case ziW => exact (.cons _ _ (.cons _ _ (.cons _ _ (.cons _ _ (.cons _ _ (.cons _ _ .nil))))))); (case zsW => decide)))
  k_with "CompEnd" => (refine LCg.CompEnd.intro (by k_asm) (by k_asm) _ (fun p hp => hp) (by assumption) (by k_mem) ?_)
  k_with "KCiEl" => (exact fi_yes (by first | assumption | exact decide_eq_true (by omega)))
  k_with "KCiNo" => (exact fi_no (by first | assumption | exact decide_eq_false (by omega)))
  k_with "call builtin:len" => (k_here; k_dflt (refine len_flt (by k_asm) (by k_mem) (by assumption) (by assumption) (fun t'w k'w => ?_)))
  w_top off
  unfold Ctr
  k_fill
  intro p loose mean mg mb news dp un gd cn cs a ccd cl outer A₀ base h₀ L m s Q E B F X N T hk hp hd hu hret
  dsimp only [List.cons_append, List.nil_append] at N
  obtain ⟨hd0, hd1⟩ := hp
  have hG : UseG (fun l k => if k < d then l ++ [k] else l) := UseG.mk
  cases last <;> cases body
  all_goals refine wpAny_call ?_
  all_goals k_dflt (refine' code_defC ?k1 ?k2 ?k3 ?k4 ?k5 ?kA ?kF ?kK ?k6 ?k7 ?k8 ?k9 ?kB ?kD ?_ ?c2 ?c3 ?c4; (case kA => exact rfl); (case kF => exact rfl); (case kK => assumption); (case k1 => k_asm); (case k2 => k_asm); (case k3 => k_asm); (case k4 => k_asm); (case k5 => k_asm); (case k6 => k_is); (case k7 => k_is); (case k8 => ktr_room); (case k9 => exact BindsTo.of_eq rfl); (case kB => exact rfl); (case kD => decide +kernel); (case c2 => exact rfl); (case c3 => exact rfl); (case c4 => exact rfl); k_whole; intro g' L' h' tk' cells' FG' F' N' Y' B' X' T' l1; (try k_lt l1); k_cells Y'; (try simp only [List.cons_append, List.nil_append] at N'); (try dsimp only); (try k_lift B'); (try k_fold))
  all_goals k_steps
  · exact retV_end hret (by k_asm) (by assumption) (fun p hp => by simp [hp]) ⟨_, congrArg (Value.int · _) (bl_ff d), blw_bnd d _ _ hd0⟩
  · exact retV_end hret (by k_asm) (by assumption) (fun p hp => by simp [hp]) ⟨_, congrArg (Value.int · _) (bl_ft d), blw_bnd d _ _ hd0⟩
  · exact retV_end hret (by k_asm) (by assumption) (fun p hp => by simp [hp]) ⟨_, congrArg (Value.int · _) (bl_tf d), blw_bnd d _ _ hd0⟩
  · exact retV_end hret (by k_asm) (by assumption) (fun p hp => by simp [hp]) ⟨_, congrArg (Value.int · _) (bl_tt d), blw_bnd d _ _ hd0⟩
end Mine
end

section
open PySem PySem.W PySem.Spec PySem.Calls PyProof.Rows
set_option maxRecDepth 100000
namespace Mine
local macro_rules | `(tactic| k_mem) => `(tactic| k_extra "k_mem")
open LCg LCt
section
variable {prog : Program} {w : World} {A : Around} {E : Value → Shared → Prop} {s : Shared} {h₀ : Heap} {L r : Addr} {m : PySem.Str → Option Value} {news : List (Addr × Obj)} {Q : Value → Shared → Prop} {vs : List Value} {ns : List Int} {c : Nat} {k a b : Int} {t u : Tok}
/-- an item of a list of ints -/
theorem item_L {value slice : Expr} (N : News h₀ L s.heap news) (hm : (r, listOf vs.toArray c) ∈ news) (hi : IntsAre vs ns) (h0 : 0 ≤ k) (h1 : k < (ns.length : Int)) (h2 : k < 1000) (h : ∀ t, Q (.int (ns.getD k.toNat 0) t) s)
    (hs : subscripted slice false (.ref r) (.int k u) = operate [.ref r, .int k u] (getItem (.ref r) (.int k u)) := by with_unfolding_all rfl) :
    wpAny (model prog w) A (subscriptTail value slice (.ref r) (.int k u)) Q E s := by
  have hl : s.heap.IsList r vs.toArray := ⟨_, (N _ hm).1, rfl, c, rfl⟩
  have hlt : k.toNat < ns.length := by omega
  obtain ⟨t', e⟩ := hi.get k.toNat (ns.getD k.toNat 0) (by simp [List.getD, hlt])
  exact tail_any hl.typeIs slot_list_getitem.lookup (wpAny_getItem_list hl h0 (by omega) (by simpa using e) (h t')) hs
theorem len13 (N : News h₀ L s.heap news) (hm : (r, listOf vs.toArray c) ∈ news) (hi : IntsAre vs ns) (hl : ns.length = 13) (h : ∀ t k, Q (.int 13 t) { s with toks := k }) : wpAny (model prog w) A (call (.builtin "len") [.ref r]) Q E s :=
  kst_len N hm (k := 13) (by rw [hi.length, hl]) (by decide) (h _ _)
theorem mul_small (ha : a.natAbs < 2 ^ 64) (h : Q (.int (a * b) s.toks) { s with toks := s.toks + 1 }) : wpAny (model prog w) A (binaryOp .Mult (.int a t) (.int b u)) Q E s :=
  PyProof.Rows.mul_int h (IntMulOk.of_left (intBits_le_iff.mpr ha))
end
/-- an item of the next row -/
def moreG (row : List Int) (p e k : Int) : Int := (if 0 < k then p * row.getD (k - 1).toNat 0 else 0) + (if 2 < k then e * row.getD (k - 3).toNat 0 else 0)
theorem moreG_eq (row : List Int) (p e : Int) : ((List.range row.length).map fun (i : Nat) => moreG row p e (i : Int)) = moreL row p e := by
  unfold moreL moreG
  refine List.map_congr_left fun k _ => ?_
  rw [show ((k : Int) - 1).toNat = k - 1 by omega, show ((k : Int) - 3).toNat = k - 3 by omega]
  have e1 : ((0 : Int) < (k : Int)) = (0 < k) := by simp
  have e2 : ((2 : Int) < (k : Int)) = (2 < k) := by
    apply propext; omega
  simp only [e1, e2]
section
variable {news : List (Addr × Obj)} {row : List Int} {p e k : Int} {t : Tok}
theorem mg_b (h1 : 0 < k) (h2 : 2 < k) : KCfEl news (moreG row p e k) (.int (p * row.getD (k - 1).toNat 0 + e * row.getD (k - 3).toNat 0) t) news := kcf_el (by unfold moreG; rw [if_pos h1, if_pos h2]) rfl rfl
theorem mg_a (h1 : 0 < k) (h2 : ¬ 2 < k) : KCfEl news (moreG row p e k) (.int (p * row.getD (k - 1).toNat 0 + 0) t) news := kcf_el (by unfold moreG; rw [if_pos h1, if_neg h2]) rfl rfl
theorem mg_z (h1 : ¬ 0 < k) : KCfEl news (moreG row p e k) (.int (0 + 0) t) news := kcf_el (by unfold moreG; rw [if_neg h1, if_neg (by omega)]) rfl rfl
end
set_option maxHeartbeats 8000000 in
theorem more_c (w : World) (r : Addr) (vs : List Value) (c : Nat) (row : List Int) (pl es : Int) (tp te : Tok) (hi : IntsAre vs row) : Ctr 1 w 82 [.ref r, .int pl tp, .int es te] [] (fun news => (-1000 ≤ pl ∧ pl ≤ 1000) ∧ (-1000 ≤ es ∧ es ≤ 1000) ∧ row.length = 13 ∧ (r, listOf vs.toArray c) ∈ news) (fun h₀ L m news s Q => RetL h₀ L m news s Q (moreL row pl es)) := by
  k_with_none
  k_with "k_mem" => (first | exact List.mem_cons_of_mem _ (List.mem_cons_of_mem _ (List.mem_cons_of_mem _ (List.mem_cons_of_mem _ (List.mem_cons_of_mem _ (List.mem_cons_of_mem _ (List.mem_cons_of_mem _ (List.mem_cons_of_mem _ (by assumption)))))))) | exact List.mem_cons_of_mem _ (List.mem_cons_of_mem _ (List.mem_cons_of_mem _ (List.mem_cons_of_mem _ (List.mem_cons_of_mem _ (List.mem_cons_of_mem _ (by assumption)))))) | exact List.mem_cons_of_mem _ (List.mem_cons_of_mem _ (List.mem_cons_of_mem _ (List.mem_cons_of_mem _ (by assumption)))) | exact List.mem_cons_of_mem _ (List.mem_cons_of_mem _ (List.mem_cons_of_mem _ (by assumption))))
  k_with "eval ListComp" => (k_here; k_dflt (refine LCg.ListComp_U (F₀ := by k_asm) (by with_unfolding_all rfl) (by decide) (by rfl) (by decide) (by rfl) ?_))
  k_with "CompSrc" => (k_here; k_dflt (refine' srcR (n := 13) (by assumption) ?zhW ?zFW ?zNW ?zrW ?zbW ?zsW (fun k'w t'w I'w o'w C'w p'w D'w m'w y'w h'w q'w E'w hlo'w hhi'w hC'w hx'w F'w N'w off'w => ?_) (fun y'w hy'w D'w h'w k'w F'w N'w off'w => ?_); (case zhW => rfl); (case zFW => k_asm); (case zNW => k_asm); (case zrW => assumption); (case zbW => first | rfl | (simp; omega) | omega); (case zsW => decide)))
  k_with "CompEnd" => (refine LCg.CompEnd.intro (by k_asm) (by k_asm) _ (fun p hp => hp) (by assumption) True.intro ?_)
  k_with "subscriptTail" => (k_here; (with_reducible show wpAny _ _ (subscriptTail _ _ (Value.ref _) (Value.int _ _)) _ _ _); k_dflt (refine' item_L ?zNW ?zmW ?ziW ?z0W ?z1W ?z2W (fun t'w => ?_); (case zNW => k_asm); (case zmW => k_mem); (case ziW => assumption); (case z0W => omega); (case z1W => omega); (case z2W => omega)))
  k_with "binaryOp Mult int int" => (refine mul_small (by omega) ?_)
  k_with "call builtin:len" => (k_here; k_dflt (refine' len13 ?zNW ?zmW ?ziW ?zlW (fun t'w k'w => ?_); (case zNW => k_asm); (case zmW => k_mem); (case ziW => assumption); (case zlW => assumption)))
  w_top off
  unfold Ctr
  k_fill
  intro p loose mean mg mb news dp un gd cn cs a ccd cl outer A₀ base h₀ L m s Q E B F X N T hk hp hd hu hret
  dsimp only [List.cons_append, List.nil_append] at N
  obtain ⟨⟨hp0, hp1⟩, ⟨he0, he1⟩, hlen, hmem⟩ := hp
  have hG : UseF (moreG row pl es) := UseF.mk
  refine wpAny_call ?_
  k_dflt (refine' code_defC ?k1 ?k2 ?k3 ?k4 ?k5 ?kA ?kF ?kK ?k6 ?k7 ?k8 ?k9 ?kB ?kD ?_ ?c2 ?c3 ?c4; (case kA => exact rfl); (case kF => exact rfl); (case kK => assumption); (case k1 => k_asm); (case k2 => k_asm); (case k3 => k_asm); (case k4 => k_asm); (case k5 => k_asm); (case k6 => k_is); (case k7 => k_is); (case k8 => ktr_room); (case k9 => exact BindsTo.of_eq rfl); (case kB => exact rfl); (case kD => decide +kernel); (case c2 => exact rfl); (case c3 => exact rfl); (case c4 => exact rfl); k_whole; intro g' L' h' tk' cells' FG' F' N' Y' B' X' T' l1; (try k_lt l1); k_cells Y'; (try simp only [List.cons_append, List.nil_append] at N'); (try dsimp only); (try k_lift B'); (try k_fold))
  k_steps
  · exact mg_b (by assumption) (by assumption)
  · exact mg_a (by assumption) (by assumption)
  · exact mg_z (by assumption)
  · rename LCg.Off1 _ _ => off9
    rename IntsAre _ _ => hy9
    have e9 := moreG_eq row pl es
    rw [hlen] at e9
    rw [e9] at hy9
    exact retL_end hret (by k_asm) (by assumption) (.head _) (fun p hp => by simp [hp]) off9.2.2.2 hy9
end Mine
end

section
open PySem PySem.W PySem.Spec PySem.Calls PyProof.Rows
set_option maxRecDepth 100000
namespace Mine
/-- the entry of d taken out of a ledger -/
inductive Rem (d : Addr) (o : Obj) : List (Addr × Obj) → List (Addr × Obj) → Prop
  | head {r} : (∀ p ∈ r, p.1 ≠ d) → Rem d o ((d, o) :: r) r
  | tail {p r r'} : p.1 ≠ d → Rem d o r r' → Rem d o (p :: r) (p :: r')
theorem Rem.mem {d : Addr} {o : Obj} {l r : List (Addr × Obj)} (h : Rem d o l r) : (d, o) ∈ l := by
  induction h with
  | head _ => exact List.mem_cons_self
  | tail _ _ ih => exact List.mem_cons_of_mem _ ih
theorem Rem.sub {d : Addr} {o : Obj} {l r : List (Addr × Obj)} (h : Rem d o l r) : ∀ p ∈ r, p ∈ l := by
  induction h with
  | head _ => exact fun p hp => List.mem_cons_of_mem _ hp
  | tail _ _ ih => exact fun p hp => (List.mem_cons.mp hp).elim (fun e => e ▸ List.mem_cons_self) fun h => List.mem_cons_of_mem _ (ih p h)
theorem Rem.off {d : Addr} {o : Obj} {l r : List (Addr × Obj)} (h : Rem d o l r) : ∀ p ∈ r, p.1 ≠ d := by
  induction h with
  | head h => exact h
  | tail h1 _ ih => exact fun p hp => (List.mem_cons.mp hp).elim (fun e => e ▸ h1) (ih p)
section
variable {prog : Program} {w : World} {A : Around} {E : Value → Shared → Prop} {s : Shared} {env : Env} {h₀ : Heap} {x : PySem.Str} {body : List Stmt} {Q : Flow → Shared → Prop}
/-- what a turn leaves -/
def TurnJ (x : PySem.Str) (st : List PySem.Str) (m₀ : PySem.Str → Option Value) (J : List (Addr × Obj) → Prop) (m' : PySem.Str → Option Value) (news' : List (Addr × Obj)) : Prop := (∀ z, z ≠ x → st.contains z = false → m' z = m₀ z) ∧ J news'
/-- a loop over a range, by what holds of its ledger -/
theorem range_go {r : Addr} {a b c : Int} {t₀ u₀ v₀ : Tok} {n : Nat} {m₀ : PySem.Str → Option Value} {led : List (Addr × Obj)} (st : List PySem.Str) (J : Addr → Nat → List (Addr × Obj) → Prop)
    (hh : A.handled = none) (hr : IsRange s.heap r a b c t₀ u₀ v₀) (hsm : Builtin.Range.small a b c = true) (hn : Builtin.Range.rangeSize a b c = (n : Int)) (F : Fr h₀ env.locals s.heap m₀) (N : News h₀ env.locals s.heap led)
    (start : ∀ I : Addr, (∀ p ∈ led, p.1 < I) → ∃ news, J I 0 news ∧ ∀ p ∈ news, p ∈ led)
    (turn : ∀ (I : Addr) (it : Obj) (i : Nat) (u : PySem.Str → Option Value) (news₁ : List (Addr × Obj)) (t : Tok) (h : Heap) (tk : Nat), i < n → J I i news₁ → Fr h₀ env.locals h (fun y => if y = x then some (.int (a + (i : Int) * c) t) else if st.contains y then u y else m₀ y) → News h₀ env.locals h ((I, it) :: news₁) →
      wpAny (model prog w) A (execs body env) (UnrPost h₀ env.locals { s with heap := h, toks := tk } I it (TurnJ x st m₀ (J I (i + 1))) Q) E { s with heap := h, toks := tk })
    (done : ∀ (I : Addr) (u : PySem.Str → Option Value) (news₁ : List (Addr × Obj)) (h : Heap) (tk : Nat), J I n news₁ → Fr h₀ env.locals h (fun y => if y = x then u y else if st.contains y then u y else m₀ y) → News h₀ env.locals h news₁ → Q .next { s with heap := h, toks := tk }) :
    wpAny (model prog w) A (pyIter (.ref r)) (fun it s₂ => LoopAtV prog w A h₀ env x body Q E it s₂) E s := by
  refine krs_iter hh hr hsm hn F N fun I hI => ?_
  have form : ∀ (m₁ : PySem.Str → Option Value), (∀ z, z ≠ x → st.contains z = false → m₁ z = m₀ z) → m₁ = fun y => if y = x then m₁ y else if st.contains y then m₁ y else m₀ y := by
    intro m₁ hm
    funext y
    by_cases h1 : y = x
    · rw [if_pos h1]
    · rw [if_neg h1]
      cases h2 : st.contains y with
      | true => simp
      | false => simp only [Bool.false_eq_true, if_false]; exact hm y h1 h2
  have key : ∀ (k i : Nat) (m₁ : PySem.Str → Option Value) (led₁ news₁ : List (Addr × Obj)), k + i = n → (∀ z, z ≠ x → st.contains z = false → m₁ z = m₀ z) → J I i news₁ → (∀ p ∈ news₁, p ∈ led₁) →
      KrsRest prog w A E h₀ env x body Q s I a c n k i m₁ led₁ := by
    intro k
    induction k with
    | zero =>
      intro i m₁ led₁ news₁ hk hm hJ hs h tk F' N'
      obtain rfl : i = n := by omega
      exact done I m₁ news₁ h tk hJ (by rw [← form m₁ hm]; exact F') fun p hp => N' p (hs p hp)
    | succ k ih =>
      intro i m₁ led₁ news₁ hk hm hJ hs t h tk F' N'
      have e : (fun y => if y = x then some (Value.int (a + (i : Int) * c) t) else m₁ y) = fun y => if y = x then some (Value.int (a + (i : Int) * c) t) else if st.contains y then m₁ y else m₀ y := by
        funext y
        by_cases h1 : y = x
        · rw [if_pos h1, if_pos h1]
        · rw [if_neg h1, if_neg h1]
          cases h2 : st.contains y with
          | true => simp
          | false => simp only [Bool.false_eq_true, if_false]; exact hm y h1 h2
      rw [e] at F'
      refine wpAny_mono (turn I _ i m₁ news₁ t h tk (by omega) hJ F' (fun p hp => N' p ((List.mem_cons.mp hp).elim (fun e => e ▸ List.mem_cons_self) fun hq => List.mem_cons_of_mem _ (hs p hq)))) (fun f s₂ p => ?_) fun _ _ e => e
      have up : ∀ {s₂}, UnrEnd h₀ env.locals { s with heap := h, toks := tk } I (krsIt (a + ((i + 1 : Nat) : Int) * c) ((n : Int) - ((i + 1 : Nat) : Int)) c) (TurnJ x st m₀ (J I (i + 1))) s₂ →
          UnrEnd h₀ env.locals { s with heap := h, toks := tk } I (krsIt (a + ((i + 1 : Nat) : Int) * c) ((n : Int) - ((i + 1 : Nat) : Int)) c) (KrsRest prog w A E h₀ env x body Q s I a c n k (i + 1)) s₂ := by
        rintro s₂ ⟨h', tk', m', news', e, F₂, N₂, off, hm', hJ'⟩
        exact ⟨h', tk', m', news', e, F₂, N₂, off, ih (i + 1) m' news' news' (by omega) hm' hJ' fun p hp => hp⟩
      cases f with
      | ret v => exact p
      | brk => exact p
      | next => exact up p
      | cont => exact up p
  obtain ⟨news, hJ, hs⟩ := start I hI
  exact key n 0 m₀ led news (by omega) (fun _ _ _ => rfl) hJ hs
end
end Mine
end

section
open PySem PySem.W PySem.Spec PySem.Calls PyProof.Rows
set_option maxRecDepth 100000
namespace Mine
open LCg LCt
/-! ## the counts: what the three loops hold -/
def topOf (ds : List Int) (i : Nat) : List Int := if i + 1 = ds.length then ds else [64]
def toldO (body : Bool) (ds : List Int) (i : Nat) : List Int := if i < ds.length then fullL body i else countsL body ds
theorem out_step (body : Bool) (ds : List Int) (i : Nat) (hi : i < ds.length) : topL body (i + 1) 0 (topOf ds i) (toldO body ds i) 0 = toldO body ds (i + 1) := by
  unfold topOf toldO
  rw [if_pos hi]
  by_cases h : i + 1 = ds.length
  · rw [if_pos h, if_neg (by omega)]
    unfold countsL
    rw [h, ← h, Nat.add_sub_cancel]
  · rw [if_neg h, if_pos (by omega)]; rfl
theorem toldO_zero (body : Bool) (ds : List Int) (h : ds ≠ []) : toldO body ds 0 = List.replicate 13 0 := by
  unfold toldO
  rw [if_pos (by cases ds with | nil => exact absurd rfl h | cons _ _ => simp)]; rfl
theorem len_fullL (body : Bool) : ∀ s, (fullL body s).length = 13
  | 0 => by simp [fullL]
  | s + 1 => by rw [fullL]; exact len_topL _ _ _ _ _ _ (len_fullL body s)
theorem len_toldO (body : Bool) (ds : List Int) (i : Nat) : (toldO body ds i).length = 13 := by
  unfold toldO
  split
  · exact len_fullL _ _
  · unfold countsL; exact len_topL _ _ _ _ _ _ (len_fullL _ _)
/-- two addresses differ (kept from omega's sight) -/
structure NeF (a b : Nat) : Prop where
  ne : a ≠ b
theorem off1_sub {d : Nat} {l : List (Addr × Obj)} (h : LCg.Off1 d l) : ∀ {r : List (Addr × Obj)}, (∀ p ∈ r, p ∈ l) → LCg.Off1 d r
  | [], _ => True.intro
  | p :: r, hs => ⟨by
      have : ∀ {l : List (Addr × Obj)}, LCg.Off1 d l → ∀ p ∈ l, @Ne Nat p.1 d := by
        intro l
        induction l with
        | nil => exact fun _ _ h => nomatch h
        | cons q l ih => exact fun x p hp => (List.mem_cons.mp hp).elim (fun e => e ▸ x.1) (ih x.2 p)
      exact this h p (hs p List.mem_cons_self), off1_sub h fun q hq => hs q (List.mem_cons_of_mem _ hq)⟩
structure UseB (b : Bool) : Prop where
structure UseI (v : Int) : Prop where
structure UseT (l : List Int) : Prop where
structure UseN (n : Nat) : Prop where
def leastI (k size : Int) : Int := if k = 0 ∧ 1 < size then 1 else 0
abbrev ledC (L : Nat) (oT oS oR : Obj) (ta : Nat) (tv : List Value) (tc : Nat) (rest : List (Addr × Obj)) : List (Addr × Obj) := (L + 1, oT) :: (L + 1 + 1, oS) :: (L + 1 + 1 + 1, oR) :: (ta, listOf tv.toArray tc) :: rest
/-- the outer loop's ledger -/
def OutJ (body : Bool) (ds : List Int) (L : Nat) (nw rest : List (Addr × Obj)) (I : Nat) (i : Nat) (news : List (Addr × Obj)) : Prop :=
  ∃ (oT oS oR : Obj) (ta : Nat) (tv : List Value) (tc : Nat) (vS vR : Option Value), news = ledC L oT oS oR ta tv tc rest ∧ oT.data = .cell (some (.ref ta)) ∧ oS.data = .cell vS ∧ oR.data = .cell vR ∧ IntsAre tv (toldO body ds i) ∧ LCg.Off1 ta nw ∧
    (NeF ta (L + 1) ∧ NeF ta (L + 1 + 1) ∧ NeF ta (L + 1 + 1 + 1) ∧ NeF ta I) ∧ (L + 1 + 1 + 1 < I ∧ AllLt I rest)
/-- the middle loop's -/
def MidJ (body : Bool) (size : Nat) (top fin : List Int) (L : Nat) (nw rest : List (Addr × Obj)) (I : Nat) (k : Nat) (news : List (Addr × Obj)) : Prop :=
  ∃ (oT oS oR : Obj) (ta : Nat) (tv : List Value) (tc : Nat) (vR : Option Value) (told : List Int) (signs : Int) (ts : Tok), news = ledC L oT oS oR ta tv tc rest ∧ oT.data = .cell (some (.ref ta)) ∧ oS.data = .cell (some (.int signs ts)) ∧ oR.data = .cell vR ∧ IntsAre tv told ∧ told.length = 13 ∧
    topL body size k (top.drop k) told signs = fin ∧ LCg.Off1 ta nw ∧ (NeF ta (L + 1) ∧ NeF ta (L + 1 + 1) ∧ NeF ta (L + 1 + 1 + 1) ∧ NeF ta I) ∧ (L + 1 + 1 + 1 < I ∧ AllLt I rest)
/-- the inner loop's -/
def FreeJ (body : Bool) (n : Nat) (fin : List Int) (L : Nat) (rest : List (Addr × Obj)) (I : Nat) (i : Nat) (news : List (Addr × Obj)) : Prop :=
  ∃ (oR : Obj) (ra : Nat) (rv : List Value) (rc : Nat) (row : List Int), news = (L + 1 + 1 + 1, oR) :: (ra, listOf rv.toArray rc) :: rest ∧ oR.data = .cell (some (.ref ra)) ∧ IntsAre rv row ∧ row.length = 13 ∧ freeL body (n - i) row = fin ∧ (NeF ra (L + 1) ∧ NeF ra (L + 1 + 1) ∧ NeF ra (L + 1 + 1 + 1) ∧ NeF ra I) ∧ (L + 1 + 1 + 1 < I ∧ AllLt I rest)
abbrev stF : List PySem.Str := [PySem.Str.ofString "plain"]
abbrev stM : List PySem.Str := [PySem.Str.ofString "last", PySem.Str.ofString "least", PySem.Str.ofString "plain", PySem.Str.ofString "free"]
abbrev stO : List PySem.Str := [PySem.Str.ofString "top", PySem.Str.ofString "k", PySem.Str.ofString "last", PySem.Str.ofString "least", PySem.Str.ofString "plain", PySem.Str.ofString "free"]
section
variable {prog : Program} {w : World} {A : Around} {E : Value → Shared → Prop} {s : Shared} {env : Env} {h₀ : Heap} {stmts : List Stmt} {Q : Flow → Shared → Prop} {r ta : Nat} {t₀ u₀ v₀ : Tok} {m₀ : PySem.Str → Option Value} {led nw r1 r2 r3 : List (Addr × Obj)} {L : Nat} {oT oS oR : Obj} {tv : List Value} {tc : Nat}
theorem allLt_sub {I : Nat} : ∀ {l : List (Addr × Obj)}, (∀ p ∈ l, p.1 < I) → AllLt I l := allLt_of
theorem out_rule {b : Int} {ds : List Int} {bd : Bool} {vS vR : Option Value} (_ub : UseB bd) (hL : env.locals = L) (hh : A.handled = none) (hr : IsRange s.heap r 1 b 1 t₀ u₀ v₀) (hb : b = (ds.length : Int) + 1) (hl : ds.length ≤ 4) (F : Fr h₀ L s.heap m₀) (N : News h₀ L s.heap led)
    (RT : Rem (L + 1) oT led r1) (RS : Rem (L + 1 + 1) oS r1 r2) (RR : Rem (L + 1 + 1 + 1) oR r2 r3) (dT : oT.data = .cell (some (.ref ta))) (dS : oS.data = .cell vS) (dR : oR.data = .cell vR)
    (hta : (ta, listOf tv.toArray tc) ∈ led) (hti : IntsAre tv (toldO bd ds 0)) (q0 : LCg.Off1 ta nw) (q1 : ta ≠ L + 1) (q2 : ta ≠ L + 1 + 1) (q3 : ta ≠ L + 1 + 1 + 1)
    (turn : ∀ (I : Nat) (it : Obj) (i : Nat) (u : PySem.Str → Option Value) (oT oS oR : Obj) (ta : Nat) (tv : List Value) (tc : Nat) (vS vR : Option Value) (t : Tok) (h : Heap) (tk : Nat), i < ds.length → UseT (topOf ds i) → oT.data = .cell (some (.ref ta)) → oS.data = .cell vS → oR.data = .cell vR → IntsAre tv (toldO bd ds i) → LCg.Off1 ta nw →
      (NeF ta (L + 1) ∧ NeF ta (L + 1 + 1) ∧ NeF ta (L + 1 + 1 + 1) ∧ NeF ta I) → (L + 1 + 1 + 1 < I ∧ AllLt I r3) →
      Fr h₀ L h (fun y => if y = PySem.Str.ofString "size" then some (.int (1 + (i : Int)) t) else if stO.contains y then u y else m₀ y) → News h₀ L h ((I, it) :: ledC L oT oS oR ta tv tc r3) →
      wpAny (model prog w) A (execs stmts env) (UnrPost h₀ L { s with heap := h, toks := tk } I it (TurnJ (PySem.Str.ofString "size") stO m₀ (OutJ bd ds L nw r3 I (i + 1))) Q) E { s with heap := h, toks := tk })
    (done : ∀ (I : Nat) (u : PySem.Str → Option Value) (oT oS oR : Obj) (ta : Nat) (tv : List Value) (tc : Nat) (vS vR : Option Value) (h : Heap) (tk : Nat), oT.data = .cell (some (.ref ta)) → oS.data = .cell vS → oR.data = .cell vR → IntsAre tv (countsL bd ds) → LCg.Off1 ta nw →
      (NeF ta (L + 1) ∧ NeF ta (L + 1 + 1) ∧ NeF ta (L + 1 + 1 + 1)) →
      Fr h₀ L h (fun y => if y = PySem.Str.ofString "size" then u y else if stO.contains y then u y else m₀ y) → News h₀ L h (ledC L oT oS oR ta tv tc r3) → Q .next { s with heap := h, toks := tk }) :
    wpAny (model prog w) A (pyIter (.ref r)) (fun it s₂ => LoopAtV prog w A h₀ env (PySem.Str.ofString "size") stmts Q E it s₂) E s := by
  subst hL
  subst hb
  refine range_go stO (OutJ bd ds env.locals nw r3) (n := ds.length) hh hr (small_one (by omega) (by omega) (by omega) (by omega)) (by rw [rangeSize_nat]; omega) F N ?_ ?_ ?_
  · intro I hI
    have lt : ∀ p ∈ r3, p.1 < I := fun p hp => hI p (RT.sub p (RS.sub p (RR.sub p hp)))
    refine ⟨ledC env.locals oT oS oR ta tv tc r3, ⟨oT, oS, oR, ta, tv, tc, vS, vR, rfl, dT, dS, dR, hti, q0, ⟨⟨q1⟩, ⟨q2⟩, ⟨q3⟩, ⟨Nat.ne_of_lt (hI _ hta)⟩⟩, hI _ (RT.sub _ (RS.sub _ RR.mem)), allLt_of lt⟩, ?_⟩
    intro p hp
    rcases List.mem_cons.mp hp with rfl | hp
    · exact RT.mem
    rcases List.mem_cons.mp hp with rfl | hp
    · exact RT.sub _ RS.mem
    rcases List.mem_cons.mp hp with rfl | hp
    · exact RT.sub _ (RS.sub _ RR.mem)
    rcases List.mem_cons.mp hp with rfl | hp
    · exact hta
    · exact RT.sub p (RS.sub p (RR.sub p hp))
  · rintro I it i u news₁ t h tk hi ⟨oT, oS, oR, ta, tv, tc, vS, vR, rfl, dT, dS, dR, hti, ho, hne, hI⟩ F' N'
    rw [Int.mul_one] at F'
    exact turn I it i u oT oS oR ta tv tc vS vR t h tk hi UseT.mk dT dS dR hti ho hne hI F' N'
  · rintro I u news₁ h tk ⟨oT, oS, oR, ta, tv, tc, vS, vR, rfl, dT, dS, dR, hti, ho, hne, hI⟩ F' N'
    have e : toldO bd ds ds.length = countsL bd ds := by unfold toldO; rw [if_neg (Nat.lt_irrefl _)]
    rw [e] at hti
    exact done I u oT oS oR ta tv tc vS vR h tk dT dS dR hti ho ⟨hne.1, hne.2.1, hne.2.2.1⟩ F' N'
theorem mid_rule {top told fin : List Int} {size : Nat} {bd : Bool} {ts : Tok} {vR : Option Value} {b : Int} (_ub : UseB bd) (hL : env.locals = L) (hh : A.handled = none) (hr : IsRange s.heap r 0 b 1 t₀ u₀ v₀) (hb : b = (top.length : Int)) (hl : top.length ≤ 4) (F : Fr h₀ L s.heap m₀) (N : News h₀ L s.heap led)
    (RT : Rem (L + 1) oT led r1) (RS : Rem (L + 1 + 1) oS r1 r2) (RR : Rem (L + 1 + 1 + 1) oR r2 r3) (dT : oT.data = .cell (some (.ref ta))) (dS : oS.data = .cell (some (.int 0 ts))) (dR : oR.data = .cell vR)
    (hta : (ta, listOf tv.toArray tc) ∈ led) (hti : IntsAre tv told) (htl : told.length = 13) (hfin : topL bd size 0 top told 0 = fin) (q0 : LCg.Off1 ta nw) (q1 : ta ≠ L + 1) (q2 : ta ≠ L + 1 + 1) (q3 : ta ≠ L + 1 + 1 + 1)
    (turn : ∀ (I : Nat) (it : Obj) (k : Nat) (u : PySem.Str → Option Value) (oT oS oR : Obj) (ta : Nat) (tv : List Value) (tc : Nat) (vR : Option Value) (told : List Int) (signs : Int) (ts : Tok) (t : Tok) (h : Heap) (tk : Nat), k < top.length → UseI (leastI (k : Int) (size : Int)) → UseN (size - 1 - k) → oT.data = .cell (some (.ref ta)) → oS.data = .cell (some (.int signs ts)) → oR.data = .cell vR → IntsAre tv told → told.length = 13 →
      topL bd size k (top.drop k) told signs = fin → LCg.Off1 ta nw → (NeF ta (L + 1) ∧ NeF ta (L + 1 + 1) ∧ NeF ta (L + 1 + 1 + 1) ∧ NeF ta I) → (L + 1 + 1 + 1 < I ∧ AllLt I r3) →
      Fr h₀ L h (fun y => if y = PySem.Str.ofString "k" then some (.int (k : Int) t) else if stM.contains y then u y else m₀ y) → News h₀ L h ((I, it) :: ledC L oT oS oR ta tv tc r3) →
      wpAny (model prog w) A (execs stmts env) (UnrPost h₀ L { s with heap := h, toks := tk } I it (TurnJ (PySem.Str.ofString "k") stM m₀ (MidJ bd size top fin L nw r3 I (k + 1))) Q) E { s with heap := h, toks := tk })
    (done : ∀ (I : Nat) (u : PySem.Str → Option Value) (oT oS oR : Obj) (ta : Nat) (tv : List Value) (tc : Nat) (vS vR : Option Value) (h : Heap) (tk : Nat), oT.data = .cell (some (.ref ta)) → oS.data = .cell vS → oR.data = .cell vR → IntsAre tv fin → LCg.Off1 ta nw →
      (NeF ta (L + 1) ∧ NeF ta (L + 1 + 1) ∧ NeF ta (L + 1 + 1 + 1)) →
      Fr h₀ L h (fun y => if y = PySem.Str.ofString "k" then u y else if stM.contains y then u y else m₀ y) → News h₀ L h (ledC L oT oS oR ta tv tc r3) → Q .next { s with heap := h, toks := tk }) :
    wpAny (model prog w) A (pyIter (.ref r)) (fun it s₂ => LoopAtV prog w A h₀ env (PySem.Str.ofString "k") stmts Q E it s₂) E s := by
  subst hL
  subst hb
  refine range_go stM (MidJ bd size top fin env.locals nw r3) (n := top.length) hh hr (small_one (by omega) (by omega) (by omega) (by omega)) (by rw [rangeSize_nat]; omega) F N ?_ ?_ ?_
  · intro I hI
    have lt : ∀ p ∈ r3, p.1 < I := fun p hp => hI p (RT.sub p (RS.sub p (RR.sub p hp)))
    refine ⟨ledC env.locals oT oS oR ta tv tc r3, ⟨oT, oS, oR, ta, tv, tc, vR, told, 0, ts, rfl, dT, dS, dR, hti, htl, by rw [List.drop_zero]; exact hfin, q0, ⟨⟨q1⟩, ⟨q2⟩, ⟨q3⟩, ⟨Nat.ne_of_lt (hI _ hta)⟩⟩, hI _ (RT.sub _ (RS.sub _ RR.mem)), allLt_of lt⟩, ?_⟩
    intro p hp
    rcases List.mem_cons.mp hp with rfl | hp
    · exact RT.mem
    rcases List.mem_cons.mp hp with rfl | hp
    · exact RT.sub _ RS.mem
    rcases List.mem_cons.mp hp with rfl | hp
    · exact RT.sub _ (RS.sub _ RR.mem)
    rcases List.mem_cons.mp hp with rfl | hp
    · exact hta
    · exact RT.sub p (RS.sub p (RR.sub p hp))
  · rintro I it i u news₁ t h tk hi ⟨oT, oS, oR, ta, tv, tc, vR, told, signs, ts, rfl, dT, dS, dR, hti, htl, hf, ho, hne, hI⟩ F' N'
    rw [Int.mul_one, Int.zero_add] at F'
    exact turn I it i u oT oS oR ta tv tc vR told signs ts t h tk hi UseI.mk UseN.mk dT dS dR hti htl hf ho hne hI F' N'
  · rintro I u news₁ h tk ⟨oT, oS, oR, ta, tv, tc, vR, told, signs, ts, rfl, dT, dS, dR, hti, htl, hf, ho, hne, hI⟩ F' N'
    rw [List.drop_length, topL] at hf
    subst hf
    exact done I u oT oS oR ta tv tc _ vR h tk dT dS dR hti ho ⟨hne.1, hne.2.1, hne.2.2.1⟩ F' N'
theorem free_rule {row : List Int} {n : Nat} {bd : Bool} {f : Int} {ra : Nat} {rv : List Value} {rc : Nat} (_ub : UseB bd) (_un : UseN n) (hL : env.locals = L) (hh : A.handled = none) (hr : IsRange s.heap r f 0 (-1) t₀ u₀ v₀) (hf : f = (n : Int)) (hl : n ≤ 4) (F : Fr h₀ L s.heap m₀) (N : News h₀ L s.heap led)
    (RR : Rem (L + 1 + 1 + 1) oR led r3) (dR : oR.data = .cell (some (.ref ra)))
    (hra : (ra, listOf rv.toArray rc) ∈ led) (hri : IntsAre rv row) (hrl : row.length = 13) (q1 : ra ≠ L + 1) (q2 : ra ≠ L + 1 + 1) (q3 : ra ≠ L + 1 + 1 + 1)
    (turn : ∀ (I : Nat) (it : Obj) (i : Nat) (u : PySem.Str → Option Value) (oR : Obj) (ra : Nat) (rv : List Value) (rc : Nat) (row' : List Int) (t : Tok) (h : Heap) (tk : Nat), i < n → oR.data = .cell (some (.ref ra)) → IntsAre rv row' → row'.length = 13 → freeL bd (n - i) row' = freeL bd n row →
      (NeF ra (L + 1) ∧ NeF ra (L + 1 + 1) ∧ NeF ra (L + 1 + 1 + 1) ∧ NeF ra I) → (L + 1 + 1 + 1 < I ∧ AllLt I r3) →
      Fr h₀ L h (fun y => if y = PySem.Str.ofString "free" then some (.int ((n : Int) - (i : Int)) t) else if stF.contains y then u y else m₀ y) → News h₀ L h ((I, it) :: (L + 1 + 1 + 1, oR) :: (ra, listOf rv.toArray rc) :: r3) →
      wpAny (model prog w) A (execs stmts env) (UnrPost h₀ L { s with heap := h, toks := tk } I it (TurnJ (PySem.Str.ofString "free") stF m₀ (FreeJ bd n (freeL bd n row) L r3 I (i + 1))) Q) E { s with heap := h, toks := tk })
    (done : ∀ (I : Nat) (u : PySem.Str → Option Value) (oR : Obj) (ra : Nat) (rv : List Value) (rc : Nat) (h : Heap) (tk : Nat), oR.data = .cell (some (.ref ra)) → IntsAre rv (freeL bd n row) → (freeL bd n row).length = 13 →
      (NeF ra (L + 1) ∧ NeF ra (L + 1 + 1) ∧ NeF ra (L + 1 + 1 + 1)) →
      Fr h₀ L h (fun y => if y = PySem.Str.ofString "free" then u y else if stF.contains y then u y else m₀ y) → News h₀ L h ((L + 1 + 1 + 1, oR) :: (ra, listOf rv.toArray rc) :: r3) → Q .next { s with heap := h, toks := tk }) :
    wpAny (model prog w) A (pyIter (.ref r)) (fun it s₂ => LoopAtV prog w A h₀ env (PySem.Str.ofString "free") stmts Q E it s₂) E s := by
  subst hL
  subst hf
  refine range_go stF (FreeJ bd n (freeL bd n row) env.locals r3) (n := n) hh hr (small_down (by omega) (by omega) (by omega) (by omega)) (by rw [rangeSize_downNat]; omega) F N ?_ ?_ ?_
  · intro I hI
    have lt : ∀ p ∈ r3, p.1 < I := fun p hp => hI p (RR.sub p hp)
    refine ⟨(env.locals + 1 + 1 + 1, oR) :: (ra, listOf rv.toArray rc) :: r3, ⟨oR, ra, rv, rc, row, rfl, dR, hri, hrl, rfl, ⟨⟨q1⟩, ⟨q2⟩, ⟨q3⟩, ⟨Nat.ne_of_lt (hI _ hra)⟩⟩, hI _ RR.mem, allLt_of lt⟩, ?_⟩
    intro p hp
    rcases List.mem_cons.mp hp with rfl | hp
    · exact RR.mem
    rcases List.mem_cons.mp hp with rfl | hp
    · exact hra
    · exact RR.sub p hp
  · rintro I it i u news₁ t h tk hi ⟨oR, ra, rv, rc, row', rfl, dR, hri, hrl, hf, hne, hI⟩ F' N'
    rw [show (n : Int) + (i : Int) * -1 = (n : Int) - (i : Int) by omega] at F'
    exact turn I it i u oR ra rv rc row' t h tk hi dR hri hrl hf hne hI F' N'
  · rintro I u news₁ h tk ⟨oR, ra, rv, rc, row', rfl, dR, hri, hrl, hf, hne, hI⟩ F' N'
    rw [Nat.sub_self, freeL] at hf
    subst hf
    exact done I u oR ra rv rc h tk dR hri hrl ⟨hne.1, hne.2.1, hne.2.2.1⟩ F' N'
/-! ## what a turn's end shows -/
theorem out_end {bd : Bool} {ds : List Int} {I : Nat} {it : Obj} {i : Nat} {s₁ : Shared} {h' : Heap} {tk : Nat} {m' : PySem.Str → Option Value} {all : List (Addr × Obj)} {vS vR : Option Value} (F : Fr h₀ L h' m') (N : News h₀ L h' all) (mI : (I, it) ∈ all)
    (mT : (L + 1, oT) ∈ all) (dT : oT.data = .cell (some (.ref ta))) (mS : (L + 1 + 1, oS) ∈ all) (dS : oS.data = .cell vS) (mR : (L + 1 + 1 + 1, oR) ∈ all) (dR : oR.data = .cell vR) (mta : (ta, listOf tv.toArray tc) ∈ all) (hti : IntsAre tv (toldO bd ds (i + 1))) (ho : LCg.Off1 ta nw)
    (sub : ∀ p ∈ r3, p ∈ all) (h1 : ta ≠ L + 1) (h2 : ta ≠ L + 1 + 1) (h3 : ta ≠ L + 1 + 1 + 1) (h4 : ta ≠ I) (hI : L + 1 + 1 + 1 < I ∧ AllLt I r3) (ag : ∀ z, z ≠ PySem.Str.ofString "size" → stO.contains z = false → m' z = m₀ z) :
    UnrEnd h₀ L s₁ I it (TurnJ (PySem.Str.ofString "size") stO m₀ (OutJ bd ds L nw r3 I (i + 1))) { s₁ with heap := h', toks := tk } := by
  have hI' := hI.1
  refine UnrEnd.intro F N (ledC L oT oS oR ta tv tc r3) ?_ ?_ ⟨ag, oT, oS, oR, ta, tv, tc, vS, vR, rfl, dT, dS, dR, hti, ho, ⟨⟨h1⟩, ⟨h2⟩, ⟨h3⟩, ⟨h4⟩⟩, hI⟩
  · exact List.forall_mem_cons.mpr ⟨mI, List.forall_mem_cons.mpr ⟨mT, List.forall_mem_cons.mpr ⟨mS, List.forall_mem_cons.mpr ⟨mR, List.forall_mem_cons.mpr ⟨mta, sub⟩⟩⟩⟩⟩
  · exact List.forall_mem_cons.mpr ⟨(by show L + 1 ≠ I; exact Nat.ne_of_lt (by omega)), List.forall_mem_cons.mpr ⟨(by show L + 1 + 1 ≠ I; exact Nat.ne_of_lt (by omega)), List.forall_mem_cons.mpr ⟨(by show L + 1 + 1 + 1 ≠ I; exact Nat.ne_of_lt (by omega)), List.forall_mem_cons.mpr ⟨h4, allLt_ne hI.2⟩⟩⟩⟩
theorem mid_end {bd : Bool} {top told fin : List Int} {size : Nat} {signs : Int} {ts : Tok} {I : Nat} {it : Obj} {k : Nat} {s₁ : Shared} {h' : Heap} {tk : Nat} {m' : PySem.Str → Option Value} {all : List (Addr × Obj)} {vR : Option Value} (F : Fr h₀ L h' m') (N : News h₀ L h' all) (mI : (I, it) ∈ all)
    (mT : (L + 1, oT) ∈ all) (dT : oT.data = .cell (some (.ref ta))) (mS : (L + 1 + 1, oS) ∈ all) (dS : oS.data = .cell (some (.int signs ts))) (mR : (L + 1 + 1 + 1, oR) ∈ all) (dR : oR.data = .cell vR) (mta : (ta, listOf tv.toArray tc) ∈ all) (hti : IntsAre tv told) (htl : told.length = 13)
    (hf : topL bd size (k + 1) (top.drop (k + 1)) told signs = fin) (ho : LCg.Off1 ta nw)
    (sub : ∀ p ∈ r3, p ∈ all) (h1 : ta ≠ L + 1) (h2 : ta ≠ L + 1 + 1) (h3 : ta ≠ L + 1 + 1 + 1) (h4 : ta ≠ I) (hI : L + 1 + 1 + 1 < I ∧ AllLt I r3) (ag : ∀ z, z ≠ PySem.Str.ofString "k" → stM.contains z = false → m' z = m₀ z) :
    UnrEnd h₀ L s₁ I it (TurnJ (PySem.Str.ofString "k") stM m₀ (MidJ bd size top fin L nw r3 I (k + 1))) { s₁ with heap := h', toks := tk } := by
  have hI' := hI.1
  refine UnrEnd.intro F N (ledC L oT oS oR ta tv tc r3) ?_ ?_ ⟨ag, oT, oS, oR, ta, tv, tc, vR, told, signs, ts, rfl, dT, dS, dR, hti, htl, hf, ho, ⟨⟨h1⟩, ⟨h2⟩, ⟨h3⟩, ⟨h4⟩⟩, hI⟩
  · exact List.forall_mem_cons.mpr ⟨mI, List.forall_mem_cons.mpr ⟨mT, List.forall_mem_cons.mpr ⟨mS, List.forall_mem_cons.mpr ⟨mR, List.forall_mem_cons.mpr ⟨mta, sub⟩⟩⟩⟩⟩
  · exact List.forall_mem_cons.mpr ⟨(by show L + 1 ≠ I; exact Nat.ne_of_lt (by omega)), List.forall_mem_cons.mpr ⟨(by show L + 1 + 1 ≠ I; exact Nat.ne_of_lt (by omega)), List.forall_mem_cons.mpr ⟨(by show L + 1 + 1 + 1 ≠ I; exact Nat.ne_of_lt (by omega)), List.forall_mem_cons.mpr ⟨h4, allLt_ne hI.2⟩⟩⟩⟩
theorem free_end {bd : Bool} {row fin : List Int} {n : Nat} {ra : Nat} {rv : List Value} {rc : Nat} {I : Nat} {it : Obj} {i : Nat} {s₁ : Shared} {h' : Heap} {tk : Nat} {m' : PySem.Str → Option Value} {all : List (Addr × Obj)} (F : Fr h₀ L h' m') (N : News h₀ L h' all) (mI : (I, it) ∈ all)
    (mR : (L + 1 + 1 + 1, oR) ∈ all) (dR : oR.data = .cell (some (.ref ra))) (mra : (ra, listOf rv.toArray rc) ∈ all) (hri : IntsAre rv row) (hrl : row.length = 13) (hf : freeL bd (n - (i + 1)) row = fin)
    (sub : ∀ p ∈ r3, p ∈ all) (h1 : ra ≠ L + 1) (h2 : ra ≠ L + 1 + 1) (h3 : ra ≠ L + 1 + 1 + 1) (h4 : ra ≠ I) (hI : L + 1 + 1 + 1 < I ∧ AllLt I r3) (ag : ∀ z, z ≠ PySem.Str.ofString "free" → stF.contains z = false → m' z = m₀ z) :
    UnrEnd h₀ L s₁ I it (TurnJ (PySem.Str.ofString "free") stF m₀ (FreeJ bd n fin L r3 I (i + 1))) { s₁ with heap := h', toks := tk } := by
  have hI' := hI.1
  refine UnrEnd.intro F N ((L + 1 + 1 + 1, oR) :: (ra, listOf rv.toArray rc) :: r3) ?_ ?_ ⟨ag, oR, ra, rv, rc, row, rfl, dR, hri, hrl, hf, ⟨⟨h1⟩, ⟨h2⟩, ⟨h3⟩, ⟨h4⟩⟩, hI⟩
  · exact List.forall_mem_cons.mpr ⟨mI, List.forall_mem_cons.mpr ⟨mR, List.forall_mem_cons.mpr ⟨mra, sub⟩⟩⟩
  · exact List.forall_mem_cons.mpr ⟨(by show L + 1 + 1 + 1 ≠ I; exact Nat.ne_of_lt (by omega)), List.forall_mem_cons.mpr ⟨h4, allLt_ne hI.2⟩⟩
end
/-! ## the arithmetic of the turns -/
theorem free_step {bd : Bool} {n i : Nat} {row fin : List Int} (hi : i < n) (h : freeL bd (n - i) row = fin) :
    freeL bd (n - (i + 1)) (moreL row (blw 64 (((n : Int) - (i : Int)) == 1) bd) (64 - blw 64 (((n : Int) - (i : Int)) == 1) bd)) = fin := by
  obtain ⟨f, hf⟩ : ∃ f, n - i = f + 1 := ⟨n - i - 1, by omega⟩
  have e : (((n : Int) - (i : Int)) == 1) = (f == 0) := by
    rw [Bool.eq_iff_iff]; simp; omega
  rw [hf, freeL] at h
  rw [show n - (i + 1) = f by omega, e]
  exact h
theorem mid_step {bd : Bool} {i k : Nat} {top told fin : List Int} {signs : Int} (hk : k < top.length) (hki : k ≤ i) (h : topL bd (i + 1) k (top.drop k) told signs = fin) :
    topL bd (i + 1) (k + 1) (top.drop (k + 1)) (addL told (freeL bd (i + 1 - 1 - k) (moreL (unitL signs)
        (blw (top.getD ((k : Int)).toNat 0) ((k : Int) == 1 + (i : Int) - 1) bd - blw (leastI (k : Int) ((i + 1 : Nat) : Int)) ((k : Int) == 1 + (i : Int) - 1) bd)
        (top.getD ((k : Int)).toNat 0 - leastI (k : Int) ((i + 1 : Nat) : Int) - (blw (top.getD ((k : Int)).toNat 0) ((k : Int) == 1 + (i : Int) - 1) bd - blw (leastI (k : Int) ((i + 1 : Nat) : Int)) ((k : Int) == 1 + (i : Int) - 1) bd)))))
      (signs + (3 - 2 * (blw (top.getD ((k : Int)).toNat 0 + 1) ((k : Int) == 1 + (i : Int) - 1) bd - blw (top.getD ((k : Int)).toNat 0) ((k : Int) == 1 + (i : Int) - 1) bd))) = fin := by
  have e : ((k : Int) == 1 + (i : Int) - 1) = (i + 1 - 1 - k == 0) := by
    rw [Bool.eq_iff_iff]; simp; omega
  have l : leastI (k : Int) ((i + 1 : Nat) : Int) = least k (i + 1) := by
    unfold leastI least
    by_cases hk0 : k = 0
    · subst hk0
      by_cases h1 : 1 < i + 1
      · rw [if_pos ⟨by omega, by omega⟩, if_pos ⟨rfl, h1⟩]
      · rw [if_neg (by omega), if_neg (by omega)]
    · rw [if_neg (by omega), if_neg (by omega)]
  have g : top.getD ((k : Int)).toNat 0 = top[k] := by simp [List.getD, hk]
  rw [List.drop_eq_getElem_cons hk, topL] at h
  rw [e, l, g, ← h]
  rfl
section
variable {a b c d : Option Value} {u u₂ m₀ : PySem.Str → Option Value}
theorem stM_of {z : PySem.Str} (h : stM.contains z = false) : z ≠ PySem.Str.ofString "last" ∧ z ≠ PySem.Str.ofString "least" ∧ z ≠ PySem.Str.ofString "plain" ∧ z ≠ PySem.Str.ofString "free" := by
  refine ⟨?_, ?_, ?_, ?_⟩ <;> (rintro rfl; revert h; decide)
theorem stO_of {z : PySem.Str} (h : stO.contains z = false) : z ≠ PySem.Str.ofString "top" ∧ z ≠ PySem.Str.ofString "k" ∧ z ≠ PySem.Str.ofString "last" ∧ z ≠ PySem.Str.ofString "least" ∧ z ≠ PySem.Str.ofString "plain" ∧ z ≠ PySem.Str.ofString "free" := by
  refine ⟨?_, ?_, ?_, ?_, ?_, ?_⟩ <;> (rintro rfl; revert h; decide)
theorem stF_of {z : PySem.Str} (h : stF.contains z = false) : z ≠ PySem.Str.ofString "plain" := by rintro rfl; revert h; decide
theorem stF_no {z : PySem.Str} (h : z ≠ PySem.Str.ofString "plain") : stF.contains z = false := by simp [stF]; exact h
theorem stM_no {z : PySem.Str} (h1 : z ≠ PySem.Str.ofString "last") (h2 : z ≠ PySem.Str.ofString "least") (h3 : z ≠ PySem.Str.ofString "plain") (h4 : z ≠ PySem.Str.ofString "free") : stM.contains z = false := by simp [stM]; exact ⟨h1, h2, h3, h4⟩
theorem agF (z : PySem.Str) (h1 : z ≠ PySem.Str.ofString "free") (h2 : stF.contains z = false) : (if z = PySem.Str.ofString "plain" then a else if z = PySem.Str.ofString "free" then b else if stF.contains z = true then u z else m₀ z) = m₀ z := by
  rw [if_neg (stF_of h2), if_neg h1, if_neg (by rw [h2]; exact Bool.false_ne_true)]
theorem agM (z : PySem.Str) (h1 : z ≠ PySem.Str.ofString "k") (h2 : stM.contains z = false) : (if z = PySem.Str.ofString "free" then u₂ z else if stF.contains z = true then u₂ z else if z = PySem.Str.ofString "plain" then a else if z = PySem.Str.ofString "least" then b else if z = PySem.Str.ofString "last" then c else if z = PySem.Str.ofString "k" then d else if stM.contains z = true then u z else m₀ z) = m₀ z := by
  obtain ⟨e1, e2, e3, e4⟩ := stM_of h2
  rw [if_neg e4, if_neg (by rw [stF_no e3]; exact Bool.false_ne_true), if_neg e3, if_neg e2, if_neg e1, if_neg h1, if_neg (by rw [h2]; exact Bool.false_ne_true)]
theorem agO (z : PySem.Str) (h1 : z ≠ PySem.Str.ofString "size") (h2 : stO.contains z = false) : (if z = PySem.Str.ofString "k" then u₂ z else if stM.contains z = true then u₂ z else if z = PySem.Str.ofString "top" then a else if z = PySem.Str.ofString "size" then b else if stO.contains z = true then u z else m₀ z) = m₀ z := by
  obtain ⟨e1, e2, e3, e4, e5, e6⟩ := stO_of h2
  rw [if_neg e2, if_neg (by rw [stM_no e3 e4 e5 e6]; exact Bool.false_ne_true), if_neg e1, if_neg h1, if_neg (by rw [h2]; exact Bool.false_ne_true)]
end
end Mine
end

section
open PySem PySem.W PySem.Spec PySem.Calls PyProof.Rows
set_option maxRecDepth 100000
namespace Mine
open LCg LCt
/-! ## the counts: ways joined, lists made -/
def JoinI (s : Shared) (lv : Int) (v : Value) (s' : Shared) : Prop := ∃ t k, v = .int lv t ∧ s' = { s with toks := k }
def JoinT (h₀ : Heap) (L : Nat) (m : PySem.Str → Option Value) (led : List (Addr × Obj)) (s : Shared) (topv : List Int) (v : Value) (s' : Shared) : Prop :=
  ∃ (tp : Nat) (tv : List Value) (tc : Nat) (h : Heap) (k : Nat), v = .ref tp ∧ s' = { s with heap := h, toks := k } ∧ Fr h₀ L h m ∧ News h₀ L h ((tp, listOf tv.toArray tc) :: led) ∧ IntsAre tv topv ∧ (NeF tp (L + 1) ∧ NeF tp (L + 1 + 1) ∧ NeF tp (L + 1 + 1 + 1))
section
variable {prog : Program} {w : World} {A : Around} {E : Value → Shared → Prop} {s : Shared} {h₀ : Heap} {L : Nat} {m : PySem.Str → Option Value} {env : Env} {led : List (Addr × Obj)} {Q : Value → Shared → Prop} {tst a b : Expr} {pos : Pos}
theorem if_join {lv : Int} (_u : UseI lv) (h1 : wpAny (model prog w) A (eval (.IfExp tst a b pos) env) (JoinI s lv) E s) (h2 : ∀ t k, Q (.int lv t) { s with toks := k }) : wpAny (model prog w) A (eval (.IfExp tst a b pos) env) Q E s :=
  wpAny_mono h1 (fun v s' ⟨t, k, e1, e2⟩ => by subst e1 e2; exact h2 t k) fun _ _ e => e
theorem top_join {topv : List Int} (_u : UseT topv) (_F : Fr h₀ L s.heap m) (_N : News h₀ L s.heap led) (h1 : wpAny (model prog w) A (eval (.IfExp tst a b pos) env) (JoinT h₀ L m led s topv) E s)
    (h2 : ∀ (tp : Nat) (tv : List Value) (tc : Nat) (h : Heap) (k : Nat), Fr h₀ L h m → News h₀ L h ((tp, listOf tv.toArray tc) :: led) → IntsAre tv topv → (NeF tp (L + 1) ∧ NeF tp (L + 1 + 1) ∧ NeF tp (L + 1 + 1 + 1)) → Q (.ref tp) { s with heap := h, toks := k }) :
    wpAny (model prog w) A (eval (.IfExp tst a b pos) env) Q E s :=
  wpAny_mono h1 (fun v s' ⟨tp, tv, tc, h, k, e1, e2, F, N, hi, ho⟩ => by subst e1 e2; exact h2 tp tv tc h k F N hi ho) fun _ _ e => e
theorem joinT {topv : List Int} {tp : Nat} {tv : List Value} {tc k : Nat} {h : Heap} {all : List (Addr × Obj)} (F : Fr h₀ L h m) (N : News h₀ L h all) (hm : (tp, listOf tv.toArray tc) ∈ all) (sub : ∀ p ∈ led, p ∈ all) (hi : IntsAre tv topv) (q1 : tp ≠ L + 1) (q2 : tp ≠ L + 1 + 1) (q3 : tp ≠ L + 1 + 1 + 1) :
    JoinT h₀ L m led s topv (.ref tp) { s with heap := h, toks := k } := ⟨tp, tv, tc, h, k, rfl, rfl, F, fun p hp => N p ((List.mem_cons.mp hp).elim (fun e => e ▸ hm) (sub p)), hi, ⟨q1⟩, ⟨q2⟩, ⟨q3⟩⟩
theorem len_L {r : Addr} {vs : List Value} {ns : List Int} {c : Nat} (N : News h₀ L s.heap led) (hm : (r, listOf vs.toArray c) ∈ led) (hi : IntsAre vs ns) (hl : ns.length ≤ 1000) (h : ∀ t k, Q (.int (ns.length : Int) t) { s with toks := k }) : wpAny (model prog w) A (call (.builtin "len") [.ref r]) Q E s :=
  kst_len N hm (k := ns.length) (by rw [hi.length]) (by omega) (h _ _)
theorem load_cell {M : Model} {cn x : PySem.Str} {cs : Scope} {a c : Addr} {ccd v : Value} {cl : List (PySem.Str × Addr)} {o : Obj} (N : News h₀ L s.heap led) (hc : cl.lookup x = some c) (hm : (c, o) ∈ led) (hd : o.data = .cell (some v)) (h : Q v s)
    (hk : (envX cn cs L a ccd cl).scope.kind = .function := by rfl) (hx : (envX cn cs L a ccd cl).kindOf x = some .cell := by rfl) : wpAny M A (loadName (envX cn cs L a ccd cl) x) Q E s := wpAny_loadName_cell hk hx hc ⟨o, N.get hm, hd⟩ h
/-- the row that is one at signs -/
theorem srcUnit {elt : Expr} {x : PySem.Str} {scope : Scope} {cl : List (PySem.Str × Addr)} {r : Addr} {t u v : Tok} {s₁ : Shared} {oS : Obj} {sg : Int} {ts : Tok}
    (hh : A.handled = none) (F : Fr h₀ L s₁.heap m) (N : News h₀ L s₁.heap led) (hr : IsRange s₁.heap r 0 13 1 t u v) (_mS : (L + 1 + 1, oS) ∈ led) (_dS : oS.data = .cell (some (.int sg ts)))
    (turn : ∀ k t I oI C oC D m₂ ys h tk (E' : Value → Shared → Prop), 0 ≤ k → k < 13 → LCg.NsObj oC m₂ → m₂ x = some (.int k t) → Fr h₀ L h m → News h₀ L h ((I, oI) :: (C, oC) :: (D, LCg.lst ys) :: led) → LCg.Off3 I C D led →
      wpAny (model prog w) A (eval elt (compEnvC scope cl C env)) (LCg.CompEnd h₀ L m { s₁ with heap := h, toks := tk } I oI C oC D (LCg.lst ys) (fun _ => True) (fun y news' => KCfEl led (if k = sg then 1 else 0) y news')) E' { s₁ with heap := h, toks := tk })
    (fin : ∀ ys, IntsAre ys (unitL sg) → ∀ D h tk, Fr h₀ L h m → News h₀ L h ((D, LCg.lst ys) :: led) → Off1 D led → Q (.ref D) { s₁ with heap := h, toks := tk }) :
    LCg.CompSrc prog w A h₀ L m env elt x scope cl (fun s₂ => FinE h₀ L m s₂ Q) (.ref r) s₁ :=
  srcR (g := fun k => if k = sg then 1 else 0) (n := 13) UseF.mk hh F N hr rfl (by decide) turn (fun ys hy => fin ys hy)
/-- told and row, item by item -/
theorem srcAdd {elt : Expr} {x : PySem.Str} {scope : Scope} {cl : List (PySem.Str × Addr)} {r : Addr} {t u v : Tok} {s₁ : Shared} {oT oR : Obj} {ta ra : Addr} {tv rv : List Value} {tc rc : Nat} {told row : List Int}
    (hh : A.handled = none) (F : Fr h₀ L s₁.heap m) (N : News h₀ L s₁.heap led) (hr : IsRange s₁.heap r 0 13 1 t u v)
    (_mT : (L + 1, oT) ∈ led) (_dT : oT.data = .cell (some (.ref ta))) (_mR : (L + 1 + 1 + 1, oR) ∈ led) (_dR : oR.data = .cell (some (.ref ra))) (_mt : (ta, listOf tv.toArray tc) ∈ led) (_it : IntsAre tv told) (_mr : (ra, listOf rv.toArray rc) ∈ led) (_ir : IntsAre rv row)
    (turn : ∀ k t I oI C oC D m₂ ys h tk (E' : Value → Shared → Prop), 0 ≤ k → k < 13 → LCg.NsObj oC m₂ → m₂ x = some (.int k t) → Fr h₀ L h m → News h₀ L h ((I, oI) :: (C, oC) :: (D, LCg.lst ys) :: led) → LCg.Off3 I C D led →
      wpAny (model prog w) A (eval elt (compEnvC scope cl C env)) (LCg.CompEnd h₀ L m { s₁ with heap := h, toks := tk } I oI C oC D (LCg.lst ys) (fun _ => True) (fun y news' => KCfEl led (told.getD k.toNat 0 + row.getD k.toNat 0) y news')) E' { s₁ with heap := h, toks := tk })
    (fin : ∀ ys, IntsAre ys (addL told row) → (addL told row).length = 13 → ∀ D h tk, Fr h₀ L h m → News h₀ L h ((D, LCg.lst ys) :: led) → Off1 D led → Q (.ref D) { s₁ with heap := h, toks := tk }) :
    LCg.CompSrc prog w A h₀ L m env elt x scope cl (fun s₂ => FinE h₀ L m s₂ Q) (.ref r) s₁ :=
  srcR (g := fun k => told.getD k.toNat 0 + row.getD k.toNat 0) (n := 13) UseF.mk hh F N hr rfl (by decide) turn (fun ys hy => fin ys (by simpa [addL] using hy) (len_addL _ _))
end
theorem off1_ne {d a : Nat} {o : Obj} : ∀ {l : List (Addr × Obj)}, LCg.Off1 d l → (a, o) ∈ l → a ≠ d
  | [], _, h => nomatch h
  | _ :: _, x, h => by
    rcases List.mem_cons.mp h with e | h
    · have := x.1; rw [← e] at this; exact this
    · exact off1_ne x.2 h
section
variable {led : List (Addr × Obj)} {k sg : Int} {t : Tok}
theorem un_yes (h : k = sg) : KCfEl led (if k = sg then 1 else 0) (.int 1 t) led := kcf_el (if_pos h) rfl rfl
theorem un_no (h : ¬ k = sg) : KCfEl led (if k = sg then 1 else 0) (.int 0 t) led := kcf_el (if_neg h) rfl rfl
theorem ad_el {x : Int} : KCfEl led x (.int x t) led := kcf_el rfl rfl rfl
end
/-! ## a number's digits -/
theorem digs_ne (n : Int) : digs n ≠ [] := by unfold digs; (repeat' split) <;> simp
theorem digs_len (n : Int) : (digs n).length ≤ 4 := by unfold digs; (repeat' split) <;> simp
theorem digs_in (n : Int) : ∀ d ∈ digs n, 0 ≤ d ∧ d ≤ 63 := by
  unfold digs
  (repeat' split) <;> (intro d hd; simp only [List.mem_cons, List.not_mem_nil, or_false] at hd; omega)
theorem top_bnd (n : Int) (i k : Nat) (hk : k < (topOf (digs n) i).length) : 0 ≤ (topOf (digs n) i).getD ((k : Int)).toNat 0 ∧ (topOf (digs n) i).getD ((k : Int)).toNat 0 ≤ 64 := by
  have e : (topOf (digs n) i).getD ((k : Int)).toNat 0 = (topOf (digs n) i)[k] := by simp [List.getD, hk]
  have hm : (topOf (digs n) i)[k] ∈ topOf (digs n) i := List.getElem_mem hk
  rw [e]
  unfold topOf at hm ⊢
  split at hm
  · rename_i h
    have := digs_in n _ hm
    simp only [if_pos h]; omega
  · rename_i h
    simp only [if_neg h] at hm ⊢
    have := List.mem_singleton.mp hm
    omega
theorem top_len (n : Int) (i : Nat) (hi : i < (digs n).length) : (topOf (digs n) i).length ≤ i + 1 ∧ (topOf (digs n) i).length ≤ 4 := by
  have := digs_len n
  unfold topOf
  split
  · omega
  · simp
theorem told_start {bd : Bool} {ds : List Int} {tv : List Value} (h : IntsAre tv (List.replicate (Int.toNat 13) [(0 : Int)]).flatten) (hd : ds ≠ []) : IntsAre tv (toldO bd ds 0) := by
  rw [toldO_zero bd ds hd]; exact h
theorem top_all {n : Int} {i : Nat} {v : List Value} (h : IntsAre v (digs n)) (e : 1 + (i : Int) = ((digs n).length : Int)) : IntsAre v (topOf (digs n) i) := by
  unfold topOf; rw [if_pos (by omega)]; exact h
theorem top_one {n : Int} {i : Nat} {t : Tok} (e : ¬ 1 + (i : Int) = ((digs n).length : Int)) : IntsAre [.int 64 t] (topOf (digs n) i) := by
  unfold topOf; rw [if_neg (by omega)]; exact .cons _ _ .nil
theorem least_yes {k i : Nat} (h1 : (k : Int) = 0) (h2 : 1 < 1 + (i : Int)) : leastI (k : Int) ((i + 1 : Nat) : Int) = 1 := by unfold leastI; rw [if_pos ⟨h1, by omega⟩]
theorem least_no1 {k i : Nat} (h1 : ¬ (k : Int) = 0) : leastI (k : Int) ((i + 1 : Nat) : Int) = 0 := by unfold leastI; rw [if_neg (fun h => h1 h.1)]
theorem least_no2 {k i : Nat} (h2 : ¬ 1 < 1 + (i : Int)) : leastI (k : Int) ((i + 1 : Nat) : Int) = 0 := by unfold leastI; rw [if_neg (fun h => h2 (by omega))]
theorem leastI_bnd (k s : Int) : 0 ≤ leastI k s ∧ leastI k s ≤ 1 := by unfold leastI; split <;> omega
end Mine
end

section
open PySem PySem.W PySem.Spec PySem.Calls PyProof.Rows
set_option maxRecDepth 100000
namespace Mine
local macro_rules | `(tactic| k_all) => `(tactic| k_extra "k_all")
local macro_rules | `(tactic| k_ne) => `(tactic| k_extra "k_ne")
local macro_rules | `(tactic| k_updF) => `(tactic| k_extra "k_updF")
open LCg LCt
theorem ne_of_all {d e : Nat} {l : List (Addr × Obj)} (h : ∀ p ∈ l, p.1 < d) (he : d ≤ e) : ∀ p ∈ l, p.1 ≠ e := fun p hp => Nat.ne_of_lt (Nat.lt_of_lt_of_le (h p hp) he)
-- calls
-- lists
-- the inner loop and the turns' ends
-- ways that meet
set_option maxHeartbeats 8000000 in
theorem counts_c (w : World) (n : Int) (tn : Tok) (body : Bool) : Ctr 2 w 87 [.int n tn, .bool body] [] (fun _ => 0 ≤ n ∧ n < 16777216) (fun h₀ L m news s Q => RetL h₀ L m news s Q (countsL body (digs n))) := by
  k_with_none
  k_with "k_all" => (exact ne_of_all (by assumption) (by omega))
  k_with "k_ne" => (refine neN ?_; (try dsimp only); first | exact NeF.ne (by assumption) | exact Ne.symm (NeF.ne (by assumption)) | exact off1_ne (by assumption) (by k_mem) | exact Ne.symm (off1_ne (by assumption) (by k_mem)) | omega)
  k_with "k_updF" => (first | (refine' Rem.head ?aW; (case aW => k_all)) | (refine' Rem.tail ?aW ?bW; (case aW => k_ne); (case bW => k_updF)))
  k_with "call ref" => (k_here; (with_reducible show wpAny _ _ (call (Value.ref 72) [Value.int _ _]) _ _ _); k_dflt (refine' Ctr.use (digits_c _ _ _) ?k1W ?k2W ?k3W ?k4W ?k5W ?kKW ?kpW ?kdW ?kuW (fun l9w v9w c9w h9w t9w F9w N9w o9w i9w => ?_); (case k1W => k_asm); (case k2W => k_asm); (case k3W => k_asm); (case k4W => k_asm); (case k5W => k_asm); (case kKW => first | exact rfl | assumption); (case kpW => ((try dsimp only); omega)); (case kdW => ktr_room); (case kuW => ktr_units)); (try dsimp only); (try k_fold))
  k_with "call ref" => (k_here; (with_reducible show wpAny _ _ (call (Value.ref 77) [Value.int _ _, Value.bool _, Value.bool _]) _ _ _); k_dflt (refine' Ctr.use (below_c _ _ _ _ _) ?k1W ?k2W ?k3W ?k4W ?k5W ?kKW ?kpW ?kdW ?kuW (fun v9w h9w t9w F9w N9w r9w => ?_); (case k1W => k_asm); (case k2W => k_asm); (case k3W => k_asm); (case k4W => k_asm); (case k5W => k_asm); (case kKW => first | exact rfl | assumption); (case kpW => ((try dsimp only); omega)); (case kdW => ktr_room); (case kuW => ktr_units)); obtain ⟨t9w, e9w, b9w, b8w⟩ := r9w; subst e9w; (try dsimp only); (try k_fold))
  k_with "call ref" => (k_here; (with_reducible show wpAny _ _ (call (Value.ref 82) [Value.ref _, Value.int _ _, Value.int _ _]) _ _ _); k_dflt (refine' Ctr.use (more_c _ _ _ _ _ _ _ _ _ ?kiW) ?k1W ?k2W ?k3W ?k4W ?k5W ?kKW ⟨?p1W, ?p2W, ?p3W, ?p4W⟩ ?kdW ?kuW (fun l9w v9w c9w h9w t9w F9w N9w o9w i9w => ?_); (case k1W => k_asm); (case k2W => k_asm); (case k3W => k_asm); (case k4W => k_asm); (case k5W => k_asm); (case kKW => first | exact rfl | assumption); (case p4W => k_mem); (case kiW => assumption); (case p3W => first | assumption | exact len_unitL _); (case p1W => omega); (case p2W => omega); (case kdW => ktr_room); (case kuW => ktr_units)); (try dsimp only); (try k_fold))
  k_with "call builtin:len" => (k_here; k_dflt (refine' len_L ?zNW ?zmW ?ziW ?zlW (fun t'w k'w => ?_); (case zNW => k_asm); (case zmW => k_mem); (case ziW => assumption); (case zlW => omega)))
  k_with "subscriptTail" => (k_here; (with_reducible show wpAny _ _ (subscriptTail _ _ (Value.ref _) (Value.int _ _)) _ _ _); k_dflt (refine' item_L ?zNW ?zmW ?ziW ?z0W ?z1W ?z2W (fun t'w => ?_); (case zNW => k_asm); (case zmW => k_mem); (case ziW => assumption); (case z0W => omega); (case z1W => omega); (case z2W => omega)))
  k_with "eval ListComp" => (k_here; k_dflt (refine LCg.ListComp_U (F₀ := by k_asm) (by with_unfolding_all rfl) (by decide) (by rfl) (by decide) (by rfl) ?_))
  k_with "CompSrc" => (k_here; k_dflt (refine' srcAdd ?zhW ?zFW ?zNW ?zrW ?m1W ?d1W ?m2W ?d2W ?m3W ?i3W ?m4W ?i4W (fun k'w t'w I'w o'w C'w p'w D'w m'w y'w h'w q'w E'w hlo'w hhi'w hC'w hx'w F'w N'w off'w => ?_) (fun y'w hy'w hl'w D'w h'w k'w F'w N'w off'w => ?_); (case zhW => rfl); (case zFW => k_asm); (case zNW => k_asm); (case zrW => assumption); (case m1W => k_mem); (case d1W => assumption); (case m2W => k_mem); (case d2W => assumption); (case m3W => k_mem); (case i3W => assumption); (case m4W => k_mem); (case i4W => assumption)))
  k_with "CompSrc" => (k_here; (with_reducible show LCg.CompSrc _ _ _ _ _ _ _ (Expr.IfExp _ _ _ _) _ _ _ _ _ _); k_dflt (refine' srcUnit ?zhW ?zFW ?zNW ?zrW ?m1W ?d1W (fun k'w t'w I'w o'w C'w p'w D'w m'w y'w h'w q'w E'w hlo'w hhi'w hC'w hx'w F'w N'w off'w => ?_) (fun y'w hy'w D'w h'w k'w F'w N'w off'w => ?_); (case zhW => rfl); (case zFW => k_asm); (case zNW => k_asm); (case zrW => assumption); (case m1W => k_mem); (case d1W => assumption)))
  k_with "CompEnd" => (refine LCg.CompEnd.intro (by k_asm) (by k_asm) _ (fun p hp => hp) (by assumption) True.intro ?_)
  k_with "KCfEl" => (first | exact ad_el | exact un_yes (by first | assumption | omega) | exact un_no (by first | assumption | omega))
  k_with "pyIter ref" => ((with_reducible show wpAny _ _ (pyIter (Value.ref _)) (fun it s₂ => LoopAtV _ _ _ _ _ (PySem.Str.ofString "free") _ _ _ it s₂) _ _); k_dflt (refine' free_rule (by assumption) (by assumption) ?z0W ?zhW ?zrW ?zfW ?zlW ?zFW ?zNW ?r1W ?d1W ?m1W ?i1W ?l1W ?q1W ?q2W ?q3W (fun I'w it'w i'w u'w o'w ra'w rv'w rc'w row'w t'w h'w tk'w hi'w d'w hr'w hl'w hf'w hn'w hI'w F'w N'w => ?_) (fun I'w u'w o'w ra'w rv'w rc'w h'w tk'w d'w hr'w hl'w hn'w F'w N'w => ?_); (case zFW => k_asm); (case zNW => k_asm); (case z0W => rfl); (case zhW => rfl); (case zrW => assumption); (case zfW => omega); (case zlW => omega); (case r1W => k_updF); (case d1W => assumption); (case m1W => k_mem); (case i1W => assumption); (case l1W => exact len_moreL _ _ _); (case q1W => k_ne); (case q2W => k_ne); (case q3W => k_ne)); (all_goals (try (have hJ'w := hI'w; simp only [AllLt, and_true] at hJ'w))); (all_goals (try first | (obtain ⟨hn1'w, hn2'w, hn3'w, hn4'w⟩ := hn'w) | (obtain ⟨hn1'w, hn2'w, hn3'w⟩ := hn'w))); (all_goals (try k_sweep)))
  k_with "UnrEnd" => (k_dflt (refine' mid_end ?zFW ?zNW ?m0W ?m1W ?d1W ?m2W ?d2W ?m3W ?d3W ?m4W ?i4W ?l4W ?hfW ?hoW ?subW ?n1W ?n2W ?n3W ?n4W ?hIW agM; (case zFW => k_asm); (case zNW => k_asm); (case m0W => k_mem); (case m1W => k_mem); (case d1W => assumption); (case m2W => k_mem); (case d2W => assumption); (case m3W => k_mem); (case d3W => assumption); (case m4W => k_mem); (case i4W => assumption); (case l4W => assumption); (case hfW => exact mid_step (by assumption) (by omega) (by assumption)); (case hoW => exact off1_sub (by assumption) (by kcf_all)); (case subW => kcf_all); (case n1W => k_ne); (case n2W => k_ne); (case n3W => k_ne); (case n4W => k_ne); (case hIW => assumption)))
  k_with "UnrEnd" => (k_dflt (refine' free_end ?zFW ?zNW ?m0W ?m1W ?d1W ?m2W ?i2W ?l2W ?hfW ?subW ?n1W ?n2W ?n3W ?n4W ?hIW agF; (case zFW => k_asm); (case zNW => k_asm); (case m0W => k_mem); (case m1W => k_mem); (case d1W => assumption); (case m2W => k_mem); (case i2W => assumption); (case l2W => (rw [len_moreL]; assumption)); (case hfW => exact free_step (by assumption) (by assumption)); (case subW => kcf_all); (case n1W => k_ne); (case n2W => k_ne); (case n3W => k_ne); (case n4W => k_ne); (case hIW => assumption)))
  k_with "loadName" => (k_here; k_dflt (refine' load_cell ?zNW ?zcW ?zmW ?zdW ?_ ?zaW ?zbW; (case zaW => rfl); (case zbW => rfl); (case zNW => k_asm); (case zcW => rfl); (case zmW => k_mem); (case zdW => assumption)))
  k_with "eval IfExp" => ((with_reducible show wpAny _ _ (eval (Expr.IfExp (Expr.BoolOp _ _ _) _ _ _) _) _ _ _); (fail_if_success (with_reducible show wpAny _ _ _ (JoinI _ _) _ _)); (refine if_join (by assumption) ?_ (fun t'w k'w => ?_)))
  k_with "eval IfExp" => (k_here; (with_reducible show wpAny _ _ (eval (Expr.IfExp _ (Expr.Name _ _) _ _) _) _ _ _); (fail_if_success (with_reducible show wpAny _ _ _ (JoinT _ _ _ _ _ _) _ _)); k_dflt (refine top_join (by assumption) (by k_asm) (by k_asm) ?_ (fun tp'w tv'w tc'w h'w k'w F'w N'w hi'w ho'w => ?_)); (all_goals (try (obtain ⟨ho1'w, ho2'w, ho3'w⟩ := ho'w))))
  k_with "JoinI" => (first | exact ⟨_, _, congrArg (Value.int · _) (least_yes (by assumption) (by assumption)).symm, rfl⟩ | exact ⟨_, _, congrArg (Value.int · _) (least_no1 (by assumption)).symm, rfl⟩ | exact ⟨_, _, congrArg (Value.int · _) (least_no2 (by assumption)).symm, rfl⟩)
  w_top off
  unfold Ctr
  k_fill
  intro p loose mean mg mb news dp un gd cn cs a ccd cl outer A₀ base h₀ L m s Q E B F X N T hk hp hd hu hret
  dsimp only [List.cons_append, List.nil_append] at N
  obtain ⟨hn0, hn1⟩ := hp
  have hB : UseB body := UseB.mk
  have hdl := digs_len n
  have hdn := digs_ne n
  refine wpAny_call ?_
  k_dflt (refine' code_defC ?k1 ?k2 ?k3 ?k4 ?k5 ?kA ?kF ?kK ?k6 ?k7 ?k8 ?k9 ?kB ?kD ?_ ?c2 ?c3 ?c4; (case kA => exact rfl); (case kF => exact rfl); (case kK => assumption); (case k1 => k_asm); (case k2 => k_asm); (case k3 => k_asm); (case k4 => k_asm); (case k5 => k_asm); (case k6 => k_is); (case k7 => k_is); (case k8 => ktr_room); (case k9 => exact BindsTo.of_eq rfl); (case kB => exact rfl); (case kD => decide +kernel); (case c2 => exact rfl); (case c3 => exact rfl); (case c4 => exact rfl); k_whole; intro g' L' h' tk' cells' FG' F' N' Y' B' X' T' l1; (try k_lt l1); k_cells Y'; (try simp only [List.cons_append, List.nil_append] at N'); (try dsimp only); (try k_lift B'); (try k_fold))
  rename Obj.data _ = Data.cell _ => e3
  replace e3 : _ = Data.cell none := e3
  rename Obj.data _ = Data.cell (bindC _ _ _ _) => e2
  replace e2 : _ = Data.cell none := e2
  rename Obj.data _ = Data.cell (bindC _ _ _ _) => e1
  replace e1 : _ = Data.cell none := e1
  k_steps
  -- the loop over the sizes
  rename News _ _ _ _ => N5
  rename IntsAre _ (List.replicate _ _).flatten => hz5
  replace N5 := cb_drop (news := (_, _) :: (_, _) :: (_, _) :: (_, _) :: (_, _) :: news) N5 (List.forall_mem_cons.mpr ⟨.head _, List.forall_mem_cons.mpr ⟨.tail _ (.tail _ (.head _)), List.forall_mem_cons.mpr ⟨.tail _ (.tail _ (.tail _ (.head _))), List.forall_mem_cons.mpr ⟨.tail _ (.tail _ (.tail _ (.tail _ (.head _)))), List.forall_mem_cons.mpr ⟨.tail _ (.tail _ (.tail _ (.tail _ (.tail _ (.head _))))), fun p hp => .tail _ (.tail _ (.tail _ (.tail _ (.tail _ (.tail _ hp)))))⟩⟩⟩⟩⟩)
  k_dflt (refine' out_rule (ds := digs n) hB ?z0 ?zh ?zr ?zb ?zl ?zF ?zN ?r1 ?r2 ?r3 ?d1 ?d2 ?d3 ?zt ?zi ?q0 ?q1 ?q2 ?q3 (fun I₀ it₀ i u oT oS oR ta tv tc vS vR t h tk hi ut dT dS dR hti hoo hne hI F' N' => ?_) (fun I u oT oS oR ta tv tc vS vR h tk dT dS dR hti hoo hne F' N' => ?_))
  (case zF => k_asm)
  (case zN => exact N5)
  (case z0 => rfl)
  (case zh => rfl)
  (case zr => assumption)
  (case zb => rfl)
  (case zl => assumption)
  (case r1 => k_updF)
  (case r2 => k_updF)
  (case r3 => k_updF)
  (case d1 => assumption)
  (case d2 => assumption)
  (case d3 => assumption)
  (case zt => exact .head _)
  (case zi => exact told_start hz5 hdn)
  (case q0 => exact off1_of (by assumption : _ ∧ _ ∧ _ ∧ _ ∧ _ ∧ AllLt _ news).2.2.2.2.2)
  (case q1 => k_ne)
  (case q2 => k_ne)
  (case q3 => k_ne)
  · -- a size
    obtain ⟨hn1, hn2, hn3, hn4⟩ := hne
    have hta := len_toldO body (digs n) i
    have htop := top_len n i hi
    dsimp only [ledC] at N'
    have hJ := hI
    simp only [AllLt, and_true] at hJ
    k_sweep
    clear hz5
    k_steps
    · exact joinT (by k_asm) (by k_asm) (by k_mem) (fun p hp => hp) (top_all (by assumption) (by assumption)) (by k_ne) (by k_ne) (by k_ne)
    · exact joinT (by k_asm) (by k_asm) (by k_mem) (by kcf_all) (top_one (by assumption)) (by k_ne) (by k_ne) (by k_ne)
    · -- the places of a size
      rename IntsAre _ (topOf _ _) => hto
      k_dflt (refine' mid_rule (nw := (I₀, it₀) :: news) hB ?z0 ?zh ?zr ?zb ?zl ?zF ?zN ?r1 ?r2 ?r3 ?d1 ?d2 ?d3 ?zt ?zi ?zj (out_step body (digs n) i hi) ⟨Ne.symm hn4.ne, hoo⟩ ?q1 ?q2 ?q3 (fun I it k u oT oS oR ta tv tc vR told signs ts t h tk hk ui un dT dS dR hti htl hf hoo hne hI F' N' => ?_) (fun I u oT oS oR ta tv tc vS vR h tk dT dS dR hti hoo hne F' N' => ?_))
      (case zF => k_asm)
      (case zN => k_asm)
      (case z0 => rfl)
      (case zh => rfl)
      (case zr => assumption)
      (case zb => rfl)
      (case zl => exact htop.2)
      (case r1 => k_updF)
      (case r2 => k_updF)
      (case r3 => k_updF)
      (case d1 => assumption)
      (case d2 => assumption)
      (case d3 => assumption)
      (case zt => k_mem)
      (case zi => exact hti)
      (case zj => exact hta)
      (case q1 => k_ne)
      (case q2 => k_ne)
      (case q3 => k_ne)
      · obtain ⟨hn1, hn2, hn3, hn4⟩ := hne
        have hdk := top_bnd n i k hk
        have hlb := leastI_bnd (k : Int) ((i + 1 : Nat) : Int)
        dsimp only [ledC] at N'
        have hJ := hI
        simp only [AllLt, and_true] at hJ
        k_sweep
        k_steps
      · obtain ⟨hn1, hn2, hn3⟩ := hne
        dsimp only [ledC] at N'
        k_sweep
        k_steps
        exact out_end F' N' (by k_mem) (.head _) dT (.tail _ (.head _)) dS (.tail _ (.tail _ (.head _))) dR (.tail _ (.tail _ (.tail _ (.head _)))) hti hoo.2 (by kcf_all) hn1.ne hn2.ne hn3.ne (Ne.symm hoo.1) (by assumption) agO
  · obtain ⟨hn1, hn2, hn3⟩ := hne
    dsimp only [ledC] at N'
    k_sweep
    k_steps
    exact retL_end hret (by k_asm) (by assumption) (.tail _ (.tail _ (.tail _ (.head _)))) (by kcf_all) hoo hti
end Mine
end

section
open PySem PySem.W PySem.Spec PySem.Calls PyProof.Rows
set_option maxRecDepth 100000
namespace Mine
open LCg LCt
section
variable {prog : Program} {w : World} {A : Around} {E : Value → Shared → Prop} {s : Shared} {env : Env} {h₀ : Heap} {x : PySem.Str} {body : List Stmt} {Q : Flow → Shared → Prop}
/-- a loop over a list of ints, by what holds of its ledger -/
theorem list_go {ax : Addr} {lo : Obj} {vs : List Value} {ns : List Int} {c : Nat} {m₀ : PySem.Str → Option Value} {led : List (Addr × Obj)} (st : List PySem.Str) (J : Addr → List (Addr × Obj) → Prop)
    (hh : A.handled = none) (F : Fr h₀ env.locals s.heap m₀) (N : News h₀ env.locals s.heap led) (hm : (ax, lo) ∈ led) (hc : lo.cls = .type "list") (hd : lo.data = .seq vs.toArray c) (hi : IntsAre vs ns)
    (start : ∀ I : Addr, (∀ p ∈ led, p.1 < I) → ∃ news, J I news ∧ ∀ p ∈ news, p ∈ led)
    (keeps : ∀ I news, J I news → (ax, lo) ∈ news)
    (turn : ∀ (I : Addr) (it : Obj) (k : Int) (u : PySem.Str → Option Value) (news₁ : List (Addr × Obj)) (t : Tok) (h : Heap) (tk : Nat), k ∈ ns → J I news₁ → Fr h₀ env.locals h (fun y => if y = x then some (.int k t) else if st.contains y then u y else m₀ y) → News h₀ env.locals h ((I, it) :: news₁) →
      wpAny (model prog w) A (execs body env) (UnrPost h₀ env.locals { s with heap := h, toks := tk } I it (TurnJ x st m₀ (J I)) Q) E { s with heap := h, toks := tk })
    (done : ∀ (I : Addr) (u : PySem.Str → Option Value) (news₁ : List (Addr × Obj)) (h : Heap) (tk : Nat), J I news₁ → Fr h₀ env.locals h (fun y => if y = x then u y else if st.contains y then u y else m₀ y) → News h₀ env.locals h news₁ → Q .next { s with heap := h, toks := tk }) :
    wpAny (model prog w) A (pyIter (.ref ax)) (fun it s₂ => LoopAtV prog w A h₀ env x body Q E it s₂) E s := by
  refine iter_listUnr hh F N hm hc hd fun I hI => ?_
  have form : ∀ (m₁ : PySem.Str → Option Value), (∀ z, z ≠ x → st.contains z = false → m₁ z = m₀ z) → m₁ = fun y => if y = x then m₁ y else if st.contains y then m₁ y else m₀ y := by
    intro m₁ hm
    funext y
    by_cases h1 : y = x
    · rw [if_pos h1]
    · rw [if_neg h1]
      cases h2 : st.contains y with
      | true => simp
      | false => simp only [Bool.false_eq_true, if_false]; exact hm y h1 h2
  have key : ∀ {vs' : List Value} {ns' : List Int}, IntsAre vs' ns' → (∀ k ∈ ns', k ∈ ns) → ∀ (m₁ : PySem.Str → Option Value) (led₁ news₁ : List (Addr × Obj)), (∀ z, z ≠ x → st.contains z = false → m₁ z = m₀ z) → J I news₁ → (∀ p ∈ news₁, p ∈ led₁) →
      ListRest prog w A E h₀ env x body Q s I (ax, lo) vs' m₁ led₁ := by
    intro vs' ns' hi'
    induction hi' with
    | nil =>
      intro _ m₁ led₁ news₁ hm hJ hs h tk F' N'
      exact done I m₁ news₁ h tk hJ (by rw [← form m₁ hm]; exact F') fun p hp => N' p (hs p hp)
    | @cons k t vs₁ ns₁ r ih =>
      intro hin m₁ led₁ news₁ hm hJ hs it h tk hic F' N'
      have e : (fun y => if y = x then some (Value.int k t) else m₁ y) = fun y => if y = x then some (Value.int k t) else if st.contains y then m₁ y else m₀ y := by
        funext y
        by_cases h1 : y = x
        · rw [if_pos h1, if_pos h1]
        · rw [if_neg h1, if_neg h1]
          cases h2 : st.contains y with
          | true => simp
          | false => simp only [Bool.false_eq_true, if_false]; exact hm y h1 h2
      rw [e] at F'
      refine wpAny_mono (turn I _ k m₁ news₁ t h tk (hin k List.mem_cons_self) hJ F' (fun p hp => N' p ((List.mem_cons.mp hp).elim (fun e => e ▸ List.mem_cons_self) fun hq => List.mem_cons_of_mem _ (hs p hq)))) (fun f s₂ p => ?_) fun _ _ e => e
      have up : ∀ {s₂ it}, UnrEnd h₀ env.locals { s with heap := h, toks := tk } I it (TurnJ x st m₀ (J I)) s₂ →
          UnrEnd h₀ env.locals { s with heap := h, toks := tk } I it (fun m' n' => (ax, lo) ∈ n' ∧ ListRest prog w A E h₀ env x body Q s I (ax, lo) vs₁ m' n') s₂ := by
        rintro s₂ it ⟨h', tk', m', news', e, F₂, N₂, off, hm', hJ'⟩
        exact ⟨h', tk', m', news', e, F₂, N₂, off, keeps I news' hJ', ih (fun k hk => hin k (List.mem_cons_of_mem _ hk)) m' news' news' hm' hJ' fun p hp => hp⟩
      cases f with
      | ret v => exact p
      | brk => exact p
      | next => exact up p
      | cont => exact up p
  obtain ⟨news, hJ, hs⟩ := start I hI
  exact key hi (fun _ h => h) m₀ led news (fun _ _ _ => rfl) hJ hs
end
section
variable {prog : Program} {w : World} {A : Around} {E : Value → Shared → Prop} {s : Shared} {h₀ : Heap} {L : Addr} {m : PySem.Str → Option Value} {env : Env}
/-- a list made over a list of ints, item by item g -/
theorem srcI {elt : Expr} {x : PySem.Str} {scope : Scope} {cl : List (PySem.Str × Addr)} {Q : Value → Shared → Prop} {ax : Addr} {vs : List Value} {ns : List Int} {c : Nat} {news : List (Addr × Obj)} {s₁ : Shared} (g : Int → Int)
    (hh : A.handled = none) (F : Fr h₀ L s₁.heap m) (N : News h₀ L s₁.heap news) (hm : (ax, listOf vs.toArray c) ∈ news) (hi : IntsAre vs ns) (hsz : ns.length ≤ 1000)
    (turn : ∀ k t I oI C oC D m₂ ys h tk (E' : Value → Shared → Prop), k ∈ ns → LCg.NsObj oC m₂ → m₂ x = some (.int k t) → Fr h₀ L h m → News h₀ L h ((I, oI) :: (C, oC) :: (D, LCg.lst ys) :: news) → LCg.Off3 I C D news →
      wpAny (model prog w) A (eval elt (compEnvC scope cl C env)) (LCg.CompEnd h₀ L m { s₁ with heap := h, toks := tk } I oI C oC D (LCg.lst ys) (SrcAt h₀ ax vs.toArray) (fun y news' => KCfEl news (g k) y news')) E' { s₁ with heap := h, toks := tk })
    (fin : ∀ ys, IntsAre ys (ns.map g) → ∀ D h tk, Fr h₀ L h m → News h₀ L h ((D, LCg.lst ys) :: news) → Off1 D news → Q (.ref D) { s₁ with heap := h, toks := tk }) :
    LCg.CompSrc prog w A h₀ L m env elt x scope cl (fun s₂ => FinE h₀ L m s₂ Q) (.ref ax) s₁ := by
  refine LCg.CompSrc.ledger hh F N hm (by rw [List.size_toArray, hi.length, sizeLine_eq]; omega) fun g' => ?_
  exact kcf_list g hi (fun k t I oI C oC D m₂ ys h tk E' h1 hC hx F' N' off _ _ => turn k t I oI C oC D m₂ ys h tk E' h1 hC hx F' N' off) fun ys hy D h tk F' N' off => fin ys hy D h tk F' N' off
/-- the same, of texts -/
theorem srcS {elt : Expr} {x : PySem.Str} {scope : Scope} {cl : List (PySem.Str × Addr)} {Q : Value → Shared → Prop} {ax : Addr} {vs : List Value} {ns : List Int} {c : Nat} {news : List (Addr × Obj)} {s₁ : Shared} (g : Int → PySem.Str)
    (hh : A.handled = none) (F : Fr h₀ L s₁.heap m) (N : News h₀ L s₁.heap news) (hm : (ax, listOf vs.toArray c) ∈ news) (hi : IntsAre vs ns) (hsz : ns.length ≤ 1000)
    (turn : ∀ k t I oI C oC D m₂ ys h tk (E' : Value → Shared → Prop), k ∈ ns → LCg.NsObj oC m₂ → m₂ x = some (.int k t) → Fr h₀ L h m → News h₀ L h ((I, oI) :: (C, oC) :: (D, LCg.lst ys) :: news) → LCg.Off3 I C D news →
      wpAny (model prog w) A (eval elt (compEnvC scope cl C env)) (LCg.CompEnd h₀ L m { s₁ with heap := h, toks := tk } I oI C oC D (LCg.lst ys) (SrcAt h₀ ax vs.toArray) (fun y news' => KCtEl news (g k) y news')) E' { s₁ with heap := h, toks := tk })
    (fin : ∀ ys, CarriedAll ys (ns.map fun k => PyData.str (g k)) → ∀ D h tk, Fr h₀ L h m → News h₀ L h ((D, LCg.lst ys) :: news) → Off1 D news → Q (.ref D) { s₁ with heap := h, toks := tk }) :
    LCg.CompSrc prog w A h₀ L m env elt x scope cl (fun s₂ => FinE h₀ L m s₂ Q) (.ref ax) s₁ := by
  refine LCg.CompSrc.ledger hh F N hm (by rw [List.size_toArray, hi.length, sizeLine_eq]; omega) fun g' => ?_
  exact kct_list g hi (fun k t I oI C oC D m₂ ys h tk E' h1 hC hx F' N' off _ _ => turn k t I oI C oC D m₂ ys h tk E' h1 hC hx F' N' off) fun ys hy _ D h tk F' N' off => fin ys hy D h tk F' N' off
end
end Mine
end

section
open PySem PySem.W PySem.Spec PySem.Calls PyProof.Rows
set_option maxRecDepth 100000
namespace Mine
open LCg LCt
def stN : List PySem.Str := [PySem.Str.ofString "places", PySem.Str.ofString "octets"]
def stL : List PySem.Str := [PySem.Str.ofString "body", PySem.Str.ofString "n", PySem.Str.ofString "places", PySem.Str.ofString "octets"]
def szs (bd : Bool) (a : Int) (i : Nat) : List Int := (List.range i).map fun (j : Nat) => szL bd (digs (a + (j : Int)))
theorem szs_succ (bd : Bool) (a : Int) (i : Nat) : szs bd a (i + 1) = szs bd a i ++ [szL bd (digs (a + (i : Int)))] := by
  unfold szs; rw [List.range_succ, List.map_append]; rfl
def LawJ (L : Nat) (ax : Nat) (lo : Obj) (I : Addr) (led : List (Addr × Obj)) : Prop :=
  ∃ (o1 o2 o3 : Obj) (v1 v2 v3 : Option Value), led = [(L + 1, o1), (L + 1 + 1, o2), (L + 1 + 1 + 1, o3), (ax, lo)] ∧ o1.data = .cell v1 ∧ o2.data = .cell v2 ∧ o3.data = .cell v3 ∧ (L + 1 + 1 + 1 < I ∧ ax < I)
def InJ (bd : Bool) (a : Int) (sa : Nat) (rest : List (Addr × Obj)) (I : Addr) (i : Nat) (led : List (Addr × Obj)) : Prop :=
  ∃ (sv : List Value) (sc : Nat), led = (sa, listOf sv.toArray sc) :: rest ∧ IntsAre sv (szs bd a i) ∧ (sa < I ∧ AllLt I rest)
section
variable {prog : Program} {w : World} {A : Around} {E : Value → Shared → Prop} {s : Shared} {env : Env} {h₀ : Heap} {stmts : List Stmt} {Q : Flow → Shared → Prop} {L : Nat} {m₀ : PySem.Str → Option Value} {led : List (Addr × Obj)}
theorem law_rule {ax : Nat} {vs : List Value} {ns : List Int} {c : Nat} {o1 o2 o3 : Obj} {v1 v2 v3 : Option Value} (hL : env.locals = L) (hh : A.handled = none) (F : Fr h₀ L s.heap m₀) (N : News h₀ L s.heap led)
    (m1 : (L + 1, o1) ∈ led) (d1 : o1.data = .cell v1) (m2 : (L + 1 + 1, o2) ∈ led) (d2 : o2.data = .cell v2) (m3 : (L + 1 + 1 + 1, o3) ∈ led) (d3 : o3.data = .cell v3) (hm : (ax, listOf vs.toArray c) ∈ led) (hi : IntsAre vs ns)
    (turn : ∀ (I : Nat) (it : Obj) (k : Int) (u : PySem.Str → Option Value) (o1 o2 o3 : Obj) (v1 v2 v3 : Option Value) (t : Tok) (h : Heap) (tk : Nat), k ∈ ns → o1.data = .cell v1 → o2.data = .cell v2 → o3.data = .cell v3 → (L + 1 + 1 + 1 < I ∧ ax < I) →
      Fr h₀ L h (fun y => if y = PySem.Str.ofString "start" then some (.int k t) else if stL.contains y then u y else m₀ y) → News h₀ L h [(I, it), (L + 1, o1), (L + 1 + 1, o2), (L + 1 + 1 + 1, o3), (ax, listOf vs.toArray c)] →
      wpAny (model prog w) A (execs stmts env) (UnrPost h₀ L { s with heap := h, toks := tk } I it (TurnJ (PySem.Str.ofString "start") stL m₀ (LawJ L ax (listOf vs.toArray c) I)) Q) E { s with heap := h, toks := tk })
    (done : ∀ (u : PySem.Str → Option Value) (h : Heap) (tk : Nat), Fr h₀ L h (fun y => if y = PySem.Str.ofString "start" then u y else if stL.contains y then u y else m₀ y) → Q .next { s with heap := h, toks := tk }) :
    wpAny (model prog w) A (pyIter (.ref ax)) (fun it s₂ => LoopAtV prog w A h₀ env (PySem.Str.ofString "start") stmts Q E it s₂) E s := by
  subst hL
  refine list_go stL (LawJ env.locals ax (listOf vs.toArray c)) hh F N hm rfl rfl hi ?_ ?_ ?_ ?_
  · intro I hI
    refine ⟨_, ⟨o1, o2, o3, v1, v2, v3, rfl, d1, d2, d3, hI _ m3, hI _ hm⟩, ?_⟩
    exact List.forall_mem_cons.mpr ⟨m1, List.forall_mem_cons.mpr ⟨m2, List.forall_mem_cons.mpr ⟨m3, List.forall_mem_cons.mpr ⟨hm, List.forall_mem_nil _⟩⟩⟩⟩
  · rintro I news ⟨o1, o2, o3, v1, v2, v3, rfl, _⟩
    exact .tail _ (.tail _ (.tail _ (.head _)))
  · rintro I it k u news₁ t h tk hk ⟨o1, o2, o3, v1, v2, v3, rfl, d1, d2, d3, hI⟩ F' N'
    exact turn I it k u o1 o2 o3 v1 v2 v3 t h tk hk d1 d2 d3 hI F' N'
  · rintro I u news₁ h tk _ F' _
    exact done u h tk F'
theorem law_end {ax : Nat} {lo : Obj} {I : Nat} {it : Obj} {s₁ : Shared} {h' : Heap} {tk : Nat} {m' : PySem.Str → Option Value} {all : List (Addr × Obj)} {o1 o2 o3 : Obj} {v1 v2 v3 : Option Value} (F : Fr h₀ L h' m') (N : News h₀ L h' all) (mI : (I, it) ∈ all)
    (m1 : (L + 1, o1) ∈ all) (d1 : o1.data = .cell v1) (m2 : (L + 1 + 1, o2) ∈ all) (d2 : o2.data = .cell v2) (m3 : (L + 1 + 1 + 1, o3) ∈ all) (d3 : o3.data = .cell v3) (hm : (ax, lo) ∈ all) (hI : L + 1 + 1 + 1 < I ∧ ax < I) (ag : ∀ z, z ≠ PySem.Str.ofString "start" → stL.contains z = false → m' z = m₀ z) :
    UnrEnd h₀ L s₁ I it (TurnJ (PySem.Str.ofString "start") stL m₀ (LawJ L ax lo I)) { s₁ with heap := h', toks := tk } := by
  have hI' := hI.1
  refine UnrEnd.intro F N [(L + 1, o1), (L + 1 + 1, o2), (L + 1 + 1 + 1, o3), (ax, lo)] ?_ ?_ ⟨ag, o1, o2, o3, v1, v2, v3, rfl, d1, d2, d3, hI⟩
  · exact List.forall_mem_cons.mpr ⟨mI, List.forall_mem_cons.mpr ⟨m1, List.forall_mem_cons.mpr ⟨m2, List.forall_mem_cons.mpr ⟨m3, List.forall_mem_cons.mpr ⟨hm, List.forall_mem_nil _⟩⟩⟩⟩⟩
  · exact List.forall_mem_cons.mpr ⟨(by show L + 1 ≠ I; exact Nat.ne_of_lt (by omega)), List.forall_mem_cons.mpr ⟨(by show L + 1 + 1 ≠ I; exact Nat.ne_of_lt (by omega)), List.forall_mem_cons.mpr ⟨(by show L + 1 + 1 + 1 ≠ I; exact Nat.ne_of_lt hI.1), List.forall_mem_cons.mpr ⟨Nat.ne_of_lt hI.2, List.forall_mem_nil _⟩⟩⟩⟩
theorem in_rule {bd : Bool} {a b : Int} {t₀ u₀ v₀ : Tok} {r sa : Nat} {sv : List Value} {sc : Nat} {rest : List (Addr × Obj)} (_ub : UseB bd) (hL : env.locals = L) (hh : A.handled = none) (hr : IsRange s.heap r a b 1 t₀ u₀ v₀) (hb : b = a + 9) (ha : 0 ≤ a ∧ a < 262144) (F : Fr h₀ L s.heap m₀) (N : News h₀ L s.heap led)
    (R : Rem sa (listOf sv.toArray sc) led rest) (h0 : IntsAre sv [])
    (turn : ∀ (I : Nat) (it : Obj) (i : Nat) (u : PySem.Str → Option Value) (sv : List Value) (sc : Nat) (t : Tok) (h : Heap) (tk : Nat), i < 9 → IntsAre sv (szs bd a i) → (sa < I ∧ AllLt I rest) →
      Fr h₀ L h (fun y => if y = PySem.Str.ofString "n" then some (.int (a + (i : Int)) t) else if stN.contains y then u y else m₀ y) → News h₀ L h ((I, it) :: (sa, listOf sv.toArray sc) :: rest) →
      wpAny (model prog w) A (execs stmts env) (UnrPost h₀ L { s with heap := h, toks := tk } I it (TurnJ (PySem.Str.ofString "n") stN m₀ (InJ bd a sa rest I (i + 1))) Q) E { s with heap := h, toks := tk })
    (done : ∀ (u : PySem.Str → Option Value) (sv : List Value) (sc : Nat) (h : Heap) (tk : Nat), IntsAre sv (szs bd a 9) → Fr h₀ L h (fun y => if y = PySem.Str.ofString "n" then u y else if stN.contains y then u y else m₀ y) → News h₀ L h ((sa, listOf sv.toArray sc) :: rest) → Q .next { s with heap := h, toks := tk }) :
    wpAny (model prog w) A (pyIter (.ref r)) (fun it s₂ => LoopAtV prog w A h₀ env (PySem.Str.ofString "n") stmts Q E it s₂) E s := by
  subst hL
  subst hb
  refine range_go stN (InJ bd a sa rest) (n := 9) hh hr (small_one (by omega) (by omega) (by omega) (by omega)) (by rw [rangeSize_nat]; omega) F N ?_ ?_ ?_
  · intro I hI
    exact ⟨_, ⟨sv, sc, rfl, h0, hI _ R.mem, allLt_of fun p hp => hI p (R.sub p hp)⟩, List.forall_mem_cons.mpr ⟨R.mem, R.sub⟩⟩
  · rintro I it i u news₁ t h tk hi ⟨sv, sc, rfl, hs, hI⟩ F' N'
    rw [Int.mul_one] at F'
    exact turn I it i u sv sc t h tk hi hs hI F' N'
  · rintro I u news₁ h tk ⟨sv, sc, rfl, hs, hI⟩ F' N'
    exact done u sv sc h tk hs F' N'
theorem in_end {bd : Bool} {a z : Int} {sa : Nat} {sv : List Value} {sc : Nat} {rest : List (Addr × Obj)} {I : Nat} {it : Obj} {i : Nat} {s₁ : Shared} {h' : Heap} {tk : Nat} {m' : PySem.Str → Option Value} {all : List (Addr × Obj)} (F : Fr h₀ L h' m') (N : News h₀ L h' all) (mI : (I, it) ∈ all)
    (ms : (sa, listOf sv.toArray sc) ∈ all) (hs : IntsAre sv (szs bd a i ++ [z])) (hz : z = szL bd (digs (a + (i : Int)))) (sub : ∀ p ∈ rest, p ∈ all) (hI : sa < I ∧ AllLt I rest) (ag : ∀ z, z ≠ PySem.Str.ofString "n" → stN.contains z = false → m' z = m₀ z) :
    UnrEnd h₀ L s₁ I it (TurnJ (PySem.Str.ofString "n") stN m₀ (InJ bd a sa rest I (i + 1))) { s₁ with heap := h', toks := tk } := by
  refine UnrEnd.intro F N ((sa, listOf sv.toArray sc) :: rest) ?_ ?_ ⟨ag, sv, sc, rfl, ?_, hI⟩
  · exact List.forall_mem_cons.mpr ⟨mI, List.forall_mem_cons.mpr ⟨ms, sub⟩⟩
  · exact List.forall_mem_cons.mpr ⟨Nat.ne_of_lt hI.1, allLt_ne hI.2⟩
  · rw [szs_succ, ← hz]; exact hs
end
section
variable {a b : Option Value} {u u₂ m₀ : PySem.Str → Option Value}
theorem stN_of {z : PySem.Str} (h : stN.contains z = false) : z ≠ PySem.Str.ofString "places" ∧ z ≠ PySem.Str.ofString "octets" := by
  refine ⟨?_, ?_⟩ <;> (rintro rfl; revert h; decide)
theorem stL_of {z : PySem.Str} (h : stL.contains z = false) : z ≠ PySem.Str.ofString "body" ∧ z ≠ PySem.Str.ofString "n" ∧ z ≠ PySem.Str.ofString "places" ∧ z ≠ PySem.Str.ofString "octets" := by
  refine ⟨?_, ?_, ?_, ?_⟩ <;> (rintro rfl; revert h; decide)
theorem stN_no {z : PySem.Str} (h1 : z ≠ PySem.Str.ofString "places") (h2 : z ≠ PySem.Str.ofString "octets") : stN.contains z = false := by simp [stN]; exact ⟨h1, h2⟩
theorem agN {c : Option Value} (z : PySem.Str) (h1 : z ≠ PySem.Str.ofString "n") (h2 : stN.contains z = false) : (if z = PySem.Str.ofString "octets" then a else if z = PySem.Str.ofString "places" then b else if z = PySem.Str.ofString "n" then c else if stN.contains z = true then u z else m₀ z) = m₀ z := by
  obtain ⟨e1, e2⟩ := stN_of h2
  rw [if_neg e2, if_neg e1, if_neg h1, if_neg (by rw [h2]; exact Bool.false_ne_true)]
theorem agL {c : Option Value} (z : PySem.Str) (h1 : z ≠ PySem.Str.ofString "start") (h2 : stL.contains z = false) : (if z = PySem.Str.ofString "n" then u₂ z else if stN.contains z = true then u₂ z else if z = PySem.Str.ofString "body" then b else if z = PySem.Str.ofString "start" then c else if stL.contains z = true then u z else m₀ z) = m₀ z := by
  obtain ⟨e1, e2, e3, e4⟩ := stL_of h2
  rw [if_neg e2, if_neg (by rw [stN_no e3 e4]; exact Bool.false_ne_true), if_neg e1, if_neg h1, if_neg (by rw [h2]; exact Bool.false_ne_true)]
end
section
variable {prog : Program} {w : World} {A : Around} {E : Value → Shared → Prop} {h₀ : Heap} {L : Nat} {m : PySem.Str → Option Value} {env : Env} {led : List (Addr × Obj)} {Q : Value → Shared → Prop}
def cntG (ns : List Int) (k : Int) : Int := (ns.count k : Nat)
def difG (a b : List Int) (k : Int) : Int := a.getD k.toNat 0 - b.getD k.toNat 0
def cntL (ns : List Int) : List Int := (List.range 13).map fun (i : Nat) => cntG ns (i : Int)
def difL (a b : List Int) : List Int := (List.range 13).map fun (i : Nat) => difG a b (i : Int)
/-- how often each -/
theorem srcCnt {elt : Expr} {x : PySem.Str} {scope : Scope} {cl : List (PySem.Str × Addr)} {r : Addr} {t u v : Tok} {s₁ : Shared} {sv : List Value} {bd : Bool} {a : Int}
    (hh : A.handled = none) (F : Fr h₀ L s₁.heap m) (N : News h₀ L s₁.heap led) (hr : IsRange s₁.heap r 0 13 1 t u v) (hi : IntsAre sv (szs bd a 9))
    (turn : ∀ k t I oI C oC D m₂ ys h tk (E' : Value → Shared → Prop), 0 ≤ k → k < 13 → LCg.NsObj oC m₂ → m₂ x = some (.int k t) → Fr h₀ L h m → News h₀ L h ((I, oI) :: (C, oC) :: (D, LCg.lst ys) :: led) → LCg.Off3 I C D led →
      wpAny (model prog w) A (eval elt (compEnvC scope cl C env)) (LCg.CompEnd h₀ L m { s₁ with heap := h, toks := tk } I oI C oC D (LCg.lst ys) (fun _ => True) (fun y news' => KCfEl led (cntG (szs bd a 9) k) y news')) E' { s₁ with heap := h, toks := tk })
    (fin : ∀ ys, IntsAre ys (cntL (szs bd a 9)) → ∀ D h tk, Fr h₀ L h m → News h₀ L h ((D, LCg.lst ys) :: led) → Off1 D led → Q (.ref D) { s₁ with heap := h, toks := tk }) :
    LCg.CompSrc prog w A h₀ L m env elt x scope cl (fun s₂ => FinE h₀ L m s₂ Q) (.ref r) s₁ :=
  srcR (g := cntG (szs bd a 9)) (n := 13) UseF.mk hh F N hr rfl (by decide) turn (fun ys hy => fin ys hy)
/-- one off the other, item by item -/
theorem srcDif {elt : Expr} {x : PySem.Str} {scope : Scope} {cl : List (PySem.Str × Addr)} {r : Addr} {t u v : Tok} {s₁ : Shared} {av bv : List Value} {bd : Bool} {a : Int}
    (hh : A.handled = none) (F : Fr h₀ L s₁.heap m) (N : News h₀ L s₁.heap led) (hr : IsRange s₁.heap r 0 13 1 t u v) (hA : IntsAre av (countsL bd (digs (a + 9)))) (hB : IntsAre bv (countsL bd (digs a)))
    (turn : ∀ k t I oI C oC D m₂ ys h tk (E' : Value → Shared → Prop), 0 ≤ k → k < 13 → LCg.NsObj oC m₂ → m₂ x = some (.int k t) → Fr h₀ L h m → News h₀ L h ((I, oI) :: (C, oC) :: (D, LCg.lst ys) :: led) → LCg.Off3 I C D led →
      wpAny (model prog w) A (eval elt (compEnvC scope cl C env)) (LCg.CompEnd h₀ L m { s₁ with heap := h, toks := tk } I oI C oC D (LCg.lst ys) (fun _ => True) (fun y news' => KCfEl led (difG (countsL bd (digs (a + 9))) (countsL bd (digs a)) k) y news')) E' { s₁ with heap := h, toks := tk })
    (fin : ∀ ys, IntsAre ys (difL (countsL bd (digs (a + 9))) (countsL bd (digs a))) → ∀ D h tk, Fr h₀ L h m → News h₀ L h ((D, LCg.lst ys) :: led) → Off1 D led → Q (.ref D) { s₁ with heap := h, toks := tk }) :
    LCg.CompSrc prog w A h₀ L m env elt x scope cl (fun s₂ => FinE h₀ L m s₂ Q) (.ref r) s₁ :=
  srcR (g := difG (countsL bd (digs (a + 9))) (countsL bd (digs a))) (n := 13) UseF.mk hh F N hr rfl (by decide) turn (fun ys hy => fin ys hy)
theorem el_cnt {ns : List Int} {k : Int} {t : Tok} : KCfEl led (cntG ns k) (.int (ns.count k : Nat) t) led := kcf_el rfl rfl rfl
theorem el_dif {a b : List Int} {k : Int} {t : Tok} : KCfEl led (difG a b k) (.int (a.getD k.toNat 0 - b.getD k.toNat 0) t) led := kcf_el rfl rfl rfl
theorem len_countsL (bd : Bool) (ds : List Int) : (countsL bd ds).length = 13 := by unfold countsL; exact len_topL _ _ _ _ _ _ (len_fullL _ _)
end
end Mine
end

section
namespace Mine
theorem len_cntL (l : List Int) : (cntL l).length = 13 := by simp [cntL]
theorem at_cntL {l : List Int} {s : Nat} (hs : s < 13) : (cntL l).getD s 0 = ((l.count (s : Int) : Nat) : Int) := by simp [cntL, cntG, List.getD, hs]
theorem at_difL {a b : List Int} {s : Nat} (hs : s < 13) : (difL a b).getD s 0 = a.getD s 0 - b.getD s 0 := by simp [difL, difG, List.getD, hs]
theorem cntL_snoc (l : List Int) (z : Int) : cntL (l ++ [z]) = addL (cntL l) (unitL z) := ext13 (len_cntL _) (by simp) fun s hs => by
  rw [at_addL hs, at_cntL hs, at_cntL hs, at_unitL hs, List.count_append, List.count_singleton]
  by_cases h : (s : Int) = z
  · rw [if_pos h, if_pos (by simpa using h.symm)]; omega
  · rw [if_neg h, if_neg (by simpa using fun e => h e.symm)]; omega
theorem counts_run (bd : Bool) {a : Int} (h0 : 0 ≤ a) (h1 : a < 262144) : ∀ i : Nat, i ≤ 9 → countsL bd (digs (a + (i : Int))) = addL (countsL bd (digs a)) (cntL (szs bd a i))
  | 0, _ => by
    rw [show a + ((0 : Nat) : Int) = a by omega, show cntL (szs bd a 0) = zeroL by rfl, addL_zero (len_countsL _ _)]
  | i + 1, hi => by
    rw [show a + ((i + 1 : Nat) : Int) = a + (i : Int) + 1 by omega, counts_succ bd (by omega) (by omega), counts_run bd h0 h1 i (by omega), szs_succ, cntL_snoc, addL_assoc]
theorem law_plain (bd : Bool) {a : Int} (h0 : 0 ≤ a) (h1 : a < 262144) : cntL (szs bd a 9) = difL (countsL bd (digs (a + 9))) (countsL bd (digs a)) := by
  have h := counts_run bd h0 h1 9 (by omega)
  rw [show a + ((9 : Nat) : Int) = a + 9 by omega] at h
  rw [h]
  refine ext13 (len_cntL _) (by simp [difL]) fun s hs => ?_
  rw [at_difL hs, at_addL hs]; omega
end Mine
end

section
open PySem PySem.W PySem.Spec PySem.Calls PyProof.Rows
set_option maxRecDepth 100000
namespace Mine
open LCg LCt
theorem octs_eq : ∀ ds : List Int, (List.map (fun k => 64 + k) (ds.take (ds.length - 1))) ++ ds.drop (ds.length - 1) = octs ds
  | [] => rfl
  | [d] => rfl
  | d :: e :: r => by
    have := octs_eq (e :: r)
    simp only [List.length_cons, Nat.add_sub_cancel, List.take_succ_cons, List.drop_succ_cons, List.map_cons, List.cons_append, octs] at this ⊢
    rw [this]
theorem valD_digs {n : Int} (h0 : 0 ≤ n) (h1 : n < 16777216) : valD (digs n) = n := by
  unfold digs
  (repeat' split) <;> simp [valD] <;> omega
theorem parse_n (w : World) (it l : Addr) (vs : List Value) (c : Nat) (n : Int) (hi : IntsAre vs (octs (digs n))) : Ctr 1 w 65 [.ref it] [(it, liObj l 0)] (fun news => (0 ≤ n ∧ n < 16777216) ∧ (l, listOf vs.toArray c) ∈ news ∧ ∀ p ∈ news, p.1 ≠ it)
    (fun h₀ L m news s Q => RetV h₀ L m news s Q (fun v => ∃ t, v = .int n t)) := by
  intro p loose mean mg mb news dp un gd cn cs a ccd cl outer A₀ base h₀ L m s Q E B F X N T hk hp hd hu hret
  refine parse_c w it l vs c (digs n) hi p loose mean mg mb news dp un gd cn cs a ccd cl outer A₀ base h₀ L m s Q E B F X N T hk ⟨digs_in n, digs_ne n, digs_len n, hp.2.1, hp.2.2⟩ hd hu ?_
  intro v h' tk' F' N' hv
  rw [valD_digs hp.1.1 hp.1.2] at hv
  exact hret v h' tk' F' N' hv
section
variable {prog : Program} {w : World} {A : Around} {E : Value → Shared → Prop} {s : Shared} {h₀ : Heap} {L l b : Addr} {m : PySem.Str → Option Value} {news : List (Addr × Obj)} {vs ws : List Value} {n : Int} {c d : Nat} {Q : Value → Shared → Prop}
theorem add_octs (F : Fr h₀ L s.heap m) (N : News h₀ L s.heap news) (hl : (l, listOf vs.toArray c) ∈ news) (hb : (b, listOf ws.toArray d) ∈ news)
    (hi : IntsAre vs (List.map (fun k => 64 + k) (List.take ((digs n).length - 1) (digs n)))) (hj : IntsAre ws (List.drop ((digs n).length - 1) (digs n)))
    (h : ∀ D ws h', Fr h₀ L h' m → News h₀ L h' ((D, listOf (List.toArray ws) 0) :: news) → (∀ p ∈ news, p.1 < D) → IntsAre ws (octs (digs n)) → Q (.ref D) { s with heap := h' }) :
    wpAny (model prog w) A (binaryOp .Add (.ref l) (.ref b)) Q E s := by
  refine add_lists_ints F N (News.isList N hl) (News.isList N hb) hi hj (fun h' F' N' hI => h _ _ h' F' N' (fun p hp => Heap.lt_size (N p hp).1) ?_) ?_
  · rw [octs_eq] at hI; exact hI
  · have := digs_len n
    rw [sizeLine_eq]
    simp only [List.length_map, List.length_take, List.length_drop]
    omega
end
theorem octs_in {n k : Int} (h : k ∈ octs (digs n)) : 0 ≤ k ∧ k < 128 := by
  have key : ∀ ds : List Int, (∀ d ∈ ds, 0 ≤ d ∧ d ≤ 63) → ∀ k ∈ octs ds, 0 ≤ k ∧ k < 128 := by
    intro ds
    induction ds with
    | nil => intro _ k hk; cases hk
    | cons d r ih =>
      intro hd k hk
      have h0 := hd d (by simp)
      cases r with
      | nil => simp [octs] at hk; omega
      | cons e r =>
        simp only [octs, List.mem_cons] at hk
        rcases hk with rfl | hk
        · omega
        · exact ih (fun d hd' => hd d (by exact List.mem_cons_of_mem _ hd')) k (by simpa using hk)
  exact key _ (digs_in n) k h
theorem octs_len : ∀ ds : List Int, (octs ds).length = ds.length
  | [] => rfl
  | [d] => rfl
  | d :: e :: r => by rw [octs, List.length_cons, octs_len (e :: r)]; rfl
theorem len_szs (bd : Bool) (a : Int) (i : Nat) : (szs bd a i).length = i := by simp [szs]
section
variable {prog : Program} {w : World} {A : Around} {E : Value → Shared → Prop} {s : Shared} {h₀ : Heap} {L D : Addr} {m : PySem.Str → Option Value} {news news' : List (Addr × Obj)} {vs : List Value} {bd : Bool} {a k : Int} {i c : Nat} {t : Tok} {Q : Value → Shared → Prop}
theorem app_sz (F : Fr h₀ L s.heap m) (N : News h₀ L s.heap news) (U : Upd D (listOf vs.toArray c) (listOf (vs ++ [Value.int k t]).toArray (c + 1)) news news') (hi : IntsAre vs (szs bd a i)) (hl : i < 9)
    (h : ∀ h', Fr h₀ L h' m → News h₀ L h' news' → IntsAre (vs ++ [Value.int k t]) (szs bd a i ++ [k]) → Q .none { s with heap := h' }) : wpAny (model prog w) A (call (.builtin "list.append") [.ref D, .int k t]) Q E s := by
  have e : (vs ++ [Value.int k t]).toArray = vs.toArray.push (.int k t) := by simp
  rw [e] at U
  refine append_K F N U (fun h' F' N' => h h' F' N' (hi.append (.cons _ _ .nil))) ?_
  rw [List.size_toArray, hi.length, len_szs, sizeLine_eq]; omega
end
end Mine
end

section
open PySem PySem.W PySem.Spec PySem.Calls PyProof.Rows
set_option maxRecDepth 100000
namespace Mine
open LCg LCt
theorem all_digit {p : Int → Bool} (h : ((List.range 64).all fun (d : Nat) => p (d : Int)) = true) {d : Int} (h0 : 0 ≤ d) (h1 : d ≤ 63) : p d = true := by
  have := List.all_eq_true.mp h d.toNat (List.mem_range.mpr (by omega))
  rwa [show ((d.toNat : Nat) : Int) = d by omega] at this
theorem h_mid {d : Int} (h0 : 0 ≤ d) (h1 : d ≤ 63) : ((if hOne (64 + d).toNat then 1 else 3 : Nat) : Int) = sgn d false false := by
  have := all_digit (p := fun d => ((if hOne (64 + d).toNat then 1 else 3 : Nat) : Int) == sgn d false false) (by decide +kernel) h0 h1
  simpa using this
theorem h_last {d : Int} (h0 : 0 ≤ d) (h1 : d ≤ 63) : ((if hOne d.toNat then 1 else 3 : Nat) : Int) = sgn d true false := by
  have := all_digit (p := fun d => ((if hOne d.toNat then 1 else 3 : Nat) : Int) == sgn d true false) (by decide +kernel) h0 h1
  simpa using this
theorem h_sum : ∀ ds : List Int, (∀ d ∈ ds, 0 ≤ d ∧ d ≤ 63) → ((sumN (fun c => if hOne c then 1 else 3) ((octs ds).map Int.toNat) : Nat) : Int) = szL false ds
  | [], _ => rfl
  | [d], h => by
    have := h d (by simp)
    simp only [octs, List.map_cons, List.map_nil, sumN, szL, List.isEmpty_nil, Nat.add_zero, Int.add_zero]
    exact h_last this.1 this.2
  | d :: e :: r, h => by
    have h0 := h d (by simp)
    have ih := h_sum (e :: r) fun x hx => h x (List.mem_cons_of_mem _ hx)
    have := h_mid h0.1 h0.2
    rw [octs, List.map_cons, sumN, szL, List.isEmpty_cons, Int.natCast_add, ih, this]
theorem bytes_nat {l : List Int} (h : ∀ k ∈ l, 0 ≤ k ∧ k < 128) : (l.map fun n => n.toNat.toUInt8).map UInt8.toNat = l.map Int.toNat := by
  rw [List.map_map]
  refine List.map_congr_left fun k hk => ?_
  have := h k hk
  simp
  omega
theorem header_n (w : World) (n : Int) (t t2 : Tok) : Ctr 1 w 45 [.bytes ((octs (digs n)).map fun n => n.toNat.toUInt8).toArray t, .str (PySem.Str.ofString "x") t2] [] (fun _ => True)
    (fun h₀ L m news s Q => RetV h₀ L m news s Q (fun v => ∃ y t, v = .str y t ∧ ((y.length : Nat) : Int) = 8 + szL false (digs n) ∧ y.length ≤ 100)) := by
  intro p loose mean mg mb news dp un gd cn cs a ccd cl outer A₀ base h₀ L m s Q E B F X N T hk hp hd hu hret
  have hin : ∀ k ∈ octs (digs n), 0 ≤ k ∧ k < 128 := fun k hk => octs_in hk
  have hl := octs_len (digs n)
  have h4 := digs_len n
  have hne := digs_ne n
  refine header_c w _ t t2 p loose mean mg mb news dp un gd cn cs a ccd cl outer A₀ base h₀ L m s Q E B F X N T hk ⟨?_, ?_, ?_⟩ hd hu ?_
  · intro e
    have : (octs (digs n)).length = 0 := by simpa using congrArg List.length e
    exact hne (List.eq_nil_of_length_eq_zero (by omega))
  · rw [List.length_map]; omega
  · intro b hb
    obtain ⟨k, hk, rfl⟩ := List.mem_map.mp hb
    have := hin k hk
    simp
    omega
  · rintro v h' tk' F' N' ⟨y, t, rfl, e⟩
    rw [bytes_nat hin] at e
    have hs := h_sum (digs n) (digs_in n)
    have hle := sumN_le hOne_le ((octs (digs n)).map Int.toNat)
    rw [List.length_map] at hle
    exact hret _ h' tk' F' N' ⟨y, t, rfl, by omega, by omega⟩
section
variable {prog : Program} {w : World} {A : Around} {E : Value → Shared → Prop} {s : Shared} {h₀ : Heap} {L : Addr} {news : List (Addr × Obj)} {Q : Value → Shared → Prop} {t : Tok}
/-- a text's codes, by a number's octets -/
def codesOf (n : Int) : PySem.Str := ⟨((octs (digs n)).map Int.toNat).toArray⟩
theorem pairs_of {f : Int → PySem.Str} : ∀ {l : List Int} {ys : List Value}, CarriedAll ys (l.map fun k => PyData.str (f k)) → ∃ ps : List (PySem.Str × Tok), strValues ps = ys ∧ ps.map (·.1) = l.map f
  | [], _, .nil => ⟨[], rfl, rfl⟩
  | k :: l, _, .cons (.str _ t) r => by
    obtain ⟨ps, e1, e2⟩ := pairs_of (l := l) r
    exact ⟨(f k, t) :: ps, by rw [← e1]; rfl, by rw [List.map_cons, e2]; rfl⟩
theorem glue_fold : ∀ (l : List Int) (acc : Array Nat), (l.map fun k => PySem.Str.mk #[k.toNat]).foldl (fun acc p => acc ++ (PySem.Str.ofString "").cps ++ p.cps) acc = acc ++ (l.map Int.toNat).toArray
  | [], acc => by simp
  | k :: l, acc => by
    rw [List.map_cons, List.foldl_cons, glue_fold l, show (PySem.Str.ofString "").cps = #[] from rfl]
    simp
theorem join_plain : ∀ l : List Int, Txt.join (PySem.Str.ofString "") (l.map fun k => PySem.Str.mk #[k.toNat]) = ⟨(l.map Int.toNat).toArray⟩
  | [] => rfl
  | k :: l => by
    unfold Txt.join PySem.Builtin.Str.glued
    rw [List.map_cons, List.drop_one, List.tail_cons, List.headD_cons, glue_fold]
    simp
theorem join_codes {D : Addr} {ys : List Value} {n : Int} (N : News h₀ L s.heap news) (hm : (D, LCg.lst ys) ∈ news) (hc : CarriedAll ys ((octs (digs n)).map fun k => PyData.str ⟨#[k.toNat]⟩))
    (h : ∀ t' k, Q (.str (codesOf n) t') { s with toks := k }) : wpAny (model prog w) A (call (.builtin "str.join") [.str (PySem.Str.ofString "") t, .ref D]) Q E s := by
  obtain ⟨ps, e1, e2⟩ := pairs_of (f := fun k => ⟨#[k.toNat]⟩) hc
  subst e1
  refine SC.join (l := ps) ⟨_, (N _ hm).1, rfl, _, rfl⟩ e2 (joinOk_of_weight ?_ (by decide)) fun t' k => ?_
  · have h4 := digs_len n
    have hl := octs_len (digs n)
    have key : ∀ l : List Int, (List.map (fun x => x.length) (List.map (fun (k : Int) => PySem.Str.mk #[k.toNat]) l)).sum = l.length := by
      intro l
      induction l with
      | nil => rfl
      | cons k l ih => rw [List.map_cons, List.map_cons, List.sum_cons, ih, List.length_cons, show (PySem.Str.mk #[k.toNat]).length = 1 from rfl]; omega
    rw [key, List.length_map]; omega
  · rw [join_plain]; exact h t' k
end
end Mine
end

section
open PySem PySem.W PySem.Spec PySem.Calls PyProof.Rows
set_option maxRecDepth 100000
namespace Mine
open LCg LCt
noncomputable def tb (P : Params) (c : Nat) : List Nat := (tabG P 47 c).cps.toList
theorem tb_one (P : Params) {c : Nat} (hc : c < 128) (h : bOne c = true) : tb P c = [c] := by
  have := (at47 P hc).2
  rw [if_pos h] at this
  simpa [tb] using this
theorem tb_three (P : Params) {c : Nat} (hc : c < 128) (h : ¬ bOne c = true) : (tb P c).length = 3 ∧ ∀ e ∈ tb P c, 33 ≤ e ∧ e ≤ 126 := by
  have := (at47 P hc).2
  rw [if_neg h] at this
  unfold three at this
  rw [Bool.and_eq_true_iff] at this
  refine ⟨by simpa [tb] using this.1, fun e he => ?_⟩
  have h2 := Array.all_eq_true_iff_forall_mem.mp this.2 e (by simpa [tb] using he)
  simpa using h2
theorem tb_len (P : Params) {c : Nat} (hc : c < 128) : (tb P c).length = if bOne c then 1 else 3 := by
  by_cases h : bOne c = true
  · rw [tb_one P hc h, if_pos h]; rfl
  · rw [(tb_three P hc h).1, if_neg h]
/-- the signs of the places ahead of the last -/
theorem tb_mid (P : Params) {c : Nat} (h0 : 64 ≤ c) (hc : c < 128) : ∀ e ∈ tb P c, 33 ≤ e ∧ e ≤ 126 := by
  by_cases h : bOne c = true
  · rw [tb_one P hc h]
    intro e he
    obtain rfl := List.mem_singleton.mp he
    have : e ≤ 126 := by unfold bOne at h; simp at h; omega
    omega
  · exact (tb_three P hc h).2
theorem not_break {e : Nat} (h : 33 ≤ e ∧ e ≤ 126) : Unicode.isLineBreak e = false := by
  have : ((List.range 127).all fun e => e < 33 || Unicode.isLineBreak e == false) = true := by decide +kernel
  have := List.all_eq_true.mp this e (List.mem_range.mpr (by omega))
  simpa [show ¬ e < 33 by omega] using this
theorem b_mid {d : Int} (h0 : 0 ≤ d) (h1 : d ≤ 63) : ((if bOne (64 + d).toNat then 1 else 3 : Nat) : Int) = sgn d false true := by
  have := all_digit (p := fun d => ((if bOne (64 + d).toNat then 1 else 3 : Nat) : Int) == sgn d false true) (by decide +kernel) h0 h1
  simpa using this
def lastLen (d : Nat) : Nat := if d = 9 ∨ d = 32 then 3 else if bOne d then 1 else 3
theorem b_last {d : Int} (h0 : 0 ≤ d) (h1 : d ≤ 63) : ((lastLen d.toNat : Nat) : Int) = sgn d true true := by
  have := all_digit (p := fun d => ((lastLen d.toNat : Nat) : Int) == sgn d true true) (by decide +kernel) h0 h1
  simpa using this
/-- the last of a row of codes -/
theorem lastD_snoc (l : List Nat) (d : Nat) : lastD ⟨(l ++ [d]).toArray⟩ = d := by
  unfold lastD
  simp
theorem lastD_mem {l : List Nat} (h : l ≠ []) : lastD ⟨l.toArray⟩ ∈ l := by
  unfold lastD
  have : l.length - 1 < l.length := by have := List.length_pos_iff.mpr h; omega
  simp [Array.getD, this]
theorem getD_mem {l : List Nat} {j : Nat} (h : j < l.length) : l.toArray.getD j 0 ∈ l := by
  simp [Array.getD, h]
/-- what body_encode does with a text: signs yi of the places ahead, the last code d -/
theorem body_facts (P : Params) (yi : List Nat) (hy : ∀ e ∈ yi, 33 ≤ e ∧ e ≤ 126) (hl : yi.length ≤ 9) {d : Nat} (hd : d < 64) :
    ∃ z : PySem.Str, Txt.lines ⟨(yi ++ tb P d).toArray⟩ = [z] ∧ z.length ≤ 12 ∧ lastD z < 128 ∧ bodyLen ⟨(yi ++ tb P d).toArray⟩ z = yi.length + lastLen d := by
  have hd8 : d < 128 := by omega
  by_cases hA : d = 10 ∨ d = 13
  · have hb : bOne d = true := by rcases hA with rfl | rfl <;> decide
    rw [tb_one P hd8 hb]
    refine ⟨_, lines_end (k := yi.length) (by simp) (fun j hj => ?_) ?_, ?_, ?_, ?_⟩
    · have e : (yi ++ [d]).toArray.getD j 0 = yi.toArray.getD j 0 := by simp [Array.getD, hj, Nat.lt_succ_of_lt hj, List.getElem_append_left]
      show Unicode.isLineBreak ((yi ++ [d]).toArray.getD j 0) = false
      rw [e]; exact not_break (hy _ (getD_mem hj))
    · show Unicode.isLineBreak ((yi ++ [d]).toArray.getD yi.length 0) = true
      rw [show (yi ++ [d]).toArray.getD yi.length 0 = d by simp [Array.getD]]
      rcases hA with rfl | rfl <;> decide +kernel
    all_goals have ez : PySem.Builtin.Str.strSub ⟨(yi ++ [d]).toArray⟩ 0 yi.length = ⟨yi.toArray⟩ := by
                unfold PySem.Builtin.Str.strSub; simp
    all_goals rw [ez]
    · show yi.toArray.size ≤ 12; simp; omega
    · by_cases hn : yi = []
      · subst hn; decide
      · have := hy _ (lastD_mem hn); omega
    · unfold bodyLen
      rw [lastD_snoc, if_neg, if_pos (by omega)]
      · show yi.toArray.size + 1 = _
        unfold lastLen
        rw [if_neg (by omega), if_pos hb]; simp
      · rintro ⟨h1, h2⟩
        have hn : yi ≠ [] := by rintro rfl; exact h1 rfl
        have := hy _ (lastD_mem hn); omega
  · by_cases hB : d = 9 ∨ d = 32
    · have hb : bOne d = true := by rcases hB with rfl | rfl <;> decide
      rw [tb_one P hd8 hb]
      refine ⟨_, lines_plain (by simp) (fun j hj => ?_), ?_, ?_, ?_⟩
      · have hj' : j < (yi ++ [d]).length := by simpa using hj
        have hm := getD_mem hj'
        show Unicode.isLineBreak ((yi ++ [d]).toArray.getD j 0) = false
        rcases List.mem_append.mp hm with hm | hm
        · exact not_break (hy _ hm)
        · rw [List.mem_singleton.mp hm]; rcases hB with rfl | rfl <;> decide +kernel
      · show (yi ++ [d]).toArray.size ≤ 12; simp; omega
      · rw [lastD_snoc]; exact hd8
      · unfold bodyLen
        rw [lastD_snoc, if_pos ⟨by simp, by omega⟩, if_neg (by omega)]
        show (yi ++ [d]).toArray.size + 2 + 0 = _
        unfold lastLen
        rw [if_pos hB]; simp
    · have hT : tb P d ≠ [] ∧ ∀ e ∈ tb P d, 33 ≤ e ∧ e ≤ 126 := by
        by_cases h : bOne d = true
        · rw [tb_one P hd8 h]
          refine ⟨by simp, fun e he => ?_⟩
          obtain rfl := List.mem_singleton.mp he
          unfold bOne at h; simp at h; omega
        · refine ⟨fun e => ?_, (tb_three P hd8 h).2⟩
          have h1 := (tb_three P hd8 h).1
          rw [e] at h1
          exact absurd h1 (by decide)
      have hall : ∀ e ∈ yi ++ tb P d, 33 ≤ e ∧ e ≤ 126 := fun e he => (List.mem_append.mp he).elim (hy e) (hT.2 e)
      have hlen := tb_len P hd8
      have hne : yi ++ tb P d ≠ [] := by simp; exact fun _ => hT.1
      have hlast := hall _ (lastD_mem hne)
      have h3 : (tb P d).length ≤ 3 := by rw [hlen]; split <;> decide
      refine ⟨_, lines_plain (by simpa using hne) (fun j hj => ?_), ?_, by omega, ?_⟩
      · have hj' : j < (yi ++ tb P d).length := by simpa using hj
        exact not_break (hall _ (getD_mem hj'))
      · show (yi ++ tb P d).toArray.size ≤ 12; simp; omega
      · unfold bodyLen
        rw [if_neg (by rintro ⟨_, h⟩; omega), if_neg (by omega)]
        show (yi ++ tb P d).toArray.size + 0 = _
        unfold lastLen
        rw [if_neg hB, ← hlen]; simp
theorem body_sum (P : Params) : ∀ ds : List Int, ds ≠ [] → (∀ d ∈ ds, 0 ≤ d ∧ d ≤ 63) → ∃ (yi : List Nat) (d : Nat), (((octs ds).map Int.toNat).flatMap (tb P)) = yi ++ tb P d ∧ (∀ e ∈ yi, 33 ≤ e ∧ e ≤ 126) ∧ yi.length ≤ 3 * (ds.length - 1) ∧ d < 64 ∧ ((yi.length + lastLen d : Nat) : Int) = szL true ds
  | [], h, _ => absurd rfl h
  | [d], _, h => by
    have h0 := h d (by simp)
    refine ⟨[], d.toNat, by simp [octs], by simp, by simp, by omega, ?_⟩
    have := b_last h0.1 h0.2
    simp only [szL, List.isEmpty_nil, List.length_nil]
    omega
  | d :: e :: r, _, h => by
    have h0 := h d (by simp)
    obtain ⟨yi, x, e1, e2, e3, e4, e5⟩ := body_sum P (e :: r) (by simp) fun x hx => h x (List.mem_cons_of_mem _ hx)
    have hc : (64 + d).toNat < 128 := by omega
    have hl := tb_len P hc
    have hm := b_mid h0.1 h0.2
    refine ⟨tb P (64 + d).toNat ++ yi, x, ?_, ?_, ?_, e4, ?_⟩
    · rw [octs, List.map_cons, List.flatMap_cons, e1, List.append_assoc]
    · intro c hc'
      rcases List.mem_append.mp hc' with hc' | hc'
      · exact tb_mid P (by omega) hc c hc'
      · exact e2 c hc'
    · have : (tb P (64 + d).toNat).length ≤ 3 := by rw [hl]; split <;> decide
      simp at e3 ⊢; omega
    · rw [szL, List.isEmpty_cons, ← hm, ← e5, List.length_append, hl]; omega
theorem body_n (w : World) (n : Int) (t : Tok) : Ctr 2 w 58 [.str (codesOf n) t] [] (fun _ => True)
    (fun h₀ L m news s Q => RetV h₀ L m news s Q (fun v => ∃ y t, v = .str y t ∧ ((y.length : Nat) : Int) = szL true (digs n) ∧ y.length ≤ 100)) := by
  intro p loose mean mg mb news dp un gd cn cs a ccd cl outer A₀ base h₀ L m s Q E B F X N T hk hp hd hu hret
  have hl := octs_len (digs n)
  have h4 := digs_len n
  have hne := digs_ne n
  obtain ⟨yi, d, e1, e2, e3, e4, e5⟩ := body_sum w.params (digs n) hne (digs_in n)
  obtain ⟨z, z1, z2, z3, z4⟩ := body_facts w.params yi e2 (by omega) e4
  have hy : tr47 w.params (codesOf n) = ⟨(yi ++ tb w.params d).toArray⟩ := by
    unfold tr47 codesOf
    rw [← e1]; rfl
  have hlen := tb_len w.params (c := d) (by omega)
  have h13 : 1 ≤ (tb w.params d).length ∧ (tb w.params d).length ≤ 3 := by rw [hlen]; split <;> decide
  have hp0 : (digs n).length ≠ 0 := fun e => hne (List.eq_nil_of_length_eq_zero e)
  refine body_c w (codesOf n) ⟨(yi ++ tb w.params d).toArray⟩ z t p loose mean mg mb news dp un gd cn cs a ccd cl outer A₀ base h₀ L m s Q E B F X N T hk ⟨⟨?_, ?_, ?_⟩, hy.symm, ?_, ?_, z1, z2, z3⟩ hd hu ?_
  · simp [codesOf]; exact fun e => hp0 (by rw [← hl, e]; rfl)
  · simp [codesOf]; omega
  · intro c hc
    simp [codesOf] at hc
    obtain ⟨k, hk, rfl⟩ := hc
    have := octs_in hk; omega
  · simp; intro _ e; rw [e] at h13; exact absurd h13.1 (by decide)
  · show (yi ++ tb w.params d).toArray.size ≤ 12
    simp; omega
  · rintro v h' tk' F' N' ⟨r, t, rfl, e⟩
    have hll : lastLen d ≤ 3 := by unfold lastLen; (repeat' split) <;> decide
    exact hret _ h' tk' F' N' ⟨r, t, rfl, by rw [e, z4]; exact e5, by omega⟩
end Mine
end

section
open PySem PySem.W PySem.Spec PySem.Calls PyProof.Rows
set_option maxRecDepth 100000
namespace Mine
local macro_rules | `(tactic| k_ne) => `(tactic| k_extra "k_ne")
local macro_rules | `(tactic| k_updF) => `(tactic| k_extra "k_updF")
open LCg LCt
theorem el_start {led : List (Addr × Obj)} {k : Int} {t : Tok} : KCfEl led (k * 59 % 262144) (.int ((k * 59).fmod (64 ^ Int.toNat 3)) t) led := kcf_el (by rw [show (64 : Int) ^ Int.toNat 3 = 262144 from by decide, Int.fmod_eq_emod_of_nonneg _ (by decide)]) rfl rfl
theorem el_same {led : List (Addr × Obj)} {k : Int} {t : Tok} : KCfEl led k (.int k t) led := kcf_el rfl rfl rfl
theorem starts_in {k : Int} {l : List Int} (h : k ∈ [4090] ++ List.map (fun k => k * 59 % 262144) l) : 0 ≤ k ∧ k < 262144 := by
  simp at h
  rcases h with rfl | ⟨a, _, rfl⟩ <;> omega
section
variable {prog : Program} {w : World} {A : Around} {E : Value → Shared → Prop} {s : Shared} {h₀ : Heap} {L l : Addr} {m : PySem.Str → Option Value} {news : List (Addr × Obj)} {value slice : PySem.Expr} {vs : List Value} {ns : List Int} {c : Nat} {t : Tok} {Q : Value → Shared → Prop}
theorem cut_head (F : Fr h₀ L s.heap m) (N : News h₀ L s.heap news) (hl : (l, listOf vs.toArray c) ∈ news) (hi : IntsAre vs ns) (hz : ns.length ≤ 4)
    (h : ∀ D ws h', Fr h₀ L h' m → News h₀ L h' ((D, listOf (List.toArray ws) 0) :: news) → (∀ p ∈ news, p.1 < D) → IntsAre ws (ns.take (ns.length - 1)) → Q (.ref D) { s with heap := h' })
    (hs : subscripted slice false (.ref l) (.ref s.heap.objs.size) = operate [.ref s.heap.objs.size, .ref l] (getItem (.ref l) (.ref s.heap.objs.size))) (ht : ∀ r, letTemporaryGo value (.ref l) r = pure ()) :
    wpAny (model prog w) A (subscriptTail value slice (.ref l) (.ref s.heap.objs.size)) Q E { s with heap := s.heap.push { cls := .type "slice", data := .fields #[.none, .int (-1) t, .none] } } :=
  kmk_slice_ints F N (News.isList N hl) .none (.int _ _) hi (kmk_upto_neg hi (by decide)) rfl (fun D ws h' F' N' l1 hI _ _ => h D ws h' F' N' l1 hI) hs ht (kmk_sz hi (by rw [sizeLine_eq]; omega))
theorem cut_last (F : Fr h₀ L s.heap m) (N : News h₀ L s.heap news) (hl : (l, listOf vs.toArray c) ∈ news) (hi : IntsAre vs ns) (hz : ns.length ≤ 4)
    (h : ∀ D ws h', Fr h₀ L h' m → News h₀ L h' ((D, listOf (List.toArray ws) 0) :: news) → (∀ p ∈ news, p.1 < D) → IntsAre ws (ns.drop (ns.length - 1)) → Q (.ref D) { s with heap := h' })
    (hs : subscripted slice false (.ref l) (.ref s.heap.objs.size) = operate [.ref s.heap.objs.size, .ref l] (getItem (.ref l) (.ref s.heap.objs.size))) (ht : ∀ r, letTemporaryGo value (.ref l) r = pure ()) :
    wpAny (model prog w) A (subscriptTail value slice (.ref l) (.ref s.heap.objs.size)) Q E { s with heap := s.heap.push { cls := .type "slice", data := .fields #[.int (-1) t, .none, .none] } } :=
  kmk_slice_ints F N (News.isList N hl) (.int _ _) .none hi (kmk_from_neg hi (by decide)) rfl (fun D ws h' F' N' l1 hI _ _ => h D ws h' F' N' l1 hI) hs ht (kmk_sz hi (by rw [sizeLine_eq]; omega))
end
-- made lists
-- calls
theorem hz_body {st z : Int} {ds : List Int} (h : st.fmod 2 = 1) (e : z = szL true ds) : z = szL (st.fmod 2 == 1) ds := by rw [h]; exact e
theorem hz_head {st z : Int} {ds : List Int} (h : st.fmod 2 ≠ 1) (e : z = 8 + szL false ds) : z - 8 = szL (st.fmod 2 == 1) ds := by rw [beq_eq_false_iff_ne.mpr h]; omega
set_option maxHeartbeats 8000000 in
theorem law_w : PySem.Challenge.rw_ny0120_01.Holds := by
  k_with_none
  k_with "eval ListComp" => (k_here; k_dflt (refine LCg.ListComp_U (F₀ := by k_asm) (by with_unfolding_all rfl) (by decide) (by rfl) (by decide) (by rfl) ?_))
  k_with "CompSrc" => (k_here; k_dflt (refine' srcI (fun k => (k * 59) % 262144) ?zhW ?zFW ?zNW ?zmW ?ziW ?zlW (fun k'w t'w I'w o'w C'w p'w D'w m'w y'w h'w q'w E'w hk'w hC'w hx'w F'w N'w off'w => ?_) (fun y'w hy'w D'w h'w k'w F'w N'w off'w => ?_); (case zhW => rfl); (case zFW => k_asm); (case zNW => k_asm); (case zmW => k_mem); (case ziW => assumption); (case zlW => ((simp only [List.length_take]); omega))))
  k_with "CompSrc" => (k_here; (with_reducible show LCg.CompSrc _ _ _ _ _ _ _ (Expr.BinOp (Expr.Constant _ _ _) _ _ _) _ _ _ _ _ _); k_dflt (refine' srcI (fun k => 64 + k) ?zhW ?zFW ?zNW ?zmW ?ziW ?zlW (fun k'w t'w I'w o'w C'w p'w D'w m'w y'w h'w q'w E'w hk'w hC'w hx'w F'w N'w off'w => ?_) (fun y'w hy'w D'w h'w k'w F'w N'w off'w => ?_); (case zhW => rfl); (case zFW => k_asm); (case zNW => k_asm); (case zmW => k_mem); (case ziW => assumption); (case zlW => exact Nat.le_trans (Nat.le_trans (List.length_take_le _ _) (Nat.sub_le _ _)) (Nat.le_trans (digs_len _) (by decide)))))
  k_with "CompSrc" => (k_here; (with_reducible show LCg.CompSrc _ _ _ _ _ _ _ (Expr.Call (Expr.Attribute _ _ _) _ _ _) _ _ _ _ _ _); k_dflt (refine' srcCnt ?zhW ?zFW ?zNW ?zrW ?ziW (fun k'w t'w I'w o'w C'w p'w D'w m'w y'w h'w q'w E'w hlo'w hhi'w hC'w hx'w F'w N'w off'w => ?_) (fun y'w hy'w D'w h'w k'w F'w N'w off'w => ?_); (case zhW => rfl); (case zFW => k_asm); (case zNW => k_asm); (case zrW => assumption); (case ziW => assumption)))
  k_with "CompSrc" => (k_here; (with_reducible show LCg.CompSrc _ _ _ _ _ _ _ (Expr.BinOp (Expr.Subscript _ _ _) _ _ _) _ _ _ _ _ _); k_dflt (refine' srcDif ?zhW ?zFW ?zNW ?zrW ?ziW ?zjW (fun k'w t'w I'w o'w C'w p'w D'w m'w y'w h'w q'w E'w hlo'w hhi'w hC'w hx'w F'w N'w off'w => ?_) (fun y'w hy'w D'w h'w k'w F'w N'w off'w => ?_); (case zhW => rfl); (case zFW => k_asm); (case zNW => k_asm); (case zrW => assumption); (case ziW => assumption); (case zjW => assumption)))
  k_with "subscriptTail" => (k_here; (with_reducible show wpAny _ _ (subscriptTail _ _ (Value.ref _) (Value.int _ _)) _ _ _); k_dflt (refine' item_L ?zNW ?zmW ?ziW ?z0W ?z1W ?z2W (fun t'w => ?_); (case zNW => k_asm); (case zmW => k_mem); (case ziW => assumption); (case z0W => assumption); (case z1W => (rw [len_countsL]; assumption)); (case z2W => exact Int.lt_trans (by assumption) (by decide))))
  k_with "CompSrc" => (k_here; (with_reducible show LCg.CompSrc _ _ _ _ _ _ _ (Expr.Call (Expr.Name _ _) _ _ _) _ _ _ _ _ _); k_dflt (refine' srcS (fun k => PySem.Str.mk #[k.toNat]) ?zhW ?zFW ?zNW ?zmW ?ziW ?zlW (fun k'w t'w I'w o'w C'w p'w D'w m'w y'w h'w q'w E'w hk'w hC'w hx'w F'w N'w off'w => ?_) (fun y'w hy'w D'w h'w k'w F'w N'w off'w => ?_); (case zhW => rfl); (case zFW => k_asm); (case zNW => k_asm); (case zmW => k_mem); (case ziW => assumption); (case zlW => (rw [octs_len]; exact Nat.le_trans (digs_len _) (by decide)))); (all_goals (try (have hk9'w := octs_in hk'w))))
  k_with "KCtEl" => (exact kct_el rfl rfl rfl)
  k_with "CompEnd" => (refine LCg.CompEnd.intro (by k_asm) (by k_asm) _ (fun p hp => hp) (by assumption) (by first | lcg_src | exact True.intro) ?_)
  k_with "KCfEl" => (first | exact el_start | exact el_cnt | exact el_dif | exact el_same)
  k_with "exec For Name BinOp cons nil" => (k_here; (rename Fr _ _ _ _ => lF'w); (with_unfolding_all refine' For_invVF lF'w ?k1W ?k2W ?_; (case k1W => exact rfl); (case k2W => exact rfl); k_whole))
  k_with "exec For" => (k_here; (with_reducible show wpAny _ _ (exec (Stmt.For (Expr.Name _ _) (Expr.BinOp _ _ _ _) _ [] _) _) _ _ _); (rename Fr _ _ _ _ => lF'w); (with_unfolding_all refine' For_invVF lF'w ?k1W ?k2W ?_; (case k1W => exact rfl); (case k2W => exact rfl); k_whole))
  k_with "pyIter ref" => ((with_reducible show wpAny _ _ (pyIter (Value.ref _)) (fun it s₂ => LoopAtV _ _ _ _ _ (PySem.Str.ofString "n") _ _ _ it s₂) _ _); k_dflt (refine' in_rule (by assumption) ?z0W ?zhW ?zrW ?zbW ?zaW ?zFW ?zNW ?r1W IntsAre.nil (fun I'w it'w i'w u'w sv'w sc'w t'w h'w tk'w hi'w hs'w hI'w F'w N'w => ?_) (fun u'w sv'w sc'w h'w tk'w hs'w F'w N'w => ?_); (case zFW => k_asm); (case zNW => k_asm); (case z0W => rfl); (case zhW => rfl); (case zrW => assumption); (case zbW => rfl); (case zaW => assumption); (case r1W => k_updF)); (all_goals (try (have hJ'w := hI'w; simp only [AllLt, and_true] at hJ'w))); (all_goals (try k_sweep)))
  k_with "k_updF" => (first | (refine' Rem.head ?aW; (case aW => k_all)) | (refine' Rem.tail ?aW ?bW; (case aW => k_ne); (case bW => k_updF)))
  k_with "k_ne" => (refine neN ?_; (try dsimp only); first | exact off1_ne (by assumption) (by k_mem) | exact Ne.symm (off1_ne (by assumption) (by k_mem)) | omega)
  k_with "subscriptTail Name Slice ref ref" => (k_here; (with_reducible show wpAny _ _ (subscriptTail _ (PySem.Expr.Slice none (some (Expr.UnaryOp _ _ _)) none _) (Value.ref _) (Value.ref _)) _ _ _); k_dflt (refine' cut_head ?zFW ?zNW ?zlW ?ziW ?zzW ?_ ?zsW ?ztW; (case zFW => k_asm); (case zNW => k_asm); (case zlW => k_mem); (case ziW => assumption); (case zzW => exact digs_len _); (case zsW => with_unfolding_all rfl); (case ztW => kmk_pure)); intro D'w ws'w h'w F'w N'w l1w hI'w; (try k_lt l1w); (try k_sweep))
  k_with "subscriptTail Name Slice ref ref" => (k_here; (with_reducible show wpAny _ _ (subscriptTail _ (PySem.Expr.Slice (some (Expr.UnaryOp _ _ _)) none none _) (Value.ref _) (Value.ref _)) _ _ _); k_dflt (refine' cut_last ?zFW ?zNW ?zlW ?ziW ?zzW ?_ ?zsW ?ztW; (case zFW => k_asm); (case zNW => k_asm); (case zlW => k_mem); (case ziW => assumption); (case zzW => exact digs_len _); (case zsW => with_unfolding_all rfl); (case ztW => kmk_pure)); intro D'w ws'w h'w F'w N'w l1w hI'w; (try k_lt l1w); (try k_sweep))
  k_with "binaryOp Add ref ref" => (k_here; k_dflt (refine' add_octs ?zFW ?zNW ?zlW ?zbW ?ziW ?zjW ?_; (case zFW => k_asm); (case zNW => k_asm); (case zlW => k_mem); (case zbW => k_mem); (case ziW => assumption); (case zjW => assumption)); intro D'w ws'w h'w F'w N'w l1w hI'w; (try k_lt l1w); (try k_sweep))
  k_with "call builtin:iter" => (k_here; k_dflt (refine' li_iter ?zFW ?zNW ?zlW ?_; (case zFW => k_asm); (case zNW => k_asm); (case zlW => k_mem)); intro I'w h'w F'w N'w l1w; (try k_lt l1w); (try k_sweep))
  k_with "call type:bytes" => (k_here; (with_reducible show wpAny _ _ (call (Value.type "bytes") [Value.ref _]) _ _ _); k_dflt (refine' bytes_K ?zFW ?zNW ?zlW ?ziW ?zrW ?zzW ?zhW (fun h'w t'w k'w F'w N'w u'w => ?_); (case zFW => k_asm); (case zNW => k_asm); (case zlW => exact News.isList (by k_asm) (by k_mem)); (case ziW => assumption); (case zrW => exact fun k hk => ⟨(octs_in hk).1, Int.lt_trans (octs_in hk).2 (by decide)⟩); (case zzW => (rw [IntsAre.length (by assumption), octs_len, sizeLine_eq]; exact Nat.le_trans (digs_len _) (by decide))); (case zhW => rfl)); (try k_sweep))
  k_with "call builtin:str.join" => (k_here; k_dflt (refine' join_codes ?zNW ?zmW ?zcW (fun t'w k'w => ?_); (case zNW => k_asm); (case zmW => k_mem); (case zcW => assumption)))
  k_with "call builtin:list.append" => (k_here; k_dflt (refine' app_sz ?zFW ?zNW ?zUW ?ziW ?zlW (fun h'w F'w N'w hs9'w => ?_); (case zFW => k_asm); (case zNW => k_asm); (case zUW => k_upd); (case ziW => assumption); (case zlW => assumption)); (try k_sweep))
  k_with "call ref" => (k_here; (with_reducible show wpAny _ _ (call (Value.ref 45) [Value.bytes _ _, Value.str _ _]) _ _ _); k_dflt (refine' Ctr.use (header_n _ _ _ _) ?k1W ?k2W ?k3W ?k4W ?k5W ?kKW True.intro ?kdW ?kuW (fun v9w h9w t9w F9w N9w r9w => ?_); (case k1W => k_asm); (case k2W => k_asm); (case k3W => k_asm); (case k4W => k_asm); (case k5W => k_asm); (case kKW => first | exact rfl | assumption); (case kdW => ktr_room); (case kuW => ktr_units)); obtain ⟨y9w, t9w, e9w, n9w, b9w⟩ := r9w; subst e9w; (try dsimp only); (try k_fold))
  k_with "call ref" => (k_here; (with_reducible show wpAny _ _ (call (Value.ref 58) [Value.str _ _]) _ _ _); k_dflt (refine' Ctr.use (body_n _ _ _) ?k1W ?k2W ?k3W ?k4W ?k5W ?kKW True.intro ?kdW ?kuW (fun v9w h9w t9w F9w N9w r9w => ?_); (case k1W => k_asm); (case k2W => k_asm); (case k3W => k_asm); (case k4W => k_asm); (case k5W => k_asm); (case kKW => first | exact rfl | assumption); (case kdW => ktr_room); (case kuW => ktr_units)); obtain ⟨y9w, t9w, e9w, n9w, b9w⟩ := r9w; subst e9w; (try dsimp only); (try k_fold))
  k_with "call ref" => (k_here; (with_reducible show wpAny _ _ (call (Value.ref 65) [Value.ref _]) _ _ _); k_dflt (refine' Ctr.use (parse_n _ _ _ _ _ _ ?kiW) ?k1W ?k2W ?k3W ?k4W ?k5W ?kKW ⟨?p1W, ?p2W, ?p3W⟩ ?kdW ?kuW (fun v9w h9w t9w F9w N9w r9w => ?_); (case k1W => k_asm); (case k2W => k_asm); (case k3W => k_asm); (case k4W => k_asm); (case k5W => k_asm); (case kKW => first | exact rfl | assumption); (case p2W => k_mem); (case kiW => assumption); (case p1W => omega); (case p3W => k_all); (case kdW => ktr_room); (case kuW => ktr_units)); obtain ⟨t9w, e9w⟩ := r9w; subst e9w; (try dsimp only); (try k_fold))
  k_with "call ref" => (k_here; (with_reducible show wpAny _ _ (call (Value.ref 87) [Value.int _ _, Value.bool _]) _ _ _); k_dflt (refine' Ctr.use (counts_c _ _ _ _) ?k1W ?k2W ?k3W ?k4W ?k5W ?kKW ?kpW ?kdW ?kuW (fun l9w v9w c9w h9w t9w F9w N9w o9w i9w => ?_); (case k1W => k_asm); (case k2W => k_asm); (case k3W => k_asm); (case k4W => k_asm); (case k5W => k_asm); (case kKW => first | exact rfl | assumption); (case kpW => ((try dsimp only); omega)); (case kdW => ktr_room); (case kuW => ktr_units)); (try dsimp only); (try k_fold))
  k_with "call ref" => (k_here; (with_reducible show wpAny _ _ (call (Value.ref 72) [Value.int _ _]) _ _ _); k_dflt (refine' Ctr.use (digits_c _ _ _) ?k1W ?k2W ?k3W ?k4W ?k5W ?kKW ?kpW ?kdW ?kuW (fun l9w v9w c9w h9w t9w F9w N9w o9w i9w => ?_); (case k1W => k_asm); (case k2W => k_asm); (case k3W => k_asm); (case k4W => k_asm); (case k5W => k_asm); (case kKW => first | exact rfl | assumption); (case kpW => ((try dsimp only); omega)); (case kdW => ktr_room); (case kuW => ktr_units)); (try dsimp only); (try k_fold))
  w_on
  o_law
  refine holds_open (r := PySem.Challenge.rw_ny0120_01.row) (q := vw) (loose := LO) (Xt := XT) (XP := XL vw LV) (Yf := Hook.obs (kHook kG ks ks_eq)) (Ya := Hook.val (kHook kG ks ks_eq)) (YP := Hook.says (kHook kG ks ks_eq)) (N := 35164) left (Hook.of (kHook kG ks ks_eq)) (Hook.keeps (kHook kG ks ks_eq)) (fun s e => xl_of s (Bool.and_eq_true_iff.mp e).1) XL.keeps (by rfl) (by rfl) (by rfl) (fun s e => recFacts_of (Bool.and_eq_true_iff.mp e).2) (by rfl) (by first | assumption | decide +kernel) (by decide +kernel) ⟨rfl, rfl, rfl, rfl, rfl, by decide +kernel⟩ ?hw ?hc
  (case hw => w_witness2)
  (try (rename_i said9; clear said9))
  w_top off
  (k_go0; (all_goals try k_fold); k_steps)
  rename Obj.data _ = Data.cell (bindC _ _ _ _) => e3
  replace e3 : _ = Data.cell none := e3
  rename Obj.data _ = Data.cell (bindC _ _ _ _) => e2
  replace e2 : _ = Data.cell none := e2
  rename Obj.data _ = Data.cell (bindC _ _ _ _) => e1
  replace e1 : _ = Data.cell none := e1
  rename IntsAre _ ([4090] ++ _) => hst
  k_dflt (refine' law_rule ?zL ?zh ?zF ?zN ?m1 ?d1 ?m2 ?d2 ?m3 ?d3 ?zm hst (fun I₀ it₀ st u o1 o2 o3 v1 v2 v3 t h tk hst dd1 dd2 dd3 hI F' N' => ?_) (fun u h tk F' => ?_))
  (case zF => k_asm)
  (case zN => k_asm)
  (case zL => rfl)
  (case zh => rfl)
  (case m1 => k_mem)
  (case d1 => assumption)
  (case m2 => k_mem)
  (case d2 => assumption)
  (case m3 => k_mem)
  (case d3 => assumption)
  (case zm => k_mem)
  · have hb := starts_in hst
    clear hst
    have hB : UseB (st.fmod 2 == 1) := UseB.mk
    clear e1 e2 e3
    k_sweep
    k_steps
    · exact in_end (by k_asm) (by k_asm) (by k_mem) (by k_mem) (by assumption) (hz_body (by assumption) (by assumption)) (by kcf_all) (by assumption) agN
    · exact in_end (by k_asm) (by k_asm) (by k_mem) (by k_mem) (by assumption) (hz_head (by assumption) (by assumption)) (by kcf_all) (by assumption) agN
    · exact law_end (by k_asm) (by k_asm) (by k_mem) (by k_mem) (by assumption) (by k_mem) (by assumption) (by k_mem) (by assumption) (by k_mem) (by assumption) agL
    · exact absurd (law_plain _ hb.1 hb.2) (by assumption)
  · k_sweep
    k_steps
end Mine
end

theorem PySem.Challenge.cw_ny0120_01_holds : PySem.Challenge.rw_ny0120_01.Holds :=
  Mine.law_w
