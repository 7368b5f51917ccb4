/-
  The plain law: how two rows of bytes compare. No program in sight.
-/
import Derived.Lib.Bytealg
import Derived.Lib.BytesEntry
namespace Go.Proofs.Qxb6613250a

/-- The first l numbers of z as bytes. -/
def bl (l : Nat) (z : Nat → Int) : List Int := (List.range l).map z

/-- How l numbers z compare with m numbers y: by the first place where they differ, then by the lengths. -/
def cmpF (l : Nat) (z : Nat → Int) (m : Nat) (y : Nat → Int) : Int :=
  match (List.range (min l m)).find? fun i => z i != y i with
  | some i => if z i < y i then -1 else 1
  | none => if l < m then -1 else if m < l then 1 else 0

theorem bl_length (l : Nat) (z : Nat → Int) : (bl l z).length = l := by simp [bl]

theorem bytes_length (l : Nat) (z : Nat → Int) : (Lib.bytesOf (bl l z)).length = l := by simp [Lib.bytesOf, bl]

theorem bytes_getD (l : Nat) (z : Nat → Int) (i : Nat) (h : i < l) : (Lib.bytesOf (bl l z)).getD i 0 = (z i).toNat.toUInt8 := by
  simp [Lib.bytesOf, bl, List.getD, h]

theorem byte_eq {a b : Int} (ha : 0 ≤ a ∧ a ≤ 255) (hb : 0 ≤ b ∧ b ≤ 255) : (a.toNat.toUInt8 != b.toNat.toUInt8) = (a != b) := by
  have h : a.toNat.toUInt8 = b.toNat.toUInt8 ↔ a = b := by
    constructor
    · intro h
      have := congrArg UInt8.toNat h
      simp only [Nat.toUInt8_eq, UInt8.toNat_ofNat'] at this
      omega
    · intro h
      rw [h]
  rw [Bool.eq_iff_iff, bne_iff_ne, bne_iff_ne, ne_eq, ne_eq, h]

theorem byte_lt {a b : Int} (ha : 0 ≤ a ∧ a ≤ 255) (hb : 0 ≤ b ∧ b ≤ 255) : (a.toNat.toUInt8 < b.toNat.toUInt8) ↔ a < b := by
  rw [UInt8.lt_iff_toNat_lt]
  simp only [Nat.toUInt8_eq, UInt8.toNat_ofNat']
  omega

theorem find_congr {l : List Nat} {p q : Nat → Bool} (h : ∀ i, i ∈ l → p i = q i) : l.find? p = l.find? q := by
  induction l with
  | nil => rfl
  | cons x xs ih =>
    rw [List.find?_cons, List.find?_cons, h x (by simp), ih fun i hi => h i (by simp [hi])]

theorem cmpL_cmpF (l m : Nat) (z y : Nat → Int) (hz : ∀ k, k < l → 0 ≤ z k ∧ z k ≤ 255) (hy : ∀ k, k < m → 0 ≤ y k ∧ y k ≤ 255) :
    Lib.cmpL (Lib.bytesOf (bl l z)) (Lib.bytesOf (bl m y)) = cmpF l z m y := by
  unfold Lib.cmpL cmpF
  rw [bytes_length, bytes_length]
  rw [find_congr (q := fun i => z i != y i) (by
    intro i hi
    have hi' := List.mem_range.1 hi
    rw [bytes_getD l z i (by omega), bytes_getD m y i (by omega), byte_eq (hz i (by omega)) (hy i (by omega))])]
  cases hf : (List.range (min l m)).find? fun i => z i != y i with
  | none => rfl
  | some i =>
    have hi := List.mem_range.1 (List.mem_of_find?_eq_some hf)
    simp only
    rw [bytes_getD l z i (by omega), bytes_getD m y i (by omega)]
    simp only [byte_lt (hz i (by omega)) (hy i (by omega))]

theorem compareBytes_cmpF (l m : Nat) (z y : Nat → Int) (hz : ∀ k, k < l → 0 ≤ z k ∧ z k ≤ 255) (hy : ∀ k, k < m → 0 ≤ y k ∧ y k ≤ 255) :
    Lib.compareBytes (Lib.bytesOf (bl l z)) (Lib.bytesOf (bl m y)) = cmpF l z m y := by
  rw [← Lib.cmpL_eq, cmpL_cmpF l m z y hz hy]

/-- At the first place where they differ. -/
theorem cmpF_at {l m : Nat} {z y : Nat → Int} {p : Nat} (hl : p < l) (hm : p < m) (he : ∀ r, r < p → z r = y r) (hd : z p ≠ y p) : cmpF l z m y = if z p < y p then -1 else 1 := by
  have hf : (List.range (min l m)).find? (fun i => z i != y i) = some p := by
    rw [List.find?_range_eq_some]
    refine ⟨by simpa using hd, by simp; omega, fun j hj => by simpa using he j hj⟩
  unfold cmpF
  rw [hf]

/-- Where one is the head of the other. -/
theorem cmpF_end {l m : Nat} {z y : Nat → Int} (he : ∀ r, r < min l m → z r = y r) : cmpF l z m y = if l < m then -1 else if m < l then 1 else 0 := by
  have hf : (List.range (min l m)).find? (fun i => z i != y i) = none := by
    rw [List.find?_range_eq_none]
    intro i hi
    simpa using he i hi
  unfold cmpF
  rw [hf]

/-- What Less answers. -/
def lessF (l : Nat) (z : Nat → Int) (m : Nat) (y : Nat → Int) (o q : Int) : Bool :=
  if cmpF l z m y = 0 then decide (o < q) else decide (cmpF l z m y < 0)

theorem lessF_at {l m : Nat} {z y : Nat → Int} {p : Nat} (o q : Int) (hl : p < l) (hm : p < m) (he : ∀ r, r < p → z r = y r) (hd : z p ≠ y p) : lessF l z m y o q = decide (z p < y p) := by
  unfold lessF
  rw [cmpF_at hl hm he hd]
  by_cases h : z p < y p <;> simp [h]

theorem lessF_end {l m : Nat} {z y : Nat → Int} (o q : Int) (he : ∀ r, r < min l m → z r = y r) : lessF l z m y o q = if l < m then true else if m < l then false else decide (o < q) := by
  unfold lessF
  rw [cmpF_end he]
  by_cases h : l < m
  · simp [h]
  · by_cases h2 : m < l <;> simp [h, h2]

/-- Do the two rows hold the same? -/
def sameF (l : Nat) (z : Nat → Int) (m : Nat) (y : Nat → Int) : Bool := decide (l = m ∧ ∀ r, r < l → z r = y r)

/-- Either some place differs, or one is the head of the other. -/
theorem first_diff (l m : Nat) (z y : Nat → Int) : (∃ p, p < l ∧ p < m ∧ (∀ r, r < p → z r = y r) ∧ z p ≠ y p) ∨ (∀ r, r < min l m → z r = y r) := by
  cases hf : (List.range (min l m)).find? (fun i => z i != y i) with
  | none =>
    right
    rw [List.find?_range_eq_none] at hf
    intro r hr
    simpa using hf r hr
  | some p =>
    left
    rw [List.find?_range_eq_some] at hf
    obtain ⟨h1, h2, h3⟩ := hf
    have h2' : p < min l m := by simpa using h2
    exact ⟨p, by omega, by omega, fun r hr => by simpa using h3 r hr, by simpa using h1⟩

/-- Rows that hold the same go by their orders. -/
theorem lessF_same {l m : Nat} {z y : Nat → Int} (o q : Int) (h : sameF l z m y = true) : lessF l z m y o q = decide (o < q) := by
  obtain ⟨rfl, he⟩ := of_decide_eq_true h
  rw [lessF_end o q (fun r hr => he r (by omega))]
  simp

/-- Of rows that differ just one way is less. -/
theorem lessF_differ {l m : Nat} {z y : Nat → Int} (o q : Int) (h : sameF l z m y = false) : lessF l z m y o q = !lessF m y l z q o := by
  have hn := of_decide_eq_false h
  rcases first_diff l m z y with ⟨p, hl, hm, he, hd⟩ | he
  · rw [lessF_at o q hl hm he hd, lessF_at q o hm hl (fun r hr => (he r hr).symm) (Ne.symm hd)]
    by_cases hlt : z p < y p
    · have : ¬ y p < z p := by omega
      simp [hlt, this]
    · have : y p < z p := by omega
      simp [hlt, this]
  · rw [lessF_end o q he, lessF_end q o (fun r hr => (he r (by omega)).symm)]
    by_cases h1 : l < m
    · have : ¬ m < l := by omega
      simp [h1, this]
    · by_cases h2 : m < l
      · simp [h1, h2]
      · exact absurd ⟨by omega, fun r hr => he r (by omega)⟩ hn

/-- Less looks at the first l and m numbers alone. -/
theorem cmpF_congr {l m : Nat} {z z' y y' : Nat → Int} (hz : ∀ k, k < l → z k = z' k) (hy : ∀ k, k < m → y k = y' k) : cmpF l z m y = cmpF l z' m y' := by
  rcases first_diff l m z y with ⟨p, hl, hm, he, hd⟩ | he
  · rw [cmpF_at hl hm he hd, cmpF_at hl hm (fun r hr => by rw [← hz r (by omega), ← hy r (by omega)]; exact he r hr) (by rw [← hz p hl, ← hy p hm]; exact hd), hz p hl, hy p hm]
  · rw [cmpF_end he, cmpF_end fun r hr => by rw [← hz r (by omega), ← hy r (by omega)]; exact he r hr]
end Go.Proofs.Qxb6613250a
