/-
  Seat b5709a: the heap's plain law: no Go in sight.
-/
import Derived.Test.YbulkdnfcUp
namespace Go.Proofs.Ybulkdnfc
set_option linter.unusedVariables false

/-- x may stand above y. -/
def Le (c : Cfg) (x y : Nat) : Prop := ltB c y x = false

theorem ltB_iff (c : Cfg) (x y : Nat) : ltB c x y = true ↔ (c.at_ x < c.at_ y ∨ (c.at_ x = c.at_ y ∧ c.rk x < c.rk y)) := by
  unfold ltB
  by_cases h : c.at_ x = c.at_ y
  · rw [if_pos h]; simp [h]
  · rw [if_neg h]; simp [h]
theorem Le_iff (c : Cfg) (x y : Nat) : Le c x y ↔ ¬ (c.at_ y < c.at_ x ∨ (c.at_ y = c.at_ x ∧ c.rk y < c.rk x)) := by
  rw [Le, ← ltB_iff]; simp
theorem Le.trans {c : Cfg} {x y z : Nat} (h : Le c x y) (k : Le c y z) : Le c x z := by
  rw [Le_iff] at *; omega
theorem Le.of_lt {c : Cfg} {x y : Nat} (h : ltB c x y = true) : Le c x y := by
  rw [Le_iff]; rw [ltB_iff] at h; omega

def Inj (L : Array Nat) : Prop := ∀ a b, a < L.size → b < L.size → at0 L a = at0 L b → a = b

theorem Inj.swap {L : Array Nat} (h : Inj L) {i j : Nat} (hi : i < L.size) (hj : j < L.size) : Inj (L.swap i j hi hj) := by
  intro a b ha hb e
  have ha' : a < L.size := by simpa using ha
  have hb' : b < L.size := by simpa using hb
  rw [at0_swap L i j hi hj a ha', at0_swap L i j hi hj b hb'] at e
  by_cases a1 : a = i <;> by_cases b1 : b = i
  · omega
  · rw [if_pos a1, if_neg b1] at e
    by_cases b2 : b = j
    · rw [if_pos b2] at e
      have := h j i hj hi e
      omega
    · rw [if_neg b2] at e
      have := h j b hj hb' e
      omega
  · rw [if_neg a1, if_pos b1] at e
    by_cases a2 : a = j
    · rw [if_pos a2] at e
      have := h i j hi hj e
      omega
    · rw [if_neg a2] at e
      have := h a j ha' hj e
      omega
  · rw [if_neg a1, if_neg b1] at e
    by_cases a2 : a = j <;> by_cases b2 : b = j
    · omega
    · rw [if_pos a2, if_neg b2] at e
      have := h i b hi hb' e
      omega
    · rw [if_neg a2, if_pos b2] at e
      have := h a i ha' hi e
      omega
    · rw [if_neg a2, if_neg b2] at e
      exact h a b ha' hb' e

/-- In heap order from place s on: no entry comes before its parent, where the parent stands at s or behind. -/
def HeapFrom (c : Cfg) (L : Array Nat) (s : Nat) : Prop := ∀ k, k < L.size → 0 < k → s ≤ (k - 1) / 2 → Le c (at0 L ((k - 1) / 2)) (at0 L k)

/-- .. but for what stands at j, which is on its way down. -/
structure Sift (c : Cfg) (L : Array Nat) (s j : Nat) : Prop where
  sj : s ≤ j
  a : ∀ k, k < L.size → 0 < k → s ≤ (k - 1) / 2 → (k - 1) / 2 ≠ j → Le c (at0 L ((k - 1) / 2)) (at0 L k)
  b : j ≠ s → ∀ k, k < L.size → 0 < k → (k - 1) / 2 = j → Le c (at0 L ((j - 1) / 2)) (at0 L k)
  up : j ≠ s → 0 < j ∧ s ≤ (j - 1) / 2

theorem Sift.start {c : Cfg} {L : Array Nat} {s : Nat} (h : HeapFrom c L (s + 1)) : Sift c L s s :=
  ⟨Nat.le_refl _, fun k hk h0 hs hne => h k hk h0 (by omega), fun h => absurd rfl h, fun h => absurd rfl h⟩

/-- Its children do not come before it: done. -/
theorem Sift.done {c : Cfg} {L : Array Nat} {s j : Nat} (h : Sift c L s j) (hc : ∀ k, k < L.size → 0 < k → (k - 1) / 2 = j → Le c (at0 L j) (at0 L k)) : HeapFrom c L s := by
  intro k hk h0 hs
  by_cases e : (k - 1) / 2 = j
  · rw [e]; exact hc k hk h0 e
  · exact h.a k hk h0 hs e

/-- It changes places with its least child. -/
theorem Sift.down {c : Cfg} {L : Array Nat} {s j m : Nat} (h : Sift c L s j) (hj : j < L.size) (hm : m < L.size) (hmj : 0 < m ∧ (m - 1) / 2 = j) (hlt : ltB c (at0 L m) (at0 L j) = true)
    (hmin : ∀ k, k < L.size → 0 < k → (k - 1) / 2 = j → Le c (at0 L m) (at0 L k)) : Sift c (L.swap j m hj hm) s m := by
  have hsj := h.sj
  have hs : (L.swap j m hj hm).size = L.size := by simp
  have hjm : j < m := by omega
  refine ⟨by omega, fun k hk h0 hsk hne => ?_, fun hms k hk h0 hkm => ?_, fun _ => ⟨hmj.1, by omega⟩⟩
  · rw [hs] at hk
    rw [at0_swap L j m hj hm k hk, at0_swap L j m hj hm ((k - 1) / 2) (by omega)]
    rw [if_neg (c := (k - 1) / 2 = m) hne]
    by_cases e : (k - 1) / 2 = j
    · rw [if_pos e, if_neg (by omega)]
      by_cases ek : k = m
      · rw [if_pos ek]; exact Le.of_lt hlt
      · rw [if_neg ek]; exact hmin k hk h0 e
    · rw [if_neg e]
      by_cases ek : k = j
      · subst ek
        rw [if_pos rfl]
        by_cases es : k = s
        · subst es; omega
        · exact h.b es m hm hmj.1 hmj.2
      · rw [if_neg ek, if_neg (by intro e2; subst e2; exact e hmj.2)]
        exact h.a k hk h0 hsk e
  · rw [hs] at hk
    rw [hmj.2, at0_swap L j m hj hm k hk, at0_swap L j m hj hm j hj, if_pos rfl, if_neg (by omega), if_neg (by omega)]
    have := h.a k hk h0 (by omega) (by omega)
    rwa [hkm] at this

/-- The items' indices are their places, but for what stands at j. -/
def IdxBut (L : Array Nat) (J : Nat → Int) (j : Nat) : Prop := ∀ k, k < L.size → k ≠ j → J (at0 L k) = (k : Int)
def Idx (L : Array Nat) (J : Nat → Int) : Prop := ∀ k, k < L.size → J (at0 L k) = (k : Int)

theorem IdxBut.move {L : Array Nat} {J : Nat → Int} {j m : Nat} (h : IdxBut L J j) (hI : Inj L) (hj : j < L.size) (hm : m < L.size) (hjm : j ≠ m) : IdxBut (L.swap j m hj hm) (upd J (at0 L m) j) m := by
  intro k hk hkm
  have hk' : k < L.size := by simpa using hk
  rw [at0_swap L j m hj hm k hk']
  by_cases e : k = j
  · subst e; rw [if_pos rfl, upd_same]
  · rw [if_neg e, if_neg hkm, upd_other _ _ _ _ (fun he => hkm (hI k m hk' hm he))]
    exact h k hk' e

theorem IdxBut.fill {L : Array Nat} {J : Nat → Int} {j : Nat} (h : IdxBut L J j) (hI : Inj L) (hj : j < L.size) : Idx L (upd J (at0 L j) j) := by
  intro k hk
  by_cases e : k = j
  · subst e; rw [upd_same]
  · rw [upd_other _ _ _ _ (fun he => e (hI k j hk hj he))]
    exact h k hk e

theorem at0_mem {L : Array Nat} {k : Nat} (hk : k < L.size) : at0 L k ∈ L := by
  simp [at0, Array.getD, hk]

/-- Of items that are not in the queue nothing turns. -/
def Out (L : Array Nat) (J J' : Nat → Int) : Prop := ∀ id, id ∉ L → J' id = J id
theorem Out.upd {L : Array Nat} {J J' : Nat → Int} (h : Out L J J') {x : Nat} (hx : x ∈ L) (v : Int) : Out L J (upd J' x v) := by
  intro id hid
  rw [upd_other J' x v id (fun e => hid (by rw [e]; exact hx))]
  exact h id hid

end Go.Proofs.Ybulkdnfc
