/- Plain laws of lists for FnPlacesOf: what rising, placeOf and searchInts answer at lines that rise. -/
import Derived.Test.YtlnimjpigghbmaaPFnPlacesOfx1
import Derived.IntWalk
namespace Go.Proofs.Ytlnimjpigghbmaa
open Go.RowKit Go.Proofs.YtlnimjpigghbmaaW.PrintWords Go.Proofs.YtlnimjpigghbmaaW.PrintLast
open PFnPlacesOf

/-- Lines that rise above a number, up to 2,000. -/
def Asc (l : List Int) (last : Int) : Prop := ∀ i, i < l.length → (if i = 0 then last else l.getD (i - 1) 0) < l.getD i 0 ∧ l.getD i 0 ≤ 2000

theorem Asc.lt {l : List Int} (h : Asc l 0) : ∀ i j, i < j → j < l.length → l.getD i 0 < l.getD j 0 := by
  intro i j hij hj
  induction j with
  | zero => omega
  | succ j ih =>
    have h1 := (h (j + 1) hj).1
    rw [if_neg (by omega), Nat.add_sub_cancel] at h1
    rcases Nat.lt_or_ge i j with h2 | h2
    · have := ih h2 (by omega); omega
    · obtain rfl : i = j := by omega
      exact h1

theorem Asc.pos {l : List Int} (h : Asc l 0) : ∀ i, i < l.length → 0 < l.getD i 0 ∧ l.getD i 0 ≤ 2000 := by
  intro i hi
  refine ⟨?_, (h i hi).2⟩
  rcases Nat.eq_zero_or_pos i with rfl | h0
  · exact (h 0 hi).1
  · have h1 := h.lt 0 i h0 hi
    have h2 := (h 0 (by omega)).1
    rw [if_pos rfl] at h2
    omega

/-- The place among the lines behind 0: i lines begin at x or ahead of it. -/
def Sep (l : List Int) (x : Int) (i : Nat) : Prop := i ≤ l.length ∧ (∀ j, j < i → l.getD j 0 ≤ x) ∧ ∀ j, i ≤ j → j < l.length → x < l.getD j 0

theorem sep_of (l : List Int) (h : Asc l 0) (x : Int) : ∃ i, Sep l x i := by
  suffices H : ∀ n, n ≤ l.length → ∃ i, i ≤ n ∧ (∀ j, j < i → l.getD j 0 ≤ x) ∧ ∀ j, i ≤ j → j < n → x < l.getD j 0 by
    obtain ⟨i, h1, h2, h3⟩ := H l.length (Nat.le_refl _)
    exact ⟨i, h1, h2, h3⟩
  intro n
  induction n with
  | zero => exact fun _ => ⟨0, Nat.le_refl _, fun j hj => by omega, fun j h1 h2 => by omega⟩
  | succ n ih =>
    intro hn
    obtain ⟨i, h1, h2, h3⟩ := ih (by omega)
    by_cases hx : l.getD n 0 ≤ x
    · refine ⟨n + 1, Nat.le_refl _, fun j hj => ?_, fun j hj hj' => by omega⟩
      rcases Nat.lt_or_ge j n with hjn | hjn
      · have := h.lt j n hjn (by omega); omega
      · obtain rfl : j = n := by omega
        exact hx
    · refine ⟨i, by omega, h2, fun j hj hj' => ?_⟩
      rcases Nat.lt_or_ge j n with hjn | hjn
      · exact h3 j hj hjn
      · obtain rfl : j = n := by omega
        omega

/-- Where the line begins that is the i-th behind 0. -/
def begins (l : List Int) (i : Nat) : Int := if i = 0 then 0 else l.getD (i - 1) 0

theorem wr {n : Int} (h : -9223372036854775808 ≤ n ∧ n ≤ 9223372036854775807) : wrap64 n = n := IntWalk.wrap64_in n h

theorem rd_at (l : List Int) (i : Nat) : rd l (i : Int) = l.getD i 0 := by simp [rd]

theorem rising_ends (l : List Int) (hl : l.length ≤ 9223372036854775806) : ∃ k b, laws_rising.f k l = some b ∧ (b = true → Asc l 0 ∧ l.length ≤ 50) := by
  suffices H : ∀ (d i : Nat) (last : Int), i + d = l.length → last = begins l i → (∀ j, j < i → (if j = 0 then 0 else l.getD (j - 1) 0) < l.getD j 0 ∧ l.getD j 0 ≤ 2000) →
      ∃ b, laws_rising.l0 (d + 1) l last l (l.length : Int) (i : Int) = some b ∧ (b = true → Asc l 0 ∧ l.length ≤ 50) by
    obtain ⟨b, h1, h2⟩ := H l.length 0 0 (by omega) rfl (fun j hj => by omega)
    exact ⟨l.length + 1, b, h1, h2⟩
  intro d
  induction d with
  | zero =>
    intro i last hi _ hj
    refine ⟨_, by rw [laws_rising.l0, if_neg (by omega)], fun hb => ⟨fun j hj' => ?_, by have := of_decide_eq_true hb; omega⟩⟩
    exact hj j (by omega)
  | succ d ih =>
    intro i last hi hlast hj
    rw [laws_rising.l0, if_pos (by omega), if_pos (by omega), if_pos (by omega), rd_at]
    by_cases h1 : l.getD i 0 ≤ last
    · rw [if_pos h1]
      exact ⟨false, rfl, fun h => by cases h⟩
    rw [if_neg h1]
    by_cases h2 : l.getD i 0 > 2000
    · rw [if_pos h2]
      exact ⟨false, rfl, fun h => by cases h⟩
    rw [if_neg h2, wr (by omega), show ((i : Int) + 1) = ((i + 1 : Nat) : Int) from rfl]
    refine ih (i + 1) _ (by omega) (by simp [begins]) (fun j hj' => ?_)
    rcases Nat.lt_or_ge j i with hji | hji
    · exact hj j hji
    · obtain rfl : j = i := by omega
      have : last = (if j = 0 then 0 else l.getD (j - 1) 0) := hlast
      rw [← this]
      exact ⟨by omega, by omega⟩

theorem placeOf_ends (l : List Int) (h : Asc l 0) (hl : l.length ≤ 50) (x : Int) (hx : 0 ≤ x) (hx' : x ≤ 2000) (i : Nat) (hs : Sep l x i) :
    laws_placeOf.f 60 l x = some ((i : Int) + 1, x - begins l i + 1) := by
  have hb : ∀ k, k ≤ l.length → 0 ≤ begins l k ∧ begins l k ≤ 2000 := by
    intro k hk
    unfold begins
    split
    · omega
    · have := h.pos (k - 1) (by omega); omega
  have hi := hs.1
  suffices H : ∀ (d k n : Nat), k + d = l.length → d < n → laws_placeOf.l0 n x ((min k i : Nat) + 1) (begins l (min k i)) l (l.length : Int) (k : Int) = some ((i : Int) + 1, x - begins l i + 1) by
    have := H l.length 0 60 (by omega) (by omega)
    simpa [laws_placeOf.f, begins] using this
  intro d
  induction d with
  | zero =>
    intro k n hk hn
    obtain ⟨n, rfl⟩ : ∃ m, n = m + 1 := ⟨n - 1, by omega⟩
    have e : min k i = i := by omega
    have := hb i hi
    rw [laws_placeOf.l0, if_neg (by omega), e, wr (by rw [wr (by omega)]; omega), wr (by omega)]
  | succ d ih =>
    intro k n hk hn
    obtain ⟨n, rfl⟩ : ∃ m, n = m + 1 := ⟨n - 1, by omega⟩
    rw [laws_placeOf.l0, if_pos (by omega), if_pos (by omega), if_pos (by omega), rd_at, wr (n := (k : Int) + 1) (by omega), show ((k : Int) + 1) = ((k + 1 : Nat) : Int) from rfl]
    by_cases hki : k < i
    · rw [if_pos (hs.2.1 k hki), wr (by omega)]
      have e1 : min k i = k := by omega
      have e2 : min (k + 1) i = k + 1 := by omega
      have := ih (k + 1) n (by omega) (by omega)
      rw [e2] at this
      rw [e1]
      simpa [begins] using this
    · have := hs.2.2 k (by omega) (by omega)
      rw [if_neg (by omega)]
      have e1 : min k i = i := by omega
      have e2 : min (k + 1) i = i := by omega
      have := ih (k + 1) n (by omega) (by omega)
      rw [e2] at this
      rw [e1]
      exact this

theorem getD_cons (l : List Int) (a : Int) (i : Nat) : (a :: l).getD i 0 = if i = 0 then a else l.getD (i - 1) 0 := by
  cases i <;> simp

theorem searchInts_ends (l : List Int) (hl : l.length ≤ 50) (x : Int) (hx : 0 ≤ x) (i : Nat) (hs : Sep l x i) :
    token_searchInts.f 60 (0 :: l) x = some (i : Int) := by
  have hlen : (0 :: l).length = l.length + 1 := rfl
  suffices H : ∀ (d a b n : Nat), b - a = d → d < n → a ≤ i + 1 → i + 1 ≤ b → b ≤ l.length + 1 → token_searchInts.l0 n (0 :: l) x (a : Int) (b : Int) = some (i : Int) by
    have := H (l.length + 1) 0 (l.length + 1) 60 (by omega) (by omega) (by omega) (by have := hs.1; omega) (by omega)
    simpa [token_searchInts.f] using this
  intro d
  induction d using Nat.strongRecOn with
  | ind d ih =>
    intro a b n hd hn ha hb hbl
    obtain ⟨n, rfl⟩ : ∃ m, n = m + 1 := ⟨n - 1, by omega⟩
    rw [token_searchInts.l0]
    by_cases hab : a < b
    · have em : wrap64 ((a : Int) + wrap64 (Int.tdiv (wrap64 ((b : Int) - a)) 2)) = ((a + (b - a) / 2 : Nat) : Int) := by
        rw [wr (n := (b : Int) - a) (by omega), show ((b : Int) - a) = ((b - a : Nat) : Int) by omega, show (2 : Int) = ((2 : Nat) : Int) from rfl, ← Int.ofNat_tdiv, wr (n := (((b - a) / 2 : Nat) : Int)) (by omega), wr (by omega)]
        omega
      rw [if_pos (by omega), em, if_pos (by omega), if_pos (by rw [hlen]; omega), rd_at, getD_cons]
      generalize hm : a + (b - a) / 2 = m
      have hm1 : a ≤ m := by omega
      have hm2 : m < b := by omega
      by_cases hmi : m ≤ i
      · have hle : (if m = 0 then (0 : Int) else l.getD (m - 1) 0) ≤ x := by
          split
          · exact hx
          · exact hs.2.1 (m - 1) (by omega)
        rw [if_pos hle, wr (by omega), show ((m : Int) + 1) = ((m + 1 : Nat) : Int) from rfl]
        exact ih (b - (m + 1)) (by omega) (m + 1) b n rfl (by omega) (by omega) hb hbl
      · have hgt : ¬ (if m = 0 then (0 : Int) else l.getD (m - 1) 0) ≤ x := by
          rw [if_neg (by omega)]
          have := hs.2.2 (m - 1) (by omega) (by omega)
          omega
        rw [if_neg hgt]
        exact ih (m - a) (by omega) a m n (by omega) (by omega) ha (by omega) (by omega)
    · rw [if_neg (by omega), wr (by omega)]
      congr 1
      omega

end Go.Proofs.Ytlnimjpigghbmaa
