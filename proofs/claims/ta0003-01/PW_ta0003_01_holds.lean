import PyProof.Rows.All
import Wide.All
import OpenK.AllK
import Wide.FinOn
import PySem.Challenge.RW_ta0003_01
set_option Elab.async false
set_option rowWalk.seconds 0

section
open PySem PySem.W PyProof.Rows
namespace Mine
set_option maxRecDepth 100000 in
set_option maxHeartbeats 8000000 in
open_top hd for PySem.Challenge.rw_ta0003_01
end Mine
end

section
open PySem PyProof.Rows PySem.W
namespace Mine
open PySem.Builtin (bitAnd bitOr bitNot bitXor)

/-! ## Daykin's theorem on whole numbers as sets of places -/

theorem four (a0 a1 b0 b1 c0 c1 d0 d1 : Nat) (h00 : a0 * b0 ≤ c0 * d0) (h01 : a0 * b1 ≤ c1 * d0) (h10 : a1 * b0 ≤ c1 * d0) (h11 : a1 * b1 ≤ c1 * d1) :
    (a0 + a1) * (b0 + b1) ≤ (c0 + c1) * (d0 + d1) := by
  have key : a0 * b1 + a1 * b0 ≤ c1 * d0 + c0 * d1 := by
    have hpq : (a0 * b1) * (a1 * b0) ≤ (c1 * d0) * (c0 * d1) := by
      have h := Nat.mul_le_mul h00 h11
      have e1 : (a0 * b1) * (a1 * b0) = a0 * b0 * (a1 * b1) := by
        rw [Nat.mul_mul_mul_comm, Nat.mul_comm b1 b0, ← Nat.mul_mul_mul_comm]
      have e2 : (c1 * d0) * (c0 * d1) = c0 * d0 * (c1 * d1) := by
        rw [Nat.mul_mul_mul_comm, Nat.mul_comm c1 c0, ← Nat.mul_mul_mul_comm]
      rw [e1, e2]; exact h
    generalize a0 * b1 = p at *
    generalize a1 * b0 = q at *
    generalize c1 * d0 = u at *
    generalize c0 * d1 = v at *
    rcases Nat.eq_zero_or_pos u with h0 | h0
    · omega
    · obtain ⟨x, rfl⟩ := Nat.exists_eq_add_of_le h01
      obtain ⟨y, hy⟩ := Nat.exists_eq_add_of_le h10
      refine Nat.le_of_mul_le_mul_left (c := p + x) ?_ h0
      have e : (p + x) * (p + x) + p * q = (p + x) * (p + q) + x * y := by
        have h1 : (p + x) * (p + x) = (p + x) * p + (p + x) * x := Nat.mul_add _ _ _
        have h2 : (p + x) * (p + q) = (p + x) * p + (p + x) * q := Nat.mul_add _ _ _
        have h3 : (p + x) * x = q * x + y * x := by rw [hy, Nat.add_mul]
        have h4 : (p + x) * q = p * q + x * q := Nat.add_mul _ _ _
        rw [h1, h2, h3, h4, Nat.mul_comm q x, Nat.mul_comm y x]
        omega
      calc (p + x) * (p + q) ≤ (p + x) * (p + x) + p * q := by omega
        _ ≤ (p + x) * (p + x) + (p + x) * v := Nat.add_le_add_left hpq _
        _ = (p + x) * (p + x + v) := (Nat.mul_add _ _ _).symm
  have e1 : (a0 + a1) * (b0 + b1) = a0 * b0 + a0 * b1 + (a1 * b0 + a1 * b1) := by rw [Nat.add_mul, Nat.mul_add, Nat.mul_add]
  have e2 : (c0 + c1) * (d0 + d1) = c0 * d0 + c0 * d1 + (c1 * d0 + c1 * d1) := by rw [Nat.add_mul, Nat.mul_add, Nat.mul_add]
  omega

def S : Nat → (Int → Nat) → Nat
  | 0, f => f 0 + f (-1)
  | n + 1, f => S n fun x => f (2 * x) + f (2 * x + 1)

theorem and00 (x y : Int) : bitAnd (2 * x) (2 * y) = 2 * bitAnd x y := by
  rw [kbt_halves, show 2 * x / 2 = x by omega, show 2 * y / 2 = y by omega, if_neg (by omega)]; omega
theorem and01 (x y : Int) : bitAnd (2 * x) (2 * y + 1) = 2 * bitAnd x y := by
  rw [kbt_halves, show 2 * x / 2 = x by omega, show (2 * y + 1) / 2 = y by omega, if_neg (by omega)]; omega
theorem and10 (x y : Int) : bitAnd (2 * x + 1) (2 * y) = 2 * bitAnd x y := by
  rw [kbt_halves, show (2 * x + 1) / 2 = x by omega, show 2 * y / 2 = y by omega, if_neg (by omega)]; omega
theorem and11 (x y : Int) : bitAnd (2 * x + 1) (2 * y + 1) = 2 * bitAnd x y + 1 := by
  rw [kbt_halves, show (2 * x + 1) / 2 = x by omega, show (2 * y + 1) / 2 = y by omega, if_pos (by omega)]
theorem or00 (x y : Int) : bitOr (2 * x) (2 * y) = 2 * bitOr x y := by rw [bitOr_and, bitOr_and, and00]; omega
theorem or01 (x y : Int) : bitOr (2 * x) (2 * y + 1) = 2 * bitOr x y + 1 := by rw [bitOr_and, bitOr_and, and01]; omega
theorem or10 (x y : Int) : bitOr (2 * x + 1) (2 * y) = 2 * bitOr x y + 1 := by rw [bitOr_and, bitOr_and, and10]; omega
theorem or11 (x y : Int) : bitOr (2 * x + 1) (2 * y + 1) = 2 * bitOr x y + 1 := by rw [bitOr_and, bitOr_and, and11]; omega

theorem fourfun : ∀ (n : Nat) (α β γ δ : Int → Nat), (∀ x y, α x * β y ≤ γ (bitOr x y) * δ (bitAnd x y)) → S n α * S n β ≤ S n γ * S n δ
  | 0, α, β, γ, δ, h => by
    refine four _ _ _ _ _ _ _ _ ?_ ?_ ?_ ?_
    · exact h 0 0
    · exact h 0 (-1)
    · exact h (-1) 0
    · exact h (-1) (-1)
  | n + 1, α, β, γ, δ, h => by
    refine fourfun n _ _ _ _ fun x y => four _ _ _ _ _ _ _ _ ?_ ?_ ?_ ?_
    · have := h (2 * x) (2 * y); rwa [or00, and00] at this
    · have := h (2 * x) (2 * y + 1); rwa [or01, and01] at this
    · have := h (2 * x + 1) (2 * y); rwa [or10, and10] at this
    · have := h (2 * x + 1) (2 * y + 1); rwa [or11, and11] at this

theorem S_congr {n : Nat} {f g : Int → Nat} (h : ∀ x, f x = g x) : S n f = S n g := by rw [funext h]
theorem S_mono : ∀ {n : Nat} {f g : Int → Nat}, (∀ x, f x ≤ g x) → S n f ≤ S n g
  | 0, _, _, h => Nat.add_le_add (h _) (h _)
  | n + 1, _, _, h => S_mono (n := n) fun _ => Nat.add_le_add (h _) (h _)
theorem S_add : ∀ {n : Nat} {f g : Int → Nat}, S n (fun x => f x + g x) = S n f + S n g
  | 0, f, g => by show f 0 + g 0 + (f (-1) + g (-1)) = f 0 + f (-1) + (g 0 + g (-1)); omega
  | n + 1, f, g => by
    show S n _ = S n _ + S n _
    rw [← S_add (n := n)]
    exact S_congr fun x => by dsimp only; omega
theorem S_zero : ∀ {n : Nat}, S n (fun _ => 0) = 0
  | 0 => rfl
  | n + 1 => S_zero (n := n)

def one (a : Int) : Int → Nat := fun x => if x = a then 1 else 0
theorem S_one_step (n : Nat) (a : Int) : S (n + 1) (one a) = S n (one (a / 2)) := by
  show S n _ = S n _
  refine S_congr fun x => ?_
  unfold one
  by_cases h : x = a / 2
  · rw [if_pos h]
    by_cases h1 : 2 * x = a
    · rw [if_pos h1, if_neg (by omega)]
    · rw [if_neg h1, if_pos (by omega)]
  · rw [if_neg h, if_neg (by omega), if_neg (by omega)]
theorem S_one_le : ∀ (n : Nat) (a : Int), S n (one a) ≤ 1
  | 0, a => by
    show one a 0 + one a (-1) ≤ 1
    unfold one
    by_cases h : (0 : Int) = a
    · rw [if_pos h, if_neg (by omega)]; omega
    · rw [if_neg h]; split <;> omega
  | n + 1, a => by rw [S_one_step]; exact S_one_le n _
theorem S_one : ∀ (n : Nat) (a : Int), -(2 ^ n) ≤ a → a < 2 ^ n → S n (one a) = 1
  | 0, a, h1, h2 => by
    show one a 0 + one a (-1) = 1
    unfold one
    have h1' : -1 ≤ a := h1
    have h2' : a < 1 := h2
    by_cases h : (0 : Int) = a
    · rw [if_pos h, if_neg (by omega)]
    · rw [if_neg h, if_pos (by omega)]
  | n + 1, a, h1, h2 => by
    rw [S_one_step]
    rw [Int.pow_succ] at h1 h2
    exact S_one n _ (by omega) (by omega)

def ind (l : List Int) : Int → Nat := fun x => if x ∈ l then 1 else 0
theorem S_ind_le (n : Nat) : ∀ l : List Int, S n (ind l) ≤ l.length
  | [] => by rw [show ind [] = fun _ => 0 from funext fun x => by simp [ind], S_zero]; exact Nat.zero_le _
  | a :: l => by
    have h : S n (ind (a :: l)) ≤ S n (one a) + S n (ind l) := by
      rw [← S_add]
      refine S_mono fun x => ?_
      unfold ind one
      by_cases h1 : x = a
      · simp [h1]
      · by_cases h2 : x ∈ l <;> simp [h1, h2]
    have := S_ind_le n l
    have := S_one_le n a
    rw [List.length_cons]; omega
theorem S_ind (n : Nat) : ∀ l : List Int, l.Nodup → (∀ a ∈ l, -(2 ^ n) ≤ a ∧ a < 2 ^ n) → S n (ind l) = l.length
  | [], _, _ => by rw [show ind [] = fun _ => 0 from funext fun x => by simp [ind], S_zero]; rfl
  | a :: l, hd, hb => by
    rw [List.nodup_cons] at hd
    have h : S n (ind (a :: l)) = S n (one a) + S n (ind l) := by
      rw [← S_add]
      refine S_congr fun x => ?_
      unfold ind one
      by_cases h1 : x = a
      · subst h1; simp [hd.1]
      · by_cases h2 : x ∈ l <;> simp [h1, h2]
    rw [h, S_ind n l hd.2 fun b hb' => hb b (List.mem_cons_of_mem _ hb'), S_one n a (hb a List.mem_cons_self).1 (hb a List.mem_cons_self).2, List.length_cons]
    omega

theorem bounded (l : List Int) : ∃ n : Nat, ∀ a ∈ l, -(2 ^ n) ≤ a ∧ a < (2 : Int) ^ n := by
  induction l with
  | nil => exact ⟨0, fun _ h => nomatch h⟩
  | cons b l ih =>
    obtain ⟨n, hn⟩ := ih
    refine ⟨n + b.natAbs, fun a ha => ?_⟩
    have up : ∀ k m : Nat, k ≤ m → (2 : Int) ^ k ≤ 2 ^ m := fun k m h => by
      have := Nat.pow_le_pow_right (n := 2) (by decide) h
      exact_mod_cast this
    rcases List.mem_cons.mp ha with rfl | ha
    · have h1 : a.natAbs < 2 ^ a.natAbs := Nat.lt_two_pow_self
      have h2 : ((a.natAbs : Nat) : Int) < (2 : Int) ^ a.natAbs := by exact_mod_cast h1
      have h3 := up a.natAbs (n + a.natAbs) (by omega)
      omega
    · have h1 := hn a ha
      have h3 := up n (n + b.natAbs) (by omega)
      omega

/-- Daykin 1977 -/
theorem daykin {A B J M : List Int} (hA : A.Nodup) (hB : B.Nodup) (hJ : ∀ a ∈ A, ∀ b ∈ B, bitOr a b ∈ J) (hM : ∀ a ∈ A, ∀ b ∈ B, bitAnd a b ∈ M) :
    A.length * B.length ≤ J.length * M.length := by
  obtain ⟨n, hn⟩ := bounded (A ++ B)
  have h := fourfun n (ind A) (ind B) (ind J) (ind M) fun x y => by
    unfold ind
    by_cases h1 : x ∈ A
    · by_cases h2 : y ∈ B
      · rw [if_pos (hJ x h1 y h2), if_pos (hM x h1 y h2), if_pos h1, if_pos h2]; exact Nat.le_refl _
      · rw [if_neg h2, Nat.mul_zero]; exact Nat.zero_le _
    · rw [if_neg h1, Nat.zero_mul]; exact Nat.zero_le _
  rw [S_ind n A hA fun a ha => hn a (List.mem_append_left _ ha), S_ind n B hB fun b hb => hn b (List.mem_append_right _ hb)] at h
  exact Nat.le_trans h (Nat.mul_le_mul (S_ind_le n J) (S_ind_le n M))

theorem not_not (x : Int) : bitNot (bitNot x) = x := by unfold bitNot; omega

/-- Marica and Schoenheim 1969 -/
theorem marica {F G : List Int} (hF : F.Nodup) (hG : ∀ a ∈ F, ∀ b ∈ F, bitAnd a (bitNot b) ∈ G) : F.length ≤ G.length := by
  have h := daykin (A := F) (B := F.map bitNot) (J := G.map bitNot) (M := G) hF (by
      unfold List.Nodup
      rw [List.pairwise_map]
      exact hF.imp fun hab e => hab (by have := congrArg bitNot e; rwa [not_not, not_not] at this))
    (fun a ha b hb => by
      obtain ⟨c, hc, rfl⟩ := List.mem_map.mp hb
      refine List.mem_map.mpr ⟨bitAnd c (bitNot a), hG c hc a ha, ?_⟩
      show _ = bitNot (bitAnd (bitNot a) (bitNot (bitNot c)))
      rw [not_not, bitAnd_comm])
    (fun a ha b hb => by
      obtain ⟨c, hc, rfl⟩ := List.mem_map.mp hb
      exact hG a ha c hc)
  rw [List.length_map, List.length_map] at h
  exact Nat.not_lt.mp fun hlt => Nat.lt_irrefl _ (Nat.lt_of_lt_of_le (Nat.mul_lt_mul'' hlt hlt) h)
end Mine
end

section
open PySem PyProof.Rows PySem.W
namespace Mine
open PySem.Builtin (bitAnd bitOr bitNot bitXor)

/-! ## places, words, texts -/
def hexT (i : Int) : Str := baseText "0x" 16 i
def nameL : List Str := [Str.ofString "OPTIMIZED", Str.ofString "NEWLOCALS", Str.ofString "VARARGS", Str.ofString "VARKEYWORDS", Str.ofString "NESTED", Str.ofString "GENERATOR", Str.ofString "NOFREE", Str.ofString "COROUTINE",
  Str.ofString "ITERABLE_COROUTINE", Str.ofString "ASYNC_GENERATOR"]
def word (i : Nat) : Str := (nameL[i]?).getD (hexT (2 ^ i))
def bit (n : Int) (i : Nat) : Bool := decide (n / 2 ^ i % 2 = 1)
def lows (n : Int) (i : Nat) : List Nat := (List.range i).filter (bit n)
def wordsUpto (n : Int) (i : Nat) : List Str := (lows n i).map word
def above (n : Int) : Int := n - n % 2 ^ 32
def wordsOf (n : Int) : List Str := wordsUpto n 32 ++ (if above n ≠ 0 ∨ wordsUpto n 32 = [] then [hexT (above n)] else [])
def textOf (n : Int) : Str := Txt.join (Str.ofString ", ") (wordsOf n)

theorem two_pos (i : Nat) : (0 : Int) < 2 ^ i := Int.pow_pos (by decide)
theorem mod_succ (n : Int) (i : Nat) : n % 2 ^ (i + 1) = n % 2 ^ i + (n / 2 ^ i % 2) * 2 ^ i := by
  have hp := two_pos i
  rw [Int.pow_succ]
  generalize (2 : Int) ^ i = p at *
  have h1 := Int.mul_ediv_add_emod n p
  have h2 := Int.mul_ediv_add_emod (n / p) 2
  have h3 : 0 ≤ n % p := Int.emod_nonneg _ (by omega)
  have h4 : n % p < p := Int.emod_lt_of_pos _ hp
  have h5 : n / p % 2 = 0 ∨ n / p % 2 = 1 := by omega
  generalize n / p % 2 = b at *
  generalize n / p / 2 = q at *
  generalize n % p = r at *
  rw [← h2] at h1
  have e : n = (r + b * p) + (p * 2) * q := by
    rw [← h1, Int.mul_add, ← Int.mul_assoc, Int.mul_comm p b]; omega
  rw [e, Int.add_mul_emod_self_left]
  refine Int.emod_eq_of_lt ?_ ?_
  · rcases h5 with rfl | rfl <;> omega
  · rcases h5 with rfl | rfl <;> omega
theorem lows_succ (n : Int) (i : Nat) : lows n (i + 1) = lows n i ++ if bit n i then [i] else [] := by
  unfold lows
  rw [List.range_succ, List.filter_append]
  cases h : bit n i <;> simp [h]
theorem wordsUpto_succ (n : Int) (i : Nat) : wordsUpto n (i + 1) = wordsUpto n i ++ if bit n i then [word i] else [] := by
  unfold wordsUpto
  rw [lows_succ, List.map_append]
  cases bit n i <;> rfl
theorem wordsUpto_len (n : Int) (i : Nat) : (wordsUpto n i).length ≤ i := by
  unfold wordsUpto lows
  rw [List.length_map]
  exact Nat.le_trans (List.length_filter_le _ _) (by simp)

/-- what is left of n behind i places -/
def left (n : Int) (i : Nat) : Int := n - n % 2 ^ i
theorem left_div (n : Int) (i : Nat) : left n i / 2 ^ i = n / 2 ^ i := by
  have hp := two_pos i
  unfold left
  have h1 := Int.mul_ediv_add_emod n (2 ^ i)
  generalize (2 : Int) ^ i = p at *
  rw [show n - n % p = p * (n / p) by omega, Int.mul_ediv_cancel_left _ (by omega)]
theorem left_and (n : Int) (i : Nat) : bitAnd (left n i) (2 ^ i) = if bit n i then 2 ^ i else 0 := by
  rw [kbt_bit, left_div]
  unfold bit
  have h5 : n / 2 ^ i % 2 = 0 ∨ n / 2 ^ i % 2 = 1 := by omega
  rcases h5 with h | h <;> rw [h] <;> simp
theorem left_succ_set {n : Int} {i : Nat} (h : bit n i = true) : left n (i + 1) = bitXor (left n i) (2 ^ i) := by
  rw [bitXor_and, left_and, if_pos h]
  unfold bit at h
  have h' := of_decide_eq_true h
  unfold left
  rw [mod_succ, h']; omega
theorem left_succ_not {n : Int} {i : Nat} (h : bit n i = false) : left n (i + 1) = left n i := by
  unfold bit at h
  have h' := of_decide_eq_false h
  have h'' : n / 2 ^ i % 2 = 0 := by omega
  unfold left
  rw [mod_succ, h'']; omega

/-- no place is set from i on, where nothing is left -/
theorem bit_of_left {n : Int} : ∀ {j i : Nat}, left n i = 0 → bit n (i + j) = false ∧ left n (i + j) = 0
  | 0, i, h => by
    have : n / 2 ^ i = 0 := by rw [← left_div, h]; simp
    exact ⟨by unfold bit; rw [Nat.add_zero, this]; rfl, h⟩
  | j + 1, i, h => by
    have h1 : bit n i = false := by
      have : n / 2 ^ i = 0 := by rw [← left_div, h]; simp
      unfold bit; rw [this]; rfl
    have h2 : left n (i + 1) = 0 := by rw [left_succ_not h1]; exact h
    have := bit_of_left (j := j) h2
    rw [show i + (j + 1) = i + 1 + j by omega]
    exact this
theorem wordsUpto_stop {n : Int} {i : Nat} (h : left n i = 0) : ∀ j, wordsUpto n (i + j) = wordsUpto n i
  | 0 => rfl
  | j + 1 => by
    rw [← Nat.add_assoc, wordsUpto_succ, (bit_of_left h).1, wordsUpto_stop h j]; simp
theorem above_eq (n : Int) : above n = left n 32 := rfl
theorem wordsOf_stop {n : Int} {i : Nat} (hi : i < 32) (h : left n (i + 1) = 0) (hb : bit n i = true) : wordsOf n = wordsUpto n (i + 1) := by
  obtain ⟨j, hj⟩ : ∃ j, 32 = i + 1 + j := ⟨31 - i, by omega⟩
  have e : wordsUpto n 32 = wordsUpto n (i + 1) := by rw [hj]; exact wordsUpto_stop h j
  have e2 : above n = 0 := by rw [above_eq, hj]; exact (bit_of_left h).2
  unfold wordsOf
  rw [e, e2, if_neg, List.append_nil]
  rintro (h1 | h1)
  · exact h1 rfl
  · rw [wordsUpto_succ, hb] at h1; simp at h1
theorem wordsOf_end {n : Int} (h : left n 32 = 0 → wordsUpto n 32 = []) : wordsOf n = wordsUpto n 32 ++ [hexT (left n 32)] := by
  unfold wordsOf
  rw [above_eq, if_pos]
  by_cases h0 : left n 32 = 0
  · exact .inr (h h0)
  · exact .inl h0

/-! ## no two sets have one text -/
theorem hexT_cps (i : Int) : (hexT i).cps.toList = (if i < 0 then [45] else []) ++ ([48, 120] ++ (Nat.toDigits 16 i.natAbs).map Char.toNat) := by
  unfold hexT baseText
  rw [Str.cps_append, Str.cps_append, PySem.W.Fast.ofString_ofList (Nat.toDigits 16 i.natAbs), Array.toList_append, Array.toList_append, List.append_assoc]
  congr 1
  · split <;> decide +kernel
theorem digit_inj' : ∀ a : Nat, a < 16 → ∀ b : Nat, b < 16 → (Nat.digitChar a).toNat = (Nat.digitChar b).toNat → a = b := by decide +kernel
theorem digit_inj (a b : Nat) (ha : a < 16) (hb : b < 16) (h : (Nat.digitChar a).toNat = (Nat.digitChar b).toNat) : a = b := digit_inj' a ha b hb h
theorem digits_inj : ∀ n m : Nat, (Nat.toDigits 16 n).map Char.toNat = (Nat.toDigits 16 m).map Char.toNat → n = m := by
  intro n
  induction n using Nat.strongRecOn with
  | ind n ih =>
    intro m h
    rw [Nat.toDigits_eq_if (by decide), Nat.toDigits_eq_if (n := m) (by decide)] at h
    have pos : ∀ k, 0 < (Nat.toDigits 16 k).length := fun k => Nat.length_toDigits_pos
    by_cases hn : n < 16
    · by_cases hm : m < 16
      · rw [if_pos hn, if_pos hm] at h
        simp only [List.map_cons, List.map_nil, List.cons.injEq, and_true] at h
        exact digit_inj n m hn hm h
      · rw [if_pos hn, if_neg hm] at h
        have h' := congrArg List.length h
        simp only [List.map_cons, List.map_nil, List.map_append, List.length_append, List.length_cons, List.length_nil, List.length_map] at h'
        have := pos (m / 16); omega
    · by_cases hm : m < 16
      · rw [if_neg hn, if_pos hm] at h
        have h' := congrArg List.length h
        simp only [List.map_cons, List.map_nil, List.map_append, List.length_append, List.length_cons, List.length_nil, List.length_map] at h'
        have := pos (n / 16); omega
      · rw [if_neg hn, if_neg hm, List.map_append, List.map_append] at h
        obtain ⟨h1, h2⟩ := List.append_inj' h (by simp)
        simp only [List.map_cons, List.map_nil, List.cons.injEq, and_true] at h2
        have e1 := ih (n / 16) (by omega) _ h1
        have e2 := digit_inj _ _ (Nat.mod_lt n (by decide)) (Nat.mod_lt m (by decide)) h2
        omega
theorem hexT_inj {a b : Int} (h : hexT a = hexT b) : a = b := by
  have h' : (hexT a).cps.toList = (hexT b).cps.toList := by rw [h]
  rw [hexT_cps, hexT_cps] at h'
  by_cases ha : a < 0 <;> by_cases hb : b < 0
  · rw [if_pos ha, if_pos hb] at h'
    have := digits_inj _ _ (by simpa using h')
    omega
  · rw [if_pos ha, if_neg hb] at h'; simp at h'
  · rw [if_neg ha, if_pos hb] at h'; simp at h'
  · rw [if_neg ha, if_neg hb] at h'
    have := digits_inj _ _ (by simpa using h')
    omega
theorem digit_free : ∀ a : Nat, a < 16 → (Nat.digitChar a).toNat ≠ 44 := by decide +kernel
theorem digits_free : ∀ n : Nat, 44 ∉ (Nat.toDigits 16 n).map Char.toNat := by
  intro n
  induction n using Nat.strongRecOn with
  | ind n ih =>
    rw [Nat.toDigits_eq_if (by decide)]
    by_cases hn : n < 16
    · rw [if_pos hn]
      intro h
      rw [List.map_cons, List.map_nil, List.mem_singleton] at h
      exact digit_free n hn h.symm
    · rw [if_neg hn, List.map_append]
      intro h
      rcases List.mem_append.mp h with h | h
      · exact ih (n / 16) (by omega) h
      · rw [List.map_cons, List.map_nil, List.mem_singleton] at h
        exact digit_free _ (Nat.mod_lt n (by decide)) h.symm
theorem hexT_free (i : Int) : 44 ∉ (hexT i).cps.toList := by
  rw [hexT_cps]
  intro h
  rcases List.mem_append.mp h with h | h
  · split at h <;> simp at h
  · rcases List.mem_append.mp h with h | h
    · simp at h
    · exact digits_free _ h

theorem word_free {i : Nat} (hi : i < 32) : 44 ∉ (word i).cps.toList := by
  by_cases h : i < 10
  · have : ∀ j, j < 10 → 44 ∉ (word j).cps.toList := by decide +kernel
    exact this i h
  · unfold word
    rw [List.getElem?_eq_none (by show 10 ≤ i; omega)]
    exact hexT_free _
theorem word_inj {i j : Nat} (hi : i < 32) (hj : j < 32) (h : word i = word j) : i = j := by
  have : ∀ a, a < 32 → ∀ b, b < 32 → word a = word b → a = b := by decide +kernel
  exact this i hi j hj h

/-- the words of a text, as lists of numbers -/
def joinL : List (List Nat) → List Nat
  | [] => []
  | [w] => w
  | w :: r => w ++ 44 :: 32 :: joinL r
theorem cut_inj : ∀ {u v x y : List Nat}, 44 ∉ u → 44 ∉ v → u ++ 44 :: x = v ++ 44 :: y → u = v ∧ x = y
  | [], [], _, _, _, _, h => ⟨rfl, (List.cons.inj h).2⟩
  | [], b :: v, _, _, _, hv, h => absurd (List.cons.inj h).1 fun e => hv (e ▸ List.mem_cons_self)
  | a :: u, [], _, _, hu, _, h => absurd (List.cons.inj h).1 fun e => hu (e ▸ List.mem_cons_self)
  | a :: u, b :: v, x, y, hu, hv, h => by
    have h1 := (List.cons.inj h).1
    have h2 := cut_inj (fun m => hu (List.mem_cons_of_mem _ m)) (fun m => hv (List.mem_cons_of_mem _ m)) (List.cons.inj h).2
    exact ⟨by rw [h1, h2.1], h2.2⟩
theorem joinL_inj : ∀ {l r : List (List Nat)}, (∀ w ∈ l, 44 ∉ w) → (∀ w ∈ r, 44 ∉ w) → l ≠ [] → r ≠ [] → joinL l = joinL r → l = r
  | [], _, _, _, h, _, _ => absurd rfl h
  | _ :: _, [], _, _, _, h, _ => absurd rfl h
  | [a], [b], _, _, _, _, h => by rw [show a = b from h]
  | [a], b :: c :: r, hl, hr, _, _, h => absurd (show 44 ∈ a from by rw [show a = b ++ 44 :: 32 :: joinL (c :: r) from h]; simp) (hl a (by simp))
  | a :: c :: l, [b], hl, hr, _, _, h => absurd (show 44 ∈ b from by rw [show b = a ++ 44 :: 32 :: joinL (c :: l) from h.symm]; simp) (hr b (by simp))
  | a :: c :: l, b :: d :: r, hl, hr, _, _, h => by
    obtain ⟨e1, e2⟩ := cut_inj (hl a (by simp)) (hr b (by simp)) (show a ++ 44 :: (32 :: joinL (c :: l)) = b ++ 44 :: (32 :: joinL (d :: r)) from h)
    have := joinL_inj (fun w hw => hl w (List.mem_cons_of_mem _ hw)) (fun w hw => hr w (List.mem_cons_of_mem _ hw)) (by simp) (by simp) (List.cons.inj e2).2
    rw [e1, this]
theorem join_cps : ∀ l : List Str, (Txt.join (Str.ofString ", ") l).cps.toList = joinL (l.map fun w => w.cps.toList)
  | [] => by decide +kernel
  | [w] => by
    show (Builtin.Str.glued _ _).cps.toList = _
    rw [StrLaws.glued_eq_join]; rfl
  | w :: v :: r => by
    have ih := join_cps (v :: r)
    show (Builtin.Str.glued _ _).cps.toList = _
    have ih' : (Builtin.Str.glued (Str.ofString ", ") (v :: r)).cps.toList = _ := ih
    rw [StrLaws.glued_eq_join] at ih' ⊢
    show (w ++ Str.ofString ", " ++ Str.join (Str.ofString ", ") (v :: r)).cps.toList = _
    rw [Str.cps_append, Str.cps_append, Array.toList_append, Array.toList_append, ih', show (Str.ofString ", ").cps.toList = [44, 32] by decide +kernel]
    show _ = w.cps.toList ++ 44 :: 32 :: joinL ((v :: r).map fun w => w.cps.toList)
    simp
theorem join_inj {l r : List Str} (hl : ∀ w ∈ l, 44 ∉ w.cps.toList) (hr : ∀ w ∈ r, 44 ∉ w.cps.toList) (h1 : l ≠ []) (h2 : r ≠ []) (h : Txt.join (Str.ofString ", ") l = Txt.join (Str.ofString ", ") r) : l = r := by
  have e : (Txt.join (Str.ofString ", ") l).cps.toList = (Txt.join (Str.ofString ", ") r).cps.toList := by rw [h]
  rw [join_cps, join_cps] at e
  have := joinL_inj (by intro w hw; obtain ⟨x, hx, rfl⟩ := List.mem_map.mp hw; exact hl x hx) (by intro w hw; obtain ⟨x, hx, rfl⟩ := List.mem_map.mp hw; exact hr x hx)
    (by simpa using h1) (by simpa using h2) e
  exact (List.map_inj_right (fun a b e => by
    cases a; cases b
    simp only [Str.mk.injEq]
    exact Array.toList_inj.mp e)).mp this

theorem wordsOf_free (n : Int) : ∀ w ∈ wordsOf n, 44 ∉ w.cps.toList := by
  intro w hw
  unfold wordsOf wordsUpto lows at hw
  rcases List.mem_append.mp hw with h | h
  · obtain ⟨i, hi, rfl⟩ := List.mem_map.mp h
    exact word_free (List.mem_range.mp (List.mem_filter.mp hi).1)
  · split at h
    · rw [List.mem_singleton.mp h]; exact hexT_free _
    · simp at h
theorem wordsOf_ne (n : Int) : wordsOf n ≠ [] := by
  unfold wordsOf
  by_cases h : wordsUpto n 32 = []
  · rw [if_pos (.inr h)]; simp
  · simp [h]

theorem above_dvd (n : Int) : above n % 2 ^ 32 = 0 := by unfold above; omega
theorem word_ne_hex {i : Nat} (hi : i < 32) (n : Int) : word i ≠ hexT (above n) := by
  intro h
  by_cases h10 : i < 10
  · have h1 : ∀ j, j < 10 → (word j).cps.toList.head? ≠ some 45 ∧ (word j).cps.toList.head? ≠ some 48 := by decide +kernel
    have h2 := h1 i h10
    rw [h, hexT_cps] at h2
    split at h2 <;> simp at h2
  · have e : word i = hexT (2 ^ i) := by
      unfold word
      rw [List.getElem?_eq_none (by show 10 ≤ i; omega)]; rfl
    have h3 := hexT_inj (e.symm.trans h)
    have h4 := above_dvd n
    rw [← h3] at h4
    have : ∀ j, j < 32 → ((2 : Int) ^ j) % 2 ^ 32 ≠ 0 := by decide +kernel
    exact this i hi h4

theorem mem_words {n : Int} {i : Nat} (hi : i < 32) : word i ∈ wordsOf n ↔ bit n i = true := by
  unfold wordsOf wordsUpto lows
  constructor
  · intro h
    rcases List.mem_append.mp h with h | h
    · obtain ⟨j, hj, e⟩ := List.mem_map.mp h
      have hj' := List.mem_filter.mp hj
      have := word_inj (List.mem_range.mp hj'.1) hi e
      rw [← this]; exact hj'.2
    · split at h
      · exact absurd (List.mem_singleton.mp h) (word_ne_hex hi n)
      · simp at h
  · intro h
    exact List.mem_append_left _ (List.mem_map.mpr ⟨i, List.mem_filter.mpr ⟨List.mem_range.mpr hi, h⟩, rfl⟩)
theorem mod_of_bits {n m : Int} : ∀ k : Nat, (∀ i, i < k → bit n i = bit m i) → n % 2 ^ k = m % 2 ^ k
  | 0, _ => by simp [Int.emod_one]
  | k + 1, h => by
    rw [mod_succ, mod_succ, mod_of_bits k fun i hi => h i (Nat.lt_succ_of_lt hi)]
    have hk := h k (Nat.lt_succ_self _)
    unfold bit at hk
    have h1 : n / 2 ^ k % 2 = 0 ∨ n / 2 ^ k % 2 = 1 := by omega
    have h2 : m / 2 ^ k % 2 = 0 ∨ m / 2 ^ k % 2 = 1 := by omega
    have : n / 2 ^ k % 2 = m / 2 ^ k % 2 := by
      rcases h1 with h1 | h1 <;> rcases h2 with h2 | h2 <;> rw [h1, h2] at hk ⊢ <;> simp at hk
    rw [this]
theorem textOf_inj {n m : Int} (h : textOf n = textOf m) : n = m := by
  have e := join_inj (wordsOf_free n) (wordsOf_free m) (wordsOf_ne n) (wordsOf_ne m) h
  have hb : ∀ i, i < 32 → bit n i = bit m i := fun i hi => by
    rw [Bool.eq_iff_iff, ← mem_words hi, ← mem_words hi, e]
  have hm := mod_of_bits 32 hb
  have hw : wordsUpto n 32 = wordsUpto m 32 := by
    unfold wordsUpto lows
    congr 1
    exact List.filter_congr fun i hi => hb i (List.mem_range.mp hi)
  have ha : above n = above m := by
    unfold wordsOf at e
    rw [hw] at e
    have e' := List.append_cancel_left e
    by_cases h1 : above n = 0 <;> by_cases h2 : above m = 0
    · rw [h1, h2]
    · rw [if_pos (Or.inl h2 : above m ≠ 0 ∨ _)] at e'
      split at e'
      · exact hexT_inj (List.cons.inj e').1
      · simp at e'
    · rw [if_pos (Or.inl h1 : above n ≠ 0 ∨ _)] at e'
      split at e'
      · exact hexT_inj (List.cons.inj e').1
      · simp at e'
    · rw [if_pos (Or.inl h1 : above n ≠ 0 ∨ _), if_pos (Or.inl h2 : above m ≠ 0 ∨ _)] at e'
      exact hexT_inj (List.cons.inj e').1
  unfold above at ha
  omega
end Mine
end

section
open PySem PyProof.Rows PySem.W
namespace Mine
open PySem.Builtin (bitAnd bitOr bitNot bitXor)

/-! ## sizes -/
def Bd (M : Nat) (n : Int) : Prop := -(2 ^ M) ≤ n ∧ n < 2 ^ M
theorem bd_and : ∀ {M : Nat} {x y : Int}, Bd M x → Bd M y → Bd M (bitAnd x y)
  | 0, x, y, hx, hy => by
    have h1 : -1 ≤ x ∧ x < 1 := hx
    have h2 : -1 ≤ y ∧ y < 1 := hy
    have e1 : x = 0 ∨ x = -1 := by omega
    have e2 : y = 0 ∨ y = -1 := by omega
    show -1 ≤ bitAnd x y ∧ bitAnd x y < 1
    rcases e1 with rfl | rfl <;> rcases e2 with rfl | rfl <;> decide
  | M + 1, x, y, hx, hy => by
    unfold Bd at *
    rw [Int.pow_succ] at *
    have := bd_and (M := M) (x := x / 2) (y := y / 2) (by unfold Bd; omega) (by unfold Bd; omega)
    unfold Bd at this
    rw [kbt_halves]
    split <;> omega
theorem bd_not {M : Nat} {x : Int} (h : Bd M x) : Bd M (bitNot x) := by unfold Bd bitNot at *; omega
theorem bd_or {M : Nat} {x y : Int} (hx : Bd M x) (hy : Bd M y) : Bd M (bitOr x y) := bd_not (bd_and (bd_not hx) (bd_not hy))

theorem pow_up {a b : Nat} (h : a ≤ b) : (2 : Int) ^ a ≤ 2 ^ b := by
  have := Nat.pow_le_pow_right (n := 2) (by decide) h
  exact_mod_cast this
theorem hexT_len {k : Nat} {x : Int} (hk : 1 ≤ k) (h : x.natAbs < 2 ^ (4 * k)) : (hexT x).length ≤ 3 + k := by
  have e : (hexT x).length = (hexT x).cps.toList.length := by simp [Str.length]
  rw [e, hexT_cps, List.length_append, List.length_append, List.length_map]
  have h1 : (Nat.toDigits 16 x.natAbs).length ≤ k := (Nat.length_toDigits_le_iff (by decide) hk).mpr (by rw [show (16 : Nat) = 2 ^ 4 from rfl, ← Nat.pow_mul]; exact h)
  have h2 : (if x < 0 then [45] else [] : List Nat).length ≤ 1 := by split <;> simp
  simp only [List.length_cons, List.length_nil]
  omega
theorem natAbs_lt {m : Nat} {x : Int} (h1 : -((2 : Int) ^ m) < x) (h2 : x < 2 ^ m) : x.natAbs < 2 ^ m := by
  have : ((x.natAbs : Nat) : Int) < ((2 ^ m : Nat) : Int) := by
    rw [Int.natCast_pow]; show _ < (2 : Int) ^ m; omega
  exact_mod_cast this
theorem left_abs {M : Nat} {n : Int} (h : Bd M n) {i k : Nat} (hi : i ≤ 32) (hk : M + 33 ≤ 4 * k) : (left n i).natAbs < 2 ^ (4 * k) := by
  have h1 : 0 ≤ n % 2 ^ i := Int.emod_nonneg _ (by have := two_pos i; omega)
  have h2 : n % 2 ^ i < 2 ^ i := Int.emod_lt_of_pos _ (two_pos i)
  have h3 := pow_up (a := i) (b := M + 32) (by omega)
  have h4 := pow_up (a := M) (b := M + 32) (by omega)
  have h5 := pow_up (a := M + 33) (b := 4 * k) hk
  have h6 := two_pos i
  rw [show M + 33 = M + 32 + 1 by omega, Int.pow_succ] at h5
  refine natAbs_lt ?_ ?_
  all_goals (
    unfold left Bd at *
    generalize (2 : Int) ^ (4 * k) = z at *
    omega)
theorem left_len {M : Nat} (hM : M ≤ 1048600) {n : Int} (h : Bd M n) {i : Nat} (hi : i ≤ 32) : (hexT (left n i)).length ≤ 262163 :=
  hexT_len (k := 262160) (by decide) (left_abs h hi (by omega))
theorem word_len {i : Nat} (hi : i < 32) : (word i).length ≤ 18 := by
  have : ∀ j, j < 32 → (word j).length ≤ 18 := by decide +kernel
  exact this i hi
theorem wordsUpto_sum (n : Int) : ∀ {i : Nat}, i ≤ 32 → ((wordsUpto n i).map (·.length)).sum ≤ 18 * i
  | 0, _ => by simp [wordsUpto, lows]
  | i + 1, hi => by
    rw [wordsUpto_succ, List.map_append, List.sum_append]
    have := wordsUpto_sum n (i := i) (by omega)
    have := word_len (i := i) (by omega)
    cases bit n i <;> simp <;> omega
theorem join_fits {n : Int} {i : Nat} (hi : i ≤ 32) {sep : Str} (hs : sep.length ≤ 2) : ((wordsUpto n i).map (·.length)).sum + (wordsUpto n i).length * sep.length ≤ 16777216 := by
  have h1 := wordsUpto_sum n hi
  have h2 := wordsUpto_len n i
  have : (wordsUpto n i).length * sep.length ≤ 32 * 2 := Nat.mul_le_mul (by omega) hs
  omega
theorem join_fits1 {n : Int} {y : Str} (hy : y.length ≤ 262163) {sep : Str} (hs : sep.length ≤ 2) : ((wordsUpto n 32 ++ [y]).map (·.length)).sum + (wordsUpto n 32 ++ [y]).length * sep.length ≤ 16777216 := by
  have h1 := wordsUpto_sum n (i := 32) (by omega)
  have h2 := wordsUpto_len n 32
  have : (wordsUpto n 32 ++ [y]).length * sep.length ≤ 33 * 2 := Nat.mul_le_mul (by simp; omega) hs
  rw [List.map_append, List.sum_append]
  simp at *
  omega
end Mine
end

section
open PySem PySem.W PySem.Calls PyProof.Rows
namespace Mine
open LCg (lst)

abbrev Kp (h h' : Heap) : Prop := ∀ b o, h.get? b = some o → h'.get? b = some o
theorem Kp.trans {a b c : Heap} (x : Kp a b) (y : Kp b c) : Kp a c := fun b o e => y b o (x b o e)

/-- the end of a turn of a loop -/
def TurnEnd (h₀ : Heap) (L D : Addr) (J : (Str → Option Value) → Array Value → Nat → Prop) (R : Result → Shared → Prop) (I : Addr) (oI : Obj) (s₁ : Shared) (f : Flow) (s₂ : Shared) : Prop :=
  match f with
  | .ret _ => False
  | .brk => R (.ok .next) s₂
  | _ => ∃ h' tk' m' ys' kk', s₂ = { s₁ with heap := h', toks := tk' } ∧ Fr h₀ L h' m' ∧ News h₀ L h' [(I, oI), (D, PySem.W.listOf ys' kk')] ∧ J m' ys' kk'

section
variable {prog : Program} {w : World} {A : Around} {s : Shared} {env : Env} {h₀ : Heap} {m : Str → Option Value} {R : Result → Shared → Prop} {body orelse : List Stmt} {x : Str} {px : Pos} {I D : Addr} {fp : List Addr} {n : Nat}
  {P : Nat → Value → Prop} {St : Nat → Heap → Prop} {ys : Array Value} {kk : Nat}

theorem for_fr (W : Walks prog w A I fp [I] n P St) (hIo : ∀ i h, St i h → ∃ o, h.get? I = some o)
    (hSt : ∀ i h h' o, St i h → h.get? I = some o → h'.get? I = some o → Kp h₀ h' → St i h')
    (hfp : env.locals ∉ fp)
    (hx : env.kindOf x = some .local) (hp : (env.scope.kind == .class || (env.scope.kind == .module && env.locals != env.globals)) = false)
    (J : Nat → (Str → Option Value) → Array Value → Nat → Prop)
    (hst : St 0 s.heap) (F : Fr h₀ env.locals s.heap m) (N : News h₀ env.locals s.heap [(D, PySem.W.listOf ys kk)]) (hIL : env.locals ≠ I) (hI₀ : h₀.get? I = none) (hID : D ≠ I) (j0 : J 0 m ys kk)
    (turn : ∀ i v oI m ys kk h tk, i < n → P i v → J i m ys kk → Fr h₀ env.locals h (fun y => if y = x then some v else m y) → News h₀ env.locals h [(I, oI), (D, PySem.W.listOf ys kk)] →
      wpAny (model prog w) A (execs body env) (TurnEnd h₀ env.locals D (J (i + 1)) R I oI { s with heap := h, toks := tk }) (fun _ _ => False) { s with heap := h, toks := tk })
    (done : ∀ m ys kk h tk, Fr h₀ env.locals h m → News h₀ env.locals h [(D, PySem.W.listOf ys kk)] → J n m ys kk →
      wpAny (model prog w) A (execs orelse env) (fun f s' => R (.ok f) s') (fun _ _ => False) { s with heap := h, toks := tk }) :
    codeAny (model prog w) A (.forLoop (.Name x px) (.ref I) body orelse env) R s := by
  refine codeAny_forLoop_any
    (fun k s' => ∃ h' tk i m' ys' kk', s' = { s with heap := h', toks := tk } ∧ i ≤ n ∧ k = n + 1 - i ∧ St i h' ∧ Fr h₀ env.locals h' m' ∧ News h₀ env.locals h' [(D, PySem.W.listOf ys' kk')] ∧ J i m' ys' kk') ?_ (n + 1)
    ⟨s.heap, s.toks, 0, m, ys, kk, rfl, Nat.zero_le _, rfl, hst, F, N, j0⟩
  rintro k s' ⟨h', tk, i, m', ys', kk', rfl, hi, rfl, hst', F', N', hJ⟩
  by_cases hlt : i < n
  · refine W.item i _ _ _ hlt hst' fun v h₂ tk₂ hPv hst₂ hk₂ => ?_
    refine wpAny_pure ?_
    have F₂ : Fr h₀ env.locals h₂ m' := LCg.fr_but F' hk₂ hIL hI₀
    have N₂ : News h₀ env.locals h₂ [(D, PySem.W.listOf ys' kk')] := LCg.news_but N' hk₂ fun p hp => by rw [List.mem_singleton.mp hp]; exact hID
    refine wpAny_assign_Name (wpAny_storeName_local hx F₂.ns (fun h₃ hn₃ hs₃ => ?_) hp)
    have F₃ : Fr h₀ env.locals h₃ (fun y => if y = x then some v else m' y) := F₂.set hn₃ hs₃
    have N₃ : News h₀ env.locals h₃ [(D, PySem.W.listOf ys' kk')] := N₂.set hs₃
    have hst₃ : St (i + 1) h₃ := W.frame _ _ _ hst₂ fun b hb o e => hs₃.extBut b o (fun q => hfp (q ▸ hb)) e
    obtain ⟨oI, heI⟩ := hIo _ _ hst₃
    have N₄ : News h₀ env.locals h₃ [(I, oI), (D, PySem.W.listOf ys' kk')] := fun p hp => by
      rcases List.mem_cons.mp hp with rfl | hp
      · exact ⟨heI, Ne.symm hIL, hI₀⟩
      · exact N₃ p hp
    refine wpAny_mono (turn i v oI m' ys' kk' h₃ _ hlt hPv hJ F₃ N₄) (fun f s₂ q => ?_) fun _ _ e => e.elim
    have fin : (∃ h' tk' m' ys' kk', s₂ = { s with heap := h', toks := tk' } ∧ Fr h₀ env.locals h' m' ∧ News h₀ env.locals h' [(I, oI), (D, PySem.W.listOf ys' kk')] ∧ J (i + 1) m' ys' kk') →
        ∃ k', k' < n + 1 - i ∧ ∃ h' tk i m' ys' kk', s₂ = { s with heap := h', toks := tk } ∧ i ≤ n ∧ k' = n + 1 - i ∧ St i h' ∧ Fr h₀ env.locals h' m' ∧ News h₀ env.locals h' [(D, PySem.W.listOf ys' kk')] ∧ J i m' ys' kk' := by
      rintro ⟨h₅, tk₅, m₅, ys₅, kk₅, rfl, F₅, N₅, J₅⟩
      refine ⟨n + 1 - (i + 1), by omega, h₅, tk₅, i + 1, m₅, ys₅, kk₅, rfl, hlt, rfl, ?_, F₅, fun p hp => N₅ p (List.mem_cons_of_mem _ hp), J₅⟩
      exact hSt _ _ _ _ hst₃ heI (N₅ _ List.mem_cons_self).1 F₅.keep
    cases f with
    | ret v => exact q.elim
    | brk => exact q
    | next => exact fin q
    | cont => exact fin q
  · obtain rfl : i = n := Nat.le_antisymm hi (Nat.not_lt.mp hlt)
    refine W.done _ _ _ hst' fun h₂ tk₂ hk₂ => ?_
    have F₂ : Fr h₀ env.locals h₂ m' := LCg.fr_but F' hk₂ hIL hI₀
    have N₂ : News h₀ env.locals h₂ [(D, PySem.W.listOf ys' kk')] := LCg.news_but N' hk₂ fun p hp => by rw [List.mem_singleton.mp hp]; exact hID
    exact wpAny_mono (done m' ys' kk' h₂ tk₂ F₂ N₂ hJ) (fun _ _ q => q) fun _ _ e => e.elim

theorem for_range {r : Addr} {b : Int} {t u v : Tok} {E : Value → Shared → Prop} (hh : A.handled = none) (hr : IsRange s.heap r 0 b 1 t u v) (hsm : Builtin.Range.small 0 b 1 = true) (hn : Builtin.Range.rangeSize 0 b 1 = ((n : Nat) : Int))
    (hx : env.kindOf x = some .local) (hp : (env.scope.kind == .class || (env.scope.kind == .module && env.locals != env.globals)) = false)
    (J : Nat → (Str → Option Value) → Array Value → Nat → Prop) (F : Fr h₀ env.locals s.heap m) (N : News h₀ env.locals s.heap [(D, PySem.W.listOf ys kk)]) (j0 : J 0 m ys kk)
    (turn : ∀ (i : Nat) (tv : Tok) (I : Addr) oI m ys kk h tk, i < n → (@Ne Nat I D) → (@Ne Nat D I) → J i m ys kk → Fr h₀ env.locals h (fun y => if y = x then some (.int (i : Int) tv) else m y) → News h₀ env.locals h [(I, oI), (D, PySem.W.listOf ys kk)] →
      wpAny (model prog w) A (execs body env) (TurnEnd h₀ env.locals D (J (i + 1)) R I oI { s with heap := h, toks := tk }) (fun _ _ => False) { s with heap := h, toks := tk })
    (done : ∀ m ys kk h tk, Fr h₀ env.locals h m → News h₀ env.locals h [(D, PySem.W.listOf ys kk)] → J n m ys kk →
      wpAny (model prog w) A (execs orelse env) (fun f s' => R (.ok f) s') (fun _ _ => False) { s with heap := h, toks := tk }) :
    wpAny (model prog w) A (pyIter (.ref r)) (fun it s₂ => codeAny (model prog w) A (.forLoop (.Name x px) it body orelse env) R s₂) E s := by
  refine wpAny_pyIter_range hr hsm ?_
  have hDI : D ≠ s.heap.objs.size := Nat.ne_of_lt (Heap.lt_size (N _ List.mem_cons_self).1)
  refine for_fr (LCg.range_walks hh 0 n) (fun i h st => ⟨_, st⟩) (fun i h h' o st e e' k => ?_) (fun hm => Nat.ne_of_lt F.ns.lt (List.mem_singleton.mp hm)) hx hp J
    (by show IsRangeIter _ _ _ _ _; rw [hn]; simpa using Heap.get?_push_size _ rfl) (F.keeps fun _ _ e => Heap.get?_push_of_some _ e) (N.grown fun _ _ e => Heap.get?_push_of_some _ e) (Nat.ne_of_lt F.ns.lt) (next_is_new F) hDI j0
    (fun i v oI m ys kk h tk hi hP hJ F' N' => ?_) (fun m ys kk h tk F' N' hJ => done m ys kk h tk F' N' hJ)
  · exact LCg.range_st (L := env.locals) i h h' o [] st e e' k (fun _ hp => nomatch hp) trivial
  · obtain ⟨tv, rfl⟩ := hP
    rw [show (0 : Int) + (i : Int) = (i : Int) by omega] at F'
    exact turn i tv _ oI m ys kk h tk hi (Ne.symm hDI) hDI hJ F' N'

theorem for_list {ax : Addr} {its : Array Value} {E : Value → Shared → Prop} (hh : A.handled = none) (hl : h₀.IsList ax its)
    (hx : env.kindOf x = some .local) (hp : (env.scope.kind == .class || (env.scope.kind == .module && env.locals != env.globals)) = false)
    (J : Nat → (Str → Option Value) → Array Value → Nat → Prop) (F : Fr h₀ env.locals s.heap m) (N : News h₀ env.locals s.heap [(D, PySem.W.listOf ys kk)]) (j0 : J 0 m ys kk)
    (turn : ∀ (i : Nat) (v : Value) (I : Addr) oI m ys kk h tk, its[i]? = some v → (@Ne Nat I D) → (@Ne Nat D I) → J i m ys kk → Fr h₀ env.locals h (fun y => if y = x then some v else m y) → News h₀ env.locals h [(I, oI), (D, PySem.W.listOf ys kk)] →
      wpAny (model prog w) A (execs body env) (TurnEnd h₀ env.locals D (J (i + 1)) R I oI { s with heap := h, toks := tk }) (fun _ _ => False) { s with heap := h, toks := tk })
    (done : ∀ m ys kk h tk, Fr h₀ env.locals h m → News h₀ env.locals h [(D, PySem.W.listOf ys kk)] → J its.size m ys kk →
      wpAny (model prog w) A (execs orelse env) (fun f s' => R (.ok f) s') (fun _ _ => False) { s with heap := h, toks := tk }) :
    wpAny (model prog w) A (pyIter (.ref ax)) (fun it s₂ => codeAny (model prog w) A (.forLoop (.Name x px) it body orelse env) R s₂) E s := by
  have hls : s.heap.IsList ax its := hl.at fun o e => F.keep _ _ e
  have hlt : ax < s.heap.objs.size := by obtain ⟨_, e, _⟩ := hls; exact Heap.lt_size e
  have hlt₀ : ax < h₀.objs.size := by obtain ⟨_, e, _⟩ := hl; exact Heap.lt_size e
  refine wpAny_pyIter_list hls ?_
  have hDI : D ≠ s.heap.objs.size := Nat.ne_of_lt (Heap.lt_size (N _ List.mem_cons_self).1)
  have up : ∀ b o, s.heap.get? b = some o → (s.heap.push { cls := .type "list_iterator", data := .fields #[.ref ax, .int 0 0] }).get? b = some o := fun b o e => Heap.get?_push_of_some _ e
  refine for_fr (Walks.list hh s.heap.objs.size ax (Nat.ne_of_lt hlt) its) (fun i h st => by obtain ⟨o, e, _⟩ := st.1; exact ⟨o, e⟩) (fun i h h' o st e e' k => ?_)
    (fun hm => ?_) hx hp J
    ⟨⟨_, Heap.get?_push_size _ rfl, rfl, rfl⟩, hls.push _⟩ (F.keeps up) (N.grown up) (Nat.ne_of_lt F.ns.lt) (next_is_new F) hDI j0
    (fun i v oI m ys kk h tk hi hP hJ F' N' => turn i v _ oI m ys kk h tk hP (Ne.symm hDI) hDI hJ F' N') (fun m ys kk h tk F' N' hJ => done m ys kk h tk F' N' hJ)
  · exact LCg.list_st (L := env.locals) i h h' o [] st e e' k (fun _ hp => nomatch hp) (.inl hl)
  · rcases List.mem_cons.mp hm with e | hm
    · exact Nat.ne_of_lt F.ns.lt e
    · exact absurd (Nat.lt_of_lt_of_le hlt₀ F.above) ((List.mem_singleton.mp hm) ▸ Nat.lt_irrefl _)
end
end Mine
end

section
open PySem PySem.W PySem.Calls PyProof.Rows
namespace Mine

def table : List (Int × PyData) := [(1, .str (Str.ofString "OPTIMIZED")), (2, .str (Str.ofString "NEWLOCALS")), (4, .str (Str.ofString "VARARGS")), (8, .str (Str.ofString "VARKEYWORDS")), (16, .str (Str.ofString "NESTED")),
  (32, .str (Str.ofString "GENERATOR")), (64, .str (Str.ofString "NOFREE")), (128, .str (Str.ofString "COROUTINE")), (256, .str (Str.ofString "ITERABLE_COROUTINE")), (512, .str (Str.ofString "ASYNC_GENERATOR"))]
def isText (y : Str) : PyData → Bool
  | .str x => decide (x = y)
  | _ => false
theorem isText_eq {y : Str} : ∀ {d : PyData}, isText y d = true → d = .str y
  | .str x, h => by rw [of_decide_eq_true h]
theorem table_word {i : Nat} (hi : i < 32) : (Spec.lookup (.int (1 * 2 ^ i)) (table.map fun p => (PyData.int p.1, p.2))).getD (.str (hexT (1 * 2 ^ i))) = .str (word i) := by
  have h : ∀ j, j < 32 → isText (word j) ((Spec.lookup (.int (1 * 2 ^ j)) (table.map fun p => (PyData.int p.1, p.2))).getD (.str (hexT (1 * 2 ^ j)))) = true := by
    decide +kernel
  exact isText_eq (h i hi)
theorem get_word {prog : Program} {w : World} {A : Around} {E : Value → Shared → Prop} {s : Shared} {h₀ : Heap} {D : List (Int × PyData)} {k : Int} {t u : Tok} {Q : Value → Shared → Prop} (K : KTD.Keyed h₀ 15 D) (hD : D = table) (hk : Kp h₀ s.heap) (h0 : 0 ≤ k) (h1 : k < 32)
    (h : ∀ t', Q (.str (word k.toNat) t') { s with toks := s.toks + 1 }) : wpAny (model prog w) A (call (.builtin "dict.get") [.ref 15, .int (1 * 2 ^ k.toNat) t, .str (baseText "0x" 16 (1 * 2 ^ k.toNat)) u]) Q E s := by
  subst hD
  refine call_get2_intTab (K.keep hk prog w) (PyProof.V.Flat.str _ u) fun v hv => ?_
  rw [show baseText "0x" 16 (1 * 2 ^ k.toNat) = hexT (1 * 2 ^ k.toNat) from rfl, table_word (by omega)] at hv
  have hv' := hv s.heap
  cases hv'
  exact h _

theorem m_eq2 {m : Str → Option Value} {x y : Str} {v z : Value} (hx : m x = some v) (hy : m y = some z) : ∃ u : Str → Option Value, m = fun a => if a = x then some v else if a = y then some z else u a :=
  ⟨m, funext fun a => by
    by_cases h1 : a = x
    · rw [if_pos h1, h1, hx]
    · rw [if_neg h1]
      by_cases h2 : a = y
      · rw [if_pos h2, h2, hy]
      · rw [if_neg h2]⟩
theorem strs_push {ys : Array Value} {ws : List Str} (h : StrsAre ys.toList ws) (x : Str) (t : Tok) : StrsAre (ys.push (.str x t)).toList (ws ++ [x]) := by
  rw [Array.toList_push]; exact kct_snoc h

theorem turn_next {h₀ : Heap} {L D I : Addr} {oI : Obj} {J : (Str → Option Value) → Array Value → Nat → Prop} {R : Result → Shared → Prop} {s₁ : Shared} {h' : Heap} {tk' kk' : Nat} {m' : Str → Option Value} {ys' : Array Value}
    (F : Fr h₀ L h' m') (N : News h₀ L h' [(I, oI), (D, W.listOf ys' kk')]) (j : J m' ys' kk') : TurnEnd h₀ L D J R I oI s₁ .next { s₁ with heap := h', toks := tk' } := ⟨_, _, _, _, _, rfl, F, N, j⟩
theorem turn_brk {h₀ : Heap} {L D I : Addr} {oI : Obj} {J : (Str → Option Value) → Array Value → Nat → Prop} {R : Result → Shared → Prop} {s₁ s₂ : Shared} (h : R (.ok .next) s₂) : TurnEnd h₀ L D J R I oI s₁ .brk s₂ := h
open PySem.Builtin (bitAnd bitXor) in
theorem turn_set {n f k : Int} {i : Nat} (hki : k.toNat = i) (hf : f = left n i) (h : bitAnd f (1 * 2 ^ k.toNat) ≠ 0) : bit n i = true ∧ bitXor f (1 * 2 ^ k.toNat) = left n (i + 1) ∧ wordsUpto n (i + 1) = wordsUpto n i ++ [word k.toNat] := by
  rw [hki, Int.one_mul] at *
  subst hf
  rw [left_and] at h
  have hb : bit n i = true := by
    cases hb : bit n i with
    | true => rfl
    | false => rw [hb] at h; exact absurd rfl h
  exact ⟨hb, (left_succ_set hb).symm, by rw [wordsUpto_succ, hb]; rfl⟩
open PySem.Builtin (bitAnd bitXor) in
theorem turn_not {n f k : Int} {i : Nat} (hki : k.toNat = i) (hf : f = left n i) (h : bitAnd f (1 * 2 ^ k.toNat) = 0) : f = left n (i + 1) ∧ wordsUpto n (i + 1) = wordsUpto n i := by
  rw [hki, Int.one_mul] at *
  subst hf
  rw [left_and] at h
  have hb : bit n i = false := by
    cases hb : bit n i with
    | false => rfl
    | true => rw [hb, if_pos rfl] at h; have := two_pos i; omega
  exact ⟨(left_succ_not hb).symm, by rw [wordsUpto_succ, hb]; simp⟩

local macro_rules | `(tactic| walk_at "call builtin:dict.get") => `(tactic| ((with_reducible rename KTD.Keyed _ _ _ => kyN); (with_unfolding_all refine get_word kyN (by kernel_rfl) (Fr.keep (by with_reducible assumption)) (by assumption) (by assumption) ?_); intro _))

set_option maxRecDepth 100000
set_option maxHeartbeats 8000000 in
theorem pf (w : World) (dp un : Nat) (fr : Option (List Env)) (gd : Option (List Code)) (n : Int) (t : Tok) (s : Shared) (mean : ExcName → Option Value) (mg mb : Str → Option Value)
    (X : (hd.heap_39 w.params).In s.heap) (T : Top hd.view_39 (looseW hd.view_39 [Str.ofString "COMPILER_FLAG_NAMES"]) mean mg mb s.heap) (hdp : dp < recursionLimit)
    (M : Nat) (hM : M ≤ 1048600) (hn : Bd M n) (Q E : Value → Shared → Prop)
    (ret : ∀ t' h' tk', Kp s.heap h' → Q (.str (textOf n) t') { s with heap := h', toks := tk' }) :
    wpAny (model PySem.Challenge.pw_ta0003_01 w) { handled := none, depth := dp, frames := fr, guards := gd, units := un } (call (.ref 22) [.int n t]) Q E s := by
  have : (PySem.Challenge.rw_ta0003_01 = PySem.Challenge.rw_ta0003_01) ∧ (Mine.hd.heap_39 = Mine.hd.heap_39) := by
    k_fill; exact ⟨rfl, rfl⟩
  clear this
  refine wpAny_call ?_
  refine codeAny_call_def hdp (X 22 _ (by with_unfolding_all rfl)) rfl T.nolimit (codeRec_of X (by k_is)) rfl (BindsTo.of_eq rfl) (by decide) (locs rfl) (fun h₁ hns hk => ?_) rfl rfl rfl
  have F' : Fr s.heap s.heap.objs.size h₁ _ := ⟨hns, hk, Nat.le_refl _⟩
  have N' : News s.heap s.heap.objs.size h₁ [] := News.nil
  clear hns hk
  dsimp only [List.length, List.map]
  w_strict (
  w_top off
  k_steps
  refine wpAny_For ?_ (by intro _; rfl)
  k_steps
  rename IsRange _ _ _ _ _ _ _ _ => hr
  rename Fr _ _ _ _ => F
  rename News _ _ _ _ => N
  refine for_range rfl hr (by decide) (n := 32) (by rfl) (by rfl) (by rfl)
    (fun i m ys _ => ∃ (f : Int) (tf : Tok) (ws : List Str), m (Str.ofString "flags") = some (.int f tf) ∧ m (Str.ofString "names") = some (.ref _) ∧ StrsAre ys.toList ws ∧ ws = wordsUpto n i ∧ f = left n i ∧ (f = 0 → ws = []))
    F N ⟨n, t, [], rfl, rfl, .nil, rfl, by simp [left, Int.emod_one], fun _ => rfl⟩ ?_ ?_
  · clear hr F N
    rintro i tv I oI m ys kk h tk hi hID hDI ⟨f, tf, ws, hf, hnm, hys, hws, hfl, h0⟩ F N
    obtain ⟨k, hk⟩ : ∃ k : Int, k = (i : Int) := ⟨_, rfl⟩
    have hk0 : 0 ≤ k := by omega
    have hk1 : k < 32 := by omega
    have hki : k.toNat = i := by omega
    have hlen := StrsAre.length hys
    have hwl := wordsUpto_len n i
    have hsz : ys.size ≤ 32 := by rw [hws] at hlen; simp at hlen; omega
    have hhex : (baseText "0x" 16 (1 * 2 ^ k.toNat)).length ≤ sizeLine := by
      rw [hki]
      have : ∀ j, j < 32 → (baseText "0x" 16 (1 * 2 ^ j)).length ≤ 1000 := by decide +kernel
      exact Nat.le_trans (this i hi) (by rw [sizeLine_eq]; decide)
    rw [← hk] at F
    obtain ⟨u, rfl⟩ := m_eq2 hf hnm
    clear hf hnm hlen hwl
    k_steps
    · rename Builtin.bitAnd _ _ ≠ 0 => hne
      rename Fr _ _ _ _ => F1
      rename News _ _ _ _ => N1
      obtain ⟨hb, hx, hw⟩ := turn_set hki hfl hne
      refine turn_next F1 N1 ⟨_, _, _, rfl, rfl, strs_push hys _ _, by rw [hws, hw], hx, fun h => absurd h (by assumption)⟩
    · rename Builtin.bitAnd _ _ ≠ 0 => hne
      rename Builtin.bitXor _ _ = 0 => hz
      rename Fr _ _ _ _ => F1
      rename News _ _ _ _ => N1
      obtain ⟨hb, hx, hw⟩ := turn_set hki hfl hne
      refine turn_brk ?_
      dsimp only
      have hend : wordsOf n = wordsUpto n (i + 1) := wordsOf_stop hi (by rw [← hx]; exact hz) hb
      have hys' := fun t => strs_push hys (word k.toNat) t
      rw [hws, ← hw] at hys'
      clear hys hws h0 hz hne
      k_steps
      refine join_list (News.isList N1 (by k_mem)) (hys' _) (join_fits (by omega) (by decide +kernel)) ?_
      intro t2 tk2
      k_steps
      rw [← hend]
      exact ret _ _ _ F1.keep
    · rename Builtin.bitAnd _ _ = 0 => hne
      rename Fr _ _ _ _ => F1
      rename News _ _ _ _ => N1
      obtain ⟨hx, hw⟩ := turn_not hki hfl hne
      refine turn_next F1 N1 ⟨f, tf, ws, rfl, rfl, hys, by rw [hws, hw], hx, h0⟩
  · clear hr F N
    rintro m ys kk h tk F N ⟨f, tf, ws, hf, hnm, hys, hws, hfl, h0⟩
    have hlen := StrsAre.length hys
    have hwl := wordsUpto_len n 32
    have hsz : ys.size ≤ 32 := by rw [hws] at hlen; simp at hlen; omega
    have hh0 : (hexT f).length ≤ 262163 := by rw [hfl]; exact left_len hM hn (by omega)
    have hhex : (baseText "0x" 16 f).length ≤ sizeLine := Nat.le_trans hh0 (by rw [sizeLine_eq]; decide)
    have hend : wordsOf n = wordsUpto n 32 ++ [hexT f] := by rw [hfl]; exact wordsOf_end fun e => by rw [← hws]; exact h0 (by rw [hfl]; exact e)
    obtain ⟨u, rfl⟩ := m_eq2 hf hnm
    have hys' := fun t => strs_push hys (hexT f) t
    rw [hws] at hys'
    clear hf hnm hlen hwl h0 hws hys
    k_steps
    rename Fr _ _ _ _ => F1
    rename News _ _ _ _ => N1
    refine join_list (News.isList N1 (by k_mem)) (hys' _) (join_fits1 hh0 (by decide +kernel)) ?_
    intro t2 tk2
    k_steps
    rw [← hend]
    exact ret _ _ _ F1.keep)
end Mine
end

section
open PySem PyProof.Rows PySem.W
namespace Mine
open PySem.Builtin (bitAnd bitOr bitNot bitXor)

/-! ## like ones once -/
section
variable {α β : Type} [DecidableEq α] [DecidableEq β]
def dd (l : List α) : List α := l.foldl (fun kept x => if x ∈ kept then kept else kept ++ [x]) []
theorem dd_snoc (l : List α) (x : α) : dd (l ++ [x]) = if x ∈ dd l then dd l else dd l ++ [x] := by
  unfold dd
  rw [List.foldl_append]; rfl
theorem snoc_ind {p : List α → Prop} (h0 : p []) (h1 : ∀ l x, p l → p (l ++ [x])) (l : List α) : p l := by
  have : ∀ n, ∀ l : List α, l.length = n → p l := by
    intro n
    induction n with
    | zero => intro l hl; rw [List.length_eq_zero_iff.mp hl]; exact h0
    | succ n ih =>
      intro l hl
      have hne : l ≠ [] := by intro e; rw [e] at hl; cases hl
      rw [← List.dropLast_concat_getLast hne]
      exact h1 _ _ (ih _ (by rw [List.length_dropLast, hl]; rfl))
  exact this _ l rfl
theorem mem_dd {l : List α} {y : α} : y ∈ dd l ↔ y ∈ l := by
  induction l using snoc_ind with
  | h0 => exact Iff.rfl
  | h1 l x ih =>
    rw [dd_snoc]
    by_cases h : x ∈ dd l
    · rw [if_pos h, ih, List.mem_append, List.mem_singleton]
      constructor
      · exact .inl
      · rintro (h' | rfl)
        · exact h'
        · exact ih.mp h
    · rw [if_neg h, List.mem_append, List.mem_append, ih]
theorem nodup_dd (l : List α) : (dd l).Nodup := by
  induction l using snoc_ind with
  | h0 => exact List.nodup_nil
  | h1 l x ih =>
    rw [dd_snoc]
    by_cases h : x ∈ dd l
    · rw [if_pos h]; exact ih
    · rw [if_neg h, List.nodup_append]
      refine ⟨ih, by simp, fun a ha b hb => ?_⟩
      rw [List.mem_singleton.mp hb]
      rintro rfl; exact h ha
theorem dd_len (l : List α) : (dd l).length ≤ l.length := by
  induction l using snoc_ind with
  | h0 => exact Nat.le_refl _
  | h1 l x ih =>
    rw [dd_snoc]
    split <;> simp <;> omega
theorem dd_map {f : α → β} (hf : ∀ a b, f a = f b → a = b) (l : List α) : dd (l.map f) = (dd l).map f := by
  induction l using snoc_ind with
  | h0 => rfl
  | h1 l x ih =>
    rw [List.map_append, List.map_cons, List.map_nil, dd_snoc, dd_snoc, ih]
    by_cases h : x ∈ dd l
    · rw [if_pos h, if_pos (List.mem_map.mpr ⟨x, h, rfl⟩)]
    · rw [if_neg h, if_neg, List.map_append]
      · rfl
      · intro h'
        obtain ⟨y, hy, e⟩ := List.mem_map.mp h'
        exact h (hf _ _ e ▸ hy)
theorem dd_take {l : List α} {i : Nat} {x : α} (h : l[i]? = some x) : dd (l.take (i + 1)) = if x ∈ dd (l.take i) then dd (l.take i) else dd (l.take i) ++ [x] := by
  rw [List.take_add_one, h]
  exact dd_snoc _ _
end

/-! ## what the law asks -/
/-- the sets of one list and another, put together by f, each text once -/
def pairsOf (f : Int → Int → Int) (l r : List Int) : List Int := l.flatMap fun a => r.map fun b => f a b
def textsOf (l : List Int) : List Str := l.map textOf
theorem mem_pairs {f : Int → Int → Int} {l r : List Int} {a b : Int} (ha : a ∈ l) (hb : b ∈ r) : f a b ∈ pairsOf f l r :=
  List.mem_flatMap.mpr ⟨a, ha, List.mem_map.mpr ⟨b, hb, rfl⟩⟩
theorem dd_texts (l : List Int) : (dd (textsOf l)).length = (dd l).length := by
  unfold textsOf
  rw [dd_map (fun _ _ => textOf_inj), List.length_map]

theorem law_gaps (ns : List Int) : (dd ns).length ≤ (dd (textsOf (pairsOf (fun a b => bitAnd a (bitNot b)) (dd ns) (dd ns)))).length := by
  rw [dd_texts]
  exact marica (nodup_dd ns) fun a ha b hb => mem_dd.mpr (mem_pairs ha hb)
theorem law_clubs (l r : List Int) : (dd l).length * (dd r).length ≤ (dd (textsOf (pairsOf bitOr (dd l) (dd r)))).length * (dd (textsOf (pairsOf bitAnd (dd l) (dd r)))).length := by
  rw [dd_texts, dd_texts]
  exact daykin (nodup_dd l) (nodup_dd r) (fun a ha b hb => mem_dd.mpr (mem_pairs ha hb)) fun a ha b hb => mem_dd.mpr (mem_pairs ha hb)
end Mine
end

section
open PySem PySem.W PySem.Calls PyProof.Rows
namespace Mine
theorem ints_carried : ∀ {ys : List Value} {xs : List Int}, IntsAre ys xs → CarriedAll ys (xs.map PyData.int)
  | _, _, .nil => .nil
  | _, _, .cons i t h => .cons (.int i t) (ints_carried h)
theorem ints_push' {y : Int} {t : Tok} : ∀ {vs : List Value} {ys : List Int}, IntsAre vs ys → IntsAre (vs ++ [.int y t]) (ys ++ [y])
  | _, _, .nil => .cons y t .nil
  | _, _, .cons z u r => .cons z u (ints_push' r)
theorem ints_push {ys : Array Value} {ws : List Int} (h : IntsAre ys.toList ws) (x : Int) (t : Tok) : IntsAre (ys.push (.int x t)).toList (ws ++ [x]) := by
  rw [Array.toList_push]; exact ints_push' h
theorem strs_at : ∀ {vs : List Value} {xs : List Str}, StrsAre vs xs → ∀ (i : Nat) (v : Value), vs[i]? = some v → ∃ x t, xs[i]? = some x ∧ v = .str x t
  | _, _, .nil, i, v, h => by simp at h
  | _, _, .cons y t r, 0, v, h => ⟨y, t, rfl, by simpa using h.symm⟩
  | _, _, .cons y t r, i + 1, v, h => by
    obtain ⟨x, u, h1, h2⟩ := strs_at r i v (by simpa using h)
    exact ⟨x, u, by simpa using h1, h2⟩
theorem any_int (x : Int) (l : List Int) : (l.map PyData.int).any (datHitsInt x) = decide (x ∈ l) := by
  induction l with
  | nil => simp
  | cons a r ih =>
    rw [List.map_cons, List.any_cons, ih, Bool.eq_iff_iff, Bool.or_eq_true, decide_eq_true_eq, decide_eq_true_eq, List.mem_cons]
    show ((a == x) = true ∨ _) ↔ _
    rw [beq_iff_eq, eq_comm]
theorem any_str (x : Str) (l : List Str) : (l.map PyData.str).any (datHitsStr x) = decide (x ∈ l) := by
  induction l with
  | nil => simp
  | cons a r ih =>
    rw [List.map_cons, List.any_cons, ih, Bool.eq_iff_iff, Bool.or_eq_true, decide_eq_true_eq, decide_eq_true_eq, List.mem_cons]
    show ((a == x) = true ∨ _) ↔ _
    rw [beq_iff_eq, eq_comm]
section
variable {prog : Program} {w : World} {A : Around} {E : Value → Shared → Prop} {s : Shared}
theorem notin_int {D : Addr} {ys : Array Value} {xs : List Int} {x : Int} {u : Tok} {Q : Value → Shared → Prop} (hl : s.heap.IsList D ys) (hi : IntsAre ys.toList xs)
    (h : Q (.bool (!decide (x ∈ xs))) s) : wpAny (model prog w) A (compareOp .NotIn (.int x u) (.ref D)) Q E s :=
  notin_made_int (by simpa using hl) (ints_carried hi) (by rw [any_int]; exact h)
theorem notin_str {D : Addr} {ys : Array Value} {xs : List Str} {x : Str} {u : Tok} {Q : Value → Shared → Prop} (hl : s.heap.IsList D ys) (hi : StrsAre ys.toList xs)
    (h : Q (.bool (!decide (x ∈ xs))) s) : wpAny (model prog w) A (compareOp .NotIn (.str x u) (.ref D)) Q E s :=
  notin_made_str (by simpa using hl) hi.carried (by rw [any_str]; exact h)
end
structure Hide (P : Prop) : Prop where
  out : P
theorem dd_hit {α : Type} [DecidableEq α] {xs ks : List α} {i : Nat} {x : α} (hx : xs[i]? = some x) (hk : ks = dd (xs.take i)) (h : (ks.any fun y => y == x) = true) : ks = dd (xs.take (i + 1)) := by
  rw [dd_take hx, ← hk, if_pos (by simpa using h)]
theorem dd_new {α : Type} [DecidableEq α] {xs ks : List α} {i : Nat} {x : α} (hx : xs[i]? = some x) (hk : ks = dd (xs.take i)) (h : ¬ (ks.any fun y => y == x) = true) : ks ++ [x] = dd (xs.take (i + 1)) := by
  rw [dd_take hx, ← hk, if_neg (by simpa using h)]
theorem m_eq1 {m : Str → Option Value} {x : Str} {v : Value} (hx : m x = some v) : ∃ u : Str → Option Value, m = fun a => if a = x then some v else u a :=
  ⟨m, funext fun a => by
    by_cases h1 : a = x
    · rw [if_pos h1, h1, hx]
    · rw [if_neg h1]⟩

local macro_rules | `(tactic| walk_at "compareOp NotIn") => `(tactic| (k_here; (with_reducible rename IntsAre _ _ => iaN); (with_unfolding_all refine notin_int (News.isList (by k_asm) (by k_mem)) iaN ?_)))
local macro_rules | `(tactic| walk_at "compareOp NotIn") => `(tactic| (k_here; (with_reducible rename StrsAre _ _ => iaN); (with_unfolding_all refine notin_str (News.isList (by k_asm) (by k_mem)) iaN ?_)))

set_option maxRecDepth 100000
set_option maxHeartbeats 8000000 in
theorem un_int (w : World) (dp un : Nat) (fr : Option (List Env)) (gd : Option (List Code)) (ax : Addr) (its : Array Value) (xs : List Int) (s : Shared) (mean : ExcName → Option Value) (mg mb : Str → Option Value)
    (X : (hd.heap_39 w.params).In s.heap) (T : Top hd.view_39 (looseW hd.view_39 [Str.ofString "COMPILER_FLAG_NAMES"]) mean mg mb s.heap) (hdp : dp < recursionLimit)
    (hl : s.heap.IsList ax its) (hi : IntsAre its.toList xs) (hsz : its.size ≤ 1000) (Q E : Value → Shared → Prop)
    (ret : ∀ D ys k h' tk', s.heap.get? D = none → h'.get? D = some (W.listOf ys k) → IntsAre ys.toList (dd xs) → Kp s.heap h' → Q (.ref D) { s with heap := h', toks := tk' }) :
    wpAny (model PySem.Challenge.pw_ta0003_01 w) { handled := none, depth := dp, frames := fr, guards := gd, units := un } (call (.ref 34) [.ref ax]) Q E s := by
  have : (PySem.Challenge.rw_ta0003_01 = PySem.Challenge.rw_ta0003_01) ∧ (Mine.hd.heap_39 = Mine.hd.heap_39) := by
    k_fill; exact ⟨rfl, rfl⟩
  clear this
  refine wpAny_call ?_
  refine codeAny_call_def hdp (X 34 _ (by with_unfolding_all rfl)) rfl T.nolimit (codeRec_of X (by k_is)) rfl (BindsTo.of_eq rfl) (by decide) (locs rfl) (fun h₁ hns hk => ?_) rfl rfl rfl
  have F' : Fr s.heap s.heap.objs.size h₁ _ := ⟨hns, hk, Nat.le_refl _⟩
  have N' : News s.heap s.heap.objs.size h₁ [] := News.nil
  clear hns hk
  dsimp only [List.length, List.map]
  have hi' := Hide.mk hi
  clear hi
  w_strict (
  w_top off
  k_steps
  refine wpAny_For ?_ (by intro _; rfl)
  k_steps
  rename Fr _ _ _ _ => F
  rename News _ _ _ _ => N
  refine for_list rfl hl (by rfl) (by rfl)
    (fun i m ys _ => ∃ (ks : List Int), m (Str.ofString "kept") = some (.ref _) ∧ IntsAre ys.toList ks ∧ ks = dd (xs.take i))
    F N ⟨[], rfl, .nil, rfl⟩ ?_ ?_
  · clear F N
    rintro i v I oI m ys kk h tk hv hID hDI ⟨ks, hkept, hys, hks⟩ F N
    obtain ⟨x, tx, rfl, hx⟩ := IntsAre.at hi'.out i v (by simpa using hv)
    have hlen := IntsAre.length hys
    have hl1 := dd_len (xs.take i)
    have hl2 := IntsAre.length hi'.out
    have hlt : i < its.size := (Array.getElem?_eq_some_iff.mp hv).1
    have hsz : ys.size ≤ 1000 := by rw [hks] at hlen; simp at hlen hl1 hl2; omega
    clear hlen hl1 hl2 hlt hv
    obtain ⟨u, rfl⟩ := m_eq1 hkept
    clear hkept
    k_steps
    · rename Fr _ _ _ _ => F1
      rename News _ _ _ _ => N1
      rename (List.any _ _ = true) => ha
      exact turn_next F1 N1 ⟨ks, rfl, hys, dd_hit hx hks ha⟩
    · rename Fr _ _ _ _ => F1
      rename News _ _ _ _ => N1
      rename (List.any _ _ = false) => ha
      exact turn_next F1 N1 ⟨ks ++ [x], rfl, ints_push hys x tx, dd_new hx hks (by rw [ha]; exact Bool.false_ne_true)⟩
  · rintro m ys kk h tk F N ⟨ks, hkept, hys, hks⟩
    obtain ⟨u, rfl⟩ := m_eq1 hkept
    clear hkept
    have hfull : xs.take its.size = xs := List.take_of_length_le (by have := IntsAre.length hi'.out; simp at this; omega)
    rw [hfull] at hks
    k_steps
    dsimp only
    exact ret _ _ _ _ _ (N _ List.mem_cons_self).2.2 (N _ List.mem_cons_self).1 (hks ▸ hys) F.keep)
end Mine
end

section
open PySem PySem.W PySem.Calls PyProof.Rows
namespace Mine
local macro_rules | `(tactic| walk_at "no such key") => `(tactic| fail)
local macro_rules | `(tactic| walk_at "compareOp NotIn") => `(tactic| (k_here; (with_reducible rename IntsAre _ _ => iaN); (with_unfolding_all refine notin_int (News.isList (by k_asm) (by k_mem)) iaN ?_)))
local macro_rules | `(tactic| walk_at "compareOp NotIn") => `(tactic| (k_here; (with_reducible rename StrsAre _ _ => iaN); (with_unfolding_all refine notin_str (News.isList (by k_asm) (by k_mem)) iaN ?_)))
set_option maxRecDepth 100000
set_option maxHeartbeats 8000000 in
theorem un_str (w : World) (dp un : Nat) (fr : Option (List Env)) (gd : Option (List Code)) (ax : Addr) (its : Array Value) (xs : List Str) (s : Shared) (mean : ExcName → Option Value) (mg mb : Str → Option Value)
    (X : (hd.heap_39 w.params).In s.heap) (T : Top hd.view_39 (looseW hd.view_39 [Str.ofString "COMPILER_FLAG_NAMES"]) mean mg mb s.heap) (hdp : dp < recursionLimit)
    (hl : s.heap.IsList ax its) (hi : StrsAre its.toList xs) (hsz : its.size ≤ 1000) (Q E : Value → Shared → Prop)
    (ret : ∀ D ys k h' tk', s.heap.get? D = none → h'.get? D = some (W.listOf ys k) → StrsAre ys.toList (dd xs) → Kp s.heap h' → Q (.ref D) { s with heap := h', toks := tk' }) :
    wpAny (model PySem.Challenge.pw_ta0003_01 w) { handled := none, depth := dp, frames := fr, guards := gd, units := un } (call (.ref 34) [.ref ax]) Q E s := by
  have : (PySem.Challenge.rw_ta0003_01 = PySem.Challenge.rw_ta0003_01) ∧ (Mine.hd.heap_39 = Mine.hd.heap_39) := by
    k_fill; exact ⟨rfl, rfl⟩
  clear this
  refine wpAny_call ?_
  refine codeAny_call_def hdp (X 34 _ (by with_unfolding_all rfl)) rfl T.nolimit (codeRec_of X (by k_is)) rfl (BindsTo.of_eq rfl) (by decide) (locs rfl) (fun h₁ hns hk => ?_) rfl rfl rfl
  have F' : Fr s.heap s.heap.objs.size h₁ _ := ⟨hns, hk, Nat.le_refl _⟩
  have N' : News s.heap s.heap.objs.size h₁ [] := News.nil
  clear hns hk
  dsimp only [List.length, List.map]
  have hi' := Hide.mk hi
  clear hi
  w_strict (
  w_top off
  k_steps
  refine wpAny_For ?_ (by intro _; rfl)
  k_steps
  rename Fr _ _ _ _ => F
  rename News _ _ _ _ => N
  refine for_list rfl hl (by rfl) (by rfl)
    (fun i m ys _ => ∃ (ks : List Str), m (Str.ofString "kept") = some (.ref _) ∧ StrsAre ys.toList ks ∧ ks = dd (xs.take i))
    F N ⟨[], rfl, .nil, rfl⟩ ?_ ?_
  · clear F N
    rintro i v I oI m ys kk h tk hv hID hDI ⟨ks, hkept, hys, hks⟩ F N
    obtain ⟨x, tx, hx, rfl⟩ := strs_at hi'.out i v (by simpa using hv)
    have hlen := StrsAre.length hys
    have hl1 := dd_len (xs.take i)
    have hl2 := StrsAre.length hi'.out
    have hlt : i < its.size := (Array.getElem?_eq_some_iff.mp hv).1
    have hsz : ys.size ≤ 1000 := by rw [hks] at hlen; simp at hlen hl1 hl2; omega
    clear hlen hl1 hl2 hlt hv
    obtain ⟨u, rfl⟩ := m_eq1 hkept
    clear hkept
    k_steps
    · rename Fr _ _ _ _ => F1
      rename News _ _ _ _ => N1
      rename (List.any _ _ = true) => ha
      exact turn_next F1 N1 ⟨ks, rfl, hys, dd_hit hx hks ha⟩
    · rename Fr _ _ _ _ => F1
      rename News _ _ _ _ => N1
      rename (List.any _ _ = false) => ha
      exact turn_next F1 N1 ⟨ks ++ [x], rfl, strs_push hys x tx, dd_new hx hks (by rw [ha]; exact Bool.false_ne_true)⟩
  · rintro m ys kk h tk F N ⟨ks, hkept, hys, hks⟩
    obtain ⟨u, rfl⟩ := m_eq1 hkept
    clear hkept
    have hfull : xs.take its.size = xs := List.take_of_length_le (by have := StrsAre.length hi'.out; simp at this; omega)
    rw [hfull] at hks
    k_steps
    dsimp only
    exact ret _ _ _ _ _ (N _ List.mem_cons_self).2.2 (N _ List.mem_cons_self).1 (hks ▸ hys) F.keep)
end Mine
end

section
open PySem PySem.W PySem.Calls PyProof.Rows PySem.Spec PySem.SeqAt
namespace Mine
theorem all_str : ∀ (ns ms : List Str), ns.length = ms.length → (List.range ns.length).all (fun j => decide (ns[j]? = ms[j]?)) = decide (ns = ms) := fun ns ms h => by
  rw [Bool.eq_iff_iff, List.all_eq_true, decide_eq_true_eq]
  constructor
  · intro hh
    apply List.ext_getElem?
    intro i
    by_cases hi : i < ns.length
    · exact of_decide_eq_true (hh i (List.mem_range.mpr hi))
    · rw [List.getElem?_eq_none (by omega), List.getElem?_eq_none (by omega)]
  · rintro rfl j _
    exact decide_eq_true rfl
section
variable {prog : Program} {w : World} {A : Around} {E : Value → Shared → Prop} {s : Shared} {a b : Addr} {xs ys : Array Value} {ns ms : List Str} {Q : Value → Shared → Prop}
theorem es_at (hi : StrsAre xs.toList ns) (hj : StrsAre ys.toList ms) : ∀ j (h1 : j < xs.size) (h2 : j < ys.size), EqAt A s xs[j] ys[j] (decide (ns[j]? = ms[j]?)) := by
  intro j h1 h2
  obtain ⟨x, t, hx, ex⟩ := strs_at hi j xs[j] (by simp [h1])
  obtain ⟨y, u, hy, ey⟩ := strs_at hj j ys[j] (by simp [h2])
  rw [ex, ey, hx, hy]
  have := EqAt.str_str (A := A) (s := s) x t y u
  have e : decide (some x = some y) = (x == y) := by
    rw [Bool.eq_iff_iff, decide_eq_true_eq, beq_iff_eq, Option.some.injEq]
  rw [e]; exact this
theorem es_eq (ha : s.heap.IsList a xs) (hb : s.heap.IsList b ys) (hi : StrsAre xs.toList ns) (hj : StrsAre ys.toList ms) (hu : A.units < cLine) (h : Q (.bool (decide (ns = ms))) s) :
    wpAny (model prog w) A (compareOp .Eq (.ref a) (.ref b)) Q E s := by
  have l1 := StrsAre.length hi
  have l2 := StrsAre.length hj
  rw [Array.length_toList] at l1 l2
  by_cases hsz : xs.size = ys.size
  · refine RcAt.lists ha hb hsz hu (es_at hi hj) prog w E Q ?_
    rw [l1, all_str ns ms (by omega)]; exact h
  · refine RcAt.lists_lengths ha hb (by simpa using hsz) hu prog w E Q ?_
    rw [decide_eq_false (by rintro rfl; omega)] at h; exact h
theorem es_ne (ha : s.heap.IsList a xs) (hb : s.heap.IsList b ys) (hi : StrsAre xs.toList ns) (hj : StrsAre ys.toList ms) (hu : A.units < cLine) (h : Q (.bool (!decide (ns = ms))) s) :
    wpAny (model prog w) A (compareOp .NotEq (.ref a) (.ref b)) Q E s := by
  have l1 := StrsAre.length hi
  have l2 := StrsAre.length hj
  rw [Array.length_toList] at l1 l2
  by_cases hsz : xs.size = ys.size
  · refine RcNeAt.lists ha hb hsz hu (es_at hi hj) prog w E Q ?_
    rw [l1, all_str ns ms (by omega)]; exact h
  · refine RcNeAt.lists_lengths ha hb (by simpa using hsz) hu prog w E Q ?_
    rw [decide_eq_false (by rintro rfl; omega)] at h; exact h
end
end Mine
end

section
open PySem PySem.W PySem.Calls PyProof.Rows
namespace Mine
/-- a word of the law's text -/
def CtEl (n k : Int) (news : List (Addr × Obj)) (y : Value) (news' : List (Addr × Obj)) : Prop := news' = news ∧ bit n k.toNat = true ∧ ∃ t : Tok, y = .str (word k.toNat) t
def CtNo (n k : Int) (news news' : List (Addr × Obj)) : Prop := news' = news ∧ bit n k.toNat = false
section
variable {prog : Program} {w : World} {A : Around} {h₀ : Heap} {L : Addr} {m : Str → Option Value} {env : Env} {ct elt : Expr} {x : Str} {scope : Scope} {cl : List (Str × Addr)} {s : Shared} {S : List (Addr × Obj) → Prop} {Fin : List Value → List (Addr × Obj) → Prop} {news : List (Addr × Obj)}
theorem cti_range {M N : Nat} {n : Int} (_hb : Bd M n)
    (turn : ∀ k t I oI C oC D m₂ ys h tk (E' : Value → Shared → Prop), 0 ≤ k → k < (N : Int) → LCg.NsObj oC m₂ → m₂ x = some (.int k t) → Fr h₀ L h m → News h₀ L h ((I, oI) :: (C, oC) :: (D, LCg.lst ys) :: news) → LCg.Off3 I C D news → ((@Ne Nat I C) ∧ (@Ne Nat I D) ∧ (@Ne Nat C D)) →
      wpAny (model prog w) A (isTrue ct (compEnvC scope cl C env) (eval ct (compEnvC scope cl C env))) (fun b s' => if b = true then wpAny (model prog w) A (eval elt (compEnvC scope cl C env)) (LCg.CompEnd h₀ L m { s with heap := h, toks := tk } I oI C oC D (LCg.lst ys) S (fun y news' => CtEl n k news y news')) E' s'
        else LCg.CompEnd h₀ L m { s with heap := h, toks := tk } I oI C oC D (LCg.lst ys) S (fun _ news' => CtNo n k news news') Value.none s') E' { s with heap := h, toks := tk })
    (fin : ∀ ys, StrsAre ys (wordsUpto n N) → ys.length ≤ N → Fin ys news) : LCt.CompRestT prog w A h₀ L m env ct elt x scope cl s S (fun i v => ∃ t, v = .int (0 + (i : Int)) t) Fin N 0 [] news := by
  have key : ∀ (j i : Nat) (ys : List Value), i + j = N → StrsAre ys (wordsUpto n i) → LCt.CompRestT prog w A h₀ L m env ct elt x scope cl s S (fun i v => ∃ t, v = .int (0 + (i : Int)) t) Fin j i ys news := by
    intro j
    induction j with
    | zero =>
      intro i ys hi hy
      have e : i = N := by omega
      subst e
      exact LCt.CompRestT.zero (fin ys hy (by rw [StrsAre.length hy]; exact wordsUpto_len n i))
    | succ j ih =>
      intro i ys hi hy
      refine LCt.CompRestT.succ ?_
      rintro v I oI C oC D m₂ h tk E' ⟨t, rfl⟩ hC hx F N off ne
      rw [Int.zero_add] at hx
      refine wpAny_mono (turn (i : Int) t I oI C oC D m₂ ys h tk E' (by omega) (by omega) hC hx F N off ne) (fun b s₂ hq => ?_) fun _ _ e => e
      cases b with
      | true =>
        simp only [if_true] at hq ⊢
        refine wpAny_mono hq (fun y s₃ hr => ?_) fun _ _ e => e
        obtain ⟨h', tk', nw, e, F', N', off', hS, hn, hb, t', rfl⟩ := hr
        rw [hn] at N' off' hS
        refine ⟨h', tk', news, e, F', N', off', hS, ih (i + 1) _ (by omega) ?_⟩
        rw [Int.toNat_natCast] at hb ⊢
        rw [wordsUpto_succ, hb]
        exact kct_snoc hy
      | false =>
        simp only [Bool.false_eq_true, if_false] at hq ⊢
        obtain ⟨h', tk', nw, e, F', N', off', hS, hn, hb⟩ := hq
        rw [hn] at N' off' hS
        refine ⟨h', tk', news, e, F', N', off', hS, ih (i + 1) _ (by omega) ?_⟩
        rw [Int.toNat_natCast] at hb
        rw [wordsUpto_succ, hb]
        simpa using hy
  exact key N 0 [] (by omega) .nil
end
theorem names_eq {l : List Str} (hl : l = nameL) {i : Nat} (hi : i < 10) : l.getD i Str.empty = word i := by
  subst hl
  have : ∀ j, j < 10 → nameL.getD j Str.empty = word j := by decide +kernel
  exact this i hi
theorem glue_eq {k : Int} (h0 : 10 ≤ k) (h1 : k < 32) : Str.ofString "0x" ++ Txt.item (Str.ofString "1248") (k.fmod 4) ++ Txt.mul (Str.ofString "0") (k.fdiv 4) = word k.toNat := by
  have : ∀ j : Nat, j < 32 → 10 ≤ j → Str.ofString "0x" ++ Txt.item (Str.ofString "1248") ((j : Int).fmod 4) ++ Txt.mul (Str.ofString "0") ((j : Int).fdiv 4) = word j := by decide +kernel
  have h := this k.toNat (by omega) (by omega)
  rwa [Int.toNat_of_nonneg (by omega)] at h
theorem low_bit {n k : Int} (h0 : 0 ≤ k) (h1 : k < 32) : PySem.Builtin.bitAnd ((n.fmod (2 ^ Int.toNat 32)).fdiv (2 ^ k.toNat)) 1 = if bit n k.toNat then 1 else 0 := by
  obtain ⟨i, rfl⟩ : ∃ i : Nat, k = (i : Int) := ⟨k.toNat, by omega⟩
  rw [Int.toNat_natCast, bitAnd_m1, Int.fdiv_eq_ediv_of_nonneg _ (Int.le_of_lt (two_pos i)), Int.fmod_eq_emod_of_nonneg _ (by decide)]
  have hi : i < 32 := by omega
  have e : n % 2 ^ Int.toNat 32 / 2 ^ i % 2 = n / 2 ^ i % 2 := by
    show n % 4294967296 / 2 ^ i % 2 = n / 2 ^ i % 2
    have all : ∀ j : Nat, j < 32 → n % 4294967296 / 2 ^ j % 2 = n / 2 ^ j % 2 := by
      intro j hj
      have cases32 : j = 0 ∨ j = 1 ∨ j = 2 ∨ j = 3 ∨ j = 4 ∨ j = 5 ∨ j = 6 ∨ j = 7 ∨ j = 8 ∨ j = 9 ∨ j = 10 ∨ j = 11 ∨ j = 12 ∨ j = 13 ∨ j = 14 ∨ j = 15 ∨ j = 16 ∨ j = 17 ∨ j = 18 ∨ j = 19 ∨ j = 20 ∨ j = 21 ∨ j = 22 ∨ j = 23 ∨ j = 24 ∨ j = 25 ∨ j = 26 ∨ j = 27 ∨ j = 28 ∨ j = 29 ∨ j = 30 ∨ j = 31 := by omega
      rcases cases32 with rfl | rfl | rfl | rfl | rfl | rfl | rfl | rfl | rfl | rfl | rfl | rfl | rfl | rfl | rfl | rfl | rfl | rfl | rfl | rfl | rfl | rfl | rfl | rfl | rfl | rfl | rfl | rfl | rfl | rfl | rfl | rfl
      · show n % 4294967296 / 1 % 2 = n / 1 % 2; omega
      · show n % 4294967296 / 2 % 2 = n / 2 % 2; omega
      · show n % 4294967296 / 4 % 2 = n / 4 % 2; omega
      · show n % 4294967296 / 8 % 2 = n / 8 % 2; omega
      · show n % 4294967296 / 16 % 2 = n / 16 % 2; omega
      · show n % 4294967296 / 32 % 2 = n / 32 % 2; omega
      · show n % 4294967296 / 64 % 2 = n / 64 % 2; omega
      · show n % 4294967296 / 128 % 2 = n / 128 % 2; omega
      · show n % 4294967296 / 256 % 2 = n / 256 % 2; omega
      · show n % 4294967296 / 512 % 2 = n / 512 % 2; omega
      · show n % 4294967296 / 1024 % 2 = n / 1024 % 2; omega
      · show n % 4294967296 / 2048 % 2 = n / 2048 % 2; omega
      · show n % 4294967296 / 4096 % 2 = n / 4096 % 2; omega
      · show n % 4294967296 / 8192 % 2 = n / 8192 % 2; omega
      · show n % 4294967296 / 16384 % 2 = n / 16384 % 2; omega
      · show n % 4294967296 / 32768 % 2 = n / 32768 % 2; omega
      · show n % 4294967296 / 65536 % 2 = n / 65536 % 2; omega
      · show n % 4294967296 / 131072 % 2 = n / 131072 % 2; omega
      · show n % 4294967296 / 262144 % 2 = n / 262144 % 2; omega
      · show n % 4294967296 / 524288 % 2 = n / 524288 % 2; omega
      · show n % 4294967296 / 1048576 % 2 = n / 1048576 % 2; omega
      · show n % 4294967296 / 2097152 % 2 = n / 2097152 % 2; omega
      · show n % 4294967296 / 4194304 % 2 = n / 4194304 % 2; omega
      · show n % 4294967296 / 8388608 % 2 = n / 8388608 % 2; omega
      · show n % 4294967296 / 16777216 % 2 = n / 16777216 % 2; omega
      · show n % 4294967296 / 33554432 % 2 = n / 33554432 % 2; omega
      · show n % 4294967296 / 67108864 % 2 = n / 67108864 % 2; omega
      · show n % 4294967296 / 134217728 % 2 = n / 134217728 % 2; omega
      · show n % 4294967296 / 268435456 % 2 = n / 268435456 % 2; omega
      · show n % 4294967296 / 536870912 % 2 = n / 536870912 % 2; omega
      · show n % 4294967296 / 1073741824 % 2 = n / 1073741824 % 2; omega
      · show n % 4294967296 / 2147483648 % 2 = n / 2147483648 % 2; omega
    exact all i hi
  rw [e]
  unfold bit
  have h5 : n / 2 ^ i % 2 = 0 ∨ n / 2 ^ i % 2 = 1 := by omega
  rcases h5 with h | h <;> rw [h] <;> simp
theorem bit_ne {n k : Int} (h0 : 0 ≤ k) (h1 : k < 32) (h : PySem.Builtin.bitAnd ((n.fmod (2 ^ Int.toNat 32)).fdiv (2 ^ k.toNat)) 1 ≠ 0) : bit n k.toNat = true := by
  rw [low_bit h0 h1] at h
  cases hb : bit n k.toNat with
  | true => rfl
  | false => rw [hb] at h; exact absurd rfl h
theorem bit_eq {n k : Int} (h0 : 0 ≤ k) (h1 : k < 32) (h : PySem.Builtin.bitAnd ((n.fmod (2 ^ Int.toNat 32)).fdiv (2 ^ k.toNat)) 1 = 0) : bit n k.toNat = false := by
  rw [low_bit h0 h1] at h
  cases hb : bit n k.toNat with
  | false => rfl
  | true => rw [hb] at h; exact absurd h (by decide)
theorem glue_len {k : Int} (h0 : 10 ≤ k) (h1 : k < 32) : (Str.ofString "0x" ++ Txt.item (Str.ofString "1248") (k.fmod 4)).length + (Txt.mul (Str.ofString "0") (k.fdiv 4)).length ≤ sizeLine := by
  have : ∀ j : Nat, j < 32 → 10 ≤ j → (Str.ofString "0x" ++ Txt.item (Str.ofString "1248") ((j : Int).fmod 4)).length + (Txt.mul (Str.ofString "0") ((j : Int).fdiv 4)).length ≤ 100 := by decide +kernel
  have h := this k.toNat (by omega) (by omega)
  rw [Int.toNat_of_nonneg (by omega)] at h
  exact Nat.le_trans h (by rw [sizeLine_eq]; decide)
theorem above_f (n : Int) : n - n.fmod (2 ^ Int.toNat 32) = above n := by
  rw [Int.fmod_eq_emod_of_nonneg _ (by decide)]; rfl
theorem wordsOf_a {n : Int} (h : n - n.fmod (2 ^ Int.toNat 32) ≠ 0) : wordsUpto n 32 ++ [hexT (n - n.fmod (2 ^ Int.toNat 32))] = wordsOf n := by
  rw [above_f] at *
  unfold wordsOf
  rw [if_pos (.inl h)]
theorem wordsOf_b {n : Int} (h : wordsUpto n 32 = []) : wordsUpto n 32 ++ [hexT (n - n.fmod (2 ^ Int.toNat 32))] = wordsOf n := by
  rw [above_f] at *
  unfold wordsOf
  rw [if_pos (.inr h)]
theorem wordsOf_c {n : Int} (h : n - n.fmod (2 ^ Int.toNat 32) = 0) (h2 : ¬ wordsUpto n 32 = []) : wordsUpto n 32 = wordsOf n := by
  rw [above_f] at *
  unfold wordsOf
  rw [if_neg, List.append_nil]
  rintro (h3 | h3)
  · exact h3 h
  · exact h2 h3
theorem above_len {M : Nat} (hM : M ≤ 1048600) {n : Int} (h : Bd M n) : (hexT (n - n.fmod (2 ^ Int.toNat 32))).length ≤ 262163 := by
  rw [above_f, above_eq]; exact left_len hM h (by omega)
theorem strs_push' {ys : List Value} {ws : List Str} (h : StrsAre ys ws) (x : Str) (t : Tok) : StrsAre (ys.toArray.push (.str x t)).toList (ws ++ [x]) := strs_push (by simpa using h) x t
local macro_rules | `(tactic| walk_at "CompSrcT") => `(tactic| (k_here; (with_reducible rename Bd _ _ => hnB); k_dflt
  (refine LCt.CompSrcT.range (by rfl) (by k_asm) (by k_asm) (by assumption) (by decide) (n := 32) (by rfl) (Nat.le_of_ble_eq_true rfl) ?_; intro g'; (refine' cti_range hnB (fun k' t' I' oI' C' oC' D' m' ys' h' tk' E' hlo' hhi' hC' hx' F' N' off' ne' => ?_) ?_); (all_goals (try (simp only [LCg.Off3, and_true] at off'))))))

set_option maxRecDepth 100000
set_option maxHeartbeats 8000000 in
theorem lt (w : World) (dp un : Nat) (fr : Option (List Env)) (gd : Option (List Code)) (n : Int) (t : Tok) (s : Shared) (mean : ExcName → Option Value) (mg mb : Str → Option Value)
    (X : (hd.heap_39 w.params).In s.heap) (T : Top hd.view_39 (looseW hd.view_39 [Str.ofString "COMPILER_FLAG_NAMES"]) mean mg mb s.heap) (hdp : dp < recursionLimit) (hun : un + 100 < cLine)
    (M : Nat) (hM : M ≤ 1048600) (hn : Bd M n) (Q E : Value → Shared → Prop)
    (ret : ∀ t' h' tk', Kp s.heap h' → Q (.str (textOf n) t') { s with heap := h', toks := tk' }) :
    wpAny (model PySem.Challenge.pw_ta0003_01 w) { handled := none, depth := dp, frames := fr, guards := gd, units := un } (call (.ref 27) [.int n t]) Q E s := by
  have : (PySem.Challenge.rw_ta0003_01 = PySem.Challenge.rw_ta0003_01) ∧ (Mine.hd.heap_39 = Mine.hd.heap_39) := by
    k_fill; exact ⟨rfl, rfl⟩
  clear this
  refine wpAny_call ?_
  refine call_cellsN_ret hdp (X 27 _ (by with_unfolding_all rfl)) rfl T.nolimit (codeRec_of X (by k_is)) rfl (kinds_of (by kinds_ok)) (by decide) (fun h₁ tk₁ cells F' N' Y => ?_) rfl rfl rfl
  dsimp only [List.length, List.map]
  obtain ⟨o1, o2, he, d1, d2⟩ := CellsAre.two Y
  subst he
  clear Y
  have hh0 := above_len hM hn
  have hhex : (baseText "0x" 16 (n - n.fmod (2 ^ Int.toNat 32))).length ≤ sizeLine := Nat.le_trans hh0 (by rw [sizeLine_eq]; decide)
  w_strict (
  w_top off
  k_steps
  · exact ⟨rfl, bit_ne (by assumption) (by assumption) (by assumption), _, congrArg (Value.str · _) (names_eq (by kernel_rfl) (by omega))⟩
  · refine add_str ?_ (glue_len (by omega) (by assumption))
    intro t' tk
    k_steps
    exact ⟨rfl, bit_ne (by assumption) (by assumption) (by assumption), _, congrArg (Value.str · _) (glue_eq (by omega) (by assumption))⟩
  · exact ⟨rfl, bit_eq (by assumption) (by assumption) (by assumption)⟩
  · rename StrsAre _ _ => hys
    rename News _ _ _ _ => N1
    rename Fr _ _ _ _ => F1
    rename n - _ ≠ 0 => hne
    refine join_list (News.isList N1 (by k_mem)) (strs_push' hys _ _) (join_fits1 hh0 (by decide +kernel)) ?_
    intro t2 tk2
    have e := wordsOf_a hne
    show Q (Value.str (Txt.join (Str.ofString ", ") (wordsUpto n 32 ++ [hexT (n - n.fmod (2 ^ Int.toNat 32))])) t2) _
    rw [e]
    exact ret _ _ _ F1.keep
  · rename StrsAre _ _ => hys
    rename News _ _ _ _ => N1
    rename n - _ = 0 => hz
    refine es_eq (News.isList N1 (by k_mem)) (News.isList N1 (by k_mem)) (by simpa using hys) .nil (by show un + 3 < cLine; omega) ?_
    k_steps
    · rename News _ _ _ _ => N2
      rename Fr _ _ _ _ => F2
      rename (decide _ = true) => hw
      refine join_list (News.isList N2 (by k_mem)) (strs_push' hys _ _) (join_fits1 hh0 (by decide +kernel)) ?_
      intro t2 tk2
      have e := wordsOf_b (of_decide_eq_true hw)
      show Q (Value.str (Txt.join (Str.ofString ", ") (wordsUpto n 32 ++ [hexT (n - n.fmod (2 ^ Int.toNat 32))])) t2) _
      rw [e]
      exact ret _ _ _ F2.keep
    · rename News _ _ _ _ => N2
      rename Fr _ _ _ _ => F2
      rename (decide _ = false) => hw
      refine join_list (News.isList N2 (by k_mem)) (ys := wordsUpto n 32) (by simpa using hys) (join_fits (by omega) (by decide +kernel)) ?_
      intro t2 tk2
      have e := wordsOf_c hz (of_decide_eq_false hw)
      show Q (Value.str (Txt.join (Str.ofString ", ") (wordsUpto n 32)) t2) _
      rw [e]
      exact ret _ _ _ F2.keep)
end Mine
end

section
open PySem PySem.W PySem.Calls PyProof.Rows
namespace Mine
open LCg (lst NsObj Off3 FinA)

theorem compTurn_d0 (elt t1 i1 t2 i2 : Expr) (scope : Scope) (pos : Pos) (it acc : Value) (env : Env) :
    compTurn (.ListComp elt [⟨t1, i1, [], 0⟩, ⟨t2, i2, [], 0⟩] scope pos) 0 it acc env = (standAt i1.pos >>= fun _ => pyNext it >>= fun r => match r with
      | none => pure (.done .next)
      | some v => letOwnedTupleGo t1 it v >>= fun _ => assign t1 env v >>= fun _ => eval i2 env >>= fun x => standAt i2.pos >>= fun _ => foldedSetIterable i2 env x >>= fun x =>
        holding [x] (pyIter x) >>= fun j => runOwn (.compStart (.ListComp elt [⟨t1, i1, [], 0⟩, ⟨t2, i2, [], 0⟩] scope pos) 1 j acc env) env >>= fun _ =>
          again (.compLoop (.ListComp elt [⟨t1, i1, [], 0⟩, ⟨t2, i2, [], 0⟩] scope pos) 0 it acc env)) := by rfl
theorem compTurn_d1 (elt t1 i1 t2 i2 : Expr) (scope : Scope) (pos : Pos) (it acc : Value) (env : Env) :
    compTurn (.ListComp elt [⟨t1, i1, [], 0⟩, ⟨t2, i2, [], 0⟩] scope pos) 1 it acc env = (standAt i2.pos >>= fun _ => pyNext it >>= fun r => match r with
      | none => pure (.done .next)
      | some v => letOwnedTupleGo t2 it v >>= fun _ => assign t2 env v >>= fun _ => (eval elt env >>= fun x => call (.builtin "list.append") [acc, x] >>= fun _ => pure ()) >>= fun _ =>
          again (.compLoop (.ListComp elt [⟨t1, i1, [], 0⟩, ⟨t2, i2, [], 0⟩] scope pos) 1 it acc env)) := by rfl
section
variable {prog : Program} {w : World} {A : Around} {R : Result → Shared → Prop} {s : Shared}

theorem start_d1 {elt t1 i1 t2 i2 scope pos it acc env}
    (h0 : codeAny (model prog w) A (.compLoop (.ListComp elt [⟨t1, i1, [], 0⟩, ⟨t2, i2, [], 0⟩] scope pos) 1 it acc env) R s)
    (h : wpAny (model prog w) A (pyIter it) (fun it' s' => codeAny (model prog w) A (.compLoop (.ListComp elt [⟨t1, i1, [], 0⟩, ⟨t2, i2, [], 0⟩] scope pos) 1 it' acc env) R s')
      (notedBy (model prog w) A env fun x s' => R (.error x) s') s) :
    codeAny (model prog w) A (.compStart (.ListComp elt [⟨t1, i1, [], 0⟩, ⟨t2, i2, [], 0⟩] scope pos) 1 it acc env) R s := by
  refine codeAny_of_tree ?_
  show wpAny _ _ ((compStart (.ListComp elt [⟨t1, i1, [], 0⟩, ⟨t2, i2, [], 0⟩] scope pos) 1 it acc env).onRaise (fun x => do noteFrame x env; standAt theWindowsPlace)) _ _ s
  refine wpAny_notedAt ?_
  unfold compStart
  show wpAny _ _ (ask >>= _) _ _ s
  refine wpAny_bind (wpAny_askSetting (wpAny_ite ?_))
  split
  · first
      | exact wpAny_bind (wpAny_pure (wpAny_pure (And.intro rfl h0)))
      | exact wpAny_pure (And.intro rfl h0)
  · first
      | exact wpAny_bind (wpAny_rule (wpAny_bind (wpAny_standAt (wpAny_bind (wpAny_mono h (fun it' s' h' => wpAny_pure (And.intro rfl h')) fun _ _ x => x)))))
      | (refine wpAny_bind (wpAny_rule ?_); show wpAny _ _ (standAt i2.pos >>= _) _ _ s; exact wpAny_bind (wpAny_standAt (wpAny_bind (wpAny_mono h (fun it' s' h' => wpAny_pure (And.intro rfl h')) fun _ _ x => x))))

theorem loop_d1 {elt t1 i1 t2 i2 scope pos it acc env} (I : Nat → Shared → Prop)
    (turn : ∀ n s, I n s → wpAny (model prog w) A (pyNext it) (fun r s₁ => match r with
      | none => R (.ok .next) s₁
      | some v => wpAny (model prog w) A (assign t2 env v) (fun _ s₂ => wpAny (model prog w) A (eval elt env) (fun x s₄ =>
            wpAny (model prog w) A (call (.builtin "list.append") [acc, x]) (fun _ s₅ => ∃ m, m < n ∧ I m s₅) (fun _ _ => False) s₄) (fun _ _ => False) s₂) (fun _ _ => False) s₁) (fun _ _ => False) s)
    (n : Nat) (h : I n s) (ht : ∀ v, letOwnedTupleGo t2 it v = pure () := by intro _; rfl) :
    codeAny (model prog w) A (.compLoop (.ListComp elt [⟨t1, i1, [], 0⟩, ⟨t2, i2, [], 0⟩] scope pos) 1 it acc env) R s := by
  refine codeAny_loop rfl I (fun n s hI => ?_) n h
  show wpAny _ A ((compTurn (.ListComp elt [⟨t1, i1, [], 0⟩, ⟨t2, i2, [], 0⟩] scope pos) 1 it acc env).onRaise (fun x => do noteFrame x env; theTreesLotGoes x)) _ _ s
  refine wpAny_noted ?_
  rw [compTurn_d1]
  refine wpAny_bind (wpAny_standAt (wpAny_bind (wpAny_mono (turn n s hI) (fun r s₁ h₁ => ?_) fun _ _ h' => h'.elim)))
  cases r with
  | none => exact wpAny_pure h₁
  | some v =>
    refine wpAny_bind (wpAny_of_eq (ht v) ?_)
    refine wpAny_bind (wpAny_mono h₁ (fun _ s₂ h₂ => ?_) fun _ _ h' => h'.elim)
    exact wpAny_bind (wpAny_bind (wpAny_mono h₂ (fun x s₄ h₄ => wpAny_bind (wpAny_mono h₄ (fun _ s₅ h₅ => wpAny_pure (wpAny_pure ⟨rfl, h₅⟩)) fun _ _ h' => h'.elim)) fun _ _ h' => h'.elim))

theorem loop_d0 {elt t1 i1 t2 i2 scope pos it acc env} (hh : A.handled = none) (I : Nat → Shared → Prop)
    (turn : ∀ n s, I n s → wpAny (model prog w) A (pyNext it) (fun r s₁ => match r with
      | none => R (.ok .next) s₁
      | some v => wpAny (model prog w) A (assign t1 env v) (fun _ s₂ => wpAny (model prog w) A (eval i2 env) (fun x s₃ =>
          wpAny (model prog w) A (pyIter x) (fun j s₄ =>
            codeAny (model prog w) A (.compStart (.ListComp elt [⟨t1, i1, [], 0⟩, ⟨t2, i2, [], 0⟩] scope pos) 1 j acc env) (fun r s₅ => match r with
              | .ok _ => ∃ m, m < n ∧ I m s₅
              | .error _ => False) s₄) (fun _ _ => False) s₃) (fun _ _ => False) s₂) (fun _ _ => False) s₁) (fun _ _ => False) s)
    (n : Nat) (h : I n s) (ht : ∀ v, letOwnedTupleGo t1 it v = pure () := by intro _; rfl) (hs : ∀ x, foldedSetIterable i2 env x = pure x := by intro _; rfl) :
    codeAny (model prog w) A (.compLoop (.ListComp elt [⟨t1, i1, [], 0⟩, ⟨t2, i2, [], 0⟩] scope pos) 0 it acc env) R s := by
  refine codeAny_loop rfl I (fun n s hI => ?_) n h
  show wpAny _ A ((compTurn (.ListComp elt [⟨t1, i1, [], 0⟩, ⟨t2, i2, [], 0⟩] scope pos) 0 it acc env).onRaise (fun x => do noteFrame x env; theTreesLotGoes x)) _ _ s
  refine wpAny_noted ?_
  rw [compTurn_d0]
  refine wpAny_bind (wpAny_standAt (wpAny_bind (wpAny_mono (turn n s hI) (fun r s₁ h₁ => ?_) fun _ _ h' => h'.elim)))
  cases r with
  | none => exact wpAny_pure h₁
  | some v =>
    refine wpAny_bind (wpAny_of_eq (ht v) ?_)
    refine wpAny_bind (wpAny_mono h₁ (fun _ s₂ h₂ => ?_) fun _ _ h' => h'.elim)
    refine wpAny_bind (wpAny_mono h₂ (fun x s₃ h₃ => ?_) fun _ _ h' => h'.elim)
    refine wpAny_bind (wpAny_standAt (wpAny_bind (wpAny_of_eq (hs x) ?_)))
    refine wpAny_bind (wpAny_holding (wpAny_mono h₃ (fun j s₄ h₄ => ?_) fun _ _ h' => h'.elim))
    refine wpAny_bind (wpAny_runOwn ?_)
    rw [show A.mark none = A from by cases A; simp [Around.mark]]
    refine codeAny_mono h₄ fun r s₅ h₅ => ?_
    cases r with
    | ok f => exact wpAny_pure ⟨rfl, h₅⟩
    | error e => exact h₅.elim

variable {env : Env} {elt i1 i2 : Expr} {x y : Str} {px py : Pos} {scope : Scope} {cl : List (Str × Addr)} {pos : Pos} {C D I J ax1 ax2 : Addr} {its1 its2 : Array Value} {ns1 ns2 : List Int}
theorem dbl_inner (hh : A.handled = none) (hkind : scope.kind = .function) (hy : scope.names.lookup y = some .local) (hxy : x ≠ y) (hi : IntsAre its2.toList ns2) {v1 : Value} (g : Int → Str)
    (turn : ∀ k t m₂ h tk (E' : Value → Shared → Prop), k ∈ ns2 → h.Ns C m₂ → m₂ x = some v1 → m₂ y = some (.int k t) → (∀ b o, b ≠ J → b ≠ C → b ≠ D → s.heap.get? b = some o → h.get? b = some o) →
      wpAny (model prog w) A (eval elt (compEnvC scope cl C env)) (fun z s' => ∃ h' tk' t', z = .str (g k) t' ∧ s' = { s with heap := h', toks := tk' } ∧ Kp h h') E' { s with heap := h, toks := tk })
    (hJC : J ≠ C) (hJD : J ≠ D) (hCD : C ≠ D) (hJ2 : ax2 ≠ J) (hC2 : ax2 ≠ C) (hD2 : ax2 ≠ D)
    (hit : s.heap.IsListIter J ax2 0) (hl : s.heap.IsList ax2 its2) {mC : Str → Option Value} (hn : s.heap.Ns C mC) (hx : mC x = some v1) {ys₀ : List Value} (hD : s.heap.get? D = some (lst ys₀)) (hsz : ys₀.length + its2.size ≤ sizeLine)
    (done : ∀ h tk mC' ys, (∀ b o, b ≠ J → b ≠ C → b ≠ D → s.heap.get? b = some o → h.get? b = some o) → h.Ns C mC' → h.get? D = some (lst (ys₀ ++ ys)) → StrsAre ys (ns2.map g) → R (.ok .next) { s with heap := h, toks := tk }) :
    codeAny (model prog w) A (.compLoop (.ListComp elt [⟨.Name x px, i1, [], 0⟩, ⟨.Name y py, i2, [], 0⟩] scope pos) 1 (.ref J) (.ref D) (compEnvC scope cl C env)) R s := by
  have W := Walks.list (prog := prog) (w := w) hh J ax2 hJ2 its2
  refine loop_d1
    (fun k s' => ∃ h tk i mC ys, s' = { s with heap := h, toks := tk } ∧ i ≤ its2.size ∧ k = its2.size + 1 - i ∧ h.IsListIter J ax2 i ∧ h.IsList ax2 its2 ∧ h.Ns C mC ∧ mC x = some v1 ∧ h.get? D = some (lst (ys₀ ++ ys)) ∧ StrsAre ys ((ns2.take i).map g) ∧
      ∀ b o, b ≠ J → b ≠ C → b ≠ D → s.heap.get? b = some o → h.get? b = some o) ?_ (its2.size + 1)
    ⟨s.heap, s.toks, 0, mC, [], rfl, Nat.zero_le _, rfl, hit, hl, hn, hx, by simpa using hD, .nil, fun _ _ _ _ _ e => e⟩
  rintro k s' ⟨h, tk, i, mC', ys, rfl, hi', rfl, hit', hl', hn', hx', hD', hys, keep⟩
  have hlen := IntsAre.length hi
  rw [Array.length_toList] at hlen
  by_cases hlt : i < its2.size
  · refine W.item i _ _ _ hlt ⟨hit', hl'⟩ fun v h₂ tk₂ hPv hst₂ hk₂ => ?_
    obtain ⟨kk, t, rfl, hk⟩ := IntsAre.at hi i v (by simpa using hPv)
    have hn₂ : h₂.Ns C mC' := hn'.at' fun o e => hk₂ _ o (by simpa using Ne.symm hJC) e
    refine wpAny_assign_Name (wpAny_storeName_local (lookup_relabel_local hy) hn₂ (fun h₃ hn₃ hs₃ => ?_) (by simp [compEnvC, relabel, hkind]))
    have hs₃' : ∀ b o, b ≠ C → h₂.get? b = some o → h₃.get? b = some o := fun b o hb e => hs₃.extBut b o hb e
    have keep₃ : ∀ b o, b ≠ J → b ≠ C → b ≠ D → s.heap.get? b = some o → h₃.get? b = some o := fun b o h1 h2 h3 e => hs₃' b o h2 (hk₂ b o (by simpa using h1) (keep b o h1 h2 h3 e))
    have hD₃ : h₃.get? D = some (lst (ys₀ ++ ys)) := hs₃' _ _ (Ne.symm hCD) (hk₂ _ _ (by simpa using Ne.symm hJD) hD')
    refine wpAny_mono (turn kk t _ h₃ _ _ (List.mem_of_getElem? hk) hn₃ (by simp [hxy, hx']) (by simp) keep₃) (fun z s₂ q => ?_) fun _ _ e => e
    obtain ⟨h₄, tk₄, t', rfl, rfl, hk₄⟩ := q
    have hz : (ys₀ ++ ys).toArray.size ≤ sizeLine := by
      have := StrsAre.length hys
      rw [List.length_map, List.length_take] at this
      rw [List.size_toArray, List.length_append]; omega
    refine append_at (hsz := hz) (hk₄ _ _ hD₃) fun h₅ hs₅ hD₅ => ?_
    · have up₅ : ∀ b o, b ≠ D → h₃.get? b = some o → h₅.get? b = some o := fun b o hb e => hs₅.extBut b o hb (hk₄ b o e)
      refine ⟨its2.size + 1 - (i + 1), by omega, h₅, tk₄, i + 1, _, ys ++ [.str (g kk) t'], rfl, hlt, rfl, ?_, ?_, (hn₃.keeps hk₄).sameBut hs₅ hCD, by simp [hxy, hx'], ?_, ?_, fun b o h1 h2 h3 e => up₅ b o h3 (keep₃ b o h1 h2 h3 e)⟩
      · exact (hst₂.1.at fun o e => hs₃' _ o hJC e).at fun o e => up₅ _ o hJD e
      · exact (hst₂.2.at fun o e => hs₃' _ o hC2 e).at fun o e => up₅ _ o hD2 e
      · rw [hD₅, LCg.lst_snoc, List.append_assoc]
      · rw [List.take_add_one, hk, List.map_append]
        exact kct_snoc hys
  · obtain rfl : i = its2.size := Nat.le_antisymm hi' (Nat.not_lt.mp hlt)
    refine W.done _ _ _ ⟨hit', hl'⟩ fun h₂ tk₂ hk₂ => ?_
    refine done h₂ tk₂ mC' ys (fun b o h1 h2 h3 e => hk₂ b o (by simpa using h1) (keep b o h1 h2 h3 e)) (hn'.at' fun o e => hk₂ _ o (by simpa using Ne.symm hJC) e) (hk₂ _ _ (by simpa using Ne.symm hJD) hD') ?_
    rw [List.take_of_length_le (by omega)] at hys
    exact hys

theorem strs_append : ∀ {a b : List Value} {l r : List Str}, StrsAre a l → StrsAre b r → StrsAre (a ++ b) (l ++ r)
  | _, _, _, _, .nil, h => h
  | _, _, _, _, .cons y t h', h => .cons y t (strs_append h' h)

theorem dbl_outer (hh : A.handled = none) (hkind : scope.kind = .function) (hx : scope.names.lookup x = some .local) (hy : scope.names.lookup y = some .local) (hxy : x ≠ y) (hi1 : IntsAre its1.toList ns1) (hi2 : IntsAre its2.toList ns2) (g : Int → Int → Str)
    (src : ∀ k t m₂ h tk (E' : Value → Shared → Prop), k ∈ ns1 → h.Ns C m₂ → m₂ x = some (.int k t) → (∀ b o, b ≠ I → b ≠ C → b ≠ D → s.heap.get? b = some o → h.get? b = some o) →
      wpAny (model prog w) A (eval i2 (compEnvC scope cl C env)) (fun z s' => z = .ref ax2 ∧ ∃ tk', s' = { s with heap := h, toks := tk' }) E' { s with heap := h, toks := tk })
    (turn : ∀ k1 k2 t1 t2 m₂ h tk (E' : Value → Shared → Prop), k1 ∈ ns1 → k2 ∈ ns2 → h.Ns C m₂ → m₂ x = some (.int k1 t1) → m₂ y = some (.int k2 t2) → (∀ b o, b ≠ I → b ≠ C → b ≠ D → s.heap.get? b = some o → h.get? b = some o) →
      wpAny (model prog w) A (eval elt (compEnvC scope cl C env)) (fun z s' => ∃ h' tk' t', z = .str (g k1 k2) t' ∧ s' = { s with heap := h', toks := tk' } ∧ Kp h h') E' { s with heap := h, toks := tk })
    (hIC : I ≠ C) (hID : I ≠ D) (hCD : C ≠ D) (hI1 : ax1 ≠ I) (hC1 : ax1 ≠ C) (hD1 : ax1 ≠ D) (hI2 : ax2 ≠ I) (hC2 : ax2 ≠ C) (hD2 : ax2 ≠ D)
    (hit : s.heap.IsListIter I ax1 0) (hl1 : s.heap.IsList ax1 its1) (hl2 : s.heap.IsList ax2 its2) {mC : Str → Option Value} (hn : s.heap.Ns C mC) (hD : s.heap.get? D = some (lst [])) (hsz : its1.size ≤ 1000) (hsz2 : its2.size ≤ 1000)
    (hs : ∀ x, foldedSetIterable i2 (compEnvC scope cl C env) x = pure x)
    (done : ∀ h tk mC' ys, (∀ b o, b ≠ I → b ≠ C → b ≠ D → s.heap.get? b = some o → h.get? b = some o) → h.Ns C mC' → h.get? D = some (lst ys) → StrsAre ys (ns1.flatMap fun a => ns2.map fun b => g a b) → R (.ok .next) { s with heap := h, toks := tk }) :
    codeAny (model prog w) A (.compLoop (.ListComp elt [⟨.Name x px, i1, [], 0⟩, ⟨.Name y py, i2, [], 0⟩] scope pos) 0 (.ref I) (.ref D) (compEnvC scope cl C env)) R s := by
  have W := Walks.list (prog := prog) (w := w) hh I ax1 hI1 its1
  refine loop_d0 (hs := hs) hh
    (fun k s' => ∃ h tk i mC ys, s' = { s with heap := h, toks := tk } ∧ i ≤ its1.size ∧ k = its1.size + 1 - i ∧ h.IsListIter I ax1 i ∧ h.IsList ax1 its1 ∧ h.Ns C mC ∧ h.get? D = some (lst ys) ∧ StrsAre ys ((ns1.take i).flatMap fun a => ns2.map fun b => g a b) ∧
      ys.length ≤ i * 1000 ∧ ∀ b o, b ≠ I → b ≠ C → b ≠ D → s.heap.get? b = some o → h.get? b = some o) ?_ (its1.size + 1)
    ⟨s.heap, s.toks, 0, mC, [], rfl, Nat.zero_le _, rfl, hit, hl1, hn, hD, .nil, Nat.zero_le _, fun _ _ _ _ _ e => e⟩
  rintro k s' ⟨h, tk, i, mC', ys, rfl, hi', rfl, hit', hl', hn', hD', hys, hyl, keep⟩
  have hlen := IntsAre.length hi1
  rw [Array.length_toList] at hlen
  by_cases hlt : i < its1.size
  · refine W.item i _ _ _ hlt ⟨hit', hl'⟩ fun v h₂ tk₂ hPv hst₂ hk₂ => ?_
    obtain ⟨k1, t1, rfl, hk⟩ := IntsAre.at hi1 i v (by simpa using hPv)
    have hn₂ : h₂.Ns C mC' := hn'.at' fun o e => hk₂ _ o (by simpa using Ne.symm hIC) e
    refine wpAny_assign_Name (wpAny_storeName_local (lookup_relabel_local hx) hn₂ (fun h₃ hn₃ hs₃ => ?_) (by simp [compEnvC, relabel, hkind]))
    have hs₃' : ∀ b o, b ≠ C → h₂.get? b = some o → h₃.get? b = some o := fun b o hb e => hs₃.extBut b o hb e
    have keep₃ : ∀ b o, b ≠ I → b ≠ C → b ≠ D → s.heap.get? b = some o → h₃.get? b = some o := fun b o h1 h2 h3 e => hs₃' b o h2 (hk₂ b o (by simpa using h1) (keep b o h1 h2 h3 e))
    have hD₃ : h₃.get? D = some (lst ys) := hs₃' _ _ (Ne.symm hCD) (hk₂ _ _ (by simpa using Ne.symm hID) hD')
    have hit₃ : h₃.IsListIter I ax1 (i + 1) := hst₂.1.at fun o e => hs₃' _ o hIC e
    have hl₃ : h₃.IsList ax1 its1 := hst₂.2.at fun o e => hs₃' _ o hC1 e
    refine wpAny_mono (src k1 t1 _ h₃ _ _ (List.mem_of_getElem? hk) hn₃ (by simp) keep₃) (fun z s₂ q => ?_) fun _ _ e => e
    obtain ⟨rfl, tk₃, rfl⟩ := q
    have h2₃ : h₃.IsList ax2 its2 := hl2.at fun o e => keep₃ _ o hI2 hC2 hD2 e
    refine wpAny_pyIter_list h2₃ ?_
    have up : ∀ b o, h₃.get? b = some o → (h₃.push { cls := .type "list_iterator", data := .fields #[.ref ax2, .int 0 0] }).get? b = some o := fun b o e => Heap.get?_push_of_some _ e
    have old : ∀ b o, h₃.get? b = some o → b ≠ h₃.objs.size := fun b o e => Nat.ne_of_lt (Heap.lt_size e)
    have hCj : C ≠ h₃.objs.size := by obtain ⟨o, _, _, e, _⟩ := hn₃; exact old _ _ e
    have hDj : D ≠ h₃.objs.size := old _ _ hD₃
    have h2j : ax2 ≠ h₃.objs.size := by obtain ⟨o, e, _⟩ := h2₃; exact old _ _ e
    obtain ⟨oI, heI, hcI⟩ := id hit₃
    have hitj : (h₃.push { cls := .type "list_iterator", data := .fields #[.ref ax2, .int 0 0] }).IsListIter h₃.objs.size ax2 0 := ⟨_, Heap.get?_push_size _ rfl, rfl, rfl⟩
    have inner : codeAny (model prog w) A (.compLoop (.ListComp elt [⟨.Name x px, i1, [], 0⟩, ⟨.Name y py, i2, [], 0⟩] scope pos) 1 (.ref h₃.objs.size) (.ref D) (compEnvC scope cl C env))
        (fun r s₅ => match r with
          | .ok _ => ∃ m, m < its1.size + 1 - i ∧ ∃ h tk i mC ys, s₅ = { s with heap := h, toks := tk } ∧ i ≤ its1.size ∧ m = its1.size + 1 - i ∧ h.IsListIter I ax1 i ∧ h.IsList ax1 its1 ∧ h.Ns C mC ∧ h.get? D = some (lst ys) ∧ StrsAre ys ((ns1.take i).flatMap fun a => ns2.map fun b => g a b) ∧
              ys.length ≤ i * 1000 ∧ ∀ b o, b ≠ I → b ≠ C → b ≠ D → s.heap.get? b = some o → h.get? b = some o
          | .error _ => False) { s with heap := h₃.push { cls := .type "list_iterator", data := .fields #[.ref ax2, .int 0 0] }, toks := tk₃ } := by
      refine dbl_inner (J := h₃.objs.size) (ax2 := ax2) (its2 := its2) (ns2 := ns2) (v1 := .int k1 t1) hh hkind hy hxy hi2 (g k1) (fun k t m₂ h₄ tk₄ E' hk2 hn₄ hx₄ hy₄ keep₄ => ?_)
        (Ne.symm hCj) (Ne.symm hDj) hCD h2j hC2 hD2 hitj (h2₃.push _) (hn₃.push _) (by simp) (up _ _ hD₃) (by rw [sizeLine_eq]; have : i * 1000 ≤ 1000 * 1000 := Nat.mul_le_mul_right _ (by omega); omega)
        (fun h₄ tk₄ mC₄ zs keep₄ hn₄ hD₄ hzs => ?_)
      · exact turn k1 k t1 t m₂ h₄ tk₄ E' (List.mem_of_getElem? hk) hk2 hn₄ hx₄ hy₄ fun b o h1 h2 h3 e => keep₄ b o (old _ _ (keep₃ b o h1 h2 h3 e)) h2 h3 (up _ _ (keep₃ b o h1 h2 h3 e))
      · have k₄ : ∀ b o, b ≠ C → b ≠ D → h₃.get? b = some o → h₄.get? b = some o := fun b o h2 h3 e => keep₄ b o (old _ _ e) h2 h3 (up _ _ e)
        refine ⟨its1.size + 1 - (i + 1), by omega, h₄, tk₄, i + 1, mC₄, ys ++ zs, rfl, hlt, rfl, hit₃.at fun o e => k₄ _ o hIC hID e, hl₃.at fun o e => k₄ _ o hC1 hD1 e, hn₄, hD₄, ?_, ?_, fun b o h1 h2 h3 e => k₄ b o h2 h3 (keep₃ b o h1 h2 h3 e)⟩
        · rw [List.take_add_one, hk, List.flatMap_append]
          exact strs_append hys (by simpa using hzs)
        · have l2 := IntsAre.length hi2
          have l3 := StrsAre.length hzs
          rw [List.length_map] at l3
          rw [Array.length_toList] at l2
          rw [List.length_append]; omega
    exact start_d1 inner (wpAny_pyIter_listiter hitj inner)
  · obtain rfl : i = its1.size := Nat.le_antisymm hi' (Nat.not_lt.mp hlt)
    refine W.done _ _ _ ⟨hit', hl'⟩ fun h₂ tk₂ hk₂ => ?_
    refine done h₂ tk₂ mC' ys (fun b o h1 h2 h3 e => hk₂ b o (by simpa using h1) (keep b o h1 h2 h3 e)) (hn'.at' fun o e => hk₂ _ o (by simpa using Ne.symm hIC) e) (hk₂ _ _ (by simpa using Ne.symm hID) hD') ?_
    rw [List.take_of_length_le (by omega)] at hys
    exact hys
end
end Mine
end

section
open PySem PySem.W PySem.Calls PyProof.Rows
namespace Mine
open LCg (lst NsObj ns_obj)
section
variable {prog : Program} {w : World} {A : Around} {E : Value → Shared → Prop} {s : Shared} {h₀ : Heap} {L : Addr} {m : Str → Option Value} {env : Env}

def DblSrc (prog : Program) (w : World) (A : Around) (h₀ : Heap) (L : Addr) (m : Str → Option Value) (env : Env) (elt i2 : Expr) (x y z : Str) (scope : Scope) (cl : List (Str × Addr)) (Q : Flow → Shared → Prop) (xv : Value) (s₁ : Shared) : Prop :=
  ∃ (ax1 ax2 : Addr) (its1 its2 : Array Value) (ns1 ns2 : List Int) (k1 k2 : Nat) (news : List (Addr × Obj)) (g : Int → Int → Str), xv = .ref ax1 ∧ A.handled = none ∧ Fr h₀ L s₁.heap m ∧ News h₀ L s₁.heap news ∧
    (ax1, W.listOf its1 k1) ∈ news ∧ (ax2, W.listOf its2 k2) ∈ news ∧ IntsAre its1.toList ns1 ∧ IntsAre its2.toList ns2 ∧ its1.size ≤ 1000 ∧ its2.size ≤ 1000 ∧
    (∀ k t C oC m₂ h tk (E' : Value → Shared → Prop), k ∈ ns1 → NsObj oC m₂ → m₂ x = some (.int k t) → Fr h₀ L h m → News h₀ L h ((C, oC) :: news) →
      wpAny (model prog w) A (eval i2 (compEnvC scope cl C env)) (fun z s' => z = .ref ax2 ∧ ∃ tk', s' = { s₁ with heap := h, toks := tk' }) E' { s₁ with heap := h, toks := tk }) ∧
    (∀ k1 k2 t1 t2 C oC m₂ h tk (E' : Value → Shared → Prop), k1 ∈ ns1 → k2 ∈ ns2 → NsObj oC m₂ → m₂ x = some (.int k1 t1) → m₂ y = some (.int k2 t2) → Fr h₀ L h m → News h₀ L h ((C, oC) :: news) →
      wpAny (model prog w) A (eval elt (compEnvC scope cl C env)) (fun z s' => ∃ h' tk' t', z = .str (g k1 k2) t' ∧ s' = { s₁ with heap := h', toks := tk' } ∧ Kp h h') E' { s₁ with heap := h, toks := tk }) ∧
    (∀ D h tk ys, Fr h₀ L h (fun a => if a = z then some (.ref D) else m a) → News h₀ L h ((D, lst ys) :: news) → (∀ p ∈ news, p.1 < D) → StrsAre ys (ns1.flatMap fun a => ns2.map fun b => g a b) → Q .next { s₁ with heap := h, toks := tk })

theorem Assign_ListComp_D {elt i1 i2 : Expr} {x y z : Str} {px py pz : Pos} {scope : Scope} {cl : List (Str × Addr)} {pos spos : Pos} {Q : Flow → Shared → Prop} (_F₀ : Fr h₀ L s.heap m) (hLe : env.locals = L)
    (hsw : swapsWith (.ListComp elt [⟨.Name x px, i1, [], 0⟩, ⟨.Name y py, i2, [], 0⟩] scope pos) (some (.Name z pz)) spos.line env = pure true)
    (hclos : closureFor scope env = pure cl) (hcell : ∀ z ∈ scope.names, z.2 ≠ .cell) (hkind : scope.kind = .function)
    (hnames : ∀ z ∈ scope.names, z.2 = .local → scope.names.lookup z.1 = some .local) (hx : scope.names.lookup x = some .local) (hy : scope.names.lookup y = some .local) (hxy : x ≠ y)
    (hz : env.kindOf z = some .local) (hp : (env.scope.kind == .class || (env.scope.kind == .module && env.locals != env.globals)) = false)
    (h : wpAny (model prog w) A (eval i1 env) (DblSrc prog w A h₀ L m env elt i2 x y z scope cl Q) E s)
    (hs : ∀ x, foldedSetIterable i1 env x = pure x := by intro _; rfl) (hs2 : ∀ env x, foldedSetIterable i2 env x = pure x := by intro _ _; rfl) :
    wpAny (model prog w) A (exec (.Assign [.Name z pz] (.ListComp elt [⟨.Name x px, i1, [], 0⟩, ⟨.Name y py, i2, [], 0⟩] scope pos) spos) env) Q E s := by
  subst hLe
  rw [exec_Assign_Name_used _ _ _ _ hsw]
  refine wpAny_bind (wpAny_standAt (wpAny_bind ?_))
  show wpAny _ A (do let _ ← comprehension (.ListComp elt [⟨.Name x px, i1, [], 0⟩, ⟨.Name y py, i2, [], 0⟩] scope pos) scope env _ (newList []) false (eval i1 env) (some (assign (.Name z pz) env))) _ _ s
  refine wpAny_bind (wpAny_mono (wpAny_comprehension_free (use := some (assign (.Name z pz) env)) (Q := fun _ s' => Q .next s') rfl hs hclos hkind hnames
    (wpAny_mono h (fun xv s₁ h₁ => ?_) fun _ _ e => e)) (fun _ s' hq => wpAny_pure (wpAny_pure hq)) fun _ _ e => e)
  obtain ⟨ax1, ax2, its1, its2, ns1, ns2, k1, k2, news, g, rfl, hh, F, N, m1, m2, hi1, hi2, hz1, hz2, src, turn, fin⟩ := h₁
  have hl1 : s₁.heap.IsList ax1 its1 := News.isList N m1
  have hl2 : s₁.heap.IsList ax2 its2 := News.isList N m2
  have lt1 : ax1 < s₁.heap.objs.size := by obtain ⟨_, e, _⟩ := hl1; exact Heap.lt_size e
  have lt2 : ax2 < s₁.heap.objs.size := by obtain ⟨_, e, _⟩ := hl2; exact Heap.lt_size e
  refine wpAny_pyIter_list hl1 ?_
  generalize hH1 : s₁.heap.push { cls := .type "list_iterator", data := .fields #[.ref ax1, .int 0 0] } = H1
  have hI : H1.get? s₁.heap.objs.size = some { cls := .type "list_iterator", data := .fields #[.ref ax1, .int 0 0] } := by rw [← hH1]; exact Heap.get?_push_size _ rfl
  have up1 : ∀ b o, s₁.heap.get? b = some o → H1.get? b = some o := fun b o e => by rw [← hH1]; exact Heap.get?_push_of_some _ e
  have hs1 : H1.objs.size = s₁.heap.objs.size + 1 := by rw [← hH1, Heap.size_push]
  refine wpAny_newObj_type (wpAny_newFunctionEnv hcell (by intro y hy; simp at hy) (fun h₁ hns₁ hsb₁ => ?_) hkind)
  dsimp only at hns₁ hsb₁ ⊢
  generalize hH2 : H1.push { cls := .type "list", dict := none, data := .seq ([] : List Value).toArray } = H2 at hns₁ hsb₁ ⊢
  have hs2' : H2.objs.size = s₁.heap.objs.size + 2 := by rw [← hH2, Heap.size_push, hs1]
  have hD : H2.get? H1.objs.size = some (lst []) := by rw [← hH2]; exact Heap.get?_push_size _ rfl
  have up2 : ∀ b o, s₁.heap.get? b = some o → H2.get? b = some o := fun b o e => by rw [← hH2]; exact Heap.get?_push_of_some _ (up1 b o e)
  have hI2 : H2.get? s₁.heap.objs.size = some { cls := .type "list_iterator", data := .fields #[.ref ax1, .int 0 0] } := by rw [← hH2]; exact Heap.get?_push_of_some _ hI
  have nC : ∀ b, b < s₁.heap.objs.size + 2 → b ≠ H2.objs.size := fun b hb => by rw [hs2']; exact Nat.ne_of_lt hb
  have old : ∀ b o, s₁.heap.get? b = some o → h₁.get? b = some o := fun b o e => hsb₁.extBut b o (nC b (Nat.lt_succ_of_lt (Nat.lt_succ_of_lt (Heap.lt_size e)))) (Heap.get?_push_of_some _ (up2 b o e))
  have hit : h₁.IsListIter s₁.heap.objs.size ax1 0 := ⟨_, hsb₁.extBut _ _ (nC _ (Nat.lt_succ_of_lt (Nat.lt_succ_self _))) (Heap.get?_push_of_some _ hI2), rfl, rfl⟩
  have hD₁ : h₁.get? H1.objs.size = some (lst []) := hsb₁.extBut _ _ (nC _ (by rw [hs1]; exact Nat.lt_succ_self _)) (Heap.get?_push_of_some _ hD)
  have hIC : s₁.heap.objs.size ≠ H2.objs.size := nC _ (Nat.lt_succ_of_lt (Nat.lt_succ_self _))
  have hID : s₁.heap.objs.size ≠ H1.objs.size := by rw [hs1]; exact Nat.ne_of_lt (Nat.lt_succ_self _)
  have hCD : H2.objs.size ≠ H1.objs.size := by rw [hs1, hs2']; exact Nat.ne_of_gt (Nat.lt_succ_self _)
  have off : ∀ b, b < s₁.heap.objs.size → b ≠ s₁.heap.objs.size ∧ b ≠ H2.objs.size ∧ b ≠ H1.objs.size := fun b hb => ⟨Nat.ne_of_lt hb, nC b (Nat.lt_succ_of_lt (Nat.lt_succ_of_lt hb)), by rw [hs1]; exact Nat.ne_of_lt (Nat.lt_succ_of_lt hb)⟩
  have fresh₀ : ∀ a, s₁.heap.objs.size ≤ a → h₀.get? a = none := fun a ha => by
    cases e : h₀.get? a with
    | none => rfl
    | some o' => exact absurd (Heap.lt_size (F.keep a o' e)) (Nat.not_lt.mpr ha)
  have hC₀ : h₀.get? H2.objs.size = none := fresh₀ _ (by rw [hs2']; omega)
  have hD₀ : h₀.get? H1.objs.size = none := fresh₀ _ (by rw [hs1]; omega)
  have hLlt : env.locals < s₁.heap.objs.size := F.ns.lt
  have keepF : ∀ h : Heap, (∀ b o, b ≠ s₁.heap.objs.size → b ≠ H2.objs.size → b ≠ H1.objs.size → h₁.get? b = some o → h.get? b = some o) → ∀ b o, s₁.heap.get? b = some o → h.get? b = some o := fun h k b o e =>
    k b o (off b (Heap.lt_size e)).1 (off b (Heap.lt_size e)).2.1 (off b (Heap.lt_size e)).2.2 (old b o e)
  have newsC : ∀ (h : Heap) m₂, (∀ b o, b ≠ s₁.heap.objs.size → b ≠ H2.objs.size → b ≠ H1.objs.size → h₁.get? b = some o → h.get? b = some o) → h.Ns H2.objs.size m₂ → ∃ oC, NsObj oC m₂ ∧ Fr h₀ env.locals h m ∧ News h₀ env.locals h ((H2.objs.size, oC) :: news) := fun h m₂ k hn => by
    obtain ⟨oC, eC, hoC⟩ := ns_obj hn
    refine ⟨oC, hoC, F.keeps (keepF h k), fun p hp => ?_⟩
    rcases List.mem_cons.mp hp with rfl | hp
    · exact ⟨eC, Ne.symm (off _ hLlt).2.1, hC₀⟩
    · exact N.grown (keepF h k) p hp
  have loop : ∀ s₃ : Shared, s₃ = { s₁ with heap := h₁, toks := s₁.toks + ([] : List (Str × Value)).length } →
      codeAny (model prog w) A (.compLoop (.ListComp elt [⟨.Name x px, i1, [], 0⟩, ⟨.Name y py, i2, [], 0⟩] scope pos) 0 (.ref s₁.heap.objs.size) (.ref H1.objs.size) (compEnvC scope cl H2.objs.size env))
        (compPost (model prog w) A E (some (assign (.Name z pz) env)) (fun _ s' => Q .next s') (.ref H1.objs.size) H2.objs.size) s₃ := by
    rintro s₃ rfl
    refine dbl_outer (ax1 := ax1) (ax2 := ax2) (its1 := its1) (its2 := its2) (ns1 := ns1) (ns2 := ns2) hh hkind hx hy hxy hi1 hi2 g
      (fun k t m₂ h tk E' hk hn hxx keep => ?_) (fun ka kb ta tb m₂ h tk E' hka hkb hn hxx hyy keep => ?_)
      hIC hID hCD (off _ lt1).1 (off _ lt1).2.1 (off _ lt1).2.2 (off _ lt2).1 (off _ lt2).2.1 (off _ lt2).2.2 hit (hl1.at fun o e => old _ _ e) (hl2.at fun o e => old _ _ e) hns₁ hD₁ hz1 hz2 (hs2 _) (fun h tk mC' ys keep hn hD' hys => ?_)
    · obtain ⟨oC, hoC, F', N'⟩ := newsC h m₂ keep hn
      exact src k t _ oC m₂ h tk E' hk hoC hxx F' N'
    · obtain ⟨oC, hoC, F', N'⟩ := newsC h m₂ keep hn
      exact turn ka kb ta tb _ oC m₂ h tk E' hka hkb hoC hxx hyy F' N'
    · show wpAny _ A (assign (.Name z pz) env (.ref H1.objs.size)) _ _ _
      have F' : Fr h₀ env.locals h m := F.keeps (keepF h keep)
      refine wpAny_assign_Name (wpAny_storeName_local hz F'.ns (fun h₂ hn₂ hs₂ => ?_) hp)
      have hL₀ : h₀.get? env.locals = none := Heap.get?_none_of_le F'.above
      have F₂ : Fr h₀ env.locals h₂ (fun a => if a = z then some (.ref H1.objs.size) else m a) := ⟨hn₂, fun b o e => hs₂.extBut b o (fun q => by rw [q, hL₀] at e; cases e) (F'.keep b o e), F'.above⟩
      refine ⟨mC', hn.sameBut hs₂ (Ne.symm (off _ hLlt).2.1), fun h'' hs'' => fin H1.objs.size h'' _ ys (F₂.change hs'' (Ne.symm (off _ hLlt).2.1) hC₀) (fun p hp => ?_) (fun p hp => by rw [hs1]; exact Nat.lt_succ_of_lt (Heap.lt_size (N p hp).1)) hys⟩
      rcases List.mem_cons.mp hp with rfl | hp
      · exact ⟨hs''.extBut _ _ (Ne.symm hCD) (hs₂.extBut _ _ (Ne.symm (off _ hLlt).2.2) hD'), Ne.symm (off _ hLlt).2.2, hD₀⟩
      · have z := N p hp
        exact ⟨hs''.extBut _ _ (off _ (Heap.lt_size z.1)).2.1 (hs₂.extBut _ _ z.2.1 (keepF h keep _ _ z.1)), z.2⟩
  exact codeAny_compStart_list (loop _ rfl) (wpAny_pyIter_listiter hit (loop _ rfl))
end
end Mine
end

section
open PySem PySem.W PySem.Calls PyProof.Rows
namespace Mine
open LCg (lst NsObj ns_obj)
section
variable {prog : Program} {w : World} {A : Around} {E : Value → Shared → Prop} {s : Shared}

theorem nextOf_tuple_item {it t : Addr} {i : Nat} {items : Array Value} {x : Value} {Q : Value → Shared → Prop} (hit : s.heap.IsTupleIter it t i) (ht : s.heap.IsTuple t items) (hx : items[i]? = some x)
    (hQ : ∀ h', h'.IsTupleIter it t (i + 1) → Heap.SameBut it s.heap h' → Q x { s with heap := h' }) : wpAny (model prog w) A (Builtin.SmallTypes.nextOf (.ref it)) Q E s := by
  obtain ⟨o, ho, hc, hd⟩ := id hit
  obtain ⟨ol, hol, _, nl, hdl⟩ := ht
  unfold Builtin.SmallTypes.nextOf
  refine wpAny_bind (wpAny_callSpecial?_slot (name := Str.ofString "__next__") hit.typeIs F.slot_tuple_iterator_next
    (wpAny_call_entry F.slot_tuple_iterator_next hit.typeIs F.entry_tuple_iterator_next ?_ (F.args_tuple_iterator_next_1 _)))
  show wpAny _ _ (field (.ref it) 0 >>= _) _ _ s
  refine wpAny_bind (wpAny_field ho hd (x := .ref t) rfl ?_)
  show wpAny _ _ (if (Value.ref t == Value.none) = true then _ else _) _ _ s
  rw [if_neg (show ¬ ((Value.ref t == Value.none) = true) from Bool.false_ne_true)]
  show wpAny _ _ (field (.ref it) 1 >>= _) _ _ s
  refine wpAny_bind (wpAny_field ho hd (x := .int i 0) rfl ?_)
  show wpAny _ _ (seqItems? (.ref t) >>= _) _ _ s
  refine wpAny_bind (wpAny_seqItems hol hdl ?_)
  simp only [Int.toNat_natCast, hx]
  refine wpAny_bind (wpAny_setField ho hd (by simp) (wpAny_pure ⟨x, rfl, wpAny_pure (hQ _ ?_ (Heap.SameBut.update ..))⟩))
  exact ⟨_, Heap.get?_update_self _ ho (Obj.isFreed_of_fields (Obj.data_mapFields hd _)), (Obj.cls_mapFields ..).trans hc, by
    rw [Obj.data_mapFields hd]; simp [rawInt]⟩

theorem nextOf_tuple_end {it t : Addr} {i : Nat} {items : Array Value} {Q : Value → Shared → Prop} (hh : A.handled = none) (hit : s.heap.IsTupleIter it t i) (ht : s.heap.IsTuple t items) (hx : items[i]? = none)
    (hE : ∀ h' e, Heap.ExtBut it s.heap h' → (∃ o, h'.get? e = some o ∧ o.cls = .type "StopIteration") → E (.ref e) { s with heap := h' }) : wpAny (model prog w) A (Builtin.SmallTypes.nextOf (.ref it)) Q E s := by
  obtain ⟨o, ho, hc, hd⟩ := id hit
  obtain ⟨ol, hol, _, nl, hdl⟩ := ht
  unfold Builtin.SmallTypes.nextOf
  refine wpAny_bind (wpAny_callSpecial?_slot (name := Str.ofString "__next__") hit.typeIs F.slot_tuple_iterator_next
    (wpAny_call_entry F.slot_tuple_iterator_next hit.typeIs F.entry_tuple_iterator_next ?_ (F.args_tuple_iterator_next_1 _)))
  show wpAny _ _ (field (.ref it) 0 >>= _) _ _ s
  refine wpAny_bind (wpAny_field ho hd (x := .ref t) rfl ?_)
  show wpAny _ _ (if (Value.ref t == Value.none) = true then _ else _) _ _ s
  rw [if_neg (show ¬ ((Value.ref t == Value.none) = true) from Bool.false_ne_true)]
  show wpAny _ _ (field (.ref it) 1 >>= _) _ _ s
  refine wpAny_bind (wpAny_field ho hd (x := .int i 0) rfl ?_)
  show wpAny _ _ (seqItems? (.ref t) >>= _) _ _ s
  refine wpAny_bind (wpAny_seqItems hol hdl ?_)
  simp only [Int.toNat_natCast, hx]
  refine wpAny_bind (wpAny_rule (wpAny_bind (wpAny_setField ho hd (by simp) ?_)))
  show wpAny _ _ (newExc (.type "StopIteration") [] >>= _) _ _ _
  refine wpAny_bind ?_
  simp only [newExc, newTuple]
  refine wpAny_bind (wpAny_newObj_type ?_ (by size_fits))
  refine wpAny_bind (m := firstArgMember _ _) (wpAny_of_eq (a := Value.none) (by first | rfl | (simp only [firstArgMember]; rfl)) ?_)
  refine wpAny_newObj_type ?_ (by size_fits)
  simp only [raiseNew]
  refine wpAny_bind (wpAny_handled ?_)
  first | rw [show A.in1.handled = none from hh] | rw [hh]
  refine wpAny_bind (wpAny_pure (wpAny_throw ?_))
  exact hE _ _ (((Heap.SameBut.update ..).extBut.push _).push _) ⟨_, Heap.get?_push_size _ rfl, rfl⟩
end
theorem isTuple_at {h h' : Heap} {a : Addr} {items : Array Value} (x : h.IsTuple a items) (e : ∀ o, h.get? a = some o → h'.get? a = some o) : h'.IsTuple a items := let ⟨o, ho, r⟩ := x; ⟨o, e _ ho, r⟩
theorem isTupleIter_at {h h' : Heap} {a t : Addr} {i : Nat} (x : h.IsTupleIter a t i) (e : ∀ o, h.get? a = some o → h'.get? a = some o) : h'.IsTupleIter a t i := let ⟨o, ho, r⟩ := x; ⟨o, e _ ho, r⟩
theorem draws_tuple {prog : Program} {w : World} {A : Around} (hh : A.handled = none) (it t : Addr) (hne : t ≠ it) (items : Array Value) :
    Draws prog w A it [it, t] items.size (fun i v => items[i]? = some v) (fun i h => h.IsTupleIter it t i ∧ h.IsTuple t items) where
  live := fun _ _ st => let ⟨o, ho, _⟩ := st.1; ⟨o, ho⟩
  frame := fun _ _ _ st hk => ⟨isTupleIter_at st.1 fun o e => hk it (by simp) o e, isTuple_at st.2 fun o e => hk t (by simp) o e⟩
  item := fun i s Q E hi st hQ => by
    refine nextOf_tuple_item st.1 st.2 (x := items[i]) (by simp [hi]) fun h' hit' hs' => ?_
    exact hQ _ h' s.toks (by simp [hi]) ⟨hit', st.2.extBut hs'.extBut hne⟩ hs'
  done := fun s Q E st hE => nextOf_tuple_end hh st.1 st.2 (by simp) hE

set_option maxRecDepth 100000 in
theorem meets_enumerate_newT (l : Addr) (items : Array Value) (n : Nat) (dct : Option Addr) (sl : Array (Option Value)) :
    Meets (Builtin.«enumerate.__new__» ⟨[.type "enumerate", .ref l], []⟩) (fun _ R s => s.heap.get? l = some { cls := .type "tuple", dict := dct, data := .seq items n, slots := sl } ∧
      R (.ok (.ret (.ref (s.heap.push { cls := .type "tuple_iterator", data := .fields #[.ref l, .int 0 0] }).objs.size)))
        { s with heap := (s.heap.push { cls := .type "tuple_iterator", data := .fields #[.ref l, .int 0 0] }).push { cls := .type "enumerate", data := .fields #[.none, .bool false, .ref s.heap.objs.size, rawInt 0, .none, .none] } }) :=
  .of_wp fun prog w A R s h => by
    obtain ⟨hp, g, d, tk, os⟩ := s; obtain ⟨hl, h⟩ := h
    have hsub := sub_enumerate
    have hL : Heap.IsTuple (Shared.heap ⟨hp, g, d, tk, os⟩) l items := ⟨_, hl, rfl, n, rfl⟩
    wp_walk using AutoSeq1.wpAny_loadPart' hl
    refine wpAny_stack_any fun st => wpAny_pure ?_
    split
    · rename_i c _ _ _ _ _
      cases (c == Value.type "enumerate")
      · wp_walk using AutoSeq1.wpAny_loadPart' hl, wpAny_pyIter_tuple hL
        exact ⟨_, rfl, h⟩
      · wp_walk using AutoSeq1.wpAny_loadPart' hl, wpAny_pyIter_tuple hL
        exact ⟨_, rfl, h⟩
    · wp_walk using AutoSeq1.wpAny_loadPart' hl, wpAny_pyIter_tuple hL
      exact ⟨_, rfl, h⟩
theorem call_enumerate_tuple {prog : Program} {w : World} {A : Around} {E : Value → Shared → Prop} {s : Shared} {l : Addr} {items : Array Value} {Q : Value → Shared → Prop} (hL : s.heap.IsTuple l items)
    (h : ∀ h', IsEnum h' (s.heap.objs.size + 1) s.heap.objs.size 0 .none → h'.IsTupleIter s.heap.objs.size l 0 → h'.objs.size = s.heap.objs.size + 2 →
      (∀ b o, s.heap.get? b = some o → h'.get? b = some o) → Q (.ref (s.heap.objs.size + 1)) { s with heap := h' }) :
    wpAny (model prog w) A (call (.type "enumerate") [.ref l]) Q E s := by
  obtain ⟨⟨c, dct, dt, sl⟩, hl, hc, n, hd⟩ := hL
  replace hc : c = .type "tuple" := hc
  replace hd : dt = .seq items n := hd
  subst hc hd
  refine callType_new F.called_enumerate (by decide) (F.typeCall_enumerate_1 _) (F.newCall_enumerate_1 _) (fun obj => F.args_object_init_2 obj _) F.entry_enumerate_new
    (meets_enumerate_newT l items n dct sl) ⟨hl, ?_⟩
  have hz : (s.heap.push { cls := .type "tuple_iterator", data := .fields #[.ref l, .int 0 0] }).objs.size = s.heap.objs.size + 1 := Heap.size_push ..
  show _ ∧ _
  rw [hz]
  have he : IsEnum ((s.heap.push { cls := .type "tuple_iterator", data := .fields #[.ref l, .int 0 0] }).push
      { cls := .type "enumerate", data := .fields #[.none, .bool false, .ref s.heap.objs.size, rawInt 0, .none, .none] }) (s.heap.objs.size + 1) s.heap.objs.size 0 .none := by
    have := Heap.get?_push_size (s.heap.push { cls := .type "tuple_iterator", data := .fields #[.ref l, .int 0 0] })
      (o := { cls := .type "enumerate", data := .fields #[.none, .bool false, .ref s.heap.objs.size, rawInt 0, .none, .none] }) rfl
    rw [hz] at this; exact this
  refine ⟨⟨_, he, rfl⟩, h _ he ⟨_, Heap.get?_push_of_some _ (Heap.get?_push_size _ rfl), rfl, rfl⟩ (by rw [Heap.size_push, hz]) fun b o x => Heap.get?_push_of_some _ (Heap.get?_push_of_some _ x)⟩
end Mine
end

section
open PySem PySem.W PySem.Calls PyProof.Rows
namespace Mine
open LCg (lst NsObj ns_obj)
def EnEl (h₀ : Heap) (L : Addr) (m : Str → Option Value) (s₁ : Shared) (led : List (Addr × Obj)) (r : Int) (z : Value) (s' : Shared) : Prop :=
  ∃ h' tk' t', z = .int r t' ∧ s' = { s₁ with heap := h', toks := tk' } ∧ Fr h₀ L h' m ∧ News h₀ L h' led
section
variable {prog : Program} {w : World} {A : Around} {E : Value → Shared → Prop} {s : Shared} {h₀ : Heap} {L : Addr} {m : Str → Option Value} {env : Env}

def EnSrc (prog : Program) (w : World) (A : Around) (h₀ : Heap) (L : Addr) (m : Str → Option Value) (env : Env) (elt : Expr) (a b z : Str) (scope : Scope) (cl : List (Str × Addr)) (Q : Flow → Shared → Prop) (xv : Value) (s₁ : Shared) : Prop :=
  ∃ (e it tp : Addr) (items : Array Value) (to : Obj) (news : List (Addr × Obj)) (G : Nat → Int), xv = .ref e ∧ A.handled = none ∧ Fr h₀ L s₁.heap m ∧ News h₀ L s₁.heap news ∧
    (tp, to) ∈ news ∧ (to.cls = .type "tuple" ∧ ∃ n, to.data = .seq items n) ∧ IsEnum s₁.heap e it 0 .none ∧ s₁.heap.IsTupleIter it tp 0 ∧ e ≠ it ∧ (∀ p ∈ news, p.1 < it) ∧ L < it ∧ L < e ∧ (∀ p ∈ news, p.1 < e) ∧ h₀.get? e = none ∧ h₀.get? it = none ∧ items.size ≤ 1000 ∧
    (∀ (i : Nat) t v e oe it oi C oC D oD m₂ h tk (E' : Value → Shared → Prop), items[i]? = some v → NsObj oC m₂ → m₂ a = some (.int (i : Int) t) → m₂ b = some v → Fr h₀ L h m → News h₀ L h ((e, oe) :: (it, oi) :: (C, oC) :: (D, oD) :: news) →
      wpAny (model prog w) A (eval elt (compEnvC scope cl C env)) (EnEl h₀ L m s₁ ((e, oe) :: (it, oi) :: (C, oC) :: (D, oD) :: news) (G i)) E' { s₁ with heap := h, toks := tk }) ∧
    (∀ D h tk ys, Fr h₀ L h (fun a => if a = z then some (.ref D) else m a) → News h₀ L h ((D, lst ys) :: news) → (∀ p ∈ news, p.1 < D) → IntsAre ys ((List.range items.size).map G) → Q .next { s₁ with heap := h, toks := tk })

theorem Assign_ListComp_En {elt i1 : Expr} {a b z : Str} {pa pb tp' pz : Pos} {kk : Nat} {scope : Scope} {cl : List (Str × Addr)} {pos spos : Pos} {Q : Flow → Shared → Prop} (_F₀ : Fr h₀ L s.heap m) (hLe : env.locals = L)
    (hsw : swapsWith (.ListComp elt [⟨.Tuple [.Name a pa, .Name b pb] kk tp', i1, [], 0⟩] scope pos) (some (.Name z pz)) spos.line env = pure true)
    (hclos : closureFor scope env = pure cl) (hcell : ∀ z ∈ scope.names, z.2 ≠ .cell) (hkind : scope.kind = .function)
    (hnames : ∀ z ∈ scope.names, z.2 = .local → scope.names.lookup z.1 = some .local) (ha : scope.names.lookup a = some .local) (hb : scope.names.lookup b = some .local) (hab : a ≠ b)
    (hz : env.kindOf z = some .local) (hp : (env.scope.kind == .class || (env.scope.kind == .module && env.locals != env.globals)) = false)
    (h : wpAny (model prog w) A (eval i1 env) (EnSrc prog w A h₀ L m env elt a b z scope cl Q) E s)
    (hs : ∀ x, foldedSetIterable i1 env x = pure x := by intro _; rfl) :
    wpAny (model prog w) A (exec (.Assign [.Name z pz] (.ListComp elt [⟨.Tuple [.Name a pa, .Name b pb] kk tp', i1, [], 0⟩] scope pos) spos) env) Q E s := by
  subst hLe
  rw [exec_Assign_Name_used _ _ _ _ hsw]
  refine wpAny_bind (wpAny_standAt (wpAny_bind ?_))
  show wpAny _ A (do let _ ← comprehension (.ListComp elt [⟨.Tuple [.Name a pa, .Name b pb] kk tp', i1, [], 0⟩] scope pos) scope env _ (newList []) false (eval i1 env) (some (assign (.Name z pz) env))) _ _ s
  refine wpAny_bind (wpAny_mono (wpAny_comprehension_free (use := some (assign (.Name z pz) env)) (Q := fun _ s' => Q .next s') rfl hs hclos hkind hnames
    (wpAny_mono h (fun xv s₁ h₁ => ?_) fun _ _ e => e)) (fun _ s' hq => wpAny_pure (wpAny_pure hq)) fun _ _ e => e)
  obtain ⟨e, it, tp, items, to, news, G, rfl, hh, F, N, mt, ⟨htc, tn, htd⟩, he, hit, hei, offi, hLi, hLE, offe, he₀, hit₀, hsz, turn, fin⟩ := h₁
  have hE' : e < s₁.heap.objs.size := Heap.lt_size he
  have hI' : it < s₁.heap.objs.size := by obtain ⟨_, q, _⟩ := hit; exact Heap.lt_size q
  have hT' : tp < s₁.heap.objs.size := Heap.lt_size (N _ mt).1
  have hL' : env.locals < s₁.heap.objs.size := F.ns.lt
  have hti : tp ≠ it := Nat.ne_of_lt (offi _ mt)
  have hte : tp ≠ e := Nat.ne_of_lt (offe _ mt)
  have W := WalksT.enumerateD (prog := prog) (w := w) (draws_tuple (A := A.in1) hh it tp hti items) e hei (by simp [hei, Ne.symm hte]) (by simp)
  refine wpAny_pyIter_enum he ?_
  refine wpAny_newObj_type (wpAny_newFunctionEnv hcell (by intro y hy; simp at hy) (fun h₁ hns₁ hsb₁ => ?_) hkind)
  dsimp only at hns₁ hsb₁ ⊢
  generalize hH2 : s₁.heap.push { cls := .type "list", dict := none, data := .seq ([] : List Value).toArray } = H2 at hns₁ hsb₁ ⊢
  have hs2 : H2.objs.size = s₁.heap.objs.size + 1 := by rw [← hH2, Heap.size_push]
  have hD : H2.get? s₁.heap.objs.size = some (lst []) := by rw [← hH2]; exact Heap.get?_push_size _ rfl
  have up2 : ∀ b o, s₁.heap.get? b = some o → H2.get? b = some o := fun b o q => by rw [← hH2]; exact Heap.get?_push_of_some _ q
  have off : ∀ b, b < s₁.heap.objs.size → b ≠ H2.objs.size ∧ b ≠ s₁.heap.objs.size := fun b hb => ⟨by rw [hs2]; exact Nat.ne_of_lt (Nat.lt_succ_of_lt hb), Nat.ne_of_lt hb⟩
  have hCD : H2.objs.size ≠ s₁.heap.objs.size := by rw [hs2]; exact Nat.ne_of_gt (Nat.lt_succ_self _)
  have old : ∀ b o, s₁.heap.get? b = some o → h₁.get? b = some o := fun b o q => hsb₁.extBut b o (off b (Heap.lt_size q)).1 (Heap.get?_push_of_some _ (up2 b o q))
  have hD₁ : h₁.get? s₁.heap.objs.size = some (lst []) := hsb₁.extBut _ _ (Ne.symm hCD) (Heap.get?_push_of_some _ hD)
  have fresh₀ : ∀ a, s₁.heap.objs.size ≤ a → h₀.get? a = none := fun a ha => by
    cases q : h₀.get? a with
    | none => rfl
    | some o' => exact absurd (Heap.lt_size (F.keep a o' q)) (Nat.not_lt.mpr ha)
  have hC₀ : h₀.get? H2.objs.size = none := fresh₀ _ (by rw [hs2]; omega)
  have hD₀ : h₀.get? s₁.heap.objs.size = none := fresh₀ _ (Nat.le_refl _)
  have hCL := Ne.symm (off _ hL').1
  have hDL := Ne.symm (off _ hL').2
  have tup : ∀ h : Heap, News h₀ env.locals h news → h.IsTuple tp items := fun h N' => ⟨to, (N' _ mt).1, htc, tn, htd⟩
  have hLi' : env.locals ≠ it := Nat.ne_of_lt hLi
  have hLe' : env.locals ≠ e := Nat.ne_of_lt hLE
  have loop : ∀ s₃ : Shared, s₃ = { s₁ with heap := h₁, toks := s₁.toks + ([] : List (Str × Value)).length } →
      codeAny (model prog w) A (.compLoop (.ListComp elt [⟨.Tuple [.Name a pa, .Name b pb] kk tp', i1, [], 0⟩] scope pos) 0 (.ref e) (.ref s₁.heap.objs.size) (compEnvC scope cl H2.objs.size env))
        (compPost (model prog w) A E (some (assign (.Name z pz) env)) (fun _ s' => Q .next s') (.ref s₁.heap.objs.size) H2.objs.size) s₃ := by
    rintro s₃ rfl
    refine kcp_loop
      (fun k s' => ∃ h tk i ys mC, s' = { s₁ with heap := h, toks := tk } ∧ i ≤ items.size ∧ k = items.size + 1 - i ∧ ys.length = i ∧ ((∃ o, IsEnum h e it i o) ∧ h.IsTupleIter it tp i ∧ h.IsTuple tp items) ∧ Fr h₀ env.locals h m ∧ h.Ns H2.objs.size mC ∧
        News h₀ env.locals h ((s₁.heap.objs.size, lst ys) :: news) ∧ IntsAre ys ((List.range i).map G)) ?_ (items.size + 1)
      ⟨h₁, _, 0, [], _, rfl, Nat.zero_le _, rfl, rfl, ⟨⟨_, old _ _ he⟩, isTupleIter_at hit fun o q => old _ o q, tup _ (N.grown old)⟩, F.keeps old, hns₁, fun p hp => ?_, .nil⟩
    · rintro k s' ⟨h', tk, i, ys, mC, rfl, hi, rfl, hyl, hst, F', hn', N', hys⟩
      have N'' : News h₀ env.locals h' news := fun p hp => N' p (List.mem_cons_of_mem _ hp)
      have hD' : h'.get? s₁.heap.objs.size = some (lst ys) := (N' _ List.mem_cons_self).1
      by_cases hlt : i < items.size
      · refine W.item i _ _ _ hlt hst fun T vals h₂ tk₂ hPt _ hTup hMid hk₂ => ?_
        refine W.go _ _ _ i T _ _ _ hMid fun h₃ hst₃ hk₃ => ?_
        obtain ⟨t, v, hv, rfl⟩ := hPt
        have hTw := W.apart i T _ hMid
        have up₃ : ∀ c o, c ≠ e → c ≠ it → h'.get? c = some o → h₃.get? c = some o := fun c o h1 h2 q => hk₃ c o (by simp [h1, h2]) (hk₂ c o (by simp [h1, h2]) q)
        have hT₃ : h₃.IsTuple T #[.int i t, v] := isTuple_at hTup fun o q => hk₃ T o hTw q
        have hCe : H2.objs.size ≠ e := Ne.symm (off _ hE').1
        have hCi : H2.objs.size ≠ it := Ne.symm (off _ hI').1
        have hDe : s₁.heap.objs.size ≠ e := Ne.symm (off _ hE').2
        have hDi : s₁.heap.objs.size ≠ it := Ne.symm (off _ hI').2
        refine kcp_assign (env := compEnvC scope cl H2.objs.size env) hh hT₃ (lookup_relabel_local ha) (lookup_relabel_local hb) (by simp [compEnvC, relabel, hkind]) (hn'.at' fun o q => up₃ _ o hCe hCi q) fun h₄ tk₄ hn₄ hs₄ => ?_
        have up : ∀ c o, c ≠ e → c ≠ it → c ≠ H2.objs.size → h'.get? c = some o → h₄.get? c = some o := fun c o h1 h2 h3 q => hs₄ c o h3 (up₃ c o h1 h2 q)
        have hst₄ : (∃ o, IsEnum h₄ e it (i + 1 : Nat) o) ∧ h₄.IsTupleIter it tp (i + 1) ∧ h₄.IsTuple tp items := W.frame _ _ _ hst₃ fun c hc o q => hs₄ c o (by
          rcases List.mem_cons.mp hc with rfl | hc
          · exact Ne.symm hCe
          · rcases List.mem_cons.mp hc with rfl | hc
            · exact Ne.symm hCi
            · rw [List.mem_singleton.mp hc]; exact (off _ hT').1) q
        obtain ⟨⟨oo, hen⟩, hit4, _⟩ := id hst₄
        obtain ⟨oi, hoi, hoi'⟩ := id hit4
        obtain ⟨oC, heC, hoC⟩ := ns_obj hn₄
        have F₄ : Fr h₀ env.locals h₄ m := ⟨F'.ns.at' fun o q => up _ o hLe' hLi' (Ne.symm hCL) q, fun c o q => up c o (fun x => by rw [x, he₀] at q; cases q) (fun x => by rw [x, hit₀] at q; cases q) (fun x => by rw [x, hC₀] at q; cases q) (F'.keep c o q), F'.above⟩
        have N₄ : ∀ oe, h₄.get? e = some oe → News h₀ env.locals h₄ ((e, oe) :: (it, oi) :: (H2.objs.size, oC) :: (s₁.heap.objs.size, lst ys) :: news) := fun oe hoe p hp => by
          rcases List.mem_cons.mp hp with rfl | hp
          · exact ⟨hoe, Ne.symm hLe', he₀⟩
          · rcases List.mem_cons.mp hp with rfl | hp
            · exact ⟨hoi, Ne.symm hLi', hit₀⟩
            · rcases List.mem_cons.mp hp with rfl | hp
              · exact ⟨heC, hCL, hC₀⟩
              · rcases List.mem_cons.mp hp with rfl | hp
                · exact ⟨up _ _ hDe hDi (Ne.symm hCD) hD', hDL, hD₀⟩
                · have q := N'' p hp
                  exact ⟨up _ _ (Nat.ne_of_lt (offe _ hp)) (Nat.ne_of_lt (offi _ hp)) (off _ (Heap.lt_size (N p hp).1)).1 q.1, q.2⟩
        refine wpAny_mono (turn i t v e _ it oi _ oC _ (lst ys) _ h₄ tk₄ _ hv hoC (by simp [hab]) (by simp) F₄ (N₄ _ hen)) (fun zz s₅ hr => ?_) fun _ _ q => q
        obtain ⟨h₅, tk₅, t', rfl, rfl, F₅, N₅⟩ := hr
        have zE := (N₅ _ List.mem_cons_self).1
        have zI := (N₅ _ (List.mem_cons_of_mem _ List.mem_cons_self)).1
        have zC := (N₅ _ (List.mem_cons_of_mem _ (List.mem_cons_of_mem _ List.mem_cons_self))).1
        have zD := (N₅ _ (List.mem_cons_of_mem _ (List.mem_cons_of_mem _ (List.mem_cons_of_mem _ List.mem_cons_self)))).1
        have N₅' : News h₀ env.locals h₅ news := fun p hp => N₅ p (List.mem_cons_of_mem _ (List.mem_cons_of_mem _ (List.mem_cons_of_mem _ (List.mem_cons_of_mem _ hp))))
        have hz : ys.toArray.size ≤ sizeLine := by rw [List.size_toArray, hyl, sizeLine_eq]; omega
        refine append_at (hsz := hz) zD fun h₆ hs₆ hD₆ => ?_
        have up₆ : ∀ c o, c ≠ s₁.heap.objs.size → h₅.get? c = some o → h₆.get? c = some o := fun c o hc q => hs₆.extBut c o hc q
        have N₆ : News h₀ env.locals h₆ news := fun p hp => ⟨up₆ _ _ (off _ (Heap.lt_size (N p hp).1)).2 (N₅' p hp).1, (N₅' p hp).2⟩
        refine ⟨items.size + 1 - (i + 1), by omega, h₆, tk₅, i + 1, ys ++ [.int (G i) t'], _, rfl, hlt, rfl, by rw [List.length_append, List.length_singleton, hyl], ⟨⟨_, up₆ _ _ (Ne.symm hDe) zE⟩, ⟨oi, up₆ _ _ (Ne.symm hDi) zI, hoi'⟩, tup _ N₆⟩, F₅.change hs₆ hDL hD₀,
          (hoC.ns zC).sameBut hs₆ hCD, fun p hp => ?_, ?_⟩
        · rcases List.mem_cons.mp hp with rfl | hp
          · exact ⟨hD₆.trans (congrArg some (LCg.lst_snoc ys _)), hDL, hD₀⟩
          · exact N₆ p hp
        · rw [List.range_succ, List.map_append]
          exact ints_push' hys
      · obtain rfl : i = items.size := Nat.le_antisymm hi (Nat.not_lt.mp hlt)
        refine W.done _ _ _ hst fun h₂ tk₂ hk₂ => ?_
        have up₂ : ∀ c o, c ≠ e → c ≠ it → h'.get? c = some o → h₂.get? c = some o := fun c o h1 h2 q => hk₂ c o (by simp [h1, h2]) q
        show wpAny _ A (assign (.Name z pz) env (.ref s₁.heap.objs.size)) _ _ _
        have F₂ : Fr h₀ env.locals h₂ m := ⟨F'.ns.at' fun o q => up₂ _ o hLe' hLi' q, fun c o q => up₂ c o (fun x => by rw [x, he₀] at q; cases q) (fun x => by rw [x, hit₀] at q; cases q) (F'.keep c o q), F'.above⟩
        have hn₂ := hn'.at' fun o q => up₂ _ o (Ne.symm (off _ hE').1) (Ne.symm (off _ hI').1) q
        refine wpAny_assign_Name (wpAny_storeName_local hz F₂.ns (fun h₃ hn₃ hs₃ => ?_) hp)
        have hL₀ : h₀.get? env.locals = none := Heap.get?_none_of_le F₂.above
        have F₃ : Fr h₀ env.locals h₃ (fun a => if a = z then some (.ref s₁.heap.objs.size) else m a) := ⟨hn₃, fun b o q => hs₃.extBut b o (fun x => by rw [x, hL₀] at q; cases q) (F₂.keep b o q), F₂.above⟩
        refine ⟨mC, hn₂.sameBut hs₃ hCL, fun h'' hs'' => fin s₁.heap.objs.size h'' _ ys (F₃.change hs'' hCL hC₀) (fun p hp => ?_) (fun p hp => Heap.lt_size (N p hp).1) hys⟩
        rcases List.mem_cons.mp hp with rfl | hp
        · exact ⟨hs''.extBut _ _ (Ne.symm hCD) (hs₃.extBut _ _ hDL (up₂ _ _ (Ne.symm (off _ hE').2) (Ne.symm (off _ hI').2) hD')), hDL, hD₀⟩
        · have q := N'' p hp
          exact ⟨hs''.extBut _ _ (off _ (Heap.lt_size (N p hp).1)).1 (hs₃.extBut _ _ q.2.1 (up₂ _ _ (Nat.ne_of_lt (offe _ hp)) (Nat.ne_of_lt (offi _ hp)) q.1)), q.2⟩
    · rcases List.mem_cons.mp hp with rfl | hp
      · exact ⟨hD₁, hDL, hD₀⟩
      · exact ⟨old _ _ (N p hp).1, (N p hp).2⟩
  exact codeAny_compStart_list (loop _ rfl) (W.self 0 _ _ _ ⟨⟨_, old _ _ he⟩, isTupleIter_at hit fun o q => old _ o q, tup _ (N.grown old)⟩ (loop _ rfl))

theorem en_call {elt : Expr} {a b z : Str} {scope : Scope} {cl : List (Str × Addr)} {Q : Flow → Shared → Prop} {tp : Addr} {items : Array Value} {to : Obj} {news : List (Addr × Obj)} (hh : A.handled = none) (F : Fr h₀ L s.heap m) (N : News h₀ L s.heap news)
    (mt : (tp, to) ∈ news) (htc : to.cls = .type "tuple") {n : Nat} (htd : to.data = .seq items n) (hsz : items.size ≤ 1000) (G : Nat → Int)
    (turn : ∀ g (i : Nat) t v e oe it oi C oC D oD m₂ h tk (E' : Value → Shared → Prop), items[i]? = some v → NsObj oC m₂ → m₂ a = some (.int (i : Int) t) → m₂ b = some v → Fr h₀ L h m → News h₀ L h ((e, oe) :: (it, oi) :: (C, oC) :: (D, oD) :: news) →
      wpAny (model prog w) A (eval elt (compEnvC scope cl C env)) (EnEl h₀ L m { s with heap := g } ((e, oe) :: (it, oi) :: (C, oC) :: (D, oD) :: news) (G i)) E' { s with heap := h, toks := tk })
    (fin : ∀ D h tk ys, Fr h₀ L h (fun a => if a = z then some (.ref D) else m a) → News h₀ L h ((D, lst ys) :: news) → (∀ p ∈ news, p.1 < D) → IntsAre ys ((List.range items.size).map G) → Q .next { s with heap := h, toks := tk }) :
    wpAny (model prog w) A (call (.type "enumerate") [.ref tp]) (EnSrc prog w A h₀ L m env elt a b z scope cl Q) E s := by
  refine call_enumerate_tuple ⟨to, (N _ mt).1, htc, n, htd⟩ fun h' he hit hsz' hk => ?_
  have hL' : L < s.heap.objs.size := F.ns.lt
  have fresh₀ : ∀ a, s.heap.objs.size ≤ a → h₀.get? a = none := fun a ha => by
    cases q : h₀.get? a with
    | none => rfl
    | some o' => exact absurd (Heap.lt_size (F.keep a o' q)) (Nat.not_lt.mpr ha)
  exact ⟨s.heap.objs.size + 1, s.heap.objs.size, tp, items, to, news, G, rfl, hh, F.keeps hk, N.grown hk, mt, ⟨htc, n, htd⟩, he, hit, Nat.succ_ne_self _, fun p hp => Heap.lt_size (N p hp).1, hL', Nat.lt_succ_of_lt hL', fun p hp => Nat.lt_succ_of_lt (Heap.lt_size (N p hp).1),
    fresh₀ _ (Nat.le_succ _), fresh₀ _ (Nat.le_refl _), hsz, fun i t v e oe it oi C oC D oD m₂ h tk E' => turn h' i t v e oe it oi C oC D oD m₂ h tk E', fin⟩
end
end Mine
end

section
open PySem PySem.W PySem.Calls PyProof.Rows
namespace Mine
section
variable {prog : Program} {w : World} {A : Around} {E : Value → Shared → Prop} {s : Shared}
theorem preSum_take (ns : List Int) : ∀ n, n ≤ ns.length → preSum (fun i => ns.getD i 0) n = (ns.take n).sum
  | 0, _ => by simp [preSum]
  | n + 1, h => by
    have := preSum_take ns n (by omega)
    rw [List.take_add_one, List.sum_append, ← this]
    simp [preSum, List.getElem?_eq_getElem (show n < ns.length by omega)]
theorem sum_N {l : Addr} {vs : Array Value} {ns : List Int} {Q : Value → Shared → Prop} (hh : A.handled = none) (hl : s.heap.IsList l vs) (hi : IntsAre vs.toList ns)
    (h : ∀ h' tk t', Kp s.heap h' → Q (.int ns.sum t') { s with heap := h', toks := tk }) : wpAny (model prog w) A (call (.builtin "sum") [.ref l]) Q E s := by
  have hlt : l < s.heap.objs.size := by obtain ⟨_, e, _⟩ := hl; exact Heap.lt_size e
  have hlen := IntsAre.length hi
  rw [Array.length_toList] at hlen
  refine call_sum_walkG (wpAny_pyIter_list hl ?_)
  refine ⟨s.heap.objs.size, [s.heap.objs.size, l], [s.heap.objs.size], vs.size, _, _, fun i => ns.getD i 0, rfl, Walks.list (A := A.in1) hh s.heap.objs.size l (Nat.ne_of_lt hlt) vs, ⟨⟨_, Heap.get?_push_size _ rfl, rfl, rfl⟩, hl.push _⟩, fun b hb => ?_, fun i v hP => ?_, fun h' tk t' hk => ?_⟩
  · show b < (s.heap.push _).objs.size
    rw [Heap.size_push]
    rcases List.mem_cons.mp hb with rfl | hb
    · exact Nat.lt_succ_self _
    · rw [List.mem_singleton.mp hb]; exact Nat.lt_succ_of_lt hlt
  · obtain ⟨n, t, rfl, e⟩ := IntsAre.at hi i v (by simpa using hP)
    exact ⟨t, by simp [List.getD, e]⟩
  · rw [hlen, preSum_take ns _ (Nat.le_refl _), List.take_length]
    exact h h' tk t' fun b o e => hk b o (by rw [List.mem_singleton]; exact Nat.ne_of_lt (Heap.lt_size e)) (Heap.get?_push_of_some _ e)
end
theorem pick_mem {ns : List Int} {lo hi st : Option Int} {x : Int} (h : x ∈ pickNums ns lo hi st) : x ∈ ns := by
  unfold pickNums at h
  obtain ⟨j, _, hj⟩ := List.mem_filterMap.mp h
  exact List.mem_of_getElem? hj
theorem sum_bd {M : Nat} : ∀ l : List Int, (∀ x ∈ l, Bd M x) → -((l.length : Int) * 2 ^ M) ≤ l.sum ∧ l.sum ≤ (l.length : Int) * 2 ^ M
  | [], _ => by simp
  | a :: l, h => by
    have ih := sum_bd l fun x hx => h x (List.mem_cons_of_mem _ hx)
    have ha := h a List.mem_cons_self
    unfold Bd at ha
    rw [List.length_cons, List.sum_cons, Int.natCast_add, Int.natCast_one, Int.add_mul, Int.one_mul]
    generalize (l.length : Int) * 2 ^ M = z at *
    omega
def firsts : List Int := [0, 33, 1, 32, 1056]
def numG (ns : List Int) (i : Nat) : Int := firsts.getD i 0 + (pickNums ns (some (i : Int)) (some 60) (some 5)).sum
def nums5 (ns : List Int) : List Int := (List.range 5).map (numG ns)
theorem firsts_bd (i : Nat) : 0 ≤ firsts.getD i 0 ∧ firsts.getD i 0 ≤ 1056 := by
  match i with
  | 0 => decide
  | 1 => decide
  | 2 => decide
  | 3 => decide
  | 4 => decide
  | n + 5 => simp [firsts]
theorem firsts_at {a b c d e : Tok} {i : Nat} {v : Value} (h : (#[Value.int 0 a, Value.int 33 b, Value.int 1 c, Value.int 32 d, Value.int 1056 e])[i]? = some v) : ∃ tv, v = .int (firsts.getD i 0) tv := by
  match i, h with
  | 0, h => exact ⟨a, Option.some.inj h.symm⟩
  | 1, h => exact ⟨b, Option.some.inj h.symm⟩
  | 2, h => exact ⟨c, Option.some.inj h.symm⟩
  | 3, h => exact ⟨d, Option.some.inj h.symm⟩
  | 4, h => exact ⟨e, Option.some.inj h.symm⟩
  | n + 5, h => simp at h
theorem numG_bd {M : Nat} (hM : 3 ≤ M) {vs : List Value} {ns : List Int} (hi : IntsAre vs ns) (hlen : ns.length ≤ 63) (hb : ∀ x ∈ ns, Bd M x) (i : Nat) : Bd (M + 8) (numG ns i) := by
  have h1 := sum_bd (pickNums ns (some (i : Int)) (some 60) (some 5)) fun x hx => hb x (pick_mem hx)
  have h2 := length_pickNums_le hi (some (i : Int)) (some 60) (some 5)
  have h3 := firsts_bd i
  have h4 : ((pickNums ns (some (i : Int)) (some 60) (some 5)).length : Int) * 2 ^ M ≤ 63 * 2 ^ M := Int.mul_le_mul_of_nonneg_right (by omega) (Int.le_of_lt (two_pos M))
  have h5 : (8 : Int) ≤ 2 ^ M := by
    have := pow_up hM; exact this
  unfold Bd numG
  rw [Int.pow_add]
  have e : (2 : Int) ^ 8 = 256 := by decide
  rw [e]
  generalize (2 : Int) ^ M = p at *
  generalize ((pickNums ns (some (i : Int)) (some 60) (some 5)).length : Int) * p = z at *
  omega
theorem nums5_bd {M : Nat} (hM : 3 ≤ M) {vs : List Value} {ns : List Int} (hi : IntsAre vs ns) (hlen : ns.length ≤ 63) (hb : ∀ x ∈ ns, Bd M x) : ∀ x ∈ nums5 ns, Bd (M + 8) x := by
  intro x hx
  obtain ⟨i, _, rfl⟩ := List.mem_map.mp hx
  exact numG_bd hM hi hlen hb i
theorem script_bd {ns : List Int} (h : (PyData.list (ns.map PyData.int)).layable0 = true) : ∀ x ∈ ns, Bd 1048576 x := by
  intro x hx
  have := PySem.intBits_le_iff.mp (PySem.intBits_le_of_item hx h)
  have h2 : ((x.natAbs : Nat) : Int) < (2 : Int) ^ 1048576 := by
    have h3 := Int.ofNat_lt.mpr this
    rw [Int.natCast_pow] at h3
    exact h3
  unfold Bd
  generalize (2 : Int) ^ 1048576 = p at *
  omega
end Mine
end

section
open PySem PySem.W PySem.Calls PyProof.Rows
namespace Mine
open LCg (lst NsObj)
/-! ## the contracts, as the walk wants them -/
theorem dd_ints_size {ys : Array Value} {xs : List Int} {its : Array Value} (h : IntsAre ys.toList (dd xs)) (hi : IntsAre its.toList xs) (hsz : its.size ≤ 1000) : ys.size ≤ 1000 := by
  have h1 := IntsAre.length h
  have h2 := IntsAre.length hi
  have h3 := dd_len xs
  rw [Array.length_toList] at h1 h2
  omega
theorem dd_strs_size {ys : Array Value} {xs : List Str} {its : Array Value} (h : StrsAre ys.toList (dd xs)) (hi : StrsAre its.toList xs) (hsz : its.size ≤ 1000) : ys.size ≤ 1000 := by
  have h1 := StrsAre.length h
  have h2 := StrsAre.length hi
  have h3 := dd_len xs
  rw [Array.length_toList] at h1 h2
  omega
section
variable {w : World} {A : Around} {E : Value → Shared → Prop} {s : Shared} {h₀ : Heap} {L : Addr} {m : Str → Option Value} {news : List (Addr × Obj)} {mean : ExcName → Option Value} {mg mb : Str → Option Value} {Q : Value → Shared → Prop}

theorem pf_N {n : Int} {t : Tok} {M : Nat} (hh : A.handled = none) (hdp : A.depth < recursionLimit) (F : Fr h₀ L s.heap m) (X : (hd.heap_39 w.params).In h₀) (T : Top hd.view_39 (looseW hd.view_39 [Str.ofString "COMPILER_FLAG_NAMES"]) mean mg mb h₀)
    (hM : M ≤ 1048600) (hn : Bd M n) (ret : ∀ t' h' tk', Kp s.heap h' → Q (.str (textOf n) t') { s with heap := h', toks := tk' }) : wpAny (model PySem.Challenge.pw_ta0003_01 w) A (call (.ref 22) [.int n t]) Q E s := by
  obtain ⟨hd', dp, fr, gd, un⟩ := A
  dsimp only at hh hdp
  subst hh
  exact pf w dp un fr gd n t s mean mg mb (X.keeps F.keep) (T.keeps F.keep) hdp M hM hn Q E ret
theorem lt_N {n : Int} {t : Tok} {M : Nat} (hh : A.handled = none) (hdp : A.depth < recursionLimit) (hun : A.units + 100 < cLine) (F : Fr h₀ L s.heap m) (X : (hd.heap_39 w.params).In h₀) (T : Top hd.view_39 (looseW hd.view_39 [Str.ofString "COMPILER_FLAG_NAMES"]) mean mg mb h₀)
    (hM : M ≤ 1048600) (hn : Bd M n) (ret : ∀ t' h' tk', Kp s.heap h' → Q (.str (textOf n) t') { s with heap := h', toks := tk' }) : wpAny (model PySem.Challenge.pw_ta0003_01 w) A (call (.ref 27) [.int n t]) Q E s := by
  obtain ⟨hd', dp, fr, gd, un⟩ := A
  dsimp only at hh hdp hun
  subst hh
  exact lt w dp un fr gd n t s mean mg mb (X.keeps F.keep) (T.keeps F.keep) hdp hun M hM hn Q E ret
theorem un_out {D : Addr} {ys : Array Value} {k : Nat} {h' : Heap} (F : Fr h₀ L s.heap m) (N : News h₀ L s.heap news) (hf : s.heap.get? D = none) (hD : h'.get? D = some (W.listOf ys k)) (hk : Kp s.heap h') : Fr h₀ L h' m ∧ News h₀ L h' ((D, W.listOf ys k) :: news) ∧ ∀ p ∈ news, @Ne Nat p.1 D := by
  have ne : ∀ b o, s.heap.get? b = some o → b ≠ D := fun b o e q => by rw [q, hf] at e; cases e
  refine ⟨F.keeps hk, fun p hp => ?_, fun p hp => ne _ _ (N p hp).1⟩
  rcases List.mem_cons.mp hp with rfl | hp
  · refine ⟨hD, fun q => ?_, ?_⟩
    · obtain ⟨o, _, _, e, _⟩ := F.ns
      exact ne _ _ e q.symm
    · cases e : h₀.get? D with
      | none => rfl
      | some o => exact absurd rfl (ne _ _ (F.keep _ _ e))
  · exact N.grown hk p hp
theorem un_int_N {ax : Addr} {its : Array Value} {xs : List Int} (hh : A.handled = none) (hdp : A.depth < recursionLimit) (F : Fr h₀ L s.heap m) (N : News h₀ L s.heap news) (X : (hd.heap_39 w.params).In h₀) (T : Top hd.view_39 (looseW hd.view_39 [Str.ofString "COMPILER_FLAG_NAMES"]) mean mg mb h₀)
    (hl : s.heap.IsList ax its) (hi : IntsAre its.toList xs) (hsz : its.size ≤ 1000)
    (ret : ∀ D ys k h' tk', Fr h₀ L h' m → News h₀ L h' ((D, W.listOf ys k) :: news) → (∀ p ∈ news, @Ne Nat p.1 D) → IntsAre ys.toList (dd xs) → ys.size ≤ 1000 → Q (.ref D) { s with heap := h', toks := tk' }) :
    wpAny (model PySem.Challenge.pw_ta0003_01 w) A (call (.ref 34) [.ref ax]) Q E s := by
  obtain ⟨hd', dp, fr, gd, un⟩ := A
  dsimp only at hh hdp
  subst hh
  refine un_int w dp un fr gd ax its xs s mean mg mb (X.keeps F.keep) (T.keeps F.keep) hdp hl hi hsz Q E fun D ys k h' tk' hf hD hys hk => ?_
  obtain ⟨a, b, c⟩ := un_out F N hf hD hk
  exact ret D ys k h' tk' a b c hys (dd_ints_size hys hi hsz)
theorem un_str_N {ax : Addr} {its : Array Value} {xs : List Str} (hh : A.handled = none) (hdp : A.depth < recursionLimit) (F : Fr h₀ L s.heap m) (N : News h₀ L s.heap news) (X : (hd.heap_39 w.params).In h₀) (T : Top hd.view_39 (looseW hd.view_39 [Str.ofString "COMPILER_FLAG_NAMES"]) mean mg mb h₀)
    (hl : s.heap.IsList ax its) (hi : StrsAre its.toList xs) (hsz : its.size ≤ 1000)
    (ret : ∀ D ys k h' tk', Fr h₀ L h' m → News h₀ L h' ((D, W.listOf ys k) :: news) → (∀ p ∈ news, @Ne Nat p.1 D) → StrsAre ys.toList (dd xs) → ys.size ≤ 1000 → Q (.ref D) { s with heap := h', toks := tk' }) :
    wpAny (model PySem.Challenge.pw_ta0003_01 w) A (call (.ref 34) [.ref ax]) Q E s := by
  obtain ⟨hd', dp, fr, gd, un⟩ := A
  dsimp only at hh hdp
  subst hh
  refine un_str w dp un fr gd ax its xs s mean mg mb (X.keeps F.keep) (T.keeps F.keep) hdp hl hi hsz Q E fun D ys k h' tk' hf hD hys hk => ?_
  obtain ⟨a, b, c⟩ := un_out F N hf hD hk
  exact ret D ys k h' tk' a b c hys (dd_strs_size hys hi hsz)

theorem tx_src {env : Env} {elt : Expr} {x : Str} {scope : Scope} {cl : List (Str × Addr)} {Fin : Shared → List Value → List (Addr × Obj) → Prop} {prog : Program} {ax : Addr} {its : Array Value} {k : Nat} {ns : List Int} {s₁ : Shared} {M : Nat}
    (hh : A.handled = none) (F : Fr h₀ L s₁.heap m) (N : News h₀ L s₁.heap news) (hm : (ax, W.listOf its k) ∈ news) (hi : IntsAre its.toList ns) (hsz : its.size ≤ 1000) (hB : ∀ k ∈ ns, Bd M k) (g : Int → Str)
    (turn : ∀ k t C oC m₂ h tk (E' : Value → Shared → Prop), Bd M k → NsObj oC m₂ → m₂ x = some (.int k t) → Fr h₀ L h m → News h₀ L h ((C, oC) :: news) →
      wpAny (model prog w) A (eval elt (compEnvC scope cl C env)) (fun z s' => ∃ h' tk' t', z = .str (g k) t' ∧ s' = { s₁ with heap := h', toks := tk' } ∧ Kp h h') E' { s₁ with heap := h, toks := tk })
    (fin : ∀ g' ys, StrsAre ys (ns.map g) → ys.length ≤ 1000 → Fin { s₁ with heap := g' } ys news) : LCg.CompSrc prog w A h₀ L m env elt x scope cl Fin (.ref ax) s₁ := by
  have hlen := IntsAre.length hi
  rw [Array.length_toList] at hlen
  refine LCg.CompSrc.ledger hh F N hm (Nat.le_trans hsz (by rw [sizeLine_eq]; decide)) fun g' => ?_
  have key : ∀ (j i : Nat) (ys : List Value), i + j = its.size → StrsAre ys ((ns.take i).map g) → LCg.CompRest prog w A h₀ L m env elt x scope cl { s₁ with heap := g' } (LCg.SrcAt h₀ ax its) (fun i v => its[i]? = some v) (Fin { s₁ with heap := g' }) j i ys news := by
    intro j
    induction j with
    | zero =>
      intro i ys hi' hy
      refine LCg.CompRest.zero (fin g' ys ?_ ?_)
      · rwa [List.take_of_length_le (by omega)] at hy
      · have := StrsAre.length hy
        rw [List.length_map, List.length_take] at this
        omega
    | succ j ih =>
      intro i ys hi' hy
      refine LCg.CompRest.succ ?_
      intro v I oI C oC D m₂ h tk E' hv hC hx F' N' off ne
      obtain ⟨kk, t, rfl, hk⟩ := IntsAre.at hi i v (by simpa using hv)
      refine wpAny_mono (turn kk t C oC m₂ h tk E' (hB kk (List.mem_of_getElem? hk)) hC hx F' (fun p hp => N' p (by
        rcases List.mem_cons.mp hp with rfl | hp
        · exact List.mem_cons_of_mem _ List.mem_cons_self
        · exact List.mem_cons_of_mem _ (List.mem_cons_of_mem _ (List.mem_cons_of_mem _ hp))))) (fun z s' q => ?_) fun _ _ e => e
      obtain ⟨h', tk', t', rfl, rfl, hk'⟩ := q
      refine ⟨h', tk', news, rfl, F'.keeps hk', N'.grown hk', off, .inr ⟨_, hm, rfl, _, rfl⟩, ih (i + 1) _ (by omega) ?_⟩
      rw [List.take_add_one, hk, List.map_append]
      exact kct_snoc hy
  exact key its.size 0 [] (by omega) .nil
end
theorem five {ys : List Value} {a b c d e : Int} (h : IntsAre ys [a, b, c, d, e]) : ∃ t0 t1 t2 t3 t4, ys = [.int a t0, .int b t1, .int c t2, .int d t3, .int e t4] := by
  cases h with
  | cons _ t0 h => cases h with
    | cons _ t1 h => cases h with
      | cons _ t2 h => cases h with
        | cons _ t3 h => cases h with
          | cons _ t4 h => cases h; exact ⟨t0, t1, t2, t3, t4, rfl⟩
end Mine
end

section
open PySem PySem.W PySem.Calls PyProof.Rows
namespace Mine
open LCg (lst NsObj)
theorem pairs_texts (f : Int → Int → Int) (l r : List Int) : (l.flatMap fun a => r.map fun b => textOf (f a b)) = textsOf (pairsOf f l r) := by
  simp only [textsOf, pairsOf, List.map_flatMap, List.map_map, Function.comp_def]
section
variable {prog : Program} {w : World} {A : Around} {E : Value → Shared → Prop} {s : Shared} {h₀ : Heap} {L : Addr} {m : Str → Option Value} {env : Env}
theorem dbl_src {elt i2 : Expr} {x y z : Str} {scope : Scope} {cl : List (Str × Addr)} {Q : Flow → Shared → Prop} {s₁ : Shared} {ax1 ax2 : Addr} {its1 its2 : Array Value} {ns1 ns2 : List Int} {k1 k2 : Nat} {news : List (Addr × Obj)} {M : Nat}
    (hh : A.handled = none) (F : Fr h₀ L s₁.heap m) (N : News h₀ L s₁.heap news) (hi1 : IntsAre its1.toList ns1) (hi2 : IntsAre its2.toList ns2) (hs1 : its1.size ≤ 1000) (hs2 : its2.size ≤ 1000)
    (hm1 : (ax1, W.listOf its1 k1) ∈ news) (hm2 : (ax2, W.listOf its2 k2) ∈ news) (hb1 : ∀ k ∈ ns1, Bd M k) (hb2 : ∀ k ∈ ns2, Bd M k) (hlen : ns1.length * ns2.length ≤ 1000) (f : Int → Int → Int)
    (src : ∀ k t C oC m₂ h tk (E' : Value → Shared → Prop), NsObj oC m₂ → m₂ x = some (.int k t) → Fr h₀ L h m → News h₀ L h ((C, oC) :: news) →
      wpAny (model prog w) A (eval i2 (compEnvC scope cl C env)) (fun z s' => z = .ref ax2 ∧ ∃ tk', s' = { s₁ with heap := h, toks := tk' }) E' { s₁ with heap := h, toks := tk })
    (turn : ∀ k1 k2 t1 t2 C oC m₂ h tk (E' : Value → Shared → Prop), Bd M k1 → Bd M k2 → NsObj oC m₂ → m₂ x = some (.int k1 t1) → m₂ y = some (.int k2 t2) → Fr h₀ L h m → News h₀ L h ((C, oC) :: news) →
      wpAny (model prog w) A (eval elt (compEnvC scope cl C env)) (fun z s' => ∃ h' tk' t', z = .str (textOf (f k1 k2)) t' ∧ s' = { s₁ with heap := h', toks := tk' } ∧ Kp h h') E' { s₁ with heap := h, toks := tk })
    (fin : ∀ D h tk ys, Fr h₀ L h (fun a => if a = z then some (.ref D) else m a) → News h₀ L h ((D, lst ys) :: news) → (∀ p ∈ news, p.1 < D) → StrsAre ys (textsOf (pairsOf f ns1 ns2)) → ys.length ≤ 1000 → Q .next { s₁ with heap := h, toks := tk }) :
    DblSrc prog w A h₀ L m env elt i2 x y z scope cl Q (.ref ax1) s₁ := by
  refine ⟨ax1, ax2, its1, its2, ns1, ns2, k1, k2, news, fun a b => textOf (f a b), rfl, hh, F, N, hm1, hm2, hi1, hi2, hs1, hs2, ?_, ?_, ?_⟩
  · intro k t C oC m₂ h tk E' _ hC hx F' N'
    exact src k t C oC m₂ h tk E' hC hx F' N'
  · intro k1 k2 t1 t2 C oC m₂ h tk E' h1 h2 hC hx hy F' N'
    exact turn k1 k2 t1 t2 C oC m₂ h tk E' (hb1 _ h1) (hb2 _ h2) hC hx hy F' N'
  · intro D h tk ys F' N' hlt hys
    refine fin D h tk ys F' N' hlt (by rwa [pairs_texts f] at hys) ?_
    have h1 := StrsAre.length hys
    have h2 : ∀ (l r : List Int) (g : Int → Int → Str), (l.flatMap fun a => r.map fun b => g a b).length = l.length * r.length := by
      intro l r g
      induction l with
      | nil => simp
      | cons a l ih => rw [List.flatMap_cons, List.length_append, ih, List.length_map, List.length_cons, Nat.succ_mul, Nat.add_comm]
    rw [h2] at h1
    omega
end
theorem dd_mul {xs ys : List Int} (h : xs.length * ys.length ≤ 1000) : (dd xs).length * (dd ys).length ≤ 1000 := Nat.le_trans (Nat.mul_le_mul (dd_len _) (dd_len _)) h
end Mine
end

section
open PySem PySem.W PySem.Calls PyProof.Rows
namespace Mine
open LCg (lst NsObj)
theorem ints5 {a b c d e : Int} {t0 t1 t2 t3 t4 : Tok} : IntsAre (#[.int a t0, .int b t1, .int c t2, .int d t3, .int e t4] : Array Value).toList [a, b, c, d, e] := .cons _ _ (.cons _ _ (.cons _ _ (.cons _ _ (.cons _ _ .nil))))
theorem ints3 {a b c : Int} {t0 t1 t2 : Tok} : IntsAre (#[.int a t0, .int b t1, .int c t2] : Array Value).toList [a, b, c] := .cons _ _ (.cons _ _ (.cons _ _ .nil))
theorem ints2 {a b : Int} {t0 t1 : Tok} : IntsAre (#[.int a t0, .int b t1] : Array Value).toList [a, b] := .cons _ _ (.cons _ _ .nil)
theorem es_ne_same {prog : Program} {w : World} {A : Around} {E : Value → Shared → Prop} {Q : Value → Shared → Prop} {s : Shared} {a b : Addr} {xs ys : Array Value} {ns : List Str} (ha : s.heap.IsList a xs) (hb : s.heap.IsList b ys) (hi : StrsAre xs.toList ns) (hj : StrsAre ys.toList ns) (hu : A.units < cLine) (h : Q (.bool false) s) :
    wpAny (model prog w) A (compareOp .NotEq (.ref a) (.ref b)) Q E s := es_ne ha hb hi hj hu (by simpa using h)
open PySem.Builtin (bitAnd bitOr bitNot) in
theorem fin_law {l r : List Int} {y1 y2 z1 z2 : Array Value} (i1 : IntsAre y1.toList (dd l)) (i2 : IntsAre y2.toList (dd r)) (j1 : StrsAre z1.toList (dd (textsOf (pairsOf bitOr (dd l) (dd r))))) (j2 : StrsAre z2.toList (dd (textsOf (pairsOf bitAnd (dd l) (dd r))))) : (y1.size : Int) * (y2.size : Int) ≤ (z1.size : Int) * (z2.size : Int) := by
  have a1 := IntsAre.length i1
  have a2 := IntsAre.length i2
  have a3 := StrsAre.length j1
  have a4 := StrsAre.length j2
  rw [Array.length_toList] at a1 a2 a3 a4
  have h := law_clubs l r
  rw [← a1, ← a2, ← a3, ← a4] at h
  exact_mod_cast h
open PySem.Builtin (bitAnd bitOr bitNot) in
theorem gap_law {l : List Int} {y z : Array Value} (i : IntsAre y.toList (dd l)) (j : StrsAre z.toList (dd (textsOf (pairsOf (fun a b => bitAnd a (bitNot b)) (dd l) (dd l))))) : ¬ ((z.size : Int) < (y.size : Int)) := by
  have a1 := IntsAre.length i
  have a2 := StrsAre.length j
  rw [Array.length_toList] at a1 a2
  have h := law_gaps l
  omega
theorem len_N {prog : Program} {w : World} {A : Around} {E : Value → Shared → Prop} {s : Shared} {l : Addr} {items : Array Value} {Q : Value → Shared → Prop} (hl : s.heap.IsList l items) (hsz : items.size ≤ 1000)
    (h : Q (.int items.size (s.toks + 1)) { s with toks := s.toks + 1 + 1 }) : wpAny (model prog w) A (call (.builtin "len") [.ref l]) Q E s := PySem.Calls.call_len_list hl (by omega) h
end Mine
end

section
open Mine
open PySem PySem.W PySem.Calls PyProof.Rows
open LCg (lst NsObj)
local macro_rules | `(tactic| walk_at "exec Assign cons ListComp") => `(tactic| (k_here; (with_reducible show wpAny _ _ (exec (Stmt.Assign _ (Expr.ListComp _ [⟨Expr.Name _ _, _, _, _⟩] _ _) _) _) _ _ _); k_dflt (refine LCg.Assign_ListComp_U (F₀ := by k_asm) (by rfl) (by with_unfolding_all rfl) (by with_unfolding_all rfl) (by decide) (by rfl) (by decide) (by rfl) (by rfl) (by rfl) ?_)))
local macro_rules | `(tactic| walk_at "eval ListComp") => `(tactic| (k_here; k_dflt (refine LCg.ListComp_U (F₀ := by k_asm) (by with_unfolding_all rfl) (by decide) (by rfl) (by decide) (by rfl) ?_)))
local macro_rules | `(tactic| walk_at "exec Assign cons ListComp") => `(tactic| (k_here; (with_reducible show wpAny _ _ (exec (Stmt.Assign _ (Expr.ListComp _ [⟨_, _, _, _⟩, ⟨_, _, _, _⟩] _ _) _) _) _ _ _); k_dflt (refine Assign_ListComp_D (by k_asm) (by rfl) (by with_unfolding_all rfl) (by with_unfolding_all rfl) (by decide) (by rfl) (by decide) (by rfl) (by rfl) (by decide) (by rfl) (by rfl) ?_)))
local macro_rules | `(tactic| walk_at "exec Assign cons ListComp") => `(tactic| (k_here; (with_reducible show wpAny _ _ (exec (Stmt.Assign _ (Expr.ListComp _ [⟨Expr.Tuple _ _ _, _, _, _⟩] _ _) _) _) _ _ _); k_dflt (refine Assign_ListComp_En (by k_asm) (by rfl) (by with_unfolding_all rfl) (by with_unfolding_all rfl) (by decide) (by rfl) (by decide) (by rfl) (by rfl) (by decide) (by rfl) (by rfl) ?_)))
local macro_rules | `(tactic| walk_at "call ref") => `(tactic| (k_here; k_dflt (refine un_int_N (by with_unfolding_all rfl) (by k_room) (by k_asm) (by k_asm) (by k_asm) (by k_asm) (News.isList (by k_asm) (by k_mem)) (by first | exact ints5 | exact ints3 | exact ints2) (by exact Nat.le_of_ble_eq_true rfl) ?_); (intro D' ys' k' h' tk' F' N' l1' hi' hs'); (try simp only [List.forall_mem_cons, List.not_mem_nil, false_implies, implies_true, and_true] at l1')))
local macro_rules | `(tactic| walk_at "compareOp NotEq ref ref") => `(tactic| (k_here; k_dflt (refine es_ne_same (News.isList (by k_asm) (by k_mem)) (News.isList (by k_asm) (by k_mem)) (by assumption) (by assumption) (by k_units) ?_)))
local macro_rules | `(tactic| walk_at "CompSrc") => `(tactic| (k_here; k_dflt (refine tx_src (by rfl) (by k_asm) (by k_asm) (by k_mem) (by k_asm) (by k_asm) (by assumption) textOf (fun k' t' C' oC' m' h' tk' E' hb' hC' hx' F' N' => ?_) (fun g' ys' hy' hl' => ?_))))
local macro_rules | `(tactic| walk_at "CompSrc") => `(tactic| (k_here; (with_reducible show LCg.CompSrc _ _ _ _ _ _ _ (Expr.Call _ [Expr.UnaryOp _ _ _] _ _) _ _ _ _ _ _); k_dflt (refine tx_src (by rfl) (by k_asm) (by k_asm) (by k_mem) (by k_asm) (by k_asm) (by assumption) (fun k => textOf (Builtin.bitNot k)) (fun k' t' C' oC' m' h' tk' E' hb' hC' hx' F' N' => ?_) (fun g' ys' hy' hl' => ?_))))
local macro_rules | `(tactic| walk_at "call ref") => `(tactic| (k_here; (with_reducible show wpAny _ _ (call (Value.ref 22) [Value.int _ _]) _ _ _); k_dflt (refine pf_N (by with_unfolding_all rfl) (by k_room) (by k_asm) (by k_asm) (by k_asm) (by k_asm) (by first | k_asm | exact bd_not (by k_asm) | exact bd_and (by k_asm) (bd_not (by k_asm)) | exact bd_or (by k_asm) (by k_asm) | exact bd_and (by k_asm) (by k_asm)) ?_); intro t' h' tk' hk'; (try exact ⟨_, _, _, rfl, rfl, hk'⟩)))
local macro_rules | `(tactic| walk_at "call ref") => `(tactic| (k_here; (with_reducible show wpAny _ _ (call (Value.ref 27) [Value.int _ _]) _ _ _); k_dflt (refine lt_N (by with_unfolding_all rfl) (by k_room) (by k_units) (by k_asm) (by k_asm) (by k_asm) (by k_asm) (by first | k_asm | exact bd_not (by k_asm) | exact bd_and (by k_asm) (bd_not (by k_asm)) | exact bd_or (by k_asm) (by k_asm) | exact bd_and (by k_asm) (by k_asm)) ?_); intro t' h' tk' hk'; (try exact ⟨_, _, _, rfl, rfl, hk'⟩)))
local macro_rules | `(tactic| walk_at "call ref") => `(tactic| (k_here; (with_reducible show wpAny _ _ (call (Value.ref 34) [_]) _ _ _); k_dflt (refine un_str_N (by with_unfolding_all rfl) (by k_room) (by k_asm) (by k_asm) (by k_asm) (by k_asm) (News.isList (by k_asm) (by k_mem)) (by assumption) (by assumption) ?_); (intro D' ys' k' h' tk' F' N' l1' hi' hs'); (try simp only [List.forall_mem_cons, List.not_mem_nil, false_implies, implies_true, and_true] at l1')))
local macro_rules | `(tactic| walk_at "call builtin:len") => `(tactic| (k_here; k_dflt (refine len_N (News.isList (by k_asm) (by k_mem)) (by assumption) ?_)))

set_option maxRecDepth 100000 in
set_option maxHeartbeats 2500000 in
theorem PySem.Challenge.cw_ta0003_01_holds : PySem.Challenge.rw_ta0003_01.Holds :=
  hd (by
  w_strict (
    k_go0; (all_goals try k_fold);
    k_steps
    rename Fr _ _ _ _ => F1
    rename News _ _ _ _ => N1
    rename IntsAre _ _ => hI
    rename List Int => ns
    rename PyData.layable0 _ = true => hlay
    rename (¬ (_ < _)) => h63
    refine en_call (by rfl) F1 N1 (List.Mem.head _) (by rfl) (by rfl) (Nat.le_of_ble_eq_true rfl) (numG ns) ?_ ?_
    · clear F1 N1
      intro g i t v e oe it oi C oC D oD m₂ h tk E' hv hC ha hb F N
      obtain ⟨tv, rfl⟩ := firsts_at hv
      clear hv
      k_steps
      rename Fr _ _ _ _ => F1
      rename News _ _ _ _ => N1
      refine sum_N (by rfl) (News.isList N1 (by k_mem)) (IntsAre.pick hI _ _ _) ?_
      intro h' tk' t' hk
      have F2 := F1.keeps hk
      have N2 := N1.grown hk
      clear F1 N1 F N hk
      k_steps
      exact ⟨_, _, _, rfl, rfl, F2, fun p hp => N2 p (List.mem_cons_of_mem _ hp)⟩
    · clear F1 N1
      intro D h tk ys F' N' hlt hys
      obtain ⟨M, hM, hBd⟩ : ∃ M, M ≤ 1048600 ∧ ∀ x ∈ nums5 ns, Bd M x := ⟨1048576 + 8, by decide, nums5_bd (by decide) hI (by omega) (script_bd hlay)⟩
      have hys : IntsAre ys (nums5 ns) := hys
      have e5 : nums5 ns = [numG ns 0, numG ns 1, numG ns 2, numG ns 3, numG ns 4] := rfl
      rw [e5] at hys hBd
      clear e5
      generalize numG ns 0 = a at *
      generalize numG ns 1 = b at *
      generalize numG ns 2 = c at *
      generalize numG ns 3 = d at *
      generalize numG ns 4 = e at *
      obtain ⟨t0, t1, t2, t3, t4, rfl⟩ := five hys
      have hBf : ∀ k ∈ dd [a, b, c, d, e], Bd M k := fun k hk => hBd k (mem_dd.mp hk)
      have hB1 : ∀ k ∈ dd [a, b, c], Bd M k := fun k hk => hBd k (by have := mem_dd.mp hk; simp only [List.mem_cons, List.not_mem_nil, or_false] at this ⊢; omega)
      have hB2 : ∀ k ∈ dd [d, e], Bd M k := fun k hk => hBd k (by have := mem_dd.mp hk; simp only [List.mem_cons, List.not_mem_nil, or_false] at this ⊢; omega)
      clear hys hI hlay h63 hBd
      k_lt hlt
      dsimp only
      k_steps
      rename Fr _ _ _ _ => F1
      rename News _ _ _ _ => N1
      refine dbl_src (ns1 := dd [a, b, c, d, e]) (ns2 := dd [a, b, c, d, e]) (by rfl) F1 N1 (by assumption) (by assumption) (by assumption) (by assumption) (by k_mem) (by k_mem) hBf hBf (dd_mul (Nat.le_of_ble_eq_true rfl)) (fun a b => Builtin.bitAnd a (Builtin.bitNot b)) (fun k t C oC m' h tk E' hC hx F N => ?_) (fun k1 k2 t1 t2 C oC m' h tk E' hb1 hb2 hC hx hy F N => ?_) (fun D h tk ys F N hlt hys hsz => ?_)
      · clear F1 N1
        k_steps
      · clear F1 N1
        k_steps
      clear F1 N1
      k_lt hlt
      dsimp only
      k_steps
      dsimp only
      rename Fr _ _ _ _ => F1
      rename News _ _ _ _ => N1
      refine dbl_src (ns1 := dd [a, b, c]) (ns2 := dd [d, e]) (by rfl) F1 N1 (by assumption) (by assumption) (by assumption) (by assumption) (by k_mem) (by k_mem) hB1 hB2 (dd_mul (Nat.le_of_ble_eq_true rfl)) Builtin.bitOr (fun k t C oC m' h tk E' hC hx F N => ?_) (fun k1 k2 t1 t2 C oC m' h tk E' hb1 hb2 hC hx hy F N => ?_) (fun D h tk ys F N hlt hys hsz => ?_)
      · clear F1 N1
        k_steps
      · clear F1 N1
        k_steps
      clear F1 N1
      k_lt hlt
      dsimp only
      k_steps
      dsimp only
      rename Fr _ _ _ _ => F1
      rename News _ _ _ _ => N1
      refine dbl_src (ns1 := dd [a, b, c]) (ns2 := dd [d, e]) (by rfl) F1 N1 (by assumption) (by assumption) (by assumption) (by assumption) (by k_mem) (by k_mem) hB1 hB2 (dd_mul (Nat.le_of_ble_eq_true rfl)) Builtin.bitAnd (fun k t C oC m' h tk E' hC hx F N => ?_) (fun k1 k2 t1 t2 C oC m' h tk E' hb1 hb2 hC hx hy F N => ?_) (fun D h tk ys F N hlt hys hsz => ?_)
      · clear F1 N1
        k_steps
      · clear F1 N1
        k_steps
      clear F1 N1
      k_lt hlt
      dsimp only
      k_steps
      · rename IntsAre _ (dd [a, b, c, d, e]) => i1
        rename StrsAre _ (dd (textsOf (pairsOf (fun a b => Builtin.bitAnd a (Builtin.bitNot b)) _ _))) => j1
        exact absurd (by assumption) (gap_law i1 j1)
      · rename IntsAre _ (dd [a, b, c]) => i1
        rename IntsAre _ (dd [d, e]) => i2
        rename StrsAre _ (dd (textsOf (pairsOf Builtin.bitOr _ _))) => j1
        rename StrsAre _ (dd (textsOf (pairsOf Builtin.bitAnd _ _))) => j2
        have hp := fin_law i1 i2 j1 j2
        clear i1 i2 j1 j2
        simp only [hp, decide_true]
        clear hp
        k_end; wrow_close))
end

