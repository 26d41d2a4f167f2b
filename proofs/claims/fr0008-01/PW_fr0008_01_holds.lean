import PyProof.Rows.All
import Wide.All
import OpenK.AllK
import Wide.FinOn
import PySem.Challenge.RW_fr0008_01
set_option Elab.async false
section
open PySem PySem.W PyProof.Rows
set_option maxRecDepth 100000
namespace Mine
open Float64
-- the quarters' texts and floats
def frac : Nat → List Nat
  | 0 => []
  | 1 => [46, 50, 53]
  | 2 => [46, 53]
  | _ => [46, 55, 53]
def txt (q : Int) : List Nat := (if q < 0 then [45] else []) ++ ((Nat.toDigits 10 (q.natAbs / 4)).map Char.toNat ++ frac (q.natAbs % 4))
def F4 (q : Int) : UInt64 := ofFrac (decide (q < 0)) q.natAbs 4
def F8 (q : Int) : UInt64 := ofFrac (decide (q < 0)) q.natAbs 8

theorem dist_zero {a b : Nat} (h : dist a b = 0) : a = b := by unfold dist at h; omega
theorem V_inj {a b : Nat} (h : V a = V b) : a = b := by
  rcases Nat.lt_trichotomy a b with g | g | g
  · exact absurd h (Nat.ne_of_lt (V_lt g))
  · exact g
  · exact absurd h.symm (Nat.ne_of_lt (V_lt g))
theorem V_top {t : Nat} (h : t < infMag) : V t ≤ (2 ^ 53 - 1) * 2 ^ 2045 := by
  have e : V (2045 * 2 ^ 52 + (2 ^ 53 - 1)) = (2 ^ 53 - 1) * 2 ^ 2045 := V_at (by decide) (.inl (by decide))
  rw [← e]
  refine V_mono ?_
  have : infMag = 2047 * 2 ^ 52 := rfl
  omega
theorem right_exact {r : UInt64} {neg : Bool} {W D t : Nat} (h : Right r neg W D) (hD : 0 < D) (he : D * V t = W) (ht : t < infMag) : r = pack neg t := by
  obtain ⟨t1, rfl, hle, hiff, hmin⟩ := h
  have h1 : t1 < infMag := by
    rcases Nat.lt_or_eq_of_le hle with g | g
    · exact g
    · have := hiff.mp g
      rw [← he] at this
      have hv := V_top ht
      have hX : 0 < (2 : Nat) ^ 2045 := Nat.two_pow_pos _
      generalize (2 : Nat) ^ 2045 = X at *
      have e2 : 2 * (D * V t) ≤ D * (2 * ((2 ^ 53 - 1) * X)) := by
        rw [Nat.mul_left_comm]
        exact Nat.mul_le_mul_left D (Nat.mul_le_mul_left 2 hv)
      have e3 := Nat.le_of_mul_le_mul_left (Nat.le_trans this e2) hD
      omega
  have h2 := (hmin h1 t).1
  rw [he] at h2
  have e4 : dist W W = 0 := by unfold dist; omega
  rw [e4] at h2
  have e5 := dist_zero (Nat.le_zero.mp h2)
  rw [← he] at e5
  rw [V_inj (Nat.eq_of_mul_eq_mul_left hD e5).symm]
theorem ofFrac_exact {neg : Bool} {n d t : Nat} (hd : 0 < d) (he : d * V t = n * 2 ^ 1074) (ht : t < infMag) : ofFrac neg n d = pack neg t := by
  refine right_exact (W := n * 2 ^ 1074) (D := d) (ofFrac_right hd rfl hd) hd he ht
-- the magnitude of n / 2 ^ j
def tm (j n : Nat) : Nat := if n = 0 then 0 else (n.log2 + (1022 - j)) * 2 ^ 52 + n * 2 ^ (52 - n.log2)
theorem V_tm {j n : Nat} (hj : j ≤ 22) (hn : n ≤ 2000) : V (tm j n) * 2 ^ j = n * 2 ^ 1074 := by
  unfold tm
  by_cases h : n = 0
  · rw [if_pos h, h, V_zero, Nat.zero_mul, Nat.zero_mul]
  · rw [if_neg h]
    have hl : n.log2 ≤ 10 := by
      have h1 := Nat.log2_self_le h
      have : n.log2 < 11 := by
        rw [Nat.log2_lt h]; omega
      omega
    have h1 := Nat.log2_self_le h
    have h2 : n < 2 ^ (n.log2 + 1) := Nat.lt_log2_self
    have a1 : 2 ^ 52 ≤ n * 2 ^ (52 - n.log2) := by
      calc 2 ^ 52 = 2 ^ n.log2 * 2 ^ (52 - n.log2) := by rw [← Nat.pow_add]; congr 1; omega
        _ ≤ _ := Nat.mul_le_mul_right _ h1
    have a2 : n * 2 ^ (52 - n.log2) ≤ 2 ^ 53 := by
      calc n * 2 ^ (52 - n.log2) ≤ 2 ^ (n.log2 + 1) * 2 ^ (52 - n.log2) := Nat.mul_le_mul_right _ (Nat.le_of_lt h2)
        _ = 2 ^ 53 := by rw [← Nat.pow_add]; congr 1; omega
    rw [V_at a2 (.inl a1), Nat.mul_assoc, Nat.mul_assoc, ← Nat.pow_add, ← Nat.pow_add]
    congr 2
    omega
theorem tm_lt {j n : Nat} (hj : j ≤ 22) (hn : n ≤ 2000) : tm j n < infMag := by
  unfold tm
  have e : infMag = 2047 * 2 ^ 52 := rfl
  by_cases h : n = 0
  · rw [if_pos h, e]; decide
  · rw [if_neg h, e]
    have hl : n.log2 ≤ 10 := by
      have h1 := Nat.log2_self_le h
      have : n.log2 < 11 := by
        rw [Nat.log2_lt h]; omega
      omega
    have h2 : n < 2 ^ (n.log2 + 1) := Nat.lt_log2_self
    have a2 : n * 2 ^ (52 - n.log2) ≤ 2 ^ 53 := by
      calc n * 2 ^ (52 - n.log2) ≤ 2 ^ (n.log2 + 1) * 2 ^ (52 - n.log2) := Nat.mul_le_mul_right _ (Nat.le_of_lt h2)
        _ = 2 ^ 53 := by rw [← Nat.pow_add]; congr 1; omega
    omega
def Qok (q : Int) : Prop := -2000 ≤ q ∧ q ≤ 2000
theorem Qok.nat {q : Int} (h : Qok q) : q.natAbs ≤ 2000 := by unfold Qok at h; omega
theorem F4_is {q : Int} (h : Qok q) : F4 q = pack (decide (q < 0)) (tm 2 q.natAbs) := by
  refine ofFrac_exact (by decide) ?_ (tm_lt (by decide) h.nat)
  rw [Nat.mul_comm]
  exact V_tm (j := 2) (by decide) h.nat
theorem F8_is {q : Int} (h : Qok q) : F8 q = pack (decide (q < 0)) (tm 3 q.natAbs) := by
  refine ofFrac_exact (by decide) ?_ (tm_lt (by decide) h.nat)
  rw [Nat.mul_comm]
  exact V_tm (j := 3) (by decide) h.nat
theorem F4_decode {q : Int} (h : Qok q) : ∃ m e, decode (F4 q) = .fin (decide (q < 0)) m e ∧ m * 2 ^ (e + 1074).toNat * 4 = q.natAbs * 2 ^ 1074 := by
  obtain ⟨m, e, hd, hv⟩ := decode_pack (decide (q < 0)) (tm_lt (j := 2) (by decide) h.nat)
  refine ⟨m, e, by rw [F4_is h]; exact hd, ?_⟩
  rw [hv]
  exact V_tm (j := 2) (by decide) h.nat
theorem F8_decode {q : Int} (h : Qok q) : ∃ m e, decode (F8 q) = .fin (decide (q < 0)) m e ∧ m * 2 ^ (e + 1074).toNat * 8 = q.natAbs * 2 ^ 1074 := by
  obtain ⟨m, e, hd, hv⟩ := decode_pack (decide (q < 0)) (tm_lt (j := 3) (by decide) h.nat)
  refine ⟨m, e, by rw [F8_is h]; exact hd, ?_⟩
  rw [hv]
  exact V_tm (j := 3) (by decide) h.nat
theorem F4_cmp {q : Int} (h : Qok q) : cmp (F4 q) (F4 q) = some .eq := by
  obtain ⟨m, e, hd, _⟩ := F4_decode h
  rw [cmp_right hd hd]
  simp
theorem F8_cmp {q : Int} (h : Qok q) : cmp (F8 q) (F8 q) = some .eq := by
  obtain ⟨m, e, hd, _⟩ := F8_decode h
  rw [cmp_right hd hd]
  simp
theorem F4_inf {q : Int} (h : Qok q) : isInf (F4 q) = false := by
  obtain ⟨m, e, hd, _⟩ := F4_decode h
  unfold isInf; rw [hd]
theorem F8_inf {q : Int} (h : Qok q) : isInf (F8 q) = false := by
  obtain ⟨m, e, hd, _⟩ := F8_decode h
  unfold isInf; rw [hd]
theorem decode_two : decode (ofInt 2) = .fin false (2 ^ 52) (-51) := by kernel_rfl
theorem F4_half {q : Int} (h : Qok q) : div (F4 q) (ofInt 2) = F8 q := by
  obtain ⟨m, e, hd, hv⟩ := F4_decode h
  have h2 := div_right hd decode_two (by decide)
  rw [F8_is h]
  have e0 : (decide (q < 0) != false) = decide (q < 0) := by cases decide (q < 0) <;> rfl
  rw [e0] at h2
  have v2 : (val (ofInt 2)).natAbs = 2 ^ 1075 := by
    rw [val_natAbs decode_two, ← Nat.pow_add]
    rfl
  refine right_exact h2 (by rw [v2]; exact Nat.two_pow_pos _) ?_ (tm_lt (by decide) h.nat)
  rw [v2, val_natAbs hd]
  have hv3 := V_tm (j := 3) (by decide) h.nat
  generalize m * 2 ^ (e + 1074).toNat = A at *
  generalize V (tm 3 q.natAbs) = B at *
  have e1 : (2 : Nat) ^ 1075 = 2 * 2 ^ 1074 := by rw [Nat.pow_succ, Nat.mul_comm]
  rw [e1]
  have e3 : (2 : Nat) ^ 3 = 8 := rfl
  rw [e3] at hv3
  generalize (2 : Nat) ^ 1074 = X at *
  have : A = B * 2 := by omega
  rw [this]
  ac_rfl
theorem fdiv_nonneg (n d : Nat) : Int.fdiv (n : Int) (d : Int) = ((n / d : Nat) : Int) := by
  rw [Int.fdiv_eq_ediv_of_nonneg _ (Int.natCast_nonneg d)]; rfl
theorem F4_trunc {q : Int} (h : Qok q) : ∃ s m e, decode (F4 q) = .fin s m e ∧ truncOf s m e = Int.tdiv q 4 := by
  obtain ⟨m, e, hd, hv⟩ := F4_decode h
  refine ⟨_, m, e, hd, ?_⟩
  have hge := decode_ge hd
  have hn := h.nat
  -- the magnitude: floorOf false m e = |q| / 4
  have key : floorOf false m e = ((q.natAbs / 4 : Nat) : Int) := by
    unfold floorOf
    split
    · rename_i he
      unfold sgn
      rw [if_neg (by decide)]
      have e1 : (e + 1074).toNat = e.toNat + 1074 := by omega
      rw [e1, Nat.pow_add, ← Nat.mul_assoc] at hv
      have hp : 0 < (2 : Nat) ^ 1074 := Nat.two_pow_pos _
      have h4 : m * 2 ^ e.toNat * 4 = q.natAbs := by
        refine Nat.eq_of_mul_eq_mul_right hp ?_
        rw [← hv]; ac_rfl
      rw [← h4, Nat.mul_div_cancel _ (by decide)]
      simp
    · rename_i he
      unfold sgn
      rw [if_neg (by decide)]
      have e1 : 1074 = (e + 1074).toNat + (-e).toNat := by omega
      have e2 : (2 : Nat) ^ 1074 = 2 ^ (e + 1074).toNat * 2 ^ (-e).toNat := by rw [← Nat.pow_add, ← e1]
      rw [e2] at hv
      have hp : 0 < (2 : Nat) ^ (e + 1074).toNat := Nat.two_pow_pos _
      have h4 : m * 4 = q.natAbs * 2 ^ (-e).toNat := by
        refine Nat.eq_of_mul_eq_mul_right hp ?_
        calc m * 4 * 2 ^ (e + 1074).toNat = m * 2 ^ (e + 1074).toNat * 4 := by ac_rfl
          _ = _ := hv
          _ = _ := by ac_rfl
      have e3 : ((2 : Int) ^ (-e).toNat) = (((2 : Nat) ^ (-e).toNat : Nat) : Int) := by simp
      rw [e3, fdiv_nonneg]
      congr 1
      generalize (2 : Nat) ^ (-e).toNat = P at *
      have hP : 0 < P := by
        rcases Nat.eq_zero_or_pos P with g | g
        · subst g
          exfalso
          have : (2 : Nat) ^ 1074 = 0 := by rw [e2, Nat.mul_zero]
          exact absurd this (Nat.ne_of_gt (Nat.two_pow_pos _))
        · exact g
      have : m / P = m * 4 / (P * 4) := by rw [Nat.mul_div_mul_right _ _ (by decide)]
      rw [this, h4, Nat.mul_comm P 4, Nat.mul_div_mul_right _ _ hP]
  have hsg : ∀ s, truncOf s m e = if s then -floorOf false m e else floorOf false m e := by
    intro s
    cases s
    · rfl
    · rfl
  rw [hsg, key]
  by_cases hq : q < 0
  · simp only [hq, decide_true, if_true]
    obtain ⟨k, rfl⟩ : ∃ k : Nat, q = -(k : Int) := ⟨q.natAbs, by omega⟩
    rw [Int.neg_tdiv, Int.natAbs_neg, Int.natAbs_natCast]
    rfl
  · simp only [hq, decide_false, Bool.false_eq_true, if_false]
    obtain ⟨k, rfl⟩ : ∃ k : Nat, q = (k : Int) := ⟨q.natAbs, by omega⟩
    rfl
end Mine
end
section
open PySem PySem.W PyProof.Rows
set_option maxRecDepth 100000
namespace Mine
open Float64 PySem.NumText
-- digits
def dg (n : Nat) : List Nat := (Nat.toDigits 10 n).map Char.toNat
theorem dg_all (n : Nat) : AllDigits (dg n) := by
  intro c hc
  obtain ⟨ch, hch, e⟩ := List.mem_map.mp hc
  have r := digit_range (Nat.isDigit_of_mem_toDigits (by decide) (by decide) hch)
  rw [← e]
  exact r
theorem dg_ne (n : Nat) : dg n ≠ [] := by
  intro e
  have h := toDigits_len_ge 10 n
  rw [List.map_eq_nil_iff.mp e] at h
  exact absurd h (by decide)
theorem dg_val (n : Nat) : digitsVal (dg n) = n := KIN.val_back n
theorem dg_len {n k : Nat} (hk : 1 ≤ k) (h : n < 10 ^ k) : (dg n).length ≤ k := by
  unfold dg; rw [List.length_map]; exact digits10_le hk h
theorem frac_mem (r : Nat) : ∀ c ∈ frac r, 46 ≤ c ∧ c ≤ 57 := by
  intro c hc
  unfold frac at hc
  split at hc <;> simp at hc <;> omega
theorem frac_len (r : Nat) : (frac r).length ≤ 3 := by unfold frac; split <;> decide
theorem txt_eq (q : Int) : txt q = (if q < 0 then [45] else []) ++ (dg (q.natAbs / 4) ++ frac (q.natAbs % 4)) := rfl
theorem txt_mem {q : Int} : ∀ c ∈ txt q, 45 ≤ c ∧ c ≤ 57 := by
  intro c hc
  rw [txt_eq] at hc
  rcases List.mem_append.mp hc with h | h
  · split at h
    · simp at h; omega
    · cases h
  · rcases List.mem_append.mp h with h | h
    · have := dg_all _ c h; omega
    · have := frac_mem _ c h; omega
theorem txt_len {q : Int} (h : Qok q) : (txt q).length ≤ 7 := by
  rw [txt_eq, List.length_append, List.length_append]
  have h1 : (dg (q.natAbs / 4)).length ≤ 3 := dg_len (by decide) (by have := h.nat; omega)
  have h2 := frac_len (q.natAbs % 4)
  split <;> simp <;> omega
-- int(text)
theorem foldl_dot : ∀ (cs : List Nat) (p : Array Nat × Bool) (r : List Nat), AllDigits cs → (cs ++ 46 :: r).foldlM (step 10) p = none
  | [], (ds, b), r, _ => by
    rw [List.nil_append, List.foldlM_cons]
    have : step 10 (ds, b) 46 = none := rfl
    rw [this]; rfl
  | c :: cs, (ds, b), r, h => by
    rw [List.cons_append, List.foldlM_cons, step_digit h.head]
    exact foldl_dot cs _ r h.tail
theorem digits_dot {cs r : List Nat} (h : AllDigits cs) : digits? 10 (cs ++ 46 :: r) = none := by
  unfold digits?
  rw [foldl_dot cs _ r h]
  rfl
theorem dropBlank {cs : List Nat} (h : ∀ c ∈ cs, 45 ≤ c ∧ c ≤ 57) : cs.dropWhile blank = cs := by
  cases cs with
  | nil => rfl
  | cons c r => exact dropWhile_of (by have := h c (List.mem_cons_self ..); omega)
theorem sign_dg {n : Nat} (r : List Nat) : sign (dg n ++ r) = (false, dg n ++ r) := by
  cases e : dg n with
  | nil => exact absurd e (dg_ne n)
  | cons c l =>
    have hc := dg_all n c (by rw [e]; exact List.mem_cons_self ..)
    rw [List.cons_append]
    exact sign_of (by omega) (by omega)
theorem core_txt (q : Int) : core (txt q) = dg (q.natAbs / 4) ++ frac (q.natAbs % 4) ∧ (sign ((txt q).dropWhile blank)).1 = decide (q < 0) := by
  have hm : ∀ c ∈ dg (q.natAbs / 4) ++ frac (q.natAbs % 4), 45 ≤ c ∧ c ≤ 57 := fun c hc => txt_mem (q := q) c (by rw [txt_eq]; exact List.mem_append_right _ hc)
  have e : sign ((txt q).dropWhile blank) = (decide (q < 0), dg (q.natAbs / 4) ++ frac (q.natAbs % 4)) := by
    rw [dropBlank txt_mem, txt_eq]
    by_cases h : q < 0
    · simp only [h, if_true, decide_true, List.cons_append, List.nil_append]; rfl
    · simp only [h, if_false, decide_false, List.nil_append]; exact sign_dg _
  unfold core
  rw [e]
  refine ⟨?_, rfl⟩
  show ((dg (q.natAbs / 4) ++ frac (q.natAbs % 4)).reverse.dropWhile blank).reverse = _
  rw [dropBlank (fun c hc => hm c (List.mem_reverse.mp hc)), List.reverse_reverse]
theorem read_whole {q : Int} (h : Qok q) (h4 : q.natAbs % 4 = 0) : (int_private% "readNumeral") 0 10 (txt q) = (int_private% "Numeral.value") (Int.tdiv q 4) := by
  rw [readNumeral_ten, (core_txt q).1, (core_txt q).2, h4]
  show judge 0 _ 10 false (digits? 10 (dg (q.natAbs / 4) ++ [])) = _
  rw [List.append_nil, digits_of (dg_all _) (dg_ne _)]
  rw [judge_ok (.inl rfl) (by
    rw [push_size]
    have h1 : (dg (q.natAbs / 4)).length ≤ 3 := dg_len (by decide) (by have := h.nat; omega)
    have : (#[] : Array Nat).size = 0 := rfl
    omega)]
  congr 1
  unfold worth
  rw [push_foldl]
  have e : (dg (q.natAbs / 4)).foldl (fun acc c => acc * 10 + (c - 48)) ((#[] : Array Nat).foldl (fun acc d => acc * 10 + d) 0) = q.natAbs / 4 := dg_val _
  rw [e]
  by_cases hq : q < 0
  · obtain ⟨k, rfl⟩ : ∃ k : Nat, q = -(k : Int) := ⟨q.natAbs, by omega⟩
    simp only [hq, decide_true, if_true]
    rw [Int.neg_tdiv, Int.natAbs_neg, Int.natAbs_natCast]
    rfl
  · obtain ⟨k, rfl⟩ : ∃ k : Nat, q = (k : Int) := ⟨q.natAbs, by omega⟩
    simp only [hq, decide_false, Bool.false_eq_true, if_false]
    rfl
theorem read_part {q : Int} (h4 : q.natAbs % 4 ≠ 0) : (int_private% "readNumeral") 0 10 (txt q) = int_private% "Numeral.invalid" := by
  rw [readNumeral_ten, (core_txt q).1]
  have hf : ∃ r, frac (q.natAbs % 4) = 46 :: r := by
    unfold frac
    split
    · rename_i e; exact absurd e h4
    · exact ⟨_, rfl⟩
    · exact ⟨_, rfl⟩
    · exact ⟨_, rfl⟩
  obtain ⟨r, hr⟩ := hf
  rw [hr, digits_dot (dg_all _)]
  rfl
theorem txt_seen (q : Int) : (txt q).takeWhile (· != 0) = txt q := takeWhile_all fun c hc => by
  have := txt_mem (q := q) c hc
  simp; omega
theorem txt_low (q : Int) : (txt q).any (· ≥ 128) = false := by
  rw [List.any_eq_false]
  intro c hc
  have := txt_mem (q := q) c hc
  simp; omega
end Mine
end
section
open PySem PySem.W PyProof.Rows
set_option maxRecDepth 100000
namespace Mine
open Float64 PySem.NumText
-- float(text)
def dc (n : Nat) : List Char := Nat.toDigits 10 n
theorem dc_digit {n : Nat} {c : Char} (h : c ∈ dc n) : c.isDigit = true := Nat.isDigit_of_mem_toDigits (by decide) (by decide) h
theorem dc_ne (n : Nat) : dc n ≠ [] := fun e => dg_ne n (by unfold dg; rw [show Nat.toDigits 10 n = [] from e]; rfl)
theorem dc_back (n : Nat) : (dg n).map Char.ofNat = dc n := by
  unfold dg dc
  rw [List.map_map]
  conv => rhs; rw [← List.map_id (Nat.toDigits 10 n)]
  exact List.map_congr_left fun c _ => by simp [Function.comp]
def fracC : Nat → List Char
  | 0 => []
  | 1 => ['.', '2', '5']
  | 2 => ['.', '5']
  | _ => ['.', '7', '5']
theorem frac_back (r : Nat) : (frac r).map Char.ofNat = fracC r := by
  match r with
  | 0 => rfl
  | 1 => rfl
  | 2 => rfl
  | _ + 3 => rfl
def txtC (q : Int) : List Char := (if q < 0 then ['-'] else []) ++ (dc (q.natAbs / 4) ++ fracC (q.natAbs % 4))
theorem txt_back (q : Int) : (txt q).map Char.ofNat = txtC q := by
  rw [txt_eq, List.map_append, List.map_append, dc_back, frac_back]
  unfold txtC
  split <;> rfl
theorem isDigit_range {c : Char} (h : c.isDigit = true) : 48 ≤ c.toNat ∧ c.toNat ≤ 57 := digit_range h
theorem ne_of_digit {c d : Char} (h : c.isDigit = true) (hd : d.isDigit = false) : c ≠ d := fun e => by rw [e, hd] at h; cases h
theorem space_digit {c : Char} (h : c.isDigit = true) : isSpace c = false := by
  have r := isDigit_range h
  unfold isSpace
  have h1 : (c == ' ') = false := beq_eq_false_iff_ne.mpr (ne_of_digit h (by decide))
  have h2 : decide (c.toNat ≤ 13) = false := decide_eq_false (by omega)
  rw [h1, h2]; simp
theorem fracC_space (r : Nat) : ∀ c ∈ fracC r, isSpace c = false := by
  intro c hc
  unfold fracC at hc
  split at hc <;> simp at hc
  · rcases hc with rfl | rfl | rfl <;> decide
  · rcases hc with rfl | rfl <;> decide
  · rcases hc with rfl | rfl | rfl <;> decide
theorem txtC_space {q : Int} : ∀ c ∈ txtC q, isSpace c = false := by
  intro c hc
  unfold txtC at hc
  rcases List.mem_append.mp hc with h | h
  · split at h
    · simp at h; subst h; decide
    · cases h
  · rcases List.mem_append.mp h with h | h
    · exact space_digit (dc_digit h)
    · exact fracC_space _ c h
theorem dropWhile_none {α : Type} {p : α → Bool} : ∀ {l : List α}, (∀ c ∈ l, p c = false) → l.dropWhile p = l
  | [], _ => rfl
  | c :: l, h => by rw [List.dropWhile_cons, h c (List.mem_cons_self ..)]; rfl
theorem strip_same {s : List Char} (h : ∀ c ∈ s, isSpace c = false) : ((s.dropWhile isSpace).reverse.dropWhile isSpace).reverse = s := by
  rw [dropWhile_none h, dropWhile_none (fun c hc => h c (List.mem_reverse.mp hc)), List.reverse_reverse]
theorem more_digits : ∀ (ds : List Char) (rest : List Char), (∀ c ∈ ds, c.isDigit = true) → moreDigits rest = ([], rest) → moreDigits (ds ++ rest) = (ds, rest)
  | [], rest, _, h => h
  | c :: ds, rest, h, h2 => by
    have hc := h c (List.mem_cons_self ..)
    have ih := more_digits ds rest (fun d hd => h d (List.mem_cons_of_mem _ hd)) h2
    have hn : c ≠ '_' := ne_of_digit hc (by decide)
    rw [List.cons_append]
    unfold moreDigits
    split
    · rename_i e; exact absurd (List.cons.inj e).1 hn
    · rename_i c' r' _ e
      obtain ⟨rfl, rfl⟩ := List.cons.inj e
      rw [if_pos hc, ih]
    · rename_i e; cases e
theorem digit_run {ds : List Char} (rest : List Char) (h : ∀ c ∈ ds, c.isDigit = true) (hne : ds ≠ []) (h2 : moreDigits rest = ([], rest)) : digitRun (ds ++ rest) = (ds, rest) := by
  cases ds with
  | nil => exact absurd rfl hne
  | cons c ds =>
    rw [List.cons_append]
    unfold digitRun
    dsimp only
    rw [if_pos (h c (List.mem_cons_self ..)), more_digits ds rest (fun d hd => h d (List.mem_cons_of_mem _ hd)) h2]
theorem natOf_append (ds es : List Char) : natOf 10 (ds ++ es) = es.foldl (fun n c => n * 10 + digitValue c) (natOf 10 ds) := by
  unfold natOf; rw [List.foldl_append]
theorem natOf_val : ∀ (ds : List Char) (a : Nat), (∀ c ∈ ds, c.isDigit = true) → ds.foldl (fun n c => n * 10 + digitValue c) a = (ds.map Char.toNat).foldl (fun acc c => acc * 10 + (c - 48)) a
  | [], _, _ => rfl
  | c :: ds, a, h => by
    rw [List.map_cons, List.foldl_cons, List.foldl_cons]
    have hc := h c (List.mem_cons_self ..)
    have : digitValue c = c.toNat - 48 := by unfold digitValue; rw [if_pos hc]
    rw [this]
    exact natOf_val ds _ fun d hd => h d (List.mem_cons_of_mem _ hd)
theorem natOf_dc (n : Nat) : natOf 10 (dc n) = n := by
  unfold natOf
  rw [natOf_val _ _ fun c hc => dc_digit hc]
  exact dg_val n
theorem drop_inf {c : Char} {r : List Char} (h : c.isDigit = true) : dropPrefix? "inf" (c :: r) = none := by
  unfold dropPrefix?
  rw [if_neg]
  intro e
  have e := beq_iff_eq.mp e
  have e2 : ("inf" : String).toList = ['i', 'n', 'f'] := by decide
  have e3 : ("inf" : String).length = 3 := by decide
  rw [e2, e3, List.take_succ_cons, List.map_cons] at e
  have h1 := (List.cons.inj e).1
  have r := isDigit_range h
  have : c.toLower = c := by
    unfold Char.toLower
    have hv : c.val.toNat = c.toNat := rfl
    rw [dif_neg]
    intro hh
    have := hh.1
    have := UInt32.le_iff_toNat_le.mp this
    rw [hv] at this
    have : (65 : Nat) ≤ c.toNat := this
    omega
  rw [this] at h1
  rw [h1] at h
  revert h; decide
theorem drop_nan {c : Char} {r : List Char} (h : c.isDigit = true) : dropPrefix? "nan" (c :: r) = none := by
  unfold dropPrefix?
  rw [if_neg]
  intro e
  have e := beq_iff_eq.mp e
  have e2 : ("nan" : String).toList = ['n', 'a', 'n'] := by decide
  have e3 : ("nan" : String).length = 3 := by decide
  rw [e2, e3, List.take_succ_cons, List.map_cons] at e
  have h1 := (List.cons.inj e).1
  have r := isDigit_range h
  have : c.toLower = c := by
    unfold Char.toLower
    have hv : c.val.toNat = c.toNat := rfl
    rw [dif_neg]
    intro hh
    have := hh.1
    have := UInt32.le_iff_toNat_le.mp this
    rw [hv] at this
    have : (65 : Nat) ≤ c.toNat := this
    omega
  rw [this] at h1
  rw [h1] at h
  revert h; decide
theorem readSign_txt (q : Int) : readSign (txtC q) = (decide (q < 0), dc (q.natAbs / 4) ++ fracC (q.natAbs % 4)) := by
  unfold txtC
  by_cases h : q < 0
  · simp only [h, if_true, decide_true, List.cons_append, List.nil_append]; rfl
  · simp only [h, if_false, decide_false, List.nil_append]
    cases e : dc (q.natAbs / 4) with
    | nil => exact absurd e (dc_ne _)
    | cons c l =>
      have hc : c.isDigit = true := dc_digit (n := q.natAbs / 4) (by rw [e]; exact List.mem_cons_self ..)
      rw [List.cons_append]
      unfold readSign
      split
      · rename_i e; exact absurd (List.cons.inj e).1 (ne_of_digit hc (by decide))
      · rename_i e; exact absurd (List.cons.inj e).1 (ne_of_digit hc (by decide))
      · rfl
theorem readSpecial_txt (q : Int) : readSpecial? (txtC q) = none := by
  unfold readSpecial?
  rw [readSign_txt]
  cases e : dc (q.natAbs / 4) with
  | nil => exact absurd e (dc_ne _)
  | cons c l =>
    have hc : c.isDigit = true := dc_digit (n := q.natAbs / 4) (by rw [e]; exact List.mem_cons_self ..)
    rw [List.cons_append]
    simp only [drop_inf hc, drop_nan hc]
    rfl
theorem ofDecimal_small {neg : Bool} {c j N : Nat} (hN : N ≤ 2000) (hj : j ≤ 2) (hc : c * 4 = N * 10 ^ j) (hn : N = 0 → neg = false) : ofDecimal neg c (-(j : Int)) = pack neg (tm 2 N) := by
  unfold ofDecimal
  by_cases h0 : c = 0
  · have : N = 0 := by
      subst h0
      have : 0 < 10 ^ j := Nat.pow_pos (by decide)
      rcases Nat.mul_eq_zero.mp (hc.symm.trans (Nat.zero_mul 4)) with g | g
      · exact g
      · omega
    subst this
    subst h0
    rw [hn rfl]
    rfl
  · have hcl : c < 10 ^ 6 := by
      have : N * 10 ^ j ≤ 2000 * 10 ^ 2 := Nat.mul_le_mul hN (Nat.pow_le_pow_right (by decide) hj)
      have e : (10 : Nat) ^ 6 = 1000000 := rfl
      have e2 : (10 : Nat) ^ 2 = 100 := rfl
      rw [e2] at this
      omega
    have hlen : (Nat.repr c).length ≤ 6 := by
      rw [← String.length_toList, Nat.toList_repr]
      exact digits10_le (by decide) hcl
    rw [if_neg (by simpa using h0)]
    simp only
    rw [if_neg (by omega), if_neg (by omega)]
    have hs : shift10 c 1 (-(j : Int)) = (c, 10 ^ j) := by
      unfold shift10
      split
      · have : j = 0 := by omega
        subst this
        simp
      · simp
    rw [hs]
    refine ofFrac_exact (Nat.pow_pos (by decide)) ?_ (tm_lt (by decide) hN)
    have hv := V_tm (j := 2) (by decide) hN
    generalize V (tm 2 N) = v at *
    generalize (2 : Nat) ^ 1074 = X at *
    generalize (10 : Nat) ^ j = D at *
    have e2 : (2 : Nat) ^ 2 = 4 := rfl
    rw [e2] at hv
    refine Nat.eq_of_mul_eq_mul_right (show 0 < 4 by decide) ?_
    calc D * v * 4 = D * (v * 4) := Nat.mul_assoc ..
      _ = D * (N * X) := by rw [hv]
      _ = N * D * X := by ac_rfl
      _ = c * 4 * X := by rw [hc]
      _ = c * X * 4 := by ac_rfl
theorem parse_txt {q : Int} (h : Qok q) : parse? (txtC q) = some (F4 q) := by
  unfold parse?
  rw [strip_same txtC_space]
  simp only [readSpecial_txt, readSign_txt]
  have hN := h.nat
  have hm : ∀ r, moreDigits (fracC r) = ([], fracC r) := by intro r; unfold fracC; split <;> rfl
  rw [digit_run (fracC (q.natAbs % 4)) (fun c hc => dc_digit hc) (dc_ne _) (hm _)]
  rw [F4_is h]
  have hsgn : q.natAbs = 0 → decide (q < 0) = false := by intro e; have : q = 0 := by omega
                                                          subst this; rfl
  have hne : (dc (q.natAbs / 4)).isEmpty = false := by
    cases e : dc (q.natAbs / 4) with
    | nil => exact absurd e (dc_ne _)
    | cons _ _ => rfl
  have hr : q.natAbs % 4 < 4 := Nat.mod_lt _ (by decide)
  have hdiv := Nat.div_add_mod q.natAbs 4
  generalize hr' : q.natAbs % 4 = r at *
  have h4 : r = 0 ∨ r = 1 ∨ r = 2 ∨ r = 3 := by omega
  rcases h4 with rfl | rfl | rfl | rfl
  · simp only [fracC, hne, Bool.false_and, Bool.false_eq_true, if_false, List.append_nil, List.length_nil]
    rw [natOf_dc]
    rw [ofDecimal_small (j := 0) hN (by decide) (by simp; omega) hsgn]
  · have dr : digitRun ['2', '5'] = (['2', '5'], []) := rfl
    simp only [fracC, hne, dr, Bool.false_and, Bool.false_eq_true, if_false, List.length_cons, List.length_nil]
    rw [natOf_append, natOf_dc]
    refine congrArg some (ofDecimal_small (j := 2) hN (by decide) ?_ hsgn)
    show ((q.natAbs / 4 * 10 + 2) * 10 + 5) * 4 = q.natAbs * 100
    omega
  · have dr : digitRun ['5'] = (['5'], []) := rfl
    simp only [fracC, hne, dr, Bool.false_and, Bool.false_eq_true, if_false, List.length_cons, List.length_nil]
    rw [natOf_append, natOf_dc]
    refine congrArg some (ofDecimal_small (j := 1) hN (by decide) ?_ hsgn)
    show (q.natAbs / 4 * 10 + 5) * 4 = q.natAbs * 10
    omega
  · have dr : digitRun ['7', '5'] = (['7', '5'], []) := rfl
    simp only [fracC, hne, dr, Bool.false_and, Bool.false_eq_true, if_false, List.length_cons, List.length_nil]
    rw [natOf_append, natOf_dc]
    refine congrArg some (ofDecimal_small (j := 2) hN (by decide) ?_ hsgn)
    show ((q.natAbs / 4 * 10 + 7) * 10 + 5) * 4 = q.natAbs * 100
    omega
end Mine
end
section
open PySem PySem.W PyProof.Rows
set_option maxRecDepth 100000
namespace Mine
open Float64 PySem.NumText Builtin.Float
def q17 : FormatSpec := { fill := 32, align := 62, precision := some 17, type := some 103 }
theorem spec17 : parseFormatSpec [46, 49, 55, 103] "float" 62 = .ok q17 := by rfl
-- scaling
theorem log2_scale {n : Nat} (hn : n ≠ 0) (j : Nat) : (n * 2 ^ j).log2 = n.log2 + j := by
  have hp : n * 2 ^ j ≠ 0 := Nat.mul_ne_zero hn (Nat.ne_of_gt (Nat.two_pow_pos j))
  have h1 := Nat.log2_self_le hn
  have h2 : n < 2 ^ (n.log2 + 1) := Nat.lt_log2_self
  have a : n.log2 + j ≤ (n * 2 ^ j).log2 := by
    rw [Nat.le_log2 hp, Nat.pow_add]
    exact Nat.mul_le_mul_right _ h1
  have b : (n * 2 ^ j).log2 < n.log2 + 1 + j := by
    rw [Nat.log2_lt hp, Nat.pow_add]
    exact Nat.mul_lt_mul_of_pos_right h2 (Nat.two_pow_pos j)
  omega
theorem shift10_scale (n d c : Nat) (k : Int) : shift10 (n * c) (d * c) k = ((shift10 n d k).1 * c, (shift10 n d k).2 * c) := by
  unfold shift10
  split
  · simp only [Prod.mk.injEq, and_true]; ac_rfl
  · simp only [Prod.mk.injEq, true_and]; ac_rfl
theorem firstAbove_scale {n d c : Nat} (hc : 0 < c) : ∀ (t : Nat) (k : Int), firstAbove (n * c) (d * c) t k = firstAbove n d t k
  | 0, k => rfl
  | t + 1, k => by
    unfold firstAbove
    rw [shift10_scale]
    dsimp only
    have e : ((shift10 n d (-k)).1 * c < (shift10 n d (-k)).2 * c) ↔ (shift10 n d (-k)).1 < (shift10 n d (-k)).2 := ⟨fun h => Nat.lt_of_mul_lt_mul_right h, fun h => Nat.mul_lt_mul_of_pos_right h hc⟩
    rw [firstAbove_scale hc t (k + 1)]
    by_cases hh : (shift10 n d (-k)).1 < (shift10 n d (-k)).2
    · rw [if_pos hh, if_pos (e.mpr hh)]
    · rw [if_neg hh, if_neg fun x => hh (e.mp x)]
theorem decimalPoint_scale {n d : Nat} (hn : n ≠ 0) (hd : d ≠ 0) (j : Nat) : decimalPoint (n * 2 ^ j) (d * 2 ^ j) = decimalPoint n d := by
  unfold decimalPoint
  rw [log2_scale hn, log2_scale hd, firstAbove_scale (Nat.two_pow_pos j)]
  congr 3
  omega
theorem halfEven_scale {n d c : Nat} (hc : 0 < c) : halfEven (n * c) (d * c) = halfEven n d := by
  unfold halfEven
  rw [Nat.mul_div_mul_right _ _ hc, Nat.mul_mod_mul_right]
  dsimp only
  have e1 : (2 * (n % d * c) > d * c) ↔ (2 * (n % d) > d) := by
    rw [← Nat.mul_assoc]
    exact ⟨fun h => Nat.lt_of_mul_lt_mul_right h, fun h => Nat.mul_lt_mul_of_pos_right h hc⟩
  have e2 : (2 * (n % d * c) == d * c) = (2 * (n % d) == d) := by
    rw [← Nat.mul_assoc, Bool.eq_iff_iff, beq_iff_eq, beq_iff_eq]
    exact ⟨fun h => Nat.eq_of_mul_eq_mul_right hc h, fun h => by rw [h]⟩
  rw [e2, decide_eq_decide.mpr e1]
theorem significant_scale {n d : Nat} (hn : n ≠ 0) (hd : d ≠ 0) (j p : Nat) : significant (n * 2 ^ j) (d * 2 ^ j) p = significant n d p := by
  unfold significant
  dsimp only
  rw [decimalPoint_scale hn hd, shift10_scale]
  dsimp only
  rw [halfEven_scale (Nat.two_pow_pos j)]
-- digits with zeros behind
theorem toDigits_ten {c : Nat} (hc : c ≠ 0) (j : Nat) : Nat.toDigits 10 (c * 10 ^ j) = Nat.toDigits 10 c ++ zeros j := by
  induction j with
  | zero => simp [zeros]
  | succ j ih =>
    have hp : 0 < c * 10 ^ j := Nat.mul_pos (Nat.pos_of_ne_zero hc) (Nat.pow_pos (by decide))
    have e := Nat.toDigits_append_toDigits (b := 10) (n := c * 10 ^ j) (d := 0) (by decide) hp (by decide)
    rw [show c * 10 ^ (j + 1) = 10 * (c * 10 ^ j) + 0 by rw [Nat.pow_succ]; ac_rfl, ← e, ih]
    unfold zeros
    rw [List.replicate_succ', List.append_assoc]
    rfl
theorem digits_of_ten {c : Nat} (hc : c ≠ 0) (j : Nat) (k : Int) : Digits.of (c * 10 ^ j) k = Digits.of c (k + j) := by
  unfold Digits.of
  rw [Nat.toList_repr, Nat.toList_repr, toDigits_ten hc]
  dsimp only
  have e1 : ((Nat.toDigits 10 c ++ zeros j).reverse.dropWhile (· == '0')) = (Nat.toDigits 10 c).reverse.dropWhile (· == '0') := by
    rw [List.reverse_append]
    have : (zeros j).reverse = zeros j := by unfold zeros; exact List.reverse_replicate ..
    rw [this]
    induction j with
    | zero => rfl
    | succ j ih => unfold zeros at *; rw [List.replicate_succ, List.cons_append, List.dropWhile_cons]; simpa using ih (by exact List.reverse_replicate ..)
  rw [e1]
  congr 1
  rw [List.length_append]
  have : (zeros j).length = j := by unfold zeros; exact List.length_replicate ..
  rw [this]
  push_cast
  omega
theorem firstAbove_le (n d : Nat) : ∀ (t : Nat) (k : Int), firstAbove n d t k ≤ k + t
  | 0, k => by unfold firstAbove; omega
  | t + 1, k => by
    unfold firstAbove
    have ih := firstAbove_le n d t (k + 1)
    dsimp only
    split <;> omega
theorem significant_quarter {N : Nat} (h0 : N ≠ 0) (hN : N ≤ 2000) : significant N 4 17 = Digits.of (25 * N) (-2) := by
  unfold significant
  have hk : decimalPoint N 4 ≤ 15 := by
    unfold decimalPoint
    have h1 := firstAbove_le N 4 3 (((N.log2 : Int) - ((4 : Nat).log2 : Int)) * 30103 / 100000)
    have h2 : N.log2 < 11 := by rw [Nat.log2_lt h0]; omega
    have h4 : (4 : Nat).log2 = 2 := by decide +kernel
    rw [h4] at h1 ⊢
    dsimp only
    omega
  generalize decimalPoint N 4 = k at *
  obtain ⟨j, hj⟩ : ∃ j : Nat, k = 15 - (j : Int) := ⟨(15 - k).toNat, by omega⟩
  subst hj
  have e1 : ((17 : Nat) : Int) - (15 - (j : Int)) = ((j + 2 : Nat) : Int) := by omega
  dsimp only
  rw [e1]
  have e2 : shift10 N 4 ((j + 2 : Nat) : Int) = (N * 10 ^ (j + 2), 4) := by
    unfold shift10
    rw [if_pos (by omega), Int.toNat_natCast]
  rw [e2]
  dsimp only
  have e3 : halfEven (N * 10 ^ (j + 2)) 4 = 25 * N * 10 ^ j := by
    have : N * 10 ^ (j + 2) = 4 * (25 * N * 10 ^ j) := by
      rw [Nat.pow_add, show (10 : Nat) ^ 2 = 4 * 25 from rfl]; ac_rfl
    rw [this]
    unfold halfEven
    rw [Nat.mul_div_cancel_left _ (by decide), Nat.mul_mod_right]
    rfl
  rw [e3, digits_of_ten (by omega)]
  congr 1
  omega
-- the digits of a quarter
def of' (c : Nat) (q : Int) : Digits :=
  let ds := Nat.toDigits 10 c
  ⟨(ds.reverse.dropWhile (· == '0')).reverse, q + ds.length⟩
theorem of_eq (c : Nat) (q : Int) : Digits.of c q = of' c q := by
  unfold Digits.of of'
  rw [Nat.toList_repr]
theorem dc_pos {a : Nat} (h : 0 < a) {d : Nat} (hd : d < 10) : Nat.toDigits 10 (10 * a + d) = dc a ++ [Nat.digitChar d] := by
  rw [← Nat.toDigits_append_toDigits (by decide) h hd, Nat.toDigits_of_lt_base hd]
  rfl
theorem len_pos {l : List Char} (h : l ≠ []) : 0 < l.length := by cases l with | nil => exact absurd rfl h | cons _ _ => exact Nat.succ_pos _
theorem takeWhile_zeros : ∀ l : List Char, ∃ z, l.takeWhile (· == '0') = zeros z
  | [] => ⟨0, rfl⟩
  | c :: l => by
    obtain ⟨z, hz⟩ := takeWhile_zeros l
    rw [List.takeWhile_cons]
    split
    · rename_i h
      refine ⟨z + 1, ?_⟩
      rw [hz, beq_iff_eq.mp h]
      rfl
    · exact ⟨0, rfl⟩
theorem strip_zeros (l : List Char) : ∃ z, l.reverse.takeWhile (· == '0') = zeros z := takeWhile_zeros _
theorem zeros_rev (z : Nat) : (zeros z).reverse = zeros z := by unfold zeros; exact List.reverse_replicate ..
theorem strip_split (l : List Char) : ∃ z, l = (l.reverse.dropWhile (· == '0')).reverse ++ zeros z := by
  obtain ⟨z, hz⟩ := strip_zeros l
  refine ⟨z, ?_⟩
  have : l.reverse = zeros z ++ l.reverse.dropWhile (· == '0') := by rw [← hz]; exact List.takeWhile_append_dropWhile.symm
  have e := congrArg List.reverse this
  rw [List.reverse_reverse, List.reverse_append, zeros_rev] at e
  exact e
theorem strip_last {l : List Char} {c : Char} (h : (c == '0') = false) : ((l ++ [c]).reverse.dropWhile (· == '0')).reverse = l ++ [c] := by
  rw [List.reverse_append, List.reverse_singleton, List.singleton_append, List.dropWhile_cons, h]
  simp
theorem pad_same (l : List Char) (k : Nat) : padRight l (l.length + k) = l ++ zeros k := by unfold padRight; rw [Nat.add_sub_cancel_left]
theorem pad_none (l : List Char) : padRight l l.length = l := by unfold padRight zeros; rw [Nat.sub_self]; simp
theorem pointed_part {w f : List Char} (hw : w ≠ []) (hf : f ≠ []) :
    pointed ⟨w ++ f, (w.length : Int)⟩ (max (((w ++ f).length : Nat) : Int) ((w.length : Int) + 0) - (w.length : Int)).toNat false = w ++ '.' :: f := by
  have hl : 0 < w.length := len_pos hw
  have hl2 : 0 < f.length := len_pos hf
  have e1 : (max (((w ++ f).length : Nat) : Int) ((w.length : Int) + 0) - (w.length : Int)).toNat = f.length := by rw [List.length_append]; omega
  rw [e1]
  unfold pointed
  dsimp only
  rw [if_neg (by omega), Int.toNat_natCast, List.take_left', List.drop_left', pad_none]
  · have e2 : (-(w.length : Int)).toNat = 0 := by omega
    rw [e2]
    have e3 : (decide (f.length > 0) || false) = true := by simp; omega
    rw [e3, if_pos rfl]
    unfold zeros
    rw [List.replicate_zero, List.nil_append, pad_none]
  · rfl
  · rfl
theorem pointed_whole {w d : List Char} {z : Nat} (hw : w ≠ []) (h : w = d ++ zeros z) :
    pointed ⟨d, (w.length : Int)⟩ (max ((d.length : Nat) : Int) ((w.length : Int) + 0) - (w.length : Int)).toNat false = w := by
  have hl : 0 < w.length := len_pos hw
  have hz : (zeros z).length = z := by unfold zeros; exact List.length_replicate ..
  have hd : w.length = d.length + z := by rw [h, List.length_append, hz]
  have e1 : (max ((d.length : Nat) : Int) ((w.length : Int) + 0) - (w.length : Int)).toNat = 0 := by omega
  rw [e1]
  unfold pointed
  dsimp only
  rw [if_neg (by omega), Int.toNat_natCast, List.take_of_length_le (by omega), hd, pad_same, ← h]
  simp
theorem fmt_small : ∀ N, N < 4 → N ≠ 0 → (let x := of' (25 * N) (-2); (decide (x.pt ≤ -4) || decide (x.pt > (17 : Nat))) = false ∧ pointed x (max (x.ds.length : Int) (x.pt + 0) - x.pt).toNat false = dc (N / 4) ++ fracC (N % 4)) := by
  intro N h h0
  have : N = 1 ∨ N = 2 ∨ N = 3 := by omega
  rcases this with rfl | rfl | rfl <;> exact ⟨by kernel_rfl, by kernel_rfl⟩
theorem fmt_one {N : Nat} (h0 : N ≠ 0) (hN : N ≤ 2000) : (let x := of' (25 * N) (-2); (decide (x.pt ≤ -4) || decide (x.pt > (17 : Nat))) = false ∧ pointed x (max (x.ds.length : Int) (x.pt + 0) - x.pt).toNat false = dc (N / 4) ++ fracC (N % 4)) := by
  by_cases hs : N < 4
  · exact fmt_small N hs h0
  · have hr : N % 4 < 4 := Nat.mod_lt _ (by decide)
    have hdm := Nat.div_add_mod N 4
    have ha : 0 < N / 4 := by omega
    have ha2 : N / 4 < 10 ^ 3 := by omega
    generalize N / 4 = a at *
    generalize N % 4 = r at *
    subst hdm
    have hla : (dc a).length ≤ 3 := digits10_le (by decide) ha2
    have hpos : 0 < (dc a).length := len_pos (dc_ne a)
    have cond : ∀ p : Int, p = ((dc a).length : Int) → (decide (p ≤ -4) || decide (p > (17 : Nat))) = false := by
      intro p hp
      rw [decide_eq_false (by omega), decide_eq_false (by omega)]
      rfl
    unfold of'
    dsimp only
    have h4 : r = 0 ∨ r = 1 ∨ r = 2 ∨ r = 3 := by omega
    rcases h4 with rfl | rfl | rfl | rfl
    · have e : Nat.toDigits 10 (25 * (4 * a + 0)) = dc a ++ zeros 2 := by
        rw [show 25 * (4 * a + 0) = a * 10 ^ 2 by omega, toDigits_ten (by omega)]
        rfl
      have e2 : (-2 + ((Nat.toDigits 10 (25 * (4 * a + 0))).length : Int)) = ((dc a).length : Int) := by
        rw [e, List.length_append]; show -2 + (((dc a).length + 2 : Nat) : Int) = _; omega
      rw [e2]
      refine ⟨cond _ rfl, ?_⟩
      obtain ⟨z, hz⟩ := strip_split (dc a)
      have e3 : ((Nat.toDigits 10 (25 * (4 * a + 0))).reverse.dropWhile (· == '0')).reverse = ((dc a).reverse.dropWhile (· == '0')).reverse := by
        rw [e, List.reverse_append, zeros_rev]
        rfl
      rw [e3, pointed_whole (dc_ne a) hz]
      simp [fracC]
    · have e : Nat.toDigits 10 (25 * (4 * a + 1)) = dc a ++ ['2', '5'] := by
        rw [show 25 * (4 * a + 1) = 10 * (10 * a + 2) + 5 by omega, dc_pos (by omega) (by decide)]
        show Nat.toDigits 10 (10 * a + 2) ++ _ = _
        rw [dc_pos ha (by decide), List.append_assoc]
        rfl
      rw [e]
      have e2 : (-2 + ((dc a ++ ['2', '5']).length : Int)) = ((dc a).length : Int) := by
        rw [List.length_append]; show -2 + (((dc a).length + 2 : Nat) : Int) = _; omega
      rw [e2]
      refine ⟨cond _ rfl, ?_⟩
      have e3 : ((dc a ++ ['2', '5']).reverse.dropWhile (· == '0')).reverse = dc a ++ ['2', '5'] := by
        have := strip_last (l := dc a ++ ['2']) (c := '5') (by decide)
        rwa [List.append_assoc] at this
      rw [e3, pointed_part (dc_ne a) (by simp)]
      rfl
    · have e : Nat.toDigits 10 (25 * (4 * a + 2)) = dc a ++ ['5', '0'] := by
        rw [show 25 * (4 * a + 2) = 10 * (10 * a + 5) + 0 by omega, dc_pos (by omega) (by decide)]
        show Nat.toDigits 10 (10 * a + 5) ++ _ = _
        rw [dc_pos ha (by decide), List.append_assoc]
        rfl
      rw [e]
      have e2 : (-2 + ((dc a ++ ['5', '0']).length : Int)) = ((dc a).length : Int) := by
        rw [List.length_append]; show -2 + (((dc a).length + 2 : Nat) : Int) = _; omega
      rw [e2]
      refine ⟨cond _ rfl, ?_⟩
      have e3 : ((dc a ++ ['5', '0']).reverse.dropWhile (· == '0')).reverse = dc a ++ ['5'] := by
        have := strip_last (l := dc a) (c := '5') (by decide)
        rw [show dc a ++ ['5', '0'] = (dc a ++ ['5']) ++ ['0'] by rw [List.append_assoc]; rfl, List.reverse_append, List.reverse_singleton, List.singleton_append, List.dropWhile_cons, if_pos (by decide)]
        exact this
      rw [e3, pointed_part (dc_ne a) (by simp)]
      rfl
    · have e : Nat.toDigits 10 (25 * (4 * a + 3)) = dc a ++ ['7', '5'] := by
        rw [show 25 * (4 * a + 3) = 10 * (10 * a + 7) + 5 by omega, dc_pos (by omega) (by decide)]
        show Nat.toDigits 10 (10 * a + 7) ++ _ = _
        rw [dc_pos ha (by decide), List.append_assoc]
        rfl
      rw [e]
      have e2 : (-2 + ((dc a ++ ['7', '5']).length : Int)) = ((dc a).length : Int) := by
        rw [List.length_append]; show -2 + (((dc a).length + 2 : Nat) : Int) = _; omega
      rw [e2]
      refine ⟨cond _ rfl, ?_⟩
      have e3 : ((dc a ++ ['7', '5']).reverse.dropWhile (· == '0')).reverse = dc a ++ ['7', '5'] := by
        have := strip_last (l := dc a ++ ['7']) (c := '5') (by decide)
        rwa [List.append_assoc] at this
      rw [e3, pointed_part (dc_ne a) (by simp)]
      rfl
theorem text_quarter {q : Int} (h : Qok q) : Float64.text (F4 q) 'g' 17 false false false = (decide (q < 0), dc (q.natAbs / 4) ++ fracC (q.natAbs % 4)) := by
  obtain ⟨m, e, hd, hv⟩ := F4_decode h
  have hge := decode_ge hd
  unfold Float64.text
  rw [hd]
  dsimp only
  by_cases h0 : q = 0
  · subst h0
    have hm : m = 0 := by
      rcases Nat.mul_eq_zero.mp (show m * 2 ^ (e + 1074).toNat * 4 = 0 by rw [hv]; simp) with g | g
      · rcases Nat.mul_eq_zero.mp g with g | g
        · exact g
        · exact absurd g (Nat.ne_of_gt (Nat.two_pow_pos _))
      · omega
    subst hm
    rfl
  · have hN0 : q.natAbs ≠ 0 := by omega
    have hm : m ≠ 0 := by
      intro e0
      subst e0
      rw [Nat.zero_mul, Nat.zero_mul] at hv
      rcases Nat.mul_eq_zero.mp hv.symm with g | g
      · exact hN0 g
      · exact absurd g (Nat.ne_of_gt (Nat.two_pow_pos _))
    have hs := shift_one m e 1074 (by omega)
    have hs' : ∃ j, (shift m 1 e).2 = 2 ^ j := by
      unfold shift
      split
      · exact ⟨0, rfl⟩
      · exact ⟨(-e).toNat, Nat.one_mul _⟩
    obtain ⟨j, hj⟩ := hs'
    have e1 : (e + ((1074 : Nat) : Int)).toNat = (e + 1074).toNat := by omega
    rw [e1] at hs
    generalize hsh : shift m 1 e = sh at *
    obtain ⟨n, d⟩ := sh
    dsimp only at hs hj ⊢
    subst hj
    have hnd : n * 2 ^ 2 = q.natAbs * 2 ^ j := by
      refine Nat.eq_of_mul_eq_mul_right (Nat.two_pow_pos 1074) ?_
      calc n * 2 ^ 2 * 2 ^ 1074 = n * 2 ^ 1074 * 4 := by rw [show (2 : Nat) ^ 2 = 4 from rfl]; ac_rfl
        _ = m * 2 ^ (e + 1074).toNat * 2 ^ j * 4 := by rw [hs]
        _ = m * 2 ^ (e + 1074).toNat * 4 * 2 ^ j := by ac_rfl
        _ = q.natAbs * 2 ^ 1074 * 2 ^ j := by rw [hv]
        _ = _ := by ac_rfl
    have hn0 : n ≠ 0 := by
      intro g
      subst g
      rw [Nat.zero_mul] at hnd
      rcases Nat.mul_eq_zero.mp hnd.symm with g | g
      · exact hN0 g
      · exact absurd g (Nat.ne_of_gt (Nat.two_pow_pos _))
    have hsig : significant n (2 ^ j) 17 = Digits.of (25 * q.natAbs) (-2) := by
      have a := significant_scale (n := n) (d := 2 ^ j) hn0 (Nat.ne_of_gt (Nat.two_pow_pos j)) 2 17
      have b := significant_scale (n := q.natAbs) (d := 4) hN0 (by decide) j 17
      rw [← a, hnd, Nat.mul_comm (2 ^ j) (2 ^ 2)]
      exact b.trans (significant_quarter hN0 h.nat)
    have hm0 : (m == 0) = false := by simpa using hm
    have hmx : max 17 1 = 17 := rfl
    have hf := fmt_one hN0 h.nat
    rw [← of_eq] at hf
    obtain ⟨f1, f2⟩ := hf
    simp only [hm0, hmx, hsig, Bool.false_eq_true, if_false, show ('g' == 'e') = false from rfl, show ('g' == 'f') = false from rfl, show ('g' == 'g') = true from rfl, if_true, Bool.false_and, Bool.not_false, Bool.true_and]
    rw [f1]
    simp only [Bool.false_eq_true, if_false]
    rw [f2, Bool.and_true]
theorem numberField_q (neg : Bool) (body : List Char) : numberField q17 neg body =
    (let p := body.span Char.isDigit
     let sign : List Char := if neg then ['-'] else []
     let other : Int := sign.length + p.2.length
     let ds := if p.1.isEmpty then [] else zeros ((0 : Int).toNat - p.1.length) ++ p.1
     let pad := ((-1 : Int) - other - ds.length).toNat
     ⟨(List.replicate pad 32 ++ sign.map Char.toNat ++ List.replicate 0 32 ++ (ds ++ p.2).map Char.toNat ++ List.replicate 0 32).toArray⟩) := rfl
theorem spanLoop_app (p : Char → Bool) : ∀ (l acc : List Char), (List.span.loop p l acc).1 ++ (List.span.loop p l acc).2 = acc.reverse ++ l
  | [], acc => by simp [List.span.loop]
  | a :: l, acc => by
    unfold List.span.loop
    split
    · rw [spanLoop_app p l (a :: acc)]; simp
    · rfl
theorem span_app (p : Char → Bool) (l : List Char) : (l.span p).1 ++ (l.span p).2 = l := by
  simpa [List.span] using spanLoop_app p l []
theorem format_quarter {q : Int} (h : Qok q) : formatFloat (F4 q) q17 "float" = .ok ⟨(txt q).toArray⟩ := by
  have e : formatFloat (F4 q) q17 "float" = .ok (numberField q17 (Float64.text (F4 q) 'g' 17 false false false).1 (Float64.text (F4 q) 'g' 17 false false false).2) := rfl
  rw [e, text_quarter h, numberField_q]
  dsimp only
  congr 2
  have hb : (dc (q.natAbs / 4) ++ fracC (q.natAbs % 4)).map Char.toNat = dg (q.natAbs / 4) ++ frac (q.natAbs % 4) := by
    rw [List.map_append]
    congr 1
    match q.natAbs % 4 with
    | 0 => rfl
    | 1 => rfl
    | 2 => rfl
    | _ + 3 => rfl
  rw [txt_eq, ← hb]
  generalize dc (q.natAbs / 4) ++ fracC (q.natAbs % 4) = body at *
  have hs : (body.span Char.isDigit).1 ++ (body.span Char.isDigit).2 = body := span_app _ _
  generalize hp : body.span Char.isDigit = p at *
  obtain ⟨d, r⟩ := p
  dsimp only at hs ⊢
  subst hs
  have hz : ∀ n : Nat, zeros ((0 : Int).toNat - n) = [] := fun n => by
    have : (0 : Int).toNat - n = 0 := by simp
    rw [this]; rfl
  rw [hz]
  have hds : (if d.isEmpty = true then ([] : List Char) else [] ++ d) = d := by cases d <;> rfl
  rw [hds]
  have hpad : ∀ a b c : Nat, ((-1 : Int) - ((a : Int) + (b : Int)) - (c : Int)).toNat = 0 := fun a b c => by omega
  rw [hpad]
  simp only [List.replicate_zero, List.nil_append, List.append_nil]
  by_cases hq : q < 0
  · simp [hq]
  · simp [hq]
end Mine
end
section
open PySem PySem.W PyProof.Rows PySem.Calls
set_option maxRecDepth 100000
namespace Mine
/-- the claim's caller stands below -/
def callerIn (l : List (Code × Pos)) : Prop := (l.map (·.1)).any Code.isCaller = true
def hasC (Γ : Ctx) : Prop := (Γ.code :: Γ.below.map (·.1)).any Code.isCaller = true
theorem callerIn_cons {c : Code} {p : Pos} {l : List (Code × Pos)} (h : (c :: l.map (·.1)).any Code.isCaller = true) : callerIn ((c, p) :: l) := h
theorem hasC_of_below {Γ : Ctx} (h : callerIn Γ.below) : hasC Γ := by
  unfold hasC; rw [List.any_cons]; unfold callerIn at h; rw [h, Bool.or_true]

def wpC {α : Type} (M : Model) (A : Around) (t : Sem α) (Q : α → Shared → Prop) (E : Value → Shared → Prop) (s : Shared) : Prop :=
  ∀ Γ p, Γ.In A → hasC Γ → Sem.wp M Γ t (fun a _ s' => Q a s') (fun e _ s' => E e s') p s
def codeC (M : Model) (A : Around) (c : Code) (R : Result → Shared → Prop) (s : Shared) : Prop :=
  ∀ Γ p, Γ.code = c → Γ.Below A → callerIn Γ.below → wpCode M Γ R p s

section
variable {α β : Type} {M : Model} {A : Around} {E : Value → Shared → Prop} {s : Shared}
theorem wpC.any {t : Sem α} {Q : α → Shared → Prop} (h : wpAny M A t Q E s) : wpC M A t Q E s := fun Γ p hΓ _ => h Γ p hΓ
theorem codeC.any {c : Code} {R : Result → Shared → Prop} (h : codeAny M A c R s) : codeC M A c R s := fun Γ p hc hΓ _ => h Γ p hc hΓ
theorem wpC_pure {a : α} {Q : α → Shared → Prop} (h : Q a s) : wpC M A (pure a) Q E s := fun _ _ _ _ => h
theorem wpC_throw {e : Value} {Q : α → Shared → Prop} (h : E e s) : wpC M A (throw e : Sem α) Q E s := fun _ _ _ _ => h
theorem wpC_mono {t : Sem α} {Q Q' : α → Shared → Prop} {E' : Value → Shared → Prop} (h : wpC M A t Q E s)
    (hQ : ∀ a s, Q a s → Q' a s) (hE : ∀ e s, E e s → E' e s) : wpC M A t Q' E' s :=
  fun Γ p hΓ hc => Sem.wp_mono M Γ t (fun a _ s => hQ a s) (fun e _ s => hE e s) p s (h Γ p hΓ hc)
theorem wpC_bind {m : Sem α} {f : α → Sem β} {Q : β → Shared → Prop} (h : wpC M A m (fun a s' => wpC M A (f a) Q E s') E s) :
    wpC M A (m >>= f) Q E s := fun Γ p hΓ hc => by
  rw [Sem.wp_bind']
  exact Sem.wp_mono M Γ m (fun a p' s' h' => h' Γ p' hΓ hc) (fun _ _ _ h' => h') p s (h Γ p hΓ hc)
/-- a leaf first -/
theorem wpC_leaf {m : Sem α} {f : α → Sem β} {Q : β → Shared → Prop} (h : wpAny M A m (fun a s' => wpC M A (f a) Q E s') E s) :
    wpC M A (m >>= f) Q E s := wpC_bind (.any h)
theorem wpC_map {m : Sem α} {f : α → β} {Q : β → Shared → Prop} (h : wpC M A m (fun a s' => Q (f a) s') E s) :
    wpC M A (f <$> m) Q E s := fun Γ p hΓ hc => by rw [Sem.wp_map]; exact h Γ p hΓ hc
theorem wpC_tryCatch {m : Sem α} {k : Value → Sem α} {Q : α → Shared → Prop} (h : wpC M A m Q (fun e s' => wpC M A (k e) Q E s') s) :
    wpC M A (tryCatch m k) Q E s := fun Γ p hΓ hc => by
  rw [Sem.wp_tryCatch']
  exact Sem.wp_mono M Γ m (fun _ _ _ h' => h') (fun e p' s' h' => h' Γ p' hΓ hc) p s (h Γ p hΓ hc)
theorem wpC_onRaise {m : Sem α} {k : Value → Sem Unit} {Q : α → Shared → Prop}
    (h : wpC M A m Q (fun e s' => wpC M A (k e) (fun _ s'' => E e s'') E s') s) : wpC M A (m.onRaise k) Q E s := fun Γ p hΓ hc => by
  rw [Sem.wp_onRaise]
  exact Sem.wp_mono M Γ m (fun _ _ _ h' => h') (fun e p' s' h' => h' Γ p' hΓ hc) p s (h Γ p hΓ hc)
theorem wpC_attempt {m : Sem α} {Q : Except Value α → Shared → Prop} (h : wpC M A m (fun a => Q (.ok a)) (fun e => Q (.error e)) s) :
    wpC M A m.attempt Q E s := fun Γ p hΓ hc => by rw [Sem.wp_attempt]; exact h Γ p hΓ hc
theorem wpC_holding {vs : List Value} {m : Sem α} {Q : α → Shared → Prop} (h : wpC M A m Q E s) : wpC M A (holding vs m) Q E s :=
  fun Γ p hΓ hc => by rw [Sem.wp_holding]; exact h Γ p hΓ hc
theorem wpC_keep {vs : List Value} {m : Sem α} {Q : α → Shared → Prop} (h : wpC M A m Q E s) : wpC M A (m.keep vs) Q E s :=
  fun Γ p hΓ hc => by rw [Sem.wp_keep]; exact h Γ p hΓ hc
theorem wpC_of_in1 {t : Sem α} {Q : α → Shared → Prop} (h : wpC M A.in1 t Q E s) : wpC M A t Q E s :=
  fun Γ p hΓ hc => h Γ p ⟨hΓ.1, hΓ.2.1, hΓ.2.2.1, hΓ.2.2.2.1, Nat.le_succ_of_le hΓ.2.2.2.2⟩ hc
theorem codeC_of_in1 {c : Code} {R : Result → Shared → Prop} (h : codeC M A.in1 c R s) : codeC M A c R s :=
  fun Γ p hc hΓ hq => h Γ p hc ⟨hΓ.1, hΓ.2.1, hΓ.2.2.1, hΓ.2.2.2.1, Nat.le_succ_of_le hΓ.2.2.2.2⟩ hq
theorem codeC_mono {c : Code} {R R' : Result → Shared → Prop} (h : codeC M A c R s) (hR : ∀ r s, R r s → R' r s) : codeC M A c R' s :=
  fun Γ p hc hΓ hq => wpCode_mono hR (h Γ p hc hΓ hq)
theorem wpC_run {c : Code} {h : Option Value} {Q : Flow → Shared → Prop}
    (hc : codeC M (A.mark h) c (fun r s' => match r with | .ok f => Q f s' | .error e => E e s') s) (hnb : h ≠ some byPass := by intro x; cases x) :
    wpC M A (run c h) Q E s :=
  fun Γ p hΓ hq => by rw [Sem.wp_run]; exact hc _ p rfl (hΓ.enter c h p hnb) (callerIn_cons hq)
theorem wpC_runValue {c : Code} {Q : Value → Shared → Prop}
    (hc : codeC M A c (fun r s' => match r with | .ok (.ret v) => Q v s' | .ok _ => False | .error e => E e s') s) :
    wpC M A (runValue c) Q E s := fun Γ p hΓ hq => by rw [Sem.wp_runValue]; exact hc _ p rfl (hΓ.enter c none p (by intro x; cases x)) (callerIn_cons hq)
theorem wpC_call {f : Value} {pos : List Value} {kw : List (Str × Value)} {Q : Value → Shared → Prop}
    (hc : codeC M A (.call f ⟨pos, kw⟩) (fun r s' => match r with | .ok (.ret v) => Q v s' | .ok _ => False | .error e => E e s') s) :
    wpC M A (call f pos kw) Q E s := wpC_runValue hc
theorem codeC_of_tree {c : Code} {R : Result → Shared → Prop}
    (h : wpC M (A.under c) (M.den c) (fun fin s' => match fin with | .done f => R (.ok f) s' | .again c' => c'.quiet = true ∧ codeC M A c' R s')
      (fun e s' => R (.error e) s') s) : codeC M A c R s := fun Γ p hc hΓ hq => by
  rw [wpCode_iff_wp, hc]
  refine Sem.wp_mono M Γ _ (fun fin p' s' h' => ?_) (fun _ _ _ h' => h') p s (h Γ p (hc ▸ hΓ.in) (hasC_of_below hq))
  cases fin with
  | done f => exact h'
  | again c' => exact ⟨h'.1, h'.2 (Γ.goto c') p' rfl (hΓ.goto c') hq⟩
theorem codeC_loop {c : Code} {R : Result → Shared → Prop} (hq : c.quiet = true) (I : Nat → Shared → Prop)
    (turn : ∀ n s, I n s → wpC M (A.under c) (M.den c)
      (fun fin s' => match fin with | .done f => R (.ok f) s' | .again c' => c' = c ∧ ∃ m, m < n ∧ I m s') (fun e s' => R (.error e) s') s)
    (n : Nat) (h : I n s) : codeC M A c R s := by
  induction n using Nat.strongRecOn generalizing s with
  | ind n ih =>
    refine codeC_of_tree (wpC_mono (turn n s h) (fun fin s' hf => ?_) fun _ _ h' => h')
    cases fin with
    | done f => exact hf
    | again c' => obtain ⟨rfl, m, hm, hI⟩ := hf; exact ⟨hq, ih m hm hI⟩
theorem wpC_ite {c : Prop} [Decidable c] {a b : Sem α} {Q : α → Shared → Prop} (h : if c then wpC M A a Q E s else wpC M A b Q E s) :
    wpC M A (if c then a else b) Q E s := by split <;> simp_all
end
section
variable {prog : Program} {w : World} {A : Around} {s : Shared} {R : Result → Shared → Prop}
theorem codeC_func {body env}
    (h : wpC (model prog w) (A.deeper env) (execs body env) (fun f s' => R (.ok (.ret (match f with | .ret v => v | _ => .none))) s')
      (fun e s' => wpAny (model prog w) (A.deeper env) (leaving env e) (fun _ s'' => R (.error e) s'') (fun e' s'' => R (.error e') s'') s') s) :
    codeC (model prog w) A (.func body env) R s := by
  refine codeC_of_tree ?_
  show wpC _ (A.deeper env) (do point; match ← (execs body env).onRaise (leaving env) with | .ret v => ret v | _ => ret .none) _ _ s
  refine wpC_leaf (wpAny_point (wpC_bind (wpC_onRaise (wpC_mono h (fun f s' h' => ?_) fun _ _ h' => .any h'))))
  cases f <;> exact wpC_pure h'
theorem codeC_call_function {a : Addr} {args : Args} {o : Obj} {fd : FuncData} {body : List Stmt} (hroom : A.depth < recursionLimit)
    (ho : s.heap.get? a = some o)
    (hd' : o.data = .func fd) (hco : fd.scope.isCoroutine = false) (hgen : fd.scope.isGenerator = false) (hbody : fd.body = .stmts body) (hcd : s.heap.CodeRec fd.code fd.qualname)
    (h : wpAny (model prog w) A.in1 (bindArgs fd args) (fun binds s₁ =>
      wpAny (model prog w) A.in1 (newFunctionEnv fd.scope fd.globals fd.closure binds (fd.qualname ++ ".<locals>.") (some a) fd.code none fd.builtins)
        (fun env s₂ => s₂.heap.NoLimit ∧ codeC (model prog w) A (.func body env) R s₂) (fun e s' => R (.error e) s') s₁) (fun e s' => R (.error e) s') s) :
    codeC (model prog w) A (.call (.ref a) args) R s := by
  refine codeC_of_tree (.any ?_)
  show wpAny _ A.in1 (callAny (.ref a) args) _ _ s
  simp only [callAny]
  refine wpAny_bind (wpAny_load ho ?_)
  obtain ⟨c, oc, vs, tq, hc, hoc, hdc, hq⟩ := hcd
  simp only [hd', callFunction, hco, hgen, hbody, hc]
  rw [hc] at h
  refine wpAny_bind (m := field (.ref c) 1) (wpAny_field hoc hdc hq (wpAny_bind (wpAny_pure ?_)))
  exact wpAny_bind (wpAny_mono h (fun binds s₁ h₁ => wpAny_bind (wpAny_mono h₁ (fun env s₂ h₂ => wpAny_bind (wpAny_enterFrame h₂.1 hroom
    (wpAny_pure (And.intro rfl h₂.2)))) fun _ _ h' => h')) fun _ _ h' => h')
theorem codeC_call_builtin_at {id : String} {args : Args} {b : Builtin} (hq : (Code.builtin id args).quiet = true) (hb : entryFor table id = some b)
    (h : wpAny (model prog w) A.in1 (checkBuiltinCall id args) (fun _ s₁ => wpC (model prog w) (A.under (.builtin id args)) (b args)
      (fun fin s' => match fin with | .done f => R (.ok f) s' | .again c' => c'.quiet = true ∧ codeC (model prog w) A c' R s') (fun e s' => R (.error e) s') s₁)
      (fun e s' => R (.error e) s') s) : codeC (model prog w) A (.call (.builtin id) args) R s := by
  refine codeC_of_tree (.any ?_)
  show wpAny _ A.in1 (do checkBuiltinCall id args; again (.builtin id args)) _ _ s
  refine wpAny_bind (wpAny_mono h (fun _ s₁ h₁ => wpAny_pure (And.intro hq (codeC_of_tree ?_))) fun _ _ h' => h')
  show wpC _ _ (match entryFor table id with | some b => b args | none => unsupported ((withoutEnding? id "#data").getD id)) _ _ s₁
  rw [hb]; exact h₁
theorem codeC_call_builtin {id : String} {args : Args} {b : Builtin} (hq : plainId id = true) (hb : entryFor table id = some b)
    (h : wpAny (model prog w) A.in1 (checkBuiltinCall id args) (fun _ s₁ => wpC (model prog w) A.in1 (b args)
      (fun fin s' => match fin with | .done f => R (.ok f) s' | .again c' => c'.quiet = true ∧ codeC (model prog w) A c' R s') (fun e s' => R (.error e) s') s₁)
      (fun e s' => R (.error e) s') s) : codeC (model prog w) A (.call (.builtin id) args) R s :=
  codeC_call_builtin_at (plainId_quiet hq args) hb (by rw [Around.under_plainId hq args]; exact h)
theorem codeC_builtin {id : String} {args : Args} {b : Builtin} (hb : entryFor table id = some b)
    (h : wpC (model prog w) (A.under (.builtin id args)) (b args)
      (fun fin s' => match fin with | .done f => R (.ok f) s' | .again c' => c'.quiet = true ∧ codeC (model prog w) A c' R s') (fun e s' => R (.error e) s') s) :
    codeC (model prog w) A (.builtin id args) R s := by
  refine codeC_of_tree ?_
  show wpC _ _ (match entryFor table id with | some b => b args | none => unsupported ((withoutEnding? id "#data").getD id)) _ _ s
  rw [hb]; exact h
end
/-- the refusal's mark is not set where the claim's caller stands below -/
theorem wpC_markTheRefusal {M : Model} {A : Around} {E : Value → Shared → Prop} {s : Shared} {own : List String} {e : Value} {Q : Unit → Shared → Prop} (h : Q () s) : wpC M A (markTheRefusal own e) Q E s := fun Γ p _ hc => by
  unfold markTheRefusal
  simp only [Sem.wp_bind']
  show Sem.wp M Γ (.stack .pure) _ _ p s
  rw [Sem.wp_stack]
  rw [Sem.wp_pure]
  have e1 : pythonCodeMadeTheCall own (((Γ.code, p) :: Γ.below).map (·.1)) = false := by
    unfold pythonCodeMadeTheCall
    show ((!((Γ.code :: Γ.below.map (·.1)).any Code.isCaller) && _) && _) = false
    unfold hasC at hc
    rw [hc]
    rfl
  rw [e1]
  exact h
end Mine
end
section
open PySem PySem.W PyProof.Rows PySem.Calls
set_option maxRecDepth 100000
namespace Mine
theorem hasC_base : hasC ⟨.builtin "claim.caller" {}, none, none, [], none⟩ := by unfold hasC; rfl
/-- a thread ends, where its tree is shown under the caller alone -/
theorem endsC {prog : Program} {w : World} {t : Sem Fin} {s : Shared} {R : Result → Shared → Prop} (hreg : s.asleep)
    (h : wpC (model prog w) callerA t (fun fin s' => ∃ f, fin = .done f ∧ (R (.ok f) s' ∧ leftWithCleanup s'.gens = false)) (fun e s' => R (.error e) s' ∧ leftWithCleanup s'.gens = false) s) :
    ∃ n r s' s'', runN (denote table) prog w n s ⟨t, .builtin "claim.caller" {}, default, []⟩ = .halted (outcomeOf r) s' ∧
      schedN (denote table) prog w n (.single s ⟨t, .builtin "claim.caller" {}, default, []⟩) = .halted (outcomeOf r) s' ∧ s'.forget = s''.forget ∧ R r s'' := by
  obtain ⟨n, r, s₁, s₂, hs, hn, hfo, hR⟩ := wp_halts_full (M := model prog w) (R := R) hreg (by
    refine Sem.wp_mono _ _ t (fun fin p' s' h' => ?_) (fun _ _ _ h' => h') default s (h _ default caller_in hasC_base)
    obtain ⟨f, rfl, hf⟩ := h'
    exact hf)
  exact ⟨n, r, s₂, s₁, hn, hs, hfo, hR⟩

theorem callFromC {c : ClaimW} {tree : List Value → Sem Fin} {w : World} {s : Shared} {free : Addr → Prop} {gens : Prop} {kept : Heap → Prop} (hz : s.asleep) (hgens : s.gens = #[])
    (hspec : ∀ args, c.pre args = true → WData.layableAll args = true →
      ∀ ord : List DictEntry → List DictEntry, (∀ l, (ord l).Perm l) →
      ∃ vs s₁, layAllW c.records (classAt s.heap) w.params ord args s = some (vs, s₁) ∧
        wpC (model c.prog w) callerA (tree vs) (fun fin s' => ∃ f, fin = .done f ∧ (c.Ends s args vs s₁ (.ok f) s' ∧ s'.os = s.os ∧ AllBare s'.gens ∧ kept s'.heap))
          (fun e s' => c.Ends s args vs s₁ (.error e) s' ∧ s'.os = s.os ∧ AllBare s'.gens ∧ kept s'.heap) s₁) :
    c.CallFrom (fun vs => ⟨tree vs, .builtin "claim.caller" {}, default, []⟩) w free gens kept s := by
  intro args hpre hlay ord hord
  obtain ⟨vs, s₁, hlaid, hcode⟩ := hspec args hpre hlay ord hord
  have hal := layAllW_rest _ _ _ hlaid
  obtain ⟨k, r, s', s'', hrun, hsched, hfo, hcase, hos, hkp⟩ := endsC (prog := c.prog) (w := w) (t := tree vs) (s := s₁)
    (R := fun r s' => c.Ends s args vs s₁ r s' ∧ s'.os = s.os ∧ kept s'.heap)
    (Shared.asleep_of_life hal.2.2.2 hz)
    (wpC_mono hcode (by
      rintro fin s' ⟨f, e, h1, h2, h3, h4⟩
      exact ⟨f, e, ⟨h1, h2, h4⟩, leftWithCleanup_false_of_bare h3⟩) (by
      rintro e s' ⟨h1, h2, h3, h4⟩
      exact ⟨⟨h1, h2, h4⟩, leftWithCleanup_false_of_bare h3⟩))
  obtain ⟨eh, _, _, eo, _⟩ := Shared.forget_eq hfo
  have hcase := hcase.congr eh
  have hkp : kept s'.heap := by rw [eh]; exact hkp
  rw [← eo] at hos
  have hlife : s'.heap.life = s.heap.life := (runN_life _ _ _ hrun).trans hal.2.2.2
  refine ⟨vs, s₁, hlaid, k, _, s', hsched, ?_, (fun _ i x hx => by rw [hgens] at hx; simp at hx), hkp, by rw [hlife], Shared.rest_eq hos⟩
  rcases hcase with ⟨v, rfl, d1, d2, d3, d4, d5⟩ | ⟨e, ob, cls, rfl, d1, d2, d3, d4, d5⟩
  · exact .inl ⟨v, rfl, d1, d2, d3, fun b o y _ => d4 b o y, d5⟩
  · exact .inr ⟨e, ob, cls, rfl, d1, d2, d3, d4, fun b o y _ => d5 b o y⟩

/-- the walk that is owed, under the caller -/
abbrev WalkC (q : Program) (loose : List Str) (XP : (Str → Option Value) → Heap → Prop) (YP : World → Heap → Prop) (r : RowW) (d : DefRec) (kwd : List (Str × Expr)) : Prop :=
  ∀ (w : World) (s₀ s₁ : Shared) (mg mb : Str → Option Value), Ground q loose r.records XP w s₀ mg mb s₁.heap → YP w s₁.heap → ∀ (a : Addr) (o : Obj) (pm cd doc dV kV : Value), s₁.heap.get? a = some o →
    o.data = .func { docDef d.name d.params d.body d.scope pm cd doc with defaults := dV, kwdefaults := kV } → s₁.heap.CodeRec cd d.name → Dflts mg s₁.heap d.params kwd dV kV → mg d.name = some (.ref a) → s₁.gens = #[] →
    ∀ (args : List WData) (vals : List Value) (as : List Addr), r.claim.pre args = true → WData.layableAll args = true → ReadsAllW r.records (classAt s₀.heap) s₁.heap vals args as → WellAll w.params s₁.heap vals args → (∀ a ∈ as, (a == sysModules) = false) →
      wpC (model r.prog w) callerA (PySem.call (.ref a) vals) (fun v s' => GoodWG r.claim (classAt s₀.heap) (ExcName.means s₀.heap) args s₁ (.ok (.ret v)) s')
        (fun e s' => GoodWG r.claim (classAt s₀.heap) (ExcName.means s₀.heap) args s₁ (.error e) s') s₁

theorem PySem.W.holds_open {r : OpenRow} {q : Program} {loose : List Str} {Xt : Shared → Bool} {XP : (Str → Option Value) → Heap → Prop} {α : Type} {Yf : Shared → α} {Ya : World → α} {YP : World → Heap → Prop} {d : DefRec} {kwd : List (Str × Expr)} {N : Nat}
    (left : LeftO r.prog q loose Xt Yf Ya N) (hY : ∀ w s, Yf s = Ya w → YP w s.heap) (hYk : ∀ w h h', YP w h → (∀ b o, h.get? b = some o → h'.get? b = some o) → YP w h')
    (hX : ∀ s, Xt s = true → XP (s.heap.nsMap mainGlobals) s.heap) (hXk : ∀ mg h h', XP mg h → (∀ b o, h.get? b = some o → h'.get? b = some o) → XP mg h')
    (hdef : defOf q r.name = some (d, kwd)) (hp : r.prog.theDef r.name = some (d.params, d.body, d.scope)) (hk : kwWritten? d.params.kwonlyargs d.params.kw_defaults = some kwd) (hRf : ∀ s, Xt s = true → RecFacts r.records s.heap) (hwr : (!r.writes || r.records.isEmpty) = true)
    (k1 : r.wellSaid = true) (ok : (chainsOk q && opensWell r.prog && (frees r.toRowW && r.within.isEmpty)) = true) (hb : r.prog.bare) (hw : r.toRowW.promised)
    (call : WalkC q loose XP YP r.toRowW d kwd) : r.Holds := by
  refine ⟨k1, hw, ?_⟩
  obtain ⟨ok, k5⟩ := Bool.and_eq_true_iff.mp ok
  obtain ⟨hch, o1⟩ := Bool.and_eq_true_iff.mp ok
  obtain ⟨k5, k6⟩ := Bool.and_eq_true_iff.mp k5
  obtain ⟨hsame, hu, ha, hap, hm⟩ := frees_parts k5
  refine ⟨⟨hb, o1, by show r.toRowW.makers.map _ = []; rw [hm]; rfl⟩, hw.witness, fun w => ⟨(left.behind hX hch w).1, fun s' hs' => ?_⟩⟩
  obtain ⟨s₀, hf, hg0, s, hT, hz, hgens, hg, G00, y⟩ := (left.behind (XP := fun mg h => XP mg h ∧ RecFacts r.records h) (fun s hs => ⟨hX s hs, hRf s hs⟩) hch w).2 s' hs'
  have G0 : Ground q loose [] XP w s (s.heap.nsMap mainGlobals) (s.heap.nsMap builtinsNs) s.heap := ⟨G00.T, G00.B, G00.D, G00.TE, G00.TD, G00.W, G00.X.1, G00.cls, G00.has, G00.apart, G00.once, G00.K⟩
  have RF := G00.X.2
  refine ⟨s₀, hf, hg0, s, hT, fun n hn => ?_, RF.1, RF.2.1, ?_⟩
  · obtain rfl : n = r.name := by split at hn <;> simp_all
    exact pinned_of_view hg G0 hdef hp hk
  have hgens : s.gens = #[] := Array.eq_empty_of_size_eq_zero (beq_iff_eq.mp hgens)
  have G : Ground q loose r.records XP w s _ _ s.heap := RF.ground G0
  refine callFromC (c := r.toRowW.claim) hz hgens fun args hpre hlay ord hord => ?_
  obtain ⟨⟨vs, s₁⟩, hlaid⟩ := Option.isSome_iff_exists.mp (layAllW_isSome (P := w.params) (ord := ord) G.has args r.toRowW.args s (pre_splitW hpre).1)
  have keeps := layAllW_keeps _ _ _ hlaid
  have hal := layAllW_rest _ _ _ hlaid
  obtain ⟨as, hrd, hin, hold⟩ := reads_layAllW hord _ _ _ hlaid hlay s₁.heap (fun _ _ e => e)
  have L : Laid r.toRowW.records w s s₁ args vs as := ⟨⟨ord, hord, hlaid⟩, hrd, hin, hold, keeps, hal.1.trans hgens, hal.2.2.1⟩
  have G₁ := G.keeps hXk keeps
  obtain ⟨a, o, pm, cd, doc, dV, kV, h1, h2, h3, h4, h5⟩ := G₁.fn hdef
  have h := call w s s₁ _ _ G₁ (hYk _ _ _ (hY w s y) keeps) a o pm cd doc dV kV h2 h3 h4 h5 (defOf_name hdef ▸ h1) L.gens args vs as hpre hlay L.reads L.well (L.low G.low)
  have hi := ident_freeW hu ha hap
  have hwi : r.toRowW.claim.within = [] := List.isEmpty_iff.mp k6
  refine ⟨vs, s₁, hlaid, wpC_leaf (wpAny_nsGet G₁.T.g ?_)⟩
  rw [h1]
  exact wpC_bind (wpC_mono h (fun v s' g => wpC_pure ⟨_, rfl, have z := g.laid (c := r.toRowW.claim) hsame hwi hi L; ⟨z.1, z.2.1, z.2.2, fun q => ⟨namesKept_of hT hg _ keeps g.2.1.old, noTable hwr q⟩⟩⟩)
    fun e s' g => have z := g.laid (c := r.toRowW.claim) hsame hwi hi L; ⟨z.1, z.2.1, z.2.2, fun q => ⟨namesKept_of hT hg _ keeps g.2.1.old, noTable hwr q⟩⟩)
end Mine
end
section
open PySem PySem.W PyProof.Rows
namespace Mine
set_option maxRecDepth 100000 in
set_option maxHeartbeats 8000000 in
open_top hd for PySem.Challenge.rw_fr0008_01
end Mine
end
section
open PySem PySem.W PyProof.Rows PySem.Calls PySem.Flt
set_option maxRecDepth 100000
namespace Mine
def Wt (q : Int) : Array UInt8 := ((txt q).map UInt8.ofNat).toArray
theorem Wt_nat (q : Int) : (Wt q).toList.map (·.toNat) = txt q := by
  unfold Wt
  rw [List.map_map]
  conv => rhs; rw [← List.map_id (txt q)]
  refine List.map_congr_left fun c hc => ?_
  have := txt_mem (q := q) c hc
  show (UInt8.ofNat c).toNat = c
  rw [UInt8.toNat_ofNat']
  omega
theorem Wt_char (q : Int) : (Wt q).toList.map (fun c => Char.ofNat c.toNat) = txtC q := by
  rw [← txt_back, ← Wt_nat, List.map_map]
  rfl
theorem Wt_size {q : Int} (h : Qok q) : (Wt q).size ≤ 7 := by
  unfold Wt; rw [List.size_toArray, List.length_map]; exact txt_len h

theorem bytes_float : typeLookup (.type "bytes") (Str.ofString "__float__") = pure none := by rw [typeLookup_type, builtinLookup_eq_fast]; kernel_rfl
theorem bytes_index : typeLookup (.type "bytes") (Str.ofString "__index__") = pure none := by rw [typeLookup_type, builtinLookup_eq_fast]; kernel_rfl
theorem bytes_int : typeLookup (.type "bytes") (Str.ofString "__int__") = pure none := by rw [typeLookup_type, builtinLookup_eq_fast]; kernel_rfl
theorem bytes_trunc : typeLookup (.type "bytes") (Str.ofString "__trunc__") = pure none := by rw [typeLookup_type, builtinLookup_eq_fast]; kernel_rfl

theorem meets_float_bytes {q : Int} (hq : Qok q) (u : Tok) : Meets (Builtin.«float.__new__» ⟨[.type "float", .bytes (Wt q) u], []⟩) (Made.float (F4 q)).spec :=
  meets_float_new_of _ fun prog w A R s hs => by
    show wpAny _ _ (callSpecial? (.bytes (Wt q) u) (Str.ofString "__float__") >>= _) _ _ s
    refine wpAny_bind (wpAny_callSpecial?_none (T := "bytes") rfl bytes_float ?_)
    show wpAny _ _ (specialOf (.bytes (Wt q) u) (Str.ofString "__index__") >>= _) _ _ s
    refine wpAny_bind (wpAny_specialOf (T := "bytes") rfl bytes_index ?_)
    show wpAny _ _ (fromText (.bytes (Wt q) u) ((Wt q).toList.map fun c => Char.ofNat c.toNat)) _ _ s
    rw [fromText_eq, Wt_char, parse_txt hq]
    exact fun _ _ _ => hs
section
variable {prog : Program} {w : World} {A : Around} {E : Value → Shared → Prop} {s : Shared} {Q : Value → Shared → Prop}
theorem call_float_bytes {q : Int} (hq : Qok q) {u : Tok} (h : Q (.float (F4 q) s.toks) { s with toks := s.toks + 1 }) : wpAny (model prog w) A (call (.type "float") [.bytes (Wt q) u]) Q E s :=
  call_float_1 (meets_float_bytes hq u) (show (Made.float (F4 q)).post _ s from ⟨rfl, h⟩)
end
end Mine
end
section
open PySem PySem.W PyProof.Rows PySem.Calls
set_option maxRecDepth 100000
namespace Mine
theorem runs_toks {M : Model} {Γ : Ctx} {p : Pos} {t : Sem Fin} {fs : List Frame} {s s' : Shared} {e : End} (h : Runs M Γ p t fs s e s') : s.toks ≤ s'.toks := by
  induction h <;> (try dsimp only [Shared.setGen] at *) <;> first
    | exact Nat.le_refl _
    | assumption
    | (apply Nat.le_trans <;> assumption)
    | (refine Nat.le_trans (Nat.le_succ _) ?_; assumption)
    | omega

theorem wakes_toks {M : Model} {Γ : Ctx} {p : Pos} {g : Nat} {r : Resume} {s s' : Shared} {res : GenResult} (h : Wakes M Γ p g r s res s') : s.toks ≤ s'.toks := by
  unfold Wakes at h
  split at h
  · exact h.elim
  · split at h
    · obtain ⟨e₁, s₁, hr, _, _, rfl⟩ := h; have := runs_toks hr; exact this
    · obtain ⟨_, rfl⟩ := h; exact Nat.le_refl _
    · obtain ⟨_, rfl⟩ := h; exact Nat.le_refl _
  · obtain ⟨e₁, s₁, hr, _, _, rfl⟩ := h; have := runs_toks hr; exact this
  all_goals (obtain ⟨_, rfl⟩ := h; exact Nat.le_refl _)

theorem wp_toks {α : Type} {M : Model} {Γ : Ctx} {n : Nat} (t : Sem α) {Q : α → Pos → Shared → Prop} {E : Value → Pos → Shared → Prop} {p : Pos} {s : Shared} (hn : n ≤ s.toks)
    (h : Sem.wp M Γ t (fun a p' s' => n ≤ s'.toks → Q a p' s') (fun e p' s' => n ≤ s'.toks → E e p' s') p s) : Sem.wp M Γ t Q E p s := by
  induction t generalizing p s with
  | pure a => exact h hn
  | raise e => exact h hn
  | unsupported _ => exact h
  | finish _ => exact h
  | rule _ k ih => exact ih _ hn h
  | «at» _ k ih => exact ih _ hn h
  | load a _ k ih => obtain ⟨o, e, h⟩ := h; exact ⟨o, e, ih _ hn h⟩
  | update a _ f k ih => exact ⟨h.1, ih _ hn h.2⟩
  | loadIfAlive a k ih => exact ih _ hn h
  | point _ k ih => exact ih _ hn h
  | register _ _ ih => exact h
  | alloc o k ih => exact ih _ hn h
  | fresh k ih => exact ih _ (Nat.le_succ_of_le hn) h
  | ask k ih => exact ih _ hn h
  | choose src n k ih => exact ⟨h.1, ih _ hn h.2⟩
  | os q _ k ih => exact ih _ hn h
  | call c hh g l k ih => obtain ⟨r, s', hr, h⟩ := h; exact ⟨r, s', hr, ih _ (Nat.le_trans hn (runs_toks hr)) h⟩
  | handled own k ih => exact ih _ hn h
  | genState g k ih => obtain ⟨st, e, h⟩ := h; exact ⟨st, e, ih _ hn h⟩
  | newGen c k ih => exact ih _ hn h
  | resume g r l k ih => obtain ⟨res, s', hr, h⟩ := h; exact ⟨res, s', hr, ih _ (Nat.le_trans hn (wakes_toks hr)) h⟩
  | «yield» => exact h
  | stack k ih => exact ih _ hn h
  | fork => exact h
  | thread k ih => exact ih _ hn h
  | await => exact h

section
variable {α : Type} {M : Model} {A : Around} {t : Sem α} {Q : α → Shared → Prop} {E : Value → Shared → Prop} {s : Shared} {n : Nat}
theorem wpAny_tk (hn : n ≤ s.toks) (h : wpAny M A t (fun a s' => n ≤ s'.toks → Q a s') (fun e s' => n ≤ s'.toks → E e s') s) : wpAny M A t Q E s := fun Γ p hΓ => wp_toks t hn (h Γ p hΓ)
theorem wpC_tk (hn : n ≤ s.toks) (h : wpC M A t (fun a s' => n ≤ s'.toks → Q a s') (fun e s' => n ≤ s'.toks → E e s') s) : wpC M A t Q E s := fun Γ p hΓ hc => wp_toks t hn (h Γ p hΓ hc)
end
end Mine
end
section
open PySem PySem.W PyProof.Rows PySem.Calls PySem.SeqAt
set_option maxRecDepth 100000
namespace Mine
/-- data -/
inductive T where
  | none
  | int (i : Int)
  | flt (f : UInt64)
  | by (b : Array UInt8)
  | tup (ts : List T)
  | lst (ts : List T)
mutual
inductive Rep (led : List (Addr × Obj)) : Value → T → Prop
  | none : Rep led Value.none T.none
  | int (i : Int) (t : Tok) : Rep led (Value.int i t) (T.int i)
  | flt (f : UInt64) (t : Tok) : t ≠ 0 → Float64.cmp f f = some .eq → Rep led (Value.float f t) (T.flt f)
  | by (b : Array UInt8) (t : Tok) : Rep led (Value.bytes b t) (T.by b)
  | tup {a : Addr} {o : Obj} {vs : List Value} {n : Nat} {ts : List T} : (a, o) ∈ led → o.cls = .type "tuple" → o.data = .seq vs.toArray n → Reps led vs ts → Rep led (Value.ref a) (T.tup ts)
  | lst {a : Addr} {o : Obj} {vs : List Value} {n : Nat} {ts : List T} : (a, o) ∈ led → o.cls = .type "list" → o.data = .seq vs.toArray n → Reps led vs ts → Rep led (Value.ref a) (T.lst ts)
inductive Reps (led : List (Addr × Obj)) : List Value → List T → Prop
  | nil : Reps led [] []
  | cons {v : Value} {vs : List Value} {t : T} {ts : List T} : Rep led v t → Reps led vs ts → Reps led (v :: vs) (t :: ts)
end
mutual
theorem Rep.mono {led led' : List (Addr × Obj)} (hs : ∀ p ∈ led, p ∈ led') : ∀ {v : Value} {t : T}, Rep led v t → Rep led' v t
  | _, _, .none => .none
  | _, _, .int i t => .int i t
  | _, _, .flt f t z h => .flt f t z h
  | _, _, .by b t => .by b t
  | _, _, .tup h c d r => .tup (hs _ h) c d (Reps.mono hs r)
  | _, _, .lst h c d r => .lst (hs _ h) c d (Reps.mono hs r)
theorem Reps.mono {led led' : List (Addr × Obj)} (hs : ∀ p ∈ led, p ∈ led') : ∀ {vs : List Value} {ts : List T}, Reps led vs ts → Reps led' vs ts
  | _, _, .nil => .nil
  | _, _, .cons h r => .cons (Rep.mono hs h) (Reps.mono hs r)
end
theorem Reps.length {led : List (Addr × Obj)} : ∀ {vs : List Value} {ts : List T}, Reps led vs ts → vs.length = ts.length
  | _, _, .nil => rfl
  | _, _, .cons _ r => by rw [List.length_cons, List.length_cons, Reps.length r]
theorem Reps.get {led : List (Addr × Obj)} : ∀ {vs : List Value} {ts : List T}, Reps led vs ts → ∀ j (h : j < vs.length) (h' : j < ts.length), Rep led vs[j] ts[j]
  | _, _, .cons h _, 0, _, _ => h
  | _, _, .cons _ r, j + 1, h, h' => Reps.get r j (Nat.lt_of_succ_lt_succ h) (Nat.lt_of_succ_lt_succ h')
theorem Reps.append {led : List (Addr × Obj)} : ∀ {vs : List Value} {ts : List T} {us : List Value} {rs : List T}, Reps led vs ts → Reps led us rs → Reps led (vs ++ us) (ts ++ rs)
  | _, _, _, _, .nil, r => r
  | _, _, _, _, .cons h q, r => .cons h (Reps.append q r)

theorem wpAny_isSame_flt {M : Model} {A : Around} {E : Value → Shared → Prop} {s : Shared} {y z : UInt64} {u v : Tok} {Q : Bool → Shared → Prop}
    (h0 : (u == 0 || v == 0) = false) (hb : NoneBooked s.heap) (hq : ∀ b, Q b s) : wpAny M A (isSame (.float y u) (.float z v)) Q E s := by
  show wpAny M A (isSame.created (y == z && !Float64.isNaN y) u v) Q E s
  unfold isSame.created
  refine wpAny_ite ?_
  split
  · rename_i h; rw [h0] at h; exact absurd h Bool.false_ne_true
  refine wpAny_ite ?_
  split
  · exact wpAny_pure (hq _)
  refine wpAny_ite ?_
  split
  · exact wpAny_pure (hq _)
  refine wpAny_bind (wpAny_sharingNotTold_none hb ?_)
  first | rw [if_neg Bool.false_ne_true] | simp only [Bool.false_eq_true, if_false]
  refine wpAny_bind (wpAny_sharingNotTold_none hb ?_)
  first | rw [if_neg Bool.false_ne_true] | simp only [Bool.false_eq_true, if_false]
  exact wpAny_bind (wpAny_rule (wpAny_bind (wpAny_askSetting (wpAny_pure (hq _)))))
theorem eqAt_flt {A : Around} {s : Shared} {f : UInt64} {t u : Tok} (hb : NoneBooked s.heap) (ht : t ≠ 0) (hu : u ≠ 0) (hf : Float64.cmp f f = some .eq) : EqAt A s (.float f t) (.float f u) true := fun prog w E Q h => by
  unfold eqBool
  refine wpAny_holding ?_
  refine wpAny_ite_split (fun _ => wpAny_bind (wpAny_rule (wpAny_pure h))) (fun _ => ?_)
  refine wpAny_bind (wpAny_isSame_flt (by simp [ht, hu]) hb fun b => ?_)
  refine wpAny_ite_split (fun _ => wpAny_pure h) fun _ => ?_
  refine wpAny_bind (richCompare_gives (op := .Eq) (AutoFloatOps.typeIs_float s f t) (AutoFloatOps.typeIs_float s f u) F.slot_float_eq F.entry_float_eq (F.args_float_eq_2 _ _) (AutoFloatG5.float___eq___float_float_0 f t f u) (fun x => nomatch x) ?_)
  rw [hf]
  exact wpAny_truthy_bool h
theorem eqAt_by {A : Around} {s : Shared} {b : Array UInt8} {t u : Tok} : EqAt A s (.bytes b t) (.bytes b u) true := fun prog w E Q h => by
  unfold eqBool
  refine wpAny_holding ?_
  refine wpAny_ite_split (fun _ => wpAny_bind (wpAny_rule (wpAny_pure h))) (fun _ => ?_)
  refine wpAny_bind (richCompare_gives (op := .Eq) (T := "bytes") rfl rfl FB.slot_bytes_eq FB.entry_bytes_eq (FB.args_bytes_eq_2 _ _) (gives_bytes_eq b b t u) (fun x => nomatch x) (wpAny_truthy_bool ?_))
  rw [show (b.toList == b.toList) = true from beq_self_eq_true _]; exact h

mutual
def T.deep : T → Nat
  | .tup ts => T.deeps ts + 1
  | .lst ts => T.deeps ts + 1
  | _ => 0
def T.deeps : List T → Nat
  | [] => 0
  | t :: ts => max t.deep (T.deeps ts)
end

mutual
theorem eqAt_rep {led : List (Addr × Obj)} : ∀ (t : T) (A : Around) (s : Shared) (_ : NoneBooked s.heap) (_ : ∀ p ∈ led, s.heap.get? p.1 = some p.2) (v v' : Value), Rep led v t → Rep led v' t → A.units + t.deep < cLine → EqAt A s v v' true
  | .none, _, _, _, _, _, _, r, r', _ => by cases r; cases r'; exact EqAt.same _
  | .int i, A, s, _, _, _, _, r, r', _ => by
    cases r with | int _ t => cases r' with | int _ u => have := EqAt.int_int (A := A) (s := s) i t i u; rwa [beq_self_eq_true] at this
  | .flt f, _, _, hb, _, _, _, r, r', _ => by cases r with | flt _ _ z h => cases r' with | flt _ _ z' _ => exact eqAt_flt hb z z' h
  | .by b, _, _, _, _, _, _, r, r', _ => by cases r; cases r'; exact eqAt_by
  | .tup ts, A, s, hb, hs, _, _, r, r', hu => by
    cases r with
    | @tup a o vs n _ hm hc hd hr =>
      cases r' with
      | @tup a' o' vs' n' _ hm' hc' hd' hr' =>
        by_cases hab : a = a'
        · subst hab; exact EqAt.same _
        · have l1 := hr.length
          have l2 := hr'.length
          have q := eqAt_reps ts A.in1 s hb hs vs vs' hr hr' (by show A.units + 1 + _ < _; simp only [T.deep] at hu; omega)
          have := RcAt.tuples (A := A) (s := s) (e := fun _ => true) ⟨o, hs _ hm, hc, n, hd⟩ ⟨o', hs _ hm', hc', n', hd'⟩ (by omega) (fun j j1 j2 => by simpa using q j (by simpa using j1) (by simpa using j2))
          refine EqAt.of_refs hab ?_
          have e : ((List.range (min vs.toArray.size vs'.toArray.size)).all (fun _ => true) && vs.toArray.size == vs'.toArray.size) = true := by simp [l1, l2]
          rwa [e] at this
  | .lst ts, A, s, hb, hs, _, _, r, r', hu => by
    cases r with
    | @lst a o vs n _ hm hc hd hr =>
      cases r' with
      | @lst a' o' vs' n' _ hm' hc' hd' hr' =>
        by_cases hab : a = a'
        · subst hab; exact EqAt.same _
        · have l1 := hr.length
          have l2 := hr'.length
          have q := eqAt_reps ts A.in1 s hb hs vs vs' hr hr' (by show A.units + 1 + _ < _; simp only [T.deep] at hu; omega)
          have := RcAt.lists (A := A) (s := s) (e := fun _ => true) ⟨o, hs _ hm, hc, n, hd⟩ ⟨o', hs _ hm', hc', n', hd'⟩ (by simp [l1, l2]) (by omega) (fun j j1 j2 => by simpa using q j (by simpa using j1) (by simpa using j2))
          refine EqAt.of_refs hab ?_
          have e : ((List.range vs.toArray.size).all (fun _ => true)) = true := by simp
          rwa [e] at this
theorem eqAt_reps {led : List (Addr × Obj)} : ∀ (ts : List T) (A : Around) (s : Shared) (_ : NoneBooked s.heap) (_ : ∀ p ∈ led, s.heap.get? p.1 = some p.2) (vs vs' : List Value), Reps led vs ts → Reps led vs' ts → A.units + T.deeps ts < cLine →
    ∀ j (h1 : j < vs.length) (h2 : j < vs'.length), EqAt A s vs[j] vs'[j] true
  | [], _, _, _, _, _, _, r, _, _, j, h1, _ => by cases r; exact absurd h1 (Nat.not_lt_zero _)
  | t :: ts, A, s, hb, hs, _, _, r, r', hu, j, h1, h2 => by
    cases r with
    | cons h q =>
      cases r' with
      | cons h' q' =>
        simp only [T.deeps] at hu
        cases j with
        | zero => exact eqAt_rep t A s hb hs _ _ h h' (by omega)
        | succ j => exact eqAt_reps ts A s hb hs _ _ q q' (by omega) j (Nat.lt_of_succ_lt_succ h1) (Nat.lt_of_succ_lt_succ h2)
end

section
variable {prog : Program} {w : World} {A : Around} {E : Value → Shared → Prop} {s : Shared} {led : List (Addr × Obj)} {v v' : Value} {ts : List T} {Q : Value → Shared → Prop}
theorem rep_ne_lst (hb : NoneBooked s.heap) (hs : ∀ p ∈ led, s.heap.get? p.1 = some p.2) (r : Rep led v (.lst ts)) (r' : Rep led v' (.lst ts)) (hu : A.units + T.deeps ts + 1 < cLine) (h : Q (.bool false) s) : wpAny (model prog w) A (compareOp .NotEq v v') Q E s := by
  cases r with
  | @lst a o vs n _ hm hc hd hr =>
    cases r' with
    | @lst a' o' vs' n' _ hm' hc' hd' hr' =>
      have l1 := hr.length
      have l2 := hr'.length
      have q := eqAt_reps ts A.in1 s hb hs vs vs' hr hr' (by show A.units + 1 + _ < _; omega)
      have := RcNeAt.lists (A := A) (s := s) (e := fun _ => true) ⟨o, hs _ hm, hc, n, hd⟩ ⟨o', hs _ hm', hc', n', hd'⟩ (by simp [l1, l2]) (by omega) (fun j j1 j2 => by simpa using q j (by simpa using j1) (by simpa using j2))
      have e : (!(List.range vs.toArray.size).all (fun _ => true)) = false := by simp
      rw [e] at this
      exact this prog w E Q h
theorem rep_ne_tup (hb : NoneBooked s.heap) (hs : ∀ p ∈ led, s.heap.get? p.1 = some p.2) (r : Rep led v (.tup ts)) (r' : Rep led v' (.tup ts)) (hu : A.units + T.deeps ts + 1 < cLine) (h : Q (.bool false) s) : wpAny (model prog w) A (compareOp .NotEq v v') Q E s := by
  cases r with
  | @tup a o vs n _ hm hc hd hr =>
    cases r' with
    | @tup a' o' vs' n' _ hm' hc' hd' hr' =>
      have l1 := hr.length
      have l2 := hr'.length
      have q := eqAt_reps ts A.in1 s hb hs vs vs' hr hr' (by show A.units + 1 + _ < _; omega)
      have := RcNeAt.tuples (A := A) (s := s) (e := fun _ => true) ⟨o, hs _ hm, hc, n, hd⟩ ⟨o', hs _ hm', hc', n', hd'⟩ (by omega) (fun j j1 j2 => by simpa using q j (by simpa using j1) (by simpa using j2))
      have e : (!((List.range (min vs.toArray.size vs'.toArray.size)).all (fun _ => true) && vs.toArray.size == vs'.toArray.size)) = false := by simp [l1, l2]
      rw [e] at this
      exact this prog w E Q h
theorem rep_eq_lst (hb : NoneBooked s.heap) (hs : ∀ p ∈ led, s.heap.get? p.1 = some p.2) (r : Rep led v (.lst ts)) (r' : Rep led v' (.lst ts)) (hu : A.units + T.deeps ts + 1 < cLine) (h : Q (.bool true) s) : wpAny (model prog w) A (compareOp .Eq v v') Q E s := by
  cases r with
  | @lst a o vs n _ hm hc hd hr =>
    cases r' with
    | @lst a' o' vs' n' _ hm' hc' hd' hr' =>
      have l1 := hr.length
      have l2 := hr'.length
      have q := eqAt_reps ts A.in1 s hb hs vs vs' hr hr' (by show A.units + 1 + _ < _; omega)
      have := RcAt.lists (A := A) (s := s) (e := fun _ => true) ⟨o, hs _ hm, hc, n, hd⟩ ⟨o', hs _ hm', hc', n', hd'⟩ (by simp [l1, l2]) (by omega) (fun j j1 j2 => by simpa using q j (by simpa using j1) (by simpa using j2))
      have e : ((List.range vs.toArray.size).all (fun _ => true)) = true := by simp
      rw [e] at this
      exact this prog w E Q h
end
end Mine
end
section
open PySem PySem.W PyProof.Rows PySem.Calls
set_option maxRecDepth 100000
namespace Mine
/-- nothing is raised -/
abbrev NE : Value → Shared → Prop := fun _ _ => False
section
variable {M : Model} {A : Around} {E : Value → Shared → Prop} {s : Shared} {env : Env}
theorem wpC.ne {α : Type} {t : Sem α} {Q : α → Shared → Prop} (h : wpC M A t Q NE s) : wpC M A t Q E s := wpC_mono h (fun _ _ x => x) fun _ _ x => x.elim
theorem c_onRaise {α : Type} {m : Sem α} {k : Value → Sem Unit} {Q : α → Shared → Prop} (h : wpC M A m Q NE s) : wpC M A (m.onRaise k) Q E s :=
  wpC_onRaise (wpC_mono h (fun _ _ x => x) fun _ _ x => x.elim)
theorem c_execs_nil {Q : Flow → Shared → Prop} (h : Q .next s) : wpC M A (execs [] env) Q E s := .any (wpAny_execs_nil h)
theorem c_execs_cons {st rest} {Q : Flow → Shared → Prop}
    (h : wpC M A (exec st env) (fun f s' => match f with | .next => wpC M A (execs rest env) Q E s' | f => Q f s') E s) : wpC M A (execs (st :: rest) env) Q E s := by
  rw [execs_cons]
  refine wpC_bind (wpC_mono h (fun f s' h' => ?_) fun _ _ x => x)
  cases f <;> first | exact h' | exact wpC_pure h'
theorem c_Return {e pos} {Q : Flow → Shared → Prop} (h : wpC M A (eval e env) (fun v s' => Q (.ret v) s') E s) : wpC M A (exec (.Return (some e) pos) env) Q E s := by
  rw [exec_Return_some]
  exact wpC_leaf (wpAny_standAt (wpC_bind (wpC_mono h (fun _ _ q => wpC_pure q) fun _ _ x => x)))
theorem c_If {test body orelse pos} {Q : Flow → Shared → Prop} (h : wpC M A (isTrue test env (eval test env)) (fun b s' => wpC M A (execs (if b then body else orelse) env) Q E s') E s) :
    wpC M A (exec (.If test body orelse pos) env) Q E s := by
  rw [exec_If]
  refine wpC_leaf (wpAny_standAt (wpC_bind (wpC_mono h (fun b _ q => ?_) fun _ _ x => x)))
  cases b <;> exact q
theorem c_Assign {x pos' value pos} {Q : Flow → Shared → Prop} (h : wpC M A (eval value env) (fun v s₁ => wpAny M A (storeName env x v) (fun _ => Q .next) E s₁) E s)
    (hs : swapsWith value (some (.Name x pos')) pos.line env = pure false := by rfl) : wpC M A (exec (.Assign [.Name x pos'] value pos) env) Q E s := by
  rw [exec_Assign_Name env x pos' value pos hs]
  refine wpC_leaf (wpAny_standAt (wpC_bind (wpC_mono h (fun v s₁ h₁ => wpC_leaf (wpAny_standAt (.any ?_))) fun _ _ x => x)))
  exact wpAny_bind (wpAny_bindName (wpAny_mono h₁ (fun _ _ q => wpAny_pure q) fun _ _ x => x))
theorem c_Compare1 {l op r pos} {Q : Value → Shared → Prop}
    (h : wpC M A (eval l env) (fun a s₁ => wpC M A (eval r env) (fun b s₂ => wpAny M A (compareOp op a b) Q E s₂) E s₁) E s)
    (hm : behindInMarks op r = false := by with_unfolding_all rfl) : wpC M A (eval (.Compare l [op] [r] pos) env) Q E s := fun Γ p hΓ hc => by
  simp only [eval_Compare1, markedBehindIn_of_false hm, Sem.wp_bind', Sem.wp_holding, Sem.wp_cmd_standAt, Sem.wp_operate]
  exact Sem.wp_mono M Γ _ (fun a p₁ s₁ h₁ => Sem.wp_mono M Γ _ (fun b _ s₂ h₂ => h₂ Γ _ hΓ) (fun _ _ _ h' => h') _ _ (h₁ Γ p₁ hΓ hc))
    (fun _ _ _ h' => h') _ _ (h Γ p hΓ hc)
theorem c_isTrue_Compare1 {l op r pos whole} {Q : Bool → Shared → Prop}
    (h : wpC M A (eval l env) (fun a s₁ => wpC M A (eval r env) (fun b s₂ => wpAny M A (compareOp op a b)
      (fun c s₃ => wpAny M A (truthy c) Q E s₃) E s₂) E s₁) E s)
    (hm : behindInMarks op r = false := by with_unfolding_all rfl) : wpC M A (isTrue (.Compare l [op] [r] pos) env whole) Q E s := fun Γ p hΓ hc => by
  simp only [isTrue_Compare1, markedBehindIn_of_false hm, Sem.wp_bind', Sem.wp_holding, Sem.wp_cmd_standAt, Sem.wp_operate]
  exact Sem.wp_mono M Γ _ (fun a p₁ s₁ h₁ => Sem.wp_mono M Γ _ (fun b _ s₂ h₂ => Sem.wp_mono M Γ _ (fun c p₃ s₃ h₃ => h₃ Γ p₃ hΓ)
    (fun _ _ _ h' => h') _ _ (h₂ Γ _ hΓ)) (fun _ _ _ h' => h') _ _ (h₁ Γ p₁ hΓ hc)) (fun _ _ _ h' => h') _ _ (h Γ p hΓ hc)
theorem c_isTrue_Or1 {x x1 whole} {rest : List Expr} {Q : Bool → Shared → Prop} (h : wpC M A (isTrue x env (eval x env)) (fun b s₁ => if b = true then Q true s₁ else wpC M A (allTrue .Or rest env) Q E s₁) E s) :
    wpC M A (isTrue (.BoolOp .Or (x :: rest) x1) env whole) Q E s := by
  rw [arm_isTrue_BoolOp, arm_allTrue_cons]
  refine wpC_bind (wpC_mono h (fun b s₁ h₁ => ?_) fun _ _ x => x)
  cases b
  · rw [if_neg Bool.false_ne_true] at h₁; exact h₁
  · rw [if_pos rfl] at h₁; exact wpC_pure h₁
theorem c_allTrue_Or {x} {rest : List Expr} {Q : Bool → Shared → Prop} (h : wpC M A (isTrue x env (eval x env)) (fun b s₁ => if b = true then Q true s₁ else wpC M A (allTrue .Or rest env) Q E s₁) E s) :
    wpC M A (allTrue .Or (x :: rest) env) Q E s := by
  rw [arm_allTrue_cons]
  refine wpC_bind (wpC_mono h (fun b s₁ h₁ => ?_) fun _ _ x => x)
  cases b
  · rw [if_neg Bool.false_ne_true] at h₁; exact h₁
  · rw [if_pos rfl] at h₁; exact wpC_pure h₁
theorem c_allTrue_nil {Q : Bool → Shared → Prop} (h : Q false s) : wpC M A (allTrue .Or [] env) Q E s := by
  rw [arm_allTrue_nil]; exact wpC_pure h

theorem c_spliced_nil {Q : List Value → Shared → Prop} (h : Q [] s) : wpC M A (spliced []) Q E s := wpC_pure h
theorem c_spliced_cons {x : Sem Value} {rest : List (Bool × Sem Value)} {Q : List Value → Shared → Prop}
    (h : wpC M A x (fun v s₁ => wpC M A (spliced rest) (fun vs s₂ => Q (v :: vs) s₂) E s₁) E s) : wpC M A (spliced ((false, x) :: rest)) Q E s := by
  rw [spliced]
  refine wpC_bind (wpC_mono h (fun v s₁ h₁ => ?_) fun _ _ x => x)
  simp only [Bool.false_eq_true, if_false]
  exact wpC_bind (wpC_pure (wpC_bind (wpC_holding (wpC_mono h₁ (fun vs s₂ h₂ => wpC_pure h₂) fun _ _ x => x))))
theorem c_evalArgs_plain {f : Value} {x : Sem Value} {rest : List (Bool × Sem Value)} {Q : Args → Shared → Prop}
    (h : wpC M A (spliced ((false, x) :: rest)) (fun vs s' => Q ⟨vs, []⟩ s') E s) : wpC M A (evalArgs f true ((false, x) :: rest) []) Q E s := by
  unfold evalArgs
  show wpC M A (spliced ((false, x) :: rest) >>= _) Q E s
  refine wpC_bind (wpC_mono h (fun vs s' h' => ?_) fun _ _ x => x)
  refine wpC_holding ?_
  exact wpC_bind (wpC_pure (wpC_bind (wpC_pure (wpC_pure h'))))
/-- a call whose callee is a function or no object -/
theorem c_callWith {pos : Pos} {f : Value} {first : List Value} {args : List (Bool × Sem Value)} {keywords : List (Option Str × Sem Value)} {Q : Value → Shared → Prop}
    (h : wpC M A (evalArgs f true args keywords) (fun a s₁ => (∃ k, (k = Keeper.frame ∨ (k = Keeper.machine ∧ (args.any (·.1) || keywords.any (·.1.isNone)) = false)) ∧ Looks M s₁.heap (keeperOf f) k) ∧ wpC M A (call f (first ++ a.pos) a.kw) Q E s₁) E s) :
    wpC M A (callWith pos f first args keywords) Q E s := by
  unfold callWith
  refine wpC_bind (wpC_holding (wpC_mono h (fun a s₁ h₁ => wpC_leaf (wpAny_standAt ?_)) fun _ _ x => x))
  obtain ⟨⟨k, hk', L⟩, h₁⟩ := h₁
  have tail : ∀ {t : Sem Value}, wpC M A t Q E s₁ → wpC M A (t >>= fun r => holding [r] point >>= fun _ => pure r) Q E s₁ :=
    fun ht => wpC_bind (wpC_mono ht (fun r s₂ hr => .any (wpAny_bind (wpAny_holding (wpAny_point (wpAny_pure hr))))) fun _ _ x => x)
  have marked (mk : Value) : wpC M A (callMarked mk f (first ++ a.pos) a.kw) Q E s₁ := by unfold callMarked; exact wpC_keep h₁
  rcases hk' with rfl | ⟨rfl, hp⟩
  · refine wpC_leaf (L.here ?_)
    cases hs : (args.any (·.1) || keywords.any (·.1.isNone)) <;> dsimp only
    · split <;> first | exact tail h₁ | exact tail (marked _)
    · exact tail (marked _)
  · refine wpC_leaf (L.here ?_)
    rw [hp]
    dsimp only
    exact tail h₁
theorem c_Call {id : Str} {p pos : Pos} {args : List Expr} {keywords : List Keyword} {Q : Value → Shared → Prop}
    (h : wpAny M A (eval (.Name id p) env) (fun f s₁ => wpC M A (callWith pos f [] (backTo pos (starEach args env)) (backToKw pos (keywordEach keywords env))) Q E s₁) E s) :
    wpC M A (eval (.Call (.Name id p) args keywords pos) env) Q E s := by
  rw [arm_eval_Call_Name']
  exact wpC_leaf h
theorem keeper_type {id : String} {h : Heap} : Looks M h (keeperOf (.type id)) .machine := .now
theorem keeper_fn {a : Addr} {o : Obj} {fd : FuncData} {h : Heap} (ho : h.get? a = some o) (hd : o.data = .func fd) : Looks M h (keeperOf (.ref a)) .frame := by
  unfold keeperOf
  refine (Looks.ld (part := none) ho).andThen ?_
  rw [hd]
  exact .now
/-- a plain call by a name -/
theorem c_Call1 {id : Str} {p pos : Pos} {e : Expr} {rest : List Expr} {Q : Value → Shared → Prop}
    (h : wpAny M A (eval (.Name id p) env) (fun f s₁ => wpC M A (spliced ((false, eval e env) :: backTo pos (starEach rest env))) (fun vs s₂ => (∃ k, (k = Keeper.frame ∨ k = Keeper.machine) ∧ Looks M s₂.heap (keeperOf f) k) ∧ wpC M A (call f vs) Q E s₂) E s₁) E s)
    (he : starEach (e :: rest) env = (false, eval e env) :: starEach rest env := by rfl) (hplain : (backTo pos (starEach rest env)).any (·.1) = false := by rfl) :
    wpC M A (eval (.Call (.Name id p) (e :: rest) [] pos) env) Q E s := by
  refine c_Call (wpAny_mono h (fun f s₁ h₁ => ?_) fun _ _ x => x)
  rw [he]
  refine c_callWith (c_evalArgs_plain (wpC_mono h₁ (fun vs s₂ h₂ => ?_) fun _ _ x => x))
  obtain ⟨⟨k, hk, L⟩, h₂⟩ := h₂
  refine ⟨⟨k, ?_, L⟩, h₂⟩
  rcases hk with rfl | rfl
  · exact .inl rfl
  · refine .inr ⟨rfl, ?_⟩
    show ((false || (backTo pos (starEach rest env)).any (·.1)) || false) = false
    rw [hplain]; rfl
theorem c_List {elts : List Expr} {pos : Pos} {Q : Value → Shared → Prop} (h : wpC M A (spliced (backTo pos (starEach elts env))) (fun vs s₁ => wpAny M A (newList vs) Q E s₁) E s) : wpC M A (eval (.List elts pos) env) Q E s := by
  rw [arm_eval_List]
  exact wpC_leaf (wpAny_standAt (wpC_bind (wpC_mono h (fun _ _ q => .any q) fun _ _ x => x)))
theorem c_Tuple {elts : List Expr} {x1} {pos : Pos} {Q : Value → Shared → Prop} (h : wpC M A (spliced (backTo pos (starEach elts env))) (fun vs s₁ => wpAny M A (newTuple vs) Q E s₁) E s) : wpC M A (eval (.Tuple elts x1 pos) env) Q E s := by
  rw [arm_eval_Tuple]
  exact wpC_leaf (wpAny_standAt (wpC_bind (wpC_mono h (fun _ _ q => .any q) fun _ _ x => x)))
end

section
variable {prog : Program} {w : World} {A : Around} {E : Value → Shared → Prop} {s : Shared} {R : Result → Shared → Prop}
theorem c_compLoop {elt target iter : Expr} {scope : Scope} {pos : Pos} {it acc : Value} {env : Env} (I : Nat → Shared → Prop)
    (turn : ∀ n s, I n s → wpC (model prog w) A (pyNext it) (fun r s₁ => match r with
      | none => R (.ok .next) s₁
      | some v => wpAny (model prog w) A (letOwnedTupleGo target it v) (fun _ s₀ => wpAny (model prog w) A (assign target env v) (fun _ s₂ => wpC (model prog w) A (eval elt env) (fun x s₃ =>
          wpAny (model prog w) A (call (.builtin "list.append") [acc, x]) (fun _ s₄ => ∃ m, m < n ∧ I m s₄) NE s₃) NE s₂) NE s₀) NE s₁) NE s)
    (n : Nat) (h : I n s) : codeC (model prog w) A (.compLoop (.ListComp elt [⟨target, iter, [], 0⟩] scope pos) 0 it acc env) R s := by
  refine codeC_loop rfl I (fun n s hI => ?_) n h
  show wpC _ A ((compTurn (.ListComp elt [⟨target, iter, [], 0⟩] scope pos) 0 it acc env).onRaise (fun x => do noteFrame x env; theTreesLotGoes x)) _ _ s
  refine c_onRaise ?_
  rw [compTurn_list1]
  refine wpC_leaf (wpAny_standAt (wpC_bind (wpC_mono (turn n s hI) (fun r s₁ h₁ => ?_) fun _ _ h' => h')))
  cases r with
  | none => exact wpC_pure h₁
  | some v =>
    refine wpC_leaf (wpAny_mono h₁ (fun _ s₀ h₀ => wpC_leaf (wpAny_mono h₀ (fun _ s₂ h₂ => ?_) fun _ _ h' => h')) fun _ _ h' => h')
    exact wpC_bind (wpC_bind (wpC_mono h₂ (fun x s₃ h₃ => wpC_leaf (wpAny_mono h₃ (fun _ s₄ h₄ => wpC_pure (wpC_pure ⟨rfl, h₄⟩)) fun _ _ h' => h')) fun _ _ h' => h'))

theorem c_compStart {elt target iter ifs rest scope pos it acc env}
    (h0 : codeC (model prog w) A (.compLoop (.ListComp elt (⟨target, iter, ifs, 0⟩ :: rest) scope pos) 0 it acc env) R s)
    (h : wpAny (model prog w) A (pyIter it) (fun it' s' => codeC (model prog w) A (.compLoop (.ListComp elt (⟨target, iter, ifs, 0⟩ :: rest) scope pos) 0 it' acc env) R s') NE s) :
    codeC (model prog w) A (.compStart (.ListComp elt (⟨target, iter, ifs, 0⟩ :: rest) scope pos) 0 it acc env) R s := by
  refine codeC_of_tree ?_
  show wpC _ _ ((compStart (.ListComp elt (⟨target, iter, ifs, 0⟩ :: rest) scope pos) 0 it acc env).onRaise (fun x => do noteFrame x env; standAt theWindowsPlace)) _ _ s
  refine c_onRaise ?_
  unfold compStart
  show wpC _ _ (ask >>= _) _ _ s
  refine wpC_leaf (wpAny_askSetting (wpC_ite ?_))
  split
  · first
      | exact wpC_bind (wpC_pure (wpC_pure (And.intro rfl h0)))
      | exact wpC_pure (And.intro rfl h0)
  · first
      | exact wpC_leaf (wpAny_rule (wpC_leaf (wpAny_standAt (wpC_leaf (wpAny_mono h (fun it' s' h' => wpC_pure (And.intro rfl h')) fun _ _ x => x)))))
      | (refine wpC_leaf (wpAny_rule ?_); show wpC _ _ (standAt iter.pos >>= _) _ _ s; exact wpC_leaf (wpAny_standAt (wpC_leaf (wpAny_mono h (fun it' s' h' => wpC_pure (And.intro rfl h')) fun _ _ x => x))))
end

section
variable {M : Model} {A : Around} {E : Value → Shared → Prop} {s : Shared} {env : Env}
def compPostC (M : Model) (A : Around) (use : Option (Value → Sem Unit)) (Q : Value → Shared → Prop) (acc : Value) (C : Addr) (r : Result) (s' : Shared) : Prop :=
  match r, use with
  | .ok _, none => ∃ m, s'.heap.Ns C m ∧ ∀ h', Heap.SameBut C s'.heap h' → Q acc { s' with heap := h' }
  | .ok _, some u => wpAny M A (u acc) (fun _ s'' => ∃ m, s''.heap.Ns C m ∧ ∀ h', Heap.SameBut C s''.heap h' → Q .none { s'' with heap := h' }) NE s'
  | .error _, _ => False
theorem c_standIf {α : Type} {c : Prop} [Decidable c] {pos : Pos} {k : PUnit → Sem α} {Q : α → Shared → Prop} (h : wpC M A (k ()) Q E s) :
    wpC M A (if c then (standAt pos >>= k) else k ()) Q E s := by
  split
  · exact wpC_leaf (wpAny_standAt h)
  · exact h
theorem c_comprehension {e : Expr} {scope : Scope} {pos : Pos} {newAcc first : Sem Value} {g : Comprehension} {gs : List Comprehension} {cl : List (Str × Addr)} {use : Option (Value → Sem Unit)}
    {Q : Value → Shared → Prop}
    (hcl : clausesOf e = g :: gs) (hs : ∀ x, foldedSetIterable g.iter env x = pure x) (hclos : closureFor scope env = pure cl)
    (hkind : scope.kind = .function) (hnames : ∀ x ∈ scope.names, x.2 = .local → scope.names.lookup x.1 = some .local)
    (h : wpC M A first (fun x s₁ => wpAny M A (pyIter x) (fun it s₂ => wpAny M A newAcc (fun acc s₃ =>
      wpAny M A (newFunctionEnv scope env.globals cl [] env.qual none .none (some env)) (fun cenv s₄ =>
        codeC M A (.compStart e 0 it acc { cenv with scope := relabel scope env }) (compPostC M A use Q acc cenv.locals) s₄) NE s₃) NE s₂) NE s₁) NE s) :
    wpC M A (comprehension e scope env pos newAcc false first use) Q E s := by
  refine wpC.ne ?_
  unfold comprehension
  rw [hclos, hcl]
  refine wpC_bind (wpC_mono h (fun x s₁ h₁ => wpC_leaf (wpAny_standAt (wpC_leaf (wpAny_of_eq (hs x) (wpC_bind (wpC_holding (.any (wpAny_mono h₁ (fun it s₂ h₂ =>
    c_standIf (wpC_leaf (wpAny_mono h₂ (fun acc s₃ h₃ => wpC_leaf (wpAny_pure (wpC_leaf (wpAny_mono h₃ (fun cenv s₄ h₄ => ?_) fun _ _ h' => h')))) fun _ _ h' => h')))
      fun _ _ h' => h')))))))) fun _ _ h' => h')
  dsimp only
  have hv : ∀ x ∈ (scope.names.filter fun x => (x.2 == .local || x.2 == .cell) && x.1 != (".0" : Str)).reverse, x.2 = .local →
      Env.kindOf { cenv with scope := relabel scope env } x.1 = some .local := fun x hx hl => lookup_relabel_local (hnames x (List.mem_filter.mp (List.mem_reverse.mp hx)).1 hl)
  have hv' : ∀ x ∈ (scope.names.filter fun x => (x.2 == .local || x.2 == .cell) && x.1 != (".0" : Str)).reverse.drop 1 ++ (scope.names.filter fun x => (x.2 == .local || x.2 == .cell) && x.1 != (".0" : Str)).reverse.take 1,
      x.2 = .local → Env.kindOf { cenv with scope := relabel scope env } x.1 = some .local := fun x hx hl => by
    rcases List.mem_append.mp hx with h1 | h1
    · exact hv x (List.mem_of_mem_drop h1) hl
    · exact hv x (List.mem_of_mem_take h1) hl
  refine wpC_holding (wpC_bind (wpC_attempt (wpC_holding (wpC_run (codeC_mono h₄ fun r s' hr => ?_)))))
  cases r with
  | ok f =>
    cases use with
    | none =>
      obtain ⟨m, hn, hr⟩ := hr
      exact wpC_leaf (wpAny_holding (wpAny_comp_letGo (cenv := { cenv with scope := relabel scope env }) hkind _ s' m hv hn fun h' m' _ hs' => wpC_pure (hr h' hs')))
    | some u =>
      refine wpC_leaf (wpAny_rule (wpC_leaf (wpAny_holding (wpAny_mono hr (fun _ s'' hr' => ?_) fun _ _ h' => h'))))
      obtain ⟨m, hn, hr'⟩ := hr'
      exact wpC_leaf (wpAny_comp_letGo (cenv := { cenv with scope := relabel scope env }) hkind _ s'' m hv' hn fun h' m' _ hs' => wpC_pure (hr' h' hs'))
  | error x => cases use <;> exact hr.elim
end
end Mine
end
section
open PySem PySem.W PyProof.Rows PySem.Calls
open PyProof.Rows.LCg (lst ns_obj NsObj lst_snoc)
set_option maxRecDepth 100000
namespace Mine
/-- what a clause draws from: an iterator and its target -/
structure Src (prog : Program) (w : World) (A : Around) (tgt : Expr) (I : Addr) (fp wr : List Addr) (n : Nat) (loc : List Str) (P : Nat → (Str → Option Value) → Prop) (St : Nat → Heap → Prop) : Prop where
  sub : ∀ b ∈ wr, b ∈ fp
  frame : ∀ i h h', St i h → (∀ b ∈ fp, ∀ o, h.get? b = some o → h'.get? b = some o) → St i h'
  live : ∀ i h, St i h → ∀ b ∈ fp, ∃ o, h.get? b = some o
  turn : ∀ i (s : Shared) (cenv : Env) (m₀ : Str → Option Value) (Q : Shared → Prop), i < n → St i s.heap → cenv.scope.kind = .function → (∀ x ∈ loc, cenv.kindOf x = some .local) → cenv.locals ∉ fp → s.heap.Ns cenv.locals m₀ →
    (∀ h' tk m', h'.Ns cenv.locals m' → P i m' → (∀ x, x ∉ loc → m' x = m₀ x) → St (i + 1) h' → (∀ b o, b ∉ wr → b ≠ cenv.locals → s.heap.get? b = some o → h'.get? b = some o) → Q { s with heap := h', toks := tk }) →
    wpAny (model prog w) A (pyNext (.ref I)) (fun r s₁ => match r with
      | none => False
      | some v => wpAny (model prog w) A (letOwnedTupleGo tgt (.ref I) v) (fun _ s₀ => wpAny (model prog w) A (assign tgt cenv v) (fun _ s₂ => Q s₂) NE s₀) NE s₁) NE s
  done : ∀ (s : Shared) (Q : Option Value → Shared → Prop), St n s.heap →
    (∀ h' tk, (∀ b o, b ∉ wr → s.heap.get? b = some o → h'.get? b = some o) → Q none { s with heap := h', toks := tk }) → wpAny (model prog w) A (pyNext (.ref I)) Q NE s
  self : ∀ i (s : Shared) (Q : Value → Shared → Prop), St i s.heap → Q (.ref I) s → wpAny (model prog w) A (pyIter (.ref I)) Q NE s

theorem turn_tk {prog : Program} {w : World} {A : Around} {tgt : Expr} {it : Value} {cenv : Env} {s : Shared} {Q : Shared → Prop} {n : Nat} (hn : n ≤ s.toks)
    (h : wpAny (model prog w) A (pyNext it) (fun r s₁ => match r with
      | none => False
      | some v => wpAny (model prog w) A (letOwnedTupleGo tgt it v) (fun _ s₀ => wpAny (model prog w) A (assign tgt cenv v) (fun _ s₂ => n ≤ s₂.toks → Q s₂) NE s₀) NE s₁) NE s) :
    wpAny (model prog w) A (pyNext it) (fun r s₁ => match r with
      | none => False
      | some v => wpAny (model prog w) A (letOwnedTupleGo tgt it v) (fun _ s₀ => wpAny (model prog w) A (assign tgt cenv v) (fun _ s₂ => Q s₂) NE s₀) NE s₁) NE s := by
  refine wpAny_tk hn (wpAny_mono h (fun r s₁ h₁ hn₁ => ?_) fun _ _ e _ => e)
  cases r with
  | none => exact h₁
  | some v => exact wpAny_tk hn₁ (wpAny_mono h₁ (fun _ s₀ h₀ hn₀ => wpAny_tk hn₀ (wpAny_mono h₀ (fun _ _ q => q) fun _ _ e => False.elim e)) fun _ _ e _ => e)

theorem fr_away {h₀ h h' : Heap} {L : Addr} {m : Str → Option Value} {W : List Addr} (F : Fr h₀ L h m) (hk : ∀ b o, b ∉ W → h.get? b = some o → h'.get? b = some o) (hL : L ∉ W) (hW : ∀ b ∈ W, h₀.get? b = none) : Fr h₀ L h' m :=
  ⟨F.ns.at' fun o e => hk L o hL e, fun b o e => hk b o (fun hm => by rw [hW b hm] at e; cases e) (F.keep b o e), F.above⟩
theorem news_away {h₀ h h' : Heap} {L : Addr} {W : List Addr} {news : List (Addr × Obj)} (N : News h₀ L h news) (hk : ∀ b o, b ∉ W → h.get? b = some o → h'.get? b = some o) (off : ∀ p ∈ news, p.1 ∉ W) : News h₀ L h' news :=
  fun p hp => ⟨hk _ _ (off p hp) (N p hp).1, (N p hp).2⟩

section
variable {prog : Program} {w : World} {A : Around} {h₀ : Heap} {L : Addr} {m : Str → Option Value} {env : Env}

/-- one element's expression -/
def EltC (prog : Program) (w : World) (A : Around) (h₀ : Heap) (L : Addr) (m : Str → Option Value) (env : Env) (elt : Expr) (scope : Scope) (cl : List (Str × Addr)) (s : Shared) (led : List (Addr × Obj)) (P : (Str → Option Value) → Prop) (t : T) : Prop :=
  ∀ (X data : List (Addr × Obj)) (C : Addr) (oC : Obj) (m₂ : Str → Option Value) (h : Heap) (tk : Nat), (∀ p ∈ led, p ∈ data) → (∀ p ∈ data, p ∈ X) → Fr h₀ L h m → News h₀ L h X → (C, oC) ∈ X → NsObj oC m₂ → P m₂ → 0 < tk →
    wpC (model prog w) A (eval elt (compEnvC scope cl C env)) (fun x s' => ∃ h' tk' new, s' = { s with heap := h', toks := tk' } ∧ Fr h₀ L h' m ∧ News h₀ L h' (new ++ X) ∧ (∀ p ∈ new, ∀ q ∈ X, p.1 ≠ q.1) ∧ Rep (new ++ data) x t ∧ 0 < tk')
      NE { s with heap := h, toks := tk }

theorem c_comp_block {elt iter tgt : Expr} {scope : Scope} {cl : List (Str × Addr)} {pos : Pos} {I : Addr} {fp wr : List Addr} {n : Nat} {loc : List Str} {P : Nat → (Str → Option Value) → Prop} {St : Nat → Heap → Prop}
    {s : Shared} {led : List (Addr × Obj)} {ts : Nat → T} {RR : Value → Addr → Result → Shared → Prop}
    (S : Src prog w A tgt I fp wr n loc P St) (hsz : n ≤ sizeLine) (hcell : ∀ y ∈ scope.names, y.2 ≠ .cell) (hkind : scope.kind = .function) (hloc : ∀ x ∈ loc, scope.names.lookup x = some .local)
    (st0 : St 0 s.heap) (hfp : ∀ b ∈ fp, (∃ o, s.heap.get? b = some o) ∧ b ≠ L ∧ h₀.get? b = none) (F : Fr h₀ L s.heap m) (N : News h₀ L s.heap led) (hwr : ∀ p ∈ led, p.1 ∉ wr) (htk : 0 < s.toks)
    (helt : ∀ i, i < n → EltC prog w A h₀ L m env elt scope cl s led (P i) (ts i))
    (hRR : ∀ D C h tk m' ys new, Fr h₀ L h m → News h₀ L h ((D, lst ys) :: (new ++ led)) → h.Ns C m' → h₀.get? C = none → C ≠ L → (∀ p ∈ (D, lst ys) :: (new ++ led), p.1 ≠ C) → (∀ p ∈ (D, lst ys) :: new, ∀ q ∈ led, p.1 ≠ q.1) → (∀ p ∈ new, p.1 ≠ D) →
      Reps (new ++ led) ys ((List.range n).map ts) → 0 < tk → RR (.ref D) C (.ok .next) { s with heap := h, toks := tk }) :
    wpAny (model prog w) A (newList []) (fun acc s₃ => wpAny (model prog w) A (newFunctionEnv scope env.globals cl [] env.qual none .none (some env)) (fun cenv s₄ =>
      codeC (model prog w) A (.compStart (.ListComp elt [⟨tgt, iter, [], 0⟩] scope pos) 0 (.ref I) acc { cenv with scope := relabel scope env }) (RR acc cenv.locals) s₄) NE s₃) NE s := by
  refine wpAny_newObj_type (wpAny_newFunctionEnv hcell (by intro y hy; simp at hy) (fun h₁ hns₁ hsb₁ => ?_) hkind)
  dsimp only at hns₁ hsb₁ ⊢
  generalize hH2 : s.heap.push { cls := .type "list", dict := none, data := .seq ([] : List Value).toArray } = H2 at hns₁ hsb₁ ⊢
  have hC : H2.objs.size = s.heap.objs.size + 1 := by rw [← hH2, Heap.size_push]
  have hDC : s.heap.objs.size ≠ H2.objs.size := by rw [hC]; exact Nat.ne_of_lt (Nat.lt_succ_self _)
  have below : ∀ b, b < s.heap.objs.size → b ≠ H2.objs.size ∧ b ≠ s.heap.objs.size := fun b hb => ⟨by rw [hC]; exact Nat.ne_of_lt (Nat.lt_succ_of_lt hb), Nat.ne_of_lt hb⟩
  have hfplt : ∀ b ∈ fp, b < s.heap.objs.size := fun b hb => by obtain ⟨⟨o, e⟩, _⟩ := hfp b hb; exact Heap.lt_size e
  have hDf : s.heap.objs.size ∉ fp := fun hm => Nat.lt_irrefl _ (hfplt _ hm)
  have hCf : H2.objs.size ∉ fp := fun hm => by have := hfplt _ hm; rw [hC] at this; exact Nat.lt_irrefl _ (Nat.lt_of_succ_lt this)
  have old : ∀ b o, s.heap.get? b = some o → h₁.get? b = some o := fun b o e => hsb₁.extBut b o (below b (Heap.lt_size e)).1 (Heap.get?_push_of_some _ (hH2 ▸ Heap.get?_push_of_some _ e))
  have hacc : h₁.get? s.heap.objs.size = some (lst []) := hsb₁.extBut _ _ hDC (Heap.get?_push_of_some _ (hH2 ▸ Heap.get?_push_size _ rfl))
  have hst₁ : St 0 h₁ := S.frame _ _ _ st0 fun b _ o e => old b o e
  have fresh : ∀ a, s.heap.objs.size ≤ a → s.heap.get? a = none := fun a ha => by
    cases e : s.heap.get? a with
    | none => rfl
    | some o' => exact absurd (Heap.lt_size e) (Nat.not_lt.mpr ha)
  have fresh₀ : ∀ a, s.heap.objs.size ≤ a → h₀.get? a = none := fun a ha => by
    cases e : h₀.get? a with
    | none => rfl
    | some o' => have := F.keep a o' e; rw [fresh a ha] at this; cases this
  have hD₀ : h₀.get? s.heap.objs.size = none := fresh₀ _ (Nat.le_refl _)
  have hC₀ : h₀.get? H2.objs.size = none := fresh₀ _ (by rw [hC]; exact Nat.le_succ _)
  have hLlt : L < s.heap.objs.size := F.ns.lt
  have hDL : s.heap.objs.size ≠ L := Ne.symm (below L hLlt).2
  have hCL : H2.objs.size ≠ L := Ne.symm (below L hLlt).1
  have hLw : L ∉ wr := fun q => (hfp L (S.sub L q)).2.1 rfl
  have hwr₀ : ∀ b ∈ wr, h₀.get? b = none := fun b q => (hfp b (S.sub b q)).2.2
  have hDw : s.heap.objs.size ∉ wr := fun q => hDf (S.sub _ q)
  have hCw : H2.objs.size ∉ wr := fun q => hCf (S.sub _ q)
  have loop : ∀ s₃ : Shared, s₃ = { s with heap := h₁, toks := s.toks + ([] : List (Str × Value)).length } →
      codeC (model prog w) A (.compLoop (.ListComp elt [⟨tgt, iter, [], 0⟩] scope pos) 0 (.ref I) (.ref s.heap.objs.size) (compEnvC scope cl H2.objs.size env)) (RR (.ref s.heap.objs.size) H2.objs.size) s₃ := by
    rintro s₃ rfl
    obtain ⟨Inv, hInv⟩ : ∃ Inv : Nat → Shared → Prop, Inv =
      (fun k s' => ∃ h' tk i ys m' new, s' = { s with heap := h', toks := tk } ∧ i ≤ n ∧ k = n + 1 - i ∧ ys.length = i ∧ St i h' ∧ Fr h₀ L h' m ∧ h'.Ns H2.objs.size m' ∧ News h₀ L h' ((s.heap.objs.size, lst ys) :: (new ++ led)) ∧
        (∀ p ∈ new, p.1 ∉ fp ∧ p.1 ≠ H2.objs.size ∧ p.1 ≠ s.heap.objs.size ∧ ∀ q ∈ led, p.1 ≠ q.1) ∧ Reps (new ++ led) ys ((List.range i).map ts) ∧ 0 < tk) := ⟨_, rfl⟩
    have st : Inv (n + 1) { s with heap := h₁, toks := s.toks + ([] : List (Str × Value)).length } := by
      rw [hInv]
      refine ⟨h₁, _, 0, [], _, [], rfl, Nat.zero_le _, rfl, rfl, hst₁, F.keeps old, hns₁, fun p hp => ?_, fun p hp => (nomatch hp), .nil, by simpa using htk⟩
      rcases List.mem_cons.mp hp with rfl | hp
      · exact ⟨hacc, hDL, hD₀⟩
      · exact ⟨old _ _ (N p hp).1, (N p hp).2⟩
    refine c_compLoop Inv ?_ (n + 1) st
    · intro k s' hI
      rw [hInv] at hI
      obtain ⟨h', tk, i, ys, m', new, rfl, hi, rfl, hyl, hst', F', hn', N', off, R', htk'⟩ := hI
      have ledoff : ∀ p ∈ led, p.1 ≠ H2.objs.size ∧ p.1 ≠ s.heap.objs.size := fun p hp => below _ (Heap.lt_size (N p hp).1)
      have offw : ∀ p ∈ (s.heap.objs.size, lst ys) :: (new ++ led), p.1 ∉ wr := fun p hp => by
        rcases List.mem_cons.mp hp with rfl | hp
        · exact hDw
        · rcases List.mem_append.mp hp with hp | hp
          · exact fun q => (off p hp).1 (S.sub _ q)
          · exact hwr p hp
      by_cases hlt : i < n
      · refine .any (wpAny_mono (turn_tk (n := 1) (Q := fun s₂ => wpC (model prog w) A (eval elt (compEnvC scope cl H2.objs.size env)) (fun x s₃ =>
            wpAny (model prog w) A (call (.builtin "list.append") [.ref s.heap.objs.size, x]) (fun _ s₄ => ∃ m_1, m_1 < n + 1 - i ∧ Inv m_1 s₄) NE s₃) NE s₂) htk'
          (S.turn i { s with heap := h', toks := tk } (compEnvC scope cl H2.objs.size env) m' _ hlt hst' hkind (fun x hx => lookup_relabel_local (hloc x hx)) hCf hn' fun h₂ tk₂ m₂ hn₂ hP hmm hst₂ hk₂ htk₂ => ?_)) (fun r s₁ h₁ => ?_) fun _ _ e => e)
        rotate_left
        · cases r with
          | none => exact h₁.elim
          | some v => exact h₁
        have hk₂' : ∀ b o, b ∉ H2.objs.size :: wr → h'.get? b = some o → h₂.get? b = some o := fun b o hb e => hk₂ b o (fun q => hb (.tail _ q)) (fun q => hb (by rw [q]; exact .head _)) e
        have F₂ : Fr h₀ L h₂ m := fr_away F' hk₂' (fun q => by rcases List.mem_cons.mp q with q | q; exact hCL q.symm; exact hLw q) fun b hb => by
          rcases List.mem_cons.mp hb with rfl | hb
          · exact hC₀
          · exact hwr₀ b hb
        have N₂ : News h₀ L h₂ ((s.heap.objs.size, lst ys) :: (new ++ led)) := news_away N' hk₂' fun p hp q => by
          rcases List.mem_cons.mp q with q | q
          · rcases List.mem_cons.mp hp with rfl | hp
            · exact hDC q
            · rcases List.mem_append.mp hp with hp | hp
              · exact (off p hp).2.1 q
              · exact (ledoff p hp).1 q
          · exact offw p hp q
        obtain ⟨oC, heC, hoC⟩ := ns_obj hn₂
        -- the iterator's own objects
        obtain ⟨fe, hfe1, hfe2, hfe3⟩ : ∃ fe : List (Addr × Obj), (∀ p ∈ fe, h₂.get? p.1 = some p.2) ∧ (∀ b ∈ fp, ∃ o, h₂.get? b = some o ∧ (b, o) ∈ fe) ∧ ∀ p ∈ fe, p.1 ∈ fp := by
          have lv := S.live _ _ hst₂
          clear hfp hfplt hDf hCf S st0 st hst₁ hst' hst₂ hInv hLw hwr₀ offw off
          induction fp with
          | nil => exact ⟨[], fun _ h => (nomatch h), fun _ h => (nomatch h), fun _ h => (nomatch h)⟩
          | cons b r ih =>
            obtain ⟨fe, a1, a2, a3⟩ := ih fun b hb => lv b (.tail _ hb)
            obtain ⟨o, e⟩ := lv b (.head _)
            refine ⟨(b, o) :: fe, fun p hp => ?_, fun c hc => ?_, fun p hp => ?_⟩
            · rcases List.mem_cons.mp hp with rfl | hp
              · exact e
              · exact a1 p hp
            · rcases List.mem_cons.mp hc with rfl | hc
              · exact ⟨o, e, .head _⟩
              · obtain ⟨o', e', q⟩ := a2 c hc
                exact ⟨o', e', .tail _ q⟩
            · rcases List.mem_cons.mp hp with rfl | hp
              · exact .head _
              · exact .tail _ (a3 p hp)
        have NX : News h₀ L h₂ (fe ++ (H2.objs.size, oC) :: (s.heap.objs.size, lst ys) :: (new ++ led)) := fun p hp => by
          rcases List.mem_append.mp hp with hp | hp
          · exact ⟨hfe1 p hp, (hfp _ (hfe3 p hp)).2.1, (hfp _ (hfe3 p hp)).2.2⟩
          · rcases List.mem_cons.mp hp with rfl | hp
            · exact ⟨heC, hCL, hC₀⟩
            · exact N₂ p hp
        refine wpC_mono (helt i hlt _ (new ++ led) H2.objs.size oC m₂ h₂ tk₂ (fun p hp => List.mem_append_right _ hp) (fun p hp => List.mem_append_right _ (.tail _ (.tail _ hp))) F₂ NX (List.mem_append_right _ (.head _)) hoC hP htk₂) (fun x s₃ h₃ => ?_) fun _ _ e => e
        obtain ⟨h₃, tk₃, nw, rfl, F₃, N₃, off₃, R₃, htk₃⟩ := h₃
        have zC := (N₃ (H2.objs.size, oC) (List.mem_append_right _ (List.mem_append_right _ (.head _)))).1
        have zD := (N₃ (s.heap.objs.size, lst ys) (List.mem_append_right _ (List.mem_append_right _ (.tail _ (.head _))))).1
        have hst₃ : St (i + 1) h₃ := S.frame _ _ _ hst₂ fun b hb o e => by
          obtain ⟨o', e', q⟩ := hfe2 b hb
          rw [e] at e'; cases e'
          exact (N₃ (b, o) (List.mem_append_right _ (List.mem_append_left _ q))).1
        refine append_at (hsz := by show ys.toArray.size ≤ sizeLine; rw [List.size_toArray, hyl]; exact Nat.le_trans hi hsz) zD fun h₄ hs₄ hD₄ => ?_
        refine ⟨n + 1 - (i + 1), by omega, ?_⟩
        rw [hInv]
        have offn : ∀ p ∈ nw, p.1 ∉ fp ∧ p.1 ≠ H2.objs.size ∧ p.1 ≠ s.heap.objs.size ∧ ∀ q ∈ new ++ led, p.1 ≠ q.1 := fun p hp =>
          ⟨fun q => by obtain ⟨o', _, z⟩ := hfe2 _ q; exact off₃ p hp _ (List.mem_append_left _ z) rfl, off₃ p hp (H2.objs.size, oC) (List.mem_append_right _ (.head _)), off₃ p hp (s.heap.objs.size, lst ys) (List.mem_append_right _ (.tail _ (.head _))),
            fun q hq => off₃ p hp q (List.mem_append_right _ (.tail _ (.tail _ hq)))⟩
        refine ⟨h₄, tk₃, i + 1, ys ++ [x], _, nw ++ new, rfl, hlt, rfl, by rw [List.length_append, List.length_singleton, hyl], S.frame _ _ _ hst₃ fun b hb o e => hs₄.extBut b o (fun q => hDf (q ▸ hb)) e, F₃.change hs₄ hDL hD₀,
          (hoC.ns zC).sameBut hs₄ (Ne.symm hDC), fun q hq => ?_, fun p hp => ?_, ?_, htk₃⟩
        · rw [List.append_assoc] at hq
          rcases List.mem_cons.mp hq with rfl | hq
          · exact ⟨hD₄.trans (congrArg some (lst_snoc ys x)), hDL, hD₀⟩
          · rcases List.mem_append.mp hq with hq | hq
            · exact ⟨hs₄.extBut _ _ (offn q hq).2.2.1 (N₃ q (List.mem_append_left _ hq)).1, (N₃ q (List.mem_append_left _ hq)).2⟩
            · have z := N₃ q (List.mem_append_right _ (List.mem_append_right _ (.tail _ (.tail _ hq))))
              refine ⟨hs₄.extBut _ _ ?_ z.1, z.2⟩
              rcases List.mem_append.mp hq with hq | hq
              · exact (off q hq).2.2.1
              · exact (ledoff q hq).2
        · rcases List.mem_append.mp hp with hp | hp
          · exact ⟨(offn p hp).1, (offn p hp).2.1, (offn p hp).2.2.1, fun q hq => (offn p hp).2.2.2 q (List.mem_append_right _ hq)⟩
          · exact off p hp
        · rw [List.append_assoc, List.range_succ, List.map_append]
          exact (R'.mono fun p hp => List.mem_append_right _ hp).append (.cons R₃ .nil)
      · have hin : i = n := Nat.le_antisymm hi (Nat.not_lt.mp hlt)
        subst hin
        refine .any (wpAny_tk (n := 1) htk' (wpAny_mono (S.done { s with heap := h', toks := tk } (fun r s' => 1 ≤ s'.toks → match r with
          | none => RR (.ref s.heap.objs.size) H2.objs.size (.ok .next) s'
          | some _ => False) hst' fun h₂ tk₂ hk₂ htk₂ => ?_) (fun r s' z hz => by cases r with | none => exact z hz | some v => exact (z hz).elim) fun _ _ e _ => e))
        refine hRR _ _ h₂ tk₂ m' ys new (fr_away F' hk₂ hLw hwr₀) (news_away N' hk₂ offw) (hn'.at' fun o e => hk₂ _ o hCw e) hC₀ hCL (fun p hp => ?_) (fun p hp q hq => ?_) (fun p hp => (off p hp).2.2.1) R' htk₂
        · rcases List.mem_cons.mp hp with rfl | hp
          · exact hDC
          · rcases List.mem_append.mp hp with hp | hp
            · exact (off p hp).2.1
            · exact (ledoff p hp).1
        · rcases List.mem_cons.mp hp with rfl | hp
          · exact Ne.symm (ledoff q hq).2
          · exact (off p hp).2.2.2 q hq
  refine c_compStart (loop _ rfl) (S.self 0 _ _ hst₁ (loop _ rfl))
end
end Mine
end
section
open PySem PySem.W PyProof.Rows PySem.Calls
open PyProof.Rows.LCg (lst ns_obj NsObj lst_snoc)
set_option maxRecDepth 100000
namespace Mine
/-! unpacking a list -/
section
variable {prog : Program} {w : World} {A : Around} {E : Value → Shared → Prop} {s : Shared}
theorem draw_list {it t : Addr} {items : Array Value} (hne : t ≠ it) : ∀ (n i : Nat) (s : Shared) (Q : List Value → Shared → Prop), s.heap.IsListIter it t i → s.heap.IsList t items → i + n ≤ items.size →
    (∀ h', h'.IsListIter it t (i + n) → Heap.SameBut it s.heap h' → Q ((items.toList.drop i).take n) { s with heap := h' }) → wpAny (model prog w) A (draw (.ref it) n) Q E s
  | 0, i, s, Q, hit, _, _, hQ => by
    show wpAny _ _ (pure []) Q E s
    exact wpAny_pure (by simpa using hQ s.heap hit (Heap.SameBut.refl ..))
  | n + 1, i, s, Q, hit, ht, hle, hQ => by
    have hlt : i < items.size := by omega
    show wpAny _ _ (pyNext (.ref it) >>= _) Q E s
    refine wpAny_bind (wpAny_pyNext_list_item hit ht (x := items[i]) (by simp [hlt]) fun h₁ hit₁ hs₁ => ?_)
    refine wpAny_bind (wpAny_holding (draw_list hne n (i + 1) _ _ hit₁ (ht.extBut hs₁.extBut hne) (by omega) fun h₂ hit₂ hs₂ => wpAny_pure ?_))
    have hd : items.toList.drop i = items[i] :: items.toList.drop (i + 1) := by simp [List.drop_eq_getElem_cons, hlt]
    have := hQ h₂ (by rw [show i + (n + 1) = i + 1 + n by omega]; exact hit₂) (hs₁.trans hs₂)
    rw [hd, List.take_succ_cons] at this
    exact this
theorem unpackItems_list {t : Addr} {items : Array Value} {Q : List Value → Shared → Prop} (hh : A.handled = none) (ht : s.heap.IsList t items)
    (hQ : ∀ h', Heap.ExtBut s.heap.objs.size s.heap h' → Q items.toList { s with heap := h' }) : wpAny (model prog w) A (unpackItems (.ref t) items.size none) Q E s := by
  have hlt : t ≠ s.heap.objs.size := by obtain ⟨o, ho, _⟩ := ht; exact Nat.ne_of_lt (Heap.lt_size ho)
  unfold unpackItems
  refine wpAny_bind ?_
  · unfold notIterableAtAll
    refine wpAny_bind (wpAny_specialOf ht.typeIs slot_list_iter.lookup ?_)
    refine wpAny_pure ?_
    simp only [Bool.false_eq_true, if_false]
    refine wpAny_bind (wpAny_holding (wpAny_pyIter_list ht ?_))
    refine wpAny_bind (wpAny_holding (draw_list hlt items.size 0 _ _ ⟨_, Heap.get?_push_size _ rfl, rfl, rfl⟩ (ht.push _) (by omega) fun h₁ hit₁ hs₁ => ?_))
    have hall : List.take items.size (List.drop 0 items.toList) = items.toList := by
      rw [List.drop_zero]; exact List.take_of_length_le (by simp)
    rw [hall]
    rw [if_neg (by simp)]
    have ht₁ : h₁.IsList t items := (ht.push _).extBut hs₁.extBut hlt
    refine wpAny_bind (wpAny_holding (wpAny_pyNext_list_end hh hit₁ ht₁ (by simp) fun h₂ he₂ => ?_))
    simp only [Option.isSome_none, Bool.false_eq_true, if_false]
    refine wpAny_pure (hQ h₂ fun b o hb e => he₂ b o hb (hs₁.extBut b o hb (Heap.get?_push_of_some _ e)))
theorem assign_Tuple_list {env : Env} {elts : List Expr} {x1} {pos : Pos} {t : Addr} {items : Array Value} {Q : Unit → Shared → Prop} (hh : A.handled = none) (ht : s.heap.IsList t items)
    (hn : (assignEach elts env).length = items.size) (hstar : (assignEach elts env).findIdx? (·.1) = none)
    (h : ∀ h', Heap.ExtBut s.heap.objs.size s.heap h' → wpAny (model prog w) A (assignInOrder ((assignEach elts env).map (·.2)) items.toList) Q E { s with heap := h' }) :
    wpAny (model prog w) A (assign (.Tuple elts x1 pos) env (.ref t)) Q E s := by
  rw [assign_Tuple]
  refine wpAny_bind (wpAny_standAt ?_)
  unfold unpack
  rw [hn, hstar]
  exact wpAny_bind (wpAny_holding (unpackItems_list hh ht h))
end
section
variable {prog : Program} {w : World} {A : Around} {h₀ : Heap} {L : Addr} {m : Str → Option Value} {env : Env}
/-- what is known of the iterator, ahead of the turns -/
def Drawn (prog : Program) (w : World) (A : Around) (h₀ : Heap) (L : Addr) (m : Str → Option Value) (env : Env) (elt tgt : Expr) (scope : Scope) (cl : List (Str × Addr)) (led : List (Addr × Obj)) (n : Nat) (ts : Nat → T) (it : Value) (s : Shared) : Prop :=
  ∃ I fp wr loc P St, it = .ref I ∧ Src prog w A tgt I fp wr n loc P St ∧ (∀ x ∈ loc, scope.names.lookup x = some .local) ∧ St 0 s.heap ∧
    (∀ b ∈ fp, (∃ o, s.heap.get? b = some o) ∧ b ≠ L ∧ h₀.get? b = none) ∧ Fr h₀ L s.heap m ∧ News h₀ L s.heap led ∧ (∀ p ∈ led, p.1 ∉ wr) ∧ 0 < s.toks ∧
    ∀ i, i < n → EltC prog w A h₀ L m env elt scope cl s led (P i) (ts i)

theorem c_ListComp {elt iter tgt : Expr} {scope : Scope} {cl : List (Str × Addr)} {pos : Pos} {s : Shared} {led : List (Addr × Obj)} {n : Nat} {ts : Nat → T} {Q : Value → Shared → Prop} {E : Value → Shared → Prop}
    (hclos : closureFor scope env = pure cl) (hcell : ∀ y ∈ scope.names, y.2 ≠ .cell) (hkind : scope.kind = .function)
    (hnames : ∀ y ∈ scope.names, y.2 = .local → scope.names.lookup y.1 = some .local) (hsz : n ≤ sizeLine)
    (h : wpC (model prog w) A (eval iter env) (fun xv s₁ => wpAny (model prog w) A (pyIter xv) (fun it s₂ => Drawn prog w A h₀ L m env elt tgt scope cl led n ts it s₂ ∧
      ∀ D h tk ys new, Fr h₀ L h m → News h₀ L h ((D, lst ys) :: (new ++ led)) → (∀ p ∈ (D, lst ys) :: new, ∀ q ∈ led, p.1 ≠ q.1) → (∀ p ∈ new, p.1 ≠ D) → Reps (new ++ led) ys ((List.range n).map ts) → 0 < tk → Q (.ref D) { s₂ with heap := h, toks := tk }) NE s₁) NE s)
    (hs : ∀ x, foldedSetIterable iter env x = pure x := by intro _; rfl) :
    wpC (model prog w) A (eval (.ListComp elt [⟨tgt, iter, [], 0⟩] scope pos) env) Q E s := by
  rw [eval_ListComp]
  refine c_comprehension (use := none) rfl hs hclos hkind hnames (wpC_mono h (fun xv s₁ h₁ => ?_) fun _ _ e => e)
  refine wpAny_mono h₁ (fun it s₂ h₂ => ?_) fun _ _ e => e
  obtain ⟨⟨I, fp, wr, loc, P, St, rfl, S, hloc, st0, hfp, F, N, hwr, htk, helt⟩, hQ⟩ := h₂
  refine c_comp_block S hsz hcell hkind hloc st0 hfp F N hwr htk helt fun D C h tk m' ys new F' N' hn hC₀ hCL offC o1 o2 R htk' => ?_
  refine ⟨m', hn, fun h'' hs'' => hQ D h'' tk ys new (F'.change hs'' hCL hC₀) (fun p hp => ?_) o1 o2 R htk'⟩
  exact ⟨hs''.extBut _ _ (offC p hp) (N' p hp).1, (N' p hp).2⟩

theorem c_Assign_ListComp {elt iter tgt : Expr} {y : Str} {py : Pos} {scope : Scope} {cl : List (Str × Addr)} {pos spos : Pos} {s : Shared} {led : List (Addr × Obj)} {n : Nat} {ts : Nat → T} {Q : Flow → Shared → Prop} {E : Value → Shared → Prop} (hLe : env.locals = L)
    (hsw : swapsWith (.ListComp elt [⟨tgt, iter, [], 0⟩] scope pos) (some (.Name y py)) spos.line env = pure true)
    (hclos : closureFor scope env = pure cl) (hcell : ∀ y ∈ scope.names, y.2 ≠ .cell) (hkind : scope.kind = .function)
    (hnames : ∀ y ∈ scope.names, y.2 = .local → scope.names.lookup y.1 = some .local) (hsz : n ≤ sizeLine)
    (hy : env.kindOf y = some .local) (hp : (env.scope.kind == .class || (env.scope.kind == .module && env.locals != env.globals)) = false)
    (h : wpC (model prog w) A (eval iter env) (fun xv s₁ => wpAny (model prog w) A (pyIter xv) (fun it s₂ => Drawn prog w A h₀ L m env elt tgt scope cl led n ts it s₂ ∧
      ∀ D h tk ys new, Fr h₀ L h (fun z => if z = y then some (.ref D) else m z) → News h₀ L h ((D, lst ys) :: (new ++ led)) → (∀ p ∈ (D, lst ys) :: new, ∀ q ∈ led, p.1 ≠ q.1) → (∀ p ∈ new, p.1 ≠ D) → Reps (new ++ led) ys ((List.range n).map ts) → 0 < tk → Q .next { s₂ with heap := h, toks := tk }) NE s₁) NE s)
    (hs : ∀ x, foldedSetIterable iter env x = pure x := by intro _; rfl) :
    wpC (model prog w) A (exec (.Assign [.Name y py] (.ListComp elt [⟨tgt, iter, [], 0⟩] scope pos) spos) env) Q E s := by
  subst hLe
  refine wpC.ne ?_
  rw [exec_Assign_Name_used _ _ _ _ hsw]
  refine wpC_leaf (wpAny_standAt (wpC_bind ?_))
  show wpC _ A (do let _ ← comprehension (.ListComp elt [⟨tgt, iter, [], 0⟩] scope pos) scope env _ (newList []) false (eval iter env) (some (assign (.Name y py) env))) _ _ s
  refine wpC_bind (wpC_mono (c_comprehension (use := some (assign (.Name y py) env)) (Q := fun _ s' => Q .next s') rfl hs hclos hkind hnames
    (wpC_mono h (fun xv s₁ h₁ => ?_) fun _ _ e => e)) (fun _ s' hq => wpC_pure (wpC_pure hq)) fun _ _ e => e)
  refine wpAny_mono h₁ (fun it s₂ h₂ => ?_) fun _ _ e => e
  obtain ⟨⟨I, fp, wr, loc, P, St, rfl, S, hloc, st0, hfp, F, N, hwr, htk, helt⟩, hQ⟩ := h₂
  refine c_comp_block S hsz hcell hkind hloc st0 hfp F N hwr htk helt fun D C h' tk m' ys new F' N' hn hC₀ hCL offC o1 o2 R htk' => ?_
  show wpAny _ A (assign (.Name y py) env (.ref D)) _ _ _
  refine wpAny_assign_Name (wpAny_storeName_local hy F'.ns (fun h₂ hn₂ hs₂ => ?_) hp)
  have hL₀ : h₀.get? env.locals = none := Heap.get?_none_of_le F'.above
  have F₂ : Fr h₀ env.locals h₂ (fun z => if z = y then some (.ref D) else m z) := ⟨hn₂, fun b o e => hs₂.extBut b o (fun q => by rw [q, hL₀] at e; cases e) (F'.keep b o e), F'.above⟩
  refine ⟨m', hn.sameBut hs₂ hCL, fun h'' hs'' => hQ D h'' _ ys new (F₂.change hs'' hCL hC₀) (fun p hp => ?_) o1 o2 R (Nat.lt_of_lt_of_le htk' (Nat.le_succ _))⟩
  have z : h₂.get? p.1 = some p.2 := hs₂.extBut _ _ (N' p hp).2.1 (N' p hp).1
  exact ⟨hs''.extBut _ _ (offC p hp) z, (N' p hp).2⟩

/-- a list of pairs, drawn into two names -/
theorem src_pairs {a b : Str} {pa pb tp : Pos} {kk : Nat} (hh : A.handled = none) (hab : a ≠ b) (I ax : Addr) (its : List Value) (pr : Nat → Addr) (v₁ v₂ : Nat → Value) (pf : Nat → Obj) (hne : ax ≠ I) (hI : ∀ i, i < its.length → pr i ≠ I)
    (hits : ∀ i (h : i < its.length), its[i] = .ref (pr i)) (hseq : ∀ i, i < its.length → ((pf i).cls = .type "list" ∨ (pf i).cls = .type "tuple") ∧ ∃ k, (pf i).data = .seq #[v₁ i, v₂ i] k) :
    Src prog w A (.Tuple [.Name a pa, .Name b pb] kk tp) I (I :: ax :: (List.range its.length).map pr) [I] its.length [a, b] (fun i m => m a = some (v₁ i) ∧ m b = some (v₂ i))
      (fun i h => h.IsListIter I ax i ∧ h.IsList ax its.toArray ∧ ∀ j, j < its.length → h.get? (pr j) = some (pf j)) where
  sub := fun c hc => by simp at hc; simp [hc]
  frame := fun i h h' st hk => ⟨st.1.at fun o e => hk I (by simp) o e, st.2.1.at fun o e => hk ax (by simp) o e, fun j hj => hk _ (by simp; exact .inr (.inr ⟨j, hj, rfl⟩)) _ (st.2.2 j hj)⟩
  live := fun i h st c hc => by
    rcases List.mem_cons.mp hc with rfl | hc
    · obtain ⟨o, e, _⟩ := st.1; exact ⟨o, e⟩
    · rcases List.mem_cons.mp hc with rfl | hc
      · obtain ⟨o, e, _⟩ := st.2.1; exact ⟨o, e⟩
      · obtain ⟨j, hj, rfl⟩ := List.mem_map.mp hc
        exact ⟨_, st.2.2 j (List.mem_range.mp hj)⟩
  turn := fun i s cenv m₀ Q hi st hkind hloc hCf hn hQ => by
    have ka := hloc a (by simp)
    have kb := hloc b (by simp)
    have hp : (cenv.scope.kind == .class || (cenv.scope.kind == .module && cenv.locals != cenv.globals)) = false := by rw [hkind]; rfl
    refine wpAny_pyNext_list_item st.1 st.2.1 (x := its[i]) (by simp [hi]) fun h₁ hit₁ hs₁ => ?_
    show wpAny _ _ (letOwnedTupleGo _ _ its[i]) _ _ _
    rw [hits i hi]
    refine wpAny_letOwnedTupleGo_listiter hit₁ ?_
    obtain ⟨hc, k, hd⟩ := hseq i hi
    have hpi : h₁.get? (pr i) = some (pf i) := hs₁.extBut _ _ (hI i hi) (st.2.2 i hi)
    have fin : ∀ (s' : Shared) (h₂ : Heap), s' = { s with heap := h₂ } → (∀ c o, c ≠ I → s.heap.get? c = some o → h₂.get? c = some o) → h₂.IsListIter I ax (i + 1) → 
        wpAny (model prog w) A (assignInOrder [assign (.Name a pa) cenv, assign (.Name b pb) cenv] [v₁ i, v₂ i]) (fun _ s₂ => Q s₂) NE s' := by
      rintro s' h₂ rfl hk hit₂
      have hCI : cenv.locals ≠ I := fun q => hCf (by rw [q]; exact .head _)
      refine assignInOrder_cons (wpAny_assign_Name (wpAny_storeName_local ka (hn.at' fun o e => hk _ o hCI e) (fun h₃ hn₃ hs₃ => ?_) hp))
      refine assignInOrder_cons (wpAny_assign_Name (wpAny_storeName_local kb hn₃ (fun h₄ hn₄ hs₄ => ?_) hp))
      refine assignInOrder_nil ?_
      have up : ∀ c o, c ≠ cenv.locals → h₂.get? c = some o → h₄.get? c = some o := fun c o hc e => hs₄.extBut c o hc (hs₃.extBut c o hc e)
      refine hQ h₄ _ _ hn₄ ⟨by simp [hab], by simp⟩ (fun x hx => ?_) ⟨hit₂.at fun o e => up _ o (Ne.symm hCI) e, (st.2.1.at fun o e => hk _ o hne e).at fun o e => up _ o (fun q => hCf (by rw [← q]; exact .tail _ (.head _))) e, fun j hj => up _ _ (fun q => hCf (by rw [← q]; exact .tail _ (.tail _ (List.mem_map.mpr ⟨j, List.mem_range.mpr hj, rfl⟩)))) (hk _ _ (hI j hj) (st.2.2 j hj))⟩ fun c o hc hc' e => up c o hc' (hk c o (fun q => hc (by simp [q])) e)
      have h1 : x ≠ b := fun q => hx (by simp [q])
      have h2 : x ≠ a := fun q => hx (by simp [q])
      simp [h1, h2]
    have go : ∀ h₂, Heap.ExtBut h₁.objs.size h₁ h₂ → wpAny (model prog w) A (assignInOrder [assign (.Name a pa) cenv, assign (.Name b pb) cenv] [v₁ i, v₂ i]) (fun _ s₂ => Q s₂) NE { s with heap := h₂ } := fun h₂ he => by
      have he' : ∀ c o, h₁.get? c = some o → h₂.get? c = some o := fun c o e => he c o (Nat.ne_of_lt (Heap.lt_size e)) e
      exact fin _ h₂ rfl (fun c o hc e => he' c o (hs₁.extBut c o hc e)) (hit₁.at fun o e => he' _ o e)
    rcases hc with hc | hc
    · exact assign_Tuple_list hh (items := #[v₁ i, v₂ i]) ⟨_, hpi, hc, k, hd⟩ rfl rfl go
    · exact assign_Tuple_tuple hh (show IsTup h₁ (pr i) #[v₁ i, v₂ i] from ⟨_, hpi, hc, k, hd⟩) rfl rfl go
  done := fun s Q st hQ => wpAny_pyNext_list_end hh st.1 st.2.1 (by simp) fun h' he' => hQ h' s.toks fun b o hb e => he' b o (fun h => hb (by simp [h])) e
  self := fun _ _ _ st hQ => wpAny_pyIter_listiter st.1 hQ
end
end Mine
end
section
open PySem PySem.W PyProof.Rows PySem.Calls
set_option maxRecDepth 100000
namespace Mine
namespace FM
theorem owner_map : Manifest.owners.lookup (String.ofList ['p', 'a', 'm'].reverse) = some Manifest.sig_map := by kernel_rfl
theorem slot_map_iter : Slot "map" "__iter__" "map.__iter__" :=
  .of (owner := "map") (n := "__iter__") (by rw [typeLookup_type, builtinLookup_eq_fast]; kernel_rfl) (by decide +kernel) (by decide +kernel) (by decide +kernel)
    (by first | exact .inl (by decide +kernel) | exact .inr (by decide +kernel)) (by rw [isSubtype_type]; kernel_rfl)
theorem slot_map_next : Slot "map" "__next__" "map.__next__" :=
  .of (owner := "map") (n := "__next__") (by rw [typeLookup_type, builtinLookup_eq_fast]; kernel_rfl) (by decide +kernel) (by decide +kernel) (by decide +kernel)
    (by first | exact .inl (by decide +kernel) | exact .inr (by decide +kernel)) (by rw [isSubtype_type]; kernel_rfl)
theorem slot_map_init : Slot "map" "__init__" "object.__init__" :=
  .of (owner := "object") (n := "__init__") (by rw [typeLookup_type, builtinLookup_eq_fast]; kernel_rfl) (by decide +kernel) (by decide +kernel) (by decide +kernel)
    (by first | exact .inl (by decide +kernel) | exact .inr (by decide +kernel)) (by rw [isSubtype_type]; kernel_rfl)
theorem args_map_iter_1 (a : Value) : argsOk "map.__iter__" ⟨[a], []⟩ := by
  unfold argsOk; rw [signature?_of (id := "map.__iter__") (n := ['_', '_', 'r', 'e', 't', 'i', '_', '_']) (o := ['p', 'a', 'm']) (by kernel_rfl) owner_map]; kernel_rfl
theorem args_map_next_1 (a : Value) : argsOk "map.__next__" ⟨[a], []⟩ := by
  unfold argsOk; rw [signature?_of (id := "map.__next__") (n := ['_', '_', 't', 'x', 'e', 'n', '_', '_']) (o := ['p', 'a', 'm']) (by kernel_rfl) owner_map]; kernel_rfl
theorem entry_map_iter : entryFor table "map.__iter__" = some Builtin.«dict_keyiterator.__iter__» :=
  entryFor_alias (id' := "dict_keyiterator.__iter__") (by kernel_rfl) (by first | rfl | decide +kernel | (unfold String.splitOn; simp +decide [String.splitOnAux])) (by decide +kernel) (by kernel_rfl)
theorem entry_map_next : entryFor table "map.__next__" = some Builtin.«map.__next__» := entryFor_of_tree (by kernel_rfl)
theorem mro_map : mroOf (.type "map") = pure [.type "map", .type "object"] := by rw [mroOf_type]; kernel_rfl
theorem lookup_map_new : typeLookup (.type "map") "__new__" = pure (some (.builtin "map.__new__")) := by rw [typeLookup_type, builtinLookup_eq_fast]; kernel_rfl
theorem called_map : TypeCalled "map" "map.__new__" "object.__init__" :=
  ⟨by decide +kernel, by decide +kernel, ⟨_, _, mro_map⟩, madeBy_type mro_map lookup_map_new (by decide +kernel), by decide +kernel, by rw [isSubtype_type]; kernel_rfl, slot_map_init⟩
theorem typeCall_map_2 (a b : Value) : checkTypeCall "map" ⟨[a, b], []⟩ = pure () := by kernel_rfl
theorem newCall_map_2 (a b : Value) : checkBuiltinCall "map.__new__" ⟨[.type "map", a, b], []⟩ = pure () := by kernel_rfl
theorem entry_map_new : entryFor table "map.__new__" = some Builtin.«map.__new__» := entryFor_of_tree (by kernel_rfl)
theorem sub_map : isSubtype (.type "map") (.type "map") = pure true := by rw [isSubtype_type]; kernel_rfl
end FM
abbrev IsMap (h : Heap) (mp TI : Addr) (f : Value) : Prop := h.get? mp = some { cls := .type "map", dict := none, data := .fields #[.ref TI, f], slots := #[] }
abbrev IsOne (h : Heap) (T : Addr) (a : Value) : Prop := h.get? T = some { cls := .type "tuple", data := .seq #[a] }

section
variable {prog : Program} {w : World} {A : Around} {E : Value → Shared → Prop} {s : Shared}
theorem wpAny_pyIter_map {mp TI : Addr} {f : Value} {Q : Value → Shared → Prop} (hm : IsMap s.heap mp TI f) (h : Q (.ref mp) s) : wpAny (model prog w) A (pyIter (.ref mp)) Q E s := by
  have hT : s.TypeIs (.ref mp) "map" := ⟨_, hm, rfl⟩
  refine wpAny_pyIter_slot hT FM.slot_map_iter (wpAny_call_entry FM.slot_map_iter hT FM.entry_map_iter ?_ (FM.args_map_iter_1 _))
  show wpAny _ _ (ret (.ref mp)) _ _ s
  exact wpAny_pure ⟨_, rfl, "map", _, hT, FM.slot_map_next.lookup, h⟩

abbrev mapH1 (h : Heap) (it : Addr) : Heap := h.push { cls := .type "tuple", data := .seq #[.ref it] }
abbrev mapH2 (h : Heap) (it : Addr) (f : Value) : Heap := (mapH1 h it).push { cls := .type "map", data := .fields #[.ref h.objs.size, f] }
theorem meets_map_new (it l : Addr) (i : Nat) (f : Value) :
    Meets (Builtin.«map.__new__» ⟨[.type "map", f, .ref it], []⟩) (fun _ R s => s.heap.IsListIter it l i ∧
      R (.ok (.ret (.ref (mapH1 s.heap it).objs.size))) { s with heap := mapH2 s.heap it f }) :=
  .of_wp fun prog w A R s h => by
    obtain ⟨hp, g, d, tk, os⟩ := s; obtain ⟨hl1, h⟩ := h
    have hsub := FM.sub_map
    have hL1 : Heap.IsListIter (Shared.heap ⟨hp, g, d, tk, os⟩) it l i := hl1
    wp_walk using wpAny_pyIter_listiter hL1
    exact ⟨_, rfl, h⟩
theorem call_map_it {it l : Addr} {i : Nat} {f : Value} {Q : Value → Shared → Prop} (hl : s.heap.IsListIter it l i)
    (h : ∀ h', IsMap h' (s.heap.objs.size + 1) s.heap.objs.size f → IsOne h' s.heap.objs.size (.ref it) → h'.objs.size = s.heap.objs.size + 2 → (∀ c o, s.heap.get? c = some o → h'.get? c = some o) →
      Q (.ref (s.heap.objs.size + 1)) { s with heap := h' }) : wpAny (model prog w) A (call (.type "map") [f, .ref it]) Q E s := by
  refine callType_new FM.called_map (by decide) (FM.typeCall_map_2 _ _) (FM.newCall_map_2 _ _) (fun obj => PySem.F.args_object_init_3 obj _ _) FM.entry_map_new
    (meets_map_new it l i f) ⟨hl, ?_⟩
  have z1 : (mapH1 s.heap it).objs.size = s.heap.objs.size + 1 := Heap.size_push ..
  have z2 : (mapH2 s.heap it f).objs.size = s.heap.objs.size + 2 := by rw [Heap.size_push, z1]
  have g2 : (mapH2 s.heap it f).get? (mapH1 s.heap it).objs.size = some _ := Heap.get?_push_size _ rfl
  have g1 : (mapH2 s.heap it f).get? s.heap.objs.size = some _ := Heap.get?_push_of_some _ (Heap.get?_push_size _ rfl)
  show _ ∧ _
  rw [z1] at g2 ⊢
  exact ⟨⟨_, g2, rfl⟩, h _ g2 g1 z2 fun c o x => Heap.get?_push_of_some _ (Heap.get?_push_of_some _ x)⟩

/-- zip of two iterators that are their own iterators -/
abbrev zpH1 (h : Heap) (a b : Addr) : Heap := h.push { cls := .type "tuple", data := .seq #[.ref a, .ref b] }
abbrev zpH2 (h : Heap) (a b : Addr) : Heap := (zpH1 h a b).push { cls := .type "tuple", data := .seq #[.none, .none] }
abbrev zpH3 (h : Heap) (a b : Addr) : Heap := (zpH2 h a b).push { cls := .type "zip", data := .fields #[.none, .bool false, .bool false, .ref h.objs.size, .ref (zpH1 h a b).objs.size] }
theorem meets_zip_new_its (a b l : Addr) (i : Nat) (K : Heap → Prop) (hK : ∀ (prog : Program) (w : World) (A : Around) (E : Value → Shared → Prop) (s : Shared) (Q : Value → Shared → Prop), K s.heap → Q (.ref b) s → wpAny (model prog w) A (pyIter (.ref b)) Q E s) :
    Meets (Builtin.«zip.__new__» ⟨[.type "zip", .ref a, .ref b], []⟩) (fun _ R s => s.heap.IsListIter a l i ∧ K s.heap ∧
      R (.ok (.ret (.ref (zpH2 s.heap a b).objs.size))) { s with heap := zpH3 s.heap a b }) :=
  .of_wp fun prog w A R s h => by
    obtain ⟨hp, g, d, tk, os⟩ := s; obtain ⟨hl1, hk, h⟩ := h
    have hsub := sub_zip
    have hL1 : Heap.IsListIter (Shared.heap ⟨hp, g, d, tk, os⟩) a l i := hl1
    have hK1 : ∀ (A : Around) (E : Value → Shared → Prop) (Q : Value → Shared → Prop), Q (.ref b) ⟨hp, g, d, tk, os⟩ → wpAny (model prog w) A (pyIter (.ref b)) Q E ⟨hp, g, d, tk, os⟩ := fun A E Q q => hK prog w A E _ Q hk q
    wp_walk using wpAny_pyIter_listiter hL1, hK1 _ _ _
    exact ⟨_, rfl, h⟩
end
end Mine
end
section
open PySem PySem.W PyProof.Rows PySem.Calls
set_option maxRecDepth 100000
namespace Mine
section
variable {prog : Program} {w : World} {A : Around} {E : Value → Shared → Prop} {s : Shared}
theorem c_call_slot {T : String} {name : Str} {id : String} {b : Builtin} {self : Value} {rest : List Value} {Q : Value → Shared → Prop} (h : Slot T name id) (hT : s.TypeIs self T)
    (hb : entryFor table id = some b)
    (hc : wpC (model prog w) A.in1 (b ⟨self :: rest, []⟩) (fun fin s' => match fin with | .done f => (match f with | .ret v => Q v s' | _ => False) | .again c' => c'.quiet = true ∧ codeC (model prog w) A c' (fun r s' => match r with | .ok (.ret v) => Q v s' | .ok _ => False | .error e => E e s') s') E s)
    (ha : argsOk id ⟨self :: rest, []⟩) : wpC (model prog w) A (call (.builtin id) (self :: rest)) Q E s := by
  refine wpC_call (codeC_call_builtin h.plain hb (h.check _ _ _ _ _ _ _ _ hT ha (wpC_mono hc (fun fin s' h' => ?_) fun _ _ h' => h')))
  cases fin with
  | done f => cases f <;> exact h'
  | again c => exact h'
theorem c_callSpecial_slot {self : Value} {T : String} {name : Str} {id : String} {args : List Value} {Q : Option Value → Shared → Prop} (hT : s.TypeIs self T) (h : Slot T name id)
    (hc : wpC (model prog w) A (call (.builtin id) (self :: args)) (fun v => Q (some v)) E s) : wpC (model prog w) A (callSpecial? self name args) Q E s := by
  simp only [callSpecial?]
  refine wpC_leaf (wpAny_specialOf hT h.lookup ?_)
  simp only [h.bind]
  exact wpC_holding (wpC_bind (wpC_pure (wpC_bind (wpC_mono hc (fun v s' h' => wpC_pure h') fun _ _ h' => h'))))
theorem c_callType {T newId initId : String} {args : List Value} {Q : Value → Shared → Prop} (ft : TypeCalled T newId initId)
    (hct : checkTypeCall T ⟨args, []⟩ = pure ())
    (hnew : wpC (model prog w) A.in1 (call (.builtin newId) (.type T :: args)) (fun obj s₁ => s₁.TypeIs obj T ∧ wpC (model prog w) A.in1 (call (.builtin initId) (obj :: args)) (fun r s₂ => r = .none ∧ Q obj s₂) E s₁) E s) :
    wpC (model prog w) A (call (.type T) args) Q E s := by
  obtain ⟨c, tl, hmro⟩ := ft.mro
  have hmade := ft.made
  have hsub := ft.sub
  refine wpC_call (codeC_of_tree ?_)
  show wpC _ _ (callAny (.type T) _) _ _ _
  refine wpC_pure ⟨Code.quiet_builtin _ (by decide +kernel), codeC_builtin F.entry_type_call ?_⟩
  rw [Around.under_plain (weight_type_call_type T args []) rfl]
  have h1 := ft.notType
  have h2 := ft.canCreate
  show wpC (model prog w) A.in1 (Builtin.«type.__call__» ⟨.type T :: args, []⟩) _ _ s
  unfold Builtin.«type.__call__»
  simp only [h1, h2, hct, hmro, hmade, pure_bind, Bool.false_eq_true, if_false, List.isEmpty_cons]
  refine wpC_bind (wpC_holding (wpC_mono hnew (fun obj s₁ h₁ => ?_) fun _ _ e => e))
  refine wpC_leaf (wpAny_isInstance (T := T) (b := true) h₁.1 hsub ?_)
  simp only [Bool.not_true, Bool.false_eq_true, if_false, pure_bind]
  refine wpC_bind (wpC_holding (c_callSpecial_slot h₁.1 ft.init (wpC_mono h₁.2 (fun r s₂ h₂ => ?_) fun _ _ e => e)))
  obtain ⟨rfl, h₂⟩ := h₂
  exact wpC_pure h₂
end
end Mine
end
section
open PySem PySem.W PyProof.Rows PySem.Calls PySem.Flt
set_option maxRecDepth 100000
namespace Mine
set_option maxHeartbeats 4000000 in
theorem gives_bytes_int {q : Int} (hq : Qok q) (h4 : q.natAbs % 4 = 0) (u : Tok) : Gives (Builtin.«int.__new__» ⟨[.type "int", .bytes (Wt q) u], []⟩) (.int (Int.tdiv q 4)) :=
  .of_wp fun M A E s Q h => by
    obtain ⟨hp, g, d, tk, os⟩ := s
    have f1 := F.conv_sub_int
    have f2 := F.madeHere_int
    have f3 := bytes_int
    have f4 := bytes_index
    have f5 := bytes_trunc
    have f6 : typeOf (.bytes (Wt q) u) = pure (.type "bytes") := rfl
    have hw := Wt_nat q
    have hs : ((txt q).takeWhile (· != 0)).length ≤ 640 := by rw [txt_seen]; have := txt_len hq; omega
    have hr : (int_private% "readNumeral") 0 10 ((txt q).takeWhile (· != 0)) = (int_private% "Numeral.value") (Int.tdiv q 4) := by rw [txt_seen]; exact read_whole hq h4
    have ha : (((txt q).takeWhile (· != 0)).length == (txt q).length) = true := by rw [txt_seen]; exact beq_self_eq_true _
    have hk := KIN.Hid.mk (And.intro hs (And.intro hr ha))
    clear hs hr ha
    repeat (any_goals (first
      | assumption
      | ((with_reducible show wpAny _ _ ((int_private% "intFromText") _ _ _) _ _ _); (try dsimp only); rw [hw]; refine KIN.wp_text hk.out.1 hk.out.2.1 hk.out.2.2 ?_)
      | wp_step))
    all_goals first | exact ⟨_, rfl, h⟩ | skip
section
variable {prog : Program} {w : World} {A : Around} {E : Value → Shared → Prop} {s : Shared} {Q : Value → Shared → Prop}
theorem call_int_bytes {q : Int} (hq : Qok q) (h4 : q.natAbs % 4 = 0) {u : Tok} (h : Q (.int (Int.tdiv q 4) s.toks) { s with toks := s.toks + 1 }) : wpAny (model prog w) A (call (.type "int") [.bytes (Wt q) u]) Q E s :=
  call_int_1 (gives_bytes_int hq h4 u).meets (show (Made.int _).post _ s from ⟨rfl, h⟩)
end
end Mine
end
section
open PySem PySem.W PyProof.Rows PySem.Calls PySem.Flt
set_option maxRecDepth 100000
namespace Mine
section
variable {prog : Program} {w : World} {A : Around} {E : Value → Shared → Prop} {s : Shared}
theorem c_int_new {b : Array UInt8} {u : Tok} {Q : Fin → Shared → Prop} (h : wpC (model prog w) A ((int_private% "intFromText") (.bytes b u) (b.toList.map (·.toNat)) 10) (fun v s' => Q (.done (.ret v)) s') E s) :
    wpC (model prog w) A (Builtin.«int.__new__» ⟨[.type "int", .bytes b u], []⟩) Q E s := by
  show wpC _ _ (isSubtype (.type "int") (.type "int") >>= _) _ _ _
  rw [F.conv_sub_int, pure_bind]
  show wpC _ _ (Bind.madeHere "int.__new__" (.type "int") >>= _) _ _ _
  rw [F.madeHere_int, pure_bind]
  show wpC _ _ ((int_private% "intFromObject") (.bytes b u) >>= _) _ _ _
  refine wpC_bind ?_
  show wpC _ _ (callSpecial? (.bytes b u) (Str.ofString "__int__") >>= _) _ _ s
  refine wpC_leaf (wpAny_callSpecial?_none (T := "bytes") rfl bytes_int ?_)
  show wpC _ _ (specialOf (.bytes b u) (Str.ofString "__index__") >>= _) _ _ s
  refine wpC_leaf (wpAny_specialOf (T := "bytes") rfl bytes_index ?_)
  show wpC _ _ (specialOf (.bytes b u) (Str.ofString "__trunc__") >>= _) _ _ s
  refine wpC_leaf (wpAny_specialOf (T := "bytes") rfl bytes_trunc ?_)
  refine wpC_mono h (fun v s' hq => ?_) fun _ _ e => e
  exact wpC_pure hq

theorem slot_bytes_repr : Slot "bytes" "__repr__" "bytes.__repr__" :=
  .of (owner := "bytes") (n := "__repr__") (by rw [typeLookup_type, builtinLookup_eq_fast]; kernel_rfl) (by decide +kernel) (by decide +kernel) (by decide +kernel)
    (by first | exact .inl (by decide +kernel) | exact .inr (by decide +kernel)) (by rw [isSubtype_type]; kernel_rfl)
theorem entry_bytes_repr : entryFor table "bytes.__repr__" = some Builtin.«bytes.__repr__» := entryFor_of_tree (by kernel_rfl)
theorem args_bytes_repr_1 (a : Value) : argsOk "bytes.__repr__" ⟨[a], []⟩ := by
  unfold argsOk; rw [signature?_of (id := "bytes.__repr__") (n := ['_', '_', 'r', 'p', 'e', 'r', '_', '_']) (o := ['s', 'e', 't', 'y', 'b']) (by kernel_rfl) FB.owner_bytes]; kernel_rfl
theorem gives_bytes_repr (b : Array UInt8) (t : Tok) (hb : b.size ≤ 200) : Gives (Builtin.«bytes.__repr__» ⟨[.bytes b t], []⟩) (.str (Builtin.Bytes.literal b false)) := by
  refine .of_wp fun M A E s Q hq => ?_
  show wpAny M A (Builtin.Bytes.literalAsked b >>= fun x => retStr x) _ E s
  unfold Builtin.Bytes.literalAsked
  have h1 : Builtin.Bytes.tooLong (4 * b.size + 3 + 0) = false := KBy.tooLong_not (by omega)
  rw [h1, Bool.false_and]
  refine wpAny_bind ?_
  rw [if_neg Bool.false_ne_true]
  refine wpAny_pure ?_
  refine wpAny_bind (m := mkStr _) (wpAny_mkStr (wpAny_pure ⟨_, rfl, hq.2⟩) hq.1)
theorem fold_len {f : UInt8 → Array Nat} (hf : ∀ c, (f c).size ≤ 4) : ∀ (l : List UInt8) (a : Array Nat), (l.foldl (fun acc c => acc ++ f c) a).size ≤ a.size + 4 * l.length
  | [], a => by simp
  | c :: l, a => by
    have h1 := fold_len hf l (a ++ f c)
    have h2 := hf c
    rw [List.foldl_cons, List.length_cons]
    rw [Array.size_append] at h1
    omega
theorem literal_len (b : Array UInt8) : (Builtin.Bytes.literal b false).length ≤ 3 + 4 * b.size := by
  unfold Builtin.Bytes.literal PySem.Str.length
  dsimp only
  rw [Array.size_push, ← Array.foldl_toList]
  refine Nat.le_trans (Nat.succ_le_succ (fold_len (fun c => ?_) _ _)) ?_
  · repeat' split
    all_goals simp
  · simp
    omega

theorem wpAny_pyRepr_bytes {b : Array UInt8} {t : Tok} {Q : Str → Shared → Prop} (hb : b.size ≤ 200) (h : ∀ x : Str, Q x { s with toks := s.toks + 1 }) : wpAny (model prog w) A (pyRepr (.bytes b t)) Q E s := by
  unfold pyRepr
  refine wpAny_bind (wpAny_pyReprObj_gives (T := "bytes") rfl slot_bytes_repr entry_bytes_repr (args_bytes_repr_1 _) (gives_bytes_repr b t hb) ?_ rfl (by have := literal_len b; rw [sizeLine_eq]; omega))
  exact wpAny_pure (h _)

theorem c_intFromText_part {q : Int} (hq : Qok q) (h4 : q.natAbs % 4 ≠ 0) (hh : A.handled = none) {u : Tok} {Q : Value → Shared → Prop} (h : ∀ h' tk e, Heap.NewExc s.heap h' e "ValueError" → E (.ref e) { s with heap := h', toks := tk }) :
    wpC (model prog w) A ((int_private% "intFromText") (.bytes (Wt q) u) ((Wt q).toList.map (·.toNat)) 10) Q E s := by
  rw [Wt_nat]
  show wpC _ _ (if ((txt q).takeWhile (· != 0)).length ≤ 640 then ((pure 0 : Sem Nat) >>= _) else _) _ _ _
  rw [txt_seen, if_pos (by have := txt_len hq; omega), pure_bind]
  dsimp only
  rw [read_part h4]
  dsimp only
  have hlow : (List.take 200 (txt q)).any (fun x => decide (x ≥ 128)) = false := by
    have := txt_low q
    rw [List.any_eq_false] at this ⊢
    exact fun c hc => this c (List.mem_of_mem_take hc)
  show wpC _ _ ((pure (some (Wt q)) : Sem (Option (Array UInt8))) >>= _) _ _ _
  rw [pure_bind]
  simp only [Option.isSome_some, Bool.true_and, hlow, Bool.false_eq_true, if_false]
  refine wpC_leaf (wpAny_rule ?_)
  show wpC _ _ ((pure (some (Wt q)) : Sem (Option (Array UInt8))) >>= _) _ _ _
  rw [pure_bind]
  dsimp only
  have hz : ((Wt q).extract 0 200).size ≤ 200 := by simp; omega
  refine wpC_leaf (wpAny_mkBytes ?_ (by rw [sizeLine_eq]; omega))
  refine wpC_leaf (wpAny_pyRepr_bytes hz fun x => ?_)
  refine wpC_leaf (wpAny_mkStr ?_ ?_)
  · unfold newExc newTuple
    refine wpC_bind ?_
    refine wpC_leaf (wpAny_newObj_type ?_)
    refine wpC_leaf (m := firstArgMember _ _) (wpAny_of_eq (a := Value.none) (by simp only [firstArgMember, plainExc_ValueError.first]; rfl) ?_)
    rw [plainExc_ValueError.own]
    refine .any (wpAny_newObj_type ?_)
    refine wpC_bind (wpC_markTheRefusal ?_)
    refine .any (wpAny_raiseNew_none hh ?_)
    exact h _ _ _ ⟨fun b o hb => Heap.get?_push_of_some _ (Heap.get?_push_of_some _ hb), Heap.get?_none_of_le (by simp), _, .ref s.heap.objs.size, Heap.get?_push_size _ rfl, rfl, by simp⟩
  · rw [sizeLine_eq, PySem.Str.length_append]
    have : (⟨x.cps.extract 0 200⟩ : Str).length ≤ 200 := by show (x.cps.extract 0 200).size ≤ 200; simp; omega
    have h2 : (Str.ofString (toString "invalid literal for int() with base " ++ toString 10 ++ toString ": ")).length ≤ 100 := by decide
    omega
theorem c_call_int_part {q : Int} (hq : Qok q) (h4 : q.natAbs % 4 ≠ 0) (hh : A.handled = none) {u : Tok} {Q : Value → Shared → Prop} (h : ∀ h' tk e, Heap.NewExc s.heap h' e "ValueError" → E (.ref e) { s with heap := h', toks := tk }) :
    wpC (model prog w) A (call (.type "int") [.bytes (Wt q) u]) Q E s := by
  refine c_callType F.called_int (F.typeCall_int_1 _) ?_
  refine wpC_call (codeC_call_builtin (show plainId "int.__new__" = true from F.called_int.plain) F.entry_int_new (wpAny_of_eq (F.newCall_int_1 _) ?_))
  exact c_int_new (c_intFromText_part (A := A.in1.in1) hq h4 hh (fun h' tk e x => h h' tk e x))
end
end Mine
end
section
open PySem PySem.W PyProof.Rows PySem.Calls
open PyProof.Rows.TI (Frs SameUp)
set_option maxRecDepth 100000
namespace Mine
abbrev PG : Program := PySem.Challenge.rw_fr0008_01.row.prog
abbrev aT (hh : Option Value) (dp un : Nat) (gd : Option (List Code)) (l : List Env) : Around := { handled := hh, depth := dp, frames := some l, guards := gd, units := un }

/-- the ground beneath all frames -/
structure Gd (w : World) (p : Program) (loose : List Str) (mean : ExcName → Option Value) (mg mb : Str → Option Value) (g : Heap) : Prop where
  X : (hd.heap_39 w.params).In g
  T : Top p loose mean mg mb g
  C : CodeHd g 20 16

/-- the frame at hand, the ledger, and the frames below it -/
structure At (g : Heap) (outer : List Env) (frs : List (Addr × Obj)) (L : Addr) (m : Str → Option Value) (led : List (Addr × Obj)) (h : Heap) : Prop where
  F : Fr g L h m
  N : News g L h (led ++ frs)
  ap : ∀ p ∈ led, ∀ q ∈ frs, p.1 ≠ q.1
  Fs : Frs outer frs

/-- a call's contract -/
def Ct (any : Bool) (w : World) (p : Program) (loose : List Str) (mean : ExcName → Option Value) (mg mb : Str → Option Value) (f : Value) (pos : List Value) (kw : List (Str × Value)) (dpt : Nat) (led : List (Addr × Obj)) (Post : Value → List (Addr × Obj) → Prop) : Prop :=
  ∀ (hh : Option Value) (dp un : Nat) (gd : Option (List Code)) (env : Env) (outer : List Env) (frs : List (Addr × Obj)) (g : Heap) (L : Addr) (m : Str → Option Value) (s : Shared) (Q E : Value → Shared → Prop),
    (any = true ∨ hh = none) → Gd w p loose mean mg mb g → At g outer frs L m led s.heap → env.frame = some L → env.scope.kind = .function → dp + dpt < recursionLimit → un + 20 * dpt < cLine → 0 < s.toks →
    (∀ r led' h' tk' frs', SameUp frs frs' → At g outer frs' L m led' h' → Post r led' → 0 < tk' → Q r { s with heap := h', toks := tk' }) →
    wpC (model PG w) (aT hh dp un gd (env :: outer)) (call f pos kw) Q E s

/-- how a body ends -/
def Ends (g : Heap) (outer : List Env) (frs : List (Addr × Obj)) (L : Addr) (s : Shared) (Post : Value → List (Addr × Obj) → Prop) (fl : Flow) (s' : Shared) : Prop :=
  ∃ h' tk' m' led' frs', s' = { s with heap := h', toks := tk' } ∧ SameUp frs frs' ∧ At g outer frs' L m' led' h' ∧ 0 < tk' ∧ Post (match fl with | .ret v => v | _ => .none) led'

theorem SameUp_dict {frs frs' : List (Addr × Obj)} (S : SameUp frs frs') {l : List Env} (Fs : Frs l frs) : Frs l frs' := Fs.up S

section
variable {w : World} {p : Program} {loose : List Str} {mean : ExcName → Option Value} {mg mb : Str → Option Value}
variable {g : Heap} {outer : List Env} {frs : List (Addr × Obj)} {L : Addr} {m : Str → Option Value} {led : List (Addr × Obj)} {h : Heap}

theorem statics_empty (w : World) : ((hd.heap_39 w.params).lookup 2).map (fun o => match o.data with | .dict es _ => es.isEmpty | _ => false) = some true := by kernel_rfl
theorem Gd.booked (G : Gd w p loose mean mg mb g) : NoneBooked g := by
  have e := statics_empty w
  cases q : (hd.heap_39 w.params).lookup 2 with
  | none => rw [q] at e; cases e
  | some o =>
    rw [q] at e
    have hg := G.X 2 o q
    obtain ⟨oc, od, dt, sl⟩ := o
    cases dt with
    | dict es ep =>
      have e' : es.isEmpty = true := Option.some.inj e
      have : es = #[] := by simpa using e'
      subst this
      exact ⟨fun _ => none, ⟨_, #[], ep, hg, rfl, by intro e he; simp at he, fun name => by first | rfl | (simp only [nsFind]; rfl) | (unfold nsFind findBy; simp)⟩, rfl⟩
    | _ => cases (Option.some.inj e)
theorem NoneBooked.keeps {h h' : Heap} (x : NoneBooked h) (k : ∀ b o, h.get? b = some o → h'.get? b = some o) : NoneBooked h' := by
  obtain ⟨mc, hn, e⟩ := x
  exact ⟨mc, hn.keeps k, e⟩
/-- the frame that calls goes below -/
theorem At.enter {env : Env} (Z : At g outer frs L m led h) (he : env.frame = some L) (hk : env.scope.kind = .function) :
    ∃ oL, h.get? L = some oL ∧ Frs (env :: outer) ((L, oL) :: frs) ∧ ∀ (sl : Array (Option Value)) (h' : Heap), h'.get? L = some { oL with slots := sl } → h'.Ns L m := by
  obtain ⟨oL, es, ep, hL, hLd, r⟩ := Z.F.ns
  refine ⟨oL, hL, ⟨by rw [hk]; decide, he, ⟨es, ep, hLd⟩, Z.Fs⟩, fun sl h' e => ⟨_, es, ep, e, hLd, r⟩⟩

/-- back in the caller's frame -/
theorem At.back {env : Env} {L' : Addr} {m' : Str → Option Value} {oL : Obj} {led' frs' : List (Addr × Obj)} {h' : Heap} (Z' : At g (env :: outer) frs' L' m' led' h') (S : SameUp ((L, oL) :: frs) frs') (Fs : Frs outer frs)
    (hL : ∀ (sl : Array (Option Value)) (h' : Heap), h'.get? L = some { oL with slots := sl } → h'.Ns L m) (hab : g.objs.size ≤ L) (hne : ∀ x ∈ frs, x.1 ≠ L) :
    ∃ frs₁, SameUp frs frs₁ ∧ At g outer frs₁ L m led' h' := by
  cases frs' with
  | nil => exact False.elim S
  | cons q frs₁ =>
    obtain ⟨h1, ⟨sl, h2⟩, S₁⟩ := S
    obtain ⟨qa, qo⟩ := q
    obtain rfl : qa = L := h1
    obtain rfl : qo = { oL with slots := sl } := h2
    have hq := Z'.N (qa, { oL with slots := sl }) (List.mem_append_right _ (.head _))
    refine ⟨frs₁, S₁, ⟨⟨hL sl h' hq.1, Z'.F.keep, hab⟩, fun x hx => ?_, fun x hx y hy => Z'.ap x hx y (.tail _ hy), Fs.up S₁⟩⟩
    rcases List.mem_append.mp hx with hx | hx
    · have a := Z'.N x (List.mem_append_left _ hx)
      exact ⟨a.1, Z'.ap x hx _ (.head _), a.2.2⟩
    · have a := Z'.N x (List.mem_append_right _ (.tail _ hx))
      obtain ⟨y, hy, e⟩ := S₁.fwd x hx
      exact ⟨a.1, fun q => hne y hy (e.symm.trans q), a.2.2⟩
end

section
variable {w : World} {A : Around} {s : Shared} {g : Heap} {outer : List Env} {frs : List (Addr × Obj)} {L : Addr} {m : Str → Option Value} {led : List (Addr × Obj)} {env : Env}
  {R : Result → Shared → Prop} {qual : Str} {body : List Stmt} {scope : Scope} {cdv : Value} {f : Addr} {binds : List (Str × Value)}

theorem codeC_funcN {prog : Program} {body env} (h : wpC (model prog w) (A.deeper env) (execs body env) (fun f s' => R (.ok (.ret (match f with | .ret v => v | _ => .none))) s') NE s) : codeC (model prog w) A (.func body env) R s :=
  codeC_func (wpC_mono h (fun _ _ x => x) fun _ _ x => x.elim)

/-- a frame, with cells or without, behind the binding -/
theorem frame_at {E : Value → Shared → Prop} (Z : At g outer frs L m led s.heap) (hlim : g.NoLimit) (hf : env.frame = some L) (hke : env.scope.kind = .function) (htk : 0 < s.toks)
    (hkind : ∀ n, ∀ x ∈ binds, scope.names.lookup x.1 = some .local ∨ (scope.names.lookup x.1 = some .cell ∧ ((cellsFrom n scope.names []).lookup x.1).isSome = true))
    (hnd : ((cellsFrom 0 scope.names []).map (·.1)).Nodup) (hk : scope.kind = .function)
    (h : ∀ L' h₁ tk cells oL, At g (env :: outer) ((L, oL) :: frs) L' (bindL (envOfC qual scope L' f cdv).kindOf binds fun _ => none) (cells ++ led) h₁ →
      CellsAre (bindC (envOfC qual scope L' f cdv).kindOf binds fun _ => none) (cellsFrom (L' + 1) scope.names []) cells → (∀ p ∈ led, p.1 < L') → (∀ p ∈ cells, L' < p.1) → 0 < tk →
      wpC (model PG w) (A.deeper (envOfC qual scope L' f cdv)) (execs body (envOfC qual scope L' f cdv))
        (fun fl s' => ∃ h' tk' m' led' frs', s' = { s with heap := h', toks := tk' } ∧ SameUp ((L, oL) :: frs) frs' ∧ At g (env :: outer) frs' L' m' led' h' ∧ 0 < tk' ∧
          (∀ frs₁, SameUp frs frs₁ → At g outer frs₁ L m led' h' → R (.ok (.ret (match fl with | .ret v => v | _ => .none))) s')) NE
        { s with heap := h₁, toks := tk }) :
    wpAny (model PG w) A.in1 (newFunctionEnv scope mainGlobals [] binds (qual ++ ".<locals>.") (some f) cdv none builtinsNs) (fun env' s₂ => s₂.heap.NoLimit ∧ codeC (model PG w) A (.func body env') R s₂) E s := by
  obtain ⟨oL, hL, Fs', hLb⟩ := Z.enter hf hke
  refine wpAny_tk (n := 1) htk (wpAny_newFunctionEnv_cells hk (hkind _) fun env' he s' x htk' => ?_)
  subst he
  refine ⟨(hlim.keeps Z.F.keep).keeps x.toInCall.keep, codeC_funcN ?_⟩
  obtain ⟨h₁, tk, rfl, _⟩ := x.done
  have hk₁ := x.toInCall.keep
  have hLt : L < s.heap.objs.size := Heap.lt_size hL
  have hgL : g.objs.size ≤ s.heap.objs.size := Nat.le_trans Z.F.above (Nat.le_of_lt hLt)
  obtain ⟨cells, NC, Y⟩ := Cl.news (h₀ := s.heap) (Nat.le_refl _) fun n c hm => ⟨x.cell n c (lookup_of_mem_nodup (cellsFrom_names scope.names 0 (s.heap.objs.size + 1) [] [] rfl ▸ hnd) hm), x.above n c hm⟩
  have cabove : ∀ p ∈ cells, s.heap.objs.size < p.1 := by
    clear NC
    intro p hp
    have key : ∀ {cs : List (Str × Addr)} {cl : List (Addr × Obj)}, CellsAre (bindC (envOfC qual scope s.heap.objs.size f cdv).kindOf binds fun _ => none) cs cl → (∀ n c, (n, c) ∈ cs → s.heap.objs.size < c) → ∀ p ∈ cl, s.heap.objs.size < p.1 := by
      intro cs cl hc
      induction hc with
      | nil => intro _ p hp; cases hp
      | cons hd hr ih =>
        intro hb p hp
        rcases List.mem_cons.mp hp with rfl | hp
        · exact hb _ _ (.head _)
        · exact ih (fun n c hm => hb n c (.tail _ hm)) p hp
    exact key Y (fun n c hm => x.above n c hm) p hp
  have fresh₀ : ∀ a, s.heap.objs.size ≤ a → g.get? a = none := fun a ha => Heap.get?_none_of_le (Nat.le_trans hgL ha)
  refine wpC_mono (h s.heap.objs.size h₁ tk cells oL ⟨⟨x.toInCall.ns, fun b o e => hk₁ b o (Z.F.keep b o e), hgL⟩, fun q hq => ?_, fun q hq y hy => ?_, Fs'⟩ Y (fun q hq => Heap.lt_size (Z.N q (List.mem_append_left _ hq)).1) cabove htk')
    (fun fl s' hs => ?_) fun _ _ e => e
  · rcases List.mem_append.mp hq with hq | hq
    · rcases List.mem_append.mp hq with hq | hq
      · exact ⟨(NC q hq).1, (NC q hq).2.1, fresh₀ _ (Nat.le_of_lt (cabove q hq))⟩
      · have a := Z.N q (List.mem_append_left _ hq)
        exact ⟨hk₁ _ _ a.1, Nat.ne_of_lt (Heap.lt_size a.1), a.2.2⟩
    · rcases List.mem_cons.mp hq with rfl | hq
      · exact ⟨hk₁ _ _ hL, Nat.ne_of_lt hLt, Heap.get?_none_of_le Z.F.above⟩
      · have a := Z.N q (List.mem_append_right _ hq)
        exact ⟨hk₁ _ _ a.1, Nat.ne_of_lt (Heap.lt_size a.1), a.2.2⟩
  · rcases List.mem_append.mp hq with hq | hq
    · have a := cabove q hq
      rcases List.mem_cons.mp hy with rfl | hy
      · exact Nat.ne_of_gt (Nat.lt_trans hLt a)
      · exact Nat.ne_of_gt (Nat.lt_trans (Heap.lt_size (Z.N y (List.mem_append_right _ hy)).1) a)
    · rcases List.mem_cons.mp hy with rfl | hy
      · exact (Z.N q (List.mem_append_left _ hq)).2.1
      · exact Z.ap q hq y hy
  · obtain ⟨h', tk', m', led', frs', e, S, Z', htk'', k⟩ := hs
    obtain ⟨frs₁, S₁, Z₁⟩ := Z'.back S Z.Fs hLb Z.F.above fun y hy => (Z.N y (List.mem_append_right _ hy)).2.1
    exact k frs₁ S₁ Z₁
end

/-- parameters (response, **options) -/
structure OptsP (params : Arguments) : Prop where
  po : params.posonlyargs = []
  ar : params.args.map (·.arg) = [("response" : Str)]
  ko : params.kwonlyargs = []
  va : params.vararg = none
  kw : params.kwarg.map (·.arg) = some ("options" : Str)

theorem forIn_extra {β : Type} {f : (Str × Value) → (β × List (Str × Value)) → Sem (ForInStep (β × List (Str × Value)))} : ∀ (l : List (Str × Value)) (a : β) (e : List (Str × Value)),
    (∀ x ∈ l, ∀ e, f x (a, e) = pure (.yield (a, e ++ [x]))) → forIn l (a, e) f = pure (a, e ++ l)
  | [], a, e, _ => by rw [List.forIn_nil, List.append_nil]
  | x :: l, a, e, hf => by
    rw [List.forIn_cons, hf x (List.mem_cons_self ..) e, pure_bind]
    show forIn l (a, e ++ [x]) f = _
    rw [forIn_extra l a (e ++ [x]) fun y hy => hf y (List.mem_cons_of_mem _ hy), List.append_assoc]
    rfl

theorem bind_opts {prog : Program} {w : World} {A : Around} {E : Value → Shared → Prop} {Q : List (Str × Value) → Shared → Prop} {s : Shared} {h₀ : Heap} {L : Addr} {m : Str → Option Value} {led : List (Addr × Obj)} {fd : FuncData} {r : Value} {kw : List (Str × Value)}
    (F : Fr h₀ L s.heap m) (N : News h₀ L s.heap led) (hlim : h₀.NoLimit) (P : OptsP fd.params) (hd : fd.defaults = .none) (hn : (kw.map (·.1)).Nodup) (hr : ∀ x ∈ kw, x.1 ≠ ("response" : Str)) (hz : kw.length ≤ sizeLine)
    (h : ∀ D o h' tk, Fr h₀ L h' m → News h₀ L h' ((D, o) :: led) → (∀ p ∈ led, p.1 < D) → (D == sysModules) = false → o.IsDictOf (strKind prog w) kw → Q [("response", r), ("options", .ref D)] { s with heap := h', toks := tk }) :
    wpAny (model prog w) A (bindArgs fd ⟨[r], kw⟩) Q E s := by
  obtain ⟨p1, p2, p3, p4, p5⟩ := P
  obtain ⟨ar, hk, hkn⟩ : ∃ a, fd.params.kwarg = some a ∧ a.arg = ("options" : Str) := by
    cases e : fd.params.kwarg with
    | none => rw [e] at p5; cases p5
    | some a => rw [e] at p5; exact ⟨a, rfl, Option.some.inj p5⟩
  unfold bindArgs
  dsimp only
  rw [p1, p2, p3, p4, hk, hd]
  dsimp only [List.map_nil, List.nil_append, List.append_nil]
  rw [forIn_extra kw _ [] (fun x hx e => by
    have c : ([("response" : Str)].contains x.1) = false := by
      rw [List.contains_cons, beq_eq_false_iff_ne.mpr (hr x hx)]
      rfl
    obtain ⟨k, v⟩ := x
    dsimp only at c ⊢
    rw [c]
    rfl)]
  rw [pure_bind]
  show wpAny _ _ ((pure none : Sem (Option (Array Value))) >>= _) _ _ _
  rw [pure_bind]
  dsimp only [List.nil_append]
  have key : ∀ X : Sem (List (Str × Value)), X = (do
      if kw.length > sizeLine + 1 then unsupported "dict:memory"
      let d ← alloc { cls := Value.type "dict", data := Data.dict #[] }
      forIn kw PUnit.unit fun x _ => (nsSet d x.1 x.2 >>= fun _ => pure (ForInStep.yield PUnit.unit))
      pure ([(("response" : Str), r)] ++ [(ar.arg, Value.ref d)])) → wpAny (model prog w) A X Q E s := by
    rintro X rfl
    rw [if_neg (by omega)]
    refine wpAny_bind (wpAny_alloc ?_)
    refine wpAny_bind (kp_fill kw { s with heap := s.heap.push { cls := .type "dict", data := .dict #[] } } [] 0 (F.push _) (N.push F _) (fun p hp => Nat.ne_of_lt (Heap.lt_size (N p hp).1)) (fun _ he => nomatch he) (fun _ he => nomatch he) hn fun h' F' N' => wpAny_pure ?_)
    rw [hkn]
    exact h _ _ _ _ F' N' (fun p hp => Heap.lt_size (N p hp).1) (F.notModules (modules_low hlim)) (kp_isDict s.toks (0 + kw.length) hn)
  refine key _ ?_
  with_unfolding_all rfl


/-- the code table of the def that makes a def -/
def qsafe : Str := "_wrap_score_cast_func.<locals>._safe_cast"
def TabSt (ps : Array Value) (led : List (Addr × Obj)) : Prop :=
  ps = #[] ∨ ∃ c' oc vs t, ps = #[rawInt 6, rawInt 4, .ref c'] ∧ (c', oc) ∈ led ∧ oc.data = .fields vs ∧ vs[1]? = some (.str qsafe t)
structure Lg (ps : Array Value) (led : List (Addr × Obj)) : Prop where
  tab : TabSt ps led
  off : ∀ p ∈ led, p.1 ≠ 16
def PostG (led : List (Addr × Obj)) (Facts : Value → List (Addr × Obj) → Prop) (r : Value) (led' : List (Addr × Obj)) : Prop :=
  ∃ ps led₂, led' = (16, tabObj ps) :: led₂ ∧ Lg ps led₂ ∧ (∀ p ∈ led, p ∈ led₂) ∧ Facts r led₂


def optM (r : Value) (D : Addr) : Str → Option Value := fun y => if y = ("options" : Str) then some (.ref D) else if y = ("response" : Str) then some r else none

section
variable {w : World} {p : Program} {loose : List Str} {mean : ExcName → Option Value} {mg mb : Str → Option Value}
/-- the body's task -/
def Body (any : Bool) (w : World) (p : Program) (loose : List Str) (mean : ExcName → Option Value) (mg mb : Str → Option Value) (qual : Str) (body : List Stmt) (scope : Scope) (cdv : Value) (f : Addr) (dpt : Nat) (led₀ : List (Addr × Obj)) (mm : List (Addr × Obj) → (Str → Option Value) → Prop) (cm : Str → Option Value)
    (Post : Value → List (Addr × Obj) → Prop) : Prop :=
  ∀ (hh : Option Value) (dp un : Nat) (gd : Option (List Code)) (outer : List Env) (frs : List (Addr × Obj)) (g : Heap) (L : Addr) (m : Str → Option Value) (own cells : List (Addr × Obj)) (s : Shared),
    (any = true ∨ hh = none) → Gd w p loose mean mg mb g → At g outer frs L m (cells ++ own ++ led₀) s.heap → mm own m → (∀ q ∈ led₀, ∀ y ∈ own, q.1 < y.1) → (∀ q ∈ own ++ led₀, q.1 < L) → (∀ q ∈ cells, L < q.1) → CellsAre cm (cellsFrom (L + 1) scope.names []) cells →
    dp + dpt < recursionLimit → un + 20 * dpt < cLine → 0 < s.toks →
    wpC (model PG w) (aT hh dp un gd (envOfC qual scope L f cdv :: outer)) (execs body (envOfC qual scope L f cdv)) (Ends g outer frs L s Post) NE s

theorem ct_opts {any : Bool} {f : Addr} {name qual : Str} {params : Arguments} {body : List Stmt} {scope : Scope} {kV doc pm cdv ct oc : Value} {an od : Option Addr} {osl : Array (Option Value)} {r : Value} {kw : List (Str × Value)} {dpt : Nat} {led : List (Addr × Obj)} {Post : Value → List (Addr × Obj) → Prop}
    (ho : (hd.heap_39 w.params).lookup f = some ⟨oc, od, .func (fnOf name qual params body scope .none kV doc pm an cdv ct), osl⟩) (hcd : codeIn (hd.heap_39 w.params) cdv qual = true)
    (P : OptsP params) (hn : (kw.map (·.1)).Nodup) (hr : ∀ x ∈ kw, x.1 ≠ ("response" : Str)) (hz : kw.length ≤ 4) (h1 : 1 ≤ dpt)
    (k1 : scope.names.lookup ("response" : Str) = some .local) (k2 : scope.names.lookup ("options" : Str) = some .local)
    (hnd : ((cellsFrom 0 scope.names []).map (·.1)).Nodup) (hco : scope.isCoroutine = false) (hgen : scope.isGenerator = false) (hk : scope.kind = .function)
    (h : Body any w p loose mean mg mb qual body scope cdv f (dpt - 1) led (fun own m => ∃ D o, own = [(D, o)] ∧ m = optM r D ∧ (D == sysModules) = false ∧ o.IsDictOf (strKind PG w) kw) (fun _ => none) Post) :
    Ct any w p loose mean mg mb (.ref f) [r] kw dpt led Post := by
  intro hh dp un gd env outer frs g L m s Q E hany G Z he hke hd hu htk hret
  have hlim := G.T.nolimit
  refine wpC_call ?_
  refine codeC_call_function (fd := fnOf name qual params body scope .none kV doc pm an cdv ct) (body := body) (show dp < recursionLimit by omega) ((G.X.keeps Z.F.keep) _ _ ho) rfl hco hgen rfl (codeRec_of (G.X.keeps Z.F.keep) hcd) ?_
  refine wpAny_tk (n := 1) htk (bind_opts Z.F Z.N hlim P rfl hn hr (Nat.le_trans hz (by rw [sizeLine_eq]; decide)) fun D o h' tk F' N' lo hsm hdo htk' => ?_)
  have Z' : At g outer frs L m ((D, o) :: led) h' := ⟨F', N', fun q hq y hy => by
    rcases List.mem_cons.mp hq with rfl | hq
    · exact Nat.ne_of_gt (lo y (List.mem_append_right _ hy))
    · exact Z.ap q hq y hy, Z.Fs⟩
  refine wpAny_mono (frame_at (s := { s with heap := h', toks := tk }) (binds := [("response", r), ("options", .ref D)]) (R := fun r s' => match r with | .ok (.ret v) => Q v s' | .ok _ => False | .error e => E e s') Z' hlim he hke htk' (fun n x hx => ?_) hnd hk (fun L' h₁ tk₁ cells oL Z₁ Y lo₁ hi₁ htk₁ => ?_)) (fun _ _ x => x) fun _ _ x => x
  · rcases List.mem_cons.mp hx with rfl | hx
    · exact .inl k1
    · rcases List.mem_cons.mp hx with rfl | hx
      · exact .inl k2
      · cases hx
  · have e1 : (bindL (envOfC qual scope L' f cdv).kindOf [(("response" : Str), r), (("options" : Str), Value.ref D)] fun _ => none) = optM r D := by
      have a1 : (envOfC qual scope L' f cdv).kindOf ("response" : Str) = some .local := k1
      have a2 : (envOfC qual scope L' f cdv).kindOf ("options" : Str) = some .local := k2
      unfold bindL bindL bindL
      rw [if_pos a1, if_pos a2]
      rfl
    have e2 : (bindC (envOfC qual scope L' f cdv).kindOf [(("response" : Str), r), (("options" : Str), Value.ref D)] fun _ => none) = fun _ => none := by
      have a1 : (envOfC qual scope L' f cdv).kindOf ("response" : Str) = some .local := k1
      have a2 : (envOfC qual scope L' f cdv).kindOf ("options" : Str) = some .local := k2
      unfold bindC bindC bindC
      rw [if_pos a1, if_pos a2]
    rw [e1] at Z₁
    rw [e2] at Y
    have hb := h hh (dp + 1) (un + 3) gd (env :: outer) ((L, oL) :: frs) g L' (optM r D) [(D, o)] cells { s with heap := h₁, toks := tk₁ } hany G (by rw [List.append_assoc]; exact Z₁) ⟨D, o, rfl, rfl, hsm, hdo⟩
      (fun q hq y hy => by rw [List.mem_singleton.mp hy]; exact lo q (List.mem_append_left _ hq)) lo₁ hi₁ Y (by omega) (by omega) htk₁
    refine wpC_mono hb (fun fl s' hs => ?_) fun _ _ x => x
    obtain ⟨h₂, tk₂, m', led', frs', rfl, S, Z₂, htk₂, hp⟩ := hs
    exact ⟨h₂, tk₂, m', led', frs', rfl, S, Z₂, htk₂, fun frs₁ S₁ Z₃ => hret _ led' h₂ tk₂ frs₁ S₁ Z₃ hp htk₂⟩
/-- positional parameters -/
theorem ct_pos {any : Bool} {f : Addr} {name qual : Str} {params : Arguments} {body : List Stmt} {scope : Scope} {kV doc pm cdv ct oc : Value} {an od : Option Addr} {osl : Array (Option Value)} {vals : List Value} {binds : List (Str × Value)} {dpt : Nat} {led : List (Addr × Obj)} {Post : Value → List (Addr × Obj) → Prop} {m₀ cm : Str → Option Value}
    (ho : (hd.heap_39 w.params).lookup f = some ⟨oc, od, .func (fnOf name qual params body scope .none kV doc pm an cdv ct), osl⟩) (hcd : codeIn (hd.heap_39 w.params) cdv qual = true)
    (hb : bindArgs (fnOf name qual params body scope .none kV doc pm an cdv ct) ⟨vals, []⟩ = pure binds) (h1 : 1 ≤ dpt)
    (hkind : ∀ n, ∀ x ∈ binds, scope.names.lookup x.1 = some .local ∨ (scope.names.lookup x.1 = some .cell ∧ ((cellsFrom n scope.names []).lookup x.1).isSome = true))
    (hm : ∀ L', (bindL (envOfC qual scope L' f cdv).kindOf binds fun _ => none) = m₀) (hc : ∀ L', (bindC (envOfC qual scope L' f cdv).kindOf binds fun _ => none) = cm)
    (hnd : ((cellsFrom 0 scope.names []).map (·.1)).Nodup) (hco : scope.isCoroutine = false) (hgen : scope.isGenerator = false) (hk : scope.kind = .function)
    (h : Body any w p loose mean mg mb qual body scope cdv f (dpt - 1) led (fun own m => own = [] ∧ m = m₀) cm Post) :
    Ct any w p loose mean mg mb (.ref f) vals [] dpt led Post := by
  intro hh dp un gd env outer frs g L m s Q E hany G Z he hke hd hu htk hret
  have hlim := G.T.nolimit
  refine wpC_call ?_
  refine codeC_call_function (fd := fnOf name qual params body scope .none kV doc pm an cdv ct) (body := body) (show dp < recursionLimit by omega) ((G.X.keeps Z.F.keep) _ _ ho) rfl hco hgen rfl (codeRec_of (G.X.keeps Z.F.keep) hcd) ?_
  rw [hb]
  refine wpAny_pure ?_
  refine wpAny_mono (frame_at (s := s) (binds := binds) (R := fun r s' => match r with | .ok (.ret v) => Q v s' | .ok _ => False | .error e => E e s') Z hlim he hke htk hkind hnd hk (fun L' h₁ tk₁ cells oL Z₁ Y lo₁ hi₁ htk₁ => ?_)) (fun _ _ x => x) fun _ _ x => x
  rw [hm] at Z₁
  rw [hc] at Y
  have hb := h hh (dp + 1) (un + 3) gd (env :: outer) ((L, oL) :: frs) g L' m₀ [] cells { s with heap := h₁, toks := tk₁ } hany G (by rw [List.append_nil]; exact Z₁) ⟨rfl, rfl⟩ (fun _ _ _ hy => (nomatch hy)) lo₁ hi₁ Y (by omega) (by omega) htk₁
  refine wpC_mono hb (fun fl s' hs => ?_) fun _ _ x => x
  obtain ⟨h₂, tk₂, m', led', frs', rfl, S, Z₂, htk₂, hp⟩ := hs
  exact ⟨h₂, tk₂, m', led', frs', rfl, S, Z₂, htk₂, fun frs₁ S₁ Z₃ => hret _ led' h₂ tk₂ frs₁ S₁ Z₃ hp htk₂⟩
end
end Mine
end
section
open PySem PySem.W PyProof.Rows PySem.Calls
set_option maxRecDepth 100000
namespace Mine
section
variable {M : Model} {A : Around} {E : Value → Shared → Prop} {s : Shared} {env : Env}
theorem c_runOwn {c : Code} {h : Option Value} {Q : Flow → Shared → Prop} (hc : codeC M (A.mark h) c (fun r s' => match r with | .ok f => Q f s' | .error _ => False) s) (hnb : h ≠ some byPass) :
    wpC M A (runOwn c env h) Q E s := by
  unfold runOwn
  refine c_onRaise (wpC_run (codeC_mono hc fun r s' hr => ?_) hnb)
  cases r <;> exact hr
theorem c_Try {body : List Stmt} {h₀ : ExceptHandler} {hs : List ExceptHandler} {pos : Pos} {Q : Flow → Shared → Prop}
    (h : wpC M A (execs body env) (fun f s₁ => match f with | .next => False | f => Q f s₁)
      (fun e s₁ => wpAny M A (noteFrame e env) (fun _ s₂ => wpAny M A (setFlight e none) (fun _ s₃ => wpC M A (handleBy e env (h₀ :: hs)) Q E s₃) E s₂) E s₁) s) :
    wpC M A (exec (.Try body (h₀ :: hs) [] [] pos) env) Q E s := by
  rw [arm_exec_Try]
  refine wpC_leaf (wpAny_standAt ?_)
  unfold tryStmt
  simp only [List.isEmpty_nil, if_true]
  refine wpC_bind (wpC_attempt (wpC_mono h (fun f s₁ h₁ => ?_) fun e s₁ h₁ => ?_))
  · cases f <;> first | exact h₁.elim | exact wpC_pure h₁
  · dsimp only
    refine wpC_leaf (wpAny_mono h₁ (fun _ s₂ h₂ => ?_) fun _ _ x => x)
    simp only [List.isEmpty_cons, Bool.false_eq_true, if_false, Bool.false_and]
    refine wpC_leaf (wpAny_mono h₂ (fun _ s₃ h₃ => h₃) fun _ _ x => x)
end
section
variable {prog : Program} {w : World} {A : Around} {E : Value → Shared → Prop} {s : Shared} {env : Env}
theorem c_handlers_test {e : Value} {t : Expr} {pos : Pos} {R : Result → Shared → Prop}
    (h : wpAny (model prog w) A (eval t env) (fun c s₁ => wpAny (model prog w) A (excMatches e c) (fun b s₂ => R (.ok (if b then .brk else .next)) s₂) NE s₁) NE s) :
    codeC (model prog w) A (.handlers e [.ExceptHandler (some t) none [] pos] env) R s := by
  refine codeC_of_tree ?_
  show wpC _ A (do return Fin.done (← (handleWith e env [.ExceptHandler (some t) none [] pos]).onRaise (fun x => do noteFrame x env; theTreesLotGoes x))) _ _ s
  refine wpC_bind (c_onRaise ?_)
  unfold handleWith
  refine wpC_leaf (wpAny_standAt (wpC_leaf (wpAny_mono h (fun c s₁ h₁ => wpC_leaf (wpAny_standAt (wpC_leaf (wpAny_mono h₁ (fun b s₂ h₂ => wpC_pure (wpC_pure ?_)) fun _ _ x => x)))) fun _ _ x => x)))
  exact h₂
theorem c_handlers_suite {e : Value} {b₀ : Stmt} {body : List Stmt} {pos : Pos} {R : Result → Shared → Prop}
    (h : wpAny (model prog w) A (setFlight e none) (fun _ s₁ => wpC (model prog w) A (execs (b₀ :: body) env) (fun f s₂ => R (.ok f) s₂) NE s₁) NE s) :
    codeC (model prog w) A (.handlers e [.ExceptHandler none none (b₀ :: body) pos] env) R s := by
  refine codeC_of_tree ?_
  show wpC _ A (do return Fin.done (← (handleWith e env [.ExceptHandler none none (b₀ :: body) pos]).onRaise (fun x => do noteFrame x env; theTreesLotGoes x))) _ _ s
  refine wpC_bind (c_onRaise ?_)
  unfold handleWith
  exact wpC_leaf (wpAny_standAt (wpC_leaf (wpAny_mono h (fun _ s₁ h₁ => wpC_mono h₁ (fun f s₂ h₂ => wpC_pure h₂) fun _ _ x => x) fun _ _ x => x)))
theorem c_handleBy_tup2 {e : Addr} {X T1 T2 : String} {b1 b2 : Bool} {t : Expr} {b₀ : Stmt} {suite : List Stmt} {pos : Pos} {rest : List ExceptHandler} {Q : Flow → Shared → Prop}
    (hexc1 : isSubtype (.type T1) (.type "BaseException") = pure true) (hnt1 : isSubtype (.type ((Manifest.find? T1).elim "type" fun x => x.metatype)) (.type "tuple") = pure false)
    (hexc2 : isSubtype (.type T2) (.type "BaseException") = pure true) (hnt2 : isSubtype (.type ((Manifest.find? T2).elim "type" fun x => x.metatype)) (.type "tuple") = pure false)
    (hsub1 : isSubtype (.type X) (.type T1) = pure b1) (hsub2 : isSubtype (.type X) (.type T2) = pure b2) (hb : (b1 || b2) = true)
    (h : wpAny (model prog w) (A.mark (some (.ref e))) (eval t env) (fun c s₁ => ∃ tup, c = .ref tup ∧ IsTup s₁.heap tup #[.type T1, .type T2] ∧ s₁.TypeIs (.ref e) X ∧
      wpAny (model prog w) (A.mark (some (.ref e))) (setFlight (.ref e) none) (fun _ s₂ => wpC (model prog w) (A.mark (some (.ref e))) (execs (b₀ :: suite) env) Q NE s₂) NE s₁) NE s) :
    wpC (model prog w) A (handleBy (.ref e) env (.ExceptHandler (some t) none (b₀ :: suite) pos :: rest)) Q E s := by
  rw [handleBy]
  have hnb : (some (Value.ref e) : Option Value) ≠ some byPass := fun x => by injection x with x; cases x
  dsimp only
  refine wpC_bind (wpC_holding (c_runOwn (c_handlers_test (wpAny_mono h (fun c s₁ h₁ => ?_) fun _ _ x => x)) hnb))
  obtain ⟨tp, rfl, hT, hX, hk⟩ := h₁
  refine wpAny_excMatches_tup2 hT hX hexc1 hnt1 hexc2 hnt2 hsub1 hsub2 ?_
  rw [hb]
  dsimp only [if_true]
  refine wpC_bind (wpC_pure ?_)
  simp only [Bool.not_true, Bool.false_eq_true, if_false]
  refine wpC_bind (wpC_holding (c_runOwn (c_handlers_suite (wpAny_mono hk (fun _ s₂ h₂ => wpC_mono h₂ (fun f s₃ h₃ => ?_) fun _ _ x => x) fun _ _ x => x)) hnb))
  exact wpC_pure h₃
end
end Mine
end
section
open PySem PySem.W PyProof.Rows PySem.Calls
open PyProof.Rows.TI (Frs SameUp gone gone_get gone_none gone_some sameUp_of none_of)
set_option maxRecDepth 100000
namespace Mine
section
variable {w : World} {g : Heap} {outer : List Env} {frs : List (Addr × Obj)} {L : Addr} {m : Str → Option Value} {led : List (Addr × Obj)} {h : Heap} {env : Env}
/-- all but the frames -/
abbrev offFr (h : Heap) (L : Addr) (frs : List (Addr × Obj)) : Heap := gone h (L :: frs.map (·.1))

theorem At.base_off (Z : At g outer frs L m led h) {b : Addr} {o : Obj} (e : g.get? b = some o) : b ∉ L :: frs.map (·.1) := PyProof.Rows.TI.base_apart Z.F Z.N (fun p hp => List.mem_append_right _ hp) e
theorem At.led_off (Z : At g outer frs L m led h) {q : Addr × Obj} (hq : q ∈ led) : q.1 ∉ L :: frs.map (·.1) := fun hm => by
  rcases List.mem_cons.mp hm with e | hm
  · exact (Z.N q (List.mem_append_left _ hq)).2.1 e
  · obtain ⟨y, hy, e⟩ := List.mem_map.mp hm
    exact Z.ap q hq y hy e.symm
/-- what stays, stays in the same frames -/
theorem At.stays (Z : At g outer frs L m led h) {h' : Heap} (st : (offFr h L frs).StaysIn h') (up : h.UpToSlots h') : ∃ frs', SameUp frs frs' ∧ At g outer frs' L m led h' := by
  obtain ⟨frs', S, ht⟩ := sameUp_of (h' := h') (frs := frs) fun p hp => up p.1 p.2 (Z.N p (List.mem_append_right _ hp)).1 fun vs q => by
    obtain ⟨es, ep, hd⟩ := Z.Fs.dict p hp
    rw [hd] at q; cases q
  refine ⟨frs', S, ⟨⟨up.ns Z.F.ns, fun b o e => st b o ((gone_get (Z.base_off e)).trans (Z.F.keep b o e)), Z.F.above⟩, fun q hq => ?_, fun q hq y hy => ?_, Z.Fs.up S⟩⟩
  · rcases List.mem_append.mp hq with hq | hq
    · have a := Z.N q (List.mem_append_left _ hq)
      exact ⟨st q.1 q.2 ((gone_get (Z.led_off hq)).trans a.1), a.2⟩
    · obtain ⟨x, hx, e⟩ := S.fwd q hq
      have a := Z.N x (List.mem_append_right _ hx)
      exact ⟨ht q hq, by rw [e]; exact a.2⟩
  · obtain ⟨x, hx, e⟩ := S.fwd y hy
    rw [e]; exact Z.ap q hq x hx
theorem At.frames (Z : At g outer frs L m led h) (hf : env.frame = some L) (hk : env.scope.kind = .function) : h.FunFrames (offFr h L frs) (env :: outer) :=
  Heap.FunFrames.cons (by rw [hk]; decide) hf Z.F.ns (gone_none (.head _)) (Z.Fs.fun fun q hq => ⟨(Z.N q (List.mem_append_right _ hq)).1, gone_none (.tail _ (List.mem_map.mpr ⟨q, hq, rfl⟩))⟩)

/-- an exception on its way: made here, or come up from a frame above -/
def Flew (l : List Env) (B : Heap) (e : Addr) (X : String) (h h' : Heap) : Prop := Heap.NewExc h h' e X ∨ ∃ a0, Heap.FlyingW B l e (.type X) a0 h' ∧ h.UpToSlots h'

/-- seen by the frame's try -/
theorem noted_flew {M : Model} {A : Around} {E : Value → Shared → Prop} {s' : Shared} {e : Addr} {X : String} {Q : Shared → Prop} (hfr : A.frames = some (env :: outer)) (hf : env.frame = some L) (hk : env.scope.kind = .function) (Z : At g outer frs L m led h) (hx : Flew (env :: outer) (offFr h L frs) e X h s'.heap)
    (k : ∀ h₃ a0, Heap.FlyingW (offFr h L frs) (env :: outer) e (.type X) a0 h₃ → h.UpToSlots h₃ → Q { s' with heap := h₃ }) :
    wpAny M A (noteFrame (.ref e) env) (fun _ s₂ => wpAny M A (setFlight (.ref e) none) (fun _ s₃ => Q s₃) E s₂) E s' := by
  have fin : ∀ (h₂ : Heap) a0, Heap.NotedW (offFr h L frs) (env :: outer) e (.type X) a0 (rawInt L) s'.heap h₂ → h.UpToSlots s'.heap → (offFr h L frs).get? e = none → wpAny M A (setFlight (.ref e) none) (fun _ s₃ => Q s₃) E { s' with heap := h₂ } := by
    intro h₂ a0 hN hu hen
    obtain ⟨k1, k2, k3, k4⟩ := hN
    refine wpAny_setFlight_noneW k1 k2 k3 fun h₃ q1 q2 q3 q4 => ?_
    exact k h₃ a0 ⟨q1, hen, q2, q3⟩ ((hu.trans k4).trans fun b o hb hn => ⟨o.slots, q4 b o hb hn⟩)
  rcases hx with hx | ⟨a0, hfl, hu⟩
  · obtain ⟨ob, tp, he, hcls, hd⟩ := hx.there
    have hu : h.UpToSlots s'.heap := .of_keeps hx.keeps
    have st : (offFr h L frs).StaysIn s'.heap := fun b o eb => hx.keeps b o (gone_some eb).2
    have hen : (offFr h L frs).get? e = none := none_of (fun b o eb => (gone_some eb).2) hx.new
    have hff : s'.heap.FunFrames (offFr h L frs) (env :: outer) := (Z.frames hf hk).of_keeps fun b o hb _ => ⟨o, hx.keeps b o hb, rfl⟩
    unfold noteFrame
    simp only [hf]
    refine wpAny_bind (wpAny_field he hd (x := .none) rfl ?_)
    rw [if_neg (by decide)]
    refine wpAny_entryW (a0 := tp) hfr hff hf he st hen hd (by show 1 < 6; decide) rfl fun h₂ hN => ?_
    rw [hcls] at hN
    exact fin h₂ tp hN hu hen
  · obtain ⟨f1, f2, f3, f4⟩ := hfl
    exact wpAny_noteFrame_onW hfr f3 hf f4 f1 f2 fun h₂ hN => fin h₂ a0 hN hu f2
end
end Mine
end
section
open PySem PySem.W PyProof.Rows PySem.Calls PySem.Flt
set_option maxRecDepth 100000
namespace Mine
theorem noFill_bytes_truediv : fillsNumberSlot (.type "bytes") "truediv" = pure false := by
  have h1 : typeLookup (.type "bytes") (dunder "truediv") = pure none := by rw [typeLookup_type, builtinLookup_eq_fast]; kernel_rfl
  have h2 : typeLookup (.type "bytes") (dunderR "truediv") = pure none := by rw [typeLookup_type, builtinLookup_eq_fast]; kernel_rfl
  unfold fillsNumberSlot
  simp only [h1, h2, pure_bind, Option.isSome_none, Bool.false_and, Bool.or_self]
theorem rtruediv_bytes (i : Int) (t : Tok) (b : Array UInt8) (u : Tok) : Gives (Builtin.«int.__rtruediv__» ⟨[.int i t, .bytes b u], []⟩) (.val .notImplemented) :=
  .of_wp fun M A E s Q h => by obtain ⟨hp, g, d, tk, os⟩ := s; wp_walk; exact ⟨_, rfl, h⟩
section
variable {M : Model} {A : Around} {E : Value → Shared → Prop} {s : Shared}
theorem binaryOp1_right_declines {a b : Value} {T U idr nm : String} {Q : Option Value → Shared → Prop} (hTU : T ≠ U) (ha : s.TypeIs a T) (hb : s.TypeIs b U)
    (hfT : fillsNumberSlot (.type T) nm = pure false) (hfU : fillsNumberSlot (.type U) nm = pure true) (hr : Slot U (dunderR nm) idr)
    (hc : wpAny M A (call (.builtin idr) [b, a]) (fun v s₁ => v = .notImplemented ∧ Q none s₁) E s) : wpAny M A (binaryOp1 nm a b) Q E s := by
  simp only [binaryOp1]
  refine wpAny_bind (wpAny_typeOf ha ?_)
  refine wpAny_bind (wpAny_typeOf hb ?_)
  refine wpAny_bind (wpAny_of_eq hfT ?_)
  have hne : (Value.type T == Value.type U) = false := by simpa using hTU
  simp only [hne, Bool.false_eq_true, if_false]
  refine wpAny_bind (wpAny_of_eq hfU ?_)
  simp only [Bool.false_and, Bool.false_eq_true, if_false, pure_bind, Bool.not_false, Bool.and_self, if_true]
  simp only [tryMethod]
  refine wpAny_bind (wpAny_bind (wpAny_callSpecial?_slot hb hr (wpAny_mono hc (fun v s₁ h₁ => ?_) fun _ _ x => x)))
  obtain ⟨rfl, hq⟩ := h₁
  exact wpAny_pure (wpAny_pure hq)
end
section
variable {prog : Program} {w : World} {A : Around} {E : Value → Shared → Prop} {s : Shared} {Q : Value → Shared → Prop}
theorem div_bytes {b : Array UInt8} {u t : Tok} (hh : A.handled = none) (h : ∀ h' tk e, Heap.NewExc s.heap h' e "TypeError" → E (.ref e) { s with heap := h', toks := tk }) :
    wpAny (model prog w) A (binaryOp .Div (.bytes b u) (.int 2 t)) Q E s := by
  have hT : s.TypeIs (.bytes b u) "bytes" := typeIs_bytes s b u
  have g1 := rtruediv_bytes 2 t b u
  have hne : ("bytes" : String) ≠ "int" := by decide
  have c1 : ∀ Q' : Value → Shared → Prop, Q' .notImplemented s → wpAny (model prog w) A (call (.builtin "int.__rtruediv__") [.int 2 t, .bytes b u]) Q' E s := fun Q' hq =>
    call_gives F.slot_int_rtruediv (typeIs_int s 2 t) F.entry_int_rtruediv (F.args_int_rtruediv_2 _ _) g1 hq
  have b1 : ∀ Q' : Option Value → Shared → Prop, Q' none s → wpAny (model prog w) A (binaryOp1 "truediv" (.bytes b u) (.int 2 t)) Q' E s := fun Q' hq =>
    binaryOp1_right_declines (T := "bytes") (U := "int") (nm := "truediv") (idr := "int.__rtruediv__") hne hT (typeIs_int s 2 t) noFill_bytes_truediv F.fills_int_truediv F.slot_int_rtruediv (c1 (fun v s₁ => v = .notImplemented ∧ Q' none s₁) ⟨rfl, hq⟩)
  trace "here"
  unfold binaryOp
  refine wpAny_holding ?_
  show wpAny _ _ (binaryOp1 "truediv" (.bytes b u) (.int 2 t) >>= _) _ _ _
  refine wpAny_bind (b1 _ ?_)
  show wpAny _ _ (binopTypeError "/" (.bytes b u) (.int 2 t)) _ _ _
  unfold binopTypeError
  refine wpAny_bind (wpAny_rule ?_)
  refine wpAny_bind (wpAny_typeNameOf' (T := "bytes") hT (by decide) ?_)
  refine wpAny_bind (wpAny_typeNameOf' (T := "int") (typeIs_int s 2 t) (by decide) ?_)
  exact wpAny_raiseErrorMade plainExc_TypeError hh h (Nat.le_trans (m := 1000) (by decide +kernel) (by rw [sizeLine_eq]; decide))
theorem div_float {q : Int} (hq : Qok q) {u t : Tok} (h : Q (.float (F8 q) s.toks) { s with toks := s.toks + 1 }) : wpAny (model prog w) A (binaryOp .Div (.float (F4 q) u) (.int 2 t)) Q E s := by
  refine AutoFloatOps.truediv_fi_2 (by decide +kernel) (by decide +kernel) ?_
  show Q (.float (Float64.div (F4 q) (Float64.ofInt 2)) s.toks) _
  rw [F4_half hq]
  exact h
end
end Mine
end
section
open PySem PySem.W PyProof.Rows PySem.Calls
open PyProof.Rows.TI (Frs SameUp)
set_option maxRecDepth 100000
set_option maxHeartbeats 1000000
namespace Mine
section
variable {M : Model} {A : Around} {E : Value → Shared → Prop} {s : Shared} {env : Env} {x : Str} {pos : Pos} {v : Value} {m : Str → Option Value}
/-- a local name -/
theorem n_local {Q : Value → Shared → Prop} (hn : s.heap.Ns env.locals m) (hv : m x = some v) (h : Q v s) (hk : env.scope.kind = .function := by rfl) (hx : env.kindOf x = some .local := by rfl)
    (hd : (x == ("__debug__" : Str)) = false := by decide) : wpAny M A (eval (.Name x pos) env) Q E s := wpAny_Name (wpAny_loadName_local hk hx hn hv h) hd
end
theorem fill_aux {P : Prop} (h : (PySem.Challenge.rw_fr0008_01.row.prog = PySem.Challenge.rw_fr0008_01.row.prog) → (hd.heap_39 = hd.heap_39) → P) : P := h rfl rfl
theorem kept_ct {w p loose mean mg mb} {v : Value} {led} : Ct true w p loose mean mg mb (.ref 156) [v] [] 1 led (fun r led' => r = v ∧ led' = led) := by
  (refine fill_aux ?_; k_fill; intro _ _)
  refine' ct_pos (m₀ := fun y => if y = ("score" : Str) then some v else none) (cm := fun _ => none) ?ho ?hcd ?hb ?h1 ?hkind ?hm ?hc ?hnd ?hco ?hgen ?hk ?h
  ( (case ho => k_is); (case hcd => k_is); (case hb => rfl); (case h1 => decide); (case hkind => intro n; repeat (first | exact List.forall_mem_nil _ | (refine List.forall_mem_cons.mpr ⟨by first | exact .inl rfl | exact .inr ⟨rfl, rfl⟩, ?_⟩))); (case hm => intro L'; rfl); (case hc => intro L'; rfl); (case hnd => decide); (case hco => rfl); (case hgen => rfl); (case hk => rfl))
  intro hh dp un gd outer frs g L m own cells s hany G Z hm lo₁ lo₂ hi Y hd hu htk
  obtain ⟨rfl, rfl⟩ := hm
  cases Y
  refine c_execs_cons (c_Return (.any (n_local Z.F.ns rfl ?_)))
  exact ⟨s.heap, s.toks, _, led, frs, rfl, SameUp.refl _, by simpa using Z, htk, rfl, rfl⟩
theorem halved_ct {w p loose mean mg mb} {q : Int} {u : Tok} {led} (hq : Qok q) : Ct true w p loose mean mg mb (.ref 163) [.float (F4 q) u] [] 1 led (fun r led' => (∃ t, t ≠ 0 ∧ r = .float (F8 q) t) ∧ led' = led) := by
  (refine fill_aux ?_; k_fill; intro _ _)
  refine' ct_pos (m₀ := fun y => if y = ("score" : Str) then some (.float (F4 q) u) else none) (cm := fun _ => none) ?ho ?hcd ?hb ?h1 ?hkind ?hm ?hc ?hnd ?hco ?hgen ?hk ?h
  ( (case ho => k_is); (case hcd => k_is); (case hb => rfl); (case h1 => decide); (case hkind => intro n; repeat (first | exact List.forall_mem_nil _ | (refine List.forall_mem_cons.mpr ⟨by first | exact .inl rfl | exact .inr ⟨rfl, rfl⟩, ?_⟩))); (case hm => intro L'; rfl); (case hc => intro L'; rfl); (case hnd => decide); (case hco => rfl); (case hgen => rfl); (case hk => rfl))
  intro hh dp un gd outer frs g L m own cells s hany G Z hm lo₁ lo₂ hi Y hd hu htk
  obtain ⟨rfl, rfl⟩ := hm
  cases Y
  refine c_execs_cons (c_Return (.any (wpAny_BinOp (n_local Z.F.ns rfl (wpAny_Constant_int ?_)))))
  refine div_float hq ?_
  exact ⟨s.heap, s.toks + 1 + 1, _, led, frs, rfl, SameUp.refl _, by simpa using Z, Nat.succ_pos _, ⟨s.toks + 1, Nat.succ_ne_zero _, rfl⟩, rfl⟩
end Mine
end
section
open PySem PySem.W PyProof.Rows PySem.Calls
open PyProof.Rows.TI (Frs SameUp gone gone_get gone_none gone_some sameUp_of none_of)
set_option maxRecDepth 100000
set_option maxHeartbeats 1000000
namespace Mine
section
variable {w : World} {A : Around} {s : Shared} {g : Heap} {outer : List Env} {frs : List (Addr × Obj)} {L : Addr} {m : Str → Option Value} {led : List (Addr × Obj)} {env : Env}
  {R : Result → Shared → Prop} {qual : Str} {body : List Stmt} {scope : Scope} {cdv : Value} {f : Addr} {binds : List (Str × Value)}
/-- a frame, whatever its end -/
theorem frame_gen {E : Value → Shared → Prop} (Z : At g outer frs L m led s.heap) (hlim : g.NoLimit) (hf : env.frame = some L) (hke : env.scope.kind = .function) (htk : 0 < s.toks)
    (hkind : ∀ n, ∀ x ∈ binds, scope.names.lookup x.1 = some .local ∨ (scope.names.lookup x.1 = some .cell ∧ ((cellsFrom n scope.names []).lookup x.1).isSome = true))
    (hnd : ((cellsFrom 0 scope.names []).map (·.1)).Nodup) (hk : scope.kind = .function)
    (h : ∀ L' h₁ tk cells oL, At g (env :: outer) ((L, oL) :: frs) L' (bindL (envOfC qual scope L' f cdv).kindOf binds fun _ => none) (cells ++ led) h₁ →
      CellsAre (bindC (envOfC qual scope L' f cdv).kindOf binds fun _ => none) (cellsFrom (L' + 1) scope.names []) cells → (∀ p ∈ led, p.1 < L') → (∀ p ∈ cells, L' < p.1) → 0 < tk → s.heap.get? L = some oL → L' = s.heap.objs.size → (∀ b o, s.heap.get? b = some o → h₁.get? b = some o) →
      codeC (model PG w) A (.func body (envOfC qual scope L' f cdv)) R { s with heap := h₁, toks := tk }) :
    wpAny (model PG w) A.in1 (newFunctionEnv scope mainGlobals [] binds (qual ++ ".<locals>.") (some f) cdv none builtinsNs) (fun env' s₂ => s₂.heap.NoLimit ∧ codeC (model PG w) A (.func body env') R s₂) E s := by
  obtain ⟨oL, hL, Fs', hLb⟩ := Z.enter hf hke
  refine wpAny_tk (n := 1) htk (wpAny_newFunctionEnv_cells hk (hkind _) fun env' he s' x htk' => ?_)
  subst he
  refine ⟨(hlim.keeps Z.F.keep).keeps x.toInCall.keep, ?_⟩
  obtain ⟨h₁, tk, rfl, _⟩ := x.done
  have hk₁ := x.toInCall.keep
  have hLt : L < s.heap.objs.size := Heap.lt_size hL
  have hgL : g.objs.size ≤ s.heap.objs.size := Nat.le_trans Z.F.above (Nat.le_of_lt hLt)
  obtain ⟨cells, NC, Y⟩ := Cl.news (h₀ := s.heap) (Nat.le_refl _) fun n c hm => ⟨x.cell n c (lookup_of_mem_nodup (cellsFrom_names scope.names 0 (s.heap.objs.size + 1) [] [] rfl ▸ hnd) hm), x.above n c hm⟩
  have cabove : ∀ p ∈ cells, s.heap.objs.size < p.1 := by
    clear NC
    intro p hp
    have key : ∀ {cs : List (Str × Addr)} {cl : List (Addr × Obj)}, CellsAre (bindC (envOfC qual scope s.heap.objs.size f cdv).kindOf binds fun _ => none) cs cl → (∀ n c, (n, c) ∈ cs → s.heap.objs.size < c) → ∀ p ∈ cl, s.heap.objs.size < p.1 := by
      intro cs cl hc
      induction hc with
      | nil => intro _ p hp; cases hp
      | cons hd hr ih =>
        intro hb p hp
        rcases List.mem_cons.mp hp with rfl | hp
        · exact hb _ _ (.head _)
        · exact ih (fun n c hm => hb n c (.tail _ hm)) p hp
    exact key Y (fun n c hm => x.above n c hm) p hp
  have fresh₀ : ∀ a, s.heap.objs.size ≤ a → g.get? a = none := fun a ha => Heap.get?_none_of_le (Nat.le_trans hgL ha)
  refine h s.heap.objs.size h₁ tk cells oL ⟨⟨x.toInCall.ns, fun b o e => hk₁ b o (Z.F.keep b o e), hgL⟩, fun q hq => ?_, fun q hq y hy => ?_, Fs'⟩ Y (fun q hq => Heap.lt_size (Z.N q (List.mem_append_left _ hq)).1) cabove htk' hL rfl hk₁
  · rcases List.mem_append.mp hq with hq | hq
    · rcases List.mem_append.mp hq with hq | hq
      · exact ⟨(NC q hq).1, (NC q hq).2.1, fresh₀ _ (Nat.le_of_lt (cabove q hq))⟩
      · have a := Z.N q (List.mem_append_left _ hq)
        exact ⟨hk₁ _ _ a.1, Nat.ne_of_lt (Heap.lt_size a.1), a.2.2⟩
    · rcases List.mem_cons.mp hq with rfl | hq
      · exact ⟨hk₁ _ _ hL, Nat.ne_of_lt hLt, Heap.get?_none_of_le Z.F.above⟩
      · have a := Z.N q (List.mem_append_right _ hq)
        exact ⟨hk₁ _ _ a.1, Nat.ne_of_lt (Heap.lt_size a.1), a.2.2⟩
  · rcases List.mem_append.mp hq with hq | hq
    · have a := cabove q hq
      rcases List.mem_cons.mp hy with rfl | hy
      · exact Nat.ne_of_gt (Nat.lt_trans hLt a)
      · exact Nat.ne_of_gt (Nat.lt_trans (Heap.lt_size (Z.N y (List.mem_append_right _ hy)).1) a)
    · rcases List.mem_cons.mp hy with rfl | hy
      · exact (Z.N q (List.mem_append_left _ hq)).2.1
      · exact Z.ap q hq y hy
end
section
variable {w : World} {p : Program} {loose : List Str} {mean : ExcName → Option Value} {mg mb : Str → Option Value}
/-- a call that raises -/
def Rz (w : World) (p : Program) (loose : List Str) (mean : ExcName → Option Value) (mg mb : Str → Option Value) (f : Value) (pos : List Value) (dpt : Nat) (X : String) : Prop :=
  ∀ (dp un : Nat) (gd : Option (List Code)) (env : Env) (outer : List Env) (frs : List (Addr × Obj)) (g : Heap) (L : Addr) (m : Str → Option Value) (led : List (Addr × Obj)) (s : Shared) (Q E : Value → Shared → Prop),
    Gd w p loose mean mg mb g → At g outer frs L m led s.heap → env.frame = some L → env.scope.kind = .function → dp + dpt < recursionLimit → un + 20 * dpt < cLine → 0 < s.toks →
    (∀ e h' tk', Flew (env :: outer) (offFr s.heap L frs) e X s.heap h' → 0 < tk' → E (.ref e) { s with heap := h', toks := tk' }) →
    wpC (model PG w) (aT none dp un gd (env :: outer)) (call f pos) Q E s
theorem frames_mono {h B B' : Heap} (hB : ∀ b, B'.get? b = none → B.get? b = none) : ∀ {l : List Env}, h.FunFrames B' l → h.FunFrames B l
  | [], _ => trivial
  | env :: l, ⟨a, ⟨L, o, c, d, e⟩, r⟩ => ⟨a, ⟨L, o, c, hB L d, e⟩, frames_mono hB r⟩
theorem rz_pos {f : Addr} {name qual : Str} {params : Arguments} {body : List Stmt} {scope : Scope} {kV doc pm cdv ct oc : Value} {an od : Option Addr} {osl : Array (Option Value)} {vals : List Value} {binds : List (Str × Value)} {X : String} {m₀ cm : Str → Option Value}
    (ho : (hd.heap_39 w.params).lookup f = some ⟨oc, od, .func (fnOf name qual params body scope .none kV doc pm an cdv ct), osl⟩) (hcd : codeIn (hd.heap_39 w.params) cdv qual = true)
    (hb : bindArgs (fnOf name qual params body scope .none kV doc pm an cdv ct) ⟨vals, []⟩ = pure binds)
    (hkind : ∀ n, ∀ x ∈ binds, scope.names.lookup x.1 = some .local ∨ (scope.names.lookup x.1 = some .cell ∧ ((cellsFrom n scope.names []).lookup x.1).isSome = true))
    (hm : ∀ L', (bindL (envOfC qual scope L' f cdv).kindOf binds fun _ => none) = m₀)
    (hnd : ((cellsFrom 0 scope.names []).map (·.1)).Nodup) (hco : scope.isCoroutine = false) (hgen : scope.isGenerator = false) (hk : scope.kind = .function)
    (h : ∀ (L' : Addr) (s : Shared) (A : Around) (E : Value → Shared → Prop), A.handled = none → s.heap.Ns L' m₀ → (∀ e h' tk', Heap.NewExc s.heap h' e X → E (.ref e) { s with heap := h', toks := tk' }) →
      wpC (model PG w) A (execs body (envOfC qual scope L' f cdv)) (fun _ _ => False) E s) :
    Rz w p loose mean mg mb (.ref f) vals 1 X := by
  intro dp un gd env outer frs g L m led s Q E G Z he hke hd hu htk hret
  have hlim := G.T.nolimit
  refine wpC_call ?_
  refine codeC_call_function (fd := fnOf name qual params body scope .none kV doc pm an cdv ct) (body := body) (show dp < recursionLimit by omega) ((G.X.keeps Z.F.keep) _ _ ho) rfl hco hgen rfl (codeRec_of (G.X.keeps Z.F.keep) hcd) ?_
  rw [hb]
  refine wpAny_pure ?_
  refine wpAny_mono (frame_gen (s := s) (binds := binds) (R := fun r s' => match r with | .ok (.ret v) => Q v s' | .ok _ => False | .error e => E e s') Z hlim he hke htk hkind hnd hk (fun L' h₁ tk₁ cells oL Z₁ Y lo₁ hi₁ htk₁ hL hLs hk₁ => ?_)) (fun _ _ x => x) fun _ _ x => x
  rw [hm] at Z₁
  refine codeC_func (wpC_tk (n := 1) htk₁ (wpC_mono (h L' { s with heap := h₁, toks := tk₁ } _ (fun v s' => 1 ≤ s'.toks → wpAny (model PG w) ((aT none dp un gd (env :: outer)).deeper (envOfC qual scope L' f cdv)) (leaving (envOfC qual scope L' f cdv) v) (fun _ s'' => E v s'') (fun e' s'' => E e' s'') s') rfl Z₁.F.ns fun e h₂ tk₂ hx htk₂ => ?_) (fun _ _ x => x.elim) fun _ _ x => x))
  -- the exception leaves the frame
  obtain ⟨ob, tp, hob, hcls, hod⟩ := hx.there
  have Bsub : ∀ b o, (offFr s.heap L frs).get? b = some o → (offFr h₁ L' ((L, oL) :: frs)).get? b = some o := fun b o e => by
    obtain ⟨nb, e⟩ := gone_some e
    have hbL' : b ≠ L' := by rw [hLs]; exact Nat.ne_of_lt (Heap.lt_size e)
    exact (gone_get (fun q => by
      rcases List.mem_cons.mp q with q | q
      · exact hbL' q
      · exact nb q)).trans (hk₁ b o e)
  have Bnone : ∀ b, (offFr h₁ L' ((L, oL) :: frs)).get? b = none → (offFr s.heap L frs).get? b = none := fun b e => by
    cases q : (offFr s.heap L frs).get? b with
    | none => rfl
    | some o => rw [Bsub b o q] at e; cases e
  have ff := Z₁.frames (env := envOfC qual scope L' f cdv) rfl hk
  refine wpAny_tk (n := 1) (s := { s with heap := h₂, toks := tk₂ }) htk₂ ?_
  refine wpAny_leaving_firstW (base := offFr h₁ L' ((L, oL) :: frs)) (a0 := tp) (outer := env :: outer) rfl (ff.of_keeps fun b o hb' _ => ⟨o, hx.keeps b o hb', rfl⟩) rfl hob
    (fun b o eb => hx.keeps b o (gone_some eb).2) (none_of (fun b o eb => (gone_some eb).2) hx.new) hod rfl rfl fun h' hL' htk' => ?_
  obtain ⟨k1, ⟨_, _, k2⟩, k3, k4⟩ := hL'
  obtain ⟨oe, vs, T, oT, ts, x1, x2, x3, x4, x5, x6, x7, x8, x9⟩ := k3
  refine hret e h' tk₂ (.inr ⟨tp, ⟨fun b o eb => k1 b o (Bsub b o eb), Bnone _ (none_of (fun b o eb => (gone_some eb).2) hx.new), frames_mono Bnone k2, oe, vs, T, oT, ts, x1, by rw [← hcls]; exact x2, x3, x4, Bnone _ x5, x6, x7, x8, x9⟩, ?_⟩) htk'
  exact ((Heap.UpToSlots.of_keeps hk₁).trans (.of_keeps hx.keeps)).trans k4

theorem halved_rz {b : Array UInt8} {u : Tok} : Rz w p loose mean mg mb (.ref 163) [.bytes b u] 1 "TypeError" := by
  (refine fill_aux ?_; k_fill; intro _ _)
  refine' rz_pos (m₀ := fun y => if y = ("score" : Str) then some (.bytes b u) else none) (cm := fun _ => none) ?ho ?hcd ?hb ?hkind ?hm ?hnd ?hco ?hgen ?hk ?h
  case ho => k_is
  case hcd => k_is
  case hb => rfl
  case hkind => intro n; repeat (first | exact List.forall_mem_nil _ | (refine List.forall_mem_cons.mpr ⟨by first | exact .inl rfl | exact .inr ⟨rfl, rfl⟩, ?_⟩))
  case hm => intro L'; rfl
  case hnd => decide
  case hco => rfl
  case hgen => rfl
  case hk => rfl
  intro L' s A E hh hn k
  refine c_execs_cons (c_Return (.any (wpAny_BinOp (n_local hn rfl (wpAny_Constant_int ?_)))))
  exact div_bytes hh fun h' tk e hx => k e h' tk hx
end
end Mine
end
section
open PySem PySem.W PyProof.Rows PySem.Calls PySem.Flt
open PyProof.Rows.TI (Frs SameUp)
set_option maxRecDepth 100000
set_option maxHeartbeats 1000000
namespace Mine
/-- how scores are to be had -/
def fv : Nat → Value
  | 0 => .type "float"
  | 1 => .type "int"
  | 2 => .ref 156
  | _ => .ref 163
def newT (way : Nat) (q : Int) : T := match way with
  | 0 => .flt (F4 q)
  | 1 => .int (Int.tdiv q 4)
  | 2 => .flt (F4 q)
  | _ => .flt (F8 q)
def eldT (way : Nat) (q : Int) : T := match way with
  | 0 => .flt (F4 q)
  | 1 => .int (Int.tdiv q 4)
  | 2 => .by (Wt q)
  | _ => .flt (F8 q)
section
variable {w : World} {p : Program} {loose : List Str} {mean : ExcName → Option Value} {mg mb : Str → Option Value}
theorem At.tok {g : Heap} {outer : List Env} {frs : List (Addr × Obj)} {L : Addr} {m : Str → Option Value} {led : List (Addr × Obj)} {h : Heap} (Z : At g outer frs L m led h) : At g outer frs L m led h := Z
/-- a call that changes tokens alone -/
theorem ct_leaf {any : Bool} {f : Value} {pos : List Value} {dpt : Nat} {led : List (Addr × Obj)} {Post : Value → List (Addr × Obj) → Prop}
    (h : ∀ (A : Around) (E : Value → Shared → Prop) (s : Shared) (Q : Value → Shared → Prop), 0 < s.toks → (∀ r tk, 0 < tk → Post r led → Q r { s with toks := tk }) → wpAny (model PG w) A (call f pos) Q E s) :
    Ct any w p loose mean mg mb f pos [] dpt led Post := by
  intro hh dp un gd env outer frs g L m s Q E hany G Z he hke hd hu htk hret
  exact .any (h _ _ _ _ htk fun r tk htk' hp => hret r led s.heap tk frs (SameUp.refl _) Z hp htk')
theorem Ct.weak {w : World} {any : Bool} {f : Value} {pos : List Value} {kw : List (Str × Value)} {dpt : Nat} {led : List (Addr × Obj)} {Post Post' : Value → List (Addr × Obj) → Prop} (h : Ct true w p loose mean mg mb f pos kw dpt led Post) (hp : ∀ r l, Post r l → Post' r l) : Ct any w p loose mean mg mb f pos kw dpt led Post' := by
  intro hh dp un gd env outer frs g L m s Q E hany G Z he hke hd hu htk hret
  exact h hh dp un gd env outer frs g L m s Q E (.inl rfl) G Z he hke hd hu htk fun r led' h' tk' frs' S Z' P t => hret r led' h' tk' frs' S Z' (hp _ _ P) t
theorem Ct.deep {any : Bool} {f : Value} {pos : List Value} {kw : List (Str × Value)} {dpt dpt' : Nat} {led : List (Addr × Obj)} {Post : Value → List (Addr × Obj) → Prop} (h : Ct any w p loose mean mg mb f pos kw dpt led Post) (hd : dpt ≤ dpt') : Ct any w p loose mean mg mb f pos kw dpt' led Post := by
  intro hh dp un gd env outer frs g L m s Q E hany G Z he hke hd' hu htk hret
  exact h hh dp un gd env outer frs g L m s Q E hany G Z he hke (by omega) (by omega) htk hret

theorem raw_flt (way : Nat) (hw : way ≤ 3) {q : Int} (hq : Qok q) {u : Tok} (hu : u ≠ 0) {led : List (Addr × Obj)} : Ct true w p loose mean mg mb (fv way) [.float (F4 q) u] [] 1 led (fun r l => l = led ∧ Rep [] r (newT way q)) := by
  match way, hw with
  | 0, _ => exact ct_leaf fun A E s Q htk k => call_float_float (k _ _ htk ⟨rfl, .flt _ _ hu (F4_cmp hq)⟩)
  | 1, _ =>
    obtain ⟨sg, mm, e, hdec, htr⟩ := F4_trunc hq
    refine ct_leaf fun A E s Q htk k => ?_
    refine call_int_float hdec ?_
    rw [htr]
    exact k _ _ (Nat.succ_pos _) ⟨rfl, .int _ _⟩
  | 2, _ => exact kept_ct.weak fun r l h => ⟨h.2, by rw [h.1]; exact .flt _ _ hu (F4_cmp hq)⟩
  | 3, _ => exact (halved_ct hq).weak fun r l h => ⟨h.2, by obtain ⟨⟨t, ht, rfl⟩, _⟩ := h; exact .flt _ _ ht (F8_cmp hq)⟩
/-- an octets' cast that succeeds at once, or one that is refused -/
theorem raw_by (way : Nat) (hw : way ≤ 3) {q : Int} (hq : Qok q) {u : Tok} : (∀ led, Ct false w p loose mean mg mb (fv way) [.bytes (Wt q) u] [] 1 led (fun r l => l = led ∧ Rep [] r (eldT way q))) ∨
    (∃ X, (X = "ValueError" ∨ X = "TypeError") ∧ newT way q = eldT way q ∧ Rz w p loose mean mg mb (fv way) [.bytes (Wt q) u] 1 X) := by
  match way, hw with
  | 0, _ => exact .inl fun led => ct_leaf fun A E s Q htk k => call_float_bytes hq (k _ _ (Nat.succ_pos _) ⟨rfl, .flt _ _ (Nat.ne_of_gt htk) (F4_cmp hq)⟩)
  | 1, _ =>
    by_cases h4 : q.natAbs % 4 = 0
    · exact .inl fun led => ct_leaf fun A E s Q htk k => call_int_bytes hq h4 (k _ _ (Nat.succ_pos _) ⟨rfl, .int _ _⟩)
    · refine .inr ⟨"ValueError", .inl rfl, rfl, ?_⟩
      intro dp un gd env outer frs g L m led s Q E G Z he hke hd hu htk hret
      exact wpC_tk (n := 1) htk (wpC_mono (c_call_int_part hq h4 rfl (Q := fun _ _ => False) (E := fun e s' => 1 ≤ s'.toks → E e s') fun h' tk e hx htk' => hret e h' tk (.inl hx) htk') (fun _ _ x => x.elim) fun _ _ x => x)
  | 2, _ => exact .inl fun led => kept_ct.weak fun r l h => ⟨h.2, by rw [h.1]; exact .by _ _⟩
  | 3, _ => exact .inr ⟨"TypeError", .inr rfl, rfl, halved_rz⟩
end
end Mine
end
section
open PySem PySem.W PyProof.Rows PySem.Calls PySem.Flt
open PyProof.Rows.TI (Frs SameUp gone gone_get gone_none gone_some sameUp_of none_of)
set_option maxRecDepth 100000
set_option maxHeartbeats 1000000
namespace Mine
section
variable {w : World} {A : Around} {s : Shared} {g : Heap} {outer : List Env} {frs : List (Addr × Obj)} {L : Addr} {m : Str → Option Value} {led : List (Addr × Obj)} {env : Env}
  {R : Result → Shared → Prop} {qual : Str} {body : List Stmt} {scope : Scope} {cdv : Value} {f : Addr} {binds : List (Str × Value)} {clos : List (Str × Addr)}
/-- the frame of a def that closes over cells -/
theorem frame_clos {E : Value → Shared → Prop} (Z : At g outer frs L m led s.heap) (hlim : g.NoLimit) (hf : env.frame = some L) (hke : env.scope.kind = .function) (htk : 0 < s.toks)
    (hkind : ∀ x ∈ binds, scope.names.lookup x.1 = some .local) (hcell : ∀ x ∈ scope.names, x.2 ≠ .cell) (hk : scope.kind = .function)
    (h : ∀ L' h₁ tk oL, At g (env :: outer) ((L, oL) :: frs) L' (fun x => binds.reverse.lookup x) led h₁ → (∀ p ∈ led, p.1 < L') → 0 < tk →
      wpC (model PG w) (A.deeper (envX qual scope L' f cdv clos)) (execs body (envX qual scope L' f cdv clos))
        (fun fl s' => ∃ h' tk' m' led' frs', s' = { s with heap := h', toks := tk' } ∧ SameUp ((L, oL) :: frs) frs' ∧ At g (env :: outer) frs' L' m' led' h' ∧ 0 < tk' ∧
          (∀ frs₁, SameUp frs frs₁ → At g outer frs₁ L m led' h' → R (.ok (.ret (match fl with | .ret v => v | _ => .none))) s')) NE
        { s with heap := h₁, toks := tk }) :
    wpAny (model PG w) A.in1 (newFunctionEnv scope mainGlobals clos binds (qual ++ ".<locals>.") (some f) cdv none builtinsNs) (fun env' s₂ => s₂.heap.NoLimit ∧ codeC (model PG w) A (.func body env') R s₂) E s := by
  obtain ⟨oL, hL, Fs', hLb⟩ := Z.enter hf hke
  refine wpAny_tk (n := 1) htk (wpAny_newFunctionEnv hcell hkind (fun h₁ hns hsb htk' => ?_) hk)
  have hk₁ : ∀ b o, s.heap.get? b = some o → h₁.get? b = some o := fun b o e => hsb.extBut b o (Nat.ne_of_lt (Heap.lt_size e)) (Heap.get?_push_of_some _ e)
  have hLt : L < s.heap.objs.size := Heap.lt_size hL
  have hgL : g.objs.size ≤ s.heap.objs.size := Nat.le_trans Z.F.above (Nat.le_of_lt hLt)
  refine ⟨(hlim.keeps Z.F.keep).keeps hk₁, codeC_funcN ?_⟩
  refine wpC_mono (h s.heap.objs.size h₁ _ oL ⟨⟨hns, fun b o e => hk₁ b o (Z.F.keep b o e), hgL⟩, fun q hq => ?_, fun q hq y hy => ?_, Fs'⟩ (fun q hq => Heap.lt_size (Z.N q (List.mem_append_left _ hq)).1) htk')
    (fun fl s' hs => ?_) fun _ _ e => e
  · rcases List.mem_append.mp hq with hq | hq
    · have a := Z.N q (List.mem_append_left _ hq)
      exact ⟨hk₁ _ _ a.1, Nat.ne_of_lt (Heap.lt_size a.1), a.2.2⟩
    · rcases List.mem_cons.mp hq with rfl | hq
      · exact ⟨hk₁ _ _ hL, Nat.ne_of_lt hLt, Heap.get?_none_of_le Z.F.above⟩
      · have a := Z.N q (List.mem_append_right _ hq)
        exact ⟨hk₁ _ _ a.1, Nat.ne_of_lt (Heap.lt_size a.1), a.2.2⟩
  · rcases List.mem_cons.mp hy with rfl | hy
    · exact (Z.N q (List.mem_append_left _ hq)).2.1
    · exact Z.ap q hq y hy
  · obtain ⟨h', tk', m', led', frs', e, S, Z', htk'', k⟩ := hs
    obtain ⟨frs₁, S₁, Z₁⟩ := Z'.back S Z.Fs hLb Z.F.above fun y hy => (Z.N y (List.mem_append_right _ hy)).2.1
    exact k frs₁ S₁ Z₁
end
section
variable {w : World} {p : Program} {loose : List Str} {mean : ExcName → Option Value} {mg mb : Str → Option Value}
theorem n_free {M : Model} {A : Around} {E : Value → Shared → Prop} {s : Shared} {env : Env} {x : Str} {pos : Pos} {v : Value} {c : Addr} {Q : Value → Shared → Prop} (hv : s.heap.IsCell c (some v)) (h : Q v s) (hk : env.scope.kind = .function) (hx : env.kindOf x = some .free)
    (hc : env.cells.lookup x = some c) (hd : (x == ("__debug__" : Str)) = false := by decide) (hn : (x == ("__classdict__" : Str)) = false := by decide) : wpAny M A (eval (.Name x pos) env) Q E s :=
  wpAny_Name (wpAny_loadName_free hk hx hc hv h hn) hd

/-- who a value's keeper is -/
def KeepOk (w : World) (v : Value) : Prop := ∀ (g h : Heap), (hd.heap_39 w.params).In g → (∀ b o, g.get? b = some o → h.get? b = some o) → ∃ k, (k = Keeper.frame ∨ k = Keeper.machine) ∧ Looks (model PG w) h (keeperOf v) k

/-- what a cast does at once, or in a second try -/
def CastStep (w : World) (p : Program) (loose : List Str) (mean : ExcName → Option Value) (mg mb : Str → Option Value) (v x : Value) (t : T) : Prop :=
  (∀ led, Ct false w p loose mean mg mb v [x] [] 1 led (fun r l => l = led ∧ Rep [] r t)) ∨
    (∃ X F, (X = "ValueError" ∨ X = "TypeError") ∧ Rz w p loose mean mg mb v [x] 1 X ∧
      (∀ (A : Around) (E : Value → Shared → Prop) (s : Shared) (Q : Value → Shared → Prop), 0 < s.toks → (∀ u tk, u ≠ 0 → 0 < tk → Q (.float F u) { s with toks := tk }) → wpAny (model PG w) A (call (.type "float") [x]) Q E s) ∧
      ∀ u, u ≠ 0 → ∀ led, Ct true w p loose mean mg mb v [.float F u] [] 1 led (fun r l => l = led ∧ Rep [] r t))

theorem safe_ct {gf C c' : Addr} {oC oc : Obj} {vs : Array Value} {name qual scn xn : Str} {params : Arguments} {scope : Scope} {doc pm ctv v x : Value} {tq : Tok} {led : List (Addr × Obj)} {t : T} {p1 p2 p3 p4 p5 p6 p7 p8 p9 p10 p11 p12 p13 p14 p15 : Pos} {kk : Nat}
    (hgf : (gf, fnMade name qual params [.Try [.Return (some (.Call (.Name scn p1) [.Name xn p2] [] p3)) p4]
      [.ExceptHandler (some (.Tuple [.Name "ValueError" p5, .Name "TypeError" p6] kk p7)) none [.Return (some (.Call (.Name scn p8) [.Call (.Name "float" p9) [.Name xn p10] [] p11] [] p12)) p13] p14] [] [] p15] scope [(scn, C)] doc pm c' ctv) ∈ led)
    (hC : (C, oC) ∈ led) (hCd : oC.data = .cell (some v)) (hc : (c', oc) ∈ led) (hcd : oc.data = .fields vs) (hcv : vs[1]? = some (.str qual tq))
    (hb : bindArgs (fnX name qual params [.Try [.Return (some (.Call (.Name scn p1) [.Name xn p2] [] p3)) p4]
      [.ExceptHandler (some (.Tuple [.Name "ValueError" p5, .Name "TypeError" p6] kk p7)) none [.Return (some (.Call (.Name scn p8) [.Call (.Name "float" p9) [.Name xn p10] [] p11] [] p12)) p13] p14] [] [] p15] scope [(scn, C)] .none .none doc pm none (.ref c') ctv) ⟨[x], []⟩ = pure [(xn, x)])
    (hco : scope.isCoroutine = false) (hgen : scope.isGenerator = false) (hk : scope.kind = .function) (hcell : ∀ x ∈ scope.names, x.2 ≠ .cell)
    (k1 : scope.names.lookup xn = some .local) (k2 : scope.names.lookup scn = some .free) (k3 : scope.names.lookup ("ValueError" : Str) = some .globalImplicit) (k4 : scope.names.lookup ("TypeError" : Str) = some .globalImplicit) (k5 : scope.names.lookup ("float" : Str) = some .globalImplicit)
    (d1 : (xn == ("__debug__" : Str)) = false) (d2 : (scn == ("__debug__" : Str)) = false) (d3 : (scn == ("__classdict__" : Str)) = false)
    (n3 : nsIn (hd.heap_39 w.params) mainGlobals ("ValueError" : Str) = some none) (n4 : nsIn (hd.heap_39 w.params) mainGlobals ("TypeError" : Str) = some none) (n5 : nsIn (hd.heap_39 w.params) mainGlobals ("float" : Str) = some none)
    (hkeep : KeepOk w v) (hst : CastStep w p loose mean mg mb v x t) :
    Ct false w p loose mean mg mb (.ref gf) [x] [] 3 led (fun r l => l = led ∧ Rep [] r t) := by
  intro hh dp un gd env outer frs g L m s Q E hany G Z he hke hd hu htk hret
  have hh0 : hh = none := hany.resolve_left (fun q => nomatch q)
  subst hh0
  have hlim := G.T.nolimit
  have TR := topRead_of G.T
  refine wpC_call ?_
  refine codeC_call_function (fd := fnX name qual params _ scope [(scn, C)] .none .none doc pm none (.ref c') ctv) (show dp < recursionLimit by omega) (Z.N _ (List.mem_append_left _ hgf)).1 rfl hco hgen rfl ⟨c', oc, vs, tq, rfl, (Z.N _ (List.mem_append_left _ hc)).1, hcd, hcv⟩ ?_
  rw [hb]
  refine wpAny_pure ?_
  refine wpAny_mono (frame_clos (s := s) (binds := [(xn, x)]) (R := fun r s' => match r with | .ok (.ret v) => Q v s' | .ok _ => False | .error e => E e s') Z hlim he hke htk (List.forall_mem_singleton.mpr k1) hcell hk (fun L' h₁ tk₁ oL Z₁ lo₁ htk₁ => ?_)) (fun _ _ x => x) fun _ _ x => x
  have mx : (fun y => ([(xn, x)] : List (Str × Value)).reverse.lookup y) xn = some x := by simp
  have cell : ∀ {h : Heap} {frs' m'}, At g (env :: outer) frs' L' m' led h → h.IsCell C (some v) := fun Z' => ⟨oC, (Z'.N _ (List.mem_append_left _ hC)).1, hCd⟩
  generalize henv : envX qual scope L' gf (.ref c') [(scn, C)] = env'
  have e1 : env'.scope.kind = .function := by rw [← henv]; exact hk
  have e2 : env'.kindOf scn = some .free := by rw [← henv]; exact k2
  have e3 : env'.cells.lookup scn = some C := by rw [← henv]; simp [envX]
  have e4 : env'.kindOf xn = some .local := by rw [← henv]; exact k1
  have e5 : env'.frame = some L' := by rw [← henv]
  have e6 : env'.locals = L' := by rw [← henv]
  have fin : ∀ {r : Value} {h' : Heap} {tk' : Tok} {frs' : List (Addr × Obj)} {m'}, SameUp ((L, oL) :: frs) frs' → At g (env :: outer) frs' L' m' led h' → 0 < tk' → Rep [] r t →
      ∃ h'' tk'' m' led' frs', ({ s with heap := h', toks := tk' } : Shared) = { s with heap := h'', toks := tk'' } ∧ SameUp ((L, oL) :: frs) frs' ∧ At g (env :: outer) frs' L' m' led' h'' ∧ 0 < tk'' ∧
        (∀ frs₁, SameUp frs frs₁ → At g outer frs₁ L m led' h'' → Q r { s with heap := h', toks := tk' }) :=
    fun S Z' ht hr => ⟨_, _, _, led, _, rfl, S, Z', ht, fun frs₁ S₁ Z₂ => hret _ led _ _ frs₁ S₁ Z₂ ⟨rfl, hr⟩ ht⟩
  refine c_execs_cons (c_Try ?_)
  refine c_execs_cons (c_Return (c_Call1 (n_free (cell Z₁) ?_ e1 e2 e3 d2 d3)))
  refine c_spliced_cons (.any (n_local (by rw [e6]; exact Z₁.F.ns) mx ?_ e1 e4 d1))
  refine c_spliced_nil ⟨hkeep g _ G.X Z₁.F.keep, ?_⟩
  rcases hst with ok | ⟨X, F, hX, hrz, hfl, hok⟩
  · refine ok led none (dp + 1) (un + 3) gd env' (env :: outer) ((L, oL) :: frs) g L' _ _ _ _ (.inr rfl) G Z₁ e5 e1 (by omega) (by omega) htk₁ fun r led' h' tk' frs' S Z' P ht => ?_
    obtain ⟨rfl, hr⟩ := P
    exact fin S Z' ht hr
  · refine hrz (dp + 1) (un + 3) gd env' (env :: outer) ((L, oL) :: frs) g L' _ led _ _ _ G Z₁ e5 e1 (by omega) (by omega) htk₁ fun e h₂ tk₂ hx htk₂ => ?_
    refine noted_flew (s' := { s with heap := h₂, toks := tk₂ }) rfl e5 e1 Z₁ hx fun h₃ a0 hfy hup => ?_
    obtain ⟨frs₃, S₃, Z₃⟩ := Z₁.stays hfy.1 hup
    obtain ⟨b1, b2, s1, s2, hb12⟩ : ∃ b1 b2, isSubtype (.type X) (.type "ValueError") = pure b1 ∧ isSubtype (.type X) (.type "TypeError") = pure b2 ∧ (b1 || b2) = true := by
      rcases hX with rfl | rfl
      · exact ⟨true, false, isSubtype_of_subB (by decide +kernel), isSubtype_of_subB (by decide +kernel), rfl⟩
      · exact ⟨false, true, isSubtype_of_subB (by decide +kernel), isSubtype_of_subB (by decide +kernel), rfl⟩
    refine c_handleBy_tup2 (T1 := "ValueError") (T2 := "TypeError") (isSubtype_of_subB (by decide +kernel)) (isSubtype_of_subB (by decide +kernel)) (isSubtype_of_subB (by decide +kernel)) (isSubtype_of_subB (by decide +kernel)) s1 s2 hb12 ?_
    subst henv
    refine Tuple_ (spliced_more (nameX_B Z₃.F G.X TR n3 (v := .type "ValueError") (by decide +kernel) (by decide) ?_ hk k3))
    refine spliced_more (nameX_B Z₃.F G.X TR n4 (v := .type "TypeError") (by decide +kernel) (by decide) ?_ hk k4)
    refine spliced_none ?_
    obtain ⟨ob, hob, hcls⟩ := hfy.there
    refine wpAny_newObj_type ⟨_, rfl, IsTup.new _ _, ⟨ob, Heap.get?_push_of_some _ hob, hcls⟩, ?_⟩
    obtain ⟨f1, f2, f3, f4⟩ := flying_keeps hfy (fun b o e => Heap.get?_push_of_some ({ cls := .type "tuple", dict := none, data := .seq [Value.type "ValueError", .type "TypeError"].toArray } : Obj) e)
    refine wpAny_setFlight_noneW f1 f3 f4 fun h₅ q1 q2 q3 q4 => ?_
    obtain ⟨frs₅, S₅, Z₅⟩ := Z₁.stays q1 (hup.trans fun b o hb' hn => ⟨o.slots, q4 b o (Heap.get?_push_of_some _ hb') hn⟩)
    refine c_execs_cons (c_Return (c_Call1 (n_free (cell Z₅) ?_ e1 e2 e3 d2 d3)))
    refine c_spliced_cons (c_Call1 (nameX_B Z₅.F G.X TR n5 (v := .type "float") (by decide +kernel) (by decide) ?_ hk k5) )
    refine c_spliced_cons (.any (n_local Z₅.F.ns mx ?_ e1 e4 d1))
    refine c_spliced_nil ⟨⟨.machine, .inr rfl, keeper_type⟩, ?_⟩
    refine .any (hfl _ _ _ _ htk₂ fun u tk₆ hu0 htk₆ => ?_)
    refine c_spliced_nil ⟨hkeep g _ G.X Z₅.F.keep, ?_⟩
    refine hok u hu0 led (some (.ref e)) (dp + 1) (un + 3) gd (envX qual scope L' gf (.ref c') [(scn, C)]) (env :: outer) frs₅ g L' _ _ _ _ (.inl rfl) G Z₅ e5 e1 (by omega) (by omega) htk₆ fun r led' h' tk' frs' S Z' P ht => ?_
    obtain ⟨rfl, hr⟩ := P
    exact fin (S₅.trans S) Z' ht hr
end
end Mine
end
section
open PySem PySem.W PyProof.Rows PySem.Calls PySem.Flt
open PyProof.Rows.TI (Frs SameUp)
set_option maxRecDepth 100000
set_option maxHeartbeats 400000
namespace Mine
section
variable {w : World} {p : Program} {loose : List Str} {mean : ExcName → Option Value} {mg mb : Str → Option Value}
def KeepL (w : World) (v : Value) (led : List (Addr × Obj)) : Prop := ∀ (g h : Heap), (hd.heap_39 w.params).In g → (∀ b o, g.get? b = some o → h.get? b = some o) → (∀ q ∈ led, h.get? q.1 = some q.2) → ∃ k, (k = Keeper.frame ∨ k = Keeper.machine) ∧ Looks (model PG w) h (keeperOf v) k
/-- a cast in the newer form -/
structure CasN (w : World) (p : Program) (loose : List Str) (mean : ExcName → Option Value) (mg mb : Str → Option Value) (way : Nat) (v : Value) (led : List (Addr × Obj)) : Prop where
  keep : KeepL w v led
  flt : ∀ led', (∀ q ∈ led, q ∈ led') → ∀ q u, Qok q → u ≠ 0 → Ct false w p loose mean mg mb v [.float (F4 q) u] [] 3 led' (fun r l => l = led' ∧ Rep [] r (newT way q))
/-- a cast in both forms -/
structure CasE (w : World) (p : Program) (loose : List Str) (mean : ExcName → Option Value) (mg mb : Str → Option Value) (way : Nat) (v : Value) (led : List (Addr × Obj)) : Prop extends CasN w p loose mean mg mb way v led where
  byt : ∀ led', (∀ q ∈ led, q ∈ led') → ∀ q u, Qok q → Ct false w p loose mean mg mb v [.bytes (Wt q) u] [] 3 led' (fun r l => l = led' ∧ Rep [] r (eldT way q))
theorem CasN.mono {way : Nat} {v : Value} {led led' : List (Addr × Obj)} (x : CasN w p loose mean mg mb way v led) (h : ∀ q ∈ led, q ∈ led') : CasN w p loose mean mg mb way v led' :=
  ⟨fun g hh a b c => x.keep g hh a b fun q hq => c q (h q hq), fun l hl => x.flt l fun q hq => hl q (h q hq)⟩
theorem CasE.mono {way : Nat} {v : Value} {led led' : List (Addr × Obj)} (x : CasE w p loose mean mg mb way v led) (h : ∀ q ∈ led, q ∈ led') : CasE w p loose mean mg mb way v led' :=
  ⟨x.toCasN.mono h, fun l hl => x.byt l fun q hq => hl q (h q hq)⟩

theorem fn156 (w : World) : ((hd.heap_39 w.params).lookup 156).map (fun o => match o.data with | .func _ => true | _ => false) = some true := by kernel_rfl
theorem fn163 (w : World) : ((hd.heap_39 w.params).lookup 163).map (fun o => match o.data with | .func _ => true | _ => false) = some true := by kernel_rfl
theorem keep_fn {a : Addr} (h : ((hd.heap_39 w.params).lookup a).map (fun o => match o.data with | .func _ => true | _ => false) = some true) : KeepOk w (.ref a) := by
  intro g hh X k
  cases q : (hd.heap_39 w.params).lookup a with
  | none => rw [q] at h; cases h
  | some o =>
    rw [q] at h
    obtain ⟨oc, od, dt, sl⟩ := o
    cases dt with
    | func fd => exact ⟨.frame, .inl rfl, keeper_fn (k _ _ (X a _ q)) rfl⟩
    | _ => cases (Option.some.inj h)
theorem keep_fv (way : Nat) (hw : way ≤ 3) : KeepOk w (fv way) := by
  match way, hw with
  | 0, _ => exact fun g h X k => ⟨.machine, .inr rfl, keeper_type⟩
  | 1, _ => exact fun g h X k => ⟨.machine, .inr rfl, keeper_type⟩
  | 2, _ => exact keep_fn (fn156 w)
  | 3, _ => exact keep_fn (fn163 w)
theorem casN_raw (way : Nat) (hw : way ≤ 3) {led : List (Addr × Obj)} : CasN w p loose mean mg mb way (fv way) led :=
  ⟨fun g h a b _ => keep_fv way hw g h a b, fun led' _ q u hq hu => ((raw_flt way hw hq hu).weak fun _ _ x => x).deep (by decide)⟩
theorem casE_float {led : List (Addr × Obj)} : CasE w p loose mean mg mb 0 (.type "float") led :=
  ⟨casN_raw 0 (by decide), fun led' _ q u hq => (ct_leaf fun A E s Q htk k => call_float_bytes hq (k _ _ (Nat.succ_pos _) ⟨rfl, .flt _ _ (Nat.ne_of_gt htk) (F4_cmp hq)⟩))⟩
theorem step_by (way : Nat) (hw : way ≤ 3) {q : Int} (hq : Qok q) (u : Tok) : CastStep w p loose mean mg mb (fv way) (.bytes (Wt q) u) (eldT way q) := by
  rcases raw_by (w := w) (p := p) (loose := loose) (mean := mean) (mg := mg) (mb := mb) way hw hq (u := u) with h | ⟨X, hX, e, hz⟩
  · exact .inl h
  · refine .inr ⟨X, F4 q, hX, hz, fun A E s Q htk k => call_float_bytes hq (k _ _ (Nat.ne_of_gt htk) (Nat.succ_pos _)), fun u hu led => ?_⟩
    rw [← e]
    exact raw_flt way hw hq hu
theorem step_flt (way : Nat) (hw : way ≤ 3) {q : Int} (hq : Qok q) {u : Tok} (hu : u ≠ 0) : CastStep w p loose mean mg mb (fv way) (.float (F4 q) u) (newT way q) :=
  .inl fun led => (raw_flt way hw hq hu).weak fun _ _ x => x

theorem fv_plain (way : Nat) (hw : way ≤ 3) : plainIs (fv way) (.type "float") = true := by
  match way, hw with
  | 0, _ => rfl
  | 1, _ => rfl
  | 2, _ => rfl
  | 3, _ => rfl
theorem fv_other (way : Nat) (hw : way ≤ 3) (h0 : way ≠ 0) : (fv way == .type "float") = false := by
  match way, hw, h0 with
  | 1, _, _ => rfl
  | 2, _, _ => rfl
  | 3, _, _ => rfl
/-- what the wrapped cast leans on -/
def CasF (w : World) (p : Program) (loose : List Str) (mean : ExcName → Option Value) (mg mb : Str → Option Value) (way : Nat) (led : List (Addr × Obj)) (r : Value) (led₂ : List (Addr × Obj)) : Prop :=
  ∃ nl, (∀ q ∈ nl, q ∈ led₂) ∧ (∀ q ∈ nl, ∀ x ∈ led, q.1 = x.1 → ∃ vs, q.2.data = .fields vs) ∧ CasE w p loose mean mg mb way r nl
theorem CasF.three {way : Nat} {a b c : Addr × Obj} {l led : List (Addr × Obj)} {r : Value} (h1 : ∀ x ∈ led, a.1 ≠ x.1) (h2 : ∀ x ∈ led, b.1 = x.1 → ∃ vs, b.2.data = .fields vs) (h3 : ∀ x ∈ led, c.1 ≠ x.1) (ma : a ∈ l) (mb' : b ∈ l) (mc : c ∈ l)
    (hc : CasE w p loose mean mg mb way r [a, b, c]) : CasF w p loose mean mg mb way led r l := by
  refine ⟨[a, b, c], fun q hq => ?_, fun q hq x hx e => ?_, hc⟩
  · simp only [List.mem_cons, List.not_mem_nil, or_false] at hq
    rcases hq with rfl | rfl | rfl
    · exact ma
    · exact mb'
    · exact mc
  · simp only [List.mem_cons, List.not_mem_nil, or_false] at hq
    rcases hq with rfl | rfl | rfl
    · exact absurd e (h1 x hx)
    · exact h2 x hx e
    · exact absurd e (h3 x hx)
theorem perm_new {α : Type} {a b c d q : α} {l k : List α} (h : q ∈ (d :: a :: b :: c :: l) ++ k) : q ∈ a :: b :: c :: d :: (l ++ k) := by
  simp only [List.cons_append, List.mem_cons, List.mem_append] at h ⊢
  rcases h with h | h | h | h | h | h <;> simp [h]
theorem perm_hit {α : Type} {a c d q : α} {l k : List α} (h : q ∈ (d :: a :: c :: l) ++ k) : q ∈ a :: c :: d :: (l ++ k) := by
  simp only [List.cons_append, List.mem_cons, List.mem_append] at h ⊢
  rcases h with h | h | h | h | h <;> simp [h]
theorem wrap_ct (way : Nat) (hw : way ≤ 3) {ps : Array Value} {led : List (Addr × Obj)} (hl : Lg ps led) : Ct false w p loose mean mg mb (.ref 21) [fv way] [] 1 ((16, tabObj ps) :: led) (PostG led (CasF w p loose mean mg mb way led)) := by
  (refine fill_aux ?_; k_fill; intro _ _)
  refine' ct_pos (m₀ := fun y => none) (cm := fun y => if y = ("score_cast_func" : Str) then some (fv way) else none) ?ho ?hcd ?hb ?h1 ?hkind ?hm ?hc ?hnd ?hco ?hgen ?hk ?h
  ( (case ho => k_is); (case hcd => k_is); (case hb => rfl); (case h1 => decide); (case hkind => intro n; repeat (first | exact List.forall_mem_nil _ | (refine List.forall_mem_cons.mpr ⟨by first | exact .inl rfl | exact .inr ⟨rfl, rfl⟩, ?_⟩))); (case hm => intro L'; rfl); (case hc => intro L'; rfl); (case hnd => decide); (case hco => rfl); (case hgen => rfl); (case hk => rfl))
  intro hh dp un gd outer frs g L m own cells s hany G Z hm lo₁ lo₂ hi Y hd hu htk
  obtain ⟨rfl, rfl⟩ := hm
  obtain ⟨oC, rfl, hoC⟩ := CellsAre.one Y
  have hC : (L + 1, oC) ∈ ((L + 1, oC) :: (16, tabObj ps) :: led) ++ frs := .head _
  have Z : At g outer frs L (fun _ => none) ((L + 1, oC) :: (16, tabObj ps) :: led) s.heap := Z
  rw [if_pos rfl] at hoC
  have cell : ∀ {h : Heap}, News g L h ((L + 1, oC) :: (16, tabObj ps) :: led ++ frs) → h.IsCell (L + 1) (some (fv way)) := fun N => ⟨oC, (N _ hC).1, hoC⟩
  have hCs : s.heap.IsCell (L + 1) (some (fv way)) := cell Z.N
  refine c_execs_cons (c_If (c_isTrue_Compare1 (.any (wpAny_Name (wpAny_loadName_cell (c := L + 1) rfl rfl rfl hCs ?_)))))
  refine .any (nameX_B Z.F G.X (topRead_of G.T) (by k_is) (v := .type "float") (by decide +kernel) (by decide) ?_)
  refine wpAny_is_plain (fv_plain way hw) ?_
  refine wpAny_truthy_bool ?_
  by_cases h0 : way = 0
  · subst h0
    have hCs : s.heap.IsCell (L + 1) (some (.type "float")) := hCs
    rw [show (fv 0 == Value.type "float") = true from rfl]
    refine c_execs_cons (c_Return (.any (wpAny_Name (wpAny_loadName_cell (c := L + 1) rfl rfl rfl hCs ?_))))
    refine ⟨s.heap, s.toks, _, (16, tabObj ps) :: led, frs, rfl, SameUp.refl _, ⟨Z.F, fun q hq => Z.N q (.tail _ hq), fun q hq => Z.ap q (.tail _ hq), Z.Fs⟩, htk, ps, led, rfl, hl, fun _ x => x, [], List.forall_mem_nil _, List.forall_mem_nil _, casE_float⟩
  · rw [fv_other way hw h0]
    refine c_execs_nil ?_
    have off16 : ∀ q ∈ led ++ frs, q.1 ≠ 16 := fun q hq => by
      rcases List.mem_append.mp hq with hq | hq
      · exact hl.off q hq
      · exact Ne.symm (Z.ap (16, tabObj ps) (.tail _ (.head _)) q hq)
    have hC16 : (L + 1 : Addr) ≠ 16 := Ne.symm (Nat.ne_of_lt (Nat.lt_succ_of_lt (lo₂ (16, tabObj ps) (.head _))))
    refine c_execs_cons (.any (wpAny_tk (n := 1) htk (nestDef_K rfl rfl rfl ?_)))
    rcases hl.tab with hps | ⟨c', oc, vs, tq, hps, hc', hd', hv'⟩
    · subst hps
      refine nest_K (g := fun o' => (L + 1, oC) :: (16, o') :: (led ++ frs)) Z.F Z.N G.T G.C rfl (.tail hC16 (.head off16)) trivial rfl rfl fun f c' oc vs tq ctv doc h' tk F' N' hd' hv' lo hlt => ?_
      refine storeX_L (s := { s with heap := h', toks := tk }) F' N' (fun h₂ F₂ N₂ htk₂ => ?_) rfl rfl
      refine c_execs_cons (c_Return (.any (n_local F₂.ns rfl ?_)))
      refine ⟨h₂, _, _, (16, tabObj #[rawInt 6, rawInt 4, .ref c']) :: ((f, _) :: (c', oc) :: (L + 1, oC) :: led), frs, rfl, SameUp.refl _, ⟨F₂, fun q hq => N₂ q (perm_new hq), fun q hq y hy => ?_, Z.Fs⟩, htk₂, #[rawInt 6, rawInt 4, .ref c'], ((f, _) :: (c', oc) :: (L + 1, oC) :: led), rfl, ⟨.inr ⟨c', oc, vs, tq, rfl, .tail _ (.head _), hd', hv'⟩, fun q hq => ?_⟩, fun q hq => .tail _ (.tail _ (.tail _ hq)), ?_⟩
      · rcases List.mem_cons.mp hq with rfl | hq
        · exact Z.ap _ (.tail _ (.head _)) y hy
        · have hlo := lo y (.tail _ (.tail _ (List.mem_append_right _ hy)))
          rcases List.mem_cons.mp hq with rfl | hq
          · exact Nat.ne_of_gt (Nat.lt_trans hlo hlt)
          · rcases List.mem_cons.mp hq with rfl | hq
            · exact Nat.ne_of_gt hlo
            · rcases List.mem_cons.mp hq with rfl | hq
              · exact Z.ap _ (.head _) y hy
              · exact Z.ap _ (.tail _ (.tail _ hq)) y hy
      · have hlo := lo (16, tabObj #[]) (.tail _ (.head _))
        rcases List.mem_cons.mp hq with rfl | hq
        · exact Nat.ne_of_gt (Nat.lt_trans hlo hlt)
        · rcases List.mem_cons.mp hq with rfl | hq
          · exact Nat.ne_of_gt hlo
          · rcases List.mem_cons.mp hq with rfl | hq
            · exact hC16
            · exact hl.off q hq
      · refine CasF.three (fun x hx e => ?_) (fun x hx e => ?_) (fun x hx e => ?_) (.head _) (.tail _ (.head _)) (.tail _ (.tail _ (.head _))) ?_
        · exact Nat.ne_of_gt (Nat.lt_trans (lo x (.tail _ (.tail _ (List.mem_append_left _ hx)))) hlt) e
        · exact absurd e (Nat.ne_of_gt (lo x (.tail _ (.tail _ (List.mem_append_left _ hx)))))
        · exact Nat.ne_of_gt (Nat.lt_succ_of_lt (lo₂ x (.tail _ hx))) e
        refine ⟨⟨fun g' h' _ _ hq => ⟨.frame, .inl rfl, keeper_fn (hq _ (.head _)) rfl⟩, fun led' hl' q u hq hu0 => ?_⟩, fun led' hl' q u hq => ?_⟩
        · refine safe_ct (hl' _ (.head _)) (hl' _ (.tail _ (.tail _ (.head _)))) hoC (hl' _ (.tail _ (.head _))) hd' hv' rfl rfl rfl rfl ?_ rfl rfl rfl rfl rfl ?_ ?_ ?_ ?_ ?_ ?_ (keep_fv way hw) (step_flt way hw hq hu0) <;> first | decide | k_is
        · refine safe_ct (hl' _ (.head _)) (hl' _ (.tail _ (.tail _ (.head _)))) hoC (hl' _ (.tail _ (.head _))) hd' hv' rfl rfl rfl rfl ?_ rfl rfl rfl rfl rfl ?_ ?_ ?_ ?_ ?_ ?_ (keep_fv way hw) (step_by way hw hq u) <;> first | decide | k_is
    · subst hps
      refine nestHit_K (c' := c') Z.F Z.N G.T G.C rfl (.tail _ (.head _)) (by simp [TriplesOk, rawInt]) (by simp [codeAmong, rawInt]) rfl fun f ctv doc h' tk F' N' lo => ?_
      refine storeX_L (s := { s with heap := h', toks := tk }) F' N' (fun h₂ F₂ N₂ htk₂ => ?_) rfl rfl
      refine c_execs_cons (c_Return (.any (n_local F₂.ns rfl ?_)))
      refine ⟨h₂, _, _, (16, tabObj #[rawInt 6, rawInt 4, .ref c']) :: ((f, _) :: (L + 1, oC) :: led), frs, rfl, SameUp.refl _, ⟨F₂, fun q hq => N₂ q (perm_hit hq), fun q hq y hy => ?_, Z.Fs⟩, htk₂, #[rawInt 6, rawInt 4, .ref c'], ((f, _) :: (L + 1, oC) :: led), rfl, ⟨.inr ⟨c', oc, vs, tq, rfl, .tail _ (.tail _ hc'), hd', hv'⟩, fun q hq => ?_⟩, fun q hq => .tail _ (.tail _ hq), ?_⟩
      · rcases List.mem_cons.mp hq with rfl | hq
        · exact Z.ap _ (.tail _ (.head _)) y hy
        · rcases List.mem_cons.mp hq with rfl | hq
          · exact Nat.ne_of_gt (lo y (List.mem_append_right _ hy))
          · rcases List.mem_cons.mp hq with rfl | hq
            · exact Z.ap _ (.head _) y hy
            · exact Z.ap _ (.tail _ (.tail _ hq)) y hy
      · have hlo := lo (16, _) (.tail _ (.head _))
        rcases List.mem_cons.mp hq with rfl | hq
        · exact Nat.ne_of_gt hlo
        · rcases List.mem_cons.mp hq with rfl | hq
          · exact hC16
          · exact hl.off q hq
      · refine CasF.three (fun x hx e => ?_) (fun x hx e => ?_) (fun x hx e => ?_) (.head _) (.tail _ (.tail _ hc')) (.tail _ (.head _)) ?_
        · exact Nat.ne_of_gt (lo x (.tail _ (.tail _ (List.mem_append_left _ hx)))) e
        · exact ⟨vs, hd'⟩
        · exact Nat.ne_of_gt (Nat.lt_succ_of_lt (lo₂ x (.tail _ hx))) e
        refine ⟨⟨fun g' h' _ _ hq => ⟨.frame, .inl rfl, keeper_fn (hq _ (.head _)) rfl⟩, fun led' hl' q u hq hu0 => ?_⟩, fun led' hl' q u hq => ?_⟩
        · refine safe_ct (hl' _ (.head _)) (hl' _ (.tail _ (.tail _ (.head _)))) hoC (hl' _ (.tail _ (.head _))) hd' hv' rfl rfl rfl rfl ?_ rfl rfl rfl rfl rfl ?_ ?_ ?_ ?_ ?_ ?_ (keep_fv way hw) (step_flt way hw hq hu0) <;> first | decide | k_is
        · refine safe_ct (hl' _ (.head _)) (hl' _ (.tail _ (.tail _ (.head _)))) hoC (hl' _ (.tail _ (.head _))) hd' hv' rfl rfl rfl rfl ?_ rfl rfl rfl rfl rfl ?_ ?_ ?_ ?_ ?_ ?_ (keep_fv way hw) (step_by way hw hq u) <;> first | decide | k_is
end
end Mine
end
section
open PySem PySem.W PyProof.Rows PySem.Calls PySem.Flt
open PyProof.Rows.TI (Frs SameUp)
set_option maxRecDepth 100000
set_option maxHeartbeats 400000
namespace Mine
/-- how a value's truth comes out -/
def Tru (w : World) (led : List (Addr × Obj)) (v : Value) (b : Bool) : Prop := ∀ (A : Around) (E : Value → Shared → Prop) (s : Shared) (Q : Bool → Shared → Prop),
  (∀ q ∈ led, s.heap.get? q.1 = some q.2) → (∀ tk, s.toks ≤ tk → Q b { s with toks := tk }) → wpAny (model PG w) A (truthy v) Q E s
section
variable {w : World} {led : List (Addr × Obj)}
theorem tru_none : Tru w led .none false := fun A E s Q _ k => truthy_none (k _ (Nat.le_refl _))
theorem tru_true : Tru w led (.bool true) true := fun A E s Q _ k => wpAny_truthy_bool (k _ (Nat.le_refl _))
theorem tru_int {i : Int} {t : Tok} : Tru w led (.int i t) (i != 0) := fun A E s Q _ k => P.truthy_int (k _ (Nat.le_refl _))
theorem tru_lst {a : Addr} {o : Obj} {vs : List Value} {n : Nat} (hm : (a, o) ∈ led) (hc : o.cls = .type "list") (hd : o.data = .seq vs.toArray n) (hz : vs.length < 2 ^ 62) : Tru w led (.ref a) (!vs.isEmpty) := fun A E s Q hl k => by
  refine wpAny_truthy_list ⟨o, hl _ hm, hc, n, hd⟩ (by have := hz; simp; omega) ?_
  have e : (!vs.toArray.isEmpty) = (!vs.isEmpty) := by cases vs <;> simp
  rw [e]
  exact k _ (by show s.toks ≤ s.toks + 1 + 1; omega)
end
section
variable {w : World} {p : Program} {loose : List Str} {mean : ExcName → Option Value} {mg mb : Str → Option Value} {A : Around} {E : Value → Shared → Prop} {s : Shared} {env : Env} {g : Heap} {outer : List Env} {frs : List (Addr × Obj)} {m : Str → Option Value} {led : List (Addr × Obj)}
  {D : Addr} {o : Obj} {kw : List (Str × Value)} {k : Str} {p1 p2 p3 p4 p5 p6 p7 p8 p9 p10 p11 : Pos} {kk : Nat} {r : Value} {b : Bool}
/-- the options asked -/
structure Opt (w : World) (env : Env) (m : Str → Option Value) (led : List (Addr × Obj)) (D : Addr) (o : Obj) (kw : List (Str × Value)) : Prop where
  fn : env.scope.kind = .function
  loc : env.kindOf ("options" : Str) = some .local
  at_ : m ("options" : Str) = some (.ref D)
  mem : (D, o) ∈ led
  dict : o.IsDictOf (strKind PG w) kw
  sys : (D == sysModules) = false
theorem dict_noDict {o : Obj} {kw : List (Str × Value)} (h : o.IsDictOf (strKind PG w) kw) : o.cls = .type "dict" ∧ o.dict = none := by
  obtain ⟨es, ep, h1, _⟩ := h
  exact ⟨h1.1, h1.2.1⟩

theorem opt_get1 {Q : Value → Shared → Prop} (O : Opt w env m led D o kw) (hn : s.heap.Ns env.locals m) (N : News g env.locals s.heap led) (hq : ∀ tk, s.toks ≤ tk → Q ((valueAt kw k).getD .none) { s with toks := tk })
    (hl : (p2.endLine == p4.line) = true) :
    wpAny (model PG w) A (eval (.Call (.Attribute (.Name "options" p1) "get" p2) [.Constant (.str k) kk p3] [] p4) env) Q E s := by
  refine Call_method1 rfl rfl hl (n_local hn O.at_ ?_ O.fn O.loc)
  have hm := (N _ O.mem).1
  refine ⟨"dict", "dict.get", PySem.F.plainAttrs_dict, PySem.F.slot_dict_get, PySem.F.type_dict_get, ⟨o, hm, (dict_noDict O.dict).1⟩, fun a e => ⟨o, by cases e; exact hm, (dict_noDict O.dict).2⟩, ?_⟩
  refine callWith_builtin rfl (evalArgs_plain (spliced_cons (Constant_str (spliced_nil ?_))))
  refine kdg_get1 (knd := strKind PG w) (k := k) (s := { s with toks := s.toks + 1 }) N O.mem O.dict O.sys (beq_self_eq_true k) (valueAt kw k) rfl ?_
  exact hq _ (Nat.le_trans (Nat.le_succ _) (Nat.le_succ _))
theorem opt_get2 {Q : Value → Shared → Prop} {v : Value} (O : Opt w env m led D o kw) (hn : s.heap.Ns env.locals m) (N : News g env.locals s.heap led)
    (hfl : ∀ (tk : Nat) (Q : Value → Shared → Prop), (∀ tk', tk ≤ tk' → Q v { s with toks := tk' }) → wpAny (model PG w) A (eval (.Name "float" p5) env) Q E { s with toks := tk })
    (hq : ∀ tk, s.toks ≤ tk → Q ((valueAt kw k).getD v) { s with toks := tk }) (hl : (p2.endLine == p4.line) = true) :
    wpAny (model PG w) A (eval (.Call (.Attribute (.Name "options" p1) "get" p2) [.Constant (.str k) kk p3, .Name "float" p5] [] p4) env) Q E s := by
  refine Call_method2 rfl rfl hl (n_local hn O.at_ ?_ O.fn O.loc)
  have hm := (N _ O.mem).1
  refine ⟨"dict", "dict.get", PySem.F.plainAttrs_dict, PySem.F.slot_dict_get, PySem.F.type_dict_get, ⟨o, hm, (dict_noDict O.dict).1⟩, fun a e => ⟨o, by cases e; exact hm, (dict_noDict O.dict).2⟩, ?_⟩
  refine callWith_builtin rfl (evalArgs_plain (spliced_cons (Constant_str (spliced_cons (hfl _ _ fun tk' htk' => spliced_nil ?_)))))
  refine kdg_get2 (knd := strKind PG w) (k := k) (s := { s with toks := tk' }) N O.mem O.dict O.sys (beq_self_eq_true k) (valueAt kw k) rfl ?_
  exact hq _ (Nat.le_trans (Nat.le_succ _) (Nat.le_trans htk' (Nat.le_succ _)))

/-- `if not response or not options.get(k): return response` -/
theorem guard_k {Q : Flow → Shared → Prop} {c : Bool} (O : Opt w env m led D o kw) (hn : s.heap.Ns env.locals m) (N : News g env.locals s.heap led) (hr : m ("response" : Str) = some r) (ht : Tru w led r b) (lr : env.kindOf ("response" : Str) = some .local)
    (hc : valueAt kw k = if c then some (.bool true) else none)
    (hq : ∀ tk, s.toks ≤ tk → Q (if (b && c) = true then .next else .ret r) { s with toks := tk }) (hl : (p2.endLine == p4.line) = true) :
    wpAny (model PG w) A (exec (.If (.BoolOp .Or [.UnaryOp .Not (.Name "response" p5) p6, .UnaryOp .Not (.Call (.Attribute (.Name "options" p1) "get" p2) [.Constant (.str k) kk p3] [] p4) p7] p8) [.Return (some (.Name "response" p9)) p10] [] p11) env) Q E s := by
  have hled : ∀ q ∈ led, s.heap.get? q.1 = some q.2 := fun q hq => (N q hq).1
  have ret : ∀ tk, s.toks ≤ tk → (b && c) = false → wpAny (model PG w) A (execs [.Return (some (.Name "response" p9)) p10] env) Q E { s with toks := tk } := fun tk htk hbc => by
    have h := hq tk htk
    rw [hbc, if_neg Bool.false_ne_true] at h
    refine wpAny_execs_cons ?_
    rw [exec_Return_some]
    exact wpAny_bind (wpAny_standAt (wpAny_bind (n_local hn hr (wpAny_pure h) O.fn lr)))
  rw [exec_If]
  refine wpAny_bind (wpAny_standAt (wpAny_bind ?_))
  rw [arm_isTrue_BoolOp, arm_allTrue_cons]
  refine wpAny_bind (wpAny_isTrue_Not (isTrue_plain (n_local hn hr (ht _ _ _ _ hled fun tk1 h1 => ?_) O.fn lr)))
  cases b with
  | false => exact wpAny_pure (ret _ h1 rfl)
  | true =>
    show wpAny _ _ (allTrue .Or [.UnaryOp .Not _ _] env) _ _ _
    rw [arm_allTrue_cons]
    refine wpAny_bind (wpAny_isTrue_Not (isTrue_plain (opt_get1 (s := { s with toks := tk1 }) O hn N (fun tk2 h2 => ?_) hl)))
    rw [hc]
    cases c with
    | false =>
      refine truthy_none ?_
      exact wpAny_pure (ret _ (Nat.le_trans h1 h2) rfl)
    | true =>
      refine wpAny_truthy_bool ?_
      show wpAny _ _ (allTrue .Or [] env) _ _ _
      rw [arm_allTrue_nil]
      refine wpAny_pure ?_
      exact wpAny_execs_nil (env := env) (hq _ (Nat.le_trans h1 h2))
/-- `if not response: return e` -/
theorem guard_n {Q : Flow → Shared → Prop} {e : Option Expr} {v : Value} (hfn : env.scope.kind = .function) (hn : s.heap.Ns env.locals m) (N : News g env.locals s.heap led) (hr : m ("response" : Str) = some r) (ht : Tru w led r b) (lr : env.kindOf ("response" : Str) = some .local)
    (he : ∀ (tk : Nat) (Q : Value → Shared → Prop), Q v { s with toks := tk } → wpAny (model PG w) A (eval (e.getD (.Name "response" p9)) env) Q E { s with toks := tk }) (hes : e.isSome)
    (hq : ∀ tk, s.toks ≤ tk → Q (if b = true then .next else .ret v) { s with toks := tk }) :
    wpAny (model PG w) A (exec (.If (.UnaryOp .Not (.Name "response" p5) p6) [.Return e p10] [] p11) env) Q E s := by
  have hled : ∀ q ∈ led, s.heap.get? q.1 = some q.2 := fun q hq => (N q hq).1
  rw [exec_If]
  refine wpAny_bind (wpAny_standAt (wpAny_bind ?_))
  refine wpAny_isTrue_Not (isTrue_plain (n_local hn hr (ht _ _ _ _ hled fun tk1 h1 => ?_) hfn lr))
  have h := hq tk1 h1
  cases b with
  | true => exact wpAny_execs_nil (env := env) h
  | false =>
    refine wpAny_execs_cons ?_
    cases e with
    | none => cases hes
    | some e =>
      rw [exec_Return_some]
      exact wpAny_bind (wpAny_standAt (wpAny_bind (he _ _ (wpAny_pure h))))

end
end Mine
end
section
open PySem PySem.W PyProof.Rows PySem.Calls PySem.Flt
open PyProof.Rows.TI (Frs SameUp)
set_option maxRecDepth 100000
set_option maxHeartbeats 400000
namespace Mine
section
variable {w : World} {p : Program} {loose : List Str} {mean : ExcName → Option Value} {mg mb : Str → Option Value} {s : Shared} {g : Heap} {outer : List Env} {frs : List (Addr × Obj)} {L a : Addr} {m : Str → Option Value} {led : List (Addr × Obj)}
  {D : Addr} {o : Obj} {kw : List (Str × Value)} {k : Str} {p1 p2 p3 p4 p5 p6 p7 p8 p9 p10 p11 : Pos} {kk : Nat} {r : Value} {b : Bool} {cn : Str} {cs : Scope} {ccd : Value} {cl : List (Str × Addr)}
theorem At.perm {led' : List (Addr × Obj)} {h : Heap} (Z : At g outer frs L m led h) (hs : ∀ q ∈ led', q ∈ led) : At g outer frs L m led' h :=
  ⟨Z.F, fun q hq => by
    rcases List.mem_append.mp hq with hq | hq
    · exact Z.N q (List.mem_append_left _ (hs q hq))
    · exact Z.N q (List.mem_append_right _ hq), fun q hq => Z.ap q (hs q hq), Z.Fs⟩
theorem At.toks {h : Heap} (Z : At g outer frs L m led h) : ∀ q ∈ led, h.get? q.1 = some q.2 := fun q hq => (Z.N q (List.mem_append_left _ hq)).1
theorem At.news {h : Heap} (Z : At g outer frs L m led h) : News g L h led := fun q hq => Z.N q (List.mem_append_left _ hq)
/-- storing a local name -/
theorem At.set {h h' : Heap} {m' : Str → Option Value} (Z : At g outer frs L m led h) (hn : h'.Ns L m') (hs : Heap.SameBut L h h') : At g outer frs L m' led h' :=
  ⟨Z.F.set hn hs, Z.N.set hs, Z.ap, Z.Fs⟩
theorem n21 (w : World) : nsIn (hd.heap_39 w.params) mainGlobals ("_wrap_score_cast_func" : Str) = some (some (.ref 21)) := by kernel_rfl
theorem nfloat (w : World) : nsIn (hd.heap_39 w.params) mainGlobals ("float" : Str) = some none := by kernel_rfl
theorem fn21 (w : World) : ((hd.heap_39 w.params).lookup 21).map (fun o => match o.data with | .func _ => true | _ => false) = some true := by kernel_rfl
abbrev scn : Str := "score_cast_func"
/-- the value of the wrap's call -/
theorem c_wrapCall {way : Nat} (hw : way ≤ 3) {dp un : Nat} {gd : Option (List Code)} {ps : Array Value} {Q : Value → Shared → Prop} (G : Gd w p loose mean mg mb g) (Z : At g outer frs L m ((16, tabObj ps) :: led) s.heap) (hl : Lg ps led) (O : Opt w (envX cn cs L a ccd cl) m led D o kw)
    (hf : (valueAt kw scn).getD (.type "float") = fv way) (k21 : (envX cn cs L a ccd cl).kindOf ("_wrap_score_cast_func" : Str) = some .globalImplicit) (kfl : (envX cn cs L a ccd cl).kindOf ("float" : Str) = some .globalImplicit)
    (hd' : dp + 1 < recursionLimit) (hu : un + 20 < cLine) (htk : 0 < s.toks) (hpl : (p2.endLine == p4.line) = true)
    (hq : ∀ r h' tk' frs' ps' led₂, SameUp frs frs' → At g outer frs' L m ((16, tabObj ps') :: led₂) h' → Lg ps' led₂ → (∀ q ∈ led, q ∈ led₂) → CasF w p loose mean mg mb way led r led₂ → 0 < tk' → Q r { s with heap := h', toks := tk' }) :
    wpC (model PG w) (aT none dp un gd (envX cn cs L a ccd cl :: outer)) (eval (.Call (.Name "_wrap_score_cast_func" p6) [.Call (.Attribute (.Name "options" p1) "get" p2) [.Constant (.str scn) kk p3, .Name "float" p5] [] p4] [] p7) (envX cn cs L a ccd cl)) Q NE s := by
  have TR := topRead_of G.T
  have fk := O.fn
  refine c_Call1 (nameX_K Z.F G.X TR (n21 w) ?_ fk k21)
  refine c_spliced_cons (.any (opt_get2 (v := .type "float") O Z.F.ns (Z.perm fun q hq => .tail _ hq).news (fun tk Q hQ => nameX_B Z.F G.X TR (nfloat w) (v := .type "float") (by decide +kernel) (by decide) (hQ _ (Nat.le_refl _)) fk kfl) (fun tk htk' => ?_) hpl))
  rw [hf]
  refine c_spliced_nil ⟨?_, ?_⟩
  · exact keep_fn (fn21 w) g _ G.X Z.F.keep
  · refine wrap_ct way hw hl none dp un gd (envX cn cs L a ccd cl) outer frs g L m _ _ _ (.inr rfl) G Z rfl fk hd' (by omega) (Nat.lt_of_lt_of_le htk htk') fun r led' h' tk' frs' S Z' P t => ?_
    obtain ⟨ps', led₂, rfl, hl', hs, hc⟩ := P
    exact hq r h' tk' frs' ps' led₂ S Z' hl' hs hc t
/-- into a local name -/
theorem c_wrapLocal {way : Nat} (hw : way ≤ 3) {dp un : Nat} {gd : Option (List Code)} {ps : Array Value} {Q : Flow → Shared → Prop} (G : Gd w p loose mean mg mb g) (Z : At g outer frs L m ((16, tabObj ps) :: led) s.heap) (hl : Lg ps led) (O : Opt w (envX cn cs L a ccd cl) m led D o kw)
    (hf : (valueAt kw scn).getD (.type "float") = fv way) (k21 : (envX cn cs L a ccd cl).kindOf ("_wrap_score_cast_func" : Str) = some .globalImplicit) (kfl : (envX cn cs L a ccd cl).kindOf ("float" : Str) = some .globalImplicit) (ks : (envX cn cs L a ccd cl).kindOf scn = some .local)
    (hd' : dp + 1 < recursionLimit) (hu : un + 20 < cLine) (htk : 0 < s.toks) (hpl : (p2.endLine == p4.line) = true)
    (hsw : swapsWith (.Call (.Name "_wrap_score_cast_func" p6) [.Call (.Attribute (.Name "options" p1) "get" p2) [.Constant (.str scn) kk p3, .Name "float" p5] [] p4] [] p7) (some (.Name scn p8)) p9.line (envX cn cs L a ccd cl) = pure false)
    (hq : ∀ r h' tk' frs' ps' led₂, SameUp frs frs' → At g outer frs' L (fun y => if y = scn then some r else m y) ((16, tabObj ps') :: led₂) h' → Lg ps' led₂ → (∀ q ∈ led, q ∈ led₂) → CasF w p loose mean mg mb way led r led₂ → 0 < tk' → Q .next { s with heap := h', toks := tk' }) :
    wpC (model PG w) (aT none dp un gd (envX cn cs L a ccd cl :: outer)) (exec (.Assign [.Name scn p8] (.Call (.Name "_wrap_score_cast_func" p6) [.Call (.Attribute (.Name "options" p1) "get" p2) [.Constant (.str scn) kk p3, .Name "float" p5] [] p4] [] p7) p9) (envX cn cs L a ccd cl)) Q NE s := by
  refine c_Assign (c_wrapCall hw G Z hl O hf k21 kfl hd' hu htk hpl fun r h' tk' frs' ps' led₂ S Z' hl' hs hc t => ?_) hsw
  refine wpAny_storeName_local ks Z'.F.ns (fun h₂ hn hs₂ => ?_) (by rw [show (envX cn cs L a ccd cl).scope.kind = .function from O.fn]; rfl)
  exact hq r h₂ (tk' + 1) frs' ps' led₂ S (Z'.set hn hs₂) hl' hs hc (Nat.succ_pos _)
/-- into a cell -/
theorem c_wrapCell {way : Nat} (hw : way ≤ 3) {dp un : Nat} {gd : Option (List Code)} {ps : Array Value} {Q : Flow → Shared → Prop} {C : Addr} {oC : Obj} {v₀ : Option Value} (G : Gd w p loose mean mg mb g) (Z : At g outer frs L m ((16, tabObj ps) :: (C, oC) :: led) s.heap) (hl : Lg ps ((C, oC) :: led)) (O : Opt w (envX cn cs L a ccd cl) m led D o kw)
    (hoC : oC.data = .cell v₀) (hCl : ∀ q ∈ led, q.1 ≠ C) (hlk : cl.lookup scn = some C)
    (hf : (valueAt kw scn).getD (.type "float") = fv way) (k21 : (envX cn cs L a ccd cl).kindOf ("_wrap_score_cast_func" : Str) = some .globalImplicit) (kfl : (envX cn cs L a ccd cl).kindOf ("float" : Str) = some .globalImplicit) (ks : (envX cn cs L a ccd cl).kindOf scn = some .cell)
    (hd' : dp + 1 < recursionLimit) (hu : un + 20 < cLine) (htk : 0 < s.toks) (hpl : (p2.endLine == p4.line) = true)
    (hsw : swapsWith (.Call (.Name "_wrap_score_cast_func" p6) [.Call (.Attribute (.Name "options" p1) "get" p2) [.Constant (.str scn) kk p3, .Name "float" p5] [] p4] [] p7) (some (.Name scn p8)) p9.line (envX cn cs L a ccd cl) = pure false)
    (hq : ∀ r h' tk' frs' ps' led₂ oC', SameUp frs frs' → At g outer frs' L m ((16, tabObj ps') :: (C, oC') :: led₂) h' → Lg ps' ((C, oC') :: led₂) → (∀ q ∈ led, q ∈ led₂) → oC'.data = .cell (some r) → CasE w p loose mean mg mb way r led₂ → 0 < tk' → Q .next { s with heap := h', toks := tk' }) :
    wpC (model PG w) (aT none dp un gd (envX cn cs L a ccd cl :: outer)) (exec (.Assign [.Name scn p8] (.Call (.Name "_wrap_score_cast_func" p6) [.Call (.Attribute (.Name "options" p1) "get" p2) [.Constant (.str scn) kk p3, .Name "float" p5] [] p4] [] p7) p9) (envX cn cs L a ccd cl)) Q NE s := by
  have O' : Opt w (envX cn cs L a ccd cl) m ((C, oC) :: led) D o kw := ⟨O.fn, O.loc, O.at_, .tail _ O.mem, O.dict, O.sys⟩
  refine c_Assign (c_wrapCall hw G Z hl O' hf k21 kfl hd' hu htk hpl fun r h' tk' frs' ps' led₂ S Z' hl' hs hc t => ?_) hsw
  obtain ⟨nl, hn1, hn2, hcas⟩ := hc
  have mC := hs _ (.head _)
  have gC := Z'.N (C, oC) (List.mem_append_left _ (.tail _ mC))
  refine wpAny_storeName_cell O.fn ks hlk ⟨oC, gC.1, hoC⟩ fun h₂ hc₂ hs₂ => ?_
  obtain ⟨oC', gC', dC'⟩ := hc₂
  refine hq r h₂ tk' frs' ps' (led₂.filter fun q => q.1 != C) oC' S ⟨Z'.F.change hs₂ gC.2.1 gC.2.2, fun q hq' => ?_, fun q hq' y hy => ?_, Z'.Fs⟩ ⟨?_, fun q hq' => ?_⟩ (fun q hq' => List.mem_filter.mpr ⟨hs _ (.tail _ hq'), by simpa using hCl q hq'⟩) dC' (hcas.mono fun q hq' => List.mem_filter.mpr ⟨hn1 q hq', ?_⟩) t
  · rcases List.mem_append.mp hq' with hq' | hq'
    · rcases List.mem_cons.mp hq' with rfl | hq'
      · have x := Z'.N (16, tabObj ps') (List.mem_append_left _ (.head _))
        exact ⟨hs₂.extBut _ _ (Ne.symm (hl'.off _ mC)) x.1, x.2⟩
      · rcases List.mem_cons.mp hq' with rfl | hq'
        · exact ⟨gC', gC.2⟩
        · obtain ⟨h1, h2⟩ := List.mem_filter.mp hq'
          have x := Z'.N q (List.mem_append_left _ (.tail _ h1))
          exact ⟨hs₂.extBut _ _ (by simpa using h2) x.1, x.2⟩
    · have x := Z'.N q (List.mem_append_right _ hq')
      exact ⟨hs₂.extBut _ _ (Ne.symm (Z'.ap (C, oC) (.tail _ mC) q hq')) x.1, x.2⟩
  · rcases List.mem_cons.mp hq' with rfl | hq'
    · exact Z'.ap _ (.head _) y hy
    · rcases List.mem_cons.mp hq' with rfl | hq'
      · exact Z'.ap (C, oC) (.tail _ mC) y hy
      · exact Z'.ap q (.tail _ (List.mem_filter.mp hq').1) y hy
  · rcases hl'.tab with e | ⟨c', oc, vs, tq, e, h1, h2, h3⟩
    · exact .inl e
    · refine .inr ⟨c', oc, vs, tq, e, .tail _ (List.mem_filter.mpr ⟨h1, ?_⟩), h2, h3⟩
      have : c' ≠ C := fun e' => by
        have x := (Z'.N (c', oc) (List.mem_append_left _ (.tail _ h1))).1
        rw [show (c', oc).1 = C from e', gC.1] at x
        cases x
        rw [hoC] at h2; cases h2
      simpa using this
  · rcases List.mem_cons.mp hq' with rfl | hq'
    · exact hl'.off (C, oC) mC
    · exact hl'.off q (List.mem_filter.mp hq').1
  · have : q.1 ≠ C := fun e => by
      obtain ⟨vs, hv⟩ := hn2 q hq' (C, oC) (.head _) e
      have x := (Z'.N q (List.mem_append_left _ (.tail _ (hn1 q hq')))).1
      rw [e, gC.1] at x
      cases x
      rw [hoC] at hv; cases hv
    simpa using this
end
end Mine
end
section
open PySem PySem.W PyProof.Rows PySem.Calls
open PyProof.Rows.LCg (lst ns_obj NsObj lst_snoc)
open PyProof.Rows.TI (Frs SameUp)
set_option maxRecDepth 100000
namespace Mine
/-- a change away from all that is known -/
theorem At.away {g : Heap} {outer : List Env} {frs : List (Addr × Obj)} {L : Addr} {m : Str → Option Value} {led : List (Addr × Obj)} {h h' : Heap} {W : List Addr} (Z : At g outer frs L m led h) (hk : ∀ b o, b ∉ W → h.get? b = some o → h'.get? b = some o) (hL : L ∉ W) (hW : ∀ b ∈ W, g.get? b = none)
    (off : ∀ p ∈ led, p.1 ∉ W) (offF : ∀ p ∈ frs, p.1 ∉ W) : At g outer frs L m led h' :=
  ⟨fr_away Z.F hk hL hW, fun q hq => ⟨hk _ _ (by rcases List.mem_append.mp hq with h | h; exact off q h; exact offF q h) (Z.N q hq).1, (Z.N q hq).2⟩, Z.ap, Z.Fs⟩
/-- more known -/
theorem At.more {g : Heap} {outer : List Env} {frs : List (Addr × Obj)} {L : Addr} {m : Str → Option Value} {led : List (Addr × Obj)} {h : Heap} (Z : At g outer frs L m led h) (E : List (Addr × Obj)) (hE : ∀ p ∈ E, h.get? p.1 = some p.2 ∧ p.1 ≠ L ∧ g.get? p.1 = none ∧ ∀ q ∈ frs, p.1 ≠ q.1) : At g outer frs L m (E ++ led) h :=
  ⟨Z.F, fun q hq => by
    rcases List.mem_append.mp hq with hq | hq
    · rcases List.mem_append.mp hq with hq | hq
      · exact ⟨(hE q hq).1, (hE q hq).2.1, (hE q hq).2.2.1⟩
      · exact Z.N q (List.mem_append_left _ hq)
    · exact Z.N q (List.mem_append_right _ hq), fun q hq => by
    rcases List.mem_append.mp hq with hq | hq
    · exact (hE q hq).2.2.2
    · exact Z.ap q hq, Z.Fs⟩

section
variable {prog : Program} {w : World} {A : Around} {g : Heap} {outer : List Env} {frs : List (Addr × Obj)} {L : Addr} {m : Str → Option Value} {env : Env}

/-- one element's expression -/
def EltK (prog : Program) (w : World) (A : Around) (g : Heap) (outer : List Env) (frs : List (Addr × Obj)) (L : Addr) (m : Str → Option Value) (env : Env) (elt : Expr) (scope : Scope) (cl : List (Str × Addr)) (s : Shared) (led : List (Addr × Obj)) (P : (Str → Option Value) → Prop) (t : T) : Prop :=
  ∀ (X data frs₁ : List (Addr × Obj)) (C : Addr) (oC : Obj) (m₂ : Str → Option Value) (h : Heap) (tk : Nat), (∀ p ∈ led, p ∈ data) → (∀ p ∈ data, p ∈ X) → SameUp frs frs₁ → At g outer frs₁ L m X h → (C, oC) ∈ X → NsObj oC m₂ → P m₂ → 0 < tk →
    wpC (model prog w) A (eval elt (compEnvC scope cl C env)) (fun x s' => ∃ h' tk' new frs₂, s' = { s with heap := h', toks := tk' } ∧ SameUp frs₁ frs₂ ∧ At g outer frs₂ L m (new ++ X) h' ∧ (∀ p ∈ new, ∀ q ∈ X, p.1 ≠ q.1) ∧ Rep (new ++ data) x t ∧ 0 < tk')
      NE { s with heap := h, toks := tk }

theorem k_comp_block {elt iter tgt : Expr} {scope : Scope} {cl : List (Str × Addr)} {pos : Pos} {I : Addr} {fp wr : List Addr} {n : Nat} {loc : List Str} {P : Nat → (Str → Option Value) → Prop} {St : Nat → Heap → Prop}
    {s : Shared} {led : List (Addr × Obj)} {ts : Nat → T} {RR : Value → Addr → Result → Shared → Prop}
    (S : Src prog w A tgt I fp wr n loc P St) (hsz : n ≤ sizeLine) (hcell : ∀ y ∈ scope.names, y.2 ≠ .cell) (hkind : scope.kind = .function) (hloc : ∀ x ∈ loc, scope.names.lookup x = some .local)
    (st0 : St 0 s.heap) (hfp : ∀ b ∈ fp, (∃ o, s.heap.get? b = some o) ∧ b ≠ L ∧ g.get? b = none ∧ ∀ q ∈ frs, b ≠ q.1) (Z : At g outer frs L m led s.heap) (hwr : ∀ p ∈ led, p.1 ∉ wr) (htk : 0 < s.toks)
    (helt : ∀ i, i < n → EltK prog w A g outer frs L m env elt scope cl s led (P i) (ts i))
    (hRR : ∀ D C h tk m' ys new frs', SameUp frs frs' → At g outer frs' L m ((D, lst ys) :: (new ++ led)) h → h.Ns C m' → g.get? C = none → C ≠ L → (∀ q ∈ frs', q.1 ≠ C) → (∀ p ∈ (D, lst ys) :: (new ++ led), p.1 ≠ C) → (∀ p ∈ (D, lst ys) :: new, ∀ q ∈ led, p.1 ≠ q.1) → (∀ p ∈ new, p.1 ≠ D) →
      Reps (new ++ led) ys ((List.range n).map ts) → 0 < tk → RR (.ref D) C (.ok .next) { s with heap := h, toks := tk }) :
    wpAny (model prog w) A (newList []) (fun acc s₃ => wpAny (model prog w) A (newFunctionEnv scope env.globals cl [] env.qual none .none (some env)) (fun cenv s₄ =>
      codeC (model prog w) A (.compStart (.ListComp elt [⟨tgt, iter, [], 0⟩] scope pos) 0 (.ref I) acc { cenv with scope := relabel scope env }) (RR acc cenv.locals) s₄) NE s₃) NE s := by
  refine wpAny_newObj_type (wpAny_newFunctionEnv hcell (by intro y hy; simp at hy) (fun h₁ hns₁ hsb₁ => ?_) hkind)
  dsimp only at hns₁ hsb₁ ⊢
  generalize hH2 : s.heap.push { cls := .type "list", dict := none, data := .seq ([] : List Value).toArray } = H2 at hns₁ hsb₁ ⊢
  have F := Z.F
  have N : News g L s.heap led := Z.news
  have hC : H2.objs.size = s.heap.objs.size + 1 := by rw [← hH2, Heap.size_push]
  have hDC : s.heap.objs.size ≠ H2.objs.size := by rw [hC]; exact Nat.ne_of_lt (Nat.lt_succ_self _)
  have below : ∀ b, b < s.heap.objs.size → b ≠ H2.objs.size ∧ b ≠ s.heap.objs.size := fun b hb => ⟨by rw [hC]; exact Nat.ne_of_lt (Nat.lt_succ_of_lt hb), Nat.ne_of_lt hb⟩
  have hfplt : ∀ b ∈ fp, b < s.heap.objs.size := fun b hb => by obtain ⟨⟨o, e⟩, _⟩ := hfp b hb; exact Heap.lt_size e
  have hDf : s.heap.objs.size ∉ fp := fun hm => Nat.lt_irrefl _ (hfplt _ hm)
  have hCf : H2.objs.size ∉ fp := fun hm => by have := hfplt _ hm; rw [hC] at this; exact Nat.lt_irrefl _ (Nat.lt_of_succ_lt this)
  have old : ∀ b o, s.heap.get? b = some o → h₁.get? b = some o := fun b o e => hsb₁.extBut b o (below b (Heap.lt_size e)).1 (Heap.get?_push_of_some _ (hH2 ▸ Heap.get?_push_of_some _ e))
  have hacc : h₁.get? s.heap.objs.size = some (lst []) := hsb₁.extBut _ _ hDC (Heap.get?_push_of_some _ (hH2 ▸ Heap.get?_push_size _ rfl))
  have hst₁ : St 0 h₁ := S.frame _ _ _ st0 fun b _ o e => old b o e
  have fresh : ∀ a, s.heap.objs.size ≤ a → s.heap.get? a = none := fun a ha => by
    cases e : s.heap.get? a with
    | none => rfl
    | some o' => exact absurd (Heap.lt_size e) (Nat.not_lt.mpr ha)
  have fresh₀ : ∀ a, s.heap.objs.size ≤ a → g.get? a = none := fun a ha => by
    cases e : g.get? a with
    | none => rfl
    | some o' => have := F.keep a o' e; rw [fresh a ha] at this; cases this
  have hD₀ : g.get? s.heap.objs.size = none := fresh₀ _ (Nat.le_refl _)
  have hC₀ : g.get? H2.objs.size = none := fresh₀ _ (by rw [hC]; exact Nat.le_succ _)
  have hLlt : L < s.heap.objs.size := F.ns.lt
  have hDL : s.heap.objs.size ≠ L := Ne.symm (below L hLlt).2
  have hCL : H2.objs.size ≠ L := Ne.symm (below L hLlt).1
  have hLw : L ∉ wr := fun q => (hfp L (S.sub L q)).2.1 rfl
  have hwr₀ : ∀ b ∈ wr, g.get? b = none := fun b q => (hfp b (S.sub b q)).2.2.1
  have N0 : ∀ q ∈ frs, s.heap.get? q.1 = some q.2 ∧ True := fun q hq => ⟨(Z.N q (List.mem_append_right _ hq)).1, trivial⟩
  have hDw : s.heap.objs.size ∉ wr := fun q => hDf (S.sub _ q)
  have hCw : H2.objs.size ∉ wr := fun q => hCf (S.sub _ q)
  have loop : ∀ s₃ : Shared, s₃ = { s with heap := h₁, toks := s.toks + ([] : List (Str × Value)).length } →
      codeC (model prog w) A (.compLoop (.ListComp elt [⟨tgt, iter, [], 0⟩] scope pos) 0 (.ref I) (.ref s.heap.objs.size) (compEnvC scope cl H2.objs.size env)) (RR (.ref s.heap.objs.size) H2.objs.size) s₃ := by
    rintro s₃ rfl
    obtain ⟨Inv, hInv⟩ : ∃ Inv : Nat → Shared → Prop, Inv =
      (fun k s' => ∃ h' tk i ys m' new frs', s' = { s with heap := h', toks := tk } ∧ SameUp frs frs' ∧ i ≤ n ∧ k = n + 1 - i ∧ ys.length = i ∧ St i h' ∧ At g outer frs' L m ((s.heap.objs.size, lst ys) :: (new ++ led)) h' ∧ h'.Ns H2.objs.size m' ∧
        (∀ p ∈ new, p.1 ∉ fp ∧ p.1 ≠ H2.objs.size ∧ p.1 ≠ s.heap.objs.size ∧ ∀ q ∈ led, p.1 ≠ q.1) ∧ Reps (new ++ led) ys ((List.range i).map ts) ∧ 0 < tk) := ⟨_, rfl⟩
    have st : Inv (n + 1) { s with heap := h₁, toks := s.toks + ([] : List (Str × Value)).length } := by
      rw [hInv]
      refine ⟨h₁, _, 0, [], _, [], frs, rfl, SameUp.refl _, Nat.zero_le _, rfl, rfl, hst₁, ?_, hns₁, fun p hp => (nomatch hp), .nil, by simpa using htk⟩
      exact (At.away (W := []) Z (fun b o _ e => old b o e) (List.not_mem_nil) (fun b hb => nomatch hb) (fun _ _ => List.not_mem_nil) fun _ _ => List.not_mem_nil).more [(s.heap.objs.size, lst [])] fun p hp => by
        obtain rfl := List.mem_singleton.mp hp
        exact ⟨hacc, hDL, hD₀, fun q hq => Ne.symm (below _ (Heap.lt_size (N0 q hq).1)).2⟩
    refine c_compLoop Inv ?_ (n + 1) st
    · intro k s' hI
      rw [hInv] at hI
      obtain ⟨h', tk, i, ys, m', new, frs₁, rfl, S₁, hi, rfl, hyl, hst', Z', hn', off, R', htk'⟩ := hI
      have frlt : ∀ q ∈ frs₁, q.1 < s.heap.objs.size := fun q hq => by
        obtain ⟨y, hy, e⟩ := S₁.fwd q hq
        rw [e]; exact Heap.lt_size (N0 y hy).1
      have froff : ∀ q ∈ frs₁, q.1 ≠ H2.objs.size ∧ q.1 ≠ s.heap.objs.size := fun q hq => below _ (frlt q hq)
      have frfp : ∀ q ∈ frs₁, q.1 ∉ fp := fun q hq hm => by
        obtain ⟨y, hy, e⟩ := S₁.fwd q hq
        exact (hfp _ hm).2.2.2 y hy e
      have ledoff : ∀ p ∈ led, p.1 ≠ H2.objs.size ∧ p.1 ≠ s.heap.objs.size := fun p hp => below _ (Heap.lt_size (N p hp).1)
      have offw : ∀ p ∈ (s.heap.objs.size, lst ys) :: (new ++ led), p.1 ∉ wr := fun p hp => by
        rcases List.mem_cons.mp hp with rfl | hp
        · exact hDw
        · rcases List.mem_append.mp hp with hp | hp
          · exact fun q => (off p hp).1 (S.sub _ q)
          · exact hwr p hp
      by_cases hlt : i < n
      · refine .any (wpAny_mono (turn_tk (n := 1) (Q := fun s₂ => wpC (model prog w) A (eval elt (compEnvC scope cl H2.objs.size env)) (fun x s₃ =>
            wpAny (model prog w) A (call (.builtin "list.append") [.ref s.heap.objs.size, x]) (fun _ s₄ => ∃ m_1, m_1 < n + 1 - i ∧ Inv m_1 s₄) NE s₃) NE s₂) htk'
          (S.turn i { s with heap := h', toks := tk } (compEnvC scope cl H2.objs.size env) m' _ hlt hst' hkind (fun x hx => lookup_relabel_local (hloc x hx)) hCf hn' fun h₂ tk₂ m₂ hn₂ hP hmm hst₂ hk₂ htk₂ => ?_)) (fun r s₁ h₁ => ?_) fun _ _ e => e)
        rotate_left
        · cases r with
          | none => exact h₁.elim
          | some v => exact h₁
        have hk₂' : ∀ b o, b ∉ H2.objs.size :: wr → h'.get? b = some o → h₂.get? b = some o := fun b o hb e => hk₂ b o (fun q => hb (.tail _ q)) (fun q => hb (by rw [q]; exact .head _)) e
        have Z₂ : At g outer frs₁ L m ((s.heap.objs.size, lst ys) :: (new ++ led)) h₂ := Z'.away hk₂' (fun q => by rcases List.mem_cons.mp q with q | q; exact hCL q.symm; exact hLw q) (fun b hb => by
          rcases List.mem_cons.mp hb with rfl | hb
          · exact hC₀
          · exact hwr₀ b hb) (fun p hp q => by
          rcases List.mem_cons.mp q with q | q
          · rcases List.mem_cons.mp hp with rfl | hp
            · exact hDC q
            · rcases List.mem_append.mp hp with hp | hp
              · exact (off p hp).2.1 q
              · exact (ledoff p hp).1 q
          · exact offw p hp q) fun p hp q => by
          rcases List.mem_cons.mp q with q | q
          · exact (froff p hp).1 q
          · exact frfp p hp (S.sub _ q)
        obtain ⟨oC, heC, hoC⟩ := ns_obj hn₂
        -- the iterator's own objects
        obtain ⟨fe, hfe1, hfe2, hfe3⟩ : ∃ fe : List (Addr × Obj), (∀ p ∈ fe, h₂.get? p.1 = some p.2) ∧ (∀ b ∈ fp, ∃ o, h₂.get? b = some o ∧ (b, o) ∈ fe) ∧ ∀ p ∈ fe, p.1 ∈ fp := by
          have lv := S.live _ _ hst₂
          clear hfp hfplt hDf hCf S st0 st hst₁ hst' hst₂ hInv hLw hwr₀ offw off frfp
          induction fp with
          | nil => exact ⟨[], fun _ h => (nomatch h), fun _ h => (nomatch h), fun _ h => (nomatch h)⟩
          | cons b r ih =>
            obtain ⟨fe, a1, a2, a3⟩ := ih fun b hb => lv b (.tail _ hb)
            obtain ⟨o, e⟩ := lv b (.head _)
            refine ⟨(b, o) :: fe, fun p hp => ?_, fun c hc => ?_, fun p hp => ?_⟩
            · rcases List.mem_cons.mp hp with rfl | hp
              · exact e
              · exact a1 p hp
            · rcases List.mem_cons.mp hc with rfl | hc
              · exact ⟨o, e, .head _⟩
              · obtain ⟨o', e', q⟩ := a2 c hc
                exact ⟨o', e', .tail _ q⟩
            · rcases List.mem_cons.mp hp with rfl | hp
              · exact .head _
              · exact .tail _ (a3 p hp)
        have ZX : At g outer frs₁ L m ((fe ++ [(H2.objs.size, oC)]) ++ (s.heap.objs.size, lst ys) :: (new ++ led)) h₂ := Z₂.more _ fun p hp => by
          rcases List.mem_append.mp hp with hp | hp
          · exact ⟨hfe1 p hp, (hfp _ (hfe3 p hp)).2.1, (hfp _ (hfe3 p hp)).2.2.1, fun q hq e => frfp q hq (e ▸ hfe3 p hp)⟩
          · obtain rfl := List.mem_singleton.mp hp
            exact ⟨heC, hCL, hC₀, fun q hq => Ne.symm (froff q hq).1⟩
        rw [List.append_assoc, List.singleton_append] at ZX
        refine wpC_mono (helt i hlt _ (new ++ led) frs₁ H2.objs.size oC m₂ h₂ tk₂ (fun p hp => List.mem_append_right _ hp) (fun p hp => List.mem_append_right _ (.tail _ (.tail _ hp))) S₁ ZX (List.mem_append_right _ (.head _)) hoC hP htk₂) (fun x s₃ h₃ => ?_) fun _ _ e => e
        obtain ⟨h₃, tk₃, nw, frs₃, rfl, S₃, Z₃, off₃, R₃, htk₃⟩ := h₃
        have F₃ := Z₃.F
        have N₃ := Z₃.news
        have zC := (N₃ (H2.objs.size, oC) (List.mem_append_right _ (List.mem_append_right _ (.head _)))).1
        have zD := (N₃ (s.heap.objs.size, lst ys) (List.mem_append_right _ (List.mem_append_right _ (.tail _ (.head _))))).1
        have hst₃ : St (i + 1) h₃ := S.frame _ _ _ hst₂ fun b hb o e => by
          obtain ⟨o', e', q⟩ := hfe2 b hb
          rw [e] at e'; cases e'
          exact (N₃ (b, o) (List.mem_append_right _ (List.mem_append_left _ q))).1
        refine append_at (hsz := by show ys.toArray.size ≤ sizeLine; rw [List.size_toArray, hyl]; exact Nat.le_trans hi hsz) zD fun h₄ hs₄ hD₄ => ?_
        refine ⟨n + 1 - (i + 1), by omega, ?_⟩
        rw [hInv]
        have offn : ∀ p ∈ nw, p.1 ∉ fp ∧ p.1 ≠ H2.objs.size ∧ p.1 ≠ s.heap.objs.size ∧ ∀ q ∈ new ++ led, p.1 ≠ q.1 := fun p hp =>
          ⟨fun q => by obtain ⟨o', _, z⟩ := hfe2 _ q; exact off₃ p hp _ (List.mem_append_left _ z) rfl, off₃ p hp (H2.objs.size, oC) (List.mem_append_right _ (.head _)), off₃ p hp (s.heap.objs.size, lst ys) (List.mem_append_right _ (.tail _ (.head _))),
            fun q hq => off₃ p hp q (List.mem_append_right _ (.tail _ (.tail _ hq)))⟩
        refine ⟨h₄, tk₃, i + 1, ys ++ [x], _, nw ++ new, frs₃, rfl, S₁.trans S₃, hlt, rfl, by rw [List.length_append, List.length_singleton, hyl], S.frame _ _ _ hst₃ fun b hb o e => hs₄.extBut b o (fun q => hDf (q ▸ hb)) e, ⟨F₃.change hs₄ hDL hD₀, fun q hq => ?_, fun q hq => ?_, Z₃.Fs⟩,
          (hoC.ns zC).sameBut hs₄ (Ne.symm hDC), fun p hp => ?_, ?_, htk₃⟩
        · rcases List.mem_append.mp hq with hq | hq
          · rw [List.append_assoc] at hq
            rcases List.mem_cons.mp hq with rfl | hq
            · exact ⟨hD₄.trans (congrArg some (lst_snoc ys x)), hDL, hD₀⟩
            · rcases List.mem_append.mp hq with hq | hq
              · exact ⟨hs₄.extBut _ _ (offn q hq).2.2.1 (N₃ q (List.mem_append_left _ hq)).1, (N₃ q (List.mem_append_left _ hq)).2⟩
              · have z := N₃ q (List.mem_append_right _ (List.mem_append_right _ (.tail _ (.tail _ hq))))
                refine ⟨hs₄.extBut _ _ ?_ z.1, z.2⟩
                rcases List.mem_append.mp hq with hq | hq
                · exact (off q hq).2.2.1
                · exact (ledoff q hq).2
          · have z := Z₃.N q (List.mem_append_right _ hq)
            obtain ⟨y, hy, e⟩ := S₃.fwd q hq
            exact ⟨hs₄.extBut _ _ (by rw [e]; exact (froff y hy).2) z.1, z.2⟩
        · rw [List.append_assoc] at hq
          rcases List.mem_cons.mp hq with rfl | hq
          · exact Z₃.ap (s.heap.objs.size, lst ys) (List.mem_append_right _ (List.mem_append_right _ (.tail _ (.head _))))
          · rcases List.mem_append.mp hq with hq | hq
            · exact Z₃.ap q (List.mem_append_left _ hq)
            · exact Z₃.ap q (List.mem_append_right _ (List.mem_append_right _ (.tail _ (.tail _ hq))))
        · rcases List.mem_append.mp hp with hp | hp
          · exact ⟨(offn p hp).1, (offn p hp).2.1, (offn p hp).2.2.1, fun q hq => (offn p hp).2.2.2 q (List.mem_append_right _ hq)⟩
          · exact off p hp
        · rw [List.append_assoc, List.range_succ, List.map_append]
          exact (R'.mono fun p hp => List.mem_append_right _ hp).append (.cons R₃ .nil)
      · have hin : i = n := Nat.le_antisymm hi (Nat.not_lt.mp hlt)
        subst hin
        refine .any (wpAny_tk (n := 1) htk' (wpAny_mono (S.done { s with heap := h', toks := tk } (fun r s' => 1 ≤ s'.toks → match r with
          | none => RR (.ref s.heap.objs.size) H2.objs.size (.ok .next) s'
          | some _ => False) hst' fun h₂ tk₂ hk₂ htk₂ => ?_) (fun r s' z hz => by cases r with | none => exact z hz | some v => exact (z hz).elim) fun _ _ e _ => e))
        refine hRR _ _ h₂ tk₂ m' ys new frs₁ S₁ (Z'.away hk₂ hLw hwr₀ offw fun q hq z => frfp q hq (S.sub _ z)) (hn'.at' fun o e => hk₂ _ o hCw e) hC₀ hCL (fun q hq => (froff q hq).1) (fun p hp => ?_) (fun p hp q hq => ?_) (fun p hp => (off p hp).2.2.1) R' htk₂
        · rcases List.mem_cons.mp hp with rfl | hp
          · exact hDC
          · rcases List.mem_append.mp hp with hp | hp
            · exact (off p hp).2.1
            · exact (ledoff p hp).1
        · rcases List.mem_cons.mp hp with rfl | hp
          · exact Ne.symm (ledoff q hq).2
          · exact (off p hp).2.2.2 q hq
  refine c_compStart (loop _ rfl) (S.self 0 _ _ hst₁ (loop _ rfl))
/-- what is known of the iterator, ahead of the turns -/
def DrawK (prog : Program) (w : World) (A : Around) (g : Heap) (outer : List Env) (frs : List (Addr × Obj)) (L : Addr) (m : Str → Option Value) (env : Env) (elt tgt : Expr) (scope : Scope) (cl : List (Str × Addr)) (led : List (Addr × Obj)) (n : Nat) (ts : Nat → T) (it : Value) (s : Shared) : Prop :=
  ∃ I fp wr loc P St, it = .ref I ∧ Src prog w A tgt I fp wr n loc P St ∧ (∀ x ∈ loc, scope.names.lookup x = some .local) ∧ St 0 s.heap ∧
    (∀ b ∈ fp, (∃ o, s.heap.get? b = some o) ∧ b ≠ L ∧ g.get? b = none ∧ ∀ q ∈ frs, b ≠ q.1) ∧ At g outer frs L m led s.heap ∧ (∀ p ∈ led, p.1 ∉ wr) ∧ 0 < s.toks ∧
    ∀ i, i < n → EltK prog w A g outer frs L m env elt scope cl s led (P i) (ts i)

theorem k_ListComp {elt iter tgt : Expr} {scope : Scope} {cl : List (Str × Addr)} {pos : Pos} {s : Shared} {led : List (Addr × Obj)} {n : Nat} {ts : Nat → T} {Q : Value → Shared → Prop} {E : Value → Shared → Prop}
    (hclos : closureFor scope env = pure cl) (hcell : ∀ y ∈ scope.names, y.2 ≠ .cell) (hkind : scope.kind = .function)
    (hnames : ∀ y ∈ scope.names, y.2 = .local → scope.names.lookup y.1 = some .local) (hsz : n ≤ sizeLine)
    (h : wpC (model prog w) A (eval iter env) (fun xv s₁ => wpAny (model prog w) A (pyIter xv) (fun it s₂ => DrawK prog w A g outer frs L m env elt tgt scope cl led n ts it s₂ ∧
      ∀ D h tk ys new frs', SameUp frs frs' → At g outer frs' L m ((D, lst ys) :: (new ++ led)) h → (∀ p ∈ (D, lst ys) :: new, ∀ q ∈ led, p.1 ≠ q.1) → (∀ p ∈ new, p.1 ≠ D) → Reps (new ++ led) ys ((List.range n).map ts) → 0 < tk → Q (.ref D) { s₂ with heap := h, toks := tk }) NE s₁) NE s)
    (hs : ∀ x, foldedSetIterable iter env x = pure x := by intro _; rfl) :
    wpC (model prog w) A (eval (.ListComp elt [⟨tgt, iter, [], 0⟩] scope pos) env) Q E s := by
  rw [eval_ListComp]
  refine c_comprehension (use := none) rfl hs hclos hkind hnames (wpC_mono h (fun xv s₁ h₁ => ?_) fun _ _ e => e)
  refine wpAny_mono h₁ (fun it s₂ h₂ => ?_) fun _ _ e => e
  obtain ⟨⟨I, fp, wr, loc, P, St, rfl, S, hloc, st0, hfp, Z, hwr, htk, helt⟩, hQ⟩ := h₂
  refine k_comp_block S hsz hcell hkind hloc st0 hfp Z hwr htk helt fun D C h tk m' ys new frs' S' Z' hn hC₀ hCL offF offC o1 o2 R htk' => ?_
  refine ⟨m', hn, fun h'' hs'' => hQ D h'' tk ys new frs' S' (Z'.away (W := [C]) (fun b o hb e => hs''.extBut b o (fun q => hb (by rw [q]; exact .head _)) e) (fun q => hCL (List.mem_singleton.mp q).symm) (fun b hb => by rw [List.mem_singleton.mp hb]; exact hC₀)
    (fun p hp q => offC p hp (List.mem_singleton.mp q)) fun p hp q => offF p hp (List.mem_singleton.mp q)) o1 o2 R htk'⟩

theorem k_Assign_ListComp {elt iter tgt : Expr} {y : Str} {py : Pos} {scope : Scope} {cl : List (Str × Addr)} {pos spos : Pos} {s : Shared} {led : List (Addr × Obj)} {n : Nat} {ts : Nat → T} {Q : Flow → Shared → Prop} {E : Value → Shared → Prop} (hLe : env.locals = L)
    (hsw : swapsWith (.ListComp elt [⟨tgt, iter, [], 0⟩] scope pos) (some (.Name y py)) spos.line env = pure true)
    (hclos : closureFor scope env = pure cl) (hcell : ∀ y ∈ scope.names, y.2 ≠ .cell) (hkind : scope.kind = .function)
    (hnames : ∀ y ∈ scope.names, y.2 = .local → scope.names.lookup y.1 = some .local) (hsz : n ≤ sizeLine)
    (hy : env.kindOf y = some .local) (hp : (env.scope.kind == .class || (env.scope.kind == .module && env.locals != env.globals)) = false)
    (h : wpC (model prog w) A (eval iter env) (fun xv s₁ => wpAny (model prog w) A (pyIter xv) (fun it s₂ => DrawK prog w A g outer frs L m env elt tgt scope cl led n ts it s₂ ∧
      ∀ D h tk ys new frs', SameUp frs frs' → At g outer frs' L (fun z => if z = y then some (.ref D) else m z) ((D, lst ys) :: (new ++ led)) h → (∀ p ∈ (D, lst ys) :: new, ∀ q ∈ led, p.1 ≠ q.1) → (∀ p ∈ new, p.1 ≠ D) → Reps (new ++ led) ys ((List.range n).map ts) → 0 < tk → Q .next { s₂ with heap := h, toks := tk }) NE s₁) NE s)
    (hs : ∀ x, foldedSetIterable iter env x = pure x := by intro _; rfl) :
    wpC (model prog w) A (exec (.Assign [.Name y py] (.ListComp elt [⟨tgt, iter, [], 0⟩] scope pos) spos) env) Q E s := by
  subst hLe
  refine wpC.ne ?_
  rw [exec_Assign_Name_used _ _ _ _ hsw]
  refine wpC_leaf (wpAny_standAt (wpC_bind ?_))
  show wpC _ A (do let _ ← comprehension (.ListComp elt [⟨tgt, iter, [], 0⟩] scope pos) scope env _ (newList []) false (eval iter env) (some (assign (.Name y py) env))) _ _ s
  refine wpC_bind (wpC_mono (c_comprehension (use := some (assign (.Name y py) env)) (Q := fun _ s' => Q .next s') rfl hs hclos hkind hnames
    (wpC_mono h (fun xv s₁ h₁ => ?_) fun _ _ e => e)) (fun _ s' hq => wpC_pure (wpC_pure hq)) fun _ _ e => e)
  refine wpAny_mono h₁ (fun it s₂ h₂ => ?_) fun _ _ e => e
  obtain ⟨⟨I, fp, wr, loc, P, St, rfl, S, hloc, st0, hfp, Z, hwr, htk, helt⟩, hQ⟩ := h₂
  refine k_comp_block S hsz hcell hkind hloc st0 hfp Z hwr htk helt fun D C h' tk m' ys new frs' S' Z' hn hC₀ hCL offF offC o1 o2 R htk' => ?_
  have F' := Z'.F
  show wpAny _ A (assign (.Name y py) env (.ref D)) _ _ _
  refine wpAny_assign_Name (wpAny_storeName_local hy F'.ns (fun h₂ hn₂ hs₂ => ?_) hp)
  have hL₀ : g.get? env.locals = none := Heap.get?_none_of_le F'.above
  have Z₂ := Z'.set hn₂ hs₂
  refine ⟨m', hn.sameBut hs₂ hCL, fun h'' hs'' => hQ D h'' _ ys new frs' S' (Z₂.away (W := [C]) (fun b o hb e => hs''.extBut b o (fun q => hb (by rw [q]; exact .head _)) e) (fun q => hCL (List.mem_singleton.mp q).symm) (fun b hb => by rw [List.mem_singleton.mp hb]; exact hC₀)
    (fun p hp q => offC p hp (List.mem_singleton.mp q)) fun p hp q => offF p hp (List.mem_singleton.mp q)) o1 o2 R (Nat.lt_of_lt_of_le htk' (Nat.le_succ _))⟩
end
end Mine
end
section
open PySem PySem.W PyProof.Rows PySem.Calls PySem.Flt
open PyProof.Rows.TI (Frs SameUp)
open PyProof.Rows.LCg (lst NsObj)
set_option maxRecDepth 100000
set_option maxHeartbeats 400000
namespace Mine
theorem Tru.mono {w : World} {led led' : List (Addr × Obj)} {v : Value} {b : Bool} (h : Tru w led v b) (hs : ∀ q ∈ led, q ∈ led') : Tru w led' v b := fun A E s Q hl k => h A E s Q (fun q hq => hl q (hs q hq)) k
theorem At.push {g : Heap} {outer : List Env} {frs : List (Addr × Obj)} {L : Addr} {m : Str → Option Value} {led : List (Addr × Obj)} {h : Heap} (Z : At g outer frs L m led h) (o : Obj) (hf : o.isFreed = false := by rfl) : At g outer frs L m ((h.objs.size, o) :: led) (h.push o) :=
  ⟨Z.F.push o, News.push Z.F Z.N o hf, fun q hq y hy => by
    rcases List.mem_cons.mp hq with rfl | hq
    · exact Nat.ne_of_gt (Heap.lt_size (Z.N y (List.mem_append_right _ hy)).1)
    · exact Z.ap q hq y hy, Z.Fs⟩
section
variable {w : World} {p : Program} {loose : List Str} {mean : ExcName → Option Value} {mg mb : Str → Option Value}
theorem optM_opt {r : Value} {D : Addr} : optM r D ("options" : Str) = some (.ref D) := rfl
theorem optM_resp {r : Value} {D : Addr} : optM r D ("response" : Str) = some r := rfl
/-- the head of a body with options -/
abbrev OptMM (w : World) (r : Value) (kw : List (Str × Value)) : List (Addr × Obj) → (Str → Option Value) → Prop := fun own m => ∃ D o, own = [(D, o)] ∧ m = optM r D ∧ (D == sysModules) = false ∧ o.IsDictOf (strKind PG w) kw
variable {qual : Str} {scope : Scope} {cdv : Value} {f : Addr} {dpt : Nat} {led : List (Addr × Obj)} {r : Value} {b c : Bool} {kw : List (Str × Value)} {k : Str} {rest body : List Stmt} {p1 p2 p3 p4 p5 p6 p7 p8 p9 p10 p11 : Pos} {kk : Nat}
theorem Lg.more {ps : Array Value} {E : List (Addr × Obj)} (hl : Lg ps led) (hE : ∀ q ∈ E, q.1 ≠ 16) : Lg ps (E ++ led) := ⟨by
    rcases hl.tab with e | ⟨c', oc, vs, t, e, h1, h2⟩
    · exact .inl e
    · exact .inr ⟨c', oc, vs, t, e, List.mem_append_right _ h1, h2⟩, fun q hq => by
    rcases List.mem_append.mp hq with hq | hq
    · exact hE q hq
    · exact hl.off q hq⟩
/-- a body with options, from inside -/
theorem body_opts {ps : Array Value} {Post : Value → List (Addr × Obj) → Prop} (hl : Lg ps led)
    (h : ∀ (dp un : Nat) (gd : Option (List Code)) (outer : List Env) (frs : List (Addr × Obj)) (g : Heap) (L D : Addr) (o : Obj) (cells : List (Addr × Obj)) (s : Shared), Gd w p loose mean mg mb g →
      At g outer frs L (optM r D) ((16, tabObj ps) :: (cells ++ (D, o) :: led)) s.heap → Lg ps (cells ++ (D, o) :: led) → (D == sysModules) = false → o.IsDictOf (strKind PG w) kw →
      CellsAre (fun _ => none) (cellsFrom (L + 1) scope.names []) cells → (∀ q ∈ cells, ∀ y ∈ (D, o) :: led, y.1 ≠ q.1) → dp + dpt < recursionLimit → un + 20 * dpt < cLine → 0 < s.toks →
      wpC (model PG w) (aT none dp un gd (envX qual scope L f cdv (cellsFrom (L + 1) scope.names []) :: outer)) (execs body (envX qual scope L f cdv (cellsFrom (L + 1) scope.names []))) (Ends g outer frs L s Post) NE s) :
    Body false w p loose mean mg mb qual body scope cdv f dpt ((16, tabObj ps) :: led) (OptMM w r kw) (fun _ => none) Post := by
  intro hh dp un gd outer frs g L m own cells s hany G Z hm' lo₁ lo₂ hi Y hd hu htk
  obtain ⟨D, o, rfl, rfl, hsm, hdo⟩ := hm'
  have hh0 : hh = none := hany.resolve_left (fun q => nomatch q)
  subst hh0
  have l16 : (16 : Addr) < L := lo₂ (16, tabObj ps) (.tail _ (.head _))
  refine h dp un gd outer frs g L D o cells s G (Z.perm fun q hq => ?_) ?_ hsm hdo Y (fun q hq y hy => ?_) hd hu htk
  · rcases List.mem_cons.mp hq with rfl | hq
    · exact List.mem_append_right _ (.head _)
    · rcases List.mem_append.mp hq with hq | hq
      · exact List.mem_append_left _ (List.mem_append_left _ hq)
      · rcases List.mem_cons.mp hq with rfl | hq
        · exact List.mem_append_left _ (List.mem_append_right _ (.head _))
        · exact List.mem_append_right _ (.tail _ hq)
  · refine Lg.more (E := cells) (Lg.more (E := [(D, o)]) hl fun q hq => ?_) fun q hq => ?_
    · obtain rfl := List.mem_singleton.mp hq
      exact Nat.ne_of_gt (lo₁ (16, tabObj ps) (.head _) (D, o) (.head _))
    · exact Nat.ne_of_gt (Nat.lt_trans l16 (hi q hq))
  · refine Nat.ne_of_lt (Nat.lt_trans (lo₂ y ?_) (hi q hq))
    rcases List.mem_cons.mp hy with rfl | hy
    · exact .head _
    · exact .tail _ (.tail _ hy)
end

section
variable {w : World} {p : Program} {loose : List Str} {mean : ExcName → Option Value} {mg mb : Str → Option Value} {A : Around} {g : Heap} {outer : List Env} {frs : List (Addr × Obj)} {L : Addr} {m : Str → Option Value} {led : List (Addr × Obj)} {env cenv : Env} {e e1 e2 : Expr} {Pv Pa : Value → Prop}
/-- what an expression gives, with the ledger as it is -/
def Ev (w : World) (A : Around) (g : Heap) (outer : List Env) (frs : List (Addr × Obj)) (L : Addr) (m : Str → Option Value) (led : List (Addr × Obj)) (cenv : Env) (e : Expr) (Pv : Value → Prop) : Prop :=
  ∀ (frs₁ : List (Addr × Obj)) (s : Shared) (Q : Value → Shared → Prop), SameUp frs frs₁ → At g outer frs₁ L m led s.heap → 0 < s.toks →
    (∀ r h' tk' frs', SameUp frs₁ frs' → At g outer frs' L m led h' → Pv r → 0 < tk' → Q r { s with heap := h', toks := tk' }) → wpC (model PG w) A (eval e cenv) Q NE s
theorem Ev.leaf {v : Value} (h : ∀ (frs₁ : List (Addr × Obj)) (s : Shared) (Q : Value → Shared → Prop), At g outer frs₁ L m led s.heap → 0 < s.toks → (∀ tk, s.toks ≤ tk → Q v { s with toks := tk }) → wpAny (model PG w) A (eval e cenv) Q NE s) (hv : Pv v) :
    Ev w A g outer frs L m led cenv e Pv := fun frs₁ s Q S Z htk k => .any (h frs₁ s Q Z htk fun tk htk' => k v s.heap tk frs₁ (SameUp.refl _) Z hv (Nat.lt_of_lt_of_le htk htk'))
theorem Ev.call {id : Str} {pf pos : Pos} {f : Value} {d dp un : Nat} {gd : Option (List Code)} {t : T}
    (hf : ∀ (frs₁ : List (Addr × Obj)) (s : Shared) (Q : Value → Shared → Prop), At g outer frs₁ L m led s.heap → Q f s → wpAny (model PG w) (aT none dp un gd (env :: outer)) (eval (.Name id pf) cenv) Q NE s)
    (hk : KeepL w f led) (ha : Ev w (aT none dp un gd (env :: outer)) g outer frs L m led cenv e Pa) (hct : ∀ x, Pa x → Ct false w p loose mean mg mb f [x] [] d led (fun r l => l = led ∧ Rep [] r t)) (G : Gd w p loose mean mg mb g) (he : env.frame = some L)
    (hke : env.scope.kind = .function) (hd : dp + d < recursionLimit) (hu : un + 20 * d < cLine) (hse : starEach [e] cenv = [(false, eval e cenv)] := by rfl) :
    Ev w (aT none dp un gd (env :: outer)) g outer frs L m led cenv (.Call (.Name id pf) [e] [] pos) (fun r => Rep [] r t) := by
  intro frs₁ s Q S Z htk k
  refine c_Call1 (hf frs₁ s _ Z ?_) hse rfl
  refine c_spliced_cons (ha frs₁ s _ S Z htk fun x h' tk' frs' S' Z' hx htk' => ?_)
  refine c_spliced_nil ⟨hk g _ G.X Z'.F.keep Z'.toks, ?_⟩
  refine hct x hx none dp un gd env outer frs' g L m _ _ _ (.inr rfl) G Z' he hke hd hu htk' fun r led' h₂ tk₂ frs₂ S₂ Z₂ P t₂ => ?_
  obtain ⟨rfl, hr⟩ := P
  exact k r h₂ tk₂ frs₂ (S'.trans S₂) Z₂ hr t₂
/-- float(...) of a number as written, or of a float -/
theorem Ev.float {pf pos : Pos} {q : Int} (hq : Qok q)
    (hf : ∀ (frs₁ : List (Addr × Obj)) (s : Shared) (Q : Value → Shared → Prop), At g outer frs₁ L m led s.heap → Q (.type "float") s → wpAny (model PG w) A (eval (.Name "float" pf) cenv) Q NE s)
    (ha : Ev w A g outer frs L m led cenv e fun x => (∃ u, x = .bytes (Wt q) u) ∨ ∃ u, u ≠ 0 ∧ x = .float (F4 q) u) (hse : starEach [e] cenv = [(false, eval e cenv)] := by rfl) :
    Ev w A g outer frs L m led cenv (.Call (.Name "float" pf) [e] [] pos) (fun r => ∃ u, u ≠ 0 ∧ r = .float (F4 q) u) := by
  intro frs₁ s Q S Z htk k
  refine c_Call1 (hf frs₁ s _ Z ?_) hse rfl
  refine c_spliced_cons (ha frs₁ s _ S Z htk fun x h' tk' frs' S' Z' hx htk' => ?_)
  refine c_spliced_nil ⟨⟨.machine, .inr rfl, keeper_type⟩, ?_⟩
  rcases hx with ⟨u, rfl⟩ | ⟨u, hu, rfl⟩
  · exact .any (call_float_bytes hq (k _ h' _ frs' S' Z' ⟨_, Nat.ne_of_gt htk', rfl⟩ (Nat.succ_pos _)))
  · exact .any (call_float_float (k _ h' _ frs' S' Z' ⟨_, hu, rfl⟩ htk'))
/-- a pair shown as a list, or as a tuple -/
theorem ev_list2 {pos : Pos} {data : List (Addr × Obj)} {t1 t2 : T} {s : Shared} {Q : Value → Shared → Prop} (h1 : Ev w A g outer frs L m led cenv e1 fun r => Rep data r t1) (h2 : Ev w A g outer frs L m led cenv e2 fun r => Rep data r t2) (Z : At g outer frs L m led s.heap) (htk : 0 < s.toks)
    (hq : ∀ D o h' tk' frs', SameUp frs frs' → At g outer frs' L m ((D, o) :: led) h' → (∀ q ∈ led, D ≠ q.1) → Rep ((D, o) :: data) (.ref D) (.lst [t1, t2]) → 0 < tk' → Q (.ref D) { s with heap := h', toks := tk' })
    (hse : starEach [e1, e2] cenv = [(false, eval e1 cenv), (false, eval e2 cenv)] := by rfl) : wpC (model PG w) A (eval (.List [e1, e2] pos) cenv) Q NE s := by
  refine c_List ?_
  rw [hse]
  refine c_spliced_cons (h1 frs s _ (SameUp.refl _) Z htk fun x1 h₁ tk₁ frs₁ S₁ Z₁ r1 k₁ => ?_)
  refine c_spliced_cons (h2 frs₁ _ _ S₁ Z₁ k₁ fun x2 h₂ tk₂ frs₂ S₂ Z₂ r2 k₂ => ?_)
  refine c_spliced_nil ?_
  refine wpAny_newObj_type ?_
  exact hq _ _ _ tk₂ frs₂ (S₁.trans S₂) (Z₂.push _) (fun q hq' => Nat.ne_of_gt (Heap.lt_size (Z₂.N q (List.mem_append_left _ hq')).1)) (.lst (vs := [x1, x2]) (.head _) rfl rfl (.cons (r1.mono fun _ x => .tail _ x) (.cons (r2.mono fun _ x => .tail _ x) .nil))) k₂
theorem ev_tuple2 {x0} {pos : Pos} {data : List (Addr × Obj)} {t1 t2 : T} {s : Shared} {Q : Value → Shared → Prop} (h1 : Ev w A g outer frs L m led cenv e1 fun r => Rep data r t1) (h2 : Ev w A g outer frs L m led cenv e2 fun r => Rep data r t2) (Z : At g outer frs L m led s.heap) (htk : 0 < s.toks)
    (hq : ∀ D o h' tk' frs', SameUp frs frs' → At g outer frs' L m ((D, o) :: led) h' → (∀ q ∈ led, D ≠ q.1) → Rep ((D, o) :: data) (.ref D) (.tup [t1, t2]) → 0 < tk' → Q (.ref D) { s with heap := h', toks := tk' })
    (hse : starEach [e1, e2] cenv = [(false, eval e1 cenv), (false, eval e2 cenv)] := by rfl) : wpC (model PG w) A (eval (.Tuple [e1, e2] x0 pos) cenv) Q NE s := by
  refine c_Tuple ?_
  rw [hse]
  refine c_spliced_cons (h1 frs s _ (SameUp.refl _) Z htk fun x1 h₁ tk₁ frs₁ S₁ Z₁ r1 k₁ => ?_)
  refine c_spliced_cons (h2 frs₁ _ _ S₁ Z₁ k₁ fun x2 h₂ tk₂ frs₂ S₂ Z₂ r2 k₂ => ?_)
  refine c_spliced_nil ?_
  refine wpAny_newObj_type ?_
  exact hq _ _ _ tk₂ frs₂ (S₁.trans S₂) (Z₂.push _) (fun q hq' => Nat.ne_of_gt (Heap.lt_size (Z₂.N q (List.mem_append_left _ hq')).1)) (.tup (vs := [x1, x2]) (.head _) rfl rfl (.cons (r1.mono fun _ x => .tail _ x) (.cons (r2.mono fun _ x => .tail _ x) .nil))) k₂
/-- global names -/
theorem nG {K : Frag} {s : Shared} {x : Str} {v : Value} {pos : Pos} {Q E : Value → Shared → Prop} (F : Fr g L s.heap m) (X : K.In g) (TR : TopRead p loose mg mb g) (e : nsIn K mainGlobals x = some (some v)) (h : Q v s) (hgl : env.globals = mainGlobals) (hk : env.scope.kind = .function) (hx : env.kindOf x = some .globalImplicit)
    (hd : (x == ("__debug__" : Str)) = false := by decide) : wpAny (model PG w) A (eval (.Name x pos) env) Q E s :=
  Name_function_global hk hx (loadGlobal_global (env := env) (by rw [hgl]; exact TR.g.keeps F.keep) (mg_of X TR.g e) h) hd
theorem nB {K : Frag} {s : Shared} {x : Str} {v : Value} {pos : Pos} {Q E : Value → Shared → Prop} (F : Fr g L s.heap m) (X : K.In g) (TR : TopRead p loose mg mb g) (e : nsIn K mainGlobals x = some none) (hv : bootBuiltins x = some v) (hn : x ≠ "__name__") (h : Q v s) (hgl : env.globals = mainGlobals) (hbl : env.builtins = builtinsNs) (hk : env.scope.kind = .function) (hx : env.kindOf x = some .globalImplicit)
    (hd : (x == ("__debug__" : Str)) = false := by decide) : wpAny (model PG w) A (eval (.Name x pos) env) Q E s :=
  Name_function_global hk hx (loadGlobal_builtin (env := env) (by rw [hgl]; exact TR.g.keeps F.keep) (mg_none_of X TR.g e) (by rw [hbl]; exact TR.b.keeps F.keep) ((TR.builtins x hn).trans hv) h) hd
theorem n_cell {M : Model} {E : Value → Shared → Prop} {s : Shared} {x : Str} {pos : Pos} {v : Value} {c : Addr} {Q : Value → Shared → Prop} (hv : s.heap.IsCell c (some v)) (h : Q v s) (hk : env.scope.kind = .function) (hx : env.kindOf x = some .cell) (hc : env.cells.lookup x = some c)
    (hd : (x == ("__debug__" : Str)) = false := by decide) : wpAny M A (eval (.Name x pos) env) Q E s := wpAny_Name (wpAny_loadName_cell hk hx hc hv h) hd
/-- an item of a list by a constant -/
theorem sub_const {E : Value → Shared → Prop} {s : Shared} {x : Str} {i : Int} {a : Addr} {its : List Value} {v : Value} {Q : Value → Shared → Prop} {p1 p2 p3 : Pos} {kk : Nat} (hn : s.heap.Ns env.locals m) (hr : m x = some (.ref a)) (hfn : env.scope.kind = .function) (lr : env.kindOf x = some .local) (hd : (x == ("__debug__" : Str)) = false)
    (hl : s.heap.IsList a its.toArray) (h0 : 0 ≤ i) (h1 : i < 2 ^ 63) (hi : its[i.toNat]? = some v) (h : Q v { s with toks := s.toks + 1 }) :
    wpAny (model PG w) A (eval (.Subscript (.Name x p1) (.Constant (.int i) kk p2) p3) env) Q E s := by
  refine Subscript_Constant (n_local hn hr (wpAny_Constant_int ?_) hfn lr hd)
  exact ⟨"list", _, slot_list_getitem.lookup, hl.typeIs, wpAny_getItem_list (s := { s with toks := s.toks + 1 }) hl h0 h1 (by simpa using hi) h⟩
end
end Mine
end
section
open PySem PySem.W PyProof.Rows PySem.Calls PySem.Flt
open PyProof.Rows.TI (Frs SameUp)
set_option maxRecDepth 100000
set_option maxHeartbeats 400000
namespace Mine
section
variable {w : World} {p : Program} {loose : List Str} {mean : ExcName → Option Value} {mg mb : Str → Option Value}
variable {qual : Str} {scope : Scope} {cdv : Value} {f : Addr} {dpt : Nat} {led : List (Addr × Obj)} {r : Value} {b c : Bool} {kw : List (Str × Value)} {k : Str} {rest : List Stmt} {p1 p2 p3 p4 p5 p6 p7 p8 p9 p10 p11 : Pos} {kk : Nat}
theorem back_k (ht : Tru w led r b) (hc : valueAt kw k = if c then some (.bool true) else none) (hbc : (b && c) = false) (hk : scope.kind = .function) (lo : scope.names.lookup ("options" : Str) = some .local) (lr : scope.names.lookup ("response" : Str) = some .local) (hl : (p2.endLine == p4.line) = true) :
    Body false w p loose mean mg mb qual (.If (.BoolOp .Or [.UnaryOp .Not (.Name "response" p5) p6, .UnaryOp .Not (.Call (.Attribute (.Name "options" p1) "get" p2) [.Constant (.str k) kk p3] [] p4) p7] p8) [.Return (some (.Name "response" p9)) p10] [] p11 :: rest)
      scope cdv f dpt led (OptMM w r kw) (fun _ => none) (fun r' l => r' = r ∧ l = led) := by
  intro hh dp un gd outer frs g L m own cells s hany G Z hm lo₁ lo₂ hi Y hd hu htk
  obtain ⟨D, o, rfl, rfl, hsm, hdo⟩ := hm
  have Z0 := Z.perm (led' := (D, o) :: led) fun q hq => by rw [List.append_assoc]; exact List.mem_append_right _ hq
  refine c_execs_cons (.any (guard_k (led := (D, o) :: led) ⟨hk, lo, optM_opt, .head _, hdo, hsm⟩ Z0.F.ns Z0.news optM_resp (ht.mono fun q hq => .tail _ hq) lr hc (fun tk htk' => ?_) hl))
  rw [hbc, if_neg Bool.false_ne_true]
  exact ⟨s.heap, tk, _, led, frs, rfl, SameUp.refl _, Z0.perm fun q hq => .tail _ hq, Nat.lt_of_lt_of_le htk htk', rfl, rfl⟩
theorem back_n (ht : Tru w led r false) (hk : scope.kind = .function) (lr : scope.names.lookup ("response" : Str) = some .local) :
    Body false w p loose mean mg mb qual (.If (.UnaryOp .Not (.Name "response" p5) p6) [.Return (some (.Name "response" p9)) p10] [] p11 :: rest)
      scope cdv f dpt led (OptMM w r kw) (fun _ => none) (fun r' l => r' = r ∧ l = led) := by
  intro hh dp un gd outer frs g L m own cells s hany G Z hm lo₁ lo₂ hi Y hd hu htk
  obtain ⟨D, o, rfl, rfl, hsm, hdo⟩ := hm
  have Z0 := Z.perm (led' := (D, o) :: led) fun q hq => by rw [List.append_assoc]; exact List.mem_append_right _ hq
  refine c_execs_cons (.any (guard_n (p9 := p9) (led := (D, o) :: led) (v := r) hk Z0.F.ns Z0.news optM_resp (ht.mono fun q hq => .tail _ hq) lr (fun tk Q hQ => n_local Z0.F.ns optM_resp hQ hk lr) rfl (fun tk htk' => ?_)))
  rw [if_neg Bool.false_ne_true]
  exact ⟨s.heap, tk, _, led, frs, rfl, SameUp.refl _, Z0.perm fun q hq => .tail _ hq, Nat.lt_of_lt_of_le htk htk', rfl, rfl⟩
section
variable {A : Around} {g : Heap} {outer : List Env} {frs : List (Addr × Obj)} {L : Addr} {m : Str → Option Value} {env : Env} {s : Shared} {ps : Array Value} {led₁ : List (Addr × Obj)} {e1 e2 : Expr} {t0 t1 : T}
/-- what is shown at the end -/
theorem ends_fresh {D : Addr} {o : Obj} {h' : Heap} {tk' : Tok} {frs' : List (Addr × Obj)} {P : Value → List (Addr × Obj) → Prop} {v : Value} (hl : Lg ps led₁) (hs : ∀ q ∈ led, q ∈ led₁) (S : SameUp frs frs') (Z : At g outer frs' L m ((D, o) :: (16, tabObj ps) :: led₁) h') (ne : ∀ q ∈ (16, tabObj ps) :: led₁, D ≠ q.1) (htk : 0 < tk')
    (hP : P v ((D, o) :: led₁)) : Ends g outer frs L s (PostG led P) (.ret v) { s with heap := h', toks := tk' } := by
  refine ⟨h', tk', m, _, frs', rfl, S, Z.perm (led' := (16, tabObj ps) :: (D, o) :: led₁) fun q hq => ?_, htk, ps, _, rfl, Lg.more (E := [(D, o)]) hl fun q hq => ?_, fun q hq => .tail _ (hs q hq), hP⟩
  · rcases List.mem_cons.mp hq with rfl | hq
    · exact .tail _ (.head _)
    · rcases List.mem_cons.mp hq with rfl | hq
      · exact .head _
      · exact .tail _ (.tail _ hq)
  · obtain rfl := List.mem_singleton.mp hq
    exact ne _ (.head _)
theorem Ends.before {frs₁ : List (Addr × Obj)} {h₁ : Heap} {tk₁ : Tok} {Post : Value → List (Addr × Obj) → Prop} {fl : Flow} {s' : Shared} (S : SameUp frs frs₁) (x : Ends g outer frs₁ L { s with heap := h₁, toks := tk₁ } Post fl s') : Ends g outer frs L s Post fl s' := by
  obtain ⟨h', tk', m', led', frs', rfl, S', r⟩ := x
  exact ⟨h', tk', m', led', frs', rfl, S.trans S', r⟩
theorem c_ends {frs₁ : List (Addr × Obj)} {h₁ : Heap} {tk₁ : Tok} {Post : Value → List (Addr × Obj) → Prop} {body : List Stmt} (S : SameUp frs frs₁) (x : wpC (model PG w) A (execs body env) (Ends g outer frs₁ L { s with heap := h₁, toks := tk₁ } Post) NE { s with heap := h₁, toks := tk₁ }) :
    wpC (model PG w) A (execs body env) (Ends g outer frs L s Post) NE { s with heap := h₁, toks := tk₁ } := wpC_mono x (fun _ _ y => y.before S) fun _ _ y => y
theorem rank_tail {pl pr : Pos} (hl : Lg ps led₁) (hs : ∀ q ∈ led, q ∈ led₁) (Z : At g outer frs L m ((16, tabObj ps) :: led₁) s.heap) (htk : 0 < s.toks)
    (h1 : Ev w A g outer frs L m ((16, tabObj ps) :: led₁) env e1 fun x => Rep led x t0) (h2 : Ev w A g outer frs L m ((16, tabObj ps) :: led₁) env e2 fun x => Rep [] x t1)
    (hse : starEach [e1, e2] env = [(false, eval e1 env), (false, eval e2 env)] := by rfl) :
    wpC (model PG w) A (execs [.Return (some (.List [e1, e2] pl)) pr] env) (Ends g outer frs L s (PostG led fun r l => Rep l r (.lst [t0, t1]))) NE s := by
  refine c_execs_cons (c_Return (ev_list2 (data := led₁) (t1 := t0) (t2 := t1) (fun frs₁ s₁ Q S Z k hq => h1 frs₁ s₁ Q S Z k fun r h' tk' frs' S' Z' P => hq r h' tk' frs' S' Z' (P.mono hs)) (fun frs₁ s₁ Q S Z k hq => h2 frs₁ s₁ Q S Z k fun r h' tk' frs' S' Z' P => hq r h' tk' frs' S' Z' (P.mono fun _ x => absurd x List.not_mem_nil)) Z htk
    (fun D o h' tk' frs' S Z' ne R k => ?_) hse))
  exact ends_fresh hl hs S Z' ne k R
end
/-- a response that is a pair -/
structure Two (led : List (Addr × Obj)) (a : Addr) (v0 v1 : Value) : Prop where
  of : ∃ oa n, (a, oa) ∈ led ∧ oa.cls = .type "list" ∧ oa.data = .seq #[v0, v1] n
theorem Two.tru {a : Addr} {v0 v1 : Value} (x : Two led a v0 v1) : Tru w led (.ref a) true := by
  obtain ⟨oa, n, h1, h2, h3⟩ := x.of
  exact tru_lst (vs := [v0, v1]) h1 h2 h3 (by simp)
theorem Two.mono {a : Addr} {v0 v1 : Value} {led' : List (Addr × Obj)} (x : Two led a v0 v1) (hs : ∀ q ∈ led, q ∈ led') : Two led' a v0 v1 := by
  obtain ⟨oa, n, h1, h2, h3⟩ := x.of
  exact ⟨oa, n, hs _ h1, h2, h3⟩
theorem Two.sub0 {A : Around} {g : Heap} {outer : List Env} {frs : List (Addr × Obj)} {L : Addr} {m : Str → Option Value} {env : Env} {a : Addr} {v0 v1 : Value} {Pv : Value → Prop} {x : Str} {p1 p2 p3 : Pos} {kk : Nat} (y : Two led a v0 v1) (hP : Pv v0) (hr : m x = some (.ref a)) (hL : env.locals = L) (hfn : env.scope.kind = .function) (lr : env.kindOf x = some .local) (hd : (x == ("__debug__" : Str)) = false := by decide) :
    Ev w A g outer frs L m led env (.Subscript (.Name x p1) (.Constant (.int 0) kk p2) p3) Pv := by
  obtain ⟨oa, n, h1, h2, h3⟩ := y.of
  exact Ev.leaf (fun frs₁ s Q Z htk k => sub_const (its := [v0, v1]) (by rw [hL]; exact Z.F.ns) hr hfn lr hd ⟨oa, Z.toks _ h1, h2, n, h3⟩ (by decide) (by decide) rfl (k _ (Nat.le_succ _))) hP
theorem Two.sub1 {A : Around} {g : Heap} {outer : List Env} {frs : List (Addr × Obj)} {L : Addr} {m : Str → Option Value} {env : Env} {a : Addr} {v0 v1 : Value} {Pv : Value → Prop} {x : Str} {p1 p2 p3 : Pos} {kk : Nat} (y : Two led a v0 v1) (hP : Pv v1) (hr : m x = some (.ref a)) (hL : env.locals = L) (hfn : env.scope.kind = .function) (lr : env.kindOf x = some .local) (hd : (x == ("__debug__" : Str)) = false := by decide) :
    Ev w A g outer frs L m led env (.Subscript (.Name x p1) (.Constant (.int 1) kk p2) p3) Pv := by
  obtain ⟨oa, n, h1, h2, h3⟩ := y.of
  exact Ev.leaf (fun frs₁ s Q Z htk k => sub_const (its := [v0, v1]) (by rw [hL]; exact Z.F.ns) hr hfn lr hd ⟨oa, Z.toks _ h1, h2, n, h3⟩ (by decide) (by decide) rfl (k _ (Nat.le_succ _))) hP

theorem rank_back (ht : Tru w led r b) (hc : valueAt kw ("withscore" : Str) = if c then some (.bool true) else none) (hbc : (b && c) = false) (hn : (kw.map (·.1)).Nodup) (hr : ∀ x ∈ kw, x.1 ≠ ("response" : Str)) (hz : kw.length ≤ 4) :
    Ct false w p loose mean mg mb (.ref 42) [r] kw 1 led (fun r' l => r' = r ∧ l = led) := by
  (refine fill_aux ?_; k_fill; intro _ _)
  refine' ct_opts ?ho ?hcd ?P hn hr hz (by decide) ?k1 ?k2 ?hnd ?hco ?hgen ?hk ?h
  ( (case ho => k_is); (case hcd => k_is); (case P => exact ⟨rfl, rfl, rfl, rfl, rfl⟩); (case k1 => rfl); (case k2 => rfl); (case hnd => decide); (case hco => rfl); (case hgen => rfl); (case hk => rfl))
  exact back_k ht hc hbc rfl rfl rfl rfl
theorem rank_unified_back (ht : Tru w led r b) (hc : valueAt kw ("withscore" : Str) = if c then some (.bool true) else none) (hbc : (b && c) = false) (hn : (kw.map (·.1)).Nodup) (hr : ∀ x ∈ kw, x.1 ≠ ("response" : Str)) (hz : kw.length ≤ 4) :
    Ct false w p loose mean mg mb (.ref 92) [r] kw 1 led (fun r' l => r' = r ∧ l = led) := by
  (refine fill_aux ?_; k_fill; intro _ _)
  refine' ct_opts ?ho ?hcd ?P hn hr hz (by decide) ?k1 ?k2 ?hnd ?hco ?hgen ?hk ?h
  ( (case ho => k_is); (case hcd => k_is); (case P => exact ⟨rfl, rfl, rfl, rfl, rfl⟩); (case k1 => rfl); (case k2 => rfl); (case hnd => decide); (case hco => rfl); (case hgen => rfl); (case hk => rfl))
  exact back_k ht hc hbc rfl rfl rfl rfl
/-- what is asked -/
structure Asked (kw : List (Str × Value)) (way : Nat) : Prop where
  w3 : way ≤ 3
  sc : (valueAt kw scn).getD (.type "float") = fv way
  nd : (kw.map (·.1)).Nodup
  nr : ∀ x ∈ kw, x.1 ≠ ("response" : Str)
  sz : kw.length ≤ 4
theorem KeepL.mono {v : Value} {l l' : List (Addr × Obj)} (x : KeepL w v l) (h : ∀ q ∈ l, q ∈ l') : KeepL w v l' := fun g hh a b c => x g hh a b fun q hq => c q (h q hq)
theorem CasF.all {way : Nat} {r : Value} {led₂ : List (Addr × Obj)} (x : CasF w p loose mean mg mb way led r led₂) : CasE w p loose mean mg mb way r led₂ := by
  obtain ⟨nl, h1, _, h3⟩ := x
  exact h3.mono h1
theorem rank_ct {way : Nat} {a : Addr} {v0 : Value} {t0 : T} {q : Int} {u : Tok} {ps : Array Value} (hq : Qok q) (hl : Lg ps led) (h2 : Two led a v0 (.bytes (Wt q) u)) (h0 : Rep led v0 t0) (H : Asked kw way) (hc : valueAt kw ("withscore" : Str) = some (.bool true)) :
    Ct false w p loose mean mg mb (.ref 42) [.ref a] kw 5 ((16, tabObj ps) :: led) (PostG led fun r l => Rep l r (.lst [t0, eldT way q])) := by
  (refine fill_aux ?_; k_fill; intro _ _)
  refine' ct_opts ?ho ?hcd ?P H.nd H.nr H.sz (by decide) ?k1 ?k2 ?hnd ?hco ?hgen ?hk ?h
  ( (case ho => k_is); (case hcd => k_is); (case P => exact ⟨rfl, rfl, rfl, rfl, rfl⟩); (case k1 => rfl); (case k2 => rfl); (case hnd => decide); (case hco => rfl); (case hgen => rfl); (case hk => rfl))
  refine body_opts hl fun dp un gd outer frs g L D o cells s G Z hl hsm hdo Y lo hd hu htk => ?_
  cases Y
  have hs0 : ∀ q ∈ led, q ∈ (D, o) :: led := fun q hq => .tail _ hq
  refine c_execs_cons (.any (guard_k (led := (D, o) :: led) (b := true) (c := true) ⟨rfl, rfl, optM_opt, .head _, hdo, hsm⟩ Z.F.ns (Z.perm fun q hq => .tail _ hq).news optM_resp (h2.tru.mono hs0) rfl hc (fun tk htk' => ?_) (by decide)))
  refine c_execs_cons (c_wrapLocal (p := p) (loose := loose) (mean := mean) (mg := mg) (mb := mb) (led := (D, o) :: led) (s := { s with toks := tk }) H.w3 G Z hl ⟨rfl, rfl, optM_opt, .head _, hdo, hsm⟩ H.sc rfl rfl rfl (by omega) (by omega) (Nat.lt_of_lt_of_le htk htk') (by decide) rfl fun f h₁ tk₁ frs₁ ps₁ led₁ S₁ Z₁ hl₁ hs₁ hc₁ ht₁ => ?_)
  have h2' := (h2.mono hs0).mono (led' := (16, tabObj ps₁) :: led₁) fun q hq => .tail _ (hs₁ q hq)
  have hE := hc₁.all.mono (led' := (16, tabObj ps₁) :: led₁) fun q hq => .tail _ hq
  refine c_ends (s := s) S₁ (rank_tail (led := led) (led₁ := led₁) hl₁ (fun q hq => hs₁ q (hs0 q hq)) Z₁ ht₁ (h2'.sub0 (Pv := fun x => Rep led x t0) h0 rfl rfl rfl rfl) ?_)
  refine Ev.call (f := f) (d := 3) (Pa := fun x => x = .bytes (Wt q) u) (fun frs₂ s₂ Q Z₂ k => n_local Z₂.F.ns (if_pos rfl) k rfl rfl) hE.keep (h2'.sub1 rfl rfl rfl rfl rfl) (fun x hx => by subst hx; exact hE.byt _ (fun _ y => y) q u hq) G rfl rfl (by omega) (by omega)
end
end Mine
end
section
open PySem PySem.W PyProof.Rows PySem.Calls PySem.Flt
set_option maxRecDepth 100000
namespace Mine
open PySem.Builtin._codecs Float64 PySem.NumText Builtin.Float
theorem spec17' (name : String) : parseFormatSpec (Str.ofString ".17g").cps.toList name 62 = .ok q17 := by rfl
theorem formatFloat_name (x : UInt64) (name : String) : formatFloat x q17 name = formatFloat x q17 "float" := rfl
section
variable {prog : Program} {w : World} {A : Around} {E : Value → Shared → Prop} {s : Shared} {Q : Value → Shared → Prop}
theorem call_format_q' {q : Int} (hq : Qok q) {sp : Str} {t u : Tok} (hne : (sp.length == 0) = false) (hsp : ∀ name, parseFormatSpec sp.cps.toList name 62 = .ok q17) (h : Q (.str ⟨(txt q).toArray⟩ s.toks) { s with toks := s.toks + 1 }) : wpAny (model prog w) A (call (.builtin "format") [.float (F4 q) t, .str sp u]) Q E s := by
  refine Calls.call_function_entry kind_format plain_format entry_format (args_format _ _) ?_
  unfold Builtin.«format»
  refine wpAny_bind (m := someArgs "format" 1 2 _) (wpAny_pure ?_)
  show wpAny _ _ (typeNameOf (.str sp u) >>= fun specType => (if (sp.length == 0) = true then _ else _)) _ _ s
  rw [hne]
  refine wpAny_bind (wpAny_of_eq (a := "str") rfl ?_)
  show wpAny _ _ (callSpecial? (.float (F4 q) t) (Str.ofString "__format__") [.str sp u] >>= _) _ _ s
  have e1 : (txt q).length ≤ 7 := by
    have := Wt_size hq
    unfold Wt at this
    simpa using this
  refine wpAny_bind (wpAny_callSpecial?_slot (name := Str.ofString "__format__") (T := "float") rfl PySem.F.slot_float_format
    (call_gives PySem.F.slot_float_format rfl PySem.F.entry_float_format (PySem.F.args_float_format_2 _ _) (gives_float_format (F4 q) t u sp q17 ⟨(txt q).toArray⟩ hne hsp (by decide) (fun name => (formatFloat_name _ name).trans (format_quarter hq))) ⟨?_, ?_⟩))
  · show (txt q).toArray.size ≤ _
    rw [List.size_toArray]
    exact Nat.le_trans e1 (by decide)
  exact wpAny_bind (wpAny_isInstance (T := "str") (b := true) rfl isSubtype_str_str (wpAny_pure ⟨_, rfl, h⟩))
theorem call_format_q {q : Int} (hq : Qok q) {t u : Tok} (h : Q (.str ⟨(txt q).toArray⟩ s.toks) { s with toks := s.toks + 1 }) : wpAny (model prog w) A (call (.builtin "format") [.float (F4 q) t, .str (Str.ofString ".17g") u]) Q E s :=
  call_format_q' hq rfl spec17' h
end
theorem txt_ascii (q : Int) : ∀ x ∈ txt q, x < 128 := by
  intro x hx
  unfold txt at hx
  rcases List.mem_append.mp hx with hx | hx
  · by_cases h : q < 0
    · rw [if_pos h] at hx
      rw [List.mem_singleton.mp hx]; decide
    · rw [if_neg h] at hx; cases hx
  · rcases List.mem_append.mp hx with hx | hx
    · obtain ⟨c, hc, rfl⟩ := List.mem_map.mp hx
      have := Nat.isDigit_of_mem_toDigits (b := 10) (by decide) (by decide) hc
      unfold Char.isDigit at this
      simp at this
      have h2 : c.val.toNat ≤ 57 := by
        have := this.2
        rw [UInt32.le_iff_toNat_le] at this
        exact this
      exact Nat.lt_of_le_of_lt h2 (by decide)
    · have : ∀ r, r < 4 → ∀ x ∈ frac r, x < 128 := by decide
      exact this _ (Nat.mod_lt _ (by decide)) x hx
theorem utf8_ascii {c : Nat} (h : c < 128) : Str.utf8Of c = [UInt8.ofNat c] := by
  unfold Str.utf8Of
  rw [if_pos h]
theorem forIn_two {α σ : Type} {f : α → σ → Sem (ForInStep σ)} {i0 i1 : σ} (h0 : ∀ a, f a i0 = pure (.yield i1)) (h1 : ∀ a, f a i1 = pure (.done i1)) : ∀ l : List α, l ≠ [] → forIn l i0 f = pure i1
  | [], h => absurd rfl h
  | a :: [], _ => by
    rw [List.forIn_cons, h0, pure_bind]
    show forIn [] i1 f = _
    rw [List.forIn_nil]
  | a :: b :: l, _ => by
    rw [List.forIn_cons, h0, pure_bind]
    show forIn (b :: l) i1 f = _
    rw [List.forIn_cons, h1, pure_bind]
theorem fold_ascii : ∀ (xs : List Nat) (acc : Array UInt8), (∀ x ∈ xs, x < 128) → xs.foldl (fun acc y => acc ++ (Str.utf8Of y).toArray) acc = acc ++ (xs.map UInt8.ofNat).toArray
  | [], acc, _ => by simp
  | x :: r, acc, h => by
    rw [List.foldl_cons, utf8_ascii (h x (.head _)), fold_ascii r _ fun y hy => h y (.tail _ hy)]
    simp
theorem encodeNarrow_ascii (id : String) (self : Value) (xs : List Nat) (h : ∀ x ∈ xs, x < 128) (hz : xs.length ≤ 7) : encodeNarrow id utf8Codec none self ⟨xs.toArray⟩ = pure (xs.map UInt8.ofNat).toArray := by
  unfold encodeNarrow
  simp only [Std.Legacy.Range.forIn_eq_forIn_range']
  have hbad : ∀ x ∈ xs, Str.isSurrogate x = false := fun x hx => by
    have := h x hx
    unfold Str.isSurrogate
    simp; omega
  cases xs with
  | nil => rfl
  | cons a r =>
    have hfind : Array.findIdx? Str.isSurrogate (a :: r).toArray = none := by
      rw [List.findIdx?_toArray, List.findIdx?_eq_none_iff]
      exact hbad
    have hb' : utf8Codec.bad a = false := hbad a (.head _)
    have hf' : List.findIdx? utf8Codec.bad (a :: r) = none := by
      rw [List.findIdx?_eq_none_iff]
      exact hbad
    have hfo : List.foldl (fun acc y => acc ++ (utf8Codec.bytesOf y).toArray) #[] (a :: r) = ((a :: r).map UInt8.ofNat).toArray := (fold_ascii _ _ h).trans (by simp)
    rw [forIn_two (i1 := ((a :: r).length, ((a :: r).map UInt8.ofNat).toArray, {})) (fun b => ?_) (fun b => ?_) _ ?_, pure_bind]
    · simp [Str.length]
    · simp [hb', hf']
      have hfo2 : List.foldl (fun acc y => acc ++ (utf8Codec.bytesOf y).toArray) (utf8Codec.bytesOf a).toArray r = (UInt8.ofNat a :: List.map UInt8.ofNat r).toArray := by simpa using hfo
      rw [hfo2]
    · have hsz : ¬ sizeLine < r.length + 1 := by rw [sizeLine_eq]; simp at hz; omega
      simp [hsz]
end Mine
end
section
open PySem PySem.W PyProof.Rows PySem.Calls PySem.Flt
open PyProof.Rows.TI (Frs SameUp)
set_option maxRecDepth 100000
set_option maxHeartbeats 400000
namespace Mine
open PySem.Builtin._codecs
theorem gives_encode {q : Int} (hq : Qok q) (t : Tok) : Gives (Builtin.«str.encode» ⟨[.str ⟨(txt q).toArray⟩ t], []⟩) (.bytes (Wt q)) := by
  rw [encode_tree, encodeRoad_utf8, encodeNarrow_ascii _ _ _ (txt_ascii q) (by have := Wt_size hq; unfold Wt at this; simpa using this)]
  exact .of_eq rfl
section
variable {w : World} {p : Program} {loose : List Str} {mean : ExcName → Option Value} {mg mb : Str → Option Value}
theorem nisi (w : World) : nsIn (hd.heap_39 w.params) mainGlobals ("isinstance" : Str) = some none := by kernel_rfl
theorem nbytes (w : World) : nsIn (hd.heap_39 w.params) mainGlobals ("bytes" : Str) = some none := by kernel_rfl
theorem nstr (w : World) : nsIn (hd.heap_39 w.params) mainGlobals ("str" : Str) = some none := by kernel_rfl
theorem nbool (w : World) : nsIn (hd.heap_39 w.params) mainGlobals ("bool" : Str) = some none := by kernel_rfl
theorem nformat (w : World) : nsIn (hd.heap_39 w.params) mainGlobals ("format" : Str) = some none := by kernel_rfl
theorem isi_step {A : Around} {g : Heap} {outer : List Env} {frs : List (Addr × Obj)} {L : Addr} {m : Str → Option Value} {led : List (Addr × Obj)} {env : Env} {s : Shared} {x T : Str} {Tn : String} {v : Value} {p1 p2 p3 p4 p5 : Pos} {body : List Stmt} {Q : Flow → Shared → Prop} (G : Gd w p loose mean mg mb g) (Z : At g outer frs L m led s.heap)
    (hL : env.locals = L) (hgl : env.globals = mainGlobals) (hbl : env.builtins = builtinsNs) (hk : env.scope.kind = .function) (ki : env.kindOf ("isinstance" : Str) = some .globalImplicit) (kx : env.kindOf x = some .local) (kT : env.kindOf T = some .globalImplicit)
    (hm : m x = some v) (hdx : (x == ("__debug__" : Str)) = false) (hdT : (T == ("__debug__" : Str)) = false) (nT : nsIn (hd.heap_39 w.params) mainGlobals T = some none) (bT : bootBuiltins T = some (.type Tn)) (hn : T ≠ "__name__")
    (hc : ∀ (E : Value → Shared → Prop) (s : Shared) (Q : Value → Shared → Prop), Q (.bool false) { s with toks := s.toks + 1 } → wpAny (model PG w) A (call (.builtin "isinstance") [v, .type Tn]) Q E s) (hq : Q .next { s with toks := s.toks + 1 }) :
    wpC (model PG w) A (exec (.If (.Call (.Name "isinstance" p1) [.Name x p2, .Name T p3] [] p4) body [] p5) env) Q NE s := by
  have TR := topRead_of G.T
  refine c_If (.any (isTrue_plain (Call_Name2 (nB Z.F G.X TR (nisi w) (v := .builtin "isinstance") (by decide +kernel) (by decide) ?_ hgl hbl hk ki))))
  refine callWith_builtin rfl (evalArgs_plain (spliced_cons (n_local (by rw [hL]; exact Z.F.ns) hm ?_ hk kx hdx)))
  refine spliced_cons (nB Z.F G.X TR nT bT hn (spliced_nil ?_) hgl hbl hk kT hdT)
  refine hc _ _ _ (wpAny_truthy_bool ?_)
  exact c_execs_nil hq
theorem resp2_ct {q : Int} {u : Tok} {led} (hq : Qok q) : Ct true w p loose mean mg mb (.ref 61) [.float (F4 q) u] [] 1 led (fun r led' => (∃ t, r = .bytes (Wt q) t) ∧ led' = led) := by
  (refine fill_aux ?_; k_fill; intro _ _)
  refine' ct_pos (m₀ := fun y => if y = ("value" : Str) then some (.float (F4 q) u) else none) (cm := fun _ => none) ?ho ?hcd ?hb ?h1 ?hkind ?hm ?hc ?hnd ?hco ?hgen ?hk ?h
  ( (case ho => k_is); (case hcd => k_is); (case hb => rfl); (case h1 => decide); (case hkind => intro n; repeat (first | exact List.forall_mem_nil _ | (refine List.forall_mem_cons.mpr ⟨by first | exact .inl rfl | exact .inr ⟨rfl, rfl⟩, ?_⟩))); (case hm => intro L'; rfl); (case hc => intro L'; rfl); (case hnd => decide); (case hco => rfl); (case hgen => rfl); (case hk => rfl))
  intro hh dp un gd outer frs g L m own cells s hany G Z hm lo₁ lo₂ hi Y hd hu htk
  obtain ⟨rfl, rfl⟩ := hm
  cases Y
  have TR := topRead_of G.T
  refine c_execs_cons (isi_step G Z rfl rfl rfl rfl rfl rfl rfl (if_pos rfl) (by decide) (by decide) (nbytes w) (Tn := "bytes") (by decide +kernel) (by decide) (fun E s Q k => IsiPair.float_bytes k) ?_)
  refine c_execs_cons (isi_step (s := { s with toks := s.toks + 1 }) G Z rfl rfl rfl rfl rfl rfl rfl (if_pos rfl) (by decide) (by decide) (nstr w) (Tn := "str") (by decide +kernel) (by decide) (fun E s Q k => IsiPair.float_str k) ?_)
  refine c_execs_cons (isi_step (s := { s with toks := s.toks + 1 + 1 }) G Z rfl rfl rfl rfl rfl rfl rfl (if_pos rfl) (by decide) (by decide) (nbool w) (Tn := "bool") (by decide +kernel) (by decide) (fun E s Q k => IsiPair.float_bool k) ?_)
  refine c_execs_cons (c_Return (.any (Call_method0 rfl rfl ?_)))
  refine Call_Name2 (nB Z.F G.X TR (nformat w) (v := .builtin "format") (by decide +kernel) (by decide) ?_ rfl rfl rfl rfl)
  refine callWith_builtin rfl (evalArgs_plain (spliced_cons (Call_name1 rfl (nB Z.F G.X TR (nfloat w) (v := .type "float") (by decide +kernel) (by decide) ?_ rfl rfl rfl rfl))))
  refine callWith_type1 (n_local Z.F.ns (if_pos rfl) ?_ rfl rfl)
  refine call_float_float ?_
  refine spliced_cons (Constant_str (spliced_nil ?_))
  refine call_format_q hq ?_
  refine MethodOnS.str0 PySem.F.slot_str_encode PySem.F.type_str_encode PySem.F.entry_str_encode (PySem.F.args_str_encode_1 _) (gives_encode hq _) ⟨?_, ?_⟩
  · exact Nat.le_trans (Wt_size hq) (by rw [sizeLine_eq]; decide)
  exact ⟨s.heap, _, _, led, frs, rfl, SameUp.refl _, by simpa using Z, Nat.succ_pos _, ⟨_, rfl⟩, rfl⟩
end
end Mine
end
section
open PySem PySem.W PyProof.Rows PySem.Calls PySem.Flt
open PyProof.Rows.TI (Frs SameUp)
set_option maxRecDepth 100000
set_option maxHeartbeats 400000
namespace Mine
section
variable {w : World} {p : Program} {loose : List Str} {mean : ExcName → Option Value} {mg mb : Str → Option Value}
section
variable {s : Shared} {g : Heap} {outer : List Env} {frs : List (Addr × Obj)} {L a : Addr} {m : Str → Option Value} {led : List (Addr × Obj)}
  {D : Addr} {o : Obj} {kw : List (Str × Value)} {k : Str} {p1 p2 p3 p4 p5 p6 p7 p8 p9 p10 p11 : Pos} {kk : Nat} {r : Value} {b : Bool} {cn : Str} {cs : Scope} {ccd : Value} {cl : List (Str × Addr)}
/-- a cell's new content -/
theorem At.cell {E : List (Addr × Obj)} {C : Addr} {oC oC' : Obj} {h h₂ : Heap} (Z : At g outer frs L m (E ++ (C, oC) :: led) h) (hs : Heap.SameBut C h h₂) (hC : h₂.get? C = some oC') (off : ∀ q ∈ E ++ led, q.1 ≠ C) : At g outer frs L m (E ++ (C, oC') :: led) h₂ := by
  have mC : (C, oC) ∈ E ++ (C, oC) :: led := List.mem_append_right _ (.head _)
  have gC := Z.N (C, oC) (List.mem_append_left _ mC)
  have sub : ∀ q ∈ E ++ (C, oC') :: led, q = (C, oC') ∨ (q ∈ E ++ (C, oC) :: led ∧ q.1 ≠ C) := fun q hq => by
    rcases List.mem_append.mp hq with hq | hq
    · exact .inr ⟨List.mem_append_left _ hq, off q (List.mem_append_left _ hq)⟩
    · rcases List.mem_cons.mp hq with rfl | hq
      · exact .inl rfl
      · exact .inr ⟨List.mem_append_right _ (.tail _ hq), off q (List.mem_append_right _ hq)⟩
  refine ⟨Z.F.change hs gC.2.1 gC.2.2, fun q hq => ?_, fun q hq => ?_, Z.Fs⟩
  · rcases List.mem_append.mp hq with hq | hq
    · rcases sub q hq with rfl | ⟨h1, h2⟩
      · exact ⟨hC, gC.2⟩
      · have x := Z.N q (List.mem_append_left _ h1)
        exact ⟨hs.extBut _ _ h2 x.1, x.2⟩
    · have x := Z.N q (List.mem_append_right _ hq)
      exact ⟨hs.extBut _ _ (Ne.symm (Z.ap (C, oC) mC q hq)) x.1, x.2⟩
  · rcases sub q hq with rfl | ⟨h1, h2⟩
    · exact Z.ap (C, oC) mC
    · exact Z.ap q h1
theorem c_rawLocal {A : Around} {Q : Flow → Shared → Prop} {v : Value} (G : Gd w p loose mean mg mb g) (Z : At g outer frs L m led s.heap) (O : Opt w (envX cn cs L a ccd cl) m led D o kw)
    (hf : (valueAt kw scn).getD (.type "float") = v) (kfl : (envX cn cs L a ccd cl).kindOf ("float" : Str) = some .globalImplicit) (ks : (envX cn cs L a ccd cl).kindOf scn = some .local) (htk : 0 < s.toks) (hpl : (p2.endLine == p4.line) = true)
    (hsw : swapsWith (.Call (.Attribute (.Name "options" p1) "get" p2) [.Constant (.str scn) kk p3, .Name "float" p5] [] p4) (some (.Name scn p8)) p9.line (envX cn cs L a ccd cl) = pure false)
    (hq : ∀ h' tk', At g outer frs L (fun y => if y = scn then some v else m y) led h' → 0 < tk' → Q .next { s with heap := h', toks := tk' }) :
    wpC (model PG w) A (exec (.Assign [.Name scn p8] (.Call (.Attribute (.Name "options" p1) "get" p2) [.Constant (.str scn) kk p3, .Name "float" p5] [] p4) p9) (envX cn cs L a ccd cl)) Q NE s := by
  have TR := topRead_of G.T
  have fk := O.fn
  refine c_Assign (.any (opt_get2 (v := .type "float") O Z.F.ns Z.news (fun tk Q hQ => nameX_B Z.F G.X TR (nfloat w) (v := .type "float") (by decide +kernel) (by decide) (hQ _ (Nat.le_refl _)) fk kfl) (fun tk htk' => ?_) hpl)) hsw
  rw [hf]
  refine wpAny_storeName_local ks Z.F.ns (fun h₂ hn hs₂ => ?_) (by rw [show (envX cn cs L a ccd cl).scope.kind = .function from O.fn]; rfl)
  exact hq h₂ _ (Z.set hn hs₂) (Nat.succ_pos _)
theorem c_rawCell {A : Around} {Q : Flow → Shared → Prop} {v : Value} {C : Addr} {oC : Obj} {v₀ : Option Value} {E : List (Addr × Obj)} (G : Gd w p loose mean mg mb g) (Z : At g outer frs L m (E ++ (C, oC) :: led) s.heap) (O : Opt w (envX cn cs L a ccd cl) m (E ++ (C, oC) :: led) D o kw)
    (hoC : oC.data = .cell v₀) (hCl : ∀ q ∈ E ++ led, q.1 ≠ C) (hlk : cl.lookup scn = some C)
    (hf : (valueAt kw scn).getD (.type "float") = v) (kfl : (envX cn cs L a ccd cl).kindOf ("float" : Str) = some .globalImplicit) (ks : (envX cn cs L a ccd cl).kindOf scn = some .cell) (htk : 0 < s.toks) (hpl : (p2.endLine == p4.line) = true)
    (hsw : swapsWith (.Call (.Attribute (.Name "options" p1) "get" p2) [.Constant (.str scn) kk p3, .Name "float" p5] [] p4) (some (.Name scn p8)) p9.line (envX cn cs L a ccd cl) = pure false)
    (hq : ∀ oC' h' tk', oC'.data = .cell (some v) → At g outer frs L m (E ++ (C, oC') :: led) h' → 0 < tk' → Q .next { s with heap := h', toks := tk' }) :
    wpC (model PG w) A (exec (.Assign [.Name scn p8] (.Call (.Attribute (.Name "options" p1) "get" p2) [.Constant (.str scn) kk p3, .Name "float" p5] [] p4) p9) (envX cn cs L a ccd cl)) Q NE s := by
  have TR := topRead_of G.T
  have fk := O.fn
  refine c_Assign (.any (opt_get2 (v := .type "float") O Z.F.ns Z.news (fun tk Q hQ => nameX_B Z.F G.X TR (nfloat w) (v := .type "float") (by decide +kernel) (by decide) (hQ _ (Nat.le_refl _)) fk kfl) (fun tk htk' => ?_) hpl)) hsw
  rw [hf]
  have gC := Z.N (C, oC) (List.mem_append_left _ (List.mem_append_right _ (.head _)))
  refine wpAny_storeName_cell O.fn ks hlk ⟨oC, gC.1, hoC⟩ fun h₂ hc₂ hs₂ => ?_
  obtain ⟨oC', gC', dC'⟩ := hc₂
  exact hq oC' h₂ _ dC' (Z.cell hs₂ gC' hCl) (Nat.lt_of_lt_of_le htk htk')
end
variable {led : List (Addr × Obj)} {kw : List (Str × Value)}
theorem n61 (w : World) : nsIn (hd.heap_39 w.params) mainGlobals ("_score_to_resp2_bytes" : Str) = some (some (.ref 61)) := by kernel_rfl
theorem fn61 (w : World) : ((hd.heap_39 w.params).lookup 61).map (fun o => match o.data with | .func _ => true | _ => false) = some true := by kernel_rfl
theorem keepL_fn {a : Addr} {led : List (Addr × Obj)} (h : ((hd.heap_39 w.params).lookup a).map (fun o => match o.data with | .func _ => true | _ => false) = some true) : KeepL w (.ref a) led := fun g hh X k _ => keep_fn h g hh X k
/-- _score_to_resp2_bytes(e) -/
theorem Ev.resp2 {g : Heap} {outer : List Env} {frs : List (Addr × Obj)} {L : Addr} {m : Str → Option Value} {env cenv : Env} {e : Expr} {dp un : Nat} {gd : Option (List Code)} {pf pos : Pos} {q : Int} (hq : Qok q)
    (hf : ∀ (frs₁ : List (Addr × Obj)) (s : Shared) (Q : Value → Shared → Prop), At g outer frs₁ L m led s.heap → Q (.ref 61) s → wpAny (model PG w) (aT none dp un gd (env :: outer)) (eval (.Name "_score_to_resp2_bytes" pf) cenv) Q NE s)
    (ha : Ev w (aT none dp un gd (env :: outer)) g outer frs L m led cenv e fun x => ∃ u, u ≠ 0 ∧ x = .float (F4 q) u) (G : Gd w p loose mean mg mb g) (he : env.frame = some L)
    (hke : env.scope.kind = .function) (hd : dp + 1 < recursionLimit) (hu : un + 20 < cLine) (hse : starEach [e] cenv = [(false, eval e cenv)] := by rfl) :
    Ev w (aT none dp un gd (env :: outer)) g outer frs L m led cenv (.Call (.Name "_score_to_resp2_bytes" pf) [e] [] pos) (fun r => ∃ u, r = .bytes (Wt q) u) := by
  intro frs₁ s Q S Z htk k
  refine c_Call1 (hf frs₁ s _ Z ?_) hse rfl
  refine c_spliced_cons (ha frs₁ s _ S Z htk fun x h' tk' frs' S' Z' hx htk' => ?_)
  obtain ⟨u, hu0, rfl⟩ := hx
  refine c_spliced_nil ⟨keepL_fn (led := led) (fn61 w) g _ G.X Z'.F.keep Z'.toks, ?_⟩
  refine resp2_ct hq none dp un gd env outer frs' g L m _ _ _ (.inr rfl) G Z' he hke (by omega) (by omega) htk' fun r led' h₂ tk₂ frs₂ S₂ Z₂ P t₂ => ?_
  obtain ⟨hr, rfl⟩ := P
  exact k r h₂ tk₂ frs₂ (S'.trans S₂) Z₂ hr t₂

theorem rank_unified_ct {way : Nat} {a : Addr} {v0 : Value} {t0 : T} {q : Int} {u : Tok} {ps : Array Value} (hq : Qok q) (hl : Lg ps led) (h2 : Two led a v0 (.bytes (Wt q) u)) (h0 : Rep led v0 t0) (H : Asked kw way) (hc : valueAt kw ("withscore" : Str) = some (.bool true)) :
    Ct false w p loose mean mg mb (.ref 92) [.ref a] kw 5 ((16, tabObj ps) :: led) (PostG led fun r l => Rep l r (.lst [t0, newT way q])) := by
  (refine fill_aux ?_; k_fill; intro _ _)
  refine' ct_opts ?ho ?hcd ?P H.nd H.nr H.sz (by decide) ?k1 ?k2 ?hnd ?hco ?hgen ?hk ?h
  ( (case ho => k_is); (case hcd => k_is); (case P => exact ⟨rfl, rfl, rfl, rfl, rfl⟩); (case k1 => rfl); (case k2 => rfl); (case hnd => decide); (case hco => rfl); (case hgen => rfl); (case hk => rfl))
  refine body_opts hl fun dp un gd outer frs g L D o cells s G Z hl hsm hdo Y lo hd hu htk => ?_
  cases Y
  have hs0 : ∀ q ∈ led, q ∈ (D, o) :: led := fun q hq => .tail _ hq
  refine c_execs_cons (.any (guard_k (led := (D, o) :: led) (b := true) (c := true) ⟨rfl, rfl, optM_opt, .head _, hdo, hsm⟩ Z.F.ns (Z.perm fun q hq => .tail _ hq).news optM_resp (h2.tru.mono hs0) rfl hc (fun tk htk' => ?_) (by decide)))
  refine c_execs_cons (c_wrapLocal (p := p) (loose := loose) (mean := mean) (mg := mg) (mb := mb) (led := (D, o) :: led) (s := { s with toks := tk }) H.w3 G Z hl ⟨rfl, rfl, optM_opt, .head _, hdo, hsm⟩ H.sc rfl rfl rfl (by omega) (by omega) (Nat.lt_of_lt_of_le htk htk') (by decide) rfl fun f h₁ tk₁ frs₁ ps₁ led₁ S₁ Z₁ hl₁ hs₁ hc₁ ht₁ => ?_)
  have h2' := (h2.mono hs0).mono (led' := (16, tabObj ps₁) :: led₁) fun q hq => .tail _ (hs₁ q hq)
  have hE := hc₁.all.mono (led' := (16, tabObj ps₁) :: led₁) fun q hq => .tail _ hq
  refine c_ends (s := s) S₁ (rank_tail (led := led) (led₁ := led₁) hl₁ (fun q hq => hs₁ q (hs0 q hq)) Z₁ ht₁ (h2'.sub0 (Pv := fun x => Rep led x t0) h0 rfl rfl rfl rfl) ?_)
  refine Ev.call (f := f) (d := 3) (Pa := fun x => ∃ u, u ≠ 0 ∧ x = .float (F4 q) u) (fun frs₂ s₂ Q Z₂ k => n_local Z₂.F.ns (if_pos rfl) k rfl rfl) hE.keep (Ev.float hq (fun frs₂ s₂ Q Z₂ k => nB Z₂.F G.X (topRead_of G.T) (nfloat w) (by decide +kernel) (by decide) k rfl rfl rfl rfl) (h2'.sub1 (.inl ⟨u, rfl⟩) rfl rfl rfl rfl)) (fun x hx => by obtain ⟨u, hu, rfl⟩ := hx; exact hE.flt _ (fun _ y => y) q u hq hu) G rfl rfl (by omega) (by omega)
theorem rank_legacy_ct {way : Nat} {a : Addr} {v0 : Value} {t0 : T} {q : Int} {u : Tok} {ps : Array Value} (hq : Qok q) (hu0 : u ≠ 0) (hl : Lg ps led) (h2 : Two led a v0 (.float (F4 q) u)) (h0 : Rep led v0 t0) (H : Asked kw way) (hc : valueAt kw ("withscore" : Str) = some (.bool true)) :
    Ct false w p loose mean mg mb (.ref 80) [.ref a] kw 5 ((16, tabObj ps) :: led) (PostG led fun r l => Rep l r (.lst [t0, eldT way q])) := by
  (refine fill_aux ?_; k_fill; intro _ _)
  refine' ct_opts ?ho ?hcd ?P H.nd H.nr H.sz (by decide) ?k1 ?k2 ?hnd ?hco ?hgen ?hk ?h
  ( (case ho => k_is); (case hcd => k_is); (case P => exact ⟨rfl, rfl, rfl, rfl, rfl⟩); (case k1 => rfl); (case k2 => rfl); (case hnd => decide); (case hco => rfl); (case hgen => rfl); (case hk => rfl))
  refine body_opts hl fun dp un gd outer frs g L D o cells s G Z hl hsm hdo Y lo hd hu htk => ?_
  cases Y
  have hs0 : ∀ q ∈ led, q ∈ (D, o) :: led := fun q hq => .tail _ hq
  refine c_execs_cons (.any (guard_k (led := (D, o) :: led) (b := true) (c := true) ⟨rfl, rfl, optM_opt, .head _, hdo, hsm⟩ Z.F.ns (Z.perm fun q hq => .tail _ hq).news optM_resp (h2.tru.mono hs0) rfl hc (fun tk htk' => ?_) (by decide)))
  refine c_execs_cons (c_wrapLocal (p := p) (loose := loose) (mean := mean) (mg := mg) (mb := mb) (led := (D, o) :: led) (s := { s with toks := tk }) H.w3 G Z hl ⟨rfl, rfl, optM_opt, .head _, hdo, hsm⟩ H.sc rfl rfl rfl (by omega) (by omega) (Nat.lt_of_lt_of_le htk htk') (by decide) rfl fun f h₁ tk₁ frs₁ ps₁ led₁ S₁ Z₁ hl₁ hs₁ hc₁ ht₁ => ?_)
  have h2' := (h2.mono hs0).mono (led' := (16, tabObj ps₁) :: led₁) fun q hq => .tail _ (hs₁ q hq)
  have hE := hc₁.all.mono (led' := (16, tabObj ps₁) :: led₁) fun q hq => .tail _ hq
  refine c_ends (s := s) S₁ (rank_tail (led := led) (led₁ := led₁) hl₁ (fun q hq => hs₁ q (hs0 q hq)) Z₁ ht₁ (h2'.sub0 (Pv := fun x => Rep led x t0) h0 rfl rfl rfl rfl) ?_)
  refine Ev.call (f := f) (d := 3) (Pa := fun x => ∃ u, x = .bytes (Wt q) u) (fun frs₂ s₂ Q Z₂ k => n_local Z₂.F.ns (if_pos rfl) k rfl rfl) hE.keep (Ev.resp2 (mean := mean) hq (fun frs₂ s₂ Q Z₂ k => nG Z₂.F G.X (topRead_of G.T) (n61 w) k rfl rfl rfl) (h2'.sub1 ⟨u, hu0, rfl⟩ rfl rfl rfl rfl) G rfl rfl (by omega) (by omega)) (fun x hx => by obtain ⟨u, rfl⟩ := hx; exact hE.byt _ (fun _ y => y) q u hq) G rfl rfl (by omega) (by omega)
theorem rank_resp3_ct {way : Nat} {a : Addr} {v0 : Value} {t0 : T} {q : Int} {u : Tok} {ps : Array Value} (hq : Qok q) (hu0 : u ≠ 0) (hl : Lg ps led) (h2 : Two led a v0 (.float (F4 q) u)) (h0 : Rep led v0 t0) (H : Asked kw way) (hc : valueAt kw ("withscore" : Str) = some (.bool true)) :
    Ct false w p loose mean mg mb (.ref 54) [.ref a] kw 5 ((16, tabObj ps) :: led) (PostG led fun r l => Rep l r (.lst [t0, newT way q])) := by
  (refine fill_aux ?_; k_fill; intro _ _)
  refine' ct_opts ?ho ?hcd ?P H.nd H.nr H.sz (by decide) ?k1 ?k2 ?hnd ?hco ?hgen ?hk ?h
  ( (case ho => k_is); (case hcd => k_is); (case P => exact ⟨rfl, rfl, rfl, rfl, rfl⟩); (case k1 => rfl); (case k2 => rfl); (case hnd => decide); (case hco => rfl); (case hgen => rfl); (case hk => rfl))
  refine body_opts hl fun dp un gd outer frs g L D o cells s G Z hl hsm hdo Y lo hd hu htk => ?_
  cases Y
  have hs0 : ∀ q ∈ led, q ∈ (D, o) :: led := fun q hq => .tail _ hq
  refine c_execs_cons (.any (guard_k (led := (D, o) :: led) (b := true) (c := true) ⟨rfl, rfl, optM_opt, .head _, hdo, hsm⟩ Z.F.ns (Z.perm fun q hq => .tail _ hq).news optM_resp (h2.tru.mono hs0) rfl hc (fun tk htk' => ?_) (by decide)))
  refine c_execs_cons (c_rawLocal (p := p) (loose := loose) (mean := mean) (mg := mg) (mb := mb) (led := (16, tabObj ps) :: (D, o) :: led) (s := { s with toks := tk }) G Z ⟨rfl, rfl, optM_opt, .tail _ (.head _), hdo, hsm⟩ H.sc rfl rfl (Nat.lt_of_lt_of_le htk htk') (by decide) rfl fun h₁ tk₁ Z₁ ht₁ => ?_)
  have h2' := (h2.mono hs0).mono (led' := (16, tabObj ps) :: (D, o) :: led) fun q hq => .tail _ hq
  have hE : CasN w p loose mean mg mb way (fv way) ((16, tabObj ps) :: (D, o) :: led) := casN_raw way H.w3
  refine rank_tail (s := { s with heap := h₁, toks := tk₁ }) (led := led) (led₁ := (D, o) :: led) hl (fun q hq => hs0 q hq) Z₁ ht₁ (h2'.sub0 (Pv := fun x => Rep led x t0) h0 rfl rfl rfl rfl) ?_
  refine Ev.call (f := fv way) (d := 3) (Pa := fun x => x = .float (F4 q) u) (fun frs₂ s₂ Q Z₂ k => n_local Z₂.F.ns (if_pos rfl) k rfl rfl) hE.keep (h2'.sub1 rfl rfl rfl rfl rfl) (fun x hx => by subst hx; exact hE.flt _ (fun _ y => y) q u hq hu0) G rfl rfl (by omega) (by omega)
end
end Mine
end
section
open PySem PySem.W PyProof.Rows PySem.Calls PySem.Flt
open PyProof.Rows.TI (Frs SameUp)
open PyProof.Rows.LCg (lst NsObj)
set_option maxRecDepth 100000
set_option maxHeartbeats 400000
namespace Mine
section
variable {w : World} {p : Program} {loose : List Str} {mean : ExcName → Option Value} {mg mb : Str → Option Value} {A : Around} {g : Heap} {outer : List Env} {frs : List (Addr × Obj)} {L : Addr} {m : Str → Option Value} {led : List (Addr × Obj)} {env cenv : Env} {e e1 e2 elt iter : Expr} {Pv Pa : Value → Prop} {s : Shared} {scope : Scope} {cl : List (Str × Addr)}
theorem Ev.up {frs₁ : List (Addr × Obj)} (x : Ev w A g outer frs L m led cenv e Pv) (S : SameUp frs frs₁) : Ev w A g outer frs₁ L m led cenv e Pv := fun frs₂ s Q S₂ => x frs₂ s Q (S.trans S₂)
theorem Ev.weak {Pw : Value → Prop} (x : Ev w A g outer frs L m led cenv e Pv) (h : ∀ v, Pv v → Pw v) : Ev w A g outer frs L m led cenv e Pw := fun frs₂ s Q S₂ Z k q => x frs₂ s Q S₂ Z k fun r h' tk' frs' S' Z' P => q r h' tk' frs' S' Z' (h r P)
/-- an expression in the element -/
abbrev EvC (w : World) (A : Around) (g : Heap) (outer : List Env) (frs : List (Addr × Obj)) (L : Addr) (m : Str → Option Value) (env : Env) (scope : Scope) (cl : List (Str × Addr)) (led : List (Addr × Obj)) (P : (Str → Option Value) → Prop) (e : Expr) (Pv : Value → Prop) : Prop :=
  ∀ (X : List (Addr × Obj)) (C : Addr) (oC : Obj) (m₂ : Str → Option Value), (∀ q ∈ led, q ∈ X) → (C, oC) ∈ X → NsObj oC m₂ → P m₂ → Ev w A g outer frs L m X (compEnvC scope cl C env) e Pv
theorem elt_list2 {pos : Pos} {P : (Str → Option Value) → Prop} {t1 t2 : T} (h1 : EvC w A g outer frs L m env scope cl led P e1 fun r => Rep led r t1) (h2 : EvC w A g outer frs L m env scope cl led P e2 fun r => Rep led r t2)
    (hse : ∀ cenv, starEach [e1, e2] cenv = [(false, eval e1 cenv), (false, eval e2 cenv)] := by intro _; rfl) : EltK PG w A g outer frs L m env (.List [e1, e2] pos) scope cl s led P (.lst [t1, t2]) := by
  intro X data frs₁ C oC m₂ h tk hld hdX S Z hC hN hP htk
  have sub : ∀ q ∈ led, q ∈ X := fun q hq => hdX q (hld q hq)
  refine ev_list2 (data := data) (t1 := t1) (t2 := t2) (s := { s with heap := h, toks := tk }) (((h1 X C oC m₂ sub hC hN hP).up S).weak fun r hr => hr.mono hld) (((h2 X C oC m₂ sub hC hN hP).up S).weak fun r hr => hr.mono hld) Z htk (fun D o h' tk' frs' S' Z' ne R k => ?_) (hse _)
  exact ⟨h', tk', [(D, o)], frs', rfl, S', Z', fun q hq y hy => by rw [List.mem_singleton.mp hq]; exact ne y hy, R, k⟩
theorem elt_tuple2 {x0} {pos : Pos} {P : (Str → Option Value) → Prop} {t1 t2 : T} (h1 : EvC w A g outer frs L m env scope cl led P e1 fun r => Rep led r t1) (h2 : EvC w A g outer frs L m env scope cl led P e2 fun r => Rep led r t2)
    (hse : ∀ cenv, starEach [e1, e2] cenv = [(false, eval e1 cenv), (false, eval e2 cenv)] := by intro _; rfl) : EltK PG w A g outer frs L m env (.Tuple [e1, e2] x0 pos) scope cl s led P (.tup [t1, t2]) := by
  intro X data frs₁ C oC m₂ h tk hld hdX S Z hC hN hP htk
  have sub : ∀ q ∈ led, q ∈ X := fun q hq => hdX q (hld q hq)
  refine ev_tuple2 (data := data) (t1 := t1) (t2 := t2) (s := { s with heap := h, toks := tk }) (((h1 X C oC m₂ sub hC hN hP).up S).weak fun r hr => hr.mono hld) (((h2 X C oC m₂ sub hC hN hP).up S).weak fun r hr => hr.mono hld) Z htk (fun D o h' tk' frs' S' Z' ne R k => ?_) (hse _)
  exact ⟨h', tk', [(D, o)], frs', rfl, S', Z', fun q hq y hy => by rw [List.mem_singleton.mp hq]; exact ne y hy, R, k⟩
/-- an element that makes nothing -/
theorem elt_ev {P : (Str → Option Value) → Prop} {t : T} (h1 : EvC w A g outer frs L m env scope cl led P e fun r => Rep led r t) : EltK PG w A g outer frs L m env e scope cl s led P t := by
  intro X data frs₁ C oC m₂ h tk hld hdX S Z hC hN hP htk
  refine h1 X C oC m₂ (fun q hq => hdX q (hld q hq)) hC hN hP frs₁ { s with heap := h, toks := tk } _ S Z htk fun r h' tk' frs' S' Z' R k => ?_
  exact ⟨h', tk', [], frs', rfl, S', Z', fun q hq => absurd hq List.not_mem_nil, R.mono hld, k⟩
/-- a target's name -/
theorem Ev.cvar {x : Str} {pos : Pos} {P : (Str → Option Value) → Prop} {v : Value} (hx : ∀ m₂, P m₂ → m₂ x = some v) (hv : Pv v) (hk : scope.kind = .function) (hl : scope.names.lookup x = some .local) (hd : (x == ("__debug__" : Str)) = false := by decide) :
    EvC w A g outer frs L m env scope cl led P (.Name x pos) Pv := fun X C oC m₂ _ hC hN hP =>
  Ev.leaf (fun frs₁ s Q Z htk k => n_local (hN.ns (Z.toks _ hC)) (hx m₂ hP) (k _ (Nat.le_refl _)) hk (lookup_relabel_local hl) hd) hv

/-- a list of pairs -/
structure PairsAt (led : List (Addr × Obj)) (a : Addr) (n : Nat) (v₁ v₂ : Nat → Value) : Prop where
  of : ∃ (oa : Obj) (k : Nat) (its : List Value) (pr : Nat → Addr) (pf : Nat → Obj), (a, oa) ∈ led ∧ oa.cls = .type "list" ∧ oa.data = .seq its.toArray k ∧ its.length = n ∧ ∀ i, (h : i < its.length) → its[i] = .ref (pr i) ∧ (pr i, pf i) ∈ led ∧ (((pf i).cls = .type "list" ∨ (pf i).cls = .type "tuple") ∧ ∃ k, (pf i).data = .seq #[v₁ i, v₂ i] k)
theorem PairsAt.mono {a : Addr} {n : Nat} {v₁ v₂ : Nat → Value} {led' : List (Addr × Obj)} (x : PairsAt led a n v₁ v₂) (hs : ∀ q ∈ led, q ∈ led') : PairsAt led' a n v₁ v₂ := by
  obtain ⟨oa, k, its, pr, pf, h1, h2, h3, h4, h5⟩ := x.of
  exact ⟨oa, k, its, pr, pf, hs _ h1, h2, h3, h4, fun i h => ⟨(h5 i h).1, hs _ (h5 i h).2.1, (h5 i h).2.2⟩⟩
theorem PairsAt.tru {a : Addr} {n : Nat} {v₁ v₂ : Nat → Value} (x : PairsAt led a n v₁ v₂) (hn : n < 2 ^ 62) : Tru w led (.ref a) (n != 0) := by
  obtain ⟨oa, k, its, pr, pf, h1, h2, h3, h4, h5⟩ := x.of
  have := tru_lst (w := w) h1 h2 h3 (by rw [h4]; exact hn)
  subst h4
  cases its <;> exact this
theorem rep_pairs {v : Value} {n : Nat} {t1 t2 : Nat → T} {tp : List T → T} (htp : tp = T.lst ∨ tp = T.tup) (h : Rep led v (.lst ((List.range n).map fun i => tp [t1 i, t2 i]))) : ∃ a v₁ v₂, v = .ref a ∧ PairsAt led a n v₁ v₂ ∧ ∀ i, i < n → Rep led (v₁ i) (t1 i) ∧ Rep led (v₂ i) (t2 i) := by
  cases h with
  | lst hm hc hd hr =>
    rename_i a o its k
    have hlen : its.length = n := by have := hr.length; simpa using this
    have each : ∀ i, ∃ y : Addr × Obj × Value × Value, i < its.length → its[i]? = some (Value.ref y.1) ∧ (y.1, y.2.1) ∈ led ∧ ((y.2.1.cls = .type "list" ∨ y.2.1.cls = .type "tuple") ∧ ∃ k, y.2.1.data = .seq #[y.2.2.1, y.2.2.2] k) ∧ Rep led y.2.2.1 (t1 i) ∧ Rep led y.2.2.2 (t2 i) := by
      intro i
      by_cases hi : i < its.length
      · have g := hr.get i hi (by simpa [hlen] using hi)
        simp only [List.getElem_map, List.getElem_range] at g
        have e : its[i]? = some its[i] := List.getElem?_eq_getElem hi
        generalize its[i] = y at g e
        rcases htp with rfl | rfl
        · cases g with
          | lst m1 c1 d1 r1 =>
            rename_i pa po vs k'
            cases r1 with | cons ra r2 => cases r2 with | cons rb r3 => cases r3 with | nil => exact ⟨(pa, po, _, _), fun _ => ⟨e, m1, ⟨.inl c1, k', d1⟩, ra, rb⟩⟩
        · cases g with
          | tup m1 c1 d1 r1 =>
            rename_i pa po vs k'
            cases r1 with | cons ra r2 => cases r2 with | cons rb r3 => cases r3 with | nil => exact ⟨(pa, po, _, _), fun _ => ⟨e, m1, ⟨.inr c1, k', d1⟩, ra, rb⟩⟩
      · exact ⟨(a, o, .none, .none), fun h => absurd h hi⟩
    obtain ⟨F, H⟩ := Classical.axiomOfChoice each
    refine ⟨a, fun i => (F i).2.2.1, fun i => (F i).2.2.2, rfl, ⟨o, k, its, fun i => (F i).1, fun i => (F i).2.1, hm, hc, hd, hlen, fun i hi => ?_⟩, fun i hi => ?_⟩
    · obtain ⟨h1, h2, h3, _⟩ := H i hi
      rw [List.getElem?_eq_getElem hi] at h1
      exact ⟨Option.some.inj h1, h2, h3⟩
    · obtain ⟨_, _, _, h4, h5⟩ := H i (hlen ▸ hi)
      exact ⟨h4, h5⟩
/-- a comprehension over a list of pairs -/
theorem comp_pairs {na nb : Str} {pa pb tp pos : Pos} {kk n : Nat} {a : Addr} {v₁ v₂ : Nat → Value} {ts : Nat → T} {Q : Value → Shared → Prop} (hh : A.handled = none) (hab : na ≠ nb) (x : PairsAt led a n v₁ v₂) (Z : At g outer frs L m led s.heap) (htk : 0 < s.toks)
    (hclos : closureFor scope env = pure cl) (hcell : ∀ y ∈ scope.names, y.2 ≠ .cell) (hkind : scope.kind = .function) (hnames : ∀ y ∈ scope.names, y.2 = .local → scope.names.lookup y.1 = some .local) (hloc : ∀ y ∈ [na, nb], scope.names.lookup y = some .local) (hsz : n ≤ 1000)
    (hit : ∀ Q : Value → Shared → Prop, (∀ tk, s.toks ≤ tk → Q (.ref a) { s with toks := tk }) → wpAny (model PG w) A (eval iter env) Q NE s)
    (helt : ∀ i, i < n → EltK PG w A g outer frs L m env elt scope cl s led (fun m₂ => m₂ na = some (v₁ i) ∧ m₂ nb = some (v₂ i)) (ts i))
    (hQ : ∀ D h tk ys new frs', SameUp frs frs' → At g outer frs' L m ((D, lst ys) :: (new ++ led)) h → (∀ p ∈ (D, lst ys) :: new, ∀ q ∈ led, p.1 ≠ q.1) → Reps (new ++ led) ys ((List.range n).map ts) → 0 < tk → Q (.ref D) { s with heap := h, toks := tk })
    (hs : ∀ x, foldedSetIterable iter env x = pure x := by intro _; rfl) :
    wpC (model PG w) A (eval (.ListComp elt [⟨.Tuple [.Name na pa, .Name nb pb] kk tp, iter, [], 0⟩] scope pos) env) Q NE s := by
  obtain ⟨oa, k, its, pr, pf, h1, h2, h3, h4, h5⟩ := x.of
  refine k_ListComp (g := g) (outer := outer) (frs := frs) (L := L) (m := m) (led := led) (n := n) (ts := ts) hclos hcell hkind hnames (Nat.le_trans hsz (by rw [sizeLine_eq]; decide)) (.any (hit _ fun tk htk' => ?_)) hs
  have gm : ∀ q ∈ led, s.heap.get? q.1 = some q.2 := Z.toks
  refine wpAny_pyIter_list (s := { s with toks := tk }) (items := its.toArray) ⟨oa, gm _ h1, h2, k, h3⟩ ?_
  refine ⟨?_, fun D h tk ys new frs' S' Z' o1 o2 R k => hQ D h tk ys new frs' S' Z' o1 R k⟩
  have lt : ∀ q ∈ led, q.1 < s.heap.objs.size := fun q hq => Heap.lt_size (gm q hq)
  subst h4
  refine ⟨s.heap.objs.size, _, _, _, _, _, rfl, src_pairs (kk := kk) hh hab s.heap.objs.size a its pr v₁ v₂ pf (Nat.ne_of_lt (lt _ h1)) (fun i hi => Nat.ne_of_lt (lt _ (h5 i hi).2.1)) (fun i hi => (h5 i hi).1) (fun i hi => (h5 i hi).2.2), hloc, ⟨?_, ?_, fun j hj => ?_⟩, fun b hb => ?_, ?_, fun q hq hw => ?_, Nat.lt_of_lt_of_le htk htk', helt⟩
  · exact ⟨_, Heap.get?_push_size _ rfl, rfl, rfl⟩
  · exact ⟨oa, Heap.get?_push_of_some _ (gm _ h1), h2, k, h3⟩
  · exact Heap.get?_push_of_some _ (gm _ (h5 j hj).2.1)
  · have mem : ∀ q ∈ led, (∃ o, (s.heap.push { cls := .type "list_iterator", dict := none, data := .fields #[.ref a, .int 0 0] }).get? q.1 = some o) ∧ q.1 ≠ L ∧ g.get? q.1 = none ∧ ∀ y ∈ frs, q.1 ≠ y.1 := fun q hq =>
      ⟨⟨_, Heap.get?_push_of_some _ (gm q hq)⟩, (Z.N q (List.mem_append_left _ hq)).2.1, (Z.N q (List.mem_append_left _ hq)).2.2, Z.ap q hq⟩
    rcases List.mem_cons.mp hb with rfl | hb
    · exact ⟨⟨_, Heap.get?_push_size _ rfl⟩, Nat.ne_of_gt Z.F.ns.lt, Heap.get?_none_of_le (Nat.le_trans Z.F.above (Nat.le_of_lt Z.F.ns.lt)), fun y hy => Nat.ne_of_gt (Heap.lt_size (Z.N y (List.mem_append_right _ hy)).1)⟩
    · rcases List.mem_cons.mp hb with rfl | hb
      · exact mem _ h1
      · obtain ⟨j, hj, rfl⟩ := List.mem_map.mp hb
        exact mem _ (h5 j (List.mem_range.mp hj)).2.1
  · exact (Z.push { cls := .type "list_iterator", dict := none, data := .fields #[.ref a, .int 0 0] }).perm fun q hq => .tail _ hq
  · exact Nat.ne_of_lt (lt q hq) (List.mem_singleton.mp hw)
end
end Mine
end
section
open PySem PySem.W PyProof.Rows PySem.Calls PySem.Flt
open PyProof.Rows.TI (Frs SameUp)
open PyProof.Rows.LCg (lst NsObj)
set_option maxRecDepth 100000
set_option maxHeartbeats 400000
namespace Mine
section
variable {w : World} {p : Program} {loose : List Str} {mean : ExcName → Option Value} {mg mb : Str → Option Value} {A : Around} {g : Heap} {outer : List Env} {frs : List (Addr × Obj)} {L : Addr} {m : Str → Option Value} {led led₁ : List (Addr × Obj)} {env cenv : Env} {e e1 e2 elt iter : Expr} {Pv Pa : Value → Prop} {s : Shared} {scope : Scope} {cl : List (Str × Addr)} {kw : List (Str × Value)} {ps : Array Value}
theorem ends_same {tk : Tok} {P : Value → List (Addr × Obj) → Prop} {v : Value} (hl : Lg ps led₁) (hs : ∀ q ∈ led, q ∈ led₁) (Z : At g outer frs L m ((16, tabObj ps) :: led₁) s.heap) (htk : 0 < tk) (hP : P v led₁) : Ends g outer frs L s (PostG led P) (.ret v) { s with toks := tk } :=
  ⟨s.heap, tk, m, _, frs, rfl, SameUp.refl _, Z, htk, ps, _, rfl, hl, hs, hP⟩
/-- what a comprehension makes, given back -/
theorem ends_comp {D : Addr} {h' : Heap} {tk' : Tok} {frs' : List (Addr × Obj)} {P : Value → List (Addr × Obj) → Prop} {o : Obj} {new : List (Addr × Obj)} (hl : Lg ps led₁) (hs : ∀ q ∈ led, q ∈ led₁) (S : SameUp frs frs') (Z : At g outer frs' L m ((D, o) :: (new ++ (16, tabObj ps) :: led₁)) h')
    (ne : ∀ y ∈ (D, o) :: new, ∀ q ∈ (16, tabObj ps) :: led₁, y.1 ≠ q.1) (htk : 0 < tk') (hP : P (.ref D) ((D, o) :: new ++ led₁)) : Ends g outer frs L s (PostG led P) (.ret (.ref D)) { s with heap := h', toks := tk' } := by
  refine ⟨h', tk', m, _, frs', rfl, S, Z.perm (led' := (16, tabObj ps) :: ((D, o) :: new ++ led₁)) fun q hq => ?_, htk, ps, _, rfl, Lg.more hl fun q hq => ne q hq _ (.head _), fun q hq => List.mem_append_right _ (hs q hq), hP⟩
  rcases List.mem_cons.mp hq with rfl | hq
  · exact .tail _ (List.mem_append_right _ (.head _))
  · rcases List.mem_append.mp hq with hq | hq
    · rcases List.mem_cons.mp hq with rfl | hq
      · exact .head _
      · exact .tail _ (List.mem_append_left _ hq)
    · exact .tail _ (List.mem_append_right _ (.tail _ hq))
mutual
theorem Rep.strip {l l' : List (Addr × Obj)} {q0 : Addr × Obj} (h1 : q0.2.cls ≠ .type "list") (h2 : q0.2.cls ≠ .type "tuple") (hs : ∀ p ∈ l, p = q0 ∨ p ∈ l') : ∀ {v : Value} {t : T}, Rep l v t → Rep l' v t
  | _, _, .none => .none
  | _, _, .int i t => .int i t
  | _, _, .flt f t z h => .flt f t z h
  | _, _, .by b t => .by b t
  | _, _, .tup h c d r => .tup ((hs _ h).resolve_left fun e => h2 (by rw [← e]; exact c)) c d (Reps.strip h1 h2 hs r)
  | _, _, .lst h c d r => .lst ((hs _ h).resolve_left fun e => h1 (by rw [← e]; exact c)) c d (Reps.strip h1 h2 hs r)
theorem Reps.strip {l l' : List (Addr × Obj)} {q0 : Addr × Obj} (h1 : q0.2.cls ≠ .type "list") (h2 : q0.2.cls ≠ .type "tuple") (hs : ∀ p ∈ l, p = q0 ∨ p ∈ l') : ∀ {vs : List Value} {ts : List T}, Reps l vs ts → Reps l' vs ts
  | _, _, .nil => .nil
  | _, _, .cons h r => .cons (Rep.strip h1 h2 hs h) (Reps.strip h1 h2 hs r)
end
theorem rep_flt {v : Value} {F : UInt64} (h : Rep led v (.flt F)) : ∃ u, u ≠ 0 ∧ v = .float F u := by
  cases h with
  | flt _ u z hz => exact ⟨u, z, rfl⟩
theorem rep_by {v : Value} {b : Array UInt8} (h : Rep led v (.by b)) : ∃ u, v = .bytes b u := by
  cases h
  exact ⟨_, rfl⟩
theorem rep_comp {D : Addr} {ys : List Value} {new : List (Addr × Obj)} {ts : List T} (R : Reps (new ++ (16, tabObj ps) :: led₁) ys ts) : Rep ((D, lst ys) :: new ++ led₁) (.ref D) (.lst ts) :=
  .lst (.head _) rfl rfl (Reps.strip (q0 := (16, tabObj ps)) (fun h => nomatch h) (fun h => nomatch h) (fun q hq => by
    rcases List.mem_append.mp hq with hq | hq
    · exact .inr (List.mem_append_left _ (.tail _ hq))
    · rcases List.mem_cons.mp hq with rfl | hq
      · exact .inl rfl
      · exact .inr (List.mem_append_right _ hq)) R)

theorem pairs_legacy_ct {way n : Nat} {v : Value} {t1 : Nat → T} {q : Nat → Int} (hn : n ≤ 1000) (hq : ∀ i, Qok (q i)) (hl : Lg ps led) (h : Rep led v (.lst ((List.range n).map fun i => .lst [t1 i, .flt (F4 (q i))]))) (H : Asked kw way) (hc : valueAt kw ("withscores" : Str) = some (.bool true)) :
    Ct false w p loose mean mg mb (.ref 66) [v] kw 5 ((16, tabObj ps) :: led) (PostG led fun r l => Rep l r (.lst ((List.range n).map fun i => .tup [t1 i, eldT way (q i)]))) := by
  (refine fill_aux ?_; k_fill; intro _ _)
  obtain ⟨a, v₁, v₂, rfl, PA, hv⟩ := rep_pairs (tp := T.lst) (.inl rfl) h
  refine' ct_opts ?ho ?hcd ?P H.nd H.nr H.sz (by decide) ?k1 ?k2 ?hnd ?hco ?hgen ?hk ?h
  ( (case ho => k_is); (case hcd => k_is); (case P => exact ⟨rfl, rfl, rfl, rfl, rfl⟩); (case k1 => rfl); (case k2 => rfl); (case hnd => decide); (case hco => rfl); (case hgen => rfl); (case hk => rfl))
  refine body_opts hl fun dp un gd outer frs g L D o cells s G Z hl hsm hdo Y lo hd hu htk => ?_
  obtain ⟨oC, rfl, hoC⟩ := CellsAre.one Y
  have hs0 : ∀ q ∈ led, q ∈ (L + 1, oC) :: (D, o) :: led := fun q hq => .tail _ (.tail _ hq)
  refine c_execs_cons (.any (guard_k (led := (L + 1, oC) :: (D, o) :: led) (b := n != 0) (c := true) ⟨rfl, rfl, optM_opt, .tail _ (.head _), hdo, hsm⟩ Z.F.ns (Z.perm fun q hq => .tail _ hq).news optM_resp ((PA.tru (by omega)).mono hs0) rfl hc (fun tk htk' => ?_) (by decide)))
  by_cases hn0 : n = 0
  · subst hn0
    exact ends_same hl hs0 Z (Nat.lt_of_lt_of_le htk htk') (h.mono hs0)
  · rw [show ((n != 0) && true) = true by simp [hn0]]
    refine c_execs_cons (c_wrapCell (p := p) (loose := loose) (mean := mean) (mg := mg) (mb := mb) (led := (D, o) :: led) (s := { s with toks := tk }) H.w3 G Z hl ⟨rfl, rfl, optM_opt, .head _, hdo, hsm⟩ hoC (lo (L + 1, oC) (.head _)) rfl H.sc rfl rfl rfl (by omega) (by omega) (Nat.lt_of_lt_of_le htk htk') (by decide) rfl fun f h₁ tk₁ frs₁ ps₁ led₁ oC' S₁ Z₁ hl₁ hs₁ hoC' hc₁ ht₁ => ?_)
    have sub1 : ∀ q ∈ led, q ∈ (L + 1, oC') :: led₁ := fun q hq => .tail _ (hs₁ q (.tail _ hq))
    have sub2 : ∀ q ∈ led, q ∈ (16, tabObj ps₁) :: (L + 1, oC') :: led₁ := fun q hq => .tail _ (sub1 q hq)
    refine c_ends (s := s) S₁ (c_execs_cons (c_Return (comp_pairs (s := { s with heap := h₁, toks := tk₁ }) rfl (by decide) (PA.mono sub2) Z₁ ht₁ rfl (by decide) rfl (by decide) (by decide) hn (fun Q k => n_local Z₁.F.ns rfl (k _ (Nat.le_refl _)) rfl rfl)
      (ts := fun i => .tup [t1 i, eldT way (q i)]) (fun i hi => ?_) (fun D' h₂ tk₂ ys new frs₂ S₂ Z₂ ne R k₂ => ?_))))
    · have hE := hc₁.mono (led' := (16, tabObj ps₁) :: (L + 1, oC') :: led₁) fun q hq => .tail _ (.tail _ hq)
      obtain ⟨r1, r2⟩ := hv i hi
      refine elt_tuple2 (Ev.cvar (P := fun m₂ => m₂ _ = some (v₁ i) ∧ m₂ _ = some (v₂ i)) (fun m₂ hm => hm.1) (r1.mono sub2) rfl rfl) fun X C oX m₂ hX hC hN hP => ?_
      have hE' := hE.mono hX
      refine Ev.weak (Ev.call (f := f) (d := 3) (Pa := fun x => ∃ u, x = .bytes (Wt (q i)) u) (fun frs₂ s₂ Q Z₂ k => n_cell (c := L + 1) ⟨oC', Z₂.toks _ (hX _ (.tail _ (.head _))), hoC'⟩ k rfl rfl rfl) hE'.keep
        (Ev.resp2 (mean := mean) (hq i) (fun frs₂ s₂ Q Z₂ k => nG Z₂.F G.X (topRead_of G.T) (n61 w) k rfl rfl rfl) (Ev.cvar (P := fun m₂ => m₂ _ = some (v₁ i) ∧ m₂ _ = some (v₂ i)) (fun m₂ hm => hm.2) (rep_flt r2) rfl rfl (by decide) X C oX m₂ hX hC hN hP) G rfl rfl (by omega) (by omega))
        (fun x hx => by obtain ⟨u, rfl⟩ := hx; exact hE'.byt _ (fun _ y => y) (q i) u (hq i)) G rfl rfl (by omega) (by omega)) fun v hv => hv.mono fun _ x => absurd x List.not_mem_nil
    · exact ends_comp hl₁ sub1 S₂ Z₂ ne k₂ (rep_comp R)
end
end Mine
end
section
open PySem PySem.W PyProof.Rows PySem.Calls PySem.Flt
open PyProof.Rows.TI (Frs SameUp)
open PyProof.Rows.LCg (lst NsObj)
set_option maxRecDepth 100000
set_option maxHeartbeats 400000
namespace Mine
section
variable {w : World} {p : Program} {loose : List Str} {mean : ExcName → Option Value} {mg mb : Str → Option Value} {A : Around} {g : Heap} {outer : List Env} {frs : List (Addr × Obj)} {L : Addr} {m : Str → Option Value} {led led₁ : List (Addr × Obj)} {env cenv : Env} {e e1 e2 elt iter : Expr} {Pv Pa : Value → Prop} {s : Shared} {scope : Scope} {cl : List (Str × Addr)} {kw : List (Str × Value)} {ps : Array Value}
theorem nlist (w : World) : nsIn (hd.heap_39 w.params) mainGlobals ("list" : Str) = some none := by kernel_rfl
/-- is it a list? -/
inductive IsL (led : List (Addr × Obj)) : Value → Bool → Prop
  | yes {a : Addr} {o : Obj} : (a, o) ∈ led → o.cls = .type "list" → IsL led (.ref a) true
  | no (b : Array UInt8) (u : Tok) : IsL led (.bytes b u) false
theorem kone_yes (w : World) : kitOne (hd.heap_39 w.params) (.type "list") (.type "list") = some true := by kernel_rfl
theorem kone_no (w : World) : kitOne (hd.heap_39 w.params) (.type "bytes") (.type "list") = some false := by kernel_rfl
theorem c_isiList {y : Value} {b : Bool} {p1 p3 p4 p5 : Pos} {body : List Stmt} {Q : Flow → Shared → Prop} (G : Gd w p loose mean mg mb g) (Z : At g outer frs L m led s.heap) (hb : IsL led y b)
    (h0 : ∀ Q : Value → Shared → Prop, (∀ tk, s.toks ≤ tk → Q y { s with toks := tk }) → wpAny (model PG w) A (eval e env) Q NE s)
    (hgl : env.globals = mainGlobals) (hbl : env.builtins = builtinsNs) (hk : env.scope.kind = .function) (ki : env.kindOf ("isinstance" : Str) = some .globalImplicit) (kT : env.kindOf ("list" : Str) = some .globalImplicit) (htk : 0 < s.toks)
    (ht : b = true → ∀ tk, 0 < tk → wpC (model PG w) A (execs body env) Q NE { s with toks := tk }) (hf : b = false → ∀ tk, 0 < tk → Q .next { s with toks := tk })
    (hse : starEach [e, .Name "list" p3] env = [(false, eval e env), (false, eval (.Name "list" p3) env)] := by rfl) :
    wpC (model PG w) A (exec (.If (.Call (.Name "isinstance" p1) [e, .Name "list" p3] [] p4) body [] p5) env) Q NE s := by
  have TR := topRead_of G.T
  refine c_If (.any (isTrue_plain (Call_Name2 (nB Z.F G.X TR (nisi w) (v := .builtin "isinstance") (by decide +kernel) (by decide) ?_ hgl hbl hk ki) hse)))
  refine callWith_builtin rfl (evalArgs_plain (spliced_cons (h0 _ fun tk htk' => ?_)))
  refine spliced_cons (nB (s := { s with toks := tk }) Z.F G.X TR (nlist w) (v := .type "list") (by decide +kernel) (by decide) (spliced_nil ?_) hgl hbl hk kT)
  have hX : (hd.heap_39 w.params).In s.heap := G.X.keeps Z.F.keep
  cases hb with
  | yes hm hc =>
    refine wpAny_tk (n := 1) (Nat.lt_of_lt_of_le htk htk') (kia_one kitx_list hX ⟨_, Z.toks _ hm, hc⟩ (kone_yes w) (fun h => nomatch h) fun tk₂ h₂ => ?_)
    exact wpAny_truthy_bool (ht rfl tk₂ h₂)
  | no b u =>
    refine wpAny_tk (n := 1) (Nat.lt_of_lt_of_le htk htk') (kia_one kitx_bytes hX trivial (kone_no w) (fun h => nomatch h) fun tk₂ h₂ => ?_)
    exact wpAny_truthy_bool (c_execs_nil (hf rfl tk₂ h₂))
/-- one thing made, shown in a list, and given back -/
theorem single_tail {pl pr : Pos} {inner : Expr} {t : T} (hl : Lg ps led₁) (hs : ∀ q ∈ led, q ∈ led₁)
    (hin : ∀ Q : Value → Shared → Prop, (∀ D o h' tk' frs', SameUp frs frs' → At g outer frs' L m ((D, o) :: (16, tabObj ps) :: led₁) h' → (∀ q ∈ (16, tabObj ps) :: led₁, D ≠ q.1) → Rep ((D, o) :: led₁) (.ref D) t → 0 < tk' → Q (.ref D) { s with heap := h', toks := tk' }) → wpC (model PG w) A (eval inner env) Q NE s)
    (hse : starEach [inner] env = [(false, eval inner env)] := by rfl) :
    wpC (model PG w) A (execs [.Return (some (.List [inner] pl)) pr] env) (Ends g outer frs L s (PostG led fun r l => Rep l r (.lst [t]))) NE s := by
  refine c_execs_cons (c_Return (c_List ?_))
  rw [hse]
  refine c_spliced_cons (hin _ fun D o h' tk' frs' S Z ne R k => ?_)
  refine c_spliced_nil (wpAny_newObj_type ?_)
  have Z₂ := Z.push { cls := .type "list", dict := none, data := .seq [Value.ref D].toArray }
  have lo : ∀ q ∈ (D, o) :: (16, tabObj ps) :: led₁, h'.objs.size ≠ q.1 := fun q hq => Nat.ne_of_gt (Heap.lt_size (Z.N q (List.mem_append_left _ hq)).1)
  refine ends_comp (new := [(D, o)]) hl hs S Z₂ (fun y hy q hq => ?_) k (.lst (vs := [.ref D]) (.head _) rfl rfl (.cons (R.mono fun q hq => .tail _ hq) .nil))
  rcases List.mem_cons.mp hy with rfl | hy
  · exact lo q (.tail _ hq)
  · rw [List.mem_singleton.mp hy]; exact ne q hq
end
section
variable {w : World} {p : Program} {loose : List Str} {mean : ExcName → Option Value} {mg mb : Str → Option Value} {led : List (Addr × Obj)} {kw : List (Str × Value)} {ps : Array Value}
theorem pairs_resp3_ct {way n : Nat} {v : Value} {t1 : Nat → T} {q : Nat → Int} (hn : n ≤ 1000) (hq : ∀ i, Qok (q i)) (hl : Lg ps led) (h : Rep led v (.lst ((List.range n).map fun i => .lst [t1 i, .flt (F4 (q i))]))) (H : Asked kw way) (hc : valueAt kw ("withscores" : Str) = some (.bool true)) :
    Ct false w p loose mean mg mb (.ref 47) [v] kw 5 ((16, tabObj ps) :: led) (PostG led fun r l => Rep l r (.lst ((List.range n).map fun i => .lst [t1 i, newT way (q i)]))) := by
  (refine fill_aux ?_; k_fill; intro _ _)
  obtain ⟨a, v₁, v₂, rfl, PA, hv⟩ := rep_pairs (tp := T.lst) (.inl rfl) h
  refine' ct_opts ?ho ?hcd ?P H.nd H.nr H.sz (by decide) ?k1 ?k2 ?hnd ?hco ?hgen ?hk ?h
  ( (case ho => k_is); (case hcd => k_is); (case P => exact ⟨rfl, rfl, rfl, rfl, rfl⟩); (case k1 => rfl); (case k2 => rfl); (case hnd => decide); (case hco => rfl); (case hgen => rfl); (case hk => rfl))
  refine body_opts hl fun dp un gd outer frs g L D o cells s G Z hl hsm hdo Y lo hd hu htk => ?_
  obtain ⟨oC, rfl, hoC⟩ := CellsAre.one Y
  have hs0 : ∀ q ∈ led, q ∈ (L + 1, oC) :: (D, o) :: led := fun q hq => .tail _ (.tail _ hq)
  refine c_execs_cons (.any (guard_k (led := (L + 1, oC) :: (D, o) :: led) (b := n != 0) (c := true) ⟨rfl, rfl, optM_opt, .tail _ (.head _), hdo, hsm⟩ Z.F.ns (Z.perm fun q hq => .tail _ hq).news optM_resp ((PA.tru (by omega)).mono hs0) rfl hc (fun tk htk' => ?_) (by decide)))
  by_cases hn0 : n = 0
  · subst hn0
    exact ends_same hl hs0 Z (Nat.lt_of_lt_of_le htk htk') (h.mono hs0)
  · rw [show ((n != 0) && true) = true by simp [hn0]]
    have hne : ∀ q ∈ [(16, tabObj ps)] ++ (D, o) :: led, q.1 ≠ L + 1 := fun q hq => by
      rcases List.mem_append.mp hq with hq | hq
      · rw [List.mem_singleton.mp hq]; exact Ne.symm (hl.off (L + 1, oC) (.head _))
      · exact lo (L + 1, oC) (.head _) q hq
    refine c_execs_cons (c_rawCell (p := p) (loose := loose) (mean := mean) (mg := mg) (mb := mb) (E := [(16, tabObj ps)]) (led := (D, o) :: led) (s := { s with toks := tk }) G Z ⟨rfl, rfl, optM_opt, .tail _ (.tail _ (.head _)), hdo, hsm⟩ hoC hne rfl H.sc rfl rfl (Nat.lt_of_lt_of_le htk htk') (by decide) rfl fun oC' h₁ tk₁ hoC' Z₁ ht₁ => ?_)
    have hl₁ : Lg ps ((L + 1, oC') :: (D, o) :: led) := by
      refine ⟨?_, fun q hq => ?_⟩
      · rcases hl.tab with e | ⟨c', oc, vs, tq, e, h1, h2, h3⟩
        · exact .inl e
        · refine .inr ⟨c', oc, vs, tq, e, ?_, h2, h3⟩
          rcases List.mem_cons.mp h1 with h1 | h1
          · cases h1; rw [hoC] at h2; cases h2
          · exact .tail _ h1
      · rcases List.mem_cons.mp hq with rfl | hq
        · exact hl.off (L + 1, oC) (.head _)
        · exact hl.off q (.tail _ hq)
    have sub1 : ∀ q ∈ led, q ∈ (L + 1, oC') :: (D, o) :: led := fun q hq => .tail _ (.tail _ hq)
    have sub2 : ∀ q ∈ led, q ∈ (16, tabObj ps) :: (L + 1, oC') :: (D, o) :: led := fun q hq => .tail _ (sub1 q hq)
    refine c_execs_cons (c_Return (comp_pairs (s := { s with heap := h₁, toks := tk₁ }) rfl (by decide) (PA.mono sub2) Z₁ ht₁ rfl (by decide) rfl (by decide) (by decide) hn (fun Q k => n_local Z₁.F.ns rfl (k _ (Nat.le_refl _)) rfl rfl)
      (ts := fun i => .lst [t1 i, newT way (q i)]) (fun i hi => ?_) (fun D' h₂ tk₂ ys new frs₂ S₂ Z₂ ne R k₂ => ?_)))
    · have hE : CasN w p loose mean mg mb way (fv way) ((16, tabObj ps) :: (L + 1, oC') :: (D, o) :: led) := casN_raw way H.w3
      obtain ⟨r1, r2⟩ := hv i hi
      obtain ⟨u, hu0, hv2⟩ := rep_flt r2
      refine elt_list2 (Ev.cvar (P := fun m₂ => m₂ _ = some (v₁ i) ∧ m₂ _ = some (v₂ i)) (fun m₂ hm => hm.1) (r1.mono sub2) rfl rfl) fun X C oX m₂ hX hC hN hP => ?_
      have hE' := hE.mono hX
      refine Ev.weak (Ev.call (f := fv way) (d := 3) (Pa := fun x => x = .float (F4 (q i)) u) (fun frs₂ s₂ Q Z₂ k => n_cell (c := L + 1) ⟨oC', Z₂.toks _ (hX _ (.tail _ (.head _))), hoC'⟩ k rfl rfl rfl) hE'.keep
        (Ev.cvar (P := fun m₂ => m₂ _ = some (v₁ i) ∧ m₂ _ = some (v₂ i)) (fun m₂ hm => hm.2) hv2 rfl rfl (by decide) X C oX m₂ hX hC hN hP)
        (fun x hx => by subst hx; exact hE'.flt _ (fun _ y => y) (q i) u (hq i) hu0) G rfl rfl (by omega) (by omega)) fun v hv => hv.mono fun _ x => absurd x List.not_mem_nil
    · exact ends_comp hl₁ sub1 S₂ Z₂ ne k₂ (rep_comp R)
end
end Mine
end
section
open PySem PySem.W PyProof.Rows PySem.Calls PySem.Flt
open PyProof.Rows.TI (Frs SameUp)
open PyProof.Rows.LCg (lst NsObj)
set_option maxRecDepth 100000
set_option maxHeartbeats 400000
namespace Mine
section
variable {w : World} {p : Program} {loose : List Str} {mean : ExcName → Option Value} {mg mb : Str → Option Value} {led : List (Addr × Obj)} {kw : List (Str × Value)} {ps : Array Value}
theorem first_list {a : Addr} {n : Nat} {ti : Nat → List T} (h : Rep led (.ref a) (.lst ((List.range n).map fun i => .lst (ti i)))) (h0 : 0 < n) : ∃ oa k its y, (a, oa) ∈ led ∧ oa.cls = .type "list" ∧ oa.data = .seq (List.toArray its) k ∧ its[0]? = some y ∧ IsL led y true := by
  generalize hv : Value.ref a = v at h
  cases h with
  | lst hm hc hd hr =>
    cases hv
    obtain ⟨n, rfl⟩ : ∃ n', n = n' + 1 := ⟨n - 1, by omega⟩
    rw [List.range_succ_eq_map, List.map_cons] at hr
    cases hr with
    | cons r0 r => 
      cases r0 with
      | lst m1 c1 d1 r1 => exact ⟨_, _, _, _, hm, hc, hd, rfl, .yes m1 c1⟩
theorem Two.first {a : Addr} {v0 v1 : Value} {b : Bool} (x : Two led a v0 v1) (hb : IsL led v0 b) : ∃ oa k its y, (a, oa) ∈ led ∧ oa.cls = .type "list" ∧ oa.data = .seq (List.toArray its) k ∧ its[0]? = some y ∧ IsL led y b := by
  obtain ⟨oa, n, h1, h2, h3⟩ := x.of
  exact ⟨oa, n, [v0, v1], v0, h1, h2, h3, rfl, hb⟩
theorem IsL.mono {l l' : List (Addr × Obj)} {v : Value} {b : Bool} (x : IsL l v b) (h : ∀ q ∈ l, q ∈ l') : IsL l' v b := by
  cases x with
  | yes hm hc => exact .yes (h _ hm) hc
  | no b u => exact .no b u
theorem zpop_legacy_ct {way n : Nat} {v : Value} {t1 : Nat → T} {q : Nat → Int} (hn : n ≤ 1000) (hq : ∀ i, Qok (q i)) (hl : Lg ps led) (h : Rep led v (.lst ((List.range n).map fun i => .lst [t1 i, .flt (F4 (q i))]))) (H : Asked kw way) :
    Ct false w p loose mean mg mb (.ref 107) [v] kw 5 ((16, tabObj ps) :: led) (PostG led fun r l => Rep l r (.lst ((List.range n).map fun i => .tup [t1 i, eldT way (q i)]))) := by
  (refine fill_aux ?_; k_fill; intro _ _)
  obtain ⟨a, v₁, v₂, rfl, PA, hv⟩ := rep_pairs (tp := T.lst) (.inl rfl) h
  refine' ct_opts ?ho ?hcd ?P H.nd H.nr H.sz (by decide) ?k1 ?k2 ?hnd ?hco ?hgen ?hk ?h
  ( (case ho => k_is); (case hcd => k_is); (case P => exact ⟨rfl, rfl, rfl, rfl, rfl⟩); (case k1 => rfl); (case k2 => rfl); (case hnd => decide); (case hco => rfl); (case hgen => rfl); (case hk => rfl))
  refine body_opts hl fun dp un gd outer frs g L D o cells s G Z hl hsm hdo Y lo hd hu htk => ?_
  obtain ⟨oC, rfl, hoC⟩ := CellsAre.one Y
  have hs0 : ∀ q ∈ led, q ∈ (L + 1, oC) :: (D, o) :: led := fun q hq => .tail _ (.tail _ hq)
  refine c_execs_cons (.any (guard_n (p9 := ⟨0, 0, 0, 0⟩) (led := (L + 1, oC) :: (D, o) :: led) (v := .ref a) rfl Z.F.ns (Z.perm fun q hq => .tail _ hq).news optM_resp ((PA.tru (by omega)).mono hs0) rfl (fun tk Q hQ => n_local Z.F.ns optM_resp hQ rfl rfl) rfl (fun tk htk' => ?_)))
  by_cases hn0 : n = 0
  · subst hn0
    exact ends_same hl hs0 Z (Nat.lt_of_lt_of_le htk htk') (h.mono hs0)
  · rw [show (n != 0) = true by simp [hn0]]
    obtain ⟨oa, ka, its, y0, f1, f2, f3, f4, f5⟩ := first_list h (by omega)
    refine c_execs_cons (c_wrapCell (p := p) (loose := loose) (mean := mean) (mg := mg) (mb := mb) (led := (D, o) :: led) (s := { s with toks := tk }) H.w3 G Z hl ⟨rfl, rfl, optM_opt, .head _, hdo, hsm⟩ hoC (lo (L + 1, oC) (.head _)) rfl H.sc rfl rfl rfl (by omega) (by omega) (Nat.lt_of_lt_of_le htk htk') (by decide) rfl fun f h₁ tk₁ frs₁ ps₁ led₁ oC' S₁ Z₁ hl₁ hs₁ hoC' hc₁ ht₁ => ?_)
    have sub1 : ∀ q ∈ led, q ∈ (L + 1, oC') :: led₁ := fun q hq => .tail _ (hs₁ q (.tail _ hq))
    have sub2 : ∀ q ∈ led, q ∈ (16, tabObj ps₁) :: (L + 1, oC') :: led₁ := fun q hq => .tail _ (sub1 q hq)
    have hE := hc₁.mono (led' := (16, tabObj ps₁) :: (L + 1, oC') :: led₁) fun q hq => .tail _ (.tail _ hq)
    refine c_ends (s := s) S₁ ?_
    refine c_execs_cons (c_isiList (s := { s with heap := h₁, toks := tk₁ }) G Z₁ (f5.mono sub2) (fun Q k => sub_const Z₁.F.ns rfl rfl rfl (by decide) ⟨oa, Z₁.toks _ (sub2 _ f1), f2, ka, f3⟩ (by decide) (by decide) f4 (k _ (Nat.le_succ _))) rfl rfl rfl rfl rfl ht₁ (fun hb tk₂ ht₂ => ?_) (fun hb tk₂ ht₂ => ?_))
    rotate_left
    · cases hb
    refine c_execs_cons (c_Return (comp_pairs (s := { s with heap := h₁, toks := tk₂ }) rfl (by decide) (PA.mono sub2) Z₁ ht₂ rfl (by decide) rfl (by decide) (by decide) hn (fun Q k => n_local Z₁.F.ns rfl (k _ (Nat.le_refl _)) rfl rfl)
      (ts := fun i => .tup [t1 i, eldT way (q i)]) (fun i hi => ?_) (fun D' h₂ tk₂ ys new frs₂ S₂ Z₂ ne R k₂ => ends_comp hl₁ sub1 S₂ Z₂ ne k₂ (rep_comp R))))
    obtain ⟨r1, r2⟩ := hv i hi
    obtain ⟨u, hu0, hv2⟩ := rep_flt r2
    refine elt_tuple2 (Ev.cvar (P := fun m₂ => m₂ _ = some (v₁ i) ∧ m₂ _ = some (v₂ i)) (fun m₂ hm => hm.1) (r1.mono sub2) rfl rfl) fun X C oX m₂ hX hC hN hP => ?_
    have hE' := hE.mono hX
    refine Ev.weak (Ev.call (f := f) (d := 3) (Pa := fun x => ∃ u, x = .bytes (Wt (q i)) u) (fun frs₂ s₂ Q Z₂ k => n_cell (c := L + 1) ⟨oC', Z₂.toks _ (hX _ (.tail _ (.head _))), hoC'⟩ k rfl rfl rfl) hE'.keep
      (Ev.resp2 (mean := mean) (hq i) (fun frs₂ s₂ Q Z₂ k => nG Z₂.F G.X (topRead_of G.T) (n61 w) k rfl rfl rfl) (Ev.cvar (P := fun m₂ => m₂ _ = some (v₁ i) ∧ m₂ _ = some (v₂ i)) (fun m₂ hm => hm.2) ⟨u, hu0, hv2⟩ rfl rfl (by decide) X C oX m₂ hX hC hN hP) G rfl rfl (by omega) (by omega))
      (fun x hx => by obtain ⟨u, rfl⟩ := hx; exact hE'.byt _ (fun _ y => y) (q i) u (hq i)) G rfl rfl (by omega) (by omega)) fun v hv => hv.mono fun _ x => absurd x List.not_mem_nil
theorem zpop_legacy_one {way : Nat} {a : Addr} {b0 : Array UInt8} {u0 : Tok} {q : Int} {u : Tok} (hq : Qok q) (hu0 : u ≠ 0) (hl : Lg ps led) (h2 : Two led a (.bytes b0 u0) (.float (F4 q) u)) (H : Asked kw way) :
    Ct false w p loose mean mg mb (.ref 107) [.ref a] kw 5 ((16, tabObj ps) :: led) (PostG led fun r l => Rep l r (.lst [.tup [.by b0, eldT way q]])) := by
  (refine fill_aux ?_; k_fill; intro _ _)
  refine' ct_opts ?ho ?hcd ?P H.nd H.nr H.sz (by decide) ?k1 ?k2 ?hnd ?hco ?hgen ?hk ?h
  ( (case ho => k_is); (case hcd => k_is); (case P => exact ⟨rfl, rfl, rfl, rfl, rfl⟩); (case k1 => rfl); (case k2 => rfl); (case hnd => decide); (case hco => rfl); (case hgen => rfl); (case hk => rfl))
  refine body_opts hl fun dp un gd outer frs g L D o cells s G Z hl hsm hdo Y lo hd hu htk => ?_
  obtain ⟨oC, rfl, hoC⟩ := CellsAre.one Y
  have hs0 : ∀ q ∈ led, q ∈ (L + 1, oC) :: (D, o) :: led := fun q hq => .tail _ (.tail _ hq)
  refine c_execs_cons (.any (guard_n (p9 := ⟨0, 0, 0, 0⟩) (led := (L + 1, oC) :: (D, o) :: led) (v := .ref a) rfl Z.F.ns (Z.perm fun q hq => .tail _ hq).news optM_resp (h2.tru.mono hs0) rfl (fun tk Q hQ => n_local Z.F.ns optM_resp hQ rfl rfl) rfl (fun tk htk' => ?_)))
  · obtain ⟨oa, ka, its, y0, f1, f2, f3, f4, f5⟩ := h2.first (.no b0 u0)
    refine c_execs_cons (c_wrapCell (p := p) (loose := loose) (mean := mean) (mg := mg) (mb := mb) (led := (D, o) :: led) (s := { s with toks := tk }) H.w3 G Z hl ⟨rfl, rfl, optM_opt, .head _, hdo, hsm⟩ hoC (lo (L + 1, oC) (.head _)) rfl H.sc rfl rfl rfl (by omega) (by omega) (Nat.lt_of_lt_of_le htk htk') (by decide) rfl fun f h₁ tk₁ frs₁ ps₁ led₁ oC' S₁ Z₁ hl₁ hs₁ hoC' hc₁ ht₁ => ?_)
    have sub1 : ∀ q ∈ led, q ∈ (L + 1, oC') :: led₁ := fun q hq => .tail _ (hs₁ q (.tail _ hq))
    have sub2 : ∀ q ∈ led, q ∈ (16, tabObj ps₁) :: (L + 1, oC') :: led₁ := fun q hq => .tail _ (sub1 q hq)
    have hE := hc₁.mono (led' := (16, tabObj ps₁) :: (L + 1, oC') :: led₁) fun q hq => .tail _ (.tail _ hq)
    refine c_ends (s := s) S₁ ?_
    refine c_execs_cons (c_isiList (s := { s with heap := h₁, toks := tk₁ }) G Z₁ (f5.mono sub2) (fun Q k => sub_const Z₁.F.ns rfl rfl rfl (by decide) ⟨oa, Z₁.toks _ (sub2 _ f1), f2, ka, f3⟩ (by decide) (by decide) f4 (k _ (Nat.le_succ _))) rfl rfl rfl rfl rfl ht₁ (fun hb tk₂ ht₂ => ?_) (fun hb tk₂ ht₂ => ?_))
    · cases hb
    have h2' := h2.mono sub2
    refine single_tail (s := { s with heap := h₁, toks := tk₂ }) (t := .tup [.by b0, eldT way q]) hl₁ sub1 fun Q k => ev_tuple2 (data := (L + 1, oC') :: led₁) (s := { s with heap := h₁, toks := tk₂ }) (h2'.sub0 (.by _ _) rfl rfl rfl rfl) ?_ Z₁ ht₂ k
    refine Ev.weak (Ev.call (f := f) (d := 3) (Pa := fun x => ∃ u, x = .bytes (Wt q) u) (fun frs₂ s₂ Q Z₂ k => n_cell (c := L + 1) ⟨oC', Z₂.toks _ (.tail _ (.head _)), hoC'⟩ k rfl rfl rfl) hE.keep
      (Ev.resp2 (mean := mean) hq (fun frs₂ s₂ Q Z₂ k => nG Z₂.F G.X (topRead_of G.T) (n61 w) k rfl rfl rfl) (h2'.sub1 ⟨u, hu0, rfl⟩ rfl rfl rfl rfl) G rfl rfl (by omega) (by omega))
      (fun x hx => by obtain ⟨u, rfl⟩ := hx; exact hE.byt _ (fun _ y => y) q u hq) G rfl rfl (by omega) (by omega)) fun v hv => hv.mono fun _ x => absurd x List.not_mem_nil
theorem zpop_resp3_ct {way n : Nat} {v : Value} {t1 : Nat → T} {q : Nat → Int} (hn : n ≤ 1000) (hq : ∀ i, Qok (q i)) (hl : Lg ps led) (h : Rep led v (.lst ((List.range n).map fun i => .lst [t1 i, .flt (F4 (q i))]))) (H : Asked kw way) :
    Ct false w p loose mean mg mb (.ref 102) [v] kw 5 ((16, tabObj ps) :: led) (PostG led fun r l => Rep l r (.lst ((List.range n).map fun i => .lst [t1 i, newT way (q i)]))) := by
  (refine fill_aux ?_; k_fill; intro _ _)
  obtain ⟨a, v₁, v₂, rfl, PA, hv⟩ := rep_pairs (tp := T.lst) (.inl rfl) h
  refine' ct_opts ?ho ?hcd ?P H.nd H.nr H.sz (by decide) ?k1 ?k2 ?hnd ?hco ?hgen ?hk ?h
  ( (case ho => k_is); (case hcd => k_is); (case P => exact ⟨rfl, rfl, rfl, rfl, rfl⟩); (case k1 => rfl); (case k2 => rfl); (case hnd => decide); (case hco => rfl); (case hgen => rfl); (case hk => rfl))
  refine body_opts hl fun dp un gd outer frs g L D o cells s G Z hl hsm hdo Y lo hd hu htk => ?_
  obtain ⟨oC, rfl, hoC⟩ := CellsAre.one Y
  have hs0 : ∀ q ∈ led, q ∈ (L + 1, oC) :: (D, o) :: led := fun q hq => .tail _ (.tail _ hq)
  refine c_execs_cons (.any (guard_n (p9 := ⟨0, 0, 0, 0⟩) (led := (L + 1, oC) :: (D, o) :: led) (v := .ref a) rfl Z.F.ns (Z.perm fun q hq => .tail _ hq).news optM_resp ((PA.tru (by omega)).mono hs0) rfl (fun tk Q hQ => n_local Z.F.ns optM_resp hQ rfl rfl) rfl (fun tk htk' => ?_)))
  by_cases hn0 : n = 0
  · subst hn0
    exact ends_same hl hs0 Z (Nat.lt_of_lt_of_le htk htk') (h.mono hs0)
  · rw [show (n != 0) = true by simp [hn0]]
    obtain ⟨oa, ka, its, y0, f1, f2, f3, f4, f5⟩ := first_list h (by omega)
    have hne : ∀ q ∈ [(16, tabObj ps)] ++ (D, o) :: led, q.1 ≠ L + 1 := fun q hq => by
      rcases List.mem_append.mp hq with hq | hq
      · rw [List.mem_singleton.mp hq]; exact Ne.symm (hl.off (L + 1, oC) (.head _))
      · exact lo (L + 1, oC) (.head _) q hq
    refine c_execs_cons (c_rawCell (p := p) (loose := loose) (mean := mean) (mg := mg) (mb := mb) (E := [(16, tabObj ps)]) (led := (D, o) :: led) (s := { s with toks := tk }) G Z ⟨rfl, rfl, optM_opt, .tail _ (.tail _ (.head _)), hdo, hsm⟩ hoC hne rfl H.sc rfl rfl (Nat.lt_of_lt_of_le htk htk') (by decide) rfl fun oC' h₁ tk₁ hoC' Z₁ ht₁ => ?_)
    have hl₁ : Lg ps ((L + 1, oC') :: (D, o) :: led) := by
      refine ⟨?_, fun q hq => ?_⟩
      · rcases hl.tab with e | ⟨c', oc, vs, tq, e, h1, h2, h3⟩
        · exact .inl e
        · refine .inr ⟨c', oc, vs, tq, e, ?_, h2, h3⟩
          rcases List.mem_cons.mp h1 with h1 | h1
          · cases h1; rw [hoC] at h2; cases h2
          · exact .tail _ h1
      · rcases List.mem_cons.mp hq with rfl | hq
        · exact hl.off (L + 1, oC) (.head _)
        · exact hl.off q (.tail _ hq)
    have sub1 : ∀ q ∈ led, q ∈ (L + 1, oC') :: (D, o) :: led := fun q hq => .tail _ (.tail _ hq)
    have sub2 : ∀ q ∈ led, q ∈ (16, tabObj ps) :: (L + 1, oC') :: (D, o) :: led := fun q hq => .tail _ (sub1 q hq)
    have hE : CasN w p loose mean mg mb way (fv way) ((16, tabObj ps) :: (L + 1, oC') :: (D, o) :: led) := casN_raw way H.w3
    refine c_execs_cons (c_isiList (s := { s with heap := h₁, toks := tk₁ }) G Z₁ (f5.mono sub2) (fun Q k => sub_const Z₁.F.ns rfl rfl rfl (by decide) ⟨oa, Z₁.toks _ (sub2 _ f1), f2, ka, f3⟩ (by decide) (by decide) f4 (k _ (Nat.le_succ _))) rfl rfl rfl rfl rfl ht₁ (fun hb tk₂ ht₂ => ?_) (fun hb tk₂ ht₂ => ?_))
    rotate_left
    · cases hb
    refine c_execs_cons (c_Return (comp_pairs (s := { s with heap := h₁, toks := tk₂ }) rfl (by decide) (PA.mono sub2) Z₁ ht₂ rfl (by decide) rfl (by decide) (by decide) hn (fun Q k => n_local Z₁.F.ns rfl (k _ (Nat.le_refl _)) rfl rfl)
      (ts := fun i => .lst [t1 i, newT way (q i)]) (fun i hi => ?_) (fun D' h₂ tk₂ ys new frs₂ S₂ Z₂ ne R k₂ => ends_comp hl₁ sub1 S₂ Z₂ ne k₂ (rep_comp R))))
    obtain ⟨r1, r2⟩ := hv i hi
    obtain ⟨u, hu0, hv2⟩ := rep_flt r2
    refine elt_list2 (Ev.cvar (P := fun m₂ => m₂ _ = some (v₁ i) ∧ m₂ _ = some (v₂ i)) (fun m₂ hm => hm.1) (r1.mono sub2) rfl rfl) fun X C oX m₂ hX hC hN hP => ?_
    have hE' := hE.mono hX
    refine Ev.weak (Ev.call (f := fv way) (d := 3) (Pa := fun x => x = .float (F4 (q i)) u) (fun frs₂ s₂ Q Z₂ k => n_cell (c := L + 1) ⟨oC', Z₂.toks _ (hX _ (.tail _ (.head _))), hoC'⟩ k rfl rfl rfl) hE'.keep
      (Ev.cvar (P := fun m₂ => m₂ _ = some (v₁ i) ∧ m₂ _ = some (v₂ i)) (fun m₂ hm => hm.2) hv2 rfl rfl (by decide) X C oX m₂ hX hC hN hP)
      (fun x hx => by subst hx; exact hE'.flt _ (fun _ y => y) (q i) u (hq i) hu0) G rfl rfl (by omega) (by omega)) fun v hv => hv.mono fun _ x => absurd x List.not_mem_nil
theorem zpop_resp3_one {way : Nat} {a : Addr} {b0 : Array UInt8} {u0 : Tok} {q : Int} {u : Tok} (hq : Qok q) (hu0 : u ≠ 0) (hl : Lg ps led) (h2 : Two led a (.bytes b0 u0) (.float (F4 q) u)) (H : Asked kw way) :
    Ct false w p loose mean mg mb (.ref 102) [.ref a] kw 5 ((16, tabObj ps) :: led) (PostG led fun r l => Rep l r (.lst [.lst [.by b0, newT way q]])) := by
  (refine fill_aux ?_; k_fill; intro _ _)
  refine' ct_opts ?ho ?hcd ?P H.nd H.nr H.sz (by decide) ?k1 ?k2 ?hnd ?hco ?hgen ?hk ?h
  ( (case ho => k_is); (case hcd => k_is); (case P => exact ⟨rfl, rfl, rfl, rfl, rfl⟩); (case k1 => rfl); (case k2 => rfl); (case hnd => decide); (case hco => rfl); (case hgen => rfl); (case hk => rfl))
  refine body_opts hl fun dp un gd outer frs g L D o cells s G Z hl hsm hdo Y lo hd hu htk => ?_
  obtain ⟨oC, rfl, hoC⟩ := CellsAre.one Y
  have hs0 : ∀ q ∈ led, q ∈ (L + 1, oC) :: (D, o) :: led := fun q hq => .tail _ (.tail _ hq)
  refine c_execs_cons (.any (guard_n (p9 := ⟨0, 0, 0, 0⟩) (led := (L + 1, oC) :: (D, o) :: led) (v := .ref a) rfl Z.F.ns (Z.perm fun q hq => .tail _ hq).news optM_resp (h2.tru.mono hs0) rfl (fun tk Q hQ => n_local Z.F.ns optM_resp hQ rfl rfl) rfl (fun tk htk' => ?_)))
  · obtain ⟨oa, ka, its, y0, f1, f2, f3, f4, f5⟩ := h2.first (.no b0 u0)
    have hne : ∀ q ∈ [(16, tabObj ps)] ++ (D, o) :: led, q.1 ≠ L + 1 := fun q hq => by
      rcases List.mem_append.mp hq with hq | hq
      · rw [List.mem_singleton.mp hq]; exact Ne.symm (hl.off (L + 1, oC) (.head _))
      · exact lo (L + 1, oC) (.head _) q hq
    refine c_execs_cons (c_rawCell (p := p) (loose := loose) (mean := mean) (mg := mg) (mb := mb) (E := [(16, tabObj ps)]) (led := (D, o) :: led) (s := { s with toks := tk }) G Z ⟨rfl, rfl, optM_opt, .tail _ (.tail _ (.head _)), hdo, hsm⟩ hoC hne rfl H.sc rfl rfl (Nat.lt_of_lt_of_le htk htk') (by decide) rfl fun oC' h₁ tk₁ hoC' Z₁ ht₁ => ?_)
    have hl₁ : Lg ps ((L + 1, oC') :: (D, o) :: led) := by
      refine ⟨?_, fun q hq => ?_⟩
      · rcases hl.tab with e | ⟨c', oc, vs, tq, e, h1, h2, h3⟩
        · exact .inl e
        · refine .inr ⟨c', oc, vs, tq, e, ?_, h2, h3⟩
          rcases List.mem_cons.mp h1 with h1 | h1
          · cases h1; rw [hoC] at h2; cases h2
          · exact .tail _ h1
      · rcases List.mem_cons.mp hq with rfl | hq
        · exact hl.off (L + 1, oC) (.head _)
        · exact hl.off q (.tail _ hq)
    have sub1 : ∀ q ∈ led, q ∈ (L + 1, oC') :: (D, o) :: led := fun q hq => .tail _ (.tail _ hq)
    have sub2 : ∀ q ∈ led, q ∈ (16, tabObj ps) :: (L + 1, oC') :: (D, o) :: led := fun q hq => .tail _ (sub1 q hq)
    have hE : CasN w p loose mean mg mb way (fv way) ((16, tabObj ps) :: (L + 1, oC') :: (D, o) :: led) := casN_raw way H.w3
    refine c_execs_cons (c_isiList (s := { s with heap := h₁, toks := tk₁ }) G Z₁ (f5.mono sub2) (fun Q k => sub_const Z₁.F.ns rfl rfl rfl (by decide) ⟨oa, Z₁.toks _ (sub2 _ f1), f2, ka, f3⟩ (by decide) (by decide) f4 (k _ (Nat.le_succ _))) rfl rfl rfl rfl rfl ht₁ (fun hb tk₂ ht₂ => ?_) (fun hb tk₂ ht₂ => ?_))
    · cases hb
    have h2' := h2.mono sub2
    refine single_tail (s := { s with heap := h₁, toks := tk₂ }) (t := .lst [.by b0, newT way q]) hl₁ sub1 fun Q k => ev_list2 (data := (L + 1, oC') :: (D, o) :: led) (s := { s with heap := h₁, toks := tk₂ }) (h2'.sub0 (.by _ _) rfl rfl rfl rfl) ?_ Z₁ ht₂ k
    refine Ev.weak (Ev.call (f := fv way) (d := 3) (Pa := fun x => x = .float (F4 q) u) (fun frs₂ s₂ Q Z₂ k => n_cell (c := L + 1) ⟨oC', Z₂.toks _ (.tail _ (.head _)), hoC'⟩ k rfl rfl rfl) hE.keep
      (h2'.sub1 rfl rfl rfl rfl rfl)
      (fun x hx => by subst hx; exact hE.flt _ (fun _ y => y) q u hq hu0) G rfl rfl (by omega) (by omega)) fun v hv => hv.mono fun _ x => absurd x List.not_mem_nil
end
end Mine
end
section
open PySem PySem.W PyProof.Rows PySem.Calls PySem.Flt
open PyProof.Rows.TI (Frs SameUp)
open PyProof.Rows.LCg (lst NsObj)
set_option maxRecDepth 100000
set_option maxHeartbeats 400000
namespace Mine
section
variable {w : World} {p : Program} {loose : List Str} {mean : ExcName → Option Value} {mg mb : Str → Option Value} {A : Around} {g : Heap} {outer : List Env} {frs : List (Addr × Obj)} {L : Addr} {m : Str → Option Value} {led led₁ : List (Addr × Obj)} {env cenv : Env} {e e1 e2 e3 elt iter : Expr} {Pv Pa : Value → Prop} {s : Shared} {scope : Scope} {cl : List (Str × Addr)} {kw : List (Str × Value)} {ps : Array Value}
/-- makes one thing, and what it is made of -/
abbrev Mk (w : World) (A : Around) (g : Heap) (outer : List Env) (frs : List (Addr × Obj)) (L : Addr) (m : Str → Option Value) (ps : Array Value) (led₁ : List (Addr × Obj)) (env : Env) (e : Expr) (t : T) : Prop :=
  ∀ (frs₁ : List (Addr × Obj)) (s : Shared) (Q : Value → Shared → Prop), SameUp frs frs₁ → At g outer frs₁ L m ((16, tabObj ps) :: led₁) s.heap → 0 < s.toks →
    (∀ D o new h' tk' frs', SameUp frs₁ frs' → At g outer frs' L m ((D, o) :: (new ++ (16, tabObj ps) :: led₁)) h' → (∀ y ∈ (D, o) :: new, ∀ q ∈ (16, tabObj ps) :: led₁, y.1 ≠ q.1) → Rep ((D, o) :: new ++ led₁) (.ref D) t → 0 < tk' → Q (.ref D) { s with heap := h', toks := tk' }) → wpC (model PG w) A (eval e env) Q NE s
theorem pair_fin {t0 t1 : T} {x1 : Value} {D : Addr} {o : Obj} {new : List (Addr × Obj)} {h' : Heap} {tk' : Tok} {frs' : List (Addr × Obj)} {T' : String} {tp : List T → T} (hT : (T' = "list" ∧ tp = T.lst) ∨ (T' = "tuple" ∧ tp = T.tup)) (hl : Lg ps led₁) (hs : ∀ q ∈ led, q ∈ led₁) (S : SameUp frs frs')
    (Z : At g outer frs' L m ((D, o) :: (new ++ (16, tabObj ps) :: led₁)) h') (ne : ∀ y ∈ (D, o) :: new, ∀ q ∈ (16, tabObj ps) :: led₁, y.1 ≠ q.1) (r1 : Rep led₁ x1 t0) (R : Rep ((D, o) :: new ++ led₁) (.ref D) t1) (k : 0 < tk') :
    Ends g outer frs L s (PostG led fun r l => Rep l r (tp [t0, t1])) (.ret (.ref h'.objs.size)) { s with heap := h'.push { cls := .type T', dict := none, data := .seq [x1, .ref D].toArray }, toks := tk' } := by
  have Z₂ := Z.push { cls := .type T', dict := none, data := .seq [x1, .ref D].toArray }
  have lo : ∀ q ∈ (D, o) :: (new ++ (16, tabObj ps) :: led₁), h'.objs.size ≠ q.1 := fun q hq => Nat.ne_of_gt (Heap.lt_size (Z.N q (List.mem_append_left _ hq)).1)
  have rr : Reps ((h'.objs.size, { cls := .type T', dict := none, data := .seq [x1, .ref D].toArray }) :: ((D, o) :: new) ++ led₁) [x1, .ref D] [t0, t1] := .cons (r1.mono fun q hq => List.mem_append_right _ hq) (.cons (R.mono fun q hq => .tail _ hq) .nil)
  refine ends_comp (new := (D, o) :: new) hl hs S Z₂ (fun y hy q hq => ?_) k ?_
  · rcases List.mem_cons.mp hy with rfl | hy
    · exact lo q (.tail _ (List.mem_append_right _ hq))
    · exact ne y hy q hq
  · rcases hT with ⟨rfl, rfl⟩ | ⟨rfl, rfl⟩
    · exact .lst (vs := [x1, .ref D]) (.head _) rfl rfl rr
    · exact .tup (vs := [x1, .ref D]) (.head _) rfl rfl rr
theorem pair_list {pl pr : Pos} {t0 t1 : T} (hl : Lg ps led₁) (hs : ∀ q ∈ led, q ∈ led₁) (Z : At g outer frs L m ((16, tabObj ps) :: led₁) s.heap) (htk : 0 < s.toks) (h1 : Ev w A g outer frs L m ((16, tabObj ps) :: led₁) env e1 fun r => Rep led₁ r t0) (h2 : Mk w A g outer frs L m ps led₁ env e2 t1)
    (hse : starEach [e1, e2] env = [(false, eval e1 env), (false, eval e2 env)] := by rfl) :
    wpC (model PG w) A (execs [.Return (some (.List [e1, e2] pl)) pr] env) (Ends g outer frs L s (PostG led fun r l => Rep l r (.lst [t0, t1]))) NE s := by
  refine c_execs_cons (c_Return (c_List ?_))
  rw [hse]
  refine c_spliced_cons (h1 frs s _ (SameUp.refl _) Z htk fun x1 h₁ tk₁ frs₁ S₁ Z₁ r1 k₁ => ?_)
  refine c_spliced_cons (h2 frs₁ _ _ S₁ Z₁ k₁ fun D o new h' tk' frs' S Z ne R k => ?_)
  refine c_spliced_nil (wpAny_newObj_type ?_)
  exact pair_fin (.inl ⟨rfl, rfl⟩) hl hs (S₁.trans S) Z ne r1 R k
theorem pair_tuple {x0} {pl pr : Pos} {t0 t1 : T} (hl : Lg ps led₁) (hs : ∀ q ∈ led, q ∈ led₁) (Z : At g outer frs L m ((16, tabObj ps) :: led₁) s.heap) (htk : 0 < s.toks) (h1 : Ev w A g outer frs L m ((16, tabObj ps) :: led₁) env e1 fun r => Rep led₁ r t0) (h2 : Mk w A g outer frs L m ps led₁ env e2 t1)
    (hse : starEach [e1, e2] env = [(false, eval e1 env), (false, eval e2 env)] := by rfl) :
    wpC (model PG w) A (execs [.Return (some (.Tuple [e1, e2] x0 pl)) pr] env) (Ends g outer frs L s (PostG led fun r l => Rep l r (.tup [t0, t1]))) NE s := by
  refine c_execs_cons (c_Return (c_Tuple ?_))
  rw [hse]
  refine c_spliced_cons (h1 frs s _ (SameUp.refl _) Z htk fun x1 h₁ tk₁ frs₁ S₁ Z₁ r1 k₁ => ?_)
  refine c_spliced_cons (h2 frs₁ _ _ S₁ Z₁ k₁ fun D o new h' tk' frs' S Z ne R k => ?_)
  refine c_spliced_nil (wpAny_newObj_type ?_)
  exact pair_fin (.inr ⟨rfl, rfl⟩) hl hs (S₁.trans S) Z ne r1 R k
theorem rep_two {v : Value} {t0 t1 : T} (h : Rep led v (.lst [t0, t1])) : ∃ a v0 v1, v = .ref a ∧ Two led a v0 v1 ∧ Rep led v0 t0 ∧ Rep led v1 t1 := by
  cases h with
  | lst hm hc hd hr => cases hr with | cons ra r2 => cases r2 with | cons rb r3 => cases r3 with | nil => exact ⟨_, _, _, rfl, ⟨_, _, hm, hc, hd⟩, ra, rb⟩
end
section
variable {w : World} {p : Program} {loose : List Str} {mean : ExcName → Option Value} {mg mb : Str → Option Value} {led : List (Addr × Obj)} {kw : List (Str × Value)} {ps : Array Value}
theorem zmpop_legacy_ct {n : Nat} {v : Value} {t0 : T} {t1 : Nat → T} {q : Nat → Int} (hn : n ≤ 1000) (hq : ∀ i, Qok (q i)) (hl : Lg ps led) (h : Rep led v (.lst [t0, .lst ((List.range n).map fun i => .lst [t1 i, .flt (F4 (q i))])])) :
    Ct false w p loose mean mg mb (.ref 126) [v] [] 5 ((16, tabObj ps) :: led) (PostG led fun r l => Rep l r (.lst [t0, .lst ((List.range n).map fun i => .lst [t1 i, .by (Wt (q i))])])) := by
  (refine fill_aux ?_; k_fill; intro _ _)
  obtain ⟨a, w0, w1, rfl, h2, r0, rl⟩ := rep_two h
  obtain ⟨a1, v₁, v₂, rfl, PA, hv⟩ := rep_pairs (tp := T.lst) (.inl rfl) rl
  refine' ct_opts ?ho ?hcd ?P (by simp) (by simp) (by simp) (by decide) ?k1 ?k2 ?hnd ?hco ?hgen ?hk ?h
  ( (case ho => k_is); (case hcd => k_is); (case P => exact ⟨rfl, rfl, rfl, rfl, rfl⟩); (case k1 => rfl); (case k2 => rfl); (case hnd => decide); (case hco => rfl); (case hgen => rfl); (case hk => rfl))
  refine body_opts hl fun dp un gd outer frs g L D o cells s G Z hl hsm hdo Y lo hd hu htk => ?_
  cases Y
  have hs0 : ∀ q ∈ led, q ∈ (D, o) :: led := fun q hq => .tail _ hq
  have hs1 : ∀ q ∈ led, q ∈ (16, tabObj ps) :: (D, o) :: led := fun q hq => .tail _ (hs0 q hq)
  refine c_execs_cons (.any (guard_n (p9 := ⟨0, 0, 0, 0⟩) (led := (D, o) :: led) (v := .ref a) rfl Z.F.ns (Z.perm fun q hq => .tail _ hq).news optM_resp (h2.tru.mono hs0) rfl (fun tk Q hQ => n_local Z.F.ns optM_resp hQ rfl rfl) rfl (fun tk htk' => ?_)))
  refine pair_list (s := { s with toks := tk }) hl hs0 Z (Nat.lt_of_lt_of_le htk htk') ((h2.mono hs1).sub0 (Pv := fun x => Rep _ x t0) (r0.mono hs0) rfl rfl rfl rfl) fun frs₁ s₁ Q S₁ Z₁ ht₁ hQ => ?_
  have h2' := h2.mono hs1
  obtain ⟨oa, k, o1, o2, o3⟩ := h2'.of
  refine comp_pairs (s := s₁) rfl (by decide) (PA.mono hs1) Z₁ ht₁ rfl (by decide) rfl (by decide) (by decide) hn (fun Q k' => sub_const (its := [w0, .ref a1]) Z₁.F.ns rfl rfl rfl (by decide) ⟨oa, Z₁.toks _ o1, o2, k, o3⟩ (by decide) (by decide) rfl (k' _ (Nat.le_succ _)))
      (ts := fun i => .lst [t1 i, .by (Wt (q i))]) (fun i hi => ?_) (fun D' h₂ tk₂ ys new frs₂ S₂ Z₂ ne R k₂ => hQ D' _ new h₂ tk₂ frs₂ S₂ Z₂ ne (rep_comp R) k₂)
  obtain ⟨r1, r2⟩ := hv i hi
  refine elt_list2 (Ev.cvar (P := fun m₂ => m₂ _ = some (v₁ i) ∧ m₂ _ = some (v₂ i)) (fun m₂ hm => hm.1) (r1.mono hs1) rfl rfl) fun X C oX m₂ hX hC hN hP => ?_
  refine (Ev.resp2 (mean := mean) (hq i) (fun frs₂ s₂ Q Z₂ k => nG Z₂.F G.X (topRead_of G.T) (n61 w) k rfl rfl rfl) (Ev.cvar (P := fun m₂ => m₂ _ = some (v₁ i) ∧ m₂ _ = some (v₂ i)) (fun m₂ hm => hm.2) (rep_flt r2) rfl rfl (by decide) X C oX m₂ hX hC hN hP) G rfl rfl (by omega) (by omega)).weak fun x hx => ?_
  obtain ⟨u, rfl⟩ := hx
  exact .by _ _
theorem zmpop_unified_ct {n : Nat} {v : Value} {t0 : T} {t1 : Nat → T} {q : Nat → Int} (hn : n ≤ 1000) (hq : ∀ i, Qok (q i)) (hl : Lg ps led) (h : Rep led v (.lst [t0, .lst ((List.range n).map fun i => .lst [t1 i, .by (Wt (q i))])])) :
    Ct false w p loose mean mg mb (.ref 131) [v] [] 5 ((16, tabObj ps) :: led) (PostG led fun r l => Rep l r (.lst [t0, .lst ((List.range n).map fun i => .lst [t1 i, .flt (F4 (q i))])])) := by
  (refine fill_aux ?_; k_fill; intro _ _)
  obtain ⟨a, w0, w1, rfl, h2, r0, rl⟩ := rep_two h
  obtain ⟨a1, v₁, v₂, rfl, PA, hv⟩ := rep_pairs (tp := T.lst) (.inl rfl) rl
  refine' ct_opts ?ho ?hcd ?P (by simp) (by simp) (by simp) (by decide) ?k1 ?k2 ?hnd ?hco ?hgen ?hk ?h
  ( (case ho => k_is); (case hcd => k_is); (case P => exact ⟨rfl, rfl, rfl, rfl, rfl⟩); (case k1 => rfl); (case k2 => rfl); (case hnd => decide); (case hco => rfl); (case hgen => rfl); (case hk => rfl))
  refine body_opts hl fun dp un gd outer frs g L D o cells s G Z hl hsm hdo Y lo hd hu htk => ?_
  cases Y
  have hs0 : ∀ q ∈ led, q ∈ (D, o) :: led := fun q hq => .tail _ hq
  have hs1 : ∀ q ∈ led, q ∈ (16, tabObj ps) :: (D, o) :: led := fun q hq => .tail _ (hs0 q hq)
  refine c_execs_cons (.any (guard_n (p9 := ⟨0, 0, 0, 0⟩) (led := (D, o) :: led) (v := .ref a) rfl Z.F.ns (Z.perm fun q hq => .tail _ hq).news optM_resp (h2.tru.mono hs0) rfl (fun tk Q hQ => n_local Z.F.ns optM_resp hQ rfl rfl) rfl (fun tk htk' => ?_)))
  refine pair_list (s := { s with toks := tk }) hl hs0 Z (Nat.lt_of_lt_of_le htk htk') ((h2.mono hs1).sub0 (Pv := fun x => Rep _ x t0) (r0.mono hs0) rfl rfl rfl rfl) fun frs₁ s₁ Q S₁ Z₁ ht₁ hQ => ?_
  have h2' := h2.mono hs1
  obtain ⟨oa, k, o1, o2, o3⟩ := h2'.of
  refine comp_pairs (s := s₁) rfl (by decide) (PA.mono hs1) Z₁ ht₁ rfl (by decide) rfl (by decide) (by decide) hn (fun Q k' => sub_const (its := [w0, .ref a1]) Z₁.F.ns rfl rfl rfl (by decide) ⟨oa, Z₁.toks _ o1, o2, k, o3⟩ (by decide) (by decide) rfl (k' _ (Nat.le_succ _)))
      (ts := fun i => .lst [t1 i, .flt (F4 (q i))]) (fun i hi => ?_) (fun D' h₂ tk₂ ys new frs₂ S₂ Z₂ ne R k₂ => hQ D' _ new h₂ tk₂ frs₂ S₂ Z₂ ne (rep_comp R) k₂)
  obtain ⟨r1, r2⟩ := hv i hi
  refine elt_list2 (Ev.cvar (P := fun m₂ => m₂ _ = some (v₁ i) ∧ m₂ _ = some (v₂ i)) (fun m₂ hm => hm.1) (r1.mono hs1) rfl rfl) fun X C oX m₂ hX hC hN hP => ?_
  refine (Ev.float (hq i) (fun frs₂ s₂ Q Z₂ k => nB Z₂.F G.X (topRead_of G.T) (nfloat w) (by decide +kernel) (by decide) k rfl rfl rfl rfl) (Ev.cvar (P := fun m₂ => m₂ _ = some (v₁ i) ∧ m₂ _ = some (v₂ i)) (fun m₂ hm => hm.2) (.inl (rep_by r2)) rfl rfl (by decide) X C oX m₂ hX hC hN hP)).weak fun x hx => ?_
  obtain ⟨u, hu0, rfl⟩ := hx
  exact .flt _ _ hu0 (F4_cmp (hq i))
end
end Mine
end
section
open PySem PySem.W PyProof.Rows PySem.Calls PySem.Flt
open PyProof.Rows.TI (Frs SameUp)
open PyProof.Rows.LCg (lst NsObj)
set_option maxRecDepth 100000
set_option maxHeartbeats 400000
namespace Mine
section
variable {w : World} {p : Program} {loose : List Str} {mean : ExcName → Option Value} {mg mb : Str → Option Value} {A : Around} {g : Heap} {outer : List Env} {frs : List (Addr × Obj)} {L : Addr} {m : Str → Option Value} {led led₁ : List (Addr × Obj)} {env cenv : Env} {e e1 e2 e3 elt iter : Expr} {Pv Pa : Value → Prop} {s : Shared} {scope : Scope} {cl : List (Str × Addr)} {kw : List (Str × Value)} {ps : Array Value}
structure LstAt (led : List (Addr × Obj)) (a : Addr) (vs : List Value) : Prop where
  of : ∃ oa n, (a, oa) ∈ led ∧ oa.cls = .type "list" ∧ oa.data = .seq vs.toArray n
theorem LstAt.mono {a : Addr} {vs : List Value} {led' : List (Addr × Obj)} (x : LstAt led a vs) (hs : ∀ q ∈ led, q ∈ led') : LstAt led' a vs := by
  obtain ⟨oa, n, h1, h2, h3⟩ := x.of
  exact ⟨oa, n, hs _ h1, h2, h3⟩
theorem LstAt.tru {a : Addr} {vs : List Value} (x : LstAt led a vs) (hz : vs.length < 2 ^ 62) : Tru w led (.ref a) (!vs.isEmpty) := by
  obtain ⟨oa, n, h1, h2, h3⟩ := x.of
  exact tru_lst h1 h2 h3 hz
theorem LstAt.sub {a : Addr} {vs : List Value} {v : Value} {x : Str} {i : Int} {p1 p2 p3 : Pos} {kk : Nat} (y : LstAt led a vs) (hi : vs[i.toNat]? = some v) (hP : Pv v) (hr : m x = some (.ref a)) (hL : env.locals = L) (hfn : env.scope.kind = .function) (lr : env.kindOf x = some .local) (h0 : 0 ≤ i := by decide) (h1 : i < 2 ^ 63 := by decide) (hd : (x == ("__debug__" : Str)) = false := by decide) :
    Ev w A g outer frs L m led env (.Subscript (.Name x p1) (.Constant (.int i) kk p2) p3) Pv := by
  obtain ⟨oa, n, h1', h2, h3⟩ := y.of
  exact Ev.leaf (fun frs₁ s Q Z htk k => sub_const (its := vs) (by rw [hL]; exact Z.F.ns) hr hfn lr hd ⟨oa, Z.toks _ h1', h2, n, h3⟩ h0 h1 hi (k _ (Nat.le_succ _))) hP
theorem tri_fin {t0 t1 t2 : T} {x0 x1 x2 : Value} {h' : Heap} {tk' : Tok} {frs' : List (Addr × Obj)} {T' : String} {tp : List T → T} (hT : (T' = "list" ∧ tp = T.lst) ∨ (T' = "tuple" ∧ tp = T.tup)) (hl : Lg ps led₁) (hs : ∀ q ∈ led, q ∈ led₁) (S : SameUp frs frs')
    (Z : At g outer frs' L m ((16, tabObj ps) :: led₁) h') (r0 : Rep led₁ x0 t0) (r1 : Rep led₁ x1 t1) (r2 : Rep led₁ x2 t2) (k : 0 < tk') :
    Ends g outer frs L s (PostG led fun r l => Rep l r (tp [t0, t1, t2])) (.ret (.ref h'.objs.size)) { s with heap := h'.push { cls := .type T', dict := none, data := .seq [x0, x1, x2].toArray }, toks := tk' } := by
  have Z₂ := Z.push { cls := .type T', dict := none, data := .seq [x0, x1, x2].toArray }
  have lo : ∀ q ∈ (16, tabObj ps) :: led₁, h'.objs.size ≠ q.1 := fun q hq => Nat.ne_of_gt (Heap.lt_size (Z.N q (List.mem_append_left _ hq)).1)
  have rr : Reps ((h'.objs.size, { cls := .type T', dict := none, data := .seq [x0, x1, x2].toArray }) :: led₁) [x0, x1, x2] [t0, t1, t2] := .cons (r0.mono fun q hq => .tail _ hq) (.cons (r1.mono fun q hq => .tail _ hq) (.cons (r2.mono fun q hq => .tail _ hq) .nil))
  refine ends_comp (new := []) hl hs S Z₂ (fun y hy q hq => ?_) k ?_
  · rw [List.mem_singleton.mp hy]; exact lo q hq
  · rcases hT with ⟨rfl, rfl⟩ | ⟨rfl, rfl⟩
    · exact .lst (vs := [x0, x1, x2]) (.head _) rfl rfl rr
    · exact .tup (vs := [x0, x1, x2]) (.head _) rfl rfl rr
theorem tri_list {pl pr : Pos} {t0 t1 t2 : T} (hl : Lg ps led₁) (hs : ∀ q ∈ led, q ∈ led₁) (Z : At g outer frs L m ((16, tabObj ps) :: led₁) s.heap) (htk : 0 < s.toks) (h1 : Ev w A g outer frs L m ((16, tabObj ps) :: led₁) env e1 fun r => Rep led₁ r t0) (h2 : Ev w A g outer frs L m ((16, tabObj ps) :: led₁) env e2 fun r => Rep led₁ r t1) (h3 : Ev w A g outer frs L m ((16, tabObj ps) :: led₁) env e3 fun r => Rep led₁ r t2)
    (hse : starEach [e1, e2, e3] env = [(false, eval e1 env), (false, eval e2 env), (false, eval e3 env)] := by rfl) :
    wpC (model PG w) A (execs [.Return (some (.List [e1, e2, e3] pl)) pr] env) (Ends g outer frs L s (PostG led fun r l => Rep l r (.lst [t0, t1, t2]))) NE s := by
  refine c_execs_cons (c_Return (c_List ?_))
  rw [hse]
  refine c_spliced_cons (h1 frs s _ (SameUp.refl _) Z htk fun x1 h₁ tk₁ frs₁ S₁ Z₁ r1 k₁ => ?_)
  refine c_spliced_cons (h2 frs₁ _ _ S₁ Z₁ k₁ fun x2 h₂ tk₂ frs₂ S₂ Z₂ r2 k₂ => ?_)
  refine c_spliced_cons (h3 frs₂ _ _ (S₁.trans S₂) Z₂ k₂ fun x3 h₃ tk₃ frs₃ S₃ Z₃ r3 k₃ => ?_)
  refine c_spliced_nil (wpAny_newObj_type ?_)
  exact tri_fin (.inl ⟨rfl, rfl⟩) hl hs ((S₁.trans S₂).trans S₃) Z₃ r1 r2 r3 k₃
theorem tri_tuple {x0} {pl pr : Pos} {t0 t1 t2 : T} (hl : Lg ps led₁) (hs : ∀ q ∈ led, q ∈ led₁) (Z : At g outer frs L m ((16, tabObj ps) :: led₁) s.heap) (htk : 0 < s.toks) (h1 : Ev w A g outer frs L m ((16, tabObj ps) :: led₁) env e1 fun r => Rep led₁ r t0) (h2 : Ev w A g outer frs L m ((16, tabObj ps) :: led₁) env e2 fun r => Rep led₁ r t1) (h3 : Ev w A g outer frs L m ((16, tabObj ps) :: led₁) env e3 fun r => Rep led₁ r t2)
    (hse : starEach [e1, e2, e3] env = [(false, eval e1 env), (false, eval e2 env), (false, eval e3 env)] := by rfl) :
    wpC (model PG w) A (execs [.Return (some (.Tuple [e1, e2, e3] x0 pl)) pr] env) (Ends g outer frs L s (PostG led fun r l => Rep l r (.tup [t0, t1, t2]))) NE s := by
  refine c_execs_cons (c_Return (c_Tuple ?_))
  rw [hse]
  refine c_spliced_cons (h1 frs s _ (SameUp.refl _) Z htk fun x1 h₁ tk₁ frs₁ S₁ Z₁ r1 k₁ => ?_)
  refine c_spliced_cons (h2 frs₁ _ _ S₁ Z₁ k₁ fun x2 h₂ tk₂ frs₂ S₂ Z₂ r2 k₂ => ?_)
  refine c_spliced_cons (h3 frs₂ _ _ (S₁.trans S₂) Z₂ k₂ fun x3 h₃ tk₃ frs₃ S₃ Z₃ r3 k₃ => ?_)
  refine c_spliced_nil (wpAny_newObj_type ?_)
  exact tri_fin (.inr ⟨rfl, rfl⟩) hl hs ((S₁.trans S₂).trans S₃) Z₃ r1 r2 r3 k₃
theorem rep_three {v : Value} {t0 t1 t2 : T} (h : Rep led v (.lst [t0, t1, t2])) : ∃ a v0 v1 v2, v = .ref a ∧ LstAt led a [v0, v1, v2] ∧ Rep led v0 t0 ∧ Rep led v1 t1 ∧ Rep led v2 t2 := by
  cases h with
  | lst hm hc hd hr => cases hr with | cons ra r2 => cases r2 with | cons rb r3 => cases r3 with | cons rc r4 => cases r4 with | nil => exact ⟨_, _, _, _, rfl, ⟨_, _, hm, hc, hd⟩, ra, rb, rc⟩
end
section
variable {w : World} {p : Program} {loose : List Str} {mean : ExcName → Option Value} {mg mb : Str → Option Value} {led : List (Addr × Obj)} {kw : List (Str × Value)} {ps : Array Value}
theorem bzpop_unified_ct {v : Value} {t0 t1 ti : T} {q : Int} (hq : Qok q) (hl : Lg ps led) (hti : ti = .by (Wt q) ∨ ti = .flt (F4 q)) (h : Rep led v (.lst [t0, t1, ti])) :
    Ct false w p loose mean mg mb (.ref 114) [v] [] 5 ((16, tabObj ps) :: led) (PostG led fun r l => Rep l r (.lst [t0, t1, .flt (F4 q)])) := by
  (refine fill_aux ?_; k_fill; intro _ _)
  obtain ⟨a, w0, w1, w2, rfl, h2, r0, r1, r2⟩ := rep_three h
  refine' ct_opts ?ho ?hcd ?P (by simp) (by simp) (by simp) (by decide) ?k1 ?k2 ?hnd ?hco ?hgen ?hk ?h
  ( (case ho => k_is); (case hcd => k_is); (case P => exact ⟨rfl, rfl, rfl, rfl, rfl⟩); (case k1 => rfl); (case k2 => rfl); (case hnd => decide); (case hco => rfl); (case hgen => rfl); (case hk => rfl))
  refine body_opts hl fun dp un gd outer frs g L D o cells s G Z hl hsm hdo Y lo hd hu htk => ?_
  cases Y
  have hs0 : ∀ q ∈ led, q ∈ (D, o) :: led := fun q hq => .tail _ hq
  have hs1 : ∀ q ∈ led, q ∈ (16, tabObj ps) :: (D, o) :: led := fun q hq => .tail _ (hs0 q hq)
  refine c_execs_cons (.any (guard_n (p9 := ⟨0, 0, 0, 0⟩) (led := (D, o) :: led) (v := .none) rfl Z.F.ns (Z.perm fun q hq => .tail _ hq).news optM_resp ((h2.tru (by simp)).mono hs0) rfl (fun tk Q hQ => Constant_none hQ) rfl (fun tk htk' => ?_)))
  have h2' := h2.mono hs1
  refine tri_list (s := { s with toks := tk }) hl hs0 Z (Nat.lt_of_lt_of_le htk htk') (h2'.sub rfl (r0.mono hs0) rfl rfl rfl rfl) (h2'.sub rfl (r1.mono hs0) rfl rfl rfl rfl) ?_
  have hx : (∃ u, w2 = .bytes (Wt q) u) ∨ ∃ u, u ≠ 0 ∧ w2 = .float (F4 q) u := by
    rcases hti with rfl | rfl
    · exact .inl (rep_by r2)
    · exact .inr (rep_flt r2)
  refine Ev.weak (Ev.float hq (fun frs₂ s₂ Q Z₂ k => nB Z₂.F G.X (topRead_of G.T) (nfloat w) (by decide +kernel) (by decide) k rfl rfl rfl rfl) (h2'.sub rfl hx rfl rfl rfl rfl)) fun x hx => ?_
  · obtain ⟨u, hu0, rfl⟩ := hx
    exact .flt _ _ hu0 (F4_cmp hq)
theorem bzpop_legacy_ct {v : Value} {t0 t1 ti : T} {q : Int} (hq : Qok q) (hl : Lg ps led) (hti : ti = .by (Wt q) ∨ ti = .flt (F4 q)) (h : Rep led v (.lst [t0, t1, ti])) :
    Ct false w p loose mean mg mb (.ref 121) [v] [] 5 ((16, tabObj ps) :: led) (PostG led fun r l => Rep l r (.tup [t0, t1, .flt (F4 q)])) := by
  (refine fill_aux ?_; k_fill; intro _ _)
  obtain ⟨a, w0, w1, w2, rfl, h2, r0, r1, r2⟩ := rep_three h
  refine' ct_opts ?ho ?hcd ?P (by simp) (by simp) (by simp) (by decide) ?k1 ?k2 ?hnd ?hco ?hgen ?hk ?h
  ( (case ho => k_is); (case hcd => k_is); (case P => exact ⟨rfl, rfl, rfl, rfl, rfl⟩); (case k1 => rfl); (case k2 => rfl); (case hnd => decide); (case hco => rfl); (case hgen => rfl); (case hk => rfl))
  refine body_opts hl fun dp un gd outer frs g L D o cells s G Z hl hsm hdo Y lo hd hu htk => ?_
  cases Y
  have hs0 : ∀ q ∈ led, q ∈ (D, o) :: led := fun q hq => .tail _ hq
  have hs1 : ∀ q ∈ led, q ∈ (16, tabObj ps) :: (D, o) :: led := fun q hq => .tail _ (hs0 q hq)
  refine c_execs_cons (.any (guard_n (p9 := ⟨0, 0, 0, 0⟩) (led := (D, o) :: led) (v := .none) rfl Z.F.ns (Z.perm fun q hq => .tail _ hq).news optM_resp ((h2.tru (by simp)).mono hs0) rfl (fun tk Q hQ => Constant_none hQ) rfl (fun tk htk' => ?_)))
  have h2' := h2.mono hs1
  refine tri_tuple (s := { s with toks := tk }) hl hs0 Z (Nat.lt_of_lt_of_le htk htk') (h2'.sub rfl (r0.mono hs0) rfl rfl rfl rfl) (h2'.sub rfl (r1.mono hs0) rfl rfl rfl rfl) ?_
  have hx : (∃ u, w2 = .bytes (Wt q) u) ∨ ∃ u, u ≠ 0 ∧ w2 = .float (F4 q) u := by
    rcases hti with rfl | rfl
    · exact .inl (rep_by r2)
    · exact .inr (rep_flt r2)
  refine Ev.weak (Ev.float hq (fun frs₂ s₂ Q Z₂ k => nB Z₂.F G.X (topRead_of G.T) (nfloat w) (by decide +kernel) (by decide) k rfl rfl rfl rfl) (h2'.sub rfl hx rfl rfl rfl rfl)) fun x hx => ?_
  · obtain ⟨u, hu0, rfl⟩ := hx
    exact .flt _ _ hu0 (F4_cmp hq)
theorem bzpop_unified_none (hl : Lg ps led) : Ct false w p loose mean mg mb (.ref 114) [.none] [] 5 ((16, tabObj ps) :: led) (PostG led fun r l => r = .none) := by
  (refine fill_aux ?_; k_fill; intro _ _)
  refine' ct_opts ?ho ?hcd ?P (by simp) (by simp) (by simp) (by decide) ?k1 ?k2 ?hnd ?hco ?hgen ?hk ?h
  ( (case ho => k_is); (case hcd => k_is); (case P => exact ⟨rfl, rfl, rfl, rfl, rfl⟩); (case k1 => rfl); (case k2 => rfl); (case hnd => decide); (case hco => rfl); (case hgen => rfl); (case hk => rfl))
  refine body_opts hl fun dp un gd outer frs g L D o cells s G Z hl hsm hdo Y lo hd hu htk => ?_
  cases Y
  have hs0 : ∀ q ∈ led, q ∈ (D, o) :: led := fun q hq => .tail _ hq
  refine c_execs_cons (.any (guard_n (p9 := ⟨0, 0, 0, 0⟩) (led := (D, o) :: led) (v := .none) rfl Z.F.ns (Z.perm fun q hq => .tail _ hq).news optM_resp (tru_none.mono hs0) rfl (fun tk Q hQ => Constant_none hQ) rfl (fun tk htk' => ?_)))
  exact ends_same hl hs0 Z (Nat.lt_of_lt_of_le htk htk') rfl
theorem pairs_back {r : Value} {b c : Bool} (ht : Tru w led r b) (hc : valueAt kw ("withscores" : Str) = if c then some (.bool true) else none) (hbc : (b && c) = false) (hn : (kw.map (·.1)).Nodup) (hr : ∀ x ∈ kw, x.1 ≠ ("response" : Str)) (hz : kw.length ≤ 4) :
    Ct false w p loose mean mg mb (.ref 28) [r] kw 1 led (fun r' l => r' = r ∧ l = led) := by
  (refine fill_aux ?_; k_fill; intro _ _)
  refine' ct_opts ?ho ?hcd ?P hn hr hz (by decide) ?k1 ?k2 ?hnd ?hco ?hgen ?hk ?h
  ( (case ho => k_is); (case hcd => k_is); (case P => exact ⟨rfl, rfl, rfl, rfl, rfl⟩); (case k1 => rfl); (case k2 => rfl); (case hnd => decide); (case hco => rfl); (case hgen => rfl); (case hk => rfl))
  exact back_k ht hc hbc rfl rfl rfl rfl
theorem pairs_resp3_back {r : Value} {b c : Bool} (ht : Tru w led r b) (hc : valueAt kw ("withscores" : Str) = if c then some (.bool true) else none) (hbc : (b && c) = false) (hn : (kw.map (·.1)).Nodup) (hr : ∀ x ∈ kw, x.1 ≠ ("response" : Str)) (hz : kw.length ≤ 4) :
    Ct false w p loose mean mg mb (.ref 47) [r] kw 1 led (fun r' l => r' = r ∧ l = led) := by
  (refine fill_aux ?_; k_fill; intro _ _)
  refine' ct_opts ?ho ?hcd ?P hn hr hz (by decide) ?k1 ?k2 ?hnd ?hco ?hgen ?hk ?h
  ( (case ho => k_is); (case hcd => k_is); (case P => exact ⟨rfl, rfl, rfl, rfl, rfl⟩); (case k1 => rfl); (case k2 => rfl); (case hnd => decide); (case hco => rfl); (case hgen => rfl); (case hk => rfl))
  exact back_k ht hc hbc rfl rfl rfl rfl
theorem pairs_legacy_back {r : Value} {b c : Bool} (ht : Tru w led r b) (hc : valueAt kw ("withscores" : Str) = if c then some (.bool true) else none) (hbc : (b && c) = false) (hn : (kw.map (·.1)).Nodup) (hr : ∀ x ∈ kw, x.1 ≠ ("response" : Str)) (hz : kw.length ≤ 4) :
    Ct false w p loose mean mg mb (.ref 66) [r] kw 1 led (fun r' l => r' = r ∧ l = led) := by
  (refine fill_aux ?_; k_fill; intro _ _)
  refine' ct_opts ?ho ?hcd ?P hn hr hz (by decide) ?k1 ?k2 ?hnd ?hco ?hgen ?hk ?h
  ( (case ho => k_is); (case hcd => k_is); (case P => exact ⟨rfl, rfl, rfl, rfl, rfl⟩); (case k1 => rfl); (case k2 => rfl); (case hnd => decide); (case hco => rfl); (case hgen => rfl); (case hk => rfl))
  exact back_k ht hc hbc rfl rfl rfl rfl
theorem flat_back {r : Value} {b c : Bool} (ht : Tru w led r b) (hc : valueAt kw ("withscores" : Str) = if c then some (.bool true) else none) (hbc : (b && c) = false) (hn : (kw.map (·.1)).Nodup) (hr : ∀ x ∈ kw, x.1 ≠ ("response" : Str)) (hz : kw.length ≤ 4) :
    Ct false w p loose mean mg mb (.ref 73) [r] kw 1 led (fun r' l => r' = r ∧ l = led) := by
  (refine fill_aux ?_; k_fill; intro _ _)
  refine' ct_opts ?ho ?hcd ?P hn hr hz (by decide) ?k1 ?k2 ?hnd ?hco ?hgen ?hk ?h
  ( (case ho => k_is); (case hcd => k_is); (case P => exact ⟨rfl, rfl, rfl, rfl, rfl⟩); (case k1 => rfl); (case k2 => rfl); (case hnd => decide); (case hco => rfl); (case hgen => rfl); (case hk => rfl))
  exact back_k ht hc hbc rfl rfl rfl rfl
theorem pairs_unified_back {r : Value} {b c : Bool} (ht : Tru w led r b) (hc : valueAt kw ("withscores" : Str) = if c then some (.bool true) else none) (hbc : (b && c) = false) (hn : (kw.map (·.1)).Nodup) (hr : ∀ x ∈ kw, x.1 ≠ ("response" : Str)) (hz : kw.length ≤ 4) :
    Ct false w p loose mean mg mb (.ref 85) [r] kw 1 led (fun r' l => r' = r ∧ l = led) := by
  (refine fill_aux ?_; k_fill; intro _ _)
  refine' ct_opts ?ho ?hcd ?P hn hr hz (by decide) ?k1 ?k2 ?hnd ?hco ?hgen ?hk ?h
  ( (case ho => k_is); (case hcd => k_is); (case P => exact ⟨rfl, rfl, rfl, rfl, rfl⟩); (case k1 => rfl); (case k2 => rfl); (case hnd => decide); (case hco => rfl); (case hgen => rfl); (case hk => rfl))
  exact back_k ht hc hbc rfl rfl rfl rfl
end
end Mine
end
section
open PySem PySem.W PyProof.Rows PySem.Calls
set_option maxRecDepth 100000
namespace Mine
/-- the objects of a zip of one iterator with itself are apart -/
structure ZA (z TI TO i l : Addr) : Prop where
  a : TI ≠ z
  b : TO ≠ z
  c : i ≠ z
  d : TI ≠ TO
  e : TI ≠ i
  f : TO ≠ i
  g : l ≠ z
  j : l ≠ TO
  k : l ≠ i
section
variable {prog : Program} {w : World} {A : Around} {E : Value → Shared → Prop} {s : Shared}
theorem zs_item {z TI TO i l : Addr} {n : Nat} {xs : Array Value} {x y a b : Value} {Q : Value → Shared → Prop} (D : ZA z TI TO i l)
    (hz : IsZip s.heap z TI TO .none) (hTI : IsPair s.heap TI (.ref i) (.ref i)) (hTO : IsPair s.heap TO a b) (hi : s.heap.IsListIter i l n) (hl : s.heap.IsList l xs) (hx : xs[n]? = some x) (hy : xs[n + 1]? = some y)
    (hQ : ∀ h', IsZip h' z TI TO (rawInt s.heap.objs.size) → IsPair h' TO x y → h'.IsListIter i l (n + 2) → IsPair h' s.heap.objs.size x y →
      (∀ c o, c ≠ z → c ≠ TO → c ≠ i → s.heap.get? c = some o → h'.get? c = some o) → Q (.ref s.heap.objs.size) { s with heap := h' }) :
    wpAny (model prog w) A (Builtin.«zip.__next__» ⟨[.ref z], []⟩) (fun fin s' => ∃ v, fin = .done (.ret v) ∧ Q v s') E s := by
  show wpAny _ _ (field (.ref z) 2 >>= _) _ _ _
  refine wpAny_bind (wpAny_field hz rfl (x := .bool false) rfl ?_)
  show wpAny _ _ (field (.ref z) 3 >>= _) _ _ _
  refine wpAny_bind (wpAny_field hz rfl (x := .ref TI) rfl ?_)
  refine wpAny_bind (wpAny_seqItems hTI rfl ?_)
  show wpAny _ _ (Builtin.SmallTypes.ownedTupleIsFree (.ref z) >>= _) _ _ _
  refine wpAny_bind ?_
  unfold Builtin.SmallTypes.ownedTupleIsFree
  refine wpAny_bind (wpAny_field hz rfl (x := .none) rfl (wpAny_pure ?_))
  simp only [if_true]
  refine wpAny_bind (wpAny_rule ?_)
  refine wpAny_bind (wpAny_field hz rfl (x := .ref TO) rfl ?_)
  refine wpAny_bind (wpAny_setField_rec hz (by simp) fun h₁ hz₁ s1 => ?_)
  replace hz₁ : IsZip h₁ z TI TO .ellipsis := hz₁
  refine wpAny_bind ?_
  simp only [List.zipIdx_cons, List.zipIdx_nil, List.forIn_cons, List.forIn_nil]
  refine wpAny_bind (wpAny_bind (wpAny_onRaise ?_))
  show wpAny _ _ (Builtin.SmallTypes.nextOf (.ref i) >>= _) _ _ _
  refine wpAny_bind (wpAny_nextOf_list_item (hi.extBut s1.extBut D.c) (hl.extBut s1.extBut D.g) hx fun h₂ i2 s2 => wpAny_pure ?_)
  have t2 : IsPair h₂ TO a b := s2.extBut _ _ D.f (s1.extBut _ _ D.b hTO)
  refine wpAny_bind (wpAny_seqItems t2 rfl ?_)
  refine wpAny_bind (wpAny_updateSeq_pair t2 fun h₃ t3 s3 => ?_)
  replace t3 : IsPair h₃ TO x b := t3
  refine wpAny_bind (wpAny_letGo (wpAny_pure ?_))
  refine wpAny_bind (wpAny_bind (wpAny_onRaise ?_))
  show wpAny _ _ (Builtin.SmallTypes.nextOf (.ref i) >>= _) _ _ _
  refine wpAny_bind (wpAny_nextOf_list_item (i2.extBut s3.extBut D.f.symm) (((hl.extBut s1.extBut D.g).extBut s2.extBut D.k).extBut s3.extBut D.j) hy fun h₄ i4 s4 => wpAny_pure ?_)
  have t4 : IsPair h₄ TO x b := s4.extBut _ _ D.f t3
  refine wpAny_bind (wpAny_seqItems t4 rfl ?_)
  refine wpAny_bind (wpAny_updateSeq_pair t4 fun h₅ t5 s5 => ?_)
  replace t5 : IsPair h₅ TO x y := t5
  refine wpAny_bind (wpAny_letGo (wpAny_pure (wpAny_pure ?_)))
  refine wpAny_bind (wpAny_seqItems t5 rfl ?_)
  refine wpAny_bind (wpAny_newTuple ?_)
  have hsz : h₅.objs.size = s.heap.objs.size := by rw [s5.1, s4.1, s3.1, s2.1, s1.1]
  have z5 : IsZip h₅ z TI TO .ellipsis := s5.extBut _ _ D.b.symm (s4.extBut _ _ D.c.symm (s3.extBut _ _ D.b.symm (s2.extBut _ _ D.c.symm hz₁)))
  have k5 : ∀ c o, c ≠ z → c ≠ TO → c ≠ i → s.heap.get? c = some o → h₅.get? c = some o := fun c o c1 c2 c3 e =>
    s5.extBut _ _ c2 (s4.extBut _ _ c3 (s3.extBut _ _ c2 (s2.extBut _ _ c3 (s1.extBut _ _ c1 e))))
  have i5 : h₅.IsListIter i l (n + 2) := i4.extBut s5.extBut D.f.symm
  have hzlt : z < h₅.objs.size := Heap.lt_size z5
  show wpAny _ _ (Builtin.SmallTypes.ownedTupleHandOut (.ref z) (.ref h₅.objs.size) >>= _) _ _ _
  refine wpAny_bind ?_
  unfold Builtin.SmallTypes.ownedTupleHandOut
  have z6 : IsZip (h₅.push { cls := .type "tuple", data := .seq #[x, y] }) z TI TO .ellipsis := Heap.get?_push_of_some _ z5
  refine wpAny_bind (wpAny_setField_rec z6 (by simp) fun h₇ z7 s7 => ?_)
  replace z7 : IsZip h₇ z TI TO (rawInt h₅.objs.size) := z7
  refine wpAny_setField_rec z7 (by simp) fun h₈ z8 s8 => ?_
  replace z8 : IsZip h₈ z TI TO (rawInt h₅.objs.size) := z8
  have up : ∀ c o, c ≠ z → h₅.get? c = some o → h₈.get? c = some o := fun c o c1 e => s8.extBut _ _ c1 (s7.extBut _ _ c1 (Heap.get?_push_of_some _ e))
  have t8 : IsPair h₈ h₅.objs.size x y := s8.extBut _ _ (Nat.ne_of_gt hzlt) (s7.extBut _ _ (Nat.ne_of_gt hzlt) (Heap.get?_push_size _ rfl))
  rw [hsz] at z8 t8
  refine wpAny_pure ⟨_, rfl, ?_⟩
  show Q (.ref h₅.objs.size) _
  rw [hsz]
  exact hQ h₈ z8 (up _ _ D.b t5) (i5.at fun o e => up _ o D.c e) t8 fun c o c1 c2 c3 e => up c o c1 (k5 c o c1 c2 c3 e)
theorem zs_end {z TI TO i l : Addr} {n : Nat} {xs : Array Value} {a b : Value} {Q : Fin → Shared → Prop} (hh : A.handled = none) (D : ZA z TI TO i l)
    (hz : IsZip s.heap z TI TO .none) (hTI : IsPair s.heap TI (.ref i) (.ref i)) (hTO : IsPair s.heap TO a b) (hi : s.heap.IsListIter i l n) (hl : s.heap.IsList l xs) (hx : xs[n]? = none)
    (hE : ∀ h' e, (∀ c o, c ≠ z → c ≠ TO → c ≠ i → s.heap.get? c = some o → h'.get? c = some o) → (∃ o, h'.get? e = some o ∧ o.cls = .type "StopIteration") → E (.ref e) { s with heap := h' }) :
    wpAny (model prog w) A (Builtin.«zip.__next__» ⟨[.ref z], []⟩) Q E s := by
  show wpAny _ _ (field (.ref z) 2 >>= _) _ _ _
  refine wpAny_bind (wpAny_field hz rfl (x := .bool false) rfl ?_)
  show wpAny _ _ (field (.ref z) 3 >>= _) _ _ _
  refine wpAny_bind (wpAny_field hz rfl (x := .ref TI) rfl ?_)
  refine wpAny_bind (wpAny_seqItems hTI rfl ?_)
  show wpAny _ _ (Builtin.SmallTypes.ownedTupleIsFree (.ref z) >>= _) _ _ _
  refine wpAny_bind ?_
  unfold Builtin.SmallTypes.ownedTupleIsFree
  refine wpAny_bind (wpAny_field hz rfl (x := .none) rfl (wpAny_pure ?_))
  simp only [if_true]
  refine wpAny_bind (wpAny_rule ?_)
  refine wpAny_bind (wpAny_field hz rfl (x := .ref TO) rfl ?_)
  refine wpAny_bind (wpAny_setField_rec hz (by simp) fun h₁ hz₁ s1 => ?_)
  replace hz₁ : IsZip h₁ z TI TO .ellipsis := hz₁
  refine wpAny_bind ?_
  simp only [List.zipIdx_cons, List.zipIdx_nil, List.forIn_cons, List.forIn_nil]
  refine wpAny_bind (wpAny_bind (wpAny_onRaise ?_))
  show wpAny _ _ (Builtin.SmallTypes.nextOf (.ref i) >>= _) _ _ _
  refine wpAny_bind (wpAny_nextOf_list_end hh (hi.extBut s1.extBut D.c) (hl.extBut s1.extBut D.g) hx fun h₂ e s2 he => ?_)
  obtain ⟨oe, hoe, hce⟩ := he
  have hz₂ : IsZip h₂ z TI TO .ellipsis := s2 _ _ D.c.symm hz₁
  have hez : e ≠ z := fun x => by subst x; rw [hz₂] at hoe; cases hoe; simp at hce
  refine wpAny_setField_rec hz₂ (by simp) fun h₃ _ s3 => hE h₃ e (fun c o c1 _ c3 x => s3.extBut _ _ c1 (s2 _ _ c3 (s1.extBut _ _ c1 x))) ⟨oe, s3.extBut _ _ hez hoe, hce⟩
theorem pyNext_zs_item {z TI TO i l : Addr} {n : Nat} {xs : Array Value} {x y a b : Value} {Q : Option Value → Shared → Prop} (D : ZA z TI TO i l)
    (hz : IsZip s.heap z TI TO .none) (hTI : IsPair s.heap TI (.ref i) (.ref i)) (hTO : IsPair s.heap TO a b) (hi : s.heap.IsListIter i l n) (hl : s.heap.IsList l xs) (hx : xs[n]? = some x) (hy : xs[n + 1]? = some y)
    (hQ : ∀ h', IsZip h' z TI TO (rawInt s.heap.objs.size) → IsPair h' TO x y → h'.IsListIter i l (n + 2) → IsPair h' s.heap.objs.size x y →
      (∀ c o, c ≠ z → c ≠ TO → c ≠ i → s.heap.get? c = some o → h'.get? c = some o) → Q (some (.ref s.heap.objs.size)) { s with heap := h' }) :
    wpAny (model prog w) A (pyNext (.ref z)) Q E s := by
  have hT : s.TypeIs (.ref z) "zip" := ⟨_, hz, rfl⟩
  unfold pyNext
  exact wpAny_bind (wpAny_attempt (wpAny_callSpecial?_slot (name := Str.ofString "__next__") hT F.slot_zip_next
    (wpAny_call_entry F.slot_zip_next hT F.entry_zip_next (zs_item D hz hTI hTO hi hl hx hy fun h' a1 a2 a3 a4 a5 => wpAny_pure (hQ h' a1 a2 a3 a4 a5)) (F.args_zip_next_1 _))))
theorem pyNext_zs_end {z TI TO i l : Addr} {n : Nat} {xs : Array Value} {a b : Value} {Q : Option Value → Shared → Prop} (hh : A.handled = none) (D : ZA z TI TO i l)
    (hz : IsZip s.heap z TI TO .none) (hTI : IsPair s.heap TI (.ref i) (.ref i)) (hTO : IsPair s.heap TO a b) (hi : s.heap.IsListIter i l n) (hl : s.heap.IsList l xs) (hx : xs[n]? = none)
    (hQ : ∀ h', (∀ c o, c ≠ z → c ≠ TO → c ≠ i → s.heap.get? c = some o → h'.get? c = some o) → Q none { s with heap := h' }) : wpAny (model prog w) A (pyNext (.ref z)) Q E s := by
  have hT : s.TypeIs (.ref z) "zip" := ⟨_, hz, rfl⟩
  unfold pyNext
  refine wpAny_bind (wpAny_attempt (wpAny_callSpecial?_slot (name := Str.ofString "__next__") hT F.slot_zip_next
    (wpAny_call_entry F.slot_zip_next hT F.entry_zip_next (zs_end hh D hz hTI hTO hi hl hx fun h' e hk he => ?_) (F.args_zip_next_1 _))))
  obtain ⟨o, ho, hc⟩ := he
  refine wpAny_bind (wpAny_isInstance (T := "StopIteration") (b := true) ⟨o, ho, hc⟩ isSubtype_stop ?_)
  exact wpAny_pure (hQ _ hk)
/-- zip(it, it) -/
theorem call_zip_same {i l : Addr} {n : Nat} {Q : Value → Shared → Prop} (hi : s.heap.IsListIter i l n)
    (h : ∀ h', IsZip h' (s.heap.objs.size + 2) s.heap.objs.size (s.heap.objs.size + 1) .none → IsPair h' s.heap.objs.size (.ref i) (.ref i) → IsPair h' (s.heap.objs.size + 1) .none .none → h'.objs.size = s.heap.objs.size + 3 →
      (∀ c o, s.heap.get? c = some o → h'.get? c = some o) → Q (.ref (s.heap.objs.size + 2)) { s with heap := h' }) :
    wpAny (model prog w) A (call (.type "zip") [.ref i, .ref i]) Q E s := by
  refine callType_new F.called_zip (by decide) (F.typeCall_zip_2 _ _) (F.newCall_zip_2 _ _) (fun obj => F.args_object_init_3 obj _ _) F.entry_zip_new
    (meets_zip_new_its i i l n (fun h => h.IsListIter i l n) (fun prog w A E s Q hk hq => wpAny_pyIter_listiter hk hq)) ⟨hi, hi, ?_⟩
  have z1 : (zpH1 s.heap i i).objs.size = s.heap.objs.size + 1 := Heap.size_push ..
  have z2 : (zpH2 s.heap i i).objs.size = s.heap.objs.size + 2 := by rw [Heap.size_push, z1]
  have z3 : (zpH3 s.heap i i).objs.size = s.heap.objs.size + 3 := by rw [Heap.size_push, z2]
  have g3 : (zpH3 s.heap i i).get? (zpH2 s.heap i i).objs.size = some _ := Heap.get?_push_size _ rfl
  have g2 : (zpH3 s.heap i i).get? (zpH1 s.heap i i).objs.size = some _ := Heap.get?_push_of_some _ (Heap.get?_push_size _ rfl)
  have g1 : (zpH3 s.heap i i).get? s.heap.objs.size = some _ := Heap.get?_push_of_some _ (Heap.get?_push_of_some _ (Heap.get?_push_size _ rfl))
  show _ ∧ _
  rw [z1, z2] at g3
  rw [z1] at g2
  rw [z2]
  exact ⟨⟨_, g3, rfl⟩, h _ g3 g1 g2 z3 fun c o x => Heap.get?_push_of_some _ (Heap.get?_push_of_some _ (Heap.get?_push_of_some _ x))⟩
end
end Mine
end
section
open PySem PySem.W PyProof.Rows PySem.Calls PySem.Flt
open PyProof.Rows.TI (Frs SameUp)
open PyProof.Rows.LCg (lst NsObj)
set_option maxRecDepth 100000
set_option maxHeartbeats 400000
namespace Mine
section
variable {prog : Program} {w : World} {A : Around} {E : Value → Shared → Prop} {s : Shared}
theorem call_iter_list {a : Addr} {xs : Array Value} {Q : Value → Shared → Prop} (hl : s.heap.IsList a xs)
    (h : Q (.ref s.heap.objs.size) { s with heap := s.heap.push { cls := .type "list_iterator", dict := none, data := .fields #[.ref a, .int 0 0] } }) : wpAny (model prog w) A (call (.builtin "iter") [.ref a]) Q E s := by
  refine call_function_entry (by decide +kernel) (by decide +kernel) kdk_entry_iter (kdk_args_iter _) ?_
  unfold Builtin.«iter»
  refine wpAny_bind (m := someArgs "iter" 1 2 _) (wpAny_of_eq (a := [Value.ref a]) (by first | rfl | kernel_rfl!) ?_)
  show wpAny _ _ (pyIter (.ref a) >>= _) _ _ _
  exact wpAny_bind (wpAny_pyIter_list hl (wpAny_pure ⟨_, rfl, h⟩))
theorem src_zs {a b : Str} {pa pb tp : Pos} {kk n : Nat} (hh : A.handled = none) (hab : a ≠ b) {z TI TO i l : Addr} (D : ZA z TI TO i l) (xs : Array Value) (v₁ v₂ : Nat → Value) (hn : xs.size = 2 * n) (h1 : ∀ j, j < n → xs[2 * j]? = some (v₁ j)) (h2 : ∀ j, j < n → xs[2 * j + 1]? = some (v₂ j)) :
    Src prog w A (.Tuple [.Name a pa, .Name b pb] kk tp) z [z, TI, TO, i, l] [z, TO, i] n [a, b] (fun j m => m a = some (v₁ j) ∧ m b = some (v₂ j))
      (fun j h => IsZip h z TI TO .none ∧ IsPair h TI (.ref i) (.ref i) ∧ (∃ x y, IsPair h TO x y) ∧ h.IsListIter i l (2 * j) ∧ h.IsList l xs) where
  sub := fun c hc => by simp at hc ⊢; rcases hc with rfl | rfl | rfl <;> simp
  frame := fun j h h' st hk => by
    obtain ⟨s1, s2, ⟨x, y, s3⟩, s4, s5⟩ := st
    exact ⟨hk z (by simp) _ s1, hk TI (by simp) _ s2, ⟨x, y, hk TO (by simp) _ s3⟩, s4.at fun o e => hk i (by simp) o e, s5.at fun o e => hk l (by simp) o e⟩
  live := fun j h st c hc => by
    obtain ⟨s1, s2, ⟨x, y, s3⟩, ⟨o4, s4, _⟩, ⟨o5, s5, _⟩⟩ := st
    simp at hc
    rcases hc with rfl | rfl | rfl | rfl | rfl
    · exact ⟨_, s1⟩
    · exact ⟨_, s2⟩
    · exact ⟨_, s3⟩
    · exact ⟨_, s4⟩
    · exact ⟨_, s5⟩
  turn := fun j s cenv m₀ Q hj st hkind hloc hCf hnn hQ => by
    obtain ⟨s1, s2, ⟨x, y, s3⟩, s4, s5⟩ := st
    have ka := hloc a (by simp)
    have kb := hloc b (by simp)
    have hp : (cenv.scope.kind == .class || (cenv.scope.kind == .module && cenv.locals != cenv.globals)) = false := by rw [hkind]; rfl
    have hCz : cenv.locals ≠ z ∧ cenv.locals ≠ TI ∧ cenv.locals ≠ TO ∧ cenv.locals ≠ i ∧ cenv.locals ≠ l := by simpa using hCf
    refine pyNext_zs_item D s1 s2 s3 s4 s5 (h1 j hj) (h2 j hj) fun h' z1 t1 i1 p1 k1 => ?_
    show wpAny _ _ (letOwnedTupleGo _ (.ref z) (.ref s.heap.objs.size)) _ _ _
    refine wpAny_letOwnedTupleGo_zip z1 fun h₂ z2 hs2 => ?_
    have hzlt : z < s.heap.objs.size := Heap.lt_size s1
    have p2 : IsTup h₂ s.heap.objs.size #[v₁ j, v₂ j] := ⟨_, hs2.extBut _ _ (Nat.ne_of_gt hzlt) p1, rfl, _, rfl⟩
    have k2 : ∀ c o, c ≠ z → c ≠ TO → c ≠ i → s.heap.get? c = some o → h₂.get? c = some o := fun c o c1 c2 c3 e => hs2.extBut _ _ c1 (k1 c o c1 c2 c3 e)
    have t2 : IsPair h₂ TO (v₁ j) (v₂ j) := hs2.extBut _ _ D.b t1
    have i2 : h₂.IsListIter i l (2 * j + 2) := i1.extBut hs2.extBut D.c
    refine assign_Tuple_tuple hh p2 rfl rfl fun h₃ he => ?_
    have he' : ∀ c o, h₂.get? c = some o → h₃.get? c = some o := fun c o e => he c o (Nat.ne_of_lt (Heap.lt_size e)) e
    refine assignInOrder_cons (wpAny_assign_Name (wpAny_storeName_local ka (hnn.at' fun o e => he' _ o (k2 _ o hCz.1 hCz.2.2.1 hCz.2.2.2.1 e)) (fun h₄ hn₄ hs₄ => ?_) hp))
    refine assignInOrder_cons (wpAny_assign_Name (wpAny_storeName_local kb hn₄ (fun h₅ hn₅ hs₅ => ?_) hp))
    refine assignInOrder_nil ?_
    have up : ∀ c o, c ≠ cenv.locals → h₂.get? c = some o → h₅.get? c = some o := fun c o hc e => hs₅.extBut c o hc (hs₄.extBut c o hc (he' c o e))
    refine hQ h₅ _ _ hn₅ ⟨by simp [hab], by simp⟩ (fun x hx => ?_) ⟨up _ _ hCz.1.symm z2, up _ _ hCz.2.1.symm (k2 _ _ D.a D.d D.e s2), ⟨_, _, up _ _ hCz.2.2.1.symm t2⟩, i2.at fun o e => up _ o hCz.2.2.2.1.symm e, s5.at fun o e => up _ o hCz.2.2.2.2.symm (k2 _ o D.g D.j D.k e)⟩
      fun c o hc hc' e => up c o hc' (k2 c o (fun q => hc (by simp [q])) (fun q => hc (by simp [q])) (fun q => hc (by simp [q])) e)
    have h1 : x ≠ b := fun q => hx (by simp [q])
    have h2 : x ≠ a := fun q => hx (by simp [q])
    simp [h1, h2]
  done := fun s Q st hQ => by
    obtain ⟨s1, s2, ⟨x, y, s3⟩, s4, s5⟩ := st
    exact pyNext_zs_end hh D s1 s2 s3 s4 s5 (by rw [Array.getElem?_eq_none]; omega) fun h' k => hQ h' s.toks fun b o hb e => k b o (fun q => hb (by simp [q])) (fun q => hb (by simp [q])) (fun q => hb (by simp [q])) e
  self := fun _ _ _ st hQ => wpAny_pyIter_zip st.1 hQ
end
end Mine
end
section
open PySem PySem.W PyProof.Rows PySem.Calls PySem.Flt
open PyProof.Rows.TI (Frs SameUp)
open PyProof.Rows.LCg (lst NsObj)
set_option maxRecDepth 100000
set_option maxHeartbeats 400000
namespace Mine
section
variable {w : World} {p : Program} {loose : List Str} {mean : ExcName → Option Value} {mg mb : Str → Option Value} {A : Around} {g : Heap} {outer : List Env} {frs : List (Addr × Obj)} {L : Addr} {m : Str → Option Value} {led led₁ : List (Addr × Obj)} {env cenv : Env} {e e1 e2 e3 elt iter : Expr} {Pv Pa : Value → Prop} {s : Shared} {scope : Scope} {cl : List (Str × Addr)} {kw : List (Str × Value)} {ps : Array Value}
theorem nzip (w : World) : nsIn (hd.heap_39 w.params) mainGlobals ("zip" : Str) = some none := by kernel_rfl
theorem niter (w : World) : nsIn (hd.heap_39 w.params) mainGlobals ("iter" : Str) = some none := by kernel_rfl
/-- a list's iterator, ahead of its first item -/
def ItAt (oI : Obj) (a : Addr) : Prop := oI.cls = .type "list_iterator" ∧ oI.data = .fields #[.ref a, .int 0 0]
theorem At.keeps {h h' : Heap} (Z : At g outer frs L m led h) (hk : ∀ b o, h.get? b = some o → h'.get? b = some o) : At g outer frs L m led h' :=
  Z.away (W := []) (fun b o _ e => hk b o e) List.not_mem_nil (fun _ hb => absurd hb List.not_mem_nil) (fun _ _ => List.not_mem_nil) fun _ _ => List.not_mem_nil
/-- `it = iter(x)` -/
theorem c_iter {x : Str} {a : Addr} {vs : List Value} {p1 p2 p3 p4 : Pos} {Q : Flow → Shared → Prop} (G : Gd w p loose mean mg mb g) (Z : At g outer frs L m led s.heap) (y : LstAt led a vs) (hx : ∀ Q : Value → Shared → Prop, Q (.ref a) s → wpAny (model PG w) A (eval e env) Q NE s)
    (hL : env.locals = L) (hgl : env.globals = mainGlobals) (hbl : env.builtins = builtinsNs) (hk : env.scope.kind = .function) (ki : env.kindOf ("iter" : Str) = some .globalImplicit) (kt : env.kindOf x = some .local)
    (hq : ∀ I oI h' tk', ItAt oI a → (∀ q ∈ led, q.1 ≠ I) → At g outer frs L (fun z => if z = x then some (.ref I) else m z) ((I, oI) :: led) h' → 0 < tk' → Q .next { s with heap := h', toks := tk' })
    (hsw : swapsWith (.Call (.Name "iter" p1) [e] [] p2) (some (.Name x p3)) p4.line env = pure false := by rfl) (hse : starEach [e] env = [(false, eval e env)] := by rfl) :
    wpC (model PG w) A (exec (.Assign [.Name x p3] (.Call (.Name "iter" p1) [e] [] p2) p4) env) Q NE s := by
  have TR := topRead_of G.T
  obtain ⟨oa, k, h1, h2, h3⟩ := y.of
  refine c_Assign (.any (Call_name1 hse (nB Z.F G.X TR (niter w) (v := .builtin "iter") (by decide +kernel) (by decide) ?_ hgl hbl hk ki))) hsw
  refine callWith_builtin1 (hx _ ?_)
  refine call_iter_list (xs := vs.toArray) ⟨oa, Z.toks _ h1, h2, k, h3⟩ ?_
  have Z₂ := Z.push { cls := .type "list_iterator", dict := none, data := .fields #[.ref a, .int 0 0] }
  subst hL
  refine wpAny_storeName_local kt Z₂.F.ns (fun h₂ hn hs₂ => ?_) (by rw [hk]; rfl)
  exact hq _ _ h₂ _ ⟨rfl, rfl⟩ (fun q hq => Nat.ne_of_lt (Heap.lt_size (Z.N q (List.mem_append_left _ hq)).1)) (Z₂.set hn hs₂) (Nat.succ_pos _)
/-- a comprehension over zip(it, it) -/
theorem comp_zip {na nb it : Str} {pa pb tp pos q1 q2 q3 q4 : Pos} {kk n : Nat} {I a : Addr} {oI : Obj} {vs : List Value} {v₁ v₂ : Nat → Value} {ts : Nat → T} {Q : Value → Shared → Prop} (hh : A.handled = none) (hab : na ≠ nb) (G : Gd w p loose mean mg mb g) (x : LstAt led a vs) (hv : vs.length = 2 * n) (hv1 : ∀ j, j < n → vs[2 * j]? = some (v₁ j)) (hv2 : ∀ j, j < n → vs[2 * j + 1]? = some (v₂ j))
    (Z : At g outer frs L m ((I, oI) :: led) s.heap) (hI : ItAt oI a) (hIl : ∀ q ∈ led, q.1 ≠ I) (hm : m it = some (.ref I)) (htk : 0 < s.toks) (hL : env.locals = L) (hgl : env.globals = mainGlobals) (hbl : env.builtins = builtinsNs) (hfn : env.scope.kind = .function) (kz : env.kindOf ("zip" : Str) = some .globalImplicit) (kt : env.kindOf it = some .local) (hdt : (it == ("__debug__" : Str)) = false)
    (hclos : closureFor scope env = pure cl) (hcell : ∀ y ∈ scope.names, y.2 ≠ .cell) (hkind : scope.kind = .function) (hnames : ∀ y ∈ scope.names, y.2 = .local → scope.names.lookup y.1 = some .local) (hloc : ∀ y ∈ [na, nb], scope.names.lookup y = some .local) (hsz : n ≤ 1000)
    (helt : ∀ i, i < n → EltK PG w A g outer frs L m env elt scope cl s led (fun m₂ => m₂ na = some (v₁ i) ∧ m₂ nb = some (v₂ i)) (ts i))
    (hQ : ∀ D h tk ys new frs', SameUp frs frs' → At g outer frs' L m ((D, lst ys) :: (new ++ led)) h → (∀ p ∈ (D, lst ys) :: new, ∀ q ∈ led, p.1 ≠ q.1) → Reps (new ++ led) ys ((List.range n).map ts) → 0 < tk → Q (.ref D) { s with heap := h, toks := tk })
    (hs : ∀ x, foldedSetIterable (.Call (.Name "zip" q1) [.Name it q2, .Name it q3] [] q4) env x = pure x := by intro _; rfl) :
    wpC (model PG w) A (eval (.ListComp elt [⟨.Tuple [.Name na pa, .Name nb pb] kk tp, .Call (.Name "zip" q1) [.Name it q2, .Name it q3] [] q4, [], 0⟩] scope pos) env) Q NE s := by
  obtain ⟨oa, k, h1, h2, h3⟩ := x.of
  have TR := topRead_of G.T
  subst hL
  refine k_ListComp (g := g) (outer := outer) (frs := frs) (L := env.locals) (m := m) (led := led) (n := n) (ts := ts) hclos hcell hkind hnames (Nat.le_trans hsz (by rw [sizeLine_eq]; decide)) ?_ hs
  refine c_Call1 (nB Z.F G.X TR (nzip w) (v := .type "zip") (by decide +kernel) (by decide) ?_ hgl hbl hfn kz)
  refine c_spliced_cons (.any (n_local Z.F.ns hm ?_ hfn kt hdt))
  refine c_spliced_cons (.any (n_local Z.F.ns hm ?_ hfn kt hdt))
  refine c_spliced_nil ⟨⟨.machine, .inr rfl, keeper_type⟩, ?_⟩
  have hIt : s.heap.IsListIter I a 0 := ⟨oI, Z.toks _ (.head _), hI.1, hI.2⟩
  have hLt : s.heap.IsList a vs.toArray := ⟨oa, Z.toks _ (.tail _ h1), h2, k, h3⟩
  refine .any (call_zip_same hIt fun h' z1 t1 o1 sz hk => ?_)
  refine wpAny_pyIter_zip z1 ?_
  refine ⟨?_, fun D h tk ys new frs' S' Z' o1 o2 R k => hQ D h tk ys new frs' S' Z' o1 R k⟩
  have Zl : At g outer frs env.locals m led s.heap := Z.perm fun q hq => .tail _ hq
  have lt : ∀ q ∈ (I, oI) :: led, q.1 < s.heap.objs.size := fun q hq => Heap.lt_size (Z.toks q hq)
  have ltI : I < s.heap.objs.size := lt _ (.head _)
  have lta : a < s.heap.objs.size := lt _ (.tail _ h1)
  have hIa : a ≠ I := hIl _ h1
  have up : ∀ {x y : Nat}, x < y → (x : Addr) ≠ y := fun h => Nat.ne_of_lt h
  have D : ZA (s.heap.objs.size + 2) s.heap.objs.size (s.heap.objs.size + 1) I a :=
    ⟨up (by omega), up (by omega), up (Nat.lt_of_lt_of_le ltI (by omega)), up (by omega), (up ltI).symm, (up (Nat.lt_of_lt_of_le ltI (by omega))).symm, up (Nat.lt_of_lt_of_le lta (by omega)), up (Nat.lt_of_lt_of_le lta (by omega)), hIa⟩
  have hsz2 : ∀ b, s.heap.objs.size ≤ b → b < s.heap.objs.size + 3 → (∃ o, h'.get? b = some o) → (∃ o, h'.get? b = some o) ∧ b ≠ env.locals ∧ g.get? b = none ∧ ∀ q ∈ frs, b ≠ q.1 := fun b hb _ ho =>
    ⟨ho, Nat.ne_of_gt (Nat.lt_of_lt_of_le Z.F.ns.lt hb), Heap.get?_none_of_le (Nat.le_trans Z.F.above (Nat.le_trans (Nat.le_of_lt Z.F.ns.lt) hb)), fun q hq => Nat.ne_of_gt (Nat.lt_of_lt_of_le (Heap.lt_size (Z.N q (List.mem_append_right _ hq)).1) hb)⟩
  have mem : ∀ q ∈ (I, oI) :: led, (∃ o, h'.get? q.1 = some o) ∧ q.1 ≠ env.locals ∧ g.get? q.1 = none ∧ ∀ y ∈ frs, q.1 ≠ y.1 := fun q hq =>
    ⟨⟨_, hk _ _ (Z.toks q hq)⟩, (Z.N q (List.mem_append_left _ hq)).2.1, (Z.N q (List.mem_append_left _ hq)).2.2, Z.ap q hq⟩
  refine ⟨s.heap.objs.size + 2, _, _, _, _, _, rfl, src_zs (kk := kk) hh hab D vs.toArray v₁ v₂ (by rw [List.size_toArray, hv]) (fun j hj => by rw [List.getElem?_toArray]; exact hv1 j hj) (fun j hj => by rw [List.getElem?_toArray]; exact hv2 j hj), hloc,
    ⟨z1, t1, ⟨_, _, o1⟩, hIt.at fun o e => hk _ o e, hLt.at fun o e => hk _ o e⟩, fun b hb => ?_, Zl.keeps hk, fun q hq hw => ?_, htk, helt⟩
  · simp only [List.mem_cons, List.not_mem_nil, or_false] at hb
    rcases hb with rfl | rfl | rfl | rfl | rfl
    · exact hsz2 _ (by omega) (by omega) ⟨_, z1⟩
    · exact hsz2 _ (by omega) (by omega) ⟨_, t1⟩
    · exact hsz2 _ (by omega) (by omega) ⟨_, o1⟩
    · exact mem _ (.head _)
    · exact mem _ (.tail _ h1)
  · have := lt q (.tail _ hq)
    simp only [List.mem_cons, List.not_mem_nil, or_false] at hw
    rcases hw with hw | hw | hw
    · exact up (Nat.lt_of_lt_of_le this (by omega)) hw
    · exact up (Nat.lt_of_lt_of_le this (by omega)) hw
    · exact hIl q hq hw
/-- a flat row's data -/
theorem rep_flat {v : Value} {n : Nat} {t1 t2 : Nat → T} (h : Rep led v (.lst ((List.range n).flatMap fun i => [t1 i, t2 i]))) : ∃ (a : Addr) (vs : List Value) (v₁ v₂ : Nat → Value), v = .ref a ∧ LstAt led a vs ∧ vs.length = 2 * n ∧ ∀ i, i < n → (vs[2 * i]? = some (v₁ i) ∧ vs[2 * i + 1]? = some (v₂ i)) ∧ Rep led (v₁ i) (t1 i) ∧ Rep led (v₂ i) (t2 i) := by
  cases h with
  | lst hm hc hd hr =>
    rename_i a o vs k
    have hlen : ∀ n : Nat, ((List.range n).flatMap fun i => [t1 i, t2 i]).length = 2 * n := fun n => by
      induction n with
      | zero => rfl
      | succ n ih => rw [List.range_succ, List.flatMap_append, List.length_append, ih]; simp; omega
    have hget : ∀ n i : Nat, i < n → ((List.range n).flatMap fun i => [t1 i, t2 i])[2 * i]? = some (t1 i) ∧ ((List.range n).flatMap fun i => [t1 i, t2 i])[2 * i + 1]? = some (t2 i) := fun n => by
      induction n with
      | zero => intro i hi; omega
      | succ n ih =>
        intro i hi
        rw [List.range_succ, List.flatMap_append]
        by_cases h : i < n
        · rw [List.getElem?_append_left (by rw [hlen]; omega), List.getElem?_append_left (by rw [hlen]; omega)]
          exact ih i h
        · obtain rfl : i = n := by omega
          rw [List.getElem?_append_right (by rw [hlen]; omega), List.getElem?_append_right (by rw [hlen]; omega), hlen]
          simp
    have hl : vs.length = 2 * n := by rw [hr.length, hlen]
    refine ⟨a, vs, fun i => (vs[2 * i]?).getD .none, fun i => (vs[2 * i + 1]?).getD .none, rfl, ⟨o, k, hm, hc, hd⟩, hl, fun i hi => ?_⟩
    have b1 : 2 * i < vs.length := by omega
    have b2 : 2 * i + 1 < vs.length := by omega
    obtain ⟨g1, g2⟩ := hget n i hi
    have r1 := hr.get (2 * i) b1 (by rw [hlen]; omega)
    have r2 := hr.get (2 * i + 1) b2 (by rw [hlen]; omega)
    rw [List.getElem?_eq_getElem (by rw [hlen]; omega)] at g1 g2
    rw [Option.some.inj g1] at r1
    rw [Option.some.inj g2] at r2
    dsimp only
    rw [List.getElem?_eq_getElem b1, List.getElem?_eq_getElem b2]
    exact ⟨⟨rfl, rfl⟩, r1, r2⟩
end
end Mine
end
section
open PySem PySem.W PyProof.Rows PySem.Calls PySem.Flt
open PyProof.Rows.TI (Frs SameUp)
open PyProof.Rows.LCg (lst NsObj)
set_option maxRecDepth 100000
set_option maxHeartbeats 400000
namespace Mine
section
variable {w : World} {p : Program} {loose : List Str} {mean : ExcName → Option Value} {mg mb : Str → Option Value} {led : List (Addr × Obj)} {kw : List (Str × Value)} {ps : Array Value}
theorem pairs_unified_ct {way n : Nat} {v : Value} {t1 : Nat → T} {q : Nat → Int} (hn : n ≤ 1000) (hq : ∀ i, Qok (q i)) (hl : Lg ps led) (h : Rep led v (.lst ((List.range n).flatMap fun i => [t1 i, .by (Wt (q i))]))) (H : Asked kw way) (hc : valueAt kw ("withscores" : Str) = some (.bool true)) :
    Ct false w p loose mean mg mb (.ref 85) [v] kw 5 ((16, tabObj ps) :: led) (PostG led fun r l => Rep l r (.lst ((List.range n).map fun i => .lst [t1 i, newT way (q i)]))) := by
  (refine fill_aux ?_; k_fill; intro _ _)
  obtain ⟨a, vs, v₁, v₂, rfl, LA, hvl, hv⟩ := rep_flat h
  refine' ct_opts ?ho ?hcd ?P H.nd H.nr H.sz (by decide) ?k1 ?k2 ?hnd ?hco ?hgen ?hk ?h
  ( (case ho => k_is); (case hcd => k_is); (case P => exact ⟨rfl, rfl, rfl, rfl, rfl⟩); (case k1 => rfl); (case k2 => rfl); (case hnd => decide); (case hco => rfl); (case hgen => rfl); (case hk => rfl))
  refine body_opts hl fun dp un gd outer frs g L D o cells s G Z hl hsm hdo Y lo hd hu htk => ?_
  obtain ⟨oC, rfl, hoC⟩ := CellsAre.one Y
  have hs0 : ∀ q ∈ led, q ∈ (L + 1, oC) :: (D, o) :: led := fun q hq => .tail _ (.tail _ hq)
  refine c_execs_cons (.any (guard_k (led := (L + 1, oC) :: (D, o) :: led) (b := !vs.isEmpty) (c := true) ⟨rfl, rfl, optM_opt, .tail _ (.head _), hdo, hsm⟩ Z.F.ns (Z.perm fun q hq => .tail _ hq).news optM_resp ((LA.tru (by omega)).mono hs0) rfl hc (fun tk htk' => ?_) (by decide)))
  by_cases hn0 : n = 0
  · subst hn0
    have e : vs = [] := List.length_eq_zero_iff.mp (by omega)
    subst e
    exact ends_same hl hs0 Z (Nat.lt_of_lt_of_le htk htk') (h.mono hs0)
  · have e : (!vs.isEmpty) = true := by cases vs with | nil => simp at hvl; omega | cons _ _ => rfl
    rw [e]
    refine c_execs_cons (c_wrapCell (p := p) (loose := loose) (mean := mean) (mg := mg) (mb := mb) (led := (D, o) :: led) (s := { s with toks := tk }) H.w3 G Z hl ⟨rfl, rfl, optM_opt, .head _, hdo, hsm⟩ hoC (lo (L + 1, oC) (.head _)) rfl H.sc rfl rfl rfl (by omega) (by omega) (Nat.lt_of_lt_of_le htk htk') (by decide) rfl fun f h₁ tk₁ frs₁ ps₁ led₁ oC' S₁ Z₁ hl₁ hs₁ hoC' hc₁ ht₁ => ?_)
    have sub1 : ∀ q ∈ led, q ∈ (L + 1, oC') :: led₁ := fun q hq => .tail _ (hs₁ q (.tail _ hq))
    have sub2 : ∀ q ∈ led, q ∈ (16, tabObj ps₁) :: (L + 1, oC') :: led₁ := fun q hq => .tail _ (sub1 q hq)
    have hE := hc₁.mono (led' := (16, tabObj ps₁) :: (L + 1, oC') :: led₁) fun q hq => .tail _ (.tail _ hq)
    refine c_ends (s := s) S₁ ?_
    refine c_execs_cons (c_iter (mean := mean) (s := { s with heap := h₁, toks := tk₁ }) G Z₁ (LA.mono sub2) (fun Q k => n_local Z₁.F.ns rfl k rfl rfl) rfl rfl rfl rfl rfl rfl fun I oI h₂ tk₂ hI hIl Z₂ ht₂ => ?_)
    refine c_execs_cons (c_Return (comp_zip (s := { s with heap := h₂, toks := tk₂ }) rfl (by decide) G (LA.mono sub2) hvl (fun j hj => (hv j hj).1.1) (fun j hj => (hv j hj).1.2) Z₂ hI hIl rfl ht₂ rfl rfl rfl rfl rfl rfl (by decide) rfl (by decide) rfl (by decide) (by decide) hn
      (ts := fun i => .lst [t1 i, newT way (q i)]) (fun i hi => ?_) (fun D' h₃ tk₃ ys new frs₃ S₃ Z₃ ne R k₃ => ends_comp (s := { s with heap := h₁, toks := tk₁ }) hl₁ sub1 S₃ Z₃ ne k₃ (rep_comp R))))
    obtain ⟨_, r1, r2⟩ := hv i hi
    refine elt_list2 (Ev.cvar (P := fun m₂ => m₂ _ = some (v₁ i) ∧ m₂ _ = some (v₂ i)) (fun m₂ hm => hm.1) (r1.mono sub2) rfl rfl) fun X C oX m₂ hX hC hN hP => ?_
    have hE' := hE.mono hX
    refine Ev.weak (Ev.call (f := f) (d := 3) (Pa := fun x => ∃ u, u ≠ 0 ∧ x = .float (F4 (q i)) u) (fun frs₂ s₂ Q Z₂ k => n_cell (c := L + 1) ⟨oC', Z₂.toks _ (hX _ (.tail _ (.head _))), hoC'⟩ k rfl rfl rfl) hE'.keep
      (Ev.float (hq i) (fun frs₂ s₂ Q Z₂ k => nB Z₂.F G.X (topRead_of G.T) (nfloat w) (by decide +kernel) (by decide) k rfl rfl rfl rfl) (Ev.cvar (P := fun m₂ => m₂ _ = some (v₁ i) ∧ m₂ _ = some (v₂ i)) (fun m₂ hm => hm.2) (.inl (rep_by r2)) rfl rfl (by decide) X C oX m₂ hX hC hN hP))
      (fun x hx => by obtain ⟨u, hu, rfl⟩ := hx; exact hE'.flt _ (fun _ y => y) (q i) u (hq i) hu) G rfl rfl (by omega) (by omega)) fun v hv => hv.mono fun _ x => absurd x List.not_mem_nil
theorem zpop_unified_ct {way n : Nat} {v : Value} {t1 : Nat → T} {q : Nat → Int} (hn : n ≤ 1000) (hq : ∀ i, Qok (q i)) (hl : Lg ps led) (h : Rep led v (.lst ((List.range n).flatMap fun i => [t1 i, .by (Wt (q i))]))) (H : Asked kw way) :
    Ct false w p loose mean mg mb (.ref 97) [v] kw 5 ((16, tabObj ps) :: led) (PostG led fun r l => Rep l r (.lst ((List.range n).map fun i => .lst [t1 i, newT way (q i)]))) := by
  (refine fill_aux ?_; k_fill; intro _ _)
  obtain ⟨a, vs, v₁, v₂, rfl, LA, hvl, hv⟩ := rep_flat h
  refine' ct_opts ?ho ?hcd ?P H.nd H.nr H.sz (by decide) ?k1 ?k2 ?hnd ?hco ?hgen ?hk ?h
  ( (case ho => k_is); (case hcd => k_is); (case P => exact ⟨rfl, rfl, rfl, rfl, rfl⟩); (case k1 => rfl); (case k2 => rfl); (case hnd => decide); (case hco => rfl); (case hgen => rfl); (case hk => rfl))
  refine body_opts hl fun dp un gd outer frs g L D o cells s G Z hl hsm hdo Y lo hd hu htk => ?_
  obtain ⟨oC, rfl, hoC⟩ := CellsAre.one Y
  have hs0 : ∀ q ∈ led, q ∈ (L + 1, oC) :: (D, o) :: led := fun q hq => .tail _ (.tail _ hq)
  refine c_execs_cons (.any (guard_n (p9 := ⟨0, 0, 0, 0⟩) (led := (L + 1, oC) :: (D, o) :: led) (v := .ref a) rfl Z.F.ns (Z.perm fun q hq => .tail _ hq).news optM_resp ((LA.tru (by omega)).mono hs0) rfl (fun tk Q hQ => n_local Z.F.ns optM_resp hQ rfl rfl) rfl (fun tk htk' => ?_)))
  by_cases hn0 : n = 0
  · subst hn0
    have e : vs = [] := List.length_eq_zero_iff.mp (by omega)
    subst e
    exact ends_same hl hs0 Z (Nat.lt_of_lt_of_le htk htk') (h.mono hs0)
  · have e : (!vs.isEmpty) = true := by cases vs with | nil => simp at hvl; omega | cons _ _ => rfl
    rw [e]
    refine c_execs_cons (c_wrapCell (p := p) (loose := loose) (mean := mean) (mg := mg) (mb := mb) (led := (D, o) :: led) (s := { s with toks := tk }) H.w3 G Z hl ⟨rfl, rfl, optM_opt, .head _, hdo, hsm⟩ hoC (lo (L + 1, oC) (.head _)) rfl H.sc rfl rfl rfl (by omega) (by omega) (Nat.lt_of_lt_of_le htk htk') (by decide) rfl fun f h₁ tk₁ frs₁ ps₁ led₁ oC' S₁ Z₁ hl₁ hs₁ hoC' hc₁ ht₁ => ?_)
    have sub1 : ∀ q ∈ led, q ∈ (L + 1, oC') :: led₁ := fun q hq => .tail _ (hs₁ q (.tail _ hq))
    have sub2 : ∀ q ∈ led, q ∈ (16, tabObj ps₁) :: (L + 1, oC') :: led₁ := fun q hq => .tail _ (sub1 q hq)
    have hE := hc₁.mono (led' := (16, tabObj ps₁) :: (L + 1, oC') :: led₁) fun q hq => .tail _ (.tail _ hq)
    refine c_ends (s := s) S₁ ?_
    refine c_execs_cons (c_iter (mean := mean) (s := { s with heap := h₁, toks := tk₁ }) G Z₁ (LA.mono sub2) (fun Q k => n_local Z₁.F.ns rfl k rfl rfl) rfl rfl rfl rfl rfl rfl fun I oI h₂ tk₂ hI hIl Z₂ ht₂ => ?_)
    refine c_execs_cons (c_Return (comp_zip (s := { s with heap := h₂, toks := tk₂ }) rfl (by decide) G (LA.mono sub2) hvl (fun j hj => (hv j hj).1.1) (fun j hj => (hv j hj).1.2) Z₂ hI hIl rfl ht₂ rfl rfl rfl rfl rfl rfl (by decide) rfl (by decide) rfl (by decide) (by decide) hn
      (ts := fun i => .lst [t1 i, newT way (q i)]) (fun i hi => ?_) (fun D' h₃ tk₃ ys new frs₃ S₃ Z₃ ne R k₃ => ends_comp (s := { s with heap := h₁, toks := tk₁ }) hl₁ sub1 S₃ Z₃ ne k₃ (rep_comp R))))
    obtain ⟨_, r1, r2⟩ := hv i hi
    refine elt_list2 (Ev.cvar (P := fun m₂ => m₂ _ = some (v₁ i) ∧ m₂ _ = some (v₂ i)) (fun m₂ hm => hm.1) (r1.mono sub2) rfl rfl) fun X C oX m₂ hX hC hN hP => ?_
    have hE' := hE.mono hX
    refine Ev.weak (Ev.call (f := f) (d := 3) (Pa := fun x => ∃ u, u ≠ 0 ∧ x = .float (F4 (q i)) u) (fun frs₂ s₂ Q Z₂ k => n_cell (c := L + 1) ⟨oC', Z₂.toks _ (hX _ (.tail _ (.head _))), hoC'⟩ k rfl rfl rfl) hE'.keep
      (Ev.float (hq i) (fun frs₂ s₂ Q Z₂ k => nB Z₂.F G.X (topRead_of G.T) (nfloat w) (by decide +kernel) (by decide) k rfl rfl rfl rfl) (Ev.cvar (P := fun m₂ => m₂ _ = some (v₁ i) ∧ m₂ _ = some (v₂ i)) (fun m₂ hm => hm.2) (.inl (rep_by r2)) rfl rfl (by decide) X C oX m₂ hX hC hN hP))
      (fun x hx => by obtain ⟨u, hu, rfl⟩ := hx; exact hE'.flt _ (fun _ y => y) (q i) u (hq i) hu) G rfl rfl (by omega) (by omega)) fun v hv => hv.mono fun _ x => absurd x List.not_mem_nil
end
end Mine
end
section
open PySem PySem.W PyProof.Rows PySem.Calls PySem.Flt
open PyProof.Rows.TI (Frs SameUp)
open PyProof.Rows.LCg (lst NsObj)
set_option maxRecDepth 100000
set_option maxHeartbeats 400000
namespace Mine
section
variable {w : World} {p : Program} {loose : List Str} {mean : ExcName → Option Value} {mg mb : Str → Option Value} {A : Around} {g : Heap} {outer : List Env} {frs : List (Addr × Obj)} {L : Addr} {m : Str → Option Value} {led led₁ : List (Addr × Obj)} {env cenv : Env} {e : Expr} {s : Shared}
/-- `a, b = x` of a list of two -/
theorem c_assignPair {na nb : Str} {pa pb tp pos : Pos} {kk : Nat} {a : Addr} {v0 v1 : Value} {Q : Flow → Shared → Prop} (hh : A.handled = none) (Z : At g outer frs L m led s.heap) (y : Two led a v0 v1) (hx : ∀ Q : Value → Shared → Prop, Q (.ref a) s → wpAny (model PG w) A (eval e env) Q NE s)
    (hL : env.locals = L) (hk : env.scope.kind = .function) (ka : env.kindOf na = some .local) (kb : env.kindOf nb = some .local)
    (hq : ∀ h' tk', At g outer frs L (fun z => if z = nb then some v1 else if z = na then some v0 else m z) led h' → 0 < tk' → Q .next { s with heap := h', toks := tk' })
    (hs : swapsWithSole [.Tuple [.Name na pa, .Name nb pb] kk tp] e pos.line env = pure false := by rfl) (hw : swappedStores [.Tuple [.Name na pa, .Name nb pb] kk tp] e env = pure none := by rfl) :
    wpC (model PG w) A (exec (.Assign [.Tuple [.Name na pa, .Name nb pb] kk tp] e pos) env) Q NE s := by
  obtain ⟨oa, k, h1, h2, h3⟩ := y.of
  subst hL
  have hp : (env.scope.kind == .class || (env.scope.kind == .module && env.locals != env.globals)) = false := by rw [hk]; rfl
  refine .any (Assign_Tuple (hx _ ?_) hs hw)
  refine assign_Tuple_list hh (items := #[v0, v1]) ⟨oa, Z.toks _ h1, h2, k, h3⟩ rfl rfl fun h₂ he => ?_
  have Z₂ := Z.keeps fun b o q => he b o (Nat.ne_of_lt (Heap.lt_size q)) q
  refine assignInOrder_cons (wpAny_assign_Name (wpAny_storeName_local ka Z₂.F.ns (fun h₄ hn₄ hs₄ => ?_) hp))
  have Z₄ := Z₂.set hn₄ hs₄
  refine assignInOrder_cons (wpAny_assign_Name (wpAny_storeName_local kb Z₄.F.ns (fun h₅ hn₅ hs₅ => ?_) hp))
  refine assignInOrder_nil ?_
  exact hq h₅ _ (Z₄.set hn₅ hs₅) (Nat.succ_pos _)
end
section
variable {w : World} {p : Program} {loose : List Str} {mean : ExcName → Option Value} {mg mb : Str → Option Value} {led : List (Addr × Obj)} {kw : List (Str × Value)} {ps : Array Value}
theorem pair_tupleX {A : Around} {g : Heap} {outer : List Env} {frs : List (Addr × Obj)} {L : Addr} {m : Str → Option Value} {env : Env} {e1 e2 : Expr} {s : Shared} {led₁ X : List (Addr × Obj)} {x0} {pl pr : Pos} {t0 t1 : T} (hl : Lg ps led₁) (hs : ∀ q ∈ led, q ∈ led₁) (Z : At g outer frs L m X s.heap) (htk : 0 < s.toks) (h1 : Ev w A g outer frs L m X env e1 fun r => Rep led₁ r t0)
    (h2 : ∀ (frs₁ : List (Addr × Obj)) (s : Shared) (Q : Value → Shared → Prop), SameUp frs frs₁ → At g outer frs₁ L m X s.heap → 0 < s.toks →
      (∀ D o new h' tk' frs', SameUp frs₁ frs' → At g outer frs' L m ((D, o) :: (new ++ (16, tabObj ps) :: led₁)) h' → (∀ y ∈ (D, o) :: new, ∀ q ∈ (16, tabObj ps) :: led₁, y.1 ≠ q.1) → Rep ((D, o) :: new ++ led₁) (.ref D) t1 → 0 < tk' → Q (.ref D) { s with heap := h', toks := tk' }) → wpC (model PG w) A (eval e2 env) Q NE s)
    (hse : starEach [e1, e2] env = [(false, eval e1 env), (false, eval e2 env)] := by rfl) :
    wpC (model PG w) A (execs [.Return (some (.Tuple [e1, e2] x0 pl)) pr] env) (Ends g outer frs L s (PostG led fun r l => Rep l r (.tup [t0, t1]))) NE s := by
  refine c_execs_cons (c_Return (c_Tuple ?_))
  rw [hse]
  refine c_spliced_cons (h1 frs s _ (SameUp.refl _) Z htk fun x1 h₁ tk₁ frs₁ S₁ Z₁ r1 k₁ => ?_)
  refine c_spliced_cons (h2 frs₁ _ _ S₁ Z₁ k₁ fun D o new h' tk' frs' S Z ne R k => ?_)
  refine c_spliced_nil (wpAny_newObj_type ?_)
  exact pair_fin (.inr ⟨rfl, rfl⟩) hl hs (S₁.trans S) Z ne r1 R k
theorem nint (w : World) : nsIn (hd.heap_39 w.params) mainGlobals ("int" : Str) = some none := by kernel_rfl
theorem zscan_unified_ct {way n : Nat} {v : Value} {t1 : Nat → T} {q : Nat → Int} (hn : n ≤ 1000) (hq : ∀ i, Qok (q i)) (hl : Lg ps led) (h : Rep led v (.lst [.by (Wt 68), .lst ((List.range n).flatMap fun i => [t1 i, .by (Wt (q i))])])) (H : Asked kw way) :
    Ct false w p loose mean mg mb (.ref 143) [v] kw 5 ((16, tabObj ps) :: led) (PostG led fun r l => Rep l r (.tup [.int 17, .lst ((List.range n).map fun i => .lst [t1 i, newT way (q i)])])) := by
  (refine fill_aux ?_; k_fill; intro _ _)
  obtain ⟨a, w0, w1, rfl, h2, r0, rl⟩ := rep_two h
  obtain ⟨a1, vs, v₁, v₂, rfl, LA, hvl, hv⟩ := rep_flat rl
  obtain ⟨u0, rfl⟩ := rep_by r0
  refine' ct_opts ?ho ?hcd ?P H.nd H.nr H.sz (by decide) ?k1 ?k2 ?hnd ?hco ?hgen ?hk ?h
  ( (case ho => k_is); (case hcd => k_is); (case P => exact ⟨rfl, rfl, rfl, rfl, rfl⟩); (case k1 => rfl); (case k2 => rfl); (case hnd => decide); (case hco => rfl); (case hgen => rfl); (case hk => rfl))
  refine body_opts hl fun dp un gd outer frs g L D o cells s G Z hl hsm hdo Y lo hd hu htk => ?_
  obtain ⟨oC, rfl, hoC⟩ := CellsAre.one Y
  refine c_execs_cons (c_wrapCell (p := p) (loose := loose) (mean := mean) (mg := mg) (mb := mb) (led := (D, o) :: led) (s := s) H.w3 G Z hl ⟨rfl, rfl, optM_opt, .head _, hdo, hsm⟩ hoC (lo (L + 1, oC) (.head _)) rfl H.sc rfl rfl rfl (by omega) (by omega) htk (by decide) rfl fun f h₁ tk₁ frs₁ ps₁ led₁ oC' S₁ Z₁ hl₁ hs₁ hoC' hc₁ ht₁ => ?_)
  have sub1 : ∀ q ∈ led, q ∈ (L + 1, oC') :: led₁ := fun q hq => .tail _ (hs₁ q (.tail _ hq))
  have sub2 : ∀ q ∈ led, q ∈ (16, tabObj ps₁) :: (L + 1, oC') :: led₁ := fun q hq => .tail _ (sub1 q hq)
  have hE := hc₁.mono (led' := (16, tabObj ps₁) :: (L + 1, oC') :: led₁) fun q hq => .tail _ (.tail _ hq)
  refine c_ends (s := s) S₁ ?_
  refine c_execs_cons (c_assignPair (s := { s with heap := h₁, toks := tk₁ }) rfl Z₁ (h2.mono sub2) (fun Q k => n_local Z₁.F.ns rfl k rfl rfl) rfl rfl rfl rfl fun h₂ tk₂ Z₂ ht₂ => ?_)
  refine c_execs_cons (c_iter (mean := mean) (s := { s with heap := h₂, toks := tk₂ }) G Z₂ (LA.mono sub2) (fun Q k => n_local Z₂.F.ns rfl k rfl rfl) rfl rfl rfl rfl rfl rfl fun I oI h₃ tk₃ hI hIl Z₃ ht₃ => ?_)
  refine c_ends (s := { s with heap := h₁, toks := tk₁ }) (SameUp.refl _) (pair_tupleX hl₁ sub1 Z₃ ht₃ (fun frs₄ s₄ Q S₄ Z₄ k₄ hQ => ?_) fun frs₄ s₄ Q S₄ Z₄ k₄ hQ => ?_)
  · refine c_Call1 (nB Z₄.F G.X (topRead_of G.T) (nint w) (v := .type "int") (by decide +kernel) (by decide) ?_ rfl rfl rfl rfl)
    refine c_spliced_cons (.any (n_local Z₄.F.ns rfl ?_ rfl rfl))
    refine c_spliced_nil ⟨⟨.machine, .inr rfl, keeper_type⟩, ?_⟩
    exact .any (call_int_bytes (q := 68) ⟨by decide, by decide⟩ (by decide) (hQ _ s₄.heap _ frs₄ (SameUp.refl _) Z₄ (.int 17 _) (Nat.succ_pos _)))
  · refine comp_zip (s := s₄) rfl (by decide) G (LA.mono sub2) hvl (fun j hj => (hv j hj).1.1) (fun j hj => (hv j hj).1.2) Z₄ hI hIl rfl k₄ rfl rfl rfl rfl rfl rfl (by decide) rfl (by decide) rfl (by decide) (by decide) hn
      (ts := fun i => .lst [t1 i, newT way (q i)]) (fun i hi => ?_) (fun D' h₅ tk₅ ys new frs₅ S₅ Z₅ ne R k₅ => hQ D' _ new h₅ tk₅ frs₅ S₅ Z₅ ne (rep_comp R) k₅)
    obtain ⟨_, r1, r2⟩ := hv i hi
    refine elt_list2 (Ev.cvar (P := fun m₂ => m₂ _ = some (v₁ i) ∧ m₂ _ = some (v₂ i)) (fun m₂ hm => hm.1) (r1.mono sub2) rfl rfl) fun X C oX m₂ hX hC hN hP => ?_
    have hE' := hE.mono hX
    refine Ev.weak (Ev.call (f := f) (d := 3) (Pa := fun x => ∃ u, u ≠ 0 ∧ x = .float (F4 (q i)) u) (fun frs₂ s₂ Q Z₂ k => n_cell (c := L + 1) ⟨oC', Z₂.toks _ (hX _ (.tail _ (.head _))), hoC'⟩ k rfl rfl rfl) hE'.keep
      (Ev.float (hq i) (fun frs₂ s₂ Q Z₂ k => nB Z₂.F G.X (topRead_of G.T) (nfloat w) (by decide +kernel) (by decide) k rfl rfl rfl rfl) (Ev.cvar (P := fun m₂ => m₂ _ = some (v₁ i) ∧ m₂ _ = some (v₂ i)) (fun m₂ hm => hm.2) (.inl (rep_by r2)) rfl rfl (by decide) X C oX m₂ hX hC hN hP))
      (fun x hx => by obtain ⟨u, hu, rfl⟩ := hx; exact hE'.flt _ (fun _ y => y) (q i) u (hq i) hu) G rfl rfl (by omega) (by omega)) fun v hv => hv.mono fun _ x => absurd x List.not_mem_nil
end
end Mine
end
section
open PySem PySem.W PyProof.Rows PySem.Calls PySem.Flt
open PyProof.Rows.TI (Frs SameUp)
open PyProof.Rows.LCg (lst NsObj)
set_option maxRecDepth 100000
set_option maxHeartbeats 400000
namespace Mine
section
variable {prog : Program} {w : World} {A : Around}
theorem src_name {a : Str} {pa : Pos} (hh : A.handled = none) (I ax : Addr) (its : List Value) (hne : ax ≠ I) :
    Src prog w A (.Name a pa) I [I, ax] [I] its.length [a] (fun i m => m a = its[i]?) (fun i h => h.IsListIter I ax i ∧ h.IsList ax its.toArray) where
  sub := fun c hc => by simp at hc; simp [hc]
  frame := fun i h h' st hk => ⟨st.1.at fun o e => hk I (by simp) o e, st.2.at fun o e => hk ax (by simp) o e⟩
  live := fun i h st c hc => by
    obtain ⟨⟨o4, s4, _⟩, ⟨o5, s5, _⟩⟩ := st
    simp at hc
    rcases hc with rfl | rfl
    · exact ⟨_, s4⟩
    · exact ⟨_, s5⟩
  turn := fun i s cenv m₀ Q hi st hkind hloc hCf hn hQ => by
    have ka := hloc a (by simp)
    have hp : (cenv.scope.kind == .class || (cenv.scope.kind == .module && cenv.locals != cenv.globals)) = false := by rw [hkind]; rfl
    have hC : cenv.locals ≠ I ∧ cenv.locals ≠ ax := by simpa using hCf
    refine wpAny_pyNext_list_item st.1 st.2 (x := its[i]) (by simp [hi]) fun h₁ hit₁ hs₁ => ?_
    show wpAny _ _ (letOwnedTupleGo (.Name a pa) (.ref I) its[i]) _ _ _
    refine wpAny_pure ?_
    refine wpAny_assign_Name (wpAny_storeName_local ka (hn.at' fun o e => hs₁.extBut _ o hC.1 e) (fun h₃ hn₃ hs₃ => ?_) hp)
    refine hQ h₃ _ _ hn₃ (by simp [hi]) (fun x hx => ?_) ⟨hit₁.at fun o e => hs₃.extBut _ o hC.1.symm e, (st.2.at fun o e => hs₁.extBut _ o hne e).at fun o e => hs₃.extBut _ o hC.2.symm e⟩ fun c o hc hc' e => hs₃.extBut c o hc' (hs₁.extBut c o (fun q => hc (by simp [q])) e)
    have h1 : x ≠ a := fun q => hx (by simp [q])
    simp [h1]
  done := fun s Q st hQ => wpAny_pyNext_list_end hh st.1 st.2 (by simp) fun h' he' => hQ h' s.toks fun b o hb e => he' b o (fun h => hb (by simp [h])) e
  self := fun _ _ _ st hQ => wpAny_pyIter_listiter st.1 hQ
end
section
variable {w : World} {p : Program} {loose : List Str} {mean : ExcName → Option Value} {mg mb : Str → Option Value} {A : Around} {g : Heap} {outer : List Env} {frs : List (Addr × Obj)} {L : Addr} {m : Str → Option Value} {led led₁ : List (Addr × Obj)} {env cenv : Env} {e e1 e2 elt iter : Expr} {Pv Pa : Value → Prop} {s : Shared} {scope : Scope} {cl : List (Str × Addr)} {kw : List (Str × Value)} {ps : Array Value}
/-- a comprehension over a list -/
theorem comp_list {na : Str} {pa pos : Pos} {a : Addr} {vs : List Value} {ts : Nat → T} {Q : Value → Shared → Prop} (hh : A.handled = none) (x : LstAt led a vs) (Z : At g outer frs L m led s.heap) (htk : 0 < s.toks)
    (hclos : closureFor scope env = pure cl) (hcell : ∀ y ∈ scope.names, y.2 ≠ .cell) (hkind : scope.kind = .function) (hnames : ∀ y ∈ scope.names, y.2 = .local → scope.names.lookup y.1 = some .local) (hloc : scope.names.lookup na = some .local) (hsz : vs.length ≤ 1000)
    (hit : ∀ Q : Value → Shared → Prop, (∀ tk, s.toks ≤ tk → Q (.ref a) { s with toks := tk }) → wpAny (model PG w) A (eval iter env) Q NE s)
    (helt : ∀ i, i < vs.length → EltK PG w A g outer frs L m env elt scope cl s led (fun m₂ => m₂ na = vs[i]?) (ts i))
    (hQ : ∀ D h tk ys new frs', SameUp frs frs' → At g outer frs' L m ((D, lst ys) :: (new ++ led)) h → (∀ p ∈ (D, lst ys) :: new, ∀ q ∈ led, p.1 ≠ q.1) → Reps (new ++ led) ys ((List.range vs.length).map ts) → 0 < tk → Q (.ref D) { s with heap := h, toks := tk })
    (hs : ∀ x, foldedSetIterable iter env x = pure x := by intro _; rfl) :
    wpC (model PG w) A (eval (.ListComp elt [⟨.Name na pa, iter, [], 0⟩] scope pos) env) Q NE s := by
  obtain ⟨oa, k, h1, h2, h3⟩ := x.of
  refine k_ListComp (g := g) (outer := outer) (frs := frs) (L := L) (m := m) (led := led) (n := vs.length) (ts := ts) hclos hcell hkind hnames (Nat.le_trans hsz (by rw [sizeLine_eq]; decide)) (.any (hit _ fun tk htk' => ?_)) hs
  have gm : ∀ q ∈ led, s.heap.get? q.1 = some q.2 := Z.toks
  refine wpAny_pyIter_list (s := { s with toks := tk }) (items := vs.toArray) ⟨oa, gm _ h1, h2, k, h3⟩ ?_
  refine ⟨?_, fun D h tk ys new frs' S' Z' o1 o2 R k => hQ D h tk ys new frs' S' Z' o1 R k⟩
  have lt : ∀ q ∈ led, q.1 < s.heap.objs.size := fun q hq => Heap.lt_size (gm q hq)
  refine ⟨s.heap.objs.size, _, _, _, _, _, rfl, src_name hh s.heap.objs.size a vs (Nat.ne_of_lt (lt _ h1)), fun y hy => by rw [List.mem_singleton.mp hy]; exact hloc, ⟨?_, ?_⟩, fun b hb => ?_, ?_, fun q hq hw => ?_, Nat.lt_of_lt_of_le htk htk', helt⟩
  · exact ⟨_, Heap.get?_push_size _ rfl, rfl, rfl⟩
  · exact ⟨oa, Heap.get?_push_of_some _ (gm _ h1), h2, k, h3⟩
  · rcases List.mem_cons.mp hb with rfl | hb
    · exact ⟨⟨_, Heap.get?_push_size _ rfl⟩, Nat.ne_of_gt Z.F.ns.lt, Heap.get?_none_of_le (Nat.le_trans Z.F.above (Nat.le_of_lt Z.F.ns.lt)), fun y hy => Nat.ne_of_gt (Heap.lt_size (Z.N y (List.mem_append_right _ hy)).1)⟩
    · rw [List.mem_singleton.mp hb]
      exact ⟨⟨_, Heap.get?_push_of_some _ (gm _ h1)⟩, (Z.N _ (List.mem_append_left _ h1)).2.1, (Z.N _ (List.mem_append_left _ h1)).2.2, Z.ap _ h1⟩
  · exact (Z.push { cls := .type "list_iterator", dict := none, data := .fields #[.ref a, .int 0 0] }).perm fun q hq => .tail _ hq
  · exact Nat.ne_of_lt (lt q hq) (List.mem_singleton.mp hw)
theorem rep_list {v : Value} {n : Nat} {t : Nat → T} (h : Rep led v (.lst ((List.range n).map t))) : ∃ (a : Addr) (vs : List Value), v = .ref a ∧ LstAt led a vs ∧ vs.length = n ∧ ∀ i, i < n → ∃ x, vs[i]? = some x ∧ Rep led x (t i) := by
  cases h with
  | lst hm hc hd hr =>
    rename_i a o vs k
    have hl : vs.length = n := by have := hr.length; simpa using this
    refine ⟨a, vs, rfl, ⟨o, k, hm, hc, hd⟩, hl, fun i hi => ?_⟩
    have r := hr.get i (by omega) (by simpa using hi)
    simp only [List.getElem_map, List.getElem_range] at r
    exact ⟨_, List.getElem?_eq_getElem (by omega), r⟩
end
section
variable {w : World} {p : Program} {loose : List Str} {mean : ExcName → Option Value} {mg mb : Str → Option Value} {led : List (Addr × Obj)} {kw : List (Str × Value)} {ps : Array Value}
theorem zmscore_ct {n : Nat} {v : Value} {t t' : Nat → T} (hn : n ≤ 1000) (hl : Lg ps led) (h : Rep led v (.lst ((List.range n).map t))) (ht : ∀ i, i < n → (∃ q, Qok q ∧ t i = .by (Wt q) ∧ t' i = .flt (F4 q)) ∨ (t i = .none ∧ t' i = .none)) :
    Ct false w p loose mean mg mb (.ref 148) [v] [] 5 ((16, tabObj ps) :: led) (PostG led fun r l => Rep l r (.lst ((List.range n).map t'))) := by
  (refine fill_aux ?_; k_fill; intro _ _)
  obtain ⟨a, vs, rfl, LA, hvl, hv⟩ := rep_list h
  refine' ct_opts ?ho ?hcd ?P (by simp) (by simp) (by simp) (by decide) ?k1 ?k2 ?hnd ?hco ?hgen ?hk ?h
  ( (case ho => k_is); (case hcd => k_is); (case P => exact ⟨rfl, rfl, rfl, rfl, rfl⟩); (case k1 => rfl); (case k2 => rfl); (case hnd => decide); (case hco => rfl); (case hgen => rfl); (case hk => rfl))
  refine body_opts hl fun dp un gd outer frs g L D o cells s G Z hl hsm hdo Y lo hd hu htk => ?_
  cases Y
  have hs0 : ∀ q ∈ led, q ∈ (D, o) :: led := fun q hq => .tail _ hq
  have hs1 : ∀ q ∈ led, q ∈ (16, tabObj ps) :: (D, o) :: led := fun q hq => .tail _ (hs0 q hq)
  subst hvl
  refine c_execs_cons (c_Return (comp_list rfl (LA.mono hs1) Z htk rfl (by decide) rfl (by decide) (by decide) hn (fun Q k => n_local Z.F.ns rfl (k _ (Nat.le_refl _)) rfl rfl)
    (ts := t') (fun i hi => ?_) (fun D' h₂ tk₂ ys new frs₂ S₂ Z₂ ne R k₂ => ends_comp hl hs0 S₂ Z₂ ne k₂ (rep_comp R))))
  obtain ⟨x, hx, r⟩ := hv i hi
  refine elt_ev fun X C oC m₂ hX hC hN hP frs₃ s₃ Q S₃ Z₃ k₃ hQ => ?_
  rw [hx] at hP
  refine .any (IfExp_ (wpAny_isTrue_Compare1 (n_local (hN.ns (Z₃.toks _ hC)) hP ?_ rfl (lookup_relabel_local (by decide)))))
  refine Constant_none (isNot_none (wpAny_truthy_bool ?_))
  rcases ht i hi with ⟨q, hq, e1, e2⟩ | ⟨e1, e2⟩
  · rw [e1] at r
    obtain ⟨u, rfl⟩ := rep_by r
    rw [show (!(Value.bytes (Wt q) u == Value.none)) = true from rfl, if_pos rfl]
    refine Call_name1 rfl (nB Z₃.F G.X (topRead_of G.T) (nfloat w) (v := .type "float") (by decide +kernel) (by decide) ?_ rfl rfl rfl rfl)
    refine callWith_type1 (n_local (hN.ns (Z₃.toks _ hC)) hP ?_ rfl (lookup_relabel_local (by decide)))
    refine call_float_bytes hq (hQ _ s₃.heap _ frs₃ (SameUp.refl _) Z₃ ?_ (Nat.succ_pos _))
    rw [e2]
    exact .flt _ _ (Nat.ne_of_gt k₃) (F4_cmp hq)
  · rw [e1] at r
    cases r
    rw [show (!(Value.none == Value.none)) = false from rfl, if_neg Bool.false_ne_true]
    refine Constant_none (hQ _ s₃.heap _ frs₃ (SameUp.refl _) Z₃ ?_ k₃)
    rw [e2]
    exact .none
end
end Mine
end
section
open PySem PySem.W PyProof.Rows PySem.Calls PySem.Flt
open PyProof.Rows.TI (Frs SameUp)
set_option maxRecDepth 100000
set_option maxHeartbeats 400000
namespace Mine
section
variable {prog : Program} {w : World} {A : Around} {E : Value → Shared → Prop} {s : Shared} {q : Int} {t u : Tok} {Q : Value → Shared → Prop}
theorem pylong_no {a : Int} (h : a.natAbs ≤ 2000) : ¬ Builtin.divisionGoesByPylong a 4 = true := by
  unfold Builtin.divisionGoesByPylong
  intro hh
  simp only [Bool.and_eq_true] at hh
  exact absurd hh.1 (by decide +kernel)
theorem int_div4 (hq : Qok q) (h : Q (.float (F4 q) s.toks) { s with toks := s.toks + 1 }) : wpAny (model prog w) A (binaryOp .Div (.int q t) (.int 4 u)) Q E s := by
  have e : Float64.ofFrac (decide (q < 0) != decide ((4 : Int) < 0)) q.natAbs (4 : Int).natAbs = F4 q := by
    rw [show decide ((4 : Int) < 0) = false from rfl, Bool.bne_false]; rfl
  refine AutoIntOps.truediv_2 (by decide) (by rw [e, F4_inf hq]; exact Bool.false_ne_true) ?_
  rw [e]
  exact h
theorem int_div8 (hq : Qok q) (h : Q (.float (F8 q) s.toks) { s with toks := s.toks + 1 }) : wpAny (model prog w) A (binaryOp .Div (.int q t) (.int 8 u)) Q E s := by
  have e : Float64.ofFrac (decide (q < 0) != decide ((8 : Int) < 0)) q.natAbs (8 : Int).natAbs = F8 q := by
    rw [show decide ((8 : Int) < 0) = false from rfl, Bool.bne_false]; rfl
  refine AutoIntOps.truediv_2 (by decide) (by rw [e, F8_inf hq]; exact Bool.false_ne_true) ?_
  rw [e]
  exact h
theorem int_fd4 (hq : q.natAbs ≤ 2000) (h : Q (.int (q.fdiv 4) s.toks) { s with toks := s.toks + 1 }) : wpAny (model prog w) A (binaryOp .FloorDiv (.int q t) (.int 4 u)) Q E s :=
  AutoIntOps.floordiv_1 (by decide) (pylong_no hq) h
theorem int_mod4 (h : Q (.int (q.fmod 4) s.toks) { s with toks := s.toks + 1 }) : wpAny (model prog w) A (binaryOp .Mod (.int q t) (.int 4 u)) Q E s :=
  AutoIntOps.mod_1 (by decide) h
end
end Mine
end
section
open PySem PySem.W PyProof.Rows PySem.Calls PySem.Flt
set_option maxRecDepth 100000
namespace Mine
def frS : Nat → Str
  | 0 => Str.ofString ""
  | 1 => Str.ofString ".25"
  | 2 => Str.ofString ".5"
  | _ => Str.ofString ".75"
theorem str_text (q : Int) : (((if q < 0 then Str.ofString "-" else Str.ofString "") ++ Str.ofString (toString ((q.natAbs / 4 : Nat) : Int))) ++ frS (q.natAbs % 4)) = ⟨(txt q).toArray⟩ := by
  have e1 : (Str.ofString (toString ((q.natAbs / 4 : Nat) : Int))).cps = ((Nat.toDigits 10 (q.natAbs / 4)).map Char.toNat).toArray := by
    show (Str.ofString (Nat.repr (q.natAbs / 4))).cps = _
    rw [Str.ofString_eq_toList]
    unfold Nat.repr
    simp
  have e2 : (frS (q.natAbs % 4)).cps = (frac (q.natAbs % 4)).toArray := by
    have : q.natAbs % 4 < 4 := Nat.mod_lt _ (by decide)
    generalize q.natAbs % 4 = r at this
    have h : r = 0 ∨ r = 1 ∨ r = 2 ∨ r = 3 := by omega
    rcases h with rfl | rfl | rfl | rfl <;> decide +kernel
  have e3 : (if q < 0 then Str.ofString "-" else Str.ofString "").cps = (if q < 0 then [45] else []).toArray := by
    by_cases h : q < 0
    · rw [if_pos h, if_pos h]; decide +kernel
    · rw [if_neg h, if_neg h]; decide +kernel
  show (⟨((_ : Str).cps ++ (_ : Str).cps) ++ (_ : Str).cps⟩ : Str) = _
  rw [e1, e2, e3]
  unfold txt
  simp
abbrev sgn (q : Int) : Str := if q < 0 then Str.ofString "-" else Str.ofString ""
abbrev whl (q : Int) : Str := Str.ofString (toString ((q.natAbs / 4 : Nat) : Int))
theorem str_size {q : Int} (hq : Qok q) : (sgn q).length + (whl q).length + (frS (q.natAbs % 4)).length ≤ 7 := by
  have sz := congrArg Str.length (str_text q)
  have sz7 : (txt q).length ≤ 7 := by have := Wt_size hq; unfold Wt at this; simpa using this
  have e : ∀ x y : Str, (x ++ y).length = x.length + y.length := fun x y => by
    show (x.cps ++ y.cps).size = x.cps.size + y.cps.size
    rw [Array.size_append]
  rw [e, e] at sz
  have e2 : Str.length ⟨(txt q).toArray⟩ = (txt q).length := List.size_toArray ..
  rw [e2] at sz
  exact sz ▸ sz7
section
variable {prog : Program} {w : World} {A : Around} {E : Value → Shared → Prop} {s : Shared} {q : Int} {t u : Tok} {Q : Value → Shared → Prop}
theorem seven : (7 : Nat) ≤ sizeLine := by rw [sizeLine_eq]; decide
theorem add_sign (hq : Qok q) (h : ∀ t' k, Q (.str (sgn q ++ whl q) t') { s with toks := k }) : wpAny (model prog w) A (binaryOp .Add (.str (sgn q) t) (.str (whl q) u)) Q E s :=
  SB.add h (Nat.le_trans (Nat.le_trans (Nat.le_add_right _ _) (str_size hq)) seven)
theorem add_frac (hq : Qok q) (h : ∀ t' k, Q (.str ⟨(txt q).toArray⟩ t') { s with toks := k }) : wpAny (model prog w) A (binaryOp .Add (.str (sgn q ++ whl q) t) (.str (frS (q.natAbs % 4)) u)) Q E s := by
  refine SB.add (fun t' k => ?_) ?_
  · rw [str_text q]; exact h t' k
  · have e : (sgn q ++ whl q).length = (sgn q).length + (whl q).length := by
      show ((sgn q).cps ++ (whl q).cps).size = (sgn q).cps.size + (whl q).cps.size
      rw [Array.size_append]
    rw [e]
    exact Nat.le_trans (str_size hq) seven
theorem frac_item {a b c d : Tok} {r : Nat} (hr : r < 4) : ∃ v, [Value.str (Str.ofString "") a, .str (Str.ofString ".25") b, .str (Str.ofString ".5") c, .str (Str.ofString ".75") d][r]? = some (.str (frS r) v) ∧ seqIndex? ((r : Nat) : Int) 4 = some r := by
  have h : r = 0 ∨ r = 1 ∨ r = 2 ∨ r = 3 := by omega
  rcases h with rfl | rfl | rfl | rfl
  · exact ⟨a, rfl, rfl⟩
  · exact ⟨b, rfl, rfl⟩
  · exact ⟨c, rfl, rfl⟩
  · exact ⟨d, rfl, rfl⟩
end
end Mine
end
section
open PySem PySem.W PyProof.Rows PySem.Calls PySem.Flt
open PyProof.Rows.TI (Frs SameUp)
open PyProof.Rows.LCg (lst NsObj)
set_option maxRecDepth 100000
set_option maxHeartbeats 400000
namespace Mine
section
variable {w : World} {p : Program} {loose : List Str} {mean : ExcName → Option Value} {mg mb : Str → Option Value} {led : List (Addr × Obj)} {kw : List (Str × Value)} {ps : Array Value}
theorem nord (w : World) : nsIn (hd.heap_39 w.params) mainGlobals ("ord" : Str) = some none := by kernel_rfl
theorem n168 (w : World) : nsIn (hd.heap_39 w.params) mainGlobals ("_law_written" : Str) = some (some (.ref 168)) := by kernel_rfl
theorem fn168 (w : World) : ((hd.heap_39 w.params).lookup 168).map (fun o => match o.data with | .func _ => true | _ => false) = some true := by kernel_rfl
/-- a local's value -/
theorem c_setLocal {A : Around} {g : Heap} {outer : List Env} {frs : List (Addr × Obj)} {L : Addr} {m : Str → Option Value} {env : Env} {s : Shared} {x : Str} {p1 p2 : Pos} {e : Expr} {Pv : Value → Prop} {Q : Flow → Shared → Prop} (Z : At g outer frs L m led s.heap) (hL : env.locals = L) (hk : env.scope.kind = .function) (hx : env.kindOf x = some .local)
    (he : ∀ Q : Value → Shared → Prop, (∀ v h' tk, Pv v → (∀ b o, s.heap.get? b = some o → h'.get? b = some o) → Q v { s with heap := h', toks := tk }) → wpAny (model PG w) A (eval e env) Q NE s)
    (hq : ∀ v h' tk', Pv v → At g outer frs L (fun z => if z = x then some v else m z) led h' → 0 < tk' → Q .next { s with heap := h', toks := tk' })
    (hsw : swapsWith e (some (.Name x p1)) p2.line env = pure false := by rfl) : wpC (model PG w) A (exec (.Assign [.Name x p1] e p2) env) Q NE s := by
  subst hL
  refine c_Assign (.any (he _ fun v h' tk hv hk' => ?_)) hsw
  have Z' := Z.keeps hk'
  refine wpAny_storeName_local hx Z'.F.ns (fun h₂ hn hs₂ => ?_) (by rw [hk]; rfl)
  exact hq v h₂ _ hv (Z'.set hn hs₂) (Nat.succ_pos _)
theorem if_sign {A : Around} {env : Env} {s : Shared} {m : Str → Option Value} {x a b : Str} {q : Int} {t : Tok} {p1 p2 p3 p4 p5 p6 : Pos} {k1 k2 k3 : Nat} {Q E : Value → Shared → Prop} (hn : s.heap.Ns env.locals m) (hm : m x = some (.int q t)) (hk : env.scope.kind = .function) (hx : env.kindOf x = some .local) (hd : (x == ("__debug__" : Str)) = false)
    (h : ∀ u tk, Q (.str (if q < 0 then a else b) u) { s with toks := tk }) : wpAny (model PG w) A (eval (.IfExp (.Compare (.Name x p1) [.Lt] [.Constant (.int 0) k1 p2] p3) (.Constant (.str a) k2 p4) (.Constant (.str b) k3 p5) p6) env) Q E s := by
  refine IfExp_ (wpAny_isTrue_Compare1 (n_local hn hm (wpAny_Constant_int (P.lt_int (wpAny_truthy_bool ?_))) hk hx hd))
  by_cases h0 : q < 0
  · rw [if_pos (by simpa using h0)]
    have h' := h
    rw [if_pos h0] at h'
    exact Constant_str (h' _ _)
  · rw [if_neg (by simpa using h0)]
    have h' := h
    rw [if_neg h0] at h'
    exact Constant_str (h' _ _)
theorem int_mod4n {prog : Program} {w : World} {A : Around} {E : Value → Shared → Prop} {s : Shared} {n : Nat} {t u : Tok} {Q : Value → Shared → Prop} (h : Q (.int ((n % 4 : Nat) : Int) s.toks) { s with toks := s.toks + 1 }) : wpAny (model prog w) A (binaryOp .Mod (.int n t) (.int 4 u)) Q E s := by
  refine int_mod4 ?_
  rw [Int.fmod_eq_emod_of_nonneg _ (by decide)]
  exact h
theorem At.push' {g : Heap} {outer : List Env} {frs : List (Addr × Obj)} {L : Addr} {m : Str → Option Value} {led : List (Addr × Obj)} {h : Heap} (Z : At g outer frs L m led h) (o : Obj) : At g outer frs L m led (h.push o) := Z.keeps fun _ _ e => Heap.get?_push_of_some _ e
theorem item_tupleX {A : Around} {E : Value → Shared → Prop} {s : Shared} {value slice : Expr} {t : Addr} {l : List Value} {k : Int} {u : Tok} {j : Nat} {x : Value} {Q : Value → Shared → Prop} (ht : IsTup s.heap t l.toArray)
    (hlo : -(2 ^ 63) ≤ k) (hhi : k < 2 ^ 63) (hj : seqIndex? k l.length = some j) (hx : l[j]? = some x) (hs : ∀ t k u, subscripted slice false (.ref t) (.int k u) = operate [.ref t, .int k u] (getItem (.ref t) (.int k u))) (h : Q x s) :
    wpAny (model PG w) A (subscriptTail value slice (.ref t) (.int k u)) Q E s := by
  unfold subscriptTail
  refine wpAny_bind ?_
  rw [getitemInPython_of_ne ht.typeIs.not_modules]
  refine wpAny_bind (wpAny_specialOf ht.typeIs slot_tuple_getitem.lookup ?_)
  have fin : wpAny (model PG w) A (subscripted slice false (.ref t) (.int k u)) (fun r s₃ => wpAny (model PG w) A (letTemporaryGo value (.ref t) r >>= fun _ => pure r) Q E s₃) E s := by
    rw [hs]
    exact wpAny_operating (wpAny_mono (getItem_tuple ht hlo hhi (by simpa using hj) (by simpa using hx) h) (fun r s₃ h₃ => wpAny_bind (wpAny_letTemporaryGo (wpAny_pure h₃))) fun _ _ x => x)
  first
    | exact wpAny_pure (wpAny_bind fin)
    | exact wpAny_bind (wpAny_pure (wpAny_bind fin))
    | exact wpAny_bind fin
/-- the written fraction -/
theorem frac_eval {A : Around} {env : Env} {s : Shared} {m : Str → Option Value} {q : Int} {u : Tok} {p1 p2 p3 p4 p5 p6 p7 p8 p9 : Pos} {k1 k2 k3 k4 k5 k6 : Nat} {Q E : Value → Shared → Prop} (hn : s.heap.Ns env.locals m) (hm : m "size" = some (.int q.natAbs u)) (hk : env.scope.kind = .function) (hx : env.kindOf "size" = some .local)
    (h : ∀ u h' tk, (∀ b o, s.heap.get? b = some o → h'.get? b = some o) → Q (.str (frS (q.natAbs % 4)) u) { s with heap := h', toks := tk }) :
    wpAny (model PG w) A (eval (.Subscript (.Tuple [.Constant (.str "") k1 p1, .Constant (.str ".25") k2 p2, .Constant (.str ".5") k3 p3, .Constant (.str ".75") k4 p4] k5 p5) (.BinOp (.Name "size" p6) .Mod (.Constant (.int 4) k6 p7) p8) p9) env) Q E s := by
  refine Subscript_ (Tuple_ (spliced_more (Constant_str (spliced_more (Constant_str (spliced_more (Constant_str (spliced_more (Constant_str (spliced_none ?_)))))))))) 
  refine wpAny_newObj_type ?_
  have hn' : ∀ o : Obj, (s.heap.push o).Ns env.locals m := fun o => hn.keeps fun _ _ e => Heap.get?_push_of_some _ e
  refine wpAny_BinOp (n_local (hn' _) hm (wpAny_Constant_int (int_mod4n ?_)) hk hx)
  obtain ⟨v, hv1, hv2⟩ := frac_item (a := s.toks) (b := s.toks + 1) (c := s.toks + 1 + 1) (d := s.toks + 1 + 1 + 1) (r := q.natAbs % 4) (Nat.mod_lt _ (by decide))
  refine item_tupleX (IsTup.new s.heap _) (by omega) (by omega) hv2 hv1 (fun _ _ _ => by with_unfolding_all rfl) ?_
  exact h _ _ _ fun _ _ e => Heap.get?_push_of_some _ e

theorem src_str {A : Around} {a : Str} {pa : Pos} (hh : A.handled = none) (I : Addr) (x : Str) (t : Tok) :
    Src PG w A (.Name a pa) I [I] [I] x.cps.size [a] (fun i m => ∃ c u, x.cps[i]? = some c ∧ m a = some (.str ⟨#[c]⟩ u)) (fun i h => h.IsStrIter I "str_ascii_iterator" x t i) where
  sub := fun c hc => hc
  frame := fun i h h' st hk => let ⟨o, ho, r⟩ := st; ⟨o, hk I (by simp) o ho, r⟩
  live := fun i h st c hc => by
    obtain ⟨o, s4, _⟩ := st
    rw [List.mem_singleton.mp hc]
    exact ⟨_, s4⟩
  turn := fun i s cenv m₀ Q hi st hkind hloc hCf hn hQ => by
    have ka := hloc a (by simp)
    have hp : (cenv.scope.kind == .class || (cenv.scope.kind == .module && cenv.locals != cenv.globals)) = false := by rw [hkind]; rfl
    have hC : cenv.locals ≠ I := by simpa using hCf
    refine wpAny_pyNext_ascii_item st (c := x.cps[i]) (by simp [hi]) fun h₁ hit₁ hs₁ => ?_
    show wpAny _ _ (letOwnedTupleGo (.Name a pa) (.ref I) _) _ _ _
    refine wpAny_pure ?_
    refine wpAny_assign_Name (wpAny_storeName_local ka (hn.at' fun o e => hs₁.extBut _ o hC e) (fun h₃ hn₃ hs₃ => ?_) hp)
    refine hQ h₃ _ _ hn₃ ⟨x.cps[i], s.toks, by simp [hi], by simp⟩ (fun y hy => ?_) (let ⟨o, ho, r⟩ := hit₁; ⟨o, hs₃.extBut _ o hC.symm ho, r⟩) fun c o hc hc' e => hs₃.extBut c o hc' (hs₁.extBut c o (fun q => hc (by simp [q])) e)
    have h1 : y ≠ a := fun q => hy (by simp [q])
    simp [h1]
  done := fun s Q st hQ => wpAny_pyNext_ascii_end hh st (by simp) fun h' he' => hQ h' s.toks fun b o hb e => he' b o (fun h => hb (by simp [h])) e
  self := fun _ _ _ st hQ => wpAny_pyIter_striter_ascii st hQ
/-- a comprehension over the letters of a text -/
theorem comp_str {A : Around} {g : Heap} {outer : List Env} {frs : List (Addr × Obj)} {L : Addr} {m : Str → Option Value} {env : Env} {s : Shared} {elt iter : Expr} {scope : Scope} {cl : List (Str × Addr)} {na : Str} {pa pos : Pos} {x : Str} {t : Tok} {ts : Nat → T} {Q : Value → Shared → Prop} (hh : A.handled = none) (hx : x.cps.all (· < 128) = true) (Z : At g outer frs L m led s.heap) (htk : 0 < s.toks)
    (hclos : closureFor scope env = pure cl) (hcell : ∀ y ∈ scope.names, y.2 ≠ .cell) (hkind : scope.kind = .function) (hnames : ∀ y ∈ scope.names, y.2 = .local → scope.names.lookup y.1 = some .local) (hloc : scope.names.lookup na = some .local) (hsz : x.cps.size ≤ 1000)
    (hit : ∀ Q : Value → Shared → Prop, Q (.str x t) s → wpAny (model PG w) A (eval iter env) Q NE s)
    (helt : ∀ i, i < x.cps.size → EltK PG w A g outer frs L m env elt scope cl s led (fun m₂ => ∃ c u, x.cps[i]? = some c ∧ m₂ na = some (.str ⟨#[c]⟩ u)) (ts i))
    (hQ : ∀ D h tk ys new frs', SameUp frs frs' → At g outer frs' L m ((D, lst ys) :: (new ++ led)) h → (∀ p ∈ (D, lst ys) :: new, ∀ q ∈ led, p.1 ≠ q.1) → Reps (new ++ led) ys ((List.range x.cps.size).map ts) → 0 < tk → Q (.ref D) { s with heap := h, toks := tk })
    (hs : ∀ x, foldedSetIterable iter env x = pure x := by intro _; rfl) :
    wpC (model PG w) A (eval (.ListComp elt [⟨.Name na pa, iter, [], 0⟩] scope pos) env) Q NE s := by
  refine k_ListComp (g := g) (outer := outer) (frs := frs) (L := L) (m := m) (led := led) (n := x.cps.size) (ts := ts) hclos hcell hkind hnames (Nat.le_trans hsz (by rw [sizeLine_eq]; decide)) (.any (hit _ ?_)) hs
  have gm : ∀ q ∈ led, s.heap.get? q.1 = some q.2 := Z.toks
  refine wpAny_pyIter_ascii hx ?_
  refine ⟨?_, fun D h tk ys new frs' S' Z' o1 o2 R k => hQ D h tk ys new frs' S' Z' o1 R k⟩
  have lt : ∀ q ∈ led, q.1 < s.heap.objs.size := fun q hq => Heap.lt_size (gm q hq)
  refine ⟨s.heap.objs.size, _, _, _, _, _, rfl, src_str hh s.heap.objs.size x t, fun y hy => by rw [List.mem_singleton.mp hy]; exact hloc, ?_, fun b hb => ?_, ?_, fun q hq hw => ?_, htk, helt⟩
  · exact ⟨_, Heap.get?_push_size _ rfl, rfl, rfl⟩
  · rw [List.mem_singleton.mp hb]
    exact ⟨⟨_, Heap.get?_push_size _ rfl⟩, Nat.ne_of_gt Z.F.ns.lt, Heap.get?_none_of_le (Nat.le_trans Z.F.above (Nat.le_of_lt Z.F.ns.lt)), fun y hy => Nat.ne_of_gt (Heap.lt_size (Z.N y (List.mem_append_right _ hy)).1)⟩
  · exact (Z.push { cls := .type "str_ascii_iterator", data := .fields #[.str x t, .int 0 0] }).perm fun q hq => .tail _ hq
  · exact Nat.ne_of_lt (lt q hq) (List.mem_singleton.mp hw)
theorem ints_of_reps : ∀ {vs : List Value} {ns : List Int}, Reps led vs (ns.map T.int) → IntsAre vs ns
  | [], [], _ => .nil
  | _ :: _, [], h => nomatch h
  | [], _ :: _, h => nomatch h
  | _ :: _, n :: ns, .cons h r => by cases h; exact .cons _ _ (ints_of_reps r)
theorem nbytes' (w : World) : nsIn (hd.heap_39 w.params) mainGlobals ("bytes" : Str) = some none := by kernel_rfl
theorem range_ints (l : List Nat) : (List.range l.toArray.size).map (fun i => T.int ((l.getD i 0 : Nat) : Int)) = (l.map Int.ofNat).map T.int := by
  apply List.ext_getElem
  · simp
  · intro i h1 h2
    have : i < l.length := by simpa using h1
    simp [List.getD_eq_getElem?_getD, this]
theorem byte_txt (q : Int) : byteArr ((txt q).map Int.ofNat) = Wt q := by
  unfold byteArr Wt
  simp [List.map_map, Function.comp_def]
theorem written_ct {q : Int} {t : Tok} (hq : Qok q) : Ct false w p loose mean mg mb (.ref 168) [.int q t] [] 1 led (fun r l => (∃ u, r = .bytes (Wt q) u) ∧ l = led) := by
  (refine fill_aux ?_; k_fill; intro _ _)
  refine' ct_pos (m₀ := fun y => if y = ("quarters" : Str) then some (.int q t) else none) (cm := fun _ => none) ?ho ?hcd ?hb ?h1 ?hkind ?hm ?hc ?hnd ?hco ?hgen ?hk ?h
  ( (case ho => k_is); (case hcd => k_is); (case hb => rfl); (case h1 => decide); (case hkind => intro n; repeat (first | exact List.forall_mem_nil _ | (refine List.forall_mem_cons.mpr ⟨by first | exact .inl rfl | exact .inr ⟨rfl, rfl⟩, ?_⟩))); (case hm => intro L'; rfl); (case hc => intro L'; rfl); (case hnd => decide); (case hco => rfl); (case hgen => rfl); (case hk => rfl))
  intro hh dp un gd outer frs g L m own cells s hany G Z hm lo₁ lo₂ hi Y hd hu htk
  obtain rfl : hh = none := by rcases hany with h | h; cases h; exact h
  obtain ⟨rfl, rfl⟩ := hm
  cases Y
  have TR := topRead_of G.T
  refine c_execs_cons (c_setLocal (Pv := fun v => ∃ u, v = .int q.natAbs u) Z rfl rfl rfl (fun Q k => ?_) fun v h₁ tk₁ hv Z₁ ht₁ => ?_)
  · refine IfExp_ (wpAny_isTrue_Compare1 (n_local Z.F.ns rfl (wpAny_Constant_int (P.lt_int (wpAny_truthy_bool ?_))) rfl rfl))
    by_cases h0 : q < 0
    · rw [if_pos (by simpa using h0)]
      refine wpAny_UnaryOp (n_local Z.F.ns rfl (P.neg_int ?_) rfl rfl)
      exact k _ s.heap _ ⟨s.toks + 1, by rw [show -q = (q.natAbs : Int) by omega]⟩ fun _ _ e => e
    · rw [if_neg (by simpa using h0)]
      refine n_local Z.F.ns rfl ?_ rfl rfl
      exact k _ s.heap _ ⟨t, by rw [show (q.natAbs : Int) = q by omega]⟩ fun _ _ e => e
  obtain ⟨u, rfl⟩ := hv
  refine c_execs_cons (c_setLocal (s := { s with heap := h₁, toks := tk₁ }) (Pv := fun v => ∃ u, v = .str ⟨(txt q).toArray⟩ u) Z₁ rfl rfl rfl (fun Q k => ?_) fun v h₂ tk₂ hv Z₂ ht₂ => ?_)
  · refine wpAny_BinOp (wpAny_BinOp (if_sign Z₁.F.ns rfl rfl rfl (by decide) fun u1 tk1 => ?_))
    refine Call_name1 rfl (nB Z₁.F G.X TR (nstr w) (v := .type "str") (by decide +kernel) (by decide) ?_ rfl rfl rfl rfl)
    refine callWith_type1 (wpAny_BinOp (n_local Z₁.F.ns rfl (wpAny_Constant_int (int_fd4 (by have := hq.nat; omega) ?_)) rfl rfl))
    have hN := hq.nat
    have e4 : (q.natAbs : Int).fdiv 4 = ((q.natAbs / 4 : Nat) : Int) := by rw [Int.fdiv_eq_ediv_of_nonneg _ (by decide)]; rfl
    rw [e4]
    refine P.str_of_int (by rw [Int.natAbs_natCast]; exact Nat.lt_of_le_of_lt (Nat.log2_le_self _) (by omega)) ?_
    refine add_sign hq fun t' k' => ?_
    refine frac_eval (s := { s with heap := h₁, toks := k' }) Z₁.F.ns rfl rfl rfl fun u' h' tk' hk' => ?_
    exact add_frac hq fun t'' k'' => k _ h' k'' ⟨t'', rfl⟩ hk'
  obtain ⟨u', rfl⟩ := hv
  have hall : (⟨(txt q).toArray⟩ : Str).cps.all (· < 128) = true := by
    simpa using txt_ascii q
  have h7 : (txt q).length ≤ 7 := by have := Wt_size hq; unfold Wt at this; simpa using this
  refine c_execs_cons (c_Return (c_Call1 (nB Z₂.F G.X TR (nbytes' w) (v := .type "bytes") (by decide +kernel) (by decide) ?_ rfl rfl rfl rfl)))
  refine c_spliced_cons (comp_str (x := ⟨(txt q).toArray⟩) (t := u') (ts := fun i => T.int (((txt q).getD i 0 : Nat) : Int)) rfl hall Z₂ ht₂ rfl (by decide) rfl (by decide) (by decide) (by simp; omega) (fun Q k => n_local Z₂.F.ns rfl k rfl rfl) (fun i hi => ?_) fun D h₃ tk₃ ys new frs₃ S₃ Z₃ ne₃ R₃ k₃ => ?_)
  · refine elt_ev fun X C oC m₂ hX hC hN hP frs₃ s₃ Q S₃ Z₃ k₃ hQ => ?_
    obtain ⟨c, uc, hc, hmc⟩ := hP
    refine .any (Call_name1 rfl (nB Z₃.F G.X TR (nord w) (v := .builtin "ord") (by decide +kernel) (by decide) ?_ rfl rfl rfl rfl))
    refine callWith_builtin1 (n_local (hN.ns (Z₃.toks _ hC)) hmc ?_ rfl (lookup_relabel_local (by decide)))
    refine P.ord_of_char (hQ _ s₃.heap _ frs₃ (SameUp.refl _) Z₃ ?_ (Nat.succ_pos _))
    have : (txt q).getD i 0 = c := by
      have hc' : (txt q)[i]? = some c := by simpa using hc
      simp [List.getD_eq_getElem?_getD, hc']
    rw [this]
    exact .int _ _
  · refine c_spliced_nil ⟨⟨_, .inr rfl, keeper_type⟩, .any (wpAny_tk (n := 1) k₃ ?_)⟩
    rw [range_ints] at R₃
    have I₃ := ints_of_reps R₃
    refine call_bytes_ints (vs := ys) ⟨_, Z₃.toks _ (.head _), rfl, _, rfl⟩ I₃ (fun n hn => ?_) (by rw [I₃.length, List.length_map]; exact Nat.le_trans h7 seven) rfl fun h₄ t₄ k₄ hk₄ h1 => ?_
    · obtain ⟨c, hc, rfl⟩ := List.mem_map.mp hn
      have := txt_ascii q c hc
      exact ⟨Int.natCast_nonneg c, by show (c : Int) < 256; omega⟩
    · refine ⟨h₄, k₄, _, led, frs₃, rfl, S₃, (Z₃.keeps hk₄).perm fun z hz => .tail _ (List.mem_append_right _ hz), h1, ⟨⟨t₄, by rw [byte_txt]⟩, rfl⟩⟩
end
end Mine
end
section
open PySem PySem.W PyProof.Rows PySem.Calls PySem.Flt
open PyProof.Rows.TI (Frs SameUp)
open PyProof.Rows.LCg (lst NsObj)
set_option maxRecDepth 100000
set_option maxHeartbeats 400000
namespace Mine
section
variable {w : World} {p : Program} {loose : List Str} {mean : ExcName → Option Value} {mg mb : Str → Option Value} {led : List (Addr × Obj)}
theorem int_eq_dec {way : Nat} {n : Nat} : (((way : Int) == (n : Int)) = true) ↔ way = n := by
  rw [beq_iff_eq]; omega
theorem had_tail {A : Around} {env : Env} {s : Shared} {m : Str → Option Value} {way : Nat} {q : Int} {t tw : Tok} {p1 p2 p3 p4 p5 p6 p7 p8 p9 p10 : Pos} {k1 k2 k3 : Nat} {Q : Value → Shared → Prop} (htk : 0 < s.toks) (hq : Qok q) (hn : s.heap.Ns env.locals m) (hw : m "way" = some (.int way tw)) (hm : m "quarters" = some (.int q t)) (hk : env.scope.kind = .function) (kw : env.kindOf "way" = some .local) (kq : env.kindOf "quarters" = some .local)
    (h : ∀ v k, 0 < k → Rep led v (if way = 3 then .flt (F8 q) else .flt (F4 q)) → Q v { s with toks := k }) :
    wpAny (model PG w) A (eval (.IfExp (.Compare (.Name "way" p1) [.Eq] [.Constant (.int 3) k1 p2] p3) (.BinOp (.Name "quarters" p4) .Div (.Constant (.int 8) k2 p5) p6) (.BinOp (.Name "quarters" p7) .Div (.Constant (.int 4) k3 p8) p9) p10) env) Q NE s := by
  refine IfExp_ (wpAny_isTrue_Compare1 (n_local hn hw (wpAny_Constant_int (P.eq_int (wpAny_truthy_bool ?_))) hk kw))
  by_cases h3 : way = 3
  · rw [if_pos (show ((way : Int) == 3) = true from int_eq_dec.mpr h3)]
    refine wpAny_BinOp (n_local hn hm (wpAny_Constant_int (int_div8 hq ?_)) hk kq)
    refine h _ _ (Nat.succ_pos _) ?_
    rw [if_pos h3]
    exact .flt _ _ (Nat.succ_ne_zero _) (F8_cmp hq)
  · rw [if_neg (show ¬ ((way : Int) == 3) = true from fun h => h3 (int_eq_dec.mp h))]
    refine wpAny_BinOp (n_local hn hm (wpAny_Constant_int (int_div4 hq ?_)) hk kq)
    refine h _ _ (Nat.succ_pos _) ?_
    rw [if_neg h3]
    exact .flt _ _ (Nat.succ_ne_zero _) (F4_cmp hq)
theorem tdiv_neg {q : Int} (h0 : q < 0) : Int.tdiv q 4 = -((-q).fdiv 4) := by
  rw [Int.fdiv_eq_ediv_of_nonneg _ (by decide)]
  rw [show Int.tdiv q 4 = -(Int.tdiv (-q) 4) by rw [Int.neg_tdiv]; omega]
  rw [Int.tdiv_eq_ediv_of_nonneg (by omega)]
theorem tdiv_pos' {q : Int} (h0 : ¬ q < 0) : Int.tdiv q 4 = q.fdiv 4 := by
  rw [Int.fdiv_eq_ediv_of_nonneg _ (by decide), Int.tdiv_eq_ediv_of_nonneg (by omega)]
theorem had_one {A : Around} {env : Env} {s : Shared} {m : Str → Option Value} {q : Int} {t : Tok} {p1 p2 p3 p4 p5 p6 p7 p8 p9 p10 p11 p12 : Pos} {k1 k2 k3 : Nat} {Q : Value → Shared → Prop} (hq : Qok q) (hn : s.heap.Ns env.locals m) (hm : m "quarters" = some (.int q t)) (hk : env.scope.kind = .function) (kq : env.kindOf "quarters" = some .local)
    (h : ∀ v k, 0 < k → Rep led v (.int (Int.tdiv q 4)) → Q v { s with toks := k }) :
    wpAny (model PG w) A (eval (.IfExp (.Compare (.Name "quarters" p1) [.Lt] [.Constant (.int 0) k1 p2] p3) (.UnaryOp .USub (.BinOp (.UnaryOp .USub (.Name "quarters" p4) p5) .FloorDiv (.Constant (.int 4) k2 p6) p7) p8) (.BinOp (.Name "quarters" p9) .FloorDiv (.Constant (.int 4) k3 p10) p11) p12) env) Q NE s := by
  refine IfExp_ (wpAny_isTrue_Compare1 (n_local hn hm (wpAny_Constant_int (P.lt_int (wpAny_truthy_bool ?_))) hk kq))
  by_cases h0 : q < 0
  · rw [if_pos (by simpa using h0)]
    refine wpAny_UnaryOp (wpAny_BinOp (wpAny_UnaryOp (n_local hn hm (P.neg_int (wpAny_Constant_int (int_fd4 (by have := hq.nat; omega) (P.neg_int ?_)))) hk kq)))
    refine h _ _ (Nat.succ_pos _) ?_
    rw [tdiv_neg h0]
    exact .int _ _
  · rw [if_neg (by simpa using h0)]
    refine wpAny_BinOp (n_local hn hm (wpAny_Constant_int (int_fd4 hq.nat ?_)) hk kq)
    refine h _ _ (Nat.succ_pos _) ?_
    rw [tdiv_pos' h0]
    exact .int _ _
theorem eldT_flt {way : Nat} {q : Int} {eld : Bool} (hw : way ≤ 3) (h1 : ¬ way = 1) (h2 : way = 2 → eld = false) : (if eld = true then eldT way q else newT way q) = (if way = 3 then T.flt (F8 q) else T.flt (F4 q)) := by
  have hw' : way = 0 ∨ way = 1 ∨ way = 2 ∨ way = 3 := by omega
  rcases hw' with rfl | rfl | rfl | rfl
  · rw [if_neg (show ¬ (0 = 3) by decide)]; cases eld
    · rw [if_neg Bool.false_ne_true]; rfl
    · rw [if_pos rfl]; rfl
  · exact absurd rfl h1
  · rw [h2 rfl, if_neg Bool.false_ne_true, if_neg (show ¬ (2 = 3) by decide)]; rfl
  · rw [if_pos (show 3 = 3 from rfl)]; cases eld
    · rw [if_neg Bool.false_ne_true]; rfl
    · rw [if_pos rfl]; rfl
theorem rep_cases {way : Nat} {q : Int} {eld : Bool} {v : Value} (hw : way ≤ 3) (h1 : ¬ way = 1) (h2 : way = 2 → eld = false) (hv : Rep led v (if way = 3 then .flt (F8 q) else .flt (F4 q))) : Rep led v (if eld = true then eldT way q else newT way q) := by
  rw [eldT_flt hw h1 h2]; exact hv
theorem had_ct {way : Nat} {q : Int} {t tw : Tok} {eld : Bool} (hw : way ≤ 3) (hq : Qok q) :
    Ct false w p loose mean mg mb (.ref 175) [.int q t, .int way tw, .bool eld] [] 2 led (fun r l => Rep led r (if eld = true then eldT way q else newT way q) ∧ l = led) := by
  (refine fill_aux ?_; k_fill; intro _ _)
  refine' ct_pos (m₀ := fun y => if y = ("elder" : Str) then some (.bool eld) else if y = ("way" : Str) then some (.int way tw) else if y = ("quarters" : Str) then some (.int q t) else none) (cm := fun _ => none) ?ho ?hcd ?hb ?h1 ?hkind ?hm ?hc ?hnd ?hco ?hgen ?hk ?h
  ( (case ho => k_is); (case hcd => k_is); (case hb => rfl); (case h1 => decide); (case hkind => intro n; repeat (first | exact List.forall_mem_nil _ | (refine List.forall_mem_cons.mpr ⟨by first | exact .inl rfl | exact .inr ⟨rfl, rfl⟩, ?_⟩))); (case hm => intro L'; rfl); (case hc => intro L'; rfl); (case hnd => decide); (case hco => rfl); (case hgen => rfl); (case hk => rfl))
  intro hh dp un gd outer frs g L m own cells s hany G Z hm lo₁ lo₂ hi Y hd hu htk
  obtain rfl : hh = none := by rcases hany with h | h; cases h; exact h
  obtain ⟨rfl, rfl⟩ := hm
  cases Y
  have TR := topRead_of G.T
  have ZZ : At g outer frs L (fun y => if y = ("elder" : Str) then some (.bool eld) else if y = ("way" : Str) then some (.int way tw) else if y = ("quarters" : Str) then some (.int q t) else none) led s.heap := by simpa using Z
  refine c_execs_cons (c_If (.any (wpAny_isTrue_Compare1 (n_local Z.F.ns rfl (wpAny_Constant_int (P.eq_int (wpAny_truthy_bool ?_))) rfl rfl))))
  by_cases h1 : way = 1
  · subst h1
    rw [if_pos (by decide)]
    have eT : (if eld = true then eldT 1 q else newT 1 q) = .int (Int.tdiv q 4) := by cases eld <;> rfl
    refine c_execs_cons (c_Return (.any (had_one (led := led) hq Z.F.ns rfl rfl rfl fun v k hk hv => ?_)))
    exact ⟨s.heap, k, _, led, frs, rfl, SameUp.refl _, ZZ, hk, eT ▸ hv, rfl⟩
  rw [if_neg (show ¬ ((way : Int) == 1) = true from fun h => h1 (int_eq_dec.mp h))]
  refine c_execs_nil ?_
  refine c_execs_cons (c_If (.any (wpAny_isTrue_BoolOp (wpAny_allTrue_And_cons (wpAny_isTrue_Compare1 (n_local Z.F.ns rfl (wpAny_Constant_int (P.eq_int (wpAny_truthy_bool ?_))) rfl rfl))))))
  have fin : ∀ tk, 0 < tk → (way = 2 → eld = false) → ∀ v k, 0 < k → Rep led v (if way = 3 then .flt (F8 q) else .flt (F4 q)) → Ends g outer frs L s (fun r l => Rep led r (if eld = true then eldT way q else newT way q) ∧ l = led) (.ret v) { s with toks := k } := fun tk _ h2 v k hk hv => by
    exact ⟨s.heap, k, _, led, frs, rfl, SameUp.refl _, ZZ, hk, rep_cases hw h1 h2 hv, rfl⟩
  by_cases h2 : way = 2
  · subst h2
    rw [if_pos (by decide)]
    refine wpAny_allTrue_And_cons (wpAny_isTrue_value (n_local Z.F.ns rfl (wpAny_truthy_bool ?_) rfl rfl))
    cases eld
    · rw [if_neg Bool.false_ne_true]
      refine c_execs_nil (c_execs_cons (c_Return (.any (had_tail (led := led) (Nat.succ_pos _) hq Z.F.ns rfl rfl rfl rfl rfl fun v k hk hv => ?_))))
      exact fin _ htk (fun _ => rfl) v k hk hv
    · rw [if_pos rfl]
      refine wpAny_allTrue_And_nil ?_
      rw [if_pos rfl]
      refine c_execs_cons (c_Return (c_Call1 (nG Z.F G.X TR (n168 w) ?_ rfl rfl rfl)))
      refine c_spliced_cons (.any (n_local Z.F.ns rfl ?_ rfl rfl))
      refine c_spliced_nil ⟨keepL_fn (led := led) (fn168 w) g _ G.X ZZ.F.keep ZZ.toks, ?_⟩
      refine written_ct hq none dp un gd _ outer frs g L _ _ _ _ (.inr rfl) G ZZ rfl rfl (by omega) (by omega) (Nat.succ_pos _) fun r led' h₂ tk₂ frs₂ S₂ Z₂ P t₂ => ?_
      obtain ⟨⟨u, rfl⟩, rfl⟩ := P
      exact ⟨h₂, tk₂, _, _, frs₂, rfl, S₂, Z₂, t₂, .by _ _, rfl⟩
  · rw [if_neg (show ¬ ((way : Int) == 2) = true from fun h => h2 (int_eq_dec.mp h))]
    refine c_execs_nil (c_execs_cons (c_Return (.any (had_tail (led := led) (Nat.succ_pos _) hq Z.F.ns rfl rfl rfl rfl rfl fun v k hk hv => ?_))))
    exact fin _ htk (fun h => absurd h h2) v k hk hv
end
end Mine
end
section
open PySem PySem.W PyProof.Rows PySem.Calls PySem.Flt
open PyProof.Rows.TI (Frs SameUp)
open PyProof.Rows.LCg (lst NsObj)
set_option maxRecDepth 100000
set_option maxHeartbeats 400000
namespace Mine
section
variable {w : World} {A : Around} {s : Shared}
/-- map.__next__ over a list's iterator -/
theorem c_map_next {mp TM I a : Addr} {k : Nat} {xs : Array Value} {y f : Value} {Q : Value → Shared → Prop} (hm : IsMap s.heap mp TM f) (hTM : IsOne s.heap TM (.ref I)) (hi : s.heap.IsListIter I a k) (hl : s.heap.IsList a xs) (hy : xs[k]? = some y) (d1 : mp ≠ I)
    (hf : ∀ h₁, h₁.IsListIter I a (k + 1) → Heap.SameBut I s.heap h₁ → wpC (model PG w) A.in1 (call f [y]) Q NE { s with heap := h₁ }) :
    wpC (model PG w) A (Builtin.SmallTypes.nextOf (.ref mp)) Q NE s := by
  have hT : s.TypeIs (.ref mp) "map" := ⟨_, hm, rfl⟩
  unfold Builtin.SmallTypes.nextOf
  refine wpC_bind (c_callSpecial_slot (name := Str.ofString "__next__") hT FM.slot_map_next (c_call_slot FM.slot_map_next hT FM.entry_map_next ?_ (FM.args_map_next_1 _)))
  show wpC _ _ (field (.ref mp) 0 >>= _) _ _ _
  refine wpC_leaf (wpAny_field hm rfl (x := .ref TM) rfl ?_)
  refine wpC_leaf (wpAny_seqItems hTM rfl ?_)
  dsimp only
  simp only [List.forIn_toArray, List.forIn_cons, List.forIn_nil]
  refine wpC_leaf (wpAny_bind (wpAny_bind (wpAny_holding (wpAny_nextOf_list_item hi hl hy fun h₁ i₁ s₁ => ?_))))
  refine wpAny_pure (wpAny_pure ?_)
  refine wpC_leaf (wpAny_field (s := { s with heap := h₁ }) (s₁.extBut _ _ d1 hm) rfl (x := f) rfl ?_)
  refine wpC_bind (wpC_holding (wpC_mono (hf h₁ i₁ s₁) (fun r s' q => ?_) fun _ _ e => e))
  exact wpC_leaf (wpAny_letGo (wpC_pure (wpC_pure q)))
abbrev ZipF (h : Heap) (z TI TO : Addr) (f0 f1 : Value) : Prop :=
  h.get? z = some { cls := .type "zip", dict := none, data := .fields #[f0, f1, .bool false, .ref TI, .ref TO], slots := #[] }
/-- the objects of zip(it, map(f, it)) are apart -/
structure MAp (z TI TO mp TM I a : Addr) : Prop where
  zTI : TI ≠ z
  zTO : TO ≠ z
  zmp : mp ≠ z
  zTM : TM ≠ z
  zI : I ≠ z
  za : a ≠ z
  oTI : TI ≠ TO
  omp : mp ≠ TO
  oTM : TM ≠ TO
  oI : I ≠ TO
  oa : a ≠ TO
  iTI : TI ≠ I
  imp : mp ≠ I
  iTM : TM ≠ I
  ia : a ≠ I
/-- the first turn: the owned tuple is free -/
theorem c_zip_first {z TI TO mp TM I a : Addr} {k : Nat} {xs : Array Value} {x y f b1 b2 : Value} {Rq : Value → Heap → Nat → Prop} {Q : Value → Shared → Prop} (D : MAp z TI TO mp TM I a)
    (hz : IsZip s.heap z TI TO .none) (hTI : IsPair s.heap TI (.ref I) (.ref mp)) (hTO : IsPair s.heap TO b1 b2) (hm : IsMap s.heap mp TM f) (hTM : IsOne s.heap TM (.ref I)) (hi : s.heap.IsListIter I a k) (hl : s.heap.IsList a xs) (hx : xs[k]? = some x) (hy : xs[k + 1]? = some y)
    (hf : ∀ h₁, (∀ c o, c ≠ z → c ≠ TO → c ≠ I → s.heap.get? c = some o → h₁.get? c = some o) → IsZip h₁ z TI TO .ellipsis → IsPair h₁ TO x b2 → h₁.IsListIter I a (k + 2) →
      wpC (model PG w) A.in1 (call f [y]) (fun r s' => ∃ h' tk', s' = { s with heap := h', toks := tk' } ∧ IsZip h' z TI TO .ellipsis ∧ IsPair h' TO x b2 ∧ Rq r h' tk') NE { s with heap := h₁ })
    (hQ : ∀ r h' tk' h'', Rq r h' tk' → (∀ c o, c ≠ z → c ≠ TO → h'.get? c = some o → h''.get? c = some o) → ZipF h'' z TI TO (rawInt h'.objs.size) (.bool false) → IsPair h'' h'.objs.size x r → IsPair h'' TO x r → Q (.ref h'.objs.size) { s with heap := h'', toks := tk' }) :
    wpC (model PG w) A (Builtin.«zip.__next__» ⟨[.ref z], []⟩) (fun fin s' => ∃ v, fin = .done (.ret v) ∧ Q v s') NE s := by
  show wpC _ _ (field (.ref z) 2 >>= _) _ _ _
  refine wpC_leaf (wpAny_field hz rfl (x := .bool false) rfl ?_)
  show wpC _ _ (field (.ref z) 3 >>= _) _ _ _
  refine wpC_leaf (wpAny_field hz rfl (x := .ref TI) rfl ?_)
  refine wpC_leaf (wpAny_seqItems hTI rfl ?_)
  show wpC _ _ (Builtin.SmallTypes.ownedTupleIsFree (.ref z) >>= _) _ _ _
  refine wpC_leaf ?_
  unfold Builtin.SmallTypes.ownedTupleIsFree
  refine wpAny_bind (wpAny_field hz rfl (x := .none) rfl (wpAny_pure ?_))
  simp only [if_true]
  refine wpC_leaf (wpAny_rule ?_)
  refine wpC_leaf (wpAny_field hz rfl (x := .ref TO) rfl ?_)
  refine wpC_leaf (wpAny_setField_rec hz (by simp) fun h₁ hz₁ s1 => ?_)
  replace hz₁ : IsZip h₁ z TI TO .ellipsis := hz₁
  refine wpC_bind ?_
  simp only [List.zipIdx_cons, List.zipIdx_nil, List.forIn_cons, List.forIn_nil]
  refine wpC_bind (wpC_bind (c_onRaise ?_))
  show wpC _ _ (Builtin.SmallTypes.nextOf (.ref I) >>= _) _ _ _
  refine wpC_leaf (wpAny_nextOf_list_item (hi.extBut s1.extBut D.zI) (hl.extBut s1.extBut D.za) hx fun h₂ i2 s2 => wpC_pure ?_)
  have t2 : IsPair h₂ TO b1 b2 := s2.extBut _ _ D.oI.symm (s1.extBut _ _ D.zTO hTO)
  refine wpC_leaf (wpAny_seqItems t2 rfl ?_)
  refine wpC_leaf (wpAny_updateSeq_pair t2 fun h₃ t3 s3 => ?_)
  replace t3 : IsPair h₃ TO x b2 := t3
  refine wpC_leaf (wpAny_letGo (wpC_pure ?_))
  refine wpC_bind (wpC_bind (c_onRaise ?_))
  show wpC _ _ (Builtin.SmallTypes.nextOf (.ref mp) >>= _) _ _ _
  have up3 : ∀ c o, c ≠ z → c ≠ I → c ≠ TO → s.heap.get? c = some o → h₃.get? c = some o := fun c o c1 c2 c3 e => s3.extBut _ _ c3 (s2.extBut _ _ c2 (s1.extBut _ _ c1 e))
  have z3 : IsZip h₃ z TI TO .ellipsis := s3.extBut _ _ D.zTO.symm (s2.extBut _ _ D.zI.symm hz₁)
  refine wpC_bind (c_map_next (s := { s with heap := h₃ }) (up3 _ _ D.zmp D.imp D.omp hm) (up3 _ _ D.zTM D.iTM D.oTM hTM) (i2.extBut s3.extBut D.oI) (hl.at fun o e => up3 _ o D.za D.ia D.oa e) hy D.imp fun h₄ i4 s4 => ?_)
  refine wpC_mono (hf h₄ (fun c o c1 c2 c3 e => s4.extBut _ _ c3 (up3 c o c1 c3 c2 e)) (s4.extBut _ _ D.zI.symm z3) (s4.extBut _ _ D.oI.symm t3) i4) (fun r s' hr => ?_) fun _ _ e => e
  obtain ⟨h', tk', rfl, z5, t5, hR⟩ := hr
  refine wpC_pure ?_
  refine wpC_leaf (wpAny_seqItems t5 rfl ?_)
  refine wpC_leaf (wpAny_updateSeq_pair t5 fun h₅ t6 s5 => ?_)
  replace t6 : IsPair h₅ TO x r := t6
  refine wpC_leaf (wpAny_letGo (wpC_pure (wpC_pure ?_)))
  refine wpC_leaf (wpAny_seqItems t6 rfl ?_)
  refine wpC_leaf (wpAny_newTuple ?_)
  have hsz : h₅.objs.size = h'.objs.size := s5.1
  have z6 : IsZip h₅ z TI TO .ellipsis := s5.extBut _ _ D.zTO.symm z5
  have hzlt : z < h₅.objs.size := Heap.lt_size z6
  show wpC _ _ (Builtin.SmallTypes.ownedTupleHandOut (.ref z) (.ref h₅.objs.size) >>= _) _ _ _
  refine wpC_leaf ?_
  unfold Builtin.SmallTypes.ownedTupleHandOut
  have z7 : IsZip (h₅.push { cls := .type "tuple", data := .seq #[x, r] }) z TI TO .ellipsis := Heap.get?_push_of_some _ z6
  refine wpAny_bind (wpAny_setField_rec z7 (by simp) fun h₇ z7 s7 => ?_)
  replace z7 : IsZip h₇ z TI TO (rawInt h₅.objs.size) := z7
  refine wpAny_setField_rec z7 (by simp) fun h₈ z8 s8 => ?_
  replace z8 : IsZip h₈ z TI TO (rawInt h₅.objs.size) := z8
  have up : ∀ c o, c ≠ z → h₅.get? c = some o → h₈.get? c = some o := fun c o c1 e => s8.extBut _ _ c1 (s7.extBut _ _ c1 (Heap.get?_push_of_some _ e))
  have t8 : IsPair h₈ h₅.objs.size x r := s8.extBut _ _ (Nat.ne_of_gt hzlt) (s7.extBut _ _ (Nat.ne_of_gt hzlt) (Heap.get?_push_size _ rfl))
  rw [hsz] at z8 t8
  refine wpC_pure ⟨_, rfl, ?_⟩
  show Q (.ref h₅.objs.size) _
  rw [hsz]
  exact hQ r h' tk' h₈ hR (fun c o c1 c2 e => up c o c1 (s5.extBut _ _ c2 e)) z8 t8 (up _ _ D.zTO t6)
theorem wpAny_loadIfAlive {M : Model} {A : Around} {E : Value → Shared → Prop} {s : Shared} {a : Addr} {Q : Option Obj → Shared → Prop} (h : Q (s.heap.get? a) s) : wpAny M A (loadIfAlive a) Q E s := fun Γ p _ => by
  unfold loadIfAlive
  rw [Sem.wp_loadIfAlive, Sem.wp_pure]
  exact h
theorem owned_busy {E : Value → Shared → Prop} {z TI TO T : Addr} {oT : Obj} {b : Bool} {Q : Bool → Shared → Prop} (hz : ZipF s.heap z TI TO (rawInt T) (.bool b)) (hT : s.heap.get? T = some oT)
    (h : ∀ h₁, (∀ c o, c ≠ z → s.heap.get? c = some o → h₁.get? c = some o) → ZipF h₁ z TI TO (rawInt T) (.bool true) → Q false { s with heap := h₁ }) : wpAny (model PG w) A (Builtin.SmallTypes.ownedTupleIsFree (.ref z)) Q E s := by
  unfold Builtin.SmallTypes.ownedTupleIsFree
  refine wpAny_bind (wpAny_field hz rfl (x := rawInt T) rfl ?_)
  show wpAny _ _ (loadIfAlive T >>= _) _ _ _
  refine wpAny_bind (wpAny_loadIfAlive ?_)
  rw [hT]
  show wpAny _ _ (field (.ref z) 1 >>= _) _ _ _
  refine wpAny_bind (wpAny_field hz rfl (x := .bool b) rfl ?_)
  cases b
  · exact wpAny_bind (wpAny_setField_rec hz (by simp) fun h₁ z₁ s₁ => wpAny_pure (h h₁ s₁.extBut z₁))
  · exact wpAny_pure (h s.heap (fun _ _ _ e => e) hz)
/-- the later turns: the tuple handed out lives -/
theorem c_zip_more {z TI TO mp TM I a T : Addr} {k : Nat} {xs : Array Value} {x y f : Value} {oT : Obj} {b : Bool} {Rq : Value → Heap → Nat → Prop} {Q : Value → Shared → Prop} (D : MAp z TI TO mp TM I a)
    (hz : ZipF s.heap z TI TO (rawInt T) (.bool b)) (hT : s.heap.get? T = some oT) (hTI : IsPair s.heap TI (.ref I) (.ref mp)) (hm : IsMap s.heap mp TM f) (hTM : IsOne s.heap TM (.ref I)) (hi : s.heap.IsListIter I a k) (hl : s.heap.IsList a xs) (hx : xs[k]? = some x) (hy : xs[k + 1]? = some y)
    (hf : ∀ h₁, (∀ c o, c ≠ z → c ≠ I → s.heap.get? c = some o → h₁.get? c = some o) → ZipF h₁ z TI TO (rawInt T) (.bool true) → h₁.IsListIter I a (k + 2) →
      wpC (model PG w) A.in1 (call f [y]) (fun r s' => ∃ h' tk', s' = { s with heap := h', toks := tk' } ∧ Rq r h' tk') NE { s with heap := h₁ })
    (hQ : ∀ r h' tk', Rq r h' tk' → Q (.ref h'.objs.size) { s with heap := h'.push { cls := .type "tuple", data := .seq #[x, r] }, toks := tk' }) :
    wpC (model PG w) A (Builtin.«zip.__next__» ⟨[.ref z], []⟩) (fun fin s' => ∃ v, fin = .done (.ret v) ∧ Q v s') NE s := by
  show wpC _ _ (field (.ref z) 2 >>= _) _ _ _
  refine wpC_leaf (wpAny_field hz rfl (x := .bool false) rfl ?_)
  show wpC _ _ (field (.ref z) 3 >>= _) _ _ _
  refine wpC_leaf (wpAny_field hz rfl (x := .ref TI) rfl ?_)
  refine wpC_leaf (wpAny_seqItems hTI rfl ?_)
  show wpC _ _ (Builtin.SmallTypes.ownedTupleIsFree (.ref z) >>= _) _ _ _
  refine wpC_leaf (owned_busy hz hT fun h₁ k₁ z₁ => ?_)
  simp only [Bool.false_eq_true, if_false]
  simp only [List.forIn_toArray, List.forIn_cons, List.forIn_nil]
  refine wpC_bind (wpC_bind (wpC_bind (wpC_holding ?_)))
  show wpC _ _ (Builtin.SmallTypes.nextOf (.ref I) >>= _) _ _ _
  refine wpC_leaf (wpAny_nextOf_list_item (s := { s with heap := h₁ }) (hi.at fun o e => k₁ _ o D.zI e) (hl.at fun o e => k₁ _ o D.za e) hx fun h₂ i2 s2 => wpC_pure (wpC_pure ?_))
  dsimp only
  refine wpC_bind (wpC_bind (wpC_holding ?_))
  show wpC _ _ (Builtin.SmallTypes.nextOf (.ref mp) >>= _) _ _ _
  have up2 : ∀ c o, c ≠ z → c ≠ I → s.heap.get? c = some o → h₂.get? c = some o := fun c o c1 c2 e => s2.extBut _ _ c2 (k₁ _ _ c1 e)
  have z2 : ZipF h₂ z TI TO (rawInt T) (.bool true) := s2.extBut _ _ D.zI.symm z₁
  refine wpC_bind (c_map_next (s := { s with heap := h₂ }) (up2 _ _ D.zmp D.imp hm) (up2 _ _ D.zTM D.iTM hTM) i2 (hl.at fun o e => up2 _ o D.za D.ia e) hy D.imp fun h₄ i4 s4 => ?_)
  refine wpC_mono (hf h₄ (fun c o c1 c3 e => s4.extBut _ _ c3 (up2 c o c1 c3 e)) (s4.extBut _ _ D.zI.symm z2) i4) (fun r s' hr => ?_) fun _ _ e => e
  obtain ⟨h', tk', rfl, hR⟩ := hr
  refine wpC_pure (wpC_pure (wpC_pure ?_))
  refine wpC_leaf (wpAny_newTuple (hsz := by show 2 ≤ sizeLine; rw [sizeLine_eq]; decide) ?_)
  exact wpC_pure ⟨_, rfl, hQ r h' tk' hR⟩
/-- the end -/
theorem zip_more_end {z TI TO I a T mp : Addr} {k : Nat} {xs : Array Value} {oT : Obj} {b : Bool} {Q : Fin → Shared → Prop} {E : Value → Shared → Prop} (hh : A.handled = none) (d1 : I ≠ z) (d2 : a ≠ z)
    (hz : ZipF s.heap z TI TO (rawInt T) (.bool b)) (hT : s.heap.get? T = some oT) (hTI : IsPair s.heap TI (.ref I) (.ref mp)) (hi : s.heap.IsListIter I a k) (hl : s.heap.IsList a xs) (hx : xs[k]? = none)
    (hE : ∀ h' e, (∀ c o, c ≠ z → c ≠ I → s.heap.get? c = some o → h'.get? c = some o) → (∃ o, h'.get? e = some o ∧ o.cls = .type "StopIteration") → E (.ref e) { s with heap := h' }) :
    wpAny (model PG w) A (Builtin.«zip.__next__» ⟨[.ref z], []⟩) Q E s := by
  show wpAny _ _ (field (.ref z) 2 >>= _) _ _ _
  refine wpAny_bind (wpAny_field hz rfl (x := .bool false) rfl ?_)
  show wpAny _ _ (field (.ref z) 3 >>= _) _ _ _
  refine wpAny_bind (wpAny_field hz rfl (x := .ref TI) rfl ?_)
  refine wpAny_bind (wpAny_seqItems hTI rfl ?_)
  show wpAny _ _ (Builtin.SmallTypes.ownedTupleIsFree (.ref z) >>= _) _ _ _
  refine wpAny_bind (owned_busy hz hT fun h₁ k₁ z₁ => ?_)
  simp only [Bool.false_eq_true, if_false]
  simp only [List.forIn_toArray, List.forIn_cons, List.forIn_nil]
  refine wpAny_bind (wpAny_bind (wpAny_bind (wpAny_holding ?_)))
  show wpAny _ _ (Builtin.SmallTypes.nextOf (.ref I) >>= _) _ _ _
  exact wpAny_bind (wpAny_nextOf_list_end (s := { s with heap := h₁ }) hh (hi.at fun o e => k₁ _ o d1 e) (hl.at fun o e => k₁ _ o d2 e) hx fun h₂ e s2 he => hE h₂ e (fun c o c1 c2 x => s2 _ _ c2 (k₁ _ _ c1 x)) he)
theorem zip_first_end {z TI TO I a mp : Addr} {k : Nat} {xs : Array Value} {b1 b2 : Value} {Q : Fin → Shared → Prop} {E : Value → Shared → Prop} (hh : A.handled = none) (d1 : I ≠ z) (d2 : a ≠ z)
    (hz : IsZip s.heap z TI TO .none) (hTI : IsPair s.heap TI (.ref I) (.ref mp)) (hi : s.heap.IsListIter I a k) (hl : s.heap.IsList a xs) (hx : xs[k]? = none)
    (hE : ∀ h' e, (∀ c o, c ≠ z → c ≠ I → s.heap.get? c = some o → h'.get? c = some o) → (∃ o, h'.get? e = some o ∧ o.cls = .type "StopIteration") → E (.ref e) { s with heap := h' }) :
    wpAny (model PG w) A (Builtin.«zip.__next__» ⟨[.ref z], []⟩) Q E s := by
  show wpAny _ _ (field (.ref z) 2 >>= _) _ _ _
  refine wpAny_bind (wpAny_field hz rfl (x := .bool false) rfl ?_)
  show wpAny _ _ (field (.ref z) 3 >>= _) _ _ _
  refine wpAny_bind (wpAny_field hz rfl (x := .ref TI) rfl ?_)
  refine wpAny_bind (wpAny_seqItems hTI rfl ?_)
  show wpAny _ _ (Builtin.SmallTypes.ownedTupleIsFree (.ref z) >>= _) _ _ _
  refine wpAny_bind ?_
  unfold Builtin.SmallTypes.ownedTupleIsFree
  refine wpAny_bind (wpAny_field hz rfl (x := .none) rfl (wpAny_pure ?_))
  simp only [if_true]
  refine wpAny_bind (wpAny_rule ?_)
  refine wpAny_bind (wpAny_field hz rfl (x := .ref TO) rfl ?_)
  refine wpAny_bind (wpAny_setField_rec hz (by simp) fun h₁ hz₁ s1 => ?_)
  replace hz₁ : IsZip h₁ z TI TO .ellipsis := hz₁
  refine wpAny_bind ?_
  simp only [List.zipIdx_cons, List.zipIdx_nil, List.forIn_cons, List.forIn_nil]
  refine wpAny_bind (wpAny_bind (wpAny_onRaise ?_))
  show wpAny _ _ (Builtin.SmallTypes.nextOf (.ref I) >>= _) _ _ _
  refine wpAny_bind (wpAny_nextOf_list_end hh (hi.extBut s1.extBut d1) (hl.extBut s1.extBut d2) hx fun h₂ e s2 he => ?_)
  obtain ⟨oe, hoe, hce⟩ := he
  have hz₂ : IsZip h₂ z TI TO .ellipsis := s2 _ _ d1.symm hz₁
  have hez : e ≠ z := fun x => by subst x; rw [hz₂] at hoe; cases hoe; simp at hce
  refine wpAny_setField_rec hz₂ (by simp) fun h₃ _ s3 => hE h₃ e (fun c o c1 c3 x => s3.extBut _ _ c1 (s2 _ _ c3 (s1.extBut _ _ c1 x))) ⟨oe, s3.extBut _ _ hez hoe, hce⟩
end
end Mine
end
section
open PySem PySem.W PyProof.Rows PySem.Calls PySem.Flt
open PyProof.Rows.TI (Frs SameUp)
open PyProof.Rows.LCg (lst NsObj)
set_option maxRecDepth 100000
set_option maxHeartbeats 400000
namespace Mine
section
variable {w : World} {A : Around} {s : Shared}
theorem c_pyNext_zip {z : Addr} {Q : Option Value → Shared → Prop} (hT : s.TypeIs (.ref z) "zip") (h : wpC (model PG w) A.in1 (Builtin.«zip.__next__» ⟨[.ref z], []⟩) (fun fin s' => ∃ v, fin = .done (.ret v) ∧ Q (some v) s') NE s) :
    wpC (model PG w) A (pyNext (.ref z)) Q NE s := by
  unfold pyNext
  refine wpC_bind (wpC_attempt (c_callSpecial_slot (name := Str.ofString "__next__") hT F.slot_zip_next (c_call_slot F.slot_zip_next hT F.entry_zip_next (wpC_mono (wpC.ne h) (fun fin s' q => ?_) fun _ _ e => e) (F.args_zip_next_1 _))))
  obtain ⟨v, rfl, q⟩ := q
  exact wpC_pure q
theorem pyNext_zip_end {z : Addr} {Q : Option Value → Shared → Prop} (hT : s.TypeIs (.ref z) "zip")
    (h : wpAny (model PG w) A.in1 (Builtin.«zip.__next__» ⟨[.ref z], []⟩) (fun _ _ => False) (fun e s' => ∃ a, e = .ref a ∧ (∃ o, s'.heap.get? a = some o ∧ o.cls = .type "StopIteration") ∧ Q none s') s) : wpAny (model PG w) A (pyNext (.ref z)) Q NE s := by
  unfold pyNext
  refine wpAny_bind (wpAny_attempt (wpAny_callSpecial?_slot (name := Str.ofString "__next__") hT F.slot_zip_next
    (wpAny_call_entry F.slot_zip_next hT F.entry_zip_next (wpAny_mono h (fun _ _ q => q.elim) fun e s' he => ?_) (F.args_zip_next_1 _))))
  obtain ⟨a, rfl, ⟨o, ho, hc⟩, q⟩ := he
  exact wpAny_bind (wpAny_isInstance (T := "StopIteration") (b := true) ⟨o, ho, hc⟩ isSubtype_stop (wpAny_pure q))

structure Side (h : Heap) (TI mp TM I a : Addr) (f : Value) (k : Nat) : Prop where
  ti : IsPair h TI (.ref I) (.ref mp)
  m : IsMap h mp TM f
  tm : IsOne h TM (.ref I)
  i : h.IsListIter I a k
def ZSt (h : Heap) (z TI TO : Addr) (new : List (Addr × Obj)) : Prop :=
  (IsZip h z TI TO .none ∧ IsPair h TO .none .none) ∨ ∃ (T : Addr) (b : Bool) (o oTO : Obj), ZipF h z TI TO (rawInt T) (.bool b) ∧ (T, o) ∈ new ∧ h.get? TO = some oTO
theorem ZSt.type {h : Heap} {z TI TO : Addr} {new : List (Addr × Obj)} (x : ZSt h z TI TO new) {s : Shared} {tk : Nat} : ({ s with heap := h, toks := tk } : Shared).TypeIs (.ref z) "zip" := by
  rcases x with ⟨h1, _⟩ | ⟨T, b, o, _, h1, _⟩
  · exact ⟨_, h1, rfl⟩
  · exact ⟨_, h1, rfl⟩
end
section
variable {w : World} {p : Program} {loose : List Str} {mean : ExcName → Option Value} {mg mb : Str → Option Value} {dp un : Nat} {gd : Option (List Code)} {env : Env} {g : Heap} {outer : List Env} {frs : List (Addr × Obj)} {L : Addr} {m : Str → Option Value} {X : List (Addr × Obj)} {s : Shared}
  {z TI TO mp TM I S a : Addr} {f : Value} {vs : List Value} {n : Nat} {v₁ v₂ : Nat → Value} {t2 : Nat → T}
/-- side objects as ledger entries -/
abbrev sideE (z TI TO mp TM I S : Addr) (f : Value) (oz oTO oI oS : Obj) : List (Addr × Obj) :=
  [(z, oz), (TO, oTO), (I, oI), (S, oS), (TI, { cls := .type "tuple", data := .seq #[.ref I, .ref mp] }), (mp, { cls := .type "map", dict := none, data := .fields #[.ref TM, f], slots := #[] }), (TM, { cls := .type "tuple", data := .seq #[.ref I] })]
theorem sideE_W {z TI TO mp TM I S : Addr} {f : Value} {oz oTO oI oS : Obj} : ∀ q ∈ sideE z TI TO mp TM I S f oz oTO oI oS, q.1 ∈ [z, TO, I, S, TI, mp, TM] := fun q hq => by
  have e : [z, TO, I, S, TI, mp, TM] = (sideE z TI TO mp TM I S f oz oTO oI oS).map (·.1) := rfl
  rw [e]
  exact List.mem_map.mpr ⟨q, hq, rfl⟩
structure WOff (g : Heap) (frs : List (Addr × Obj)) (L : Addr) (W : List Addr) : Prop where
  l : ∀ b ∈ W, b ≠ L
  g : ∀ b ∈ W, g.get? b = none
  f : ∀ b ∈ W, ∀ q ∈ frs, b ≠ q.1
theorem WOff.up {g : Heap} {frs frs' : List (Addr × Obj)} {L : Addr} {W : List Addr} (x : WOff g frs L W) (S : SameUp frs frs') : WOff g frs' L W :=
  ⟨x.l, x.g, fun b hb q hq => by obtain ⟨y, hy, e⟩ := S.fwd q hq; rw [e]; exact x.f b hb y hy⟩
theorem At.side {h : Heap} {frs' led : List (Addr × Obj)} (Z : At g outer frs' L m led h) {W : List Addr} (O : WOff g frs' L W) (E : List (Addr × Obj)) (hE : ∀ q ∈ E, q.1 ∈ W ∧ h.get? q.1 = some q.2) : At g outer frs' L m (E ++ led) h :=
  Z.more E fun q hq => ⟨(hE q hq).2, O.l _ (hE q hq).1, O.g _ (hE q hq).1, O.f _ (hE q hq).1⟩
theorem At.awayW {h h' : Heap} {frs' led : List (Addr × Obj)} (Z : At g outer frs' L m led h) {W V : List Addr} (O : WOff g frs' L W) (hV : ∀ b ∈ V, b ∈ W) (hk : ∀ b o, b ∉ V → h.get? b = some o → h'.get? b = some o) (off : ∀ q ∈ led, q.1 ∉ W) : At g outer frs' L m led h' :=
  Z.away (W := V) hk (fun q => O.l _ (hV _ q) rfl) (fun b hb => O.g b (hV _ hb)) (fun q hq hh => off q hq (hV _ hh)) fun q hq hh => O.f _ (hV _ hh) q hq rfl
/-- the tuple at the heap's end -/
theorem At.top {h h' : Heap} {frs' led : List (Addr × Obj)} {T : Addr} {o : Obj} (Z' : At g outer frs' L m led h') (Z : At g outer frs' L m led h) (hT : T = h.objs.size) (ho : h'.get? T = some o) : At g outer frs' L m ((T, o) :: led) h' := by
  subst hT
  exact Z'.more [(_, o)] fun q hq => by
    obtain rfl := List.mem_singleton.mp hq
    exact ⟨ho, Nat.ne_of_gt Z.F.ns.lt, Heap.get?_none_of_le (Nat.le_trans Z.F.above (Nat.le_of_lt Z.F.ns.lt)), fun y hy => Nat.ne_of_gt (Heap.lt_size (Z.N y (List.mem_append_right _ hy)).1)⟩

/-- one turn -/
theorem c_zip_turn (G : Gd w p loose mean mg mb g) (he : env.frame = some L) (hke : env.scope.kind = .function) (hd : dp + 3 < recursionLimit) (hu : un + 70 < cLine) (D : MAp z TI TO mp TM I a) (hLA : LstAt X a vs) (hvl : vs.length = 2 * n) (hv1 : ∀ i, i < n → vs[2 * i]? = some (v₁ i)) (hv2 : ∀ i, i < n → vs[2 * i + 1]? = some (v₂ i))
    (hf : ∀ i, i < n → ∀ led', (∀ q ∈ X, q ∈ led') → Ct false w p loose mean mg mb f [v₂ i] [] 3 led' (fun r l => l = led' ∧ Rep [] r (t2 i)))
    {h : Heap} {tk i : Nat} {new frs' : List (Addr × Obj)} {oS : Obj} (hi : i < n) (O : WOff g frs' L [z, TO, I, S, TI, mp, TM]) (Z : At g outer frs' L m (new ++ X) h) (off : ∀ q ∈ new ++ X, q.1 ∉ [z, TO, I, S, TI, mp, TM]) (hSn : S ∉ [z, TO, I]) (htk : 0 < tk)
    (hz : ZSt h z TI TO new) (hs : Side h TI mp TM I a f (2 * i)) (hS : h.get? S = some oS) :
    wpC (model PG w) (aT none dp un gd (env :: outer)) (pyNext (.ref z)) (fun r s₁ => ∃ T h₂ tk₂ frs₂ rv o, r = some (.ref T) ∧ s₁ = { s with heap := h₂, toks := tk₂ } ∧ SameUp frs' frs₂ ∧ At g outer frs₂ L m ((T, o) :: (new ++ X)) h₂ ∧ T ∉ [z, TO, I, S, TI, mp, TM] ∧ (∀ q ∈ new ++ X, T ≠ q.1) ∧
      o = { cls := .type "tuple", data := .seq #[v₁ i, rv] } ∧ Rep [] rv (t2 i) ∧ 0 < tk₂ ∧ h₂.get? S = some oS ∧ Side h₂ TI mp TM I a f (2 * i + 2) ∧ ZSt h₂ z TI TO ((T, o) :: new)) NE { s with heap := h, toks := tk } := by
  obtain ⟨oa, ka, a1, a2, a3⟩ := hLA.of
  have aM : (a, oa) ∈ new ++ X := List.mem_append_right _ a1
  have hl : h.IsList a vs.toArray := ⟨oa, Z.toks _ aM, a2, ka, a3⟩
  have hx : vs.toArray[2 * i]? = some (v₁ i) := by simpa using hv1 i hi
  have hy : vs.toArray[2 * i + 1]? = some (v₂ i) := by simpa using hv2 i hi
  have nz : ∀ q ∈ new ++ X, q.1 ≠ z ∧ q.1 ≠ TO ∧ q.1 ≠ I := fun q hq => by
    have := off q hq
    simp only [List.mem_cons, List.not_mem_nil, or_false, not_or] at this
    exact ⟨this.1, this.2.1, this.2.2.1⟩
  have S1 : S ≠ z ∧ S ≠ TO ∧ S ≠ I := by simpa using hSn
  refine c_pyNext_zip hz.type ?_
  rcases hz with ⟨z0, t0⟩ | ⟨T, b, oT, oTO₀, z0, hTm, tTO⟩
  · refine c_zip_first (s := { s with heap := h, toks := tk }) (k := 2 * i) (Rq := fun r h' tk' => ∃ frs₂ oI oz, SameUp frs' frs₂ ∧ oI.cls = .type "list_iterator" ∧ oI.data = .fields #[.ref a, .int (2 * i + 2 : Nat) 0] ∧
        At g outer frs₂ L m (sideE z TI TO mp TM I S f oz { cls := .type "tuple", data := .seq #[v₁ i, .none] } oI oS ++ (new ++ X)) h' ∧ Rep [] r (t2 i) ∧ 0 < tk') D z0 hs.ti t0 hs.m hs.tm hs.i hl hx hy (fun h₁ k₁ z₁ t₁ i₁ => ?_) (fun r h' tk' h'' hR k'' z'' t'' to'' => ?_)
    · obtain ⟨oI, o1, o2, o3⟩ := i₁
      have Z₁ : At g outer frs' L m (new ++ X) h₁ := Z.awayW (V := [z, TO, I]) O (by simp) (fun b o hb e => by
        simp only [List.mem_cons, List.not_mem_nil, or_false, not_or] at hb
        exact k₁ b o hb.1 hb.2.1 hb.2.2 e) off
      have Z₂ := Z₁.side O (sideE z TI TO mp TM I S f _ _ oI oS) (fun q hq => ⟨sideE_W q hq, by
        simp only [sideE, List.mem_cons, List.not_mem_nil, or_false] at hq
        rcases hq with rfl | rfl | rfl | rfl | rfl | rfl | rfl
        · exact z₁
        · exact t₁
        · exact o1
        · exact k₁ _ _ S1.1 S1.2.1 S1.2.2 hS
        · exact k₁ _ _ D.zTI D.oTI D.iTI hs.ti
        · exact k₁ _ _ D.zmp D.omp D.imp hs.m
        · exact k₁ _ _ D.zTM D.oTM D.iTM hs.tm⟩)
      refine hf i hi _ (fun q hq => List.mem_append_right _ (List.mem_append_right _ hq)) none dp (un + 2) gd env outer frs' g L m { s with heap := h₁, toks := tk } _ _ (.inr rfl) G Z₂ he hke (by omega) (by omega) htk fun r led' h' tk' frs₂ S₂ Z₃ P t₃ => ?_
      obtain ⟨rfl, hr⟩ := P
      refine ⟨h', tk', rfl, Z₃.toks _ (.head _), Z₃.toks _ (.tail _ (.head _)), frs₂, oI, _, S₂, o2, o3, Z₃, hr, t₃⟩
    · obtain ⟨frs₂, oI, oz, S₂, o2, o3, Z₃, hr, t₃⟩ := hR
      have g3 := Z₃.toks
      have O₂ := O.up S₂
      have Z₄ : At g outer frs₂ L m (new ++ X) h' := Z₃.perm fun q hq => List.mem_append_right _ hq
      have Z₅ : At g outer frs₂ L m (new ++ X) h'' := Z₄.awayW (V := [z, TO]) O₂ (by simp) (fun b o hb e => by
        simp only [List.mem_cons, List.not_mem_nil, or_false, not_or] at hb
        exact k'' b o hb.1 hb.2 e) off
      have lt : ∀ q ∈ sideE z TI TO mp TM I S f oz { cls := .type "tuple", data := .seq #[v₁ i, .none] } oI oS ++ (new ++ X), q.1 < h'.objs.size := fun q hq => Heap.lt_size (g3 q hq)
      refine ⟨h'.objs.size, h'', tk', frs₂, r, _, rfl, rfl, S₂, Z₅.top Z₄ rfl t'', fun hm => ?_, fun q hq => Nat.ne_of_gt (lt q (List.mem_append_right _ hq)), rfl, hr, t₃, k'' _ _ S1.1 S1.2.1 (g3 (S, oS) (by simp)), ⟨k'' _ _ D.zTI D.oTI (g3 (TI, _) (by simp)), k'' _ _ D.zmp D.omp (g3 (mp, _) (by simp)), k'' _ _ D.zTM D.oTM (g3 (TM, _) (by simp)), oI, k'' _ _ D.zI D.oI (g3 (I, oI) (by simp)), o2, o3⟩, .inr ⟨_, false, _, _, z'', .head _, to''⟩⟩
      have e : [z, TO, I, S, TI, mp, TM] = (sideE z TI TO mp TM I S f oz { cls := .type "tuple", data := .seq #[v₁ i, .none] } oI oS).map (·.1) := rfl
      rw [e] at hm
      obtain ⟨q, hq, e⟩ := List.mem_map.mp hm
      exact absurd e (Nat.ne_of_lt (lt q (List.mem_append_left _ hq)))
  · have tT : h.get? T = some oT := Z.toks (T, oT) (List.mem_append_left _ hTm)
    refine c_zip_more (s := { s with heap := h, toks := tk }) (k := 2 * i) (Rq := fun r h' tk' => ∃ frs₂ oI oTO, SameUp frs' frs₂ ∧ oI.cls = .type "list_iterator" ∧ oI.data = .fields #[.ref a, .int (2 * i + 2 : Nat) 0] ∧
        At g outer frs₂ L m (sideE z TI TO mp TM I S f { cls := .type "zip", dict := none, data := .fields #[rawInt T, .bool true, .bool false, .ref TI, .ref TO], slots := #[] } oTO oI oS ++ (new ++ X)) h' ∧ Rep [] r (t2 i) ∧ 0 < tk') D z0 tT hs.ti hs.m hs.tm hs.i hl hx hy (fun h₁ k₁ z₁ i₁ => ?_) (fun r h' tk' hR => ?_)
    · obtain ⟨oI, o1, o2, o3⟩ := i₁
      have Z₁ : At g outer frs' L m (new ++ X) h₁ := Z.awayW (V := [z, I]) O (by simp) (fun b o hb e => by
        simp only [List.mem_cons, List.not_mem_nil, or_false, not_or] at hb
        exact k₁ b o hb.1 hb.2 e) off
      have Z₂ := Z₁.side O (sideE z TI TO mp TM I S f _ oTO₀ oI oS) (fun q hq => ⟨sideE_W q hq, by
        simp only [sideE, List.mem_cons, List.not_mem_nil, or_false] at hq
        rcases hq with rfl | rfl | rfl | rfl | rfl | rfl | rfl
        · exact z₁
        · exact k₁ _ _ D.zTO D.oI.symm tTO
        · exact o1
        · exact k₁ _ _ S1.1 S1.2.2 hS
        · exact k₁ _ _ D.zTI D.iTI hs.ti
        · exact k₁ _ _ D.zmp D.imp hs.m
        · exact k₁ _ _ D.zTM D.iTM hs.tm⟩)
      refine hf i hi _ (fun q hq => List.mem_append_right _ (List.mem_append_right _ hq)) none dp (un + 2) gd env outer frs' g L m { s with heap := h₁, toks := tk } _ _ (.inr rfl) G Z₂ he hke (by omega) (by omega) htk fun r led' h' tk' frs₂ S₂ Z₃ P t₃ => ?_
      obtain ⟨rfl, hr⟩ := P
      refine ⟨h', tk', rfl, frs₂, oI, _, S₂, o2, o3, Z₃, hr, t₃⟩
    · obtain ⟨frs₂, oI, oTO, S₂, o2, o3, Z₃, hr, t₃⟩ := hR
      have g3 := Z₃.toks
      have Z₄ : At g outer frs₂ L m (new ++ X) h' := Z₃.perm fun q hq => List.mem_append_right _ hq
      have lt : ∀ q ∈ sideE z TI TO mp TM I S f { cls := .type "zip", dict := none, data := .fields #[rawInt T, .bool true, .bool false, .ref TI, .ref TO], slots := #[] } oTO oI oS ++ (new ++ X), q.1 < h'.objs.size := fun q hq => Heap.lt_size (g3 q hq)
      have k'' : ∀ b o, h'.get? b = some o → (h'.push { cls := .type "tuple", data := .seq #[v₁ i, r] }).get? b = some o := fun b o e => Heap.get?_push_of_some _ e
      refine ⟨h'.objs.size, _, tk', frs₂, r, _, rfl, rfl, S₂, (Z₄.keeps k'').top Z₄ rfl (Heap.get?_push_size _ rfl), fun hm => ?_, fun q hq => Nat.ne_of_gt (lt q (List.mem_append_right _ hq)), rfl, hr, t₃, k'' _ _ (g3 (S, oS) (by simp)), ⟨k'' _ _ (g3 (TI, _) (by simp)), k'' _ _ (g3 (mp, _) (by simp)), k'' _ _ (g3 (TM, _) (by simp)), oI, k'' _ _ (g3 (I, oI) (by simp)), o2, o3⟩, .inr ⟨T, true, oT, oTO, k'' _ _ (g3 (z, _) (by simp)), .tail _ hTm, k'' _ _ (g3 (TO, oTO) (by simp))⟩⟩
      have e : [z, TO, I, S, TI, mp, TM] = (sideE z TI TO mp TM I S f { cls := .type "zip", dict := none, data := .fields #[rawInt T, .bool true, .bool false, .ref TI, .ref TO], slots := #[] } oTO oI oS).map (·.1) := rfl
      rw [e] at hm
      obtain ⟨q, hq, e⟩ := List.mem_map.mp hm
      exact absurd e (Nat.ne_of_lt (lt q (List.mem_append_left _ hq)))

theorem c_zip_stop (D : MAp z TI TO mp TM I a) (hLA : LstAt X a vs) (hvl : vs.length = 2 * n) {h : Heap} {tk : Nat} {new frs' : List (Addr × Obj)} (Z : At g outer frs' L m (new ++ X) h) 
    (hz : ZSt h z TI TO new) (hs : Side h TI mp TM I a f (2 * n)) {Q : Option Value → Shared → Prop} (hQ : ∀ h', (∀ c o, c ≠ z → c ≠ I → h.get? c = some o → h'.get? c = some o) → Q none { s with heap := h', toks := tk }) :
    wpAny (model PG w) (aT none dp un gd (env :: outer)) (pyNext (.ref z)) Q NE { s with heap := h, toks := tk } := by
  obtain ⟨oa, ka, a1, a2, a3⟩ := hLA.of
  have hl : h.IsList a vs.toArray := ⟨oa, Z.toks _ (List.mem_append_right _ a1), a2, ka, a3⟩
  have hx : vs.toArray[2 * n]? = none := by simp [hvl]
  refine pyNext_zip_end hz.type ?_
  rcases hz with ⟨z0, t0⟩ | ⟨T, b, oT, oTO₀, z0, hTm, tTO⟩
  · exact zip_first_end (s := { s with heap := h, toks := tk }) (b1 := .none) (b2 := .none) rfl D.zI D.za z0 hs.ti hs.i hl hx fun h' e k he => ⟨e, rfl, he, hQ h' k⟩
  · exact zip_more_end (s := { s with heap := h, toks := tk }) rfl D.zI D.za z0 (Z.toks (T, oT) (List.mem_append_left _ hTm)) hs.ti hs.i hl hx fun h' e k he => ⟨e, rfl, he, hQ h' k⟩

theorem c_extend_loop {t1 : Nat → T} {R : Result → Shared → Prop} (G : Gd w p loose mean mg mb g) (he : env.frame = some L) (hke : env.scope.kind = .function) (hd : dp + 3 < recursionLimit) (hu : un + 71 < cLine) (D : MAp z TI TO mp TM I a) (hLA : LstAt X a vs) (hvl : vs.length = 2 * n) (hsz : n ≤ 1000) (hv1 : ∀ i, i < n → vs[2 * i]? = some (v₁ i)) (hv2 : ∀ i, i < n → vs[2 * i + 1]? = some (v₂ i))
    (r1 : ∀ i, i < n → Rep X (v₁ i) (t1 i)) (hf : ∀ i, i < n → ∀ led', (∀ q ∈ X, q ∈ led') → Ct false w p loose mean mg mb f [v₂ i] [] 3 led' (fun r l => l = led' ∧ Rep [] r (t2 i)))
    (hSn : S ∉ [z, TO, I, TI, mp, TM]) 
    (hR : ∀ h' tk' ys c new frs', SameUp frs frs' → At g outer frs' L m (new ++ X) h' → h'.get? S = some { cls := .type "list", dict := none, data := .seq (List.toArray ys) c, slots := #[] } → (∀ q ∈ new ++ X, q.1 ∉ [z, TO, I, S, TI, mp, TM]) → (∀ q ∈ new, ∀ y ∈ X, q.1 ≠ y.1) → Reps (new ++ X) ys ((List.range n).map fun i => .tup [t1 i, t2 i]) → 0 < tk' → R (.ok (.ret .none)) { s with heap := h', toks := tk' }) :
    ∀ (k i : Nat) (h : Heap) (tk c : Nat) (ys : List Value) (new frs' : List (Addr × Obj)), n - i = k → i ≤ n → SameUp frs frs' → WOff g frs' L [z, TO, I, S, TI, mp, TM] → At g outer frs' L m (new ++ X) h → (∀ q ∈ new ++ X, q.1 ∉ [z, TO, I, S, TI, mp, TM]) → (∀ q ∈ new, ∀ y ∈ X, q.1 ≠ y.1) → 0 < tk → ys.length = i →
      Reps (new ++ X) ys ((List.range i).map fun i => .tup [t1 i, t2 i]) → ZSt h z TI TO new → Side h TI mp TM I a f (2 * i) → h.get? S = some { cls := .type "list", dict := none, data := .seq (List.toArray ys) c, slots := #[] } →
      codeC (model PG w) (aT none dp un gd (env :: outer)) (.builtin "list.extend.loop" ⟨[.ref S, .ref z, .none], []⟩) R { s with heap := h, toks := tk } := by
  have S1 : S ≠ z ∧ S ≠ TO ∧ S ≠ I ∧ S ≠ TI ∧ S ≠ mp ∧ S ≠ TM := by simpa using hSn
  intro k
  induction k with
  | zero =>
    intro i h tk c ys new frs' hk hi Sf O Z off offn htk hyl R₀ hz hs hS
    obtain rfl : i = n := by omega
    refine codeC_builtin PySem.F.entry_extend_loop ?_
    rw [Around.under_plainId PySem.F.plain_extend_loop _]
    show wpC _ (aT none dp (un + 1) gd (env :: outer)) (pyNext (.ref z) >>= _) _ _ _
    refine wpC_leaf (wpAny_mono (c_zip_stop (s := s) (Q := fun a s' => a = none ∧ ∃ h', (∀ c o, c ≠ z → c ≠ I → h.get? c = some o → h'.get? c = some o) ∧ s' = { s with heap := h', toks := tk }) D hLA hvl Z hz hs fun h' k' => ⟨rfl, h', k', rfl⟩) (fun a s' ha => ?_) fun _ _ e => e.elim)
    obtain ⟨rfl, h', k', rfl⟩ := ha
    refine wpC_pure ?_
    exact hR h' tk ys c new frs' Sf (Z.awayW (V := [z, I]) O (by simp) (fun b o hb e => by
        simp only [List.mem_cons, List.not_mem_nil, or_false, not_or] at hb
        exact k' b o hb.1 hb.2 e) off) (k' _ _ S1.1 S1.2.2.1 hS) off offn R₀ htk
  | succ k ih =>
    intro i h tk c ys new frs' hk hi Sf O Z off offn htk hyl R₀ hz hs hS
    have hlt : i < n := by omega
    refine codeC_builtin PySem.F.entry_extend_loop ?_
    rw [Around.under_plainId PySem.F.plain_extend_loop _]
    show wpC _ (aT none dp (un + 1) gd (env :: outer)) (pyNext (.ref z) >>= _) _ _ _
    refine wpC_bind (wpC_mono (c_zip_turn (w := w) (un := un + 1) G he hke hd (by omega) D hLA hvl hv1 hv2 hf hlt O Z off (by simp [S1]) htk hz hs hS) (fun r s₁ h₁ => ?_) fun _ _ e => e.elim)
    obtain ⟨T, h₂, tk₂, frs₂, rv, o, rfl, rfl, S₂, Z₂, hTW, hTn, ho, hrv, ht₂, hS₂, hs₂, hz₂⟩ := h₁
    show wpC _ _ (updateSeq S (·.push (Value.ref T)) >>= _) _ _ _
    have O₂ := O.up S₂
    have off₂ : ∀ q ∈ ((T, o) :: new) ++ X, q.1 ∉ [z, TO, I, S, TI, mp, TM] := fun q hq => by
      rcases List.mem_cons.mp hq with rfl | hq
      · exact hTW
      · exact off q hq
    have up : ∀ b o, b ≠ S → h₂.get? b = some o → (h₂.update S (Obj.mapSeq (·.push (Value.ref T)))).get? b = some o := fun b o hb e => (Heap.get?_update_other _ _ (Ne.symm hb)).trans e
    refine wpC_leaf (wpAny_updateSeq hS₂ rfl (wpC_pure ⟨plainId_quiet PySem.F.plain_extend_loop _, ih (i + 1) _ tk₂ (c + 1) (ys ++ [Value.ref T]) ((T, o) :: new) frs₂ (by omega) hlt (Sf.trans S₂) O₂ (At.awayW (led := ((T, o) :: new) ++ X) Z₂ (V := [S]) O₂ (by simp) (fun b o hb e => up b o (by simpa using hb) e) off₂) off₂ (fun q hq y hy => ?_) ht₂ (by rw [List.length_append, hyl]; rfl) ?_ ?_ ⟨up _ _ S1.2.2.2.1.symm hs₂.ti, up _ _ S1.2.2.2.2.1.symm hs₂.m, up _ _ S1.2.2.2.2.2.symm hs₂.tm, hs₂.i.at fun o e => up _ o S1.2.2.1.symm e⟩ ?_⟩) ?_ ?_)
    · rcases List.mem_cons.mp hq with rfl | hq
      · exact hTn y (List.mem_append_right _ hy)
      · exact offn q hq y hy
    · rw [List.range_succ, List.map_append]
      refine (R₀.mono fun q hq => ?_).append (.cons (.tup (vs := [v₁ i, rv]) (o := o) (.head _) (by rw [ho]) (by rw [ho]) (.cons ((r1 i hlt).mono fun q hq => List.mem_append_right _ hq) (.cons (hrv.mono fun q hq => absurd hq List.not_mem_nil) .nil))) .nil)
      exact .tail _ hq
    · rcases hz₂ with ⟨z0, t0⟩ | ⟨T', b, oT, oTO₀, z0, hTm, tTO⟩
      · exact .inl ⟨up _ _ S1.1.symm z0, up _ _ S1.2.1.symm t0⟩
      · exact .inr ⟨T', b, oT, oTO₀, up _ _ S1.1.symm z0, hTm, up _ _ S1.2.1.symm tTO⟩
    · rw [Heap.get?_update_self _ hS₂ rfl]
      simp [Obj.mapSeq]
    · have : 1000 ≤ sizeLine := by rw [sizeLine_eq]; decide
      simp
      omega
    · have : 1000 ≤ sizeLine := by rw [sizeLine_eq]; decide
      simp
      omega
end
end Mine
end
section
open PySem PySem.W PyProof.Rows PySem.Calls PySem.Flt
open PyProof.Rows.TI (Frs SameUp)
open PyProof.Rows.LCg (lst NsObj)
set_option maxRecDepth 100000
set_option maxHeartbeats 400000
namespace Mine
theorem zip_no_len : typeLookup (.type "zip") "__len__" = pure none := by rw [typeLookup_type, builtinLookup_eq_fast]; kernel_rfl
theorem zip_no_hint : typeLookup (.type "zip") "__length_hint__" = pure none := by rw [typeLookup_type, builtinLookup_eq_fast]; kernel_rfl
theorem split7 {b z TO I S TI mp TM : Addr} (h : b ∈ [z, TO, I, S, TI, mp, TM]) : b = S ∨ b ∈ [z, TO, I, TI, mp, TM] := by
  simp only [List.mem_cons, List.not_mem_nil, or_false] at h ⊢
  rcases h with h | h | h | h | h | h | h <;> simp [h]
section
variable {w : World} {p : Program} {loose : List Str} {mean : ExcName → Option Value} {mg mb : Str → Option Value} {dp un : Nat} {gd : Option (List Code)} {env : Env} {g : Heap} {outer : List Env} {frs : List (Addr × Obj)} {L : Addr} {m : Str → Option Value} {X : List (Addr × Obj)} {s : Shared}
  {z TI TO mp TM I S a : Addr} {f : Value} {vs : List Value} {n : Nat} {v₁ v₂ : Nat → Value} {t1 t2 : Nat → T}
/-- list.__init__ up to the loop -/
theorem c_list_init {S z : Addr} {R : Result → Shared → Prop} {A : Around} (hzt : ∃ o, s.heap.get? z = some o ∧ o.cls = .type "zip") (hSz : S ≠ z) (hS : s.heap.get? S = some { cls := .type "list", data := .seq #[] })
    (h : ∀ h' c, (∀ b o, b ≠ S → s.heap.get? b = some o → h'.get? b = some o) → h'.get? S = some { cls := .type "list", dict := none, data := .seq #[] c, slots := #[] } → codeC (model PG w) A (.builtin "list.extend.loop" ⟨[.ref S, .ref z, .none], []⟩) R { s with heap := h' }) :
    wpC (model PG w) A.in1 (Builtin.«list.__init__» ⟨[.ref S, .ref z], []⟩)
      (fun fin s' => match fin with | .done f => R (.ok f) s' | .again c' => c'.quiet = true ∧ codeC (model PG w) A c' R s') (fun e s' => R (.error e) s') s := by
  obtain ⟨oz, hz, hzc⟩ := hzt
  show wpC _ A.in1 (do let old ← Builtin.List.listItems (.ref S); Builtin.List.listUpdate (.ref S) (fun _ => #[]); letGo old.toList.reverse; Builtin.List.listExtendWith (.ref S) (.ref z) .none) _ _ s
  refine wpC_bind ?_
  unfold Builtin.List.listItems
  refine wpC_leaf (wpAny_seqItems hS rfl (wpC_pure ?_))
  show wpC _ A.in1 (updateSeq S (fun _ => #[]) >>= fun _ => letGo (#[] : Array Value).toList.reverse >>= fun _ => Builtin.List.listExtendWith (.ref S) (.ref z) .none) _ _ s
  refine wpC_leaf (wpAny_updateSeq hS rfl ?_)
  have hS₂ := Heap.get?_update_self (Obj.mapSeq (fun _ => (#[] : Array Value))) hS rfl
  have oth : ∀ b o, b ≠ S → s.heap.get? b = some o → (s.heap.update S (Obj.mapSeq (fun _ => (#[] : Array Value)))).get? b = some o :=
    fun b o hb e => (Heap.get?_update_other _ _ (Ne.symm hb)).trans e
  generalize s.heap.update S (Obj.mapSeq (fun _ => (#[] : Array Value))) = h₂ at hS₂ oth ⊢
  refine wpC_leaf (wpAny_letGo ?_)
  have hz₂ : h₂.get? z = some oz := oth _ _ hSz.symm hz
  have hT : ({ s with heap := h₂ } : Shared).TypeIs (.ref z) "zip" := ⟨oz, hz₂, hzc⟩
  unfold Builtin.List.listExtendWith
  refine wpC_leaf (wpAny_typeOf hT ?_)
  have h1 : Builtin.List.listSameRef (.ref S) (.ref z) = false := by simp [Builtin.List.listSameRef, hSz]
  have h2 : (Value.type "zip" == Value.type "list") = false := by decide
  have h3 : (Value.type "zip" == Value.type "tuple") = false := by decide
  simp only [h1, h2, h3, Bool.or_false, Bool.false_eq_true, if_false]
  refine wpC_leaf (wpAny_pyIter_slot hT F.slot_zip_iter (wpAny_call_entry F.slot_zip_iter hT F.entry_zip_iter ?_ (F.args_zip_iter_1 _)))
  show wpAny _ _ (ret (.ref z)) _ _ _
  refine wpAny_pure ⟨_, rfl, "zip", _, hT, F.slot_zip_next.lookup, ?_⟩
  refine wpC_leaf (wpAny_holding ?_)
  unfold Builtin.List.listLengthHint
  refine wpAny_bind (wpAny_specialOf hT zip_no_len ?_)
  show wpAny _ A.in1 (specialOf (Value.ref z) (Str.ofString "__length_hint__") >>= _) _ _ _
  refine wpAny_bind (wpAny_specialOf hT zip_no_hint ?_)
  refine wpAny_pure ?_
  show wpC _ A.in1 (rule "list.extend.makes-room" >>= fun _ => Builtin.List.listTouch (.ref S) >>= fun _ =>
    again (.builtin "list.extend.loop" ⟨[.ref S, .ref z, .none], []⟩)) _ _ _
  refine wpC_leaf (wpAny_rule ?_)
  refine wpC_leaf ?_
  show wpAny _ A.in1 (updateSeq S (·.push .none) >>= fun _ => updateSeq S (·.pop)) _ _ _
  refine wpAny_bind (wpAny_updateSeq (s := { s with heap := h₂ }) hS₂ rfl ?_)
  have hS₃ := Heap.get?_update_self (Obj.mapSeq (·.push Value.none)) hS₂ rfl
  refine wpAny_updateSeq (hz := by seq_fits) hS₃ rfl ?_
  have hS₄ := Heap.get?_update_self (Obj.mapSeq (·.pop)) hS₃ rfl
  refine wpC_pure ⟨plainId_quiet F.plain_extend_loop _, h _ _ (fun b o hb e => ?_) hS₄⟩
  exact (Heap.get?_update_other _ _ (Ne.symm hb)).trans ((Heap.get?_update_other _ _ (Ne.symm hb)).trans (oth b o hb e))
/-- list(zip(it, map(f, it))), the zip at hand -/
theorem c_list_zipmap {Q : Value → Shared → Prop} (G : Gd w p loose mean mg mb g) (he : env.frame = some L) (hke : env.scope.kind = .function) (hd : dp + 3 < recursionLimit) (hu : un + 75 < cLine) (D : MAp z TI TO mp TM I a) (hLA : LstAt X a vs) (hvl : vs.length = 2 * n) (hsz : n ≤ 1000) (hv1 : ∀ i, i < n → vs[2 * i]? = some (v₁ i)) (hv2 : ∀ i, i < n → vs[2 * i + 1]? = some (v₂ i))
    (r1 : ∀ i, i < n → Rep X (v₁ i) (t1 i)) (hf : ∀ i, i < n → ∀ led', (∀ q ∈ X, q ∈ led') → Ct false w p loose mean mg mb f [v₂ i] [] 3 led' (fun r l => l = led' ∧ Rep [] r (t2 i)))
    (O : WOff g frs L [z, TO, I, TI, mp, TM]) (Z : At g outer frs L m X s.heap) (off : ∀ q ∈ X, q.1 ∉ [z, TO, I, TI, mp, TM]) (htk : 0 < s.toks) (hz : IsZip s.heap z TI TO .none) (hTO : IsPair s.heap TO .none .none) (hs : Side s.heap TI mp TM I a f 0)
    (hQ : ∀ S o ys new h' tk' frs', SameUp frs frs' → At g outer frs' L m ((S, o) :: (new ++ X)) h' → o.cls = .type "list" → (∃ c, o.data = .seq (List.toArray ys) c) → (∀ q ∈ (S, o) :: new, ∀ y ∈ X, q.1 ≠ y.1) → Reps (new ++ X) ys ((List.range n).map fun i => .tup [t1 i, t2 i]) → 0 < tk' → Q (.ref S) { s with heap := h', toks := tk' }) :
    wpC (model PG w) (aT none dp un gd (env :: outer)) (call (.type "list") [.ref z]) Q NE s := by
  refine c_callType F.called_list (F.typeCall_list_1 _) (.any (wpAny_call (code_list_new _ ?_)))
  have hS : (s.heap.push { cls := .type "list", data := .seq #[] }).get? s.heap.objs.size = some { cls := .type "list", data := .seq #[] } := Heap.get?_push_size _ rfl
  refine ⟨⟨_, hS, rfl⟩, ?_⟩
  have lt : ∀ b o, s.heap.get? b = some o → s.heap.objs.size ≠ b := fun b o e => Nat.ne_of_gt (Heap.lt_size e)
  obtain ⟨oI, i1, i2, i3⟩ := hs.i
  have hzn := lt _ _ hz
  refine c_call_slot F.called_list.init ⟨_, hS, rfl⟩ F.entry_list_init ?_ (F.args_list_init_2 _ _)
  refine wpC_mono (c_list_init (A := (aT none dp un gd (env :: outer)).in1) (S := s.heap.objs.size) (z := z) (s := { s with heap := s.heap.push { cls := .type "list", data := .seq #[] } }) (R := fun r s' => match r with | .ok (.ret v) => v = .none ∧ Q (.ref s.heap.objs.size) s' | _ => False) ⟨_, Heap.get?_push_of_some _ hz, rfl⟩ hzn hS fun h' c k' hS' => ?_) (fun fin s' q => ?_) fun e s' q => q
  · have kk : ∀ b o, s.heap.get? b = some o → h'.get? b = some o := fun b o e => k' b o (lt b o e).symm (Heap.get?_push_of_some _ e)
    have O' : WOff g frs L [z, TO, I, s.heap.objs.size, TI, mp, TM] := ⟨fun b hb => ?_, fun b hb => ?_, fun b hb q hq => ?_⟩
    · refine c_extend_loop (S := s.heap.objs.size) (t1 := t1) (un := un + 1) G he hke hd (by omega) D hLA hvl hsz hv1 hv2 r1 hf (by simp [hzn, lt _ _ hTO, lt _ _ i1, lt _ _ hs.ti, lt _ _ hs.m, lt _ _ hs.tm]) (fun h₂ tk₂ ys c₂ new frs₂ S₂ Z₂ hS₂ off₂ offn₂ R₂ ht₂ => ?_) n 0 h' s.toks c [] [] frs rfl (Nat.zero_le _) (SameUp.refl _) O' (Z.keeps kk) (fun q hq => ?_) (fun _ h => absurd h List.not_mem_nil) htk rfl .nil (.inl ⟨kk _ _ hz, kk _ _ hTO⟩) ⟨kk _ _ hs.ti, kk _ _ hs.m, kk _ _ hs.tm, oI, kk _ _ i1, i2, i3⟩ hS'
      · have O₂ := O'.up S₂
        refine ⟨rfl, hQ _ { cls := .type "list", dict := none, data := .seq (List.toArray ys) c₂, slots := #[] } ys new h₂ tk₂ frs₂ S₂ (Z₂.more [(_, _)] fun q hq => ?_) rfl ⟨c₂, rfl⟩ (fun q hq y hy => ?_) R₂ ht₂⟩
        · obtain rfl := List.mem_singleton.mp hq
          exact ⟨hS₂, O₂.l _ (by simp), O₂.g _ (by simp), O₂.f _ (by simp)⟩
        · rcases List.mem_cons.mp hq with rfl | hq
          · exact lt _ _ (Z.toks y hy)
          · exact offn₂ q hq y hy
      · have h1 := off q hq
        simp only [List.mem_cons, List.not_mem_nil, or_false, not_or] at h1 ⊢
        exact ⟨h1.1, h1.2.1, h1.2.2.1, (lt _ _ (Z.toks q hq)).symm, h1.2.2.2⟩
    · rcases split7 hb with rfl | hb
      · exact Nat.ne_of_gt Z.F.ns.lt
      · exact O.l b hb
    · rcases split7 hb with rfl | hb
      · exact Heap.get?_none_of_le (Nat.le_trans Z.F.above (Nat.le_of_lt Z.F.ns.lt))
      · exact O.g b hb
    · rcases split7 hb with rfl | hb
      · exact lt _ _ (Z.N q (List.mem_append_right _ hq)).1
      · exact O.f b hb q hq
  · cases fin with
    | done f =>
      cases f <;> first | exact q | exact q.elim
    | again c => exact ⟨q.1, codeC_mono q.2 fun r s₂ h => by
        cases r with
        | error e => exact h.elim
        | ok f => cases f <;> first | exact h | exact h.elim⟩
theorem call_zip_map {A : Around} {E : Value → Shared → Prop} {I a mp TM : Addr} {k : Nat} {f : Value} {Q : Value → Shared → Prop} (hi : s.heap.IsListIter I a k) (hm : IsMap s.heap mp TM f)
    (h : ∀ h', IsZip h' (s.heap.objs.size + 2) s.heap.objs.size (s.heap.objs.size + 1) .none → IsPair h' s.heap.objs.size (.ref I) (.ref mp) → IsPair h' (s.heap.objs.size + 1) .none .none → (∀ c o, s.heap.get? c = some o → h'.get? c = some o) → Q (.ref (s.heap.objs.size + 2)) { s with heap := h' }) :
    wpAny (model PG w) A (call (.type "zip") [.ref I, .ref mp]) Q E s := by
  refine callType_new F.called_zip (by decide) (F.typeCall_zip_2 _ _) (F.newCall_zip_2 _ _) (fun obj => F.args_object_init_3 obj _ _) F.entry_zip_new
    (meets_zip_new_its I mp a k (fun h => IsMap h mp TM f) (fun prog w A E s Q hk hq => wpAny_pyIter_map hk hq)) ⟨hi, hm, ?_⟩
  have z1 : (zpH1 s.heap I mp).objs.size = s.heap.objs.size + 1 := Heap.size_push ..
  have z2 : (zpH2 s.heap I mp).objs.size = s.heap.objs.size + 2 := by rw [Heap.size_push, z1]
  have g3 : (zpH3 s.heap I mp).get? (zpH2 s.heap I mp).objs.size = some _ := Heap.get?_push_size _ rfl
  have g2 : (zpH3 s.heap I mp).get? (zpH1 s.heap I mp).objs.size = some _ := Heap.get?_push_of_some _ (Heap.get?_push_size _ rfl)
  have g1 : (zpH3 s.heap I mp).get? s.heap.objs.size = some _ := Heap.get?_push_of_some _ (Heap.get?_push_of_some _ (Heap.get?_push_size _ rfl))
  show _ ∧ _
  rw [z1, z2] at g3
  rw [z1] at g2
  rw [z2]
  exact ⟨⟨_, g3, rfl⟩, h _ g3 g1 g2 fun c o x => Heap.get?_push_of_some _ (Heap.get?_push_of_some _ (Heap.get?_push_of_some _ x))⟩
theorem nmap (w : World) : nsIn (hd.heap_39 w.params) mainGlobals ("map" : Str) = some none := by kernel_rfl
/-- list(zip(it, map(f, it))) -/
theorem c_zipmap {it fn : Str} {oI : Obj} {q1 q2 q3 q4 q5 q6 q7 : Pos} {Q : Value → Shared → Prop} (G : Gd w p loose mean mg mb g) (he : env.frame = some L) (hL : env.locals = L) (hgl : env.globals = mainGlobals) (hbl : env.builtins = builtinsNs) (hke : env.scope.kind = .function) (kz : env.kindOf ("zip" : Str) = some .globalImplicit) (kl : env.kindOf ("list" : Str) = some .globalImplicit) (km : env.kindOf ("map" : Str) = some .globalImplicit) (ki : env.kindOf it = some .local) (kf : env.kindOf fn = some .local) (hdi : (it == ("__debug__" : Str)) = false) (hdf : (fn == ("__debug__" : Str)) = false)
    (hd : dp + 3 < recursionLimit) (hu : un + 75 < cLine) (hLA : LstAt X a vs) (hvl : vs.length = 2 * n) (hsz : n ≤ 1000) (hv1 : ∀ i, i < n → vs[2 * i]? = some (v₁ i)) (hv2 : ∀ i, i < n → vs[2 * i + 1]? = some (v₂ i))
    (r1 : ∀ i, i < n → Rep X (v₁ i) (t1 i)) (hf : ∀ i, i < n → ∀ led', (∀ q ∈ X, q ∈ led') → Ct false w p loose mean mg mb f [v₂ i] [] 3 led' (fun r l => l = led' ∧ Rep [] r (t2 i)))
    (Z : At g outer frs L m ((I, oI) :: X) s.heap) (hI : ItAt oI a) (hIl : ∀ q ∈ X, q.1 ≠ I) (hmi : m it = some (.ref I)) (hmf : m fn = some f) (htk : 0 < s.toks)
    (hQ : ∀ S o ys new h' tk' frs', SameUp frs frs' → At g outer frs' L m ((S, o) :: (new ++ X)) h' → o.cls = .type "list" → (∃ c, o.data = .seq (List.toArray ys) c) → (∀ q ∈ (S, o) :: new, ∀ y ∈ X, q.1 ≠ y.1) → Reps (new ++ X) ys ((List.range n).map fun i => .tup [t1 i, t2 i]) → 0 < tk' → Q (.ref S) { s with heap := h', toks := tk' }) {q9 q10 : Pos} :
    wpC (model PG w) (aT none dp un gd (env :: outer)) (eval (.Call (.Name "list" q9) [.Call (.Name "zip" q6) [.Name it q1, .Call (.Name "map" q2) [.Name fn q3, .Name it q4] [] q5] [] q7] [] q10) env) Q NE s := by
  have TR := topRead_of G.T
  subst hL
  have gI : s.heap.get? I = some oI := Z.toks _ (.head _)
  have hit : s.heap.IsListIter I a 0 := ⟨oI, gI, hI.1, hI.2⟩
  obtain ⟨oa, ka, a1, a2, a3⟩ := hLA.of
  refine c_Call1 (nB Z.F G.X TR (nlist w) (v := .type "list") (by decide +kernel) (by decide) ?_ hgl hbl hke kl)
  refine c_spliced_cons ?_
  refine c_Call1 (nB Z.F G.X TR (nzip w) (v := .type "zip") (by decide +kernel) (by decide) ?_ hgl hbl hke kz)
  refine c_spliced_cons (.any (n_local Z.F.ns hmi ?_ hke ki hdi))
  refine c_spliced_cons ?_
  refine c_Call1 (nB Z.F G.X TR (nmap w) (v := .type "map") (by decide +kernel) (by decide) ?_ hgl hbl hke km)
  refine c_spliced_cons (.any (n_local Z.F.ns hmf ?_ hke kf hdf))
  refine c_spliced_cons (.any (n_local Z.F.ns hmi ?_ hke ki hdi))
  refine c_spliced_nil ⟨⟨.machine, .inr rfl, keeper_type⟩, .any (call_map_it hit fun h₁ m₁ o₁ sz₁ k₁ => ?_)⟩
  refine c_spliced_nil ⟨⟨.machine, .inr rfl, keeper_type⟩, .any (call_zip_map (s := { s with heap := h₁ }) (hit.at fun o e => k₁ _ o e) m₁ fun h₂ z₂ t₂ o₂ k₂ => ?_)⟩
  refine c_spliced_nil ⟨⟨.machine, .inr rfl, keeper_type⟩, ?_⟩
  dsimp only at z₂ t₂ o₂ k₂
  rw [sz₁] at z₂ t₂ o₂ ⊢
  have kk : ∀ b o, s.heap.get? b = some o → h₂.get? b = some o := fun b o e => k₂ _ _ (k₁ _ _ e)
  have lt : ∀ q ∈ (I, oI) :: X, q.1 < s.heap.objs.size := fun q hq => Heap.lt_size (Z.toks q hq)
  have ltI : I < s.heap.objs.size := lt _ (.head _)
  have lta : a < s.heap.objs.size := lt _ (.tail _ a1)
  have hIa : a ≠ I := hIl _ a1
  have up : ∀ {x y : Nat}, x < y → (x : Addr) ≠ y := fun h => Nat.ne_of_lt h
  have D : MAp (s.heap.objs.size + 2 + 2) (s.heap.objs.size + 2) (s.heap.objs.size + 2 + 1) (s.heap.objs.size + 1) s.heap.objs.size I a :=
    ⟨up (by omega), up (by omega), up (by omega), up (by omega), up (Nat.lt_of_lt_of_le ltI (by omega)), up (Nat.lt_of_lt_of_le lta (by omega)), up (by omega), up (by omega), up (by omega), up (Nat.lt_of_lt_of_le ltI (by omega)), up (Nat.lt_of_lt_of_le lta (by omega)), (up (Nat.lt_of_lt_of_le ltI (by omega))).symm, (up (Nat.lt_of_lt_of_le ltI (by omega))).symm, (up ltI).symm, hIa⟩
  have ZX : At g outer frs env.locals m X h₂ := (Z.perm fun q hq => .tail _ hq).keeps kk
  have cases6 : ∀ b ∈ [s.heap.objs.size + 2 + 2, s.heap.objs.size + 2 + 1, I, s.heap.objs.size + 2, s.heap.objs.size + 1, s.heap.objs.size], b = I ∨ s.heap.objs.size ≤ b := fun b hb => by
    simp only [List.mem_cons, List.not_mem_nil, or_false] at hb
    rcases hb with rfl | rfl | rfl | rfl | rfl | rfl
    · exact .inr (by omega)
    · exact .inr (by omega)
    · exact .inl rfl
    · exact .inr (by omega)
    · exact .inr (by omega)
    · exact .inr (Nat.le_refl _)
  refine c_list_zipmap (s := { s with heap := h₂ }) (TM := s.heap.objs.size) (mp := s.heap.objs.size + 1) (TI := s.heap.objs.size + 2) (TO := s.heap.objs.size + 2 + 1) (I := I) G he hke hd hu D hLA hvl hsz hv1 hv2 r1 hf ⟨fun b hb => ?_, fun b hb => ?_, fun b hb q hq => ?_⟩ ZX (fun q hq hm => ?_) htk z₂ o₂ ⟨t₂, k₂ _ _ m₁, k₂ _ _ o₁, hit.at fun o e => kk _ o e⟩ hQ
  · rcases cases6 b hb with rfl | hb
    · exact (Z.N _ (List.mem_append_left _ (.head _))).2.1
    · exact Nat.ne_of_gt (Nat.lt_of_lt_of_le Z.F.ns.lt hb)
  · rcases cases6 b hb with rfl | hb
    · exact (Z.N _ (List.mem_append_left _ (.head _))).2.2
    · exact Heap.get?_none_of_le (Nat.le_trans Z.F.above (Nat.le_trans (Nat.le_of_lt Z.F.ns.lt) hb))
  · rcases cases6 b hb with rfl | hb
    · exact Z.ap _ (.head _) q hq
    · exact Nat.ne_of_gt (Nat.lt_of_lt_of_le (Heap.lt_size (Z.N q (List.mem_append_right _ hq)).1) hb)
  · rcases cases6 _ hm with e | hb
    · exact hIl q hq e
    · exact absurd hb (Nat.not_le.mpr (lt q (.tail _ hq)))
end
end Mine
end
section
open PySem PySem.W PyProof.Rows PySem.Calls PySem.Flt
open PyProof.Rows.TI (Frs SameUp)
open PyProof.Rows.LCg (lst NsObj)
set_option maxRecDepth 100000
set_option maxHeartbeats 400000
namespace Mine
section
variable {w : World} {p : Program} {loose : List Str} {mean : ExcName → Option Value} {mg mb : Str → Option Value} {led led₁ : List (Addr × Obj)} {kw : List (Str × Value)} {ps : Array Value}
theorem rep_comp' {D : Addr} {o : Obj} {ys : List Value} {new : List (Addr × Obj)} {ts : List T} (hc : o.cls = .type "list") (hd : ∃ c, o.data = .seq (List.toArray ys) c) (R : Reps (new ++ (16, tabObj ps) :: led₁) ys ts) : Rep ((D, o) :: new ++ led₁) (.ref D) (.lst ts) := by
  obtain ⟨c, hd⟩ := hd
  exact .lst (.head _) hc hd (Reps.strip (q0 := (16, tabObj ps)) (fun h => nomatch h) (fun h => nomatch h) (fun q hq => by
    rcases List.mem_append.mp hq with hq | hq
    · exact .inr (List.mem_append_left _ (.tail _ hq))
    · rcases List.mem_cons.mp hq with rfl | hq
      · exact .inl rfl
      · exact .inr (List.mem_append_right _ hq)) R)
theorem pairs_ct {way n : Nat} {v : Value} {t1 : Nat → T} {q : Nat → Int} (hn : n ≤ 1000) (hq : ∀ i, Qok (q i)) (hl : Lg ps led) (h : Rep led v (.lst ((List.range n).flatMap fun i => [t1 i, .by (Wt (q i))]))) (H : Asked kw way) (hc : valueAt kw ("withscores" : Str) = some (.bool true)) :
    Ct false w p loose mean mg mb (.ref 28) [v] kw 5 ((16, tabObj ps) :: led) (PostG led fun r l => Rep l r (.lst ((List.range n).map fun i => .tup [t1 i, eldT way (q i)]))) := by
  (refine fill_aux ?_; k_fill; intro _ _)
  obtain ⟨a, vs, v₁, v₂, rfl, LA, hvl, hv⟩ := rep_flat h
  refine' ct_opts ?ho ?hcd ?P H.nd H.nr H.sz (by decide) ?k1 ?k2 ?hnd ?hco ?hgen ?hk ?h
  ( (case ho => k_is); (case hcd => k_is); (case P => exact ⟨rfl, rfl, rfl, rfl, rfl⟩); (case k1 => rfl); (case k2 => rfl); (case hnd => decide); (case hco => rfl); (case hgen => rfl); (case hk => rfl))
  refine body_opts hl fun dp un gd outer frs g L D o cells s G Z hl hsm hdo Y lo hd hu htk => ?_
  cases Y
  have hs0 : ∀ q ∈ led, q ∈ (D, o) :: led := fun q hq => .tail _ hq
  refine c_execs_cons (.any (guard_k (led := (D, o) :: led) (b := !vs.isEmpty) (c := true) ⟨rfl, rfl, optM_opt, .head _, hdo, hsm⟩ Z.F.ns (Z.perm fun q hq => .tail _ hq).news optM_resp ((LA.tru (by omega)).mono hs0) rfl hc (fun tk htk' => ?_) (by decide)))
  by_cases hn0 : n = 0
  · subst hn0
    have e : vs = [] := List.length_eq_zero_iff.mp (by omega)
    subst e
    exact ends_same hl hs0 Z (Nat.lt_of_lt_of_le htk htk') (h.mono hs0)
  · have e : (!vs.isEmpty) = true := by cases vs with | nil => simp at hvl; omega | cons _ _ => rfl
    rw [e]
    refine c_execs_cons (c_wrapLocal (p := p) (loose := loose) (mean := mean) (mg := mg) (mb := mb) (led := (D, o) :: led) (s := { s with toks := tk }) H.w3 G Z hl ⟨rfl, rfl, optM_opt, .head _, hdo, hsm⟩ H.sc rfl rfl rfl (by omega) (by omega) (Nat.lt_of_lt_of_le htk htk') (by decide) rfl fun f h₁ tk₁ frs₁ ps₁ led₁ S₁ Z₁ hl₁ hs₁ hc₁ ht₁ => ?_)
    have sub1 : ∀ q ∈ led, q ∈ led₁ := fun q hq => hs₁ q (.tail _ hq)
    have sub2 : ∀ q ∈ led, q ∈ (16, tabObj ps₁) :: led₁ := fun q hq => .tail _ (sub1 q hq)
    have hE := hc₁.all.mono (led' := (16, tabObj ps₁) :: led₁) fun q hq => .tail _ hq
    refine c_ends (s := s) S₁ ?_
    refine c_execs_cons (c_iter (mean := mean) (s := { s with heap := h₁, toks := tk₁ }) G Z₁ (LA.mono sub2) (fun Q k => n_local Z₁.F.ns rfl k rfl rfl) rfl rfl rfl rfl rfl rfl fun I oI h₂ tk₂ hI hIl Z₂ ht₂ => ?_)
    refine c_execs_cons (c_Return (c_zipmap (f := f) (t1 := t1) (t2 := fun i => eldT way (q i)) (s := { s with heap := h₂, toks := tk₂ }) G rfl rfl rfl rfl rfl rfl rfl rfl rfl rfl (by decide) (by decide) (by omega) (by omega) (LA.mono sub2) hvl hn (fun j hj => (hv j hj).1.1) (fun j hj => (hv j hj).1.2) (fun i hi => (hv i hi).2.1.mono sub2) (fun i hi led' hX => ?_) Z₂ hI hIl rfl rfl ht₂ 
      (fun D' o' ys new h₃ tk₃ frs₃ S₃ Z₃ oc od ne R k₃ => ends_comp (s := { s with heap := h₁, toks := tk₁ }) hl₁ sub1 S₃ Z₃ ne k₃ (rep_comp' oc od R))))
    obtain ⟨_, r1, r2⟩ := hv i hi
    obtain ⟨u, e2⟩ := rep_by r2
    rw [e2]
    exact (hE.mono hX).byt _ (fun _ y => y) (q i) u (hq i)
theorem zpop_ct {way n : Nat} {v : Value} {t1 : Nat → T} {q : Nat → Int} (hn : n ≤ 1000) (hq : ∀ i, Qok (q i)) (hl : Lg ps led) (h : Rep led v (.lst ((List.range n).flatMap fun i => [t1 i, .by (Wt (q i))]))) (H : Asked kw way) :
    Ct false w p loose mean mg mb (.ref 35) [v] kw 5 ((16, tabObj ps) :: led) (PostG led fun r l => Rep l r (.lst ((List.range n).map fun i => .tup [t1 i, eldT way (q i)]))) := by
  (refine fill_aux ?_; k_fill; intro _ _)
  obtain ⟨a, vs, v₁, v₂, rfl, LA, hvl, hv⟩ := rep_flat h
  refine' ct_opts ?ho ?hcd ?P H.nd H.nr H.sz (by decide) ?k1 ?k2 ?hnd ?hco ?hgen ?hk ?h
  ( (case ho => k_is); (case hcd => k_is); (case P => exact ⟨rfl, rfl, rfl, rfl, rfl⟩); (case k1 => rfl); (case k2 => rfl); (case hnd => decide); (case hco => rfl); (case hgen => rfl); (case hk => rfl))
  refine body_opts hl fun dp un gd outer frs g L D o cells s G Z hl hsm hdo Y lo hd hu htk => ?_
  cases Y
  have hs0 : ∀ q ∈ led, q ∈ (D, o) :: led := fun q hq => .tail _ hq
  refine c_execs_cons (.any (guard_n (p9 := ⟨0, 0, 0, 0⟩) (led := (D, o) :: led) (v := .ref a) rfl Z.F.ns (Z.perm fun q hq => .tail _ hq).news optM_resp ((LA.tru (by omega)).mono hs0) rfl (fun tk Q hQ => n_local Z.F.ns optM_resp hQ rfl rfl) rfl (fun tk htk' => ?_)))
  by_cases hn0 : n = 0
  · subst hn0
    have e : vs = [] := List.length_eq_zero_iff.mp (by omega)
    subst e
    exact ends_same hl hs0 Z (Nat.lt_of_lt_of_le htk htk') (h.mono hs0)
  · have e : (!vs.isEmpty) = true := by cases vs with | nil => simp at hvl; omega | cons _ _ => rfl
    rw [e]
    refine c_execs_cons (c_wrapLocal (p := p) (loose := loose) (mean := mean) (mg := mg) (mb := mb) (led := (D, o) :: led) (s := { s with toks := tk }) H.w3 G Z hl ⟨rfl, rfl, optM_opt, .head _, hdo, hsm⟩ H.sc rfl rfl rfl (by omega) (by omega) (Nat.lt_of_lt_of_le htk htk') (by decide) rfl fun f h₁ tk₁ frs₁ ps₁ led₁ S₁ Z₁ hl₁ hs₁ hc₁ ht₁ => ?_)
    have sub1 : ∀ q ∈ led, q ∈ led₁ := fun q hq => hs₁ q (.tail _ hq)
    have sub2 : ∀ q ∈ led, q ∈ (16, tabObj ps₁) :: led₁ := fun q hq => .tail _ (sub1 q hq)
    have hE := hc₁.all.mono (led' := (16, tabObj ps₁) :: led₁) fun q hq => .tail _ hq
    refine c_ends (s := s) S₁ ?_
    refine c_execs_cons (c_iter (mean := mean) (s := { s with heap := h₁, toks := tk₁ }) G Z₁ (LA.mono sub2) (fun Q k => n_local Z₁.F.ns rfl k rfl rfl) rfl rfl rfl rfl rfl rfl fun I oI h₂ tk₂ hI hIl Z₂ ht₂ => ?_)
    refine c_execs_cons (c_Return (c_zipmap (f := f) (t1 := t1) (t2 := fun i => eldT way (q i)) (s := { s with heap := h₂, toks := tk₂ }) G rfl rfl rfl rfl rfl rfl rfl rfl rfl rfl (by decide) (by decide) (by omega) (by omega) (LA.mono sub2) hvl hn (fun j hj => (hv j hj).1.1) (fun j hj => (hv j hj).1.2) (fun i hi => (hv i hi).2.1.mono sub2) (fun i hi led' hX => ?_) Z₂ hI hIl rfl rfl ht₂ 
      (fun D' o' ys new h₃ tk₃ frs₃ S₃ Z₃ oc od ne R k₃ => ends_comp (s := { s with heap := h₁, toks := tk₁ }) hl₁ sub1 S₃ Z₃ ne k₃ (rep_comp' oc od R))))
    obtain ⟨_, r1, r2⟩ := hv i hi
    obtain ⟨u, e2⟩ := rep_by r2
    rw [e2]
    exact (hE.mono hX).byt _ (fun _ y => y) (q i) u (hq i)
theorem zscan_ct {way n : Nat} {v : Value} {t1 : Nat → T} {q : Nat → Int} (hn : n ≤ 1000) (hq : ∀ i, Qok (q i)) (hl : Lg ps led) (h : Rep led v (.lst [.by (Wt 68), .lst ((List.range n).flatMap fun i => [t1 i, .by (Wt (q i))])])) (H : Asked kw way) :
    Ct false w p loose mean mg mb (.ref 138) [v] kw 5 ((16, tabObj ps) :: led) (PostG led fun r l => Rep l r (.tup [.int 17, .lst ((List.range n).map fun i => .tup [t1 i, eldT way (q i)])])) := by
  (refine fill_aux ?_; k_fill; intro _ _)
  obtain ⟨a, w0, w1, rfl, h2, r0, rl⟩ := rep_two h
  obtain ⟨a1, vs, v₁, v₂, rfl, LA, hvl, hv⟩ := rep_flat rl
  obtain ⟨u0, rfl⟩ := rep_by r0
  refine' ct_opts ?ho ?hcd ?P H.nd H.nr H.sz (by decide) ?k1 ?k2 ?hnd ?hco ?hgen ?hk ?h
  ( (case ho => k_is); (case hcd => k_is); (case P => exact ⟨rfl, rfl, rfl, rfl, rfl⟩); (case k1 => rfl); (case k2 => rfl); (case hnd => decide); (case hco => rfl); (case hgen => rfl); (case hk => rfl))
  refine body_opts hl fun dp un gd outer frs g L D o cells s G Z hl hsm hdo Y lo hd hu htk => ?_
  cases Y
  refine c_execs_cons (c_wrapLocal (p := p) (loose := loose) (mean := mean) (mg := mg) (mb := mb) (led := (D, o) :: led) (s := s) H.w3 G Z hl ⟨rfl, rfl, optM_opt, .head _, hdo, hsm⟩ H.sc rfl rfl rfl (by omega) (by omega) htk (by decide) rfl fun f h₁ tk₁ frs₁ ps₁ led₁ S₁ Z₁ hl₁ hs₁ hc₁ ht₁ => ?_)
  have sub1 : ∀ q ∈ led, q ∈ led₁ := fun q hq => hs₁ q (.tail _ hq)
  have sub2 : ∀ q ∈ led, q ∈ (16, tabObj ps₁) :: led₁ := fun q hq => .tail _ (sub1 q hq)
  have hE := hc₁.all.mono (led' := (16, tabObj ps₁) :: led₁) fun q hq => .tail _ hq
  refine c_ends (s := s) S₁ ?_
  refine c_execs_cons (c_assignPair (s := { s with heap := h₁, toks := tk₁ }) rfl Z₁ (h2.mono sub2) (fun Q k => n_local Z₁.F.ns rfl k rfl rfl) rfl rfl rfl rfl fun h₂ tk₂ Z₂ ht₂ => ?_)
  refine c_execs_cons (c_iter (mean := mean) (s := { s with heap := h₂, toks := tk₂ }) G Z₂ (LA.mono sub2) (fun Q k => n_local Z₂.F.ns rfl k rfl rfl) rfl rfl rfl rfl rfl rfl fun I oI h₃ tk₃ hI hIl Z₃ ht₃ => ?_)
  refine c_ends (s := { s with heap := h₁, toks := tk₁ }) (SameUp.refl _) (pair_tupleX hl₁ sub1 Z₃ ht₃ (fun frs₄ s₄ Q S₄ Z₄ k₄ hQ => ?_) fun frs₄ s₄ Q S₄ Z₄ k₄ hQ => ?_)
  · refine c_Call1 (nB Z₄.F G.X (topRead_of G.T) (nint w) (v := .type "int") (by decide +kernel) (by decide) ?_ rfl rfl rfl rfl)
    refine c_spliced_cons (.any (n_local Z₄.F.ns rfl ?_ rfl rfl))
    refine c_spliced_nil ⟨⟨.machine, .inr rfl, keeper_type⟩, ?_⟩
    exact .any (call_int_bytes (q := 68) ⟨by decide, by decide⟩ (by decide) (hQ _ s₄.heap _ frs₄ (SameUp.refl _) Z₄ (.int 17 _) (Nat.succ_pos _)))
  · refine c_zipmap (f := f) (t1 := t1) (t2 := fun i => eldT way (q i)) (s := s₄) G rfl rfl rfl rfl rfl rfl rfl rfl rfl rfl (by decide) (by decide) (by omega) (by omega) (LA.mono sub2) hvl hn (fun j hj => (hv j hj).1.1) (fun j hj => (hv j hj).1.2) (fun i hi => (hv i hi).2.1.mono sub2) (fun i hi led' hX => ?_) Z₄ hI hIl rfl rfl k₄
      (fun D' o' ys new h₃ tk₃ frs₃ S₃ Z₃ oc od ne R k₃ => hQ D' _ new h₃ tk₃ frs₃ S₃ Z₃ ne (rep_comp' oc od R) k₃)
    obtain ⟨_, r1, r2⟩ := hv i hi
    obtain ⟨u, e2⟩ := rep_by r2
    rw [e2]
    exact (hE.mono hX).byt _ (fun _ y => y) (q i) u (hq i)
end
end Mine
end
section
open PySem PySem.W PyProof.Rows PySem.Calls PySem.Flt
open PyProof.Rows.TI (Frs SameUp)
open PyProof.Rows.LCg (lst NsObj ns_obj)
set_option maxRecDepth 100000
set_option maxHeartbeats 400000
namespace Mine
section
variable {M : Model} {A : Around} {s : Shared}
theorem codeC_loop' {c : Code} {R : Result → Shared → Prop} (hq : c.quiet = true) (I : Nat → Shared → Prop)
    (turn : ∀ n s, I n s → wpC M (A.under c) (M.den c)
      (fun fin s' => match fin with | .done f => R (.ok f) s' | .again c' => (c' = c ∧ ∃ m, m < n ∧ I m s') ∨ (c'.quiet = true ∧ codeC M A c' R s')) (fun e s' => R (.error e) s') s)
    (n : Nat) (h : I n s) : codeC M A c R s := by
  induction n using Nat.strongRecOn generalizing s with
  | ind n ih =>
    refine codeC_of_tree (wpC_mono (turn n s h) (fun fin s' hf => ?_) fun _ _ h' => h')
    cases fin with
    | done f => exact hf
    | again c' =>
      rcases hf with ⟨rfl, m, hm, hI⟩ | hf
      · exact ⟨hq, ih m hm hI⟩
      · exact hf
end
section
variable {prog : Program} {w : World} {A : Around} {s : Shared} {R : Result → Shared → Prop} {env : Env}
theorem codeC_block {stmts : List Stmt} (h : wpC (model prog w) A (execs stmts env) (fun f s' => R (.ok f) s') NE s) : codeC (model prog w) A (.block stmts env) R s := by
  refine codeC_of_tree ?_
  show wpC _ _ (do return Fin.done (← (execs stmts env).onRaise (fun x => do noteFrame x env; theTreesLotGoes x))) _ _ s
  exact wpC_bind (c_onRaise (wpC_mono h (fun f s' h' => wpC_pure h') fun _ _ h' => h'))
theorem c_forLoop {target : Expr} {it : Value} {body orelse : List Stmt} (I : Nat → Shared → Prop)
    (turn : ∀ n s, I n s → wpC (model prog w) A (pyNext it) (fun r s₁ => match r with
      | none => wpC (model prog w) A (execs orelse env) (fun f s₃ => R (.ok f) s₃) NE s₁
      | some v => wpAny (model prog w) A (letOwnedTupleGo target it v) (fun _ s₁' =>
          wpAny (model prog w) A (assign target env v) (fun _ s₂ => wpC (model prog w) A (execs body env) (fun f s₃ => match f with
            | .next | .cont => ∃ m, m < n ∧ I m s₃
            | .brk => R (.ok .next) s₃
            | .ret v => R (.ok (.ret v)) s₃) NE s₂) NE s₁') NE s₁) NE s)
    (n : Nat) (h : I n s) : codeC (model prog w) A (.forLoop target it body orelse env) R s := by
  refine codeC_loop' rfl I (fun n s hI => ?_) n h
  show wpC _ A ((forTurn target it body orelse env).onRaise (fun x => do noteFrame x env; theTreesLotGoes x)) _ _ s
  refine c_onRaise ?_
  simp only [forTurn]
  refine wpC_leaf (wpAny_standAt (wpC_bind (c_onRaise (wpC_mono (turn n s hI) (fun r s₁ h₁ => ?_) fun _ _ h' => h'))))
  cases r with
  | none => exact wpC_pure (.inr ⟨rfl, codeC_block h₁⟩)
  | some v =>
    refine wpC_leaf (wpAny_mono h₁ (fun _ s₁' h₁' => ?_) fun _ _ h' => h')
    refine wpC_leaf (wpAny_mono h₁' (fun _ s₂ h₂ => wpC_bind (wpC_mono h₂ (fun f s₃ h₃ => ?_) fun _ _ h' => h')) fun _ _ h' => h')
    cases f with
    | next => exact wpC_pure (.inl ⟨rfl, h₃⟩)
    | cont => exact wpC_pure (.inl ⟨rfl, h₃⟩)
    | brk => exact wpC_pure h₃
    | ret v => exact wpC_pure h₃
theorem c_For {target iter : Expr} {body orelse : List Stmt} {pos : Pos} {Q : Flow → Shared → Prop}
    (h : wpC (model prog w) A (eval iter env) (fun x s₁ => wpAny (model prog w) A (pyIter x) (fun it s₂ =>
      codeC (model prog w) A (.forLoop target it body orelse env) (fun r s' => match r with | .ok f => Q f s' | .error _ => False) s₂) NE s₁) NE s)
    (hs : ∀ x, foldedSetIterable iter env x = pure x := by intro _; rfl) :
    wpC (model prog w) A (exec (.For target iter body orelse pos) env) Q NE s := by
  rw [exec_For]
  refine wpC_leaf (wpAny_standAt (wpC_bind (wpC_mono h (fun x s₁ h₁ => wpC_leaf (wpAny_of_eq (hs x) (wpC_leaf (wpAny_standAt (wpC_bind (wpC_holding
    (.any (wpAny_mono h₁ (fun it s₂ h₂ => c_runOwn (h := none) (by rw [Around.mark_none]; exact h₂) (by intro x; cases x)) fun _ _ h' => h')))))))) fun _ _ h' => h')))
end
section
variable {prog : Program} {w : World} {A : Around} {g : Heap} {outer : List Env} {frs : List (Addr × Obj)} {L : Addr} {m : Str → Option Value} {env : Env}
/-- the iterator's objects as ledger entries -/
theorem live_fe {fp : List Addr} {h : Heap} (lv : ∀ b ∈ fp, ∃ o, h.get? b = some o) : ∃ fe : List (Addr × Obj), (∀ p ∈ fe, h.get? p.1 = some p.2) ∧ (∀ b ∈ fp, ∃ o, h.get? b = some o ∧ (b, o) ∈ fe) ∧ ∀ p ∈ fe, p.1 ∈ fp := by
  induction fp with
  | nil => exact ⟨[], fun _ h => (nomatch h), fun _ h => (nomatch h), fun _ h => (nomatch h)⟩
  | cons b r ih =>
    obtain ⟨fe, a1, a2, a3⟩ := ih fun b hb => lv b (.tail _ hb)
    obtain ⟨o, e⟩ := lv b (.head _)
    refine ⟨(b, o) :: fe, fun p hp => ?_, fun c hc => ?_, fun p hp => ?_⟩
    · rcases List.mem_cons.mp hp with rfl | hp
      · exact e
      · exact a1 p hp
    · rcases List.mem_cons.mp hc with rfl | hc
      · exact ⟨o, e, .head _⟩
      · obtain ⟨o', e', q⟩ := a2 c hc
        exact ⟨o', e', .tail _ q⟩
    · rcases List.mem_cons.mp hp with rfl | hp
      · exact .head _
      · exact .tail _ (a3 p hp)
/-- a for loop over what a source gives -/
theorem k_loop {target : Expr} {body : List Stmt} {I : Addr} {fp wr : List Addr} {n : Nat} {loc : List Str} {P : Nat → (Str → Option Value) → Prop} {St : Nat → Heap → Prop} (J : Nat → (Str → Option Value) → List (Addr × Obj) → Prop) {Q : Flow → Shared → Prop} {s : Shared} {led : List (Addr × Obj)}
    (S : Src prog w A target I fp wr n loc P St) (hkind : env.scope.kind = .function) (hL : env.locals = L) (hloc : ∀ x ∈ loc, env.kindOf x = some .local)
    (st0 : St 0 s.heap) (hfp : ∀ b ∈ fp, b ≠ L ∧ g.get? b = none ∧ ∀ q ∈ frs, b ≠ q.1) (Z : At g outer frs L m led s.heap) (hwr : ∀ p ∈ led, p.1 ∉ wr) (htk : 0 < s.toks) (j0 : J 0 m led)
    (hbody : ∀ i, i < n → ∀ (fe frs' led' : List (Addr × Obj)) (m' m₂ : Str → Option Value) (s' : Shared), J i m' led' → (∀ x, x ∉ loc → m₂ x = m' x) → P i m₂ → SameUp frs frs' → At g outer frs' L m₂ (fe ++ led') s'.heap → (∀ b ∈ fp, ∃ o, (b, o) ∈ fe) → (∀ q ∈ fe, q.1 ∈ fp) → (∀ q ∈ led', q.1 ∉ wr) → 0 < s'.toks → St (i + 1) s'.heap → (∃ h tk, s' = { s with heap := h, toks := tk }) →
      wpC (model prog w) A (execs body env) (fun f s'' => f = .next ∧ ∃ h' tk' led'' m'' frs'', s'' = { s' with heap := h', toks := tk' } ∧ SameUp frs' frs'' ∧ At g outer frs'' L m'' (fe ++ led'') h' ∧ (∀ q ∈ led'', q.1 ∉ wr) ∧ J (i + 1) m'' led'' ∧ 0 < tk') NE s')
    (hQ : ∀ h' tk' led' m' frs', SameUp frs frs' → At g outer frs' L m' led' h' → J n m' led' → (∀ q ∈ led', q.1 ∉ wr) → 0 < tk' → Q .next { s with heap := h', toks := tk' }) :
    codeC (model prog w) A (.forLoop target (.ref I) body [] env) (fun r s' => match r with | .ok f => Q f s' | .error _ => False) s := by
  subst hL
  obtain ⟨Inv, hInv⟩ : ∃ Inv : Nat → Shared → Prop, Inv = (fun k s' => ∃ h' tk i m' led' frs', s' = { s with heap := h', toks := tk } ∧ SameUp frs frs' ∧ i ≤ n ∧ k = n - i ∧ St i h' ∧ At g outer frs' env.locals m' led' h' ∧ (∀ q ∈ led', q.1 ∉ wr) ∧ J i m' led' ∧ 0 < tk) := ⟨_, rfl⟩
  refine c_forLoop Inv (fun k s' hI => ?_) n (by rw [hInv]; exact ⟨s.heap, s.toks, 0, m, led, frs, rfl, SameUp.refl _, Nat.zero_le _, rfl, st0, Z, hwr, j0, htk⟩)
  rw [hInv] at hI
  obtain ⟨h', tk, i, m', led', frs', rfl, S', hi, rfl, hst, Z', hwr', j, htk'⟩ := hI
  have frfp : ∀ q ∈ frs', q.1 ∉ fp := fun q hq hm => by
    obtain ⟨y, hy, e⟩ := S'.fwd q hq
    exact (hfp _ hm).2.2 y hy e
  have hLf : env.locals ∉ fp := fun q => (hfp _ q).1 rfl
  by_cases hlt : i < n
  · refine .any (wpAny_mono (turn_tk (n := 1) (Q := fun s₂ => wpC (model prog w) A (execs body env) (fun f s₃ => match f with
            | .next | .cont => ∃ m, m < n - i ∧ Inv m s₃
            | .brk => Q .next s₃
            | .ret v => Q (.ret v) s₃) NE s₂) htk'
          (S.turn i { s with heap := h', toks := tk } env m' _ hlt hst hkind hloc hLf Z'.F.ns fun h₂ tk₂ m₂ hn₂ hP hmm hst₂ hk₂ htk₂ => ?_)) (fun r s₁ h₁ => ?_) fun _ _ e => e)
    rotate_left
    · cases r with
      | none => exact h₁.elim
      | some v => exact h₁
    obtain ⟨fe, hfe1, hfe2, hfe3⟩ := live_fe (S.live _ _ hst₂)
    have Z₂ : At g outer frs' env.locals m₂ led' h₂ := ⟨⟨hn₂, fun b o e => hk₂ b o (fun q => by rw [(hfp _ (S.sub _ q)).2.1] at e; cases e) (fun q => Nat.lt_irrefl _ (Nat.lt_of_lt_of_le (Heap.lt_size (q ▸ e)) Z'.F.above)) (Z'.F.keep b o e), Z'.F.above⟩, fun q hq => ?_, Z'.ap, Z'.Fs⟩
    · have ZX := Z₂.more fe fun p hp => ⟨hfe1 p hp, (hfp _ (hfe3 p hp)).1, (hfp _ (hfe3 p hp)).2.1, fun q hq e => frfp q hq (e ▸ hfe3 p hp)⟩
      refine wpC_mono (hbody i hlt fe frs' led' m' m₂ { s with heap := h₂, toks := tk₂ } j hmm hP S' ZX (fun b hb => by obtain ⟨o, _, q⟩ := hfe2 b hb; exact ⟨o, q⟩) hfe3 hwr' htk₂ hst₂ ⟨h₂, tk₂, rfl⟩) (fun f s₃ h₃ => ?_) fun _ _ e => e
      obtain ⟨rfl, h₃, tk₃, led₃, m₃, frs₃, rfl, S₃, Z₃, hwr₃, j₃, ht₃⟩ := h₃
      refine ⟨n - (i + 1), by omega, ?_⟩
      rw [hInv]
      refine ⟨h₃, tk₃, i + 1, m₃, led₃, frs₃, rfl, S'.trans S₃, hlt, rfl, S.frame _ _ _ hst₂ fun b hb o e => ?_, Z₃.perm fun q hq => List.mem_append_right _ hq, hwr₃, j₃, ht₃⟩
      obtain ⟨o', e', q⟩ := hfe2 b hb
      rw [e] at e'; cases e'
      exact Z₃.toks (b, o) (List.mem_append_left _ q)
    · refine ⟨hk₂ _ _ (fun hw => ?_) (Z'.N q hq).2.1 (Z'.N q hq).1, (Z'.N q hq).2⟩
      rcases List.mem_append.mp hq with hq | hq
      · exact hwr' q hq hw
      · exact frfp q hq (S.sub _ hw)
  · obtain rfl : i = n := by omega
    refine .any (wpAny_tk (n := 1) htk' (wpAny_mono (S.done { s with heap := h', toks := tk } (fun r s' => r = none ∧ ∃ h₂ tk₂, (∀ b o, b ∉ wr → h'.get? b = some o → h₂.get? b = some o) ∧ s' = { s with heap := h₂, toks := tk₂ }) hst fun h₂ tk₂ hk₂ => ⟨rfl, h₂, tk₂, hk₂, rfl⟩) (fun r s' q h1 => ?_) fun _ _ e _ => e))
    obtain ⟨rfl, h₂, tk₂, hk₂, rfl⟩ := q
    exact c_execs_nil (hQ h₂ tk₂ led' m' frs' S' (Z'.away (W := wr) hk₂ (fun q => hLf (S.sub _ q)) (fun b hb => (hfp b (S.sub _ hb)).2.1) hwr' fun q hq hw => frfp q hq (S.sub _ hw)) j hwr' h1)
end
end Mine
end
section
open PySem PySem.W PyProof.Rows PySem.Calls PySem.Flt
open PyProof.Rows.TI (Frs SameUp)
open PyProof.Rows.LCg (lst NsObj ns_obj lst_snoc)
set_option maxRecDepth 100000
set_option maxHeartbeats 400000
namespace Mine
section
variable {prog : Program} {w : World} {A : Around} {s : Shared} {env : Env}
theorem c_Expr {e : Expr} {pos : Pos} {Q : Flow → Shared → Prop} (h : wpC (model prog w) A (eval e env) (fun _ => Q .next) NE s) (hi : interactive env = false) (hs : swapsWith e none pos.line env = pure false) :
    wpC (model prog w) A (exec (.Expr e pos) env) Q NE s := by
  rw [exec_Expr env e pos hi hs]
  exact wpC_leaf (wpAny_standAt (wpC_bind (wpC_mono h (fun v s' h' => .any (wpAny_dropValue h')) fun _ _ x => x)))
theorem c_Call_append {o elt : Expr} {apos pos : Pos} {Q : Value → Shared → Prop}
    (hbase : attributeBase o "append" env (eval o env) = eval o env)
    (hfew : ((backTo pos (starEach [elt] env)).all (fun x => !x.1) && (backToKw pos (keywordEach [] env)).all (fun x => x.1.isSome)
      && decide (([elt] : List Expr).length + ([] : List Keyword).length + (if ([] : List Keyword).isEmpty then 0 else 1) < 30)) = true)
    (hline : (apos.endLine == pos.line) = true)
    (htrees : backTo pos (starEach [elt] env) = [(false, eval elt env)])
    (h : wpAny (model prog w) A (eval o env) (fun ov s₁ => ∃ D its, ov = .ref D ∧ PlainL s₁.heap D its ∧
      wpC (model prog w) A (eval elt env) (fun y s₂ => wpAny (model prog w) A (call (.builtin "list.append") [.ref D, y]) Q NE s₂) NE s₁) NE s) :
    wpC (model prog w) A (eval (.Call (.Attribute o "append" apos) [elt] [] pos) env) Q NE s := by
  rw [arm_eval_Call, hbase]
  refine wpC_leaf (wpAny_mono h (fun ov s₁ h₁ => ?_) fun _ _ e => e)
  obtain ⟨D, its, rfl, ⟨ob, n, hob, hc, hd, _⟩, hcall⟩ := h₁
  refine wpC_leaf (wpAny_standAt ?_)
  have fin : wpC (model prog w) A (callWith pos (.builtin "list.append") [.ref D] (backTo pos (starEach [elt] env)) []) Q NE s₁ := by
    rw [htrees]
    refine c_callWith (c_evalArgs_plain (c_spliced_cons (wpC_mono hcall (fun y s₂ h₂ => c_spliced_nil ⟨⟨.machine, .inr ⟨rfl, rfl⟩, .now⟩, .any h₂⟩) fun _ _ e => e)))
  have hform : methodCallForm (([elt] : List Expr).length + ([] : List Keyword).length) (backTo pos (starEach [elt] env)) (backToKw pos (keywordEach [] env)) = true := hfew
  have hpos : methodCallPos true o env apos pos = pure pos := by unfold methodCallPos; simp [hline]
  unfold methodCall
  rw [hform]
  refine wpC_leaf (wpAny_holding (Calls.getMethod_list_append hob hc hd ?_))
  exact wpC_leaf (wpAny_of_eq hpos fin)
end
section
variable {w : World} {A : Around} {g : Heap} {outer : List Env} {frs : List (Addr × Obj)} {L : Addr} {m : Str → Option Value} {env : Env} {s : Shared} {led : List (Addr × Obj)}
/-- x.append(e) -/
theorem c_append {x : Str} {F : Addr} {ys : List Value} {elt : Expr} {p1 apos pos p2 : Pos} {Pv : Value → Prop} {Q : Flow → Shared → Prop} (Z : At g outer frs L m ((F, lst ys) :: led) s.heap) (hF : ∀ q ∈ led, q.1 ≠ F) (htk : 0 < s.toks) (hL : env.locals = L) (hk : env.scope.kind = .function) (hx : env.kindOf x = some .local) (hm : m x = some (.ref F)) (hd : (x == ("__debug__" : Str)) = false)
    (he : Ev w A g outer frs L m ((F, lst ys) :: led) env elt Pv) (hsz : ys.length ≤ 3000)
    (hq : ∀ v h' tk' frs', Pv v → SameUp frs frs' → At g outer frs' L m ((F, lst (ys ++ [v])) :: led) h' → 0 < tk' → Q .next { s with heap := h', toks := tk' })
    (hbase : attributeBase (.Name x p1) "append" env (eval (.Name x p1) env) = eval (.Name x p1) env := by rfl)
    (hfew : ((backTo pos (starEach [elt] env)).all (fun x => !x.1) && (backToKw pos (keywordEach [] env)).all (fun x => x.1.isSome)
      && decide (([elt] : List Expr).length + ([] : List Keyword).length + (if ([] : List Keyword).isEmpty then 0 else 1) < 30)) = true := by rfl)
    (hline : (apos.endLine == pos.line) = true := by rfl)
    (htrees : backTo pos (starEach [elt] env) = [(false, eval elt env)] := by rfl) (hi : interactive env = false := by rfl) (hs : swapsWith (.Call (.Attribute (.Name x p1) "append" apos) [elt] [] pos) none p2.line env = pure false := by rfl) :
    wpC (model PG w) A (exec (.Expr (.Call (.Attribute (.Name x p1) "append" apos) [elt] [] pos) p2) env) Q NE s := by
  subst hL
  refine c_Expr (c_Call_append hbase hfew hline htrees (n_local Z.F.ns hm ?_ hk hx hd)) hi hs
  refine ⟨F, ys.toArray, rfl, ⟨lst ys, ys.length, Z.toks _ (.head _), rfl, rfl, rfl⟩, ?_⟩
  refine he frs s _ (SameUp.refl _) Z htk fun v h₁ tk₁ frs₁ S₁ Z₁ hv t₁ => ?_
  have gF := Z₁.N (F, lst ys) (.head _)
  refine append_at (s := { s with heap := h₁, toks := tk₁ }) gF.1 (fun h₂ s₂ e₂ => ?_) (by rw [List.size_toArray]; exact Nat.le_trans hsz (by rw [sizeLine_eq]; decide))
  have Z₂ : At g outer frs₁ env.locals m led h₂ := (Z₁.perm fun q hq => .tail _ hq).away (W := [F]) (fun b o hb e => s₂.extBut b o (fun q => hb (by simp [q])) e) (fun q => gF.2.1 (List.mem_singleton.mp q).symm) (fun b hb => by rw [List.mem_singleton.mp hb]; exact gF.2.2) (fun q hq hw => hF q hq (by simpa using hw)) fun q hq hw => Z₁.ap (F, lst ys) (.head _) q hq (List.mem_singleton.mp hw).symm
  refine hq v h₂ tk₁ frs₁ hv S₁ (Z₂.more [(F, lst (ys ++ [v]))] fun q hq => ?_) t₁
  obtain rfl := List.mem_singleton.mp hq
  exact ⟨e₂.trans (congrArg some (lst_snoc ys v)), gF.2.1, gF.2.2, fun y hy => Z₁.ap (F, lst ys) (.head _) y hy⟩
/-- for a, b in pairs -/
theorem for_pairs {na nb : Str} {pa pb tp pos : Pos} {kk n : Nat} {a : Addr} {v₁ v₂ : Nat → Value} {iter : Expr} {body : List Stmt} {X : List (Addr × Obj)} (J : Nat → (Str → Option Value) → List (Addr × Obj) → Prop) {Q : Flow → Shared → Prop} (hh : A.handled = none) (hab : na ≠ nb) (x : PairsAt X a n v₁ v₂) (hX : ∀ q ∈ X, q ∈ led) (Z : At g outer frs L m led s.heap) (htk : 0 < s.toks)
    (hL : env.locals = L) (hkind : env.scope.kind = .function) (hloc : ∀ y ∈ [na, nb], env.kindOf y = some .local)
    (hit : ∀ Q : Value → Shared → Prop, (∀ tk, s.toks ≤ tk → Q (.ref a) { s with toks := tk }) → wpAny (model PG w) A (eval iter env) Q NE s) (j0 : J 0 m led)
    (hbody : ∀ i, i < n → ∀ (I : Addr) (fe frs' led' : List (Addr × Obj)) (m' m₂ : Str → Option Value) (s' : Shared), (∀ q ∈ led, q.1 ≠ I) → J i m' led' → (∀ x, x ∉ [na, nb] → m₂ x = m' x) → m₂ na = some (v₁ i) → m₂ nb = some (v₂ i) → SameUp frs frs' → At g outer frs' L m₂ (fe ++ led') s'.heap → (∃ o, (I, o) ∈ fe) → (∀ q ∈ fe, q.1 = I ∨ ∃ y ∈ X, q.1 = y.1) → (∀ q ∈ led', q.1 ≠ I) → 0 < s'.toks →
      wpC (model PG w) A (execs body env) (fun f s'' => f = .next ∧ ∃ h' tk' led'' m'' frs'', s'' = { s' with heap := h', toks := tk' } ∧ SameUp frs' frs'' ∧ At g outer frs'' L m'' (fe ++ led'') h' ∧ (∀ q ∈ led'', q.1 ≠ I) ∧ J (i + 1) m'' led'' ∧ 0 < tk') NE s')
    (hQ : ∀ h' tk' led' m' frs', SameUp frs frs' → At g outer frs' L m' led' h' → J n m' led' → 0 < tk' → Q .next { s with heap := h', toks := tk' })
    (hs : ∀ x, foldedSetIterable iter env x = pure x := by intro _; rfl) :
    wpC (model PG w) A (exec (.For (.Tuple [.Name na pa, .Name nb pb] kk tp) iter body [] pos) env) Q NE s := by
  obtain ⟨oa, k, its, pr, pf, h1, h2, h3, h4, h5⟩ := x.of
  have gm : ∀ q ∈ led, s.heap.get? q.1 = some q.2 := Z.toks
  have lt : ∀ q ∈ led, q.1 < s.heap.objs.size := fun q hq => Heap.lt_size (gm q hq)
  refine c_For (.any (hit _ fun tk htk' => ?_)) hs
  refine wpAny_pyIter_list (s := { s with toks := tk }) (items := its.toArray) ⟨oa, gm _ (hX _ h1), h2, k, h3⟩ ?_
  subst h4
  have Z' : At g outer frs L m led (s.heap.push { cls := .type "list_iterator", dict := none, data := .fields #[.ref a, .int 0 0] }) := (Z.push _).perm fun q hq => .tail _ hq
  refine k_loop (I := s.heap.objs.size) (s := { s with heap := s.heap.push { cls := .type "list_iterator", dict := none, data := .fields #[.ref a, .int 0 0] }, toks := tk }) J (src_pairs (kk := kk) hh hab s.heap.objs.size a its pr v₁ v₂ pf (Nat.ne_of_lt (lt _ (hX _ h1))) (fun i hi => Nat.ne_of_lt (lt _ (hX _ (h5 i hi).2.1))) (fun i hi => (h5 i hi).1) (fun i hi => (h5 i hi).2.2)) hkind hL hloc ⟨?_, ?_, fun j hj => ?_⟩ (fun b hb => ?_) Z' (fun q hq hw => Nat.ne_of_lt (lt q hq) (List.mem_singleton.mp hw)) (Nat.lt_of_lt_of_le htk htk') j0 ?_ ?_
  · exact ⟨_, Heap.get?_push_size _ rfl, rfl, rfl⟩
  · exact ⟨oa, Heap.get?_push_of_some _ (gm _ (hX _ h1)), h2, k, h3⟩
  · exact Heap.get?_push_of_some _ (gm _ (hX _ (h5 j hj).2.1))
  · have mem : ∀ q ∈ led, q.1 ≠ L ∧ g.get? q.1 = none ∧ ∀ y ∈ frs, q.1 ≠ y.1 := fun q hq => ⟨(Z.N q (List.mem_append_left _ hq)).2.1, (Z.N q (List.mem_append_left _ hq)).2.2, Z.ap q hq⟩
    rcases List.mem_cons.mp hb with rfl | hb
    · exact ⟨Nat.ne_of_gt Z.F.ns.lt, Heap.get?_none_of_le (Nat.le_trans Z.F.above (Nat.le_of_lt Z.F.ns.lt)), fun y hy => Nat.ne_of_gt (Heap.lt_size (Z.N y (List.mem_append_right _ hy)).1)⟩
    · rcases List.mem_cons.mp hb with rfl | hb
      · exact mem _ (hX _ h1)
      · obtain ⟨j, hj, rfl⟩ := List.mem_map.mp hb
        exact mem _ (hX _ (h5 j (List.mem_range.mp hj)).2.1)
  · intro i hi fe frs' led' m' m₂ s' j hm hP S' Zx hf1 hf2 hw ht _ _
    refine wpC_mono (hbody i hi s.heap.objs.size fe frs' led' m' m₂ s' (fun q hq => Nat.ne_of_lt (lt q hq)) j hm hP.1 hP.2 S' Zx (hf1 _ (.head _)) (fun q hq => ?_) (fun q hq e => hw q hq (by simp [e])) ht) (fun f s'' h'' => ?_) fun _ _ e => e
    · rcases List.mem_cons.mp (hf2 q hq) with e | hb
      · exact .inl e
      · rcases List.mem_cons.mp hb with e | hb
        · exact .inr ⟨_, h1, e⟩
        · obtain ⟨j, hj, e⟩ := List.mem_map.mp hb
          exact .inr ⟨_, (h5 j (List.mem_range.mp hj)).2.1, e.symm⟩
    · obtain ⟨rfl, h₃, tk₃, led₃, m₃, frs₃, rfl, S₃, Z₃, w₃, j₃, t₃⟩ := h''
      exact ⟨rfl, h₃, tk₃, led₃, m₃, frs₃, rfl, S₃, Z₃, fun q hq hm => w₃ q hq (by simpa using hm), j₃, t₃⟩
  · intro h' tk' led' m' frs' S' Z'' j _ ht
    exact hQ h' tk' led' m' frs' S' Z'' j ht
end
end Mine
end
section
open PySem PySem.W PyProof.Rows PySem.Calls PySem.Flt
open PyProof.Rows.TI (Frs SameUp)
open PyProof.Rows.LCg (lst NsObj ns_obj lst_snoc)
set_option maxRecDepth 100000
set_option maxHeartbeats 400000
namespace Mine
section
variable {w : World} {A : Around} {g : Heap} {outer : List Env} {frs : List (Addr × Obj)} {L : Addr} {m : Str → Option Value} {env : Env} {s : Shared} {led X : List (Addr × Obj)}
/-- x = [] -/
theorem c_emptyList {x : Str} {p1 p2 p3 : Pos} {Q : Flow → Shared → Prop} (Z : At g outer frs L m led s.heap) (hL : env.locals = L) (hk : env.scope.kind = .function) (hx : env.kindOf x = some .local)
    (hq : ∀ F h' tk', (∀ q ∈ led, q.1 ≠ F) → At g outer frs L (fun z => if z = x then some (.ref F) else m z) ((F, lst []) :: led) h' → 0 < tk' → Q .next { s with heap := h', toks := tk' })
    (hsw : swapsWith (.List [] p1) (some (.Name x p2)) p3.line env = pure false := by rfl) : wpC (model PG w) A (exec (.Assign [.Name x p2] (.List [] p1) p3) env) Q NE s := by
  subst hL
  refine c_Assign (c_List ?_) hsw
  refine c_spliced_nil (wpAny_newObj_type ?_)
  have Z₁ := Z.push (lst [])
  refine wpAny_storeName_local hx Z₁.F.ns (fun h₂ hn hs₂ => ?_) (by rw [hk]; rfl)
  exact hq _ h₂ _ (fun q hq => Nat.ne_of_lt (Heap.lt_size (Z.toks q hq))) (Z₁.set hn hs₂) (Nat.succ_pos _)
/-- for a, b in pairs: flat.append(e1); flat.append(e2) -/
theorem c_flatLoop {nf na nb : Str} {pa pb tp pos b1 b2 b3 b4 c1 c2 c3 c4 : Pos} {kk n : Nat} {a F : Addr} {v₁ v₂ : Nat → Value} {t1 t2 : Nat → T} {iter e1 e2 : Expr} {Q : Flow → Shared → Prop} (hh : A.handled = none) (hab : na ≠ nb) (hfa : nf ∉ [na, nb]) (x : PairsAt X a n v₁ v₂) (hn : n ≤ 1000) (Z : At g outer frs L m ((F, lst []) :: X) s.heap) (hF : ∀ q ∈ X, q.1 ≠ F) (hmf : m nf = some (.ref F)) (htk : 0 < s.toks)
    (hL : env.locals = L) (hkind : env.scope.kind = .function) (hloc : ∀ y ∈ [na, nb], env.kindOf y = some .local) (hlf : env.kindOf nf = some .local) (hdf : (nf == ("__debug__" : Str)) = false)
    (hit : ∀ Q : Value → Shared → Prop, (∀ tk, s.toks ≤ tk → Q (.ref a) { s with toks := tk }) → wpAny (model PG w) A (eval iter env) Q NE s)
    (he1 : ∀ i, i < n → ∀ frs' led' m₂, SameUp frs frs' → (∀ q ∈ X, q ∈ led') → m₂ na = some (v₁ i) → m₂ nb = some (v₂ i) → Ev w A g outer frs' L m₂ led' env e1 fun v => Rep X v (t1 i))
    (he2 : ∀ i, i < n → ∀ frs' led' m₂, SameUp frs frs' → (∀ q ∈ X, q ∈ led') → m₂ na = some (v₁ i) → m₂ nb = some (v₂ i) → Ev w A g outer frs' L m₂ led' env e2 fun v => Rep X v (t2 i))
    (hQ : ∀ h' tk' ys m' frs', SameUp frs frs' → At g outer frs' L m' ((F, lst ys) :: X) h' → (∀ x, x ∉ [na, nb] → m' x = m x) → Reps X ys ((List.range n).flatMap fun i => [t1 i, t2 i]) → 0 < tk' → Q .next { s with heap := h', toks := tk' })
    (hs : ∀ x, foldedSetIterable iter env x = pure x := by intro _; rfl)
    (hbase1 : attributeBase (.Name nf b1) "append" env (eval (.Name nf b1) env) = eval (.Name nf b1) env := by rfl)
    (hfew1 : ((backTo b3 (starEach [e1] env)).all (fun x => !x.1) && (backToKw b3 (keywordEach [] env)).all (fun x => x.1.isSome)
      && decide (([e1] : List Expr).length + ([] : List Keyword).length + (if ([] : List Keyword).isEmpty then 0 else 1) < 30)) = true := by rfl)
    (hline1 : (b2.endLine == b3.line) = true := by rfl)
    (htrees1 : backTo b3 (starEach [e1] env) = [(false, eval e1 env)] := by rfl) (hi1 : interactive env = false := by rfl) (hs1 : swapsWith (.Call (.Attribute (.Name nf b1) "append" b2) [e1] [] b3) none b4.line env = pure false := by rfl)
    (hbase2 : attributeBase (.Name nf c1) "append" env (eval (.Name nf c1) env) = eval (.Name nf c1) env := by rfl)
    (hfew2 : ((backTo c3 (starEach [e2] env)).all (fun x => !x.1) && (backToKw c3 (keywordEach [] env)).all (fun x => x.1.isSome)
      && decide (([e2] : List Expr).length + ([] : List Keyword).length + (if ([] : List Keyword).isEmpty then 0 else 1) < 30)) = true := by rfl)
    (hline2 : (c2.endLine == c3.line) = true := by rfl)
    (htrees2 : backTo c3 (starEach [e2] env) = [(false, eval e2 env)] := by rfl) (hs2 : swapsWith (.Call (.Attribute (.Name nf c1) "append" c2) [e2] [] c3) none c4.line env = pure false := by rfl) :
    wpC (model PG w) A (exec (.For (.Tuple [.Name na pa, .Name nb pb] kk tp) iter [.Expr (.Call (.Attribute (.Name nf b1) "append" b2) [e1] [] b3) b4, .Expr (.Call (.Attribute (.Name nf c1) "append" c2) [e2] [] c3) c4] [] pos) env) Q NE s := by
  refine for_pairs (fun i m' led' => (∀ x, x ∉ [na, nb] → m' x = m x) ∧ ∃ ys, ys.length = 2 * i ∧ led' = (F, lst ys) :: X ∧ Reps X ys ((List.range i).flatMap fun i => [t1 i, t2 i])) hh hab x (fun q hq => .tail _ hq) Z htk hL hkind hloc hit ⟨fun _ _ => rfl, [], rfl, rfl, .nil⟩ (fun i hi I fe frs' led' m' m₂ s' hI j hm hma hmb S' Z' hIf hfe hw ht => ?_) (fun h' tk' led' m' frs' S' Z' j ht => ?_) hs
  · obtain ⟨jm, ys, hyl, rfl, R⟩ := j
    have hFI : F ≠ I := hI _ (.head _)
    have hFe : ∀ q ∈ fe ++ X, q.1 ≠ F := fun q hq => by
      rcases List.mem_append.mp hq with hq | hq
      · rcases hfe q hq with e | ⟨y, hy, e⟩
        · rw [e]; exact hFI.symm
        · rw [e]; exact hF y hy
      · exact hF q hq
    have Z₁ : At g outer frs' L m₂ ((F, lst ys) :: (fe ++ X)) s'.heap := Z'.perm fun q hq => by
      rcases List.mem_cons.mp hq with rfl | hq
      · exact List.mem_append_right _ (.head _)
      · rcases List.mem_append.mp hq with hq | hq
        · exact List.mem_append_left _ hq
        · exact List.mem_append_right _ (.tail _ hq)
    have hm2 : m₂ nf = some (.ref F) := (hm nf hfa).trans ((jm nf hfa).trans hmf)
    have sub : ∀ {o : Obj}, ∀ q ∈ X, q ∈ (F, o) :: (fe ++ X) := fun q hq => .tail _ (List.mem_append_right _ hq)
    refine c_execs_cons (c_append Z₁ hFe ht hL hkind hlf hm2 hdf (he1 i hi frs' _ m₂ S' sub hma hmb) (by omega) (fun u1 h₁ tk₁ frs₁ r1 S₁ Z₂ t₁ => ?_) hbase1 hfew1 hline1 htrees1 hi1 hs1)
    refine c_execs_cons (c_append (s := { s' with heap := h₁, toks := tk₁ }) Z₂ hFe t₁ hL hkind hlf hm2 hdf (he2 i hi frs₁ _ m₂ (S'.trans S₁) sub hma hmb) (by rw [List.length_append, List.length_singleton]; omega) (fun u2 h₂ tk₂ frs₂ r2 S₂ Z₃ t₂ => ?_) hbase2 hfew2 hline2 htrees2 hi1 hs2)
    refine c_execs_nil ⟨rfl, h₂, tk₂, (F, lst (ys ++ [u1] ++ [u2])) :: X, m₂, frs₂, rfl, S₁.trans S₂, Z₃.perm fun q hq => ?_, fun q hq => ?_, ⟨fun x hx => (hm x hx).trans (jm x hx), _, ?_, rfl, ?_⟩, t₂⟩
    · rcases List.mem_append.mp hq with hq | hq
      · exact .tail _ (List.mem_append_left _ hq)
      · rcases List.mem_cons.mp hq with rfl | hq
        · exact .head _
        · exact sub q hq
    · rcases List.mem_cons.mp hq with rfl | hq
      · exact hFI
      · exact hw q (.tail _ hq)
    · simp only [List.length_append, List.length_singleton]; omega
    · rw [List.range_succ, List.flatMap_append, List.append_assoc]
      exact R.append (.cons r1 (.cons r2 .nil))
  · obtain ⟨jm, ys, hyl, rfl, R⟩ := j
    exact hQ h' tk' ys m' frs' S' Z' jm R ht
end
section
variable {w : World} {p : Program} {loose : List Str} {mean : ExcName → Option Value} {mg mb : Str → Option Value} {led led₁ : List (Addr × Obj)} {kw : List (Str × Value)} {ps : Array Value}
theorem flat_ct {way n : Nat} {v : Value} {t1 : Nat → T} {q : Nat → Int} (hn : n ≤ 1000) (hq : ∀ i, Qok (q i)) (hl : Lg ps led) (h : Rep led v (.lst ((List.range n).map fun i => .lst [t1 i, .flt (F4 (q i))]))) (H : Asked kw way) (hc : valueAt kw ("withscores" : Str) = some (.bool true)) :
    Ct false w p loose mean mg mb (.ref 73) [v] kw 5 ((16, tabObj ps) :: led) (PostG led fun r l => Rep l r (.lst ((List.range n).flatMap fun i => [t1 i, .by (Wt (q i))]))) := by
  (refine fill_aux ?_; k_fill; intro _ _)
  obtain ⟨a, v₁, v₂, rfl, PA, hv⟩ := rep_pairs (tp := T.lst) (.inl rfl) h
  refine' ct_opts ?ho ?hcd ?P H.nd H.nr H.sz (by decide) ?k1 ?k2 ?hnd ?hco ?hgen ?hk ?h
  ( (case ho => k_is); (case hcd => k_is); (case P => exact ⟨rfl, rfl, rfl, rfl, rfl⟩); (case k1 => rfl); (case k2 => rfl); (case hnd => decide); (case hco => rfl); (case hgen => rfl); (case hk => rfl))
  refine body_opts hl fun dp un gd outer frs g L D o cells s G Z hl hsm hdo Y lo hd hu htk => ?_
  cases Y
  have hs0 : ∀ q ∈ led, q ∈ (D, o) :: led := fun q hq => .tail _ hq
  refine c_execs_cons (.any (guard_k (led := (D, o) :: led) (b := n != 0) (c := true) ⟨rfl, rfl, optM_opt, .head _, hdo, hsm⟩ Z.F.ns (Z.perm fun q hq => .tail _ hq).news optM_resp ((PA.tru (by omega)).mono hs0) rfl hc (fun tk htk' => ?_) (by decide)))
  by_cases hn0 : n = 0
  · subst hn0
    exact ends_same hl hs0 Z (Nat.lt_of_lt_of_le htk htk') (h.mono hs0)
  · rw [show ((n != 0) && true) = true by simp [hn0]]
    have sub2 : ∀ q ∈ led, q ∈ (16, tabObj ps) :: (D, o) :: led := fun q hq => .tail _ (.tail _ hq)
    refine c_execs_cons (c_emptyList (s := { s with toks := tk }) Z rfl rfl rfl fun F h₁ tk₁ hF Z₁ t₁ => ?_)
    refine c_execs_cons (c_flatLoop (s := { s with heap := h₁, toks := tk₁ }) (t1 := t1) (t2 := fun i => .by (Wt (q i))) rfl (by decide) (by decide) (PA.mono sub2) hn Z₁ hF (if_pos rfl) t₁ rfl rfl (List.forall_mem_cons.mpr ⟨rfl, List.forall_mem_cons.mpr ⟨rfl, fun _ h => absurd h List.not_mem_nil⟩⟩) rfl (by decide) (fun Q k => n_local Z₁.F.ns rfl (k _ (Nat.le_refl _)) rfl rfl) (fun i hi frs' led' m₂ S' hX ha hb => ?_) (fun i hi frs' led' m₂ S' hX ha hb => ?_) (fun h₂ tk₂ ys m₂ frs₂ S₂ Z₂ hm₂ R t₂ => ?_))
    · exact Ev.leaf (fun frs₁ s₁ Q Z k kq => n_local Z.F.ns ha (kq _ (Nat.le_refl _)) rfl rfl) ((hv i hi).1.mono sub2)
    · refine Ev.weak (Ev.resp2 (mean := mean) (hq i) (fun frs₂ s₂ Q Z₂ k => nG Z₂.F G.X (topRead_of G.T) (n61 w) k rfl rfl rfl) (Ev.leaf (fun frs₁ s₁ Q Z k kq => n_local Z.F.ns hb (kq _ (Nat.le_refl _)) rfl rfl) (rep_flt (hv i hi).2)) G rfl rfl (by omega) (by omega)) fun v hv => ?_
      obtain ⟨u, rfl⟩ := hv
      exact .by _ _
    · refine c_execs_cons (c_Return (.any (n_local Z₂.F.ns ((hm₂ _ (by decide)).trans (if_pos rfl)) ?_ rfl rfl)))
      refine ends_comp (s := s) (D := F) (o := lst ys) (new := []) hl hs0 S₂ Z₂ (fun y hy q hq => ?_) t₂ (rep_comp (new := []) R)
      rw [List.mem_singleton.mp hy]
      exact (hF q hq).symm
end
end Mine
end
section
open PySem PySem.W PyProof.Rows PySem.Calls PySem.Flt
open PyProof.Rows.TI (Frs SameUp)
open PyProof.Rows.LCg (lst NsObj ns_obj lst_snoc)
set_option maxRecDepth 100000
set_option maxHeartbeats 400000
namespace Mine
abbrev KS (w : World) : KeyKind PG w Str := strKind PG w
section
variable {w : World} {A : Around} {E : Value → Shared → Prop} {s : Shared}
theorem findIdx_none {kvs : List (Str × Value)} {k : Str} (h : k ∉ kvs.map (·.1)) : (kvs.findIdx? fun kv => decide (kv.1 = k)) = none := by
  rw [List.findIdx?_eq_none_iff]
  intro x hx
  exact decide_eq_false fun e => h (e ▸ List.mem_map.mpr ⟨x, hx, rfl⟩)
theorem find_none {d : Addr} {kvs : List (Str × Value)} {k : Str} {key : Value} {Q : Option Nat → Shared → Prop} (hkey : (KS w).is k key = true) (hm : s.heap.DictOf (KS w) d kvs) (hno : k ∉ kvs.map (·.1)) (h : Q none s) : wpAny (model PG w) A (dictFind d key ((KS w).hash k)) Q E s := by
  obtain ⟨o, es, ep, ho, hc, hd, hk, hp, hn⟩ := hm
  refine wpAny_dictFind_of hkey ho hd hk ?_
  have hidx : (es.findIdx? fun e => (KS w).is k e.key) = kvs.findIdx? fun kv => decide (kv.1 = k) := by
    rw [← hp.findIdx k]; obtain ⟨l⟩ := es; simp
  rw [hidx, findIdx_none hno]
  exact h
theorem put_new {d : Addr} {kvs : List (Str × Value)} {k : Str} {key v : Value} {Q : Unit → Shared → Prop} (hkey : (KS w).is k key = true) (hm : s.heap.DictOf (KS w) d kvs) (hno : k ∉ kvs.map (·.1)) (hsz : kvs.length ≤ 100)
    (hQ : ∀ h', h'.DictOf (KS w) d (kvs ++ [(k, v)]) → Heap.SameBut d s.heap h' → Q () { s with heap := h' }) : wpAny (model PG w) A (dictPut d ((KS w).hash k) key v) Q E s := by
  obtain ⟨o, es, ep, ho, hc, hd, hk, hp, hn⟩ := id hm
  have hes : es.size ≤ sizeLine := by
    have e1 := hp.length
    have e2 : es.toList.length = es.size := by simp
    have : 100 ≤ sizeLine := by rw [sizeLine_eq]; decide
    omega
  unfold dictPut
  refine wpAny_bind (find_none hkey hm hno ?_)
  refine wpAny_updateDictKeys (hz := hes) ho hd (hQ _ ⟨_, _, ep + 1, Heap.get?_update_self _ ho (Obj.isFreed_of_dict (Obj.data_mapDictKeys hd _)),
      hc.mapDictKeys _, Obj.data_mapDictKeys hd _, hk.push hkey _, ?_, ?_⟩ (Heap.SameBut.update ..))
  · have := hp.append hkey ((KS w).hash k) v
    obtain ⟨l⟩ := es
    simpa using this
  · rw [List.map_append, List.nodup_append]
    refine ⟨hn, by simp, ?_⟩
    intro a ha b hb
    simp only [List.map_cons, List.map_nil, List.mem_singleton] at hb
    subst hb
    exact fun e => hno (e ▸ ha)
theorem Pairs.at' {es : List DictEntry} {kvs : List (Str × Value)} (h : Pairs (KS w) es kvs) : ∀ {i : Nat} {e : DictEntry}, es[i]? = some e → ∃ kv, kvs[i]? = some kv ∧ (KS w).is kv.1 e.key = true ∧ e.val = kv.2 := by
  induction h with
  | nil => intro i e h; simp at h
  | @cons e kv es kvs h1 h2 _ ih =>
    intro i e' h
    cases i with
    | zero => simp at h; subst h; exact ⟨kv, rfl, h1, h2⟩
    | succ i => simpa using ih (by simpa using h)
/-- one dict into another -/
theorem merge_dict {d a : Addr} {kvs kvs' : List (Str × Value)} {unique : Bool} {Q : Unit → Shared → Prop} (hda : d ≠ a) (hsm : (a == sysModules) = false) (hd : s.heap.DictOf (KS w) d kvs) (hm : s.heap.DictOf (KS w) a kvs') (hdis : ((kvs ++ kvs').map (·.1)).Nodup) (hsz : kvs.length + kvs'.length ≤ 100)
    (hQ : ∀ h', h'.DictOf (KS w) d (kvs ++ kvs') → (∀ b o, b ≠ d → s.heap.get? b = some o → h'.get? b = some o) → Q () { s with heap := h' }) : wpAny (model PG w) A (mergeMapping d (.ref a) unique) Q E s := by
  obtain ⟨oa, ea, epa, hoa, hca, hda', hka, hpa, hna⟩ := id hm
  obtain ⟨od, ed, epd, hod, hcd, hdd, hkd, hpd, hnd⟩ := id hd
  have hT : s.TypeIs (.ref a) "dict" := ⟨oa, hoa, hca.1⟩
  unfold mergeMapping
  refine wpAny_bind (wpAny_isInstance hT isSubtype_dict_dict ?_)
  rw [if_pos rfl]
  refine wpAny_bind (wpAny_specialOf hT F.slot_dict_iter.lookup (wpAny_bind (wpAny_pure ?_)))
  rw [show (some (Value.builtin "dict.__iter__") == some (Value.builtin "dict.__iter__")) = true by simp]
  dsimp only
  rw [hsm]
  simp only [Bool.false_eq_true, if_false, pure_bind]
  refine wpAny_bind (wpAny_dictEntries hod hdd ?_)
  have hl : ea.size = kvs'.length := by have := hpa.length; simpa using this
  have strk : ∀ e ∈ ea, ∃ k t, e.key = .str k t ∧ e.hash = (KS w).hash k := fun e he => by
    obtain ⟨k, h1, h2⟩ := hka e he
    obtain ⟨t, ht⟩ := Value.isStrOf_shape h1
    exact ⟨k, t, ht, h2⟩
  have key : ∀ f : Nat → PUnit → Sem (ForInStep PUnit), (∀ i (s' : Shared) e kv, ea[i]? = some e → kvs'[i]? = some kv → s'.heap.get? a = some oa → s'.heap.DictOf (KS w) d (kvs ++ kvs'.take i) → (KS w).is kv.1 e.key = true → e.val = kv.2 → e.hash = (KS w).hash kv.1 → kv.1 ∉ (kvs ++ kvs'.take i).map (·.1) →
      ∀ Q' : PUnit → Shared → Prop, (∀ h', h'.DictOf (KS w) d (kvs ++ kvs'.take i ++ [kv]) → Heap.SameBut d s'.heap h' → Q' ⟨⟩ { s' with heap := h' }) → wpAny (model PG w) A (f i ⟨⟩) (fun r s'' => match r with | .yield b => Q' b s'' | .done _ => False) E s') →
      wpAny (model PG w) A (forIn (List.range ea.size) PUnit.unit f) (fun _ s' => Q () s') E s := fun f hf => by
    refine wpAny_forIn_list f (fun rest _ s' => ∃ i h', rest = List.range' i (ea.size - i) ∧ i ≤ ea.size ∧ s' = { s with heap := h' } ∧ h'.DictOf (KS w) d (kvs ++ kvs'.take i) ∧ ∀ b o, b ≠ d → s.heap.get? b = some o → h'.get? b = some o) (fun _ s' => Q () s') ?_ ?_ _ _ ⟨0, s.heap, by rw [List.range_eq_range', Nat.sub_zero], Nat.zero_le _, rfl, by simpa using hd, fun _ _ _ e => e⟩
    · rintro x rest b s' ⟨i, h', hr, hi, rfl, hD, hk⟩
      have hlt : i < ea.size := by
        rcases Nat.lt_or_ge i ea.size with h | h
        · exact h
        · rw [Nat.sub_eq_zero_of_le h] at hr; cases hr
      obtain ⟨n, hn⟩ : ∃ n, ea.size - i = n + 1 := ⟨ea.size - i - 1, by omega⟩
      rw [hn, List.range'_succ] at hr
      injection hr with hx hrest
      subst hx
      have he : ea[x]? = some ea[x] := Array.getElem?_eq_getElem hlt
      obtain ⟨kv, hkv, k1, k2⟩ := Pairs.at' (w := w) hpa (i := x) (e := ea[x]) (by simp [hlt])
      obtain ⟨k, t, e1, e2⟩ := strk ea[x] (Array.getElem_mem hlt)
      have ek : kv.1 = k := (KS w).inj ea[x].key kv.1 k k1 (by rw [e1]; exact strKind_is PG w k t)
      have hno : kv.1 ∉ (kvs ++ kvs'.take x).map (·.1) := by
        have hd2 : (kvs ++ kvs') = (kvs ++ kvs'.take x) ++ (kvs'.drop x) := by rw [List.append_assoc, List.take_append_drop]
        rw [hd2, List.map_append, List.nodup_append] at hdis
        intro hm'
        refine hdis.2.2 _ hm' _ (List.mem_map.mpr ⟨kv, ?_, rfl⟩) rfl
        have hlt' : x < kvs'.length := by omega
        rw [List.drop_eq_getElem_cons hlt']
        rw [List.getElem?_eq_getElem hlt'] at hkv
        exact (Option.some.inj hkv) ▸ .head _
      refine wpAny_mono (hf x { s with heap := h' } ea[x] kv he hkv (hk _ _ hda.symm hoa) hD k1 k2 (by rw [e2, ek]) hno (fun _ s'' => ∃ i h', rest = List.range' i (ea.size - i) ∧ i ≤ ea.size ∧ s'' = { s with heap := h' } ∧ h'.DictOf (KS w) d (kvs ++ kvs'.take i) ∧ ∀ b o, b ≠ d → s.heap.get? b = some o → h'.get? b = some o) fun h'' hD' hs' => ?_) (fun r s'' hr => ?_) fun _ _ e => e
      · refine ⟨x + 1, h'', ?_, hlt, rfl, ?_, fun b o hb e => hs'.extBut b o hb (hk b o hb e)⟩
        · rw [hrest]; congr 1; omega
        · rw [List.take_add_one, hkv, ← List.append_assoc]; exact hD'
      · cases r with
        | yield b => exact hr
        | done b => exact hr.elim
    · rintro b s' ⟨i, h', hr, hi, rfl, hD, hk⟩
      have : i = ea.size := by
        rcases Nat.lt_or_ge i ea.size with h | h
        · obtain ⟨n, hn⟩ : ∃ n, ea.size - i = n + 1 := ⟨ea.size - i - 1, by omega⟩
          rw [hn, List.range'_succ] at hr; cases hr
        · omega
      rw [this, hl, List.take_length] at hD
      exact hQ h' hD hk
  have turn : ∀ f : Nat → PUnit → Sem (ForInStep PUnit), f = (fun i __s => do
              let __do_lift ← dictEntries a
              match __do_lift[i]? with
                | some e => do
                  holding [e.key, e.val]
                      (if unique = true then do
                        let __do_lift ← dictFind d e.key e.hash
                        if __do_lift.isSome = true then do
                            rule "dict.merge.duplicate-key"
                            let __do_lift ← newExc (Value.type "KeyError") [e.key]
                            raiseNew __do_lift
                            dictPut d e.hash e.key e.val
                          else dictPut d e.hash e.key e.val
                      else dictPut d e.hash e.key e.val)
                  let __do_lift ← dictEpoch a
                  if (__do_lift != epa) = true then do
                      unsupported "dict.changed-during-merge"
                      pure (ForInStep.yield PUnit.unit)
                    else pure (ForInStep.yield PUnit.unit)
                | x => do
                  unsupported "dict.changed-during-merge"
                  pure (ForInStep.yield PUnit.unit)) → wpAny (model PG w) A (forIn (List.range ea.size) PUnit.unit f) (fun _ s' => Q () s') E s := fun f hf => by
    subst hf
    refine key _ fun i s' e kv he hkv hoa' hD k1 k2 k3 hno Q' hQ' => ?_
    refine wpAny_bind (wpAny_dictEntries hoa' hda' ?_)
    rw [he]
    dsimp only
    have hlen : (kvs ++ kvs'.take i).length ≤ 100 := by
      rw [List.length_append]
      have := List.length_take_le i kvs'
      have h2 : (kvs'.take i).length ≤ kvs'.length := by rw [List.length_take]; omega
      omega
    have put : wpAny (model PG w) A (dictPut d e.hash e.key e.val) (fun _ s'' => wpAny (model PG w) A (do
                  let __do_lift ← dictEpoch a
                  if (__do_lift != epa) = true then do
                      unsupported "dict.changed-during-merge"
                      pure (ForInStep.yield PUnit.unit)
                    else pure (ForInStep.yield PUnit.unit)) (fun r s'' => match r with | .yield b => Q' b s'' | .done _ => False) E s'') E s' := by
      rw [k3]
      refine put_new k1 hD hno hlen fun h' hD' hs' => ?_
      refine wpAny_bind (wpAny_dictEpoch (hs'.extBut _ _ hda.symm hoa') hda' ?_)
      rw [if_neg (by simp)]
      refine wpAny_pure (hQ' h' ?_ hs')
      rw [k2] at hD'
      exact hD'
    refine wpAny_bind (wpAny_holding ?_)
    cases unique
    · exact put
    · rw [if_pos rfl]
      rw [k3] at put ⊢
      refine wpAny_bind (find_none k1 hD hno ?_)
      exact put
  by_cases he : ed.isEmpty = true
  · rw [if_pos he]
    refine wpAny_bind (wpAny_dictEntries hoa hda' ?_)
    rw [← Array.forIn_toList]
    refine wpAny_bind (wpAny_forIn_list _ (fun rest _ s' => (∀ e ∈ rest, e ∈ ea) ∧ s' = s) _ (fun e rest _ s' hI => ?_) (fun _ s' hI => ?_) _ _ ⟨fun e h => Array.mem_toList_iff.mp h, rfl⟩)
    · obtain ⟨h1, rfl⟩ := hI
      obtain ⟨k, t, e1, _⟩ := strk e (h1 e (.head _))
      rw [e1]
      exact wpAny_pure ⟨fun e' h' => h1 e' (.tail _ h'), rfl⟩
    · obtain ⟨_, rfl⟩ := hI
      refine wpAny_bind (wpAny_dictEntries hoa hda' ?_)
      refine wpAny_bind (wpAny_dictEpoch hoa hda' ?_)
      refine wpAny_bind (wpAny_mono (turn _ rfl) (fun _ _ q => wpAny_pure q) fun _ _ e => e)
  · rw [if_neg he]
    refine wpAny_bind (wpAny_dictEntries hoa hda' ?_)
    refine wpAny_bind (wpAny_dictEpoch hoa hda' ?_)
    refine wpAny_bind (wpAny_mono (turn _ rfl) (fun _ _ q => wpAny_pure q) fun _ _ e => e)
end
end Mine
end
section
open PySem PySem.W PyProof.Rows PySem.Calls PySem.Flt
open PyProof.Rows.TI (Frs SameUp)
open PyProof.Rows.LCg (lst NsObj ns_obj lst_snoc)
set_option maxRecDepth 100000
set_option maxHeartbeats 400000
namespace Mine
section
variable {w : World} {A : Around} {E : Value → Shared → Prop} {s : Shared}
theorem keywords_in {f : Value} {d : Addr} {kvs : List (Str × Value)} {Q : List (Str × Value) → Shared → Prop} (hm : s.heap.DictOf (KS w) d kvs) (h : Q kvs s) : wpAny (model PG w) A (keywordsIn f d) Q E s := by
  obtain ⟨o, es, ep, ho, hc, hd, hk, hp, hn⟩ := hm
  unfold keywordsIn
  refine wpAny_bind (wpAny_dictEntries ho hd ?_)
  rw [← Array.forIn_toList]
  refine wpAny_bind (wpAny_mono (Q := fun r s' => r = kvs ∧ s' = s) ?_ (fun r s' q => by obtain ⟨rfl, rfl⟩ := q; exact wpAny_pure h) fun _ _ e => e)
  have key : ∀ (es : List DictEntry) (rest done : List (Str × Value)), Pairs (KS w) es rest → ∀ f : DictEntry → List (Str × Value) → Sem (ForInStep (List (Str × Value))), (∀ e k t kw, e.key = .str k t → f e kw = pure (.yield (kw ++ [(k, e.val)]))) →
      wpAny (model PG w) A (forIn es done f) (fun r s' => r = done ++ rest ∧ s' = s) E s := by
    intro es rest done hp f hf
    induction hp generalizing done with
    | nil => rw [List.forIn_nil]; exact wpAny_pure ⟨by simp, rfl⟩
    | @cons e kv es kvs h1 h2 _ ih =>
      obtain ⟨t, ht⟩ := Value.isStrOf_shape (x := kv.1) h1
      rw [List.forIn_cons, hf e kv.1 t done ht]
      refine wpAny_bind (wpAny_pure ?_)
      refine wpAny_mono (ih (done ++ [(kv.1, e.val)])) (fun r s' q => ?_) fun _ _ e => e
      rw [q.1, h2, List.append_assoc]
      exact ⟨rfl, q.2⟩
  refine key es.toList kvs [] hp _ fun e k t kw he => ?_
  rw [he]
theorem merged_one {f : Value} {y : Sem Value} {Q : Addr → Shared → Prop} (h : wpAny (model PG w) A y (fun m s' => ∃ a kvs, m = .ref a ∧ s'.heap.DictOf (KS w) a kvs ∧ (a == sysModules) = false ∧ kvs.length ≤ 50 ∧ s'.heap.objs.size = s.heap.objs.size + 1 ∧ s'.heap.get? s.heap.objs.size = some { cls := .type "dict", data := .dict #[] } ∧ a ≠ s.heap.objs.size ∧
      ∀ h', h'.DictOf (KS w) s.heap.objs.size kvs → (∀ b o, b ≠ s.heap.objs.size → s'.heap.get? b = some o → h'.get? b = some o) → Q s.heap.objs.size { s' with heap := h' }) E { s with heap := s.heap.push { cls := .type "dict", data := .dict #[] } }) :
    wpAny (model PG w) A (mergedKeywords f [(none, y)]) Q E s := by
  unfold mergedKeywords
  refine wpAny_bind (wpAny_alloc ?_)
  refine wpAny_bind (wpAny_holding ?_)
  refine wpAny_bind ?_
  rw [List.forIn_cons]
  refine wpAny_bind (wpAny_bind ?_)
  refine wpAny_pure ?_
  refine wpAny_bind ?_
  refine wpAny_mono h (fun m s' q => ?_) fun _ _ e => e
  obtain ⟨a, kvs, rfl, hD, hsm, hsz, z1, z2, hne, hQ⟩ := q
  have hD0 : s'.heap.DictOf (KS w) s.heap.objs.size [] := ⟨_, #[], 0, z2, ⟨rfl, rfl, rfl⟩, rfl, fun _ he => by simp at he, .nil, by simp⟩
  obtain ⟨_, _, _, _, _, _, _, _, hnd⟩ := id hD
  refine wpAny_bind (wpAny_onRaise (wpAny_holding (wpAny_tryCatch (wpAny_onRaise (merge_dict hne.symm hsm hD0 hD (by simpa using hnd) (by simp; omega) fun h' hD' hk' => ?_)))))
  refine wpAny_pure ?_
  refine wpAny_pure ?_
  refine wpAny_pure ?_
  refine wpAny_pure ?_
  exact hQ h' (by simpa using hD') hk'
/-- f(x, **d): the arguments -/
theorem c_evalArgs_kw {f : Value} {x : Sem Value} {rest : List (Bool × Sem Value)} {y : Sem Value} {Q : Args → Shared → Prop}
    (h : wpC (model PG w) A (spliced ((false, x) :: rest)) (fun vs s₁ => wpAny (model PG w) A y (fun m s' => ∃ a kvs, m = .ref a ∧ s'.heap.DictOf (KS w) a kvs ∧ (a == sysModules) = false ∧ kvs.length ≤ 50 ∧ s'.heap.objs.size = s₁.heap.objs.size + 1 ∧ s'.heap.get? s₁.heap.objs.size = some { cls := .type "dict", data := .dict #[] } ∧ a ≠ s₁.heap.objs.size ∧
      ∀ h', (∀ b o, b ≠ s₁.heap.objs.size → s'.heap.get? b = some o → h'.get? b = some o) → Q ⟨vs, kvs⟩ { s' with heap := h' }) NE { s₁ with heap := s₁.heap.push { cls := .type "dict", data := .dict #[] } }) NE s) :
    wpC (model PG w) A (evalArgs f true ((false, x) :: rest) [(none, y)]) Q NE s := by
  unfold evalArgs
  show wpC _ A (spliced ((false, x) :: rest) >>= _) Q NE s
  refine wpC_bind (wpC_mono h (fun vs s₁ h₁ => ?_) fun _ _ x => x)
  refine wpC_holding ?_
  refine wpC_leaf (merged_one (wpAny_mono h₁ (fun m s' q => ?_) fun _ _ e => e))
  obtain ⟨a, kvs, rfl, hD, hsm, hsz, z1, z2, hne, hQ⟩ := q
  refine ⟨a, kvs, rfl, hD, hsm, hsz, z1, z2, hne, fun h' hD' hk' => ?_⟩
  refine wpC_bind (wpC_pure ?_)
  exact wpC_leaf (wpAny_holding (keywords_in hD' (wpC_pure (hQ h' hk'))))
end
end Mine
end
section
open PySem PySem.W PyProof.Rows PySem.Calls PySem.Flt
open PyProof.Rows.TI (Frs SameUp)
open PyProof.Rows.LCg (lst NsObj ns_obj lst_snoc)
set_option maxRecDepth 100000
set_option maxHeartbeats 400000
namespace Mine
/-- the state in the law's frame -/
structure LSt (g : Heap) (L : Addr) (m : Str → Option Value) (ps : Array Value) (led : List (Addr × Obj)) (s : Shared) : Prop where
  Z : At g [] [] L m ((16, tabObj ps) :: led) s.heap
  lg : Lg ps led
  tk : 0 < s.toks
/-- an expression of the law -/
def LE (w : World) (A : Around) (g : Heap) (L : Addr) (m : Str → Option Value) (led₀ : List (Addr × Obj)) (env : Env) (e : Expr) (t : T) : Prop :=
  ∀ (ps : Array Value) (led : List (Addr × Obj)) (s : Shared) (Q : Value → Shared → Prop), (∀ q ∈ led₀, q ∈ led) → LSt g L m ps led s →
    (∀ r h' tk' ps' led', LSt g L m ps' led' { s with heap := h', toks := tk' } → (∀ q ∈ led, q ∈ led') → Rep led' r t → Q r { s with heap := h', toks := tk' }) → wpC (model PG w) A (eval e env) Q NE s
/-- a test of the law -/
def LB (w : World) (A : Around) (g : Heap) (L : Addr) (m : Str → Option Value) (led₀ : List (Addr × Obj)) (env : Env) (e : Expr) (b : Bool) : Prop :=
  ∀ (ps : Array Value) (led : List (Addr × Obj)) (s : Shared) (Q : Bool → Shared → Prop), (∀ q ∈ led₀, q ∈ led) → LSt g L m ps led s →
    (∀ h' tk' ps' led', LSt g L m ps' led' { s with heap := h', toks := tk' } → (∀ q ∈ led, q ∈ led') → Q b { s with heap := h', toks := tk' }) → wpC (model PG w) A (isTrue e env (eval e env)) Q NE s
section
variable {w : World} {A : Around} {g : Heap} {L : Addr} {m : Str → Option Value} {led₀ led : List (Addr × Obj)} {env : Env} {e e1 e2 : Expr} {t t1 t2 : T}
theorem LE.mono {led₁ : List (Addr × Obj)} (x : LE w A g L m led₀ env e t) (h : ∀ q ∈ led₀, q ∈ led₁) : LE w A g L m led₁ env e t := fun ps led s Q hs Z k => x ps led s Q (fun q hq => hs q (h q hq)) Z k
/-- what changes tokens alone -/
theorem LE.leaf {v : Value} (h : ∀ (s : Shared) (ps : Array Value) (led : List (Addr × Obj)) (Q : Value → Shared → Prop), LSt g L m ps led s → (∀ q ∈ led₀, q ∈ led) → (∀ tk, s.toks ≤ tk → Q v { s with toks := tk }) → wpAny (model PG w) A (eval e env) Q NE s) (hv : Rep led₀ v t) : LE w A g L m led₀ env e t :=
  fun ps led s Q hs Z k => .any (h s ps led Q Z hs fun tk htk => k v s.heap tk ps led ⟨Z.Z, Z.lg, Nat.lt_of_lt_of_le Z.tk htk⟩ (fun _ x => x) (hv.mono hs))
theorem LE.name {x : Str} {p : Pos} {v : Value} (hL : env.locals = L) (hk : env.scope.kind = .function) (hx : env.kindOf x = some .local) (hm : m x = some v) (hv : Rep led₀ v t) (hd : (x == ("__debug__" : Str)) = false := by decide) : LE w A g L m led₀ env (.Name x p) t := by
  subst hL
  exact LE.leaf (fun s ps led Q Z _ k => n_local Z.Z.F.ns hm (k _ (Nat.le_refl _)) hk hx hd) hv
theorem LE.cint {i : Int} {k : Nat} {p : Pos} : LE w A g L m led₀ env (.Constant (.int i) k p) (.int i) := fun ps led s Q hs Z k =>
  .any (wpAny_Constant_int (k _ s.heap _ ps led ⟨Z.Z, Z.lg, Nat.succ_pos _⟩ (fun _ x => x) (.int i _)))
theorem LE.cbytes {b : List UInt8} {k : Nat} {p : Pos} : LE w A g L m led₀ env (.Constant (.bytes b) k p) (.by b.toArray) := fun ps led s Q hs Z k =>
  .any (Constant_bytes (k _ s.heap _ ps led ⟨Z.Z, Z.lg, Nat.succ_pos _⟩ (fun _ x => x) (.by _ _)))
theorem LE.non {k : Nat} {p : Pos} : LE w A g L m led₀ env (.Constant .none k p) .none := fun ps led s Q hs Z k =>
  .any (Constant_none (k _ s.heap _ ps led ⟨Z.Z, Z.lg, Z.tk⟩ (fun _ x => x) .none))
/-- several -/
inductive LEs (w : World) (A : Around) (g : Heap) (L : Addr) (m : Str → Option Value) (led₀ : List (Addr × Obj)) (env : Env) : List Expr → List T → Prop
  | nil : LEs w A g L m led₀ env [] []
  | cons {e : Expr} {es : List Expr} {t : T} {ts : List T} : LE w A g L m led₀ env e t → LEs w A g L m led₀ env es ts → LEs w A g L m led₀ env (e :: es) (t :: ts)
theorem LEs.run {es : List Expr} {ts : List T} (x : LEs w A g L m led₀ env es ts) : ∀ (ps : Array Value) (led : List (Addr × Obj)) (s : Shared) (Q : List Value → Shared → Prop), (∀ q ∈ led₀, q ∈ led) → LSt g L m ps led s →
    (∀ rs h' tk' ps' led', LSt g L m ps' led' { s with heap := h', toks := tk' } → (∀ q ∈ led, q ∈ led') → Reps led' rs ts → Q rs { s with heap := h', toks := tk' }) → wpC (model PG w) A (spliced (es.map fun e => (false, eval e env))) Q NE s := by
  induction x with
  | nil => exact fun ps led s Q hs Z k => c_spliced_nil (k [] s.heap s.toks ps led Z (fun _ x => x) .nil)
  | cons h _ ih =>
    intro ps led s Q hs Z k
    refine c_spliced_cons (h ps led s _ hs Z fun r h₁ tk₁ ps₁ led₁ Z₁ s₁ R₁ => ?_)
    exact ih ps₁ led₁ { s with heap := h₁, toks := tk₁ } _ (fun q hq => s₁ q (hs q hq)) Z₁ fun rs h₂ tk₂ ps₂ led₂ Z₂ s₂ R₂ => k _ h₂ tk₂ ps₂ led₂ Z₂ (fun q hq => s₂ q (s₁ q hq)) (.cons (R₁.mono s₂) R₂)
theorem LSt.push {ps : Array Value} {s : Shared} (Z : LSt g L m ps led s) (o : Obj) (hf : o.isFreed = false := by rfl) : LSt g L m ps ((s.heap.objs.size, o) :: led) { s with heap := s.heap.push o } :=
  ⟨(Z.Z.push o hf).perm fun q hq => by
    rcases List.mem_cons.mp hq with rfl | hq
    · exact .tail _ (.head _)
    · rcases List.mem_cons.mp hq with rfl | hq
      · exact .head _
      · exact .tail _ (.tail _ hq), Lg.more (E := [(_, o)]) Z.lg fun q hq => by
    rw [List.mem_singleton.mp hq]
    exact Nat.ne_of_gt (Heap.lt_size (Z.Z.toks _ (.head _))), Z.tk⟩
theorem LE.list {es : List Expr} {ts : List T} {p : Pos} (x : LEs w A g L m led₀ env es ts) (hsz : ts.length ≤ 10 := by simp only [List.length_cons, List.length_nil]; decide) (hse : backTo p (starEach es env) = es.map fun e => (false, eval e env) := by rfl) : LE w A g L m led₀ env (.List es p) (.lst ts) := fun ps led s Q hs Z k => by
  refine c_List ?_
  rw [hse]
  refine x.run ps led s _ hs Z fun rs h₁ tk₁ ps₁ led₁ Z₁ s₁ R₁ => ?_
  refine wpAny_newObj_type ?_ (by show rs.toArray.size ≤ _; rw [List.size_toArray, R₁.length]; exact Nat.le_trans hsz (by rw [sizeLine_eq]; decide))
  exact k _ _ tk₁ ps₁ _ (Z₁.push _) (fun q hq => .tail _ (s₁ q hq)) (.lst (vs := rs) (.head _) rfl rfl (R₁.mono fun _ x => .tail _ x))
theorem LE.tuple {es : List Expr} {ts : List T} {x0} {p : Pos} (x : LEs w A g L m led₀ env es ts) (hsz : ts.length ≤ 10 := by simp only [List.length_cons, List.length_nil]; decide) (hse : backTo p (starEach es env) = es.map fun e => (false, eval e env) := by rfl) : LE w A g L m led₀ env (.Tuple es x0 p) (.tup ts) := fun ps led s Q hs Z k => by
  refine c_Tuple ?_
  rw [hse]
  refine x.run ps led s _ hs Z fun rs h₁ tk₁ ps₁ led₁ Z₁ s₁ R₁ => ?_
  refine wpAny_newObj_type ?_ (by show rs.toArray.size ≤ _; rw [List.size_toArray, R₁.length]; exact Nat.le_trans hsz (by rw [sizeLine_eq]; decide))
  exact k _ _ tk₁ ps₁ _ (Z₁.push _) (fun q hq => .tail _ (s₁ q hq)) (.tup (vs := rs) (.head _) rfl rfl (R₁.mono fun _ x => .tail _ x))
/-- tests -/
theorem LB.or {p : Pos} (h1 : LB w A g L m led₀ env e1 false) (h2 : LB w A g L m led₀ env e2 false) : LB w A g L m led₀ env (.BoolOp .Or [e1, e2] p) false := fun ps led s Q hs Z k => by
  refine c_isTrue_Or1 (h1 ps led s _ hs Z fun h₁ tk₁ ps₁ led₁ Z₁ s₁ => ?_)
  rw [if_neg Bool.false_ne_true]
  refine c_allTrue_Or (h2 ps₁ led₁ _ _ (fun q hq => s₁ q (hs q hq)) Z₁ fun h₂ tk₂ ps₂ led₂ Z₂ s₂ => ?_)
  rw [if_neg Bool.false_ne_true]
  exact c_allTrue_nil (k h₂ tk₂ ps₂ led₂ Z₂ fun q hq => s₂ q (s₁ q hq))
end
theorem seqIndex_nat {i n : Nat} (h : i < n) : seqIndex? ((i : Nat) : Int) n = some i := by
  unfold seqIndex?
  have h1 : ¬ ((i : Nat) : Int) < 0 := by omega
  have h2 : ((i : Nat) : Int) < (n : Int) := by omega
  simp [h1, h2]
section
variable {w : World} {p : Program} {loose : List Str} {mean : ExcName → Option Value} {mg mb : Str → Option Value} {dp un : Nat} {gd : Option (List Code)} {A : Around} {g : Heap} {L : Addr} {m : Str → Option Value} {led₀ led : List (Addr × Obj)} {env : Env} {e e1 e2 : Expr} {t t1 t2 : T}
theorem LSt.booked (G : Gd w p loose mean mg mb g) {ps : Array Value} {s : Shared} (Z : LSt g L m ps led s) : NoneBooked s.heap := NoneBooked.keeps G.booked Z.Z.F.keep
theorem rep_ne_any {s : Shared} {v v' : Value} {Q : Value → Shared → Prop} (hb : NoneBooked s.heap) (hs : ∀ p ∈ led, s.heap.get? p.1 = some p.2) (r : Rep led v t) (r' : Rep led v' t) (hu : A.units + t.deep + 1 < cLine) (ht : (∃ ts, t = .lst ts) ∨ (∃ ts, t = .tup ts) ∨ ∃ i, t = .int i) (h : Q (.bool false) s) : wpAny (model PG w) A (compareOp .NotEq v v') Q NE s := by
  rcases ht with ⟨ts, rfl⟩ | ⟨ts, rfl⟩ | ⟨i, rfl⟩
  · exact rep_ne_lst hb hs r r' (by simp only [T.deep] at hu; omega) h
  · exact rep_ne_tup hb hs r r' (by simp only [T.deep] at hu; omega) h
  · cases r; cases r'
    refine P.ne_int ?_
    rw [bne_self_eq_false]
    exact h
/-- e1 != e2 of equal data -/
theorem LB.ne {pos : Pos} (G : Gd w p loose mean mg mb g) (h1 : LE w A g L m led₀ env e1 t) (h2 : LE w A g L m led₀ env e2 t) (hu : A.units + 20 < cLine) (hdp : t.deep ≤ 10) (ht : (∃ ts, t = .lst ts) ∨ (∃ ts, t = .tup ts) ∨ ∃ i, t = .int i)
    (hm : behindInMarks .NotEq e2 = false := by with_unfolding_all rfl) : LB w A g L m led₀ env (.Compare e1 [.NotEq] [e2] pos) false := fun ps led s Q hs Z k => by
  refine c_isTrue_Compare1 ?_ hm
  refine h1 ps led s _ hs Z fun v h₁ tk₁ ps₁ led₁ Z₁ s₁ R₁ => ?_
  refine h2 ps₁ led₁ _ _ (fun q hq => s₁ q (hs q hq)) Z₁ fun v' h₂ tk₂ ps₂ led₂ Z₂ s₂ R₂ => ?_
  refine rep_ne_any (led := led₂) (Z₂.booked G) (fun q hq => Z₂.Z.toks q (.tail _ hq)) (R₁.mono s₂) R₂ (by omega) ht ?_
  refine wpAny_truthy_bool ?_
  exact k h₂ tk₂ ps₂ led₂ Z₂ fun q hq => s₂ q (s₁ q hq)
theorem c_Subscript {value slice : Expr} {pos : Pos} {s : Shared} {Q : Value → Shared → Prop}
    (h : wpC (model PG w) A (eval value env) (fun o s₁ => wpC (model PG w) A (eval slice env) (fun i s₂ => wpAny (model PG w) A (subscriptTail value slice o i) Q NE s₂) NE s₁) NE s) :
    wpC (model PG w) A (eval (.Subscript value slice pos) env) Q NE s := by
  rw [eval_Subscript]
  exact wpC_bind (wpC_mono h (fun o s₁ h₁ => wpC_bind (wpC_holding (wpC_mono h₁ (fun i s₂ h₂ => wpC_leaf (wpAny_standAt (.any h₂))) fun _ _ x => x))) fun _ _ x => x)
theorem item_listX {s : Shared} {value slice : Expr} {a : Addr} {l : List Value} {k : Int} {u : Tok} {x : Value} {Q : Value → Shared → Prop} (ht : s.heap.IsList a l.toArray)
    (hlo : 0 ≤ k) (hhi : k < 2 ^ 63) (hx : l[k.toNat]? = some x) (hs : ∀ t k u, subscripted slice false (.ref t) (.int k u) = operate [.ref t, .int k u] (getItem (.ref t) (.int k u))) (h : Q x s) :
    wpAny (model PG w) A (subscriptTail value slice (.ref a) (.int k u)) Q NE s := by
  unfold subscriptTail
  refine wpAny_bind ?_
  rw [getitemInPython_of_ne ht.typeIs.not_modules]
  refine wpAny_bind (wpAny_specialOf ht.typeIs slot_list_getitem.lookup ?_)
  have fin : wpAny (model PG w) A (subscripted slice false (.ref a) (.int k u)) (fun r s₃ => wpAny (model PG w) A (letTemporaryGo value (.ref a) r >>= fun _ => pure r) Q NE s₃) NE s := by
    rw [hs]
    exact wpAny_operating (wpAny_mono (wpAny_getItem_list ht hlo hhi (by simpa using hx) h) (fun r s₃ h₃ => wpAny_bind (wpAny_letTemporaryGo (wpAny_pure h₃))) fun _ _ x => x)
  first
    | exact wpAny_pure (wpAny_bind fin)
    | exact wpAny_bind (wpAny_pure (wpAny_bind fin))
    | exact wpAny_bind fin
/-- an item of a list or a tuple -/
theorem LE.item {ts : List T} {i : Nat} {pos : Pos} (h1 : LE w A g L m led₀ env e1 t1) (ht : t1 = .lst ts ∨ t1 = .tup ts) (h2 : LE w A g L m led₀ env e2 (.int i)) (hi : ts[i]? = some t) (hb : i ≤ 1000)
    (hs : ∀ t k u, subscripted e2 false (.ref t) (.int k u) = operate [.ref t, .int k u] (getItem (.ref t) (.int k u)) := by intro _ _ _; with_unfolding_all rfl) : LE w A g L m led₀ env (.Subscript e1 e2 pos) t := fun ps led s Q hs' Z k => by
  refine c_Subscript ?_
  refine h1 ps led s _ hs' Z fun v h₁ tk₁ ps₁ led₁ Z₁ s₁ R₁ => ?_
  refine h2 ps₁ led₁ _ _ (fun q hq => s₁ q (hs' q hq)) Z₁ fun v' h₂ tk₂ ps₂ led₂ Z₂ s₂ R₂ => ?_
  cases R₂
  have hi' : i < ts.length := by
    rcases Nat.lt_or_ge i ts.length with h | h
    · exact h
    · rw [List.getElem?_eq_none h] at hi; cases hi
  have R₁' := R₁.mono s₂
  rcases ht with rfl | rfl
  · cases R₁' with
    | @lst a o vs n _ hm hc hd hr =>
      have hl := hr.length
      have r := hr.get i (by omega) hi'
      rw [List.getElem?_eq_getElem hi'] at hi
      rw [Option.some.inj hi] at r
      refine item_listX (l := vs) ⟨o, Z₂.Z.toks _ (.tail _ hm), hc, n, hd⟩ (by omega) (by omega) (List.getElem?_eq_getElem (by simpa using (by omega : i < vs.length))) hs ?_
      exact k _ h₂ tk₂ ps₂ led₂ Z₂ (fun q hq => s₂ q (s₁ q hq)) (by simpa using r)
  · cases R₁' with
    | @tup a o vs n _ hm hc hd hr =>
      have hl := hr.length
      have r := hr.get i (by omega) hi'
      rw [List.getElem?_eq_getElem hi'] at hi
      rw [Option.some.inj hi] at r
      refine item_tupleX (l := vs) (j := i) ⟨o, Z₂.Z.toks _ (.tail _ hm), hc, n, hd⟩ (by omega) (by omega) (seqIndex_nat (by omega)) (List.getElem?_eq_getElem (by omega)) hs ?_
      exact k _ h₂ tk₂ ps₂ led₂ Z₂ (fun q hq => s₂ q (s₁ q hq)) r
theorem fn_frame {a : Addr} (h : ((hd.heap_39 w.params).lookup a).map (fun o => match o.data with | .func _ => true | _ => false) = some true) {h' : Heap} (X : (hd.heap_39 w.params).In h') : Looks (model PG w) h' (keeperOf (.ref a)) .frame := by
  cases q : (hd.heap_39 w.params).lookup a with
  | none => rw [q] at h; cases h
  | some o =>
    rw [q] at h
    obtain ⟨oc, od, dt, sl⟩ := o
    cases dt with
    | func fd => exact keeper_fn (X _ _ q) rfl
    | _ => cases (Option.some.inj h)
/-- what a def of the text gives -/
def FC (w : World) (p : Program) (loose : List Str) (mean : ExcName → Option Value) (mg mb : Str → Option Value) (led₀ : List (Addr × Obj)) (fa : Addr) (kw : List (Str × Value)) (t t' : T) : Prop :=
  ∀ (ps : Array Value) (led : List (Addr × Obj)) (v : Value), (∀ q ∈ led₀, q ∈ led) → Lg ps led → Rep led v t → Ct false w p loose mean mg mb (.ref fa) [v] kw 5 ((16, tabObj ps) :: led) (PostG led fun r l => Rep l r t')
theorem FC.run {fa : Addr} {kw : List (Str × Value)} (x : FC w p loose mean mg mb led₀ fa kw t t2) (G : Gd w p loose mean mg mb g) (he : env.frame = some L) (hk : env.scope.kind = .function) (hdp : dp + 5 < recursionLimit) (hu : un + 100 < cLine)
    {ps : Array Value} {v : Value} {s : Shared} {Q : Value → Shared → Prop} (hs : ∀ q ∈ led₀, q ∈ led) (Z : LSt g L m ps led s) (R : Rep led v t)
    (k : ∀ r h' tk' ps' led', LSt g L m ps' led' { s with heap := h', toks := tk' } → (∀ q ∈ led, q ∈ led') → Rep led' r t2 → Q r { s with heap := h', toks := tk' }) : wpC (model PG w) (aT none dp un gd [env]) (call (.ref fa) [v] kw) Q NE s := by
  refine x ps led v hs Z.lg R none dp un gd env [] [] g L m s _ _ (.inr rfl) G Z.Z he hk hdp hu Z.tk fun r led' h' tk' frs' S' Z' P t' => ?_
  obtain ⟨ps', led₂, rfl, hl, hsub, hR⟩ := P
  have : frs' = [] := by cases frs' with | nil => rfl | cons _ _ => exact False.elim S'
  subst this
  exact k r h' tk' ps' led₂ ⟨Z', hl, t'⟩ hsub hR
/-- f(e) -/
theorem LE.call {fname : Str} {fa : Addr} {pf pos : Pos} (G : Gd w p loose mean mg mb g) (he : env.frame = some L) (hL : env.locals = L) (hgl : env.globals = mainGlobals) (hk : env.scope.kind = .function) (hdp : dp + 5 < recursionLimit) (hu : un + 100 < cLine)
    (hn : nsIn (hd.heap_39 w.params) mainGlobals fname = some (some (.ref fa))) (hf : ((hd.heap_39 w.params).lookup fa).map (fun o => match o.data with | .func _ => true | _ => false) = some true) (kf : env.kindOf fname = some .globalImplicit) (hdf : (fname == ("__debug__" : Str)) = false)
    (x : FC w p loose mean mg mb led₀ fa [] t t2) (h1 : LE w (aT none dp un gd [env]) g L m led₀ env e t) (hse : starEach [e] env = [(false, eval e env)] := by rfl) :
    LE w (aT none dp un gd [env]) g L m led₀ env (.Call (.Name fname pf) [e] [] pos) t2 := fun ps led s Q hs Z k => by
  subst hL
  refine c_Call1 (nG Z.Z.F G.X (topRead_of G.T) hn ?_ hgl hk kf hdf) hse rfl
  refine c_spliced_cons (h1 ps led s _ hs Z fun v h₁ tk₁ ps₁ led₁ Z₁ s₁ R₁ => ?_)
  refine c_spliced_nil ⟨⟨.frame, .inl rfl, fn_frame hf (G.X.keeps Z₁.Z.F.keep)⟩, ?_⟩
  exact x.run G he hk hdp hu (fun q hq => s₁ q (hs q hq)) Z₁ R₁ fun r h₂ tk₂ ps₂ led₂ Z₂ s₂ R₂ => k r h₂ tk₂ ps₂ led₂ Z₂ (fun q hq => s₂ q (s₁ q hq)) R₂
/-- a dict of options at hand -/
structure KwAt (w : World) (m : Str → Option Value) (led₀ : List (Addr × Obj)) (kn : Str) (kw : List (Str × Value)) : Prop where
  of : ∃ D o, m kn = some (.ref D) ∧ (D, o) ∈ led₀ ∧ o.IsDictOf (KS w) kw ∧ (D == sysModules) = false ∧ kw.length ≤ 50
/-- f(e, **kw) -/
theorem LE.callKw {fname kn : Str} {fa : Addr} {pf pos pk kp : Pos} {kw : List (Str × Value)} (G : Gd w p loose mean mg mb g) (he : env.frame = some L) (hL : env.locals = L) (hgl : env.globals = mainGlobals) (hk : env.scope.kind = .function) (hdp : dp + 5 < recursionLimit) (hu : un + 100 < cLine)
    (hn : nsIn (hd.heap_39 w.params) mainGlobals fname = some (some (.ref fa))) (hf : ((hd.heap_39 w.params).lookup fa).map (fun o => match o.data with | .func _ => true | _ => false) = some true) (kf : env.kindOf fname = some .globalImplicit) (hdf : (fname == ("__debug__" : Str)) = false) (kk : env.kindOf kn = some .local) (hdk : (kn == ("__debug__" : Str)) = false)
    (K : KwAt w m led₀ kn kw) (x : FC w p loose mean mg mb led₀ fa kw t t2) (h1 : LE w (aT none dp un gd [env]) g L m led₀ env e t) (hse : starEach [e] env = [(false, eval e env)] := by rfl) :
    LE w (aT none dp un gd [env]) g L m led₀ env (.Call (.Name fname pf) [e] [⟨none, .Name kn pk, kp⟩] pos) t2 := fun ps led s Q hs Z k => by
  subst hL
  obtain ⟨D, o, k1, k2, k3, k4, k5⟩ := K.of
  refine c_Call (nG Z.Z.F G.X (topRead_of G.T) hn ?_ hgl hk kf hdf)
  rw [hse]
  refine c_callWith ?_
  refine c_evalArgs_kw (rest := []) (y := do let v ← eval (.Name kn pk) env; standAt pos; pure v) ?_
  refine c_spliced_cons (h1 ps led s _ hs Z fun v h₁ tk₁ ps₁ led₁ Z₁ s₁ R₁ => ?_)
  refine c_spliced_nil ?_
  have gD : h₁.get? D = some o := Z₁.Z.toks _ (.tail _ (s₁ _ (hs _ k2)))
  have Zp := Z₁.Z.push { cls := .type "dict", data := .dict #[] }
  refine wpAny_bind (n_local Zp.F.ns k1 (wpAny_bind (wpAny_standAt (wpAny_pure ?_))) hk kk hdk)
  refine ⟨D, kw, rfl, Heap.dictOf_iff.mpr ⟨o, Heap.get?_push_of_some _ gD, k3⟩, k4, k5, Heap.size_push .., Heap.get?_push_size _ rfl, Nat.ne_of_lt (Heap.lt_size gD), fun h' hk' => ?_⟩
  have up : ∀ b o, h₁.get? b = some o → h'.get? b = some o := fun b o e => hk' b o (Nat.ne_of_lt (Heap.lt_size e)) (Heap.get?_push_of_some _ e)
  have Z₂ : LSt g env.locals m ps₁ led₁ { s with heap := h', toks := tk₁ } := ⟨Z₁.Z.keeps up, Z₁.lg, Z₁.tk⟩
  refine ⟨⟨.frame, .inl rfl, fn_frame hf (G.X.keeps Z₂.Z.F.keep)⟩, ?_⟩
  exact x.run G he hk hdp hu (fun q hq => s₁ q (hs q hq)) Z₂ R₁ fun r h₂ tk₂ ps₂ led₂ Z₃ s₂ R₂ => k r h₂ tk₂ ps₂ led₂ Z₃ (fun q hq => s₂ q (s₁ q hq)) R₂
end
end Mine
end
section
open PySem PySem.W PyProof.Rows PySem.Calls PySem.Flt
open PyProof.Rows.TI (Frs SameUp)
open PyProof.Rows.LCg (lst NsObj ns_obj lst_snoc)
set_option maxRecDepth 100000
set_option maxHeartbeats 400000
namespace Mine
def askK : Nat → List (Str × Value)
  | 0 => []
  | 1 => [(scn, .type "int")]
  | 2 => [(scn, .ref 156)]
  | _ => [(scn, .ref 163)]
def askW (way : Nat) : List (Str × Value) := askK way ++ [(("withscores" : Str), Value.bool true)]
def askR (way : Nat) : List (Str × Value) := askK way ++ [(("withscore" : Str), Value.bool true)]
theorem way4 {way : Nat} (h : way ≤ 3) : way = 0 ∨ way = 1 ∨ way = 2 ∨ way = 3 := by omega
theorem nd_of {l : List Str} (h : l.Nodup) {kw : List (Str × Value)} (e : kw.map (·.1) = l) : (kw.map (·.1)).Nodup := e ▸ h
theorem askK_ok {way : Nat} (h : way ≤ 3) : Asked (askK way) way := by
  rcases way4 h with rfl | rfl | rfl | rfl
  · exact ⟨by decide, rfl, .nil, fun x hx => absurd hx List.not_mem_nil, by decide⟩
  all_goals exact ⟨by decide, rfl, nd_of (l := [scn]) (by decide) rfl, fun x hx => by rw [List.mem_singleton.mp hx]; exact by decide, by decide⟩
theorem askW_ok {way : Nat} (h : way ≤ 3) : Asked (askW way) way := by
  rcases way4 h with rfl | rfl | rfl | rfl
  · exact ⟨by decide, rfl, nd_of (l := ["withscores"]) (by decide) rfl, fun x hx => by rw [List.mem_singleton.mp hx]; exact by decide, by decide⟩
  all_goals exact ⟨by decide, rfl, nd_of (l := [scn, "withscores"]) (by decide) rfl, fun x hx => by
    rcases List.mem_cons.mp hx with rfl | hx
    · exact by decide
    · rw [List.mem_singleton.mp hx]; exact by decide, by decide⟩
theorem askR_ok {way : Nat} (h : way ≤ 3) : Asked (askR way) way := by
  rcases way4 h with rfl | rfl | rfl | rfl
  · exact ⟨by decide, rfl, nd_of (l := ["withscore"]) (by decide) rfl, fun x hx => by rw [List.mem_singleton.mp hx]; exact by decide, by decide⟩
  all_goals exact ⟨by decide, rfl, nd_of (l := [scn, "withscore"]) (by decide) rfl, fun x hx => by
    rcases List.mem_cons.mp hx with rfl | hx
    · exact by decide
    · rw [List.mem_singleton.mp hx]; exact by decide, by decide⟩
theorem askW_with {way : Nat} (h : way ≤ 3) : valueAt (askW way) ("withscores" : Str) = some (.bool true) := by
  rcases way4 h with rfl | rfl | rfl | rfl <;> rfl
theorem askR_with {way : Nat} (h : way ≤ 3) : valueAt (askR way) ("withscore" : Str) = some (.bool true) := by
  rcases way4 h with rfl | rfl | rfl | rfl <;> rfl
theorem askK_no {way : Nat} (h : way ≤ 3) : valueAt (askK way) ("withscores" : Str) = none := by
  rcases way4 h with rfl | rfl | rfl | rfl <;> rfl
theorem askK_no1 {way : Nat} (h : way ≤ 3) : valueAt (askK way) ("withscore" : Str) = none := by
  rcases way4 h with rfl | rfl | rfl | rfl <;> rfl
section
variable {w : World} {p : Program} {loose : List Str} {mean : ExcName → Option Value} {mg mb : Str → Option Value} {led₀ : List (Addr × Obj)} {way n : Nat} {t1 : Nat → T} {q : Nat → Int}
abbrev flatT (n : Nat) (t1 : Nat → T) (q : Nat → Int) : T := .lst ((List.range n).flatMap fun i => [t1 i, .by (Wt (q i))])
abbrev pairsT (n : Nat) (t1 : Nat → T) (q : Nat → Int) : T := .lst ((List.range n).map fun i => .lst [t1 i, .flt (F4 (q i))])
abbrev writT (n : Nat) (t1 : Nat → T) (q : Nat → Int) : T := .lst ((List.range n).map fun i => .lst [t1 i, .by (Wt (q i))])
abbrev eldsT (way n : Nat) (t1 : Nat → T) (q : Nat → Int) : T := .lst ((List.range n).map fun i => .tup [t1 i, eldT way (q i)])
abbrev newsT (way n : Nat) (t1 : Nat → T) (q : Nat → Int) : T := .lst ((List.range n).map fun i => .lst [t1 i, newT way (q i)])
theorem fc28 (hw : way ≤ 3) (hn : n ≤ 1000) (hq : ∀ i, Qok (q i)) : FC w p loose mean mg mb led₀ 28 (askW way) (flatT n t1 q) (eldsT way n t1 q) := fun ps led v _ hl R => pairs_ct hn hq hl R (askW_ok hw) (askW_with hw)
theorem fc66 (hw : way ≤ 3) (hn : n ≤ 1000) (hq : ∀ i, Qok (q i)) : FC w p loose mean mg mb led₀ 66 (askW way) (pairsT n t1 q) (eldsT way n t1 q) := fun ps led v _ hl R => pairs_legacy_ct hn hq hl R (askW_ok hw) (askW_with hw)
theorem fc85 (hw : way ≤ 3) (hn : n ≤ 1000) (hq : ∀ i, Qok (q i)) : FC w p loose mean mg mb led₀ 85 (askW way) (flatT n t1 q) (newsT way n t1 q) := fun ps led v _ hl R => pairs_unified_ct hn hq hl R (askW_ok hw) (askW_with hw)
theorem fc47 (hw : way ≤ 3) (hn : n ≤ 1000) (hq : ∀ i, Qok (q i)) : FC w p loose mean mg mb led₀ 47 (askW way) (pairsT n t1 q) (newsT way n t1 q) := fun ps led v _ hl R => pairs_resp3_ct hn hq hl R (askW_ok hw) (askW_with hw)
theorem fc73 (hw : way ≤ 3) (hn : n ≤ 1000) (hq : ∀ i, Qok (q i)) : FC w p loose mean mg mb led₀ 73 (askW way) (pairsT n t1 q) (flatT n t1 q) := fun ps led v _ hl R => flat_ct hn hq hl R (askW_ok hw) (askW_with hw)
theorem fc35 (hw : way ≤ 3) (hn : n ≤ 1000) (hq : ∀ i, Qok (q i)) : FC w p loose mean mg mb led₀ 35 (askK way) (flatT n t1 q) (eldsT way n t1 q) := fun ps led v _ hl R => zpop_ct hn hq hl R (askK_ok hw)
theorem fc107 (hw : way ≤ 3) (hn : n ≤ 1000) (hq : ∀ i, Qok (q i)) : FC w p loose mean mg mb led₀ 107 (askK way) (pairsT n t1 q) (eldsT way n t1 q) := fun ps led v _ hl R => zpop_legacy_ct hn hq hl R (askK_ok hw)
theorem fc97 (hw : way ≤ 3) (hn : n ≤ 1000) (hq : ∀ i, Qok (q i)) : FC w p loose mean mg mb led₀ 97 (askK way) (flatT n t1 q) (newsT way n t1 q) := fun ps led v _ hl R => zpop_unified_ct hn hq hl R (askK_ok hw)
theorem fc102 (hw : way ≤ 3) (hn : n ≤ 1000) (hq : ∀ i, Qok (q i)) : FC w p loose mean mg mb led₀ 102 (askK way) (pairsT n t1 q) (newsT way n t1 q) := fun ps led v _ hl R => zpop_resp3_ct hn hq hl R (askK_ok hw)
theorem fc138 (hw : way ≤ 3) (hn : n ≤ 1000) (hq : ∀ i, Qok (q i)) : FC w p loose mean mg mb led₀ 138 (askK way) (.lst [.by (Wt 68), flatT n t1 q]) (.tup [.int 17, eldsT way n t1 q]) := fun ps led v _ hl R => zscan_ct hn hq hl R (askK_ok hw)
theorem fc143 (hw : way ≤ 3) (hn : n ≤ 1000) (hq : ∀ i, Qok (q i)) : FC w p loose mean mg mb led₀ 143 (askK way) (.lst [.by (Wt 68), flatT n t1 q]) (.tup [.int 17, newsT way n t1 q]) := fun ps led v _ hl R => zscan_unified_ct hn hq hl R (askK_ok hw)
theorem fc131 {t0 : T} (hn : n ≤ 1000) (hq : ∀ i, Qok (q i)) : FC w p loose mean mg mb led₀ 131 [] (.lst [t0, writT n t1 q]) (.lst [t0, pairsT n t1 q]) := fun ps led v _ hl R => zmpop_unified_ct hn hq hl R
theorem fc126 {t0 : T} (hn : n ≤ 1000) (hq : ∀ i, Qok (q i)) : FC w p loose mean mg mb led₀ 126 [] (.lst [t0, pairsT n t1 q]) (.lst [t0, writT n t1 q]) := fun ps led v _ hl R => zmpop_legacy_ct hn hq hl R
theorem fc148 {t t' : Nat → T} (hn : n ≤ 1000) (ht : ∀ i, i < n → (∃ q, Qok q ∧ t i = .by (Wt q) ∧ t' i = .flt (F4 q)) ∨ (t i = .none ∧ t' i = .none)) : FC w p loose mean mg mb led₀ 148 [] (.lst ((List.range n).map t)) (.lst ((List.range n).map t')) := fun ps led v _ hl R => zmscore_ct hn hl R ht
theorem fc114 {t0 ti t2 : T} {q : Int} (hq : Qok q) (hti : ti = .by (Wt q) ∨ ti = .flt (F4 q)) : FC w p loose mean mg mb led₀ 114 [] (.lst [t0, t2, ti]) (.lst [t0, t2, .flt (F4 q)]) := fun ps led v _ hl R => bzpop_unified_ct hq hl hti R
theorem fc121 {t0 ti t2 : T} {q : Int} (hq : Qok q) (hti : ti = .by (Wt q) ∨ ti = .flt (F4 q)) : FC w p loose mean mg mb led₀ 121 [] (.lst [t0, t2, ti]) (.tup [t0, t2, .flt (F4 q)]) := fun ps led v _ hl R => bzpop_legacy_ct hq hl hti R
theorem Ct.weak5 {f : Value} {pos : List Value} {kw : List (Str × Value)} {dpt : Nat} {led : List (Addr × Obj)} {Post Post' : Value → List (Addr × Obj) → Prop} (hdp : dpt ≤ 5) (h : Ct false w p loose mean mg mb f pos kw dpt led Post) (hp : ∀ r l, Post r l → Post' r l) : Ct false w p loose mean mg mb f pos kw 5 led Post' := by
  intro hh dp un gd env outer frs g L m s Q E hany G Z he hke hd hu htk hret
  exact h hh dp un gd env outer frs g L m s Q E hany G Z he hke (by omega) (by omega) htk fun r led' h' tk' frs' S Z' P t => hret r led' h' tk' frs' S Z' (hp _ _ P) t
theorem fc114n : FC w p loose mean mg mb led₀ 114 [] .none .none := fun ps led v _ hl R => by
  cases R
  refine Ct.weak5 (Nat.le_refl _) (bzpop_unified_none hl) fun r l h => ?_
  obtain ⟨ps', l', h1, h2, h3, rfl⟩ := h
  exact ⟨ps', l', h1, h2, h3, .none⟩
theorem fc107o {b0 : Array UInt8} {q : Int} (hw : way ≤ 3) (hq : Qok q) : FC w p loose mean mg mb led₀ 107 (askK way) (.lst [.by b0, .flt (F4 q)]) (.lst [.tup [.by b0, eldT way q]]) := fun ps led v _ hl R => by
  obtain ⟨a, w0, w1, rfl, h2, r0, r1⟩ := rep_two R
  obtain ⟨u0, rfl⟩ := rep_by r0
  obtain ⟨u, hu, rfl⟩ := rep_flt r1
  exact zpop_legacy_one hq hu hl h2 (askK_ok hw)
theorem fc102o {b0 : Array UInt8} {q : Int} (hw : way ≤ 3) (hq : Qok q) : FC w p loose mean mg mb led₀ 102 (askK way) (.lst [.by b0, .flt (F4 q)]) (.lst [.lst [.by b0, newT way q]]) := fun ps led v _ hl R => by
  obtain ⟨a, w0, w1, rfl, h2, r0, r1⟩ := rep_two R
  obtain ⟨u0, rfl⟩ := rep_by r0
  obtain ⟨u, hu, rfl⟩ := rep_flt r1
  exact zpop_resp3_one hq hu hl h2 (askK_ok hw)
theorem fc42 {t0 : T} {q : Int} (hw : way ≤ 3) (hq : Qok q) : FC w p loose mean mg mb led₀ 42 (askR way) (.lst [t0, .by (Wt q)]) (.lst [t0, eldT way q]) := fun ps led v _ hl R => by
  obtain ⟨a, w0, w1, rfl, h2, r0, r1⟩ := rep_two R
  obtain ⟨u, rfl⟩ := rep_by r1
  exact rank_ct hq hl h2 r0 (askR_ok hw) (askR_with hw)
theorem fc92 {t0 : T} {q : Int} (hw : way ≤ 3) (hq : Qok q) : FC w p loose mean mg mb led₀ 92 (askR way) (.lst [t0, .by (Wt q)]) (.lst [t0, newT way q]) := fun ps led v _ hl R => by
  obtain ⟨a, w0, w1, rfl, h2, r0, r1⟩ := rep_two R
  obtain ⟨u, rfl⟩ := rep_by r1
  exact rank_unified_ct hq hl h2 r0 (askR_ok hw) (askR_with hw)
theorem fc80 {t0 : T} {q : Int} (hw : way ≤ 3) (hq : Qok q) : FC w p loose mean mg mb led₀ 80 (askR way) (.lst [t0, .flt (F4 q)]) (.lst [t0, eldT way q]) := fun ps led v _ hl R => by
  obtain ⟨a, w0, w1, rfl, h2, r0, r1⟩ := rep_two R
  obtain ⟨u, hu, rfl⟩ := rep_flt r1
  exact rank_legacy_ct hq hu hl h2 r0 (askR_ok hw) (askR_with hw)
theorem fc54 {t0 : T} {q : Int} (hw : way ≤ 3) (hq : Qok q) : FC w p loose mean mg mb led₀ 54 (askR way) (.lst [t0, .flt (F4 q)]) (.lst [t0, newT way q]) := fun ps led v _ hl R => by
  obtain ⟨a, w0, w1, rfl, h2, r0, r1⟩ := rep_two R
  obtain ⟨u, hu, rfl⟩ := rep_flt r1
  exact rank_resp3_ct hq hu hl h2 r0 (askR_ok hw) (askR_with hw)
/-- what comes back as it came -/
theorem fc_back {fa : Addr} {kw : List (Str × Value)} {t : T} (h : ∀ (led : List (Addr × Obj)) (v : Value), Rep led v t → Ct false w p loose mean mg mb (.ref fa) [v] kw 1 led (fun r' l => r' = v ∧ l = led)) : FC w p loose mean mg mb led₀ fa kw t t := fun ps led v _ hl R => by
  refine Ct.weak5 (by decide) (h ((16, tabObj ps) :: led) v (R.mono fun _ x => .tail _ x)) fun r l hr => ?_
  obtain ⟨rfl, rfl⟩ := hr
  exact ⟨ps, led, rfl, hl, fun _ x => x, R⟩
theorem tru_list {led : List (Addr × Obj)} {v : Value} {t : Nat → T} (hn : n ≤ 1000) (R : Rep led v (.lst ((List.range n).map t))) : ∃ b, Tru w led v b := by
  obtain ⟨a, vs, rfl, LA, hvl, _⟩ := rep_list R
  exact ⟨_, LA.tru (by omega)⟩
theorem fc28b {t : Nat → T} (hw : way ≤ 3) (hn : n ≤ 1000) : FC w p loose mean mg mb led₀ 28 (askK way) (.lst ((List.range n).map t)) (.lst ((List.range n).map t)) := fc_back fun led v R => by
  obtain ⟨b, hb⟩ := tru_list (w := w) hn R
  exact pairs_back (c := false) hb (askK_no hw) (Bool.and_false _) (askK_ok hw).nd (askK_ok hw).nr (askK_ok hw).sz
theorem fc66b {t : Nat → T} (hw : way ≤ 3) (hn : n ≤ 1000) : FC w p loose mean mg mb led₀ 66 (askK way) (.lst ((List.range n).map t)) (.lst ((List.range n).map t)) := fc_back fun led v R => by
  obtain ⟨b, hb⟩ := tru_list (w := w) hn R
  exact pairs_legacy_back (c := false) hb (askK_no hw) (Bool.and_false _) (askK_ok hw).nd (askK_ok hw).nr (askK_ok hw).sz
theorem fc85b {t : Nat → T} (hw : way ≤ 3) (hn : n ≤ 1000) : FC w p loose mean mg mb led₀ 85 (askK way) (.lst ((List.range n).map t)) (.lst ((List.range n).map t)) := fc_back fun led v R => by
  obtain ⟨b, hb⟩ := tru_list (w := w) hn R
  exact pairs_unified_back (c := false) hb (askK_no hw) (Bool.and_false _) (askK_ok hw).nd (askK_ok hw).nr (askK_ok hw).sz
theorem fc47b {t : Nat → T} (hw : way ≤ 3) (hn : n ≤ 1000) : FC w p loose mean mg mb led₀ 47 (askK way) (.lst ((List.range n).map t)) (.lst ((List.range n).map t)) := fc_back fun led v R => by
  obtain ⟨b, hb⟩ := tru_list (w := w) hn R
  exact pairs_resp3_back (c := false) hb (askK_no hw) (Bool.and_false _) (askK_ok hw).nd (askK_ok hw).nr (askK_ok hw).sz
theorem fc73b {t : Nat → T} (hw : way ≤ 3) (hn : n ≤ 1000) : FC w p loose mean mg mb led₀ 73 (askK way) (.lst ((List.range n).map t)) (.lst ((List.range n).map t)) := fc_back fun led v R => by
  obtain ⟨b, hb⟩ := tru_list (w := w) hn R
  exact flat_back (c := false) hb (askK_no hw) (Bool.and_false _) (askK_ok hw).nd (askK_ok hw).nr (askK_ok hw).sz
theorem fc42b {i : Int} (hw : way ≤ 3) : FC w p loose mean mg mb led₀ 42 (askK way) (.int i) (.int i) := fc_back fun led v R => by
  cases R
  exact rank_back (c := false) tru_int (askK_no1 hw) (Bool.and_false _) (askK_ok hw).nd (askK_ok hw).nr (askK_ok hw).sz
theorem fc92b (hw : way ≤ 3) : FC w p loose mean mg mb led₀ 92 (askR way) .none .none := fc_back fun led v R => by
  cases R
  exact rank_unified_back (c := true) tru_none (askR_with hw) (Bool.false_and _) (askR_ok hw).nd (askR_ok hw).nr (askR_ok hw).sz
end
end Mine
end
section
open PySem PySem.W PyProof.Rows PySem.Calls PySem.Flt
open PyProof.Rows.TI (Frs SameUp)
open PyProof.Rows.LCg (lst NsObj ns_obj lst_snoc)
set_option maxRecDepth 100000
set_option maxHeartbeats 400000
namespace Mine
/-- the law's def, out of the head -/
def pickD {q : Program} {l : List Str} {XP : (Str → Option Value) → Heap → Prop} {YP : World → Heap → Prop} {r : RowW} {d : DefRec} {k : List (Str × Expr)} {H : Prop} (_ : WalkC q l XP YP r d k → H) : DefRec := d
def lawD : DefRec := pickD Mine.hd
abbrev lawE (L : Addr) (cd : Value) : Env := envOfC "law" lawD.scope L 180 cd
/-- nothing but heap and tokens changed -/
def Rest (s₀ s : Shared) : Prop := ∃ h tk, s = { s₀ with heap := h, toks := tk }
theorem Rest.refl {s : Shared} : Rest s s := ⟨s.heap, s.toks, rfl⟩
theorem Rest.step {s₀ s : Shared} (x : Rest s₀ s) (h : Heap) (tk : Nat) : Rest s₀ { s with heap := h, toks := tk } := by
  obtain ⟨_, _, rfl⟩ := x
  exact ⟨h, tk, rfl⟩
section
variable {w : World} {A : Around} {g : Heap} {L : Addr} {m : Str → Option Value} {led₀ led : List (Addr × Obj)} {ps : Array Value} {env : Env} {e : Expr} {t : T} {s₀ s : Shared} {rest body : List Stmt} {Q : Flow → Shared → Prop}
theorem law_if {p : Pos} (R : Rest s₀ s) (Z : LSt g L m ps led s) (hB : LB w A g L m led env e false)
    (k : ∀ s' ps' led', Rest s₀ s' → LSt g L m ps' led' s' → (∀ q ∈ led, q ∈ led') → wpC (model PG w) A (execs rest env) Q NE s') : wpC (model PG w) A (execs (.If e body [] p :: rest) env) Q NE s := by
  refine c_execs_cons (c_If (hB ps led s _ (fun _ x => x) Z fun h' tk' ps' led' Z' hs => ?_))
  rw [if_neg Bool.false_ne_true]
  exact c_execs_nil (k _ ps' led' (R.step h' tk') Z' hs)
theorem LSt.set {h h' : Heap} {tk : Nat} {m' : Str → Option Value} (Z : LSt g L m ps led { s with heap := h, toks := tk }) (hn : h'.Ns L m') (hs : Heap.SameBut L h h') {tk' : Nat} : LSt g L m' ps led { s with heap := h', toks := tk' + 1 } :=
  ⟨Z.Z.set hn hs, Z.lg, Nat.succ_pos _⟩
theorem law_assign {x : Str} {p1 p2 : Pos} (R : Rest s₀ s) (Z : LSt g L m ps led s) (hL : env.locals = L) (hk : env.scope.kind = .function) (hx : env.kindOf x = some .local) (hE : LE w A g L m led env e t)
    (k : ∀ s' ps' led' v, Rest s₀ s' → LSt g L (fun z => if z = x then some v else m z) ps' led' s' → (∀ q ∈ led, q ∈ led') → Rep led' v t → wpC (model PG w) A (execs rest env) Q NE s')
    (hsw : swapsWith e (some (.Name x p1)) p2.line env = pure false := by rfl) : wpC (model PG w) A (execs (.Assign [.Name x p1] e p2 :: rest) env) Q NE s := by
  subst hL
  refine c_execs_cons (c_Assign (hE ps led s _ (fun _ x => x) Z fun v h' tk' ps' led' Z' hs hv => ?_) hsw)
  refine wpAny_storeName_local hx Z'.Z.F.ns (fun h₂ hn hs₂ => ?_) (by rw [hk]; rfl)
  exact k _ ps' led' v (R.step h₂ _) (Z'.set hn hs₂) hs hv
/-- a list comprehension, assigned -/
theorem law_comp {x : Str} {p1 p2 pos : Pos} {elt iter tgt : Expr} {scope : Scope} {cl : List (Str × Addr)} {n : Nat} {ts : Nat → T} (R : Rest s₀ s) (Z : LSt g L m ps led s) (hL : env.locals = L) (hk : env.scope.kind = .function) (hx : env.kindOf x = some .local)
    (hclos : closureFor scope env = pure cl) (hcell : ∀ y ∈ scope.names, y.2 ≠ .cell) (hkind : scope.kind = .function) (hnames : ∀ y ∈ scope.names, y.2 = .local → scope.names.lookup y.1 = some .local) (hsz : n ≤ 1000)
    (h : wpAny (model PG w) A (eval iter env) (fun xv s₁ => wpAny (model PG w) A (pyIter xv) (fun it s₂ => Rest s₀ s₂ ∧ DrawK PG w A g [] [] L m env elt tgt scope cl ((16, tabObj ps) :: led) n ts it s₂) NE s₁) NE s)
    (k : ∀ s' led' v, Rest s₀ s' → LSt g L (fun z => if z = x then some v else m z) ps led' s' → (∀ q ∈ led, q ∈ led') → Rep led' v (.lst ((List.range n).map ts)) → wpC (model PG w) A (execs rest env) Q NE s')
    (hsw : swapsWith (.ListComp elt [⟨tgt, iter, [], 0⟩] scope pos) (some (.Name x p1)) p2.line env = pure true := by rfl) (hs : ∀ x, foldedSetIterable iter env x = pure x := by intro _; rfl) :
    wpC (model PG w) A (execs (.Assign [.Name x p1] (.ListComp elt [⟨tgt, iter, [], 0⟩] scope pos) p2 :: rest) env) Q NE s := by
  refine c_execs_cons (k_Assign_ListComp hL hsw hclos hcell hkind hnames (Nat.le_trans hsz (by rw [sizeLine_eq]; decide)) hx (by rw [hk]; rfl) (.any (wpAny_mono h (fun xv s₁ h₁ => wpAny_mono h₁ (fun it s₂ h₂ => ⟨h₂.2, ?_⟩) fun _ _ e => e) fun _ _ e => e)) hs)
  intro D h tk ys new frs' S' Z' ne1 ne2 R' htk
  have : frs' = [] := by cases frs' with | nil => rfl | cons _ _ => exact False.elim S'
  subst this
  refine k _ ((D, lst ys) :: new ++ led) (.ref D) (h₂.1.step h tk) ⟨Z'.perm fun q hq => ?_, Lg.more Z.lg fun q hq => ne1 q hq _ (.head _), htk⟩ (fun q hq => List.mem_append_right _ hq) (rep_comp (ps := ps) R')
  rcases List.mem_cons.mp hq with rfl | hq
  · exact .tail _ (List.mem_append_right _ (.head _))
  · rcases List.mem_append.mp hq with hq | hq
    · rcases List.mem_cons.mp hq with rfl | hq
      · exact .head _
      · exact .tail _ (List.mem_append_left _ hq)
    · exact .tail _ (List.mem_append_right _ (.tail _ hq))
end
end Mine
end
section
open PySem PySem.W PyProof.Rows PySem.Calls PySem.Flt
open PyProof.Rows.TI (Frs SameUp)
open PyProof.Rows.LCg (lst NsObj ns_obj lst_snoc)
set_option maxRecDepth 100000
set_option maxHeartbeats 400000
namespace Mine
theorem lg28 (w : World) : nsIn (Mine.hd.heap_39 w.params) mainGlobals ("zset_score_pairs" : Str) = some (some (.ref 28)) := by kernel_rfl
theorem lf28 (w : World) : ((Mine.hd.heap_39 w.params).lookup 28).map (fun o => match o.data with | .func _ => true | _ => false) = some true := by kernel_rfl
theorem lg66 (w : World) : nsIn (Mine.hd.heap_39 w.params) mainGlobals ("zset_score_pairs_resp3_to_resp2_legacy" : Str) = some (some (.ref 66)) := by kernel_rfl
theorem lf66 (w : World) : ((Mine.hd.heap_39 w.params).lookup 66).map (fun o => match o.data with | .func _ => true | _ => false) = some true := by kernel_rfl
theorem lg85 (w : World) : nsIn (Mine.hd.heap_39 w.params) mainGlobals ("zset_score_pairs_unified" : Str) = some (some (.ref 85)) := by kernel_rfl
theorem lf85 (w : World) : ((Mine.hd.heap_39 w.params).lookup 85).map (fun o => match o.data with | .func _ => true | _ => false) = some true := by kernel_rfl
theorem lg47 (w : World) : nsIn (Mine.hd.heap_39 w.params) mainGlobals ("zset_score_pairs_resp3" : Str) = some (some (.ref 47)) := by kernel_rfl
theorem lf47 (w : World) : ((Mine.hd.heap_39 w.params).lookup 47).map (fun o => match o.data with | .func _ => true | _ => false) = some true := by kernel_rfl
theorem lg73 (w : World) : nsIn (Mine.hd.heap_39 w.params) mainGlobals ("zset_score_pairs_resp3_to_resp2_legacy_flat" : Str) = some (some (.ref 73)) := by kernel_rfl
theorem lf73 (w : World) : ((Mine.hd.heap_39 w.params).lookup 73).map (fun o => match o.data with | .func _ => true | _ => false) = some true := by kernel_rfl
theorem lg35 (w : World) : nsIn (Mine.hd.heap_39 w.params) mainGlobals ("zpop_score_pairs" : Str) = some (some (.ref 35)) := by kernel_rfl
theorem lf35 (w : World) : ((Mine.hd.heap_39 w.params).lookup 35).map (fun o => match o.data with | .func _ => true | _ => false) = some true := by kernel_rfl
theorem lg107 (w : World) : nsIn (Mine.hd.heap_39 w.params) mainGlobals ("zpop_score_pairs_resp3_to_resp2_legacy" : Str) = some (some (.ref 107)) := by kernel_rfl
theorem lf107 (w : World) : ((Mine.hd.heap_39 w.params).lookup 107).map (fun o => match o.data with | .func _ => true | _ => false) = some true := by kernel_rfl
theorem lg97 (w : World) : nsIn (Mine.hd.heap_39 w.params) mainGlobals ("zpop_score_pairs_unified" : Str) = some (some (.ref 97)) := by kernel_rfl
theorem lf97 (w : World) : ((Mine.hd.heap_39 w.params).lookup 97).map (fun o => match o.data with | .func _ => true | _ => false) = some true := by kernel_rfl
theorem lg102 (w : World) : nsIn (Mine.hd.heap_39 w.params) mainGlobals ("zpop_score_pairs_resp3_unified" : Str) = some (some (.ref 102)) := by kernel_rfl
theorem lf102 (w : World) : ((Mine.hd.heap_39 w.params).lookup 102).map (fun o => match o.data with | .func _ => true | _ => false) = some true := by kernel_rfl
theorem lg138 (w : World) : nsIn (Mine.hd.heap_39 w.params) mainGlobals ("parse_zscan" : Str) = some (some (.ref 138)) := by kernel_rfl
theorem lf138 (w : World) : ((Mine.hd.heap_39 w.params).lookup 138).map (fun o => match o.data with | .func _ => true | _ => false) = some true := by kernel_rfl
theorem lg143 (w : World) : nsIn (Mine.hd.heap_39 w.params) mainGlobals ("parse_zscan_unified" : Str) = some (some (.ref 143)) := by kernel_rfl
theorem lf143 (w : World) : ((Mine.hd.heap_39 w.params).lookup 143).map (fun o => match o.data with | .func _ => true | _ => false) = some true := by kernel_rfl
theorem lg131 (w : World) : nsIn (Mine.hd.heap_39 w.params) mainGlobals ("zmpop_unified" : Str) = some (some (.ref 131)) := by kernel_rfl
theorem lf131 (w : World) : ((Mine.hd.heap_39 w.params).lookup 131).map (fun o => match o.data with | .func _ => true | _ => false) = some true := by kernel_rfl
theorem lg126 (w : World) : nsIn (Mine.hd.heap_39 w.params) mainGlobals ("zmpop_resp3_to_resp2_legacy" : Str) = some (some (.ref 126)) := by kernel_rfl
theorem lf126 (w : World) : ((Mine.hd.heap_39 w.params).lookup 126).map (fun o => match o.data with | .func _ => true | _ => false) = some true := by kernel_rfl
theorem lg148 (w : World) : nsIn (Mine.hd.heap_39 w.params) mainGlobals ("parse_zmscore" : Str) = some (some (.ref 148)) := by kernel_rfl
theorem lf148 (w : World) : ((Mine.hd.heap_39 w.params).lookup 148).map (fun o => match o.data with | .func _ => true | _ => false) = some true := by kernel_rfl
theorem lg42 (w : World) : nsIn (Mine.hd.heap_39 w.params) mainGlobals ("zset_score_for_rank" : Str) = some (some (.ref 42)) := by kernel_rfl
theorem lf42 (w : World) : ((Mine.hd.heap_39 w.params).lookup 42).map (fun o => match o.data with | .func _ => true | _ => false) = some true := by kernel_rfl
theorem lg80 (w : World) : nsIn (Mine.hd.heap_39 w.params) mainGlobals ("zset_score_for_rank_resp3_to_resp2_legacy" : Str) = some (some (.ref 80)) := by kernel_rfl
theorem lf80 (w : World) : ((Mine.hd.heap_39 w.params).lookup 80).map (fun o => match o.data with | .func _ => true | _ => false) = some true := by kernel_rfl
theorem lg92 (w : World) : nsIn (Mine.hd.heap_39 w.params) mainGlobals ("zset_score_for_rank_unified" : Str) = some (some (.ref 92)) := by kernel_rfl
theorem lf92 (w : World) : ((Mine.hd.heap_39 w.params).lookup 92).map (fun o => match o.data with | .func _ => true | _ => false) = some true := by kernel_rfl
theorem lg54 (w : World) : nsIn (Mine.hd.heap_39 w.params) mainGlobals ("zset_score_for_rank_resp3" : Str) = some (some (.ref 54)) := by kernel_rfl
theorem lf54 (w : World) : ((Mine.hd.heap_39 w.params).lookup 54).map (fun o => match o.data with | .func _ => true | _ => false) = some true := by kernel_rfl
theorem lg114 (w : World) : nsIn (Mine.hd.heap_39 w.params) mainGlobals ("bzpop_score_unified" : Str) = some (some (.ref 114)) := by kernel_rfl
theorem lf114 (w : World) : ((Mine.hd.heap_39 w.params).lookup 114).map (fun o => match o.data with | .func _ => true | _ => false) = some true := by kernel_rfl
theorem lg121 (w : World) : nsIn (Mine.hd.heap_39 w.params) mainGlobals ("bzpop_score_resp3_to_resp2_legacy" : Str) = some (some (.ref 121)) := by kernel_rfl
theorem lf121 (w : World) : ((Mine.hd.heap_39 w.params).lookup 121).map (fun o => match o.data with | .func _ => true | _ => false) = some true := by kernel_rfl
section
variable {w : World} {p : Program} {loose : List Str} {mean : ExcName → Option Value} {mg mb : Str → Option Value} {dp un : Nat} {gd : Option (List Code)} {A : Around} {g : Heap} {L : Addr} {cd : Value} {m : Str → Option Value} {led₀ led : List (Addr × Obj)} {ps : Array Value} {e : Expr} {t t2 : T} {s₀ s : Shared} {Q : Flow → Shared → Prop}
def NameAt (m : Str → Option Value) (led : List (Addr × Obj)) (x : Str) (t : T) : Prop := ∃ v, m x = some v ∧ Rep led v t
theorem NameAt.mono {x : Str} (h : NameAt m led₀ x t) (hs : ∀ q ∈ led₀, q ∈ led) : NameAt m led x t := by
  obtain ⟨v, a, b⟩ := h
  exact ⟨v, a, b.mono hs⟩
theorem LE.nm {x : Str} {p : Pos} (h : NameAt m led₀ x t) (hx : (lawE L cd).kindOf x = some .local) (hd : (x == ("__debug__" : Str)) = false := by decide) : LE w A g L m led₀ (lawE L cd) (.Name x p) t := by
  obtain ⟨v, a, b⟩ := h
  exact LE.name rfl rfl hx a b hd
/-- the bounds and the ground of the law -/
structure LCx (w : World) (p : Program) (loose : List Str) (mean : ExcName → Option Value) (mg mb : Str → Option Value) (g : Heap) (dp un : Nat) : Prop where
  G : Gd w p loose mean mg mb g
  hd : dp + 5 < recursionLimit
  hu : un + 100 < cLine
theorem LE.cl {fname : Str} {fa : Addr} {pf pos : Pos} (C : LCx w p loose mean mg mb g dp un) (hn : nsIn (Mine.hd.heap_39 w.params) mainGlobals fname = some (some (.ref fa))) (hf : ((Mine.hd.heap_39 w.params).lookup fa).map (fun o => match o.data with | .func _ => true | _ => false) = some true) (kf : (lawE L cd).kindOf fname = some .globalImplicit) (hdf : (fname == ("__debug__" : Str)) = false)
    (x : FC w p loose mean mg mb led₀ fa [] t t2) (h1 : LE w (aT Option.none dp un gd [lawE L cd]) g L m led₀ (lawE L cd) e t) (hse : starEach [e] (lawE L cd) = [(false, eval e (lawE L cd))] := by rfl) :
    LE w (aT Option.none dp un gd [lawE L cd]) g L m led₀ (lawE L cd) (.Call (.Name fname pf) [e] [] pos) t2 := LE.call C.G rfl rfl rfl rfl C.hd C.hu hn hf kf hdf x h1 hse
theorem LE.ck {fname kn : Str} {fa : Addr} {pf pos pk kp : Pos} {kw : List (Str × Value)} (C : LCx w p loose mean mg mb g dp un) (hn : nsIn (Mine.hd.heap_39 w.params) mainGlobals fname = some (some (.ref fa))) (hf : ((Mine.hd.heap_39 w.params).lookup fa).map (fun o => match o.data with | .func _ => true | _ => false) = some true) (kf : (lawE L cd).kindOf fname = some .globalImplicit) (hdf : (fname == ("__debug__" : Str)) = false) (kk : (lawE L cd).kindOf kn = some .local) (hdk : (kn == ("__debug__" : Str)) = false)
    (K : KwAt w m led₀ kn kw) (x : FC w p loose mean mg mb led₀ fa kw t t2) (h1 : LE w (aT Option.none dp un gd [lawE L cd]) g L m led₀ (lawE L cd) e t) (hse : starEach [e] (lawE L cd) = [(false, eval e (lawE L cd))] := by rfl) :
    LE w (aT Option.none dp un gd [lawE L cd]) g L m led₀ (lawE L cd) (.Call (.Name fname pf) [e] [⟨Option.none, .Name kn pk, kp⟩] pos) t2 := LE.callKw C.G rfl rfl rfl rfl C.hd C.hu hn hf kf hdf kk hdk K x h1 hse
theorem LB.nq {e1 e2 : Expr} {pos : Pos} (C : LCx w p loose mean mg mb g dp un) (h1 : LE w (aT none dp un gd [lawE L cd]) g L m led₀ (lawE L cd) e1 t) (h2 : LE w (aT none dp un gd [lawE L cd]) g L m led₀ (lawE L cd) e2 t) (hdp : t.deep ≤ 10) (ht : (∃ ts, t = .lst ts) ∨ (∃ ts, t = .tup ts) ∨ ∃ i, t = .int i)
    (hm : behindInMarks .NotEq e2 = false := by with_unfolding_all rfl) : LB w (aT none dp un gd [lawE L cd]) g L m led₀ (lawE L cd) (.Compare e1 [.NotEq] [e2] pos) false :=
  LB.ne C.G h1 h2 (by have := C.hu; show un + 20 < cLine; omega) hdp ht hm
theorem KwAt.mono {kn : Str} {kw : List (Str × Value)} (h : KwAt w m led₀ kn kw) (hs : ∀ q ∈ led₀, q ∈ led) : KwAt w m led kn kw := by
  obtain ⟨D, o, a, b, r⟩ := h.of
  exact ⟨D, o, a, hs _ b, r⟩
theorem deeps_map {n : Nat} {f : Nat → T} {b : Nat} (h : ∀ i, (f i).deep ≤ b) : ∀ l : List Nat, T.deeps (l.map f) ≤ b
  | [] => Nat.zero_le _
  | i :: l => by simp only [List.map_cons, T.deeps]; exact Nat.max_le.mpr ⟨h i, deeps_map (n := n) h l⟩
theorem deeps_flat {f g : Nat → T} {b : Nat} (h : ∀ i, (f i).deep ≤ b) (h' : ∀ i, (g i).deep ≤ b) : ∀ l : List Nat, T.deeps (l.flatMap fun i => [f i, g i]) ≤ b
  | [] => Nat.zero_le _
  | i :: l => by
    simp only [List.flatMap_cons, List.cons_append, List.nil_append, T.deeps]
    exact Nat.max_le.mpr ⟨h i, Nat.max_le.mpr ⟨h' i, deeps_flat h h' l⟩⟩
theorem deep_eldT (way : Nat) (q : Int) : (eldT way q).deep = 0 := by
  unfold eldT; split <;> rfl
theorem deep_newT (way : Nat) (q : Int) : (newT way q).deep = 0 := by
  unfold newT; split <;> rfl
variable {way n : Nat} {B : Nat → Array UInt8} {q : Nat → Int}
abbrev bT (B : Nat → Array UInt8) : Nat → T := fun i => .by (B i)
theorem deep_flat : (flatT n (bT B) q).deep ≤ 2 := by
  simp only [T.deep]
  exact Nat.succ_le_succ (Nat.le_trans (deeps_flat (b := 0) (fun i => Nat.le_refl _) (fun i => Nat.le_refl _) _) (by decide))
theorem deep_elds : (eldsT way n (bT B) q).deep ≤ 3 := by
  simp only [T.deep]
  refine Nat.succ_le_succ (deeps_map (n := n) (b := 2) (fun i => ?_) _)
  simp only [T.deep, T.deeps, deep_eldT]; decide
theorem deep_news : (newsT way n (bT B) q).deep ≤ 3 := by
  simp only [T.deep]
  refine Nat.succ_le_succ (deeps_map (n := n) (b := 2) (fun i => ?_) _)
  simp only [T.deep, T.deeps, deep_newT]; decide
theorem deep_pairs : (pairsT n (bT B) q).deep ≤ 3 := by
  simp only [T.deep]
  refine Nat.succ_le_succ (deeps_map (n := n) (b := 2) (fun i => ?_) _)
  simp only [T.deep, T.deeps]; decide
theorem deep_writ : (writT n (bT B) q).deep ≤ 3 := by
  simp only [T.deep]
  refine Nat.succ_le_succ (deeps_map (n := n) (b := 2) (fun i => ?_) _)
  simp only [T.deep, T.deeps]; decide
/-- what the law has laid out before it asks -/
structure LData (w : World) (m : Str → Option Value) (led : List (Addr × Obj)) (way n : Nat) (B : Nat → Array UInt8) (q : Nat → Int) : Prop where
  asked : KwAt w m led "asked" (askK way)
  ranged : KwAt w m led "ranged" (askW way)
  ranked : KwAt w m led "ranked" (askR way)
  flat : NameAt m led "flat" (flatT n (bT B) q)
  pairs : NameAt m led "pairs" (pairsT n (bT B) q)
  written : NameAt m led "written" (writT n (bT B) q)
  members : NameAt m led "members" (.lst ((List.range n).map (bT B)))
  elder : NameAt m led "elder" (eldsT way n (bT B) q)
  newer : NameAt m led "newer" (newsT way n (bT B) q)
  rows : NameAt m led "rows" (.lst ((List.range n).map fun i => .tup [bT B i, .int (q i)]))
  hw : way ≤ 3
  hn : n ≤ 5
  hq : ∀ i, Qok (q i)
theorem LData.mono (x : LData w m led₀ way n B q) (hs : ∀ q ∈ led₀, q ∈ led) : LData w m led way n B q :=
  ⟨x.asked.mono hs, x.ranged.mono hs, x.ranked.mono hs, x.flat.mono hs, x.pairs.mono hs, x.written.mono hs, x.members.mono hs, x.elder.mono hs, x.newer.mono hs, x.rows.mono hs, x.hw, x.hn, x.hq⟩
theorem deep_mem : (T.lst ((List.range n).map (bT B))).deep ≤ 2 := by
  simp only [T.deep]
  exact Nat.succ_le_succ (Nat.le_trans (deeps_map (n := n) (b := 0) (fun i => Nat.le_refl _) _) (by decide))
theorem deep_tup {t : T} (h : t.deep ≤ 3) : (T.tup [.int 17, t]).deep ≤ 10 := by
  simp only [T.deep, T.deeps]; omega
theorem deep_lst {b : Array UInt8} {t : T} (h : t.deep ≤ 3) : (T.lst [.by b, t]).deep ≤ 10 := by
  simp only [T.deep, T.deeps]; omega
theorem by17 {k : Nat} {p : Pos} : LE w A g L m led₀ (lawE L cd) (.Constant (.bytes [49, 55]) k p) (.by (Wt 68)) := by
  rw [show Wt 68 = ([49, 55] : List UInt8).toArray by decide +kernel]
  exact .cbytes
theorem law_ifs1 (C : LCx w p loose mean mg mb g dp un) (D : LData w m led way n B q) (R : Rest s₀ s) (Z : LSt g L m ps led s)
    (k : ∀ s' ps' led', Rest s₀ s' → LSt g L m ps' led' s' → (∀ q ∈ led, q ∈ led') → wpC (model PG w) (aT none dp un gd [lawE L cd]) (execs (lawD.body.drop 24) (lawE L cd)) Q NE s') :
    wpC (model PG w) (aT none dp un gd [lawE L cd]) (execs (lawD.body.drop 14) (lawE L cd)) Q NE s := by
  have hn := Nat.le_trans D.hn (by decide : 5 ≤ 1000)
  have hq := D.hq
  have hw := D.hw
  have H : ∀ q ∈ led, q ∈ led := fun _ x => x
  refine law_if R Z (.or (.nq C (.ck C (lg28 w) (lf28 w) rfl (by decide) rfl (by decide) D.ranged (fc28 hw hn hq) (.nm D.flat rfl)) (.nm D.elder rfl) (Nat.le_trans deep_elds (by decide)) (.inl ⟨_, rfl⟩))
    (.nq C (.ck C (lg66 w) (lf66 w) rfl (by decide) rfl (by decide) D.ranged (fc66 hw hn hq) (.nm D.pairs rfl)) (.nm D.elder rfl) (Nat.le_trans deep_elds (by decide)) (.inl ⟨_, rfl⟩))) fun s' ps' led' R Z' hs => ?_
  replace D := D.mono hs
  replace Z := Z'
  replace H : ∀ q ∈ led, q ∈ led' := fun q hq => hs q (H q hq)
  clear hs Z'
  refine law_if R Z (.or (.nq C (.ck C (lg85 w) (lf85 w) rfl (by decide) rfl (by decide) D.ranged (fc85 hw hn hq) (.nm D.flat rfl)) (.nm D.newer rfl) (Nat.le_trans deep_news (by decide)) (.inl ⟨_, rfl⟩))
    (.nq C (.ck C (lg47 w) (lf47 w) rfl (by decide) rfl (by decide) D.ranged (fc47 hw hn hq) (.nm D.pairs rfl)) (.nm D.newer rfl) (Nat.le_trans deep_news (by decide)) (.inl ⟨_, rfl⟩))) fun s' ps' led' R Z' hs => ?_
  replace D := D.mono hs
  replace Z := Z'
  replace H : ∀ q ∈ led, q ∈ led' := fun q hq => hs q (H q hq)
  clear hs Z'
  refine law_if R Z (.nq C (.ck C (lg73 w) (lf73 w) rfl (by decide) rfl (by decide) D.ranged (fc73 hw hn hq) (.nm D.pairs rfl)) (.nm D.flat rfl) (Nat.le_trans deep_flat (by decide)) (.inl ⟨_, rfl⟩)) fun s' ps' led' R Z' hs => ?_
  replace D := D.mono hs
  replace Z := Z'
  replace H : ∀ q ∈ led, q ∈ led' := fun q hq => hs q (H q hq)
  clear hs Z'
  refine law_if R Z (.or (.nq C (.ck C (lg28 w) (lf28 w) rfl (by decide) rfl (by decide) D.asked (fc28b hw hn) (.nm D.members rfl)) (.nm D.members rfl) (Nat.le_trans deep_mem (by decide)) (.inl ⟨_, rfl⟩))
    (.nq C (.ck C (lg66 w) (lf66 w) rfl (by decide) rfl (by decide) D.asked (fc66b hw hn) (.nm D.members rfl)) (.nm D.members rfl) (Nat.le_trans deep_mem (by decide)) (.inl ⟨_, rfl⟩))) fun s' ps' led' R Z' hs => ?_
  replace D := D.mono hs
  replace Z := Z'
  replace H : ∀ q ∈ led, q ∈ led' := fun q hq => hs q (H q hq)
  clear hs Z'
  refine law_if R Z (.or (.nq C (.ck C (lg85 w) (lf85 w) rfl (by decide) rfl (by decide) D.asked (fc85b hw hn) (.nm D.members rfl)) (.nm D.members rfl) (Nat.le_trans deep_mem (by decide)) (.inl ⟨_, rfl⟩))
    (.nq C (.ck C (lg47 w) (lf47 w) rfl (by decide) rfl (by decide) D.asked (fc47b hw hn) (.nm D.members rfl)) (.nm D.members rfl) (Nat.le_trans deep_mem (by decide)) (.inl ⟨_, rfl⟩))) fun s' ps' led' R Z' hs => ?_
  replace D := D.mono hs
  replace Z := Z'
  replace H : ∀ q ∈ led, q ∈ led' := fun q hq => hs q (H q hq)
  clear hs Z'
  refine law_if R Z (.nq C (.ck C (lg73 w) (lf73 w) rfl (by decide) rfl (by decide) D.asked (fc73b hw hn) (.nm D.members rfl)) (.nm D.members rfl) (Nat.le_trans deep_mem (by decide)) (.inl ⟨_, rfl⟩)) fun s' ps' led' R Z' hs => ?_
  replace D := D.mono hs
  replace Z := Z'
  replace H : ∀ q ∈ led, q ∈ led' := fun q hq => hs q (H q hq)
  clear hs Z'
  refine law_if R Z (.or (.nq C (.ck C (lg35 w) (lf35 w) rfl (by decide) rfl (by decide) D.asked (fc35 hw hn hq) (.nm D.flat rfl)) (.nm D.elder rfl) (Nat.le_trans deep_elds (by decide)) (.inl ⟨_, rfl⟩))
    (.nq C (.ck C (lg107 w) (lf107 w) rfl (by decide) rfl (by decide) D.asked (fc107 hw hn hq) (.nm D.pairs rfl)) (.nm D.elder rfl) (Nat.le_trans deep_elds (by decide)) (.inl ⟨_, rfl⟩))) fun s' ps' led' R Z' hs => ?_
  replace D := D.mono hs
  replace Z := Z'
  replace H : ∀ q ∈ led, q ∈ led' := fun q hq => hs q (H q hq)
  clear hs Z'
  refine law_if R Z (.or (.nq C (.ck C (lg97 w) (lf97 w) rfl (by decide) rfl (by decide) D.asked (fc97 hw hn hq) (.nm D.flat rfl)) (.nm D.newer rfl) (Nat.le_trans deep_news (by decide)) (.inl ⟨_, rfl⟩))
    (.nq C (.ck C (lg102 w) (lf102 w) rfl (by decide) rfl (by decide) D.asked (fc102 hw hn hq) (.nm D.pairs rfl)) (.nm D.newer rfl) (Nat.le_trans deep_news (by decide)) (.inl ⟨_, rfl⟩))) fun s' ps' led' R Z' hs => ?_
  replace D := D.mono hs
  replace Z := Z'
  replace H : ∀ q ∈ led, q ∈ led' := fun q hq => hs q (H q hq)
  clear hs Z'
  refine law_if R Z (.or (.nq C (.ck C (lg138 w) (lf138 w) rfl (by decide) rfl (by decide) D.asked (fc138 hw hn hq) (.list (.cons by17 (.cons (.nm D.flat rfl) .nil)))) (.tuple (.cons .cint (.cons (.nm D.elder rfl) .nil))) (deep_tup deep_elds) (.inr (.inl ⟨_, rfl⟩)))
    (.nq C (.ck C (lg143 w) (lf143 w) rfl (by decide) rfl (by decide) D.asked (fc143 hw hn hq) (.list (.cons by17 (.cons (.nm D.flat rfl) .nil)))) (.tuple (.cons .cint (.cons (.nm D.newer rfl) .nil))) (deep_tup deep_news) (.inr (.inl ⟨_, rfl⟩)))) fun s' ps' led' R Z' hs => ?_
  replace D := D.mono hs
  replace Z := Z'
  replace H : ∀ q ∈ led, q ∈ led' := fun q hq => hs q (H q hq)
  clear hs Z'
  refine law_if R Z (.or (.nq C (.cl C (lg131 w) (lf131 w) rfl (by decide) (fc131 hn hq) (.list (.cons .cbytes (.cons (.nm D.written rfl) .nil)))) (.list (.cons .cbytes (.cons (.nm D.pairs rfl) .nil))) (deep_lst deep_pairs) (.inl ⟨_, rfl⟩))
    (.nq C (.cl C (lg126 w) (lf126 w) rfl (by decide) (fc126 hn hq) (.list (.cons .cbytes (.cons (.nm D.pairs rfl) .nil)))) (.list (.cons .cbytes (.cons (.nm D.written rfl) .nil))) (deep_lst deep_writ) (.inl ⟨_, rfl⟩))) fun s' ps' led' R Z' hs => ?_
  replace D := D.mono hs
  replace Z := Z'
  replace H : ∀ q ∈ led, q ∈ led' := fun q hq => hs q (H q hq)
  clear hs Z'
  exact k _ _ _ R Z H
end
end Mine
end
section
open PySem PySem.W PyProof.Rows PySem.Calls PySem.Flt
open PyProof.Rows.TI (Frs SameUp)
open PyProof.Rows.LCg (lst NsObj ns_obj lst_snoc)
set_option maxRecDepth 100000
set_option maxHeartbeats 400000
namespace Mine
section
variable {w : World} {A : Around} {env : Env} {s : Shared}
theorem c_BinOp {l r : Expr} {op : Operator} {pos : Pos} {Q : Value → Shared → Prop}
    (h : wpC (model PG w) A (eval l env) (fun a s₁ => wpC (model PG w) A (eval r env) (fun b s₂ => wpAny (model PG w) A (binaryOp op a b) Q NE s₂) NE s₁) NE s) : wpC (model PG w) A (eval (.BinOp l op r pos) env) Q NE s := by
  rw [eval_BinOp]
  exact wpC_bind (wpC_mono h (fun a s₁ h₁ => wpC_bind (wpC_holding (wpC_mono h₁ (fun b s₂ h₂ => wpC_leaf (wpAny_standAt (.any (wpAny_operating h₂)))) fun _ _ x => x))) fun _ _ x => x)
theorem c_And2 {e1 e2 : Expr} {pos : Pos} {Q : Value → Shared → Prop}
    (h : wpC (model PG w) A (eval e1 env) (fun v s₁ => wpAny (model PG w) A (truthy v) (fun b s₂ => b = true ∧ wpC (model PG w) A (eval e2 env) Q NE s₂) NE s₁) NE s) : wpC (model PG w) A (eval (.BoolOp .And [e1, e2] pos) env) Q NE s := by
  rw [arm_eval_BoolOp]
  show wpC _ _ (eval e1 env >>= _) _ _ _
  refine wpC_bind (wpC_mono h (fun v s₁ h₁ => wpC_leaf (wpAny_standAt (wpC_leaf (wpAny_holding (wpAny_mono h₁ (fun b s₂ h₂ => ?_) fun _ _ x => x))))) fun _ _ x => x)
  obtain ⟨rfl, h₂⟩ := h₂
  exact h₂
end
section
variable {w : World} {p : Program} {loose : List Str} {mean : ExcName → Option Value} {mg mb : Str → Option Value} {dp un : Nat} {gd : Option (List Code)} {A : Around} {g : Heap} {L : Addr} {cd : Value} {m : Str → Option Value} {led₀ led : List (Addr × Obj)} {ps : Array Value} {e e1 e2 : Expr} {t t2 : T} {s₀ s : Shared} {Q : Flow → Shared → Prop}
/-- lists put together -/
theorem LE.addl {ts us : List T} {env : Env} {pos : Pos} (h1 : LE w A g L m led₀ env e1 (.lst ts)) (h2 : LE w A g L m led₀ env e2 (.lst us)) (hz : ts.length + us.length ≤ 1000) : LE w A g L m led₀ env (.BinOp e1 .Add e2 pos) (.lst (ts ++ us)) := fun ps led s Q hs Z k => by
  refine c_BinOp (h1 ps led s _ hs Z fun v h₁ tk₁ ps₁ led₁ Z₁ s₁ R₁ => ?_)
  refine h2 ps₁ led₁ _ _ (fun q hq => s₁ q (hs q hq)) Z₁ fun v' h₂ tk₂ ps₂ led₂ Z₂ s₂ R₂ => ?_
  have R₁' := R₁.mono s₂
  cases R₁' with
  | @lst a o vs n _ hm hc hd hr =>
    cases R₂ with
    | @lst a' o' vs' n' _ hm' hc' hd' hr' =>
      have l1 := hr.length
      have l2 := hr'.length
      refine add_lists (vs := vs) (ws := vs') Z₂.Z.F Z₂.Z.N ⟨o, Z₂.Z.toks _ (.tail _ hm), hc, n, hd⟩ ⟨o', Z₂.Z.toks _ (.tail _ hm'), hc', n', hd'⟩ (fun h' F' N' => ?_) (by rw [l1, l2]; exact Nat.le_trans hz (by rw [sizeLine_eq]; decide))
      have Z₃ : LSt g L m ps₂ ((h₂.objs.size, { cls := .type "list", data := .seq (vs ++ vs').toArray }) :: led₂) { s with heap := h', toks := tk₂ } :=
        ⟨⟨F', fun q hq => N' q (by
          rw [List.append_nil] at hq
          rcases List.mem_cons.mp hq with rfl | hq
          · exact .tail _ (.head _)
          · rcases List.mem_cons.mp hq with rfl | hq
            · exact .head _
            · exact .tail _ (.tail _ (List.mem_append_left _ hq))), fun _ _ _ hy => absurd hy List.not_mem_nil, Z₂.Z.Fs⟩, Lg.more (E := [(_, _)]) Z₂.lg fun q hq => by
            rw [List.mem_singleton.mp hq]
            exact Nat.ne_of_gt (Heap.lt_size (Z₂.Z.toks _ (.head _))), Z₂.tk⟩
      exact k _ h' tk₂ ps₂ _ Z₃ (fun q hq => .tail _ (s₂ q (s₁ q hq))) (.lst (vs := vs ++ vs') (.head _) rfl rfl ((hr.append hr').mono fun _ x => .tail _ x))
/-- [b for a, b in pairs] -/
theorem LE.second {na nb x : Str} {pa pb tp pos pe px : Pos} {kk n : Nat} {t1 : Nat → T} {t2 : Nat → T} {scope : Scope} {env : Env} {cl : List (Str × Addr)} (hh : A.handled = Option.none) (hL : env.locals = L) (hk : env.scope.kind = .function) (kx : env.kindOf x = some .local) (hab : na ≠ nb) (h : NameAt m led₀ x (.lst ((List.range n).map fun i => .lst [t1 i, t2 i]))) (hn : n ≤ 1000)
    (hclos : closureFor scope env = pure cl) (hcell : ∀ y ∈ scope.names, y.2 ≠ .cell) (hkind : scope.kind = .function) (hnames : ∀ y ∈ scope.names, y.2 = .local → scope.names.lookup y.1 = some .local) (hloc : ∀ y ∈ [na, nb], scope.names.lookup y = some .local) (hd : (x == ("__debug__" : Str)) = false := by decide) (hdb : (nb == ("__debug__" : Str)) = false := by decide) :
    LE w A g L m led₀ env (.ListComp (.Name nb pe) [⟨.Tuple [.Name na pa, .Name nb pb] kk tp, .Name x px, [], 0⟩] scope pos) (.lst ((List.range n).map t2)) := fun ps led s Q hs Z k => by
  subst hL
  obtain ⟨v, hm, R⟩ := h
  obtain ⟨a, v₁, v₂, rfl, PA, hv⟩ := rep_pairs (tp := T.lst) (.inl rfl) R
  have sub2 : ∀ q ∈ led₀, q ∈ (16, tabObj ps) :: led := fun q hq => .tail _ (hs q hq)
  refine comp_pairs (ts := t2) hh hab (PA.mono sub2) Z.Z Z.tk hclos hcell hkind hnames hloc hn (fun Q k => n_local Z.Z.F.ns hm (k _ (Nat.le_refl _)) hk kx hd) (fun i hi => ?_) (fun D h₂ tk₂ ys new frs₂ S₂ Z₂ ne R₂ k₂ => ?_) (by intro _; rfl)
  · exact elt_ev (Ev.cvar (P := fun m₂ => m₂ _ = some (v₁ i) ∧ m₂ _ = some (v₂ i)) (fun m₂ hm => hm.2) ((hv i hi).2.mono sub2) hkind (hloc _ (by simp)) hdb)
  · have : frs₂ = [] := by cases frs₂ with | nil => rfl | cons _ _ => exact False.elim S₂
    subst this
    refine k _ h₂ tk₂ ps ((D, lst ys) :: new ++ led) ⟨Z₂.perm fun q hq => ?_, Lg.more Z.lg fun q hq => ne q hq _ (.head _), k₂⟩ (fun q hq => List.mem_append_right _ hq) (rep_comp (ps := ps) R₂)
    rcases List.mem_cons.mp hq with rfl | hq
    · exact .tail _ (List.mem_append_right _ (.head _))
    · rcases List.mem_append.mp hq with hq | hq
      · rcases List.mem_cons.mp hq with rfl | hq
        · exact .head _
        · exact .tail _ (List.mem_append_left _ hq)
      · exact .tail _ (List.mem_append_right _ (.tail _ hq))
theorem snoc_range {n : Nat} {f : Nat → T} {x : T} : (List.range n).map f ++ [x] = (List.range (n + 1)).map fun i => if i < n then f i else x := by
  rw [List.range_succ, List.map_append]
  congr 1
  · refine List.map_congr_left fun i hi => ?_
    rw [if_pos (List.mem_range.mp hi)]
  · simp
variable {way n : Nat} {B : Nat → Array UInt8} {q : Nat → Int}
theorem law_ifs2 (C : LCx w p loose mean mg mb g dp un) (D : LData w m led way n B q) (R : Rest s₀ s) (Z : LSt g L m ps led s)
    (k : ∀ s' ps' led', Rest s₀ s' → LSt g L m ps' led' s' → (∀ q ∈ led, q ∈ led') → wpC (model PG w) (aT none dp un gd [lawE L cd]) (execs (lawD.body.drop 25) (lawE L cd)) Q NE s') :
    wpC (model PG w) (aT none dp un gd [lawE L cd]) (execs (lawD.body.drop 24) (lawE L cd)) Q NE s := by
  have hn5 := D.hn
  have hn := Nat.le_trans D.hn (by decide : 5 ≤ 1000)
  have hc : FC w p loose mean mg mb led 148 [] (.lst ((List.range n).map (fun i => .by (Wt (q i))) ++ [.none])) (.lst ((List.range n).map (fun i => .flt (F4 (q i))) ++ [.none])) := by
    rw [snoc_range, snoc_range]
    refine fc148 (by omega) fun i hi => ?_
    by_cases h : i < n
    · rw [if_pos h, if_pos h]; exact .inl ⟨q i, D.hq i, rfl, rfl⟩
    · rw [if_neg h, if_neg h]; exact .inr ⟨rfl, rfl⟩
  refine law_if R Z (.nq C (.cl C (lg148 w) (lf148 w) rfl (by decide) hc (.addl (.second rfl rfl rfl rfl (by decide) D.written hn rfl (by decide) rfl (by decide) (by decide)) (.list (.cons .non .nil)) ?_)) (.addl (.second rfl rfl rfl rfl (by decide) D.pairs hn rfl (by decide) rfl (by decide) (by decide)) (.list (.cons .non .nil)) ?_) ?_ (.inl ⟨_, rfl⟩)) k
  · simp; omega
  · simp; omega
  · rw [snoc_range]
    simp only [T.deep]
    refine Nat.succ_le_succ (Nat.le_trans (deeps_map (n := n) (b := 0) (fun i => ?_) _) (by decide))
    split <;> exact Nat.le_refl _
end
end Mine
end
section
open PySem PySem.W PyProof.Rows PySem.Calls PySem.Flt
open PyProof.Rows.TI (Frs SameUp)
open PyProof.Rows.LCg (lst NsObj ns_obj lst_snoc)
set_option maxRecDepth 100000
set_option maxHeartbeats 400000
namespace Mine
theorem src_range {w : World} {A : Around} {a : Str} {pa : Pos} (hh : A.handled = none) (I : Addr) (n : Nat) :
    Src PG w A (.Name a pa) I [I] [I] n [a] (fun i m => ∃ u, m a = some (.int i u)) (fun i h => IsRangeIter h I ((i : Nat) : Int) ((n : Int) - (i : Nat)) 1) where
  sub := fun c hc => hc
  frame := fun i h h' st hk => hk I (by simp) _ st
  live := fun i h st c hc => by
    rw [List.mem_singleton.mp hc]
    exact ⟨_, st⟩
  turn := fun i s cenv m₀ Q hi st hkind hloc hCf hn hQ => by
    have ka := hloc a (by simp)
    have hp : (cenv.scope.kind == .class || (cenv.scope.kind == .module && cenv.locals != cenv.globals)) = false := by rw [hkind]; rfl
    have hC : cenv.locals ≠ I := by simpa using hCf
    refine wpAny_pyNext_range_item st (by omega) fun h₁ hit₁ hs₁ => ?_
    show wpAny _ _ (letOwnedTupleGo (.Name a pa) (.ref I) _) _ _ _
    refine wpAny_pure ?_
    refine wpAny_assign_Name (wpAny_storeName_local ka (hn.at' fun o e => hs₁.extBut _ o hC e) (fun h₃ hn₃ hs₃ => ?_) hp)
    have e1 : ((i + 1 : Nat) : Int) = (i : Int) + 1 := by push_cast; rfl
    have e2 : (n : Int) - ((i + 1 : Nat) : Int) = (n : Int) - (i : Int) - 1 := by push_cast; omega
    refine hQ h₃ _ _ hn₃ ⟨s.toks, by simp⟩ (fun y hy => ?_) (by rw [e2, e1]; exact hs₃.extBut _ _ hC.symm hit₁) fun c o hc hc' e => hs₃.extBut c o hc' (hs₁.extBut c o (fun q => hc (by simp [q])) e)
    have h1 : y ≠ a := fun q => hy (by simp [q])
    simp [h1]
  done := fun s Q st hQ => wpAny_pyNext_range_end hh st (by omega) fun h' he' => hQ h' s.toks fun b o hb e => he' b o (fun h => hb (by simp [h])) e
  self := fun _ _ _ st hQ => wpAny_pyIter_rangeiter st hQ
theorem nrange (w : World) : nsIn (Mine.hd.heap_39 w.params) mainGlobals ("range" : Str) = some none := by kernel_rfl
theorem nlen (w : World) : nsIn (Mine.hd.heap_39 w.params) mainGlobals ("len" : Str) = some none := by kernel_rfl
section
variable {w : World} {p : Program} {loose : List Str} {mean : ExcName → Option Value} {mg mb : Str → Option Value} {dp un : Nat} {gd : Option (List Code)} {g : Heap} {L : Addr} {cd : Value} {m : Str → Option Value} {led₀ led : List (Addr × Obj)} {ps : Array Value} {s₀ s : Shared} {Q : Flow → Shared → Prop}
/-- for x in range(len(rows)) -/
theorem law_for {x xr : Str} {p1 p2 p3 p4 p5 p6 pos : Pos} {n : Nat} {tr : Nat → T} {LV : List Str} {body rest : List Stmt} (C : LCx w p loose mean mg mb g dp un) (hx : (lawE L cd).kindOf x = some .local) (hxL : x ∈ LV) (hr : (lawE L cd).kindOf xr = some .local) (hdr : (xr == ("__debug__" : Str)) = false) (N : NameAt m led xr (.lst ((List.range n).map tr))) (hn : n ≤ 1000)
    (R : Rest s₀ s) (Z : LSt g L m ps led s)
    (hbody : ∀ i, i < n → ∀ s' ps' led' m₂ u, Rest s₀ s' → LSt g L m₂ ps' led' s' → (∀ q ∈ led, q ∈ led') → m₂ x = some (.int (i : Nat) u) → (∀ y, y ∉ LV → m₂ y = m y) →
      wpC (model PG w) (aT none dp un gd [lawE L cd]) (execs body (lawE L cd)) (fun f s'' => f = .next ∧ ∃ ps'' led'' m₃, Rest s₀ s'' ∧ LSt g L m₃ ps'' led'' s'' ∧ (∀ q ∈ led', q ∈ led'') ∧ (∀ y, y ∉ LV → m₃ y = m y)) NE s')
    (k : ∀ s' ps' led' m', Rest s₀ s' → LSt g L m' ps' led' s' → (∀ q ∈ led, q ∈ led') → (∀ y, y ∉ LV → m' y = m y) → wpC (model PG w) (aT none dp un gd [lawE L cd]) (execs rest (lawE L cd)) Q NE s') :
    wpC (model PG w) (aT none dp un gd [lawE L cd]) (execs (.For (.Name x p1) (.Call (.Name "range" p2) [.Call (.Name "len" p3) [.Name xr p4] [] p5] [] p6) body [] pos :: rest) (lawE L cd)) Q NE s := by
  have TR := topRead_of C.G.T
  obtain ⟨v, hmv, Rv⟩ := N
  obtain ⟨a, vs, rfl, LA, hvl, _⟩ := rep_list Rv
  obtain ⟨oa, ka, a1, a2, a3⟩ := LA.of
  have hl : s.heap.IsList a vs.toArray := ⟨oa, Z.Z.toks _ (.tail _ a1), a2, ka, a3⟩
  refine c_execs_cons (c_For (.any ?_) (by intro _; rfl))
  refine Call_name1 rfl (nB Z.Z.F C.G.X TR (nrange w) (v := .type "range") (by decide +kernel) (by decide) ?_ rfl rfl rfl rfl)
  refine callWith_type1 (Call_name1 rfl (nB Z.Z.F C.G.X TR (nlen w) (v := .builtin "len") (by decide +kernel) (by decide) ?_ rfl rfl rfl rfl))
  refine callWith_builtin1 (n_local Z.Z.F.ns hmv ?_ rfl hr hdr)
  have hsz : vs.toArray.size = n := by rw [List.size_toArray, hvl]
  refine call_len_list hl (by rw [hsz]; omega) ?_
  rw [hsz]
  refine call_range_1 ?_
  generalize s.toks + 1 + 1 = tk₁
  have Z₁ := Z.Z.push { cls := .type "range", data := .fields #[.int 0 tk₁, .int (n : Nat) (s.toks + 1), .int 1 (tk₁ + 1)] }
  refine wpAny_pyIter_range (IsRange.new ..) (small_one (by decide) (by decide) (by omega) (by omega)) ?_
  have hrs : Builtin.Range.rangeSize 0 (n : Nat) 1 = (n : Nat) := by rw [rangeSize_one]; split <;> omega
  rw [hrs]
  dsimp only
  have Z₂ := Z₁.push { cls := .type "range_iterator", data := .fields #[rawInt 0, rawInt (n : Nat), rawInt 1] }
  generalize hH : s.heap.push { cls := .type "range", data := .fields #[.int 0 tk₁, .int (n : Nat) (s.toks + 1), .int 1 (tk₁ + 1)] } = H₁ at Z₁ Z₂ ⊢
  have ltI : ∀ q ∈ (16, tabObj ps) :: led, q.1 < H₁.objs.size := fun q hq => Heap.lt_size (Z₁.toks q (.tail _ hq))
  have ne16 : (16 : Addr) ≠ H₁.objs.size := Nat.ne_of_lt (ltI _ (.head _))
  have ZI : At g [] [] L m ((16, tabObj ps) :: led) (H₁.push { cls := .type "range_iterator", data := .fields #[rawInt 0, rawInt (n : Nat), rawInt 1] }) := Z₂.perm fun q hq => .tail _ (.tail _ hq)
  refine codeC_mono (k_loop (I := H₁.objs.size) (fp := [H₁.objs.size]) (wr := [H₁.objs.size]) (s := { s with heap := H₁.push { cls := .type "range_iterator", data := .fields #[rawInt 0, rawInt (n : Nat), rawInt 1] }, toks := tk₁ + 1 + 1 })
    (fun i m' led' => ∃ ps₁ led₁, led' = (16, tabObj ps₁) :: led₁ ∧ Lg ps₁ led₁ ∧ (∀ q ∈ led, q ∈ led₁) ∧ ∀ y, y ∉ LV → m' y = m y) (src_range rfl H₁.objs.size n) rfl rfl (fun y hy => by rw [List.mem_singleton.mp hy]; exact hx) ?_ (fun b hb => ?_) ZI (fun q hq hw => ?_) (Nat.succ_pos _) ⟨ps, led, rfl, Z.lg, fun _ x => x, fun _ _ => rfl⟩
    (fun i hi fe frs' led' m' m₂ s' j hm hP S' Z' hf1 hf2 hw ht hst hrs' => ?_) (Q := fun f s' => match f with | .next => wpC (model PG w) (aT none dp un gd [lawE L cd]) (execs rest (lawE L cd)) Q NE s' | f => Q f s') fun h' tk' led' m' frs' S' Z' j hw ht => ?_) fun r s' h' => ?_
  · show IsRangeIter _ _ _ _ _
    have : (n : Int) - ((0 : Nat) : Int) = (n : Nat) := by simp
    rw [this]
    exact Heap.get?_push_size _ rfl
  · rw [List.mem_singleton.mp hb]
    exact ⟨Nat.ne_of_gt Z₁.F.ns.lt, Heap.get?_none_of_le (Nat.le_trans Z₁.F.above (Nat.le_of_lt Z₁.F.ns.lt)), fun y hy => absurd hy List.not_mem_nil⟩
  · exact Nat.ne_of_lt (ltI q hq) (List.mem_singleton.mp hw)
  · obtain ⟨ps₁, led₁, rfl, hl₁, hs₁, hm₁⟩ := j
    obtain ⟨u, hu⟩ := hP
    have e0 : frs' = [] := by cases frs' with | nil => rfl | cons _ _ => exact False.elim S'
    subst e0
    obtain ⟨oI, hoI⟩ := hf1 _ (.head _)
    have feI : ∀ q ∈ fe, q.1 = H₁.objs.size := fun q hq => List.mem_singleton.mp (hf2 q hq)
    have lwI : ∀ q ∈ led₁, q.1 ≠ H₁.objs.size := fun q hq e => hw q (.tail _ hq) (by simp [e])
    have ZL : LSt g L m₂ ps₁ (fe ++ led₁) s' := ⟨Z'.perm fun q hq => by
      rcases List.mem_cons.mp hq with rfl | hq
      · exact List.mem_append_right _ (.head _)
      · rcases List.mem_append.mp hq with hq | hq
        · exact List.mem_append_left _ hq
        · exact List.mem_append_right _ (.tail _ hq), Lg.more hl₁ fun q hq => by rw [feI q hq]; exact ne16.symm, ht⟩
    have Rs : Rest s₀ s' := by
      obtain ⟨h, tk, rfl⟩ := hrs'
      obtain ⟨_, _, rfl⟩ := R
      exact ⟨h, tk, rfl⟩
    refine wpC_mono (hbody i hi s' ps₁ (fe ++ led₁) m₂ u Rs ZL (fun q hq => List.mem_append_right _ (hs₁ q hq)) hu fun y hy => (hm y fun h => hy (by rw [List.mem_singleton.mp h]; exact hxL)).trans (hm₁ y hy)) (fun f s'' h'' => ?_) fun _ _ e => e
    obtain ⟨rfl, ps₂, led₂, m₃, R₂, Z₂', hs₂, hm₃⟩ := h''
    have mI : (H₁.objs.size, oI) ∈ led₂ := hs₂ _ (List.mem_append_left _ hoI)
    have gI : s''.heap.get? H₁.objs.size = some oI := Z₂'.Z.toks _ (.tail _ mI)
    have hoI' : oI.data = .fields #[rawInt ((i + 1 : Nat) : Int), rawInt ((n : Int) - ((i + 1 : Nat) : Int)), rawInt 1] := by
      have h1 : s'.heap.get? H₁.objs.size = some oI := Z'.toks _ (List.mem_append_left _ hoI)
      rw [show s'.heap.get? H₁.objs.size = some _ from hst] at h1
      exact (Option.some.inj h1) ▸ rfl
    have es : s'' = { s' with heap := s''.heap, toks := s''.toks } := by
      obtain ⟨h1, t1, rfl⟩ := R₂
      obtain ⟨h2, t2, rfl⟩ := Rs
      rfl
    refine ⟨rfl, s''.heap, s''.toks, (16, tabObj ps₂) :: (led₂.filter fun q => q.1 != H₁.objs.size), m₃, [], es, SameUp.refl _, Z₂'.Z.perm fun q hq => ?_, fun q hq => ?_, ⟨ps₂, _, rfl, ⟨?_, fun q hq => Z₂'.lg.off q (List.mem_filter.mp hq).1⟩, fun q hq => List.mem_filter.mpr ⟨hs₂ _ (List.mem_append_right _ (hs₁ q hq)), by simpa using lwI q (hs₁ q hq)⟩, hm₃⟩, Z₂'.tk⟩
    · rcases List.mem_append.mp hq with hq | hq
      · exact .tail _ (hs₂ _ (List.mem_append_left _ hq))
      · rcases List.mem_cons.mp hq with rfl | hq
        · exact .head _
        · exact .tail _ (List.mem_filter.mp hq).1
    · rcases List.mem_cons.mp hq with rfl | hq
      · exact fun h => ne16 (List.mem_singleton.mp h)
      · exact fun h => by simpa [List.mem_singleton.mp h] using (List.mem_filter.mp hq).2
    · rcases Z₂'.lg.tab with e | ⟨c', oc, vs', tq, e, h1, h2, h3⟩
      · exact .inl e
      · refine .inr ⟨c', oc, vs', tq, e, List.mem_filter.mpr ⟨h1, ?_⟩, h2, h3⟩
        have : c' ≠ H₁.objs.size := fun e' => by
          have x := Z₂'.Z.toks _ (.tail _ h1)
          rw [show (c', oc).1 = H₁.objs.size from e', gI] at x
          cases x
          rw [hoI'] at h2
          cases h2
          cases h3
        simpa using this
  · obtain ⟨ps₁, led₁, rfl, hl₁, hs₁, hm₁⟩ := j
    have e0 : frs' = [] := by cases frs' with | nil => rfl | cons _ _ => exact False.elim S'
    subst e0
    exact k _ ps₁ led₁ m' (by obtain ⟨_, _, rfl⟩ := R; exact ⟨_, _, rfl⟩) ⟨Z', hl₁, ht⟩ hs₁ hm₁
  · cases r with
    | error e => exact h'
    | ok f => exact h'
end
end Mine
end
section
open PySem PySem.W PyProof.Rows PySem.Calls PySem.Flt
open PyProof.Rows.TI (Frs SameUp)
open PyProof.Rows.LCg (lst NsObj ns_obj lst_snoc)
set_option maxRecDepth 100000
set_option maxHeartbeats 400000
namespace Mine
section
variable {w : World} {A : Around} {g : Heap} {L : Addr} {m : Str → Option Value} {led₀ led : List (Addr × Obj)} {ps : Array Value} {env : Env} {e : Expr} {t t0 t1 : T} {s₀ s : Shared} {rest body : List Stmt} {Q : Flow → Shared → Prop}
theorem c_Assign_Tuple {elts : List Expr} {k : Nat} {tpos pos : Pos} {value : Expr}
    (h : wpC (model PG w) A (eval value env) (fun v s₁ => wpAny (model PG w) A (assign (.Tuple elts k tpos) env v) (fun _ => Q .next) NE s₁) NE s)
    (hs : swapsWithSole [.Tuple elts k tpos] value pos.line env = pure false := by rfl)
    (hw : swappedStores [.Tuple elts k tpos] value env = pure none := by rfl) :
    wpC (model PG w) A (exec (.Assign [.Tuple elts k tpos] value pos) env) Q NE s := by
  rw [exec_Assign]
  refine wpC_leaf (wpAny_standAt ?_)
  rw [hs]
  refine wpC_bind (wpC_pure ?_)
  rw [if_neg (by decide)]
  refine wpC_bind (wpC_mono h (fun v s₁ h₁ => ?_) fun _ _ x => x)
  rw [hw]
  refine wpC_bind (wpC_pure ?_)
  show wpC (model PG w) A (do assignAll v [assign (.Tuple elts k tpos) env]; pure .next) Q NE s₁
  exact .any (wpAny_bind (wpAny_mono h₁ (fun _ _ x => wpAny_pure x) fun _ _ x => x))
/-- a, b = e -/
theorem law_pair {na nb : Str} {pa pb tp pos : Pos} {kk : Nat} (hh : A.handled = Option.none) (R : Rest s₀ s) (Z : LSt g L m ps led s) (hL : env.locals = L) (hk : env.scope.kind = .function) (ka : env.kindOf na = some .local) (kb : env.kindOf nb = some .local) (hE : LE w A g L m led env e (.lst [t0, t1]))
    (k : ∀ s' ps' led' v0 v1, Rest s₀ s' → LSt g L (fun z => if z = nb then some v1 else if z = na then some v0 else m z) ps' led' s' → (∀ q ∈ led, q ∈ led') → Rep led' v0 t0 → Rep led' v1 t1 → wpC (model PG w) A (execs rest env) Q NE s')
    (hs : swapsWithSole [.Tuple [.Name na pa, .Name nb pb] kk tp] e pos.line env = pure false := by rfl) (hw : swappedStores [.Tuple [.Name na pa, .Name nb pb] kk tp] e env = pure none := by rfl) :
    wpC (model PG w) A (execs (.Assign [.Tuple [.Name na pa, .Name nb pb] kk tp] e pos :: rest) env) Q NE s := by
  subst hL
  have hp : (env.scope.kind == .class || (env.scope.kind == .module && env.locals != env.globals)) = false := by rw [hk]; rfl
  refine c_execs_cons (c_Assign_Tuple (hE ps led s _ (fun _ x => x) Z fun v h₁ tk₁ ps₁ led₁ Z₁ hs₁ hv => ?_) hs hw)
  obtain ⟨a, v0, v1, rfl, y, r0, r1⟩ := rep_two hv
  obtain ⟨oa, n, h1, h2, h3⟩ := y.of
  refine assign_Tuple_list hh (items := #[v0, v1]) ⟨oa, Z₁.Z.toks _ (.tail _ h1), h2, n, h3⟩ rfl rfl fun h₂ he => ?_
  have Z₂ := Z₁.Z.keeps fun b o q => he b o (Nat.ne_of_lt (Heap.lt_size q)) q
  refine assignInOrder_cons (wpAny_assign_Name (wpAny_storeName_local ka Z₂.F.ns (fun h₄ hn₄ hs₄ => ?_) hp))
  have Z₄ := Z₂.set hn₄ hs₄
  refine assignInOrder_cons (wpAny_assign_Name (wpAny_storeName_local kb Z₄.F.ns (fun h₅ hn₅ hs₅ => ?_) hp))
  refine assignInOrder_nil ?_
  exact k _ ps₁ led₁ v0 v1 (R.step h₅ _) ⟨Z₄.set hn₅ hs₅, Z₁.lg, Nat.succ_pos _⟩ hs₁ r0 r1
theorem LB.isnt {p1 p2 : Pos} {kk : Nat} (h1 : LE w A g L m led₀ env e .none) : LB w A g L m led₀ env (.Compare e [.IsNot] [.Constant .none kk p1] p2) false := fun ps led s Q hs Z k => by
  refine c_isTrue_Compare1 ?_ (by with_unfolding_all rfl)
  refine h1 ps led s _ hs Z fun v h₁ tk₁ ps₁ led₁ Z₁ s₁ R₁ => ?_
  cases R₁
  refine .any (Constant_none (isnot_none_none (wpAny_truthy_bool ?_)))
  exact k h₁ tk₁ ps₁ led₁ Z₁ s₁
theorem NameAt.to {m' : Str → Option Value} {x : Str} (h : NameAt m led x t) (e : m' x = m x) : NameAt m' led x t := by
  obtain ⟨v, a, b⟩ := h
  exact ⟨v, e.trans a, b⟩
theorem KwAt.to {m' : Str → Option Value} {x : Str} {kw : List (Str × Value)} (h : KwAt w m led x kw) (e : m' x = m x) : KwAt w m' led x kw := by
  obtain ⟨D, o, a, r⟩ := h.of
  exact ⟨D, o, e.trans a, r⟩
def LV : List Str := ["k", "member", "octets", "score", "had", "got"]
theorem LData.to {m' : Str → Option Value} {way n : Nat} {B : Nat → Array UInt8} {q : Nat → Int} (x : LData w m led way n B q) (e : ∀ y, y ∉ LV → m' y = m y) : LData w m' led way n B q :=
  ⟨x.asked.to (e _ (by decide)), x.ranged.to (e _ (by decide)), x.ranked.to (e _ (by decide)), x.flat.to (e _ (by decide)), x.pairs.to (e _ (by decide)), x.written.to (e _ (by decide)), x.members.to (e _ (by decide)), x.elder.to (e _ (by decide)), x.newer.to (e _ (by decide)), x.rows.to (e _ (by decide)), x.hw, x.hn, x.hq⟩
theorem range_at {n i : Nat} {f : Nat → T} (h : i < n) : ((List.range n).map f)[i]? = some (f i) := by simp [h]
end
section
variable {w : World} {p : Program} {loose : List Str} {mean : ExcName → Option Value} {mg mb : Str → Option Value} {dp un : Nat} {gd : Option (List Code)} {A : Around} {g : Heap} {L : Addr} {cd : Value} {m : Str → Option Value} {led₀ led : List (Addr × Obj)} {ps : Array Value} {e : Expr} {t t2 : T} {s₀ s : Shared} {Q : Flow → Shared → Prop} {way n : Nat} {B : Nat → Array UInt8} {q : Nat → Int}
theorem deep_one (h : t.deep = 0) {b : T} (hb : b.deep = 0) : (T.lst [b, t]).deep ≤ 10 := by simp only [T.deep, T.deeps, h, hb]; decide
theorem deep_one' (h : t.deep = 0) {b : T} (hb : b.deep = 0) : (T.lst [.lst [b, t]]).deep ≤ 10 := by simp only [T.deep, T.deeps, h, hb]; decide
theorem deep_one'' (h : t.deep = 0) {b : T} (hb : b.deep = 0) : (T.lst [.tup [b, t]]).deep ≤ 10 := by simp only [T.deep, T.deeps, h, hb]; decide
theorem law_loop (C : LCx w p loose mean mg mb g dp un) (D : LData w m led way n B q) (R : Rest s₀ s) (Z : LSt g L m ps led s)
    (k : ∀ s' ps' led' m', Rest s₀ s' → LSt g L m' ps' led' s' → (∀ q ∈ led, q ∈ led') → (∀ y, y ∉ LV → m' y = m y) → wpC (model PG w) (aT none dp un gd [lawE L cd]) (execs (lawD.body.drop 26) (lawE L cd)) Q NE s') :
    wpC (model PG w) (aT none dp un gd [lawE L cd]) (execs (lawD.body.drop 25) (lawE L cd)) Q NE s := by
  have hn := Nat.le_trans D.hn (by decide : 5 ≤ 1000)
  have hq := D.hq
  have hw := D.hw
  refine law_for C rfl (by decide) rfl (by decide) D.rows hn R Z (fun i hi s' ps' led' m₂ u R Z hs hku hm => ?_) k
  replace D := (D.mono hs).to hm
  have hi1 : i ≤ 1000 := by omega
  have NK : NameAt m₂ led' "k" (.int (i : Nat)) := ⟨_, hku, .int _ _⟩
  refine law_pair rfl R Z rfl rfl rfl rfl (.item (.nm D.written rfl) (.inl rfl) (.nm NK rfl) (range_at hi) hi1) fun s₁ ps₁ led₁ v0 v1 R Z h₁ r0 r1 => ?_
  replace D := D.mono h₁
  have e1 : LE w (aT none dp un gd [lawE L cd]) g L m₂ led' (lawE L cd) (.Constant .none 0 ⟨0, 0, 0, 0⟩) .none := .non
  clear e1
  replace hm : ∀ y, y ∉ LV → (fun z => if z = ("octets" : Str) then some v1 else if z = ("member" : Str) then some v0 else m₂ z) y = m y := fun y hy =>
    (if_neg fun e => hy (by rw [e]; decide)).trans ((if_neg fun e => hy (by rw [e]; decide)).trans (hm y hy))
  replace D := D.to (m' := fun z => if z = ("octets" : Str) then some v1 else if z = ("member" : Str) then some v0 else m₂ z) fun y hy => (if_neg fun e => hy (by rw [e]; decide)).trans (if_neg fun e => hy (by rw [e]; decide))
  replace NK := (NK.mono h₁).to (m' := fun z => if z = ("octets" : Str) then some v1 else if z = ("member" : Str) then some v0 else m₂ z) rfl
  have NM : NameAt (fun z => if z = ("octets" : Str) then some v1 else if z = ("member" : Str) then some v0 else m₂ z) led₁ "member" (bT B i) := ⟨v0, rfl, r0⟩
  have NO : NameAt (fun z => if z = ("octets" : Str) then some v1 else if z = ("member" : Str) then some v0 else m₂ z) led₁ "octets" (.by (Wt (q i))) := ⟨v1, rfl, r1⟩
  have H : ∀ q ∈ led', q ∈ led₁ := h₁
  generalize (fun z => if z = ("octets" : Str) then some v1 else if z = ("member" : Str) then some v0 else m₂ z) = m₃ at Z hm D NK NM NO
  clear r0 r1 h₁
  refine law_assign R Z rfl rfl rfl (.item (.item (.nm D.pairs rfl) (.inl rfl) (.nm NK rfl) (range_at hi) hi1) (.inl rfl) (.cint (i := (1 : Nat))) rfl (by decide)) fun s' ps' led₂ v R Z hs' rv => ?_
  replace hm : ∀ y, y ∉ LV → (fun z => if z = ("score" : Str) then some v else m₃ z) y = m y := fun y hy => (if_neg fun e => hy (by rw [e]; decide)).trans (hm y hy)
  replace D := (D.mono hs').to (m' := fun z => if z = ("score" : Str) then some v else m₃ z) fun y hy => if_neg fun e => hy (by rw [e]; decide)
  replace NK := (NK.mono hs').to (m' := fun z => if z = ("score" : Str) then some v else m₃ z) rfl
  replace NM := (NM.mono hs').to (m' := fun z => if z = ("score" : Str) then some v else m₃ z) rfl
  replace NO := (NO.mono hs').to (m' := fun z => if z = ("score" : Str) then some v else m₃ z) rfl
  have NS : NameAt (fun z => if z = ("score" : Str) then some v else m₃ z) led₂ "score" (.flt (F4 (q i))) := ⟨v, if_pos rfl, rv⟩
  replace H : ∀ q ∈ led', q ∈ led₂ := fun q hq => hs' q (H q hq)
  generalize (fun z => if z = ("score" : Str) then some v else m₃ z) = m₄ at Z hm D NK NM NO NS
  clear rv hs'
  refine law_assign R Z rfl rfl rfl (.item (.item (.nm D.elder rfl) (.inl rfl) (.nm NK rfl) (range_at hi) hi1) (.inr rfl) (.cint (i := (1 : Nat))) rfl (by decide)) fun s' ps' led₃ v R Z hs' rv => ?_
  replace hm : ∀ y, y ∉ LV → (fun z => if z = ("had" : Str) then some v else m₄ z) y = m y := fun y hy => (if_neg fun e => hy (by rw [e]; decide)).trans (hm y hy)
  replace D := (D.mono hs').to (m' := fun z => if z = ("had" : Str) then some v else m₄ z) fun y hy => if_neg fun e => hy (by rw [e]; decide)
  replace NK := (NK.mono hs').to (m' := fun z => if z = ("had" : Str) then some v else m₄ z) rfl
  replace NM := (NM.mono hs').to (m' := fun z => if z = ("had" : Str) then some v else m₄ z) rfl
  replace NO := (NO.mono hs').to (m' := fun z => if z = ("had" : Str) then some v else m₄ z) rfl
  replace NS := (NS.mono hs').to (m' := fun z => if z = ("had" : Str) then some v else m₄ z) rfl
  have NH : NameAt (fun z => if z = ("had" : Str) then some v else m₄ z) led₃ "had" (eldT way (q i)) := ⟨v, if_pos rfl, rv⟩
  replace H : ∀ q ∈ led', q ∈ led₃ := fun q hq => hs' q (H q hq)
  generalize (fun z => if z = ("had" : Str) then some v else m₄ z) = m₅ at Z hm D NK NM NO NS NH
  clear rv hs'
  refine law_assign R Z rfl rfl rfl (.item (.item (.nm D.newer rfl) (.inl rfl) (.nm NK rfl) (range_at hi) hi1) (.inl rfl) (.cint (i := (1 : Nat))) rfl (by decide)) fun s' ps' led₄ v R Z hs' rv => ?_
  replace hm : ∀ y, y ∉ LV → (fun z => if z = ("got" : Str) then some v else m₅ z) y = m y := fun y hy => (if_neg fun e => hy (by rw [e]; decide)).trans (hm y hy)
  replace D := (D.mono hs').to (m' := fun z => if z = ("got" : Str) then some v else m₅ z) fun y hy => if_neg fun e => hy (by rw [e]; decide)
  replace NK := (NK.mono hs').to (m' := fun z => if z = ("got" : Str) then some v else m₅ z) rfl
  replace NM := (NM.mono hs').to (m' := fun z => if z = ("got" : Str) then some v else m₅ z) rfl
  replace NO := (NO.mono hs').to (m' := fun z => if z = ("got" : Str) then some v else m₅ z) rfl
  replace NS := (NS.mono hs').to (m' := fun z => if z = ("got" : Str) then some v else m₅ z) rfl
  replace NH := (NH.mono hs').to (m' := fun z => if z = ("got" : Str) then some v else m₅ z) rfl
  have NG : NameAt (fun z => if z = ("got" : Str) then some v else m₅ z) led₄ "got" (newT way (q i)) := ⟨v, if_pos rfl, rv⟩
  replace H : ∀ q ∈ led', q ∈ led₄ := fun q hq => hs' q (H q hq)
  generalize (fun z => if z = ("got" : Str) then some v else m₅ z) = m₆ at Z hm D NK NM NO NS NH NG
  clear rv hs'
  refine law_if R Z (.nq C (.ck C (lg107 w) (lf107 w) rfl (by decide) rfl (by decide) D.asked (fc107o hw (hq i)) (.list (.cons (.nm NM rfl) (.cons (.nm NS rfl) .nil)))) (.list (.cons (.item (.nm D.elder rfl) (.inl rfl) (.nm NK rfl) (range_at hi) hi1) .nil)) (deep_one'' (deep_eldT _ _) rfl) (.inl ⟨_, rfl⟩)) fun s' ps' ledx R Z' hs' => ?_
  replace D := D.mono hs'
  replace NK := NK.mono hs'
  replace NM := NM.mono hs'
  replace NO := NO.mono hs'
  replace NS := NS.mono hs'
  replace NH := NH.mono hs'
  replace NG := NG.mono hs'
  replace Z := Z'
  replace H : ∀ q ∈ led', q ∈ ledx := fun q hq => hs' q (H q hq)
  clear hs' Z'
  refine law_if R Z (.nq C (.ck C (lg102 w) (lf102 w) rfl (by decide) rfl (by decide) D.asked (fc102o hw (hq i)) (.list (.cons (.nm NM rfl) (.cons (.nm NS rfl) .nil)))) (.list (.cons (.item (.nm D.newer rfl) (.inl rfl) (.nm NK rfl) (range_at hi) hi1) .nil)) (deep_one' (deep_newT _ _) rfl) (.inl ⟨_, rfl⟩)) fun s' ps' ledx R Z' hs' => ?_
  replace D := D.mono hs'
  replace NK := NK.mono hs'
  replace NM := NM.mono hs'
  replace NO := NO.mono hs'
  replace NS := NS.mono hs'
  replace NH := NH.mono hs'
  replace NG := NG.mono hs'
  replace Z := Z'
  replace H : ∀ q ∈ led', q ∈ ledx := fun q hq => hs' q (H q hq)
  clear hs' Z'
  refine law_if R Z (.nq C (.ck C (lg42 w) (lf42 w) rfl (by decide) rfl (by decide) D.ranked (fc42 hw (hq i)) (.list (.cons (.nm NK rfl) (.cons (.nm NO rfl) .nil)))) (.list (.cons (.nm NK rfl) (.cons (.nm NH rfl) .nil))) (deep_one (deep_eldT _ _) rfl) (.inl ⟨_, rfl⟩)) fun s' ps' ledx R Z' hs' => ?_
  replace D := D.mono hs'
  replace NK := NK.mono hs'
  replace NM := NM.mono hs'
  replace NO := NO.mono hs'
  replace NS := NS.mono hs'
  replace NH := NH.mono hs'
  replace NG := NG.mono hs'
  replace Z := Z'
  replace H : ∀ q ∈ led', q ∈ ledx := fun q hq => hs' q (H q hq)
  clear hs' Z'
  refine law_if R Z (.nq C (.ck C (lg80 w) (lf80 w) rfl (by decide) rfl (by decide) D.ranked (fc80 hw (hq i)) (.list (.cons (.nm NK rfl) (.cons (.nm NS rfl) .nil)))) (.list (.cons (.nm NK rfl) (.cons (.nm NH rfl) .nil))) (deep_one (deep_eldT _ _) rfl) (.inl ⟨_, rfl⟩)) fun s' ps' ledx R Z' hs' => ?_
  replace D := D.mono hs'
  replace NK := NK.mono hs'
  replace NM := NM.mono hs'
  replace NO := NO.mono hs'
  replace NS := NS.mono hs'
  replace NH := NH.mono hs'
  replace NG := NG.mono hs'
  replace Z := Z'
  replace H : ∀ q ∈ led', q ∈ ledx := fun q hq => hs' q (H q hq)
  clear hs' Z'
  refine law_if R Z (.nq C (.ck C (lg92 w) (lf92 w) rfl (by decide) rfl (by decide) D.ranked (fc92 hw (hq i)) (.list (.cons (.nm NK rfl) (.cons (.nm NO rfl) .nil)))) (.list (.cons (.nm NK rfl) (.cons (.nm NG rfl) .nil))) (deep_one (deep_newT _ _) rfl) (.inl ⟨_, rfl⟩)) fun s' ps' ledx R Z' hs' => ?_
  replace D := D.mono hs'
  replace NK := NK.mono hs'
  replace NM := NM.mono hs'
  replace NO := NO.mono hs'
  replace NS := NS.mono hs'
  replace NH := NH.mono hs'
  replace NG := NG.mono hs'
  replace Z := Z'
  replace H : ∀ q ∈ led', q ∈ ledx := fun q hq => hs' q (H q hq)
  clear hs' Z'
  refine law_if R Z (.nq C (.ck C (lg54 w) (lf54 w) rfl (by decide) rfl (by decide) D.ranked (fc54 hw (hq i)) (.list (.cons (.nm NK rfl) (.cons (.nm NS rfl) .nil)))) (.list (.cons (.nm NK rfl) (.cons (.nm NG rfl) .nil))) (deep_one (deep_newT _ _) rfl) (.inl ⟨_, rfl⟩)) fun s' ps' ledx R Z' hs' => ?_
  replace D := D.mono hs'
  replace NK := NK.mono hs'
  replace NM := NM.mono hs'
  replace NO := NO.mono hs'
  replace NS := NS.mono hs'
  replace NH := NH.mono hs'
  replace NG := NG.mono hs'
  replace Z := Z'
  replace H : ∀ q ∈ led', q ∈ ledx := fun q hq => hs' q (H q hq)
  clear hs' Z'
  refine law_if R Z (.or (.nq C (.ck C (lg42 w) (lf42 w) rfl (by decide) rfl (by decide) D.asked (fc42b hw) (.nm NK rfl)) (.nm NK rfl) (Nat.zero_le _) (.inr (.inr ⟨_, rfl⟩)))
    (.isnt (.ck C (lg92 w) (lf92 w) rfl (by decide) rfl (by decide) D.ranked (fc92b hw) .non))) fun s' ps' ledx R Z' hs' => ?_
  replace D := D.mono hs'
  replace NK := NK.mono hs'
  replace NM := NM.mono hs'
  replace NO := NO.mono hs'
  replace NS := NS.mono hs'
  replace NH := NH.mono hs'
  replace NG := NG.mono hs'
  replace Z := Z'
  replace H : ∀ q ∈ led', q ∈ ledx := fun q hq => hs' q (H q hq)
  clear hs' Z'
  refine law_if R Z (.nq C (.cl C (lg114 w) (lf114 w) rfl (by decide) (fc114 (hq i) (.inl rfl)) (.list (.cons .cbytes (.cons (.nm NM rfl) (.cons (.nm NO rfl) .nil))))) (.list (.cons .cbytes (.cons (.nm NM rfl) (.cons (.nm NS rfl) .nil)))) (by simp only [T.deep, T.deeps]; decide) (.inl ⟨_, rfl⟩)) fun s' ps' ledx R Z' hs' => ?_
  replace D := D.mono hs'
  replace NK := NK.mono hs'
  replace NM := NM.mono hs'
  replace NO := NO.mono hs'
  replace NS := NS.mono hs'
  replace NH := NH.mono hs'
  replace NG := NG.mono hs'
  replace Z := Z'
  replace H : ∀ q ∈ led', q ∈ ledx := fun q hq => hs' q (H q hq)
  clear hs' Z'
  refine law_if R Z (.nq C (.cl C (lg114 w) (lf114 w) rfl (by decide) (fc114 (hq i) (.inr rfl)) (.list (.cons .cbytes (.cons (.nm NM rfl) (.cons (.nm NS rfl) .nil))))) (.list (.cons .cbytes (.cons (.nm NM rfl) (.cons (.nm NS rfl) .nil)))) (by simp only [T.deep, T.deeps]; decide) (.inl ⟨_, rfl⟩)) fun s' ps' ledx R Z' hs' => ?_
  replace D := D.mono hs'
  replace NK := NK.mono hs'
  replace NM := NM.mono hs'
  replace NO := NO.mono hs'
  replace NS := NS.mono hs'
  replace NH := NH.mono hs'
  replace NG := NG.mono hs'
  replace Z := Z'
  replace H : ∀ q ∈ led', q ∈ ledx := fun q hq => hs' q (H q hq)
  clear hs' Z'
  refine law_if R Z (.nq C (.cl C (lg121 w) (lf121 w) rfl (by decide) (fc121 (hq i) (.inr rfl)) (.list (.cons .cbytes (.cons (.nm NM rfl) (.cons (.nm NS rfl) .nil))))) (.tuple (.cons .cbytes (.cons (.nm NM rfl) (.cons (.nm NS rfl) .nil)))) (by simp only [T.deep, T.deeps]; decide) (.inr (.inl ⟨_, rfl⟩))) fun s' ps' ledx R Z' hs' => ?_
  replace D := D.mono hs'
  replace NK := NK.mono hs'
  replace NM := NM.mono hs'
  replace NO := NO.mono hs'
  replace NS := NS.mono hs'
  replace NH := NH.mono hs'
  replace NG := NG.mono hs'
  replace Z := Z'
  replace H : ∀ q ∈ led', q ∈ ledx := fun q hq => hs' q (H q hq)
  clear hs' Z'
  exact c_execs_nil ⟨rfl, _, _, _, R, Z, H, hm⟩
end
end Mine
end
section
open PySem PySem.W PyProof.Rows PySem.Calls PySem.Flt
open PyProof.Rows.TI (Frs SameUp)
open PyProof.Rows.LCg (lst NsObj ns_obj lst_snoc)
set_option maxRecDepth 100000
set_option maxHeartbeats 400000
namespace Mine
section
variable {w : World} {p : Program} {loose : List Str} {mean : ExcName → Option Value} {mg mb : Str → Option Value} {dp un : Nat} {gd : Option (List Code)} {A : Around} {g : Heap} {L : Addr} {cd : Value} {m : Str → Option Value} {led₀ led : List (Addr × Obj)} {ps : Array Value} {e : Expr} {t t2 : T} {s₀ s : Shared} {Q : Flow → Shared → Prop} {way n : Nat} {B : Nat → Array UInt8} {q : Nat → Int}
/-- how the law ends -/
def LEnd (g : Heap) (L : Addr) (s₀ : Shared) (f : Flow) (s : Shared) : Prop := f = .ret (.bool true) ∧ Rest s₀ s ∧ ∃ ps led m, LSt g L m ps led s
theorem fc97e : FC w p loose mean mg mb led₀ 97 [] (.lst []) (.lst []) := fun ps led v _ hl R => by
  have := zpop_unified_ct (w := w) (p := p) (loose := loose) (mean := mean) (mg := mg) (mb := mb) (way := 0) (n := 0) (t1 := fun _ => .none) (q := fun _ => 0) (kw := []) (by decide) (fun _ => ⟨by decide, by decide⟩) hl (by simpa using R) (askK_ok (way := 0) (by decide))
  simpa using this
theorem LE.use {env : Env} {Q : Value → Shared → Prop} (h : LE w A g L m led₀ env e t) (hs : ∀ q ∈ led₀, q ∈ led) (Z : LSt g L m ps led s)
    (k : ∀ r h' tk' ps' led', LSt g L m ps' led' { s with heap := h', toks := tk' } → (∀ q ∈ led, q ∈ led') → Rep led' r t → Q r { s with heap := h', toks := tk' }) : wpC (model PG w) A (eval e env) Q NE s := h ps led s Q hs Z k
theorem law_ret (C : LCx w p loose mean mg mb g dp un) (R : Rest s₀ s) (Z : LSt g L m ps led s) :
    wpC (model PG w) (aT none dp un gd [lawE L cd]) (execs (lawD.body.drop 26) (lawE L cd)) (LEnd g L s₀) NE s := by
  refine c_execs_cons (c_Return (c_And2 (c_Compare1 ?_ (by with_unfolding_all rfl))))
  refine LE.use (led₀ := led) (t := .none) (.cl C (lg114 w) (lf114 w) rfl (by decide) fc114n .non) (fun _ x => x) Z fun v h₁ tk₁ ps₁ led₁ Z₁ s₁ R₁ => ?_
  cases R₁
  refine .any (Constant_none (is_none_none (wpAny_truthy_bool ⟨rfl, ?_⟩)))
  refine c_Compare1 ?_ (by with_unfolding_all rfl)
  refine LE.use (led₀ := led₁) (t := .lst []) (.cl C (lg97 w) (lf97 w) rfl (by decide) fc97e (.list .nil)) (fun _ x => x) Z₁ fun v h₂ tk₂ ps₂ led₂ Z₂ s₂ R₂ => ?_
  refine LE.use (led₀ := led₂) (t := .lst []) (.list .nil) (fun _ x => x) Z₂ fun v' h₃ tk₃ ps₃ led₃ Z₃ s₃ R₃ => ?_
  refine rep_eq_lst (led := led₃) (Z₃.booked C.G) (fun q hq => Z₃.Z.toks q (.tail _ hq)) (R₂.mono s₃) R₃ (by have := C.hu; show un + 0 + 1 < cLine; omega) ?_
  exact ⟨rfl, ((R.step h₁ tk₁).step h₂ tk₂).step h₃ tk₃, ps₃, led₃, m, Z₃⟩
/-- from the data laid out on -/
theorem law_asks (C : LCx w p loose mean mg mb g dp un) (D : LData w m led way n B q) (R : Rest s₀ s) (Z : LSt g L m ps led s) :
    wpC (model PG w) (aT none dp un gd [lawE L cd]) (execs (lawD.body.drop 14) (lawE L cd)) (LEnd g L s₀) NE s := by
  refine law_ifs1 C D R Z fun s' ps' led' R Z hs => ?_
  replace D := D.mono hs
  refine law_ifs2 C D R Z fun s' ps' led' R Z hs => ?_
  replace D := D.mono hs
  refine law_loop C D R Z fun s' ps' led' m' R Z hs hm => ?_
  exact law_ret C R Z
end
end Mine
end
section
open PySem PySem.W PyProof.Rows PySem.Calls PySem.Flt
open PyProof.Rows.TI (Frs SameUp)
open PyProof.Rows.LCg (lst NsObj ns_obj lst_snoc)
set_option maxRecDepth 100000
set_option maxHeartbeats 400000
namespace Mine
section
variable {w : World} {p : Program} {loose : List Str} {mean : ExcName → Option Value} {mg mb : Str → Option Value} {dp un : Nat} {gd : Option (List Code)} {A : Around} {g : Heap} {L : Addr} {cd : Value} {m : Str → Option Value} {led₀ led X : List (Addr × Obj)} {ps : Array Value} {env : Env} {e elt : Expr} {t t2' : T} {s₀ s : Shared} {Q : Flow → Shared → Prop} {way n : Nat} {B : Nat → Array UInt8} {q : Nat → Int} {rest : List Stmt} {scope : Scope} {cl : List (Str × Addr)}
/-- x = [elt for a, b in rows] -/
theorem law_compPairs {x xr na nb : Str} {p1 p2 pos pa pb tpos pr : Pos} {kk : Nat} {tp : List T → T} {t1 t2 ts : Nat → T} (htp : tp = T.lst ∨ tp = T.tup) (hh : A.handled = none) (hab : na ≠ nb) (N : NameAt m led xr (.lst ((List.range n).map fun i => tp [t1 i, t2 i]))) (hr : env.kindOf xr = some .local) (hdr : (xr == ("__debug__" : Str)) = false) (hsz : n ≤ 1000)
    (R : Rest s₀ s) (Z : LSt g L m ps led s) (hL : env.locals = L) (hk : env.scope.kind = .function) (hx : env.kindOf x = some .local)
    (hclos : closureFor scope env = pure cl) (hcell : ∀ y ∈ scope.names, y.2 ≠ .cell) (hkind : scope.kind = .function) (hnames : ∀ y ∈ scope.names, y.2 = .local → scope.names.lookup y.1 = some .local) (hloc : ∀ y ∈ [na, nb], scope.names.lookup y = some .local)
    (helt : ∀ i, i < n → ∀ v₁ v₂ s', Rep ((16, tabObj ps) :: led) v₁ (t1 i) → Rep ((16, tabObj ps) :: led) v₂ (t2 i) → EltK PG w A g [] [] L m env elt scope cl s' ((16, tabObj ps) :: led) (fun m₂ => m₂ na = some v₁ ∧ m₂ nb = some v₂) (ts i))
    (k : ∀ s' led' v, Rest s₀ s' → LSt g L (fun z => if z = x then some v else m z) ps led' s' → (∀ q ∈ led, q ∈ led') → Rep led' v (.lst ((List.range n).map ts)) → wpC (model PG w) A (execs rest env) Q NE s')
    (hsw : swapsWith (.ListComp elt [⟨.Tuple [.Name na pa, .Name nb pb] kk tpos, .Name xr pr, [], 0⟩] scope pos) (some (.Name x p1)) p2.line env = pure true := by rfl) :
    wpC (model PG w) A (execs (.Assign [.Name x p1] (.ListComp elt [⟨.Tuple [.Name na pa, .Name nb pb] kk tpos, .Name xr pr, [], 0⟩] scope pos) p2 :: rest) env) Q NE s := by
  subst hL
  obtain ⟨v, hm, Rv⟩ := N
  obtain ⟨a, v₁, v₂, rfl, PA, hv⟩ := rep_pairs htp Rv
  obtain ⟨oa, ka, its, pr, pf, h1, h2, h3, h4, h5⟩ := PA.of
  have gm : ∀ q ∈ led, s.heap.get? q.1 = some q.2 := fun q hq => Z.Z.toks q (.tail _ hq)
  have lt : ∀ q ∈ (16, tabObj ps) :: led, q.1 < s.heap.objs.size := fun q hq => Heap.lt_size (Z.Z.toks q hq)
  subst h4
  refine law_comp R Z rfl hk hx hclos hcell hkind hnames hsz (n_local Z.Z.F.ns hm ?_ hk hr hdr) k hsw (by intro _; rfl)
  refine wpAny_pyIter_list (s := s) (items := its.toArray) ⟨oa, gm _ h1, h2, ka, h3⟩ ⟨by obtain ⟨_, _, rfl⟩ := R; exact ⟨_, _, rfl⟩, ?_⟩
  refine ⟨s.heap.objs.size, _, _, _, _, _, rfl, src_pairs (kk := kk) hh hab s.heap.objs.size a its pr v₁ v₂ pf (Nat.ne_of_lt (lt _ (.tail _ h1))) (fun i hi => Nat.ne_of_lt (lt _ (.tail _ (h5 i hi).2.1))) (fun i hi => (h5 i hi).1) (fun i hi => (h5 i hi).2.2), hloc, ⟨?_, ?_, fun j hj => ?_⟩, fun b hb => ?_, ?_, fun q hq hw => ?_, Z.tk, fun i hi => ?_⟩
  · exact ⟨_, Heap.get?_push_size _ rfl, rfl, rfl⟩
  · exact ⟨oa, Heap.get?_push_of_some _ (gm _ h1), h2, ka, h3⟩
  · exact Heap.get?_push_of_some _ (gm _ (h5 j hj).2.1)
  · have mem : ∀ q ∈ led, (∃ o, (s.heap.push { cls := .type "list_iterator", dict := none, data := .fields #[.ref a, .int 0 0] }).get? q.1 = some o) ∧ q.1 ≠ env.locals ∧ g.get? q.1 = none ∧ ∀ y ∈ ([] : List (Addr × Obj)), q.1 ≠ y.1 := fun q hq =>
      ⟨⟨_, Heap.get?_push_of_some _ (gm q hq)⟩, (Z.Z.N q (List.mem_append_left _ (.tail _ hq))).2.1, (Z.Z.N q (List.mem_append_left _ (.tail _ hq))).2.2, fun _ h => absurd h List.not_mem_nil⟩
    rcases List.mem_cons.mp hb with rfl | hb
    · exact ⟨⟨_, Heap.get?_push_size _ rfl⟩, Nat.ne_of_gt Z.Z.F.ns.lt, Heap.get?_none_of_le (Nat.le_trans Z.Z.F.above (Nat.le_of_lt Z.Z.F.ns.lt)), fun y hy => absurd hy List.not_mem_nil⟩
    · rcases List.mem_cons.mp hb with rfl | hb
      · exact mem _ h1
      · obtain ⟨j, hj, rfl⟩ := List.mem_map.mp hb
        exact mem _ (h5 j (List.mem_range.mp hj)).2.1
  · exact (Z.Z.push { cls := .type "list_iterator", dict := none, data := .fields #[.ref a, .int 0 0] }).perm fun q hq => .tail _ hq
  · exact Nat.ne_of_lt (lt q hq) (List.mem_singleton.mp hw)
  · exact helt i hi _ _ _ ((hv i hi).1.mono fun _ x => .tail _ x) ((hv i hi).2.mono fun _ x => .tail _ x)
theorem Rep.leafs {led' : List (Addr × Obj)} {v : Value} {t : T} (h : Rep X v t) (hd : t.deep = 0) : Rep led' v t := by
  match h with
  | .none => exact .none
  | .int i t => exact .int i t
  | .flt f t a b => exact .flt f t a b
  | .by b t => exact .by b t
  | .tup _ _ _ _ => simp only [T.deep] at hd; omega
  | .lst _ _ _ _ => simp only [T.deep] at hd; omega
theorem ln168 (w : World) : nsIn (Mine.hd.heap_39 w.params) mainGlobals ("_law_written" : Str) = some (some (.ref 168)) := by kernel_rfl
theorem ln175 (w : World) : nsIn (Mine.hd.heap_39 w.params) mainGlobals ("_law_had" : Str) = some (some (.ref 175)) := by kernel_rfl
theorem lf175 (w : World) : ((Mine.hd.heap_39 w.params).lookup 175).map (fun o => match o.data with | .func _ => true | _ => false) = some true := by kernel_rfl
/-- what the law has laid out: the rows -/
structure LRows (w : World) (L : Addr) (m : Str → Option Value) (led : List (Addr × Obj)) (way n : Nat) (B : Nat → Array UInt8) (q : Nat → Int) : Prop where
  asked : KwAt w m led "asked" (askK way)
  ranged : KwAt w m led "ranged" (askW way)
  ranked : KwAt w m led "ranked" (askR way)
  rows : NameAt m led "rows" (.lst ((List.range n).map fun i => .tup [bT B i, .int (q i)]))
  cell : ∃ oC u, (L + 1, oC) ∈ led ∧ oC.data = .cell (some (.int (way : Nat) u))
  hw : way ≤ 3
  hn : n ≤ 5
  hq : ∀ i, Qok (q i)
theorem LRows.step {m' : Str → Option Value} {led' : List (Addr × Obj)} {x : Str} (h : LRows w L m led way n B q) (hs : ∀ q ∈ led, q ∈ led') (he : ∀ y, y ≠ x → m' y = m y) (hx : x ∉ (["asked", "ranged", "ranked", "rows"] : List Str)) : LRows w L m' led' way n B q := by
  have nx : ∀ y : Str, y ∈ (["asked", "ranged", "ranked", "rows"] : List Str) → m' y = m y := fun y hy => he y fun e => hx (e ▸ hy)
  obtain ⟨oC, u, a, b⟩ := h.cell
  exact ⟨(h.asked.mono hs).to (nx _ (by decide)), (h.ranged.mono hs).to (nx _ (by decide)), (h.ranked.mono hs).to (nx _ (by decide)), (h.rows.mono hs).to (nx _ (by decide)), ⟨oC, u, hs _ a, b⟩, h.hw, h.hn, h.hq⟩
theorem rep_int {v : Value} {i : Int} (h : Rep X v (.int i)) : ∃ u, v = .int i u := by
  cases h; exact ⟨_, rfl⟩
/-- _law_had(quarters, way, eld) in a comprehension -/
theorem evc_had {pf p1 p2 p3 pos : Pos} {kk : Nat} {eld : Bool} {v₁ : Value} {u : Tok} {qi : Int} {oC : Obj} {tw : Tok} {nm : Str} (C : LCx w p loose mean mg mb g dp un) (hw : way ≤ 3) (hq : Qok qi) (hC : (L + 1, oC) ∈ X) (hoC : oC.data = .cell (some (.int (way : Nat) tw)))
    (hsc : scope.kind = .function) (hlq : scope.names.lookup ("quarters" : Str) = some .local)
    (kf : ∀ Cc, (compEnvC scope cl Cc (lawE L cd)).kindOf ("_law_had" : Str) = some .globalImplicit) (kw : ∀ Cc, (compEnvC scope cl Cc (lawE L cd)).kindOf ("way" : Str) = some .cell) (kc : ∀ Cc, (compEnvC scope cl Cc (lawE L cd)).cells.lookup ("way" : Str) = some (L + 1)) :
    EvC w (aT none dp un gd [lawE L cd]) g [] [] L m (lawE L cd) scope cl X (fun m₂ => m₂ nm = some v₁ ∧ m₂ ("quarters" : Str) = some (.int qi u)) (.Call (.Name "_law_had" pf) [.Name "quarters" p1, .Name "way" p2, .Constant (.bool eld) kk p3] [] pos) (fun r => Rep X r (if eld = true then eldT way qi else newT way qi)) := by
  intro X' Cc oCc m₂ hX hCc hN hP frs₁ s Q S Z htk k
  have hd := C.hd
  have hu := C.hu
  refine c_Call1 (nG Z.F C.G.X (topRead_of C.G.T) (ln175 w) ?_ rfl hsc (kf Cc)) rfl rfl
  refine c_spliced_cons (.any (n_local (hN.ns (Z.toks _ hCc)) hP.2 ?_ hsc (lookup_relabel_local hlq)))
  refine c_spliced_cons (.any (n_cell ⟨oC, Z.toks _ (hX _ hC), hoC⟩ ?_ hsc (kw Cc) (kc Cc)))
  refine c_spliced_cons (.any (Constant_bool (k := kk) (pos := p3) ?_))
  refine c_spliced_nil ⟨⟨.frame, .inl rfl, fn_frame (lf175 w) (C.G.X.keeps Z.F.keep)⟩, ?_⟩
  refine had_ct hw hq none dp un gd (lawE L cd) [] frs₁ g L m s _ _ (.inr rfl) C.G Z rfl rfl (by omega) (by omega) htk fun r led' h' tk' frs' S' Z' P t => ?_
  obtain ⟨R, rfl⟩ := P
  refine k r h' tk' frs' S' Z' (R.leafs ?_) t
  split
  · exact deep_eldT _ _
  · exact deep_newT _ _
/-- _law_written(quarters) in a comprehension -/
theorem evc_written {pf p1 pos : Pos} {v₁ : Value} {u : Tok} {qi : Int} {nm : Str} (C : LCx w p loose mean mg mb g dp un) (hq : Qok qi)
    (hsc : scope.kind = .function) (hlq : scope.names.lookup ("quarters" : Str) = some .local)
    (kf : ∀ Cc, (compEnvC scope cl Cc (lawE L cd)).kindOf ("_law_written" : Str) = some .globalImplicit) :
    EvC w (aT none dp un gd [lawE L cd]) g [] [] L m (lawE L cd) scope cl X (fun m₂ => m₂ nm = some v₁ ∧ m₂ ("quarters" : Str) = some (.int qi u)) (.Call (.Name "_law_written" pf) [.Name "quarters" p1] [] pos) (fun r => Rep X r (.by (Wt qi))) := by
  intro X' Cc oCc m₂ hX hCc hN hP frs₁ s Q S Z htk k
  have hd := C.hd
  have hu := C.hu
  refine c_Call1 (nG Z.F C.G.X (topRead_of C.G.T) (ln168 w) ?_ rfl hsc (kf Cc)) rfl rfl
  refine c_spliced_cons (.any (n_local (hN.ns (Z.toks _ hCc)) hP.2 ?_ hsc (lookup_relabel_local hlq)))
  refine c_spliced_nil ⟨⟨.frame, .inl rfl, fn_frame (fn168 w) (C.G.X.keeps Z.F.keep)⟩, ?_⟩
  refine written_ct hq none dp un gd (lawE L cd) [] frs₁ g L m s _ _ (.inr rfl) C.G Z rfl rfl (by omega) (by omega) htk fun r led' h' tk' frs' S' Z' P t => ?_
  obtain ⟨⟨u', rfl⟩, rfl⟩ := P
  exact k _ h' tk' frs' S' Z' (.by _ _) t
/-- quarters / 4 -/
theorem evc_quarter {p1 p2 pos : Pos} {kk : Nat} {v₁ : Value} {u : Tok} {qi : Int} {nm : Str} (hq : Qok qi) (hsc : scope.kind = .function) (hlq : scope.names.lookup ("quarters" : Str) = some .local) :
    EvC w A g [] [] L m (lawE L cd) scope cl X (fun m₂ => m₂ nm = some v₁ ∧ m₂ ("quarters" : Str) = some (.int qi u)) (.BinOp (.Name "quarters" p1) .Div (.Constant (.int 4) kk p2) pos) (fun r => Rep X r (.flt (F4 qi))) := by
  intro X' Cc oCc m₂ hX hCc hN hP frs₁ s Q S Z htk k
  refine .any (wpAny_BinOp (n_local (hN.ns (Z.toks _ hCc)) hP.2 (wpAny_Constant_int (int_div4 hq ?_)) hsc (lookup_relabel_local hlq)))
  exact k _ s.heap _ frs₁ (SameUp.refl _) Z (.flt _ _ (Nat.succ_ne_zero _) (F4_cmp hq)) (Nat.succ_pos _)
theorem law_data (C : LCx w p loose mean mg mb g dp un) (D : LRows w L m led way n B q) (R : Rest s₀ s) (Z : LSt g L m ps led s)
    (k : ∀ s' ps' led' m', Rest s₀ s' → LSt g L m' ps' led' s' → LData w m' led' way n B q → wpC (model PG w) (aT none dp un gd [lawE L cd]) (execs (lawD.body.drop 14) (lawE L cd)) Q NE s') :
    wpC (model PG w) (aT none dp un gd [lawE L cd]) (execs (lawD.body.drop 7) (lawE L cd)) Q NE s := by
  have hn := Nat.le_trans D.hn (by decide : 5 ≤ 1000)
  have hq := D.hq
  have hw := D.hw
  have goP : ∀ {m' : Str → Option Value} {led' : List (Addr × Obj)}, (∀ q ∈ led, q ∈ led') → ∀ q ∈ led, q ∈ led' := fun h => h
  refine law_compPairs (ts := bT B) (.inr rfl) rfl (by decide) D.rows rfl (by decide) hn R Z rfl rfl rfl rfl (by decide) rfl (by decide) (by decide) (fun i hi v₁ v₂ s' r1 r2 => ?_) fun s' led₁ v R Z hs rv => ?_
  · exact elt_ev (Ev.cvar (P := fun m₂ => m₂ _ = some v₁ ∧ m₂ _ = some v₂) (fun m₂ hm => hm.1) r1 rfl rfl)
  replace D := D.step (x := "members") (m' := fun z => if z = ("members" : Str) then some v else m z) hs (fun y hy => if_neg hy) (by decide)
  have NM : NameAt (fun z => if z = ("members" : Str) then some v else m z) led₁ "members" (.lst ((List.range n).map (bT B))) := ⟨v, if_pos rfl, rv⟩
  generalize (fun z => if z = ("members" : Str) then some v else m z) = m₁ at Z D NM
  clear rv hs goP
  refine law_compPairs (ts := fun i => .lst [bT B i, .flt (F4 (q i))]) (.inr rfl) rfl (by decide) D.rows rfl (by decide) hn R Z rfl rfl rfl rfl (by decide) rfl (by decide) (by decide) (fun i hi v₁ v₂ s' r1 r2 => ?_) fun s' led₂ v R Z hs rv => ?_
  · obtain ⟨u, rfl⟩ := rep_int r2
    exact elt_list2 (Ev.cvar (P := fun m₂ => m₂ _ = some v₁ ∧ m₂ _ = some _) (fun m₂ hm => hm.1) r1 rfl rfl) (evc_quarter (hq i) rfl rfl)
  replace D := D.step (x := "pairs") (m' := fun z => if z = ("pairs" : Str) then some v else m₁ z) hs (fun y hy => if_neg hy) (by decide)
  replace NM := (NM.mono hs).to (m' := fun z => if z = ("pairs" : Str) then some v else m₁ z) rfl
  have NP : NameAt (fun z => if z = ("pairs" : Str) then some v else m₁ z) led₂ "pairs" (pairsT n (bT B) q) := ⟨v, if_pos rfl, rv⟩
  generalize (fun z => if z = ("pairs" : Str) then some v else m₁ z) = m₂ at Z D NM NP
  clear rv hs
  refine law_compPairs (ts := fun i => .lst [bT B i, .by (Wt (q i))]) (.inr rfl) rfl (by decide) D.rows rfl (by decide) hn R Z rfl rfl rfl rfl (by decide) rfl (by decide) (by decide) (fun i hi v₁ v₂ s' r1 r2 => ?_) fun s' led₃ v R Z hs rv => ?_
  · obtain ⟨u, rfl⟩ := rep_int r2
    exact elt_list2 (Ev.cvar (P := fun m₂ => m₂ _ = some v₁ ∧ m₂ _ = some _) (fun m₂ hm => hm.1) r1 rfl rfl) (evc_written C (hq i) rfl rfl (fun _ => rfl))
  replace D := D.step (x := "written") (m' := fun z => if z = ("written" : Str) then some v else m₂ z) hs (fun y hy => if_neg hy) (by decide)
  replace NM := (NM.mono hs).to (m' := fun z => if z = ("written" : Str) then some v else m₂ z) rfl
  replace NP := (NP.mono hs).to (m' := fun z => if z = ("written" : Str) then some v else m₂ z) rfl
  have NW : NameAt (fun z => if z = ("written" : Str) then some v else m₂ z) led₃ "written" (writT n (bT B) q) := ⟨v, if_pos rfl, rv⟩
  generalize (fun z => if z = ("written" : Str) then some v else m₂ z) = m₃ at Z D NM NP NW
  clear rv hs
  -- flat
  refine c_execs_cons (c_emptyList Z.Z rfl rfl rfl fun F h₁ tk₁ hF Z₁ t₁ => ?_)
  replace R := R.step h₁ tk₁
  replace D := D.step (x := "flat") (led' := led₃) (m' := fun z => if z = ("flat" : Str) then some (.ref F) else m₃ z) (fun _ x => x) (fun y hy => if_neg hy) (by decide)
  replace NM := NM.to (m' := fun z => if z = ("flat" : Str) then some (.ref F) else m₃ z) rfl
  replace NP := NP.to (m' := fun z => if z = ("flat" : Str) then some (.ref F) else m₃ z) rfl
  replace NW := NW.to (m' := fun z => if z = ("flat" : Str) then some (.ref F) else m₃ z) rfl
  have hfl : (fun z => if z = ("flat" : Str) then some (Value.ref F) else m₃ z) "flat" = some (.ref F) := if_pos rfl
  have lgZ := Z.lg
  clear Z
  generalize (fun z => if z = ("flat" : Str) then some (Value.ref F) else m₃ z) = m₄ at Z₁ D NM NP NW hfl
  obtain ⟨vw, hvw, Rw⟩ := NW
  obtain ⟨aw, w₁, w₂, rfl, PA, hv⟩ := rep_pairs (tp := T.lst) (.inl rfl) Rw
  refine c_execs_cons (c_flatLoop (t1 := bT B) (t2 := fun i => .by (Wt (q i))) rfl (by decide) (by decide) (PA.mono fun _ x => .tail _ x) hn Z₁ hF hfl t₁ rfl rfl (List.forall_mem_cons.mpr ⟨rfl, List.forall_mem_cons.mpr ⟨rfl, fun _ h => absurd h List.not_mem_nil⟩⟩) rfl (by decide) (fun Q k => n_local Z₁.F.ns hvw (k _ (Nat.le_refl _)) rfl rfl)
    (fun i hi frs' led' m₂ S' hX ha hb => Ev.leaf (fun frs₁ s₁ Q Z k kq => n_local Z.F.ns ha (kq _ (Nat.le_refl _)) rfl rfl) ((hv i hi).1.mono fun _ x => .tail _ x))
    (fun i hi frs' led' m₂ S' hX ha hb => Ev.leaf (fun frs₁ s₁ Q Z k kq => n_local Z.F.ns hb (kq _ (Nat.le_refl _)) rfl rfl) ((hv i hi).2.mono fun _ x => .tail _ x)) (fun h₂ tk₂ ys m₅ frs₂ S₂ Z₂ hm₅ Rf t₂ => ?_))
  have e0 : frs₂ = [] := by cases frs₂ with | nil => rfl | cons _ _ => exact False.elim S₂
  subst e0
  replace R := R.step h₂ tk₂
  have Z : LSt g L m₅ ps ((F, lst ys) :: led₃) { s' with heap := h₂, toks := tk₂ } := ⟨Z₂.perm fun q hq => by
    rcases List.mem_cons.mp hq with rfl | hq
    · exact .tail _ (.head _)
    · rcases List.mem_cons.mp hq with rfl | hq
      · exact .head _
      · exact .tail _ (.tail _ hq), Lg.more (E := [(F, lst ys)]) lgZ fun q hq => by
        rw [List.mem_singleton.mp hq]
        exact (hF _ (.head _)).symm, t₂⟩
  have sub : ∀ q ∈ led₃, q ∈ (F, lst ys) :: led₃ := fun q hq => .tail _ hq
  have NF : NameAt m₅ ((F, lst ys) :: led₃) "flat" (flatT n (bT B) q) := ⟨_, (hm₅ _ (by decide)).trans hfl, rep_comp (ps := ps) (new := []) Rf⟩
  have NW' : NameAt m₅ ((F, lst ys) :: led₃) "written" (writT n (bT B) q) := ⟨_, (hm₅ _ (by decide)).trans hvw, Rw.mono sub⟩
  replace NM := (NM.mono sub).to (m' := m₅) (hm₅ _ (by decide))
  replace NP := (NP.mono sub).to (m' := m₅) (hm₅ _ (by decide))
  replace D : LRows w L m₅ ((F, lst ys) :: led₃) way n B q := by
    obtain ⟨oC, u, a, b⟩ := D.cell
    exact ⟨(D.asked.mono sub).to (hm₅ _ (by decide)), (D.ranged.mono sub).to (hm₅ _ (by decide)), (D.ranked.mono sub).to (hm₅ _ (by decide)), (D.rows.mono sub).to (hm₅ _ (by decide)), ⟨oC, u, sub _ a, b⟩, D.hw, D.hn, D.hq⟩
  dsimp only
  generalize (F, lst ys) :: led₃ = led₄ at Z D NM NP NF NW'
  generalize { s' with heap := h₂, toks := tk₂ } = s₅ at R Z ⊢
  clear Rf Z₂ Z₁ hm₅ sub lgZ hfl hv PA Rw hvw t₁ t₂ S₂
  refine law_compPairs (ts := fun i => .tup [bT B i, eldT way (q i)]) (.inr rfl) rfl (by decide) D.rows rfl (by decide) hn R Z rfl rfl rfl rfl (by decide) rfl (by decide) (by decide) (fun i hi v₁ v₂ s' r1 r2 => ?_) fun s' led₅ v R Z hs rv => ?_
  · obtain ⟨u, rfl⟩ := rep_int r2
    obtain ⟨oC, tw, c1, c2⟩ := D.cell
    exact elt_tuple2 (Ev.cvar (P := fun m₂ => m₂ _ = some v₁ ∧ m₂ _ = some _) (fun m₂ hm => hm.1) r1 rfl rfl) (evc_had (eld := true) C hw (hq i) (.tail _ c1) c2 rfl rfl (fun _ => rfl) (fun _ => rfl) (fun _ => rfl))
  replace D := D.step (x := "elder") (m' := fun z => if z = ("elder" : Str) then some v else m₅ z) hs (fun y hy => if_neg hy) (by decide)
  replace NM := (NM.mono hs).to (m' := fun z => if z = ("elder" : Str) then some v else m₅ z) rfl
  replace NP := (NP.mono hs).to (m' := fun z => if z = ("elder" : Str) then some v else m₅ z) rfl
  replace NF := (NF.mono hs).to (m' := fun z => if z = ("elder" : Str) then some v else m₅ z) rfl
  replace NW' := (NW'.mono hs).to (m' := fun z => if z = ("elder" : Str) then some v else m₅ z) rfl
  have NE' : NameAt (fun z => if z = ("elder" : Str) then some v else m₅ z) led₅ "elder" (eldsT way n (bT B) q) := ⟨v, if_pos rfl, rv⟩
  generalize (fun z => if z = ("elder" : Str) then some v else m₅ z) = m₆ at Z D NM NP NF NW' NE'
  clear rv hs
  refine law_compPairs (ts := fun i => .lst [bT B i, newT way (q i)]) (.inr rfl) rfl (by decide) D.rows rfl (by decide) hn R Z rfl rfl rfl rfl (by decide) rfl (by decide) (by decide) (fun i hi v₁ v₂ s' r1 r2 => ?_) fun s' led₆ v R Z hs rv => ?_
  · obtain ⟨u, rfl⟩ := rep_int r2
    obtain ⟨oC, tw, c1, c2⟩ := D.cell
    exact elt_list2 (Ev.cvar (P := fun m₂ => m₂ _ = some v₁ ∧ m₂ _ = some _) (fun m₂ hm => hm.1) r1 rfl rfl) (evc_had (eld := false) C hw (hq i) (.tail _ c1) c2 rfl rfl (fun _ => rfl) (fun _ => rfl) (fun _ => rfl))
  replace D := D.step (x := "newer") (m' := fun z => if z = ("newer" : Str) then some v else m₆ z) hs (fun y hy => if_neg hy) (by decide)
  exact k _ _ _ _ R Z ⟨D.asked, D.ranged, D.ranked, (NF.mono hs).to rfl, (NP.mono hs).to rfl, (NW'.mono hs).to rfl, (NM.mono hs).to rfl, (NE'.mono hs).to rfl, ⟨v, if_pos rfl, rv⟩, D.rows, hw, D.hn, hq⟩
end
end Mine
end
section
open PySem PySem.W PyProof.Rows PySem.Calls PySem.Flt
open PyProof.Rows.TI (Frs SameUp)
open PyProof.Rows.LCg (lst NsObj ns_obj lst_snoc)
set_option maxRecDepth 100000
set_option maxHeartbeats 400000
namespace Mine
section
variable {w : World} {A : Around}
/-- for k, x in enumerate(list) -/
theorem src_enum {a b : Str} {pa pb tp : Pos} {kk : Nat} (hh : A.handled = none) (hab : a ≠ b) {e it l : Addr} (d1 : e ≠ it) (d2 : l ≠ e) (d3 : l ≠ it) (vs : List Value) :
    Src PG w A (.Tuple [.Name a pa, .Name b pb] kk tp) e [e, it, l] [e, it] vs.length [a, b] (fun j m => (∃ u, m a = some (.int (j : Nat) u)) ∧ m b = vs[j]?)
      (fun j h => (∃ old, IsEnum h e it (j : Nat) old) ∧ h.IsListIter it l j ∧ h.IsList l vs.toArray) where
  sub := fun c hc => by simp at hc ⊢; rcases hc with rfl | rfl <;> simp
  frame := fun j h h' st hk => by
    obtain ⟨⟨old, s1⟩, s4, s5⟩ := st
    exact ⟨⟨old, hk e (by simp) _ s1⟩, s4.at fun o q => hk it (by simp) o q, s5.at fun o q => hk l (by simp) o q⟩
  live := fun j h st c hc => by
    obtain ⟨⟨old, s1⟩, ⟨o4, s4, _⟩, ⟨o5, s5, _⟩⟩ := st
    simp at hc
    rcases hc with rfl | rfl | rfl
    · exact ⟨_, s1⟩
    · exact ⟨_, s4⟩
    · exact ⟨_, s5⟩
  turn := fun j s cenv m₀ Q hj st hkind hloc hCf hnn hQ => by
    obtain ⟨⟨old, s1⟩, s4, s5⟩ := st
    have ka := hloc a (by simp)
    have kb := hloc b (by simp)
    have hp : (cenv.scope.kind == .class || (cenv.scope.kind == .module && cenv.locals != cenv.globals)) = false := by rw [hkind]; rfl
    have hC : cenv.locals ≠ e ∧ cenv.locals ≠ it ∧ cenv.locals ≠ l := by simpa using hCf
    have hx : vs.toArray[j]? = some vs[j] := by simp [hj]
    refine wpAny_pyNext_enum_item s1 s4 s5 hx d1 fun h' z1 i1 p1 sz1 k1 => ?_
    show wpAny _ _ (letOwnedTupleGo _ (.ref e) (.ref s.heap.objs.size)) _ _ _
    refine wpAny_letOwnedTupleGo_enum z1 fun h₂ z2 hs2 => ?_
    have helt : e < s.heap.objs.size := Heap.lt_size s1
    have p2 : IsTup h₂ s.heap.objs.size #[.int j s.toks, vs[j]] := ⟨_, hs2.extBut _ _ (Nat.ne_of_gt helt) p1, rfl, _, rfl⟩
    have k2 : ∀ c o, c ≠ e → c ≠ it → s.heap.get? c = some o → h₂.get? c = some o := fun c o c1 c2 q => hs2.extBut _ _ c1 (k1 c o c1 c2 q)
    have i2 : h₂.IsListIter it l (j + 1) := i1.extBut hs2.extBut d1.symm
    refine assign_Tuple_tuple hh p2 rfl rfl fun h₃ he => ?_
    have he' : ∀ c o, h₂.get? c = some o → h₃.get? c = some o := fun c o q => he c o (Nat.ne_of_lt (Heap.lt_size q)) q
    refine assignInOrder_cons (wpAny_assign_Name (wpAny_storeName_local ka (hnn.at' fun o q => he' _ o (k2 _ o hC.1 hC.2.1 q)) (fun h₄ hn₄ hs₄ => ?_) hp))
    refine assignInOrder_cons (wpAny_assign_Name (wpAny_storeName_local kb hn₄ (fun h₅ hn₅ hs₅ => ?_) hp))
    refine assignInOrder_nil ?_
    have up : ∀ c o, c ≠ cenv.locals → h₂.get? c = some o → h₅.get? c = some o := fun c o hc q => hs₅.extBut c o hc (hs₄.extBut c o hc (he' c o q))
    have e1 : ((j + 1 : Nat) : Int) = (j : Int) + 1 := by push_cast; rfl
    refine hQ h₅ _ _ hn₅ ⟨⟨s.toks, by simp [hab]⟩, by simp [hj]⟩ (fun x hx => ?_) ⟨⟨_, by rw [e1]; exact up _ _ hC.1.symm z2⟩, i2.at fun o q => up _ o hC.2.1.symm q, s5.at fun o q => up _ o hC.2.2.symm (k2 _ o d2 d3 q)⟩
      fun c o hc hc' q => up c o hc' (k2 c o (fun r => hc (by simp [r])) (fun r => hc (by simp [r])) q)
    have h1 : x ≠ b := fun q => hx (by simp [q])
    have h2 : x ≠ a := fun q => hx (by simp [q])
    simp [h1, h2]
  done := fun s Q st hQ => by
    obtain ⟨⟨old, s1⟩, s4, s5⟩ := st
    exact wpAny_pyNext_enum_end hh s1 s4 s5 (by simp) fun h' k => hQ h' s.toks fun b o hb q => k b o (fun r => hb (by simp [r])) q
  self := fun _ _ _ st hQ => by
    obtain ⟨⟨old, s1⟩, _⟩ := st
    exact wpAny_pyIter_enum s1 hQ
end
end Mine
end
section
open PySem PySem.W PyProof.Rows PySem.Calls PySem.Flt
open PyProof.Rows.TI (Frs SameUp)
open PyProof.Rows.LCg (lst NsObj ns_obj lst_snoc)
set_option maxRecDepth 100000
set_option maxHeartbeats 400000
namespace Mine
section
variable {w : World} {p : Program} {loose : List Str} {mean : ExcName → Option Value} {mg mb : Str → Option Value} {dp un : Nat} {gd : Option (List Code)} {A : Around} {g : Heap} {L : Addr} {cd : Value} {m : Str → Option Value} {led₀ led X : List (Addr × Obj)} {ps : Array Value} {env : Env} {e elt : Expr} {s₀ s : Shared} {Q : Flow → Shared → Prop} {rest : List Stmt}
/-- from the facts on the news back -/
theorem At.ofNews {h h' : Heap} {m' : Str → Option Value} (Z : At g [] [] L m X h) (F : Fr g L h' m') {Y : List (Addr × Obj)} (N : News g L h' Y) : At g [] [] L m' Y h' :=
  ⟨F, by rw [List.append_nil]; exact N, fun _ _ _ h => absurd h List.not_mem_nil, Z.Fs⟩
theorem At.nw {h : Heap} (Z : At g [] [] L m X h) : News g L h X := by
  have := Z.N
  rwa [List.append_nil] at this
theorem numbers_eval {sl : Addr} {its : Array Value} {xs : List Int} {p1 p2 p3 p4 p5 p6 p7 p8 p9 : Pos} {k1 k2 k3 : Nat} {Q : Value → Shared → Prop} (hL : env.locals = L) (hk : env.scope.kind = .function) (hx : env.kindOf "script" = some .local) (hm : m "script" = some (.ref sl)) (hsl : g.IsList sl its) (hi : IntsAre its.toList xs) (hxs : xs.length ≤ 63) (Z : At g [] [] L m X s.heap)
    (h : ∀ N vs o h' tk, o.cls = .type "list" → (∃ c, o.data = .seq (List.toArray vs) c) → At g [] [] L m ((N, o) :: X) h' → (∀ q ∈ X, q.1 ≠ N) → IntsAre vs ((xs ++ [0, 0, 0]).take 7) → Q (.ref N) { s with heap := h', toks := tk }) :
    wpAny (model PG w) A (eval (.Subscript (.BinOp (.Name "script" p1) .Add (.BinOp (.List [.Constant (.int 0) k1 p2] p3) .Mult (.Constant (.int 3) k2 p4) p5) p6) (.Slice none (some (.Constant (.int 7) k3 p7)) none p8) p9) env) Q NE s := by
  subst hL
  refine Subscript_ (wpAny_BinOp (n_local Z.F.ns hm ?_ hk hx))
  refine wpAny_BinOp (List_ (spliced_more (wpAny_Constant_int (spliced_none ?_))))
  refine wpAny_newObj_type ?_
  refine wpAny_Constant_int ?_
  have Z₁ := Z.push { cls := .type "list", dict := none, data := .seq [Value.int 0 s.toks].toArray }
  refine KM.mul (vs := [Value.int 0 s.toks]) (ns := [0]) (x := 3) Z₁.F Z₁.nw ⟨_, Heap.get?_push_size _ rfl, rfl, _, rfl⟩ (.cons 0 _ .nil) (by decide) (by decide) (by show 1 * 3 ≤ 2 ^ 24; decide) (fun D h' F' N' l1 hI _ _ _ _ _ => ?_)
  have Z₂ : At g [] [] env.locals m _ h' := Z₁.ofNews F' N'
  have hsl' : h'.IsList sl its.toList.toArray := by
    rw [Array.toArray_toList]
    exact hsl.at fun o e => F'.keep _ o e
  refine add_lists Z₂.F Z₂.nw hsl' ⟨_, Z₂.toks _ (.head _), rfl, _, rfl⟩ (fun h₂ F₂ N₂ => ?_) ?_
  · have Z₃ : At g [] [] env.locals m _ h₂ := Z₂.ofNews F₂ N₂
    refine wpAny_Slice (wpAny_pure (wpAny_Constant_int (k := k3) (pos := p7) (wpAny_pure ?_)))
    have I₃ : IntsAre (its.toList ++ (List.replicate (3 : Int).toNat [Value.int 0 s.toks]).flatten) (xs ++ [0, 0, 0]) := hi.append hI
    have hlen : (its.toList ++ (List.replicate (3 : Int).toNat [Value.int 0 s.toks]).flatten).length ≤ 66 := by
      rw [I₃.length, List.length_append]; show xs.length + 3 ≤ 66; omega
    have hl₃ : h₂.IsList h'.objs.size (its.toList ++ (List.replicate (3 : Int).toNat [Value.int 0 s.toks]).flatten).toArray := ⟨_, Z₃.toks _ (.head _), rfl, _, rfl⟩
    refine kba_turn (value' := .Name "x" ⟨0, 0, 0, 0⟩) (fun _ => rfl) ?_
    refine slice_listK (s := { s with heap := h₂, toks := s.toks + 1 + 1 + 1 }) (lo := none) (hi := some 7) hl₃ .none (.int 7 _) ?_ (by with_unfolding_all rfl) (fun _ => rfl) (by rw [List.size_toArray]; exact Nat.le_trans hlen (by rw [sizeLine_eq]; decide))
    have I₄ := kmk_upto I₃ (y := 7) (by decide)
    have Z₄ := (Z₃.push { cls := .type "slice", data := .fields #[.none, .int 7 (s.toks + 1 + 1), .none] }).push { cls := .type "list", data := .seq (slicePick (its.toList ++ (List.replicate (3 : Int).toNat [Value.int 0 s.toks]).flatten).toArray none (some 7) none) }
    rw [Heap.size_push] at Z₄
    have up : ∀ q ∈ X, q.1 < h₂.objs.size := fun q hq => Heap.lt_size (Z₃.toks q (.tail _ (.tail _ (.tail _ hq))))
    refine h _ (slicePick (its.toList ++ (List.replicate (3 : Int).toNat [Value.int 0 s.toks]).flatten).toArray none (some 7) none).toList { cls := .type "list", data := .seq (slicePick (its.toList ++ (List.replicate (3 : Int).toNat [Value.int 0 s.toks]).flatten).toArray none (some 7) none) } _ _ rfl ⟨_, by rw [Array.toArray_toList]⟩ (Z₄.perm fun q hq => ?_) (fun q hq => Nat.ne_of_lt (Nat.lt_succ_of_lt (up q hq))) I₄
    rcases List.mem_cons.mp hq with rfl | hq
    · exact .head _
    · exact .tail _ (.tail _ (.tail _ (.tail _ (.tail _ hq))))
  · have e1 : its.toList.length = xs.length := hi.length
    have e2 : (List.replicate (3 : Int).toNat [Value.int 0 s.toks]).flatten.length = 3 := rfl
    rw [e1, e2]
    exact Nat.le_trans (by omega : xs.length + 3 ≤ 66) (by rw [sizeLine_eq]; decide)
end
end Mine
end
section
open PySem PySem.W PyProof.Rows PySem.Calls PySem.Flt
open PyProof.Rows.TI (Frs SameUp)
open PyProof.Rows.LCg (lst NsObj ns_obj lst_snoc)
set_option maxRecDepth 100000
set_option maxHeartbeats 400000
namespace Mine
theorem ints_at {vs : List Value} {ns : List Int} (h : IntsAre vs ns) : ∀ {i : Nat} {a : Int}, ns[i]? = some a → ∃ t, vs[i]? = some (.int a t) := by
  induction h with
  | nil => intro i a h; simp at h
  | cons n t _ ih =>
    intro i a h
    cases i with
    | zero => simp at h; subst h; exact ⟨t, rfl⟩
    | succ i => simpa using ih (by simpa using h)
/-- the law's numbers -/
def nsOf (xs : List Int) : List Int := (xs ++ [0, 0, 0]).take 7
def nAt (xs : List Int) (i : Nat) : Int := (nsOf xs).getD i 0
def wayOf (xs : List Int) : Nat := (nAt xs 0 % 4).toNat
theorem ns_len (xs : List Int) : 3 ≤ (nsOf xs).length ∧ (nsOf xs).length ≤ 7 := by
  unfold nsOf
  rw [List.length_take, List.length_append]
  show 3 ≤ min 7 (xs.length + 3) ∧ _
  omega
theorem ns_get {xs : List Int} {i : Nat} (h : i < (nsOf xs).length) : (nsOf xs)[i]? = some (nAt xs i) := by
  unfold nAt
  rw [List.getElem?_eq_getElem h, List.getD_eq_getElem?_getD, List.getElem?_eq_getElem h]
  rfl
theorem way_le (xs : List Int) : wayOf xs ≤ 3 := by
  unfold wayOf
  omega
theorem way_int (xs : List Int) : (nAt xs 0).fmod 4 = ((wayOf xs : Nat) : Int) := by
  unfold wayOf
  rw [Int.fmod_eq_emod_of_nonneg _ (by decide), Int.toNat_of_nonneg (Int.emod_nonneg _ (by decide))]
section
variable {w : World} {p : Program} {loose : List Str} {mean : ExcName → Option Value} {mg mb : Str → Option Value} {dp un : Nat} {gd : Option (List Code)} {A : Around} {g : Heap} {L : Addr} {cd : Value} {m : Str → Option Value} {led₀ led X : List (Addr × Obj)} {ps : Array Value} {env : Env} {e elt : Expr} {s₀ s : Shared} {Q : Flow → Shared → Prop} {rest : List Stmt}
theorem law_S01 {sl : Addr} {its : Array Value} {xs : List Int} {oC : Obj} {v₀ : Option Value} (hm : m "script" = some (.ref sl)) (hsl : g.IsList sl its) (hi : IntsAre its.toList xs) (hxs : xs.length ≤ 63) (Z : At g [] [] L m [(16, tabObj #[]), (L + 1, oC)] s.heap) (hoC : oC.data = .cell v₀) (h16 : (16 : Addr) ≠ L + 1)
    (k : ∀ s' N oN vs oC' u, Rest s s' → LSt g L (fun z => if z = "numbers" then some (.ref N) else m z) #[] [(N, oN), (L + 1, oC')] s' → oC'.data = .cell (some (.int (wayOf xs : Nat) u)) → oN.cls = .type "list" → (∃ c, oN.data = .seq (List.toArray vs) c) → IntsAre vs (nsOf xs) → N ≠ L + 1 → wpC (model PG w) (aT none dp un gd [lawE L cd]) (execs (lawD.body.drop 2) (lawE L cd)) Q NE s') :
    wpC (model PG w) (aT none dp un gd [lawE L cd]) (execs (lawD.body.drop 0) (lawE L cd)) Q NE s := by
  refine c_execs_cons (c_Assign (.any (numbers_eval (env := lawE L cd) rfl rfl rfl hm hsl hi hxs Z fun N vs oN h₁ tk₁ oc od Z₁ hN I₁ => ?_)) rfl)
  refine wpAny_storeName_local rfl Z₁.F.ns (fun h₂ hn₂ hs₂ => ?_) rfl
  have Z₂ := Z₁.set hn₂ hs₂
  have n16 : (16 : Addr) ≠ N := hN _ (.head _)
  have nC : L + 1 ≠ N := hN (L + 1, oC) (.tail _ (.head _))
  obtain ⟨t0, ht0⟩ := ints_at I₁ (ns_get (xs := xs) (i := 0) (by have := (ns_len xs).1; omega))
  obtain ⟨c, od⟩ := od
  refine c_execs_cons (c_Assign (.any (wpAny_BinOp (Subscript_ (n_local Z₂.F.ns (if_pos rfl) (wpAny_Constant_int (item_listX (l := vs) ⟨oN, Z₂.toks _ (.head _), oc, c, od⟩ (by decide) (by decide) ht0 (fun _ _ _ => by with_unfolding_all rfl) (wpAny_Constant_int (int_mod4 ?_)))) rfl rfl)))) rfl)
  rw [way_int]
  refine wpAny_storeName_cell (c := L + 1) (v₀ := v₀) rfl rfl rfl ⟨oC, Z₂.toks _ (.tail _ (.tail _ (.head _))), hoC⟩ fun h₃ hc₃ hs₃ => ?_
  obtain ⟨oC', gC', hoC'⟩ := hc₃
  have Z₃ := At.cell (E := [(N, oN), (16, tabObj #[])]) (led := []) Z₂ hs₃ gC' (fun q hq => by
    simp only [List.append_nil, List.mem_cons, List.not_mem_nil, or_false] at hq
    rcases hq with rfl | rfl
    · exact nC.symm
    · exact h16)
  refine k _ N oN vs oC' _ ⟨h₃, _, rfl⟩ ⟨Z₃.perm fun q hq => ?_, ⟨.inl rfl, fun q hq => ?_⟩, Nat.succ_pos _⟩ hoC' oc ⟨c, od⟩ I₁ nC.symm
  · simp only [List.mem_cons, List.not_mem_nil, or_false] at hq
    rcases hq with rfl | rfl | rfl
    · exact .tail _ (.head _)
    · exact .head _
    · exact .tail _ (.tail _ (.head _))
  · simp only [List.mem_cons, List.not_mem_nil, or_false] at hq
    rcases hq with rfl | rfl
    · exact n16.symm
    · exact h16.symm
end
end Mine
end
section
open PySem PySem.W PyProof.Rows PySem.Calls PySem.Flt
open PyProof.Rows.TI (Frs SameUp)
open PyProof.Rows.LCg (lst NsObj ns_obj lst_snoc)
set_option maxRecDepth 100000
set_option maxHeartbeats 400000
namespace Mine
theorem lkept (w : World) : nsIn (Mine.hd.heap_39 w.params) mainGlobals ("_law_kept" : Str) = some (some (.ref 156)) := by kernel_rfl
theorem lhalv (w : World) : nsIn (Mine.hd.heap_39 w.params) mainGlobals ("_law_halved" : Str) = some (some (.ref 163)) := by kernel_rfl
section
variable {w : World} {p : Program} {loose : List Str} {mean : ExcName → Option Value} {mg mb : Str → Option Value} {dp un : Nat} {gd : Option (List Code)} {A : Around} {g : Heap} {L : Addr} {cd : Value} {m : Str → Option Value} {led₀ led X : List (Addr × Obj)} {ps : Array Value} {env : Env} {e elt : Expr} {s₀ s : Shared} {Q : Flow → Shared → Prop} {rest : List Stmt}
theorem emptyDict_eval {E : Value → Shared → Prop} {pd : Pos} {Q : Value → Shared → Prop} (h : Q (.ref s.heap.objs.size) { s with heap := s.heap.push { cls := .type "dict", data := .dict #[] } }) : wpAny (model PG w) A (eval (.Dict [] [] pd) env) Q E s := by
  show wpAny (model PG w) A (do standAt pd; newObj (.type "dict") (.dict #[])) Q E s
  exact wpAny_bind (wpAny_standAt (wpAny_newObj_type h))
theorem empty_is : ({ cls := .type "dict", data := .dict #[] } : Obj).IsDictOf (KS w) [] := ⟨#[], 0, ⟨rfl, rfl, rfl⟩, rfl, fun _ he => by simp at he, .nil, by simp⟩
/-- the chosen def, written into the dict -/
theorem law_S23 {way : Nat} {oC : Obj} {u : Tok} (C : LCx w p loose mean mg mb g dp un) (R : Rest s₀ s) (Z : LSt g L m ps led s) (hC : (L + 1, oC) ∈ led) (hoC : oC.data = .cell (some (.int (way : Nat) u))) (hw : way ≤ 3)
    (k : ∀ s' D oD, Rest s₀ s' → LSt g L (fun z => if z = "asked" then some (.ref D) else m z) ps ((D, oD) :: led) s' → oD.IsDictOf (KS w) (askK way) → (D == sysModules) = false → (∀ q ∈ led, q.1 ≠ D) → wpC (model PG w) (aT none dp un gd [lawE L cd]) (execs (lawD.body.drop 4) (lawE L cd)) Q NE s') :
    wpC (model PG w) (aT none dp un gd [lawE L cd]) (execs (lawD.body.drop 2) (lawE L cd)) Q NE s := by
  have TR := topRead_of C.G.T
  refine c_execs_cons (c_Assign (.any (emptyDict_eval ?_)) rfl)
  have hsm : (s.heap.objs.size == sysModules) = false := Z.Z.F.notModules (modules_low C.G.T.nolimit)
  have hD : ∀ q ∈ (16, tabObj ps) :: led, q.1 ≠ s.heap.objs.size := fun q hq => Nat.ne_of_lt (Heap.lt_size (Z.Z.toks q hq))
  have Z₁ := Z.push { cls := .type "dict", data := .dict #[] }
  refine wpAny_storeName_local rfl Z₁.Z.F.ns (fun h₂ hn₂ hs₂ => ?_) rfl
  have Z₂ := LSt.set (s := s) Z₁ hn₂ hs₂ (tk' := s.toks)
  generalize hm' : (fun z => if z = ("asked" : Str) then some (Value.ref s.heap.objs.size) else m z) = m₂ at Z₂ hn₂
  have hma : m₂ "asked" = some (.ref s.heap.objs.size) := by rw [← hm']; exact if_pos rfl
  have k' := fun s' oD R Z hd => k s' s.heap.objs.size oD R (hm' ▸ Z) hd hsm fun q hq => hD q (.tail _ hq)
  clear k
  have gC := Z₂.Z.toks _ (.tail _ (.tail _ hC))
  refine c_execs_cons (c_If (.any (wpAny_isTrue_value (n_cell (c := L + 1) ⟨oC, gC, hoC⟩ (P.truthy_int ?_) rfl rfl rfl))))
  by_cases h0 : way = 0
  · subst h0
    rw [if_neg (by decide)]
    exact c_execs_nil (k' _ _ (R.step h₂ _) Z₂ empty_is)
  · rw [if_pos (by simpa using h0)]
    refine c_execs_cons (.any (wpAny_Assign_Subscript (Subscript_ (Tuple_ (spliced_more (nB Z₂.Z.F C.G.X TR (nint w) (v := .type "int") (by decide +kernel) (by decide) (spliced_more (nG Z₂.Z.F C.G.X TR (lkept w) (spliced_more (nG Z₂.Z.F C.G.X TR (lhalv w) (spliced_none ?_) rfl rfl rfl)) rfl rfl rfl)) rfl rfl rfl rfl)))) rfl))
    refine wpAny_newObj_type ?_
    have Z₃ := Z₂.push { cls := .type "tuple", data := .seq [Value.type "int", .ref 156, .ref 163].toArray }
    have gC₃ := Z₃.Z.toks _ (.tail _ (.tail _ (.tail _ hC)))
    refine wpAny_BinOp (n_cell (c := L + 1) ⟨oC, gC₃, hoC⟩ (wpAny_Constant_int (P.sub_int ?_)) rfl rfl rfl)
    have hi : [Value.type "int", .ref 156, .ref 163][way - 1]? = some (fv way) := by
      rcases way4 hw with rfl | rfl | rfl | rfl
      · exact absurd rfl h0
      all_goals rfl
    have e1 : ((way : Nat) : Int) - 1 = ((way - 1 : Nat) : Int) := by omega
    rw [e1]
    refine item_tupleX (IsTup.new _ _) (by omega) (by omega) (seqIndex_nat (by show way - 1 < 3; omega)) hi (fun _ _ _ => by with_unfolding_all rfl) ?_
    refine n_local Z₃.Z.F.ns hma (Constant_str ?_) rfl rfl
    have gD := Z₃.Z.toks _ (.tail _ (.tail _ (.head _)))
    refine wpAny_setItem_pairs (knd := KS w) (k := scn) (hsz := by show 0 ≤ sizeLine; exact Nat.zero_le _) (strKind_is _ _ _ _) (Heap.dictOf_iff.mpr ⟨_, gD, empty_is⟩) fun h₅ hmm hs₅ => ?_
    obtain ⟨oD, gD', hoD⟩ := Heap.dictOf_iff.mp hmm
    refine c_execs_nil (k' _ oD (R.step h₅ _) ⟨?_, ?_, Nat.succ_pos _⟩ ?_)
    · have := At.cell (E := [(16, tabObj ps)]) (led := led) (oC := { cls := .type "dict", data := .dict #[] }) (oC' := oD) (Z₃.Z.perm fun q hq => ?_) hs₅ gD' (fun q hq => ?_)
      · exact this
      · rcases List.mem_append.mp hq with hq | hq
        · rw [List.mem_singleton.mp hq]; exact .head _
        · exact .tail _ (.tail _ hq)
      · rcases List.mem_append.mp hq with hq | hq
        · rw [List.mem_singleton.mp hq]; exact hD _ (.head _)
        · exact hD q (.tail _ hq)
    · exact Lg.more (E := [(_, oD)]) Z.lg fun q hq => by
        rw [List.mem_singleton.mp hq]
        exact (hD _ (.head _)).symm
    · rcases way4 hw with rfl | rfl | rfl | rfl
      · exact absurd rfl h0
      all_goals exact hoD
end
end Mine
end
section
open PySem PySem.W PyProof.Rows PySem.Calls PySem.Flt
open PyProof.Rows.TI (Frs SameUp)
open PyProof.Rows.LCg (lst NsObj ns_obj lst_snoc)
set_option maxRecDepth 100000
set_option maxHeartbeats 400000
namespace Mine
section
variable {w : World} {A : Around} {E : Value → Shared → Prop} {s : Shared}
theorem star_dict {y k1 y2 : Sem Value} {a : Addr} {kvs : List (Str × Value)} {key : Str} {v : Value} {Q : Value → Shared → Prop}
    (hy : ∀ (s' : Shared) (Q : Value → Shared → Prop), (∀ b o, s.heap.get? b = some o → s'.heap.get? b = some o) → Q (.ref a) s' → wpAny (model PG w) A y Q E s')
    (hk1 : ∀ (s' : Shared) (Q : Value → Shared → Prop), (∀ u, Q (.str key u) { s' with toks := s'.toks + 1 }) → wpAny (model PG w) A k1 Q E s')
    (hy2 : ∀ (s' : Shared) (Q : Value → Shared → Prop), Q v s' → wpAny (model PG w) A y2 Q E s')
    (ha : s.heap.DictOf (KS w) a kvs) (hsm : (a == sysModules) = false) (hno : key ∉ kvs.map (·.1)) (hlen : kvs.length ≤ 50) (hsz : ∀ b, s.heap.objs.size ≤ b → (b == sysModules) = false)
    (hQ : ∀ h' tk, h'.DictOf (KS w) s.heap.objs.size (kvs ++ [(key, v)]) → (∀ b o, s.heap.get? b = some o → h'.get? b = some o) → Q (.ref s.heap.objs.size) { s with heap := h', toks := tk }) :
    wpAny (model PG w) A (dictDisplay [(none, y), (some k1, y2)]) Q E s := by
  obtain ⟨oa, _, _, hoa, _⟩ := id ha
  have hnd : (kvs.map (·.1)).Nodup := by obtain ⟨_, _, _, _, _, _, _, _, h⟩ := ha; exact h
  have ltA : a < s.heap.objs.size := Heap.lt_size hoa
  unfold dictDisplay
  refine wpAny_bind ?_
  rw [List.forIn_cons]
  refine wpAny_bind ?_
  refine wpAny_bind (wpAny_pure ?_)
  refine wpAny_bind (wpAny_alloc ?_)
  refine wpAny_bind (wpAny_holding (hy _ _ (fun b o e => Heap.get?_push_of_some _ e) ?_))
  have d0 : (s.heap.push { cls := .type "dict", data := .dict #[] }).DictOf (KS w) s.heap.objs.size [] := Heap.DictOf.new _
  refine wpAny_bind (wpAny_onRaise (wpAny_tryCatch (wpAny_onRaise (wpAny_holding (merge_dict (Nat.ne_of_gt ltA) hsm d0 (ha.push _) (by simpa using hnd) (by simp; omega) fun h₁ hD₁ hk₁ => ?_)))))
  rw [List.nil_append] at hD₁
  refine wpAny_pure ?_
  show wpAny _ _ (forIn [(some k1, y2)] (some s.heap.objs.size, []) _) _ _ _
  rw [List.forIn_cons]
  refine wpAny_bind ?_
  refine wpAny_pure ?_
  refine wpAny_pure ?_
  refine wpAny_bind (wpAny_bind (wpAny_holding (wpAny_subDict (knd := KS w) (by show 1 ≤ 15; decide) ?_)))
  have zs : s.heap.objs.size < h₁.objs.size := by
    obtain ⟨_, _, _, h, _⟩ := hD₁
    exact Heap.lt_size h
  refine evalPairs_cons (hk1 _ _ fun u => hy2 _ _ (evalPairs_nil ⟨[(key, v)], ⟨strKind_is _ _ _ _, rfl, trivial⟩, Heap.DictOf.new _, fun h₂ hD₂ hs₂ => ?_⟩))
  have hD₂' : h₂.DictOf (KS w) h₁.objs.size [(key, v)] := hD₂
  have hD₁' : h₂.DictOf (KS w) s.heap.objs.size kvs := (hD₁.push _).sameBut hs₂ (Nat.ne_of_lt zs)
  refine wpAny_bind (wpAny_onRaise (wpAny_holding (merge_dict (Nat.ne_of_lt zs) (hsz _ (Nat.le_of_lt zs)) hD₁' hD₂' ?_ (by simp; omega) fun h₃ hD₃ hk₃ => ?_)))
  · rw [List.map_append, List.nodup_append]
    refine ⟨hnd, by simp, fun x hx z hz e => ?_⟩
    have : z = key := by simpa using hz
    exact hno (this ▸ e ▸ hx)
  · refine wpAny_pure ?_
    refine wpAny_pure ?_
    refine hQ h₃ _ hD₃ fun b o e => ?_
    have hb : b ≠ s.heap.objs.size := Nat.ne_of_lt (Heap.lt_size e)
    have e₁ : h₁.get? b = some o := hk₁ b o hb (Heap.get?_push_of_some _ e)
    exact hk₃ b o hb (hs₂.extBut b o (Nat.ne_of_lt (Heap.lt_size e₁)) (Heap.get?_push_of_some _ e₁))
end
section
variable {w : World} {p : Program} {loose : List Str} {mean : ExcName → Option Value} {mg mb : Str → Option Value} {dp un : Nat} {gd : Option (List Code)} {A : Around} {g : Heap} {L : Addr} {cd : Value} {m : Str → Option Value} {led₀ led X : List (Addr × Obj)} {ps : Array Value} {s₀ s : Shared} {Q : Flow → Shared → Prop} {rest : List Stmt}
/-- x = {**asked, key: True} -/
theorem law_star {x key : Str} {kk1 kk2 : Nat} {p1 p2 p3 p4 p5 p6 : Pos} {kvs : List (Str × Value)} (C : LCx w p loose mean mg mb g dp un) (R : Rest s₀ s) (Z : LSt g L m ps led s) (K : KwAt w m led "asked" kvs) (hx : (lawE L cd).kindOf x = some .local) (hno : key ∉ kvs.map (·.1)) (hlen : kvs.length ≤ 20)
    (k : ∀ s' led' m', Rest s₀ s' → LSt g L m' ps led' s' → (∀ q ∈ led, q ∈ led') → (∀ y, y ≠ x → m' y = m y) → KwAt w m' led' x (kvs ++ [(key, .bool true)]) → wpC (model PG w) (aT none dp un gd [lawE L cd]) (execs rest (lawE L cd)) Q NE s')
    (hsw : swapsWith (.Dict [none, some (.Constant (.str key) kk1 p1)] [.Name "asked" p2, .Constant (.bool true) kk2 p3] p4) (some (.Name x p5)) p6.line (lawE L cd) = pure false := by rfl) :
    wpC (model PG w) (aT none dp un gd [lawE L cd]) (execs (.Assign [.Name x p5] (.Dict [none, some (.Constant (.str key) kk1 p1)] [.Name "asked" p2, .Constant (.bool true) kk2 p3] p4) p6 :: rest) (lawE L cd)) Q NE s := by
  obtain ⟨D, o, d1, d2, d3, d4, d5⟩ := K.of
  have hlow : sysModules < g.objs.size := modules_low C.G.T.nolimit
  have gD : s.heap.get? D = some o := Z.Z.toks _ (.tail _ d2)
  have hge : g.objs.size ≤ s.heap.objs.size := Nat.le_trans Z.Z.F.above (Nat.le_of_lt Z.Z.F.ns.lt)
  refine c_execs_cons (c_Assign (.any ?_) hsw)
  rw [arm_eval_Dict]
  refine wpAny_bind (wpAny_standAt ?_)
  show wpAny _ _ (dictDisplay [(none, do let x ← eval (.Name "asked" p2) (lawE L cd); standAt p4; pure x), (some (eval (.Constant (.str key) kk1 p1) (lawE L cd)), do let x ← eval (.Constant (.bool true) kk2 p3) (lawE L cd); standAt p4; pure x)]) _ _ _
  refine star_dict (a := D) (kvs := kvs) (key := key) (v := .bool true) (fun s' Q hk q => ?_) (fun s' Q q => Constant_str (q _)) (fun s' Q q => wpAny_bind (Constant_bool (wpAny_bind (wpAny_standAt (wpAny_pure q))))) (Heap.dictOf_iff.mpr ⟨o, gD, d3⟩) d4 hno (by omega) (fun b hb => ?_) fun h' tk hD hk => ?_
  · exact wpAny_bind (n_local (Z.Z.F.ns.keeps hk) d1 (wpAny_bind (wpAny_standAt (wpAny_pure q))) rfl rfl)
  · have : b ≠ sysModules := Nat.ne_of_gt (Nat.lt_of_lt_of_le hlow (Nat.le_trans hge hb))
    simpa using this
  · obtain ⟨oD, gD', hoD⟩ := Heap.dictOf_iff.mp hD
    have Z₁ : At g [] [] L m ((16, tabObj ps) :: led) h' := Z.Z.keeps hk
    have Z₂ := Z₁.top Z.Z rfl gD'
    refine wpAny_storeName_local hx Z₂.F.ns (fun h₂ hn₂ hs₂ => ?_) rfl
    have Z₃ := Z₂.set hn₂ hs₂
    refine k _ ((s.heap.objs.size, oD) :: led) _ (R.step h₂ _) ⟨Z₃.perm fun q hq => ?_, Lg.more (E := [(_, oD)]) Z.lg fun q hq => ?_, Nat.succ_pos _⟩ (fun q hq => .tail _ hq) (fun y hy => if_neg hy) ⟨_, oD, if_pos rfl, .head _, hoD, ?_, by rw [List.length_append]; show kvs.length + 1 ≤ 50; omega⟩
    · rcases List.mem_cons.mp hq with rfl | hq
      · exact .tail _ (.head _)
      · rcases List.mem_cons.mp hq with rfl | hq
        · exact .head _
        · exact .tail _ (.tail _ hq)
    · rw [List.mem_singleton.mp hq]
      exact Nat.ne_of_gt (Heap.lt_size (Z.Z.toks _ (.head _)))
    · have : s.heap.objs.size ≠ sysModules := Nat.ne_of_gt (Nat.lt_of_lt_of_le hlow hge)
      simpa using this
end
end Mine
end
section
open PySem PySem.W PyProof.Rows PySem.Calls PySem.Flt
open PyProof.Rows.TI (Frs SameUp)
open PyProof.Rows.LCg (lst NsObj ns_obj lst_snoc)
set_option maxRecDepth 100000
set_option maxHeartbeats 400000
namespace Mine
theorem lmem (w : World) : nsIn (Mine.hd.heap_39 w.params) mainGlobals ("_law_members" : Str) = some (some (.ref 149)) := by kernel_rfl
theorem lenum (w : World) : nsIn (Mine.hd.heap_39 w.params) mainGlobals ("enumerate" : Str) = some none := by kernel_rfl
def isBytes : Value → Bool
  | .bytes _ _ => true
  | _ => false
def bytesIn : Value → Array UInt8
  | .bytes b _ => b
  | _ => #[]
theorem mem149 (w : World) : ((Mine.hd.heap_39 w.params).lookup 149).map (fun o => (match o.cls with | .type t => t == "tuple" | _ => false) && match o.data with | .seq xs _ => xs.size == 6 && xs.toList.all isBytes | _ => false) = some true := by kernel_rfl
theorem members_tup (w : World) : ∃ vs : List Value, vs.length = 6 ∧ (∀ v ∈ vs, isBytes v = true) ∧ ∀ h, (Mine.hd.heap_39 w.params).In h → IsTup h 149 vs.toArray := by
  have e := mem149 w
  cases q : (Mine.hd.heap_39 w.params).lookup 149 with
  | none => rw [q] at e; cases e
  | some o =>
    rw [q] at e
    obtain ⟨oc, od, dt, sl⟩ := o
    have e' := Option.some.inj e
    rw [Bool.and_eq_true] at e'
    obtain ⟨e1, e2⟩ := e'
    cases dt with
    | seq xs n =>
      simp only [Bool.and_eq_true] at e2
      refine ⟨xs.toList, ?_, fun v hv => List.all_eq_true.mp e2.2 v hv, fun h X => ?_⟩
      · have := e2.1
        simpa using this
      · rw [Array.toArray_toList]
        cases oc with
        | type t =>
          have : t = "tuple" := by simpa using e1
          subst this
          exact ⟨_, X _ _ q, rfl, _, rfl⟩
        | _ => cases e1
    | _ => cases e2
theorem isBytes_of {v : Value} (h : isBytes v = true) : ∃ t, v = .bytes (bytesIn v) t := by
  cases v with
  | bytes b t => exact ⟨t, rfl⟩
  | _ => cases h
/-- the numbers of the rows -/
def msOf (xs : List Int) : List Int := ((nsOf xs).drop 2).take (min (2 + (nAt xs 1 % 6).toNat) (nsOf xs).length - 2)
theorem ms_len (xs : List Int) : (msOf xs).length ≤ 5 := by
  unfold msOf
  rw [List.length_take, List.length_drop]
  have := (ns_len xs).2
  omega
def qOf (xs : List Int) (i : Nat) : Int := ((msOf xs).getD i 0).fmod 4001 - 2000
theorem qOf_ok (xs : List Int) (i : Nat) : Qok (qOf xs i) := by
  unfold qOf Qok
  rw [Int.fmod_eq_emod_of_nonneg _ (by decide)]
  omega
def jOf (xs : List Int) (i : Nat) : Nat := ((((msOf xs).getD i 0).fdiv 4001 + (i : Nat)).fmod 6).toNat
theorem jOf_lt (xs : List Int) (i : Nat) : jOf xs i < 6 := by
  unfold jOf
  rw [Int.fmod_eq_emod_of_nonneg _ (by decide)]
  omega
theorem jOf_int (xs : List Int) (i : Nat) : (((msOf xs).getD i 0).fdiv 4001 + (i : Nat)).fmod 6 = ((jOf xs i : Nat) : Int) := by
  unfold jOf
  rw [Int.fmod_eq_emod_of_nonneg _ (by decide), Int.toNat_of_nonneg (Int.emod_nonneg _ (by decide))]
theorem ms_get {xs : List Int} {i : Nat} (h : i < (msOf xs).length) : (msOf xs)[i]? = some ((msOf xs).getD i 0) := by
  rw [List.getElem?_eq_getElem h, List.getD_eq_getElem?_getD, List.getElem?_eq_getElem h]
  rfl
theorem pylong_4001 {a : Int} : ¬ Builtin.divisionGoesByPylong a 4001 = true := by
  unfold Builtin.divisionGoesByPylong
  intro hh
  simp only [Bool.and_eq_true] at hh
  exact absurd hh.1 (by decide +kernel)
section
variable {w : World} {p : Program} {loose : List Str} {mean : ExcName → Option Value} {mg mb : Str → Option Value} {dp un : Nat} {gd : Option (List Code)} {A : Around} {g : Heap} {L : Addr} {cd : Value} {m : Str → Option Value} {led₀ led X : List (Addr × Obj)} {ps : Array Value} {s₀ s : Shared} {Q : Flow → Shared → Prop} {rest : List Stmt} {scope : Scope} {cl : List (Str × Addr)} {env : Env}
/-- _law_members[(x // 4001 + k) % 6] -/
theorem evc_member {xs : List Int} {i : Nat} {vs mv : List Value} {p1 p2 p3 p4 p5 p6 p7 p8 p9 : Pos} {k1 k2 : Nat} (C : LCx w p loose mean mg mb g dp un) (hi : i < (msOf xs).length) (hvs : IntsAre vs (msOf xs)) (hml : mv.length = 6) (hmb : ∀ v ∈ mv, isBytes v = true) (hmt : ∀ h, (Mine.hd.heap_39 w.params).In h → IsTup h 149 mv.toArray)
    (hsc : scope.kind = .function) (hlx : scope.names.lookup ("x" : Str) = some .local) (hlk : scope.names.lookup ("k" : Str) = some .local) (hgl : env.globals = mainGlobals) (kf : ∀ Cc, (compEnvC scope cl Cc env).kindOf ("_law_members" : Str) = some .globalImplicit) :
    EvC w A g [] [] L m env scope cl X (fun m₂ => (∃ u, m₂ ("k" : Str) = some (.int (i : Nat) u)) ∧ m₂ ("x" : Str) = vs[i]?) (.Subscript (.Name "_law_members" p1) (.BinOp (.BinOp (.BinOp (.Name "x" p2) .FloorDiv (.Constant (.int 4001) k1 p3) p4) .Add (.Name "k" p5) p6) .Mod (.Constant (.int 6) k2 p7) p8) p9) (fun r => Rep X r (.by (bytesIn (mv.getD (jOf xs i) .none)))) := by
  intro X' Cc oCc m₂ hX hCc hN hP frs₁ s Q S Z htk k
  obtain ⟨⟨u, hk⟩, hx⟩ := hP
  obtain ⟨t, ht⟩ := ints_at hvs (ms_get hi)
  rw [ht] at hx
  have hNs := hN.ns (Z.toks _ hCc)
  refine .any (Subscript_ (nG Z.F C.G.X (topRead_of C.G.T) (lmem w) ?_ hgl hsc (kf Cc)))
  refine wpAny_BinOp (wpAny_BinOp (wpAny_BinOp (n_local hNs hx (wpAny_Constant_int (AutoIntOps.floordiv_1 (by decide) pylong_4001 (n_local hNs hk (P.add_int (wpAny_Constant_int (AutoIntOps.mod_1 (by decide) ?_))) hsc (lookup_relabel_local hlk)))) hsc (lookup_relabel_local hlx))))
  show wpAny _ _ (subscriptTail _ _ _ (.int _ _)) _ _ _
  rw [jOf_int]
  have hj := jOf_lt xs i
  have hg : mv[jOf xs i]? = some (mv.getD (jOf xs i) .none) := by
    rw [List.getD_eq_getElem?_getD, List.getElem?_eq_getElem (by omega)]
    rfl
  refine item_tupleX (hmt _ (C.G.X.keeps Z.F.keep)) (by omega) (by omega) (seqIndex_nat (by omega)) hg (fun _ _ _ => by with_unfolding_all rfl) ?_
  obtain ⟨tb, hb⟩ := isBytes_of (hmb _ (List.mem_of_getElem? hg))
  rw [hb]
  exact k _ s.heap _ frs₁ (SameUp.refl _) Z (.by _ _) (Nat.succ_pos _)
/-- x % 4001 - 2000 -/
theorem evc_row {xs : List Int} {i : Nat} {vs : List Value} {p2 p3 p4 p5 p6 : Pos} {k1 k2 : Nat} (hi : i < (msOf xs).length) (hvs : IntsAre vs (msOf xs)) (hsc : scope.kind = .function) (hlx : scope.names.lookup ("x" : Str) = some .local) :
    EvC w A g [] [] L m env scope cl X (fun m₂ => (∃ u, m₂ ("k" : Str) = some (.int (i : Nat) u)) ∧ m₂ ("x" : Str) = vs[i]?) (.BinOp (.BinOp (.Name "x" p2) .Mod (.Constant (.int 4001) k1 p3) p4) .Sub (.Constant (.int 2000) k2 p5) p6) (fun r => Rep X r (.int (qOf xs i))) := by
  intro X' Cc oCc m₂ hX hCc hN hP frs₁ s Q S Z htk k
  obtain ⟨_, hx⟩ := hP
  obtain ⟨t, ht⟩ := ints_at hvs (ms_get hi)
  rw [ht] at hx
  have hNs := hN.ns (Z.toks _ hCc)
  refine .any (wpAny_BinOp (wpAny_BinOp (n_local hNs hx (wpAny_Constant_int (AutoIntOps.mod_1 (by decide) (wpAny_Constant_int (P.sub_int ?_)))) hsc (lookup_relabel_local hlx))))
  exact k _ s.heap _ frs₁ (SameUp.refl _) Z (.int _ _) (Nat.succ_pos _)
end
end Mine
end
section
open PySem PySem.W PyProof.Rows PySem.Calls PySem.Flt
open PyProof.Rows.TI (Frs SameUp)
open PyProof.Rows.LCg (lst NsObj ns_obj lst_snoc)
set_option maxRecDepth 100000
set_option maxHeartbeats 400000
namespace Mine
section
variable {w : World} {p : Program} {loose : List Str} {mean : ExcName → Option Value} {mg mb : Str → Option Value} {dp un : Nat} {gd : Option (List Code)} {A : Around} {g : Heap} {L : Addr} {cd : Value} {m : Str → Option Value} {led₀ led X : List (Addr × Obj)} {ps : Array Value} {s₀ s : Shared} {Q : Flow → Shared → Prop} {rest : List Stmt} {scope : Scope} {cl : List (Str × Addr)} {env : Env}
/-- numbers[2:2 + numbers[1] % 6] -/
theorem cut_eval {N : Addr} {vs : List Value} {xs : List Int} {p1 p2 p3 p4 p5 p6 p7 p8 p9 p10 p11 : Pos} {k1 k2 k3 k4 : Nat} {Q : Value → Shared → Prop} (hL : env.locals = L) (hk : env.scope.kind = .function) (hx : env.kindOf "numbers" = some .local) (hm : m "numbers" = some (.ref N)) (LN : LstAt X N vs) (hi : IntsAre vs (nsOf xs)) (Z : At g [] [] L m X s.heap)
    (h : ∀ D us o h' tk, 0 < tk → o.cls = .type "list" → (∃ c, o.data = .seq (List.toArray us) c) → At g [] [] L m ((D, o) :: X) h' → (∀ q ∈ X, q.1 ≠ D) → IntsAre us (msOf xs) → Q (.ref D) { s with heap := h', toks := tk }) :
    wpAny (model PG w) A (eval (.Subscript (.Name "numbers" p1) (.Slice (some (.Constant (.int 2) k1 p2)) (some (.BinOp (.Constant (.int 2) k2 p3) .Add (.BinOp (.Subscript (.Name "numbers" p4) (.Constant (.int 1) k3 p5) p6) .Mod (.Constant (.int 6) k4 p7) p8) p9)) none p10) p11) env) Q NE s := by
  subst hL
  obtain ⟨oN, cN, n1, n2, n3⟩ := LN.of
  have gN : s.heap.IsList N vs.toArray := ⟨oN, Z.toks _ n1, n2, cN, n3⟩
  obtain ⟨t1, ht1⟩ := ints_at hi (ns_get (xs := xs) (i := 1) (by have := (ns_len xs).1; omega))
  refine Subscript_ (n_local Z.F.ns hm ?_ hk hx)
  refine wpAny_Slice (wpAny_Constant_int (k := k1) (pos := p2) (wpAny_BinOp (l := .Constant (.int 2) k2 p3) (op := .Add) (r := .BinOp (.Subscript (.Name "numbers" p4) (.Constant (.int 1) k3 p5) p6) .Mod (.Constant (.int 6) k4 p7) p8) (pos := p9) (wpAny_Constant_int (wpAny_BinOp (Subscript_ (n_local Z.F.ns hm (wpAny_Constant_int (item_listX (l := vs) gN (by decide) (by decide) ht1 (fun _ _ _ => by with_unfolding_all rfl) (wpAny_Constant_int (AutoIntOps.mod_1 (by decide) (P.add_int (wpAny_pure ?_)))))) hk hx))))))
  have e1 : (nAt xs 1).fmod 6 = (((nAt xs 1 % 6).toNat : Nat) : Int) := by
    rw [Int.fmod_eq_emod_of_nonneg _ (by decide), Int.toNat_of_nonneg (Int.emod_nonneg _ (by decide))]
  have I := kmk_run hi (x := 2) (y := 2 + (nAt xs 1).fmod 6) (by decide) (by rw [e1]; omega)
  have e2 : (2 + (nAt xs 1).fmod 6).toNat = 2 + (nAt xs 1 % 6).toNat := by rw [e1]; omega
  rw [e2] at I
  have hlen : vs.length ≤ 7 := by rw [hi.length]; exact (ns_len xs).2
  refine slice_listK (lo := some 2) (hi := some (2 + (nAt xs 1).fmod 6)) gN (.int 2 _) (.int _ _) ?_ (by with_unfolding_all rfl) (fun _ => rfl) (by rw [List.size_toArray]; exact Nat.le_trans hlen seven)
  have Z₄ := (Z.push { cls := .type "slice", data := .fields #[.int 2 s.toks, .int (2 + (nAt xs 1).fmod 6) (s.toks + 1 + 1 + 1 + 1 + 1), .none] }).push { cls := .type "list", data := .seq (slicePick vs.toArray (some 2) (some (2 + (nAt xs 1).fmod 6)) none) }
  rw [Heap.size_push] at Z₄
  refine h _ (slicePick vs.toArray (some 2) (some (2 + (nAt xs 1).fmod 6)) none).toList { cls := .type "list", data := .seq (slicePick vs.toArray (some 2) (some (2 + (nAt xs 1).fmod 6)) none) } _ _ (Nat.succ_pos _) rfl ⟨_, by rw [Array.toArray_toList]⟩ (Z₄.perm fun q hq => ?_) (fun q hq => Nat.ne_of_lt (Nat.lt_succ_of_lt (Heap.lt_size (Z.toks q hq)))) I
  rcases List.mem_cons.mp hq with rfl | hq
  · exact .head _
  · exact .tail _ (.tail _ hq)
/-- the members' bytes -/
noncomputable def memVs (w : World) : List Value := (members_tup w).choose
theorem memVs_ok (w : World) : (memVs w).length = 6 ∧ (∀ v ∈ memVs w, isBytes v = true) ∧ ∀ h, (Mine.hd.heap_39 w.params).In h → IsTup h 149 (memVs w).toArray := (members_tup w).choose_spec
noncomputable def BOf (w : World) (xs : List Int) (i : Nat) : Array UInt8 := bytesIn ((memVs w).getD (jOf xs i) .none)
theorem law_rows {N : Addr} {vs : List Value} {xs : List Int} (C : LCx w p loose mean mg mb g dp un) (R : Rest s₀ s) (Z : LSt g L m ps led s) (hm : m "numbers" = some (.ref N)) (LN : LstAt led N vs) (hi : IntsAre vs (nsOf xs))
    (k : ∀ s' led' v, Rest s₀ s' → LSt g L (fun z => if z = "rows" then some v else m z) ps led' s' → (∀ q ∈ led, q ∈ led') → Rep led' v (.lst ((List.range (msOf xs).length).map fun i => .tup [bT (BOf w xs) i, .int (qOf xs i)])) → wpC (model PG w) (aT none dp un gd [lawE L cd]) (execs (lawD.body.drop 7) (lawE L cd)) Q NE s') :
    wpC (model PG w) (aT none dp un gd [lawE L cd]) (execs (lawD.body.drop 6) (lawE L cd)) Q NE s := by
  have TR := topRead_of C.G.T
  obtain ⟨hml, hmb, hmt⟩ := memVs_ok w
  refine law_comp (n := (msOf xs).length) (ts := fun i => .tup [bT (BOf w xs) i, .int (qOf xs i)]) R Z rfl rfl rfl rfl (by decide) rfl (by decide) (Nat.le_trans (ms_len xs) (by decide)) ?_ k rfl (by intro _; rfl)
  refine Call_name1 rfl (nB Z.Z.F C.G.X TR (lenum w) (v := .type "enumerate") (by decide +kernel) (by decide) ?_ rfl rfl rfl rfl)
  refine callWith_type1 (cut_eval (X := (16, tabObj ps) :: led) rfl rfl rfl hm (LN.mono fun _ x => .tail _ x) hi Z.Z fun D us o h' tk htk oc od Z₁ hD hus => ?_)
  obtain ⟨c, od⟩ := od
  have gD : h'.IsList D us.toArray := ⟨o, Z₁.toks _ (.head _), oc, c, od⟩
  refine call_enumerate_list gD fun h₂ en it sz hk => ?_
  dsimp only at en it sz hk ⊢
  refine wpAny_pyIter_enum en ?_
  have ltD : D < h'.objs.size := Heap.lt_size (Z₁.toks _ (.head _))
  have n1 : h'.objs.size + 1 ≠ h'.objs.size := Nat.succ_ne_self _
  have n2 : D ≠ h'.objs.size + 1 := Nat.ne_of_lt (Nat.lt_succ_of_lt ltD)
  have n3 : D ≠ h'.objs.size := Nat.ne_of_lt ltD
  have gg : ∀ b, h'.objs.size ≤ b → b ≠ L ∧ g.get? b = none ∧ ∀ q ∈ ([] : List (Addr × Obj)), b ≠ q.1 := fun b hb =>
    ⟨Nat.ne_of_gt (Nat.lt_of_lt_of_le Z₁.F.ns.lt hb), Heap.get?_none_of_le (Nat.le_trans Z₁.F.above (Nat.le_trans (Nat.le_of_lt Z₁.F.ns.lt) hb)), fun _ h => absurd h List.not_mem_nil⟩
  have lenU : us.length = (msOf xs).length := hus.length
  have hup : ∀ q ∈ (16, tabObj ps) :: led, q.1 < h'.objs.size := fun q hq => Heap.lt_size (Z₁.toks q (.tail _ hq))
  refine ⟨by obtain ⟨_, _, rfl⟩ := R; exact ⟨_, _, rfl⟩, ?_⟩
  rw [← lenU]
  obtain ⟨oI, i1, i2, i3⟩ := it
  refine ⟨h'.objs.size + 1, _, _, _, _, _, rfl, src_enum rfl (by decide) n1 n2 n3 us, (by decide), ⟨⟨_, en⟩, ⟨oI, i1, i2, i3⟩, gD.at fun o e => hk _ o e⟩, fun b hb => ?_, (Z₁.keeps hk).perm fun q hq => .tail _ hq, fun q hq hw => ?_, ?_, fun i hi' => ?_⟩
  · simp only [List.mem_cons, List.not_mem_nil, or_false] at hb
    rcases hb with rfl | rfl | rfl
    · exact ⟨⟨_, en⟩, gg _ (Nat.le_succ _)⟩
    · exact ⟨⟨_, i1⟩, gg _ (Nat.le_refl _)⟩
    · exact ⟨⟨_, hk _ _ (Z₁.toks _ (.head _))⟩, (Z₁.N _ (.head _)).2.1, (Z₁.N _ (.head _)).2.2, fun _ h => absurd h List.not_mem_nil⟩
  · simp only [List.mem_cons, List.not_mem_nil, or_false] at hw
    have := hup q hq
    rcases hw with e | e
    · rw [e] at this; exact absurd this (Nat.not_lt.mpr (Nat.le_succ _))
    · rw [e] at this; exact Nat.lt_irrefl _ this
  · exact htk
  · rw [lenU] at hi'
    exact elt_tuple2 (evc_member C hi' hus hml hmb hmt rfl rfl rfl rfl (fun _ => rfl)) (evc_row hi' hus rfl rfl)
end
end Mine
end
section
open PySem PySem.W PyProof.Rows PySem.Calls PySem.Flt
open PyProof.Rows.TI (Frs SameUp)
open PyProof.Rows.LCg (lst NsObj ns_obj lst_snoc)
set_option maxRecDepth 100000
set_option maxHeartbeats 400000
namespace Mine
section
variable {w : World} {p : Program} {loose : List Str} {mean : ExcName → Option Value} {mg mb : Str → Option Value} {dp un : Nat} {gd : Option (List Code)} {A : Around} {g : Heap} {L : Addr} {cd : Value} {m : Str → Option Value} {led₀ led X : List (Addr × Obj)} {ps : Array Value} {s₀ s : Shared} {Q : Flow → Shared → Prop}
theorem askK_free {way : Nat} (hw : way ≤ 3) {key : Str} (hk : scn ≠ key) : key ∉ (askK way).map (·.1) := by
  rcases way4 hw with rfl | rfl | rfl | rfl
  · exact List.not_mem_nil
  all_goals exact fun h => hk (List.mem_singleton.mp h).symm
/-- the law's body -/
theorem law_body {sl : Addr} {its : Array Value} {xs : List Int} {oC : Obj} {v₀ : Option Value} (C : LCx w p loose mean mg mb g dp un) (hm : m "script" = some (.ref sl)) (hsl : g.IsList sl its) (hi : IntsAre its.toList xs) (hxs : xs.length ≤ 63) (Z : At g [] [] L m [(16, tabObj #[]), (L + 1, oC)] s.heap) (hoC : oC.data = .cell v₀) (h16 : (16 : Addr) ≠ L + 1) :
    wpC (model PG w) (aT none dp un gd [lawE L cd]) (execs (lawD.body.drop 0) (lawE L cd)) (LEnd g L s) NE s := by
  have hw := way_le xs
  refine law_S01 hm hsl hi hxs Z hoC h16 fun s₁ N oN vs oC' u R Z hoC' oc od I hNC => ?_
  generalize hm1 : (fun z => if z = ("numbers" : Str) then some (Value.ref N) else m z) = m₁ at Z
  have a1 : m₁ "numbers" = some (.ref N) := by rw [← hm1]; exact if_pos rfl
  refine law_S23 C R Z (.tail _ (.head _)) hoC' hw fun s₂ D oD R Z hoD hsm hD => ?_
  have KA : KwAt w (fun z => if z = ("asked" : Str) then some (Value.ref D) else m₁ z) ((D, oD) :: [(N, oN), (L + 1, oC')]) "asked" (askK (wayOf xs)) := ⟨D, oD, if_pos rfl, .head _, hoD, hsm, Nat.le_trans (askK_ok hw).sz (by decide)⟩
  have a2 : (fun z => if z = ("asked" : Str) then some (Value.ref D) else m₁ z) "numbers" = some (.ref N) := a1
  generalize (fun z => if z = ("asked" : Str) then some (Value.ref D) else m₁ z) = m₂ at Z KA a2
  refine law_star C R Z KA rfl (askK_free hw (by decide)) (Nat.le_trans (askK_ok hw).sz (by decide)) (fun s₃ led₃ m₃ R Z h₃ e₃ KR => ?_) rfl
  have KA₃ := (KA.mono h₃).to (e₃ "asked" (by decide))
  have a3 : m₃ "numbers" = some (.ref N) := (e₃ _ (by decide)).trans a2
  refine law_star C R Z KA₃ rfl (askK_free hw (by decide)) (Nat.le_trans (askK_ok hw).sz (by decide)) (fun s₄ led₄ m₄ R Z h₄ e₄ KS' => ?_) rfl
  have KA₄ := (KA₃.mono h₄).to (e₄ "asked" (by decide))
  have KR₄ := (KR.mono h₄).to (e₄ "ranged" (by decide))
  have a4 : m₄ "numbers" = some (.ref N) := (e₄ _ (by decide)).trans a3
  obtain ⟨c, od⟩ := od
  have LN : LstAt led₄ N vs := ⟨oN, c, h₄ _ (h₃ _ (.tail _ (.head _))), oc, od⟩
  have cC : (L + 1, oC') ∈ led₄ := h₄ _ (h₃ _ (.tail _ (.tail _ (.head _))))
  refine law_rows C R Z a4 LN I fun s₅ led₅ v R Z h₅ rv => ?_
  have D₅ : LRows w L (fun z => if z = ("rows" : Str) then some v else m₄ z) led₅ (wayOf xs) (msOf xs).length (BOf w xs) (qOf xs) :=
    ⟨(KA₄.mono h₅).to (if_neg (by decide)), (KR₄.mono h₅).to (if_neg (by decide)), (KS'.mono h₅).to (if_neg (by decide)), ⟨v, if_pos rfl, rv⟩, ⟨oC', u, h₅ _ cC, hoC'⟩, hw, ms_len xs, qOf_ok xs⟩
  refine law_data C D₅ R Z fun s₆ ps₆ led₆ m₆ R Z D₆ => ?_
  exact law_asks C D₆ R Z
end
end Mine
end
section
open PySem PySem.W PyProof.Rows PySem.Calls PySem.Flt
open PyProof.Rows.TI (Frs SameUp)
set_option maxRecDepth 100000
set_option maxHeartbeats 4000000
namespace Mine
theorem lawAt (w : World) : nsIn (Mine.hd.heap_39 w.params) mainGlobals ("law" : Str) = some (some (.ref 180)) := by kernel_rfl
theorem noTab (w : World) : noTabs (Mine.hd.heap_39 w.params) = true := by kernel_rfl
theorem raise_no (args : List WData) (x : ExcName) : PySem.Challenge.rw_fr0008_01.row.claim.raises args x = false := rfl
theorem post_ok (xs : List Int) : PySem.Challenge.rw_fr0008_01.row.claim.post [ofPy (PyData.list (List.map PyData.int xs))] (.bool true) [ofPy (PyData.list (List.map PyData.int xs))] = true := by
  wrow_post
/-- the end, as the claim wants it -/
theorem good_end {c : ClaimW} {cl : Str → Option Addr} {mn : ExcName → Option Value} {args : List WData} {s₁ s s' : Shared} {L : Addr} {f : Flow} (hT : TabsAt [(20, 16)] s₁.heap) (hr : ∀ x, c.raises args x = false) (hp : c.post args (.bool true) args = true)
    (hgens : s₁.gens = #[]) (hR : Rest s₁ s) (h : LEnd (ghostOf s₁.heap [(20, 16)]) L s f s') : GoodWG c cl mn args s₁ (.ok (.ret (.bool true))) s' := by
  obtain ⟨rfl, hR', ps, led, m, Z⟩ := h
  obtain ⟨h1, t1, rfl⟩ := hR
  obtain ⟨h2, t2, rfl⟩ := hR'
  have hP : h2.get? 16 = some (tabObj ps) := Z.Z.toks _ (.head _)
  have keep : ∀ b o, b ≠ 16 → s₁.heap.get? b = some o → h2.get? b = some o := fun b o hb e => Z.Z.F.keep b o (ghost_ne e (by simpa using hb))
  have t16 := hT (20, 16) (.head _)
  refine ⟨.inl ⟨.bool true, .bool true, [], rfl, hr, ReadsW.bool true, hp, fun _ => ⟨.nil, fun _ h => absurd h List.not_mem_nil⟩⟩, ⟨fun b o e => ?_, fun b o e => ?_⟩, rfl, .of_eq hgens⟩
  · by_cases hb : b = 16
    · subst hb
      rw [t16.2] at e
      cases e
      exact .inr (.inl ⟨(t16.1.tab t16.2).isCodeTable, rfl, #[], ps, rfl, by rw [Array.empty_append]; exact hP⟩)
    · exact .inl (keep b o hb e)
  · by_cases hb : b = 16
    · exact ⟨_, hb ▸ hP⟩
    · exact ⟨o, keep b o hb e⟩
theorem law_holds : PySem.Challenge.rw_fr0008_01.Holds := by
  refine Mine.hd ?_
  intro w s₀ s₁ mg mb G Y fa o pm cd doc dV kV ho hod hcd hD hmg hg args vals as hpre hlay hrd hwl hlo
  have KX := km_in_of Y
  have hT8 := km_tabs_of Y
  refine Ground.open G ?_
  intro T B D TE TW
  have hT9 : TabsAt [(20, 16)] s₁.heap := List.forall_mem_cons.mpr ⟨⟨codeHd_of_K (c := 20) (P := 16) KX (by kernel_rfl), hT8 16 (by simp)⟩, fun _ h => nomatch h⟩
  clear Y hT8 B D TE TW
  wrow_args hpre hlay hrd hwl hlo
  rename_i xs hs hl0 hL1 hr1 hl2 A4 A3 sl vs A hLs ra w1 r0 hI hr hc1 hc2
  have hxs : xs.length ≤ 63 := by omega
  clear hs hl0 hL1 hr1 hl2 ra w1 r0 hr hc1 hc2
  have e180 := mg_of KX T.g (lawAt w)
  have efa : fa = 180 := by
    have h := hmg.symm.trans e180
    injection h with h
    injection h
  subst efa
  rcases hD.pos with ⟨_, e1⟩ | ⟨h, _⟩
  rotate_left
  · exact absurd rfl h
  rcases hD.kw with ⟨_, e2⟩ | ⟨h, _⟩
  rotate_left
  · exact absurd rfl h
  subst e1 e2
  clear hD hmg e180
  refine wpC_call ?_
  refine codeC_call_function (body := lawD.body) (by decide +kernel) ho hod rfl rfl rfl hcd ?_
  refine wpAny_of_eq (a := [(("script" : Str), Value.ref sl)]) (by rfl) ?_
  refine wpAny_newFunctionEnv_cells rfl (fun x hx => ?_) fun env' he s' x => ?_
  · rw [List.mem_singleton.mp hx]
    exact .inl rfl
  · subst he
    refine ⟨T.nolimit.keeps x.toInCall.keep, codeC_funcN ?_⟩
    have hcell := x.cell ("way" : Str) (s₁.heap.objs.size + 1) rfl
    have hns := x.toInCall.ns
    have hk₁ := x.toInCall.keep
    obtain ⟨h₁, tk, rfl, _⟩ := x.done
    clear x hcd hod ho
    obtain ⟨oC, gC, hoC⟩ := hcell
    have F : Fr s₁.heap s₁.heap.objs.size h₁ _ := ⟨hns, hk₁, Nat.le_refl _⟩
    have N : News s₁.heap s₁.heap.objs.size h₁ [(s₁.heap.objs.size + 1, oC)] := fun q hq => by
      rw [List.mem_singleton.mp hq]
      exact ⟨gC, Nat.succ_ne_self _, Heap.get?_none_of_le (Nat.le_succ _)⟩
    have F' := ghost_fr hT9 F
    have N' := ghost_news hT9 F N
    have l16 : (16 : Addr) < s₁.heap.objs.size := Heap.lt_size (hT9 (20, 16) (.head _)).2
    have Gd' : Gd w topProg _ (ExcName.means s₀.heap) mg mb (ghostOf s₁.heap [(20, 16)]) := ⟨ghost_K hT9 KX (noTab w), ghost_top hT9 T, (ghost_code hT9).1⟩
    have hsl := ghost_list hT9 hLs
    refine wpC_mono (law_body (s := { s₁ with heap := h₁, toks := tk }) (cd := cd) (L := s₁.heap.objs.size) ⟨Gd', by decide +kernel, by decide +kernel⟩ (m := _) rfl hsl (xs := xs) (by simpa using hI) hxs ⟨F', fun q hq => N' q ?_, fun _ _ _ h => absurd h List.not_mem_nil, trivial⟩ hoC (Nat.ne_of_lt (Nat.lt_succ_of_lt l16))) (fun f s' hf => ?_) fun _ _ e => e
    · simp only [List.append_nil, List.mem_cons, List.not_mem_nil, or_false] at hq
      rcases hq with rfl | rfl
      · exact .tail _ (.head _)
      · exact .head _
    · have hf' := hf
      obtain ⟨rfl, _⟩ := hf
      show GoodWG _ _ _ _ _ (.ok (.ret (.bool true))) _
      exact good_end hT9 (raise_no _) (post_ok xs) hg ⟨h₁, tk, rfl⟩ hf'
end Mine
end
theorem PySem.Challenge.cw_fr0008_01_holds : PySem.Challenge.rw_fr0008_01.Holds := by
  exact Mine.law_holds
