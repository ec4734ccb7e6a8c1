import PyProof.Rows.All
import Wide.All
import OpenK.AllK
import Wide.FinOn
import Lean
import PySem.Challenge.RW_tx0020_01
open PySem PySem.W PyProof.Rows
set_option Elab.async false
set_option maxRecDepth 100000
set_option maxHeartbeats 0
set_option linter.unusedVariables false
set_option pp.deepTerms false
namespace Mine
/-! The plain law: registers, codes, forebears, over the natural numbers. -/
noncomputable def poly : Nat := 3988292384
noncomputable def stepF (r : Nat) : Nat := if r % 2 = 1 then (r / 2) ^^^ poly else r / 2
noncomputable def stepB (r : Nat) : Nat := if 2147483648 ≤ r then 2 * (r ^^^ poly) + 1 else 2 * r
noncomputable def iterF : Nat → Nat → Nat
  | 0, r => r
  | n + 1, r => iterF n (stepF r)
noncomputable def iterB : Nat → Nat → Nat
  | 0, r => r
  | n + 1, r => iterB n (stepB r)
noncomputable def W32 : Nat := 4294967296
theorem stepF_lt {r : Nat} (h : r < 2 ^ 32) : stepF r < 2 ^ 32 := by
  unfold stepF poly
  split
  · exact Nat.xor_lt_two_pow (by omega) (by decide)
  · omega
theorem xor_top {a : Nat} (h : a < 2 ^ 31) : 2 ^ 31 ≤ a ^^^ poly := by
  have : (a ^^^ poly).testBit 31 = true := by
    rw [Nat.testBit_xor, Nat.testBit_lt_two_pow h]
    decide
  exact Nat.ge_two_pow_of_testBit this
theorem xor_low {a : Nat} (h : a < 2 ^ 32) (h' : 2 ^ 31 ≤ a) : a ^^^ poly < 2 ^ 31 := by
  have e : a = 2 ^ 31 + (a - 2 ^ 31) := by omega
  refine Nat.lt_pow_two_of_testBit _ fun i hi => ?_
  rw [Nat.testBit_xor]
  by_cases h31 : i = 31
  · subst h31
    have : a.testBit 31 = true := by
      rw [Nat.testBit_eq_decide_div_mod_eq]
      have : a / 2 ^ 31 = 1 := by omega
      rw [this]; decide
    rw [this]; decide
  · have hi' : 2 ^ 32 ≤ 2 ^ i := Nat.pow_le_pow_right (by decide) (by omega)
    rw [Nat.testBit_lt_two_pow (Nat.lt_of_lt_of_le h hi'), Nat.testBit_lt_two_pow (Nat.lt_of_lt_of_le (by decide) hi')]
    rfl
theorem xor_cancel (a b : Nat) : (a ^^^ b) ^^^ b = a := by rw [Nat.xor_assoc, Nat.xor_self, Nat.xor_zero]
theorem stepB_lt {r : Nat} (h : r < 2 ^ 32) : stepB r < 2 ^ 32 := by
  unfold stepB
  split
  · have := xor_low h (by omega); omega
  · omega
theorem stepB_stepF {r : Nat} (h : r < 2 ^ 32) : stepB (stepF r) = r := by
  unfold stepF
  split
  · have := xor_top (a := r / 2) (by omega)
    unfold stepB
    rw [if_pos (by omega), xor_cancel]; omega
  · unfold stepB
    rw [if_neg (by omega)]; omega
theorem iterF_lt : ∀ (n : Nat) {r : Nat}, r < 2 ^ 32 → iterF n r < 2 ^ 32
  | 0, _, h => h
  | n + 1, _, h => iterF_lt n (stepF_lt h)
theorem iterB_lt : ∀ (n : Nat) {r : Nat}, r < 2 ^ 32 → iterB n r < 2 ^ 32
  | 0, _, h => h
  | n + 1, _, h => iterB_lt n (stepB_lt h)
theorem iterB_succ : ∀ (n r : Nat), iterB (n + 1) r = stepB (iterB n r)
  | 0, _ => rfl
  | n + 1, r => iterB_succ n (stepB r)
theorem iterB_add (m n r : Nat) : iterB (m + n) r = iterB n (iterB m r) := by
  induction m generalizing r with
  | zero => simp [iterB]
  | succ m ih => rw [Nat.succ_add]; exact ih (stepB r)
theorem iterF_succ : ∀ (n r : Nat), iterF (n + 1) r = stepF (iterF n r)
  | 0, _ => rfl
  | n + 1, r => iterF_succ n (stepF r)
theorem iterB_iterF : ∀ (n : Nat) {r : Nat}, r < 2 ^ 32 → iterB n (iterF n r) = r
  | 0, _, _ => rfl
  | n + 1, r, h => by
    rw [iterF_succ]
    show iterB n (stepB (stepF (iterF n r))) = r
    rw [stepB_stepF (iterF_lt n h), iterB_iterF n h]
theorem two_mul_xor (a b : Nat) : 2 * (a ^^^ b) = 2 * a ^^^ 2 * b := by
  have h := Nat.shiftLeft_xor_distrib (a := a) (b := b) (i := 1)
  simp only [Nat.shiftLeft_eq] at h
  have e : ∀ x : Nat, x * 2 ^ 1 = 2 * x := fun x => by omega
  rw [e, e, e] at h
  exact h
theorem stepB_eq {r : Nat} (h : r < 2 ^ 32) : stepB r = (2 * r) ^^^ (if r.testBit 31 then 2 * poly + 1 else 0) := by
  have hb : r.testBit 31 = decide (2 ^ 31 ≤ r) := by
    rw [Nat.testBit_eq_decide_div_mod_eq]
    by_cases h' : 2 ^ 31 ≤ r
    · have : r / 2 ^ 31 = 1 := by omega
      rw [this]; simp [h']
    · have : r / 2 ^ 31 = 0 := by omega
      rw [this]; simp [h']
  unfold stepB
  rw [hb]
  by_cases h' : 2147483648 ≤ r
  · rw [if_pos h', if_pos (by simpa using h')]
    have e1 : ∀ x : Nat, 2 * x + 1 = (2 * x) ^^^ 1 := by
      intro x
      apply Nat.eq_of_testBit_eq
      intro i
      rw [Nat.testBit_xor]
      cases i with
      | zero => simp [Nat.testBit_zero]
      | succ i => 
        simp only [Nat.testBit_succ]
        have : (2 * x + 1) / 2 = 2 * x / 2 := by omega
        rw [this]; simp
    rw [e1, two_mul_xor, e1 poly, Nat.xor_assoc]
  · rw [if_neg h', if_neg (by simpa using h'), Nat.xor_zero]
theorem stepB_xor {a b : Nat} (ha : a < 2 ^ 32) (hb : b < 2 ^ 32) : stepB (a ^^^ b) = stepB a ^^^ stepB b := by
  rw [stepB_eq (Nat.xor_lt_two_pow ha hb), stepB_eq ha, stepB_eq hb, Nat.testBit_xor, two_mul_xor]
  generalize 2 * a = x, 2 * b = y, 2 * poly + 1 = p
  cases a.testBit 31 <;> cases b.testBit 31 <;> simp
  · rw [Nat.xor_assoc]
  · rw [Nat.xor_assoc, Nat.xor_assoc, Nat.xor_comm p y]
  · have : x ^^^ p ^^^ (y ^^^ p) = x ^^^ y ^^^ (p ^^^ p) := by
      rw [Nat.xor_assoc, Nat.xor_assoc, ← Nat.xor_assoc p y p, Nat.xor_comm p y, Nat.xor_assoc]
    rw [this, Nat.xor_self, Nat.xor_zero]
theorem iterB_xor : ∀ (n : Nat) {a b : Nat}, a < 2 ^ 32 → b < 2 ^ 32 → iterB n (a ^^^ b) = iterB n a ^^^ iterB n b
  | 0, _, _, _, _ => rfl
  | n + 1, a, b, ha, hb => by
    show iterB n (stepB (a ^^^ b)) = iterB n (stepB a) ^^^ iterB n (stepB b)
    rw [stepB_xor ha hb, iterB_xor n (stepB_lt ha) (stepB_lt hb)]
theorem iterB_small : ∀ (n : Nat) {a : Nat}, a * 2 ^ n < 2 ^ 32 → iterB n a = a * 2 ^ n
  | 0, a, _ => by simp [iterB]
  | n + 1, a, h => by
    have e : a * 2 ^ (n + 1) = (2 * a) * 2 ^ n := by rw [Nat.pow_succ, Nat.mul_comm (2 ^ n) 2, ← Nat.mul_assoc, Nat.mul_comm a 2]
    have hp : 0 < 2 ^ n := Nat.two_pow_pos n
    have h2 : 2 * a < 2 ^ 32 := by
      rw [e] at h
      exact Nat.lt_of_le_of_lt (Nat.le_mul_of_pos_right _ hp) h
    have hs : stepB a = 2 * a := by unfold stepB; rw [if_neg (by omega)]
    show iterB n (stepB a) = _
    rw [hs, iterB_small n (by rw [← e]; exact h), e]
/-- what a hand writes for an octet -/
noncomputable def hexd (f : Nat) : Nat := 48 + f + 7 * (f / 10)
noncomputable def codes (hand octet : Nat) : List Nat :=
  if hand = 1 ∧ octet = 32 then [95]
  else if hand = 1 ∧ ((65 ≤ octet ∧ octet ≤ 90) ∨ (97 ≤ octet ∧ octet ≤ 122) ∨ (47 ≤ octet ∧ octet ≤ 57) ∨ octet = 33 ∨ octet = 42 ∨ octet = 43 ∨ octet = 45) then [octet]
  else if hand = 2 ∧ (octet = 10 ∨ octet = 13) then [10]
  else if hand = 2 ∧ 33 ≤ octet ∧ octet ≤ 126 ∧ octet ≠ 61 then [octet]
  else [61, hexd (octet / 16), hexd (octet % 16)]
noncomputable def Codes1 (hand octet : Nat) : Prop := ∃ c, c < 128 ∧ codes hand octet = [c]
theorem codes_cases (hand octet : Nat) (ho : octet < 256) :
    (∃ c, c < 128 ∧ codes hand octet = [c]) ∨ codes hand octet = [61, hexd (octet / 16), hexd (octet % 16)] := by
  unfold codes
  repeat' split
  · exact .inl ⟨95, by decide, rfl⟩
  · exact .inl ⟨octet, by omega, rfl⟩
  · exact .inl ⟨10, by decide, rfl⟩
  · exact .inl ⟨octet, by omega, rfl⟩
  · exact .inr rfl
theorem hexd_lt {f : Nat} (h : f < 16) : hexd f < 128 := by unfold hexd; omega
/-- the forebears of a register, by the hand that wrote -/
noncomputable def fore (hand r : Nat) : List Nat :=
  (match codes hand (iterB 8 r / 16777216) with
    | [c] => [iterB 8 r ^^^ c]
    | _ => []) ++
  (match codes hand (iterB 24 r / 16777216) with
    | [a, b, c] => [((iterB 24 r ^^^ a) ^^^ b * 256) ^^^ c * 65536]
    | _ => [])
/-- the register behind what a hand wrote -/
noncomputable def after (r : Nat) : List Nat → Nat
  | [] => r
  | c :: cs => after (iterF 8 (r ^^^ c)) cs
theorem xor_lt {a b : Nat} (ha : a < 2 ^ 32) (hb : b < 2 ^ 32) : a ^^^ b < 2 ^ 32 := Nat.xor_lt_two_pow ha hb
theorem after_lt : ∀ (cs : List Nat) (r : Nat), r < 2 ^ 32 → (∀ c ∈ cs, c < 2 ^ 32) → after r cs < 2 ^ 32
  | [], _, h, _ => h
  | c :: cs, r, h, hc => after_lt cs _ (iterF_lt 8 (xor_lt h (hc c (.head _)))) fun d hd => hc d (.tail _ hd)
theorem fore_lt {hand r : Nat} (h : r < 2 ^ 32) : ∀ x ∈ fore hand r, x < 2 ^ 32 := by
  have h8 := iterB_lt 8 h
  have h24 := iterB_lt 24 h
  have o8 : iterB 8 r / 16777216 < 256 := by omega
  have o24 : iterB 24 r / 16777216 < 256 := by omega
  intro x hx
  unfold fore at hx
  rcases List.mem_append.mp hx with hx | hx
  · rcases codes_cases hand _ o8 with ⟨c, hc, e⟩ | e
    · rw [e] at hx
      rw [List.mem_singleton.mp hx]
      exact xor_lt h8 (by omega)
    · rw [e] at hx; cases hx
  · rcases codes_cases hand _ o24 with ⟨c, hc, e⟩ | e
    · rw [e] at hx; cases hx
    · rw [e] at hx
      rw [List.mem_singleton.mp hx]
      have q1 := hexd_lt (f := iterB 24 r / 16777216 / 16) (by omega)
      have q2 := hexd_lt (f := iterB 24 r / 16777216 % 16) (by omega)
      exact xor_lt (xor_lt (xor_lt h24 (by decide)) (by omega)) (by omega)
theorem fore_len (hand r : Nat) : (fore hand r).length ≤ 2 := by
  unfold fore
  rw [List.length_append]
  have a : (match codes hand (iterB 8 r / 16777216) with | [c] => [iterB 8 r ^^^ c] | _ => []).length ≤ 1 := by split <;> simp
  have b : (match codes hand (iterB 24 r / 16777216) with | [a, b, c] => [((iterB 24 r ^^^ a) ^^^ b * 256) ^^^ c * 65536] | _ => []).length ≤ 1 := by split <;> simp
  omega
theorem top_xor {r m : Nat} (hm : m < 2 ^ 24) : (r ^^^ m) / 16777216 = r / 16777216 := by
  have h : ∀ x : Nat, x / 16777216 = x >>> 24 := fun x => by rw [Nat.shiftRight_eq_div_pow]
  rw [h, h, Nat.shiftRight_xor_distrib]
  have : m >>> 24 = 0 := by rw [Nat.shiftRight_eq_div_pow]; exact Nat.div_eq_of_lt hm
  rw [this, Nat.xor_zero]
theorem fore_after {hand r : Nat} (h : r < 2 ^ 32) : r ∈ fore hand (after r (codes hand (r / 16777216))) := by
  have o : r / 16777216 < 256 := by omega
  rcases codes_cases hand _ o with ⟨c, hc, e⟩ | e
  · have hr : iterB 8 (after r (codes hand (r / 16777216))) = r ^^^ c := by
      rw [e]; exact iterB_iterF 8 (xor_lt h (by omega))
    unfold fore
    rw [hr, top_xor (by omega), e]
    refine List.mem_append_left _ ?_
    show r ∈ [r ^^^ c ^^^ c]
    rw [xor_cancel]; exact .head _
  · have q1 := hexd_lt (f := r / 16777216 / 16) (by omega)
    have q2 := hexd_lt (f := r / 16777216 % 16) (by omega)
    generalize ea : hexd (r / 16777216 / 16) = a at e q1
    generalize eb : hexd (r / 16777216 % 16) = b at e q2
    have l0 : r ^^^ 61 < 2 ^ 32 := xor_lt h (by decide)
    have l1 : iterF 8 (r ^^^ 61) ^^^ a < 2 ^ 32 := xor_lt (iterF_lt 8 l0) (by omega)
    have l2 : iterF 8 (iterF 8 (r ^^^ 61) ^^^ a) ^^^ b < 2 ^ 32 := xor_lt (iterF_lt 8 l1) (by omega)
    have hr : iterB 24 (after r (codes hand (r / 16777216))) = ((r ^^^ 61) ^^^ a * 256) ^^^ b * 65536 := by
      rw [e]
      show iterB (8 + (8 + 8)) (iterF 8 (iterF 8 (iterF 8 (r ^^^ 61) ^^^ a) ^^^ b)) = _
      rw [iterB_add 8 (8 + 8), iterB_iterF 8 l2, iterB_add 8 8, iterB_xor 8 (iterF_lt 8 l1) (by omega), iterB_iterF 8 l1,
        iterB_small 8 (a := b) (by omega), iterB_xor 8 (xor_lt (iterF_lt 8 l0) (by omega)) (by omega), iterB_xor 8 (iterF_lt 8 l0) (by omega), iterB_iterF 8 l0,
        iterB_small 8 (a := a) (by omega), iterB_small 8 (a := b * 2 ^ 8) (by omega)]
      have : b * 2 ^ 8 * 2 ^ 8 = b * 65536 := by omega
      rw [this]
    have hm : 61 ^^^ a * 256 ^^^ b * 65536 < 2 ^ 24 := Nat.xor_lt_two_pow (Nat.xor_lt_two_pow (by decide) (by omega)) (by omega)
    have ht : (((r ^^^ 61) ^^^ a * 256) ^^^ b * 65536) / 16777216 = r / 16777216 := by
      have : ((r ^^^ 61) ^^^ a * 256) ^^^ b * 65536 = r ^^^ (61 ^^^ a * 256 ^^^ b * 65536) := by simp only [Nat.xor_assoc]
      rw [this, top_xor hm]
    unfold fore
    rw [hr, ht, e]
    refine List.mem_append_right _ ?_
    show r ∈ [((((r ^^^ 61) ^^^ a * 256) ^^^ b * 65536 ^^^ 61) ^^^ a * 256) ^^^ b * 65536]
    have : ((((r ^^^ 61) ^^^ a * 256) ^^^ b * 65536 ^^^ 61) ^^^ a * 256) ^^^ b * 65536 = r := by
      have c1 : (((r ^^^ 61) ^^^ a * 256) ^^^ b * 65536 ^^^ 61) ^^^ a * 256 ^^^ b * 65536 = r ^^^ ((61 ^^^ a * 256 ^^^ b * 65536) ^^^ (61 ^^^ a * 256 ^^^ b * 65536)) := by simp only [Nat.xor_assoc]
      rw [c1, Nat.xor_self, Nat.xor_zero]
    rw [this]; exact .head _
end Mine
namespace Mine
theorem xor_and_sum (a : Nat) : ∀ b : Nat, a + b = (a ^^^ b) + 2 * (a &&& b) := by
  induction a using Nat.strongRecOn with
  | _ a ih =>
    intro b
    by_cases h : a = 0
    · subst h; simp
    · have h1 := ih (a / 2) (by omega) (b / 2)
      have x1 : (a ^^^ b) / 2 = a / 2 ^^^ b / 2 := Nat.xor_div_two
      have a1 : (a &&& b) / 2 = a / 2 &&& b / 2 := Nat.and_div_two
      have x2 : (a ^^^ b) % 2 = 1 ↔ ¬ (a % 2 = 1 ↔ b % 2 = 1) := Nat.xor_mod_two_eq_one
      have a2 : (a &&& b) % 2 = 1 ↔ a % 2 = 1 ∧ b % 2 = 1 := Nat.and_mod_two_eq_one
      omega
theorem xor_nat (a b : Nat) : Builtin.bitXor (a : Int) (b : Int) = ((a ^^^ b : Nat) : Int) := by
  rw [bitXor_and, bitAnd_pp (Int.natCast_nonneg _) (Int.natCast_nonneg _)]
  have h := xor_and_sum a b
  simp only [Int.toNat_natCast]
  omega
theorem and_one (a : Nat) : Builtin.bitAnd (a : Int) 1 = ((a % 2 : Nat) : Int) := by
  have h := kbt_mask (a : Int) 1
  have e : (2 : Int) ^ 1 - 1 = 1 := by decide
  rw [e] at h
  rw [h]; omega
theorem shift_one (a : Nat) : ((a : Int).fdiv (2 ^ Int.toNat 1)) = ((a / 2 : Nat) : Int) := by
  have e : (2 : Int) ^ Int.toNat 1 = 2 := by decide
  rw [e, Int.fdiv_eq_ediv_of_nonneg _ (by decide)]; omega
theorem gen_odd {x : Int} {n r : Nat} (h : x = ((iterF n r : Nat) : Int)) (ha : Builtin.bitAnd x 1 ≠ 0) : Builtin.bitXor (x.fdiv (2 ^ Int.toNat 1)) 3988292384 = ((iterF (n + 1) r : Nat) : Int) := by
  subst h
  rw [and_one] at ha
  rw [shift_one, iterF_succ, show (3988292384 : Int) = ((3988292384 : Nat) : Int) from rfl, xor_nat]
  unfold stepF
  rw [if_pos (by omega)]; rfl
theorem gen_even {x : Int} {n r : Nat} (h : x = ((iterF n r : Nat) : Int)) (ha : Builtin.bitAnd x 1 = 0) : x.fdiv (2 ^ Int.toNat 1) = ((iterF (n + 1) r : Nat) : Int) := by
  subst h
  rw [and_one] at ha
  rw [shift_one, iterF_succ]
  unfold stepF
  rw [if_neg (by omega)]
theorem len_snoc (l : List Int) (x : Int) : (l ++ [x]).length = l.length + 1 := by simp
abbrev zs (l : List Nat) : List Int := l.map fun c => ((c : Nat) : Int)
theorem menu_true {o : Int} (h : ([33, 42, 43, 45].any fun x => x == o) = true) : o = 33 ∨ o = 42 ∨ o = 43 ∨ o = 45 := by
  simp only [List.any_cons, List.any_nil, Bool.or_false, Bool.or_eq_true, beq_iff_eq] at h
  omega
theorem menu_false {o : Int} (h : ([33, 42, 43, 45].any fun x => x == o) = false) : o ≠ 33 ∧ o ≠ 42 ∧ o ≠ 43 ∧ o ≠ 45 := by
  simp only [List.any_cons, List.any_nil, Bool.or_false, Bool.or_eq_false_iff, beq_eq_false_iff_ne] at h
  omega
section
variable {hand octet : Nat}
theorem cl_32 (h1 : hand = 1) (h2 : octet = 32) : [(95 : Int)] = zs (codes hand octet) := by
  subst h1 h2; rfl
theorem cl_self (h : (hand = 1 ∧ octet ≠ 32 ∧ ((65 ≤ octet ∧ octet ≤ 90) ∨ (97 ≤ octet ∧ octet ≤ 122) ∨ (47 ≤ octet ∧ octet ≤ 57) ∨ octet = 33 ∨ octet = 42 ∨ octet = 43 ∨ octet = 45)) ∨ (hand = 2 ∧ 33 ≤ octet ∧ octet ≤ 126 ∧ octet ≠ 61)) :
    [(octet : Int)] = zs (codes hand octet) := by
  have e : codes hand octet = [octet] := by
    unfold codes
    repeat' split
    all_goals first | rfl | (exfalso; omega)
  rw [e]; rfl
theorem cl_lf (h1 : hand = 2) (h2 : octet = 10 ∨ octet = 13) : [(10 : Int)] = zs (codes hand octet) := by
  subst h1
  rcases h2 with rfl | rfl <;> rfl
theorem hex_hi (o : Nat) : (48 : Int) + (o : Int).fdiv 16 + 7 * ((o : Int).fdiv 16).fdiv 10 = ((hexd (o / 16) : Nat) : Int) := by
  unfold hexd
  rw [Int.fdiv_eq_ediv_of_nonneg _ (show (0 : Int) ≤ 16 by decide), Int.fdiv_eq_ediv_of_nonneg _ (show (0 : Int) ≤ 10 by decide)]
  omega
theorem hex_lo (o : Nat) : (48 : Int) + (o : Int).fmod 16 + 7 * ((o : Int).fmod 16).fdiv 10 = ((hexd (o % 16) : Nat) : Int) := by
  unfold hexd
  rw [Int.fmod_eq_emod_of_nonneg _ (show (0 : Int) ≤ 16 by decide), Int.fdiv_eq_ediv_of_nonneg _ (show (0 : Int) ≤ 10 by decide)]
  omega
theorem cl_hex (h1 : hand ≠ 1 ∨ (octet ≠ 32 ∧ ¬ (65 ≤ octet ∧ octet ≤ 90) ∧ ¬ (97 ≤ octet ∧ octet ≤ 122) ∧ ¬ (47 ≤ octet ∧ octet ≤ 57) ∧ octet ≠ 33 ∧ octet ≠ 42 ∧ octet ≠ 43 ∧ octet ≠ 45))
    (h2 : hand ≠ 2 ∨ (octet ≠ 10 ∧ octet ≠ 13 ∧ (octet < 33 ∨ 126 < octet ∨ octet = 61))) :
    [(61 : Int), 48 + (octet : Int).fdiv 16 + 7 * ((octet : Int).fdiv 16).fdiv 10, 48 + (octet : Int).fmod 16 + 7 * ((octet : Int).fmod 16).fdiv 10] = zs (codes hand octet) := by
  have e : codes hand octet = [61, hexd (octet / 16), hexd (octet % 16)] := by
    unfold codes
    repeat' split
    all_goals first | rfl | (exfalso; omega)
  rw [e, hex_hi, hex_lo]; rfl
end
end Mine
namespace Mine
open PySem.Builtin PySem.Builtin.Str PySem.Calls
/-! bytes.decode("latin1") of one octet -/
section
variable {b : UInt8} {t u : Tok}
theorem lat_run (id : String) : _codecs.runDecoder id _codecs.latin1Decoder none true [b].toArray 0 [] = pure (#[b.toNat], 1) := by
  kernel_rfl
theorem lat_road {id : String} : _codecs.decodeRoad id [b].toArray (PySem.Str.ofString "latin1") none [] = (_codecs.runDecoder id _codecs.latin1Decoder none true [b].toArray 0 [] >>= fun r => mkStr ⟨r.1⟩) := by kernel_rfl
theorem lat_text {t1 t2 : Tok} {d : PySem.Str} :
    Meets («_codecs.decode.text» ⟨[.bytes [b].toArray t, .str (PySem.Str.ofString "latin1") t1, .none, .str d t2], []⟩) (fun _ R s => R (.ok (.ret (.str ⟨#[b.toNat]⟩ s.toks))) { s with toks := s.toks + 1 }) := by
  refine .of_wp fun prog w A R s h => ?_
  show wpAny _ _ (Bytes.bytesLike _ (.bytes [b].toArray t) >>= fun r => _) _ _ s
  refine wpAny_bind (wpAny_of_eq KBd.like_eq ?_)
  refine wpAny_bind (wpAny_of_eq KBd.held_eq ?_)
  show wpAny _ _ (_codecs.decodeRoad _ [b].toArray (PySem.Str.ofString "latin1") none [] >>= fun v => _) _ _ s
  rw [lat_road, lat_run]
  refine wpAny_bind (wpAny_bind (wpAny_pure ?_))
  exact wpAny_mkStr (wpAny_pure ⟨_, rfl, h⟩) (by show 1 ≤ sizeLine; decide)
theorem lat_entry : «bytes.decode» ⟨[.bytes [b].toArray t, .str (PySem.Str.ofString "latin1") u], []⟩ = (mkStr (PySem.Str.ofString "utf-8") >>= fun _ => mkStr (PySem.Str.ofString "latin1") >>= fun e => mkStr (PySem.Str.ofString "bytes.decode") >>= fun d =>
    call (.builtin "_codecs.decode.text") [.bytes [b].toArray t, e, .none, d] >>= fun v => ret v) := by kernel_rfl
theorem lat_decode : Meets («bytes.decode» ⟨[.bytes [b].toArray t, .str (PySem.Str.ofString "latin1") u], []⟩) (fun _ R s => ∀ t' k, R (.ok (.ret (.str ⟨#[b.toNat]⟩ t'))) { s with toks := k }) := by
  refine .of_wp fun prog w A R s h => ?_
  rw [lat_entry]
  refine wpAny_bind (wpAny_mkStr ?_ (by decide))
  refine wpAny_bind (wpAny_mkStr ?_ (by decide))
  refine wpAny_bind (wpAny_mkStr ?_ (by decide))
  exact wpAny_bind (call_function_meets KBd.kind_text KBd.plain_text KBd.entry_text (KBd.args_text _ _ _ _) lat_text (wpAny_pure ⟨_, rfl, h _ _⟩))
end
theorem args_bytes_decode_2 (a b : Value) : argsOk "bytes.decode" ⟨[a, b], []⟩ := by
  first | exact FB.args_bytes_decode_2 a b | (unfold argsOk; kernel_rfl)
section
variable {prog : Program} {w : World} {A : Around} {E : Value → Shared → Prop} {s : Shared} {b : UInt8} {t u : Tok}
theorem lat {Q : Value → Shared → Prop} (h : ∀ t' k, Q (.str ⟨#[b.toNat]⟩ t') { s with toks := k }) :
    wpAny (model prog w) A (call (.builtin "bytes.decode") [.bytes [b].toArray t, .str (PySem.Str.ofString "latin1") u]) Q E s :=
  call_meets FB.slot_bytes_decode (typeIs_bytes _ _ _) FB.entry_bytes_decode (args_bytes_decode_2 _ _) lat_decode h
end
end Mine
namespace Mine
open PySem.Builtin PySem.Builtin.Str PySem.Calls
section
variable {prog : Program} {w : World} {A : Around} {E : Value → Shared → Prop} {s : Shared} {c : Nat} {t u : Tok} {x : PySem.Str} {l : Addr}
theorem look_one {items : Array Value} {Q : Mapped → Shared → Prop} (hl : s.heap.IsList l items) (hc : c < 256) (hx : items[c]? = some (.str x u)) (h : ∀ k, Q (.text x) { s with toks := k }) :
    wpAny (model prog w) A (tableLookup (.ref l) c) Q E s := by
  unfold tableLookup
  refine wpAny_bind (wpAny_attempt (wpAny_bind (wpAny_mkInt ?_)))
  refine wpAny_getItem_list (items := items) (s := { s with toks := s.toks + 1 }) hl (by omega) (by omega) (by simpa using hx) ?_
  exact wpAny_pure (h _)
theorem one_sign {x : PySem.Str} (h : x.length = 1) : ∃ d, x = ⟨#[d]⟩ := by
  obtain ⟨⟨l⟩⟩ := x
  match l, h with
  | [d], _ => exact ⟨d, rfl⟩
theorem tr_end {R : Result → Shared → Prop} {k : Nat} (ht2 : tooLong x.length = false) (hz : x.length ≤ 100) (h : ∀ t' k, R (.ok (.ret (.str x t'))) { s with toks := k }) :
    wpAny (model prog w) A (if tooLong (0 + x.length) = true then do
        let _ ← (unsupported "str.translate:memory" : Sem Unit)
        retStr { cps := List.foldl (fun acc p => acc ++ p.cps) #[] [x].reverse }
      else retStr { cps := List.foldl (fun acc p => acc ++ p.cps) #[] [x].reverse })
      (fun fin s' => ∃ v, fin = Fin.done (Flow.ret v) ∧ R (Except.ok (Flow.ret v)) s') (fun e s' => R (Except.error e) s') { s with toks := k } := by
  rw [Nat.zero_add, ht2]
  simp only [Bool.false_eq_true, if_false]
  have e : List.foldl (fun acc (p : PySem.Str) => acc ++ p.cps) #[] [x].reverse = x.cps := by simp
  rw [e]
  unfold retStr
  refine wpAny_bind (wpAny_mkStr ?_ (by show x.length ≤ sizeLine; rw [sizeLine_eq]; omega))
  exact wpAny_pure ⟨_, rfl, h _ _⟩
theorem tr_meets {items : Array Value} (hc : c < 256) (hx : items[c]? = some (.str x u)) (hz : x.length ≤ 100) :
    Meets («str.translate» ⟨[.str ⟨#[c]⟩ t, .ref l], []⟩) (fun _ R s => s.heap.IsList l items ∧ ∀ t' k, R (.ok (.ret (.str x t'))) { s with toks := k }) := by
  refine .of_wp fun prog w A R s hS => ?_
  obtain ⟨hl, h⟩ := hS
  unfold «str.translate»
  have ha : (#[c] : Array Nat).all (fun x => decide (x < 128)) = decide (c < 128) := by simp
  have ht : tooLong 0 = false := by decide
  have ht2 : tooLong x.length = false := by unfold tooLong; exact decide_eq_false (by rw [show sizeLine = 16777216 from sizeLine_eq]; omega)
  refine wpAny_bind (wpAny_of_eq (show _ = pure (Value.str ⟨#[c]⟩ t, (⟨#[c]⟩ : PySem.Str), Value.ref l) from rfl) ?_)
  dsimp only
  rw [if_neg (show ¬ ((⟨#[c]⟩ : PySem.Str).length == 0) = true from Bool.false_ne_true)]
  refine wpAny_bind ?_
  simp only [List.forIn_toArray, List.forIn_cons, List.forIn_nil, ha, ht, Bool.false_eq_true, if_false]
  refine wpAny_bind ?_
  cases hb : decide (c < 128)
  · simp only [Bool.false_eq_true, if_false]
    refine wpAny_bind (look_one hl hc hx fun k => ?_)
    dsimp only
    refine wpAny_pure ?_
    dsimp only
    refine wpAny_pure ?_
    dsimp only
    exact tr_end ht2 hz h
  · simp only [if_true, List.lookup_nil]
    refine wpAny_bind (look_one hl hc hx fun k => ?_)
    dsimp only
    cases hb2 : (x.length == 1 && x.cps.all fun y => decide (y < 128))
    · simp only [Bool.false_eq_true, if_false]
      refine wpAny_bind (wpAny_pure ?_)
      dsimp only
      refine wpAny_bind (wpAny_rule ?_)
      refine wpAny_bind (look_one (s := { s with toks := k }) hl hc hx fun k => ?_)
      dsimp only
      refine wpAny_pure ?_
      dsimp only
      refine wpAny_pure ?_
      dsimp only
      exact tr_end ht2 hz h
    · simp only [if_true]
      rw [Bool.and_eq_true] at hb2
      obtain ⟨d, hd⟩ := one_sign (beq_iff_eq.mp hb2.1)
      subst hd
      refine wpAny_bind (wpAny_pure ?_)
      dsimp only
      refine wpAny_pure ?_
      dsimp only
      refine wpAny_pure ?_
      dsimp only
      exact tr_end (x := ⟨#[d]⟩) ht2 hz h
end
section
variable {prog : Program} {w : World} {A : Around} {E : Value → Shared → Prop} {s : Shared} {c : Nat} {t u : Tok} {x : PySem.Str} {l : Addr}
theorem tr_one {items : Array Value} {Q : Value → Shared → Prop} (hl : s.heap.IsList l items) (hc : c < 256) (hx : items[c]? = some (.str x u)) (hz : x.length ≤ 100) (h : ∀ t' k, Q (.str x t') { s with toks := k }) :
    wpAny (model prog w) A (call (.builtin "str.translate") [.str ⟨#[c]⟩ t, .ref l]) Q E s :=
  call_meets F.slot_str_translate (typeIs_str _ _ _) F.entry_str_translate (F.args_str_translate_2 _ _) (tr_meets hc hx hz) ⟨hl, h⟩
theorem tr_get {M : Model} {pl : Sem Bool} {Q : Value × List Value → Shared → Prop} (h : Q (.builtin "str.translate", [.str x t]) s) : wpAny M A (getMethod (.str x t) "translate" pl) Q E s := by
  with_reducible exact GM.of (.str x t) (typeIs_str _ _ _) F.slot_str_translate F.type_str_translate GM.noRef h
end
end Mine
namespace Mine
open PySem.Builtin PySem.Builtin.Str PySem.Calls Lean
abbrev bmObj (id : String) (a : Addr) : Obj := { cls := .type "builtin_function_or_method", data := .fields #[.builtin id, .ref a] }
theorem told : (Manifest.toldItsClass.contains "list.append") = false := by decide +kernel
theorem bm_get {a : Addr} : Meets (Builtin.«method_descriptor.__get__» ⟨[.builtin "list.append", .ref a, .type "list"], []⟩) (fun _ R s => s.TypeIs (.ref a) "list" ∧ R (.ok (.ret (.ref s.heap.objs.size))) { s with heap := s.heap.push (bmObj "list.append" a) }) := by
  refine .of_wp fun prog w A R s hS => ?_
  obtain ⟨hT, h⟩ := hS
  have ht := told
  have sub : isSubtype (.type "list") (.type "list") = pure true := by rw [isSubtype_type]; kernel_rfl
  have ow : (".".intercalate ("list.append".cutAt '.').dropLast) = "list" := by decide +kernel
  have g1 : (Value.ref a == Value.none) = false := rfl
  have g2 : (Value.type "list" == Value.none) = false := rfl
  unfold Builtin.«method_descriptor.__get__»
  refine wpAny_bind (wpAny_of_eq (show _ = pure (Value.builtin "list.append", some (Value.ref a), some (Value.type "list")) from by kernel_rfl) ?_)
  dsimp only
  rw [ht]
  simp only [Bool.false_eq_true, if_false]
  refine wpAny_bind ?_
  wp_delta
  refine wpAny_bind (wpAny_of_eq (show _ = pure (PySem.Str.ofString "append", Value.type "list") from by kernel_rfl) ?_)
  dsimp only
  refine wpAny_bind (wpAny_isInstance hT sub ?_)
  simp only [Bool.not_true, Bool.false_eq_true, if_false]
  refine wpAny_pure ?_
  unfold newFields
  refine wpAny_bind ?_
  refine wpAny_newObj_type ?_ ?_
  · exact wpAny_pure ⟨_, rfl, h⟩
  · size_fits
theorem bm_slot : Slot "method_descriptor" "__get__" "method_descriptor.__get__" :=
  .of (owner := "method_descriptor") (n := "__get__") (by rw [typeLookup_type, builtinLookup_eq_fast]; kernel_rfl) (by decide +kernel) (by decide +kernel) (by decide +kernel)
    (by first | exact .inl (by decide +kernel) | exact .inr (by decide +kernel)) (by rw [isSubtype_type]; kernel_rfl)
theorem bm_entry : entryFor table "method_descriptor.__get__" = some Builtin.«method_descriptor.__get__» := entryFor_of_tree (by kernel_rfl)
theorem bm_args (a b c : Value) : argsOk "method_descriptor.__get__" ⟨[a, b, c], []⟩ := by unfold argsOk; kernel_rfl
theorem bm_set : typeLookup (.type "method_descriptor") "__set__" = pure none := by rw [typeLookup_type, builtinLookup_eq_fast]; kernel_rfl
theorem bm_del : typeLookup (.type "method_descriptor") "__delete__" = pure none := by rw [typeLookup_type, builtinLookup_eq_fast]; kernel_rfl
theorem bm_ga {a : Addr} {xs : Array Value} {k : Nat} {sl : Array (Option Value)} {u : Tok} :
    Meets (Builtin.«object.__getattribute__» ⟨[.ref a, .str (PySem.Str.ofString "append") u], []⟩) (fun _ R s => s.heap.get? a = some { cls := .type "list", dict := none, data := .seq xs k, slots := sl } ∧ R (.ok (.ret (.ref s.heap.objs.size))) { s with heap := s.heap.push (bmObj "list.append" a) }) :=
  Meets.of_wp fun prog w A R s hs => by
    obtain ⟨hp, g, d, tk, os⟩ := s
    obtain ⟨hx, hs⟩ := hs
    have hT : (⟨hp, g, d, tk, os⟩ : Shared).TypeIs (.ref a) "list" := ⟨_, hx, rfl⟩
    have f1 := F.slot_list_append.lookup
    have f2 := F.type_list_append
    have f3 := bm_slot.lookup
    have f4 := bm_set
    have f5 := bm_del
    have hT2 : (⟨hp, g, d, tk, os⟩ : Shared).TypeIs (.builtin "list.append") "method_descriptor" := f2
    have hname : (["__module__", "__name__", "__qualname__", "__doc__", "__annotations__"] : List Str).contains (PySem.Str.ofString "append") = false := by decide +kernel
    unfold Builtin.«object.__getattribute__»
    repeat (any_goals (first | assumption | ((with_reducible show wpAny _ _ (call (Value.builtin "method_descriptor.__get__") _ _) _ _ _); refine call_meets bm_slot hT2 bm_entry (bm_args _ _ _) bm_get ⟨hT, ?_⟩) | wp_step))
    exact wpAny_pure ⟨_, rfl, hs⟩
theorem get_append {prog : Program} {w : World} {A : Around} {E : Value → Shared → Prop} {s : Shared} {a : Addr} {o : Obj} {xs : Array Value} {k : Nat} {Q : Value → Shared → Prop}
    (hx : s.heap.get? a = some o) (hc : o.cls = .type "list") (hdat : o.data = .seq xs k) (hd : o.dict = none)
    (h : ∀ tk, Q (.ref s.heap.objs.size) { s with heap := s.heap.push (bmObj "list.append" a), toks := tk }) :
    wpAny (model prog w) A (getAttr (.ref a) (PySem.Str.ofString "append") true) Q E s := by
  obtain ⟨c, dct, dat, sl⟩ := o
  simp only at hc hdat hd
  subst hc hdat hd
  obtain ⟨hp, g, d, tk, os⟩ := s
  have hT : ∀ tk', (⟨hp, g, d, tk', os⟩ : Shared).TypeIs (.ref a) "list" := fun _ => ⟨_, hx, rfl⟩
  have f3 := F.slot_list_getattribute.lookup
  have f4 := F.slot_list_getattribute.bind (.ref a)
  have f5 := am_list_getattr_none
  unfold getAttr getAttrBy
  repeat (any_goals (first | assumption | exact hT _ | exact h _ | ((with_reducible show wpAny _ _ (call (Value.builtin "list.__getattribute__") _ _) _ _ _); refine call_meets F.slot_list_getattribute (hT _) am_entry_list_getattribute (F.args_list_getattribute_2 _ _) bm_ga ⟨hx, ?_⟩) | wp_step))
  show wpAny _ _ (handedOut (.ref _)) _ _ _
  exact wpAny_pure (h _)
end Mine
namespace Mine
open PySem.Builtin PySem.Builtin.Str PySem.Calls
theorem bm_kind : builtinKind "list.append" = some .method := by decide +kernel
theorem bm_sub : isSubtype (.type "list") (.type "module") = pure false := by rw [isSubtype_type]; kernel_rfl
theorem bm_var : Manifest.varargsMethods.contains "list.append" = false := by decide +kernel
abbrev bmSig : Manifest.Signature := ⟨.oneArg, "list.append", "append", .self, [⟨"object", .posOnly, true⟩]⟩
theorem bm_sig : Manifest.signature? "list.append" = some bmSig := by
  rw [signature?_of (id := "list.append") (n := ['d', 'n', 'e', 'p', 'p', 'a']) (o := ['t', 's', 'i', 'l']) (by kernel_rfl) PySem.F.owner_list]; kernel_rfl
theorem bm_chk {prog : Program} {w : World} {A : Around} {E : Value → Shared → Prop} {s : Shared} {a : Addr} {x : Value} {xs : Array Value} {k : Nat} {sl : Array (Option Value)} {Q : Unit → Shared → Prop}
    (hx : s.heap.get? a = some { cls := .type "list", dict := none, data := .seq xs k, slots := sl }) (h : Q () s) : wpAny (model prog w) A (checkBoundCall "list.append" ⟨[.ref a, x], []⟩) Q E s := by
  have hT : s.TypeIs (.ref a) "list" := ⟨_, hx, rfl⟩
  unfold checkBoundCall
  rw [bm_sig, bm_kind]
  dsimp only
  rw [if_neg (by decide)]
  refine wpAny_bind (wpAny_isInstance hT bm_sub ?_)
  rw [bm_var]
  simp only [Bool.or_false, Bool.false_eq_true, if_false]
  refine wpAny_bind ?_
  refine wpAny_bind ?_
  refine wpAny_load hx ?_
  refine wpAny_pure ?_
  rw [if_neg (by show ¬ (false = true); decide)]
  refine wpAny_bind (wpAny_typeOf hT ?_)
  show wpAny _ _ (Bind.checkArgs "list.append" ⟨.oneArg, toString (Bind.lastOf "list") ++ toString "." ++ toString (Bind.lastOf "list.append"), "append", .self, [⟨"object", .posOnly, true⟩]⟩ ⟨[Value.ref a, x], []⟩) _ _ _
  have e : Bind.checkArgs "list.append" ⟨.oneArg, toString (Bind.lastOf "list") ++ toString "." ++ toString (Bind.lastOf "list.append"), "append", .self, [⟨"object", .posOnly, true⟩]⟩ ⟨[Value.ref a, x], []⟩ = pure () := by kernel_rfl
  rw [e]
  exact wpAny_pure h
theorem bm_call {prog : Program} {w : World} {A : Around} {E : Value → Shared → Prop} {s : Shared} {h₀ : Heap} {L q a : Addr} {m : Str → Option Value} {news news' : List (Addr × Obj)} {x : Value} {its : Array Value} {n : Nat} {Q : Value → Shared → Prop}
    (F : Fr h₀ L s.heap m) (N : News h₀ L s.heap news) (hq : (q, bmObj "list.append" a) ∈ news) (U : Upd a (listOf its n) (listOf (its.push x) (n + 1)) news news')
    (h : ∀ h', Fr h₀ L h' m → News h₀ L h' news' → Q .none { s with heap := h' }) (hsz : its.size ≤ sizeLine := by size_fits) : wpAny (model prog w) A (call (.ref q) [x]) Q E s := by
  have hap := append_K (prog := prog) (w := w) (A := A) (E := E) F N U h hsz
  obtain ⟨pre, post, e1, e2, _, _⟩ := U.split
  have hx : s.heap.get? a = some (listOf its n) := (N (a, listOf its n) (by rw [e1]; exact List.mem_append.mpr (.inr (.head _)))).1
  have hqo := (N _ hq).1
  refine wpAny_call ?_
  obtain ⟨hh, g, dr, t, os⟩ := s
  refine codeAny_of_tree ?_
  show wpAny _ _ (callAny (.ref q) _) _ _ _
  dsimp only at hqo hx
  unfold callAny
  refine wpAny_bind (wpAny_load hqo ?_)
  dsimp only
  rw [if_pos (by decide)]
  have hne : (Value.type "builtin_function_or_method" != Value.type "method") = true := by decide
  show wpAny _ _ (if (Value.type "builtin_function_or_method" != Value.type "method") = true then (do
      checkBoundCall "list.append" ⟨[.ref a, x], []⟩
      again (Code.builtin "list.append" ⟨[.ref a, x], []⟩)) else _) _ _ _
  rw [if_pos hne]
  refine wpAny_bind (bm_chk hx ?_)
  refine wpAny_pure ⟨Code.quiet_builtin _ (by decide +kernel), codeAny_builtin entry_list_append ?_⟩
  show wpAny _ _ (updateSeq a (·.push x) >>= fun _ => ret .none) _ _ _
  have z := N (a, listOf its n) (by rw [e1]; exact List.mem_append.mpr (.inr (.head _)))
  refine wpAny_bind (wpAny_updateSeq hx rfl (wpAny_pure ?_))
  show Q .none _
  subst e1 e2
  refine h _ (F.change (Heap.SameBut.update ..) z.2.1 z.2.2) (news_set N (by assumption) (by assumption) (Heap.SameBut.update ..) ?_)
  rw [Heap.get?_update_self _ hx (by rw [mapSeq_push]; rfl), mapSeq_push]
theorem bm_getK {prog : Program} {w : World} {A : Around} {E : Value → Shared → Prop} {s : Shared} {h₀ : Heap} {L a : Addr} {m : Str → Option Value} {news : List (Addr × Obj)} {its : Array Value} {n : Nat} {Q : Value → Shared → Prop}
    (F : Fr h₀ L s.heap m) (N : News h₀ L s.heap news) (hm : (a, listOf its n) ∈ news)
    (h : ∀ q h' tk, Fr h₀ L h' m → News h₀ L h' ((q, bmObj "list.append" a) :: news) → (∀ p ∈ news, p.1 < q) → Q (.ref q) { s with heap := h', toks := tk }) :
    wpAny (model prog w) A (getAttr (.ref a) (PySem.Str.ofString "append") true) Q E s :=
  get_append (N _ hm).1 rfl rfl rfl fun tk => h _ _ tk (F.push _) (N.push F _) fun p hp => Heap.lt_size (N p hp).1
theorem bm_with {M : Model} {A : Around} {E : Value → Shared → Prop} {s : Shared} {env : Env} {pos : Pos} {first : List Value} {Q : Value → Shared → Prop} {h₀ : Heap} {L q a : Addr} {news : List (Addr × Obj)} {e : Expr} {rest : List Expr}
    (_N : News h₀ L s.heap news) (_q : (q, bmObj "list.append" a) ∈ news) (h : wpAny M A (spliced (backTo pos (starEach (e :: rest) env))) (fun vs s₁ => s₁.heap.get? q = some (bmObj "list.append" a) ∧ wpAny M A (call (.ref q) (first ++ vs)) Q E s₁) E s)
    (he : starEach (e :: rest) env = (false, eval e env) :: starEach rest env := by rfl) (hplain : (backTo pos (starEach rest env)).any (·.1) = false := by rfl) :
    wpAny M A (callWith pos (.ref q) first (backTo pos (starEach (e :: rest) env)) []) Q E s := by
  rw [he] at h ⊢
  exact callWith_of (P := fun h => h.get? q = some (bmObj "list.append" a)) (by show ((false || (backTo pos (starEach rest env)).any (·.1)) || false) = false; rw [hplain]; rfl)
    (fun h X => ⟨.machine, .inr (.inl rfl), (Looks.ld (part := none) X).andThen .now⟩) (evalArgs_plain h)
end Mine
namespace Mine
noncomputable def st (p : Program) (i : Nat) : Stmt := (p.main.body[i]?).getD default
noncomputable def fArgs : Stmt → Arguments | .FunctionDef _ a _ _ _ _ _ _ _ _ => a | _ => default
noncomputable def fBody : Stmt → List Stmt | .FunctionDef _ _ b _ _ _ _ _ _ _ => b | _ => []
noncomputable def fScope : Stmt → Scope | .FunctionDef _ _ _ _ _ _ s _ _ _ => s | _ => default
noncomputable def env0 (p : Program) : Env := { scope := p.main.scope, locals := mainNs, globals := mainNs, cells := [], code := .ref 13, frame := some 14 }
noncomputable def cE (p : Program) : Code := .body (behindTheImports p) (env0 p)
abbrev B0 : List Frame := [topFrame ⟨0, 0, 0, 0⟩]
abbrev ann0 : Option Value := some (.ref 6)
noncomputable def lst (f : Nat → Value) (n : Nat) : List Value := @Nat.rec (fun _ => Nat → List Value) (fun _ => []) (fun _ ih j => f j :: ih (j + 1)) n 0
noncomputable def eQ (j : Nat) : Value := .str ⟨#[61, hexd (j / 16), hexd (j % 16)]⟩ (207 + 4 * j)
noncomputable def QF : Array Value := ⟨lst eQ 256⟩
noncomputable def posOf : List Nat → Nat → Nat → Option Nat
  | [], _, _ => none
  | a :: l, j, k => match Nat.beq a j with | true => some k | false => posOf l j (k + 1)
noncomputable def bsH : List Nat := [45, 33, 42, 43, 47, 97, 98, 99, 100, 101, 102, 103, 104, 105, 106, 107, 108, 109, 110, 111, 112, 113, 114, 115, 116, 117, 118, 119, 120, 121, 122, 65, 66, 67, 68, 69, 70, 71, 72, 73, 74, 75, 76, 77, 78, 79, 80, 81, 82, 83, 84, 85, 86, 87, 88, 89, 90, 48, 49, 50, 51, 52, 53, 54, 55, 56, 57]
noncomputable def bsB : List Nat := [32, 33, 34, 35, 36, 37, 38, 39, 40, 41, 42, 43, 44, 45, 46, 47, 48, 49, 50, 51, 52, 53, 54, 55, 56, 57, 58, 59, 60, 62, 63, 64, 65, 66, 67, 68, 69, 70, 71, 72, 73, 74, 75, 76, 77, 78, 79, 80, 81, 82, 83, 84, 85, 86, 87, 88, 89, 90, 91, 92, 93, 94, 95, 96, 97, 98, 99, 100, 101, 102, 103, 104, 105, 106, 107, 108, 109, 110, 111, 112, 113, 114, 115, 116, 117, 118, 119, 120, 121, 122, 123, 124, 125, 126, 9]
noncomputable def bsE : List Nat := [13, 10]
noncomputable def eH (j : Nat) : Value := match posOf bsH j 0 with | some k => .str ⟨#[j]⟩ (1250 + 3 * k) | none => eQ j
noncomputable def eB (j : Nat) : Value := match posOf bsB j 0 with | some k => .str ⟨#[j]⟩ (1455 + 3 * k) | none => eQ j
noncomputable def HF : Array Value := ⟨lst eH 256⟩
noncomputable def BF : Array Value := ⟨lst eB 256⟩
noncomputable def LQ (i : Nat) : Array Value := @Nat.rec (fun _ => Array Value) #[] (fun n ih => ih.push (eQ n)) i
noncomputable def LS (X : Array Value) (bs : List Nat) (t : Nat) (i : Nat) : Array Value := @Nat.rec (fun _ => Array Value) X (fun n ih => ih.setIfInBounds (bs.getD n 0) (.str ⟨#[bs.getD n 0]⟩ (t + 2 + 3 * n))) i
noncomputable def LE (i : Nat) : Array Value := LS BF bsE 1757 i
noncomputable def q11_pre (p : Program) (P : Params) : Obj := ⟨(.type "tuple"), none, (.seq #[] 0), #[]⟩
noncomputable def q12_pre (p : Program) (P : Params) : Obj := ⟨.none, none, (.fields #[]), #[]⟩
noncomputable def q13_pre (p : Program) (P : Params) : Obj := ⟨(.type "code"), none, (.fields #[(.str (Str.ofString "<module>") 182), (.str (Str.ofString "<module>") 183), (.str (Str.ofString "/claim/cut.py") 184), (.int (1) 0), (.int (0) 0), (.int (0) 0), (.int (0) 0), (.int (0) 0), (.ref 11), (.bool false), (.int (181) 0), (.ref 12), .none, .none, .none, .none, (.int (185) 0), (.int (1) 0), (.str (Str.ofString "/claim/cut.py") 186)]), #[]⟩
noncomputable def q14_pre (p : Program) (P : Params) : Obj := ⟨(.type "frame"), none, .plain, #[(some (.ref 13)), (some (.ref 3)), (some (.ref 3)), none, (some (.str (Str.ofString "__main__") 164)), none, (some (.ref 0))]⟩
noncomputable def q3_p0 (p : Program) (P : Params) : Obj := ⟨(.type "dict"), none, (.dict #[⟨PyData.keyHash P (Str.ofString "__name__"), (.str (Str.ofString "__name__") 165), (.str (Str.ofString "cpy313.zipfile") 187)⟩, ⟨PyData.keyHash P (Str.ofString "__doc__"), (.str (Str.ofString "__doc__") 166), .none⟩, ⟨PyData.keyHash P (Str.ofString "__package__"), (.str (Str.ofString "__package__") 167), .none⟩, ⟨PyData.keyHash P (Str.ofString "__loader__"), (.str (Str.ofString "__loader__") 168), (.builtin "__main__.__loader__#opaque")⟩, ⟨PyData.keyHash P (Str.ofString "__spec__"), (.str (Str.ofString "__spec__") 169), .none⟩, ⟨PyData.keyHash P (Str.ofString "__annotations__"), (.str (Str.ofString "__annotations__") 170), (.ref 6)⟩, ⟨PyData.keyHash P (Str.ofString "__builtins__"), (.str (Str.ofString "__builtins__") 171), (.ref 4)⟩, ⟨PyData.keyHash P (Str.ofString "__file__"), (.str (Str.ofString "__file__") 173), (.str (Str.ofString "/claim/cut.py") 172)⟩, ⟨PyData.keyHash P (Str.ofString "__cached__"), (.str (Str.ofString "__cached__") 174), .none⟩] 9), #[]⟩
noncomputable def q3_p1 (p : Program) (P : Params) : Obj := ⟨(.type "dict"), none, (.dict #[⟨PyData.keyHash P (Str.ofString "__name__"), (.str (Str.ofString "__name__") 165), (.str (Str.ofString "cpy313.zipfile") 187)⟩, ⟨PyData.keyHash P (Str.ofString "__doc__"), (.str (Str.ofString "__doc__") 166), .none⟩, ⟨PyData.keyHash P (Str.ofString "__package__"), (.str (Str.ofString "__package__") 167), .none⟩, ⟨PyData.keyHash P (Str.ofString "__loader__"), (.str (Str.ofString "__loader__") 168), (.builtin "__main__.__loader__#opaque")⟩, ⟨PyData.keyHash P (Str.ofString "__spec__"), (.str (Str.ofString "__spec__") 169), .none⟩, ⟨PyData.keyHash P (Str.ofString "__annotations__"), (.str (Str.ofString "__annotations__") 170), (.ref 6)⟩, ⟨PyData.keyHash P (Str.ofString "__builtins__"), (.str (Str.ofString "__builtins__") 171), (.ref 4)⟩, ⟨PyData.keyHash P (Str.ofString "__file__"), (.str (Str.ofString "__file__") 173), (.str (Str.ofString "/claim/cut.py") 172)⟩, ⟨PyData.keyHash P (Str.ofString "__cached__"), (.str (Str.ofString "__cached__") 174), .none⟩, ⟨PyData.keyHash P (Str.ofString "_gen_crc"), (.str (Str.ofString "_gen_crc") 196), (.ref 21)⟩] 10), #[]⟩
noncomputable def q12_p1 (p : Program) (P : Params) : Obj := ⟨.none, none, (.fields #[(.int (2) 0), (.int (0) 0), (.ref 20)]), #[]⟩
noncomputable def q15_p1 (p : Program) (P : Params) : Obj := ⟨(.type "tuple"), none, (.seq #[] 0), #[]⟩
noncomputable def q16_p1 (p : Program) (P : Params) : Obj := ⟨.none, none, (.fields #[]), #[]⟩
noncomputable def q17_p1 (p : Program) (P : Params) : Obj := ⟨(.type "tuple"), none, (.seq #[(.str (Str.ofString "crc") 192), (.str (Str.ofString "j") 193)] 0), #[]⟩
noncomputable def q18_p1 (p : Program) (P : Params) : Obj := ⟨(.type "tuple"), none, (.seq #[] 0), #[]⟩
noncomputable def q19_p1 (p : Program) (P : Params) : Obj := ⟨.none, none, (.func { name := (Str.ofString "_gen_crc"), qualname := (Str.ofString "_gen_crc"), params := fArgs (st p 1), body := .stmts (fBody (st p 1)), scope := fScope (st p 1), globals := 0, closure := [], defaults := .none, kwdefaults := .none, doc := .none, pyModule := .none, annotations := none, code := .none, closureTuple := .none, builtins := 0 }), #[]⟩
noncomputable def q20_p1 (p : Program) (P : Params) : Obj := ⟨(.type "code"), none, (.fields #[(.str (Str.ofString "_gen_crc") 189), (.str (Str.ofString "_gen_crc") 190), (.str (Str.ofString "/claim/cut.py") 191), (.int (2) 0), (.int (1) 0), (.int (0) 0), (.int (0) 0), (.int (3) 0), (.ref 15), (.bool true), (.int (181) 0), (.ref 16), .none, (.ref 17), (.ref 18), (.ref 19), (.int (194) 0), (.int (2) 0), (.str (Str.ofString "/claim/cut.py") 195)]), #[]⟩
noncomputable def q21_p1 (p : Program) (P : Params) : Obj := ⟨(.type "function"), none, (.func { name := (Str.ofString "_gen_crc"), qualname := (Str.ofString "_gen_crc"), params := fArgs (st p 1), body := .stmts (fBody (st p 1)), scope := fScope (st p 1), globals := 3, closure := [], defaults := .none, kwdefaults := .none, doc := .none, pyModule := (.str (Str.ofString "cpy313.zipfile") 187), annotations := none, code := (.ref 20), closureTuple := .none, builtins := 0 }), #[]⟩
noncomputable def q3_p2 (p : Program) (P : Params) : Obj := ⟨(.type "dict"), none, (.dict #[⟨PyData.keyHash P (Str.ofString "__name__"), (.str (Str.ofString "__name__") 165), (.str (Str.ofString "cpy313.zipfile") 187)⟩, ⟨PyData.keyHash P (Str.ofString "__doc__"), (.str (Str.ofString "__doc__") 166), .none⟩, ⟨PyData.keyHash P (Str.ofString "__package__"), (.str (Str.ofString "__package__") 167), .none⟩, ⟨PyData.keyHash P (Str.ofString "__loader__"), (.str (Str.ofString "__loader__") 168), (.builtin "__main__.__loader__#opaque")⟩, ⟨PyData.keyHash P (Str.ofString "__spec__"), (.str (Str.ofString "__spec__") 169), .none⟩, ⟨PyData.keyHash P (Str.ofString "__annotations__"), (.str (Str.ofString "__annotations__") 170), (.ref 6)⟩, ⟨PyData.keyHash P (Str.ofString "__builtins__"), (.str (Str.ofString "__builtins__") 171), (.ref 4)⟩, ⟨PyData.keyHash P (Str.ofString "__file__"), (.str (Str.ofString "__file__") 173), (.str (Str.ofString "/claim/cut.py") 172)⟩, ⟨PyData.keyHash P (Str.ofString "__cached__"), (.str (Str.ofString "__cached__") 174), .none⟩, ⟨PyData.keyHash P (Str.ofString "_gen_crc"), (.str (Str.ofString "_gen_crc") 196), (.ref 21)⟩, ⟨PyData.keyHash P (Str.ofString "CRLF"), (.str (Str.ofString "CRLF") 198), (.str ⟨#[13, 10]⟩ 197)⟩] 11), #[]⟩
noncomputable def q3_p3 (p : Program) (P : Params) : Obj := ⟨(.type "dict"), none, (.dict #[⟨PyData.keyHash P (Str.ofString "__name__"), (.str (Str.ofString "__name__") 165), (.str (Str.ofString "cpy313.zipfile") 187)⟩, ⟨PyData.keyHash P (Str.ofString "__doc__"), (.str (Str.ofString "__doc__") 166), .none⟩, ⟨PyData.keyHash P (Str.ofString "__package__"), (.str (Str.ofString "__package__") 167), .none⟩, ⟨PyData.keyHash P (Str.ofString "__loader__"), (.str (Str.ofString "__loader__") 168), (.builtin "__main__.__loader__#opaque")⟩, ⟨PyData.keyHash P (Str.ofString "__spec__"), (.str (Str.ofString "__spec__") 169), .none⟩, ⟨PyData.keyHash P (Str.ofString "__annotations__"), (.str (Str.ofString "__annotations__") 170), (.ref 6)⟩, ⟨PyData.keyHash P (Str.ofString "__builtins__"), (.str (Str.ofString "__builtins__") 171), (.ref 4)⟩, ⟨PyData.keyHash P (Str.ofString "__file__"), (.str (Str.ofString "__file__") 173), (.str (Str.ofString "/claim/cut.py") 172)⟩, ⟨PyData.keyHash P (Str.ofString "__cached__"), (.str (Str.ofString "__cached__") 174), .none⟩, ⟨PyData.keyHash P (Str.ofString "_gen_crc"), (.str (Str.ofString "_gen_crc") 196), (.ref 21)⟩, ⟨PyData.keyHash P (Str.ofString "CRLF"), (.str (Str.ofString "CRLF") 198), (.str ⟨#[13, 10]⟩ 197)⟩, ⟨PyData.keyHash P (Str.ofString "NL"), (.str (Str.ofString "NL") 200), (.str ⟨#[10]⟩ 199)⟩] 12), #[]⟩
noncomputable def q3_p4 (p : Program) (P : Params) : Obj := ⟨(.type "dict"), none, (.dict #[⟨PyData.keyHash P (Str.ofString "__name__"), (.str (Str.ofString "__name__") 165), (.str (Str.ofString "cpy313.zipfile") 187)⟩, ⟨PyData.keyHash P (Str.ofString "__doc__"), (.str (Str.ofString "__doc__") 166), .none⟩, ⟨PyData.keyHash P (Str.ofString "__package__"), (.str (Str.ofString "__package__") 167), .none⟩, ⟨PyData.keyHash P (Str.ofString "__loader__"), (.str (Str.ofString "__loader__") 168), (.builtin "__main__.__loader__#opaque")⟩, ⟨PyData.keyHash P (Str.ofString "__spec__"), (.str (Str.ofString "__spec__") 169), .none⟩, ⟨PyData.keyHash P (Str.ofString "__annotations__"), (.str (Str.ofString "__annotations__") 170), (.ref 6)⟩, ⟨PyData.keyHash P (Str.ofString "__builtins__"), (.str (Str.ofString "__builtins__") 171), (.ref 4)⟩, ⟨PyData.keyHash P (Str.ofString "__file__"), (.str (Str.ofString "__file__") 173), (.str (Str.ofString "/claim/cut.py") 172)⟩, ⟨PyData.keyHash P (Str.ofString "__cached__"), (.str (Str.ofString "__cached__") 174), .none⟩, ⟨PyData.keyHash P (Str.ofString "_gen_crc"), (.str (Str.ofString "_gen_crc") 196), (.ref 21)⟩, ⟨PyData.keyHash P (Str.ofString "CRLF"), (.str (Str.ofString "CRLF") 198), (.str ⟨#[13, 10]⟩ 197)⟩, ⟨PyData.keyHash P (Str.ofString "NL"), (.str (Str.ofString "NL") 200), (.str ⟨#[10]⟩ 199)⟩, ⟨PyData.keyHash P (Str.ofString "_QUOPRI_MAP"), (.str (Str.ofString "_QUOPRI_MAP") 1228), (.ref 24)⟩] 13), #[]⟩
noncomputable def q22_p4 (p : Program) (P : Params) : Obj := ⟨(.type "range"), none, (.fields #[(.int (0) 202), (.int (256) 201), (.int (1) 203)]), #[]⟩
noncomputable def q23_p4 (p : Program) (P : Params) : Obj := ⟨(.type "range_iterator"), none, (.fields #[(.int (256) 0), (.int (0) 0), (.int (1) 0)]), #[]⟩
noncomputable def q24_p4 (p : Program) (P : Params) : Obj := ⟨(.type "list"), none, (.seq QF 256), #[]⟩
noncomputable def q25_p4 (p : Program) (P : Params) : Obj := ⟨(.type "dict"), none, (.dict #[] 2), #[]⟩
noncomputable def q26_p4 (p : Program) (P : Params) : Obj := ⟨(.type "tuple"), none, (.seq #[] 0), #[]⟩
noncomputable def q27_p4 (p : Program) (P : Params) : Obj := ⟨(.type "StopIteration"), none, (.fields #[(.ref 26), .none, .none, .none, (.bool false), .none]), #[]⟩
noncomputable def q3_p5 (p : Program) (P : Params) : Obj := ⟨(.type "dict"), none, (.dict #[⟨PyData.keyHash P (Str.ofString "__name__"), (.str (Str.ofString "__name__") 165), (.str (Str.ofString "cpy313.zipfile") 187)⟩, ⟨PyData.keyHash P (Str.ofString "__doc__"), (.str (Str.ofString "__doc__") 166), .none⟩, ⟨PyData.keyHash P (Str.ofString "__package__"), (.str (Str.ofString "__package__") 167), .none⟩, ⟨PyData.keyHash P (Str.ofString "__loader__"), (.str (Str.ofString "__loader__") 168), (.builtin "__main__.__loader__#opaque")⟩, ⟨PyData.keyHash P (Str.ofString "__spec__"), (.str (Str.ofString "__spec__") 169), .none⟩, ⟨PyData.keyHash P (Str.ofString "__annotations__"), (.str (Str.ofString "__annotations__") 170), (.ref 6)⟩, ⟨PyData.keyHash P (Str.ofString "__builtins__"), (.str (Str.ofString "__builtins__") 171), (.ref 4)⟩, ⟨PyData.keyHash P (Str.ofString "__file__"), (.str (Str.ofString "__file__") 173), (.str (Str.ofString "/claim/cut.py") 172)⟩, ⟨PyData.keyHash P (Str.ofString "__cached__"), (.str (Str.ofString "__cached__") 174), .none⟩, ⟨PyData.keyHash P (Str.ofString "_gen_crc"), (.str (Str.ofString "_gen_crc") 196), (.ref 21)⟩, ⟨PyData.keyHash P (Str.ofString "CRLF"), (.str (Str.ofString "CRLF") 198), (.str ⟨#[13, 10]⟩ 197)⟩, ⟨PyData.keyHash P (Str.ofString "NL"), (.str (Str.ofString "NL") 200), (.str ⟨#[10]⟩ 199)⟩, ⟨PyData.keyHash P (Str.ofString "_QUOPRI_MAP"), (.str (Str.ofString "_QUOPRI_MAP") 1228), (.ref 24)⟩, ⟨PyData.keyHash P (Str.ofString "_QUOPRI_HEADER_MAP"), (.str (Str.ofString "_QUOPRI_HEADER_MAP") 1229), (.ref 29)⟩] 14), #[]⟩
noncomputable def q28_p5 (p : Program) (P : Params) : Obj := ⟨(.type "slice"), none, (.fields #[.none, .none, .none]), #[]⟩
noncomputable def q29_p5 (p : Program) (P : Params) : Obj := ⟨(.type "list"), none, (.seq QF 0), #[]⟩
noncomputable def q3_p6 (p : Program) (P : Params) : Obj := ⟨(.type "dict"), none, (.dict #[⟨PyData.keyHash P (Str.ofString "__name__"), (.str (Str.ofString "__name__") 165), (.str (Str.ofString "cpy313.zipfile") 187)⟩, ⟨PyData.keyHash P (Str.ofString "__doc__"), (.str (Str.ofString "__doc__") 166), .none⟩, ⟨PyData.keyHash P (Str.ofString "__package__"), (.str (Str.ofString "__package__") 167), .none⟩, ⟨PyData.keyHash P (Str.ofString "__loader__"), (.str (Str.ofString "__loader__") 168), (.builtin "__main__.__loader__#opaque")⟩, ⟨PyData.keyHash P (Str.ofString "__spec__"), (.str (Str.ofString "__spec__") 169), .none⟩, ⟨PyData.keyHash P (Str.ofString "__annotations__"), (.str (Str.ofString "__annotations__") 170), (.ref 6)⟩, ⟨PyData.keyHash P (Str.ofString "__builtins__"), (.str (Str.ofString "__builtins__") 171), (.ref 4)⟩, ⟨PyData.keyHash P (Str.ofString "__file__"), (.str (Str.ofString "__file__") 173), (.str (Str.ofString "/claim/cut.py") 172)⟩, ⟨PyData.keyHash P (Str.ofString "__cached__"), (.str (Str.ofString "__cached__") 174), .none⟩, ⟨PyData.keyHash P (Str.ofString "_gen_crc"), (.str (Str.ofString "_gen_crc") 196), (.ref 21)⟩, ⟨PyData.keyHash P (Str.ofString "CRLF"), (.str (Str.ofString "CRLF") 198), (.str ⟨#[13, 10]⟩ 197)⟩, ⟨PyData.keyHash P (Str.ofString "NL"), (.str (Str.ofString "NL") 200), (.str ⟨#[10]⟩ 199)⟩, ⟨PyData.keyHash P (Str.ofString "_QUOPRI_MAP"), (.str (Str.ofString "_QUOPRI_MAP") 1228), (.ref 24)⟩, ⟨PyData.keyHash P (Str.ofString "_QUOPRI_HEADER_MAP"), (.str (Str.ofString "_QUOPRI_HEADER_MAP") 1229), (.ref 29)⟩, ⟨PyData.keyHash P (Str.ofString "_QUOPRI_BODY_MAP"), (.str (Str.ofString "_QUOPRI_BODY_MAP") 1230), (.ref 31)⟩] 15), #[]⟩
noncomputable def q30_p6 (p : Program) (P : Params) : Obj := ⟨(.type "slice"), none, (.fields #[.none, .none, .none]), #[]⟩
noncomputable def q31_p6 (p : Program) (P : Params) : Obj := ⟨(.type "list"), none, (.seq QF 0), #[]⟩
noncomputable def q3_p7 (p : Program) (P : Params) : Obj := ⟨(.type "dict"), none, (.dict #[⟨PyData.keyHash P (Str.ofString "__name__"), (.str (Str.ofString "__name__") 165), (.str (Str.ofString "cpy313.zipfile") 187)⟩, ⟨PyData.keyHash P (Str.ofString "__doc__"), (.str (Str.ofString "__doc__") 166), .none⟩, ⟨PyData.keyHash P (Str.ofString "__package__"), (.str (Str.ofString "__package__") 167), .none⟩, ⟨PyData.keyHash P (Str.ofString "__loader__"), (.str (Str.ofString "__loader__") 168), (.builtin "__main__.__loader__#opaque")⟩, ⟨PyData.keyHash P (Str.ofString "__spec__"), (.str (Str.ofString "__spec__") 169), .none⟩, ⟨PyData.keyHash P (Str.ofString "__annotations__"), (.str (Str.ofString "__annotations__") 170), (.ref 6)⟩, ⟨PyData.keyHash P (Str.ofString "__builtins__"), (.str (Str.ofString "__builtins__") 171), (.ref 4)⟩, ⟨PyData.keyHash P (Str.ofString "__file__"), (.str (Str.ofString "__file__") 173), (.str (Str.ofString "/claim/cut.py") 172)⟩, ⟨PyData.keyHash P (Str.ofString "__cached__"), (.str (Str.ofString "__cached__") 174), .none⟩, ⟨PyData.keyHash P (Str.ofString "_gen_crc"), (.str (Str.ofString "_gen_crc") 196), (.ref 21)⟩, ⟨PyData.keyHash P (Str.ofString "CRLF"), (.str (Str.ofString "CRLF") 198), (.str ⟨#[13, 10]⟩ 197)⟩, ⟨PyData.keyHash P (Str.ofString "NL"), (.str (Str.ofString "NL") 200), (.str ⟨#[10]⟩ 199)⟩, ⟨PyData.keyHash P (Str.ofString "_QUOPRI_MAP"), (.str (Str.ofString "_QUOPRI_MAP") 1228), (.ref 24)⟩, ⟨PyData.keyHash P (Str.ofString "_QUOPRI_HEADER_MAP"), (.str (Str.ofString "_QUOPRI_HEADER_MAP") 1229), (.ref 29)⟩, ⟨PyData.keyHash P (Str.ofString "_QUOPRI_BODY_MAP"), (.str (Str.ofString "_QUOPRI_BODY_MAP") 1230), (.ref 31)⟩, ⟨PyData.keyHash P (Str.ofString "ascii_lowercase"), (.str (Str.ofString "ascii_lowercase") 1232), (.str (Str.ofString "abcdefghijklmnopqrstuvwxyz") 1231)⟩] 16), #[]⟩
noncomputable def q3_p8 (p : Program) (P : Params) : Obj := ⟨(.type "dict"), none, (.dict #[⟨PyData.keyHash P (Str.ofString "__name__"), (.str (Str.ofString "__name__") 165), (.str (Str.ofString "cpy313.zipfile") 187)⟩, ⟨PyData.keyHash P (Str.ofString "__doc__"), (.str (Str.ofString "__doc__") 166), .none⟩, ⟨PyData.keyHash P (Str.ofString "__package__"), (.str (Str.ofString "__package__") 167), .none⟩, ⟨PyData.keyHash P (Str.ofString "__loader__"), (.str (Str.ofString "__loader__") 168), (.builtin "__main__.__loader__#opaque")⟩, ⟨PyData.keyHash P (Str.ofString "__spec__"), (.str (Str.ofString "__spec__") 169), .none⟩, ⟨PyData.keyHash P (Str.ofString "__annotations__"), (.str (Str.ofString "__annotations__") 170), (.ref 6)⟩, ⟨PyData.keyHash P (Str.ofString "__builtins__"), (.str (Str.ofString "__builtins__") 171), (.ref 4)⟩, ⟨PyData.keyHash P (Str.ofString "__file__"), (.str (Str.ofString "__file__") 173), (.str (Str.ofString "/claim/cut.py") 172)⟩, ⟨PyData.keyHash P (Str.ofString "__cached__"), (.str (Str.ofString "__cached__") 174), .none⟩, ⟨PyData.keyHash P (Str.ofString "_gen_crc"), (.str (Str.ofString "_gen_crc") 196), (.ref 21)⟩, ⟨PyData.keyHash P (Str.ofString "CRLF"), (.str (Str.ofString "CRLF") 198), (.str ⟨#[13, 10]⟩ 197)⟩, ⟨PyData.keyHash P (Str.ofString "NL"), (.str (Str.ofString "NL") 200), (.str ⟨#[10]⟩ 199)⟩, ⟨PyData.keyHash P (Str.ofString "_QUOPRI_MAP"), (.str (Str.ofString "_QUOPRI_MAP") 1228), (.ref 24)⟩, ⟨PyData.keyHash P (Str.ofString "_QUOPRI_HEADER_MAP"), (.str (Str.ofString "_QUOPRI_HEADER_MAP") 1229), (.ref 29)⟩, ⟨PyData.keyHash P (Str.ofString "_QUOPRI_BODY_MAP"), (.str (Str.ofString "_QUOPRI_BODY_MAP") 1230), (.ref 31)⟩, ⟨PyData.keyHash P (Str.ofString "ascii_lowercase"), (.str (Str.ofString "ascii_lowercase") 1232), (.str (Str.ofString "abcdefghijklmnopqrstuvwxyz") 1231)⟩, ⟨PyData.keyHash P (Str.ofString "ascii_uppercase"), (.str (Str.ofString "ascii_uppercase") 1234), (.str (Str.ofString "ABCDEFGHIJKLMNOPQRSTUVWXYZ") 1233)⟩] 17), #[]⟩
noncomputable def q3_p9 (p : Program) (P : Params) : Obj := ⟨(.type "dict"), none, (.dict #[⟨PyData.keyHash P (Str.ofString "__name__"), (.str (Str.ofString "__name__") 165), (.str (Str.ofString "cpy313.zipfile") 187)⟩, ⟨PyData.keyHash P (Str.ofString "__doc__"), (.str (Str.ofString "__doc__") 166), .none⟩, ⟨PyData.keyHash P (Str.ofString "__package__"), (.str (Str.ofString "__package__") 167), .none⟩, ⟨PyData.keyHash P (Str.ofString "__loader__"), (.str (Str.ofString "__loader__") 168), (.builtin "__main__.__loader__#opaque")⟩, ⟨PyData.keyHash P (Str.ofString "__spec__"), (.str (Str.ofString "__spec__") 169), .none⟩, ⟨PyData.keyHash P (Str.ofString "__annotations__"), (.str (Str.ofString "__annotations__") 170), (.ref 6)⟩, ⟨PyData.keyHash P (Str.ofString "__builtins__"), (.str (Str.ofString "__builtins__") 171), (.ref 4)⟩, ⟨PyData.keyHash P (Str.ofString "__file__"), (.str (Str.ofString "__file__") 173), (.str (Str.ofString "/claim/cut.py") 172)⟩, ⟨PyData.keyHash P (Str.ofString "__cached__"), (.str (Str.ofString "__cached__") 174), .none⟩, ⟨PyData.keyHash P (Str.ofString "_gen_crc"), (.str (Str.ofString "_gen_crc") 196), (.ref 21)⟩, ⟨PyData.keyHash P (Str.ofString "CRLF"), (.str (Str.ofString "CRLF") 198), (.str ⟨#[13, 10]⟩ 197)⟩, ⟨PyData.keyHash P (Str.ofString "NL"), (.str (Str.ofString "NL") 200), (.str ⟨#[10]⟩ 199)⟩, ⟨PyData.keyHash P (Str.ofString "_QUOPRI_MAP"), (.str (Str.ofString "_QUOPRI_MAP") 1228), (.ref 24)⟩, ⟨PyData.keyHash P (Str.ofString "_QUOPRI_HEADER_MAP"), (.str (Str.ofString "_QUOPRI_HEADER_MAP") 1229), (.ref 29)⟩, ⟨PyData.keyHash P (Str.ofString "_QUOPRI_BODY_MAP"), (.str (Str.ofString "_QUOPRI_BODY_MAP") 1230), (.ref 31)⟩, ⟨PyData.keyHash P (Str.ofString "ascii_lowercase"), (.str (Str.ofString "ascii_lowercase") 1232), (.str (Str.ofString "abcdefghijklmnopqrstuvwxyz") 1231)⟩, ⟨PyData.keyHash P (Str.ofString "ascii_uppercase"), (.str (Str.ofString "ascii_uppercase") 1234), (.str (Str.ofString "ABCDEFGHIJKLMNOPQRSTUVWXYZ") 1233)⟩, ⟨PyData.keyHash P (Str.ofString "ascii_letters"), (.str (Str.ofString "ascii_letters") 1236), (.str (Str.ofString "abcdefghijklmnopqrstuvwxyzABCDEFGHIJKLMNOPQRSTUVWXYZ") 1235)⟩] 18), #[]⟩
noncomputable def q3_p10 (p : Program) (P : Params) : Obj := ⟨(.type "dict"), none, (.dict #[⟨PyData.keyHash P (Str.ofString "__name__"), (.str (Str.ofString "__name__") 165), (.str (Str.ofString "cpy313.zipfile") 187)⟩, ⟨PyData.keyHash P (Str.ofString "__doc__"), (.str (Str.ofString "__doc__") 166), .none⟩, ⟨PyData.keyHash P (Str.ofString "__package__"), (.str (Str.ofString "__package__") 167), .none⟩, ⟨PyData.keyHash P (Str.ofString "__loader__"), (.str (Str.ofString "__loader__") 168), (.builtin "__main__.__loader__#opaque")⟩, ⟨PyData.keyHash P (Str.ofString "__spec__"), (.str (Str.ofString "__spec__") 169), .none⟩, ⟨PyData.keyHash P (Str.ofString "__annotations__"), (.str (Str.ofString "__annotations__") 170), (.ref 6)⟩, ⟨PyData.keyHash P (Str.ofString "__builtins__"), (.str (Str.ofString "__builtins__") 171), (.ref 4)⟩, ⟨PyData.keyHash P (Str.ofString "__file__"), (.str (Str.ofString "__file__") 173), (.str (Str.ofString "/claim/cut.py") 172)⟩, ⟨PyData.keyHash P (Str.ofString "__cached__"), (.str (Str.ofString "__cached__") 174), .none⟩, ⟨PyData.keyHash P (Str.ofString "_gen_crc"), (.str (Str.ofString "_gen_crc") 196), (.ref 21)⟩, ⟨PyData.keyHash P (Str.ofString "CRLF"), (.str (Str.ofString "CRLF") 198), (.str ⟨#[13, 10]⟩ 197)⟩, ⟨PyData.keyHash P (Str.ofString "NL"), (.str (Str.ofString "NL") 200), (.str ⟨#[10]⟩ 199)⟩, ⟨PyData.keyHash P (Str.ofString "_QUOPRI_MAP"), (.str (Str.ofString "_QUOPRI_MAP") 1228), (.ref 24)⟩, ⟨PyData.keyHash P (Str.ofString "_QUOPRI_HEADER_MAP"), (.str (Str.ofString "_QUOPRI_HEADER_MAP") 1229), (.ref 29)⟩, ⟨PyData.keyHash P (Str.ofString "_QUOPRI_BODY_MAP"), (.str (Str.ofString "_QUOPRI_BODY_MAP") 1230), (.ref 31)⟩, ⟨PyData.keyHash P (Str.ofString "ascii_lowercase"), (.str (Str.ofString "ascii_lowercase") 1232), (.str (Str.ofString "abcdefghijklmnopqrstuvwxyz") 1231)⟩, ⟨PyData.keyHash P (Str.ofString "ascii_uppercase"), (.str (Str.ofString "ascii_uppercase") 1234), (.str (Str.ofString "ABCDEFGHIJKLMNOPQRSTUVWXYZ") 1233)⟩, ⟨PyData.keyHash P (Str.ofString "ascii_letters"), (.str (Str.ofString "ascii_letters") 1236), (.str (Str.ofString "abcdefghijklmnopqrstuvwxyzABCDEFGHIJKLMNOPQRSTUVWXYZ") 1235)⟩, ⟨PyData.keyHash P (Str.ofString "digits"), (.str (Str.ofString "digits") 1238), (.str (Str.ofString "0123456789") 1237)⟩] 19), #[]⟩
noncomputable def q3_p11 (p : Program) (P : Params) : Obj := ⟨(.type "dict"), none, (.dict #[⟨PyData.keyHash P (Str.ofString "__name__"), (.str (Str.ofString "__name__") 165), (.str (Str.ofString "cpy313.email.quoprimime") 1239)⟩, ⟨PyData.keyHash P (Str.ofString "__doc__"), (.str (Str.ofString "__doc__") 166), .none⟩, ⟨PyData.keyHash P (Str.ofString "__package__"), (.str (Str.ofString "__package__") 167), .none⟩, ⟨PyData.keyHash P (Str.ofString "__loader__"), (.str (Str.ofString "__loader__") 168), (.builtin "__main__.__loader__#opaque")⟩, ⟨PyData.keyHash P (Str.ofString "__spec__"), (.str (Str.ofString "__spec__") 169), .none⟩, ⟨PyData.keyHash P (Str.ofString "__annotations__"), (.str (Str.ofString "__annotations__") 170), (.ref 6)⟩, ⟨PyData.keyHash P (Str.ofString "__builtins__"), (.str (Str.ofString "__builtins__") 171), (.ref 4)⟩, ⟨PyData.keyHash P (Str.ofString "__file__"), (.str (Str.ofString "__file__") 173), (.str (Str.ofString "/claim/cut.py") 172)⟩, ⟨PyData.keyHash P (Str.ofString "__cached__"), (.str (Str.ofString "__cached__") 174), .none⟩, ⟨PyData.keyHash P (Str.ofString "_gen_crc"), (.str (Str.ofString "_gen_crc") 196), (.ref 21)⟩, ⟨PyData.keyHash P (Str.ofString "CRLF"), (.str (Str.ofString "CRLF") 198), (.str ⟨#[13, 10]⟩ 197)⟩, ⟨PyData.keyHash P (Str.ofString "NL"), (.str (Str.ofString "NL") 200), (.str ⟨#[10]⟩ 199)⟩, ⟨PyData.keyHash P (Str.ofString "_QUOPRI_MAP"), (.str (Str.ofString "_QUOPRI_MAP") 1228), (.ref 24)⟩, ⟨PyData.keyHash P (Str.ofString "_QUOPRI_HEADER_MAP"), (.str (Str.ofString "_QUOPRI_HEADER_MAP") 1229), (.ref 29)⟩, ⟨PyData.keyHash P (Str.ofString "_QUOPRI_BODY_MAP"), (.str (Str.ofString "_QUOPRI_BODY_MAP") 1230), (.ref 31)⟩, ⟨PyData.keyHash P (Str.ofString "ascii_lowercase"), (.str (Str.ofString "ascii_lowercase") 1232), (.str (Str.ofString "abcdefghijklmnopqrstuvwxyz") 1231)⟩, ⟨PyData.keyHash P (Str.ofString "ascii_uppercase"), (.str (Str.ofString "ascii_uppercase") 1234), (.str (Str.ofString "ABCDEFGHIJKLMNOPQRSTUVWXYZ") 1233)⟩, ⟨PyData.keyHash P (Str.ofString "ascii_letters"), (.str (Str.ofString "ascii_letters") 1236), (.str (Str.ofString "abcdefghijklmnopqrstuvwxyzABCDEFGHIJKLMNOPQRSTUVWXYZ") 1235)⟩, ⟨PyData.keyHash P (Str.ofString "digits"), (.str (Str.ofString "digits") 1238), (.str (Str.ofString "0123456789") 1237)⟩] 19), #[]⟩
noncomputable def q3_p12 (p : Program) (P : Params) : Obj := ⟨(.type "dict"), none, (.dict #[⟨PyData.keyHash P (Str.ofString "__name__"), (.str (Str.ofString "__name__") 165), (.str (Str.ofString "cpy313.email.quoprimime") 1239)⟩, ⟨PyData.keyHash P (Str.ofString "__doc__"), (.str (Str.ofString "__doc__") 166), .none⟩, ⟨PyData.keyHash P (Str.ofString "__package__"), (.str (Str.ofString "__package__") 167), .none⟩, ⟨PyData.keyHash P (Str.ofString "__loader__"), (.str (Str.ofString "__loader__") 168), (.builtin "__main__.__loader__#opaque")⟩, ⟨PyData.keyHash P (Str.ofString "__spec__"), (.str (Str.ofString "__spec__") 169), .none⟩, ⟨PyData.keyHash P (Str.ofString "__annotations__"), (.str (Str.ofString "__annotations__") 170), (.ref 6)⟩, ⟨PyData.keyHash P (Str.ofString "__builtins__"), (.str (Str.ofString "__builtins__") 171), (.ref 4)⟩, ⟨PyData.keyHash P (Str.ofString "__file__"), (.str (Str.ofString "__file__") 173), (.str (Str.ofString "/claim/cut.py") 172)⟩, ⟨PyData.keyHash P (Str.ofString "__cached__"), (.str (Str.ofString "__cached__") 174), .none⟩, ⟨PyData.keyHash P (Str.ofString "_gen_crc"), (.str (Str.ofString "_gen_crc") 196), (.ref 21)⟩, ⟨PyData.keyHash P (Str.ofString "CRLF"), (.str (Str.ofString "CRLF") 198), (.str ⟨#[13, 10]⟩ 197)⟩, ⟨PyData.keyHash P (Str.ofString "NL"), (.str (Str.ofString "NL") 200), (.str ⟨#[10]⟩ 199)⟩, ⟨PyData.keyHash P (Str.ofString "_QUOPRI_MAP"), (.str (Str.ofString "_QUOPRI_MAP") 1228), (.ref 24)⟩, ⟨PyData.keyHash P (Str.ofString "_QUOPRI_HEADER_MAP"), (.str (Str.ofString "_QUOPRI_HEADER_MAP") 1229), (.ref 29)⟩, ⟨PyData.keyHash P (Str.ofString "_QUOPRI_BODY_MAP"), (.str (Str.ofString "_QUOPRI_BODY_MAP") 1230), (.ref 31)⟩, ⟨PyData.keyHash P (Str.ofString "ascii_lowercase"), (.str (Str.ofString "ascii_lowercase") 1232), (.str (Str.ofString "abcdefghijklmnopqrstuvwxyz") 1231)⟩, ⟨PyData.keyHash P (Str.ofString "ascii_uppercase"), (.str (Str.ofString "ascii_uppercase") 1234), (.str (Str.ofString "ABCDEFGHIJKLMNOPQRSTUVWXYZ") 1233)⟩, ⟨PyData.keyHash P (Str.ofString "ascii_letters"), (.str (Str.ofString "ascii_letters") 1236), (.str (Str.ofString "abcdefghijklmnopqrstuvwxyzABCDEFGHIJKLMNOPQRSTUVWXYZ") 1235)⟩, ⟨PyData.keyHash P (Str.ofString "digits"), (.str (Str.ofString "digits") 1238), (.str (Str.ofString "0123456789") 1237)⟩, ⟨PyData.keyHash P (Str.ofString "c"), (.str (Str.ofString "c") 1249), (.int (57) 1446)⟩] 20), #[]⟩
noncomputable def q29_p12 (p : Program) (P : Params) : Obj := ⟨(.type "list"), none, (.seq HF 0), #[]⟩
noncomputable def q32_p12 (p : Program) (P : Params) : Obj := ⟨(.type "bytes_iterator"), none, (.fields #[.none, (.int (67) 0)]), #[]⟩
noncomputable def q33_p12 (p : Program) (P : Params) : Obj := ⟨(.type "tuple"), none, (.seq #[] 0), #[]⟩
noncomputable def q34_p12 (p : Program) (P : Params) : Obj := ⟨(.type "StopIteration"), none, (.fields #[(.ref 33), .none, .none, .none, (.bool false), .none]), #[]⟩
noncomputable def q29_p13 (p : Program) (P : Params) : Obj := ⟨(.type "list"), none, (.seq (HF.setIfInBounds 32 (.str ⟨#[95]⟩ 1449)) 0), #[]⟩
noncomputable def q3_p14 (p : Program) (P : Params) : Obj := ⟨(.type "dict"), none, (.dict #[⟨PyData.keyHash P (Str.ofString "__name__"), (.str (Str.ofString "__name__") 165), (.str (Str.ofString "cpy313.email.quoprimime") 1239)⟩, ⟨PyData.keyHash P (Str.ofString "__doc__"), (.str (Str.ofString "__doc__") 166), .none⟩, ⟨PyData.keyHash P (Str.ofString "__package__"), (.str (Str.ofString "__package__") 167), .none⟩, ⟨PyData.keyHash P (Str.ofString "__loader__"), (.str (Str.ofString "__loader__") 168), (.builtin "__main__.__loader__#opaque")⟩, ⟨PyData.keyHash P (Str.ofString "__spec__"), (.str (Str.ofString "__spec__") 169), .none⟩, ⟨PyData.keyHash P (Str.ofString "__annotations__"), (.str (Str.ofString "__annotations__") 170), (.ref 6)⟩, ⟨PyData.keyHash P (Str.ofString "__builtins__"), (.str (Str.ofString "__builtins__") 171), (.ref 4)⟩, ⟨PyData.keyHash P (Str.ofString "__file__"), (.str (Str.ofString "__file__") 173), (.str (Str.ofString "/claim/cut.py") 172)⟩, ⟨PyData.keyHash P (Str.ofString "__cached__"), (.str (Str.ofString "__cached__") 174), .none⟩, ⟨PyData.keyHash P (Str.ofString "_gen_crc"), (.str (Str.ofString "_gen_crc") 196), (.ref 21)⟩, ⟨PyData.keyHash P (Str.ofString "CRLF"), (.str (Str.ofString "CRLF") 198), (.str ⟨#[13, 10]⟩ 197)⟩, ⟨PyData.keyHash P (Str.ofString "NL"), (.str (Str.ofString "NL") 200), (.str ⟨#[10]⟩ 199)⟩, ⟨PyData.keyHash P (Str.ofString "_QUOPRI_MAP"), (.str (Str.ofString "_QUOPRI_MAP") 1228), (.ref 24)⟩, ⟨PyData.keyHash P (Str.ofString "_QUOPRI_HEADER_MAP"), (.str (Str.ofString "_QUOPRI_HEADER_MAP") 1229), (.ref 29)⟩, ⟨PyData.keyHash P (Str.ofString "_QUOPRI_BODY_MAP"), (.str (Str.ofString "_QUOPRI_BODY_MAP") 1230), (.ref 31)⟩, ⟨PyData.keyHash P (Str.ofString "ascii_lowercase"), (.str (Str.ofString "ascii_lowercase") 1232), (.str (Str.ofString "abcdefghijklmnopqrstuvwxyz") 1231)⟩, ⟨PyData.keyHash P (Str.ofString "ascii_uppercase"), (.str (Str.ofString "ascii_uppercase") 1234), (.str (Str.ofString "ABCDEFGHIJKLMNOPQRSTUVWXYZ") 1233)⟩, ⟨PyData.keyHash P (Str.ofString "ascii_letters"), (.str (Str.ofString "ascii_letters") 1236), (.str (Str.ofString "abcdefghijklmnopqrstuvwxyzABCDEFGHIJKLMNOPQRSTUVWXYZ") 1235)⟩, ⟨PyData.keyHash P (Str.ofString "digits"), (.str (Str.ofString "digits") 1238), (.str (Str.ofString "0123456789") 1237)⟩, ⟨PyData.keyHash P (Str.ofString "c"), (.str (Str.ofString "c") 1249), (.int (9) 1735)⟩] 20), #[]⟩
noncomputable def q31_p14 (p : Program) (P : Params) : Obj := ⟨(.type "list"), none, (.seq BF 0), #[]⟩
noncomputable def q35_p14 (p : Program) (P : Params) : Obj := ⟨(.type "bytes_iterator"), none, (.fields #[.none, (.int (95) 0)]), #[]⟩
noncomputable def q36_p14 (p : Program) (P : Params) : Obj := ⟨(.type "tuple"), none, (.seq #[] 0), #[]⟩
noncomputable def q37_p14 (p : Program) (P : Params) : Obj := ⟨(.type "StopIteration"), none, (.fields #[(.ref 36), .none, .none, .none, (.bool false), .none]), #[]⟩
noncomputable def q3_p15 (p : Program) (P : Params) : Obj := ⟨(.type "dict"), none, (.dict #[⟨PyData.keyHash P (Str.ofString "__name__"), (.str (Str.ofString "__name__") 165), (.str (Str.ofString "cpy313.email.quoprimime") 1239)⟩, ⟨PyData.keyHash P (Str.ofString "__doc__"), (.str (Str.ofString "__doc__") 166), .none⟩, ⟨PyData.keyHash P (Str.ofString "__package__"), (.str (Str.ofString "__package__") 167), .none⟩, ⟨PyData.keyHash P (Str.ofString "__loader__"), (.str (Str.ofString "__loader__") 168), (.builtin "__main__.__loader__#opaque")⟩, ⟨PyData.keyHash P (Str.ofString "__spec__"), (.str (Str.ofString "__spec__") 169), .none⟩, ⟨PyData.keyHash P (Str.ofString "__annotations__"), (.str (Str.ofString "__annotations__") 170), (.ref 6)⟩, ⟨PyData.keyHash P (Str.ofString "__builtins__"), (.str (Str.ofString "__builtins__") 171), (.ref 4)⟩, ⟨PyData.keyHash P (Str.ofString "__file__"), (.str (Str.ofString "__file__") 173), (.str (Str.ofString "/claim/cut.py") 172)⟩, ⟨PyData.keyHash P (Str.ofString "__cached__"), (.str (Str.ofString "__cached__") 174), .none⟩, ⟨PyData.keyHash P (Str.ofString "_gen_crc"), (.str (Str.ofString "_gen_crc") 196), (.ref 21)⟩, ⟨PyData.keyHash P (Str.ofString "CRLF"), (.str (Str.ofString "CRLF") 198), (.str ⟨#[13, 10]⟩ 197)⟩, ⟨PyData.keyHash P (Str.ofString "NL"), (.str (Str.ofString "NL") 200), (.str ⟨#[10]⟩ 199)⟩, ⟨PyData.keyHash P (Str.ofString "_QUOPRI_MAP"), (.str (Str.ofString "_QUOPRI_MAP") 1228), (.ref 24)⟩, ⟨PyData.keyHash P (Str.ofString "_QUOPRI_HEADER_MAP"), (.str (Str.ofString "_QUOPRI_HEADER_MAP") 1229), (.ref 29)⟩, ⟨PyData.keyHash P (Str.ofString "_QUOPRI_BODY_MAP"), (.str (Str.ofString "_QUOPRI_BODY_MAP") 1230), (.ref 31)⟩, ⟨PyData.keyHash P (Str.ofString "ascii_lowercase"), (.str (Str.ofString "ascii_lowercase") 1232), (.str (Str.ofString "abcdefghijklmnopqrstuvwxyz") 1231)⟩, ⟨PyData.keyHash P (Str.ofString "ascii_uppercase"), (.str (Str.ofString "ascii_uppercase") 1234), (.str (Str.ofString "ABCDEFGHIJKLMNOPQRSTUVWXYZ") 1233)⟩, ⟨PyData.keyHash P (Str.ofString "ascii_letters"), (.str (Str.ofString "ascii_letters") 1236), (.str (Str.ofString "abcdefghijklmnopqrstuvwxyzABCDEFGHIJKLMNOPQRSTUVWXYZ") 1235)⟩, ⟨PyData.keyHash P (Str.ofString "digits"), (.str (Str.ofString "digits") 1238), (.str (Str.ofString "0123456789") 1237)⟩, ⟨PyData.keyHash P (Str.ofString "c"), (.str (Str.ofString "c") 1249), (.int (9) 1735)⟩, ⟨PyData.keyHash P (Str.ofString "quote"), (.str (Str.ofString "quote") 1744), (.ref 44)⟩] 21), #[]⟩
noncomputable def q12_p15 (p : Program) (P : Params) : Obj := ⟨.none, none, (.fields #[(.int (2) 0), (.int (0) 0), (.ref 20), (.int (24) 0), (.int (0) 0), (.ref 43)]), #[]⟩
noncomputable def q38_p15 (p : Program) (P : Params) : Obj := ⟨(.type "tuple"), none, (.seq #[] 0), #[]⟩
noncomputable def q39_p15 (p : Program) (P : Params) : Obj := ⟨.none, none, (.fields #[]), #[]⟩
noncomputable def q40_p15 (p : Program) (P : Params) : Obj := ⟨(.type "tuple"), none, (.seq #[(.str (Str.ofString "c") 1741)] 0), #[]⟩
noncomputable def q41_p15 (p : Program) (P : Params) : Obj := ⟨(.type "tuple"), none, (.seq #[] 0), #[]⟩
noncomputable def q42_p15 (p : Program) (P : Params) : Obj := ⟨.none, none, (.func { name := (Str.ofString "quote"), qualname := (Str.ofString "quote"), params := fArgs (st p 15), body := .stmts (fBody (st p 15)), scope := fScope (st p 15), globals := 0, closure := [], defaults := .none, kwdefaults := .none, doc := .none, pyModule := .none, annotations := none, code := .none, closureTuple := .none, builtins := 0 }), #[]⟩
noncomputable def q43_p15 (p : Program) (P : Params) : Obj := ⟨(.type "code"), none, (.fields #[(.str (Str.ofString "quote") 1738), (.str (Str.ofString "quote") 1739), (.str (Str.ofString "/claim/cut.py") 1740), (.int (24) 0), (.int (1) 0), (.int (0) 0), (.int (0) 0), (.int (3) 0), (.ref 38), (.bool true), (.int (181) 0), (.ref 39), .none, (.ref 40), (.ref 41), (.ref 42), (.int (1742) 0), (.int (24) 0), (.str (Str.ofString "/claim/cut.py") 1743)]), #[]⟩
noncomputable def q44_p15 (p : Program) (P : Params) : Obj := ⟨(.type "function"), none, (.func { name := (Str.ofString "quote"), qualname := (Str.ofString "quote"), params := fArgs (st p 15), body := .stmts (fBody (st p 15)), scope := fScope (st p 15), globals := 3, closure := [], defaults := .none, kwdefaults := .none, doc := .none, pyModule := (.str (Str.ofString "cpy313.email.quoprimime") 1239), annotations := none, code := (.ref 43), closureTuple := .none, builtins := 0 }), #[]⟩
noncomputable def q3_p16 (p : Program) (P : Params) : Obj := ⟨(.type "dict"), none, (.dict #[⟨PyData.keyHash P (Str.ofString "__name__"), (.str (Str.ofString "__name__") 165), (.str (Str.ofString "cpy313.email.quoprimime") 1239)⟩, ⟨PyData.keyHash P (Str.ofString "__doc__"), (.str (Str.ofString "__doc__") 166), .none⟩, ⟨PyData.keyHash P (Str.ofString "__package__"), (.str (Str.ofString "__package__") 167), .none⟩, ⟨PyData.keyHash P (Str.ofString "__loader__"), (.str (Str.ofString "__loader__") 168), (.builtin "__main__.__loader__#opaque")⟩, ⟨PyData.keyHash P (Str.ofString "__spec__"), (.str (Str.ofString "__spec__") 169), .none⟩, ⟨PyData.keyHash P (Str.ofString "__annotations__"), (.str (Str.ofString "__annotations__") 170), (.ref 6)⟩, ⟨PyData.keyHash P (Str.ofString "__builtins__"), (.str (Str.ofString "__builtins__") 171), (.ref 4)⟩, ⟨PyData.keyHash P (Str.ofString "__file__"), (.str (Str.ofString "__file__") 173), (.str (Str.ofString "/claim/cut.py") 172)⟩, ⟨PyData.keyHash P (Str.ofString "__cached__"), (.str (Str.ofString "__cached__") 174), .none⟩, ⟨PyData.keyHash P (Str.ofString "_gen_crc"), (.str (Str.ofString "_gen_crc") 196), (.ref 21)⟩, ⟨PyData.keyHash P (Str.ofString "CRLF"), (.str (Str.ofString "CRLF") 198), (.str ⟨#[13, 10]⟩ 197)⟩, ⟨PyData.keyHash P (Str.ofString "NL"), (.str (Str.ofString "NL") 200), (.str ⟨#[10]⟩ 199)⟩, ⟨PyData.keyHash P (Str.ofString "_QUOPRI_MAP"), (.str (Str.ofString "_QUOPRI_MAP") 1228), (.ref 24)⟩, ⟨PyData.keyHash P (Str.ofString "_QUOPRI_HEADER_MAP"), (.str (Str.ofString "_QUOPRI_HEADER_MAP") 1229), (.ref 29)⟩, ⟨PyData.keyHash P (Str.ofString "_QUOPRI_BODY_MAP"), (.str (Str.ofString "_QUOPRI_BODY_MAP") 1230), (.ref 31)⟩, ⟨PyData.keyHash P (Str.ofString "ascii_lowercase"), (.str (Str.ofString "ascii_lowercase") 1232), (.str (Str.ofString "abcdefghijklmnopqrstuvwxyz") 1231)⟩, ⟨PyData.keyHash P (Str.ofString "ascii_uppercase"), (.str (Str.ofString "ascii_uppercase") 1234), (.str (Str.ofString "ABCDEFGHIJKLMNOPQRSTUVWXYZ") 1233)⟩, ⟨PyData.keyHash P (Str.ofString "ascii_letters"), (.str (Str.ofString "ascii_letters") 1236), (.str (Str.ofString "abcdefghijklmnopqrstuvwxyzABCDEFGHIJKLMNOPQRSTUVWXYZ") 1235)⟩, ⟨PyData.keyHash P (Str.ofString "digits"), (.str (Str.ofString "digits") 1238), (.str (Str.ofString "0123456789") 1237)⟩, ⟨PyData.keyHash P (Str.ofString "c"), (.str (Str.ofString "c") 1249), (.int (9) 1735)⟩, ⟨PyData.keyHash P (Str.ofString "quote"), (.str (Str.ofString "quote") 1744), (.ref 44)⟩, ⟨PyData.keyHash P (Str.ofString "header_encode"), (.str (Str.ofString "header_encode") 1754), (.ref 52)⟩] 22), #[]⟩
noncomputable def q12_p16 (p : Program) (P : Params) : Obj := ⟨.none, none, (.fields #[(.int (2) 0), (.int (0) 0), (.ref 20), (.int (24) 0), (.int (0) 0), (.ref 43), (.int (26) 0), (.int (0) 0), (.ref 51)]), #[]⟩
noncomputable def q45_p16 (p : Program) (P : Params) : Obj := ⟨(.type "tuple"), none, (.seq #[(.str (Str.ofString "iso-8859-1") 1745)] 0), #[]⟩
noncomputable def q46_p16 (p : Program) (P : Params) : Obj := ⟨(.type "tuple"), none, (.seq #[] 0), #[]⟩
noncomputable def q47_p16 (p : Program) (P : Params) : Obj := ⟨.none, none, (.fields #[]), #[]⟩
noncomputable def q48_p16 (p : Program) (P : Params) : Obj := ⟨(.type "tuple"), none, (.seq #[(.str (Str.ofString "header_bytes") 1749), (.str (Str.ofString "charset") 1750), (.str (Str.ofString "encoded") 1751)] 0), #[]⟩
noncomputable def q49_p16 (p : Program) (P : Params) : Obj := ⟨(.type "tuple"), none, (.seq #[] 0), #[]⟩
noncomputable def q50_p16 (p : Program) (P : Params) : Obj := ⟨.none, none, (.func { name := (Str.ofString "header_encode"), qualname := (Str.ofString "header_encode"), params := fArgs (st p 16), body := .stmts (fBody (st p 16)), scope := fScope (st p 16), globals := 0, closure := [], defaults := .none, kwdefaults := .none, doc := .none, pyModule := .none, annotations := none, code := .none, closureTuple := .none, builtins := 0 }), #[]⟩
noncomputable def q51_p16 (p : Program) (P : Params) : Obj := ⟨(.type "code"), none, (.fields #[(.str (Str.ofString "header_encode") 1746), (.str (Str.ofString "header_encode") 1747), (.str (Str.ofString "/claim/cut.py") 1748), (.int (26) 0), (.int (2) 0), (.int (0) 0), (.int (0) 0), (.int (3) 0), (.ref 46), (.bool true), (.int (181) 0), (.ref 47), .none, (.ref 48), (.ref 49), (.ref 50), (.int (1752) 0), (.int (26) 0), (.str (Str.ofString "/claim/cut.py") 1753)]), #[]⟩
noncomputable def q52_p16 (p : Program) (P : Params) : Obj := ⟨(.type "function"), none, (.func { name := (Str.ofString "header_encode"), qualname := (Str.ofString "header_encode"), params := fArgs (st p 16), body := .stmts (fBody (st p 16)), scope := fScope (st p 16), globals := 3, closure := [], defaults := (.ref 45), kwdefaults := .none, doc := .none, pyModule := (.str (Str.ofString "cpy313.email.quoprimime") 1239), annotations := none, code := (.ref 51), closureTuple := .none, builtins := 0 }), #[]⟩
noncomputable def q3_p17 (p : Program) (P : Params) : Obj := ⟨(.type "dict"), none, (.dict #[⟨PyData.keyHash P (Str.ofString "__name__"), (.str (Str.ofString "__name__") 165), (.str (Str.ofString "cpy313.email.quoprimime") 1239)⟩, ⟨PyData.keyHash P (Str.ofString "__doc__"), (.str (Str.ofString "__doc__") 166), .none⟩, ⟨PyData.keyHash P (Str.ofString "__package__"), (.str (Str.ofString "__package__") 167), .none⟩, ⟨PyData.keyHash P (Str.ofString "__loader__"), (.str (Str.ofString "__loader__") 168), (.builtin "__main__.__loader__#opaque")⟩, ⟨PyData.keyHash P (Str.ofString "__spec__"), (.str (Str.ofString "__spec__") 169), .none⟩, ⟨PyData.keyHash P (Str.ofString "__annotations__"), (.str (Str.ofString "__annotations__") 170), (.ref 6)⟩, ⟨PyData.keyHash P (Str.ofString "__builtins__"), (.str (Str.ofString "__builtins__") 171), (.ref 4)⟩, ⟨PyData.keyHash P (Str.ofString "__file__"), (.str (Str.ofString "__file__") 173), (.str (Str.ofString "/claim/cut.py") 172)⟩, ⟨PyData.keyHash P (Str.ofString "__cached__"), (.str (Str.ofString "__cached__") 174), .none⟩, ⟨PyData.keyHash P (Str.ofString "_gen_crc"), (.str (Str.ofString "_gen_crc") 196), (.ref 21)⟩, ⟨PyData.keyHash P (Str.ofString "CRLF"), (.str (Str.ofString "CRLF") 198), (.str ⟨#[13, 10]⟩ 197)⟩, ⟨PyData.keyHash P (Str.ofString "NL"), (.str (Str.ofString "NL") 200), (.str ⟨#[10]⟩ 199)⟩, ⟨PyData.keyHash P (Str.ofString "_QUOPRI_MAP"), (.str (Str.ofString "_QUOPRI_MAP") 1228), (.ref 24)⟩, ⟨PyData.keyHash P (Str.ofString "_QUOPRI_HEADER_MAP"), (.str (Str.ofString "_QUOPRI_HEADER_MAP") 1229), (.ref 29)⟩, ⟨PyData.keyHash P (Str.ofString "_QUOPRI_BODY_MAP"), (.str (Str.ofString "_QUOPRI_BODY_MAP") 1230), (.ref 31)⟩, ⟨PyData.keyHash P (Str.ofString "ascii_lowercase"), (.str (Str.ofString "ascii_lowercase") 1232), (.str (Str.ofString "abcdefghijklmnopqrstuvwxyz") 1231)⟩, ⟨PyData.keyHash P (Str.ofString "ascii_uppercase"), (.str (Str.ofString "ascii_uppercase") 1234), (.str (Str.ofString "ABCDEFGHIJKLMNOPQRSTUVWXYZ") 1233)⟩, ⟨PyData.keyHash P (Str.ofString "ascii_letters"), (.str (Str.ofString "ascii_letters") 1236), (.str (Str.ofString "abcdefghijklmnopqrstuvwxyzABCDEFGHIJKLMNOPQRSTUVWXYZ") 1235)⟩, ⟨PyData.keyHash P (Str.ofString "digits"), (.str (Str.ofString "digits") 1238), (.str (Str.ofString "0123456789") 1237)⟩, ⟨PyData.keyHash P (Str.ofString "c"), (.str (Str.ofString "c") 1249), (.int (9) 1735)⟩, ⟨PyData.keyHash P (Str.ofString "quote"), (.str (Str.ofString "quote") 1744), (.ref 44)⟩, ⟨PyData.keyHash P (Str.ofString "header_encode"), (.str (Str.ofString "header_encode") 1754), (.ref 52)⟩, ⟨PyData.keyHash P (Str.ofString "_QUOPRI_BODY_ENCODE_MAP"), (.str (Str.ofString "_QUOPRI_BODY_ENCODE_MAP") 1755), (.ref 54)⟩] 23), #[]⟩
noncomputable def q53_p17 (p : Program) (P : Params) : Obj := ⟨(.type "slice"), none, (.fields #[.none, .none, .none]), #[]⟩
noncomputable def q54_p17 (p : Program) (P : Params) : Obj := ⟨(.type "list"), none, (.seq BF 0), #[]⟩
noncomputable def q3_p18 (p : Program) (P : Params) : Obj := ⟨(.type "dict"), none, (.dict #[⟨PyData.keyHash P (Str.ofString "__name__"), (.str (Str.ofString "__name__") 165), (.str (Str.ofString "cpy313.email.quoprimime") 1239)⟩, ⟨PyData.keyHash P (Str.ofString "__doc__"), (.str (Str.ofString "__doc__") 166), .none⟩, ⟨PyData.keyHash P (Str.ofString "__package__"), (.str (Str.ofString "__package__") 167), .none⟩, ⟨PyData.keyHash P (Str.ofString "__loader__"), (.str (Str.ofString "__loader__") 168), (.builtin "__main__.__loader__#opaque")⟩, ⟨PyData.keyHash P (Str.ofString "__spec__"), (.str (Str.ofString "__spec__") 169), .none⟩, ⟨PyData.keyHash P (Str.ofString "__annotations__"), (.str (Str.ofString "__annotations__") 170), (.ref 6)⟩, ⟨PyData.keyHash P (Str.ofString "__builtins__"), (.str (Str.ofString "__builtins__") 171), (.ref 4)⟩, ⟨PyData.keyHash P (Str.ofString "__file__"), (.str (Str.ofString "__file__") 173), (.str (Str.ofString "/claim/cut.py") 172)⟩, ⟨PyData.keyHash P (Str.ofString "__cached__"), (.str (Str.ofString "__cached__") 174), .none⟩, ⟨PyData.keyHash P (Str.ofString "_gen_crc"), (.str (Str.ofString "_gen_crc") 196), (.ref 21)⟩, ⟨PyData.keyHash P (Str.ofString "CRLF"), (.str (Str.ofString "CRLF") 198), (.str ⟨#[13, 10]⟩ 197)⟩, ⟨PyData.keyHash P (Str.ofString "NL"), (.str (Str.ofString "NL") 200), (.str ⟨#[10]⟩ 199)⟩, ⟨PyData.keyHash P (Str.ofString "_QUOPRI_MAP"), (.str (Str.ofString "_QUOPRI_MAP") 1228), (.ref 24)⟩, ⟨PyData.keyHash P (Str.ofString "_QUOPRI_HEADER_MAP"), (.str (Str.ofString "_QUOPRI_HEADER_MAP") 1229), (.ref 29)⟩, ⟨PyData.keyHash P (Str.ofString "_QUOPRI_BODY_MAP"), (.str (Str.ofString "_QUOPRI_BODY_MAP") 1230), (.ref 31)⟩, ⟨PyData.keyHash P (Str.ofString "ascii_lowercase"), (.str (Str.ofString "ascii_lowercase") 1232), (.str (Str.ofString "abcdefghijklmnopqrstuvwxyz") 1231)⟩, ⟨PyData.keyHash P (Str.ofString "ascii_uppercase"), (.str (Str.ofString "ascii_uppercase") 1234), (.str (Str.ofString "ABCDEFGHIJKLMNOPQRSTUVWXYZ") 1233)⟩, ⟨PyData.keyHash P (Str.ofString "ascii_letters"), (.str (Str.ofString "ascii_letters") 1236), (.str (Str.ofString "abcdefghijklmnopqrstuvwxyzABCDEFGHIJKLMNOPQRSTUVWXYZ") 1235)⟩, ⟨PyData.keyHash P (Str.ofString "digits"), (.str (Str.ofString "digits") 1238), (.str (Str.ofString "0123456789") 1237)⟩, ⟨PyData.keyHash P (Str.ofString "c"), (.str (Str.ofString "c") 1249), (.int (10) 1760)⟩, ⟨PyData.keyHash P (Str.ofString "quote"), (.str (Str.ofString "quote") 1744), (.ref 44)⟩, ⟨PyData.keyHash P (Str.ofString "header_encode"), (.str (Str.ofString "header_encode") 1754), (.ref 52)⟩, ⟨PyData.keyHash P (Str.ofString "_QUOPRI_BODY_ENCODE_MAP"), (.str (Str.ofString "_QUOPRI_BODY_ENCODE_MAP") 1755), (.ref 54)⟩] 23), #[]⟩
noncomputable def q54_p18 (p : Program) (P : Params) : Obj := ⟨(.type "list"), none, (.seq (LE 2) 0), #[]⟩
noncomputable def q55_p18 (p : Program) (P : Params) : Obj := ⟨(.type "bytes_iterator"), none, (.fields #[.none, (.int (2) 0)]), #[]⟩
noncomputable def q56_p18 (p : Program) (P : Params) : Obj := ⟨(.type "tuple"), none, (.seq #[] 0), #[]⟩
noncomputable def q57_p18 (p : Program) (P : Params) : Obj := ⟨(.type "StopIteration"), none, (.fields #[(.ref 56), .none, .none, .none, (.bool false), .none]), #[]⟩
noncomputable def q3_p19 (p : Program) (P : Params) : Obj := ⟨(.type "dict"), none, (.dict #[⟨PyData.keyHash P (Str.ofString "__name__"), (.str (Str.ofString "__name__") 165), (.str (Str.ofString "cpy313.email.quoprimime") 1239)⟩, ⟨PyData.keyHash P (Str.ofString "__doc__"), (.str (Str.ofString "__doc__") 166), .none⟩, ⟨PyData.keyHash P (Str.ofString "__package__"), (.str (Str.ofString "__package__") 167), .none⟩, ⟨PyData.keyHash P (Str.ofString "__loader__"), (.str (Str.ofString "__loader__") 168), (.builtin "__main__.__loader__#opaque")⟩, ⟨PyData.keyHash P (Str.ofString "__spec__"), (.str (Str.ofString "__spec__") 169), .none⟩, ⟨PyData.keyHash P (Str.ofString "__annotations__"), (.str (Str.ofString "__annotations__") 170), (.ref 6)⟩, ⟨PyData.keyHash P (Str.ofString "__builtins__"), (.str (Str.ofString "__builtins__") 171), (.ref 4)⟩, ⟨PyData.keyHash P (Str.ofString "__file__"), (.str (Str.ofString "__file__") 173), (.str (Str.ofString "/claim/cut.py") 172)⟩, ⟨PyData.keyHash P (Str.ofString "__cached__"), (.str (Str.ofString "__cached__") 174), .none⟩, ⟨PyData.keyHash P (Str.ofString "_gen_crc"), (.str (Str.ofString "_gen_crc") 196), (.ref 21)⟩, ⟨PyData.keyHash P (Str.ofString "CRLF"), (.str (Str.ofString "CRLF") 198), (.str ⟨#[13, 10]⟩ 197)⟩, ⟨PyData.keyHash P (Str.ofString "NL"), (.str (Str.ofString "NL") 200), (.str ⟨#[10]⟩ 199)⟩, ⟨PyData.keyHash P (Str.ofString "_QUOPRI_MAP"), (.str (Str.ofString "_QUOPRI_MAP") 1228), (.ref 24)⟩, ⟨PyData.keyHash P (Str.ofString "_QUOPRI_HEADER_MAP"), (.str (Str.ofString "_QUOPRI_HEADER_MAP") 1229), (.ref 29)⟩, ⟨PyData.keyHash P (Str.ofString "_QUOPRI_BODY_MAP"), (.str (Str.ofString "_QUOPRI_BODY_MAP") 1230), (.ref 31)⟩, ⟨PyData.keyHash P (Str.ofString "ascii_lowercase"), (.str (Str.ofString "ascii_lowercase") 1232), (.str (Str.ofString "abcdefghijklmnopqrstuvwxyz") 1231)⟩, ⟨PyData.keyHash P (Str.ofString "ascii_uppercase"), (.str (Str.ofString "ascii_uppercase") 1234), (.str (Str.ofString "ABCDEFGHIJKLMNOPQRSTUVWXYZ") 1233)⟩, ⟨PyData.keyHash P (Str.ofString "ascii_letters"), (.str (Str.ofString "ascii_letters") 1236), (.str (Str.ofString "abcdefghijklmnopqrstuvwxyzABCDEFGHIJKLMNOPQRSTUVWXYZ") 1235)⟩, ⟨PyData.keyHash P (Str.ofString "digits"), (.str (Str.ofString "digits") 1238), (.str (Str.ofString "0123456789") 1237)⟩, ⟨PyData.keyHash P (Str.ofString "quote"), (.str (Str.ofString "quote") 1744), (.ref 44)⟩, ⟨PyData.keyHash P (Str.ofString "header_encode"), (.str (Str.ofString "header_encode") 1754), (.ref 52)⟩, ⟨PyData.keyHash P (Str.ofString "_QUOPRI_BODY_ENCODE_MAP"), (.str (Str.ofString "_QUOPRI_BODY_ENCODE_MAP") 1755), (.ref 54)⟩] 24), #[]⟩
noncomputable def q3_p20 (p : Program) (P : Params) : Obj := ⟨(.type "dict"), none, (.dict #[⟨PyData.keyHash P (Str.ofString "__name__"), (.str (Str.ofString "__name__") 165), (.str (Str.ofString "cpy313.email.quoprimime") 1239)⟩, ⟨PyData.keyHash P (Str.ofString "__doc__"), (.str (Str.ofString "__doc__") 166), .none⟩, ⟨PyData.keyHash P (Str.ofString "__package__"), (.str (Str.ofString "__package__") 167), .none⟩, ⟨PyData.keyHash P (Str.ofString "__loader__"), (.str (Str.ofString "__loader__") 168), (.builtin "__main__.__loader__#opaque")⟩, ⟨PyData.keyHash P (Str.ofString "__spec__"), (.str (Str.ofString "__spec__") 169), .none⟩, ⟨PyData.keyHash P (Str.ofString "__annotations__"), (.str (Str.ofString "__annotations__") 170), (.ref 6)⟩, ⟨PyData.keyHash P (Str.ofString "__builtins__"), (.str (Str.ofString "__builtins__") 171), (.ref 4)⟩, ⟨PyData.keyHash P (Str.ofString "__file__"), (.str (Str.ofString "__file__") 173), (.str (Str.ofString "/claim/cut.py") 172)⟩, ⟨PyData.keyHash P (Str.ofString "__cached__"), (.str (Str.ofString "__cached__") 174), .none⟩, ⟨PyData.keyHash P (Str.ofString "_gen_crc"), (.str (Str.ofString "_gen_crc") 196), (.ref 21)⟩, ⟨PyData.keyHash P (Str.ofString "CRLF"), (.str (Str.ofString "CRLF") 198), (.str ⟨#[13, 10]⟩ 197)⟩, ⟨PyData.keyHash P (Str.ofString "NL"), (.str (Str.ofString "NL") 200), (.str ⟨#[10]⟩ 199)⟩, ⟨PyData.keyHash P (Str.ofString "_QUOPRI_MAP"), (.str (Str.ofString "_QUOPRI_MAP") 1228), (.ref 24)⟩, ⟨PyData.keyHash P (Str.ofString "_QUOPRI_HEADER_MAP"), (.str (Str.ofString "_QUOPRI_HEADER_MAP") 1229), (.ref 29)⟩, ⟨PyData.keyHash P (Str.ofString "_QUOPRI_BODY_MAP"), (.str (Str.ofString "_QUOPRI_BODY_MAP") 1230), (.ref 31)⟩, ⟨PyData.keyHash P (Str.ofString "ascii_lowercase"), (.str (Str.ofString "ascii_lowercase") 1232), (.str (Str.ofString "abcdefghijklmnopqrstuvwxyz") 1231)⟩, ⟨PyData.keyHash P (Str.ofString "ascii_uppercase"), (.str (Str.ofString "ascii_uppercase") 1234), (.str (Str.ofString "ABCDEFGHIJKLMNOPQRSTUVWXYZ") 1233)⟩, ⟨PyData.keyHash P (Str.ofString "ascii_letters"), (.str (Str.ofString "ascii_letters") 1236), (.str (Str.ofString "abcdefghijklmnopqrstuvwxyzABCDEFGHIJKLMNOPQRSTUVWXYZ") 1235)⟩, ⟨PyData.keyHash P (Str.ofString "digits"), (.str (Str.ofString "digits") 1238), (.str (Str.ofString "0123456789") 1237)⟩, ⟨PyData.keyHash P (Str.ofString "quote"), (.str (Str.ofString "quote") 1744), (.ref 44)⟩, ⟨PyData.keyHash P (Str.ofString "header_encode"), (.str (Str.ofString "header_encode") 1754), (.ref 52)⟩, ⟨PyData.keyHash P (Str.ofString "_QUOPRI_BODY_ENCODE_MAP"), (.str (Str.ofString "_QUOPRI_BODY_ENCODE_MAP") 1755), (.ref 54)⟩, ⟨PyData.keyHash P (Str.ofString "body_encode"), (.str (Str.ofString "body_encode") 1782), (.ref 65)⟩] 25), #[]⟩
noncomputable def q12_p20 (p : Program) (P : Params) : Obj := ⟨.none, none, (.fields #[(.int (2) 0), (.int (0) 0), (.ref 20), (.int (24) 0), (.int (0) 0), (.ref 43), (.int (26) 0), (.int (0) 0), (.ref 51), (.int (35) 0), (.int (0) 0), (.ref 64)]), #[]⟩
noncomputable def q58_p20 (p : Program) (P : Params) : Obj := ⟨(.type "tuple"), none, (.seq #[(.int (76) 1763), (.str ⟨#[10]⟩ 199)] 0), #[]⟩
noncomputable def q59_p20 (p : Program) (P : Params) : Obj := ⟨(.type "tuple"), none, (.seq #[] 0), #[]⟩
noncomputable def q60_p20 (p : Program) (P : Params) : Obj := ⟨.none, none, (.fields #[]), #[]⟩
noncomputable def q61_p20 (p : Program) (P : Params) : Obj := ⟨(.type "tuple"), none, (.seq #[(.str (Str.ofString "body") 1767), (.str (Str.ofString "maxlinelen") 1768), (.str (Str.ofString "eol") 1769), (.str (Str.ofString "soft_break") 1770), (.str (Str.ofString "maxlinelen1") 1771), (.str (Str.ofString "encoded_body") 1772), (.str (Str.ofString "append") 1773), (.str (Str.ofString "line") 1774), (.str (Str.ofString "start") 1775), (.str (Str.ofString "laststart") 1776), (.str (Str.ofString "stop") 1777), (.str (Str.ofString "room") 1778), (.str (Str.ofString "q") 1779)] 0), #[]⟩
noncomputable def q62_p20 (p : Program) (P : Params) : Obj := ⟨(.type "tuple"), none, (.seq #[] 0), #[]⟩
noncomputable def q63_p20 (p : Program) (P : Params) : Obj := ⟨.none, none, (.func { name := (Str.ofString "body_encode"), qualname := (Str.ofString "body_encode"), params := fArgs (st p 20), body := .stmts (fBody (st p 20)), scope := fScope (st p 20), globals := 0, closure := [], defaults := .none, kwdefaults := .none, doc := .none, pyModule := .none, annotations := none, code := .none, closureTuple := .none, builtins := 0 }), #[]⟩
noncomputable def q64_p20 (p : Program) (P : Params) : Obj := ⟨(.type "code"), none, (.fields #[(.str (Str.ofString "body_encode") 1764), (.str (Str.ofString "body_encode") 1765), (.str (Str.ofString "/claim/cut.py") 1766), (.int (35) 0), (.int (3) 0), (.int (0) 0), (.int (0) 0), (.int (3) 0), (.ref 59), (.bool true), (.int (181) 0), (.ref 60), .none, (.ref 61), (.ref 62), (.ref 63), (.int (1780) 0), (.int (35) 0), (.str (Str.ofString "/claim/cut.py") 1781)]), #[]⟩
noncomputable def q65_p20 (p : Program) (P : Params) : Obj := ⟨(.type "function"), none, (.func { name := (Str.ofString "body_encode"), qualname := (Str.ofString "body_encode"), params := fArgs (st p 20), body := .stmts (fBody (st p 20)), scope := fScope (st p 20), globals := 3, closure := [], defaults := (.ref 58), kwdefaults := .none, doc := .none, pyModule := (.str (Str.ofString "cpy313.email.quoprimime") 1239), annotations := none, code := (.ref 64), closureTuple := .none, builtins := 0 }), #[]⟩
noncomputable def q3_p21 (p : Program) (P : Params) : Obj := ⟨(.type "dict"), none, (.dict #[⟨PyData.keyHash P (Str.ofString "__name__"), (.str (Str.ofString "__name__") 165), (.str (Str.ofString "law_tx0020_01") 1783)⟩, ⟨PyData.keyHash P (Str.ofString "__doc__"), (.str (Str.ofString "__doc__") 166), .none⟩, ⟨PyData.keyHash P (Str.ofString "__package__"), (.str (Str.ofString "__package__") 167), .none⟩, ⟨PyData.keyHash P (Str.ofString "__loader__"), (.str (Str.ofString "__loader__") 168), (.builtin "__main__.__loader__#opaque")⟩, ⟨PyData.keyHash P (Str.ofString "__spec__"), (.str (Str.ofString "__spec__") 169), .none⟩, ⟨PyData.keyHash P (Str.ofString "__annotations__"), (.str (Str.ofString "__annotations__") 170), (.ref 6)⟩, ⟨PyData.keyHash P (Str.ofString "__builtins__"), (.str (Str.ofString "__builtins__") 171), (.ref 4)⟩, ⟨PyData.keyHash P (Str.ofString "__file__"), (.str (Str.ofString "__file__") 173), (.str (Str.ofString "/claim/cut.py") 172)⟩, ⟨PyData.keyHash P (Str.ofString "__cached__"), (.str (Str.ofString "__cached__") 174), .none⟩, ⟨PyData.keyHash P (Str.ofString "_gen_crc"), (.str (Str.ofString "_gen_crc") 196), (.ref 21)⟩, ⟨PyData.keyHash P (Str.ofString "CRLF"), (.str (Str.ofString "CRLF") 198), (.str ⟨#[13, 10]⟩ 197)⟩, ⟨PyData.keyHash P (Str.ofString "NL"), (.str (Str.ofString "NL") 200), (.str ⟨#[10]⟩ 199)⟩, ⟨PyData.keyHash P (Str.ofString "_QUOPRI_MAP"), (.str (Str.ofString "_QUOPRI_MAP") 1228), (.ref 24)⟩, ⟨PyData.keyHash P (Str.ofString "_QUOPRI_HEADER_MAP"), (.str (Str.ofString "_QUOPRI_HEADER_MAP") 1229), (.ref 29)⟩, ⟨PyData.keyHash P (Str.ofString "_QUOPRI_BODY_MAP"), (.str (Str.ofString "_QUOPRI_BODY_MAP") 1230), (.ref 31)⟩, ⟨PyData.keyHash P (Str.ofString "ascii_lowercase"), (.str (Str.ofString "ascii_lowercase") 1232), (.str (Str.ofString "abcdefghijklmnopqrstuvwxyz") 1231)⟩, ⟨PyData.keyHash P (Str.ofString "ascii_uppercase"), (.str (Str.ofString "ascii_uppercase") 1234), (.str (Str.ofString "ABCDEFGHIJKLMNOPQRSTUVWXYZ") 1233)⟩, ⟨PyData.keyHash P (Str.ofString "ascii_letters"), (.str (Str.ofString "ascii_letters") 1236), (.str (Str.ofString "abcdefghijklmnopqrstuvwxyzABCDEFGHIJKLMNOPQRSTUVWXYZ") 1235)⟩, ⟨PyData.keyHash P (Str.ofString "digits"), (.str (Str.ofString "digits") 1238), (.str (Str.ofString "0123456789") 1237)⟩, ⟨PyData.keyHash P (Str.ofString "quote"), (.str (Str.ofString "quote") 1744), (.ref 44)⟩, ⟨PyData.keyHash P (Str.ofString "header_encode"), (.str (Str.ofString "header_encode") 1754), (.ref 52)⟩, ⟨PyData.keyHash P (Str.ofString "_QUOPRI_BODY_ENCODE_MAP"), (.str (Str.ofString "_QUOPRI_BODY_ENCODE_MAP") 1755), (.ref 54)⟩, ⟨PyData.keyHash P (Str.ofString "body_encode"), (.str (Str.ofString "body_encode") 1782), (.ref 65)⟩] 25), #[]⟩
noncomputable def q3_p22 (p : Program) (P : Params) : Obj := ⟨(.type "dict"), none, (.dict #[⟨PyData.keyHash P (Str.ofString "__name__"), (.str (Str.ofString "__name__") 165), (.str (Str.ofString "law_tx0020_01") 1783)⟩, ⟨PyData.keyHash P (Str.ofString "__doc__"), (.str (Str.ofString "__doc__") 166), .none⟩, ⟨PyData.keyHash P (Str.ofString "__package__"), (.str (Str.ofString "__package__") 167), .none⟩, ⟨PyData.keyHash P (Str.ofString "__loader__"), (.str (Str.ofString "__loader__") 168), (.builtin "__main__.__loader__#opaque")⟩, ⟨PyData.keyHash P (Str.ofString "__spec__"), (.str (Str.ofString "__spec__") 169), .none⟩, ⟨PyData.keyHash P (Str.ofString "__annotations__"), (.str (Str.ofString "__annotations__") 170), (.ref 6)⟩, ⟨PyData.keyHash P (Str.ofString "__builtins__"), (.str (Str.ofString "__builtins__") 171), (.ref 4)⟩, ⟨PyData.keyHash P (Str.ofString "__file__"), (.str (Str.ofString "__file__") 173), (.str (Str.ofString "/claim/cut.py") 172)⟩, ⟨PyData.keyHash P (Str.ofString "__cached__"), (.str (Str.ofString "__cached__") 174), .none⟩, ⟨PyData.keyHash P (Str.ofString "_gen_crc"), (.str (Str.ofString "_gen_crc") 196), (.ref 21)⟩, ⟨PyData.keyHash P (Str.ofString "CRLF"), (.str (Str.ofString "CRLF") 198), (.str ⟨#[13, 10]⟩ 197)⟩, ⟨PyData.keyHash P (Str.ofString "NL"), (.str (Str.ofString "NL") 200), (.str ⟨#[10]⟩ 199)⟩, ⟨PyData.keyHash P (Str.ofString "_QUOPRI_MAP"), (.str (Str.ofString "_QUOPRI_MAP") 1228), (.ref 24)⟩, ⟨PyData.keyHash P (Str.ofString "_QUOPRI_HEADER_MAP"), (.str (Str.ofString "_QUOPRI_HEADER_MAP") 1229), (.ref 29)⟩, ⟨PyData.keyHash P (Str.ofString "_QUOPRI_BODY_MAP"), (.str (Str.ofString "_QUOPRI_BODY_MAP") 1230), (.ref 31)⟩, ⟨PyData.keyHash P (Str.ofString "ascii_lowercase"), (.str (Str.ofString "ascii_lowercase") 1232), (.str (Str.ofString "abcdefghijklmnopqrstuvwxyz") 1231)⟩, ⟨PyData.keyHash P (Str.ofString "ascii_uppercase"), (.str (Str.ofString "ascii_uppercase") 1234), (.str (Str.ofString "ABCDEFGHIJKLMNOPQRSTUVWXYZ") 1233)⟩, ⟨PyData.keyHash P (Str.ofString "ascii_letters"), (.str (Str.ofString "ascii_letters") 1236), (.str (Str.ofString "abcdefghijklmnopqrstuvwxyzABCDEFGHIJKLMNOPQRSTUVWXYZ") 1235)⟩, ⟨PyData.keyHash P (Str.ofString "digits"), (.str (Str.ofString "digits") 1238), (.str (Str.ofString "0123456789") 1237)⟩, ⟨PyData.keyHash P (Str.ofString "quote"), (.str (Str.ofString "quote") 1744), (.ref 44)⟩, ⟨PyData.keyHash P (Str.ofString "header_encode"), (.str (Str.ofString "header_encode") 1754), (.ref 52)⟩, ⟨PyData.keyHash P (Str.ofString "_QUOPRI_BODY_ENCODE_MAP"), (.str (Str.ofString "_QUOPRI_BODY_ENCODE_MAP") 1755), (.ref 54)⟩, ⟨PyData.keyHash P (Str.ofString "body_encode"), (.str (Str.ofString "body_encode") 1782), (.ref 65)⟩, ⟨PyData.keyHash P (Str.ofString "_law_signs"), (.str (Str.ofString "_law_signs") 1792), (.ref 72)⟩] 26), #[]⟩
noncomputable def q12_p22 (p : Program) (P : Params) : Obj := ⟨.none, none, (.fields #[(.int (2) 0), (.int (0) 0), (.ref 20), (.int (24) 0), (.int (0) 0), (.ref 43), (.int (26) 0), (.int (0) 0), (.ref 51), (.int (35) 0), (.int (0) 0), (.ref 64), (.int (74) 0), (.int (0) 0), (.ref 71)]), #[]⟩
noncomputable def q66_p22 (p : Program) (P : Params) : Obj := ⟨(.type "tuple"), none, (.seq #[] 0), #[]⟩
noncomputable def q67_p22 (p : Program) (P : Params) : Obj := ⟨.none, none, (.fields #[]), #[]⟩
noncomputable def q68_p22 (p : Program) (P : Params) : Obj := ⟨(.type "tuple"), none, (.seq #[(.str (Str.ofString "hand") 1788), (.str (Str.ofString "octet") 1789)] 0), #[]⟩
noncomputable def q69_p22 (p : Program) (P : Params) : Obj := ⟨(.type "tuple"), none, (.seq #[] 0), #[]⟩
noncomputable def q70_p22 (p : Program) (P : Params) : Obj := ⟨.none, none, (.func { name := (Str.ofString "_law_signs"), qualname := (Str.ofString "_law_signs"), params := fArgs (st p 22), body := .stmts (fBody (st p 22)), scope := fScope (st p 22), globals := 0, closure := [], defaults := .none, kwdefaults := .none, doc := .none, pyModule := .none, annotations := none, code := .none, closureTuple := .none, builtins := 0 }), #[]⟩
noncomputable def q71_p22 (p : Program) (P : Params) : Obj := ⟨(.type "code"), none, (.fields #[(.str (Str.ofString "_law_signs") 1785), (.str (Str.ofString "_law_signs") 1786), (.str (Str.ofString "/claim/cut.py") 1787), (.int (74) 0), (.int (2) 0), (.int (0) 0), (.int (0) 0), (.int (3) 0), (.ref 66), (.bool true), (.int (181) 0), (.ref 67), .none, (.ref 68), (.ref 69), (.ref 70), (.int (1790) 0), (.int (74) 0), (.str (Str.ofString "/claim/cut.py") 1791)]), #[]⟩
noncomputable def q72_p22 (p : Program) (P : Params) : Obj := ⟨(.type "function"), none, (.func { name := (Str.ofString "_law_signs"), qualname := (Str.ofString "_law_signs"), params := fArgs (st p 22), body := .stmts (fBody (st p 22)), scope := fScope (st p 22), globals := 3, closure := [], defaults := .none, kwdefaults := .none, doc := .none, pyModule := (.str (Str.ofString "law_tx0020_01") 1783), annotations := none, code := (.ref 71), closureTuple := .none, builtins := 0 }), #[]⟩
noncomputable def q3_p23 (p : Program) (P : Params) : Obj := ⟨(.type "dict"), none, (.dict #[⟨PyData.keyHash P (Str.ofString "__name__"), (.str (Str.ofString "__name__") 165), (.str (Str.ofString "law_tx0020_01") 1783)⟩, ⟨PyData.keyHash P (Str.ofString "__doc__"), (.str (Str.ofString "__doc__") 166), .none⟩, ⟨PyData.keyHash P (Str.ofString "__package__"), (.str (Str.ofString "__package__") 167), .none⟩, ⟨PyData.keyHash P (Str.ofString "__loader__"), (.str (Str.ofString "__loader__") 168), (.builtin "__main__.__loader__#opaque")⟩, ⟨PyData.keyHash P (Str.ofString "__spec__"), (.str (Str.ofString "__spec__") 169), .none⟩, ⟨PyData.keyHash P (Str.ofString "__annotations__"), (.str (Str.ofString "__annotations__") 170), (.ref 6)⟩, ⟨PyData.keyHash P (Str.ofString "__builtins__"), (.str (Str.ofString "__builtins__") 171), (.ref 4)⟩, ⟨PyData.keyHash P (Str.ofString "__file__"), (.str (Str.ofString "__file__") 173), (.str (Str.ofString "/claim/cut.py") 172)⟩, ⟨PyData.keyHash P (Str.ofString "__cached__"), (.str (Str.ofString "__cached__") 174), .none⟩, ⟨PyData.keyHash P (Str.ofString "_gen_crc"), (.str (Str.ofString "_gen_crc") 196), (.ref 21)⟩, ⟨PyData.keyHash P (Str.ofString "CRLF"), (.str (Str.ofString "CRLF") 198), (.str ⟨#[13, 10]⟩ 197)⟩, ⟨PyData.keyHash P (Str.ofString "NL"), (.str (Str.ofString "NL") 200), (.str ⟨#[10]⟩ 199)⟩, ⟨PyData.keyHash P (Str.ofString "_QUOPRI_MAP"), (.str (Str.ofString "_QUOPRI_MAP") 1228), (.ref 24)⟩, ⟨PyData.keyHash P (Str.ofString "_QUOPRI_HEADER_MAP"), (.str (Str.ofString "_QUOPRI_HEADER_MAP") 1229), (.ref 29)⟩, ⟨PyData.keyHash P (Str.ofString "_QUOPRI_BODY_MAP"), (.str (Str.ofString "_QUOPRI_BODY_MAP") 1230), (.ref 31)⟩, ⟨PyData.keyHash P (Str.ofString "ascii_lowercase"), (.str (Str.ofString "ascii_lowercase") 1232), (.str (Str.ofString "abcdefghijklmnopqrstuvwxyz") 1231)⟩, ⟨PyData.keyHash P (Str.ofString "ascii_uppercase"), (.str (Str.ofString "ascii_uppercase") 1234), (.str (Str.ofString "ABCDEFGHIJKLMNOPQRSTUVWXYZ") 1233)⟩, ⟨PyData.keyHash P (Str.ofString "ascii_letters"), (.str (Str.ofString "ascii_letters") 1236), (.str (Str.ofString "abcdefghijklmnopqrstuvwxyzABCDEFGHIJKLMNOPQRSTUVWXYZ") 1235)⟩, ⟨PyData.keyHash P (Str.ofString "digits"), (.str (Str.ofString "digits") 1238), (.str (Str.ofString "0123456789") 1237)⟩, ⟨PyData.keyHash P (Str.ofString "quote"), (.str (Str.ofString "quote") 1744), (.ref 44)⟩, ⟨PyData.keyHash P (Str.ofString "header_encode"), (.str (Str.ofString "header_encode") 1754), (.ref 52)⟩, ⟨PyData.keyHash P (Str.ofString "_QUOPRI_BODY_ENCODE_MAP"), (.str (Str.ofString "_QUOPRI_BODY_ENCODE_MAP") 1755), (.ref 54)⟩, ⟨PyData.keyHash P (Str.ofString "body_encode"), (.str (Str.ofString "body_encode") 1782), (.ref 65)⟩, ⟨PyData.keyHash P (Str.ofString "_law_signs"), (.str (Str.ofString "_law_signs") 1792), (.ref 72)⟩, ⟨PyData.keyHash P (Str.ofString "_law_codes"), (.str (Str.ofString "_law_codes") 1798), (.ref 77)⟩] 27), #[]⟩
noncomputable def q12_p23 (p : Program) (P : Params) : Obj := ⟨.none, none, (.fields #[(.int (2) 0), (.int (0) 0), (.ref 20), (.int (24) 0), (.int (0) 0), (.ref 43), (.int (26) 0), (.int (0) 0), (.ref 51), (.int (35) 0), (.int (0) 0), (.ref 64), (.int (74) 0), (.int (0) 0), (.ref 71), (.int (80) 0), (.int (0) 0), (.ref 76)]), #[]⟩
noncomputable def q73_p23 (p : Program) (P : Params) : Obj := ⟨(.type "tuple"), none, (.seq #[] 0), #[]⟩
noncomputable def q74_p23 (p : Program) (P : Params) : Obj := ⟨.none, none, (.fields #[]), #[]⟩
noncomputable def q75_p23 (p : Program) (P : Params) : Obj := ⟨.none, none, (.func { name := (Str.ofString "_law_codes"), qualname := (Str.ofString "_law_codes"), params := fArgs (st p 23), body := .stmts (fBody (st p 23)), scope := fScope (st p 23), globals := 0, closure := [], defaults := .none, kwdefaults := .none, doc := .none, pyModule := .none, annotations := none, code := .none, closureTuple := .none, builtins := 0 }), #[]⟩
noncomputable def q76_p23 (p : Program) (P : Params) : Obj := ⟨(.type "code"), none, (.fields #[(.str (Str.ofString "_law_codes") 1793), (.str (Str.ofString "_law_codes") 1794), (.str (Str.ofString "/claim/cut.py") 1795), (.int (80) 0), (.int (2) 0), (.int (0) 0), (.int (0) 0), (.int (3) 0), (.ref 73), (.bool true), (.int (181) 0), (.ref 74), .none, .none, .none, (.ref 75), (.int (1796) 0), (.int (80) 0), (.str (Str.ofString "/claim/cut.py") 1797)]), #[]⟩
noncomputable def q77_p23 (p : Program) (P : Params) : Obj := ⟨(.type "function"), none, (.func { name := (Str.ofString "_law_codes"), qualname := (Str.ofString "_law_codes"), params := fArgs (st p 23), body := .stmts (fBody (st p 23)), scope := fScope (st p 23), globals := 3, closure := [], defaults := .none, kwdefaults := .none, doc := .none, pyModule := (.str (Str.ofString "law_tx0020_01") 1783), annotations := none, code := (.ref 76), closureTuple := .none, builtins := 0 }), #[]⟩
noncomputable def q3_p24 (p : Program) (P : Params) : Obj := ⟨(.type "dict"), none, (.dict #[⟨PyData.keyHash P (Str.ofString "__name__"), (.str (Str.ofString "__name__") 165), (.str (Str.ofString "law_tx0020_01") 1783)⟩, ⟨PyData.keyHash P (Str.ofString "__doc__"), (.str (Str.ofString "__doc__") 166), .none⟩, ⟨PyData.keyHash P (Str.ofString "__package__"), (.str (Str.ofString "__package__") 167), .none⟩, ⟨PyData.keyHash P (Str.ofString "__loader__"), (.str (Str.ofString "__loader__") 168), (.builtin "__main__.__loader__#opaque")⟩, ⟨PyData.keyHash P (Str.ofString "__spec__"), (.str (Str.ofString "__spec__") 169), .none⟩, ⟨PyData.keyHash P (Str.ofString "__annotations__"), (.str (Str.ofString "__annotations__") 170), (.ref 6)⟩, ⟨PyData.keyHash P (Str.ofString "__builtins__"), (.str (Str.ofString "__builtins__") 171), (.ref 4)⟩, ⟨PyData.keyHash P (Str.ofString "__file__"), (.str (Str.ofString "__file__") 173), (.str (Str.ofString "/claim/cut.py") 172)⟩, ⟨PyData.keyHash P (Str.ofString "__cached__"), (.str (Str.ofString "__cached__") 174), .none⟩, ⟨PyData.keyHash P (Str.ofString "_gen_crc"), (.str (Str.ofString "_gen_crc") 196), (.ref 21)⟩, ⟨PyData.keyHash P (Str.ofString "CRLF"), (.str (Str.ofString "CRLF") 198), (.str ⟨#[13, 10]⟩ 197)⟩, ⟨PyData.keyHash P (Str.ofString "NL"), (.str (Str.ofString "NL") 200), (.str ⟨#[10]⟩ 199)⟩, ⟨PyData.keyHash P (Str.ofString "_QUOPRI_MAP"), (.str (Str.ofString "_QUOPRI_MAP") 1228), (.ref 24)⟩, ⟨PyData.keyHash P (Str.ofString "_QUOPRI_HEADER_MAP"), (.str (Str.ofString "_QUOPRI_HEADER_MAP") 1229), (.ref 29)⟩, ⟨PyData.keyHash P (Str.ofString "_QUOPRI_BODY_MAP"), (.str (Str.ofString "_QUOPRI_BODY_MAP") 1230), (.ref 31)⟩, ⟨PyData.keyHash P (Str.ofString "ascii_lowercase"), (.str (Str.ofString "ascii_lowercase") 1232), (.str (Str.ofString "abcdefghijklmnopqrstuvwxyz") 1231)⟩, ⟨PyData.keyHash P (Str.ofString "ascii_uppercase"), (.str (Str.ofString "ascii_uppercase") 1234), (.str (Str.ofString "ABCDEFGHIJKLMNOPQRSTUVWXYZ") 1233)⟩, ⟨PyData.keyHash P (Str.ofString "ascii_letters"), (.str (Str.ofString "ascii_letters") 1236), (.str (Str.ofString "abcdefghijklmnopqrstuvwxyzABCDEFGHIJKLMNOPQRSTUVWXYZ") 1235)⟩, ⟨PyData.keyHash P (Str.ofString "digits"), (.str (Str.ofString "digits") 1238), (.str (Str.ofString "0123456789") 1237)⟩, ⟨PyData.keyHash P (Str.ofString "quote"), (.str (Str.ofString "quote") 1744), (.ref 44)⟩, ⟨PyData.keyHash P (Str.ofString "header_encode"), (.str (Str.ofString "header_encode") 1754), (.ref 52)⟩, ⟨PyData.keyHash P (Str.ofString "_QUOPRI_BODY_ENCODE_MAP"), (.str (Str.ofString "_QUOPRI_BODY_ENCODE_MAP") 1755), (.ref 54)⟩, ⟨PyData.keyHash P (Str.ofString "body_encode"), (.str (Str.ofString "body_encode") 1782), (.ref 65)⟩, ⟨PyData.keyHash P (Str.ofString "_law_signs"), (.str (Str.ofString "_law_signs") 1792), (.ref 72)⟩, ⟨PyData.keyHash P (Str.ofString "_law_codes"), (.str (Str.ofString "_law_codes") 1798), (.ref 77)⟩, ⟨PyData.keyHash P (Str.ofString "_law_forebears"), (.str (Str.ofString "_law_forebears") 1811), (.ref 84)⟩] 28), #[]⟩
noncomputable def q12_p24 (p : Program) (P : Params) : Obj := ⟨.none, none, (.fields #[(.int (2) 0), (.int (0) 0), (.ref 20), (.int (24) 0), (.int (0) 0), (.ref 43), (.int (26) 0), (.int (0) 0), (.ref 51), (.int (35) 0), (.int (0) 0), (.ref 64), (.int (74) 0), (.int (0) 0), (.ref 71), (.int (80) 0), (.int (0) 0), (.ref 76), (.int (92) 0), (.int (0) 0), (.ref 83)]), #[]⟩
noncomputable def q78_p24 (p : Program) (P : Params) : Obj := ⟨(.type "tuple"), none, (.seq #[] 0), #[]⟩
noncomputable def q79_p24 (p : Program) (P : Params) : Obj := ⟨.none, none, (.fields #[]), #[]⟩
noncomputable def q80_p24 (p : Program) (P : Params) : Obj := ⟨(.type "tuple"), none, (.seq #[(.str (Str.ofString "hand") 1802), (.str (Str.ofString "register") 1803), (.str (Str.ofString "found") 1804), (.str (Str.ofString "turn") 1805), (.str (Str.ofString "codes") 1806), (.str (Str.ofString "other") 1807), (.str (Str.ofString "k") 1808)] 0), #[]⟩
noncomputable def q81_p24 (p : Program) (P : Params) : Obj := ⟨(.type "tuple"), none, (.seq #[] 0), #[]⟩
noncomputable def q82_p24 (p : Program) (P : Params) : Obj := ⟨.none, none, (.func { name := (Str.ofString "_law_forebears"), qualname := (Str.ofString "_law_forebears"), params := fArgs (st p 24), body := .stmts (fBody (st p 24)), scope := fScope (st p 24), globals := 0, closure := [], defaults := .none, kwdefaults := .none, doc := .none, pyModule := .none, annotations := none, code := .none, closureTuple := .none, builtins := 0 }), #[]⟩
noncomputable def q83_p24 (p : Program) (P : Params) : Obj := ⟨(.type "code"), none, (.fields #[(.str (Str.ofString "_law_forebears") 1799), (.str (Str.ofString "_law_forebears") 1800), (.str (Str.ofString "/claim/cut.py") 1801), (.int (92) 0), (.int (2) 0), (.int (0) 0), (.int (0) 0), (.int (3) 0), (.ref 78), (.bool true), (.int (181) 0), (.ref 79), .none, (.ref 80), (.ref 81), (.ref 82), (.int (1809) 0), (.int (92) 0), (.str (Str.ofString "/claim/cut.py") 1810)]), #[]⟩
noncomputable def q84_p24 (p : Program) (P : Params) : Obj := ⟨(.type "function"), none, (.func { name := (Str.ofString "_law_forebears"), qualname := (Str.ofString "_law_forebears"), params := fArgs (st p 24), body := .stmts (fBody (st p 24)), scope := fScope (st p 24), globals := 3, closure := [], defaults := .none, kwdefaults := .none, doc := .none, pyModule := (.str (Str.ofString "law_tx0020_01") 1783), annotations := none, code := (.ref 83), closureTuple := .none, builtins := 0 }), #[]⟩
noncomputable def q3_p25 (p : Program) (P : Params) : Obj := ⟨(.type "dict"), none, (.dict #[⟨PyData.keyHash P (Str.ofString "__name__"), (.str (Str.ofString "__name__") 165), (.str (Str.ofString "law_tx0020_01") 1783)⟩, ⟨PyData.keyHash P (Str.ofString "__doc__"), (.str (Str.ofString "__doc__") 166), .none⟩, ⟨PyData.keyHash P (Str.ofString "__package__"), (.str (Str.ofString "__package__") 167), .none⟩, ⟨PyData.keyHash P (Str.ofString "__loader__"), (.str (Str.ofString "__loader__") 168), (.builtin "__main__.__loader__#opaque")⟩, ⟨PyData.keyHash P (Str.ofString "__spec__"), (.str (Str.ofString "__spec__") 169), .none⟩, ⟨PyData.keyHash P (Str.ofString "__annotations__"), (.str (Str.ofString "__annotations__") 170), (.ref 6)⟩, ⟨PyData.keyHash P (Str.ofString "__builtins__"), (.str (Str.ofString "__builtins__") 171), (.ref 4)⟩, ⟨PyData.keyHash P (Str.ofString "__file__"), (.str (Str.ofString "__file__") 173), (.str (Str.ofString "/claim/cut.py") 172)⟩, ⟨PyData.keyHash P (Str.ofString "__cached__"), (.str (Str.ofString "__cached__") 174), .none⟩, ⟨PyData.keyHash P (Str.ofString "_gen_crc"), (.str (Str.ofString "_gen_crc") 196), (.ref 21)⟩, ⟨PyData.keyHash P (Str.ofString "CRLF"), (.str (Str.ofString "CRLF") 198), (.str ⟨#[13, 10]⟩ 197)⟩, ⟨PyData.keyHash P (Str.ofString "NL"), (.str (Str.ofString "NL") 200), (.str ⟨#[10]⟩ 199)⟩, ⟨PyData.keyHash P (Str.ofString "_QUOPRI_MAP"), (.str (Str.ofString "_QUOPRI_MAP") 1228), (.ref 24)⟩, ⟨PyData.keyHash P (Str.ofString "_QUOPRI_HEADER_MAP"), (.str (Str.ofString "_QUOPRI_HEADER_MAP") 1229), (.ref 29)⟩, ⟨PyData.keyHash P (Str.ofString "_QUOPRI_BODY_MAP"), (.str (Str.ofString "_QUOPRI_BODY_MAP") 1230), (.ref 31)⟩, ⟨PyData.keyHash P (Str.ofString "ascii_lowercase"), (.str (Str.ofString "ascii_lowercase") 1232), (.str (Str.ofString "abcdefghijklmnopqrstuvwxyz") 1231)⟩, ⟨PyData.keyHash P (Str.ofString "ascii_uppercase"), (.str (Str.ofString "ascii_uppercase") 1234), (.str (Str.ofString "ABCDEFGHIJKLMNOPQRSTUVWXYZ") 1233)⟩, ⟨PyData.keyHash P (Str.ofString "ascii_letters"), (.str (Str.ofString "ascii_letters") 1236), (.str (Str.ofString "abcdefghijklmnopqrstuvwxyzABCDEFGHIJKLMNOPQRSTUVWXYZ") 1235)⟩, ⟨PyData.keyHash P (Str.ofString "digits"), (.str (Str.ofString "digits") 1238), (.str (Str.ofString "0123456789") 1237)⟩, ⟨PyData.keyHash P (Str.ofString "quote"), (.str (Str.ofString "quote") 1744), (.ref 44)⟩, ⟨PyData.keyHash P (Str.ofString "header_encode"), (.str (Str.ofString "header_encode") 1754), (.ref 52)⟩, ⟨PyData.keyHash P (Str.ofString "_QUOPRI_BODY_ENCODE_MAP"), (.str (Str.ofString "_QUOPRI_BODY_ENCODE_MAP") 1755), (.ref 54)⟩, ⟨PyData.keyHash P (Str.ofString "body_encode"), (.str (Str.ofString "body_encode") 1782), (.ref 65)⟩, ⟨PyData.keyHash P (Str.ofString "_law_signs"), (.str (Str.ofString "_law_signs") 1792), (.ref 72)⟩, ⟨PyData.keyHash P (Str.ofString "_law_codes"), (.str (Str.ofString "_law_codes") 1798), (.ref 77)⟩, ⟨PyData.keyHash P (Str.ofString "_law_forebears"), (.str (Str.ofString "_law_forebears") 1811), (.ref 84)⟩, ⟨PyData.keyHash P (Str.ofString "law"), (.str (Str.ofString "law") 1817), (.ref 89)⟩] 29), #[]⟩
noncomputable def q12_p25 (p : Program) (P : Params) : Obj := ⟨.none, none, (.fields #[(.int (2) 0), (.int (0) 0), (.ref 20), (.int (24) 0), (.int (0) 0), (.ref 43), (.int (26) 0), (.int (0) 0), (.ref 51), (.int (35) 0), (.int (0) 0), (.ref 64), (.int (74) 0), (.int (0) 0), (.ref 71), (.int (80) 0), (.int (0) 0), (.ref 76), (.int (92) 0), (.int (0) 0), (.ref 83), (.int (107) 0), (.int (0) 0), (.ref 88)]), #[]⟩
noncomputable def q85_p25 (p : Program) (P : Params) : Obj := ⟨(.type "tuple"), none, (.seq #[] 0), #[]⟩
noncomputable def q86_p25 (p : Program) (P : Params) : Obj := ⟨.none, none, (.fields #[]), #[]⟩
noncomputable def q87_p25 (p : Program) (P : Params) : Obj := ⟨.none, none, (.func { name := (Str.ofString "law"), qualname := (Str.ofString "law"), params := fArgs (st p 25), body := .stmts (fBody (st p 25)), scope := fScope (st p 25), globals := 0, closure := [], defaults := .none, kwdefaults := .none, doc := .none, pyModule := .none, annotations := none, code := .none, closureTuple := .none, builtins := 0 }), #[]⟩
noncomputable def q88_p25 (p : Program) (P : Params) : Obj := ⟨(.type "code"), none, (.fields #[(.str (Str.ofString "law") 1812), (.str (Str.ofString "law") 1813), (.str (Str.ofString "/claim/cut.py") 1814), (.int (107) 0), (.int (1) 0), (.int (0) 0), (.int (0) 0), (.int (3) 0), (.ref 85), (.bool true), (.int (181) 0), (.ref 86), .none, .none, .none, (.ref 87), (.int (1815) 0), (.int (107) 0), (.str (Str.ofString "/claim/cut.py") 1816)]), #[]⟩
noncomputable def q89_p25 (p : Program) (P : Params) : Obj := ⟨(.type "function"), none, (.func { name := (Str.ofString "law"), qualname := (Str.ofString "law"), params := fArgs (st p 25), body := .stmts (fBody (st p 25)), scope := fScope (st p 25), globals := 3, closure := [], defaults := .none, kwdefaults := .none, doc := .none, pyModule := (.str (Str.ofString "law_tx0020_01") 1783), annotations := none, code := (.ref 88), closureTuple := .none, builtins := 0 }), #[]⟩
noncomputable def Hpre (p : Program) (P : Params) : Heap := ⟨#[boot_o_0 P, boot_o_1 P, boot_o_2 P, boot_o_3 P, boot_o_4 P, boot_o_5 P, boot_o_6 P, boot_o_7 P, boot_o_8 P, boot_o_9 P, boot_o_10 P, q11_pre p P, q12_pre p P, q13_pre p P, q14_pre p P], {}⟩
noncomputable def T_block (p : Program) (P : Params) : BT := (.node (boot_o_0 P) (.node (boot_o_1 P) (.node (boot_o_3 P) (.node (boot_o_7 P) .nil .nil) (.node (q11_pre p P) .nil .nil)) (.node (boot_o_5 P) (.node (boot_o_9 P) .nil .nil) (.node (q13_pre p P) .nil .nil))) (.node (boot_o_2 P) (.node (boot_o_4 P) (.node (boot_o_8 P) .nil .nil) (.node (q12_pre p P) .nil .nil)) (.node (boot_o_6 P) (.node (boot_o_10 P) .nil .nil) (.node (q14_pre p P) .nil .nil))))
noncomputable def S_block (p : Program) (P : Params) (os : OsState) : SharedT := ⟨T_block p P, 15, {}, #[], {}, 187, os⟩
noncomputable def T_p0 (p : Program) (P : Params) : BT := (.node (boot_o_0 P) (.node (boot_o_1 P) (.node (q3_p0 p P) (.node (boot_o_7 P) .nil .nil) (.node (q11_pre p P) .nil .nil)) (.node (boot_o_5 P) (.node (boot_o_9 P) .nil .nil) (.node (q13_pre p P) .nil .nil))) (.node (boot_o_2 P) (.node (boot_o_4 P) (.node (boot_o_8 P) .nil .nil) (.node (q12_pre p P) .nil .nil)) (.node (boot_o_6 P) (.node (boot_o_10 P) .nil .nil) (.node (q14_pre p P) .nil .nil))))
noncomputable def S_p0 (p : Program) (P : Params) (os : OsState) : SharedT := ⟨T_p0 p P, 15, {}, #[], {}, 189, os⟩
noncomputable def T_p1 (p : Program) (P : Params) : BT := (.node (boot_o_0 P) (.node (boot_o_1 P) (.node (q3_p1 p P) (.node (boot_o_7 P) (.node (q15_p1 p P) .nil .nil) .nil) (.node (q11_pre p P) (.node (q19_p1 p P) .nil .nil) .nil)) (.node (boot_o_5 P) (.node (boot_o_9 P) (.node (q17_p1 p P) .nil .nil) .nil) (.node (q13_pre p P) (.node (q21_p1 p P) .nil .nil) .nil))) (.node (boot_o_2 P) (.node (boot_o_4 P) (.node (boot_o_8 P) (.node (q16_p1 p P) .nil .nil) .nil) (.node (q12_p1 p P) (.node (q20_p1 p P) .nil .nil) .nil)) (.node (boot_o_6 P) (.node (boot_o_10 P) (.node (q18_p1 p P) .nil .nil) .nil) (.node (q14_pre p P) .nil .nil))))
noncomputable def S_p1 (p : Program) (P : Params) (os : OsState) : SharedT := ⟨T_p1 p P, 22, {}, #[], {}, 197, os⟩
noncomputable def T_p2 (p : Program) (P : Params) : BT := (.node (boot_o_0 P) (.node (boot_o_1 P) (.node (q3_p2 p P) (.node (boot_o_7 P) (.node (q15_p1 p P) .nil .nil) .nil) (.node (q11_pre p P) (.node (q19_p1 p P) .nil .nil) .nil)) (.node (boot_o_5 P) (.node (boot_o_9 P) (.node (q17_p1 p P) .nil .nil) .nil) (.node (q13_pre p P) (.node (q21_p1 p P) .nil .nil) .nil))) (.node (boot_o_2 P) (.node (boot_o_4 P) (.node (boot_o_8 P) (.node (q16_p1 p P) .nil .nil) .nil) (.node (q12_p1 p P) (.node (q20_p1 p P) .nil .nil) .nil)) (.node (boot_o_6 P) (.node (boot_o_10 P) (.node (q18_p1 p P) .nil .nil) .nil) (.node (q14_pre p P) .nil .nil))))
noncomputable def S_p2 (p : Program) (P : Params) (os : OsState) : SharedT := ⟨T_p2 p P, 22, {}, #[], {}, 199, os⟩
noncomputable def T_p3 (p : Program) (P : Params) : BT := (.node (boot_o_0 P) (.node (boot_o_1 P) (.node (q3_p3 p P) (.node (boot_o_7 P) (.node (q15_p1 p P) .nil .nil) .nil) (.node (q11_pre p P) (.node (q19_p1 p P) .nil .nil) .nil)) (.node (boot_o_5 P) (.node (boot_o_9 P) (.node (q17_p1 p P) .nil .nil) .nil) (.node (q13_pre p P) (.node (q21_p1 p P) .nil .nil) .nil))) (.node (boot_o_2 P) (.node (boot_o_4 P) (.node (boot_o_8 P) (.node (q16_p1 p P) .nil .nil) .nil) (.node (q12_p1 p P) (.node (q20_p1 p P) .nil .nil) .nil)) (.node (boot_o_6 P) (.node (boot_o_10 P) (.node (q18_p1 p P) .nil .nil) .nil) (.node (q14_pre p P) .nil .nil))))
noncomputable def S_p3 (p : Program) (P : Params) (os : OsState) : SharedT := ⟨T_p3 p P, 22, {}, #[], {}, 201, os⟩
noncomputable def T_p4 (p : Program) (P : Params) : BT := (.node (boot_o_0 P) (.node (boot_o_1 P) (.node (q3_p4 p P) (.node (boot_o_7 P) (.node (q15_p1 p P) .nil .nil) (.node (q23_p4 p P) .nil .nil)) (.node (q11_pre p P) (.node (q19_p1 p P) .nil .nil) (.node (q27_p4 p P) .nil .nil))) (.node (boot_o_5 P) (.node (boot_o_9 P) (.node (q17_p1 p P) .nil .nil) (.node (q25_p4 p P) .nil .nil)) (.node (q13_pre p P) (.node (q21_p1 p P) .nil .nil) .nil))) (.node (boot_o_2 P) (.node (boot_o_4 P) (.node (boot_o_8 P) (.node (q16_p1 p P) .nil .nil) (.node (q24_p4 p P) .nil .nil)) (.node (q12_p1 p P) (.node (q20_p1 p P) .nil .nil) .nil)) (.node (boot_o_6 P) (.node (boot_o_10 P) (.node (q18_p1 p P) .nil .nil) (.node (q26_p4 p P) .nil .nil)) (.node (q14_pre p P) (.node (q22_p4 p P) .nil .nil) .nil))))
noncomputable def S_p4 (p : Program) (P : Params) (os : OsState) : SharedT := ⟨T_p4 p P, 28, {}, #[], {}, 1229, os⟩
noncomputable def T_p5 (p : Program) (P : Params) : BT := (.node (boot_o_0 P) (.node (boot_o_1 P) (.node (q3_p5 p P) (.node (boot_o_7 P) (.node (q15_p1 p P) .nil .nil) (.node (q23_p4 p P) .nil .nil)) (.node (q11_pre p P) (.node (q19_p1 p P) .nil .nil) (.node (q27_p4 p P) .nil .nil))) (.node (boot_o_5 P) (.node (boot_o_9 P) (.node (q17_p1 p P) .nil .nil) (.node (q25_p4 p P) .nil .nil)) (.node (q13_pre p P) (.node (q21_p1 p P) .nil .nil) (.node (q29_p5 p P) .nil .nil)))) (.node (boot_o_2 P) (.node (boot_o_4 P) (.node (boot_o_8 P) (.node (q16_p1 p P) .nil .nil) (.node (q24_p4 p P) .nil .nil)) (.node (q12_p1 p P) (.node (q20_p1 p P) .nil .nil) (.node (q28_p5 p P) .nil .nil))) (.node (boot_o_6 P) (.node (boot_o_10 P) (.node (q18_p1 p P) .nil .nil) (.node (q26_p4 p P) .nil .nil)) (.node (q14_pre p P) (.node (q22_p4 p P) .nil .nil) .nil))))
noncomputable def S_p5 (p : Program) (P : Params) (os : OsState) : SharedT := ⟨T_p5 p P, 30, {}, #[], {}, 1230, os⟩
noncomputable def T_p6 (p : Program) (P : Params) : BT := (.node (boot_o_0 P) (.node (boot_o_1 P) (.node (q3_p6 p P) (.node (boot_o_7 P) (.node (q15_p1 p P) (.node (q31_p6 p P) .nil .nil) .nil) (.node (q23_p4 p P) .nil .nil)) (.node (q11_pre p P) (.node (q19_p1 p P) .nil .nil) (.node (q27_p4 p P) .nil .nil))) (.node (boot_o_5 P) (.node (boot_o_9 P) (.node (q17_p1 p P) .nil .nil) (.node (q25_p4 p P) .nil .nil)) (.node (q13_pre p P) (.node (q21_p1 p P) .nil .nil) (.node (q29_p5 p P) .nil .nil)))) (.node (boot_o_2 P) (.node (boot_o_4 P) (.node (boot_o_8 P) (.node (q16_p1 p P) .nil .nil) (.node (q24_p4 p P) .nil .nil)) (.node (q12_p1 p P) (.node (q20_p1 p P) .nil .nil) (.node (q28_p5 p P) .nil .nil))) (.node (boot_o_6 P) (.node (boot_o_10 P) (.node (q18_p1 p P) .nil .nil) (.node (q26_p4 p P) .nil .nil)) (.node (q14_pre p P) (.node (q22_p4 p P) .nil .nil) (.node (q30_p6 p P) .nil .nil)))))
noncomputable def S_p6 (p : Program) (P : Params) (os : OsState) : SharedT := ⟨T_p6 p P, 32, {}, #[], {}, 1231, os⟩
noncomputable def T_p7 (p : Program) (P : Params) : BT := (.node (boot_o_0 P) (.node (boot_o_1 P) (.node (q3_p7 p P) (.node (boot_o_7 P) (.node (q15_p1 p P) (.node (q31_p6 p P) .nil .nil) .nil) (.node (q23_p4 p P) .nil .nil)) (.node (q11_pre p P) (.node (q19_p1 p P) .nil .nil) (.node (q27_p4 p P) .nil .nil))) (.node (boot_o_5 P) (.node (boot_o_9 P) (.node (q17_p1 p P) .nil .nil) (.node (q25_p4 p P) .nil .nil)) (.node (q13_pre p P) (.node (q21_p1 p P) .nil .nil) (.node (q29_p5 p P) .nil .nil)))) (.node (boot_o_2 P) (.node (boot_o_4 P) (.node (boot_o_8 P) (.node (q16_p1 p P) .nil .nil) (.node (q24_p4 p P) .nil .nil)) (.node (q12_p1 p P) (.node (q20_p1 p P) .nil .nil) (.node (q28_p5 p P) .nil .nil))) (.node (boot_o_6 P) (.node (boot_o_10 P) (.node (q18_p1 p P) .nil .nil) (.node (q26_p4 p P) .nil .nil)) (.node (q14_pre p P) (.node (q22_p4 p P) .nil .nil) (.node (q30_p6 p P) .nil .nil)))))
noncomputable def S_p7 (p : Program) (P : Params) (os : OsState) : SharedT := ⟨T_p7 p P, 32, {}, #[], {}, 1233, os⟩
noncomputable def T_p8 (p : Program) (P : Params) : BT := (.node (boot_o_0 P) (.node (boot_o_1 P) (.node (q3_p8 p P) (.node (boot_o_7 P) (.node (q15_p1 p P) (.node (q31_p6 p P) .nil .nil) .nil) (.node (q23_p4 p P) .nil .nil)) (.node (q11_pre p P) (.node (q19_p1 p P) .nil .nil) (.node (q27_p4 p P) .nil .nil))) (.node (boot_o_5 P) (.node (boot_o_9 P) (.node (q17_p1 p P) .nil .nil) (.node (q25_p4 p P) .nil .nil)) (.node (q13_pre p P) (.node (q21_p1 p P) .nil .nil) (.node (q29_p5 p P) .nil .nil)))) (.node (boot_o_2 P) (.node (boot_o_4 P) (.node (boot_o_8 P) (.node (q16_p1 p P) .nil .nil) (.node (q24_p4 p P) .nil .nil)) (.node (q12_p1 p P) (.node (q20_p1 p P) .nil .nil) (.node (q28_p5 p P) .nil .nil))) (.node (boot_o_6 P) (.node (boot_o_10 P) (.node (q18_p1 p P) .nil .nil) (.node (q26_p4 p P) .nil .nil)) (.node (q14_pre p P) (.node (q22_p4 p P) .nil .nil) (.node (q30_p6 p P) .nil .nil)))))
noncomputable def S_p8 (p : Program) (P : Params) (os : OsState) : SharedT := ⟨T_p8 p P, 32, {}, #[], {}, 1235, os⟩
noncomputable def T_p9 (p : Program) (P : Params) : BT := (.node (boot_o_0 P) (.node (boot_o_1 P) (.node (q3_p9 p P) (.node (boot_o_7 P) (.node (q15_p1 p P) (.node (q31_p6 p P) .nil .nil) .nil) (.node (q23_p4 p P) .nil .nil)) (.node (q11_pre p P) (.node (q19_p1 p P) .nil .nil) (.node (q27_p4 p P) .nil .nil))) (.node (boot_o_5 P) (.node (boot_o_9 P) (.node (q17_p1 p P) .nil .nil) (.node (q25_p4 p P) .nil .nil)) (.node (q13_pre p P) (.node (q21_p1 p P) .nil .nil) (.node (q29_p5 p P) .nil .nil)))) (.node (boot_o_2 P) (.node (boot_o_4 P) (.node (boot_o_8 P) (.node (q16_p1 p P) .nil .nil) (.node (q24_p4 p P) .nil .nil)) (.node (q12_p1 p P) (.node (q20_p1 p P) .nil .nil) (.node (q28_p5 p P) .nil .nil))) (.node (boot_o_6 P) (.node (boot_o_10 P) (.node (q18_p1 p P) .nil .nil) (.node (q26_p4 p P) .nil .nil)) (.node (q14_pre p P) (.node (q22_p4 p P) .nil .nil) (.node (q30_p6 p P) .nil .nil)))))
noncomputable def S_p9 (p : Program) (P : Params) (os : OsState) : SharedT := ⟨T_p9 p P, 32, {}, #[], {}, 1237, os⟩
noncomputable def T_p10 (p : Program) (P : Params) : BT := (.node (boot_o_0 P) (.node (boot_o_1 P) (.node (q3_p10 p P) (.node (boot_o_7 P) (.node (q15_p1 p P) (.node (q31_p6 p P) .nil .nil) .nil) (.node (q23_p4 p P) .nil .nil)) (.node (q11_pre p P) (.node (q19_p1 p P) .nil .nil) (.node (q27_p4 p P) .nil .nil))) (.node (boot_o_5 P) (.node (boot_o_9 P) (.node (q17_p1 p P) .nil .nil) (.node (q25_p4 p P) .nil .nil)) (.node (q13_pre p P) (.node (q21_p1 p P) .nil .nil) (.node (q29_p5 p P) .nil .nil)))) (.node (boot_o_2 P) (.node (boot_o_4 P) (.node (boot_o_8 P) (.node (q16_p1 p P) .nil .nil) (.node (q24_p4 p P) .nil .nil)) (.node (q12_p1 p P) (.node (q20_p1 p P) .nil .nil) (.node (q28_p5 p P) .nil .nil))) (.node (boot_o_6 P) (.node (boot_o_10 P) (.node (q18_p1 p P) .nil .nil) (.node (q26_p4 p P) .nil .nil)) (.node (q14_pre p P) (.node (q22_p4 p P) .nil .nil) (.node (q30_p6 p P) .nil .nil)))))
noncomputable def S_p10 (p : Program) (P : Params) (os : OsState) : SharedT := ⟨T_p10 p P, 32, {}, #[], {}, 1239, os⟩
noncomputable def T_p11 (p : Program) (P : Params) : BT := (.node (boot_o_0 P) (.node (boot_o_1 P) (.node (q3_p11 p P) (.node (boot_o_7 P) (.node (q15_p1 p P) (.node (q31_p6 p P) .nil .nil) .nil) (.node (q23_p4 p P) .nil .nil)) (.node (q11_pre p P) (.node (q19_p1 p P) .nil .nil) (.node (q27_p4 p P) .nil .nil))) (.node (boot_o_5 P) (.node (boot_o_9 P) (.node (q17_p1 p P) .nil .nil) (.node (q25_p4 p P) .nil .nil)) (.node (q13_pre p P) (.node (q21_p1 p P) .nil .nil) (.node (q29_p5 p P) .nil .nil)))) (.node (boot_o_2 P) (.node (boot_o_4 P) (.node (boot_o_8 P) (.node (q16_p1 p P) .nil .nil) (.node (q24_p4 p P) .nil .nil)) (.node (q12_p1 p P) (.node (q20_p1 p P) .nil .nil) (.node (q28_p5 p P) .nil .nil))) (.node (boot_o_6 P) (.node (boot_o_10 P) (.node (q18_p1 p P) .nil .nil) (.node (q26_p4 p P) .nil .nil)) (.node (q14_pre p P) (.node (q22_p4 p P) .nil .nil) (.node (q30_p6 p P) .nil .nil)))))
noncomputable def S_p11 (p : Program) (P : Params) (os : OsState) : SharedT := ⟨T_p11 p P, 32, {}, #[], {}, 1241, os⟩
noncomputable def T_p12 (p : Program) (P : Params) : BT := (.node (boot_o_0 P) (.node (boot_o_1 P) (.node (q3_p12 p P) (.node (boot_o_7 P) (.node (q15_p1 p P) (.node (q31_p6 p P) .nil .nil) .nil) (.node (q23_p4 p P) .nil .nil)) (.node (q11_pre p P) (.node (q19_p1 p P) .nil .nil) (.node (q27_p4 p P) .nil .nil))) (.node (boot_o_5 P) (.node (boot_o_9 P) (.node (q17_p1 p P) (.node (q33_p12 p P) .nil .nil) .nil) (.node (q25_p4 p P) .nil .nil)) (.node (q13_pre p P) (.node (q21_p1 p P) .nil .nil) (.node (q29_p12 p P) .nil .nil)))) (.node (boot_o_2 P) (.node (boot_o_4 P) (.node (boot_o_8 P) (.node (q16_p1 p P) (.node (q32_p12 p P) .nil .nil) .nil) (.node (q24_p4 p P) .nil .nil)) (.node (q12_p1 p P) (.node (q20_p1 p P) .nil .nil) (.node (q28_p5 p P) .nil .nil))) (.node (boot_o_6 P) (.node (boot_o_10 P) (.node (q18_p1 p P) (.node (q34_p12 p P) .nil .nil) .nil) (.node (q26_p4 p P) .nil .nil)) (.node (q14_pre p P) (.node (q22_p4 p P) .nil .nil) (.node (q30_p6 p P) .nil .nil)))))
noncomputable def S_p12 (p : Program) (P : Params) (os : OsState) : SharedT := ⟨T_p12 p P, 35, {}, #[], {}, 1449, os⟩
noncomputable def T_p13 (p : Program) (P : Params) : BT := (.node (boot_o_0 P) (.node (boot_o_1 P) (.node (q3_p12 p P) (.node (boot_o_7 P) (.node (q15_p1 p P) (.node (q31_p6 p P) .nil .nil) .nil) (.node (q23_p4 p P) .nil .nil)) (.node (q11_pre p P) (.node (q19_p1 p P) .nil .nil) (.node (q27_p4 p P) .nil .nil))) (.node (boot_o_5 P) (.node (boot_o_9 P) (.node (q17_p1 p P) (.node (q33_p12 p P) .nil .nil) .nil) (.node (q25_p4 p P) .nil .nil)) (.node (q13_pre p P) (.node (q21_p1 p P) .nil .nil) (.node (q29_p13 p P) .nil .nil)))) (.node (boot_o_2 P) (.node (boot_o_4 P) (.node (boot_o_8 P) (.node (q16_p1 p P) (.node (q32_p12 p P) .nil .nil) .nil) (.node (q24_p4 p P) .nil .nil)) (.node (q12_p1 p P) (.node (q20_p1 p P) .nil .nil) (.node (q28_p5 p P) .nil .nil))) (.node (boot_o_6 P) (.node (boot_o_10 P) (.node (q18_p1 p P) (.node (q34_p12 p P) .nil .nil) .nil) (.node (q26_p4 p P) .nil .nil)) (.node (q14_pre p P) (.node (q22_p4 p P) .nil .nil) (.node (q30_p6 p P) .nil .nil)))))
noncomputable def S_p13 (p : Program) (P : Params) (os : OsState) : SharedT := ⟨T_p13 p P, 35, {}, #[], {}, 1452, os⟩
noncomputable def T_p14 (p : Program) (P : Params) : BT := (.node (boot_o_0 P) (.node (boot_o_1 P) (.node (q3_p14 p P) (.node (boot_o_7 P) (.node (q15_p1 p P) (.node (q31_p14 p P) .nil .nil) .nil) (.node (q23_p4 p P) .nil .nil)) (.node (q11_pre p P) (.node (q19_p1 p P) (.node (q35_p14 p P) .nil .nil) .nil) (.node (q27_p4 p P) .nil .nil))) (.node (boot_o_5 P) (.node (boot_o_9 P) (.node (q17_p1 p P) (.node (q33_p12 p P) .nil .nil) .nil) (.node (q25_p4 p P) .nil .nil)) (.node (q13_pre p P) (.node (q21_p1 p P) (.node (q37_p14 p P) .nil .nil) .nil) (.node (q29_p13 p P) .nil .nil)))) (.node (boot_o_2 P) (.node (boot_o_4 P) (.node (boot_o_8 P) (.node (q16_p1 p P) (.node (q32_p12 p P) .nil .nil) .nil) (.node (q24_p4 p P) .nil .nil)) (.node (q12_p1 p P) (.node (q20_p1 p P) (.node (q36_p14 p P) .nil .nil) .nil) (.node (q28_p5 p P) .nil .nil))) (.node (boot_o_6 P) (.node (boot_o_10 P) (.node (q18_p1 p P) (.node (q34_p12 p P) .nil .nil) .nil) (.node (q26_p4 p P) .nil .nil)) (.node (q14_pre p P) (.node (q22_p4 p P) .nil .nil) (.node (q30_p6 p P) .nil .nil)))))
noncomputable def S_p14 (p : Program) (P : Params) (os : OsState) : SharedT := ⟨T_p14 p P, 38, {}, #[], {}, 1738, os⟩
noncomputable def T_p15 (p : Program) (P : Params) : BT := (.node (boot_o_0 P) (.node (boot_o_1 P) (.node (q3_p15 p P) (.node (boot_o_7 P) (.node (q15_p1 p P) (.node (q31_p14 p P) .nil .nil) .nil) (.node (q23_p4 p P) (.node (q39_p15 p P) .nil .nil) .nil)) (.node (q11_pre p P) (.node (q19_p1 p P) (.node (q35_p14 p P) .nil .nil) .nil) (.node (q27_p4 p P) (.node (q43_p15 p P) .nil .nil) .nil))) (.node (boot_o_5 P) (.node (boot_o_9 P) (.node (q17_p1 p P) (.node (q33_p12 p P) .nil .nil) .nil) (.node (q25_p4 p P) (.node (q41_p15 p P) .nil .nil) .nil)) (.node (q13_pre p P) (.node (q21_p1 p P) (.node (q37_p14 p P) .nil .nil) .nil) (.node (q29_p13 p P) .nil .nil)))) (.node (boot_o_2 P) (.node (boot_o_4 P) (.node (boot_o_8 P) (.node (q16_p1 p P) (.node (q32_p12 p P) .nil .nil) .nil) (.node (q24_p4 p P) (.node (q40_p15 p P) .nil .nil) .nil)) (.node (q12_p15 p P) (.node (q20_p1 p P) (.node (q36_p14 p P) .nil .nil) .nil) (.node (q28_p5 p P) (.node (q44_p15 p P) .nil .nil) .nil))) (.node (boot_o_6 P) (.node (boot_o_10 P) (.node (q18_p1 p P) (.node (q34_p12 p P) .nil .nil) .nil) (.node (q26_p4 p P) (.node (q42_p15 p P) .nil .nil) .nil)) (.node (q14_pre p P) (.node (q22_p4 p P) (.node (q38_p15 p P) .nil .nil) .nil) (.node (q30_p6 p P) .nil .nil)))))
noncomputable def S_p15 (p : Program) (P : Params) (os : OsState) : SharedT := ⟨T_p15 p P, 45, {}, #[], {}, 1745, os⟩
noncomputable def T_p16 (p : Program) (P : Params) : BT := (.node (boot_o_0 P) (.node (boot_o_1 P) (.node (q3_p16 p P) (.node (boot_o_7 P) (.node (q15_p1 p P) (.node (q31_p14 p P) .nil .nil) (.node (q47_p16 p P) .nil .nil)) (.node (q23_p4 p P) (.node (q39_p15 p P) .nil .nil) .nil)) (.node (q11_pre p P) (.node (q19_p1 p P) (.node (q35_p14 p P) .nil .nil) (.node (q51_p16 p P) .nil .nil)) (.node (q27_p4 p P) (.node (q43_p15 p P) .nil .nil) .nil))) (.node (boot_o_5 P) (.node (boot_o_9 P) (.node (q17_p1 p P) (.node (q33_p12 p P) .nil .nil) (.node (q49_p16 p P) .nil .nil)) (.node (q25_p4 p P) (.node (q41_p15 p P) .nil .nil) .nil)) (.node (q13_pre p P) (.node (q21_p1 p P) (.node (q37_p14 p P) .nil .nil) .nil) (.node (q29_p13 p P) (.node (q45_p16 p P) .nil .nil) .nil)))) (.node (boot_o_2 P) (.node (boot_o_4 P) (.node (boot_o_8 P) (.node (q16_p1 p P) (.node (q32_p12 p P) .nil .nil) (.node (q48_p16 p P) .nil .nil)) (.node (q24_p4 p P) (.node (q40_p15 p P) .nil .nil) .nil)) (.node (q12_p16 p P) (.node (q20_p1 p P) (.node (q36_p14 p P) .nil .nil) (.node (q52_p16 p P) .nil .nil)) (.node (q28_p5 p P) (.node (q44_p15 p P) .nil .nil) .nil))) (.node (boot_o_6 P) (.node (boot_o_10 P) (.node (q18_p1 p P) (.node (q34_p12 p P) .nil .nil) (.node (q50_p16 p P) .nil .nil)) (.node (q26_p4 p P) (.node (q42_p15 p P) .nil .nil) .nil)) (.node (q14_pre p P) (.node (q22_p4 p P) (.node (q38_p15 p P) .nil .nil) .nil) (.node (q30_p6 p P) (.node (q46_p16 p P) .nil .nil) .nil)))))
noncomputable def S_p16 (p : Program) (P : Params) (os : OsState) : SharedT := ⟨T_p16 p P, 53, {}, #[], {}, 1755, os⟩
noncomputable def T_p17 (p : Program) (P : Params) : BT := (.node (boot_o_0 P) (.node (boot_o_1 P) (.node (q3_p17 p P) (.node (boot_o_7 P) (.node (q15_p1 p P) (.node (q31_p14 p P) .nil .nil) (.node (q47_p16 p P) .nil .nil)) (.node (q23_p4 p P) (.node (q39_p15 p P) .nil .nil) .nil)) (.node (q11_pre p P) (.node (q19_p1 p P) (.node (q35_p14 p P) .nil .nil) (.node (q51_p16 p P) .nil .nil)) (.node (q27_p4 p P) (.node (q43_p15 p P) .nil .nil) .nil))) (.node (boot_o_5 P) (.node (boot_o_9 P) (.node (q17_p1 p P) (.node (q33_p12 p P) .nil .nil) (.node (q49_p16 p P) .nil .nil)) (.node (q25_p4 p P) (.node (q41_p15 p P) .nil .nil) .nil)) (.node (q13_pre p P) (.node (q21_p1 p P) (.node (q37_p14 p P) .nil .nil) (.node (q53_p17 p P) .nil .nil)) (.node (q29_p13 p P) (.node (q45_p16 p P) .nil .nil) .nil)))) (.node (boot_o_2 P) (.node (boot_o_4 P) (.node (boot_o_8 P) (.node (q16_p1 p P) (.node (q32_p12 p P) .nil .nil) (.node (q48_p16 p P) .nil .nil)) (.node (q24_p4 p P) (.node (q40_p15 p P) .nil .nil) .nil)) (.node (q12_p16 p P) (.node (q20_p1 p P) (.node (q36_p14 p P) .nil .nil) (.node (q52_p16 p P) .nil .nil)) (.node (q28_p5 p P) (.node (q44_p15 p P) .nil .nil) .nil))) (.node (boot_o_6 P) (.node (boot_o_10 P) (.node (q18_p1 p P) (.node (q34_p12 p P) .nil .nil) (.node (q50_p16 p P) .nil .nil)) (.node (q26_p4 p P) (.node (q42_p15 p P) .nil .nil) .nil)) (.node (q14_pre p P) (.node (q22_p4 p P) (.node (q38_p15 p P) .nil .nil) (.node (q54_p17 p P) .nil .nil)) (.node (q30_p6 p P) (.node (q46_p16 p P) .nil .nil) .nil)))))
noncomputable def S_p17 (p : Program) (P : Params) (os : OsState) : SharedT := ⟨T_p17 p P, 55, {}, #[], {}, 1756, os⟩
noncomputable def T_p18 (p : Program) (P : Params) : BT := (.node (boot_o_0 P) (.node (boot_o_1 P) (.node (q3_p18 p P) (.node (boot_o_7 P) (.node (q15_p1 p P) (.node (q31_p14 p P) .nil .nil) (.node (q47_p16 p P) .nil .nil)) (.node (q23_p4 p P) (.node (q39_p15 p P) .nil .nil) (.node (q55_p18 p P) .nil .nil))) (.node (q11_pre p P) (.node (q19_p1 p P) (.node (q35_p14 p P) .nil .nil) (.node (q51_p16 p P) .nil .nil)) (.node (q27_p4 p P) (.node (q43_p15 p P) .nil .nil) .nil))) (.node (boot_o_5 P) (.node (boot_o_9 P) (.node (q17_p1 p P) (.node (q33_p12 p P) .nil .nil) (.node (q49_p16 p P) .nil .nil)) (.node (q25_p4 p P) (.node (q41_p15 p P) .nil .nil) (.node (q57_p18 p P) .nil .nil))) (.node (q13_pre p P) (.node (q21_p1 p P) (.node (q37_p14 p P) .nil .nil) (.node (q53_p17 p P) .nil .nil)) (.node (q29_p13 p P) (.node (q45_p16 p P) .nil .nil) .nil)))) (.node (boot_o_2 P) (.node (boot_o_4 P) (.node (boot_o_8 P) (.node (q16_p1 p P) (.node (q32_p12 p P) .nil .nil) (.node (q48_p16 p P) .nil .nil)) (.node (q24_p4 p P) (.node (q40_p15 p P) .nil .nil) (.node (q56_p18 p P) .nil .nil))) (.node (q12_p16 p P) (.node (q20_p1 p P) (.node (q36_p14 p P) .nil .nil) (.node (q52_p16 p P) .nil .nil)) (.node (q28_p5 p P) (.node (q44_p15 p P) .nil .nil) .nil))) (.node (boot_o_6 P) (.node (boot_o_10 P) (.node (q18_p1 p P) (.node (q34_p12 p P) .nil .nil) (.node (q50_p16 p P) .nil .nil)) (.node (q26_p4 p P) (.node (q42_p15 p P) .nil .nil) .nil)) (.node (q14_pre p P) (.node (q22_p4 p P) (.node (q38_p15 p P) .nil .nil) (.node (q54_p18 p P) .nil .nil)) (.node (q30_p6 p P) (.node (q46_p16 p P) .nil .nil) .nil)))))
noncomputable def S_p18 (p : Program) (P : Params) (os : OsState) : SharedT := ⟨T_p18 p P, 58, {}, #[], {}, 1763, os⟩
noncomputable def T_p19 (p : Program) (P : Params) : BT := (.node (boot_o_0 P) (.node (boot_o_1 P) (.node (q3_p19 p P) (.node (boot_o_7 P) (.node (q15_p1 p P) (.node (q31_p14 p P) .nil .nil) (.node (q47_p16 p P) .nil .nil)) (.node (q23_p4 p P) (.node (q39_p15 p P) .nil .nil) (.node (q55_p18 p P) .nil .nil))) (.node (q11_pre p P) (.node (q19_p1 p P) (.node (q35_p14 p P) .nil .nil) (.node (q51_p16 p P) .nil .nil)) (.node (q27_p4 p P) (.node (q43_p15 p P) .nil .nil) .nil))) (.node (boot_o_5 P) (.node (boot_o_9 P) (.node (q17_p1 p P) (.node (q33_p12 p P) .nil .nil) (.node (q49_p16 p P) .nil .nil)) (.node (q25_p4 p P) (.node (q41_p15 p P) .nil .nil) (.node (q57_p18 p P) .nil .nil))) (.node (q13_pre p P) (.node (q21_p1 p P) (.node (q37_p14 p P) .nil .nil) (.node (q53_p17 p P) .nil .nil)) (.node (q29_p13 p P) (.node (q45_p16 p P) .nil .nil) .nil)))) (.node (boot_o_2 P) (.node (boot_o_4 P) (.node (boot_o_8 P) (.node (q16_p1 p P) (.node (q32_p12 p P) .nil .nil) (.node (q48_p16 p P) .nil .nil)) (.node (q24_p4 p P) (.node (q40_p15 p P) .nil .nil) (.node (q56_p18 p P) .nil .nil))) (.node (q12_p16 p P) (.node (q20_p1 p P) (.node (q36_p14 p P) .nil .nil) (.node (q52_p16 p P) .nil .nil)) (.node (q28_p5 p P) (.node (q44_p15 p P) .nil .nil) .nil))) (.node (boot_o_6 P) (.node (boot_o_10 P) (.node (q18_p1 p P) (.node (q34_p12 p P) .nil .nil) (.node (q50_p16 p P) .nil .nil)) (.node (q26_p4 p P) (.node (q42_p15 p P) .nil .nil) .nil)) (.node (q14_pre p P) (.node (q22_p4 p P) (.node (q38_p15 p P) .nil .nil) (.node (q54_p18 p P) .nil .nil)) (.node (q30_p6 p P) (.node (q46_p16 p P) .nil .nil) .nil)))))
noncomputable def S_p19 (p : Program) (P : Params) (os : OsState) : SharedT := ⟨T_p19 p P, 58, {}, #[], {}, 1763, os⟩
noncomputable def T_p20 (p : Program) (P : Params) : BT := (.node (boot_o_0 P) (.node (boot_o_1 P) (.node (q3_p20 p P) (.node (boot_o_7 P) (.node (q15_p1 p P) (.node (q31_p14 p P) (.node (q63_p20 p P) .nil .nil) .nil) (.node (q47_p16 p P) .nil .nil)) (.node (q23_p4 p P) (.node (q39_p15 p P) .nil .nil) (.node (q55_p18 p P) .nil .nil))) (.node (q11_pre p P) (.node (q19_p1 p P) (.node (q35_p14 p P) .nil .nil) (.node (q51_p16 p P) .nil .nil)) (.node (q27_p4 p P) (.node (q43_p15 p P) .nil .nil) (.node (q59_p20 p P) .nil .nil)))) (.node (boot_o_5 P) (.node (boot_o_9 P) (.node (q17_p1 p P) (.node (q33_p12 p P) (.node (q65_p20 p P) .nil .nil) .nil) (.node (q49_p16 p P) .nil .nil)) (.node (q25_p4 p P) (.node (q41_p15 p P) .nil .nil) (.node (q57_p18 p P) .nil .nil))) (.node (q13_pre p P) (.node (q21_p1 p P) (.node (q37_p14 p P) .nil .nil) (.node (q53_p17 p P) .nil .nil)) (.node (q29_p13 p P) (.node (q45_p16 p P) .nil .nil) (.node (q61_p20 p P) .nil .nil))))) (.node (boot_o_2 P) (.node (boot_o_4 P) (.node (boot_o_8 P) (.node (q16_p1 p P) (.node (q32_p12 p P) (.node (q64_p20 p P) .nil .nil) .nil) (.node (q48_p16 p P) .nil .nil)) (.node (q24_p4 p P) (.node (q40_p15 p P) .nil .nil) (.node (q56_p18 p P) .nil .nil))) (.node (q12_p20 p P) (.node (q20_p1 p P) (.node (q36_p14 p P) .nil .nil) (.node (q52_p16 p P) .nil .nil)) (.node (q28_p5 p P) (.node (q44_p15 p P) .nil .nil) (.node (q60_p20 p P) .nil .nil)))) (.node (boot_o_6 P) (.node (boot_o_10 P) (.node (q18_p1 p P) (.node (q34_p12 p P) .nil .nil) (.node (q50_p16 p P) .nil .nil)) (.node (q26_p4 p P) (.node (q42_p15 p P) .nil .nil) (.node (q58_p20 p P) .nil .nil))) (.node (q14_pre p P) (.node (q22_p4 p P) (.node (q38_p15 p P) .nil .nil) (.node (q54_p18 p P) .nil .nil)) (.node (q30_p6 p P) (.node (q46_p16 p P) .nil .nil) (.node (q62_p20 p P) .nil .nil))))))
noncomputable def S_p20 (p : Program) (P : Params) (os : OsState) : SharedT := ⟨T_p20 p P, 66, {}, #[], {}, 1783, os⟩
noncomputable def T_p21 (p : Program) (P : Params) : BT := (.node (boot_o_0 P) (.node (boot_o_1 P) (.node (q3_p21 p P) (.node (boot_o_7 P) (.node (q15_p1 p P) (.node (q31_p14 p P) (.node (q63_p20 p P) .nil .nil) .nil) (.node (q47_p16 p P) .nil .nil)) (.node (q23_p4 p P) (.node (q39_p15 p P) .nil .nil) (.node (q55_p18 p P) .nil .nil))) (.node (q11_pre p P) (.node (q19_p1 p P) (.node (q35_p14 p P) .nil .nil) (.node (q51_p16 p P) .nil .nil)) (.node (q27_p4 p P) (.node (q43_p15 p P) .nil .nil) (.node (q59_p20 p P) .nil .nil)))) (.node (boot_o_5 P) (.node (boot_o_9 P) (.node (q17_p1 p P) (.node (q33_p12 p P) (.node (q65_p20 p P) .nil .nil) .nil) (.node (q49_p16 p P) .nil .nil)) (.node (q25_p4 p P) (.node (q41_p15 p P) .nil .nil) (.node (q57_p18 p P) .nil .nil))) (.node (q13_pre p P) (.node (q21_p1 p P) (.node (q37_p14 p P) .nil .nil) (.node (q53_p17 p P) .nil .nil)) (.node (q29_p13 p P) (.node (q45_p16 p P) .nil .nil) (.node (q61_p20 p P) .nil .nil))))) (.node (boot_o_2 P) (.node (boot_o_4 P) (.node (boot_o_8 P) (.node (q16_p1 p P) (.node (q32_p12 p P) (.node (q64_p20 p P) .nil .nil) .nil) (.node (q48_p16 p P) .nil .nil)) (.node (q24_p4 p P) (.node (q40_p15 p P) .nil .nil) (.node (q56_p18 p P) .nil .nil))) (.node (q12_p20 p P) (.node (q20_p1 p P) (.node (q36_p14 p P) .nil .nil) (.node (q52_p16 p P) .nil .nil)) (.node (q28_p5 p P) (.node (q44_p15 p P) .nil .nil) (.node (q60_p20 p P) .nil .nil)))) (.node (boot_o_6 P) (.node (boot_o_10 P) (.node (q18_p1 p P) (.node (q34_p12 p P) .nil .nil) (.node (q50_p16 p P) .nil .nil)) (.node (q26_p4 p P) (.node (q42_p15 p P) .nil .nil) (.node (q58_p20 p P) .nil .nil))) (.node (q14_pre p P) (.node (q22_p4 p P) (.node (q38_p15 p P) .nil .nil) (.node (q54_p18 p P) .nil .nil)) (.node (q30_p6 p P) (.node (q46_p16 p P) .nil .nil) (.node (q62_p20 p P) .nil .nil))))))
noncomputable def S_p21 (p : Program) (P : Params) (os : OsState) : SharedT := ⟨T_p21 p P, 66, {}, #[], {}, 1785, os⟩
noncomputable def T_p22 (p : Program) (P : Params) : BT := (.node (boot_o_0 P) (.node (boot_o_1 P) (.node (q3_p22 p P) (.node (boot_o_7 P) (.node (q15_p1 p P) (.node (q31_p14 p P) (.node (q63_p20 p P) .nil .nil) .nil) (.node (q47_p16 p P) .nil .nil)) (.node (q23_p4 p P) (.node (q39_p15 p P) (.node (q71_p22 p P) .nil .nil) .nil) (.node (q55_p18 p P) .nil .nil))) (.node (q11_pre p P) (.node (q19_p1 p P) (.node (q35_p14 p P) (.node (q67_p22 p P) .nil .nil) .nil) (.node (q51_p16 p P) .nil .nil)) (.node (q27_p4 p P) (.node (q43_p15 p P) .nil .nil) (.node (q59_p20 p P) .nil .nil)))) (.node (boot_o_5 P) (.node (boot_o_9 P) (.node (q17_p1 p P) (.node (q33_p12 p P) (.node (q65_p20 p P) .nil .nil) .nil) (.node (q49_p16 p P) .nil .nil)) (.node (q25_p4 p P) (.node (q41_p15 p P) .nil .nil) (.node (q57_p18 p P) .nil .nil))) (.node (q13_pre p P) (.node (q21_p1 p P) (.node (q37_p14 p P) (.node (q69_p22 p P) .nil .nil) .nil) (.node (q53_p17 p P) .nil .nil)) (.node (q29_p13 p P) (.node (q45_p16 p P) .nil .nil) (.node (q61_p20 p P) .nil .nil))))) (.node (boot_o_2 P) (.node (boot_o_4 P) (.node (boot_o_8 P) (.node (q16_p1 p P) (.node (q32_p12 p P) (.node (q64_p20 p P) .nil .nil) .nil) (.node (q48_p16 p P) .nil .nil)) (.node (q24_p4 p P) (.node (q40_p15 p P) (.node (q72_p22 p P) .nil .nil) .nil) (.node (q56_p18 p P) .nil .nil))) (.node (q12_p22 p P) (.node (q20_p1 p P) (.node (q36_p14 p P) (.node (q68_p22 p P) .nil .nil) .nil) (.node (q52_p16 p P) .nil .nil)) (.node (q28_p5 p P) (.node (q44_p15 p P) .nil .nil) (.node (q60_p20 p P) .nil .nil)))) (.node (boot_o_6 P) (.node (boot_o_10 P) (.node (q18_p1 p P) (.node (q34_p12 p P) (.node (q66_p22 p P) .nil .nil) .nil) (.node (q50_p16 p P) .nil .nil)) (.node (q26_p4 p P) (.node (q42_p15 p P) .nil .nil) (.node (q58_p20 p P) .nil .nil))) (.node (q14_pre p P) (.node (q22_p4 p P) (.node (q38_p15 p P) (.node (q70_p22 p P) .nil .nil) .nil) (.node (q54_p18 p P) .nil .nil)) (.node (q30_p6 p P) (.node (q46_p16 p P) .nil .nil) (.node (q62_p20 p P) .nil .nil))))))
noncomputable def S_p22 (p : Program) (P : Params) (os : OsState) : SharedT := ⟨T_p22 p P, 73, {}, #[], {}, 1793, os⟩
noncomputable def T_p23 (p : Program) (P : Params) : BT := (.node (boot_o_0 P) (.node (boot_o_1 P) (.node (q3_p23 p P) (.node (boot_o_7 P) (.node (q15_p1 p P) (.node (q31_p14 p P) (.node (q63_p20 p P) .nil .nil) .nil) (.node (q47_p16 p P) .nil .nil)) (.node (q23_p4 p P) (.node (q39_p15 p P) (.node (q71_p22 p P) .nil .nil) .nil) (.node (q55_p18 p P) .nil .nil))) (.node (q11_pre p P) (.node (q19_p1 p P) (.node (q35_p14 p P) (.node (q67_p22 p P) .nil .nil) .nil) (.node (q51_p16 p P) .nil .nil)) (.node (q27_p4 p P) (.node (q43_p15 p P) (.node (q75_p23 p P) .nil .nil) .nil) (.node (q59_p20 p P) .nil .nil)))) (.node (boot_o_5 P) (.node (boot_o_9 P) (.node (q17_p1 p P) (.node (q33_p12 p P) (.node (q65_p20 p P) .nil .nil) .nil) (.node (q49_p16 p P) .nil .nil)) (.node (q25_p4 p P) (.node (q41_p15 p P) (.node (q73_p23 p P) .nil .nil) .nil) (.node (q57_p18 p P) .nil .nil))) (.node (q13_pre p P) (.node (q21_p1 p P) (.node (q37_p14 p P) (.node (q69_p22 p P) .nil .nil) .nil) (.node (q53_p17 p P) .nil .nil)) (.node (q29_p13 p P) (.node (q45_p16 p P) (.node (q77_p23 p P) .nil .nil) .nil) (.node (q61_p20 p P) .nil .nil))))) (.node (boot_o_2 P) (.node (boot_o_4 P) (.node (boot_o_8 P) (.node (q16_p1 p P) (.node (q32_p12 p P) (.node (q64_p20 p P) .nil .nil) .nil) (.node (q48_p16 p P) .nil .nil)) (.node (q24_p4 p P) (.node (q40_p15 p P) (.node (q72_p22 p P) .nil .nil) .nil) (.node (q56_p18 p P) .nil .nil))) (.node (q12_p23 p P) (.node (q20_p1 p P) (.node (q36_p14 p P) (.node (q68_p22 p P) .nil .nil) .nil) (.node (q52_p16 p P) .nil .nil)) (.node (q28_p5 p P) (.node (q44_p15 p P) (.node (q76_p23 p P) .nil .nil) .nil) (.node (q60_p20 p P) .nil .nil)))) (.node (boot_o_6 P) (.node (boot_o_10 P) (.node (q18_p1 p P) (.node (q34_p12 p P) (.node (q66_p22 p P) .nil .nil) .nil) (.node (q50_p16 p P) .nil .nil)) (.node (q26_p4 p P) (.node (q42_p15 p P) (.node (q74_p23 p P) .nil .nil) .nil) (.node (q58_p20 p P) .nil .nil))) (.node (q14_pre p P) (.node (q22_p4 p P) (.node (q38_p15 p P) (.node (q70_p22 p P) .nil .nil) .nil) (.node (q54_p18 p P) .nil .nil)) (.node (q30_p6 p P) (.node (q46_p16 p P) .nil .nil) (.node (q62_p20 p P) .nil .nil))))))
noncomputable def S_p23 (p : Program) (P : Params) (os : OsState) : SharedT := ⟨T_p23 p P, 78, {}, #[], {}, 1799, os⟩
noncomputable def T_p24 (p : Program) (P : Params) : BT := (.node (boot_o_0 P) (.node (boot_o_1 P) (.node (q3_p24 p P) (.node (boot_o_7 P) (.node (q15_p1 p P) (.node (q31_p14 p P) (.node (q63_p20 p P) .nil .nil) .nil) (.node (q47_p16 p P) (.node (q79_p24 p P) .nil .nil) .nil)) (.node (q23_p4 p P) (.node (q39_p15 p P) (.node (q71_p22 p P) .nil .nil) .nil) (.node (q55_p18 p P) .nil .nil))) (.node (q11_pre p P) (.node (q19_p1 p P) (.node (q35_p14 p P) (.node (q67_p22 p P) .nil .nil) .nil) (.node (q51_p16 p P) (.node (q83_p24 p P) .nil .nil) .nil)) (.node (q27_p4 p P) (.node (q43_p15 p P) (.node (q75_p23 p P) .nil .nil) .nil) (.node (q59_p20 p P) .nil .nil)))) (.node (boot_o_5 P) (.node (boot_o_9 P) (.node (q17_p1 p P) (.node (q33_p12 p P) (.node (q65_p20 p P) .nil .nil) .nil) (.node (q49_p16 p P) (.node (q81_p24 p P) .nil .nil) .nil)) (.node (q25_p4 p P) (.node (q41_p15 p P) (.node (q73_p23 p P) .nil .nil) .nil) (.node (q57_p18 p P) .nil .nil))) (.node (q13_pre p P) (.node (q21_p1 p P) (.node (q37_p14 p P) (.node (q69_p22 p P) .nil .nil) .nil) (.node (q53_p17 p P) .nil .nil)) (.node (q29_p13 p P) (.node (q45_p16 p P) (.node (q77_p23 p P) .nil .nil) .nil) (.node (q61_p20 p P) .nil .nil))))) (.node (boot_o_2 P) (.node (boot_o_4 P) (.node (boot_o_8 P) (.node (q16_p1 p P) (.node (q32_p12 p P) (.node (q64_p20 p P) .nil .nil) .nil) (.node (q48_p16 p P) (.node (q80_p24 p P) .nil .nil) .nil)) (.node (q24_p4 p P) (.node (q40_p15 p P) (.node (q72_p22 p P) .nil .nil) .nil) (.node (q56_p18 p P) .nil .nil))) (.node (q12_p24 p P) (.node (q20_p1 p P) (.node (q36_p14 p P) (.node (q68_p22 p P) .nil .nil) .nil) (.node (q52_p16 p P) (.node (q84_p24 p P) .nil .nil) .nil)) (.node (q28_p5 p P) (.node (q44_p15 p P) (.node (q76_p23 p P) .nil .nil) .nil) (.node (q60_p20 p P) .nil .nil)))) (.node (boot_o_6 P) (.node (boot_o_10 P) (.node (q18_p1 p P) (.node (q34_p12 p P) (.node (q66_p22 p P) .nil .nil) .nil) (.node (q50_p16 p P) (.node (q82_p24 p P) .nil .nil) .nil)) (.node (q26_p4 p P) (.node (q42_p15 p P) (.node (q74_p23 p P) .nil .nil) .nil) (.node (q58_p20 p P) .nil .nil))) (.node (q14_pre p P) (.node (q22_p4 p P) (.node (q38_p15 p P) (.node (q70_p22 p P) .nil .nil) .nil) (.node (q54_p18 p P) .nil .nil)) (.node (q30_p6 p P) (.node (q46_p16 p P) (.node (q78_p24 p P) .nil .nil) .nil) (.node (q62_p20 p P) .nil .nil))))))
noncomputable def S_p24 (p : Program) (P : Params) (os : OsState) : SharedT := ⟨T_p24 p P, 85, {}, #[], {}, 1812, os⟩
noncomputable def T_p25 (p : Program) (P : Params) : BT := (.node (boot_o_0 P) (.node (boot_o_1 P) (.node (q3_p25 p P) (.node (boot_o_7 P) (.node (q15_p1 p P) (.node (q31_p14 p P) (.node (q63_p20 p P) .nil .nil) .nil) (.node (q47_p16 p P) (.node (q79_p24 p P) .nil .nil) .nil)) (.node (q23_p4 p P) (.node (q39_p15 p P) (.node (q71_p22 p P) .nil .nil) .nil) (.node (q55_p18 p P) (.node (q87_p25 p P) .nil .nil) .nil))) (.node (q11_pre p P) (.node (q19_p1 p P) (.node (q35_p14 p P) (.node (q67_p22 p P) .nil .nil) .nil) (.node (q51_p16 p P) (.node (q83_p24 p P) .nil .nil) .nil)) (.node (q27_p4 p P) (.node (q43_p15 p P) (.node (q75_p23 p P) .nil .nil) .nil) (.node (q59_p20 p P) .nil .nil)))) (.node (boot_o_5 P) (.node (boot_o_9 P) (.node (q17_p1 p P) (.node (q33_p12 p P) (.node (q65_p20 p P) .nil .nil) .nil) (.node (q49_p16 p P) (.node (q81_p24 p P) .nil .nil) .nil)) (.node (q25_p4 p P) (.node (q41_p15 p P) (.node (q73_p23 p P) .nil .nil) .nil) (.node (q57_p18 p P) (.node (q89_p25 p P) .nil .nil) .nil))) (.node (q13_pre p P) (.node (q21_p1 p P) (.node (q37_p14 p P) (.node (q69_p22 p P) .nil .nil) .nil) (.node (q53_p17 p P) (.node (q85_p25 p P) .nil .nil) .nil)) (.node (q29_p13 p P) (.node (q45_p16 p P) (.node (q77_p23 p P) .nil .nil) .nil) (.node (q61_p20 p P) .nil .nil))))) (.node (boot_o_2 P) (.node (boot_o_4 P) (.node (boot_o_8 P) (.node (q16_p1 p P) (.node (q32_p12 p P) (.node (q64_p20 p P) .nil .nil) .nil) (.node (q48_p16 p P) (.node (q80_p24 p P) .nil .nil) .nil)) (.node (q24_p4 p P) (.node (q40_p15 p P) (.node (q72_p22 p P) .nil .nil) .nil) (.node (q56_p18 p P) (.node (q88_p25 p P) .nil .nil) .nil))) (.node (q12_p25 p P) (.node (q20_p1 p P) (.node (q36_p14 p P) (.node (q68_p22 p P) .nil .nil) .nil) (.node (q52_p16 p P) (.node (q84_p24 p P) .nil .nil) .nil)) (.node (q28_p5 p P) (.node (q44_p15 p P) (.node (q76_p23 p P) .nil .nil) .nil) (.node (q60_p20 p P) .nil .nil)))) (.node (boot_o_6 P) (.node (boot_o_10 P) (.node (q18_p1 p P) (.node (q34_p12 p P) (.node (q66_p22 p P) .nil .nil) .nil) (.node (q50_p16 p P) (.node (q82_p24 p P) .nil .nil) .nil)) (.node (q26_p4 p P) (.node (q42_p15 p P) (.node (q74_p23 p P) .nil .nil) .nil) (.node (q58_p20 p P) .nil .nil))) (.node (q14_pre p P) (.node (q22_p4 p P) (.node (q38_p15 p P) (.node (q70_p22 p P) .nil .nil) .nil) (.node (q54_p18 p P) (.node (q86_p25 p P) .nil .nil) .nil)) (.node (q30_p6 p P) (.node (q46_p16 p P) (.node (q78_p24 p P) .nil .nil) .nil) (.node (q62_p20 p P) .nil .nil))))))
noncomputable def S_p25 (p : Program) (P : Params) (os : OsState) : SharedT := ⟨T_p25 p P, 90, {}, #[], {}, 1818, os⟩
noncomputable def T_fin (p : Program) (P : Params) : BT := (.node (boot_o_0 P) (.node (boot_o_1 P) (.node (q3_p25 p P) (.node (boot_o_7 P) (.node (q15_p1 p P) (.node (q31_p14 p P) (.node (q63_p20 p P) .nil .nil) .nil) (.node (q47_p16 p P) (.node (q79_p24 p P) .nil .nil) .nil)) (.node (q23_p4 p P) (.node (q39_p15 p P) (.node (q71_p22 p P) .nil .nil) .nil) (.node (q55_p18 p P) (.node (q87_p25 p P) .nil .nil) .nil))) (.node (q11_pre p P) (.node (q19_p1 p P) (.node (q35_p14 p P) (.node (q67_p22 p P) .nil .nil) .nil) (.node (q51_p16 p P) (.node (q83_p24 p P) .nil .nil) .nil)) (.node (q27_p4 p P) (.node (q43_p15 p P) (.node (q75_p23 p P) .nil .nil) .nil) (.node (q59_p20 p P) .nil .nil)))) (.node (boot_o_5 P) (.node (boot_o_9 P) (.node (q17_p1 p P) (.node (q33_p12 p P) (.node (q65_p20 p P) .nil .nil) .nil) (.node (q49_p16 p P) (.node (q81_p24 p P) .nil .nil) .nil)) (.node (q25_p4 p P) (.node (q41_p15 p P) (.node (q73_p23 p P) .nil .nil) .nil) (.node (q57_p18 p P) (.node (q89_p25 p P) .nil .nil) .nil))) (.node (q13_pre p P) (.node (q21_p1 p P) (.node (q37_p14 p P) (.node (q69_p22 p P) .nil .nil) .nil) (.node (q53_p17 p P) (.node (q85_p25 p P) .nil .nil) .nil)) (.node (q29_p13 p P) (.node (q45_p16 p P) (.node (q77_p23 p P) .nil .nil) .nil) (.node (q61_p20 p P) .nil .nil))))) (.node (boot_o_2 P) (.node (boot_o_4 P) (.node (boot_o_8 P) (.node (q16_p1 p P) (.node (q32_p12 p P) (.node (q64_p20 p P) .nil .nil) .nil) (.node (q48_p16 p P) (.node (q80_p24 p P) .nil .nil) .nil)) (.node (q24_p4 p P) (.node (q40_p15 p P) (.node (q72_p22 p P) .nil .nil) .nil) (.node (q56_p18 p P) (.node (q88_p25 p P) .nil .nil) .nil))) (.node (q12_p25 p P) (.node (q20_p1 p P) (.node (q36_p14 p P) (.node (q68_p22 p P) .nil .nil) .nil) (.node (q52_p16 p P) (.node (q84_p24 p P) .nil .nil) .nil)) (.node (q28_p5 p P) (.node (q44_p15 p P) (.node (q76_p23 p P) .nil .nil) .nil) (.node (q60_p20 p P) .nil .nil)))) (.node (boot_o_6 P) (.node (boot_o_10 P) (.node (q18_p1 p P) (.node (q34_p12 p P) (.node (q66_p22 p P) .nil .nil) .nil) (.node (q50_p16 p P) (.node (q82_p24 p P) .nil .nil) .nil)) (.node (q26_p4 p P) (.node (q42_p15 p P) (.node (q74_p23 p P) .nil .nil) .nil) (.node (q58_p20 p P) .nil .nil))) (.node (q14_pre p P) (.node (q22_p4 p P) (.node (q38_p15 p P) (.node (q70_p22 p P) .nil .nil) .nil) (.node (q54_p18 p P) (.node (q86_p25 p P) .nil .nil) .nil)) (.node (q30_p6 p P) (.node (q46_p16 p P) (.node (q78_p24 p P) .nil .nil) .nil) (.node (q62_p20 p P) .nil .nil))))))
noncomputable def S_fin (p : Program) (P : Params) (os : OsState) : SharedT := ⟨T_fin p P, 90, {}, #[], {}, 1818, os⟩
noncomputable def val4 (p : Program) : Expr := match st p 4 with | .Assign _ v _ => v | _ => default
noncomputable def sc4 (p : Program) : Scope := match val4 p with | .ListComp _ _ s _ => s | _ => default
noncomputable def cenv4 (p : Program) : Env := { scope := sc4 p, locals := 25, globals := 3, cells := [], code := .ref 13, frame := some 14 }
noncomputable def c4 (p : Program) : Code := .compLoop (val4 p) 0 (.ref 23) (.ref 24) (cenv4 p)
noncomputable def d25 (P : Params) (i : Nat) : Data := @Nat.rec (fun _ => Data) (.dict #[] 0) (fun n _ => .dict #[⟨PyData.keyHash P (Str.ofString "c"), (.str (Str.ofString "c") 205), (.int (n : Int) (204 + 4 * n))⟩] 1) i
noncomputable def fcode (s : Stmt) (it : Addr) (env : Env) : Code := match s with | .For t _ b e _ => .forLoop t (.ref it) b e env | _ => default
noncomputable def c12 (p : Program) : Code := fcode (st p 12) 32 (env0 p)
noncomputable def c14 (p : Program) : Code := fcode (st p 14) 35 (env0 p)
noncomputable def c18 (p : Program) : Code := fcode (st p 18) 55 (env0 p)
noncomputable def ncV12 (P : Params) (V : Value) : Obj := ⟨(.type "dict"), none, (.dict #[⟨PyData.keyHash P (Str.ofString "__name__"), (.str (Str.ofString "__name__") 165), (.str (Str.ofString "cpy313.email.quoprimime") 1239)⟩, ⟨PyData.keyHash P (Str.ofString "__doc__"), (.str (Str.ofString "__doc__") 166), .none⟩, ⟨PyData.keyHash P (Str.ofString "__package__"), (.str (Str.ofString "__package__") 167), .none⟩, ⟨PyData.keyHash P (Str.ofString "__loader__"), (.str (Str.ofString "__loader__") 168), (.builtin "__main__.__loader__#opaque")⟩, ⟨PyData.keyHash P (Str.ofString "__spec__"), (.str (Str.ofString "__spec__") 169), .none⟩, ⟨PyData.keyHash P (Str.ofString "__annotations__"), (.str (Str.ofString "__annotations__") 170), (.ref 6)⟩, ⟨PyData.keyHash P (Str.ofString "__builtins__"), (.str (Str.ofString "__builtins__") 171), (.ref 4)⟩, ⟨PyData.keyHash P (Str.ofString "__file__"), (.str (Str.ofString "__file__") 173), (.str (Str.ofString "/claim/cut.py") 172)⟩, ⟨PyData.keyHash P (Str.ofString "__cached__"), (.str (Str.ofString "__cached__") 174), .none⟩, ⟨PyData.keyHash P (Str.ofString "_gen_crc"), (.str (Str.ofString "_gen_crc") 196), (.ref 21)⟩, ⟨PyData.keyHash P (Str.ofString "CRLF"), (.str (Str.ofString "CRLF") 198), (.str ⟨#[13, 10]⟩ 197)⟩, ⟨PyData.keyHash P (Str.ofString "NL"), (.str (Str.ofString "NL") 200), (.str ⟨#[10]⟩ 199)⟩, ⟨PyData.keyHash P (Str.ofString "_QUOPRI_MAP"), (.str (Str.ofString "_QUOPRI_MAP") 1228), (.ref 24)⟩, ⟨PyData.keyHash P (Str.ofString "_QUOPRI_HEADER_MAP"), (.str (Str.ofString "_QUOPRI_HEADER_MAP") 1229), (.ref 29)⟩, ⟨PyData.keyHash P (Str.ofString "_QUOPRI_BODY_MAP"), (.str (Str.ofString "_QUOPRI_BODY_MAP") 1230), (.ref 31)⟩, ⟨PyData.keyHash P (Str.ofString "ascii_lowercase"), (.str (Str.ofString "ascii_lowercase") 1232), (.str (Str.ofString "abcdefghijklmnopqrstuvwxyz") 1231)⟩, ⟨PyData.keyHash P (Str.ofString "ascii_uppercase"), (.str (Str.ofString "ascii_uppercase") 1234), (.str (Str.ofString "ABCDEFGHIJKLMNOPQRSTUVWXYZ") 1233)⟩, ⟨PyData.keyHash P (Str.ofString "ascii_letters"), (.str (Str.ofString "ascii_letters") 1236), (.str (Str.ofString "abcdefghijklmnopqrstuvwxyzABCDEFGHIJKLMNOPQRSTUVWXYZ") 1235)⟩, ⟨PyData.keyHash P (Str.ofString "digits"), (.str (Str.ofString "digits") 1238), (.str (Str.ofString "0123456789") 1237)⟩, ⟨PyData.keyHash P (Str.ofString "c"), (.str (Str.ofString "c") 1249), V⟩] 20), #[]⟩
noncomputable def ncV18 (P : Params) (V : Value) : Obj := ⟨(.type "dict"), none, (.dict #[⟨PyData.keyHash P (Str.ofString "__name__"), (.str (Str.ofString "__name__") 165), (.str (Str.ofString "cpy313.email.quoprimime") 1239)⟩, ⟨PyData.keyHash P (Str.ofString "__doc__"), (.str (Str.ofString "__doc__") 166), .none⟩, ⟨PyData.keyHash P (Str.ofString "__package__"), (.str (Str.ofString "__package__") 167), .none⟩, ⟨PyData.keyHash P (Str.ofString "__loader__"), (.str (Str.ofString "__loader__") 168), (.builtin "__main__.__loader__#opaque")⟩, ⟨PyData.keyHash P (Str.ofString "__spec__"), (.str (Str.ofString "__spec__") 169), .none⟩, ⟨PyData.keyHash P (Str.ofString "__annotations__"), (.str (Str.ofString "__annotations__") 170), (.ref 6)⟩, ⟨PyData.keyHash P (Str.ofString "__builtins__"), (.str (Str.ofString "__builtins__") 171), (.ref 4)⟩, ⟨PyData.keyHash P (Str.ofString "__file__"), (.str (Str.ofString "__file__") 173), (.str (Str.ofString "/claim/cut.py") 172)⟩, ⟨PyData.keyHash P (Str.ofString "__cached__"), (.str (Str.ofString "__cached__") 174), .none⟩, ⟨PyData.keyHash P (Str.ofString "_gen_crc"), (.str (Str.ofString "_gen_crc") 196), (.ref 21)⟩, ⟨PyData.keyHash P (Str.ofString "CRLF"), (.str (Str.ofString "CRLF") 198), (.str ⟨#[13, 10]⟩ 197)⟩, ⟨PyData.keyHash P (Str.ofString "NL"), (.str (Str.ofString "NL") 200), (.str ⟨#[10]⟩ 199)⟩, ⟨PyData.keyHash P (Str.ofString "_QUOPRI_MAP"), (.str (Str.ofString "_QUOPRI_MAP") 1228), (.ref 24)⟩, ⟨PyData.keyHash P (Str.ofString "_QUOPRI_HEADER_MAP"), (.str (Str.ofString "_QUOPRI_HEADER_MAP") 1229), (.ref 29)⟩, ⟨PyData.keyHash P (Str.ofString "_QUOPRI_BODY_MAP"), (.str (Str.ofString "_QUOPRI_BODY_MAP") 1230), (.ref 31)⟩, ⟨PyData.keyHash P (Str.ofString "ascii_lowercase"), (.str (Str.ofString "ascii_lowercase") 1232), (.str (Str.ofString "abcdefghijklmnopqrstuvwxyz") 1231)⟩, ⟨PyData.keyHash P (Str.ofString "ascii_uppercase"), (.str (Str.ofString "ascii_uppercase") 1234), (.str (Str.ofString "ABCDEFGHIJKLMNOPQRSTUVWXYZ") 1233)⟩, ⟨PyData.keyHash P (Str.ofString "ascii_letters"), (.str (Str.ofString "ascii_letters") 1236), (.str (Str.ofString "abcdefghijklmnopqrstuvwxyzABCDEFGHIJKLMNOPQRSTUVWXYZ") 1235)⟩, ⟨PyData.keyHash P (Str.ofString "digits"), (.str (Str.ofString "digits") 1238), (.str (Str.ofString "0123456789") 1237)⟩, ⟨PyData.keyHash P (Str.ofString "c"), (.str (Str.ofString "c") 1249), V⟩, ⟨PyData.keyHash P (Str.ofString "quote"), (.str (Str.ofString "quote") 1744), (.ref 44)⟩, ⟨PyData.keyHash P (Str.ofString "header_encode"), (.str (Str.ofString "header_encode") 1754), (.ref 52)⟩, ⟨PyData.keyHash P (Str.ofString "_QUOPRI_BODY_ENCODE_MAP"), (.str (Str.ofString "_QUOPRI_BODY_ENCODE_MAP") 1755), (.ref 54)⟩] 23), #[]⟩
noncomputable def nc12 (p : Program) (P : Params) (i : Nat) : Obj := @Nat.rec (fun _ => Obj) (q3_p11 p P) (fun n _ => ncV12 P (.int ((bsH.getD n 0 : Nat) : Int) (1248 + 3 * n))) i
noncomputable def nc14 (p : Program) (P : Params) (i : Nat) : Obj := @Nat.rec (fun _ => Obj) (q3_p12 p P) (fun n _ => ncV12 P (.int ((bsB.getD n 0 : Nat) : Int) (1453 + 3 * n))) i
noncomputable def nc18 (p : Program) (P : Params) (i : Nat) : Obj := @Nat.rec (fun _ => Obj) (q3_p17 p P) (fun n _ => ncV18 P (.int ((bsE.getD n 0 : Nat) : Int) (1757 + 3 * n))) i
noncomputable def u8s (l : List Nat) : Array UInt8 := ⟨l.map UInt8.ofNat⟩
noncomputable def bit (b : Array UInt8) (t i : Nat) : Obj := ⟨(.type "bytes_iterator"), none, (.fields #[.bytes b t, (.int (i : Int) 0)]), #[]⟩
noncomputable def T_L4 (p : Program) (P : Params) (i : Nat) : BT := (.node (boot_o_0 P) (.node (boot_o_1 P) (.node (q3_p3 p P) (.node (boot_o_7 P) (.node (q15_p1 p P) .nil .nil) (.node (⟨(.type "range_iterator"), none, (.fields #[(.int (i : Int) 0), (.int ((256 - i : Nat) : Int) 0), (.int (1) 0)]), #[]⟩) .nil .nil)) (.node (q11_pre p P) (.node (q19_p1 p P) .nil .nil) .nil)) (.node (boot_o_5 P) (.node (boot_o_9 P) (.node (q17_p1 p P) .nil .nil) (.node (⟨(.type "dict"), none, d25 P i, #[]⟩) .nil .nil)) (.node (q13_pre p P) (.node (q21_p1 p P) .nil .nil) .nil))) (.node (boot_o_2 P) (.node (boot_o_4 P) (.node (boot_o_8 P) (.node (q16_p1 p P) .nil .nil) (.node (⟨(.type "list"), none, (.seq (LQ i) i), #[]⟩) .nil .nil)) (.node (q12_p1 p P) (.node (q20_p1 p P) .nil .nil) .nil)) (.node (boot_o_6 P) (.node (boot_o_10 P) (.node (q18_p1 p P) .nil .nil) .nil) (.node (q14_pre p P) (.node (⟨(.type "range"), none, (.fields #[(.int (0) 202), (.int (256) 201), (.int (1) 203)]), #[]⟩) .nil .nil) .nil))))
noncomputable def S_L4 (p : Program) (P : Params) (os : OsState) (i : Nat) : SharedT := ⟨T_L4 p P i, 26, {}, #[], {}, 204 + 4 * i, os⟩
noncomputable def K4 (p : Program) (n : Nat) (w : World) (os : OsState) : Result → Sem Fin := match segGoT treeTable p w 11 ann0 1 n (S_p3 p w.params os) (pieceOf (st p 4) (env0 p) (cE p) ⟨10, 0, 10, 2⟩ B0) with | some (_, ⟨_, _, _, .ret k _ _ _ _ _ _ :: _⟩) => k | _ => fun _ => .unsupported ""
noncomputable def F4 (p : Program) (k : Result → Sem Fin) (q : Pos) : Thread := ⟨denote treeTable (c4 p), c4 p, q, .ret k none true [.ref 25, .ref 24] (cE p) ⟨11, 36, 11, 46⟩ [] :: B0⟩
noncomputable def T_L12 (p : Program) (P : Params) (i : Nat) : BT := (.node (boot_o_0 P) (.node (boot_o_1 P) (.node (nc12 p P i) (.node (boot_o_7 P) (.node (q15_p1 p P) (.node (q31_p6 p P) .nil .nil) .nil) (.node (q23_p4 p P) .nil .nil)) (.node (q11_pre p P) (.node (q19_p1 p P) .nil .nil) (.node (q27_p4 p P) .nil .nil))) (.node (boot_o_5 P) (.node (boot_o_9 P) (.node (q17_p1 p P) .nil .nil) (.node (q25_p4 p P) .nil .nil)) (.node (q13_pre p P) (.node (q21_p1 p P) .nil .nil) (.node (⟨(.type "list"), none, (.seq (LS QF bsH 1248 i) 0), #[]⟩) .nil .nil)))) (.node (boot_o_2 P) (.node (boot_o_4 P) (.node (boot_o_8 P) (.node (q16_p1 p P) (.node (bit #[45, 33, 42, 43, 47, 97, 98, 99, 100, 101, 102, 103, 104, 105, 106, 107, 108, 109, 110, 111, 112, 113, 114, 115, 116, 117, 118, 119, 120, 121, 122, 65, 66, 67, 68, 69, 70, 71, 72, 73, 74, 75, 76, 77, 78, 79, 80, 81, 82, 83, 84, 85, 86, 87, 88, 89, 90, 48, 49, 50, 51, 52, 53, 54, 55, 56, 57] 1247 i) .nil .nil) .nil) (.node (q24_p4 p P) .nil .nil)) (.node (q12_p1 p P) (.node (q20_p1 p P) .nil .nil) (.node (q28_p5 p P) .nil .nil))) (.node (boot_o_6 P) (.node (boot_o_10 P) (.node (q18_p1 p P) .nil .nil) (.node (q26_p4 p P) .nil .nil)) (.node (q14_pre p P) (.node (q22_p4 p P) .nil .nil) (.node (q30_p6 p P) .nil .nil)))))
noncomputable def S_L12 (p : Program) (P : Params) (os : OsState) (i : Nat) : SharedT := ⟨T_L12 p P i, 33, {}, #[], {}, 1248 + 3 * i, os⟩
noncomputable def K12 (p : Program) (n : Nat) (w : World) (os : OsState) : Result → Sem Fin := match segGoT treeTable p w 11 ann0 1 n (S_p11 p w.params os) (pieceOf (st p 12) (env0 p) (cE p) ⟨18, 0, 18, 8⟩ B0) with | some (_, ⟨_, _, _, .ret k _ _ _ _ _ _ :: _⟩) => k | _ => fun _ => .unsupported ""
noncomputable def F12 (p : Program) (k : Result → Sem Fin) (q : Pos) : Thread := ⟨denote treeTable (c12 p), c12 p, q, .ret k none false [] (cE p) ⟨19, 9, 19, 74⟩ [] :: B0⟩
noncomputable def T_L14 (p : Program) (P : Params) (i : Nat) : BT := (.node (boot_o_0 P) (.node (boot_o_1 P) (.node (nc14 p P i) (.node (boot_o_7 P) (.node (q15_p1 p P) (.node (⟨(.type "list"), none, (.seq (LS QF bsB 1453 i) 0), #[]⟩) .nil .nil) .nil) (.node (q23_p4 p P) .nil .nil)) (.node (q11_pre p P) (.node (q19_p1 p P) (.node (bit #[32, 33, 34, 35, 36, 37, 38, 39, 40, 41, 42, 43, 44, 45, 46, 47, 48, 49, 50, 51, 52, 53, 54, 55, 56, 57, 58, 59, 60, 62, 63, 64, 65, 66, 67, 68, 69, 70, 71, 72, 73, 74, 75, 76, 77, 78, 79, 80, 81, 82, 83, 84, 85, 86, 87, 88, 89, 90, 91, 92, 93, 94, 95, 96, 97, 98, 99, 100, 101, 102, 103, 104, 105, 106, 107, 108, 109, 110, 111, 112, 113, 114, 115, 116, 117, 118, 119, 120, 121, 122, 123, 124, 125, 126, 9] 1452 i) .nil .nil) .nil) (.node (q27_p4 p P) .nil .nil))) (.node (boot_o_5 P) (.node (boot_o_9 P) (.node (q17_p1 p P) (.node (q33_p12 p P) .nil .nil) .nil) (.node (q25_p4 p P) .nil .nil)) (.node (q13_pre p P) (.node (q21_p1 p P) .nil .nil) (.node (q29_p13 p P) .nil .nil)))) (.node (boot_o_2 P) (.node (boot_o_4 P) (.node (boot_o_8 P) (.node (q16_p1 p P) (.node (q32_p12 p P) .nil .nil) .nil) (.node (q24_p4 p P) .nil .nil)) (.node (q12_p1 p P) (.node (q20_p1 p P) .nil .nil) (.node (q28_p5 p P) .nil .nil))) (.node (boot_o_6 P) (.node (boot_o_10 P) (.node (q18_p1 p P) (.node (q34_p12 p P) .nil .nil) .nil) (.node (q26_p4 p P) .nil .nil)) (.node (q14_pre p P) (.node (q22_p4 p P) .nil .nil) (.node (q30_p6 p P) .nil .nil)))))
noncomputable def S_L14 (p : Program) (P : Params) (os : OsState) (i : Nat) : SharedT := ⟨T_L14 p P i, 36, {}, #[], {}, 1453 + 3 * i, os⟩
noncomputable def K14 (p : Program) (n : Nat) (w : World) (os : OsState) : Result → Sem Fin := match segGoT treeTable p w 11 ann0 1 n (S_p13 p w.params os) (pieceOf (st p 14) (env0 p) (cE p) ⟨21, 0, 21, 28⟩ B0) with | some (_, ⟨_, _, _, .ret k _ _ _ _ _ _ :: _⟩) => k | _ => fun _ => .unsupported ""
noncomputable def F14 (p : Program) (k : Result → Sem Fin) (q : Pos) : Thread := ⟨denote treeTable (c14 p), c14 p, q, .ret k none false [] (cE p) ⟨22, 9, 22, 110⟩ [] :: B0⟩
noncomputable def T_L18 (p : Program) (P : Params) (i : Nat) : BT := (.node (boot_o_0 P) (.node (boot_o_1 P) (.node (nc18 p P i) (.node (boot_o_7 P) (.node (q15_p1 p P) (.node (q31_p14 p P) .nil .nil) (.node (q47_p16 p P) .nil .nil)) (.node (q23_p4 p P) (.node (q39_p15 p P) .nil .nil) (.node (bit #[13, 10] 1756 i) .nil .nil))) (.node (q11_pre p P) (.node (q19_p1 p P) (.node (q35_p14 p P) .nil .nil) (.node (q51_p16 p P) .nil .nil)) (.node (q27_p4 p P) (.node (q43_p15 p P) .nil .nil) .nil))) (.node (boot_o_5 P) (.node (boot_o_9 P) (.node (q17_p1 p P) (.node (q33_p12 p P) .nil .nil) (.node (q49_p16 p P) .nil .nil)) (.node (q25_p4 p P) (.node (q41_p15 p P) .nil .nil) .nil)) (.node (q13_pre p P) (.node (q21_p1 p P) (.node (q37_p14 p P) .nil .nil) (.node (q53_p17 p P) .nil .nil)) (.node (q29_p13 p P) (.node (q45_p16 p P) .nil .nil) .nil)))) (.node (boot_o_2 P) (.node (boot_o_4 P) (.node (boot_o_8 P) (.node (q16_p1 p P) (.node (q32_p12 p P) .nil .nil) (.node (q48_p16 p P) .nil .nil)) (.node (q24_p4 p P) (.node (q40_p15 p P) .nil .nil) .nil)) (.node (q12_p16 p P) (.node (q20_p1 p P) (.node (q36_p14 p P) .nil .nil) (.node (q52_p16 p P) .nil .nil)) (.node (q28_p5 p P) (.node (q44_p15 p P) .nil .nil) .nil))) (.node (boot_o_6 P) (.node (boot_o_10 P) (.node (q18_p1 p P) (.node (q34_p12 p P) .nil .nil) (.node (q50_p16 p P) .nil .nil)) (.node (q26_p4 p P) (.node (q42_p15 p P) .nil .nil) .nil)) (.node (q14_pre p P) (.node (q22_p4 p P) (.node (q38_p15 p P) .nil .nil) (.node (⟨(.type "list"), none, (.seq (LE i) 0), #[]⟩) .nil .nil)) (.node (q30_p6 p P) (.node (q46_p16 p P) .nil .nil) .nil)))))
noncomputable def S_L18 (p : Program) (P : Params) (os : OsState) (i : Nat) : SharedT := ⟨T_L18 p P i, 56, {}, #[], {}, 1757 + 3 * i, os⟩
noncomputable def K18 (p : Program) (n : Nat) (w : World) (os : OsState) : Result → Sem Fin := match segGoT treeTable p w 11 ann0 1 n (S_p17 p w.params os) (pieceOf (st p 18) (env0 p) (cE p) ⟨31, 0, 31, 23⟩ B0) with | some (_, ⟨_, _, _, .ret k _ _ _ _ _ _ :: _⟩) => k | _ => fun _ => .unsupported ""
noncomputable def F18 (p : Program) (k : Result → Sem Fin) (q : Pos) : Thread := ⟨denote treeTable (c18 p), c18 p, q, .ret k none false [] (cE p) ⟨32, 9, 32, 16⟩ [] :: B0⟩
theorem tw0 : (fun (_ : _) => true) (Hpre, S_block, S_p0, S_p1, S_p2, S_p3, S_p4, S_p5, S_p6, S_p7, S_p8, S_p9, S_p10, S_p11, S_p12, S_p13, S_p14, S_p15, S_p16, S_p17, S_p18, S_p19, S_p20, S_p21, S_p22, S_p23, S_p24, S_p25, S_fin, S_L4, S_L12, S_L14, S_L18, K4, K12, K14, K18, F4, F12, F14, F18, st, env0, cE, PySem.Challenge.pw_tx0020_01, treeTable) = true := by k_qdec
theorem h_pre (w : World) (os : OsState) : topGo treeTable PySem.Challenge.pw_tx0020_01 w 11 ann0 12 ⟨boot_heap w.params, Array.mk [], boot_drawn, boot_toks, os⟩ (topStub PySem.Challenge.pw_tx0020_01) = some (⟨Hpre PySem.Challenge.pw_tx0020_01 w.params, Array.mk [], {}, 187, os⟩, ⟨denote treeTable (cE PySem.Challenge.pw_tx0020_01), cE PySem.Challenge.pw_tx0020_01, ⟨0, 0, 0, 0⟩, B0⟩) := by
  rewrite [PySem.W.Fast.te15667345088766844465, PySem.W.Fast.te14364793385576792824, PySem.W.Fast.te16771354143952684269, PySem.W.Fast.te9759451361631282352, PySem.W.Fast.te11892475500146522536]
  kernel_rfl
theorem h_block (w : World) (os : OsState) : segRun treeTable PySem.Challenge.pw_tx0020_01 w 11 ann0 1 1 ⟨Hpre PySem.Challenge.pw_tx0020_01 w.params, Array.mk [], {}, 187, os⟩ (blockOf (behindTheImports PySem.Challenge.pw_tx0020_01) (env0 PySem.Challenge.pw_tx0020_01) (cE PySem.Challenge.pw_tx0020_01) ⟨0, 0, 0, 0⟩ B0) = some (.next, (S_block PySem.Challenge.pw_tx0020_01 w.params os).abs, cE PySem.Challenge.pw_tx0020_01, ⟨0, 0, 0, 0⟩) := by
  rewrite [PySem.W.Fast.te14374325043358763698, PySem.W.Fast.te14364793385576792824, PySem.W.Fast.te16771354143952684269, PySem.W.Fast.te9759451361631282352, PySem.W.Fast.te11256826435315386203]
  kernel_rfl
theorem h_p0 (w : World) (os : OsState) : segRunT treeTable PySem.Challenge.pw_tx0020_01 w 11 ann0 1 10 (S_block PySem.Challenge.pw_tx0020_01 w.params os) (pieceOf (st PySem.Challenge.pw_tx0020_01 0) (env0 PySem.Challenge.pw_tx0020_01) (cE PySem.Challenge.pw_tx0020_01) ⟨0, 0, 0, 0⟩ B0) = some (.next, S_p0 PySem.Challenge.pw_tx0020_01 w.params os, cE PySem.Challenge.pw_tx0020_01, ⟨1, 0, 1, 8⟩) := by
  rewrite [PySem.W.Fast.te10110043849684766642, PySem.W.Fast.te14364793385576792824, PySem.W.Fast.te16771354143952684269, PySem.W.Fast.te11256826435315386203, PySem.W.Fast.te10745936412428391918, PySem.W.Fast.te2346130389989818114]
  kernel_rfl
theorem h_p1 (w : World) (os : OsState) : segRunT treeTable PySem.Challenge.pw_tx0020_01 w 11 ann0 1 31 (S_p0 PySem.Challenge.pw_tx0020_01 w.params os) (pieceOf (st PySem.Challenge.pw_tx0020_01 1) (env0 PySem.Challenge.pw_tx0020_01) (cE PySem.Challenge.pw_tx0020_01) ⟨1, 0, 1, 8⟩ B0) = some (.next, S_p1 PySem.Challenge.pw_tx0020_01 w.params os, cE PySem.Challenge.pw_tx0020_01, ⟨2, 0, 8, 14⟩) := by
  rewrite [PySem.W.Fast.te10110043849684766642, PySem.W.Fast.te14364793385576792824, PySem.W.Fast.te16771354143952684269, PySem.W.Fast.te2346130389989818114, PySem.W.Fast.te10745936412428391918, PySem.W.Fast.te11839243158466899233]
  kernel_rfl
theorem h_p2 (w : World) (os : OsState) : segRunT treeTable PySem.Challenge.pw_tx0020_01 w 11 ann0 1 10 (S_p1 PySem.Challenge.pw_tx0020_01 w.params os) (pieceOf (st PySem.Challenge.pw_tx0020_01 2) (env0 PySem.Challenge.pw_tx0020_01) (cE PySem.Challenge.pw_tx0020_01) ⟨2, 0, 8, 14⟩ B0) = some (.next, S_p2 PySem.Challenge.pw_tx0020_01 w.params os, cE PySem.Challenge.pw_tx0020_01, ⟨9, 0, 9, 4⟩) := by
  rewrite [PySem.W.Fast.te10110043849684766642, PySem.W.Fast.te14364793385576792824, PySem.W.Fast.te16771354143952684269, PySem.W.Fast.te11839243158466899233, PySem.W.Fast.te10745936412428391918, PySem.W.Fast.te7510249883626558013]
  kernel_rfl
theorem h_p3 (w : World) (os : OsState) : segRunT treeTable PySem.Challenge.pw_tx0020_01 w 11 ann0 1 10 (S_p2 PySem.Challenge.pw_tx0020_01 w.params os) (pieceOf (st PySem.Challenge.pw_tx0020_01 3) (env0 PySem.Challenge.pw_tx0020_01) (cE PySem.Challenge.pw_tx0020_01) ⟨9, 0, 9, 4⟩ B0) = some (.next, S_p3 PySem.Challenge.pw_tx0020_01 w.params os, cE PySem.Challenge.pw_tx0020_01, ⟨10, 0, 10, 2⟩) := by
  rewrite [PySem.W.Fast.te10110043849684766642, PySem.W.Fast.te14364793385576792824, PySem.W.Fast.te16771354143952684269, PySem.W.Fast.te7510249883626558013, PySem.W.Fast.te10745936412428391918, PySem.W.Fast.te9512127743695130621]
  kernel_rfl
theorem a4_0 (w : World) (os : OsState) : segGoT treeTable PySem.Challenge.pw_tx0020_01 ((w.withFollow "comprehension-iter-twice" false).withFollow "special-get-raises" false) 11 ann0 1 52 (S_p3 PySem.Challenge.pw_tx0020_01 ((w.withFollow "comprehension-iter-twice" false).withFollow "special-get-raises" false).params os) (pieceOf (st PySem.Challenge.pw_tx0020_01 4) (env0 PySem.Challenge.pw_tx0020_01) (cE PySem.Challenge.pw_tx0020_01) ⟨10, 0, 10, 2⟩ B0) = some (S_L4 PySem.Challenge.pw_tx0020_01 ((w.withFollow "comprehension-iter-twice" false).withFollow "special-get-raises" false).params os 0, F4 PySem.Challenge.pw_tx0020_01 (K4 PySem.Challenge.pw_tx0020_01 52 ((w.withFollow "comprehension-iter-twice" false).withFollow "special-get-raises" false) os) ⟨11, 36, 11, 46⟩) := by
  rewrite [PySem.W.Fast.te10295753902157049106, PySem.W.Fast.te14364793385576792824, PySem.W.Fast.te16771354143952684269, PySem.W.Fast.te9512127743695130621, PySem.W.Fast.te10745936412428391918, PySem.W.Fast.te4028928465649572941, PySem.W.Fast.te1691916074117683517, PySem.W.Fast.te15018103505642860408]
  kernel_rfl
theorem e4_0 (w : World) (os : OsState) : segRunT treeTable PySem.Challenge.pw_tx0020_01 ((w.withFollow "comprehension-iter-twice" false).withFollow "special-get-raises" false) 11 ann0 1 28 (S_L4 PySem.Challenge.pw_tx0020_01 ((w.withFollow "comprehension-iter-twice" false).withFollow "special-get-raises" false).params os 256) (F4 PySem.Challenge.pw_tx0020_01 (K4 PySem.Challenge.pw_tx0020_01 52 ((w.withFollow "comprehension-iter-twice" false).withFollow "special-get-raises" false) os) ⟨11, 15, 11, 26⟩) = some (.next, S_p4 PySem.Challenge.pw_tx0020_01 ((w.withFollow "comprehension-iter-twice" false).withFollow "special-get-raises" false).params os, cE PySem.Challenge.pw_tx0020_01, ⟨11, 0, 11, 11⟩) := by
  rewrite [PySem.W.Fast.te10110043849684766642, PySem.W.Fast.te14364793385576792824, PySem.W.Fast.te16771354143952684269, PySem.W.Fast.te4028928465649572941, PySem.W.Fast.te1691916074117683517, PySem.W.Fast.te15018103505642860408, PySem.W.Fast.te6832592851520732298]
  kernel_rfl
theorem a4_1 (w : World) (os : OsState) : segGoT treeTable PySem.Challenge.pw_tx0020_01 ((w.withFollow "comprehension-iter-twice" false).withFollow "special-get-raises" true) 11 ann0 1 52 (S_p3 PySem.Challenge.pw_tx0020_01 ((w.withFollow "comprehension-iter-twice" false).withFollow "special-get-raises" true).params os) (pieceOf (st PySem.Challenge.pw_tx0020_01 4) (env0 PySem.Challenge.pw_tx0020_01) (cE PySem.Challenge.pw_tx0020_01) ⟨10, 0, 10, 2⟩ B0) = some (S_L4 PySem.Challenge.pw_tx0020_01 ((w.withFollow "comprehension-iter-twice" false).withFollow "special-get-raises" true).params os 0, F4 PySem.Challenge.pw_tx0020_01 (K4 PySem.Challenge.pw_tx0020_01 52 ((w.withFollow "comprehension-iter-twice" false).withFollow "special-get-raises" true) os) ⟨11, 36, 11, 46⟩) := by
  rewrite [PySem.W.Fast.te10295753902157049106, PySem.W.Fast.te14364793385576792824, PySem.W.Fast.te16771354143952684269, PySem.W.Fast.te9512127743695130621, PySem.W.Fast.te10745936412428391918, PySem.W.Fast.te4028928465649572941, PySem.W.Fast.te1691916074117683517, PySem.W.Fast.te15018103505642860408]
  kernel_rfl
theorem e4_1 (w : World) (os : OsState) : segRunT treeTable PySem.Challenge.pw_tx0020_01 ((w.withFollow "comprehension-iter-twice" false).withFollow "special-get-raises" true) 11 ann0 1 28 (S_L4 PySem.Challenge.pw_tx0020_01 ((w.withFollow "comprehension-iter-twice" false).withFollow "special-get-raises" true).params os 256) (F4 PySem.Challenge.pw_tx0020_01 (K4 PySem.Challenge.pw_tx0020_01 52 ((w.withFollow "comprehension-iter-twice" false).withFollow "special-get-raises" true) os) ⟨11, 15, 11, 26⟩) = some (.next, S_p4 PySem.Challenge.pw_tx0020_01 ((w.withFollow "comprehension-iter-twice" false).withFollow "special-get-raises" true).params os, cE PySem.Challenge.pw_tx0020_01, ⟨11, 0, 11, 11⟩) := by
  rewrite [PySem.W.Fast.te10110043849684766642, PySem.W.Fast.te14364793385576792824, PySem.W.Fast.te16771354143952684269, PySem.W.Fast.te4028928465649572941, PySem.W.Fast.te1691916074117683517, PySem.W.Fast.te15018103505642860408, PySem.W.Fast.te6832592851520732298]
  kernel_rfl
theorem a4_2 (w : World) (os : OsState) : segGoT treeTable PySem.Challenge.pw_tx0020_01 ((w.withFollow "comprehension-iter-twice" true).withFollow "special-get-raises" false) 11 ann0 1 42 (S_p3 PySem.Challenge.pw_tx0020_01 ((w.withFollow "comprehension-iter-twice" true).withFollow "special-get-raises" false).params os) (pieceOf (st PySem.Challenge.pw_tx0020_01 4) (env0 PySem.Challenge.pw_tx0020_01) (cE PySem.Challenge.pw_tx0020_01) ⟨10, 0, 10, 2⟩ B0) = some (S_L4 PySem.Challenge.pw_tx0020_01 ((w.withFollow "comprehension-iter-twice" true).withFollow "special-get-raises" false).params os 0, F4 PySem.Challenge.pw_tx0020_01 (K4 PySem.Challenge.pw_tx0020_01 42 ((w.withFollow "comprehension-iter-twice" true).withFollow "special-get-raises" false) os) ⟨11, 36, 11, 46⟩) := by
  rewrite [PySem.W.Fast.te10295753902157049106, PySem.W.Fast.te14364793385576792824, PySem.W.Fast.te16771354143952684269, PySem.W.Fast.te9512127743695130621, PySem.W.Fast.te10745936412428391918, PySem.W.Fast.te4028928465649572941, PySem.W.Fast.te1691916074117683517, PySem.W.Fast.te15018103505642860408]
  kernel_rfl
theorem e4_2 (w : World) (os : OsState) : segRunT treeTable PySem.Challenge.pw_tx0020_01 ((w.withFollow "comprehension-iter-twice" true).withFollow "special-get-raises" false) 11 ann0 1 28 (S_L4 PySem.Challenge.pw_tx0020_01 ((w.withFollow "comprehension-iter-twice" true).withFollow "special-get-raises" false).params os 256) (F4 PySem.Challenge.pw_tx0020_01 (K4 PySem.Challenge.pw_tx0020_01 42 ((w.withFollow "comprehension-iter-twice" true).withFollow "special-get-raises" false) os) ⟨11, 15, 11, 26⟩) = some (.next, S_p4 PySem.Challenge.pw_tx0020_01 ((w.withFollow "comprehension-iter-twice" true).withFollow "special-get-raises" false).params os, cE PySem.Challenge.pw_tx0020_01, ⟨11, 0, 11, 11⟩) := by
  rewrite [PySem.W.Fast.te10110043849684766642, PySem.W.Fast.te14364793385576792824, PySem.W.Fast.te16771354143952684269, PySem.W.Fast.te4028928465649572941, PySem.W.Fast.te1691916074117683517, PySem.W.Fast.te15018103505642860408, PySem.W.Fast.te6832592851520732298]
  kernel_rfl
theorem a4_3 (w : World) (os : OsState) : segGoT treeTable PySem.Challenge.pw_tx0020_01 ((w.withFollow "comprehension-iter-twice" true).withFollow "special-get-raises" true) 11 ann0 1 42 (S_p3 PySem.Challenge.pw_tx0020_01 ((w.withFollow "comprehension-iter-twice" true).withFollow "special-get-raises" true).params os) (pieceOf (st PySem.Challenge.pw_tx0020_01 4) (env0 PySem.Challenge.pw_tx0020_01) (cE PySem.Challenge.pw_tx0020_01) ⟨10, 0, 10, 2⟩ B0) = some (S_L4 PySem.Challenge.pw_tx0020_01 ((w.withFollow "comprehension-iter-twice" true).withFollow "special-get-raises" true).params os 0, F4 PySem.Challenge.pw_tx0020_01 (K4 PySem.Challenge.pw_tx0020_01 42 ((w.withFollow "comprehension-iter-twice" true).withFollow "special-get-raises" true) os) ⟨11, 36, 11, 46⟩) := by
  rewrite [PySem.W.Fast.te10295753902157049106, PySem.W.Fast.te14364793385576792824, PySem.W.Fast.te16771354143952684269, PySem.W.Fast.te9512127743695130621, PySem.W.Fast.te10745936412428391918, PySem.W.Fast.te4028928465649572941, PySem.W.Fast.te1691916074117683517, PySem.W.Fast.te15018103505642860408]
  kernel_rfl
theorem e4_3 (w : World) (os : OsState) : segRunT treeTable PySem.Challenge.pw_tx0020_01 ((w.withFollow "comprehension-iter-twice" true).withFollow "special-get-raises" true) 11 ann0 1 28 (S_L4 PySem.Challenge.pw_tx0020_01 ((w.withFollow "comprehension-iter-twice" true).withFollow "special-get-raises" true).params os 256) (F4 PySem.Challenge.pw_tx0020_01 (K4 PySem.Challenge.pw_tx0020_01 42 ((w.withFollow "comprehension-iter-twice" true).withFollow "special-get-raises" true) os) ⟨11, 15, 11, 26⟩) = some (.next, S_p4 PySem.Challenge.pw_tx0020_01 ((w.withFollow "comprehension-iter-twice" true).withFollow "special-get-raises" true).params os, cE PySem.Challenge.pw_tx0020_01, ⟨11, 0, 11, 11⟩) := by
  rewrite [PySem.W.Fast.te10110043849684766642, PySem.W.Fast.te14364793385576792824, PySem.W.Fast.te16771354143952684269, PySem.W.Fast.te4028928465649572941, PySem.W.Fast.te1691916074117683517, PySem.W.Fast.te15018103505642860408, PySem.W.Fast.te6832592851520732298]
  kernel_rfl
theorem t4_0 (w : World) (os : OsState) (k : Result → Sem Fin) (q : Pos) : segGoT treeTable PySem.Challenge.pw_tx0020_01 w 11 ann0 1 592 (S_L4 PySem.Challenge.pw_tx0020_01 w.params os 0) (F4 PySem.Challenge.pw_tx0020_01 k q) = some (S_L4 PySem.Challenge.pw_tx0020_01 w.params os 16, F4 PySem.Challenge.pw_tx0020_01 k ⟨11, 15, 11, 26⟩) := by
  rewrite [PySem.W.Fast.te10295753902157049106, PySem.W.Fast.te14364793385576792824, PySem.W.Fast.te16771354143952684269, PySem.W.Fast.te4028928465649572941, PySem.W.Fast.te1691916074117683517]
  kernel_rfl
theorem t4_16 (w : World) (os : OsState) (k : Result → Sem Fin) (q : Pos) : segGoT treeTable PySem.Challenge.pw_tx0020_01 w 11 ann0 1 592 (S_L4 PySem.Challenge.pw_tx0020_01 w.params os 16) (F4 PySem.Challenge.pw_tx0020_01 k q) = some (S_L4 PySem.Challenge.pw_tx0020_01 w.params os 32, F4 PySem.Challenge.pw_tx0020_01 k ⟨11, 15, 11, 26⟩) := by
  rewrite [PySem.W.Fast.te10295753902157049106, PySem.W.Fast.te14364793385576792824, PySem.W.Fast.te16771354143952684269, PySem.W.Fast.te4028928465649572941, PySem.W.Fast.te1691916074117683517]
  kernel_rfl
theorem t4_32 (w : World) (os : OsState) (k : Result → Sem Fin) (q : Pos) : segGoT treeTable PySem.Challenge.pw_tx0020_01 w 11 ann0 1 592 (S_L4 PySem.Challenge.pw_tx0020_01 w.params os 32) (F4 PySem.Challenge.pw_tx0020_01 k q) = some (S_L4 PySem.Challenge.pw_tx0020_01 w.params os 48, F4 PySem.Challenge.pw_tx0020_01 k ⟨11, 15, 11, 26⟩) := by
  rewrite [PySem.W.Fast.te10295753902157049106, PySem.W.Fast.te14364793385576792824, PySem.W.Fast.te16771354143952684269, PySem.W.Fast.te4028928465649572941, PySem.W.Fast.te1691916074117683517]
  kernel_rfl
theorem t4_48 (w : World) (os : OsState) (k : Result → Sem Fin) (q : Pos) : segGoT treeTable PySem.Challenge.pw_tx0020_01 w 11 ann0 1 592 (S_L4 PySem.Challenge.pw_tx0020_01 w.params os 48) (F4 PySem.Challenge.pw_tx0020_01 k q) = some (S_L4 PySem.Challenge.pw_tx0020_01 w.params os 64, F4 PySem.Challenge.pw_tx0020_01 k ⟨11, 15, 11, 26⟩) := by
  rewrite [PySem.W.Fast.te10295753902157049106, PySem.W.Fast.te14364793385576792824, PySem.W.Fast.te16771354143952684269, PySem.W.Fast.te4028928465649572941, PySem.W.Fast.te1691916074117683517]
  kernel_rfl
theorem t4_64 (w : World) (os : OsState) (k : Result → Sem Fin) (q : Pos) : segGoT treeTable PySem.Challenge.pw_tx0020_01 w 11 ann0 1 592 (S_L4 PySem.Challenge.pw_tx0020_01 w.params os 64) (F4 PySem.Challenge.pw_tx0020_01 k q) = some (S_L4 PySem.Challenge.pw_tx0020_01 w.params os 80, F4 PySem.Challenge.pw_tx0020_01 k ⟨11, 15, 11, 26⟩) := by
  rewrite [PySem.W.Fast.te10295753902157049106, PySem.W.Fast.te14364793385576792824, PySem.W.Fast.te16771354143952684269, PySem.W.Fast.te4028928465649572941, PySem.W.Fast.te1691916074117683517]
  kernel_rfl
theorem t4_80 (w : World) (os : OsState) (k : Result → Sem Fin) (q : Pos) : segGoT treeTable PySem.Challenge.pw_tx0020_01 w 11 ann0 1 592 (S_L4 PySem.Challenge.pw_tx0020_01 w.params os 80) (F4 PySem.Challenge.pw_tx0020_01 k q) = some (S_L4 PySem.Challenge.pw_tx0020_01 w.params os 96, F4 PySem.Challenge.pw_tx0020_01 k ⟨11, 15, 11, 26⟩) := by
  rewrite [PySem.W.Fast.te10295753902157049106, PySem.W.Fast.te14364793385576792824, PySem.W.Fast.te16771354143952684269, PySem.W.Fast.te4028928465649572941, PySem.W.Fast.te1691916074117683517]
  kernel_rfl
theorem t4_96 (w : World) (os : OsState) (k : Result → Sem Fin) (q : Pos) : segGoT treeTable PySem.Challenge.pw_tx0020_01 w 11 ann0 1 592 (S_L4 PySem.Challenge.pw_tx0020_01 w.params os 96) (F4 PySem.Challenge.pw_tx0020_01 k q) = some (S_L4 PySem.Challenge.pw_tx0020_01 w.params os 112, F4 PySem.Challenge.pw_tx0020_01 k ⟨11, 15, 11, 26⟩) := by
  rewrite [PySem.W.Fast.te10295753902157049106, PySem.W.Fast.te14364793385576792824, PySem.W.Fast.te16771354143952684269, PySem.W.Fast.te4028928465649572941, PySem.W.Fast.te1691916074117683517]
  kernel_rfl
theorem t4_112 (w : World) (os : OsState) (k : Result → Sem Fin) (q : Pos) : segGoT treeTable PySem.Challenge.pw_tx0020_01 w 11 ann0 1 592 (S_L4 PySem.Challenge.pw_tx0020_01 w.params os 112) (F4 PySem.Challenge.pw_tx0020_01 k q) = some (S_L4 PySem.Challenge.pw_tx0020_01 w.params os 128, F4 PySem.Challenge.pw_tx0020_01 k ⟨11, 15, 11, 26⟩) := by
  rewrite [PySem.W.Fast.te10295753902157049106, PySem.W.Fast.te14364793385576792824, PySem.W.Fast.te16771354143952684269, PySem.W.Fast.te4028928465649572941, PySem.W.Fast.te1691916074117683517]
  kernel_rfl
theorem t4_128 (w : World) (os : OsState) (k : Result → Sem Fin) (q : Pos) : segGoT treeTable PySem.Challenge.pw_tx0020_01 w 11 ann0 1 592 (S_L4 PySem.Challenge.pw_tx0020_01 w.params os 128) (F4 PySem.Challenge.pw_tx0020_01 k q) = some (S_L4 PySem.Challenge.pw_tx0020_01 w.params os 144, F4 PySem.Challenge.pw_tx0020_01 k ⟨11, 15, 11, 26⟩) := by
  rewrite [PySem.W.Fast.te10295753902157049106, PySem.W.Fast.te14364793385576792824, PySem.W.Fast.te16771354143952684269, PySem.W.Fast.te4028928465649572941, PySem.W.Fast.te1691916074117683517]
  kernel_rfl
theorem t4_144 (w : World) (os : OsState) (k : Result → Sem Fin) (q : Pos) : segGoT treeTable PySem.Challenge.pw_tx0020_01 w 11 ann0 1 592 (S_L4 PySem.Challenge.pw_tx0020_01 w.params os 144) (F4 PySem.Challenge.pw_tx0020_01 k q) = some (S_L4 PySem.Challenge.pw_tx0020_01 w.params os 160, F4 PySem.Challenge.pw_tx0020_01 k ⟨11, 15, 11, 26⟩) := by
  rewrite [PySem.W.Fast.te10295753902157049106, PySem.W.Fast.te14364793385576792824, PySem.W.Fast.te16771354143952684269, PySem.W.Fast.te4028928465649572941, PySem.W.Fast.te1691916074117683517]
  kernel_rfl
theorem t4_160 (w : World) (os : OsState) (k : Result → Sem Fin) (q : Pos) : segGoT treeTable PySem.Challenge.pw_tx0020_01 w 11 ann0 1 592 (S_L4 PySem.Challenge.pw_tx0020_01 w.params os 160) (F4 PySem.Challenge.pw_tx0020_01 k q) = some (S_L4 PySem.Challenge.pw_tx0020_01 w.params os 176, F4 PySem.Challenge.pw_tx0020_01 k ⟨11, 15, 11, 26⟩) := by
  rewrite [PySem.W.Fast.te10295753902157049106, PySem.W.Fast.te14364793385576792824, PySem.W.Fast.te16771354143952684269, PySem.W.Fast.te4028928465649572941, PySem.W.Fast.te1691916074117683517]
  kernel_rfl
theorem t4_176 (w : World) (os : OsState) (k : Result → Sem Fin) (q : Pos) : segGoT treeTable PySem.Challenge.pw_tx0020_01 w 11 ann0 1 592 (S_L4 PySem.Challenge.pw_tx0020_01 w.params os 176) (F4 PySem.Challenge.pw_tx0020_01 k q) = some (S_L4 PySem.Challenge.pw_tx0020_01 w.params os 192, F4 PySem.Challenge.pw_tx0020_01 k ⟨11, 15, 11, 26⟩) := by
  rewrite [PySem.W.Fast.te10295753902157049106, PySem.W.Fast.te14364793385576792824, PySem.W.Fast.te16771354143952684269, PySem.W.Fast.te4028928465649572941, PySem.W.Fast.te1691916074117683517]
  kernel_rfl
theorem t4_192 (w : World) (os : OsState) (k : Result → Sem Fin) (q : Pos) : segGoT treeTable PySem.Challenge.pw_tx0020_01 w 11 ann0 1 592 (S_L4 PySem.Challenge.pw_tx0020_01 w.params os 192) (F4 PySem.Challenge.pw_tx0020_01 k q) = some (S_L4 PySem.Challenge.pw_tx0020_01 w.params os 208, F4 PySem.Challenge.pw_tx0020_01 k ⟨11, 15, 11, 26⟩) := by
  rewrite [PySem.W.Fast.te10295753902157049106, PySem.W.Fast.te14364793385576792824, PySem.W.Fast.te16771354143952684269, PySem.W.Fast.te4028928465649572941, PySem.W.Fast.te1691916074117683517]
  kernel_rfl
theorem t4_208 (w : World) (os : OsState) (k : Result → Sem Fin) (q : Pos) : segGoT treeTable PySem.Challenge.pw_tx0020_01 w 11 ann0 1 592 (S_L4 PySem.Challenge.pw_tx0020_01 w.params os 208) (F4 PySem.Challenge.pw_tx0020_01 k q) = some (S_L4 PySem.Challenge.pw_tx0020_01 w.params os 224, F4 PySem.Challenge.pw_tx0020_01 k ⟨11, 15, 11, 26⟩) := by
  rewrite [PySem.W.Fast.te10295753902157049106, PySem.W.Fast.te14364793385576792824, PySem.W.Fast.te16771354143952684269, PySem.W.Fast.te4028928465649572941, PySem.W.Fast.te1691916074117683517]
  kernel_rfl
theorem t4_224 (w : World) (os : OsState) (k : Result → Sem Fin) (q : Pos) : segGoT treeTable PySem.Challenge.pw_tx0020_01 w 11 ann0 1 592 (S_L4 PySem.Challenge.pw_tx0020_01 w.params os 224) (F4 PySem.Challenge.pw_tx0020_01 k q) = some (S_L4 PySem.Challenge.pw_tx0020_01 w.params os 240, F4 PySem.Challenge.pw_tx0020_01 k ⟨11, 15, 11, 26⟩) := by
  rewrite [PySem.W.Fast.te10295753902157049106, PySem.W.Fast.te14364793385576792824, PySem.W.Fast.te16771354143952684269, PySem.W.Fast.te4028928465649572941, PySem.W.Fast.te1691916074117683517]
  kernel_rfl
theorem t4_240 (w : World) (os : OsState) (k : Result → Sem Fin) (q : Pos) : segGoT treeTable PySem.Challenge.pw_tx0020_01 w 11 ann0 1 592 (S_L4 PySem.Challenge.pw_tx0020_01 w.params os 240) (F4 PySem.Challenge.pw_tx0020_01 k q) = some (S_L4 PySem.Challenge.pw_tx0020_01 w.params os 256, F4 PySem.Challenge.pw_tx0020_01 k ⟨11, 15, 11, 26⟩) := by
  rewrite [PySem.W.Fast.te10295753902157049106, PySem.W.Fast.te14364793385576792824, PySem.W.Fast.te16771354143952684269, PySem.W.Fast.te4028928465649572941, PySem.W.Fast.te1691916074117683517]
  kernel_rfl
theorem h_p5 (w : World) (os : OsState) : segRunT treeTable PySem.Challenge.pw_tx0020_01 w 11 ann0 1 28 (S_p4 PySem.Challenge.pw_tx0020_01 w.params os) (pieceOf (st PySem.Challenge.pw_tx0020_01 5) (env0 PySem.Challenge.pw_tx0020_01) (cE PySem.Challenge.pw_tx0020_01) ⟨11, 0, 11, 11⟩ B0) = some (.next, S_p5 PySem.Challenge.pw_tx0020_01 w.params os, cE PySem.Challenge.pw_tx0020_01, ⟨12, 0, 12, 18⟩) := by
  rewrite [PySem.W.Fast.te10110043849684766642, PySem.W.Fast.te14364793385576792824, PySem.W.Fast.te16771354143952684269, PySem.W.Fast.te6832592851520732298, PySem.W.Fast.te10745936412428391918, PySem.W.Fast.te5063835450177273479]
  kernel_rfl
theorem h_p6 (w : World) (os : OsState) : segRunT treeTable PySem.Challenge.pw_tx0020_01 w 11 ann0 1 28 (S_p5 PySem.Challenge.pw_tx0020_01 w.params os) (pieceOf (st PySem.Challenge.pw_tx0020_01 6) (env0 PySem.Challenge.pw_tx0020_01) (cE PySem.Challenge.pw_tx0020_01) ⟨12, 0, 12, 18⟩ B0) = some (.next, S_p6 PySem.Challenge.pw_tx0020_01 w.params os, cE PySem.Challenge.pw_tx0020_01, ⟨13, 0, 13, 16⟩) := by
  rewrite [PySem.W.Fast.te10110043849684766642, PySem.W.Fast.te14364793385576792824, PySem.W.Fast.te16771354143952684269, PySem.W.Fast.te5063835450177273479, PySem.W.Fast.te10745936412428391918, PySem.W.Fast.te18015234580919531403]
  kernel_rfl
theorem h_p7 (w : World) (os : OsState) : segRunT treeTable PySem.Challenge.pw_tx0020_01 w 11 ann0 1 10 (S_p6 PySem.Challenge.pw_tx0020_01 w.params os) (pieceOf (st PySem.Challenge.pw_tx0020_01 7) (env0 PySem.Challenge.pw_tx0020_01) (cE PySem.Challenge.pw_tx0020_01) ⟨13, 0, 13, 16⟩ B0) = some (.next, S_p7 PySem.Challenge.pw_tx0020_01 w.params os, cE PySem.Challenge.pw_tx0020_01, ⟨14, 0, 14, 15⟩) := by
  rewrite [PySem.W.Fast.te10110043849684766642, PySem.W.Fast.te14364793385576792824, PySem.W.Fast.te16771354143952684269, PySem.W.Fast.te18015234580919531403, PySem.W.Fast.te10745936412428391918, PySem.W.Fast.te13227108823817783100]
  kernel_rfl
theorem h_p8 (w : World) (os : OsState) : segRunT treeTable PySem.Challenge.pw_tx0020_01 w 11 ann0 1 10 (S_p7 PySem.Challenge.pw_tx0020_01 w.params os) (pieceOf (st PySem.Challenge.pw_tx0020_01 8) (env0 PySem.Challenge.pw_tx0020_01) (cE PySem.Challenge.pw_tx0020_01) ⟨14, 0, 14, 15⟩ B0) = some (.next, S_p8 PySem.Challenge.pw_tx0020_01 w.params os, cE PySem.Challenge.pw_tx0020_01, ⟨15, 0, 15, 15⟩) := by
  rewrite [PySem.W.Fast.te10110043849684766642, PySem.W.Fast.te14364793385576792824, PySem.W.Fast.te16771354143952684269, PySem.W.Fast.te13227108823817783100, PySem.W.Fast.te10745936412428391918, PySem.W.Fast.te14616203545170972441]
  kernel_rfl
theorem h_p9 (w : World) (os : OsState) : segRunT treeTable PySem.Challenge.pw_tx0020_01 w 11 ann0 1 19 (S_p8 PySem.Challenge.pw_tx0020_01 w.params os) (pieceOf (st PySem.Challenge.pw_tx0020_01 9) (env0 PySem.Challenge.pw_tx0020_01) (cE PySem.Challenge.pw_tx0020_01) ⟨15, 0, 15, 15⟩ B0) = some (.next, S_p9 PySem.Challenge.pw_tx0020_01 w.params os, cE PySem.Challenge.pw_tx0020_01, ⟨16, 0, 16, 13⟩) := by
  rewrite [PySem.W.Fast.te10110043849684766642, PySem.W.Fast.te14364793385576792824, PySem.W.Fast.te16771354143952684269, PySem.W.Fast.te14616203545170972441, PySem.W.Fast.te10745936412428391918, PySem.W.Fast.te1281393862753684798]
  kernel_rfl
theorem h_p10 (w : World) (os : OsState) : segRunT treeTable PySem.Challenge.pw_tx0020_01 w 11 ann0 1 10 (S_p9 PySem.Challenge.pw_tx0020_01 w.params os) (pieceOf (st PySem.Challenge.pw_tx0020_01 10) (env0 PySem.Challenge.pw_tx0020_01) (cE PySem.Challenge.pw_tx0020_01) ⟨16, 0, 16, 13⟩ B0) = some (.next, S_p10 PySem.Challenge.pw_tx0020_01 w.params os, cE PySem.Challenge.pw_tx0020_01, ⟨17, 0, 17, 6⟩) := by
  rewrite [PySem.W.Fast.te10110043849684766642, PySem.W.Fast.te14364793385576792824, PySem.W.Fast.te16771354143952684269, PySem.W.Fast.te1281393862753684798, PySem.W.Fast.te10745936412428391918, PySem.W.Fast.te4893833776750389376]
  kernel_rfl
theorem h_p11 (w : World) (os : OsState) : segRunT treeTable PySem.Challenge.pw_tx0020_01 w 11 ann0 1 10 (S_p10 PySem.Challenge.pw_tx0020_01 w.params os) (pieceOf (st PySem.Challenge.pw_tx0020_01 11) (env0 PySem.Challenge.pw_tx0020_01) (cE PySem.Challenge.pw_tx0020_01) ⟨17, 0, 17, 6⟩ B0) = some (.next, S_p11 PySem.Challenge.pw_tx0020_01 w.params os, cE PySem.Challenge.pw_tx0020_01, ⟨18, 0, 18, 8⟩) := by
  rewrite [PySem.W.Fast.te10110043849684766642, PySem.W.Fast.te14364793385576792824, PySem.W.Fast.te16771354143952684269, PySem.W.Fast.te4893833776750389376, PySem.W.Fast.te10745936412428391918, PySem.W.Fast.te6532889517983438866]
  kernel_rfl
theorem a12_0 (w : World) (os : OsState) : segGoT treeTable PySem.Challenge.pw_tx0020_01 (w.withFollow "special-get-raises" false) 11 ann0 1 44 (S_p11 PySem.Challenge.pw_tx0020_01 (w.withFollow "special-get-raises" false).params os) (pieceOf (st PySem.Challenge.pw_tx0020_01 12) (env0 PySem.Challenge.pw_tx0020_01) (cE PySem.Challenge.pw_tx0020_01) ⟨18, 0, 18, 8⟩ B0) = some (S_L12 PySem.Challenge.pw_tx0020_01 (w.withFollow "special-get-raises" false).params os 0, F12 PySem.Challenge.pw_tx0020_01 (K12 PySem.Challenge.pw_tx0020_01 44 (w.withFollow "special-get-raises" false) os) ⟨19, 9, 19, 74⟩) := by
  rewrite [PySem.W.Fast.te10295753902157049106, PySem.W.Fast.te14364793385576792824, PySem.W.Fast.te16771354143952684269, PySem.W.Fast.te6532889517983438866, PySem.W.Fast.te10745936412428391918, PySem.W.Fast.te10000438704763488406, PySem.W.Fast.te495664452462369022, PySem.W.Fast.te3442775476443752527]
  kernel_rfl
theorem e12_0 (w : World) (os : OsState) : segRunT treeTable PySem.Challenge.pw_tx0020_01 (w.withFollow "special-get-raises" false) 11 ann0 1 18 (S_L12 PySem.Challenge.pw_tx0020_01 (w.withFollow "special-get-raises" false).params os 67) (F12 PySem.Challenge.pw_tx0020_01 (K12 PySem.Challenge.pw_tx0020_01 44 (w.withFollow "special-get-raises" false) os) ⟨20, 4, 20, 25⟩) = some (.next, S_p12 PySem.Challenge.pw_tx0020_01 (w.withFollow "special-get-raises" false).params os, cE PySem.Challenge.pw_tx0020_01, ⟨19, 9, 19, 74⟩) := by
  rewrite [PySem.W.Fast.te10110043849684766642, PySem.W.Fast.te14364793385576792824, PySem.W.Fast.te16771354143952684269, PySem.W.Fast.te10000438704763488406, PySem.W.Fast.te495664452462369022, PySem.W.Fast.te3442775476443752527, PySem.W.Fast.te4778581840278557013]
  kernel_rfl
theorem a12_1 (w : World) (os : OsState) : segGoT treeTable PySem.Challenge.pw_tx0020_01 (w.withFollow "special-get-raises" true) 11 ann0 1 44 (S_p11 PySem.Challenge.pw_tx0020_01 (w.withFollow "special-get-raises" true).params os) (pieceOf (st PySem.Challenge.pw_tx0020_01 12) (env0 PySem.Challenge.pw_tx0020_01) (cE PySem.Challenge.pw_tx0020_01) ⟨18, 0, 18, 8⟩ B0) = some (S_L12 PySem.Challenge.pw_tx0020_01 (w.withFollow "special-get-raises" true).params os 0, F12 PySem.Challenge.pw_tx0020_01 (K12 PySem.Challenge.pw_tx0020_01 44 (w.withFollow "special-get-raises" true) os) ⟨19, 9, 19, 74⟩) := by
  rewrite [PySem.W.Fast.te10295753902157049106, PySem.W.Fast.te14364793385576792824, PySem.W.Fast.te16771354143952684269, PySem.W.Fast.te6532889517983438866, PySem.W.Fast.te10745936412428391918, PySem.W.Fast.te10000438704763488406, PySem.W.Fast.te495664452462369022, PySem.W.Fast.te3442775476443752527]
  kernel_rfl
theorem e12_1 (w : World) (os : OsState) : segRunT treeTable PySem.Challenge.pw_tx0020_01 (w.withFollow "special-get-raises" true) 11 ann0 1 18 (S_L12 PySem.Challenge.pw_tx0020_01 (w.withFollow "special-get-raises" true).params os 67) (F12 PySem.Challenge.pw_tx0020_01 (K12 PySem.Challenge.pw_tx0020_01 44 (w.withFollow "special-get-raises" true) os) ⟨20, 4, 20, 25⟩) = some (.next, S_p12 PySem.Challenge.pw_tx0020_01 (w.withFollow "special-get-raises" true).params os, cE PySem.Challenge.pw_tx0020_01, ⟨19, 9, 19, 74⟩) := by
  rewrite [PySem.W.Fast.te10110043849684766642, PySem.W.Fast.te14364793385576792824, PySem.W.Fast.te16771354143952684269, PySem.W.Fast.te10000438704763488406, PySem.W.Fast.te495664452462369022, PySem.W.Fast.te3442775476443752527, PySem.W.Fast.te4778581840278557013]
  kernel_rfl
theorem t12_0 (w : World) (os : OsState) (k : Result → Sem Fin) (q : Pos) : segGoT treeTable PySem.Challenge.pw_tx0020_01 w 11 ann0 1 360 (S_L12 PySem.Challenge.pw_tx0020_01 w.params os 0) (F12 PySem.Challenge.pw_tx0020_01 k q) = some (S_L12 PySem.Challenge.pw_tx0020_01 w.params os 8, F12 PySem.Challenge.pw_tx0020_01 k ⟨20, 4, 20, 25⟩) := by
  rewrite [PySem.W.Fast.te10295753902157049106, PySem.W.Fast.te14364793385576792824, PySem.W.Fast.te16771354143952684269, PySem.W.Fast.te10000438704763488406, PySem.W.Fast.te495664452462369022]
  kernel_rfl
theorem t12_8 (w : World) (os : OsState) (k : Result → Sem Fin) (q : Pos) : segGoT treeTable PySem.Challenge.pw_tx0020_01 w 11 ann0 1 360 (S_L12 PySem.Challenge.pw_tx0020_01 w.params os 8) (F12 PySem.Challenge.pw_tx0020_01 k q) = some (S_L12 PySem.Challenge.pw_tx0020_01 w.params os 16, F12 PySem.Challenge.pw_tx0020_01 k ⟨20, 4, 20, 25⟩) := by
  rewrite [PySem.W.Fast.te10295753902157049106, PySem.W.Fast.te14364793385576792824, PySem.W.Fast.te16771354143952684269, PySem.W.Fast.te10000438704763488406, PySem.W.Fast.te495664452462369022]
  kernel_rfl
theorem t12_16 (w : World) (os : OsState) (k : Result → Sem Fin) (q : Pos) : segGoT treeTable PySem.Challenge.pw_tx0020_01 w 11 ann0 1 360 (S_L12 PySem.Challenge.pw_tx0020_01 w.params os 16) (F12 PySem.Challenge.pw_tx0020_01 k q) = some (S_L12 PySem.Challenge.pw_tx0020_01 w.params os 24, F12 PySem.Challenge.pw_tx0020_01 k ⟨20, 4, 20, 25⟩) := by
  rewrite [PySem.W.Fast.te10295753902157049106, PySem.W.Fast.te14364793385576792824, PySem.W.Fast.te16771354143952684269, PySem.W.Fast.te10000438704763488406, PySem.W.Fast.te495664452462369022]
  kernel_rfl
theorem t12_24 (w : World) (os : OsState) (k : Result → Sem Fin) (q : Pos) : segGoT treeTable PySem.Challenge.pw_tx0020_01 w 11 ann0 1 360 (S_L12 PySem.Challenge.pw_tx0020_01 w.params os 24) (F12 PySem.Challenge.pw_tx0020_01 k q) = some (S_L12 PySem.Challenge.pw_tx0020_01 w.params os 32, F12 PySem.Challenge.pw_tx0020_01 k ⟨20, 4, 20, 25⟩) := by
  rewrite [PySem.W.Fast.te10295753902157049106, PySem.W.Fast.te14364793385576792824, PySem.W.Fast.te16771354143952684269, PySem.W.Fast.te10000438704763488406, PySem.W.Fast.te495664452462369022]
  kernel_rfl
theorem t12_32 (w : World) (os : OsState) (k : Result → Sem Fin) (q : Pos) : segGoT treeTable PySem.Challenge.pw_tx0020_01 w 11 ann0 1 360 (S_L12 PySem.Challenge.pw_tx0020_01 w.params os 32) (F12 PySem.Challenge.pw_tx0020_01 k q) = some (S_L12 PySem.Challenge.pw_tx0020_01 w.params os 40, F12 PySem.Challenge.pw_tx0020_01 k ⟨20, 4, 20, 25⟩) := by
  rewrite [PySem.W.Fast.te10295753902157049106, PySem.W.Fast.te14364793385576792824, PySem.W.Fast.te16771354143952684269, PySem.W.Fast.te10000438704763488406, PySem.W.Fast.te495664452462369022]
  kernel_rfl
theorem t12_40 (w : World) (os : OsState) (k : Result → Sem Fin) (q : Pos) : segGoT treeTable PySem.Challenge.pw_tx0020_01 w 11 ann0 1 360 (S_L12 PySem.Challenge.pw_tx0020_01 w.params os 40) (F12 PySem.Challenge.pw_tx0020_01 k q) = some (S_L12 PySem.Challenge.pw_tx0020_01 w.params os 48, F12 PySem.Challenge.pw_tx0020_01 k ⟨20, 4, 20, 25⟩) := by
  rewrite [PySem.W.Fast.te10295753902157049106, PySem.W.Fast.te14364793385576792824, PySem.W.Fast.te16771354143952684269, PySem.W.Fast.te10000438704763488406, PySem.W.Fast.te495664452462369022]
  kernel_rfl
theorem t12_48 (w : World) (os : OsState) (k : Result → Sem Fin) (q : Pos) : segGoT treeTable PySem.Challenge.pw_tx0020_01 w 11 ann0 1 360 (S_L12 PySem.Challenge.pw_tx0020_01 w.params os 48) (F12 PySem.Challenge.pw_tx0020_01 k q) = some (S_L12 PySem.Challenge.pw_tx0020_01 w.params os 56, F12 PySem.Challenge.pw_tx0020_01 k ⟨20, 4, 20, 25⟩) := by
  rewrite [PySem.W.Fast.te10295753902157049106, PySem.W.Fast.te14364793385576792824, PySem.W.Fast.te16771354143952684269, PySem.W.Fast.te10000438704763488406, PySem.W.Fast.te495664452462369022]
  kernel_rfl
theorem t12_56 (w : World) (os : OsState) (k : Result → Sem Fin) (q : Pos) : segGoT treeTable PySem.Challenge.pw_tx0020_01 w 11 ann0 1 360 (S_L12 PySem.Challenge.pw_tx0020_01 w.params os 56) (F12 PySem.Challenge.pw_tx0020_01 k q) = some (S_L12 PySem.Challenge.pw_tx0020_01 w.params os 64, F12 PySem.Challenge.pw_tx0020_01 k ⟨20, 4, 20, 25⟩) := by
  rewrite [PySem.W.Fast.te10295753902157049106, PySem.W.Fast.te14364793385576792824, PySem.W.Fast.te16771354143952684269, PySem.W.Fast.te10000438704763488406, PySem.W.Fast.te495664452462369022]
  kernel_rfl
theorem t12_64 (w : World) (os : OsState) (k : Result → Sem Fin) (q : Pos) : segGoT treeTable PySem.Challenge.pw_tx0020_01 w 11 ann0 1 135 (S_L12 PySem.Challenge.pw_tx0020_01 w.params os 64) (F12 PySem.Challenge.pw_tx0020_01 k q) = some (S_L12 PySem.Challenge.pw_tx0020_01 w.params os 67, F12 PySem.Challenge.pw_tx0020_01 k ⟨20, 4, 20, 25⟩) := by
  rewrite [PySem.W.Fast.te10295753902157049106, PySem.W.Fast.te14364793385576792824, PySem.W.Fast.te16771354143952684269, PySem.W.Fast.te10000438704763488406, PySem.W.Fast.te495664452462369022]
  kernel_rfl
theorem h_p13 (w : World) (os : OsState) : segRunT treeTable PySem.Challenge.pw_tx0020_01 w 11 ann0 1 25 (S_p12 PySem.Challenge.pw_tx0020_01 w.params os) (pieceOf (st PySem.Challenge.pw_tx0020_01 13) (env0 PySem.Challenge.pw_tx0020_01) (cE PySem.Challenge.pw_tx0020_01) ⟨19, 9, 19, 74⟩ B0) = some (.next, S_p13 PySem.Challenge.pw_tx0020_01 w.params os, cE PySem.Challenge.pw_tx0020_01, ⟨21, 0, 21, 28⟩) := by
  rewrite [PySem.W.Fast.te10110043849684766642, PySem.W.Fast.te14364793385576792824, PySem.W.Fast.te16771354143952684269, PySem.W.Fast.te4778581840278557013, PySem.W.Fast.te10745936412428391918, PySem.W.Fast.te547891067387731336]
  kernel_rfl
theorem a14_0 (w : World) (os : OsState) : segGoT treeTable PySem.Challenge.pw_tx0020_01 (w.withFollow "special-get-raises" false) 11 ann0 1 10 (S_p13 PySem.Challenge.pw_tx0020_01 (w.withFollow "special-get-raises" false).params os) (pieceOf (st PySem.Challenge.pw_tx0020_01 14) (env0 PySem.Challenge.pw_tx0020_01) (cE PySem.Challenge.pw_tx0020_01) ⟨21, 0, 21, 28⟩ B0) = some (S_L14 PySem.Challenge.pw_tx0020_01 (w.withFollow "special-get-raises" false).params os 0, F14 PySem.Challenge.pw_tx0020_01 (K14 PySem.Challenge.pw_tx0020_01 10 (w.withFollow "special-get-raises" false) os) ⟨22, 9, 22, 110⟩) := by
  rewrite [PySem.W.Fast.te10295753902157049106, PySem.W.Fast.te14364793385576792824, PySem.W.Fast.te16771354143952684269, PySem.W.Fast.te547891067387731336, PySem.W.Fast.te10745936412428391918, PySem.W.Fast.te897264452045016313, PySem.W.Fast.te16084757379198919348, PySem.W.Fast.te13692614088897435306]
  kernel_rfl
theorem e14_0 (w : World) (os : OsState) : segRunT treeTable PySem.Challenge.pw_tx0020_01 (w.withFollow "special-get-raises" false) 11 ann0 1 18 (S_L14 PySem.Challenge.pw_tx0020_01 (w.withFollow "special-get-raises" false).params os 95) (F14 PySem.Challenge.pw_tx0020_01 (K14 PySem.Challenge.pw_tx0020_01 10 (w.withFollow "special-get-raises" false) os) ⟨23, 4, 23, 23⟩) = some (.next, S_p14 PySem.Challenge.pw_tx0020_01 (w.withFollow "special-get-raises" false).params os, cE PySem.Challenge.pw_tx0020_01, ⟨22, 9, 22, 110⟩) := by
  rewrite [PySem.W.Fast.te10110043849684766642, PySem.W.Fast.te14364793385576792824, PySem.W.Fast.te16771354143952684269, PySem.W.Fast.te897264452045016313, PySem.W.Fast.te16084757379198919348, PySem.W.Fast.te13692614088897435306, PySem.W.Fast.te16805688130438575589]
  kernel_rfl
theorem a14_1 (w : World) (os : OsState) : segGoT treeTable PySem.Challenge.pw_tx0020_01 (w.withFollow "special-get-raises" true) 11 ann0 1 10 (S_p13 PySem.Challenge.pw_tx0020_01 (w.withFollow "special-get-raises" true).params os) (pieceOf (st PySem.Challenge.pw_tx0020_01 14) (env0 PySem.Challenge.pw_tx0020_01) (cE PySem.Challenge.pw_tx0020_01) ⟨21, 0, 21, 28⟩ B0) = some (S_L14 PySem.Challenge.pw_tx0020_01 (w.withFollow "special-get-raises" true).params os 0, F14 PySem.Challenge.pw_tx0020_01 (K14 PySem.Challenge.pw_tx0020_01 10 (w.withFollow "special-get-raises" true) os) ⟨22, 9, 22, 110⟩) := by
  rewrite [PySem.W.Fast.te10295753902157049106, PySem.W.Fast.te14364793385576792824, PySem.W.Fast.te16771354143952684269, PySem.W.Fast.te547891067387731336, PySem.W.Fast.te10745936412428391918, PySem.W.Fast.te897264452045016313, PySem.W.Fast.te16084757379198919348, PySem.W.Fast.te13692614088897435306]
  kernel_rfl
theorem e14_1 (w : World) (os : OsState) : segRunT treeTable PySem.Challenge.pw_tx0020_01 (w.withFollow "special-get-raises" true) 11 ann0 1 18 (S_L14 PySem.Challenge.pw_tx0020_01 (w.withFollow "special-get-raises" true).params os 95) (F14 PySem.Challenge.pw_tx0020_01 (K14 PySem.Challenge.pw_tx0020_01 10 (w.withFollow "special-get-raises" true) os) ⟨23, 4, 23, 23⟩) = some (.next, S_p14 PySem.Challenge.pw_tx0020_01 (w.withFollow "special-get-raises" true).params os, cE PySem.Challenge.pw_tx0020_01, ⟨22, 9, 22, 110⟩) := by
  rewrite [PySem.W.Fast.te10110043849684766642, PySem.W.Fast.te14364793385576792824, PySem.W.Fast.te16771354143952684269, PySem.W.Fast.te897264452045016313, PySem.W.Fast.te16084757379198919348, PySem.W.Fast.te13692614088897435306, PySem.W.Fast.te16805688130438575589]
  kernel_rfl
theorem t14_0 (w : World) (os : OsState) (k : Result → Sem Fin) (q : Pos) : segGoT treeTable PySem.Challenge.pw_tx0020_01 w 11 ann0 1 360 (S_L14 PySem.Challenge.pw_tx0020_01 w.params os 0) (F14 PySem.Challenge.pw_tx0020_01 k q) = some (S_L14 PySem.Challenge.pw_tx0020_01 w.params os 8, F14 PySem.Challenge.pw_tx0020_01 k ⟨23, 4, 23, 23⟩) := by
  rewrite [PySem.W.Fast.te10295753902157049106, PySem.W.Fast.te14364793385576792824, PySem.W.Fast.te16771354143952684269, PySem.W.Fast.te897264452045016313, PySem.W.Fast.te16084757379198919348]
  kernel_rfl
theorem t14_8 (w : World) (os : OsState) (k : Result → Sem Fin) (q : Pos) : segGoT treeTable PySem.Challenge.pw_tx0020_01 w 11 ann0 1 360 (S_L14 PySem.Challenge.pw_tx0020_01 w.params os 8) (F14 PySem.Challenge.pw_tx0020_01 k q) = some (S_L14 PySem.Challenge.pw_tx0020_01 w.params os 16, F14 PySem.Challenge.pw_tx0020_01 k ⟨23, 4, 23, 23⟩) := by
  rewrite [PySem.W.Fast.te10295753902157049106, PySem.W.Fast.te14364793385576792824, PySem.W.Fast.te16771354143952684269, PySem.W.Fast.te897264452045016313, PySem.W.Fast.te16084757379198919348]
  kernel_rfl
theorem t14_16 (w : World) (os : OsState) (k : Result → Sem Fin) (q : Pos) : segGoT treeTable PySem.Challenge.pw_tx0020_01 w 11 ann0 1 360 (S_L14 PySem.Challenge.pw_tx0020_01 w.params os 16) (F14 PySem.Challenge.pw_tx0020_01 k q) = some (S_L14 PySem.Challenge.pw_tx0020_01 w.params os 24, F14 PySem.Challenge.pw_tx0020_01 k ⟨23, 4, 23, 23⟩) := by
  rewrite [PySem.W.Fast.te10295753902157049106, PySem.W.Fast.te14364793385576792824, PySem.W.Fast.te16771354143952684269, PySem.W.Fast.te897264452045016313, PySem.W.Fast.te16084757379198919348]
  kernel_rfl
theorem t14_24 (w : World) (os : OsState) (k : Result → Sem Fin) (q : Pos) : segGoT treeTable PySem.Challenge.pw_tx0020_01 w 11 ann0 1 360 (S_L14 PySem.Challenge.pw_tx0020_01 w.params os 24) (F14 PySem.Challenge.pw_tx0020_01 k q) = some (S_L14 PySem.Challenge.pw_tx0020_01 w.params os 32, F14 PySem.Challenge.pw_tx0020_01 k ⟨23, 4, 23, 23⟩) := by
  rewrite [PySem.W.Fast.te10295753902157049106, PySem.W.Fast.te14364793385576792824, PySem.W.Fast.te16771354143952684269, PySem.W.Fast.te897264452045016313, PySem.W.Fast.te16084757379198919348]
  kernel_rfl
theorem t14_32 (w : World) (os : OsState) (k : Result → Sem Fin) (q : Pos) : segGoT treeTable PySem.Challenge.pw_tx0020_01 w 11 ann0 1 360 (S_L14 PySem.Challenge.pw_tx0020_01 w.params os 32) (F14 PySem.Challenge.pw_tx0020_01 k q) = some (S_L14 PySem.Challenge.pw_tx0020_01 w.params os 40, F14 PySem.Challenge.pw_tx0020_01 k ⟨23, 4, 23, 23⟩) := by
  rewrite [PySem.W.Fast.te10295753902157049106, PySem.W.Fast.te14364793385576792824, PySem.W.Fast.te16771354143952684269, PySem.W.Fast.te897264452045016313, PySem.W.Fast.te16084757379198919348]
  kernel_rfl
theorem t14_40 (w : World) (os : OsState) (k : Result → Sem Fin) (q : Pos) : segGoT treeTable PySem.Challenge.pw_tx0020_01 w 11 ann0 1 360 (S_L14 PySem.Challenge.pw_tx0020_01 w.params os 40) (F14 PySem.Challenge.pw_tx0020_01 k q) = some (S_L14 PySem.Challenge.pw_tx0020_01 w.params os 48, F14 PySem.Challenge.pw_tx0020_01 k ⟨23, 4, 23, 23⟩) := by
  rewrite [PySem.W.Fast.te10295753902157049106, PySem.W.Fast.te14364793385576792824, PySem.W.Fast.te16771354143952684269, PySem.W.Fast.te897264452045016313, PySem.W.Fast.te16084757379198919348]
  kernel_rfl
theorem t14_48 (w : World) (os : OsState) (k : Result → Sem Fin) (q : Pos) : segGoT treeTable PySem.Challenge.pw_tx0020_01 w 11 ann0 1 360 (S_L14 PySem.Challenge.pw_tx0020_01 w.params os 48) (F14 PySem.Challenge.pw_tx0020_01 k q) = some (S_L14 PySem.Challenge.pw_tx0020_01 w.params os 56, F14 PySem.Challenge.pw_tx0020_01 k ⟨23, 4, 23, 23⟩) := by
  rewrite [PySem.W.Fast.te10295753902157049106, PySem.W.Fast.te14364793385576792824, PySem.W.Fast.te16771354143952684269, PySem.W.Fast.te897264452045016313, PySem.W.Fast.te16084757379198919348]
  kernel_rfl
theorem t14_56 (w : World) (os : OsState) (k : Result → Sem Fin) (q : Pos) : segGoT treeTable PySem.Challenge.pw_tx0020_01 w 11 ann0 1 360 (S_L14 PySem.Challenge.pw_tx0020_01 w.params os 56) (F14 PySem.Challenge.pw_tx0020_01 k q) = some (S_L14 PySem.Challenge.pw_tx0020_01 w.params os 64, F14 PySem.Challenge.pw_tx0020_01 k ⟨23, 4, 23, 23⟩) := by
  rewrite [PySem.W.Fast.te10295753902157049106, PySem.W.Fast.te14364793385576792824, PySem.W.Fast.te16771354143952684269, PySem.W.Fast.te897264452045016313, PySem.W.Fast.te16084757379198919348]
  kernel_rfl
theorem t14_64 (w : World) (os : OsState) (k : Result → Sem Fin) (q : Pos) : segGoT treeTable PySem.Challenge.pw_tx0020_01 w 11 ann0 1 360 (S_L14 PySem.Challenge.pw_tx0020_01 w.params os 64) (F14 PySem.Challenge.pw_tx0020_01 k q) = some (S_L14 PySem.Challenge.pw_tx0020_01 w.params os 72, F14 PySem.Challenge.pw_tx0020_01 k ⟨23, 4, 23, 23⟩) := by
  rewrite [PySem.W.Fast.te10295753902157049106, PySem.W.Fast.te14364793385576792824, PySem.W.Fast.te16771354143952684269, PySem.W.Fast.te897264452045016313, PySem.W.Fast.te16084757379198919348]
  kernel_rfl
theorem t14_72 (w : World) (os : OsState) (k : Result → Sem Fin) (q : Pos) : segGoT treeTable PySem.Challenge.pw_tx0020_01 w 11 ann0 1 360 (S_L14 PySem.Challenge.pw_tx0020_01 w.params os 72) (F14 PySem.Challenge.pw_tx0020_01 k q) = some (S_L14 PySem.Challenge.pw_tx0020_01 w.params os 80, F14 PySem.Challenge.pw_tx0020_01 k ⟨23, 4, 23, 23⟩) := by
  rewrite [PySem.W.Fast.te10295753902157049106, PySem.W.Fast.te14364793385576792824, PySem.W.Fast.te16771354143952684269, PySem.W.Fast.te897264452045016313, PySem.W.Fast.te16084757379198919348]
  kernel_rfl
theorem t14_80 (w : World) (os : OsState) (k : Result → Sem Fin) (q : Pos) : segGoT treeTable PySem.Challenge.pw_tx0020_01 w 11 ann0 1 360 (S_L14 PySem.Challenge.pw_tx0020_01 w.params os 80) (F14 PySem.Challenge.pw_tx0020_01 k q) = some (S_L14 PySem.Challenge.pw_tx0020_01 w.params os 88, F14 PySem.Challenge.pw_tx0020_01 k ⟨23, 4, 23, 23⟩) := by
  rewrite [PySem.W.Fast.te10295753902157049106, PySem.W.Fast.te14364793385576792824, PySem.W.Fast.te16771354143952684269, PySem.W.Fast.te897264452045016313, PySem.W.Fast.te16084757379198919348]
  kernel_rfl
theorem t14_88 (w : World) (os : OsState) (k : Result → Sem Fin) (q : Pos) : segGoT treeTable PySem.Challenge.pw_tx0020_01 w 11 ann0 1 315 (S_L14 PySem.Challenge.pw_tx0020_01 w.params os 88) (F14 PySem.Challenge.pw_tx0020_01 k q) = some (S_L14 PySem.Challenge.pw_tx0020_01 w.params os 95, F14 PySem.Challenge.pw_tx0020_01 k ⟨23, 4, 23, 23⟩) := by
  rewrite [PySem.W.Fast.te10295753902157049106, PySem.W.Fast.te14364793385576792824, PySem.W.Fast.te16771354143952684269, PySem.W.Fast.te897264452045016313, PySem.W.Fast.te16084757379198919348]
  kernel_rfl
theorem h_p15 (w : World) (os : OsState) : segRunT treeTable PySem.Challenge.pw_tx0020_01 w 11 ann0 1 30 (S_p14 PySem.Challenge.pw_tx0020_01 w.params os) (pieceOf (st PySem.Challenge.pw_tx0020_01 15) (env0 PySem.Challenge.pw_tx0020_01) (cE PySem.Challenge.pw_tx0020_01) ⟨22, 9, 22, 110⟩ B0) = some (.next, S_p15 PySem.Challenge.pw_tx0020_01 w.params os, cE PySem.Challenge.pw_tx0020_01, ⟨24, 0, 25, 30⟩) := by
  rewrite [PySem.W.Fast.te10110043849684766642, PySem.W.Fast.te14364793385576792824, PySem.W.Fast.te16771354143952684269, PySem.W.Fast.te16805688130438575589, PySem.W.Fast.te10745936412428391918, PySem.W.Fast.te7763128879222100917]
  kernel_rfl
theorem h_p16 (w : World) (os : OsState) : segRunT treeTable PySem.Challenge.pw_tx0020_01 w 11 ann0 1 34 (S_p15 PySem.Challenge.pw_tx0020_01 w.params os) (pieceOf (st PySem.Challenge.pw_tx0020_01 16) (env0 PySem.Challenge.pw_tx0020_01) (cE PySem.Challenge.pw_tx0020_01) ⟨24, 0, 25, 30⟩ B0) = some (.next, S_p16 PySem.Challenge.pw_tx0020_01 w.params os, cE PySem.Challenge.pw_tx0020_01, ⟨26, 0, 30, 45⟩) := by
  rewrite [PySem.W.Fast.te10110043849684766642, PySem.W.Fast.te14364793385576792824, PySem.W.Fast.te16771354143952684269, PySem.W.Fast.te7763128879222100917, PySem.W.Fast.te10745936412428391918, PySem.W.Fast.te18437542963291643049]
  kernel_rfl
theorem h_p17 (w : World) (os : OsState) : segRunT treeTable PySem.Challenge.pw_tx0020_01 w 11 ann0 1 28 (S_p16 PySem.Challenge.pw_tx0020_01 w.params os) (pieceOf (st PySem.Challenge.pw_tx0020_01 17) (env0 PySem.Challenge.pw_tx0020_01) (cE PySem.Challenge.pw_tx0020_01) ⟨26, 0, 30, 45⟩ B0) = some (.next, S_p17 PySem.Challenge.pw_tx0020_01 w.params os, cE PySem.Challenge.pw_tx0020_01, ⟨31, 0, 31, 23⟩) := by
  rewrite [PySem.W.Fast.te10110043849684766642, PySem.W.Fast.te14364793385576792824, PySem.W.Fast.te16771354143952684269, PySem.W.Fast.te18437542963291643049, PySem.W.Fast.te10745936412428391918, PySem.W.Fast.te5728827452214307409]
  kernel_rfl
theorem a18_0 (w : World) (os : OsState) : segGoT treeTable PySem.Challenge.pw_tx0020_01 (w.withFollow "special-get-raises" false) 11 ann0 1 10 (S_p17 PySem.Challenge.pw_tx0020_01 (w.withFollow "special-get-raises" false).params os) (pieceOf (st PySem.Challenge.pw_tx0020_01 18) (env0 PySem.Challenge.pw_tx0020_01) (cE PySem.Challenge.pw_tx0020_01) ⟨31, 0, 31, 23⟩ B0) = some (S_L18 PySem.Challenge.pw_tx0020_01 (w.withFollow "special-get-raises" false).params os 0, F18 PySem.Challenge.pw_tx0020_01 (K18 PySem.Challenge.pw_tx0020_01 10 (w.withFollow "special-get-raises" false) os) ⟨32, 9, 32, 16⟩) := by
  rewrite [PySem.W.Fast.te10295753902157049106, PySem.W.Fast.te14364793385576792824, PySem.W.Fast.te16771354143952684269, PySem.W.Fast.te5728827452214307409, PySem.W.Fast.te10745936412428391918, PySem.W.Fast.te12139014021836639615, PySem.W.Fast.te801552990406458814, PySem.W.Fast.te8690216032193993501]
  kernel_rfl
theorem e18_0 (w : World) (os : OsState) : segRunT treeTable PySem.Challenge.pw_tx0020_01 (w.withFollow "special-get-raises" false) 11 ann0 1 18 (S_L18 PySem.Challenge.pw_tx0020_01 (w.withFollow "special-get-raises" false).params os 2) (F18 PySem.Challenge.pw_tx0020_01 (K18 PySem.Challenge.pw_tx0020_01 10 (w.withFollow "special-get-raises" false) os) ⟨33, 4, 33, 30⟩) = some (.next, S_p18 PySem.Challenge.pw_tx0020_01 (w.withFollow "special-get-raises" false).params os, cE PySem.Challenge.pw_tx0020_01, ⟨32, 9, 32, 16⟩) := by
  rewrite [PySem.W.Fast.te10110043849684766642, PySem.W.Fast.te14364793385576792824, PySem.W.Fast.te16771354143952684269, PySem.W.Fast.te12139014021836639615, PySem.W.Fast.te801552990406458814, PySem.W.Fast.te8690216032193993501, PySem.W.Fast.te11651011002553814992]
  kernel_rfl
theorem a18_1 (w : World) (os : OsState) : segGoT treeTable PySem.Challenge.pw_tx0020_01 (w.withFollow "special-get-raises" true) 11 ann0 1 10 (S_p17 PySem.Challenge.pw_tx0020_01 (w.withFollow "special-get-raises" true).params os) (pieceOf (st PySem.Challenge.pw_tx0020_01 18) (env0 PySem.Challenge.pw_tx0020_01) (cE PySem.Challenge.pw_tx0020_01) ⟨31, 0, 31, 23⟩ B0) = some (S_L18 PySem.Challenge.pw_tx0020_01 (w.withFollow "special-get-raises" true).params os 0, F18 PySem.Challenge.pw_tx0020_01 (K18 PySem.Challenge.pw_tx0020_01 10 (w.withFollow "special-get-raises" true) os) ⟨32, 9, 32, 16⟩) := by
  rewrite [PySem.W.Fast.te10295753902157049106, PySem.W.Fast.te14364793385576792824, PySem.W.Fast.te16771354143952684269, PySem.W.Fast.te5728827452214307409, PySem.W.Fast.te10745936412428391918, PySem.W.Fast.te12139014021836639615, PySem.W.Fast.te801552990406458814, PySem.W.Fast.te8690216032193993501]
  kernel_rfl
theorem e18_1 (w : World) (os : OsState) : segRunT treeTable PySem.Challenge.pw_tx0020_01 (w.withFollow "special-get-raises" true) 11 ann0 1 18 (S_L18 PySem.Challenge.pw_tx0020_01 (w.withFollow "special-get-raises" true).params os 2) (F18 PySem.Challenge.pw_tx0020_01 (K18 PySem.Challenge.pw_tx0020_01 10 (w.withFollow "special-get-raises" true) os) ⟨33, 4, 33, 30⟩) = some (.next, S_p18 PySem.Challenge.pw_tx0020_01 (w.withFollow "special-get-raises" true).params os, cE PySem.Challenge.pw_tx0020_01, ⟨32, 9, 32, 16⟩) := by
  rewrite [PySem.W.Fast.te10110043849684766642, PySem.W.Fast.te14364793385576792824, PySem.W.Fast.te16771354143952684269, PySem.W.Fast.te12139014021836639615, PySem.W.Fast.te801552990406458814, PySem.W.Fast.te8690216032193993501, PySem.W.Fast.te11651011002553814992]
  kernel_rfl
theorem t18_0 (w : World) (os : OsState) (k : Result → Sem Fin) (q : Pos) : segGoT treeTable PySem.Challenge.pw_tx0020_01 w 11 ann0 1 90 (S_L18 PySem.Challenge.pw_tx0020_01 w.params os 0) (F18 PySem.Challenge.pw_tx0020_01 k q) = some (S_L18 PySem.Challenge.pw_tx0020_01 w.params os 2, F18 PySem.Challenge.pw_tx0020_01 k ⟨33, 4, 33, 30⟩) := by
  rewrite [PySem.W.Fast.te10295753902157049106, PySem.W.Fast.te14364793385576792824, PySem.W.Fast.te16771354143952684269, PySem.W.Fast.te12139014021836639615, PySem.W.Fast.te801552990406458814]
  kernel_rfl
theorem h_p19 (w : World) (os : OsState) : segRunT treeTable PySem.Challenge.pw_tx0020_01 w 11 ann0 1 7 (S_p18 PySem.Challenge.pw_tx0020_01 w.params os) (pieceOf (st PySem.Challenge.pw_tx0020_01 19) (env0 PySem.Challenge.pw_tx0020_01) (cE PySem.Challenge.pw_tx0020_01) ⟨32, 9, 32, 16⟩ B0) = some (.next, S_p19 PySem.Challenge.pw_tx0020_01 w.params os, cE PySem.Challenge.pw_tx0020_01, ⟨34, 4, 34, 5⟩) := by
  rewrite [PySem.W.Fast.te10110043849684766642, PySem.W.Fast.te14364793385576792824, PySem.W.Fast.te16771354143952684269, PySem.W.Fast.te11651011002553814992, PySem.W.Fast.te10745936412428391918, PySem.W.Fast.te338679462391642536]
  kernel_rfl
theorem h_p20 (w : World) (os : OsState) : segRunT treeTable PySem.Challenge.pw_tx0020_01 w 11 ann0 1 46 (S_p19 PySem.Challenge.pw_tx0020_01 w.params os) (pieceOf (st PySem.Challenge.pw_tx0020_01 20) (env0 PySem.Challenge.pw_tx0020_01) (cE PySem.Challenge.pw_tx0020_01) ⟨34, 4, 34, 5⟩ B0) = some (.next, S_p20 PySem.Challenge.pw_tx0020_01 w.params os, cE PySem.Challenge.pw_tx0020_01, ⟨35, 0, 72, 33⟩) := by
  rewrite [PySem.W.Fast.te10110043849684766642, PySem.W.Fast.te14364793385576792824, PySem.W.Fast.te16771354143952684269, PySem.W.Fast.te338679462391642536, PySem.W.Fast.te10745936412428391918, PySem.W.Fast.te16107970921380988075]
  kernel_rfl
theorem h_p21 (w : World) (os : OsState) : segRunT treeTable PySem.Challenge.pw_tx0020_01 w 11 ann0 1 10 (S_p20 PySem.Challenge.pw_tx0020_01 w.params os) (pieceOf (st PySem.Challenge.pw_tx0020_01 21) (env0 PySem.Challenge.pw_tx0020_01) (cE PySem.Challenge.pw_tx0020_01) ⟨35, 0, 72, 33⟩ B0) = some (.next, S_p21 PySem.Challenge.pw_tx0020_01 w.params os, cE PySem.Challenge.pw_tx0020_01, ⟨73, 0, 73, 8⟩) := by
  rewrite [PySem.W.Fast.te10110043849684766642, PySem.W.Fast.te14364793385576792824, PySem.W.Fast.te16771354143952684269, PySem.W.Fast.te16107970921380988075, PySem.W.Fast.te10745936412428391918, PySem.W.Fast.te6360860374299002164]
  kernel_rfl
theorem h_p22 (w : World) (os : OsState) : segRunT treeTable PySem.Challenge.pw_tx0020_01 w 11 ann0 1 31 (S_p21 PySem.Challenge.pw_tx0020_01 w.params os) (pieceOf (st PySem.Challenge.pw_tx0020_01 22) (env0 PySem.Challenge.pw_tx0020_01) (cE PySem.Challenge.pw_tx0020_01) ⟨73, 0, 73, 8⟩ B0) = some (.next, S_p22 PySem.Challenge.pw_tx0020_01 w.params os, cE PySem.Challenge.pw_tx0020_01, ⟨74, 0, 79, 34⟩) := by
  rewrite [PySem.W.Fast.te10110043849684766642, PySem.W.Fast.te14364793385576792824, PySem.W.Fast.te16771354143952684269, PySem.W.Fast.te6360860374299002164, PySem.W.Fast.te10745936412428391918, PySem.W.Fast.te14977166734128426939]
  kernel_rfl
theorem h_p23 (w : World) (os : OsState) : segRunT treeTable PySem.Challenge.pw_tx0020_01 w 11 ann0 1 27 (S_p22 PySem.Challenge.pw_tx0020_01 w.params os) (pieceOf (st PySem.Challenge.pw_tx0020_01 23) (env0 PySem.Challenge.pw_tx0020_01) (cE PySem.Challenge.pw_tx0020_01) ⟨74, 0, 79, 34⟩ B0) = some (.next, S_p23 PySem.Challenge.pw_tx0020_01 w.params os, cE PySem.Challenge.pw_tx0020_01, ⟨80, 0, 91, 92⟩) := by
  rewrite [PySem.W.Fast.te10110043849684766642, PySem.W.Fast.te14364793385576792824, PySem.W.Fast.te16771354143952684269, PySem.W.Fast.te14977166734128426939, PySem.W.Fast.te10745936412428391918, PySem.W.Fast.te11886201425322485066]
  kernel_rfl
theorem h_p24 (w : World) (os : OsState) : segRunT treeTable PySem.Challenge.pw_tx0020_01 w 11 ann0 1 36 (S_p23 PySem.Challenge.pw_tx0020_01 w.params os) (pieceOf (st PySem.Challenge.pw_tx0020_01 24) (env0 PySem.Challenge.pw_tx0020_01) (cE PySem.Challenge.pw_tx0020_01) ⟨80, 0, 91, 92⟩ B0) = some (.next, S_p24 PySem.Challenge.pw_tx0020_01 w.params os, cE PySem.Challenge.pw_tx0020_01, ⟨92, 0, 106, 16⟩) := by
  rewrite [PySem.W.Fast.te10110043849684766642, PySem.W.Fast.te14364793385576792824, PySem.W.Fast.te16771354143952684269, PySem.W.Fast.te11886201425322485066, PySem.W.Fast.te10745936412428391918, PySem.W.Fast.te15860677173175091479]
  kernel_rfl
theorem h_p25 (w : World) (os : OsState) : segRunT treeTable PySem.Challenge.pw_tx0020_01 w 11 ann0 1 27 (S_p24 PySem.Challenge.pw_tx0020_01 w.params os) (pieceOf (st PySem.Challenge.pw_tx0020_01 25) (env0 PySem.Challenge.pw_tx0020_01) (cE PySem.Challenge.pw_tx0020_01) ⟨92, 0, 106, 16⟩ B0) = some (.next, S_p25 PySem.Challenge.pw_tx0020_01 w.params os, cE PySem.Challenge.pw_tx0020_01, ⟨107, 0, 128, 15⟩) := by
  rewrite [PySem.W.Fast.te10110043849684766642, PySem.W.Fast.te14364793385576792824, PySem.W.Fast.te16771354143952684269, PySem.W.Fast.te15860677173175091479, PySem.W.Fast.te10745936412428391918, PySem.W.Fast.te18321651931364638862]
  kernel_rfl
theorem h_fin (w : World) (os : OsState) : topRun treeTable PySem.Challenge.pw_tx0020_01 w 11 ann0 2 (S_p25 PySem.Challenge.pw_tx0020_01 w.params os).abs ⟨doneF .next, cE PySem.Challenge.pw_tx0020_01, ⟨107, 0, 128, 15⟩, B0⟩ = some (S_fin PySem.Challenge.pw_tx0020_01 w.params os).abs := by
  rewrite [PySem.W.Fast.te14082659384304107361, PySem.W.Fast.te14364793385576792824, PySem.W.Fast.te16771354143952684269, PySem.W.Fast.te18321651931364638862, PySem.W.Fast.te5637361245888845362]
  kernel_rfl
end Mine
namespace Mine
noncomputable def KK (P : Params) : Frag := by
  refine' (fun (a1 : Arguments) (b1 : List Stmt) (s1 : Scope) (a15 : Arguments) (b15 : List Stmt) (s15 : Scope) (a16 : Arguments) (b16 : List Stmt) (s16 : Scope) (a20 : Arguments) (b20 : List Stmt) (s20 : Scope) (a22 : Arguments) (b22 : List Stmt) (s22 : Scope) (a23 : Arguments) (b23 : List Stmt) (s23 : Scope) (a24 : Arguments) (b24 : List Stmt) (s24 : Scope) (a25 : Arguments) (b25 : List Stmt) (s25 : Scope) (_ : fArgs (st PySem.Challenge.pw_tx0020_01 1) = a1) (_ : fBody (st PySem.Challenge.pw_tx0020_01 1) = b1) (_ : fScope (st PySem.Challenge.pw_tx0020_01 1) = s1) (_ : fArgs (st PySem.Challenge.pw_tx0020_01 15) = a15) (_ : fBody (st PySem.Challenge.pw_tx0020_01 15) = b15) (_ : fScope (st PySem.Challenge.pw_tx0020_01 15) = s15) (_ : fArgs (st PySem.Challenge.pw_tx0020_01 16) = a16) (_ : fBody (st PySem.Challenge.pw_tx0020_01 16) = b16) (_ : fScope (st PySem.Challenge.pw_tx0020_01 16) = s16) (_ : fArgs (st PySem.Challenge.pw_tx0020_01 20) = a20) (_ : fBody (st PySem.Challenge.pw_tx0020_01 20) = b20) (_ : fScope (st PySem.Challenge.pw_tx0020_01 20) = s20) (_ : fArgs (st PySem.Challenge.pw_tx0020_01 22) = a22) (_ : fBody (st PySem.Challenge.pw_tx0020_01 22) = b22) (_ : fScope (st PySem.Challenge.pw_tx0020_01 22) = s22) (_ : fArgs (st PySem.Challenge.pw_tx0020_01 23) = a23) (_ : fBody (st PySem.Challenge.pw_tx0020_01 23) = b23) (_ : fScope (st PySem.Challenge.pw_tx0020_01 23) = s23) (_ : fArgs (st PySem.Challenge.pw_tx0020_01 24) = a24) (_ : fBody (st PySem.Challenge.pw_tx0020_01 24) = b24) (_ : fScope (st PySem.Challenge.pw_tx0020_01 24) = s24) (_ : fArgs (st PySem.Challenge.pw_tx0020_01 25) = a25) (_ : fBody (st PySem.Challenge.pw_tx0020_01 25) = b25) (_ : fScope (st PySem.Challenge.pw_tx0020_01 25) = s25) => ((nat_lit 2, (boot_o_2 P : Obj)) :: (nat_lit 3, (⟨(.type "dict"), none, (.dict #[⟨PyData.keyHash P (Str.ofString "__name__"), (.str (Str.ofString "__name__") 165), (.str (Str.ofString "law_tx0020_01") 1783)⟩, ⟨PyData.keyHash P (Str.ofString "__doc__"), (.str (Str.ofString "__doc__") 166), .none⟩, ⟨PyData.keyHash P (Str.ofString "__package__"), (.str (Str.ofString "__package__") 167), .none⟩, ⟨PyData.keyHash P (Str.ofString "__loader__"), (.str (Str.ofString "__loader__") 168), (.builtin "__main__.__loader__#opaque")⟩, ⟨PyData.keyHash P (Str.ofString "__spec__"), (.str (Str.ofString "__spec__") 169), .none⟩, ⟨PyData.keyHash P (Str.ofString "__annotations__"), (.str (Str.ofString "__annotations__") 170), (.ref 6)⟩, ⟨PyData.keyHash P (Str.ofString "__builtins__"), (.str (Str.ofString "__builtins__") 171), (.ref 4)⟩, ⟨PyData.keyHash P (Str.ofString "__file__"), (.str (Str.ofString "__file__") 173), (.str (Str.ofString "/claim/cut.py") 172)⟩, ⟨PyData.keyHash P (Str.ofString "__cached__"), (.str (Str.ofString "__cached__") 174), .none⟩, ⟨PyData.keyHash P (Str.ofString "_gen_crc"), (.str (Str.ofString "_gen_crc") 196), (.ref 21)⟩, ⟨PyData.keyHash P (Str.ofString "CRLF"), (.str (Str.ofString "CRLF") 198), (.str ⟨#[13, 10]⟩ 197)⟩, ⟨PyData.keyHash P (Str.ofString "NL"), (.str (Str.ofString "NL") 200), (.str ⟨#[10]⟩ 199)⟩, ⟨PyData.keyHash P (Str.ofString "_QUOPRI_MAP"), (.str (Str.ofString "_QUOPRI_MAP") 1228), (.ref 24)⟩, ⟨PyData.keyHash P (Str.ofString "_QUOPRI_HEADER_MAP"), (.str (Str.ofString "_QUOPRI_HEADER_MAP") 1229), (.ref 29)⟩, ⟨PyData.keyHash P (Str.ofString "_QUOPRI_BODY_MAP"), (.str (Str.ofString "_QUOPRI_BODY_MAP") 1230), (.ref 31)⟩, ⟨PyData.keyHash P (Str.ofString "ascii_lowercase"), (.str (Str.ofString "ascii_lowercase") 1232), (.str (Str.ofString "abcdefghijklmnopqrstuvwxyz") 1231)⟩, ⟨PyData.keyHash P (Str.ofString "ascii_uppercase"), (.str (Str.ofString "ascii_uppercase") 1234), (.str (Str.ofString "ABCDEFGHIJKLMNOPQRSTUVWXYZ") 1233)⟩, ⟨PyData.keyHash P (Str.ofString "ascii_letters"), (.str (Str.ofString "ascii_letters") 1236), (.str (Str.ofString "abcdefghijklmnopqrstuvwxyzABCDEFGHIJKLMNOPQRSTUVWXYZ") 1235)⟩, ⟨PyData.keyHash P (Str.ofString "digits"), (.str (Str.ofString "digits") 1238), (.str (Str.ofString "0123456789") 1237)⟩, ⟨PyData.keyHash P (Str.ofString "quote"), (.str (Str.ofString "quote") 1744), (.ref 44)⟩, ⟨PyData.keyHash P (Str.ofString "header_encode"), (.str (Str.ofString "header_encode") 1754), (.ref 52)⟩, ⟨PyData.keyHash P (Str.ofString "_QUOPRI_BODY_ENCODE_MAP"), (.str (Str.ofString "_QUOPRI_BODY_ENCODE_MAP") 1755), (.ref 54)⟩, ⟨PyData.keyHash P (Str.ofString "body_encode"), (.str (Str.ofString "body_encode") 1782), (.ref 65)⟩, ⟨PyData.keyHash P (Str.ofString "_law_signs"), (.str (Str.ofString "_law_signs") 1792), (.ref 72)⟩, ⟨PyData.keyHash P (Str.ofString "_law_codes"), (.str (Str.ofString "_law_codes") 1798), (.ref 77)⟩, ⟨PyData.keyHash P (Str.ofString "_law_forebears"), (.str (Str.ofString "_law_forebears") 1811), (.ref 84)⟩, ⟨PyData.keyHash P (Str.ofString "law"), (.str (Str.ofString "law") 1817), (.ref 89)⟩] 29), #[]⟩ : Obj)) :: (nat_lit 6, (boot_o_6 P : Obj)) :: (nat_lit 15, (⟨(.type "tuple"), none, (.seq #[] 0), #[]⟩ : Obj)) :: (nat_lit 17, (⟨(.type "tuple"), none, (.seq #[(.str (Str.ofString "crc") 192), (.str (Str.ofString "j") 193)] 0), #[]⟩ : Obj)) :: (nat_lit 18, (⟨(.type "tuple"), none, (.seq #[] 0), #[]⟩ : Obj)) :: (nat_lit 20, (⟨(.type "code"), none, (.fields #[(.str (Str.ofString "_gen_crc") 189), (.str (Str.ofString "_gen_crc") 190), (.str (Str.ofString "/claim/cut.py") 191), (.int (2) 0), (.int (1) 0), (.int (0) 0), (.int (0) 0), (.int (3) 0), (.ref 15), (.bool true), (.int (181) 0), (.ref 16), .none, (.ref 17), (.ref 18), (.ref 19), (.int (194) 0), (.int (2) 0), (.str (Str.ofString "/claim/cut.py") 195)]), #[]⟩ : Obj)) :: (nat_lit 21, (⟨(.type "function"), none, (.func { name := (Str.ofString "_gen_crc"), qualname := (Str.ofString "_gen_crc"), params := a1, body := .stmts (b1), scope := s1, globals := 3, closure := [], defaults := .none, kwdefaults := .none, doc := .none, pyModule := (.str (Str.ofString "cpy313.zipfile") 187), annotations := none, code := (.ref 20), closureTuple := .none, builtins := 0 }), #[]⟩ : Obj)) :: (nat_lit 24, (⟨(.type "list"), none, (.seq QF 256), #[]⟩ : Obj)) :: (nat_lit 29, (⟨(.type "list"), none, (.seq (HF.setIfInBounds 32 (.str ⟨#[95]⟩ 1449)) 0), #[]⟩ : Obj)) :: (nat_lit 31, (⟨(.type "list"), none, (.seq BF 0), #[]⟩ : Obj)) :: (nat_lit 38, (⟨(.type "tuple"), none, (.seq #[] 0), #[]⟩ : Obj)) :: (nat_lit 40, (⟨(.type "tuple"), none, (.seq #[(.str (Str.ofString "c") 1741)] 0), #[]⟩ : Obj)) :: (nat_lit 41, (⟨(.type "tuple"), none, (.seq #[] 0), #[]⟩ : Obj)) :: (nat_lit 43, (⟨(.type "code"), none, (.fields #[(.str (Str.ofString "quote") 1738), (.str (Str.ofString "quote") 1739), (.str (Str.ofString "/claim/cut.py") 1740), (.int (24) 0), (.int (1) 0), (.int (0) 0), (.int (0) 0), (.int (3) 0), (.ref 38), (.bool true), (.int (181) 0), (.ref 39), .none, (.ref 40), (.ref 41), (.ref 42), (.int (1742) 0), (.int (24) 0), (.str (Str.ofString "/claim/cut.py") 1743)]), #[]⟩ : Obj)) :: (nat_lit 44, (⟨(.type "function"), none, (.func { name := (Str.ofString "quote"), qualname := (Str.ofString "quote"), params := a15, body := .stmts (b15), scope := s15, globals := 3, closure := [], defaults := .none, kwdefaults := .none, doc := .none, pyModule := (.str (Str.ofString "cpy313.email.quoprimime") 1239), annotations := none, code := (.ref 43), closureTuple := .none, builtins := 0 }), #[]⟩ : Obj)) :: (nat_lit 45, (⟨(.type "tuple"), none, (.seq #[(.str (Str.ofString "iso-8859-1") 1745)] 0), #[]⟩ : Obj)) :: (nat_lit 46, (⟨(.type "tuple"), none, (.seq #[] 0), #[]⟩ : Obj)) :: (nat_lit 48, (⟨(.type "tuple"), none, (.seq #[(.str (Str.ofString "header_bytes") 1749), (.str (Str.ofString "charset") 1750), (.str (Str.ofString "encoded") 1751)] 0), #[]⟩ : Obj)) :: (nat_lit 49, (⟨(.type "tuple"), none, (.seq #[] 0), #[]⟩ : Obj)) :: (nat_lit 51, (⟨(.type "code"), none, (.fields #[(.str (Str.ofString "header_encode") 1746), (.str (Str.ofString "header_encode") 1747), (.str (Str.ofString "/claim/cut.py") 1748), (.int (26) 0), (.int (2) 0), (.int (0) 0), (.int (0) 0), (.int (3) 0), (.ref 46), (.bool true), (.int (181) 0), (.ref 47), .none, (.ref 48), (.ref 49), (.ref 50), (.int (1752) 0), (.int (26) 0), (.str (Str.ofString "/claim/cut.py") 1753)]), #[]⟩ : Obj)) :: (nat_lit 52, (⟨(.type "function"), none, (.func { name := (Str.ofString "header_encode"), qualname := (Str.ofString "header_encode"), params := a16, body := .stmts (b16), scope := s16, globals := 3, closure := [], defaults := (.ref 45), kwdefaults := .none, doc := .none, pyModule := (.str (Str.ofString "cpy313.email.quoprimime") 1239), annotations := none, code := (.ref 51), closureTuple := .none, builtins := 0 }), #[]⟩ : Obj)) :: (nat_lit 54, (⟨(.type "list"), none, (.seq (LE 2) 0), #[]⟩ : Obj)) :: (nat_lit 58, (⟨(.type "tuple"), none, (.seq #[(.int (76) 1763), (.str ⟨#[10]⟩ 199)] 0), #[]⟩ : Obj)) :: (nat_lit 59, (⟨(.type "tuple"), none, (.seq #[] 0), #[]⟩ : Obj)) :: (nat_lit 61, (⟨(.type "tuple"), none, (.seq #[(.str (Str.ofString "body") 1767), (.str (Str.ofString "maxlinelen") 1768), (.str (Str.ofString "eol") 1769), (.str (Str.ofString "soft_break") 1770), (.str (Str.ofString "maxlinelen1") 1771), (.str (Str.ofString "encoded_body") 1772), (.str (Str.ofString "append") 1773), (.str (Str.ofString "line") 1774), (.str (Str.ofString "start") 1775), (.str (Str.ofString "laststart") 1776), (.str (Str.ofString "stop") 1777), (.str (Str.ofString "room") 1778), (.str (Str.ofString "q") 1779)] 0), #[]⟩ : Obj)) :: (nat_lit 62, (⟨(.type "tuple"), none, (.seq #[] 0), #[]⟩ : Obj)) :: (nat_lit 64, (⟨(.type "code"), none, (.fields #[(.str (Str.ofString "body_encode") 1764), (.str (Str.ofString "body_encode") 1765), (.str (Str.ofString "/claim/cut.py") 1766), (.int (35) 0), (.int (3) 0), (.int (0) 0), (.int (0) 0), (.int (3) 0), (.ref 59), (.bool true), (.int (181) 0), (.ref 60), .none, (.ref 61), (.ref 62), (.ref 63), (.int (1780) 0), (.int (35) 0), (.str (Str.ofString "/claim/cut.py") 1781)]), #[]⟩ : Obj)) :: (nat_lit 65, (⟨(.type "function"), none, (.func { name := (Str.ofString "body_encode"), qualname := (Str.ofString "body_encode"), params := a20, body := .stmts (b20), scope := s20, globals := 3, closure := [], defaults := (.ref 58), kwdefaults := .none, doc := .none, pyModule := (.str (Str.ofString "cpy313.email.quoprimime") 1239), annotations := none, code := (.ref 64), closureTuple := .none, builtins := 0 }), #[]⟩ : Obj)) :: (nat_lit 66, (⟨(.type "tuple"), none, (.seq #[] 0), #[]⟩ : Obj)) :: (nat_lit 68, (⟨(.type "tuple"), none, (.seq #[(.str (Str.ofString "hand") 1788), (.str (Str.ofString "octet") 1789)] 0), #[]⟩ : Obj)) :: (nat_lit 69, (⟨(.type "tuple"), none, (.seq #[] 0), #[]⟩ : Obj)) :: (nat_lit 71, (⟨(.type "code"), none, (.fields #[(.str (Str.ofString "_law_signs") 1785), (.str (Str.ofString "_law_signs") 1786), (.str (Str.ofString "/claim/cut.py") 1787), (.int (74) 0), (.int (2) 0), (.int (0) 0), (.int (0) 0), (.int (3) 0), (.ref 66), (.bool true), (.int (181) 0), (.ref 67), .none, (.ref 68), (.ref 69), (.ref 70), (.int (1790) 0), (.int (74) 0), (.str (Str.ofString "/claim/cut.py") 1791)]), #[]⟩ : Obj)) :: (nat_lit 72, (⟨(.type "function"), none, (.func { name := (Str.ofString "_law_signs"), qualname := (Str.ofString "_law_signs"), params := a22, body := .stmts (b22), scope := s22, globals := 3, closure := [], defaults := .none, kwdefaults := .none, doc := .none, pyModule := (.str (Str.ofString "law_tx0020_01") 1783), annotations := none, code := (.ref 71), closureTuple := .none, builtins := 0 }), #[]⟩ : Obj)) :: (nat_lit 73, (⟨(.type "tuple"), none, (.seq #[] 0), #[]⟩ : Obj)) :: (nat_lit 76, (⟨(.type "code"), none, (.fields #[(.str (Str.ofString "_law_codes") 1793), (.str (Str.ofString "_law_codes") 1794), (.str (Str.ofString "/claim/cut.py") 1795), (.int (80) 0), (.int (2) 0), (.int (0) 0), (.int (0) 0), (.int (3) 0), (.ref 73), (.bool true), (.int (181) 0), (.ref 74), .none, .none, .none, (.ref 75), (.int (1796) 0), (.int (80) 0), (.str (Str.ofString "/claim/cut.py") 1797)]), #[]⟩ : Obj)) :: (nat_lit 77, (⟨(.type "function"), none, (.func { name := (Str.ofString "_law_codes"), qualname := (Str.ofString "_law_codes"), params := a23, body := .stmts (b23), scope := s23, globals := 3, closure := [], defaults := .none, kwdefaults := .none, doc := .none, pyModule := (.str (Str.ofString "law_tx0020_01") 1783), annotations := none, code := (.ref 76), closureTuple := .none, builtins := 0 }), #[]⟩ : Obj)) :: (nat_lit 78, (⟨(.type "tuple"), none, (.seq #[] 0), #[]⟩ : Obj)) :: (nat_lit 80, (⟨(.type "tuple"), none, (.seq #[(.str (Str.ofString "hand") 1802), (.str (Str.ofString "register") 1803), (.str (Str.ofString "found") 1804), (.str (Str.ofString "turn") 1805), (.str (Str.ofString "codes") 1806), (.str (Str.ofString "other") 1807), (.str (Str.ofString "k") 1808)] 0), #[]⟩ : Obj)) :: (nat_lit 81, (⟨(.type "tuple"), none, (.seq #[] 0), #[]⟩ : Obj)) :: (nat_lit 83, (⟨(.type "code"), none, (.fields #[(.str (Str.ofString "_law_forebears") 1799), (.str (Str.ofString "_law_forebears") 1800), (.str (Str.ofString "/claim/cut.py") 1801), (.int (92) 0), (.int (2) 0), (.int (0) 0), (.int (0) 0), (.int (3) 0), (.ref 78), (.bool true), (.int (181) 0), (.ref 79), .none, (.ref 80), (.ref 81), (.ref 82), (.int (1809) 0), (.int (92) 0), (.str (Str.ofString "/claim/cut.py") 1810)]), #[]⟩ : Obj)) :: (nat_lit 84, (⟨(.type "function"), none, (.func { name := (Str.ofString "_law_forebears"), qualname := (Str.ofString "_law_forebears"), params := a24, body := .stmts (b24), scope := s24, globals := 3, closure := [], defaults := .none, kwdefaults := .none, doc := .none, pyModule := (.str (Str.ofString "law_tx0020_01") 1783), annotations := none, code := (.ref 83), closureTuple := .none, builtins := 0 }), #[]⟩ : Obj)) :: (nat_lit 85, (⟨(.type "tuple"), none, (.seq #[] 0), #[]⟩ : Obj)) :: (nat_lit 88, (⟨(.type "code"), none, (.fields #[(.str (Str.ofString "law") 1812), (.str (Str.ofString "law") 1813), (.str (Str.ofString "/claim/cut.py") 1814), (.int (107) 0), (.int (1) 0), (.int (0) 0), (.int (0) 0), (.int (3) 0), (.ref 85), (.bool true), (.int (181) 0), (.ref 86), .none, .none, .none, (.ref 87), (.int (1815) 0), (.int (107) 0), (.str (Str.ofString "/claim/cut.py") 1816)]), #[]⟩ : Obj)) :: (nat_lit 89, (⟨(.type "function"), none, (.func { name := (Str.ofString "law"), qualname := (Str.ofString "law"), params := a25, body := .stmts (b25), scope := s25, globals := 3, closure := [], defaults := .none, kwdefaults := .none, doc := .none, pyModule := (.str (Str.ofString "law_tx0020_01") 1783), annotations := none, code := (.ref 88), closureTuple := .none, builtins := 0 }), #[]⟩ : Obj)) :: ([] : Frag))) _ _ _ _ _ _ _ _ _ _ _ _ _ _ _ _ _ _ _ _ _ _ _ _ ?h0 ?h1 ?h2 ?h3 ?h4 ?h5 ?h6 ?h7 ?h8 ?h9 ?h10 ?h11 ?h12 ?h13 ?h14 ?h15 ?h16 ?h17 ?h18 ?h19 ?h20 ?h21 ?h22 ?h23 
  case h0 => (conv => lhs; whnf)
  case h1 => (conv => lhs; whnf)
  case h2 => (conv => lhs; whnf)
  case h3 => (conv => lhs; whnf)
  case h4 => (conv => lhs; whnf)
  case h5 => (conv => lhs; whnf)
  case h6 => (conv => lhs; whnf)
  case h7 => (conv => lhs; whnf)
  case h8 => (conv => lhs; whnf)
  case h9 => (conv => lhs; whnf)
  case h10 => (conv => lhs; whnf)
  case h11 => (conv => lhs; whnf)
  case h12 => (conv => lhs; whnf)
  case h13 => (conv => lhs; whnf)
  case h14 => (conv => lhs; whnf)
  case h15 => (conv => lhs; whnf)
  case h16 => (conv => lhs; whnf)
  case h17 => (conv => lhs; whnf)
  case h18 => (conv => lhs; whnf)
  case h19 => (conv => lhs; whnf)
  case h20 => (conv => lhs; whnf)
  case h21 => (conv => lhs; whnf)
  case h22 => (conv => lhs; whnf)
  case h23 => (conv => lhs; whnf)
noncomputable def vw : Program := by
  refine' (fun (c1 : Stmt) (c2 : Stmt) (c3 : Stmt) (c4 : Stmt) (c5 : Stmt) (c6 : Stmt) (c7 : Stmt) (c8 : Stmt) (c9 : Stmt) (c10 : Stmt) (c15 : Stmt) (c17 : Stmt) (c22 : Stmt) (c23 : Stmt) (c24 : Stmt) (c25 : Stmt) (_ : st PySem.Challenge.pw_tx0020_01 1 = c1) (_ : st PySem.Challenge.pw_tx0020_01 2 = c2) (_ : st PySem.Challenge.pw_tx0020_01 3 = c3) (_ : st PySem.Challenge.pw_tx0020_01 4 = c4) (_ : st PySem.Challenge.pw_tx0020_01 5 = c5) (_ : st PySem.Challenge.pw_tx0020_01 6 = c6) (_ : st PySem.Challenge.pw_tx0020_01 7 = c7) (_ : st PySem.Challenge.pw_tx0020_01 8 = c8) (_ : st PySem.Challenge.pw_tx0020_01 9 = c9) (_ : st PySem.Challenge.pw_tx0020_01 10 = c10) (_ : st PySem.Challenge.pw_tx0020_01 15 = c15) (_ : st PySem.Challenge.pw_tx0020_01 17 = c17) (_ : st PySem.Challenge.pw_tx0020_01 22 = c22) (_ : st PySem.Challenge.pw_tx0020_01 23 = c23) (_ : st PySem.Challenge.pw_tx0020_01 24 = c24) (_ : st PySem.Challenge.pw_tx0020_01 25 = c25) => ({ PySem.Challenge.pw_tx0020_01 with main := { (PySem.Challenge.pw_tx0020_01).main with body := [c1, c2, c3, c4, c5, c6, c7, c8, c9, c10, c15, c17, c22, c23, c24, c25] } } : Program)) _ _ _ _ _ _ _ _ _ _ _ _ _ _ _ _ ?h1 ?h2 ?h3 ?h4 ?h5 ?h6 ?h7 ?h8 ?h9 ?h10 ?h15 ?h17 ?h22 ?h23 ?h24 ?h25 
  case h1 => (conv => lhs; whnf)
  case h2 => (conv => lhs; whnf)
  case h3 => (conv => lhs; whnf)
  case h4 => (conv => lhs; whnf)
  case h5 => (conv => lhs; whnf)
  case h6 => (conv => lhs; whnf)
  case h7 => (conv => lhs; whnf)
  case h8 => (conv => lhs; whnf)
  case h9 => (conv => lhs; whnf)
  case h10 => (conv => lhs; whnf)
  case h15 => (conv => lhs; whnf)
  case h17 => (conv => lhs; whnf)
  case h22 => (conv => lhs; whnf)
  case h23 => (conv => lhs; whnf)
  case h24 => (conv => lhs; whnf)
  case h25 => (conv => lhs; whnf)
noncomputable def asK : List Addr := [2, 3, 6, 15, 17, 18, 20, 21, 24, 29, 31, 38, 40, 41, 43, 44, 45, 46, 48, 49, 51, 52, 54, 58, 59, 61, 62, 64, 65, 66, 68, 69, 71, 72, 73, 76, 77, 78, 80, 81, 83, 84, 85, 88, 89]
theorem asK_eq (P : Params) : asK = (KK P).map (·.1) := by kernel_rfl
end Mine
namespace Mine
theorem segRun_mono {tb : String → Option Builtin} {p : Program} {w : World} {n₀ : Nat} {ann : Option Value} {b : Nat} (k : Nat) : ∀ {n : Nat} {s : Shared} {t : Thread} {r : Flow × Shared × Code × Pos}, segRun tb p w n₀ ann b n s t = some r → segRun tb p w n₀ ann b (n + k) s t = some r
  | 0, _, _, _, h => by simp [segRun] at h
  | n + 1, s, t, r, h => by
    rw [show n + 1 + k = n + k + 1 by omega]
    unfold segRun at h ⊢
    cases he : endAt b t with
    | some f => rw [he] at h; exact h
    | none =>
      rw [he] at h
      cases hk : stepOk n₀ ann t with
      | false => rw [hk] at h; cases h
      | true =>
        rw [hk] at h
        cases hs : step (denote tb) p w s t with
        | halt o s' => rw [hs] at h; cases h
        | go s' t' => rw [hs] at h; exact segRun_mono k h
noncomputable def Pr4 : World → Prop := fun w => ∀ os, segRun treeTable PySem.Challenge.pw_tx0020_01 w 11 ann0 1 9552 (S_p3 PySem.Challenge.pw_tx0020_01 w.params os).abs (pieceOf (st PySem.Challenge.pw_tx0020_01 4) (env0 PySem.Challenge.pw_tx0020_01) (cE PySem.Challenge.pw_tx0020_01) ⟨10, 0, 10, 2⟩ B0) = some (.next, (S_p4 PySem.Challenge.pw_tx0020_01 w.params os).abs, cE PySem.Challenge.pw_tx0020_01, ⟨11, 0, 11, 11⟩)
theorem brr4_0 (w : World) (os : OsState) : segRun treeTable PySem.Challenge.pw_tx0020_01 ((w.withFollow "comprehension-iter-twice" false).withFollow "special-get-raises" false) 11 ann0 1 (52 + (592 + (592 + (592 + (592 + (592 + (592 + (592 + (592 + (592 + (592 + (592 + (592 + (592 + (592 + (592 + (592 + (28)))))))))))))))))) (S_p3 PySem.Challenge.pw_tx0020_01 ((w.withFollow "comprehension-iter-twice" false).withFollow "special-get-raises" false).params os).abs (pieceOf (st PySem.Challenge.pw_tx0020_01 4) (env0 PySem.Challenge.pw_tx0020_01) (cE PySem.Challenge.pw_tx0020_01) ⟨10, 0, 10, 2⟩ B0) = some (.next, (S_p4 PySem.Challenge.pw_tx0020_01 ((w.withFollow "comprehension-iter-twice" false).withFollow "special-get-raises" false).params os).abs, cE PySem.Challenge.pw_tx0020_01, ⟨11, 0, 11, 11⟩) := seg_go (segGo_of (a4_0 w os)) (seg_go (segGo_of (t4_0 _ os _ _)) (seg_go (segGo_of (t4_16 _ os _ _)) (seg_go (segGo_of (t4_32 _ os _ _)) (seg_go (segGo_of (t4_48 _ os _ _)) (seg_go (segGo_of (t4_64 _ os _ _)) (seg_go (segGo_of (t4_80 _ os _ _)) (seg_go (segGo_of (t4_96 _ os _ _)) (seg_go (segGo_of (t4_112 _ os _ _)) (seg_go (segGo_of (t4_128 _ os _ _)) (seg_go (segGo_of (t4_144 _ os _ _)) (seg_go (segGo_of (t4_160 _ os _ _)) (seg_go (segGo_of (t4_176 _ os _ _)) (seg_go (segGo_of (t4_192 _ os _ _)) (seg_go (segGo_of (t4_208 _ os _ _)) (seg_go (segGo_of (t4_224 _ os _ _)) (seg_go (segGo_of (t4_240 _ os _ _)) (segRun_of (e4_0 w os))))))))))))))))))
theorem br4_0 (w : World) : Pr4 ((w.withFollow "comprehension-iter-twice" false).withFollow "special-get-raises" false) := fun os => by
  have h := brr4_0 w os
  rw [show 52 + (592 + (592 + (592 + (592 + (592 + (592 + (592 + (592 + (592 + (592 + (592 + (592 + (592 + (592 + (592 + (592 + (28))))))))))))))))) = 9552 from rfl] at h
  exact h
theorem brr4_1 (w : World) (os : OsState) : segRun treeTable PySem.Challenge.pw_tx0020_01 ((w.withFollow "comprehension-iter-twice" false).withFollow "special-get-raises" true) 11 ann0 1 (52 + (592 + (592 + (592 + (592 + (592 + (592 + (592 + (592 + (592 + (592 + (592 + (592 + (592 + (592 + (592 + (592 + (28)))))))))))))))))) (S_p3 PySem.Challenge.pw_tx0020_01 ((w.withFollow "comprehension-iter-twice" false).withFollow "special-get-raises" true).params os).abs (pieceOf (st PySem.Challenge.pw_tx0020_01 4) (env0 PySem.Challenge.pw_tx0020_01) (cE PySem.Challenge.pw_tx0020_01) ⟨10, 0, 10, 2⟩ B0) = some (.next, (S_p4 PySem.Challenge.pw_tx0020_01 ((w.withFollow "comprehension-iter-twice" false).withFollow "special-get-raises" true).params os).abs, cE PySem.Challenge.pw_tx0020_01, ⟨11, 0, 11, 11⟩) := seg_go (segGo_of (a4_1 w os)) (seg_go (segGo_of (t4_0 _ os _ _)) (seg_go (segGo_of (t4_16 _ os _ _)) (seg_go (segGo_of (t4_32 _ os _ _)) (seg_go (segGo_of (t4_48 _ os _ _)) (seg_go (segGo_of (t4_64 _ os _ _)) (seg_go (segGo_of (t4_80 _ os _ _)) (seg_go (segGo_of (t4_96 _ os _ _)) (seg_go (segGo_of (t4_112 _ os _ _)) (seg_go (segGo_of (t4_128 _ os _ _)) (seg_go (segGo_of (t4_144 _ os _ _)) (seg_go (segGo_of (t4_160 _ os _ _)) (seg_go (segGo_of (t4_176 _ os _ _)) (seg_go (segGo_of (t4_192 _ os _ _)) (seg_go (segGo_of (t4_208 _ os _ _)) (seg_go (segGo_of (t4_224 _ os _ _)) (seg_go (segGo_of (t4_240 _ os _ _)) (segRun_of (e4_1 w os))))))))))))))))))
theorem br4_1 (w : World) : Pr4 ((w.withFollow "comprehension-iter-twice" false).withFollow "special-get-raises" true) := fun os => by
  have h := brr4_1 w os
  rw [show 52 + (592 + (592 + (592 + (592 + (592 + (592 + (592 + (592 + (592 + (592 + (592 + (592 + (592 + (592 + (592 + (592 + (28))))))))))))))))) = 9552 from rfl] at h
  exact h
theorem brr4_2 (w : World) (os : OsState) : segRun treeTable PySem.Challenge.pw_tx0020_01 ((w.withFollow "comprehension-iter-twice" true).withFollow "special-get-raises" false) 11 ann0 1 (42 + (592 + (592 + (592 + (592 + (592 + (592 + (592 + (592 + (592 + (592 + (592 + (592 + (592 + (592 + (592 + (592 + (28))))))))))))))))) + 10) (S_p3 PySem.Challenge.pw_tx0020_01 ((w.withFollow "comprehension-iter-twice" true).withFollow "special-get-raises" false).params os).abs (pieceOf (st PySem.Challenge.pw_tx0020_01 4) (env0 PySem.Challenge.pw_tx0020_01) (cE PySem.Challenge.pw_tx0020_01) ⟨10, 0, 10, 2⟩ B0) = some (.next, (S_p4 PySem.Challenge.pw_tx0020_01 ((w.withFollow "comprehension-iter-twice" true).withFollow "special-get-raises" false).params os).abs, cE PySem.Challenge.pw_tx0020_01, ⟨11, 0, 11, 11⟩) := segRun_mono 10 (seg_go (segGo_of (a4_2 w os)) (seg_go (segGo_of (t4_0 _ os _ _)) (seg_go (segGo_of (t4_16 _ os _ _)) (seg_go (segGo_of (t4_32 _ os _ _)) (seg_go (segGo_of (t4_48 _ os _ _)) (seg_go (segGo_of (t4_64 _ os _ _)) (seg_go (segGo_of (t4_80 _ os _ _)) (seg_go (segGo_of (t4_96 _ os _ _)) (seg_go (segGo_of (t4_112 _ os _ _)) (seg_go (segGo_of (t4_128 _ os _ _)) (seg_go (segGo_of (t4_144 _ os _ _)) (seg_go (segGo_of (t4_160 _ os _ _)) (seg_go (segGo_of (t4_176 _ os _ _)) (seg_go (segGo_of (t4_192 _ os _ _)) (seg_go (segGo_of (t4_208 _ os _ _)) (seg_go (segGo_of (t4_224 _ os _ _)) (seg_go (segGo_of (t4_240 _ os _ _)) (segRun_of (e4_2 w os)))))))))))))))))))
theorem br4_2 (w : World) : Pr4 ((w.withFollow "comprehension-iter-twice" true).withFollow "special-get-raises" false) := fun os => by
  have h := brr4_2 w os
  rw [show 42 + (592 + (592 + (592 + (592 + (592 + (592 + (592 + (592 + (592 + (592 + (592 + (592 + (592 + (592 + (592 + (592 + (28))))))))))))))))) + 10 = 9552 from rfl] at h
  exact h
theorem brr4_3 (w : World) (os : OsState) : segRun treeTable PySem.Challenge.pw_tx0020_01 ((w.withFollow "comprehension-iter-twice" true).withFollow "special-get-raises" true) 11 ann0 1 (42 + (592 + (592 + (592 + (592 + (592 + (592 + (592 + (592 + (592 + (592 + (592 + (592 + (592 + (592 + (592 + (592 + (28))))))))))))))))) + 10) (S_p3 PySem.Challenge.pw_tx0020_01 ((w.withFollow "comprehension-iter-twice" true).withFollow "special-get-raises" true).params os).abs (pieceOf (st PySem.Challenge.pw_tx0020_01 4) (env0 PySem.Challenge.pw_tx0020_01) (cE PySem.Challenge.pw_tx0020_01) ⟨10, 0, 10, 2⟩ B0) = some (.next, (S_p4 PySem.Challenge.pw_tx0020_01 ((w.withFollow "comprehension-iter-twice" true).withFollow "special-get-raises" true).params os).abs, cE PySem.Challenge.pw_tx0020_01, ⟨11, 0, 11, 11⟩) := segRun_mono 10 (seg_go (segGo_of (a4_3 w os)) (seg_go (segGo_of (t4_0 _ os _ _)) (seg_go (segGo_of (t4_16 _ os _ _)) (seg_go (segGo_of (t4_32 _ os _ _)) (seg_go (segGo_of (t4_48 _ os _ _)) (seg_go (segGo_of (t4_64 _ os _ _)) (seg_go (segGo_of (t4_80 _ os _ _)) (seg_go (segGo_of (t4_96 _ os _ _)) (seg_go (segGo_of (t4_112 _ os _ _)) (seg_go (segGo_of (t4_128 _ os _ _)) (seg_go (segGo_of (t4_144 _ os _ _)) (seg_go (segGo_of (t4_160 _ os _ _)) (seg_go (segGo_of (t4_176 _ os _ _)) (seg_go (segGo_of (t4_192 _ os _ _)) (seg_go (segGo_of (t4_208 _ os _ _)) (seg_go (segGo_of (t4_224 _ os _ _)) (seg_go (segGo_of (t4_240 _ os _ _)) (segRun_of (e4_3 w os)))))))))))))))))))
theorem br4_3 (w : World) : Pr4 ((w.withFollow "comprehension-iter-twice" true).withFollow "special-get-raises" true) := fun os => by
  have h := brr4_3 w os
  rw [show 42 + (592 + (592 + (592 + (592 + (592 + (592 + (592 + (592 + (592 + (592 + (592 + (592 + (592 + (592 + (592 + (592 + (28))))))))))))))))) + 10 = 9552 from rfl] at h
  exact h
theorem hs4 (w : World) : Pr4 w := byRow2 "special-get-raises" (fun w => byRow2 "comprehension-iter-twice" (P := fun w => Pr4 (w.withFollow "special-get-raises" false)) br4_0 br4_2 w) (fun w => byRow2 "comprehension-iter-twice" (P := fun w => Pr4 (w.withFollow "special-get-raises" true)) br4_1 br4_3 w) w
noncomputable def Pr12 : World → Prop := fun w => ∀ os, segRun treeTable PySem.Challenge.pw_tx0020_01 w 11 ann0 1 3077 (S_p11 PySem.Challenge.pw_tx0020_01 w.params os).abs (pieceOf (st PySem.Challenge.pw_tx0020_01 12) (env0 PySem.Challenge.pw_tx0020_01) (cE PySem.Challenge.pw_tx0020_01) ⟨18, 0, 18, 8⟩ B0) = some (.next, (S_p12 PySem.Challenge.pw_tx0020_01 w.params os).abs, cE PySem.Challenge.pw_tx0020_01, ⟨19, 9, 19, 74⟩)
theorem brr12_0 (w : World) (os : OsState) : segRun treeTable PySem.Challenge.pw_tx0020_01 (w.withFollow "special-get-raises" false) 11 ann0 1 (44 + (360 + (360 + (360 + (360 + (360 + (360 + (360 + (360 + (135 + (18))))))))))) (S_p11 PySem.Challenge.pw_tx0020_01 (w.withFollow "special-get-raises" false).params os).abs (pieceOf (st PySem.Challenge.pw_tx0020_01 12) (env0 PySem.Challenge.pw_tx0020_01) (cE PySem.Challenge.pw_tx0020_01) ⟨18, 0, 18, 8⟩ B0) = some (.next, (S_p12 PySem.Challenge.pw_tx0020_01 (w.withFollow "special-get-raises" false).params os).abs, cE PySem.Challenge.pw_tx0020_01, ⟨19, 9, 19, 74⟩) := seg_go (segGo_of (a12_0 w os)) (seg_go (segGo_of (t12_0 _ os _ _)) (seg_go (segGo_of (t12_8 _ os _ _)) (seg_go (segGo_of (t12_16 _ os _ _)) (seg_go (segGo_of (t12_24 _ os _ _)) (seg_go (segGo_of (t12_32 _ os _ _)) (seg_go (segGo_of (t12_40 _ os _ _)) (seg_go (segGo_of (t12_48 _ os _ _)) (seg_go (segGo_of (t12_56 _ os _ _)) (seg_go (segGo_of (t12_64 _ os _ _)) (segRun_of (e12_0 w os)))))))))))
theorem br12_0 (w : World) : Pr12 (w.withFollow "special-get-raises" false) := fun os => by
  have h := brr12_0 w os
  rw [show 44 + (360 + (360 + (360 + (360 + (360 + (360 + (360 + (360 + (135 + (18)))))))))) = 3077 from rfl] at h
  exact h
theorem brr12_1 (w : World) (os : OsState) : segRun treeTable PySem.Challenge.pw_tx0020_01 (w.withFollow "special-get-raises" true) 11 ann0 1 (44 + (360 + (360 + (360 + (360 + (360 + (360 + (360 + (360 + (135 + (18))))))))))) (S_p11 PySem.Challenge.pw_tx0020_01 (w.withFollow "special-get-raises" true).params os).abs (pieceOf (st PySem.Challenge.pw_tx0020_01 12) (env0 PySem.Challenge.pw_tx0020_01) (cE PySem.Challenge.pw_tx0020_01) ⟨18, 0, 18, 8⟩ B0) = some (.next, (S_p12 PySem.Challenge.pw_tx0020_01 (w.withFollow "special-get-raises" true).params os).abs, cE PySem.Challenge.pw_tx0020_01, ⟨19, 9, 19, 74⟩) := seg_go (segGo_of (a12_1 w os)) (seg_go (segGo_of (t12_0 _ os _ _)) (seg_go (segGo_of (t12_8 _ os _ _)) (seg_go (segGo_of (t12_16 _ os _ _)) (seg_go (segGo_of (t12_24 _ os _ _)) (seg_go (segGo_of (t12_32 _ os _ _)) (seg_go (segGo_of (t12_40 _ os _ _)) (seg_go (segGo_of (t12_48 _ os _ _)) (seg_go (segGo_of (t12_56 _ os _ _)) (seg_go (segGo_of (t12_64 _ os _ _)) (segRun_of (e12_1 w os)))))))))))
theorem br12_1 (w : World) : Pr12 (w.withFollow "special-get-raises" true) := fun os => by
  have h := brr12_1 w os
  rw [show 44 + (360 + (360 + (360 + (360 + (360 + (360 + (360 + (360 + (135 + (18)))))))))) = 3077 from rfl] at h
  exact h
theorem hs12 (w : World) : Pr12 w := byRow2 "special-get-raises" br12_0 br12_1 w
noncomputable def Pr14 : World → Prop := fun w => ∀ os, segRun treeTable PySem.Challenge.pw_tx0020_01 w 11 ann0 1 4303 (S_p13 PySem.Challenge.pw_tx0020_01 w.params os).abs (pieceOf (st PySem.Challenge.pw_tx0020_01 14) (env0 PySem.Challenge.pw_tx0020_01) (cE PySem.Challenge.pw_tx0020_01) ⟨21, 0, 21, 28⟩ B0) = some (.next, (S_p14 PySem.Challenge.pw_tx0020_01 w.params os).abs, cE PySem.Challenge.pw_tx0020_01, ⟨22, 9, 22, 110⟩)
theorem brr14_0 (w : World) (os : OsState) : segRun treeTable PySem.Challenge.pw_tx0020_01 (w.withFollow "special-get-raises" false) 11 ann0 1 (10 + (360 + (360 + (360 + (360 + (360 + (360 + (360 + (360 + (360 + (360 + (360 + (315 + (18)))))))))))))) (S_p13 PySem.Challenge.pw_tx0020_01 (w.withFollow "special-get-raises" false).params os).abs (pieceOf (st PySem.Challenge.pw_tx0020_01 14) (env0 PySem.Challenge.pw_tx0020_01) (cE PySem.Challenge.pw_tx0020_01) ⟨21, 0, 21, 28⟩ B0) = some (.next, (S_p14 PySem.Challenge.pw_tx0020_01 (w.withFollow "special-get-raises" false).params os).abs, cE PySem.Challenge.pw_tx0020_01, ⟨22, 9, 22, 110⟩) := seg_go (segGo_of (a14_0 w os)) (seg_go (segGo_of (t14_0 _ os _ _)) (seg_go (segGo_of (t14_8 _ os _ _)) (seg_go (segGo_of (t14_16 _ os _ _)) (seg_go (segGo_of (t14_24 _ os _ _)) (seg_go (segGo_of (t14_32 _ os _ _)) (seg_go (segGo_of (t14_40 _ os _ _)) (seg_go (segGo_of (t14_48 _ os _ _)) (seg_go (segGo_of (t14_56 _ os _ _)) (seg_go (segGo_of (t14_64 _ os _ _)) (seg_go (segGo_of (t14_72 _ os _ _)) (seg_go (segGo_of (t14_80 _ os _ _)) (seg_go (segGo_of (t14_88 _ os _ _)) (segRun_of (e14_0 w os))))))))))))))
theorem br14_0 (w : World) : Pr14 (w.withFollow "special-get-raises" false) := fun os => by
  have h := brr14_0 w os
  rw [show 10 + (360 + (360 + (360 + (360 + (360 + (360 + (360 + (360 + (360 + (360 + (360 + (315 + (18))))))))))))) = 4303 from rfl] at h
  exact h
theorem brr14_1 (w : World) (os : OsState) : segRun treeTable PySem.Challenge.pw_tx0020_01 (w.withFollow "special-get-raises" true) 11 ann0 1 (10 + (360 + (360 + (360 + (360 + (360 + (360 + (360 + (360 + (360 + (360 + (360 + (315 + (18)))))))))))))) (S_p13 PySem.Challenge.pw_tx0020_01 (w.withFollow "special-get-raises" true).params os).abs (pieceOf (st PySem.Challenge.pw_tx0020_01 14) (env0 PySem.Challenge.pw_tx0020_01) (cE PySem.Challenge.pw_tx0020_01) ⟨21, 0, 21, 28⟩ B0) = some (.next, (S_p14 PySem.Challenge.pw_tx0020_01 (w.withFollow "special-get-raises" true).params os).abs, cE PySem.Challenge.pw_tx0020_01, ⟨22, 9, 22, 110⟩) := seg_go (segGo_of (a14_1 w os)) (seg_go (segGo_of (t14_0 _ os _ _)) (seg_go (segGo_of (t14_8 _ os _ _)) (seg_go (segGo_of (t14_16 _ os _ _)) (seg_go (segGo_of (t14_24 _ os _ _)) (seg_go (segGo_of (t14_32 _ os _ _)) (seg_go (segGo_of (t14_40 _ os _ _)) (seg_go (segGo_of (t14_48 _ os _ _)) (seg_go (segGo_of (t14_56 _ os _ _)) (seg_go (segGo_of (t14_64 _ os _ _)) (seg_go (segGo_of (t14_72 _ os _ _)) (seg_go (segGo_of (t14_80 _ os _ _)) (seg_go (segGo_of (t14_88 _ os _ _)) (segRun_of (e14_1 w os))))))))))))))
theorem br14_1 (w : World) : Pr14 (w.withFollow "special-get-raises" true) := fun os => by
  have h := brr14_1 w os
  rw [show 10 + (360 + (360 + (360 + (360 + (360 + (360 + (360 + (360 + (360 + (360 + (360 + (315 + (18))))))))))))) = 4303 from rfl] at h
  exact h
theorem hs14 (w : World) : Pr14 w := byRow2 "special-get-raises" br14_0 br14_1 w
noncomputable def Pr18 : World → Prop := fun w => ∀ os, segRun treeTable PySem.Challenge.pw_tx0020_01 w 11 ann0 1 118 (S_p17 PySem.Challenge.pw_tx0020_01 w.params os).abs (pieceOf (st PySem.Challenge.pw_tx0020_01 18) (env0 PySem.Challenge.pw_tx0020_01) (cE PySem.Challenge.pw_tx0020_01) ⟨31, 0, 31, 23⟩ B0) = some (.next, (S_p18 PySem.Challenge.pw_tx0020_01 w.params os).abs, cE PySem.Challenge.pw_tx0020_01, ⟨32, 9, 32, 16⟩)
theorem brr18_0 (w : World) (os : OsState) : segRun treeTable PySem.Challenge.pw_tx0020_01 (w.withFollow "special-get-raises" false) 11 ann0 1 (10 + (90 + (18))) (S_p17 PySem.Challenge.pw_tx0020_01 (w.withFollow "special-get-raises" false).params os).abs (pieceOf (st PySem.Challenge.pw_tx0020_01 18) (env0 PySem.Challenge.pw_tx0020_01) (cE PySem.Challenge.pw_tx0020_01) ⟨31, 0, 31, 23⟩ B0) = some (.next, (S_p18 PySem.Challenge.pw_tx0020_01 (w.withFollow "special-get-raises" false).params os).abs, cE PySem.Challenge.pw_tx0020_01, ⟨32, 9, 32, 16⟩) := seg_go (segGo_of (a18_0 w os)) (seg_go (segGo_of (t18_0 _ os _ _)) (segRun_of (e18_0 w os)))
theorem br18_0 (w : World) : Pr18 (w.withFollow "special-get-raises" false) := fun os => by
  have h := brr18_0 w os
  rw [show 10 + (90 + (18)) = 118 from rfl] at h
  exact h
theorem brr18_1 (w : World) (os : OsState) : segRun treeTable PySem.Challenge.pw_tx0020_01 (w.withFollow "special-get-raises" true) 11 ann0 1 (10 + (90 + (18))) (S_p17 PySem.Challenge.pw_tx0020_01 (w.withFollow "special-get-raises" true).params os).abs (pieceOf (st PySem.Challenge.pw_tx0020_01 18) (env0 PySem.Challenge.pw_tx0020_01) (cE PySem.Challenge.pw_tx0020_01) ⟨31, 0, 31, 23⟩ B0) = some (.next, (S_p18 PySem.Challenge.pw_tx0020_01 (w.withFollow "special-get-raises" true).params os).abs, cE PySem.Challenge.pw_tx0020_01, ⟨32, 9, 32, 16⟩) := seg_go (segGo_of (a18_1 w os)) (seg_go (segGo_of (t18_0 _ os _ _)) (segRun_of (e18_1 w os)))
theorem br18_1 (w : World) : Pr18 (w.withFollow "special-get-raises" true) := fun os => by
  have h := brr18_1 w os
  rw [show 10 + (90 + (18)) = 118 from rfl] at h
  exact h
theorem hs18 (w : World) : Pr18 w := byRow2 "special-get-raises" br18_0 br18_1 w
theorem body_eq : behindTheImports PySem.Challenge.pw_tx0020_01 = [st PySem.Challenge.pw_tx0020_01 0, st PySem.Challenge.pw_tx0020_01 1, st PySem.Challenge.pw_tx0020_01 2, st PySem.Challenge.pw_tx0020_01 3, st PySem.Challenge.pw_tx0020_01 4, st PySem.Challenge.pw_tx0020_01 5, st PySem.Challenge.pw_tx0020_01 6, st PySem.Challenge.pw_tx0020_01 7, st PySem.Challenge.pw_tx0020_01 8, st PySem.Challenge.pw_tx0020_01 9, st PySem.Challenge.pw_tx0020_01 10, st PySem.Challenge.pw_tx0020_01 11, st PySem.Challenge.pw_tx0020_01 12, st PySem.Challenge.pw_tx0020_01 13, st PySem.Challenge.pw_tx0020_01 14, st PySem.Challenge.pw_tx0020_01 15, st PySem.Challenge.pw_tx0020_01 16, st PySem.Challenge.pw_tx0020_01 17, st PySem.Challenge.pw_tx0020_01 18, st PySem.Challenge.pw_tx0020_01 19, st PySem.Challenge.pw_tx0020_01 20, st PySem.Challenge.pw_tx0020_01 21, st PySem.Challenge.pw_tx0020_01 22, st PySem.Challenge.pw_tx0020_01 23, st PySem.Challenge.pw_tx0020_01 24, st PySem.Challenge.pw_tx0020_01 25] := by kernel_rfl
theorem runAll : ∃ M, Nat.ble M 40000 = true ∧ ∀ (w : World) (os : OsState), topRun treeTable PySem.Challenge.pw_tx0020_01 w 11 ann0 M ⟨boot_heap w.params, Array.mk [], boot_drawn, boot_toks, os⟩ (topStub PySem.Challenge.pw_tx0020_01) = some (S_fin PySem.Challenge.pw_tx0020_01 w.params os).abs := by
  refine ⟨?M, ?b, fun w os => ?r⟩
  case r => exact go_top (h_pre w os) (piece_block (h_block w os) (by rw [body_eq]; exact piece_cons (segRun_of (h_p0 w os)) (piece_cons (segRun_of (h_p1 w os)) (piece_cons (segRun_of (h_p2 w os)) (piece_cons (segRun_of (h_p3 w os)) (piece_cons (hs4 w os) (piece_cons (segRun_of (h_p5 w os)) (piece_cons (segRun_of (h_p6 w os)) (piece_cons (segRun_of (h_p7 w os)) (piece_cons (segRun_of (h_p8 w os)) (piece_cons (segRun_of (h_p9 w os)) (piece_cons (segRun_of (h_p10 w os)) (piece_cons (segRun_of (h_p11 w os)) (piece_cons (hs12 w os) (piece_cons (segRun_of (h_p13 w os)) (piece_cons (hs14 w os) (piece_cons (segRun_of (h_p15 w os)) (piece_cons (segRun_of (h_p16 w os)) (piece_cons (segRun_of (h_p17 w os)) (piece_cons (hs18 w os) (piece_cons (segRun_of (h_p19 w os)) (piece_cons (segRun_of (h_p20 w os)) (piece_cons (segRun_of (h_p21 w os)) (piece_cons (segRun_of (h_p22 w os)) (piece_cons (segRun_of (h_p23 w os)) (piece_cons (segRun_of (h_p24 w os)) (piece_cons (segRun_of (h_p25 w os)) (piece_nil (h_fin w os)))))))))))))))))))))))))))))
  case b => rfl
noncomputable abbrev lvK : List (Str × WData) := [(Str.ofString "ascii_letters", WData.str (Str.ofString "abcdefghijklmnopqrstuvwxyzABCDEFGHIJKLMNOPQRSTUVWXYZ"))]
noncomputable abbrev looseK : List Str := [Str.ofString "_QUOPRI_MAP", Str.ofString "_QUOPRI_HEADER_MAP", Str.ofString "_QUOPRI_BODY_MAP", Str.ofString "ascii_letters", Str.ofString "header_encode", Str.ofString "_QUOPRI_BODY_ENCODE_MAP", Str.ofString "body_encode"]
noncomputable def XtK (s : Shared) : Bool := xlAt vw lvK s && recOk (RowW.records (OpenRow.toRowW (OpenLaw.row PySem.Challenge.rw_tx0020_01))) s
noncomputable def HkK : Hook := kHook KK asK asK_eq
theorem op_f (s : Shared) : fenceModules? PySem.Challenge.pw_tx0020_01 s = some s := by kernel_rfl
theorem tw1 : (fun (_ : _) => true) (XtK, looseK) = true := by k_qdec
theorem h_open (w : World) : importEnds treeTable (opening PySem.Challenge.pw_tx0020_01) w 600 (start (opening PySem.Challenge.pw_tx0020_01)).1 (start (opening PySem.Challenge.pw_tx0020_01)).2 = some ⟨boot_heap w.params, Array.mk [], boot_drawn, boot_toks, (start (opening PySem.Challenge.pw_tx0020_01)).1.os⟩ := by
  rewrite [PySem.W.Fast.te10274390034422433532, PySem.W.Fast.te14364793385576792824, PySem.W.Fast.te16771354143952684269, PySem.W.Fast.te1435165496053646825]
  kernel_rfl
theorem h_size (w : World) : ((boot_heap w.params).isNs mainGlobals && (Array.mk ([] : List GenState)).size == 0, (boot_heap w.params).objs.size, (boot_heap w.params).nsMap mainGlobals "__annotations__") = (true, 11, ann0) := by
  rewrite [PySem.W.Fast.te8920871248978507458]
  kernel_rfl
theorem lk1 (w : World) (os : OsState) : (staticsOk (importedModules (Module.body (Program.main PySem.Challenge.pw_tx0020_01))) (boot_heap w.params) (S_fin PySem.Challenge.pw_tx0020_01 w.params os).abs.heap && namesBound PySem.Challenge.pw_tx0020_01 (S_fin PySem.Challenge.pw_tx0020_01 w.params os).abs.heap && gensDone (S_fin PySem.Challenge.pw_tx0020_01 w.params os).abs && laidKept (boot_heap w.params) (S_fin PySem.Challenge.pw_tx0020_01 w.params os).abs.heap) = true := by
  rewrite [PySem.W.Fast.te5923862056798008813, PySem.W.Fast.te16771354143952684269, PySem.W.Fast.te5637361245888845362]
  kernel_rfl
theorem lk2 (w : World) (os : OsState) : openSeen vw looseK (importedModules (Module.body (Program.main PySem.Challenge.pw_tx0020_01))) XtK true (S_fin PySem.Challenge.pw_tx0020_01 w.params os).abs = openGood vw looseK := by
  rewrite [PySem.W.Fast.te4187177175401517315, PySem.W.Fast.te12819490794606841977, PySem.W.Fast.te5923862056798008813, PySem.W.Fast.te16771354143952684269, PySem.W.Fast.te15395065099583553066, PySem.W.Fast.te5637361245888845362]
  kernel_rfl
theorem lk3 (w : World) (os : OsState) : asK.map (S_fin PySem.Challenge.pw_tx0020_01 w.params os).abs.heap.get? = (KK w.params).map (fun p => some p.2) := by
  rewrite [PySem.W.R.mapR_eq, PySem.W.Fast.te5637361245888845362, PySem.W.Fast.te16771354143952684269]
  kernel_rfl
theorem leftK : LeftO PySem.Challenge.pw_tx0020_01 vw looseK XtK (Hook.obs HkK) (Hook.val HkK) 40000 := by
  obtain ⟨M, hM, hr⟩ := runAll
  exact LeftO.of_pieces (H₀ := boot_heap) (H₁ := fun P => absHeap (T_fin PySem.Challenge.pw_tx0020_01 P) 90 {}) (gs₀ := Array.mk []) (gs₁ := Array.mk []) (d₀ := boot_drawn) (d₁ := {}) (k₀ := boot_toks) (k₁ := 1818) (m₀ := 11) (ann := ann0) (M := M)
    (open_cut (He := boot_heap) (ge := Array.mk []) (de := boot_drawn) (ke := boot_toks) h_open rfl (fun w => funext fun os => by rw [op_f]; rfl)) h_size hr hM (fun w => funext fun os => Prod.ext (lk1 w os) (Prod.ext (lk2 w os) (lk3 w os)))
end Mine
namespace Mine
open PySem.Calls
abbrev CallIn (prog : Program) (w : World) (K : Frag) (p : Program) (loose : List Str) (mean : ExcName → Option Value) (mg mb : Str → Option Value) (f : Addr) (lev : Nat) (vs : List Value)
    (Ret : (h₀ : Heap) → (L : Addr) → (m : Str → Option Value) → (news : List (Addr × Obj)) → (s : Shared) → (Q : Value → Shared → Prop) → Prop) : Prop :=
  ∀ (dp un : Nat) (gd : Option (List Code)) (cn : Str) (cs : Scope) (a : Addr) (ccd : Value) (cl : List (Str × Addr)) (outer : List Env) (A₀ : Around) (base h₀ : Heap) (L : Addr) (m : Str → Option Value) (news : List (Addr × Obj)) (s : Shared) (Q E : Value → Shared → Prop),
    Below A₀ base outer h₀ → Fr h₀ L s.heap m → K.In h₀ → News h₀ L s.heap news → Top p loose mean mg mb h₀ → cs.kind = .function → dp + lev < recursionLimit → un + 8 * lev < cLine →
    Ret h₀ L m news s Q → wpAny (model prog w) (ktrTop dp un gd cn cs L a ccd cl outer) (call (.ref f) vs) Q E s
theorem CallIn.use {prog : Program} {w : World} {K : Frag} {p : Program} {loose : List Str} {mean : ExcName → Option Value} {mg mb : Str → Option Value} {f : Addr} {lev : Nat} {vs : List Value}
    {Ret : (h₀ : Heap) → (L : Addr) → (m : Str → Option Value) → (news : List (Addr × Obj)) → (s : Shared) → (Q : Value → Shared → Prop) → Prop} (C : CallIn prog w K p loose mean mg mb f lev vs Ret)
    {dp un : Nat} {gd : Option (List Code)} {cn : Str} {cs : Scope} {a : Addr} {ccd : Value} {cl : List (Str × Addr)} {outer : List Env} {A₀ : Around} {base h₀ : Heap} {L : Addr} {m : Str → Option Value} {news : List (Addr × Obj)} {s : Shared} {Q E : Value → Shared → Prop}
    (B : Below A₀ base outer h₀) (F : Fr h₀ L s.heap m) (X : K.In h₀) (N : News h₀ L s.heap news) (T : Top p loose mean mg mb h₀) (hk : cs.kind = .function) (hd : dp + lev < recursionLimit) (hu : un + 8 * lev < cLine) (r : Ret h₀ L m news s Q) :
    wpAny (model prog w) (ktrTop dp un gd cn cs L a ccd cl outer) (call (.ref f) vs) Q E s := C dp un gd cn cs a ccd cl outer A₀ base h₀ L m news s Q E B F X N T hk hd hu r
structure RetI (x : Int) (h₀ : Heap) (L : Addr) (m : Str → Option Value) (news : List (Addr × Obj)) (s : Shared) (Q : Value → Shared → Prop) : Prop where
  ret : ∀ (t : Tok) (h' : Heap) (tk' : Nat), Fr h₀ L h' m → News h₀ L h' news → Q (.int x t) { s with heap := h', toks := tk' }
structure RetS (x : Str) (h₀ : Heap) (L : Addr) (m : Str → Option Value) (news : List (Addr × Obj)) (s : Shared) (Q : Value → Shared → Prop) : Prop where
  ret : ∀ (t : Tok) (h' : Heap) (tk' : Nat), Fr h₀ L h' m → News h₀ L h' news → Q (.str x t) { s with heap := h', toks := tk' }
structure RetL (xs : List Int) (h₀ : Heap) (L : Addr) (m : Str → Option Value) (news : List (Addr × Obj)) (s : Shared) (Q : Value → Shared → Prop) : Prop where
  ret : ∀ (l : Addr) (vs : List Value) (n : Nat) (h' : Heap) (tk' : Nat), Fr h₀ L h' m → News h₀ L h' ((l, W.listOf vs.toArray n) :: news) → IntsAre vs xs → LCg.Off1 l news → Q (.ref l) { s with heap := h', toks := tk' }
section
variable {prog : Program} {w : World} {A₀ A : Around} {s : Shared} {base h₀ : Heap} {outer : List Env} {L : Addr} {m mg mb : Str → Option Value} {env : Env} {news : List (Addr × Obj)} {K : Frag} {p : Program} {loose : List Str} {mean : ExcName → Option Value}
theorem code_def0 {R : Result → Shared → Prop} {name qual : Str} {params : Arguments} {body : List Stmt} {scope : Scope} {dV kV doc pm cdv ct oc : Value} {an od : Option Addr} {osl : Array (Option Value)} {f : Addr} {args : Args} {binds : List (Str × Value)}
    (B : Below A₀ base outer h₀) (F : Fr h₀ L s.heap m) (X₀ : K.In h₀) (N : News h₀ L s.heap news) (T : Top p loose mean mg mb h₀) (hA : A.frames = some (env :: outer)) (hf : env.frame = some L) (hke : env.scope.kind = .function)
    (ho : K.lookup f = some ⟨oc, od, .func (fnOf name qual params body scope dV kV doc pm an cdv ct), osl⟩) (hcd : codeIn K cdv qual = true) (hroom : A.depth < recursionLimit)
    (hbind : BindsTo s (fnOf name qual params body scope dV kV doc pm an cdv ct) args binds) (hloc : ∀ y ∈ binds, scope.names.lookup y.1 = some .local)
    (h : ∀ g L' h₁, Fr h₀ L g m → News h₀ L g news → Fr g L' h₁ (fun y => binds.reverse.lookup y) → News g L' h₁ [] → Below A base (env :: outer) g → K.In g → Top p loose mean mg mb g →
      wpAny (model prog w) (A.deeper (envOf qual scope L' f cdv)) (execs body (envOf qual scope L' f cdv))
        (fun fl s' => LeaveK h₀ L m g R (match fl with | .ret v => v | _ => .none) s')
        (fun e s' => wpAny (model prog w) (A.deeper (envOf qual scope L' f cdv)) (leaving (envOf qual scope L' f cdv) e) (fun _ s'' => R (.error e) s'') (fun e' s'' => R (.error e') s'') s')
        { s with heap := h₁, toks := s.toks + binds.length })
    (hco : scope.isCoroutine = false) (hgen : scope.isGenerator = false) (hk : scope.kind = .function)
    (hcell : ∀ x ∈ scope.names, x.2 ≠ .cell) : codeAny (model prog w) A (.call (.ref f) args) R s := by
  have N0 : News h₀ L s.heap [] := News.nil
  obtain ⟨FG, BG, st, lv⟩ := groundX (R := R) B F N0 hA hf hke
  refine codeAny_call_def (fd := fnOf name qual params body scope dV kV doc pm an cdv ct) (body := body) (binds := binds) hroom ((X₀.keeps F.keep) _ _ ho) rfl (T.nolimit.keeps F.keep) (codeRec_of (X₀.keeps F.keep) hcd) rfl hbind hcell hloc (fun h₁ hns hk₁ => ?_) hco hgen hk
  exact wpAny_mono (h _ s.heap.objs.size h₁ FG N ⟨hns, fun b o e => hk₁ b o e, Nat.le_refl _⟩ News.nil BG (X₀.keeps st) (T.keeps st)) (fun fl s' hl => lv _ _ hl) fun _ _ y => y
end
section
variable {M : Model} {A : Around} {E : Value → Shared → Prop} {s : Shared} {env : Env} {Q : Flow → Shared → Prop} {J : Shared → Prop}
theorem execs_app {l r : List Stmt} (h1 : wpAny M A (execs l env) (fun f s' => match f with | .next => J s' | f => Q f s') E s) (h2 : ∀ s', J s' → wpAny M A (execs r env) Q E s') : wpAny M A (execs (l ++ r) env) Q E s := by
  intro Γ p hΓ
  have key : ∀ (l : List Stmt) (p : Pos) (s : Shared), Sem.wp M Γ (execs l env) (fun f _ s' => match f with | .next => J s' | f => Q f s') (fun e _ s' => E e s') p s → Sem.wp M Γ (execs (l ++ r) env) (fun f _ s' => Q f s') (fun e _ s' => E e s') p s := by
    intro l
    induction l with
    | nil => exact fun p s h => h2 s h Γ p hΓ
    | cons a l ih =>
      intro p s h
      rw [execs_cons, Sem.wp_bind'] at h
      show Sem.wp M Γ (execs (a :: (l ++ r)) env) _ _ p s
      rw [execs_cons, Sem.wp_bind']
      refine Sem.wp_mono M Γ _ (fun f p' s' h' => ?_) (fun _ _ _ h' => h') p s h
      cases f with
      | next => exact ih p' s' h'
      | brk => exact h'
      | cont => exact h'
      | ret v => exact h'
  exact key l p s (h1 Γ p hΓ)
/-- two statements first, then the rest from what they leave -/
theorem execs_two {a b : Stmt} {r : List Stmt} (J : Shared → Prop) (h1 : wpAny M A (execs [a, b] env) (fun f s' => match f with | .next => J s' | f => Q f s') E s) (h2 : ∀ s', J s' → wpAny M A (execs r env) Q E s') :
    wpAny M A (execs (a :: b :: r) env) Q E s := execs_app (l := [a, b]) h1 h2
theorem execs_one {a : Stmt} {r : List Stmt} (J : Shared → Prop) (h1 : wpAny M A (execs [a] env) (fun f s' => match f with | .next => J s' | f => Q f s') E s) (h2 : ∀ s', J s' → wpAny M A (execs r env) Q E s') :
    wpAny M A (execs (a :: r) env) Q E s := execs_app (l := [a]) h1 h2
end
section
variable {h₀ g h' : Heap} {L L' l : Addr} {m m' : Str → Option Value} {news nl : List (Addr × Obj)} {s : Shared} {Q : Value → Shared → Prop}
theorem news_on (Ng : News h₀ L g news) (F' : Fr g L' h' m') : News h₀ L h' news := fun p hp => ⟨F'.keep _ _ (Ng p hp).1, (Ng p hp).2⟩
theorem off_new (Ng : News h₀ L g news) (hl : g.get? l = none) : LCg.Off1 l news := by
  have key : ∀ n : List (Addr × Obj), (∀ p ∈ n, p ∈ news) → LCg.Off1 l n := by
    intro n
    induction n with
    | nil => exact fun _ => trivial
    | cons q r ih =>
      intro hs
      refine ⟨fun e => ?_, ih fun p hp => hs p (.tail _ hp)⟩
      have := (Ng q (hs q (.head _))).1
      rw [e, hl] at this
      cases this
  exact key news fun _ h => h
theorem ret_int {x y : Int} {t : Tok} {tk' : Nat} (hret : RetI x h₀ L m news s Q) (Ng : News h₀ L g news) (F' : Fr g L' h' m') (kF : Fr h₀ L h' m) (e : y = x) : Q (.int y t) { s with heap := h', toks := tk' } := by
  subst e; exact hret.ret t h' tk' kF (news_on Ng F')
theorem ret_str {x y : Str} {t : Tok} {tk' : Nat} (hret : RetS x h₀ L m news s Q) (Ng : News h₀ L g news) (F' : Fr g L' h' m') (kF : Fr h₀ L h' m) (e : y = x) : Q (.str y t) { s with heap := h', toks := tk' } := by
  subst e; exact hret.ret t h' tk' kF (news_on Ng F')
theorem ret_list {xs ys : List Int} {vs : List Value} {n tk' : Nat} (hret : RetL xs h₀ L m news s Q) (Ng : News h₀ L g news) (F' : Fr g L' h' m') (kF : Fr h₀ L h' m) (N' : News g L' h' nl) (kN : News h₀ L h' nl) (hm : (l, W.listOf vs.toArray n) ∈ nl) (hi : IntsAre vs ys) (e : ys = xs) :
    Q (.ref l) { s with heap := h', toks := tk' } := by
  subst e
  refine hret.ret l vs n h' tk' kF (fun p hp => ?_) hi (off_new Ng (N' _ hm).2.2)
  rcases List.mem_cons.mp hp with rfl | hp
  · exact kN _ hm
  · exact news_on Ng F' p hp
end
end Mine
namespace Mine
open PySem.Calls
/-- the text of what a hand writes -/
noncomputable def tx (hand o : Nat) : Str := ⟨(codes hand o).toArray⟩
/-- the body's table -/
noncomputable def bodyTx (o : Nat) : Str := if o = 9 ∨ o = 10 ∨ o = 13 ∨ (32 ≤ o ∧ o ≤ 126 ∧ o ≠ 61) then ⟨#[o]⟩ else ⟨#[61, hexd (o / 16), hexd (o % 16)]⟩
structure IsTab (K : Frag) (a : Addr) (f : Nat → Str) : Prop where
  tab : ∃ (l : List Value) (dd : Option Addr) (n : Nat) (sl : Array (Option Value)), K.lookup a = some ⟨.type "list", dd, .seq l.toArray n, sl⟩ ∧ ∀ o, o < 256 → ∃ u, l[o]? = some (.str (f o) u)
section
variable {prog : Program} {w : World} {A : Around} {E : Value → Shared → Prop} {s : Shared} {h₀ : Heap} {L a : Addr} {m : Str → Option Value} {K : Frag} {f : Nat → Str} {o : Nat} {t : Tok}
theorem tab_item {value slice : Expr} {Q : Value → Shared → Prop} (I : IsTab K a f) (F : Fr h₀ L s.heap m) (X₀ : K.In h₀) (ho : o < 256) (h : ∀ u, Q (.str (f o) u) s)
    (hs : subscripted slice false (.ref a) (.int (o : Int) t) = operate [.ref a, .int (o : Int) t] (getItem (.ref a) (.int (o : Int) t)) := by with_unfolding_all rfl) :
    wpAny (model prog w) A (subscriptTail value slice (.ref a) (.int (o : Int) t)) Q E s := by
  obtain ⟨l, dd, n, sl, hl, hx⟩ := I.tab
  obtain ⟨u, hu⟩ := hx o ho
  exact topList_K F X₀ hl (by omega) (by omega) (by simpa using hu) (h u) hs
theorem tab_trx {x : Str} {Q : Value → Shared → Prop} (I : IsTab K a f) (F : Fr h₀ L s.heap m) (X₀ : K.In h₀) (ho : o < 256) (e : f o = x) (hz : x.length ≤ 100) (h : ∀ t' k, Q (.str x t') { s with toks := k }) :
    wpAny (model prog w) A (call (.builtin "str.translate") [.str ⟨#[o]⟩ t, .ref a]) Q E s := by
  subst e
  obtain ⟨l, dd, n, sl, hl, hx⟩ := I.tab
  obtain ⟨u, hu⟩ := hx o ho
  exact tr_one (lstK (X₀.keeps F.keep) hl) ho (by simpa using hu) hz h
theorem tab_tr {Q : Value → Shared → Prop} (I : IsTab K a f) (F : Fr h₀ L s.heap m) (X₀ : K.In h₀) (ho : o < 256) (hz : (f o).length ≤ 100) (h : ∀ t' k, Q (.str (f o) t') { s with toks := k }) :
    wpAny (model prog w) A (call (.builtin "str.translate") [.str ⟨#[o]⟩ t, .ref a]) Q E s := by
  obtain ⟨l, dd, n, sl, hl, hx⟩ := I.tab
  obtain ⟨u, hu⟩ := hx o ho
  exact tr_one (lstK (X₀.keeps F.keep) hl) ho (by simpa using hu) hz h
end
section
variable {prog : Program} {w : World} {A : Around} {E : Value → Shared → Prop} {s : Shared} {b : UInt8} {t u : Tok}
theorem truthy_one {Q : Bool → Shared → Prop} (h : Q true { s with toks := s.toks + 1 + 1 }) : wpAny (model prog w) A (truthy (.bytes [b].toArray t)) Q E s :=
  truthy_bytes (by show 1 ≤ 1099511627776; decide) h
theorem lat_o {o : Nat} {Q : Value → Shared → Prop} (hb : b.toNat = o) (h : ∀ t' k, Q (.str ⟨#[o]⟩ t') { s with toks := k }) :
    wpAny (model prog w) A (call (.builtin "bytes.decode") [.bytes [b].toArray t, .str (PySem.Str.ofString "latin1") u]) Q E s := by
  subst hb; exact lat h
end
structure EndOk (x : Str) : Prop where
  sp : (Builtin.Str.occurrences (Str.ofString " \t") (Txt.item x (-1)) 0 (Str.ofString " \t").length 1).isEmpty = true
  cr : (Builtin.Str.occurrences (Str.ofString "\r\n") (Txt.item x (-1)) 0 (Str.ofString "\r\n").length 1).isEmpty = true
structure EndSp (x : Str) (o : Nat) : Prop where
  sp : (Builtin.Str.occurrences (Str.ofString " \t") (Txt.item x (-1)) 0 (Str.ofString " \t").length 1).isEmpty = false
  cr : (Builtin.Str.occurrences (Str.ofString "\r\n") (Txt.item x (-1)) 0 (Str.ofString "\r\n").length 1).isEmpty = true
  it : Txt.item x (-1) = ⟨#[o]⟩
structure EndCr (x : Str) : Prop where
  cr : (Builtin.Str.occurrences (Str.ofString "\r\n") (Txt.item x (-1)) 0 (Str.ofString "\r\n").length 1).isEmpty = false
theorem ite_no {b : Bool} {a c : Prop} (h : b = false) (k : c) : if b = true then a else c := by subst h; exact k
theorem map_one {l : List (Str × Tok)} {y : Str} (h : l.map (·.1) = [y]) : ∃ t, l = [(y, t)] := by
  match l, h with
  | [(a, t)], h => exact ⟨t, by simpa using h⟩
theorem lines_one {prog : Program} {w : World} {A : Around} {E : Value → Shared → Prop} {s : Shared} {h₀ : Heap} {L : Addr} {m : Str → Option Value} {news : List (Addr × Obj)} {x y : Str} {t : Tok} {Q : Value → Shared → Prop}
    (F : Fr h₀ L s.heap m) (N : News h₀ L s.heap news) (hy : Txt.lines x = [y]) (hz : x.length ≤ 100)
    (h : ∀ q h' k u, Fr h₀ L h' m → News h₀ L h' ((q, W.listOf #[.str y u] 0) :: news) → (∀ p ∈ news, p.1 < q) → Q (.ref q) { s with heap := h', toks := k }) :
    wpAny (model prog w) A (call (.builtin "str.splitlines") [.str x t]) Q E s := by
  refine splitlinesNA F N (fun l h' k e _ _ _ F' N' => ?_) (by rw [sizeLine_eq]; omega)
  obtain ⟨u, rfl⟩ := map_one (e.trans hy)
  exact h _ h' k u F' N' fun p hp => Heap.lt_size (N p hp).1
section
variable {prog : Program} {w : World} {A : Around} {E : Value → Shared → Prop} {s : Shared} {h₀ : Heap} {L D : Addr} {news : List (Addr × Obj)} {x a b : Str} {t u v : Tok} {n : Nat} {Q : Value → Shared → Prop}
theorem join_one9 (N : News h₀ L s.heap news) (hm : (D, W.listOf ((#[] : Array Value).push (.str a u)) n) ∈ news) (hx : x.length ≤ 16) (ha : a.length ≤ 100)
    (h : ∀ t' k, Q (.str (Txt.join x [a]) t') { s with toks := k }) : wpAny (model prog w) A (call (.builtin "str.join") [.str x t, .ref D]) Q E s :=
  join_listW (items := (#[] : Array Value).push (.str a u)) ⟨_, (N _ hm).1, rfl, n, rfl⟩ (StrsAre.cons _ _ .nil) hx (by simp only [List.map_cons, List.map_nil, List.sum_cons, List.sum_nil, List.length_cons, List.length_nil]; omega) h
theorem join_two9 (N : News h₀ L s.heap news) (hm : (D, W.listOf (((#[] : Array Value).push (.str a u)).push (.str b v)) n) ∈ news) (hx : x.length ≤ 16) (ha : a.length ≤ 100) (hb : b.length ≤ 100)
    (h : ∀ t' k, Q (.str (Txt.join x [a, b]) t') { s with toks := k }) : wpAny (model prog w) A (call (.builtin "str.join") [.str x t, .ref D]) Q E s :=
  join_listW (items := ((#[] : Array Value).push (.str a u)).push (.str b v)) ⟨_, (N _ hm).1, rfl, n, rfl⟩ (StrsAre.cons _ _ (StrsAre.cons _ _ .nil)) hx (by simp only [List.map_cons, List.map_nil, List.sum_cons, List.sum_nil, List.length_cons, List.length_nil]; omega) h
end
theorem tx_len (hand o : Nat) : (tx hand o).length ≤ 100 := by
  unfold tx codes
  show (Array.size _) ≤ 100
  repeat' split
  all_goals simp
theorem bodyTx_len (o : Nat) : (bodyTx o).length ≤ 100 := by
  unfold bodyTx
  split
  · show 1 ≤ 100; decide
  · show 3 ≤ 100; decide
end Mine
namespace Mine
open PySem.Calls
theorem fillK3 : PySem.Challenge.rw_tx0020_01 = PySem.Challenge.rw_tx0020_01 ∧ Mine.KK = Mine.KK := by
  k_fill
  exact ⟨rfl, rfl⟩
variable {w : World} {p : Program} {loose : List Str} {mean : ExcName → Option Value} {mg mb : Str → Option Value}
theorem tab_of {K : Frag} {a : Addr} {f : Nat → Str} {dd : Option Addr} {n : Nat} {sl : Array (Option Value)} (X : Array Value) (hl : K.lookup a = some ⟨.type "list", dd, .seq X n, sl⟩)
    (hx : ∀ o : Fin 256, (match X.toList[o.1]? with | some (.str s _) => decide (s = f o.1) | _ => false) = true) : IsTab K a f := by
  refine ⟨X.toList, dd, n, sl, hl, fun o ho => ?_⟩
  have h := hx ⟨o, ho⟩
  revert h
  show (match X.toList[o]? with | some (.str s _) => decide (s = f o) | _ => false) = true → _
  cases X.toList[o]? with
  | none => intro h; cases h
  | some v =>
    cases v with
    | str s u => intro h; exact ⟨u, by rw [of_decide_eq_true h]⟩
    | _ => intro h; cases h
theorem tabQ : IsTab (Mine.KK w.params) 24 (tx 0) := tab_of (dd := none) (n := 256) (sl := #[]) QF (by kernel_rfl) (by decide +kernel)
theorem tabH : IsTab (Mine.KK w.params) 29 (tx 1) := tab_of (dd := none) (n := 0) (sl := #[]) (HF.setIfInBounds 32 (.str ⟨#[95]⟩ 1449)) (by kernel_rfl) (by decide +kernel)
theorem tabB : IsTab (Mine.KK w.params) 54 bodyTx := tab_of (dd := none) (n := 0) (sl := #[]) (LE 2) (by kernel_rfl) (by decide +kernel)
open PySem.W in
local macro_rules | `(tactic| walk_at "subscriptTail") => `(tactic| (k_here; k_dflt (refine' tab_item tabQ ?F ?X ?o ?_ ?hs; (case F => assumption); (case X => assumption); (case o => omega); (case hs => with_unfolding_all rfl); intro _)))
theorem c_quote (o : Nat) (ho : o < 256) (t : Tok) : CallIn PySem.Challenge.pw_tx0020_01 w (Mine.KK w.params) p loose mean mg mb 44 1 [.str ⟨#[o]⟩ t] (RetS (tx 0 o)) := by
  k_with_none
  intro dp un gd cn cs a ccd cl outer A₀ base h₀ L m news s Q E B F X N T hk hdp hun hret
  refine wpAny_call ?_
  k_dflt (refine' code_def0 (binds := [(Str.ofString "c", Value.str ⟨#[o]⟩ t)]) B F X N T rfl rfl hk ?k6 ?k7 ?k8 ?k9 ?kB ?_ ?c2 ?c3 ?c4 ?c5; (case k6 => k_is); (case k7 => k_is); (case k8 => ktr_room); (case k9 => exact BindsTo.of_eq rfl); (case c5 => decide); (case kB => exact locs rfl); (case c2 => exact rfl); (case c3 => exact rfl); (case c4 => exact rfl); k_whole; intro g' L' h' FG' NG' F' N' B' X' T'; (try dsimp only); (try k_fold))
  k_steps
  all_goals first | exact ret_str hret NG' (by assumption) (by assumption) rfl
theorem c_quoteX (o : Nat) (ho : o < 256) (y : Str) (e : y = ⟨#[o]⟩) (t : Tok) : CallIn PySem.Challenge.pw_tx0020_01 w (Mine.KK w.params) p loose mean mg mb 44 1 [.str y t] (RetS (tx 0 o)) := by
  subst e
  exact c_quote o ho t
end Mine
namespace Mine
open PySem.Calls
theorem fillK5 : PySem.Challenge.rw_tx0020_01 = PySem.Challenge.rw_tx0020_01 ∧ Mine.KK = Mine.KK := by
  k_fill
  exact ⟨rfl, rfl⟩
variable {w : World} {p : Program} {loose : List Str} {mean : ExcName → Option Value} {mg mb : Str → Option Value}
local macro_rules | `(tactic| walk_at "truthy bytes") => `(tactic| (k_here; k_dflt (refine truthy_one ?_)))
local macro_rules | `(tactic| walk_at "call builtin:bytes.decode") => `(tactic| (k_here; k_dflt (refine lat_o (by assumption) ?_); intro _ _))
local macro_rules | `(tactic| walk_at "getMethod str") => `(tactic| with_reducible refine tr_get ?_)
local macro_rules | `(tactic| walk_at "call builtin:str.translate") => `(tactic| (k_here; k_dflt (refine' tab_trx tabH ?F ?X ?o ?e ?z ?_; (case F => assumption); (case X => assumption); (case o => omega); (case e => assumption); (case z => assumption); intro _ _)))
theorem c_head (b : UInt8) (o : Nat) (ho : o < 256) (hb : b.toNat = o) (x : Str) (hx : tx 1 o = x) (hl : x.length ≤ 100) (t u : Tok) : CallIn PySem.Challenge.pw_tx0020_01 w (Mine.KK w.params) p loose mean mg mb 52 1 [.bytes [b].toArray t, .str (Str.ofString "x") u] (RetS (Str.empty ++ Str.ofString "=?" ++ Str.ofString "x" ++ Str.ofString "?q?" ++ x ++ Str.ofString "?=")) := by
  k_with_none
  intro dp un gd cn cs a ccd cl outer A₀ base h₀ L m news s Q E B F X N T hk hdp hun hret
  refine wpAny_call ?_
  k_dflt (refine' code_def0 (binds := [(Str.ofString "header_bytes", Value.bytes [b].toArray t), (Str.ofString "charset", Value.str (Str.ofString "x") u)]) B F X N T rfl rfl hk ?k6 ?k7 ?k8 ?k9 ?kB ?_ ?c2 ?c3 ?c4 ?c5; (case k6 => k_is); (case k7 => k_is); (case k8 => ktr_room); (case k9 => first | exact BindsTo.of_eq rfl | exact binds_K (by k_in) rfl (by k_is) rfl rfl rfl); (case c5 => decide); (case kB => exact locs rfl); (case c2 => exact rfl); (case c3 => exact rfl); (case c4 => exact rfl); k_whole; intro g' L' h' FG' NG' F' N' B' X' T'; (try dsimp only); (try k_fold))
  k_steps
  all_goals first | exact ret_str hret NG' (by assumption) (by assumption) rfl
end Mine
namespace Mine
open PySem.Calls
theorem fillK6 : PySem.Challenge.rw_tx0020_01 = PySem.Challenge.rw_tx0020_01 ∧ Mine.KK = Mine.KK := by
  k_fill
  exact ⟨rfl, rfl⟩
variable {w : World} {p : Program} {loose : List Str} {mean : ExcName → Option Value} {mg mb : Str → Option Value}
local macro_rules | `(tactic| walk_at "getMethod str") => `(tactic| with_reducible refine tr_get ?_)
local macro_rules | `(tactic| walk_at "call builtin:str.splitlines") => `(tactic| (k_here; k_dflt (refine' lines_one ?F ?N ?y ?z ?_; (case F => assumption); (case N => assumption); (case y => assumption); (case z => assumption); k_whole; intro q' h' k' u' F' N' l1; k_lt l1)))
local macro_rules | `(tactic| walk_at "ite") => `(tactic| (first | (refine PySem.W.ite_pos (EndOk.sp (by with_reducible assumption)) ?_) | (refine PySem.W.ite_pos (EndOk.cr (by with_reducible assumption)) ?_)))
local macro_rules | `(tactic| walk_at "WhlIf") => `(tactic| (refine WhlIf.no (decide_eq_false (by omega)) ?_))
local macro_rules | `(tactic| walk_at "getAttr ref") => `(tactic| (k_here; k_dflt (refine' bm_getK ?F ?N ?m ?_; (case F => assumption); (case N => assumption); (case m => k_mem); k_whole; intro q' h' tk' F' N' l1; k_lt l1)))
local macro_rules | `(tactic| walk_at "callWith ref") => `(tactic| (k_here; k_dflt (refine' bm_with ?N ?m ?_ ?he ?hp; (case N => assumption); (case m => k_mem); (case he => rfl); (case hp => rfl); k_whole)))
local macro_rules | `(tactic| walk_at "And") => `(tactic| ((with_reducible show Heap.get? _ _ = _ ∧ _); k_dflt (refine ⟨News.get (by k_asm) (by k_mem), ?_⟩); try dsimp only [List.nil_append, List.cons_append]))
local macro_rules | `(tactic| walk_at "call ref") => `(tactic| (k_here; k_dflt (refine' bm_call ?F ?N ?q ?U ?_ ?z; (case F => assumption); (case N => assumption); (case q => k_mem); (case U => k_upd); (case z => size_fits); k_whole; intro h' F' N')))
local macro_rules | `(tactic| walk_at "call builtin:str.translate") => `(tactic| (k_here; k_dflt (refine' tab_trx tabB ?F ?X ?o ?e ?z ?_; (case F => assumption); (case X => assumption); (case o => omega); (case e => assumption); (case z => assumption); intro _ _)))
theorem c_body (o : Nat) (ho : o < 256) (x : Str) (hx : bodyTx o = x) (hl : x.length ≤ 100) (hy : Txt.lines x = [x]) (h0 : 0 < x.length) (h3 : x.length ≤ 3) (he : EndOk x) (y : Str) (hj : Txt.join (Str.ofString "\n") [Txt.slice x (some 0) none] = y) (t : Tok) : CallIn PySem.Challenge.pw_tx0020_01 w (Mine.KK w.params) p loose mean mg mb 65 3 [.str ⟨#[o]⟩ t] (RetS y) := by
  k_with_none
  intro dp un gd cn cs a ccd cl outer A₀ base h₀ L m news s Q E B F X N T hk hdp hun hret
  refine wpAny_call ?_
  k_dflt (refine' code_def0 (binds := [(Str.ofString "body", Value.str ⟨#[o]⟩ t), (Str.ofString "maxlinelen", Value.int 76 1763), (Str.ofString "eol", Value.str (Str.ofString "\n") 199)]) B F X N T rfl rfl hk ?k6 ?k7 ?k8 ?k9 ?kB ?_ ?c2 ?c3 ?c4 ?c5; (case k6 => k_is); (case k7 => k_is); (case k8 => ktr_room); (case k9 => first | exact BindsTo.of_eq rfl | exact binds_K (by k_in) rfl (by k_is) rfl rfl rfl); (case c5 => decide); (case kB => exact locs rfl); (case c2 => exact rfl); (case c3 => exact rfl); (case c4 => exact rfl); k_whole; intro g' L' h' FG' NG' F' N' B' X' T'; (try dsimp only); (try k_fold))
  k_steps
  all_goals first | exact ret_str hret NG' (by assumption) (by assumption) hj | (exfalso; omega)
end Mine
namespace Mine
open PySem.Calls
theorem fillK7 : PySem.Challenge.rw_tx0020_01 = PySem.Challenge.rw_tx0020_01 ∧ Mine.KK = Mine.KK := by
  k_fill
  exact ⟨rfl, rfl⟩
variable {w : World} {p : Program} {loose : List Str} {mean : ExcName → Option Value} {mg mb : Str → Option Value}
local macro_rules | `(tactic| walk_at "getMethod str") => `(tactic| with_reducible refine tr_get ?_)
local macro_rules | `(tactic| walk_at "call builtin:str.splitlines") => `(tactic| (k_here; k_dflt (refine' lines_one ?F ?N ?y ?z ?_; (case F => assumption); (case N => assumption); (case y => assumption); (case z => assumption); k_whole; intro q' h' k' u' F' N' l1; k_lt l1)))
local macro_rules | `(tactic| walk_at "call builtin:str.join") => `(tactic| (k_here; k_dflt (refine' join_one9 ?N ?m ?x ?a ?_; (case N => assumption); (case m => k_mem); (case x => decide); (case a => assumption); k_whole); intro _ _))
local macro_rules | `(tactic| walk_at "ite") => `(tactic| (first | (refine ite_no (EndSp.sp (by with_reducible assumption)) ?_) | (refine PySem.W.ite_pos (EndSp.cr (by with_reducible assumption)) ?_)))
local macro_rules | `(tactic| walk_at "WhlIf") => `(tactic| (refine WhlIf.no (decide_eq_false (by omega)) ?_))
local macro_rules | `(tactic| walk_at "getAttr ref") => `(tactic| (k_here; k_dflt (refine' bm_getK ?F ?N ?m ?_; (case F => assumption); (case N => assumption); (case m => k_mem); k_whole; intro q' h' tk' F' N' l1; k_lt l1)))
local macro_rules | `(tactic| walk_at "callWith ref") => `(tactic| (k_here; k_dflt (refine' bm_with ?N ?m ?_ ?he ?hp; (case N => assumption); (case m => k_mem); (case he => rfl); (case hp => rfl); k_whole)))
local macro_rules | `(tactic| walk_at "And") => `(tactic| ((with_reducible show Heap.get? _ _ = _ ∧ _); k_dflt (refine ⟨News.get (by k_asm) (by k_mem), ?_⟩); try dsimp only [List.nil_append, List.cons_append]))
local macro_rules | `(tactic| walk_at "call ref") => `(tactic| (k_here; k_dflt (refine' bm_call ?F ?N ?q ?U ?_ ?z; (case F => assumption); (case N => assumption); (case q => k_mem); (case U => k_upd); (case z => size_fits); k_whole; intro h' F' N')))
local macro_rules | `(tactic| walk_at "call builtin:str.translate") => `(tactic| (k_here; k_dflt (refine' tab_trx tabB ?F ?X ?o ?e ?z ?_; (case F => assumption); (case X => assumption); (case o => omega); (case e => assumption); (case z => assumption); intro _ _)))
local macro_rules | `(tactic| walk_at "binaryOp Add str str") => `(tactic| (k_here; k_dflt (refine PyProof.Rows.add_str ?_ (add_sz (by assumption))); intro _ _))
local macro_rules | `(tactic| walk_at "call ref") => `(tactic| (k_here; k_dflt (refine' CallIn.use (c_quoteX _ ?ho _ ?he _) ?k1 ?k2 ?k3 ?k4 ?k5 ?kK ?kd ?ku ?_; (case he => exact EndSp.it (by assumption)); (case ho => omega); (case k1 => k_asm); (case k2 => k_asm); (case k3 => k_asm); (case k4 => k_asm); (case k5 => k_asm); (case kK => first | exact rfl | assumption); (case kd => ktr_room); (case ku => ktr_units); k_whole; refine ⟨fun t9 h9 tk9 F9 N9 => ?_⟩; (try dsimp only); (try k_fold))))
theorem add_sz {x y : Str} (h : (x ++ y).length ≤ 100) : x.length + y.length ≤ sizeLine := by
  rw [sizeLine_eq]; have := KLn.ge_app x y; omega
theorem c_bodyS (o : Nat) (ho : o < 256) (x : Str) (hx : bodyTx o = x) (hl : x.length ≤ 100) (hy : Txt.lines x = [x]) (h0 : 0 < x.length) (h3 : x.length ≤ 3) (h1 : x.length = 1) (ha : (Txt.slice x (some 0) (some (-1)) ++ tx 0 o).length ≤ 100) (he : EndSp x o) (y : Str) (hj : Txt.join (Str.ofString "\n") [Txt.slice x (some 0) (some (-1)) ++ tx 0 o] = y) (t : Tok) : CallIn PySem.Challenge.pw_tx0020_01 w (Mine.KK w.params) p loose mean mg mb 65 3 [.str ⟨#[o]⟩ t] (RetS y) := by
  k_with_none
  intro dp un gd cn cs a ccd cl outer A₀ base h₀ L m news s Q E B F X N T hk hdp hun hret
  refine wpAny_call ?_
  k_dflt (refine' code_def0 (binds := [(Str.ofString "body", Value.str ⟨#[o]⟩ t), (Str.ofString "maxlinelen", Value.int 76 1763), (Str.ofString "eol", Value.str (Str.ofString "\n") 199)]) B F X N T rfl rfl hk ?k6 ?k7 ?k8 ?k9 ?kB ?_ ?c2 ?c3 ?c4 ?c5; (case k6 => k_is); (case k7 => k_is); (case k8 => ktr_room); (case k9 => first | exact BindsTo.of_eq rfl | exact binds_K (by k_in) rfl (by k_is) rfl rfl rfl); (case c5 => decide); (case kB => exact locs rfl); (case c2 => exact rfl); (case c3 => exact rfl); (case c4 => exact rfl); k_whole; intro g' L' h' FG' NG' F' N' B' X' T'; (try dsimp only); (try k_fold))
  k_steps
  all_goals first | exact ret_str hret NG' (by assumption) (by assumption) hj | (exfalso; omega) | (refine PyProof.Rows.add_str ?_ (add_sz ha); intro _ _; k_steps; all_goals exact ret_str hret NG' (by assumption) (by assumption) hj)
end Mine
namespace Mine
open PySem.Calls
theorem fillK8 : PySem.Challenge.rw_tx0020_01 = PySem.Challenge.rw_tx0020_01 ∧ Mine.KK = Mine.KK := by
  k_fill
  exact ⟨rfl, rfl⟩
variable {w : World} {p : Program} {loose : List Str} {mean : ExcName → Option Value} {mg mb : Str → Option Value}
local macro_rules | `(tactic| walk_at "getMethod str") => `(tactic| with_reducible refine tr_get ?_)
local macro_rules | `(tactic| walk_at "call builtin:str.splitlines") => `(tactic| (k_here; k_dflt (refine' lines_one ?F ?N ?y ?z ?_; (case F => assumption); (case N => assumption); (case y => assumption); (case z => assumption); k_whole; intro q' h' k' u' F' N' l1; k_lt l1)))
local macro_rules | `(tactic| walk_at "call builtin:str.join") => `(tactic| (k_here; k_dflt (refine' join_two9 ?N ?m ?x ?a ?b ?_; (case N => assumption); (case m => k_mem); (case x => decide); (case a => assumption); (case b => decide); k_whole); intro _ _))
local macro_rules | `(tactic| walk_at "ite") => `(tactic| (refine ite_no (EndCr.cr (by with_reducible assumption)) ?_))
local macro_rules | `(tactic| walk_at "WhlIf") => `(tactic| (refine WhlIf.no (decide_eq_false (by omega)) ?_))
local macro_rules | `(tactic| walk_at "getAttr ref") => `(tactic| (k_here; k_dflt (refine' bm_getK ?F ?N ?m ?_; (case F => assumption); (case N => assumption); (case m => k_mem); k_whole; intro q' h' tk' F' N' l1; k_lt l1)))
local macro_rules | `(tactic| walk_at "callWith ref") => `(tactic| (k_here; k_dflt (refine' bm_with ?N ?m ?_ ?he ?hp; (case N => assumption); (case m => k_mem); (case he => rfl); (case hp => rfl); k_whole)))
local macro_rules | `(tactic| walk_at "And") => `(tactic| ((with_reducible show Heap.get? _ _ = _ ∧ _); k_dflt (refine ⟨News.get (by k_asm) (by k_mem), ?_⟩); try dsimp only [List.nil_append, List.cons_append]))
local macro_rules | `(tactic| walk_at "call ref") => `(tactic| (k_here; k_dflt (refine' bm_call ?F ?N ?q ?U ?_ ?z; (case F => assumption); (case N => assumption); (case q => k_mem); (case U => k_upd); (case z => size_fits); k_whole; intro h' F' N')))
local macro_rules | `(tactic| walk_at "call builtin:str.translate") => `(tactic| (k_here; k_dflt (refine' tab_trx tabB ?F ?X ?o ?e ?z ?_; (case F => assumption); (case X => assumption); (case o => omega); (case e => assumption); (case z => assumption); intro _ _)))
theorem c_bodyN (o : Nat) (ho : o < 256) (x : Str) (hx : bodyTx o = x) (hl : x.length ≤ 100) (z : Str) (hz : z.length = 0) (ha : (Txt.slice z (some 0) none).length ≤ 100) (hy : Txt.lines x = [z]) (h0 : 0 < x.length) (h3 : x.length ≤ 3) (he : EndCr x) (y : Str) (hj : Txt.join (Str.ofString "\n") [Txt.slice z (some 0) none, Str.ofString ""] = y) (t : Tok) : CallIn PySem.Challenge.pw_tx0020_01 w (Mine.KK w.params) p loose mean mg mb 65 3 [.str ⟨#[o]⟩ t] (RetS y) := by
  k_with_none
  intro dp un gd cn cs a ccd cl outer A₀ base h₀ L m news s Q E B F X N T hk hdp hun hret
  refine wpAny_call ?_
  k_dflt (refine' code_def0 (binds := [(Str.ofString "body", Value.str ⟨#[o]⟩ t), (Str.ofString "maxlinelen", Value.int 76 1763), (Str.ofString "eol", Value.str (Str.ofString "\n") 199)]) B F X N T rfl rfl hk ?k6 ?k7 ?k8 ?k9 ?kB ?_ ?c2 ?c3 ?c4 ?c5; (case k6 => k_is); (case k7 => k_is); (case k8 => ktr_room); (case k9 => first | exact BindsTo.of_eq rfl | exact binds_K (by k_in) rfl (by k_is) rfl rfl rfl); (case c5 => decide); (case kB => exact locs rfl); (case c2 => exact rfl); (case c3 => exact rfl); (case c4 => exact rfl); k_whole; intro g' L' h' FG' NG' F' N' B' X' T'; (try dsimp only); (try k_fold))
  k_steps
  all_goals first | exact ret_str hret NG' (by assumption) (by assumption) hj | (exfalso; omega)
end Mine
namespace Mine
open PySem.Calls
abbrev spEmpty (x : Str) : Bool := (Builtin.Str.occurrences (Str.ofString " \t") (Txt.item x (-1)) 0 (Str.ofString " \t").length 1).isEmpty
abbrev crEmpty (x : Str) : Bool := (Builtin.Str.occurrences (Str.ofString "\r\n") (Txt.item x (-1)) 0 (Str.ofString "\r\n").length 1).isEmpty
abbrev plainO (o : Nat) : Bool := o != 9 && o != 10 && o != 13 && o != 32
theorem f_lines : ∀ o : Fin 256, (!plainO o || decide (Txt.lines (bodyTx o) = [bodyTx o])) = true := by decide +kernel
theorem f_len : ∀ o : Fin 256, (decide (0 < (bodyTx o).length) && decide ((bodyTx o).length ≤ 3)) = true := by decide +kernel
theorem f_sp : ∀ o : Fin 256, (!plainO o || spEmpty (bodyTx o)) = true := by decide +kernel
theorem f_cr : ∀ o : Fin 256, (!plainO o || crEmpty (bodyTx o)) = true := by decide +kernel
theorem f_join : ∀ o : Fin 256, (!plainO o || decide (Txt.join (Str.ofString "\n") [Txt.slice (bodyTx o) (some 0) none] = tx 2 o)) = true := by decide +kernel
theorem f_head : ∀ o : Fin 256, decide (Txt.slice (Str.empty ++ Str.ofString "=?" ++ Str.ofString "x" ++ Str.ofString "?q?" ++ tx 1 o ++ Str.ofString "?=") (some 6) (some (-2)) = tx 1 o) = true := by decide +kernel
theorem f9 : Txt.lines ⟨#[9]⟩ = [⟨#[9]⟩] ∧ (Txt.slice ⟨#[9]⟩ (some 0) (some (-1)) ++ tx 0 9).length ≤ 100 ∧ EndSp ⟨#[9]⟩ 9 ∧ Txt.join (Str.ofString "\n") [Txt.slice ⟨#[9]⟩ (some 0) (some (-1)) ++ tx 0 9] = tx 2 9 :=
  ⟨by decide +kernel, by decide +kernel, ⟨by decide +kernel, by decide +kernel, by decide +kernel⟩, by decide +kernel⟩
theorem f32 : Txt.lines ⟨#[32]⟩ = [⟨#[32]⟩] ∧ (Txt.slice ⟨#[32]⟩ (some 0) (some (-1)) ++ tx 0 32).length ≤ 100 ∧ EndSp ⟨#[32]⟩ 32 ∧ Txt.join (Str.ofString "\n") [Txt.slice ⟨#[32]⟩ (some 0) (some (-1)) ++ tx 0 32] = tx 2 32 :=
  ⟨by decide +kernel, by decide +kernel, ⟨by decide +kernel, by decide +kernel, by decide +kernel⟩, by decide +kernel⟩
theorem f10 : Txt.lines ⟨#[10]⟩ = [⟨#[]⟩] ∧ (Txt.slice ⟨#[]⟩ (some 0) none).length ≤ 100 ∧ EndCr ⟨#[10]⟩ ∧ Txt.join (Str.ofString "\n") [Txt.slice ⟨#[]⟩ (some 0) none, Str.ofString ""] = tx 2 10 :=
  ⟨by decide +kernel, by decide +kernel, ⟨by decide +kernel⟩, by decide +kernel⟩
theorem f13 : Txt.lines ⟨#[13]⟩ = [⟨#[]⟩] ∧ (Txt.slice ⟨#[]⟩ (some 0) none).length ≤ 100 ∧ EndCr ⟨#[13]⟩ ∧ Txt.join (Str.ofString "\n") [Txt.slice ⟨#[]⟩ (some 0) none, Str.ofString ""] = tx 2 13 :=
  ⟨by decide +kernel, by decide +kernel, ⟨by decide +kernel⟩, by decide +kernel⟩
end Mine
namespace Mine
open PySem.Calls
theorem fillK4 : PySem.Challenge.rw_tx0020_01 = PySem.Challenge.rw_tx0020_01 ∧ Mine.KK = Mine.KK := by
  k_fill
  exact ⟨rfl, rfl⟩
variable {w : World} {p : Program} {loose : List Str} {mean : ExcName → Option Value} {mg mb : Str → Option Value}
theorem orE {a b : Bool} (h : (!a || b) = true) (k : a = true) : b = true := by subst k; exact h
theorem c_bodyA (o : Nat) (ho : o < 256) (t : Tok) : CallIn PySem.Challenge.pw_tx0020_01 w (Mine.KK w.params) p loose mean mg mb 65 3 [.str ⟨#[o]⟩ t] (RetS (tx 2 o)) := by
  by_cases h9 : o = 9
  · subst h9; obtain ⟨a1, a2, a3, a4⟩ := f9
    exact c_bodyS 9 ho ⟨#[9]⟩ rfl (by decide) a1 (by decide) (by decide) rfl a2 a3 _ a4 t
  by_cases h32 : o = 32
  · subst h32; obtain ⟨a1, a2, a3, a4⟩ := f32
    exact c_bodyS 32 ho ⟨#[32]⟩ rfl (by decide) a1 (by decide) (by decide) rfl a2 a3 _ a4 t
  by_cases h10 : o = 10
  · subst h10; obtain ⟨a1, a2, a3, a4⟩ := f10
    exact c_bodyN 10 ho ⟨#[10]⟩ rfl (by decide) ⟨#[]⟩ rfl a2 a1 (by decide) (by decide) a3 _ a4 t
  by_cases h13 : o = 13
  · subst h13; obtain ⟨a1, a2, a3, a4⟩ := f13
    exact c_bodyN 13 ho ⟨#[13]⟩ rfl (by decide) ⟨#[]⟩ rfl a2 a1 (by decide) (by decide) a3 _ a4 t
  have hp : plainO o = true := by simp only [plainO, Bool.and_eq_true, bne_iff_ne, ne_eq]; exact ⟨⟨⟨h9, h10⟩, h13⟩, h32⟩
  have hl := f_len ⟨o, ho⟩
  rw [Bool.and_eq_true] at hl
  exact c_body o ho _ rfl (bodyTx_len o) (of_decide_eq_true (orE (f_lines ⟨o, ho⟩) hp)) (of_decide_eq_true hl.1) (of_decide_eq_true hl.2) ⟨orE (f_sp ⟨o, ho⟩) hp, orE (f_cr ⟨o, ho⟩) hp⟩ _ (of_decide_eq_true (orE (f_join ⟨o, ho⟩) hp)) t
noncomputable abbrev heady (o : Nat) : Str := Str.empty ++ Str.ofString "=?" ++ Str.ofString "x" ++ Str.ofString "?q?" ++ tx 1 o ++ Str.ofString "?="
theorem f_hlen : ∀ o : Fin 256, decide ((heady o).length ≤ 100) = true := by decide +kernel
theorem c_headY (b : UInt8) (o : Nat) (hb : b.toNat = o) (ho : o < 256) (y : Str) (hy : heady o = y) (t u : Tok) : CallIn PySem.Challenge.pw_tx0020_01 w (Mine.KK w.params) p loose mean mg mb 52 1 [.bytes [b].toArray t, .str (Str.ofString "x") u] (RetS y) := by
  subst hy
  exact c_head b o ho hb _ rfl (tx_len 1 o) t u
local macro_rules | `(tactic| walk_at "call ref") => `(tactic| (k_here; k_dflt (refine' CallIn.use (c_quote _ ?ho _) ?k1 ?k2 ?k3 ?k4 ?k5 ?kK ?kd ?ku ?_; (case ho => omega); (case k1 => k_asm); (case k2 => k_asm); (case k3 => k_asm); (case k4 => k_asm); (case k5 => k_asm); (case kK => first | exact rfl | assumption); (case kd => ktr_room); (case ku => ktr_units); k_whole; refine ⟨fun t9 h9 tk9 F9 N9 => ?_⟩; (try dsimp only); (try k_fold))))
local macro_rules | `(tactic| walk_at "call ref") => `(tactic| (k_here; k_dflt (refine' CallIn.use (c_bodyA _ ?ho _) ?k1 ?k2 ?k3 ?k4 ?k5 ?kK ?kd ?ku ?_; (case ho => omega); (case k1 => k_asm); (case k2 => k_asm); (case k3 => k_asm); (case k4 => k_asm); (case k5 => k_asm); (case kK => first | exact rfl | assumption); (case kd => ktr_room); (case ku => ktr_units); k_whole; refine ⟨fun t9 h9 tk9 F9 N9 => ?_⟩; (try dsimp only); (try k_fold))))
local macro_rules | `(tactic| walk_at "call ref") => `(tactic| (k_here; k_dflt (refine' CallIn.use (c_headY _ _ ?hb ?ho _ ?hy _ _) ?k1 ?k2 ?k3 ?k4 ?k5 ?kK ?kd ?ku ?_; (case hb => exact Int.ofNat_inj.mp (by assumption)); (case ho => omega); (case hy => assumption); (case k1 => k_asm); (case k2 => k_asm); (case k3 => k_asm); (case k4 => k_asm); (case k5 => k_asm); (case kK => first | exact rfl | assumption); (case kd => ktr_room); (case ku => ktr_units); k_whole; refine ⟨fun t9 h9 tk9 F9 N9 => ?_⟩; (try dsimp only); (try k_fold))))
theorem c_signs (hand o : Nat) (hh : hand < 3) (ho : o < 256) (t u : Tok) : CallIn PySem.Challenge.pw_tx0020_01 w (Mine.KK w.params) p loose mean mg mb 72 4 [.int (hand : Int) t, .int (o : Int) u] (RetS (tx hand o)) := by
  k_with_none
  obtain ⟨y, hY⟩ : ∃ y, heady o = y := ⟨_, rfl⟩
  have hYl : y.length ≤ 100 := hY ▸ of_decide_eq_true (f_hlen ⟨o, ho⟩)
  have hYs : Txt.slice y (some 6) (some (-2)) = tx 1 o := hY ▸ of_decide_eq_true (f_head ⟨o, ho⟩)
  intro dp un gd cn cs a ccd cl outer A₀ base h₀ L m news s Q E B F X N T hk hdp hun hret
  refine wpAny_call ?_
  k_dflt (refine' code_def0 (binds := [(Str.ofString "hand", Value.int (hand : Int) t), (Str.ofString "octet", Value.int (o : Int) u)]) B F X N T rfl rfl hk ?k6 ?k7 ?k8 ?k9 ?kB ?_ ?c2 ?c3 ?c4 ?c5; (case k6 => k_is); (case k7 => k_is); (case k8 => ktr_room); (case k9 => exact BindsTo.of_eq rfl); (case c5 => decide); (case kB => exact locs rfl); (case c2 => exact rfl); (case c3 => exact rfl); (case c4 => exact rfl); k_whole; intro g' L' h' FG' NG' F' N' B' X' T'; (try dsimp only); (try k_fold))
  k_steps
  all_goals first
    | (have h0 : hand = 0 := by omega
       subst h0; exact ret_str hret NG' (by assumption) (by assumption) rfl)
    | (have h0 : hand = 1 := by omega
       subst h0; exact ret_str hret NG' (by assumption) (by assumption) hYs)
    | (have h0 : hand = 2 := by omega
       subst h0; exact ret_str hret NG' (by assumption) (by assumption) rfl)
end Mine
namespace Mine
open PySem.Calls
theorem fillK1 : PySem.Challenge.rw_tx0020_01 = PySem.Challenge.rw_tx0020_01 ∧ Mine.KK = Mine.KK := by
  k_fill
  exact ⟨rfl, rfl⟩
variable {w : World} {p : Program} {loose : List Str} {mean : ExcName → Option Value} {mg mb : Str → Option Value}
theorem c_gen (r : Nat) (t : Tok) : CallIn PySem.Challenge.pw_tx0020_01 w (Mine.KK w.params) p loose mean mg mb 21 1 [.int (r : Int) t] (RetI ((iterF 8 r : Nat) : Int)) := by
  k_with_none
  k_with "exec For Name Call cons nil" => kpr_for
  k_with "pyIter ref" => k_state_short (fun pre crc => crc = ((Mine.iterF pre.length r : Nat) : Int)) "crc"
  k_with "state" => (first | (simp only [List.length_nil, Mine.iterF]; done) | (rw [len_snoc]; first | exact gen_odd (by assumption) (by assumption) | exact gen_even (by assumption) (by assumption)))
  intro dp un gd cn cs a ccd cl outer A₀ base h₀ L m news s Q E B F X N T hk hdp hun hret
  refine wpAny_call ?_
  k_dflt (refine' code_def0 (binds := [(Str.ofString "crc", Value.int (r : Int) t)]) B F X N T rfl rfl hk ?k6 ?k7 ?k8 ?k9 ?kB ?_ ?c2 ?c3 ?c4 ?c5; (case k6 => k_is); (case k7 => k_is); (case k8 => ktr_room); (case k9 => exact BindsTo.of_eq rfl); (case c5 => decide); (case kB => exact locs rfl); (case c2 => exact rfl); (case c3 => exact rfl); (case c4 => exact rfl); k_whole; intro g' L' h' FG' NG' F' N' B' X' T'; (try dsimp only); (try k_fold))
  k_steps
  all_goals exact ret_int hret NG' (by assumption) (by assumption) (by assumption)
end Mine
namespace Mine
open PySem.Calls
theorem fillK2 : PySem.Challenge.rw_tx0020_01 = PySem.Challenge.rw_tx0020_01 ∧ Mine.KK = Mine.KK := by
  k_fill
  exact ⟨rfl, rfl⟩
variable {w : World} {p : Program} {loose : List Str} {mean : ExcName → Option Value} {mg mb : Str → Option Value}
open PySem.W in
local macro_rules | `(tactic| walk_at "eval ListComp") => `(tactic| (k_here; (with_reducible show wpAny _ _ _ _ _ _); lcg_look; lcg_calm; k_dflt (refine LCg.ListComp_U (F₀ := by k_asm) (by rfl) (by decide) (by rfl) (by decide) (by rfl) ?_); k_dflt lcg_toSrc))
theorem c_codes (hand octet : Nat) (hh : hand < 3) (ho : octet < 256) (t u : Tok) : CallIn PySem.Challenge.pw_tx0020_01 w (Mine.KK w.params) p loose mean mg mb 77 1 [.int (hand : Int) t, .int (octet : Int) u] (RetL (zs (codes hand octet))) := by
  k_with_none
  intro dp un gd cn cs a ccd cl outer A₀ base h₀ L m news s Q E B F X N T hk hdp hun hret
  refine wpAny_call ?_
  k_dflt (refine' code_def0 (binds := [(Str.ofString "hand", Value.int (hand : Int) t), (Str.ofString "octet", Value.int (octet : Int) u)]) B F X N T rfl rfl hk ?k6 ?k7 ?k8 ?k9 ?kB ?_ ?c2 ?c3 ?c4 ?c5; (case k6 => k_is); (case k7 => k_is); (case k8 => ktr_room); (case k9 => exact BindsTo.of_eq rfl); (case c5 => decide); (case kB => exact locs rfl); (case c2 => exact rfl); (case c3 => exact rfl); (case c4 => exact rfl); k_whole; intro g' L' h' FG' NG' F' N' B' X' T'; (try dsimp only); (try k_fold))
  refine execs_two (fun s' => ∃ h9 tk9, s' = { s with heap := h9, toks := tk9 } ∧ Fr g' L' h9 (fun y => List.lookup y (List.reverse [(Str.ofString "hand", Value.int (hand : Int) t), (Str.ofString "octet", Value.int (octet : Int) u)])) ∧
    (hand ≠ 1 ∨ (octet ≠ 32 ∧ ¬ (65 ≤ octet ∧ octet ≤ 90) ∧ ¬ (97 ≤ octet ∧ octet ≤ 122) ∧ ¬ (47 ≤ octet ∧ octet ≤ 57) ∧ octet ≠ 33 ∧ octet ≠ 42 ∧ octet ≠ 43 ∧ octet ≠ 45)) ∧
    (hand ≠ 2 ∨ (octet ≠ 10 ∧ octet ≠ 13 ∧ (octet < 33 ∨ 126 < octet ∨ octet = 61)))) ?_ ?_
  · k_steps
    all_goals (
      (try (rename (List.any _ _ = true) => hm; have hm' := menu_true hm))
      (try (rename (List.any _ _ = false) => hm; have hm' := menu_false hm))
      first
      | assumption
      | omega
      | (refine' ret_list hret NG' ?f ?kf ?n ?kn ?hm ?hi ?e
         (case f => assumption)
         (case kf => assumption)
         (case n => assumption)
         (case kn => assumption)
         (case hm => k_mem)
         (case hi => exact IntsAre.cons _ _ .nil)
         (case e => first | exact cl_32 (by omega) (by omega) | exact cl_self (by omega) | exact cl_lf (by omega) (by omega)))
      | (exfalso; omega))
  · rintro s' ⟨h9, tk9, rfl, F9, c1, c2⟩
    have N9 : News g' L' h9 [] := News.nil
    clear F' N'
    k_steps
    all_goals first
      | (refine' ret_list hret NG' ?f ?kf ?n ?kn ?hm ?hi ?e
         (case f => assumption)
         (case kf => assumption)
         (case n => assumption)
         (case kn => assumption)
         (case hm => k_mem)
         (case hi => (repeat constructor))
         (case e => exact cl_hex c1 c2))
end Mine
namespace Mine
open PySem.Calls
noncomputable def at8 (hand x : Nat) : List Nat := match codes hand (x / 16777216) with
    | [c] => [x ^^^ c]
    | _ => []
noncomputable def at24 (hand x : Nat) : List Nat := match codes hand (x / 16777216) with
    | [a, b, c] => [((x ^^^ a) ^^^ b * 256) ^^^ c * 65536]
    | _ => []
noncomputable def foreP (hand r n : Nat) : List Nat := (if 8 ≤ n then at8 hand (iterB 8 r) else []) ++ (if 24 ≤ n then at24 hand (iterB 24 r) else [])
theorem foreP_24 (hand r : Nat) : foreP hand r 24 = fore hand r := rfl
theorem foreP_0 (hand r : Nat) : foreP hand r 0 = [] := rfl
structure RetL1 (x : Int) (h₀ : Heap) (L : Addr) (m : Str → Option Value) (news : List (Addr × Obj)) (s : Shared) (Q : Value → Shared → Prop) : Prop where
  ret : ∀ (l : Addr) (t : Tok) (n : Nat) (h' : Heap) (tk' : Nat), Fr h₀ L h' m → News h₀ L h' ((l, W.listOf #[.int x t] n) :: news) → LCg.Off1 l news → Q (.ref l) { s with heap := h', toks := tk' }
structure RetL3 (x y z : Int) (h₀ : Heap) (L : Addr) (m : Str → Option Value) (news : List (Addr × Obj)) (s : Shared) (Q : Value → Shared → Prop) : Prop where
  ret : ∀ (l : Addr) (t t1 t2 : Tok) (n : Nat) (h' : Heap) (tk' : Nat), Fr h₀ L h' m → News h₀ L h' ((l, W.listOf #[.int x t, .int y t1, .int z t2] n) :: news) → LCg.Off1 l news → Q (.ref l) { s with heap := h', toks := tk' }
section
variable {h₀ : Heap} {L : Addr} {m : Str → Option Value} {news : List (Addr × Obj)} {s : Shared} {Q : Value → Shared → Prop}
theorem RetL1.toL {x : Int} {xs : List Int} (e : xs = [x]) (R : RetL1 x h₀ L m news s Q) : RetL xs h₀ L m news s Q := by
  subst e
  refine ⟨fun l vs n h' tk' F N I O => ?_⟩
  cases I with
  | cons _ t I =>
    cases I
    exact R.ret l t n h' tk' F N O
theorem RetL3.toL {x y z : Int} {xs : List Int} (e : xs = [x, y, z]) (R : RetL3 x y z h₀ L m news s Q) : RetL xs h₀ L m news s Q := by
  subst e
  refine ⟨fun l vs n h' tk' F N I O => ?_⟩
  cases I with
  | cons _ t I =>
    cases I with
    | cons _ t1 I =>
      cases I with
      | cons _ t2 I =>
        cases I
        exact R.ret l t t1 t2 n h' tk' F N O
end
theorem CallIn.mono {prog : Program} {w : World} {K : Frag} {p : Program} {loose : List Str} {mean : ExcName → Option Value} {mg mb : Str → Option Value} {f : Addr} {lev : Nat} {vs : List Value}
    {Ret Ret' : (h₀ : Heap) → (L : Addr) → (m : Str → Option Value) → (news : List (Addr × Obj)) → (s : Shared) → (Q : Value → Shared → Prop) → Prop} (C : CallIn prog w K p loose mean mg mb f lev vs Ret)
    (h : ∀ h₀ L m news s Q, Ret' h₀ L m news s Q → Ret h₀ L m news s Q) : CallIn prog w K p loose mean mg mb f lev vs Ret' :=
  fun dp un gd cn cs a ccd cl outer A₀ base h₀ L m news s Q E B F X N T hk hd hu r => C dp un gd cn cs a ccd cl outer A₀ base h₀ L m news s Q E B F X N T hk hd hu (h _ _ _ _ _ _ r)
variable {w : World} {p : Program} {loose : List Str} {mean : ExcName → Option Value} {mg mb : Str → Option Value}
theorem c_codes1 (hand octet : Nat) (hh : hand < 3) (ho : octet < 256) {c : Nat} (e : codes hand octet = [c]) (t u : Tok) : CallIn PySem.Challenge.pw_tx0020_01 w (Mine.KK w.params) p loose mean mg mb 77 1 [.int (hand : Int) t, .int (octet : Int) u] (RetL1 (c : Int)) :=
  (c_codes hand octet hh ho t u).mono fun _ _ _ _ _ _ R => R.toL (by rw [e]; rfl)
theorem c_codes3 (hand octet : Nat) (hh : hand < 3) (ho : octet < 256) {a b c : Nat} (e : codes hand octet = [a, b, c]) (t u : Tok) : CallIn PySem.Challenge.pw_tx0020_01 w (Mine.KK w.params) p loose mean mg mb 77 1 [.int (hand : Int) t, .int (octet : Int) u] (RetL3 (a : Int) (b : Int) (c : Int)) :=
  (c_codes hand octet hh ho t u).mono fun _ _ _ _ _ _ R => R.toL (by rw [e]; rfl)
structure RetC (hand : Nat) (z : Int) (h₀ : Heap) (L : Addr) (m : Str → Option Value) (news : List (Addr × Obj)) (s : Shared) (Q : Value → Shared → Prop) : Prop where
  one : ∀ (c : Nat), codes hand z.toNat = [c] → c < 128 → ∀ (l : Addr) (t : Tok) (n : Nat) (h' : Heap) (tk' : Nat), Fr h₀ L h' m → News h₀ L h' ((l, W.listOf #[.int (c : Int) t] n) :: news) → LCg.Off1 l news → Q (.ref l) { s with heap := h', toks := tk' }
  three : ∀ (a b : Nat), codes hand z.toNat = [61, a, b] → a < 128 → b < 128 → ∀ (l : Addr) (t t1 t2 : Tok) (n : Nat) (h' : Heap) (tk' : Nat), Fr h₀ L h' m → News h₀ L h' ((l, W.listOf #[.int 61 t, .int (a : Int) t1, .int (b : Int) t2] n) :: news) → LCg.Off1 l news → Q (.ref l) { s with heap := h', toks := tk' }
theorem c_codesC (hand : Nat) (z : Int) (hh : hand < 3) (h0 : 0 ≤ z) (h1 : z < 256) (t u : Tok) : CallIn PySem.Challenge.pw_tx0020_01 w (Mine.KK w.params) p loose mean mg mb 77 1 [.int (hand : Int) t, .int z u] (RetC hand z) := by
  obtain ⟨o, rfl⟩ : ∃ o : Nat, z = (o : Int) := ⟨z.toNat, by omega⟩
  refine (c_codes hand o hh (by omega) t u).mono fun _ _ _ _ _ _ R => ?_
  rcases codes_cases hand o (by omega) with ⟨c, hc, e⟩ | e
  · exact RetL1.toL (x := (c : Int)) (by rw [e]; rfl) ⟨R.one c e hc⟩
  · exact RetL3.toL (x := 61) (y := ((hexd (o / 16) : Nat) : Int)) (z := ((hexd (o % 16) : Nat) : Int)) (by rw [e]; rfl) ⟨R.three _ _ e (hexd_lt (by omega)) (hexd_lt (by omega))⟩
structure ForeSt (hand r n : Nat) (reg : Int) (found : List Int) : Prop where
  reg : reg = ((iterB n r : Nat) : Int)
  found : found = zs (foreP hand r n)
theorem fore_start {hand r : Nat} (hr : r < 4294967296) : ForeSt hand r ([] : List Int).length (r : Int) [] ∧ ([] : List Int).length ≤ 2 ∧ (0 : Int) ≤ (r : Int) ∧ (r : Int) < 4294967296 :=
  ⟨⟨rfl, rfl⟩, Nat.zero_le _, Int.natCast_nonneg _, by omega⟩
theorem stepZ_hi {n r : Nat} {x : Int} (h : x = ((iterB n r : Nat) : Int)) (hc : 2 ^ Int.toNat 31 ≤ x) : 2 * Builtin.bitXor x 3988292384 + 1 = ((iterB (n + 1) r : Nat) : Int) := by
  subst h
  have e : (2 : Int) ^ Int.toNat 31 = 2147483648 := by decide
  rw [e] at hc
  rw [show (3988292384 : Int) = ((3988292384 : Nat) : Int) from rfl, xor_nat, iterB_succ]
  unfold stepB poly
  rw [if_pos (by omega)]; omega
theorem stepZ_lo {n r : Nat} {x : Int} (h : x = ((iterB n r : Nat) : Int)) (hc : ¬ 2 ^ Int.toNat 31 ≤ x) : 2 * x = ((iterB (n + 1) r : Nat) : Int) := by
  subst h
  have e : (2 : Int) ^ Int.toNat 31 = 2147483648 := by decide
  rw [e] at hc
  rw [iterB_succ]
  unfold stepB
  rw [if_neg (by omega)]; omega
theorem div24 {x : Int} (h0 : 0 ≤ x) (h1 : x < 4294967296) : 0 ≤ x.fdiv (2 ^ Int.toNat 24) ∧ x.fdiv (2 ^ Int.toNat 24) < 256 := by
  have e : (2 : Int) ^ Int.toNat 24 = 16777216 := by decide
  rw [e, Int.fdiv_eq_ediv_of_nonneg _ (by decide)]; omega
theorem div24_nat (k : Nat) : ((k : Int).fdiv (2 ^ Int.toNat 24)).toNat = k / 16777216 := by
  have e : (2 : Int) ^ Int.toNat 24 = 16777216 := by decide
  rw [e, Int.fdiv_eq_ediv_of_nonneg _ (by decide)]; omega
structure RegEnd (h₀ : Heap) (L : Addr) (m : Str → Option Value) (news : List (Addr × Obj)) (s : Shared) (n r : Nat) (s' : Shared) : Prop where
  reg : ∃ h9 tk9 t9, ∃ x : Int, s' = { s with heap := h9, toks := tk9 } ∧ Fr h₀ L h9 (fun y => if y = Str.ofString "register" then some (.int x t9) else m y) ∧ News h₀ L h9 news ∧ x = ((iterB (n + 1) r : Nat) : Int)
theorem execs_reg {M : Model} {A : Around} {E : Value → Shared → Prop} {s : Shared} {env : Env} {Q : Flow → Shared → Prop} {h₀ : Heap} {L : Addr} {m : Str → Option Value} {news : List (Addr × Obj)} {hand r n : Nat} {reg : Int} {found : List Int} {a : Stmt} {l : List Stmt}
    (F : Fr h₀ L s.heap m) (N : News h₀ L s.heap news) (S : ForeSt hand r n reg found) (hr : r < 4294967296)
    (h1 : wpAny M A (execs [a] env) (fun f s' => match f with | .next => RegEnd h₀ L m news s n r s' | f => Q f s') E s)
    (h2 : ∀ h9 tk9 t9, ∀ x : Int, Fr h₀ L h9 (fun y => if y = Str.ofString "register" then some (.int x t9) else m y) → News h₀ L h9 news → x = ((iterB (n + 1) r : Nat) : Int) → 0 ≤ x → x < 4294967296 → 0 ≤ x.fdiv (2 ^ Int.toNat 24) ∧ x.fdiv (2 ^ Int.toNat 24) < 256 → wpAny M A (execs l env) Q E { s with heap := h9, toks := tk9 }) :
    wpAny M A (execs (a :: l) env) Q E s := by
  refine execs_one (RegEnd h₀ L m news s n r) h1 fun s' h => ?_
  obtain ⟨h9, tk9, t9, x, rfl, F9, N9, hx⟩ := h.reg
  have hb : (iterB (n + 1) r) < 4294967296 := iterB_lt (n + 1) hr
  have h0 : 0 ≤ x := by omega
  have h3 : x < 4294967296 := by omega
  exact h2 h9 tk9 t9 x F9 N9 hx h0 h3 (div24 h0 h3)
theorem unr_end2 {h₀ : Heap} {L I a b : Addr} {it oa ob : Obj} {own : List (Addr × Obj)} {rest : (Str → Option Value) → List (Addr × Obj) → Prop} {s₁ : Shared} {h' : Heap} {tk : Nat} {m' : Str → Option Value} (F : Fr h₀ L h' m') (N : News h₀ L h' ((I, it) :: (a, oa) :: (b, ob) :: own))
    (l : a < I ∧ b < I ∧ AllLt I own) (r : rest m' ((a, oa) :: (b, ob) :: own)) : UnrEnd h₀ L s₁ I it rest { s₁ with heap := h', toks := tk } :=
  UnrEnd.intro F N _ (fun _ hp => hp) (fun p hp e => by
    rcases List.mem_cons.mp hp with rfl | hp
    · exact absurd e (Nat.ne_of_lt l.1)
    rcases List.mem_cons.mp hp with rfl | hp
    · exact absurd e (Nat.ne_of_lt l.2.1)
    · exact absurd e (Nat.ne_of_lt (kst_ltOf l.2.2 p hp))) r
theorem foreP_skip {hand r n : Nat} (h : n + 1 ≠ 8) (h' : n + 1 ≠ 24) : foreP hand r (n + 1) = foreP hand r n := by
  unfold foreP
  have e1 : (8 ≤ n + 1) = (8 ≤ n) := propext ⟨fun _ => by omega, fun _ => by omega⟩
  have e2 : (24 ≤ n + 1) = (24 ≤ n) := propext ⟨fun _ => by omega, fun _ => by omega⟩
  simp only [e1, e2]
theorem foreP_8 {hand r n : Nat} (h : n + 1 = 8) : foreP hand r (n + 1) = foreP hand r n ++ at8 hand (iterB (n + 1) r) := by
  obtain rfl : n = 7 := by omega
  unfold foreP
  simp
theorem foreP_24' {hand r n : Nat} (h : n + 1 = 24) : foreP hand r (n + 1) = foreP hand r n ++ at24 hand (iterB (n + 1) r) := by
  obtain rfl : n = 23 := by omega
  unfold foreP
  simp
theorem at8_len (hand x : Nat) : (at8 hand x).length ≤ 1 := by unfold at8; split <;> simp
theorem at24_len (hand x : Nat) : (at24 hand x).length ≤ 1 := by unfold at24; split <;> simp
theorem foreP_len (hand r n : Nat) : (foreP hand r n).length ≤ 2 := by
  unfold foreP
  have h1 := at8_len hand (iterB 8 r)
  have h2 := at24_len hand (iterB 24 r)
  rw [List.length_append]
  split <;> split
  all_goals (try simp only [List.length_nil])
  all_goals omega
section
variable {hand r n : Nat} {reg x kN : Int} {found found' : List Int} {pre : List Int}
theorem fmod16 {k : Nat} : ((k : Int)).fmod 16 = ((k % 16 : Nat) : Int) := by
  rw [Int.fmod_eq_emod_of_nonneg _ (show (0 : Int) ≤ 16 by decide)]; omega
theorem fore_end (hr : r < 4294967296) (hx : x = ((iterB (pre.length + 1) r : Nat) : Int)) (hf : found' = zs (foreP hand r (pre.length + 1))) :
    ForeSt hand r (pre ++ [kN]).length x found' ∧ found'.length ≤ 2 ∧ (0 : Int) ≤ x ∧ x < 4294967296 := by
  have hb : (iterB (pre.length + 1) r) < 4294967296 := iterB_lt _ hr
  rw [len_snoc]
  refine ⟨⟨hx, hf⟩, ?_, by omega, by omega⟩
  rw [hf, List.length_map]; exact foreP_len _ _ _
theorem fore_skip (hr : r < 4294967296) (S : ForeSt hand r pre.length reg found) (hk : kN = 1 + (pre.length : Int)) (hf : kN.fmod 16 ≠ 8) (hx : x = ((iterB (pre.length + 1) r : Nat) : Int)) :
    ForeSt hand r (pre ++ [kN]).length x found ∧ found.length ≤ 2 ∧ (0 : Int) ≤ x ∧ x < 4294967296 := by
  refine fore_end hr hx ?_
  have e : kN = ((pre.length + 1 : Nat) : Int) := by omega
  rw [e, fmod16] at hf
  rw [S.found, foreP_skip (by omega) (by omega)]
theorem at8_one {k c : Nat} (e : codes hand ((k : Int).fdiv (2 ^ Int.toNat 24)).toNat = [c]) : at8 hand k = [k ^^^ c] := by
  rw [div24_nat] at e; unfold at8; rw [e]
theorem at24_one {k c : Nat} (e : codes hand ((k : Int).fdiv (2 ^ Int.toNat 24)).toNat = [c]) : at24 hand k = [] := by
  rw [div24_nat] at e; unfold at24; rw [e]
theorem at8_three {k a b c : Nat} (e : codes hand ((k : Int).fdiv (2 ^ Int.toNat 24)).toNat = [a, b, c]) : at8 hand k = [] := by
  rw [div24_nat] at e; unfold at8; rw [e]
theorem at24_three {k a b c : Nat} (e : codes hand ((k : Int).fdiv (2 ^ Int.toNat 24)).toNat = [a, b, c]) : at24 hand k = [((k ^^^ a) ^^^ b * 256) ^^^ c * 65536] := by
  rw [div24_nat] at e; unfold at24; rw [e]
/-- one code, and it is no turn of one code -/
theorem fore_one_no {c : Nat} (hr : r < 4294967296) (S : ForeSt hand r pre.length reg found) (hk : kN = 1 + (pre.length : Int)) (hl : pre.length < 24) (hf : kN.fmod 16 = 8) (hx : x = ((iterB (pre.length + 1) r : Nat) : Int))
    (e : codes hand (x.fdiv (2 ^ Int.toNat 24)).toNat = [c]) (hn : (8 : Int) * 1 ≠ kN) :
    ForeSt hand r (pre ++ [kN]).length x found ∧ found.length ≤ 2 ∧ (0 : Int) ≤ x ∧ x < 4294967296 := by
  refine fore_end hr hx ?_
  have e1 : kN = ((pre.length + 1 : Nat) : Int) := by omega
  rw [e1, fmod16] at hf
  subst hx
  rw [S.found, foreP_24' (by omega), at24_one e, List.append_nil]
theorem fore_three_no {a b c : Nat} (hr : r < 4294967296) (S : ForeSt hand r pre.length reg found) (hk : kN = 1 + (pre.length : Int)) (hl : pre.length < 24) (hf : kN.fmod 16 = 8) (hx : x = ((iterB (pre.length + 1) r : Nat) : Int))
    (e : codes hand (x.fdiv (2 ^ Int.toNat 24)).toNat = [a, b, c]) (hn : (8 : Int) * 3 ≠ kN) :
    ForeSt hand r (pre ++ [kN]).length x found ∧ found.length ≤ 2 ∧ (0 : Int) ≤ x ∧ x < 4294967296 := by
  refine fore_end hr hx ?_
  have e1 : kN = ((pre.length + 1 : Nat) : Int) := by omega
  rw [e1, fmod16] at hf
  subst hx
  rw [S.found, foreP_8 (by omega), at8_three e, List.append_nil]
theorem pow_at (v : Int) (k : Nat) : v * 256 ^ (0 + (k : Int)).toNat = v * 256 ^ k := by
  rw [Int.zero_add, Int.toNat_natCast]
theorem fore_one {c : Nat} (hr : r < 4294967296) (S : ForeSt hand r pre.length reg found) (hk : kN = 1 + (pre.length : Int)) (hx : x = ((iterB (pre.length + 1) r : Nat) : Int))
    (e : codes hand (x.fdiv (2 ^ Int.toNat 24)).toNat = [c]) (hn : (8 : Int) * 1 = kN) :
    ForeSt hand r (pre ++ [kN]).length x (found ++ [Builtin.bitXor x ([(c : Int)].getD (0 + ((0 : Nat) : Int)).toNat 0 * 256 ^ (0 + ((0 : Nat) : Int)).toNat)]) ∧ (found ++ [Builtin.bitXor x ([(c : Int)].getD (0 + ((0 : Nat) : Int)).toNat 0 * 256 ^ (0 + ((0 : Nat) : Int)).toNat)]).length ≤ 2 ∧ (0 : Int) ≤ x ∧ x < 4294967296 := by
  refine fore_end hr hx ?_
  subst hx
  have e1 : ([(c : Int)].getD (0 + ((0 : Nat) : Int)).toNat 0 * 256 ^ (0 + ((0 : Nat) : Int)).toNat) = (c : Int) := by
    show (c : Int) * 256 ^ (0 : Nat) = c
    rw [Int.pow_zero, Int.mul_one]
  rw [e1, xor_nat, S.found, foreP_8 (by omega), at8_one e]; simp only [zs, List.map_append]; rfl
theorem fore_three {a b : Nat} (hr : r < 4294967296) (S : ForeSt hand r pre.length reg found) (hk : kN = 1 + (pre.length : Int)) (hx : x = ((iterB (pre.length + 1) r : Nat) : Int))
    (e : codes hand (x.fdiv (2 ^ Int.toNat 24)).toNat = [61, a, b]) (hn : (8 : Int) * 3 = kN) {y : Int}
    (hy : y = Builtin.bitXor (Builtin.bitXor (Builtin.bitXor x ([61, (a : Int), (b : Int)].getD (0 + ((0 : Nat) : Int)).toNat 0 * 256 ^ (0 + ((0 : Nat) : Int)).toNat))
            ([61, (a : Int), (b : Int)].getD (0 + ((0 + 1 : Nat) : Int)).toNat 0 * 256 ^ (0 + ((0 + 1 : Nat) : Int)).toNat))
          ([61, (a : Int), (b : Int)].getD (0 + ((0 + 1 + 1 : Nat) : Int)).toNat 0 * 256 ^ (0 + ((0 + 1 + 1 : Nat) : Int)).toNat)) :
    ForeSt hand r (pre ++ [kN]).length x (found ++ [y]) ∧ (found ++ [y]).length ≤ 2 ∧ (0 : Int) ≤ x ∧ x < 4294967296 := by
  refine fore_end hr hx ?_
  subst hx
  have e1 : ([61, (a : Int), (b : Int)].getD (0 + ((0 : Nat) : Int)).toNat 0 * 256 ^ (0 + ((0 : Nat) : Int)).toNat) = ((61 : Nat) : Int) := by
    show (61 : Int) * 256 ^ (0 : Nat) = _
    rw [Int.pow_zero, Int.mul_one]; rfl
  have e2 : ([61, (a : Int), (b : Int)].getD (0 + ((0 + 1 : Nat) : Int)).toNat 0 * 256 ^ (0 + ((0 + 1 : Nat) : Int)).toNat) = ((a * 256 : Nat) : Int) := by
    show (a : Int) * 256 ^ (1 : Nat) = _
    have : (256 : Int) ^ (1 : Nat) = 256 := by decide
    rw [this]; omega
  have e3 : ([61, (a : Int), (b : Int)].getD (0 + ((0 + 1 + 1 : Nat) : Int)).toNat 0 * 256 ^ (0 + ((0 + 1 + 1 : Nat) : Int)).toNat) = ((b * 65536 : Nat) : Int) := by
    show (b : Int) * 256 ^ (2 : Nat) = _
    have : (256 : Int) ^ (2 : Nat) = 65536 := by decide
    rw [this]; omega
  rw [hy, e1, e2, e3, xor_nat, xor_nat, xor_nat, S.found, foreP_24' (by omega), at24_three e]; simp only [zs, List.map_append]; rfl
theorem fore_fin (S : ForeSt hand r (rangeKs 1 (25 - 1 : Int).toNat).length reg found) : found = zs (fore hand r) := by
  rw [rangeKs_length] at S
  exact S.found
end
end Mine
namespace Mine
open PySem.Calls
theorem fillK9 : PySem.Challenge.rw_tx0020_01 = PySem.Challenge.rw_tx0020_01 ∧ Mine.KK = Mine.KK := by
  k_fill
  exact ⟨rfl, rfl⟩
variable {w : World} {p : Program} {loose : List Str} {mean : ExcName → Option Value} {mg mb : Str → Option Value}
local macro_rules | `(tactic| walk_at "call ref") => `(tactic| (k_here; k_dflt (refine' CallIn.use (c_codesC _ _ ?hh ?h0 ?h1 _ _) ?k1 ?k2 ?k3 ?k4 ?k5 ?kK ?kd ?ku ?_; (case hh => omega); (case h0 => exact And.left (by assumption)); (case h1 => exact And.right (by assumption)); (case k1 => k_asm); (case k2 => k_asm); (case k3 => k_asm); (case k4 => k_asm); (case k5 => k_asm); (case kK => first | exact rfl | assumption); (case kd => ktr_room); (case ku => ktr_units); k_whole; refine ⟨fun c9 e9 hc9 l9 t9 n9 h9 tk9 F9 N9 O9 => ?_, fun a9 b9 e9 ha9 hb9 l9 t9 t8 t7 n9 h9 tk9 F9 N9 O9 => ?_⟩ <;> (obtain ⟨O8, O7⟩ := O9) <;> (try dsimp only at O8) <;> (try dsimp only) <;> (try k_fold))))
local macro_rules | `(tactic| walk_at "execs cons") => `(tactic| (k_here; (with_reducible show wpAny _ _ (execs [Stmt.If _ _ _ _, Stmt.If _ _ _ _] _) _ _ _); k_dflt (refine' execs_reg ?F ?N ?S ?r ?_ ?_; (case F => assumption); (case N => assumption); (case S => assumption); (case r => assumption); k_whole); (rotate_left 1; intro h9 tk9 t9 x9 F9 N9 hx9 h09 h19 h29; (try dsimp only); (try k_fold); rotate_right 1)))
local macro_rules | `(tactic| walk_at "UnrEnd") => `(tactic| (refine' unr_end2 ?F ?N ?l ?_; (case F => assumption); (case N => assumption); (case l => assumption)))
theorem c_fore (hand r : Nat) (hh : hand < 3) (hr : r < 4294967296) (t u : Tok) : CallIn PySem.Challenge.pw_tx0020_01 w (Mine.KK w.params) p loose mean mg mb 84 2 [.int (hand : Int) t, .int (r : Int) u] (RetL (zs (fore hand r))) := by
  k_with_none
  k_with "pyIter ref" => k_state (fun pre reg found => Mine.ForeSt hand r pre.length reg found ∧ found.length ≤ 2 ∧ 0 ≤ reg ∧ reg < 4294967296) "register" "found"
  k_with "state" => (first | exact fore_start hr | exact fore_skip hr (by assumption) (by assumption) (by assumption) (by assumption) | exact fore_one_no hr (by assumption) (by assumption) (by omega) (by assumption) (by assumption) (by assumption) (by omega) | exact fore_three_no hr (by assumption) (by assumption) (by omega) (by assumption) (by assumption) (by assumption) (by omega) | exact fore_one hr (by assumption) (by assumption) (by assumption) (by assumption) (by omega) | exact fore_three hr (by assumption) (by assumption) (by assumption) (by assumption) (by omega) rfl)
  intro dp un gd cn cs a ccd cl outer A₀ base h₀ L m news s Q E B F X N T hk hdp hun hret
  refine wpAny_call ?_
  k_dflt (refine' code_def0 (binds := [(Str.ofString "hand", Value.int (hand : Int) t), (Str.ofString "register", Value.int (r : Int) u)]) B F X N T rfl rfl hk ?k6 ?k7 ?k8 ?k9 ?kB ?_ ?c2 ?c3 ?c4 ?c5; (case k6 => k_is); (case k7 => k_is); (case k8 => ktr_room); (case k9 => exact BindsTo.of_eq rfl); (case c5 => decide); (case kB => exact locs rfl); (case c2 => exact rfl); (case c3 => exact rfl); (case c4 => exact rfl); k_whole; intro g' L' h' FG' NG' F' N' B' X' T'; (try dsimp only); (try k_fold))
  have I0 : IntsAre ([] : List Value) ([] : List Int) := .nil
  repeat' (first | (k_unfold; (try dsimp only)) | (k_end; wrow_close) | walk1 | (dsimp only; walk1) | (leave1; try dsimp only) | fail "no step")
  all_goals first
    | exact RegEnd.mk ⟨_, _, _, _, rfl, by assumption, by assumption, stepZ_hi (ForeSt.reg (by assumption)) (by assumption)⟩
    | exact RegEnd.mk ⟨_, _, _, _, rfl, by assumption, by assumption, stepZ_lo (ForeSt.reg (by assumption)) (by assumption)⟩
    | (refine' ret_list hret NG' ?f ?kf ?n ?kn ?hm ?hi ?e
       (case f => assumption)
       (case kf => assumption)
       (case n => assumption)
       (case kn => assumption)
       (case hm => k_mem)
       (case hi => assumption)
       (case e => exact fore_fin (by assumption)))
end Mine
namespace Mine
open PySem.Calls
structure RetSC (hand o : Nat) (h₀ : Heap) (L : Addr) (m : Str → Option Value) (news : List (Addr × Obj)) (s : Shared) (Q : Value → Shared → Prop) : Prop where
  one : ∀ (c : Nat), codes hand o = [c] → c < 128 → ∀ (t : Tok) (h' : Heap) (tk' : Nat), Fr h₀ L h' m → News h₀ L h' news → Q (.str ⟨#[c]⟩ t) { s with heap := h', toks := tk' }
  three : ∀ (a b : Nat), codes hand o = [61, a, b] → a < 128 → b < 128 → ∀ (t : Tok) (h' : Heap) (tk' : Nat), Fr h₀ L h' m → News h₀ L h' news → Q (.str ⟨#[61, a, b]⟩ t) { s with heap := h', toks := tk' }
variable {w : World} {p : Program} {loose : List Str} {mean : ExcName → Option Value} {mg mb : Str → Option Value}
theorem c_genZ (z : Int) (h0 : 0 ≤ z) (t : Tok) : CallIn PySem.Challenge.pw_tx0020_01 w (Mine.KK w.params) p loose mean mg mb 21 1 [.int z t] (RetI ((iterF 8 z.toNat : Nat) : Int)) := by
  obtain ⟨o, rfl⟩ : ∃ o : Nat, z = (o : Int) := ⟨z.toNat, by omega⟩
  exact c_gen o t
theorem c_signsC (hz oz : Int) (h0 : 0 ≤ hz) (h1 : hz < 3) (h2 : 0 ≤ oz) (h3 : oz < 256) (t u : Tok) : CallIn PySem.Challenge.pw_tx0020_01 w (Mine.KK w.params) p loose mean mg mb 72 4 [.int hz t, .int oz u] (RetSC hz.toNat oz.toNat) := by
  obtain ⟨hand, rfl⟩ : ∃ o : Nat, hz = (o : Int) := ⟨hz.toNat, by omega⟩
  obtain ⟨o, rfl⟩ : ∃ o : Nat, oz = (o : Int) := ⟨oz.toNat, by omega⟩
  refine (c_signs hand o (by omega) (by omega) t u).mono fun _ _ _ _ _ _ R => ?_
  rcases codes_cases hand o (by omega) with ⟨c, hc, e⟩ | e
  · have e2 : tx hand o = ⟨#[c]⟩ := by unfold tx; rw [e]
    rw [e2]; exact ⟨R.one c e hc⟩
  · have e2 : tx hand o = ⟨#[61, hexd (o / 16), hexd (o % 16)]⟩ := by unfold tx; rw [e]
    rw [e2]; exact ⟨R.three _ _ e (hexd_lt (by omega)) (hexd_lt (by omega))⟩
theorem c_codesZ1 (hz oz : Int) (h0 : 0 ≤ hz) (h1 : hz < 3) (h2 : 0 ≤ oz) (h3 : oz < 256) {c : Nat} (e : codes hz.toNat oz.toNat = [c]) (t u : Tok) : CallIn PySem.Challenge.pw_tx0020_01 w (Mine.KK w.params) p loose mean mg mb 77 1 [.int hz t, .int oz u] (RetL1 (c : Int)) := by
  obtain ⟨hand, rfl⟩ : ∃ o : Nat, hz = (o : Int) := ⟨hz.toNat, by omega⟩
  obtain ⟨o, rfl⟩ : ∃ o : Nat, oz = (o : Int) := ⟨oz.toNat, by omega⟩
  exact c_codes1 hand o (by omega) (by omega) e t u
theorem c_codesZ3 (hz oz : Int) (h0 : 0 ≤ hz) (h1 : hz < 3) (h2 : 0 ≤ oz) (h3 : oz < 256) {a b : Nat} (e : codes hz.toNat oz.toNat = [61, a, b]) (t u : Tok) : CallIn PySem.Challenge.pw_tx0020_01 w (Mine.KK w.params) p loose mean mg mb 77 1 [.int hz t, .int oz u] (RetL3 61 (a : Int) (b : Int)) := by
  obtain ⟨hand, rfl⟩ : ∃ o : Nat, hz = (o : Int) := ⟨hz.toNat, by omega⟩
  obtain ⟨o, rfl⟩ : ∃ o : Nat, oz = (o : Int) := ⟨oz.toNat, by omega⟩
  exact c_codes3 hand o (by omega) (by omega) e t u
theorem c_foreZ (hz rz : Int) (h0 : 0 ≤ hz) (h1 : hz < 3) (h2 : 0 ≤ rz) (h3 : rz < 4294967296) (t u : Tok) : CallIn PySem.Challenge.pw_tx0020_01 w (Mine.KK w.params) p loose mean mg mb 84 2 [.int hz t, .int rz u] (RetL (zs (fore hz.toNat rz.toNat))) := by
  obtain ⟨hand, rfl⟩ : ∃ o : Nat, hz = (o : Int) := ⟨hz.toNat, by omega⟩
  obtain ⟨o, rfl⟩ : ∃ o : Nat, rz = (o : Int) := ⟨rz.toNat, by omega⟩
  exact c_fore hand o (by omega) (by omega) t u
end Mine
namespace Mine
/-- one hand's step of the register -/
noncomputable def stepH (h r : Nat) : Nat := after r (codes h (r / 16777216))
noncomputable def regAt (hs : List Nat) (r : Nat) : Nat := hs.foldl (fun r h => stepH h r) r
noncomputable def walkAt : List Nat → Nat → List Nat
  | [], _ => []
  | h :: t, r => r :: walkAt t (stepH h r)
theorem regAt_snoc (hs : List Nat) (h r : Nat) : regAt (hs ++ [h]) r = stepH h (regAt hs r) := by unfold regAt; rw [List.foldl_append]; rfl
theorem walkAt_snoc : ∀ (hs : List Nat) (h r : Nat), walkAt (hs ++ [h]) r = walkAt hs r ++ [regAt hs r]
  | [], _, _ => rfl
  | a :: t, h, r => by
    show r :: walkAt (t ++ [h]) (stepH a r) = r :: (walkAt t (stepH a r) ++ [regAt t (stepH a r)])
    rw [walkAt_snoc t h (stepH a r)]
theorem walkAt_len : ∀ (hs : List Nat) (r : Nat), (walkAt hs r).length = hs.length
  | [], _ => rfl
  | a :: t, r => by show (walkAt t (stepH a r)).length + 1 = t.length + 1; rw [walkAt_len t]
theorem stepH_lt {h r : Nat} (hr : r < 4294967296) : stepH h r < 4294967296 := by
  unfold stepH
  refine after_lt _ _ hr fun c hc => ?_
  rcases codes_cases h (r / 16777216) (by omega) with ⟨d, hd, e⟩ | e
  · rw [e] at hc; rw [List.mem_singleton.mp hc]; omega
  · rw [e] at hc
    have q1 := hexd_lt (f := r / 16777216 / 16) (by omega)
    have q2 := hexd_lt (f := r / 16777216 % 16) (by omega)
    simp only [List.mem_cons, List.not_mem_nil, or_false] at hc
    omega
abbrev ns (l : List Int) : List Nat := l.map Int.toNat
structure WalkSt (r : Int) (pre : List Int) (reg : Int) (walk : List Int) : Prop where
  reg : reg = ((regAt (ns pre) r.toNat : Nat) : Int)
  walk : walk = zs (walkAt (ns pre) r.toNat)
theorem walk_start {r : Int} (h0 : 0 ≤ r) (h1 : r < 4294967296) : WalkSt r [] r [] ∧ ([] : List Int).length = ([] : List Int).length ∧ 0 ≤ r ∧ r < 4294967296 :=
  ⟨⟨by show r = ((r.toNat : Nat) : Int); omega, rfl⟩, rfl, h0, h1⟩
section
variable {r reg hand x : Int} {pre walk : List Int}
theorem walk_end (S : WalkSt r pre reg walk) (hl : walk.length = pre.length) (h0 : 0 ≤ reg) (h1 : reg < 4294967296) (hx : x = ((stepH hand.toNat reg.toNat : Nat) : Int)) :
    WalkSt r (pre ++ [hand]) x (walk ++ [reg]) ∧ (walk ++ [reg]).length = (pre ++ [hand]).length ∧ 0 ≤ x ∧ x < 4294967296 := by
  obtain ⟨hr, hw⟩ := S
  have hlt := stepH_lt (h := hand.toNat) (r := reg.toNat) (by omega)
  have e : ns (pre ++ [hand]) = ns pre ++ [hand.toNat] := by simp [ns]
  refine ⟨⟨?_, ?_⟩, by simp [hl], by omega, by omega⟩
  · rw [e, regAt_snoc, hx, hr, Int.toNat_natCast]
  · rw [e, walkAt_snoc, hw, hr]; simp [zs]
theorem reg_one {c : Nat} (h0 : 0 ≤ reg) (e : codes hand.toNat (reg.fdiv (2 ^ Int.toNat 24)).toNat = [c]) :
    ((iterF 8 (Builtin.bitXor reg (c : Int)).toNat : Nat) : Int) = ((stepH hand.toNat reg.toNat : Nat) : Int) := by
  obtain ⟨k, rfl⟩ : ∃ k : Nat, reg = (k : Int) := ⟨reg.toNat, by omega⟩
  rw [div24_nat] at e
  unfold stepH
  rw [Int.toNat_natCast, e, xor_nat, Int.toNat_natCast]; rfl
theorem reg_three {a b : Nat} (h0 : 0 ≤ reg) (e : codes hand.toNat (reg.fdiv (2 ^ Int.toNat 24)).toNat = [61, a, b]) :
    ((iterF 8 (Builtin.bitXor ((iterF 8 (Builtin.bitXor ((iterF 8 (Builtin.bitXor reg 61).toNat : Nat) : Int) (a : Int)).toNat : Nat) : Int) (b : Int)).toNat : Nat) : Int) = ((stepH hand.toNat reg.toNat : Nat) : Int) := by
  obtain ⟨k, rfl⟩ : ∃ k : Nat, reg = (k : Int) := ⟨reg.toNat, by omega⟩
  rw [div24_nat] at e
  unfold stepH
  rw [show (61 : Int) = ((61 : Nat) : Int) from rfl, xor_nat, Int.toNat_natCast, xor_nat, Int.toNat_natCast, xor_nat, Int.toNat_natCast, Int.toNat_natCast, e]; rfl
theorem xor_nn {a b : Int} (ha : 0 ≤ a) (hb : 0 ≤ b) : 0 ≤ Builtin.bitXor a b := by
  obtain ⟨k, rfl⟩ : ∃ k : Nat, a = (k : Int) := ⟨a.toNat, by omega⟩
  obtain ⟨l, rfl⟩ : ∃ k : Nat, b = (k : Int) := ⟨b.toNat, by omega⟩
  rw [xor_nat]; exact Int.natCast_nonneg _
theorem hand_in {hs : List Int} {n : Int} (hb : ∀ h ∈ hs, 0 ≤ h ∧ h < 3) (hm : n ∈ hs) : 0 ≤ n ∧ n < 3 := hb n hm
end
open PySem.Calls
theorem prog_is : PySem.Challenge.rw_tx0020_01.row.prog = PySem.Challenge.pw_tx0020_01 := rfl
theorem around_is (nm : Str) (sc : Scope) (L a : Addr) (cd : Value) : callerA.deeper (envOfC nm sc L a cd) = ktrTop (callerA.depth + 1) (callerA.units + 3) callerA.guards nm sc L a cd (cellsFrom (L + 1) sc.names []) [] := rfl
theorem CallIn.useL {w : World} {K : Frag} {p : Program} {loose : List Str} {mean : ExcName → Option Value} {mg mb : Str → Option Value} {f : Addr} {lev : Nat} {vs : List Value}
    {Ret : (h₀ : Heap) → (L : Addr) → (m : Str → Option Value) → (news : List (Addr × Obj)) → (s : Shared) → (Q : Value → Shared → Prop) → Prop} (C : CallIn PySem.Challenge.pw_tx0020_01 w K p loose mean mg mb f lev vs Ret)
    {nm : Str} {sc : Scope} {a : Addr} {cd : Value} {base h₀ : Heap} {L : Addr} {m : Str → Option Value} {news : List (Addr × Obj)} {s : Shared} {Q E : Value → Shared → Prop}
    (B : Below callerA base [] h₀) (F : Fr h₀ L s.heap m) (X : K.In h₀) (N : News h₀ L s.heap news) (T : Top p loose mean mg mb h₀) (hk : sc.kind = .function) (hl : lev ≤ 8) (r : Ret h₀ L m news s Q) :
    wpAny (model PySem.Challenge.rw_tx0020_01.row.prog w) (callerA.deeper (envOfC nm sc L a cd)) (call (.ref f) vs) Q E s := by
  rw [prog_is, around_is]
  refine C _ _ _ _ _ _ _ _ _ _ _ _ _ _ _ _ _ _ B F X N T hk ?_ ?_ r
  · have : callerA.depth + 1 + 8 < recursionLimit := by decide
    omega
  · have : callerA.units + 3 + 8 * 8 < cLine := by
      rw [show cLine = _ from cLine_is]
      decide
    omega
end Mine
namespace Mine
open PySem.Calls
section
variable {prog : Program} {w : World} {A : Around} {E : Value → Shared → Prop} {s : Shared} {env : Env} {h₀ : Heap} {x : Str} {body : List Stmt} {Q : Flow → Shared → Prop}
theorem unr_mono {I : Addr} {it : Obj} {L : Addr} {R R' : (Str → Option Value) → List (Addr × Obj) → Prop} {s₁ s₂ : Shared} (h : UnrEnd h₀ L s₁ I it R s₂) (hR : ∀ m n, R m n → R' m n) : UnrEnd h₀ L s₁ I it R' s₂ := by
  obtain ⟨h', tk, m', news', e, F, N, o, r⟩ := h
  exact ⟨h', tk, m', news', e, F, N, o, hR _ _ r⟩
/-- a loop over a list of the ledger, by what holds ahead of each turn -/
theorem listRest_of {I : Addr} {lp : Addr × Obj} (J : List Value → (Str → Option Value) → List (Addr × Obj) → Prop)
    (turn : ∀ v r m news (it : Obj) h tk, J (v :: r) m news → it.cls = .type "list_iterator" → Fr h₀ env.locals h (fun y => if y = x then some v else m y) → News h₀ env.locals h ((I, it) :: news) →
      wpAny (model prog w) A (execs body env) (UnrPost h₀ env.locals { s with heap := h, toks := tk } I it (fun m' n' => lp ∈ n' ∧ J r m' n') Q) E { s with heap := h, toks := tk })
    (fin : ∀ m news h tk, J [] m news → Fr h₀ env.locals h m → News h₀ env.locals h news → Q .next { s with heap := h, toks := tk }) :
    ∀ vs m news, J vs m news → ListRest prog w A E h₀ env x body Q s I lp vs m news
  | [], m, news, hj => ListRest.zero fun h tk F N => fin m news h tk hj F N
  | v :: r, m, news, hj => ListRest.succ fun it h tk hc F N => by
    refine wpAny_mono (turn v r m news it h tk hj hc F N) (fun f s₂ p => ?_) fun _ _ e => e
    have key : ∀ s₂, UnrEnd h₀ env.locals { s with heap := h, toks := tk } I it (fun m' n' => lp ∈ n' ∧ J r m' n') s₂ →
        UnrEnd h₀ env.locals { s with heap := h, toks := tk } I it (fun m' n' => lp ∈ n' ∧ ListRest prog w A E h₀ env x body Q s I lp r m' n') s₂ :=
      fun s₂ p => unr_mono p fun m' n' q => ⟨q.1, listRest_of J turn fin r m' n' q.2⟩
    cases f with
    | ret v => exact p
    | brk => exact p
    | next => exact key _ p
    | cont => exact key _ p
theorem iter_of {ax : Addr} {vs : List Value} {n : Nat} {m₀ : Str → Option Value} {news : List (Addr × Obj)} (J : List Value → (Str → Option Value) → List (Addr × Obj) → Prop)
    (hh : A.handled = none) (F : Fr h₀ env.locals s.heap m₀) (N : News h₀ env.locals s.heap news) (hm : (ax, W.listOf vs.toArray n) ∈ news) (hj : J vs m₀ news)
    (turn : ∀ I, (∀ p ∈ news, p.1 < I) → ∀ v r m news (it : Obj) h tk, J (v :: r) m news → it.cls = .type "list_iterator" → Fr h₀ env.locals h (fun y => if y = x then some v else m y) → News h₀ env.locals h ((I, it) :: news) →
      wpAny (model prog w) A (execs body env) (UnrPost h₀ env.locals { s with heap := h, toks := tk } I it (fun m' n' => (ax, W.listOf vs.toArray n) ∈ n' ∧ J r m' n') Q) E { s with heap := h, toks := tk })
    (fin : ∀ m news h tk, J [] m news → Fr h₀ env.locals h m → News h₀ env.locals h news → Q .next { s with heap := h, toks := tk }) :
    wpAny (model prog w) A (pyIter (.ref ax)) (fun it s₂ => LoopAtV prog w A h₀ env x body Q E it s₂) E s :=
  iter_listUnr hh F N hm rfl rfl fun I hI => listRest_of J (turn I hI) fin vs m₀ news hj
theorem unr_cls {I : Addr} {it : Obj} {L : Addr} {R : (Str → Option Value) → List (Addr × Obj) → Prop} {s₁ : Shared} {h' : Heap} {tk : Nat} {m' : Str → Option Value} {all : List (Addr × Obj)} (hc : it.cls = .type "list_iterator")
    (F : Fr h₀ L h' m') (N : News h₀ L h' all) (hI : (I, it) ∈ all) (news' : List (Addr × Obj)) (sub : ∀ p ∈ news', p ∈ all) (cls : ∀ p ∈ news', p.2.cls = .type "list") (r : R m' news') :
    UnrEnd h₀ L s₁ I it R { s₁ with heap := h', toks := tk } :=
  UnrEnd.intro F N news' (fun p hp => by
    rcases List.mem_cons.mp hp with rfl | hp
    · exact hI
    · exact sub p hp) (fun p hp e => by
    have h1 := (N _ (sub p hp)).1
    rw [e, (N _ hI).1] at h1
    have h2 := cls p hp
    rw [← Option.some.inj h1, hc] at h2
    exact absurd h2 (by decide)) r
end
theorem ne_cls {h₀ h : Heap} {L I : Addr} {it : Obj} {news : List (Addr × Obj)} (hc : it.cls = .type "list_iterator") (N : News h₀ L h ((I, it) :: news)) {a : Addr} {o : Obj} (ha : (a, o) ∈ news) (ho : o.cls = .type "list") : @Ne Nat I a := fun e => by
  have h1 := (N _ (List.mem_cons_self ..)).1
  have h2 := (N _ (List.mem_cons_of_mem _ ha)).1
  dsimp only at h1 h2
  have e' : I = a := e
  rw [e', h2] at h1
  rw [← Option.some.inj h1, ho] at hc
  exact absurd hc (by decide)
theorem canon {m : Str → Option Value} {a : Str} {v : Option Value} (h : m a = v) : m = fun y => if y = a then v else m y := by
  funext y
  by_cases e : y = a
  · rw [if_pos e, e, h]
  · rw [if_neg e]
theorem Fr.canon {h₀ h : Heap} {L : Addr} {m : Str → Option Value} {a : Str} {v : Option Value} (F : Fr h₀ L h m) (e : m a = v) : Fr h₀ L h (fun y => if y = a then v else m y) := by
  rw [← Mine.canon e]; exact F
end Mine
namespace Mine
open PySem.Calls
section
variable {prog : Program} {w : World} {A : Around} {E : Value → Shared → Prop} {s : Shared} {h₀ : Heap} {L D : Addr} {news : List (Addr × Obj)} {Q : Value → Shared → Prop}
theorem join_codes1 {a d : Nat} {t t1 : Tok} (N : News h₀ L s.heap news) (hm : (D, LCg.lst [.str ⟨#[d]⟩ t1]) ∈ news) (e : d = a) (h : ∀ t' k, Q (.str ⟨#[a]⟩ t') { s with toks := k }) :
    wpAny (model prog w) A (call (.builtin "str.join") [.str (PySem.Str.ofString "") t, .ref D]) Q E s := by
  subst e
  exact join_list (ys := [⟨#[d]⟩]) (News.isList N hm) (StrsAre.cons _ _ .nil) (by show 1 + 0 + 1 * 0 ≤ 16777216; decide) h
theorem join_codes3 {a b c d e f : Nat} {t t1 t2 t3 : Tok} (N : News h₀ L s.heap news) (hm : (D, LCg.lst [.str ⟨#[d]⟩ t1, .str ⟨#[e]⟩ t2, .str ⟨#[f]⟩ t3]) ∈ news) (e1 : d = a) (e2 : e = b) (e3 : f = c) (h : ∀ t' k, Q (.str ⟨#[a, b, c]⟩ t') { s with toks := k }) :
    wpAny (model prog w) A (call (.builtin "str.join") [.str (PySem.Str.ofString "") t, .ref D]) Q E s := by
  subst e1 e2 e3
  exact join_list (ys := [⟨#[d]⟩, ⟨#[e]⟩, ⟨#[f]⟩]) (News.isList N hm) (StrsAre.cons _ _ (StrsAre.cons _ _ (StrsAre.cons _ _ .nil))) (by show 1 + (1 + (1 + 0)) + 3 * 0 ≤ 16777216; decide) h
theorem ne_same {x : PySem.Str} {t u : Tok} (h : Q (.bool false) s) : wpAny (model prog w) A (compareOp .NotEq (.str x t) (.str x u)) Q E s := by
  refine ne_str ?_
  rw [bne_self_eq_false]
  exact h
end
section
variable {prog : Program} {w : World} {A : Around} {E : Value → Shared → Prop} {s : Shared} {env : Env} {h₀ : Heap} {x : Str} {body : List Stmt} {Q : Flow → Shared → Prop}
/-- a loop over a text of small codes that leaves the ledger as it is -/
theorem iter_text {y : PySem.Str} {tt : Tok} {m₀ : Str → Option Value} {news : List (Addr × Obj)} (J : Nat → (Str → Option Value) → Prop) (ha : y.cps.all (· < 128) = true)
    (hh : A.handled = none) (F : Fr h₀ env.locals s.heap m₀) (N : News h₀ env.locals s.heap news) (hj : J 0 m₀)
    (turn : ∀ I i c u m (it : Obj) h tk, y.cps[i]? = some c → J i m → Fr h₀ env.locals h (fun z => if z = x then some (.str ⟨#[c]⟩ u) else m z) → News h₀ env.locals h ((I, it) :: news) →
      wpAny (model prog w) A (execs body env) (fun f s₂ => match f with
        | .next => ∃ h' tk' m', s₂ = { s with heap := h', toks := tk' } ∧ Fr h₀ env.locals h' m' ∧ News h₀ env.locals h' ((I, it) :: news) ∧ J (i + 1) m'
        | _ => False) E { s with heap := h, toks := tk })
    (fin : ∀ m h tk, J y.cps.size m → Fr h₀ env.locals h m → News h₀ env.locals h news → Q .next { s with heap := h, toks := tk }) :
    wpAny (model prog w) A (pyIter (.str y tt)) (fun it s₂ => LoopAtV prog w A h₀ env x body Q E it s₂) E s := by
  refine wpAny_pyIter_ascii ha ?_
  have W := Walks.strAscii (prog := prog) (w := w) hh s.heap.objs.size y tt
  have hnew := next_is_new F
  refine ⟨_, _, _, y.cps.size, _, _, m₀, news, fun i m₁ news₁ => news₁ = news ∧ J i m₁, rfl, W, ?_, ?_, ?_, ⟨_, Heap.get?_push_size _ rfl, rfl, rfl⟩, F.push _, (fun p hp => ⟨Heap.get?_push_of_some _ (N p hp).1, (N p hp).2⟩), ⟨rfl, hj⟩, ?_, ?_⟩
  · intro hm
    exact absurd F.ns.lt ((List.mem_singleton.mp hm) ▸ Nat.lt_irrefl _)
  · intro b hb
    rw [List.mem_singleton.mp hb]
    exact hnew
  · intro p hp hI
    exact absurd (Heap.lt_size (N p hp).1) ((List.mem_singleton.mp hI) ▸ Nat.lt_irrefl _)
  · rintro i v m₁ news₁ s₁ own ⟨hh', tk', rfl⟩ hin ⟨c, u, hc, rfl⟩ ⟨rfl, hJ⟩ hoff hown hget hall hst F₁ N₁
    obtain ⟨it, hit, hic, hid⟩ := hst
    have hmem := hall s.heap.objs.size (List.mem_singleton.mpr rfl) hnew _ hit
    have N₂ : News h₀ env.locals hh' ((s.heap.objs.size, it) :: news₁) := fun p hp => by
      rcases List.mem_cons.mp hp with rfl | hp
      · exact N₁ _ (List.mem_append_left _ hmem)
      · exact N₁ _ (List.mem_append_right _ hp)
    refine wpAny_mono (turn s.heap.objs.size i c u m₁ it hh' tk' hc hJ F₁ N₂) (fun f s₂ p => ?_) fun _ _ e => e
    cases f with
    | ret v => exact p.elim
    | brk => exact p.elim
    | cont => exact p.elim
    | next =>
      obtain ⟨h', tk, m', e, F', N', r⟩ := p
      refine .next ⟨rfl, h', tk, m', news₁, e, F', fun p hp => ?_, hoff, rfl, r⟩
      rcases List.mem_append.mp hp with hp | hp
      · have h1 : p.1 = s.heap.objs.size := List.mem_singleton.mp (hown p hp)
        have h2 : hh'.get? p.1 = some p.2 := hget p hp
        have h3 : p = (s.heap.objs.size, it) := by
          rw [h1, hit] at h2
          exact Prod.ext h1 (Option.some.inj h2).symm
        rw [h3]; exact N' _ (List.mem_cons_self ..)
      · exact N' _ (List.mem_cons_of_mem _ hp)
  · rintro h' tk m' news' F' N' _ ⟨rfl, hJ⟩
    exact fin m' h' tk hJ F' N'
end
theorem after_snoc : ∀ (l : List Nat) (r c : Nat), after r (l ++ [c]) = iterF 8 (after r l ^^^ c)
  | [], _, _ => rfl
  | a :: l, r, c => after_snoc l (iterF 8 (r ^^^ a)) c
theorem after_take {l : List Nat} {i c r : Nat} (h : l[i]? = some c) : after r (l.take (i + 1)) = iterF 8 (after r (l.take i) ^^^ c) := by
  rw [List.take_add_one, h]; exact after_snoc _ _ _
/-- the inner loop's state: the register behind the first i signs -/
structure JS (R : Int) (W H : Addr) (l : List Nat) (i : Nat) (m : Str → Option Value) : Prop where
  reg : ∃ t, m (Str.ofString "register") = some (.int ((after R.toNat (l.take i) : Nat) : Int) t)
  walk : m (Str.ofString "walk") = some (.ref W)
  hands : m (Str.ofString "hands") = some (.ref H)
theorem step_of {hand R : Int} {l : List Nat} (h0 : 0 ≤ R) (e : codes hand.toNat (R.fdiv (2 ^ Int.toNat 24)).toNat = l) : ((after R.toNat (l.take l.length) : Nat) : Int) = ((stepH hand.toNat R.toNat : Nat) : Int) := by
  obtain ⟨k, rfl⟩ : ∃ k : Nat, R = (k : Int) := ⟨R.toNat, by omega⟩
  rw [div24_nat] at e
  unfold stepH
  rw [List.take_length, Int.toNat_natCast, e]
structure SignTurn (h₀ : Heap) (L : Addr) (I : Addr) (it : Obj) (news : List (Addr × Obj)) (W H : Addr) (x : Nat) (s s' : Shared) : Prop where
  ret : ∃ h' tk' m' t, s' = { s with heap := h', toks := tk' } ∧ Fr h₀ L h' m' ∧ News h₀ L h' ((I, it) :: news) ∧ m' (Str.ofString "register") = some (.int (x : Int) t) ∧ m' (Str.ofString "walk") = some (.ref W) ∧ m' (Str.ofString "hands") = some (.ref H)
theorem src_led {h₀ : Heap} {ax : Addr} {its : Array Value} {n : Nat} {news : List (Addr × Obj)} (hm : (ax, PySem.W.listOf its n) ∈ news) : LCg.SrcAt h₀ ax its news := Or.inr ⟨_, hm, rfl, _, rfl⟩
theorem codes_small {hand R : Int} {l : List Nat} (b1 : 0 ≤ R) (b2 : R < 4294967296) (e : codes hand.toNat (R.fdiv (2 ^ Int.toNat 24)).toNat = l) : ∀ c ∈ l, c < 128 := by
  have h := div24 b1 b2
  rcases codes_cases hand.toNat (R.fdiv (2 ^ Int.toNat 24)).toNat (by omega) with ⟨c, hc, q⟩ | q
  · rw [q] at e; subst e
    intro d hd
    rw [List.mem_singleton.mp hd]; exact hc
  · rw [q] at e; subst e
    have q1 := hexd_lt (f := (R.fdiv (2 ^ Int.toNat 24)).toNat / 16) (by omega)
    have q2 := hexd_lt (f := (R.fdiv (2 ^ Int.toNat 24)).toNat % 16) (by omega)
    intro d hd
    simp only [List.mem_cons, List.not_mem_nil, or_false] at hd
    omega
section
variable {prog : Program} {w : World} {A : Around} {E : Value → Shared → Prop} {s : Shared} {env : Env} {h₀ : Heap} {x : Str} {body : List Stmt} {Q : Flow → Shared → Prop}
theorem iter_signs {l : List Nat} {hand R : Int} {tt t0 : Tok} {m₀ : Str → Option Value} {news : List (Addr × Obj)} {W H : Addr} (e : codes hand.toNat (R.fdiv (2 ^ Int.toNat 24)).toNat = l) (b1 : 0 ≤ R) (b2 : R < 4294967296)
    (hh : A.handled = none) (F : Fr h₀ env.locals s.heap m₀) (N : News h₀ env.locals s.heap news) (w1 : m₀ (Str.ofString "register") = some (.int R t0)) (w2 : m₀ (Str.ofString "walk") = some (.ref W)) (w3 : m₀ (Str.ofString "hands") = some (.ref H))
    (turn : ∀ (I : Addr) (c r : Nat) (u t : Tok) (m : Str → Option Value) (it : Obj) (h : Heap) (tk : Nat), m (Str.ofString "walk") = some (.ref W) → m (Str.ofString "hands") = some (.ref H) → Fr h₀ env.locals h (fun z => if z = x then some (.str ⟨#[c]⟩ u) else if z = Str.ofString "register" then some (.int ((r : Nat) : Int) t) else m z) → News h₀ env.locals h ((I, it) :: news) →
      wpAny (model prog w) A (execs body env) (fun f s₂ => match f with
        | .next => SignTurn h₀ env.locals I it news W H (iterF 8 (r ^^^ c)) s s₂
        | _ => False) E { s with heap := h, toks := tk })
    (fin : ∀ (m : Str → Option Value) (h : Heap) (tk : Nat) (t : Tok), m (Str.ofString "walk") = some (.ref W) → m (Str.ofString "hands") = some (.ref H) → m (Str.ofString "register") = some (.int ((stepH hand.toNat R.toNat : Nat) : Int) t) → Fr h₀ env.locals h m → News h₀ env.locals h news → Q .next { s with heap := h, toks := tk }) :
    wpAny (model prog w) A (pyIter (.str ⟨l.toArray⟩ tt)) (fun it s₂ => LoopAtV prog w A h₀ env x body Q E it s₂) E s := by
  have hl := codes_small b1 b2 e
  refine iter_text (JS R W H l) ?_ hh F N ⟨⟨t0, ?_⟩, w2, w3⟩ ?_ ?_
  · simp only [List.all_toArray, List.all_eq_true, decide_eq_true_eq]; exact hl
  · rw [w1]
    show _ = some (Value.int ((R.toNat : Nat) : Int) t0)
    rw [Int.toNat_of_nonneg b1]
  · intro I i c u m it h tk hc hJ F1 N1
    obtain ⟨⟨t, g1⟩, g2, g3⟩ := hJ
    have F2 := F1
    rw [canon g1] at F2
    have hc' : l[i]? = some c := by simpa using hc
    refine wpAny_mono (turn I c (after R.toNat (l.take i)) u t m it h tk g2 g3 F2 N1) (fun f s₂ p => ?_) fun _ _ e => e
    cases f with
    | ret v => exact p
    | brk => exact p
    | cont => exact p
    | next =>
      obtain ⟨h', tk', m', t', e1, F3, N3, q1, q2, q3⟩ := p.ret
      refine ⟨h', tk', m', e1, F3, N3, ⟨t', ?_⟩, q2, q3⟩
      rw [q1, after_take hc']
  · intro m h tk hJ F1 N1
    obtain ⟨⟨t, g1⟩, g2, g3⟩ := hJ
    refine fin m h tk t g2 g3 ?_ F1 N1
    rw [g1]
    have q := step_of b1 e
    have q2 : (⟨l.toArray⟩ : PySem.Str).cps.size = l.length := by simp
    rw [q2, q]
end
end Mine
namespace Mine
open PySem.Calls
structure HandsAt (h₀ : Heap) (L : Addr) (m : Str → Option Value) (s : Shared) (s' : Shared) : Prop where
  ret : ∃ (h9 : Heap) (tk9 : Nat) (H : Addr) (r : Int) (t : Tok) (ys : List Value) (hs : List Int), s' = { s with heap := h9, toks := tk9 } ∧ Fr h₀ L h9 (fun y => if y = Str.ofString "hands" then some (.ref H) else if y = Str.ofString "register" then some (.int r t) else m y) ∧
    News h₀ L h9 [(H, LCg.lst ys)] ∧ IntsAre ys hs ∧ hs.length = 4 ∧ (∀ h ∈ hs, 0 ≤ h ∧ h < 3) ∧ 0 ≤ r ∧ r < 4294967296
theorem execs_hands {M : Model} {A : Around} {E : Value → Shared → Prop} {s : Shared} {env : Env} {Q : Flow → Shared → Prop} {h₀ : Heap} {L : Addr} {m : Str → Option Value} {a b c d : Stmt} {l : List Stmt} (F : Fr h₀ L s.heap m)
    (h1 : wpAny M A (execs [a, b, c, d] env) (fun f s' => match f with | .next => HandsAt h₀ L m s s' | f => Q f s') E s)
    (h2 : ∀ (h9 : Heap) (tk9 : Nat) (H : Addr) (r : Int) (t : Tok) (ys : List Value) (hs : List Int), Fr h₀ L h9 (fun y => if y = Str.ofString "hands" then some (.ref H) else if y = Str.ofString "register" then some (.int r t) else m y) →
      News h₀ L h9 [(H, LCg.lst ys)] → IntsAre ys hs → hs.length = 4 → (∀ h ∈ hs, 0 ≤ h ∧ h < 3) → 0 ≤ r → r < 4294967296 → wpAny M A (execs l env) Q E { s with heap := h9, toks := tk9 }) :
    wpAny M A (execs (a :: b :: c :: d :: l) env) Q E s := by
  refine execs_app (l := [a, b, c, d]) h1 fun s' h => ?_
  obtain ⟨h9, tk9, H, r, t, ys, hs, rfl, F9, N9, I9, hl9, hb9, h09, h19⟩ := h.ret
  exact h2 h9 tk9 H r t ys hs F9 N9 I9 hl9 hb9 h09 h19
structure WalkAt (h₀ : Heap) (L H : Addr) (ys : List Value) (hs : List Int) (r : Int) (s s' : Shared) : Prop where
  ret : ∃ (h9 : Heap) (tk9 : Nat) (W : Addr) (ws : List Value) (n : Nat) (t : Tok) (m9 : Str → Option Value), s' = { s with heap := h9, toks := tk9 } ∧
    Fr h₀ L h9 (fun y => if y = Str.ofString "walk" then some (.ref W) else if y = Str.ofString "register" then some (.int ((regAt (ns hs) r.toNat : Nat) : Int) t) else if y = Str.ofString "hands" then some (.ref H) else m9 y) ∧
    News h₀ L h9 [(W, PySem.W.listOf ws.toArray n), (H, LCg.lst ys)] ∧ IntsAre ws (zs (walkAt (ns hs) r.toNat))
theorem execs_walk {M : Model} {A : Around} {E : Value → Shared → Prop} {s : Shared} {env : Env} {Q : Flow → Shared → Prop} {h₀ : Heap} {L H : Addr} {m : Str → Option Value} {ys : List Value} {hs : List Int} {r : Int} {t : Tok} {a b : Stmt} {l : List Stmt}
    (F : Fr h₀ L s.heap (fun y => if y = Str.ofString "hands" then some (.ref H) else if y = Str.ofString "register" then some (.int r t) else m y)) (N : News h₀ L s.heap [(H, LCg.lst ys)]) (I : IntsAre ys hs)
    (h1 : wpAny M A (execs [a, b] env) (fun f s' => match f with | .next => WalkAt h₀ L H ys hs r s s' | f => Q f s') E s)
    (h2 : ∀ (h9 : Heap) (tk9 : Nat) (W : Addr) (ws : List Value) (n : Nat) (t : Tok) (m9 : Str → Option Value),
      Fr h₀ L h9 (fun y => if y = Str.ofString "walk" then some (.ref W) else if y = Str.ofString "register" then some (.int ((regAt (ns hs) r.toNat : Nat) : Int) t) else if y = Str.ofString "hands" then some (.ref H) else m9 y) →
      News h₀ L h9 [(W, PySem.W.listOf ws.toArray n), (H, LCg.lst ys)] → IntsAre ws (zs (walkAt (ns hs) r.toNat)) → wpAny M A (execs l env) Q E { s with heap := h9, toks := tk9 }) :
    wpAny M A (execs (a :: b :: l) env) Q E s := by
  refine execs_two (WalkAt h₀ L H ys hs r s) h1 fun s' h => ?_
  obtain ⟨h9, tk9, W, ws, n, t, m9, rfl, F9, N9, I9⟩ := h.ret
  exact h2 h9 tk9 W ws n t m9 F9 N9 I9
noncomputable def J1 (H : Addr) (ys : List Value) (hs : List Int) (r : Int) (vs : List Value) (m : Str → Option Value) (news : List (Addr × Obj)) : Prop :=
  ∃ (pre rest walk : List Int) (W : Addr) (ws : List Value) (n : Nat) (R : Int) (t : Tok), hs = pre ++ rest ∧ IntsAre vs rest ∧ m (Str.ofString "walk") = some (.ref W) ∧ m (Str.ofString "register") = some (.int R t) ∧ m (Str.ofString "hands") = some (.ref H) ∧
    news = [(W, PySem.W.listOf ws.toArray n), (H, LCg.lst ys)] ∧ IntsAre ws walk ∧ WalkSt r pre R walk ∧ walk.length = pre.length ∧ 0 ≤ R ∧ R < 4294967296 ∧ @Ne Nat W H
theorem j1_size {hs pre rest walk : List Int} {ws : List Value} {x : Int} (e : hs = pre ++ x :: rest) (hl : hs.length = 4) (I : IntsAre ws walk) (h : walk.length = pre.length) : ws.toArray.size ≤ sizeLine := by
  have h1 := I.length
  rw [e, List.length_append, List.length_cons] at hl
  rw [List.size_toArray, sizeLine_eq]
  omega
theorem ints_snoc {R : Int} {t : Tok} : ∀ {vs : List Value} {ns : List Int}, IntsAre vs ns → IntsAre (vs ++ [.int R t]) (ns ++ [R])
  | _, _, .nil => .cons _ _ .nil
  | _, _, .cons z u r => .cons z u (ints_snoc r)
theorem j1_end {H W : Addr} {ys ws r9 : List Value} {hs pre rest walk : List Int} {r R hand : Int} {m' : Str → Option Value} {n : Nat} {t t9 : Tok} (e9 : hs = pre ++ hand :: rest) (I9 : IntsAre r9 rest)
    (w1 : m' (Str.ofString "walk") = some (.ref W)) (w2 : m' (Str.ofString "register") = some (.int ((stepH hand.toNat R.toNat : Nat) : Int) t)) (w3 : m' (Str.ofString "hands") = some (.ref H))
    (I8 : IntsAre ws walk) (S9 : WalkSt r pre R walk) (l9 : walk.length = pre.length) (b1 : 0 ≤ R) (b2 : R < 4294967296) (ne1 : @Ne Nat W H) :
    J1 H ys hs r r9 m' [(W, PySem.W.listOf (ws.toArray.push (.int R t9)) (n + 1)), (H, LCg.lst ys)] := by
  obtain ⟨q1, q2, q3, q4⟩ := walk_end (hand := hand) S9 l9 b1 b2 rfl
  refine ⟨pre ++ [hand], rest, walk ++ [R], W, ws ++ [.int R t9], n + 1, _, t, ?_, I9, w1, w2, w3, ?_, ints_snoc I8, q1, q2, q3, q4, ne1⟩
  · rw [e9, List.append_assoc]; rfl
  · rw [List.push_toArray]
theorem j1_start {H W : Addr} {ys : List Value} {hs : List Int} {r : Int} {m : Str → Option Value} {t : Tok} (I9 : IntsAre ys hs) (w1 : m (Str.ofString "walk") = some (.ref W)) (w2 : m (Str.ofString "register") = some (.int r t)) (w3 : m (Str.ofString "hands") = some (.ref H))
    (h0 : 0 ≤ r) (h1 : r < 4294967296) (ne1 : @Ne Nat W H) : J1 H ys hs r ys m [(W, PySem.W.listOf #[] 0), (H, LCg.lst ys)] :=
  ⟨[], hs, [], W, [], 0, r, t, rfl, I9, w1, w2, w3, rfl, .nil, (walk_start h0 h1).1, rfl, h0, h1, ne1⟩
theorem canon3 {m : Str → Option Value} {a b c : Str} {u v w : Option Value} (h1 : m a = u) (h2 : m b = v) (h3 : m c = w) : m = fun y => if y = a then u else if y = b then v else if y = c then w else m y := by
  funext y
  by_cases e1 : y = a
  · rw [if_pos e1, e1, h1]
  · rw [if_neg e1]
    by_cases e2 : y = b
    · rw [if_pos e2, e2, h2]
    · rw [if_neg e2]
      by_cases e3 : y = c
      · rw [if_pos e3, e3, h3]
      · rw [if_neg e3]
theorem j1_fin {h₀ : Heap} {L H : Addr} {ys : List Value} {hs : List Int} {r : Int} {m : Str → Option Value} {news : List (Addr × Obj)} {s : Shared} {h : Heap} {tk : Nat} (J : J1 H ys hs r [] m news) (F : Fr h₀ L h m) (N : News h₀ L h news) : WalkAt h₀ L H ys hs r s { s with heap := h, toks := tk } := by
  obtain ⟨pre, rest, walk, W, ws, n, R, t9, e9, I9, w1, w2, w3, rfl, I8, S9, l9, b1, b2, ne1⟩ := J
  cases I9
  rw [List.append_nil] at e9
  subst e9
  rw [S9.walk] at I8
  rw [S9.reg] at w2
  refine ⟨⟨h, tk, W, ws, n, t9, m, rfl, ?_, N, I8⟩⟩
  rw [← canon3 w1 w2 w3]
  exact F
theorem sign_end {h₀ h' : Heap} {L I : Addr} {it : Obj} {news : List (Addr × Obj)} {W H : Addr} {r c : Nat} {m' : Str → Option Value} {s : Shared} {tk' : Nat} {t : Tok} (F : Fr h₀ L h' m') (N : News h₀ L h' ((I, it) :: news))
    (q1 : m' (Str.ofString "register") = some (.int ((iterF 8 (Builtin.bitXor (r : Int) (c : Int)).toNat : Nat) : Int) t)) (q2 : m' (Str.ofString "walk") = some (.ref W)) (q3 : m' (Str.ofString "hands") = some (.ref H)) :
    SignTurn h₀ L I it news W H (iterF 8 (r ^^^ c)) s { s with heap := h', toks := tk' } := by
  rw [xor_nat, Int.toNat_natCast] at q1
  exact ⟨⟨h', tk', m', t, rfl, F, N, q1, q2, q3⟩⟩
end Mine
namespace Mine
open PySem.Calls
section
variable {M : Model} {prog : Program} {w : World} {A : Around} {E : Value → Shared → Prop} {s : Shared} {h₀ : Heap} {L D B : Addr} {m : Str → Option Value} {news news' : List (Addr × Obj)}
theorem seq_list_iadd : seqSlot? (.type "list") (dunderI "add") = pure (some (.builtin "list.__iadd__")) := PySem.seqSlot_of PySem.F.slot_list_iadd.lookup (by decide +kernel)
theorem inplace_list {a b : Value} {Q : Value → Shared → Prop} (ha : s.TypeIs a "list") (hb : s.TypeIs b "list") (hc : wpAny M A (call (.builtin "list.__iadd__") [a, b]) Q E s) : wpAny M A (inplaceOp .Add a b) Q E s := by
  unfold inplaceOp
  refine wpAny_holding ?_
  have hs : isSeqSlot (some (.builtin "list.__iadd__")) = true := by decide +kernel
  have hfi : fillsInplaceSlot (.type "list") "add" (Operator.Add == .Add) = pure false := by
    unfold fillsInplaceSlot
    show (typeLookup (.type "list") (dunderI "add") >>= fun fi => pure (fi.isSome && !isSeqSlot fi)) = pure false
    rw [PySem.F.slot_list_iadd.lookup]
    show (pure ((some (Value.builtin "list.__iadd__")).isSome && !isSeqSlot (some (.builtin "list.__iadd__"))) : Sem Bool) = pure false
    rw [hs]; rfl
  refine wpAny_bind (wpAny_typeOf ha (wpAny_bind (wpAny_of_eq hfi ?_)))
  show wpAny M A (if false = true then _ else _) Q E s
  rw [if_neg Bool.false_ne_true]
  refine wpAny_bind (wpAny_binaryOp1_none (nm := "add") ha hb noFill_list_add ?_)
  refine wpAny_bind (wpAny_of_eq seq_list_iadd ?_)
  exact wpAny_bind (wpAny_rule hc)
theorem iadd_K {its its2 : Array Value} {n n2 : Nat} {Q : Value → Shared → Prop} (F : Fr h₀ L s.heap m) (N : News h₀ L s.heap news) (hB : (B, PySem.W.listOf its2 n2) ∈ news)
    (U : Upd D (PySem.W.listOf its n) (PySem.W.listOf (its ++ its2) (if (its ++ its2).size == its.size then n else n + 1)) news news')
    (h : ∀ h', Fr h₀ L h' m → News h₀ L h' news' → Q (.ref D) { s with heap := h' }) (hsz : its.size + its2.size ≤ sizeLine) : wpAny (model prog w) A (inplaceOp .Add (.ref D) (.ref B)) Q E s := by
  obtain ⟨pre, post, rfl, rfl, a, b⟩ := U.split
  have z := N (D, PySem.W.listOf its n) (List.mem_append.mpr (.inr (.head _)))
  have zB := N _ hB
  refine inplace_list ⟨_, z.1, rfl⟩ ⟨_, zB.1, rfl⟩ ?_
  refine call_meets PySem.F.slot_list_iadd ⟨_, z.1, rfl⟩ PySem.F.entry_list_iadd (PySem.F.args_list_iadd_2 _ _) (AutoSeq1.list___iadd___list_list_0 D its n B its2 n2 (extend_door hsz) (Nat.le_trans (Nat.le_add_right _ _) hsz) (Nat.le_trans hsz (Nat.le_succ _))) ⟨z.1, zB.1, ?_⟩
  have ho' : (s.heap.update D (Obj.mapSeq fun x => x ++ its2)).get? D = some (PySem.W.listOf (its ++ its2) (if (its ++ its2).size == its.size then n else n + 1)) := by
    rw [Heap.get?_update_self _ z.1 (by rw [mapSeq_app]; rfl), mapSeq_app]
  exact h _ (F.change (Heap.SameBut.update ..) z.2.1 z.2.2) (news_set N a b (Heap.SameBut.update ..) ho')
theorem item_K {value slice : PySem.Expr} {its : Array Value} {n : Nat} {k : Int} {u : Tok} {v : Value} {Q : Value → Shared → Prop} (N : News h₀ L s.heap news) (hm : (D, PySem.W.listOf its n) ∈ news)
    (hx : its[k.toNat]? = some v) (h0 : 0 ≤ k) (hhi : k < 2 ^ 63) (h : Q v s)
    (hs : subscripted slice false (.ref D) (.int k u) = operate [.ref D, .int k u] (getItem (.ref D) (.int k u)) := by with_unfolding_all rfl) :
    wpAny (model prog w) A (subscriptTail value slice (.ref D) (.int k u)) Q E s :=
  have hl : s.heap.IsList D its := News.isList N hm
  tail_any hl.typeIs PySem.F.slot_list_getitem.lookup (wpAny_getItem_list hl h0 hhi hx h) hs
theorem notin_K {vs : List Value} {ns : List Int} {n : Nat} {k : Int} {t : Tok} {Q : Value → Shared → Prop} (N : News h₀ L s.heap news) (hm : (D, PySem.W.listOf vs.toArray n) ∈ news) (hi : IntsAre vs ns) (hk : k ∈ ns)
    (h : Q (.bool false) s) : wpAny (model prog w) A (compareOp .NotIn (.int k t) (.ref D)) Q E s := by
  refine notin_list_ints (News.isList N hm) hi ?_
  have e : ns.any (· == k) = true := List.any_eq_true.mpr ⟨k, hk, beq_self_eq_true _⟩
  rw [e]; exact h
end
end Mine
namespace Mine
open PySem.Calls
noncomputable def downs : Nat → List Int
  | 0 => []
  | j + 1 => (j : Int) :: downs j
theorem walkAt_get : ∀ (l : List Nat) (r j : Nat), j < l.length → (walkAt l r)[j]? = some (regAt (l.take j) r)
  | a :: l, r, 0, _ => rfl
  | a :: l, r, j + 1, h => by
    show (walkAt l (stepH a r))[j]? = some (regAt (l.take j) (stepH a r))
    exact walkAt_get l (stepH a r) j (by simpa using h)
theorem regAt_take {l : List Nat} {j h r : Nat} (e : l[j]? = some h) : regAt (l.take (j + 1)) r = stepH h (regAt (l.take j) r) := by
  rw [List.take_add_one, e]; exact regAt_snoc _ _ _
theorem regAt_lt : ∀ (l : List Nat) {r : Nat}, r < 4294967296 → regAt l r < 4294967296
  | [], _, h => h
  | a :: l, r, h => regAt_lt l (stepH_lt h)
theorem ints_get {vs : List Value} {ns : List Int} (I : IntsAre vs ns) {j : Nat} {x : Int} (h : ns[j]? = some x) : ∃ t, vs.toArray[(j : Int).toNat]? = some (.int x t) := by
  obtain ⟨t, ht⟩ := I.get j x h
  exact ⟨t, by rw [Int.toNat_natCast]; simpa using ht⟩
theorem zs_get {l : List Nat} {j x : Nat} (h : l[j]? = some x) : (zs l)[j]? = some ((x : Nat) : Int) := by
  simp [zs, h]
theorem zs_mem {l : List Nat} {x : Nat} (h : x ∈ l) : ((x : Nat) : Int) ∈ zs l := List.mem_map.mpr ⟨x, h, rfl⟩
theorem back_mem {xs : List Nat} {h R : Nat} (hR : R < 4294967296) (hm : stepH h R ∈ xs) : R ∈ xs.flatMap (fore h) :=
  List.mem_flatMap.mpr ⟨_, hm, fore_after hR⟩
theorem back_lt {xs : List Nat} {h : Nat} (hx : ∀ x ∈ xs, x < 4294967296) : ∀ x ∈ xs.flatMap (fore h), x < 4294967296 := by
  intro x hm
  obtain ⟨y, hy, hxy⟩ := List.mem_flatMap.mp hm
  exact fore_lt (hx y hy) x hxy
theorem back_len : ∀ (xs : List Nat) (h : Nat), (xs.flatMap (fore h)).length ≤ 2 * xs.length
  | [], _ => Nat.le_refl _
  | a :: xs, h => by
    have h1 := fore_len h a
    have h2 := back_len xs h
    rw [List.flatMap_cons, List.length_append, List.length_cons]; omega
theorem len_16 {n j : Nat} (h : n * 2 ^ j ≤ 16) : n ≤ 16 := Nat.le_trans (Nat.le_mul_of_pos_right _ (Nat.two_pow_pos j)) h
noncomputable def J2 (H W K : Addr) (ys ws ks : List Value) (n nk : Nat) (hs : List Int) (r : Int) (vs : List Value) (m : Str → Option Value) (news : List (Addr × Obj)) : Prop :=
  ∃ (j : Nat) (xs : List Nat) (Fd : Addr) (fs : List Value) (nf : Nat), j ≤ 4 ∧ IntsAre vs (downs j) ∧ m (Str.ofString "found") = some (.ref Fd) ∧ m (Str.ofString "walk") = some (.ref W) ∧ m (Str.ofString "hands") = some (.ref H) ∧
    news = [(K, PySem.W.listOf ks.toArray nk), (Fd, PySem.W.listOf fs.toArray nf), (W, PySem.W.listOf ws.toArray n), (H, LCg.lst ys)] ∧ IntsAre fs (zs xs) ∧ (∀ x ∈ xs, x < 4294967296) ∧
    regAt ((ns hs).take j) r.toNat ∈ xs ∧ xs.length * 2 ^ j ≤ 16
noncomputable def J3 (H W K Fd A I : Addr) (it : Obj) (ys ws ks fs : List Value) (n nk nf : Nat) (hand j : Int) (tk : Tok) (xs : List Nat) (vs : List Value) (m : Str → Option Value) (news : List (Addr × Obj)) : Prop :=
  ∃ (don rest : List Nat) (as : List Value) (na : Nat), xs = don ++ rest ∧ IntsAre vs (zs rest) ∧ m (Str.ofString "ahead") = some (.ref A) ∧ m (Str.ofString "k") = some (.int j tk) ∧ m (Str.ofString "walk") = some (.ref W) ∧ m (Str.ofString "hands") = some (.ref H) ∧
    news = [(A, PySem.W.listOf as.toArray na), (I, it), (K, PySem.W.listOf ks.toArray nk), (Fd, PySem.W.listOf fs.toArray nf), (W, PySem.W.listOf ws.toArray n), (H, LCg.lst ys)] ∧ IntsAre as (zs (don.flatMap (fore hand.toNat)))
theorem canon4 {m : Str → Option Value} {a b c d : Str} {t u v w : Option Value} (h1 : m a = t) (h2 : m b = u) (h3 : m c = v) (h4 : m d = w) : m = fun y => if y = a then t else if y = b then u else if y = c then v else if y = d then w else m y := by
  funext y
  by_cases e1 : y = a
  · rw [if_pos e1, e1, h1]
  · rw [if_neg e1]
    by_cases e2 : y = b
    · rw [if_pos e2, e2, h2]
    · rw [if_neg e2]
      by_cases e3 : y = c
      · rw [if_pos e3, e3, h3]
      · rw [if_neg e3]
        by_cases e4 : y = d
        · rw [if_pos e4, e4, h4]
        · rw [if_neg e4]
theorem j3_size {don rest xs : List Nat} {as vs : List Value} {h x : Nat} (e : xs = don ++ rest) (hl : xs.length ≤ 16) (I : IntsAre as (zs (don.flatMap (fore h)))) (I' : IntsAre vs (zs (fore h x))) : as.toArray.size + vs.toArray.size ≤ sizeLine := by
  have h1 := I.length
  have h2 := I'.length
  have h3 := back_len don h
  have h4 := fore_len h x
  rw [List.length_map] at h1 h2
  rw [e, List.length_append] at hl
  rw [List.size_toArray, List.size_toArray, sizeLine_eq]; omega
theorem ints_app {vs us : List Value} {a b : List Nat} (I : IntsAre vs (zs a)) (I' : IntsAre us (zs b)) : IntsAre (vs ++ us) (zs (a ++ b)) := by
  have := I.append I'
  rw [← List.map_append] at this
  exact this
theorem j2_start {H W K Fd : Addr} {ys ws ks : List Value} {n nk nf : Nat} {hs : List Int} {r : Int} {vs : List Value} {m : Str → Option Value} {t : Tok} (hr : 0 ≤ r ∧ r < 4294967296) (hl : hs.length = 4) (I : IntsAre vs (downs 4))
    (w1 : m (Str.ofString "found") = some (.ref Fd)) (w2 : m (Str.ofString "walk") = some (.ref W)) (w3 : m (Str.ofString "hands") = some (.ref H)) :
    J2 H W K ys ws ks n nk hs r vs m [(K, PySem.W.listOf ks.toArray nk), (Fd, PySem.W.listOf [.int ((regAt (ns hs) r.toNat : Nat) : Int) t].toArray nf), (W, PySem.W.listOf ws.toArray n), (H, LCg.lst ys)] := by
  refine ⟨4, [regAt (ns hs) r.toNat], Fd, _, nf, Nat.le_refl _, I, w1, w2, w3, rfl, .cons _ _ .nil, ?_, ?_, by show 1 * 16 ≤ 16; decide⟩
  · intro x hx
    rw [List.mem_singleton.mp hx]
    exact regAt_lt _ (by omega)
  · have e : (ns hs).take 4 = ns hs := List.take_of_length_le (by rw [List.length_map]; omega)
    rw [e]; exact List.mem_singleton.mpr rfl
theorem j2_end {H W K A : Addr} {ys ws ks as : List Value} {n nk na : Nat} {hs : List Int} {r hand : Int} {vs : List Value} {m : Str → Option Value} {j : Nat} {xs : List Nat} (hj : j + 1 ≤ 4) (I : IntsAre vs (downs j)) (hr : 0 ≤ r ∧ r < 4294967296) (hh : hs[j]? = some hand)
    (w1 : m (Str.ofString "found") = some (.ref A)) (w2 : m (Str.ofString "walk") = some (.ref W)) (w3 : m (Str.ofString "hands") = some (.ref H))
    (Ia : IntsAre as (zs (xs.flatMap (fore hand.toNat)))) (hx : ∀ x ∈ xs, x < 4294967296) (hm : regAt ((ns hs).take (j + 1)) r.toNat ∈ xs) (hl : xs.length * 2 ^ (j + 1) ≤ 16) :
    J2 H W K ys ws ks n nk hs r vs m [(K, PySem.W.listOf ks.toArray nk), (A, PySem.W.listOf as.toArray na), (W, PySem.W.listOf ws.toArray n), (H, LCg.lst ys)] := by
  have e : (ns hs)[j]? = some hand.toNat := by simp [ns, hh]
  rw [regAt_take e] at hm
  refine ⟨j, xs.flatMap (fore hand.toNat), A, as, na, by omega, I, w1, w2, w3, rfl, Ia, back_lt hx, back_mem (regAt_lt _ (by omega)) hm, ?_⟩
  have h1 := back_len xs hand.toNat
  have h2 : (xs.flatMap (fore hand.toNat)).length * 2 ^ j ≤ 2 * xs.length * 2 ^ j := Nat.mul_le_mul_right _ h1
  have h3 : 2 * xs.length * 2 ^ j = xs.length * 2 ^ (j + 1) := by rw [Nat.pow_succ, Nat.mul_comm 2 xs.length, Nat.mul_assoc, Nat.mul_comm 2 (2 ^ j)]
  omega
theorem j2_facts {ys ws : List Value} {hs : List Int} {r : Int} {j : Nat} {xs : List Nat} (hj : j + 1 ≤ 4) (hl : hs.length = 4) (hr : 0 ≤ r ∧ r < 4294967296) (hb : ∀ h ∈ hs, 0 ≤ h ∧ h < 3) (Iy : IntsAre ys hs) (Iw : IntsAre ws (zs (walkAt (ns hs) r.toNat)))
    (hm : regAt ((ns hs).take (j + 1)) r.toNat ∈ xs) :
    ∃ hand x th tx, hs[j]? = some hand ∧ 0 ≤ hand ∧ hand < 3 ∧ ys.toArray[(j : Int).toNat]? = some (.int hand th) ∧ ws.toArray[(j : Int).toNat]? = some (.int x tx) ∧ x ∈ zs (xs.flatMap (fore hand.toNat)) := by
  have hlt : j < hs.length := by omega
  obtain ⟨th, e1⟩ := ints_get Iy (List.getElem?_eq_getElem hlt)
  have hn : j < (ns hs).length := by rw [List.length_map]; exact hlt
  obtain ⟨tx, e2⟩ := ints_get Iw (zs_get (walkAt_get (ns hs) r.toNat j hn))
  have hb' := hb _ (List.getElem_mem hlt)
  have e : (ns hs)[j]? = some (hs[j]).toNat := by simp [ns, hlt]
  rw [regAt_take e] at hm
  exact ⟨hs[j], _, th, tx, List.getElem?_eq_getElem hlt, hb'.1, hb'.2, e1, e2, zs_mem (back_mem (regAt_lt _ (by omega)) hm)⟩
theorem j3_start {H W K Fd A I : Addr} {it : Obj} {ys ws ks fs : List Value} {n nk nf : Nat} {hand j : Int} {tk : Tok} {xs : List Nat} {m : Str → Option Value} (Ix : IntsAre fs (zs xs)) (w1 : m (Str.ofString "ahead") = some (.ref A)) (w2 : m (Str.ofString "k") = some (.int j tk))
    (w3 : m (Str.ofString "walk") = some (.ref W)) (w4 : m (Str.ofString "hands") = some (.ref H)) :
    J3 H W K Fd A I it ys ws ks fs n nk nf hand j tk xs fs m [(A, PySem.W.listOf #[] 0), (I, it), (K, PySem.W.listOf ks.toArray nk), (Fd, PySem.W.listOf fs.toArray nf), (W, PySem.W.listOf ws.toArray n), (H, LCg.lst ys)] :=
  ⟨[], xs, [], 0, rfl, Ix, w1, w2, w3, w4, rfl, .nil⟩
theorem j3_end {H W K Fd A I : Addr} {it : Obj} {ys ws ks fs vs as us : List Value} {n nk nf na : Nat} {hand j : Int} {tk : Tok} {xs don rest : List Nat} {x : Nat} {m : Str → Option Value} (e : xs = don ++ x :: rest) (Iv : IntsAre vs (zs rest)) (w1 : m (Str.ofString "ahead") = some (.ref A)) (w2 : m (Str.ofString "k") = some (.int j tk))
    (w3 : m (Str.ofString "walk") = some (.ref W)) (w4 : m (Str.ofString "hands") = some (.ref H)) (Ia : IntsAre as (zs (don.flatMap (fore hand.toNat)))) (Iu : IntsAre us (zs (fore hand.toNat x))) :
    J3 H W K Fd A I it ys ws ks fs n nk nf hand j tk xs vs m [(A, PySem.W.listOf (as.toArray ++ us.toArray) na), (I, it), (K, PySem.W.listOf ks.toArray nk), (Fd, PySem.W.listOf fs.toArray nf), (W, PySem.W.listOf ws.toArray n), (H, LCg.lst ys)] := by
  refine ⟨don ++ [x], rest, as ++ us, na, by rw [e, List.append_assoc]; rfl, Iv, w1, w2, w3, w4, by rw [← List.append_toArray], ?_⟩
  rw [List.flatMap_append, List.flatMap_singleton]
  exact ints_app Ia Iu
end Mine
namespace Mine
open PySem.Calls
theorem pow3_ne (n : Nat) : ¬ (3 : Int) ^ n = 0 := by
  have h : (0 : Int) < 3 ^ n := Int.pow_pos (by decide)
  omega
theorem fmod3 (x : Int) : 0 ≤ x.fmod 3 ∧ x.fmod 3 < 3 := by
  rw [Int.fmod_eq_emod_of_nonneg _ (show (0 : Int) ≤ 3 by decide)]; omega
theorem fmod32 (x : Int) : 0 ≤ x.fmod (2 ^ Int.toNat 32) ∧ x.fmod (2 ^ Int.toNat 32) < 4294967296 := by
  have e : (2 : Int) ^ Int.toNat 32 = 4294967296 := by decide
  rw [e, Int.fmod_eq_emod_of_nonneg _ (show (0 : Int) ≤ 4294967296 by decide)]; omega
theorem hands_end {h₀ : Heap} {L D : Addr} {m : Str → Option Value} {s s' : Shared} {h' : Heap} {tk : Nat} {x0 : Int} {t : Tok} {ys : List Value} {f : Int → Int} {n : Nat} {rest : List (Addr × Obj)}
    (F' : Fr h₀ L h' (fun z => if z = Str.ofString "hands" then some (.ref D) else (fun y => if y = Str.ofString "register" then some (.int (x0.fmod (2 ^ Int.toNat 32)) t) else m y) z))
    (N' : News h₀ L h' ((D, LCg.lst ys) :: rest)) (I : IntsAre ys (List.map f (rangeKs 0 n))) (hn : n = 4) (hf : ∀ k, 0 ≤ f k ∧ f k < 3) (e : s' = { s with heap := h', toks := tk }) : HandsAt h₀ L m s s' := by
  refine ⟨⟨h', tk, D, _, t, ys, _, e, F', fun p hp => ?_, I, ?_, ?_, (fmod32 x0).1, (fmod32 x0).2⟩⟩
  · rw [List.mem_singleton.mp hp]; exact N' _ (.head _)
  · rw [List.length_map, rangeKs_length, hn]
  · intro h hh
    obtain ⟨k, _, rfl⟩ := List.mem_map.mp hh
    exact hf k
theorem pick2 (a b : Value) (l : List Value) : kms_pick (List.toArray (a :: b :: l)).toList none (some 2) = [a, b] := by
  unfold kms_pick kms_lo kms_hi
  have e : min (2 : Int).toNat (l.length + 1 + 1) = 2 := by omega
  simp [e]
theorem size2 {a b : Int} {x y : Value} {vs : List Value} {ns : List Int} (I : IntsAre vs ns) (h : ¬ ((63 : Nat) : Int) < (((a :: b :: ns).length : Nat) : Int)) : (List.toArray (x :: y :: vs)).size ≤ sizeLine := by
  have := I.length
  rw [sizeLine_eq, List.size_toArray, List.length_cons, List.length_cons]
  rw [List.length_cons, List.length_cons] at h
  omega
theorem fillKL : PySem.Challenge.rw_tx0020_01 = PySem.Challenge.rw_tx0020_01 ∧ Mine.KK = Mine.KK := by
  k_fill
  exact ⟨rfl, rfl⟩
local macro_rules | `(tactic| walk_at "call ref") => `(tactic| (k_here; k_dflt (refine' CallIn.useL (c_genZ _ ?h0 _) ?k1 ?k2 ?k3 ?k4 ?k5 ?kK ?kl ?_; (case h0 => exact xor_nn (by omega) (by omega)); (case k1 => assumption); (case k2 => assumption); (case k3 => assumption); (case k4 => assumption); (case k5 => assumption); (case kK => exact rfl); (case kl => decide); k_whole; refine ⟨fun t9 h9 tk9 F9 N9 => ?_⟩; (try dsimp only); (try k_fold))))
local macro_rules | `(tactic| walk_at "call ref") => `(tactic| (k_here; k_dflt (refine' CallIn.useL (c_signsC _ _ ?h0 ?h1 ?h2 ?h3 _ _) ?k1 ?k2 ?k3 ?k4 ?k5 ?kK ?kl ?_; (case h0 => exact (hand_in (by assumption) (by assumption)).1); (case h1 => exact (hand_in (by assumption) (by assumption)).2); (case h2 => exact (div24 (by assumption) (by assumption)).1); (case h3 => exact (div24 (by assumption) (by assumption)).2); (case k1 => assumption); (case k2 => assumption); (case k3 => assumption); (case k4 => assumption); (case k5 => assumption); (case kK => exact rfl); (case kl => decide); k_whole; refine ⟨fun c9 e9 hc9 t9 h9 tk9 F9 N9 => ?_, fun a9 b9 e9 ha9 hb9 t9 h9 tk9 F9 N9 => ?_⟩; (try dsimp only); (try k_fold))))
local macro_rules | `(tactic| walk_at "call ref") => `(tactic| (k_here; k_dflt (refine' CallIn.useL (c_codesZ1 _ _ ?h0 ?h1 ?h2 ?h3 ?e _ _) ?k1 ?k2 ?k3 ?k4 ?k5 ?kK ?kl ?_; (case e => with_reducible assumption); (case h0 => exact (hand_in (by assumption) (by assumption)).1); (case h1 => exact (hand_in (by assumption) (by assumption)).2); (case h2 => exact (div24 (by assumption) (by assumption)).1); (case h3 => exact (div24 (by assumption) (by assumption)).2); (case k1 => assumption); (case k2 => assumption); (case k3 => assumption); (case k4 => assumption); (case k5 => assumption); (case kK => exact rfl); (case kl => decide); k_whole; refine ⟨fun l9 t9 n9 h9 tk9 F9 N9 O9 => ?_⟩; (obtain ⟨O8, O7⟩ := O9); (try dsimp only at O8); (try dsimp only); (try k_fold))))
local macro_rules | `(tactic| walk_at "call ref") => `(tactic| (k_here; k_dflt (refine' CallIn.useL (c_codesZ3 _ _ ?h0 ?h1 ?h2 ?h3 ?e _ _) ?k1 ?k2 ?k3 ?k4 ?k5 ?kK ?kl ?_; (case e => with_reducible assumption); (case h0 => exact (hand_in (by assumption) (by assumption)).1); (case h1 => exact (hand_in (by assumption) (by assumption)).2); (case h2 => exact (div24 (by assumption) (by assumption)).1); (case h3 => exact (div24 (by assumption) (by assumption)).2); (case k1 => assumption); (case k2 => assumption); (case k3 => assumption); (case k4 => assumption); (case k5 => assumption); (case kK => exact rfl); (case kl => decide); k_whole; refine ⟨fun l9 t9 t8 t7 n9 h9 tk9 F9 N9 O9 => ?_⟩; (obtain ⟨O8, O7⟩ := O9); (try dsimp only at O8); (try dsimp only); (try k_fold))))
local macro_rules | `(tactic| walk_at "call ref") => `(tactic| (k_here; k_dflt (refine' CallIn.useL (c_foreZ _ _ ?h0 ?h1 ?h2 ?h3 _ _) ?k1 ?k2 ?k3 ?k4 ?k5 ?kK ?kl ?_; (case h0 => assumption); (case h1 => assumption); (case h2 => omega); (case h3 => omega); (case k1 => assumption); (case k2 => assumption); (case k3 => assumption); (case k4 => assumption); (case k5 => assumption); (case kK => exact rfl); (case kl => decide); k_whole; refine ⟨fun l9 u9 n9 h9 tk9 F9 N9 I9 O9 => ?_⟩; (obtain ⟨O8, O7, O6⟩ := O9); (try dsimp only at O8); (try dsimp only at O7); (try dsimp only); (try k_fold))))
local macro_rules | `(tactic| walk_at "call builtin:list.append") => `(tactic| (k_here; (with_reducible show wpAny _ _ (call (Value.builtin _) [Value.ref _, _]) _ _ _); k_dflt (refine' append_K ?k1 ?k2 ?k3 ?_ ?z; (case k1 => k_asm); (case k2 => k_asm); (case k3 => k_upd); (case z => assumption); k_whole); intro h' F' N'; (try k_sweep)))
local macro_rules | `(tactic| walk_at "eval ListComp") => `(tactic| (k_here; (with_reducible show wpAny _ _ _ _ _ _); lcg_look; k_dflt (refine LCg.ListComp_U (F₀ := by k_asm) (by rfl) (by decide) (by rfl) (by decide) (by rfl) ?_)))
local macro_rules | `(tactic| walk_at "eval Name") => `(tactic| (k_here; (with_reducible show wpAny _ _ (eval (Expr.Name (Str.ofString "chr") _) (compEnvC _ _ _ _)) _ _ _); k_dflt (refine LCgL.ld_built (by k_asm) (by k_asm) (by k_asm) (by k_is) (by boot_by_name) (by decide) ?_)))
local macro_rules | `(tactic| walk_at "CompEnd") => `(tactic| ((with_reducible show LCg.CompEnd _ _ _ _ _ _ _ _ _ _ _ _ _ _); ((with_reducible refine' LCg.CompEnd.intro ?qF ?qN _ (fun _ hp => hp) ?qO ?qS ?_); (case qF => assumption); (case qN => assumption); (case qO => (simp only [LCg.Off3, and_true]; assumption)); (case qS => with_unfolding_all exact src_led (by k_mem)))))
local macro_rules | `(tactic| walk_at "call builtin:str.join") => `(tactic| (k_here; (with_reducible show wpAny _ _ (call (Value.builtin "str.join") [Value.str _ _, Value.ref _]) _ _ _); k_dflt (first | refine join_codes1 (by k_asm) (by k_mem) (Int.toNat_natCast _) ?_ | refine join_codes3 (by k_asm) (by k_mem) rfl (Int.toNat_natCast _) (Int.toNat_natCast _) ?_); intro _ _))
local macro_rules | `(tactic| walk_at "compareOp NotEq str str") => `(tactic| (k_here; k_dflt (refine ne_same ?_)))
local macro_rules | `(tactic| walk_at "exec For Name List cons nil") => `(tactic| (k_here; (rename Fr _ _ _ _ => lF'); (with_unfolding_all refine' For_invVF lF' ?k1 ?k2 ?_; (case k1 => exact rfl); (case k2 => exact rfl); k_whole)))
local macro_rules | `(tactic| walk_at "inplaceOp Add ref") => `(tactic| (k_here; (with_reducible show wpAny _ _ (inplaceOp Operator.Add (Value.ref _) (Value.ref _)) _ _ _); k_dflt (refine' iadd_K ?k1 ?k2 ?k4 ?k3 ?_ ?z; (case k1 => k_asm); (case k2 => k_asm); (case k4 => k_mem); (case k3 => k_upd); (case z => exact j3_size (by assumption) (by assumption) (by assumption) (by assumption)); k_whole); intro h' F' N'; (try k_sweep)))
local macro_rules | `(tactic| walk_at "subscriptTail Name Name ref int") => `(tactic| (k_here; (with_reducible show wpAny _ _ (subscriptTail _ _ (Value.ref _) (Value.int _ _)) _ _ _); k_dflt (refine' item_K ?k1 ?k2 ?k3 ?k4 ?k5 ?_ ?k6; (case k1 => k_asm); (case k2 => k_mem); (case k3 => assumption); (case k4 => omega); (case k5 => omega); (case k6 => with_unfolding_all rfl); k_whole)))
local macro_rules | `(tactic| walk_at "compareOp NotIn int ref") => `(tactic| (k_here; (with_reducible show wpAny _ _ (compareOp CmpOp.NotIn (Value.int _ _) (Value.ref _)) _ _ _); k_dflt (refine' notin_K ?k1 ?k2 ?k3 ?k4 ?_; (case k1 => k_asm); (case k2 => k_mem); (case k3 => assumption); (case k4 => assumption); k_whole)))
local macro_rules | `(tactic| walk_at "subscriptTail Name Slice ref ref") => `(tactic| (k_here; (with_reducible show wpAny _ _ (subscriptTail _ (PySem.Expr.Slice none _ none _) (Value.ref _) (Value.ref _)) _ _ _); k_dflt (refine' kms_slice_lit ?F ?N ?l ?p ?q ?e ?_ ?s ?t ?z; (case F => k_asm); (case N => k_asm); (case l => kmk_list); (case p => kmk_part); (case q => kmk_part); (case e => exact pick2 _ _ _); (case s => with_unfolding_all rfl); (case t => kmk_pure); (case z => exact size2 (by assumption) (by assumption))); intro D' h' F' N' l1; (try k_lt l1); (try k_sweep)))
local macro_rules | `(tactic| walk_at "subscriptTail List cons Slice ref ref") => `(tactic| (k_here; k_dflt (refine kba_turn (value' := PySem.Expr.Name (PySem.Str.ofString "_") ⟨0, 0, 0, 0⟩) (fun _ => rfl) ?_)))
theorem lawH : PySem.Challenge.rw_tx0020_01.Holds := by
  w_on
  o_law
  refine holds_open (q := vw) (loose := looseK) (Xt := XtK) (XP := XL vw lvK) (Yf := Hook.obs HkK) (Ya := Hook.val HkK) (YP := Hook.says HkK) (N := 40000) leftK (Hook.of HkK) (Hook.keeps HkK) (fun s e => xl_of s (Bool.and_eq_true_iff.mp e).1) XL.keeps (by rfl) (by rfl) (by rfl) (fun s e => recFacts_of (Bool.and_eq_true_iff.mp e).2) (by rfl) (by first | assumption | decide +kernel) (by decide +kernel) ⟨rfl, rfl, rfl, rfl, rfl, by decide +kernel⟩ ?hw ?hc
  case hw => w_witness2
  case hc =>
    k_with_none
    k_go0
    all_goals try k_fold
    all_goals (
      k_dflt (refine' execs_hands ?F ?_ ?_; (case F => assumption); k_whole)
      rotate_left 1
      all_goals (try dsimp only)
      all_goals (try k_fold))
    focus
      intro h9 tk9 H r t ys hs F9 N9 I9 hl9 hb9 h09 h19
      (try dsimp only)
      k_dflt (refine' execs_walk ?F ?N ?I ?_ ?_; (case F => assumption); (case N => assumption); (case I => assumption); k_whole)
      rotate_left 1
      · intro h8 tk8 W ws n t8 m8 F8 N8 I8
        (try dsimp only)
        repeat' ((fail_if_success (with_reducible show wpAny _ _ (pyIter (Value.ref _)) _ _ _)); (fail_if_success (with_reducible show HandsAt _ _ _ _ _)); first | (k_unfold; (try dsimp only)) | (k_end; wrow_close) | walk1 | (dsimp only; walk1) | (leave1; try dsimp only) | fail "no step")
        k_dflt (refine' iter_of (J2 H W _ ys ws _ n _ hs r) rfl (by assumption) (by assumption) ?hm ?hj ?zt ?zf; k_whole)
        case hm => exact List.mem_cons_self ..
        case hj =>
          refine' j2_start ⟨h09, h19⟩ hl9 ?x0 ?x1 ?x2 ?x3
          case x0 => exact (.cons _ _ (.cons _ _ (.cons _ _ (.cons _ _ .nil))))
          case x1 => with_unfolding_all rfl
          case x2 => with_unfolding_all rfl
          case x3 => with_unfolding_all rfl
        case zt =>
          (try dsimp only)
          rintro I hI0 v r9 m news it h tk ⟨j, xs, Fd, fs, nf, hj, I7, w1, w2, w3, rfl, I6, x6, m6, l6⟩ hc F8 N8
          cases j with
          | zero => cases I7
          | succ j =>
            cases I7 with
            | cons _ tj I7 =>
              rw [canon3 w1 w2 w3] at F8
              obtain ⟨hand, x, th, tx, g1, g2, g3, g4, g5, g6⟩ := j2_facts hj hl9 ⟨h09, h19⟩ hb9 (by assumption) (by assumption) m6
              have hl16 := len_16 l6
              repeat' ((fail_if_success (with_reducible show wpAny _ _ (pyIter (Value.ref _)) _ _ _)); (fail_if_success (with_reducible show UnrEnd _ _ _ _ _ _ _)); (fail_if_success (with_reducible show HandsAt _ _ _ _ _)); first | (k_unfold; (try dsimp only)) | (k_end; wrow_close) | walk1 | (dsimp only; walk1) | (leave1; try dsimp only) | fail "no step")
              k_dflt (refine' iter_of (J3 H W _ Fd _ I it ys ws _ fs n _ nf hand (j : Int) tj xs) rfl (by assumption) (by assumption) ?hm2 ?hj2 ?zt2 ?zf2; k_whole)
              case hm2 => k_mem
              case hj2 =>
                refine' j3_start ?x0 ?x1 ?x2 ?x3 ?x4
                case x0 => assumption
                case x1 => with_unfolding_all rfl
                case x2 => with_unfolding_all rfl
                case x3 => with_unfolding_all rfl
                case x4 => with_unfolding_all rfl
              case zt2 =>
                (try dsimp only)
                rintro I2 hI2 v2 r2 m2 news2 it2 h2 tk2 ⟨don, rest, as, na, e2, I5, v1, v2, v3, v4, rfl, I4⟩ hc2 F7 N7
                cases rest with
                | nil => cases I5
                | cons x2 rest =>
                  cases I5 with
                  | cons _ t2 I5 =>
                    have hx2 : x2 < 4294967296 := x6 _ (by rw [e2]; simp)
                    have ne2 := ne_cls hc2 N7 (List.mem_cons_self ..) rfl
                    rw [canon4 v1 v2 v3 v4] at F7
                    repeat' ((fail_if_success (with_reducible show wpAny _ _ (pyIter (Value.ref _)) _ _ _)); (fail_if_success (with_reducible show UnrEnd _ _ _ _ _ _ _)); (fail_if_success (with_reducible show HandsAt _ _ _ _ _)); first | (k_unfold; (try dsimp only)) | (k_end; wrow_close) | walk1 | (dsimp only; walk1) | (leave1; try dsimp only) | fail "no step")
                    (refine' UnrEnd.intro ?xF ?xN _ ?xs ?xo ⟨?xm, j3_end e2 ?y0 ?y1 ?y2 ?y3 ?y4 I4 ?yu⟩)
                    case xF => assumption
                    case xN => assumption
                    case yu => assumption
                    case y0 => assumption
                    case y1 => (with_unfolding_all rfl)
                    case y2 => (with_unfolding_all rfl)
                    case y3 => (with_unfolding_all rfl)
                    case y4 => (with_unfolding_all rfl)
                    case xm => k_mem
                    case xs => lcg_sub
                    case xo =>
                      (simp only [List.mem_cons, List.not_mem_nil, or_false, forall_eq_or_imp, forall_eq] at hI2)
                      obtain ⟨i1, i2, i3, i4, i5, i6⟩ := hI2
                      (repeat' (first | exact List.forall_mem_nil _ | refine List.forall_mem_cons.mpr ⟨?_, ?_⟩))
                      all_goals (first | exact Nat.ne_of_lt i1 | exact Nat.ne_of_lt i2 | exact Nat.ne_of_lt i3 | exact Nat.ne_of_lt i4 | exact Nat.ne_of_lt i5 | exact Nat.ne_of_lt i6)
              case zf2 =>
                (try dsimp only)
                rintro m2 news2 h2 tk2 ⟨don, rest, as, na, e2, I5, v1, v2, v3, v4, rfl, I4⟩ F7 N7
                cases rest with
                | cons x2 rest => cases I5
                | nil =>
                  rw [List.append_nil] at e2
                  subst e2
                  rw [canon4 v1 v2 v3 v4] at F7
                  repeat' ((fail_if_success (with_reducible show wpAny _ _ (pyIter (Value.ref _)) _ _ _)); (fail_if_success (with_reducible show UnrEnd _ _ _ _ _ _ _)); (fail_if_success (with_reducible show HandsAt _ _ _ _ _)); first | (k_unfold; (try dsimp only)) | (k_end; wrow_close) | walk1 | (dsimp only; walk1) | (leave1; try dsimp only) | fail "no step")
                  (refine' unr_cls hc ?xF ?xN ?xI _ ?xs ?xc ⟨?xm, j2_end hj ?y0 ⟨h09, h19⟩ g1 ?y1 ?y2 ?y3 I4 x6 m6 l6⟩)
                  case xF => assumption
                  case xN => assumption
                  case y0 => assumption
                  case y1 => (with_unfolding_all rfl)
                  case y2 => (with_unfolding_all rfl)
                  case y3 => (with_unfolding_all rfl)
                  case xI => k_mem
                  case xm => k_mem
                  case xs => lcg_sub
                  case xc => (repeat' (first | exact List.forall_mem_nil _ | refine List.forall_mem_cons.mpr ⟨rfl, ?_⟩))
        case zf =>
          (try dsimp only)
          rintro m news h tk _ F8 N8
          repeat' ((fail_if_success (with_reducible show wpAny _ _ (pyIter (Value.ref _)) _ _ _)); (fail_if_success (with_reducible show UnrEnd _ _ _ _ _ _ _)); (fail_if_success (with_reducible show HandsAt _ _ _ _ _)); first | (k_unfold; (try dsimp only)) | (k_end; wrow_close) | walk1 | (dsimp only; walk1) | (leave1; try dsimp only) | fail "no step")
      repeat' ((fail_if_success (with_reducible show wpAny _ _ (pyIter (Value.ref _)) _ _ _)); (fail_if_success (with_reducible show HandsAt _ _ _ _ _)); first | (k_unfold; (try dsimp only)) | (k_end; wrow_close) | walk1 | (dsimp only; walk1) | (leave1; try dsimp only) | fail "no step")
      k_dflt (refine' iter_of (J1 H ys hs r) rfl (by assumption) (by assumption) ?hm ?hj ?_ ?_; k_whole)
      case hm => exact List.mem_cons_of_mem _ (List.mem_cons_self ..)
      case hj => exact j1_start (by assumption) (by with_unfolding_all rfl) (by with_unfolding_all rfl) (by with_unfolding_all rfl) h09 h19 (by (try dsimp only at *); first | omega)
      all_goals (try dsimp only)
      · rintro I hI0 v r9 m news it h tk ⟨pre, rest, walk, W, ws, n, R, t9, e9, I9, w1, w2, w3, rfl, I8, S9, l9, b1, b2, ne1⟩ hc F8 N8
        cases I9 with
        | cons hand th I9 =>
          rw [canon w1, canon w2, canon w3] at F8
          have hsz := j1_size e9 hl9 I8 l9
          have ne2 := ne_cls hc N8 (List.mem_cons_self ..) rfl
          have ne3 := ne_cls hc N8 (List.mem_cons_of_mem _ (List.mem_cons_self ..)) rfl
          have hm9 : hand ∈ hs := by rw [e9]; simp
          repeat' ((fail_if_success (with_reducible show UnrEnd _ _ _ _ _ _ _)); (fail_if_success (with_reducible show wpAny _ _ (pyIter (Value.str _ _)) _ _ _)); (fail_if_success (with_reducible show HandsAt _ _ _ _ _)); first | (k_unfold; (try dsimp only)) | (k_end; wrow_close) | walk1 | (dsimp only; walk1) | (leave1; try dsimp only) | fail "no step")
          all_goals (
            (k_dflt (refine' iter_signs (W := W) (H := H) ?ze ?zb1 ?zb2 rfl ?zF ?zN ?zw1 ?zw2 ?zw3 ?zturn ?zfin; k_whole))
            case ze => with_reducible assumption
            case zb1 => assumption
            case zb2 => assumption
            case zF => assumption
            case zN => assumption
            case zw1 => (with_unfolding_all rfl)
            case zw2 => (with_unfolding_all rfl)
            case zw3 => (with_unfolding_all rfl)
            case zturn =>
              (try dsimp only)
              intro I8 c8 r8 u8 t8 m8 it8 h8 tk8 w18 w28 F8 N8
              (try dsimp only)
              repeat' ((fail_if_success (with_reducible show UnrEnd _ _ _ _ _ _ _)); (fail_if_success (with_reducible show wpAny _ _ (pyIter (Value.str _ _)) _ _ _)); (fail_if_success (with_reducible show HandsAt _ _ _ _ _)); first | (k_unfold; (try dsimp only)) | (k_end; wrow_close) | walk1 | (dsimp only; walk1) | (leave1; try dsimp only) | fail "no step")
              (refine' sign_end ?yF ?yN ?y1 ?y2 ?y3)
              case yF => assumption
              case yN => assumption
              case y1 => exact rfl
              case y2 => (with_unfolding_all exact w18)
              case y3 => (with_unfolding_all exact w28)
            case zfin =>
              (try dsimp only)
              intro m8 h8 tk8 t8 w18 w28 w38 F8 N8
              (try dsimp only)
              repeat' ((fail_if_success (with_reducible show UnrEnd _ _ _ _ _ _ _)); (fail_if_success (with_reducible show wpAny _ _ (pyIter (Value.str _ _)) _ _ _)); (fail_if_success (with_reducible show HandsAt _ _ _ _ _)); first | (k_unfold; (try dsimp only)) | (k_end; wrow_close) | walk1 | (dsimp only; walk1) | (leave1; try dsimp only) | fail "no step")
              (refine' unr_cls hc ?xF ?xN ?xI [(W, PySem.W.listOf (ws.toArray.push (.int R t9)) (n + 1)), (H, LCg.lst ys)] ?xs ?xc ⟨?xm, j1_end e9 (by assumption) w18 w38 w28 I8 S9 l9 b1 b2 ne1⟩)
              case xF => assumption
              case xN => assumption
              case xI => k_mem
              case xs => (intro p hp; rcases List.mem_cons.mp hp with rfl | hp; k_mem; rw [List.mem_singleton.mp hp]; k_mem)
              case xc => (intro p hp; simp only [List.mem_cons, List.not_mem_nil, or_false] at hp; rcases hp with rfl | rfl <;> rfl)
              case xm => k_mem)
      · intro m news h tk hJ F8 N8
        repeat' ((fail_if_success (with_reducible show UnrEnd _ _ _ _ _ _ _)); (fail_if_success (with_reducible show wpAny _ _ (pyIter (Value.str _ _)) _ _ _)); (fail_if_success (with_reducible show HandsAt _ _ _ _ _)); first | (k_unfold; (try dsimp only)) | (k_end; wrow_close) | walk1 | (dsimp only; walk1) | (leave1; try dsimp only) | fail "no step")
        all_goals ((exact j1_fin hJ F8 N8))
    focus
      rename IntsAre _ _ => hI9
      cases hI9 with
      | nil =>
          repeat' ((fail_if_success (with_reducible show HandsAt _ _ _ _ _)); first | (k_unfold; (try dsimp only)) | (k_end; wrow_close) | walk1 | (dsimp only; walk1) | (leave1; try dsimp only) | fail "no step")
          all_goals first
            | ((with_reducible show HandsAt _ _ _ _ _)
               (refine' hands_end ?zF ?zN ?zI ?zhn ?zhf ?ze)
               (case zF => assumption)
               (case zN => assumption)
               (case zI => assumption)
               (case zhn => exact rfl)
               (case zhf => exact (fun k => by (try dsimp only); rw [if_pos (pow3_ne _)]; exact fmod3 _))
               (case ze => exact rfl))
            | exact absurd (by assumption) (pow3_ne _)
      | cons a t I =>
        cases I with
        | nil =>
          repeat' ((fail_if_success (with_reducible show HandsAt _ _ _ _ _)); first | (k_unfold; (try dsimp only)) | (k_end; wrow_close) | walk1 | (dsimp only; walk1) | (leave1; try dsimp only) | fail "no step")
          all_goals first
            | ((with_reducible show HandsAt _ _ _ _ _)
               (refine' hands_end ?zF ?zN ?zI ?zhn ?zhf ?ze)
               (case zF => assumption)
               (case zN => assumption)
               (case zI => assumption)
               (case zhn => exact rfl)
               (case zhf => exact (fun k => by (try dsimp only); rw [if_pos (pow3_ne _)]; exact fmod3 _))
               (case ze => exact rfl))
            | exact absurd (by assumption) (pow3_ne _)
        | cons b u I =>
          repeat' ((fail_if_success (with_reducible show HandsAt _ _ _ _ _)); first | (k_unfold; (try dsimp only)) | (k_end; wrow_close) | walk1 | (dsimp only; walk1) | (leave1; try dsimp only) | fail "no step")
          all_goals first
            | ((with_reducible show HandsAt _ _ _ _ _)
               (refine' hands_end ?zF ?zN ?zI ?zhn ?zhf ?ze)
               (case zF => assumption)
               (case zN => assumption)
               (case zI => assumption)
               (case zhn => exact rfl)
               (case zhf => exact (fun k => by (try dsimp only); rw [if_pos (pow3_ne _)]; exact fmod3 _))
               (case ze => exact rfl))
            | exact absurd (by assumption) (pow3_ne _)
end Mine
theorem PySem.Challenge.cw_tx0020_01_holds : PySem.Challenge.rw_tx0020_01.Holds :=
  Mine.lawH
