import PyProof.Rows.All
import Wide.All
import OpenK.AllK
import Wide.FinOn
import PySem.Challenge.RW_ys0002_12
open PySem PySem.W PyProof.Rows
set_option Elab.async false
namespace Mine

open PySem.Calls

/-! ### plain facts -/
theorem fmod_lo {a b : Int} (h : 1 ≤ b) : 0 ≤ a.fmod b := Int.fmod_nonneg_of_pos a (by omega)
theorem fmod_hi {a b : Int} (h : 1 ≤ b) : a.fmod b < b := Int.fmod_lt_of_pos a (by omega)
theorem getD_nn {ns : List Int} (h : ∀ n ∈ ns, 0 ≤ n) (k : Nat) : 0 ≤ ns.getD k 0 := by
  rw [List.getD_eq_getElem?_getD]
  cases e : ns[k]? with
  | none => simp
  | some v => simpa using h v (List.mem_of_getElem? e)
theorem set_nn {ns : List Int} {x : Int} (h : ∀ n ∈ ns, 0 ≤ n) (hx : 0 ≤ x) (k : Nat) : ∀ n ∈ ns.set k x, 0 ≤ n := by
  intro n hn
  rcases List.mem_or_eq_of_mem_set hn with h1 | h1
  · exact h n h1
  · rw [h1]; exact hx
theorem fdiv_nn {a b : Int} (ha : 0 ≤ a) (h : 1 ≤ b) : 0 ≤ a.fdiv b := by
  rw [Int.fdiv_eq_ediv_of_nonneg _ (by omega)]
  exact Int.ediv_nonneg ha (by omega)

theorem great_step {num r : Int} {i : Nat} (q0 : 0 ≤ num) (q1 : num < 1000003 ^ i) (r0 : 0 ≤ r) (r1 : r < 1000003) : 0 ≤ 1000003 * num + r ∧ 1000003 * num + r < 1000003 ^ (i + 1) := by
  refine ⟨by omega, ?_⟩
  rw [Int.pow_succ]
  generalize (1000003 : Int) ^ i = P at q1 ⊢
  omega

theorem ipow_mono {b : Int} (hb : 1 ≤ b) {k l : Nat} (h : k ≤ l) : b ^ k ≤ b ^ l := by
  induction h with
  | refl => exact Int.le_refl _
  | @step n _ ih =>
    rw [Int.pow_succ]
    have : b ^ n * 1 ≤ b ^ n * b := Int.mul_le_mul_of_nonneg_left hb (Int.le_of_lt (Int.pow_pos (by omega)))
    omega
/-- a number from 0 on, below a power of 2 -/
def Bd (k : Nat) (r : Int) : Prop := 0 ≤ r ∧ r < 2 ^ k
theorem Bd.nn {k : Nat} {r : Int} (h : Bd k r) : 0 ≤ r := h.1
theorem Bd.mono {k l : Nat} {r : Int} (h : Bd k r) (hl : k ≤ l) : Bd l r :=
  ⟨h.1, Int.lt_of_lt_of_le h.2 (ipow_mono (by decide) hl)⟩
theorem Bd.of_lt {k : Nat} {r b : Int} (h0 : 0 ≤ r) (h1 : r < b) (hb : b ≤ 2 ^ k) : Bd k r := ⟨h0, Int.lt_of_lt_of_le h1 hb⟩
theorem bd_great {r words : Int} (h0 : 0 ≤ r) (h1 : r < 1000003 ^ words.toNat) (hw : words ≤ 10) : Bd 300 r :=
  .of_lt h0 (Int.lt_of_lt_of_le h1 (ipow_mono (by decide) (by omega : words.toNat ≤ 10))) (Int.le_trans (by decide +kernel : (1000003 : Int) ^ 10 ≤ 2 ^ 200) (ipow_mono (by decide) (by decide)))
theorem bd_pow {k d : Int} (h0 : 0 ≤ k) (h1 : k < 300) (d0 : 0 ≤ d) (d1 : d < 3) : Bd 300 (2 ^ k.toNat + d - 1) := by
  have hp : (0 : Int) < 2 ^ k.toNat := Int.pow_pos (by decide)
  have hq : (2 : Int) ^ k.toNat ≤ 2 ^ (299 : Nat) := ipow_mono (by decide) (by omega)
  have he : (2 : Int) ^ (299 + 1 : Nat) = 2 ^ (299 : Nat) * 2 := Int.pow_succ ..
  have hr : (2 : Int) ^ (2 : Nat) ≤ 2 ^ (299 : Nat) := ipow_mono (by decide) (by decide)
  refine ⟨by omega, ?_⟩
  show _ < (2 : Int) ^ (299 + 1 : Nat)
  rw [he]
  generalize (2 : Int) ^ (299 : Nat) = P at hq hr ⊢
  omega

theorem bd_menu {r : Int} (h0 : 0 ≤ r) (h1 : r < 7) : Bd 300 (([0, 1, 2, 255, 256, 65535, 65536] : List Int).getD r.toNat 0) := by
  have e : r = 0 ∨ r = 1 ∨ r = 2 ∨ r = 3 ∨ r = 4 ∨ r = 5 ∨ r = 6 := by omega
  rcases e with rfl | rfl | rfl | rfl | rfl | rfl | rfl <;> exact Bd.mono (k := 30) ⟨by decide, by decide⟩ (by decide)

theorem News_tl {h₀ h : Heap} {L : Addr} {a : Addr × Obj} {l : List (Addr × Obj)} (N : News h₀ L h (a :: l)) : News h₀ L h l := fun p hp => N p (List.mem_cons_of_mem _ hp)

theorem least_step {b amount count start : Int} (q1 : ∀ j : Int, start ≤ j → j < count → b ^ j.toNat ≤ amount) (a : ¬amount < b ^ count.toNat) : ∀ j : Int, start ≤ j → j < count + 1 → b ^ j.toNat ≤ amount := by
  intro j h1 h2
  by_cases e : j = count
  · rw [e]; omega
  · exact q1 j h1 (by omega)
theorem least_stop {b amount count start : Int} (ha : Bd 400 amount) (hb : 2 ≤ b) (hs : start = 0 ∨ start = 1) (q0 : count = start + ((2000 : Nat) : Int)) (q1 : ∀ j : Int, start ≤ j → j < count → b ^ j.toNat ≤ amount) : False := by
  have h1 := q1 (start + 1999) (by omega) (by omega)
  have h2 : (b : Int) ^ 400 ≤ b ^ (start + 1999).toNat := ipow_mono (by omega) (by omega)
  have h3 : (2 : Int) ^ 400 ≤ b ^ 400 := by
    have key : ∀ k : Nat, (2 : Int) ^ k ≤ b ^ k := by
      intro k
      induction k with
      | zero => simp
      | succ k ih =>
        rw [Int.pow_succ, Int.pow_succ]
        exact Int.mul_le_mul ih hb (by decide) (Int.le_of_lt (Int.pow_pos (by omega)))
    exact key 400
  have h4 := ha.2
  omega

theorem abs_nn (l : List Int) : ∀ n ∈ l.map (fun k' => if k' < 0 then -k' else k'), 0 ≤ n := by
  intro n hn
  obtain ⟨k, _, rfl⟩ := List.mem_map.mp hn
  split <;> omega

theorem News_two {h₀ h : Heap} {L : Addr} {a b : Addr × Obj} {l : List (Addr × Obj)} (N : News h₀ L h (a :: b :: l)) : News h₀ L h ([a, b] ++ []) := fun p hp => N p (by
  rcases List.mem_cons.mp hp with rfl | hp
  · exact List.mem_cons_self
  · rcases List.mem_cons.mp hp with rfl | hp
    · exact List.mem_cons_of_mem _ List.mem_cons_self
    · cases hp)

/-- a number of any sign whose amount is below a power of 2 -/
def SBd (k : Nat) (x : Int) : Prop := x.natAbs < 2 ^ k
theorem SBd.mono {k l : Nat} {x : Int} (h : SBd k x) (hl : k ≤ l) : SBd l x := Nat.lt_of_lt_of_le h (Nat.pow_le_pow_right (by decide) hl)
theorem Bd.sbd {k : Nat} {x : Int} (h : Bd k x) : SBd k x := by
  have h0 := h.1
  have h1 := h.2
  unfold SBd
  have e : ((2 ^ k : Nat) : Int) = (2 : Int) ^ k := by simp
  omega
theorem SBd.mul {k l : Nat} {x y : Int} (h : SBd k x) (g : SBd l y) : SBd (k + l) (x * y) := by
  unfold SBd at *
  rw [Int.natAbs_mul, Nat.pow_add]
  exact Nat.mul_lt_mul'' h g
theorem SBd.neg {k : Nat} {x : Int} (h : SBd k x) : SBd k (-x) := by unfold SBd at *; rwa [Int.natAbs_neg]
theorem SBd.add {k l : Nat} {x y : Int} (h : SBd k x) (g : SBd l y) : SBd (k + l + 1) (x + y) := by
  have h1 := h.mono (Nat.le_add_right k l)
  have g1 := g.mono (Nat.le_add_left l k)
  unfold SBd at *
  rw [Nat.pow_succ]
  generalize 2 ^ (k + l) = P at h1 g1 ⊢
  omega
theorem SBd.sub {k l : Nat} {x y : Int} (h : SBd k x) (g : SBd l y) : SBd (k + l + 1) (x - y) := by
  rw [Int.sub_eq_add_neg]; exact h.add g.neg
theorem SBd.lit {x : Int} (h : x.natAbs < 1073741824) : SBd 30 x := h
theorem SBd.abs {k : Nat} {x : Int} (h : SBd k x) : Bd k (if x < 0 then -x else x) := by
  unfold SBd at h
  have e : ((2 ^ k : Nat) : Int) = (2 : Int) ^ k := by simp
  constructor
  · split <;> omega
  · split <;> omega
theorem SBd.bits {k : Nat} {x : Int} (h : SBd k x) : Builtin.Int.intBits x ≤ k := by
  unfold SBd at h
  unfold Builtin.Int.intBits
  split
  · exact Nat.zero_le _
  · rename_i hx
    have h0 : x.natAbs ≠ 0 := by simpa using hx
    exact (Nat.log2_lt h0).mpr h
theorem mulOk {k l : Nat} {x y : Int} (h : SBd k x) (g : SBd l y) (hk : k + l ≤ 1000000) : IntMulOk x y :=
  PyProof.Rows.mulOk_of_bits h.bits g.bits (Nat.le_trans hk (by decide))
theorem mul_gen {prog : Program} {w : World} {A : Around} {E : Value → Shared → Prop} {s : Shared} {k l : Nat} {a b : Int} {t u : Tok} {Q : Value → Shared → Prop} (ha : SBd k a) (hb : SBd l b) (hk : k + l ≤ 1000000)
    (h : ∀ z, z = a * b → SBd (k + l) z → Q (.int z s.toks) { s with toks := s.toks + 1 }) : wpAny (model prog w) A (binaryOp .Mult (.int a t) (.int b u)) Q E s :=
  mul_int (h _ rfl (ha.mul hb)) (mulOk ha hb hk)

theorem bits_hi (x : Int) : x.natAbs < 2 ^ Builtin.Int.intBits x := by
  unfold Builtin.Int.intBits
  split
  · rename_i h; have : x = 0 := by simpa using h
    subst this; decide
  · rename_i hx
    have h0 : x.natAbs ≠ 0 := by simpa using hx
    exact (Nat.log2_lt h0).mp (Nat.lt_succ_self _)
theorem bits_lo {x : Int} (h : x ≠ 0) : 0 < Builtin.Int.intBits x ∧ 2 ^ (Builtin.Int.intBits x - 1) ≤ x.natAbs := by
  unfold Builtin.Int.intBits
  rw [if_neg (by simpa using h)]
  exact ⟨Nat.succ_pos _, Nat.log2_self_le (by omega)⟩
theorem pow_cast (b k : Nat) : ((b ^ k : Nat) : Int) = (b : Int) ^ k := by simp
theorem bits_of_least {x r : Int} (h0 : 0 ≤ r) (h1 : (if x < 0 then -x else x) < 2 ^ r.toNat) (h2 : ∀ j : Int, 0 ≤ j → j < r → 2 ^ j.toNat ≤ (if x < 0 then -x else x)) : r = (Builtin.Int.intBits x : Int) := by
  have ha : (if x < 0 then -x else x) = (x.natAbs : Int) := by split <;> omega
  rw [ha] at h1 h2
  have hhi := bits_hi x
  have e1 := pow_cast 2 r.toNat
  by_cases hx : x = 0
  · subst hx
    have : Builtin.Int.intBits 0 = 0 := rfl
    rw [this]
    rcases Int.lt_trichotomy r 0 with h | h | h
    · omega
    · exact h
    · have := h2 0 (by omega) h
      simp at this
  · have hlo := bits_lo hx
    generalize Builtin.Int.intBits x = B at *
    rcases Int.lt_trichotomy r (B : Int) with h | h | h
    · exfalso
      have h3 : 2 ^ r.toNat ≤ 2 ^ (B - 1) := Nat.pow_le_pow_right (by decide) (by omega)
      have h4 : x.natAbs < 2 ^ r.toNat := by
        have : ((2 : Nat) : Int) = 2 := rfl
        rw [this] at e1; omega
      omega
    · exact h
    · exfalso
      have h3 := h2 (B : Int) (by omega) h
      rw [Int.toNat_natCast] at h3
      have e2 := pow_cast 2 B
      have : ((2 : Nat) : Int) = 2 := rfl
      rw [this] at e2
      omega
theorem bytes_of_least {x r : Int} (h0 : 1 ≤ r) (h1 : (if x < 0 then -x else x) < 256 ^ r.toNat) (h2 : ∀ j : Int, 1 ≤ j → j < r → 256 ^ j.toNat ≤ (if x < 0 then -x else x)) :
    (Builtin.Int.intBits x : Int) ≤ 8 * r ∧ (r = 1 ∨ 8 * (r - 1) < (Builtin.Int.intBits x : Int)) := by
  have ha : (if x < 0 then -x else x) = (x.natAbs : Int) := by split <;> omega
  rw [ha] at h1 h2
  have hhi := bits_hi x
  have key : ∀ j : Nat, (256 : Int) ^ j = ((2 ^ (8 * j) : Nat) : Int) := by
    intro j
    rw [Nat.pow_mul]
    exact (pow_cast 256 j).symm
  rw [key] at h1
  constructor
  · by_cases hx : x = 0
    · subst hx
      have : Builtin.Int.intBits 0 = 0 := rfl
      omega
    · have hlo := bits_lo hx
      generalize Builtin.Int.intBits x = B at *
      refine Classical.byContradiction fun hc => ?_
      have h3 : 2 ^ (8 * r.toNat) ≤ 2 ^ (B - 1) := Nat.pow_le_pow_right (by decide) (by omega)
      omega
  · by_cases hr : r = 1
    · exact .inl hr
    · right
      have h3 := h2 (r - 1) (by omega) (by omega)
      rw [key] at h3
      generalize Builtin.Int.intBits x = B at *
      refine Classical.byContradiction fun hc => ?_
      have h4 : 2 ^ B ≤ 2 ^ (8 * (r - 1).toNat) := Nat.pow_le_pow_right (by decide) (by omega)
      omega

theorem sgn_menu {r : Int} (h0 : 0 ≤ r) (h1 : r < 3) : ([1, 1, -1] : List Int).getD r.toNat 0 = 1 ∨ ([1, 1, -1] : List Int).getD r.toNat 0 = -1 := by
  have e : r = 0 ∨ r = 1 ∨ r = 2 := by omega
  rcases e with rfl | rfl | rfl <;> decide
theorem mul_sgn {prog : Program} {w : World} {A : Around} {E : Value → Shared → Prop} {s : Shared} {k : Nat} {a r : Int} {t u : Tok} {Q : Value → Shared → Prop} (ha : SBd k a) (h0 : 0 ≤ r) (h1 : r < 3) (hk : k ≤ 100000)
    (h : ∀ z, (z = a ∨ z = -a) → SBd k z → Q (.int z s.toks) { s with toks := s.toks + 1 }) : wpAny (model prog w) A (binaryOp .Mult (.int a t) (.int (([1, 1, -1] : List Int).getD r.toNat 0) u)) Q E s := by
  have hs := sgn_menu h0 h1
  have e : a * ([1, 1, -1] : List Int).getD r.toNat 0 = a ∨ a * ([1, 1, -1] : List Int).getD r.toNat 0 = -a := by
    rcases hs with e | e <;> rw [e]
    · left; omega
    · right; omega
  refine mul_int (h _ e ?_) (mulOk (l := 30) ha (.lit (by rcases hs with e | e <;> rw [e] <;> decide)) (by omega))
  rcases e with e | e <;> rw [e]
  · exact ha
  · exact ha.neg
theorem pick2 {a b r : Int} (ha : Bd 300 a) (b0 : 0 ≤ b) (b1 : b < 30) (h0 : 0 ≤ r) (h1 : r < 2) : 1 ≤ ([1 + a, 1 + b] : List Int).getD r.toNat 0 ∧ SBd 331 (([1 + a, 1 + b] : List Int).getD r.toNat 0) := by
  have ha0 := ha.1
  have e : r = 0 ∨ r = 1 := by omega
  rcases e with rfl | rfl
  · exact ⟨by show 1 ≤ 1 + a; omega, by show SBd 331 (1 + a); exact (SBd.lit (x := 1) (by decide)).add ha.sbd⟩
  · exact ⟨by show 1 ≤ 1 + b; omega, by show SBd 331 (1 + b); exact (SBd.lit (x := 1 + b) (by omega)).mono (by decide)⟩

theorem bytes_of_least2 {x r : Int} (h0 : 1 ≤ r) (h1 : (if x < 0 then -x else x) < 256 ^ r.toNat) (h2 : ∀ j : Int, 1 ≤ j → j < r → 256 ^ j.toNat ≤ (if x < 0 then -x else x)) :
    (x = 0 → r = 1) ∧ (x ≠ 0 → (Int.fmod (Builtin.Int.intBits x : Int) 8 ≠ 0 → Int.fdiv (Builtin.Int.intBits x : Int) 8 + 1 = r) ∧ (Int.fmod (Builtin.Int.intBits x : Int) 8 = 0 → Int.fdiv (Builtin.Int.intBits x : Int) 8 = r)) := by
  obtain ⟨q1, q2⟩ := bytes_of_least h0 h1 h2
  constructor
  · intro hx
    subst hx
    have : Builtin.Int.intBits 0 = 0 := rfl
    omega
  · intro hx
    have hb := (bits_lo hx).1
    rw [Int.fmod_eq_emod_of_nonneg _ (by decide), Int.fdiv_eq_ediv_of_nonneg _ (by decide)]
    omega

theorem SBd.log2 {k : Nat} {x : Int} (h : SBd k x) (hx : x ≠ 0) (hk : k ≤ 9000) : x.natAbs.log2 < 9000 := by
  have h1 := h.mono hk
  exact (Nat.log2_lt (by omega)).mpr h1
/-- the quotient, rounded up -/
def cdiv (a b : Int) : Int := if Int.fmod a b = 0 then Int.fdiv a b else Int.fdiv a b + 1
theorem cdiv_of_ne {a b : Int} (h : Int.fmod a b ≠ 0) : Int.fdiv a b + 1 = cdiv a b := by unfold cdiv; rw [if_neg h]
theorem cdiv_of_eq {a b : Int} (h : Int.fmod a b = 0) : Int.fdiv a b = cdiv a b := by unfold cdiv; rw [if_pos h]
/-- the least count of octets, 1 at least -/
def bsz (x : Int) : Int := if x = 0 then 1 else cdiv (Builtin.Int.intBits x : Int) 8
theorem bsz_zero {x : Int} (h : x = 0) : 1 = bsz x := by unfold bsz; rw [if_pos h]
theorem bsz_ne {x : Int} (h : x ≠ 0) : cdiv (Builtin.Int.intBits x : Int) 8 = bsz x := by unfold bsz; rw [if_neg h]
theorem bsz_of_least {x r : Int} (h0 : 1 ≤ r) (h1 : (if x < 0 then -x else x) < 256 ^ r.toNat) (h2 : ∀ j : Int, 1 ≤ j → j < r → 256 ^ j.toNat ≤ (if x < 0 then -x else x)) : r = bsz x := by
  obtain ⟨q1, q2⟩ := bytes_of_least2 h0 h1 h2
  unfold bsz cdiv
  split
  · exact q1 (by assumption)
  · obtain ⟨a, b⟩ := q2 (by assumption)
    split
    · exact (b (by assumption)).symm
    · exact (a (by assumption)).symm
theorem cdiv_spec {a b : Int} (hb : 0 < b) : (cdiv a b - 1) * b < a ∧ a ≤ cdiv a b * b := by
  have h1 := Int.fmod_add_mul_fdiv a b
  have h2 := Int.fmod_nonneg_of_pos a hb
  have h3 := Int.fmod_lt_of_pos a hb
  have h4 : b * Int.fdiv a b = Int.fdiv a b * b := Int.mul_comm ..
  unfold cdiv
  split
  · rw [Int.sub_mul]; omega
  · rw [Int.sub_mul, Int.add_mul]; omega

theorem mul_sgn2 {prog : Program} {w : World} {A : Around} {E : Value → Shared → Prop} {s : Shared} {a b q r : Int} {t u : Tok} {Q : Value → Shared → Prop} (ha : Bd 300 a) (b0 : 0 ≤ b) (b1 : b < 30) (q0 : 0 ≤ q) (q1 : q < 2) (h0 : 0 ≤ r) (h1 : r < 3)
    (h : ∀ z, z ≠ 0 → SBd 331 z → Q (.int z s.toks) { s with toks := s.toks + 1 }) : wpAny (model prog w) A (binaryOp .Mult (.int (([1 + a, 1 + b] : List Int).getD q.toNat 0) t) (.int (([1, 1, -1] : List Int).getD r.toNat 0) u)) Q E s := by
  obtain ⟨p1, p2⟩ := pick2 ha b0 b1 q0 q1
  refine mul_sgn p2 h0 h1 (by decide) fun z hz hs => h z ?_ hs
  rcases hz with rfl | rfl <;> omega

theorem fdiv_amount (a : Int) {b : Int} (hb : b ≠ 0) : (a.fdiv b).natAbs ≤ a.natAbs + 2 := by
  obtain ⟨_, h1, h2, h3⟩ := fdiv_fmod_facts a b
  refine Classical.byContradiction fun hc => ?_
  have e : (b * a.fdiv b).natAbs = b.natAbs * (a.fdiv b).natAbs := Int.natAbs_mul ..
  have h5 : b.natAbs * (a.natAbs + 2) ≤ b.natAbs * (a.fdiv b).natAbs := Nat.mul_le_mul_left _ (by omega)
  have h6 : 1 * a.natAbs ≤ b.natAbs * a.natAbs := Nat.mul_le_mul_right _ (by omega)
  rw [Nat.mul_add] at h5
  have h7 : (a.fmod b).natAbs < b.natAbs := by
    rcases Int.lt_or_gt_of_ne hb with h | h
    · have := h3 h; omega
    · have := h2 h; omega
  omega
theorem cdiv_facts {k : Nat} {a b r : Int} (hr : r = cdiv a b) (ha : SBd k a) (hb : b ≠ 0) :
    SBd (k + 2) r ∧ (0 < b → (r - 1) * b < a ∧ a ≤ r * b) ∧ (b < 0 → (r - 1) * (0 - b) < 0 - a ∧ 0 - a ≤ r * (0 - b)) := by
  subst hr
  refine ⟨?_, fun h => cdiv_spec h, fun h => ?_⟩
  · have h1 := fdiv_amount a hb
    have h2 : (cdiv a b).natAbs ≤ a.natAbs + 3 := by unfold cdiv; split <;> omega
    unfold SBd at *
    rw [Nat.pow_add]
    omega
  · obtain ⟨h1, h0, _, h3⟩ := fdiv_fmod_facts a b
    obtain ⟨h4, h5⟩ := h3 h
    have e1 : a.fdiv b * (0 - b) = - (a.fdiv b * b) := by rw [Int.mul_sub]; omega
    unfold cdiv
    split
    · rw [Int.sub_mul, e1]; omega
    · rw [Int.sub_mul, Int.add_mul, e1]; omega

theorem divmod_zero {prog : Program} {w : World} {A : Around} {E : Value → Shared → Prop} {s : Shared} {a : Int} {t u : Tok} {Q : Value → Shared → Prop} (hA : A.handled = none)
    (h : ∀ h' tk e, Heap.NewExc s.heap h' e "ZeroDivisionError" → E (.ref e) { s with heap := h', toks := tk }) :
    wpAny (model prog w) A (call (.builtin "divmod") [.int a t, .int 0 u]) Q E s := by
  refine Calls.call_function_entry kind_divmodT plain_divmodT entry_divmodT (args_divmod2 _ _) ?_
  unfold Builtin.«divmod»
  refine wpAny_bind (m := someArgs "divmod" 2 2 _) (wpAny_pure ?_)
  show wpAny _ _ (do ret (← Builtin.Builtins.binaryNamed "divmod()" "divmod" (.int a t) (.int 0 u))) _ _ s
  refine wpAny_bind (binaryNamed_same (nm := "divmod") (T := "int") (id := "int.__divmod__") (typeIs_int s a t) (typeIs_int s 0 u) fills_int_divmod slot_int_divmod ?_)
  refine wpAny_call_entry slot_int_divmod (typeIs_int s a t) entry_int_divmod ?_ (args_int_divmod _ _)
  show wpAny _ _ (do
    if (0 : Int) == 0 then rule "int.divmod.zero"; raiseError "ZeroDivisionError" "integer division or modulo by zero"
    Builtin.roomForPylong a 0
    ret (← newTuple [← mkInt (a.fdiv 0), ← mkInt (a.fmod 0)])) _ _ s
  obtain ⟨hp, g, d, tk, os⟩ := s
  refine wpAny_bind (wpAny_rule ?_)
  refine wpAny_bind ?_
  exact_raiseError plainExc_ZeroDivisionError hA h

theorem fdiv_sbd {k : Nat} {a b : Int} (ha : SBd k a) (hb : b ≠ 0) : SBd (k + 2) (a.fdiv b) := by
  have h1 := fdiv_amount a hb
  unfold SBd at *
  rw [Nat.pow_add]
  have : 0 < 2 ^ k := Nat.two_pow_pos k
  omega

/-! ### what a contract is told -/
/-- the state of a script: the place, the cells -/
structure WF (i : Int) (ns : List Int) : Prop where
  i0 : 0 ≤ i
  ne : 0 < ns.length
  le : ns.length ≤ 63
  nn : ∀ n ∈ ns, 0 ≤ n

/-- the cells under the state's list are ints, as WF says -/
def SW (i : Int) (vs : List Value) : Prop := ∃ ns, IntsAre vs ns ∧ WF i ns

/-- a contract of a def that turns the script's state alone -/
abbrev StC (prog : Program) (w : World) (K : Frag) (p : Program) (loose : List Str) (mean : ExcName → Option Value) (mg mb : Str → Option Value) (fa : Addr) (args : Addr → List Value) (bd : Nat) (Post : Value → Prop) : Prop :=
  ∀ (dp un : Nat) (gd : Option (List Code)) (cn : Str) (cs : Scope) (a : Addr) (ccd : Value) (cl : List (Str × Addr)) (outer : List Env) (A₀ : Around) (base h₀ : Heap) (L : Addr) (m : Str → Option Value) (s : Shared) (Q E : Value → Shared → Prop)
    (st c : Addr) (i : Int) (ti : Tok) (vs : List Value) (n1 n2 : Nat) (rest : List (Addr × Obj)),
    Below A₀ base outer h₀ → Fr h₀ L s.heap m → K.In h₀ → News h₀ L s.heap ((st, listOf #[.int i ti, .ref c] n1) :: (c, listOf vs.toArray n2) :: rest) → Top p loose mean mg mb h₀ → cs.kind = .function →
    @Ne Nat st c → OwnOff rest [st, c] → SW i vs → dp + bd < recursionLimit → un + 10 * bd < cLine →
    (∀ v i' ti' vs' n1' n2' h' tk', SW i' vs' → Post v → Fr h₀ L h' m → News h₀ L h' ((st, listOf #[.int i' ti', .ref c] n1') :: (c, listOf vs'.toArray n2') :: rest) → Q v { s with heap := h', toks := tk' }) →
    wpAny (model prog w) (ktrTop dp un gd cn cs L a ccd cl outer) (call (.ref fa) (args st)) Q E s

/-- a contract of a def that turns nothing; what it makes stands ahead -/
abbrev PuC (prog : Program) (w : World) (K : Frag) (p : Program) (loose : List Str) (mean : ExcName → Option Value) (mg mb : Str → Option Value) (fa : Addr) (args : List Value) (bd : Nat) (Pre : Heap → List (Addr × Obj) → Prop) (Post : Value → List (Addr × Obj) → Prop) : Prop :=
  ∀ (dp un : Nat) (gd : Option (List Code)) (cn : Str) (cs : Scope) (a : Addr) (ccd : Value) (cl : List (Str × Addr)) (outer : List Env) (A₀ : Around) (base h₀ : Heap) (L : Addr) (m : Str → Option Value) (s : Shared) (Q E : Value → Shared → Prop)
    (news : List (Addr × Obj)),
    Below A₀ base outer h₀ → Fr h₀ L s.heap m → K.In h₀ → News h₀ L s.heap news → Top p loose mean mg mb h₀ → cs.kind = .function →
    Pre base news → dp + bd < recursionLimit → un + 10 * bd < cLine →
    (∀ v tl h' tk', Post v tl → (∀ q ∈ tl, ∀ p ∈ news, p.1 < q.1) → Fr h₀ L h' m → News h₀ L h' (tl ++ news) → Q v { s with heap := h', toks := tk' }) →
    wpAny (model prog w) (ktrTop dp un gd cn cs L a ccd cl outer) (call (.ref fa) args) Q E s

/-- a contract of a def that catches, called by the law itself -/
abbrev TrC (prog : Program) (w : World) (K : Frag) (p : Program) (loose : List Str) (mean : ExcName → Option Value) (mg mb : Str → Option Value) (fa : Addr) (args : List Value) (bd : Nat) (Pre : Heap → List (Addr × Obj) → Prop) (Post : Value → List (Addr × Obj) → Prop) : Prop :=
  ∀ (dp un : Nat) (gd : Option (List Code)) (cn : Str) (cs : Scope) (a : Addr) (ccd : Value) (A₀ : Around) (base h₀ : Heap) (L : Addr) (m : Str → Option Value) (s : Shared) (Q E : Value → Shared → Prop)
    (news : List (Addr × Obj)),
    Below A₀ base [] h₀ → Fr h₀ L s.heap m → K.In h₀ → News h₀ L s.heap news → Top p loose mean mg mb h₀ → cs.kind = .function →
    K.In base → Top p loose mean mg mb base → Pre base news → dp + bd < recursionLimit → un + 10 * bd < cLine →
    (∀ v tl h' tk', Post v tl → (∀ q ∈ tl, ∀ p ∈ news, p.1 < q.1) → Fr h₀ L h' m → News h₀ L h' (tl ++ news) → Q v { s with heap := h', toks := tk' }) →
    wpAny (model prog w) (ktrTop dp un gd cn cs L a ccd [] []) (call (.ref fa) args) Q E s

theorem updF_mem {d : Addr} {o o' : Obj} : ∀ {l : List (Addr × Obj)} {g : Obj → List (Addr × Obj)}, UpdF d o l g → ∀ p ∈ g o', p = (d, o') ∨ (p ∈ l ∧ p.1 ≠ d)
  | _, _, .head h, p, hp => by
    rcases List.mem_cons.mp hp with rfl | hp
    · exact .inl rfl
    · exact .inr ⟨List.mem_cons_of_mem _ hp, h p hp⟩
  | _, _, .tail h r, p, hp => by
    rcases List.mem_cons.mp hp with rfl | hp
    · exact .inr ⟨List.mem_cons_self, h⟩
    · rcases updF_mem r p hp with e | e
      · exact .inl e
      · exact .inr ⟨List.mem_cons_of_mem _ e.1, e.2⟩
theorem updF_here {d : Addr} {o o' : Obj} : ∀ {l : List (Addr × Obj)} {g : Obj → List (Addr × Obj)}, UpdF d o l g → (d, o) ∈ l ∧ (d, o') ∈ g o'
  | _, _, .head _ => ⟨List.mem_cons_self, List.mem_cons_self⟩
  | _, _, .tail _ r => ⟨List.mem_cons_of_mem _ (updF_here (o' := o') r).1, List.mem_cons_of_mem _ (updF_here r).2⟩
theorem updF_keeps {d : Addr} {o o' : Obj} : ∀ {l : List (Addr × Obj)} {g : Obj → List (Addr × Obj)}, UpdF d o l g → ∀ p ∈ l, p.1 ≠ d → p ∈ g o'
  | _, _, .head _, p, hp, hd => by
    rcases List.mem_cons.mp hp with rfl | hp
    · exact absurd rfl hd
    · exact List.mem_cons_of_mem _ hp
  | _, _, .tail _ r, p, hp, hd => by
    rcases List.mem_cons.mp hp with rfl | hp
    · exact List.mem_cons_self
    · exact List.mem_cons_of_mem _ (updF_keeps r p hp hd)

theorem two_canon {news : List (Addr × Obj)} {g1 : Obj → List (Addr × Obj)} {g2 : Obj → Obj → List (Addr × Obj)} {st c : Addr} {o1 o2 : Obj} (U1 : UpdF st o1 news g1) (U2 : ∀ o, UpdF c o2 (g1 o) (g2 o)) :
    ∃ rest, @Ne Nat st c ∧ OwnOff rest [st, c] ∧ (∀ p ∈ (st, o1) :: (c, o2) :: rest, p ∈ news) ∧ ∀ o1' o2', ∀ p ∈ g2 o1' o2', p ∈ (st, o1') :: (c, o2') :: rest := by
  have hsc : @Ne Nat st c := by
    obtain ⟨pre, post, e, _, a, b⟩ := (U2 o1).split
    have h1 : (st, o1) ∈ g1 o1 := (updF_here U1).2
    have hne : o1 ≠ o2 ∨ True := .inr trivial
    intro hsc
    have h3 := (updF_here (o' := o1) U1).2
    have h2 : (c, o2) ∈ g1 o1 := (updF_here (o' := o2) (U2 o1)).1
    -- use an object that parts the two
    let oX : Obj := { cls := .type "x", data := .plain, dict := none, slots := #[] }
    let oY : Obj := { cls := .type "y", data := .plain, dict := none, slots := #[] }
    have key : ∀ o, o = o2 := by
      intro o
      have h4 : (st, o) ∈ g1 o := (updF_here (o' := o) U1).2
      obtain ⟨pre, post, e, _, a, b⟩ := (U2 o).split
      rw [e] at h4
      rcases List.mem_append.mp h4 with h5 | h5
      · exact absurd hsc (a _ h5)
      · rcases List.mem_cons.mp h5 with h6 | h6
        · exact congrArg Prod.snd h6
        · exact absurd hsc (b _ h6)
    have hx : oX = oY := (key oX).trans (key oY).symm
    have := congrArg Obj.cls hx
    simp [oX, oY] at this
  refine ⟨news.filter (fun p => decide (p.1 ≠ st) && decide (p.1 ≠ c)), hsc, ?_, ?_, ?_⟩
  · intro p hp b hb
    have h := (List.mem_filter.mp hp).2
    simp only [Bool.and_eq_true, decide_eq_true_eq] at h
    rcases List.mem_cons.mp hb with rfl | hb
    · exact h.1
    · rcases List.mem_cons.mp hb with rfl | hb
      · exact h.2
      · cases hb
  · intro p hp
    rcases List.mem_cons.mp hp with rfl | hp
    · exact (updF_here (o' := o1) U1).1
    · rcases List.mem_cons.mp hp with rfl | hp
      · have h2 : (c, o2) ∈ g1 o1 := (updF_here (o' := o2) (U2 o1)).1
        rcases updF_mem U1 _ h2 with h | h
        · exact absurd (congrArg Prod.fst h).symm hsc
        · exact h.1
      · exact (List.mem_filter.mp hp).1
  · intro o1' o2' p hp
    rcases updF_mem (U2 o1') p hp with h | ⟨h, hc⟩
    · exact h ▸ List.mem_cons_of_mem _ List.mem_cons_self
    · rcases updF_mem U1 p h with h | ⟨h, hs⟩
      · exact h ▸ List.mem_cons_self
      · exact List.mem_cons_of_mem _ (List.mem_cons_of_mem _ (List.mem_filter.mpr ⟨h, by simp [hs, hc]⟩))

section
variable {prog : Program} {w : World} {K : Frag} {p : Program} {loose : List Str} {mean : ExcName → Option Value} {mg mb : Str → Option Value} {fa : Addr}
  {dp un : Nat} {gd : Option (List Code)} {cn : Str} {cs : Scope} {a : Addr} {ccd : Value} {cl : List (Str × Addr)} {outer : List Env} {A₀ : Around} {base h₀ : Heap} {L : Addr} {m : Str → Option Value} {s : Shared} {Q E : Value → Shared → Prop}

theorem StC.use {args : Addr → List Value} {bd : Nat} {Post : Value → Prop} {st c : Addr} {i : Int} {ti : Tok} {vs : List Value} {n1 n2 : Nat} {news : List (Addr × Obj)} {g1 : Obj → List (Addr × Obj)} {g2 : Obj → Obj → List (Addr × Obj)}
    (H : StC prog w K p loose mean mg mb fa args bd Post)
    (B : Below A₀ base outer h₀) (F : Fr h₀ L s.heap m) (X : K.In h₀) (N : News h₀ L s.heap news) (T : Top p loose mean mg mb h₀) (hk : cs.kind = .function)
    (U1 : UpdF st (listOf #[.int i ti, .ref c] n1) news g1) (U2 : ∀ o, UpdF c (listOf vs.toArray n2) (g1 o) (g2 o)) (hw : SW i vs) (hd : dp + bd < recursionLimit) (hu : un + 10 * bd < cLine)
    (ret : ∀ v i' ti' vs' n1' n2' h' tk', SW i' vs' → Post v → Fr h₀ L h' m → News h₀ L h' (g2 (listOf #[.int i' ti', .ref c] n1') (listOf vs'.toArray n2')) → Q v { s with heap := h', toks := tk' }) :
    wpAny (model prog w) (ktrTop dp un gd cn cs L a ccd cl outer) (call (.ref fa) (args st)) Q E s := by
  obtain ⟨rest, hsc, hoff, h1, h2⟩ := two_canon U1 U2
  exact H dp un gd cn cs a ccd cl outer A₀ base h₀ L m s Q E st c i ti vs n1 n2 rest B F X (fun p hp => N p (h1 p hp)) T hk hsc hoff hw hd hu
    fun v i' ti' vs' n1' n2' h' tk' a1 a2 a3 a4 => ret v i' ti' vs' n1' n2' h' tk' a1 a2 a3 fun p hp => a4 p (h2 _ _ p hp)

theorem PuC.use {args : List Value} {bd : Nat} {Pre : Heap → List (Addr × Obj) → Prop} {Post : Value → List (Addr × Obj) → Prop} {news : List (Addr × Obj)}
    (H : PuC prog w K p loose mean mg mb fa args bd Pre Post)
    (B : Below A₀ base outer h₀) (F : Fr h₀ L s.heap m) (X : K.In h₀) (N : News h₀ L s.heap news) (T : Top p loose mean mg mb h₀) (hk : cs.kind = .function) (hp : Pre base news) (hd : dp + bd < recursionLimit) (hu : un + 10 * bd < cLine)
    (ret : ∀ v tl h' tk', Post v tl → (∀ q ∈ tl, ∀ p ∈ news, p.1 < q.1) → Fr h₀ L h' m → News h₀ L h' (tl ++ news) → Q v { s with heap := h', toks := tk' }) :
    wpAny (model prog w) (ktrTop dp un gd cn cs L a ccd cl outer) (call (.ref fa) args) Q E s :=
  H dp un gd cn cs a ccd cl outer A₀ base h₀ L m s Q E news B F X N T hk hp hd hu ret
end

section
variable {prog : Program} {w : World} {K : Frag} {p : Program} {loose : List Str} {mean : ExcName → Option Value} {mg mb : Str → Option Value} {fa : Addr}
  {dp un : Nat} {gd : Option (List Code)} {cn : Str} {cs : Scope} {a : Addr} {ccd : Value} {A₀ : Around} {base h₀ : Heap} {L : Addr} {m : Str → Option Value} {s : Shared} {Q E : Value → Shared → Prop}
theorem TrC.use {args : List Value} {bd : Nat} {Pre : Heap → List (Addr × Obj) → Prop} {Post : Value → List (Addr × Obj) → Prop} {news : List (Addr × Obj)}
    (H : TrC prog w K p loose mean mg mb fa args bd Pre Post)
    (B : Below A₀ base [] h₀) (F : Fr h₀ L s.heap m) (X : K.In h₀) (N : News h₀ L s.heap news) (T : Top p loose mean mg mb h₀) (hk : cs.kind = .function) (XB : K.In base) (TB : Top p loose mean mg mb base) (hp : Pre base news) (hd : dp + bd < recursionLimit) (hu : un + 10 * bd < cLine)
    (ret : ∀ v tl h' tk', Post v tl → (∀ q ∈ tl, ∀ p ∈ news, p.1 < q.1) → Fr h₀ L h' m → News h₀ L h' (tl ++ news) → Q v { s with heap := h', toks := tk' }) :
    wpAny (model prog w) (ktrTop dp un gd cn cs L a ccd [] []) (call (.ref fa) args) Q E s :=
  H dp un gd cn cs a ccd A₀ base h₀ L m s Q E news B F X N T hk XB TB hp hd hu ret
end

/-! ### a place where the walk halts for a line of my own -/
def Stop (P : Prop) : Prop := P
theorem Stop.here {P : Prop} (h : Stop P) : P := h
theorem Stop.go {P : Prop} (h : P) : Stop P := h
structure LoopStop : Prop where

theorem off2 {st c I : Addr} {o1 o2 : Obj} {rest : List (Addr × Obj)} (h : ∀ p ∈ (st, o1) :: (c, o2) :: rest, p.1 ≠ I) : @Ne Nat st I ∧ @Ne Nat c I ∧ ∀ p ∈ rest, p.1 ≠ I :=
  ⟨h _ List.mem_cons_self, h _ (List.mem_cons_of_mem _ List.mem_cons_self), fun p hp => h p (List.mem_cons_of_mem _ (List.mem_cons_of_mem _ hp))⟩

/-! ### loops -/
section
variable {prog : Program} {w : World} {A : Around} {E : Value → Shared → Prop} {s : Shared} {env : Env} {h₀ : Heap} {x : Str} {body : List Stmt} {Q : Flow → Shared → Prop}

/-- what stands behind a turn -/
def JEnd {σ : Type} (h₀ : Heap) (L : Addr) (s : Shared) (x : Str) (Led : σ → List (Addr × Obj)) (ps : σ → List (Str × Value)) (stored : List Str) (m₀ : Str → Option Value) (P : σ → Prop) (I : Addr) (oI : Obj) (s₂ : Shared) : Prop :=
  ∃ (c' : σ) (h' : Heap) (tk : Nat) (m' : Str → Option Value) (news' : List (Addr × Obj)), s₂ = { s with heap := h', toks := tk } ∧ Fr h₀ L h' m' ∧ News h₀ L h' news' ∧ (∀ p ∈ Led c', p ∈ news') ∧ (I, oI) ∈ news' ∧ (∀ p ∈ Led c', p.1 ≠ I) ∧
    (∀ p ∈ ps c', m' p.1 = some p.2) ∧ (∀ z, z ≠ x → (∀ p ∈ ps c', z ≠ p.1) → stored.contains z = false → m' z = m₀ z) ∧ P c'
def JPost {σ : Type} (h₀ : Heap) (L : Addr) (s : Shared) (x : Str) (Led : σ → List (Addr × Obj)) (ps : σ → List (Str × Value)) (stored : List Str) (m₀ : Str → Option Value) (P : σ → Prop) (I : Addr) (oI : Obj) (Q : Flow → Shared → Prop) (f : Flow) (s₂ : Shared) : Prop :=
  match f with
  | .ret v => Q (.ret v) s₂
  | .brk => Q .next s₂
  | _ => JEnd h₀ L s x Led ps stored m₀ P I oI s₂
theorem jend {σ : Type} {L : Addr} {Led : σ → List (Addr × Obj)} {ps : σ → List (Str × Value)} {stored : List Str} {m₀ m' : Str → Option Value} {P : σ → Prop} {I : Addr} {oI : Obj} {h' : Heap} {tk : Nat} {news' : List (Addr × Obj)} (c' : σ)
    (F : Fr h₀ L h' m') (N : News h₀ L h' news') (hn : ∀ p ∈ Led c', p ∈ news') (hi : (I, oI) ∈ news') (ha : ∀ p ∈ Led c', p.1 ≠ I) (hk : ∀ p ∈ ps c', m' p.1 = some p.2) (hr : ∀ z, z ≠ x → (∀ p ∈ ps c', z ≠ p.1) → stored.contains z = false → m' z = m₀ z) (hp : P c') :
    JEnd h₀ L s x Led ps stored m₀ P I oI { s with heap := h', toks := tk } := ⟨c', h', tk, m', news', rfl, F, N, hn, hi, ha, hk, hr, hp⟩

theorem j_range {σ : Type} {r : Addr} {a₀ b₀ : Int} {t₀ u₀ v₀ : Tok} {n : Nat} {m₀ : Str → Option Value} (Led : σ → List (Addr × Obj)) (ps : σ → List (Str × Value)) (stored : List Str) (P : Nat → σ → Prop) (c₀ : σ)
    (hh : A.handled = none) (hr : IsRange s.heap r a₀ b₀ 1 t₀ u₀ v₀) (hsmall : Builtin.Range.small a₀ b₀ 1 = true) (hn : Builtin.Range.rangeSize a₀ b₀ 1 = (n : Int)) (F : Fr h₀ env.locals s.heap m₀) (N : News h₀ env.locals s.heap (Led c₀)) (hk : ∀ p ∈ ps c₀, m₀ p.1 = some p.2) (hp : P 0 c₀)
    (turn : ∀ (c : σ) (i : Nat) (k : Int) t (u : Str → Option Value) h tk I oI, k = a₀ + (i : Int) → i < n → P i c → (∀ p ∈ Led c, p.1 ≠ I) →
      Fr h₀ env.locals h (fun y => if y = x then some (.int k t) else kstB (fun z => if stored.contains z then u z else m₀ z) (ps c) y) → News h₀ env.locals h ((I, oI) :: Led c) →
      wpAny (model prog w) A (execs body env) (JPost h₀ env.locals s x Led ps stored m₀ (P (i + 1)) I oI Q) E { s with heap := h, toks := tk })
    (done : ∀ (c : σ) (u : Str → Option Value) h tk, P n c → Fr h₀ env.locals h (fun y => if y = x then u y else kstB (fun z => if stored.contains z then u z else m₀ z) (ps c) y) → News h₀ env.locals h (Led c) → Q .next { s with heap := h, toks := tk }) :
    wpAny (model prog w) A (pyIter (.ref r)) (fun it s₂ => LoopAtV prog w A h₀ env x body Q E it s₂) E s := by
  refine wpAny_pyIter_range hr hsmall ?_
  have W : Walks prog w A s.heap.objs.size [s.heap.objs.size] [s.heap.objs.size] n (fun i v => i < n ∧ ∃ t, v = .int (a₀ + i * 1) t)
      (fun i h => IsRangeIter h s.heap.objs.size (a₀ + (i : Nat) * 1) ((n : Int) - (i : Nat)) 1) := (Walks.range hh _ a₀ 1 n).bound
  let J : Nat → (Str → Option Value) → List (Addr × Obj) → Prop := fun i m nx => ∃ c : σ, nx = Led c ∧ (∀ p ∈ ps c, m p.1 = some p.2) ∧ (∀ z, z ≠ x → (∀ p ∈ ps c, z ≠ p.1) → stored.contains z = false → m z = m₀ z) ∧ P i c
  refine ⟨_, _, _, n, _, _, m₀, Led c₀, J, rfl, W, ?_, ?_, ?_, (by show IsRangeIter _ _ _ _ _; rw [hn]; simpa using Heap.get?_push_size _ rfl), F.push _, (fun p hp => ⟨Heap.get?_push_of_some _ (N p hp).1, (N p hp).2⟩), ⟨c₀, rfl, hk, fun _ _ _ _ => rfl, hp⟩, ?_, ?_⟩
  · intro hm
    exact absurd F.ns.lt ((List.mem_singleton.mp hm) ▸ Nat.lt_irrefl _)
  · intro b hb
    rw [List.mem_singleton.mp hb]
    exact next_is_new F
  · intro p hp hI
    exact absurd (Heap.lt_size (N p hp).1) ((List.mem_singleton.mp hI) ▸ Nat.lt_irrefl _)
  · rintro i v m₁ news₁ s₁ own ⟨hh', tk', rfl⟩ hin ⟨_, t, rfl⟩ ⟨c, rfl, h1, h2, hP⟩ hoff hown hget hfp hst F₁ N₁
    have hI0 : h₀.get? s.heap.objs.size = none := next_is_new F
    obtain ⟨oI, hoI⟩ : ∃ o, hh'.get? s.heap.objs.size = some o := ⟨_, hst⟩
    have hIown := hfp _ (List.mem_singleton.mpr rfl) hI0 _ hoI
    have e1 : a₀ + (i : Int) * 1 = a₀ + (i : Int) := by omega
    rw [e1] at F₁
    refine wpAny_mono (turn c i _ t m₁ hh' tk' s.heap.objs.size oI rfl hin hP (fun p hp e => hoff p hp (List.mem_singleton.mpr e)) (kst_fr h1 h2 F₁) (fun p hp => ?_)) (fun f s₂ q => ?_) fun _ _ e => e
    · rcases List.mem_cons.mp hp with rfl | hp
      · exact N₁ _ (List.mem_append.mpr (.inl hIown))
      · exact N₁ _ (List.mem_append.mpr (.inr hp))
    · have fin : JEnd h₀ env.locals s x Led ps stored m₀ (P (i + 1)) s.heap.objs.size oI s₂ → LoopStepU h₀ env.locals [s.heap.objs.size] own (J (i + 1)) { s with heap := hh', toks := tk' } .next s₂ := by
        rintro ⟨c', h', tk, m', news', e, F', N', hn', hi', ha', hk', hr', hp'⟩
        refine ⟨rfl, h', tk, m', Led c', e, F', fun p hp => ?_, fun p hp hq => ha' p hp (List.mem_singleton.mp hq), c', rfl, hk', hr', hp'⟩
        rcases List.mem_append.mp hp with h | h
        · have h1 : p.1 = s.heap.objs.size := List.mem_singleton.mp (hown p h)
          have h2 := hget p h
          have h3 : hh'.get? p.1 = some p.2 := h2
          rw [h1] at h3
          rw [show p = (s.heap.objs.size, oI) from Prod.ext h1 (Option.some.inj (h3.symm.trans hoI))]
          exact N' _ hi'
        · exact N' p (hn' p h)
      cases f with
      | ret v => exact .ret q
      | brk => exact .brk q
      | next => exact .next (fin q)
      | cont => exact .cont (fin q)
  · rintro h' tk m' news' F' N' _ ⟨c, rfl, h1, h2, hP⟩
    exact done c m' h' tk hP (kst_frOut h1 h2 F') N'
end

section
open PySem.Calls
section
variable {prog : Program} {w : World} {A A₀ : Around} {s : Shared} {K : Frag} {L : Addr} {h₀ base : Heap} {m mg mb : Str → Option Value} {news : List (Addr × Obj)} {p : Program} {loose : List Str} {mean : ExcName → Option Value}
/-- the caller's objects stand through a call that turns none of them -/
theorem news_stay {h h' : Heap} {g : Heap} (N : News h₀ L h news) (e : g = h) (k : ∀ b o, g.get? b = some o → h'.get? b = some o) : News h₀ L h' news := by
  subst e
  exact fun q hq => ⟨k _ _ (N q hq).1, (N q hq).2⟩
/-- what stands behind a call: as LeaveK, the caller's objects handed on -/
theorem leaveP {g : Heap} {R : Result → Shared → Prop} {v : Value} {s₀ s' : Shared} (N : News h₀ L s₀.heap news) (e : g = s₀.heap)
    (h : LeaveK h₀ L m g (fun r s' => News h₀ L s'.heap news → R r s') v s') : LeaveK h₀ L m g R v s' := by
  obtain ⟨L', m', news', F', N', k⟩ := h
  exact ⟨L', m', news', F', N', fun a b => k a b (news_stay N e F'.keep)⟩

theorem code_defP {env : Env} {outer : List Env} {R : Result → Shared → Prop} {name qual : Str} {params : Arguments} {body : List Stmt} {scope : Scope} {dV kV doc pm cdv ct oc : Value} {an od : Option Addr} {osl : Array (Option Value)} {f : Addr} {args : Args} {binds : List (Str × Value)}
    (B : Below A₀ base outer h₀) (F : Fr h₀ L s.heap m) (X₀ : K.In h₀) (N : News h₀ L s.heap news) (T : Top p loose mean mg mb h₀) (hA : A.frames = some (env :: outer)) (hf : env.frame = some L) (hke : env.scope.kind = .function)
    (ho : K.lookup f = some ⟨oc, od, .func (fnOf name qual params body scope dV kV doc pm an cdv ct), osl⟩) (hcd : codeIn K cdv qual = true) (hroom : A.depth < recursionLimit)
    (hbind : BindsTo s (fnOf name qual params body scope dV kV doc pm an cdv ct) args binds) (hloc : ∀ y ∈ binds, scope.names.lookup y.1 = some .local)
    (h : ∀ g L' h₁, g = s.heap → (∀ p ∈ news, p.1 < L') → Fr h₀ L g m → Fr g L' h₁ (fun y => binds.reverse.lookup y) → News g L' h₁ [] → Below A base (env :: outer) g → K.In g → Top p loose mean mg mb g →
      wpAny (model prog w) (A.deeper (envOf qual scope L' f cdv)) (execs body (envOf qual scope L' f cdv))
        (fun fl s' => LeaveK h₀ L m g (fun r s' => News h₀ L s'.heap news → R r s') (match fl with | .ret v => v | _ => .none) s')
        (fun e s' => wpAny (model prog w) (A.deeper (envOf qual scope L' f cdv)) (leaving (envOf qual scope L' f cdv) e) (fun _ s'' => R (.error e) s'') (fun e' s'' => R (.error e') s'') s')
        { s with heap := h₁, toks := s.toks + binds.length })
    (hco : scope.isCoroutine = false) (hgen : scope.isGenerator = false) (hk : scope.kind = .function)
    (hcell : ∀ x ∈ scope.names, x.2 ≠ .cell) : codeAny (model prog w) A (.call (.ref f) args) R s := by
  obtain ⟨FG, BG, st, lv⟩ := groundX (R := R) B F (News.nil (h₀ := h₀) (L := L)) hA hf hke
  have X := X₀.keeps F.keep
  refine codeAny_call_def (fd := fnOf name qual params body scope dV kV doc pm an cdv ct) (body := body) (binds := binds) hroom (X _ _ ho) rfl (T.nolimit.keeps F.keep) (codeRec_of X hcd) rfl hbind hcell hloc (fun h₁ hns hk₁ => ?_) hco hgen hk
  exact wpAny_mono (h s.heap s.heap.objs.size h₁ rfl (fun p hp => Heap.lt_size (N p hp).1) FG ⟨hns, fun b o e => hk₁ b o e, Nat.le_refl _⟩ News.nil BG (X₀.keeps st) (T.keeps st))
    (fun fl s' hl => lv _ _ (leaveP N rfl hl)) fun _ _ y => y

theorem code_defCP {env : Env} {outer : List Env} {R : Result → Shared → Prop} {name qual : Str} {params : Arguments} {body : List Stmt} {scope : Scope} {dV kV doc pm cdv ct oc : Value} {an od : Option Addr} {osl : Array (Option Value)} {f : Addr} {args : Args} {binds : List (Str × Value)}
    (B : Below A₀ base outer h₀) (F : Fr h₀ L s.heap m) (X₀ : K.In h₀) (N : News h₀ L s.heap news) (T : Top p loose mean mg mb h₀) (hA : A.frames = some (env :: outer)) (hf : env.frame = some L) (hke : env.scope.kind = .function)
    (ho : K.lookup f = some ⟨oc, od, .func (fnOf name qual params body scope dV kV doc pm an cdv ct), osl⟩) (hcd : codeIn K cdv qual = true) (hroom : A.depth < recursionLimit)
    (hbind : BindsTo s (fnOf name qual params body scope dV kV doc pm an cdv ct) args binds) (hkind : (binds.all fun y => scope.names.lookup y.1 == some .local || scope.names.lookup y.1 == some .cell) = true)
    (hnd : ((cellsFrom 0 scope.names []).map (·.1)).Nodup)
    (h : ∀ g L' h₁ tk cells, g = s.heap → (∀ p ∈ news, p.1 < L') → Fr h₀ L g m → Fr g L' h₁ (bindL (envOfC qual scope L' f cdv).kindOf binds fun _ => none) → News g L' h₁ cells →
      CellsAre (bindC (envOfC qual scope L' f cdv).kindOf binds fun _ => none) (cellsFrom (L' + 1) scope.names []) cells → Below A base (env :: outer) g → K.In g → Top p loose mean mg mb g →
      wpAny (model prog w) (A.deeper (envOfC qual scope L' f cdv)) (execs body (envOfC qual scope L' f cdv))
        (fun fl s' => LeaveK h₀ L m g (fun r s' => News h₀ L s'.heap news → R r s') (match fl with | .ret v => v | _ => .none) s')
        (fun e s' => wpAny (model prog w) (A.deeper (envOfC qual scope L' f cdv)) (leaving (envOfC qual scope L' f cdv) e) (fun _ s'' => R (.error e) s'') (fun e' s'' => R (.error e') s'') s')
        { s with heap := h₁, toks := tk })
    (hco : scope.isCoroutine = false) (hgen : scope.isGenerator = false) (hk : scope.kind = .function) : codeAny (model prog w) A (.call (.ref f) args) R s := by
  obtain ⟨FG, BG, st, lv⟩ := groundX (R := R) B F (News.nil (h₀ := h₀) (L := L)) hA hf hke
  have X := X₀.keeps F.keep
  refine codeAny_call_function (fd := fnX name qual params body scope [] dV kV doc pm an cdv ct) hroom (X _ _ ho) rfl hco hgen rfl (codeRec_of X hcd) (hbind _ _ _ _ ?_)
  refine wpAny_newFunctionEnv_cells hk (kindsX hkind _) fun env' he s' x => ?_
  subst he
  refine ⟨(T.nolimit.keeps F.keep).keeps x.toInCall.keep, codeAny_func ?_⟩
  obtain ⟨h₁, tk, rfl, _⟩ := x.done
  have hk₁ := x.toInCall.keep
  obtain ⟨cells, NC, Y⟩ := Cl.news (h₀ := s.heap) (Nat.le_refl _) fun n c hm => ⟨x.cell n c (lookup_of_mem_nodup (cellsFrom_names scope.names 0 (s.heap.objs.size + 1) [] [] rfl ▸ hnd) hm), x.above n c hm⟩
  exact wpAny_mono (h s.heap s.heap.objs.size h₁ tk cells rfl (fun p hp => Heap.lt_size (N p hp).1) FG ⟨x.toInCall.ns, fun b o e => hk₁ b o e, Nat.le_refl _⟩ NC Y BG (X₀.keeps st) (T.keeps st))
    (fun fl s' hl => lv _ _ (leaveP N rfl hl)) fun _ _ y => y
end

/-- a contract of a def that turns nothing of the caller's; Pre speaks of the heap at the call (and what is newest) -/
abbrev PuP (prog : Program) (w : World) (K : Frag) (p : Program) (loose : List Str) (mean : ExcName → Option Value) (mg mb : Str → Option Value) (fa : Addr) (args : List Value) (bd : Nat) (Pre : Heap → Prop) (Post : Value → List (Addr × Obj) → Prop) : Prop :=
  ∀ (dp un : Nat) (gd : Option (List Code)) (cn : Str) (cs : Scope) (a : Addr) (ccd : Value) (cl : List (Str × Addr)) (outer : List Env) (A₀ : Around) (base h₀ : Heap) (L : Addr) (m : Str → Option Value) (s : Shared) (Q E : Value → Shared → Prop)
    (news : List (Addr × Obj)),
    Below A₀ base outer h₀ → Fr h₀ L s.heap m → K.In h₀ → News h₀ L s.heap news → Top p loose mean mg mb h₀ → cs.kind = .function →
    Pre s.heap → dp + bd < recursionLimit → un + 10 * bd < cLine →
    (∀ v tl h' tk', Post v tl → (∀ q ∈ tl, ∀ p ∈ news, p.1 < q.1) → Fr h₀ L h' m → News h₀ L h' (tl ++ news) → Q v { s with heap := h', toks := tk' }) →
    wpAny (model prog w) (ktrTop dp un gd cn cs L a ccd cl outer) (call (.ref fa) args) Q E s

section
variable {prog : Program} {w : World} {K : Frag} {p : Program} {loose : List Str} {mean : ExcName → Option Value} {mg mb : Str → Option Value} {fa : Addr}
  {dp un : Nat} {gd : Option (List Code)} {cn : Str} {cs : Scope} {a : Addr} {ccd : Value} {cl : List (Str × Addr)} {outer : List Env} {A₀ : Around} {base h₀ : Heap} {L : Addr} {m : Str → Option Value} {s : Shared} {Q E : Value → Shared → Prop}
theorem PuP.use {args : List Value} {bd : Nat} {Pre : Heap → Prop} {Post : Value → List (Addr × Obj) → Prop} {news : List (Addr × Obj)}
    (H : PuP prog w K p loose mean mg mb fa args bd Pre Post)
    (B : Below A₀ base outer h₀) (F : Fr h₀ L s.heap m) (X : K.In h₀) (N : News h₀ L s.heap news) (T : Top p loose mean mg mb h₀) (hk : cs.kind = .function) (hp : Pre s.heap) (hd : dp + bd < recursionLimit) (hu : un + 10 * bd < cLine)
    (ret : ∀ v tl h' tk', Post v tl → (∀ q ∈ tl, ∀ p ∈ news, p.1 < q.1) → Fr h₀ L h' m → News h₀ L h' (tl ++ news) → Q v { s with heap := h', toks := tk' }) :
    wpAny (model prog w) (ktrTop dp un gd cn cs L a ccd cl outer) (call (.ref fa) args) Q E s :=
  H dp un gd cn cs a ccd cl outer A₀ base h₀ L m s Q E news B F X N T hk hp hd hu ret
/-- what a contract hands back: its own objects ahead of the caller's -/
theorem news_app {h : Heap} {tl news full : List (Addr × Obj)} (N : News h₀ L h full) (M : News h₀ L h news) (hs : ∀ p ∈ tl, p ∈ full) : News h₀ L h (tl ++ news) := fun q hq => by
  rcases List.mem_append.mp hq with h | h
  · exact N q (hs q h)
  · exact M q h
theorem above_news {L' : Addr} {tl news : List (Addr × Obj)} (h : ∀ p ∈ news, p.1 < L') (k : ∀ q ∈ tl, L' < q.1) : ∀ q ∈ tl, ∀ p ∈ news, p.1 < q.1 := fun q hq p hp => Nat.lt_trans (h p hp) (k q hq)
end
theorem PuP.post {prog : Program} {w : World} {K : Frag} {p : Program} {loose : List Str} {mean : ExcName → Option Value} {mg mb : Str → Option Value} {fa : Addr} {args : List Value} {bd : Nat} {Pre : Heap → Prop} {Post Post' : Value → List (Addr × Obj) → Prop}
    (H : PuP prog w K p loose mean mg mb fa args bd Pre Post) (h : ∀ v tl, Post v tl → Post' v tl) : PuP prog w K p loose mean mg mb fa args bd Pre Post' :=
  fun dp un gd cn cs a ccd cl outer A₀ base h₀ L m s Q E news B F X N T hk hp hd hu ret =>
    H dp un gd cn cs a ccd cl outer A₀ base h₀ L m s Q E news B F X N T hk hp hd hu fun v tl h' tk' q => ret v tl h' tk' (h v tl q)
theorem PuC.post {prog : Program} {w : World} {K : Frag} {p : Program} {loose : List Str} {mean : ExcName → Option Value} {mg mb : Str → Option Value} {fa : Addr} {args : List Value} {bd : Nat} {Pre : Heap → List (Addr × Obj) → Prop} {Post Post' : Value → List (Addr × Obj) → Prop}
    (H : PuC prog w K p loose mean mg mb fa args bd Pre Post) (h : ∀ v tl, Post v tl → Post' v tl) : PuC prog w K p loose mean mg mb fa args bd Pre Post' :=
  fun dp un gd cn cs a ccd cl outer A₀ base h₀ L m s Q E news B F X N T hk hp hd hu ret =>
    H dp un gd cn cs a ccd cl outer A₀ base h₀ L m s Q E news B F X N T hk hp hd hu fun v tl h' tk' q => ret v tl h' tk' (h v tl q)
theorem Bd.lit {x : Int} (h0 : 0 ≤ x) (h1 : x < 1073741824) : Bd 30 x := ⟨h0, h1⟩
theorem Bd.mul {k l : Nat} {x y : Int} (h : Bd k x) (g : Bd l y) : Bd (k + l) (x * y) := by
  refine ⟨Int.mul_nonneg h.1 g.1, ?_⟩
  rw [Int.pow_add]
  have h1 := h.2; have h2 := g.2
  have a := Int.mul_le_mul_of_nonneg_left (Int.le_of_lt h2) h.1
  have b : x * 2 ^ l < 2 ^ k * 2 ^ l := Int.mul_lt_mul_of_pos_right h1 (Int.pow_pos (by decide))
  omega
theorem Bd.add {k l : Nat} {x y : Int} (h : Bd k x) (g : Bd l y) : Bd (k + l + 1) (x + y) := by
  have h1 := h.mono (Nat.le_add_right k l)
  have g1 := g.mono (Nat.le_add_left l k)
  refine ⟨Int.add_nonneg h.1 g.1, ?_⟩
  have a := h1.2; have b := g1.2
  rw [Int.pow_succ]
  omega
theorem mul_bd {prog : Program} {w : World} {A : Around} {E : Value → Shared → Prop} {s : Shared} {k l : Nat} {a b : Int} {t u : Tok} {Q : Value → Shared → Prop} (ha : Bd k a) (hb : Bd l b) (hk : k + l ≤ 1000000)
    (h : ∀ z, z = a * b → Bd (k + l) z → Q (.int z s.toks) { s with toks := s.toks + 1 }) : wpAny (model prog w) A (binaryOp .Mult (.int a t) (.int b u)) Q E s :=
  mul_int (h _ rfl (ha.mul hb)) (mulOk ha.sbd hb.sbd hk)
end

section
open PySem.Calls
section
variable {prog : Program} {w : World} {A A₀ : Around} {s : Shared} {K : Frag} {L : Addr} {h₀ base : Heap} {m mg mb : Str → Option Value} {news : List (Addr × Obj)} {p : Program} {loose : List Str} {mean : ExcName → Option Value}
theorem mem_oneF {env : Env} {b : Addr} (hf : env.frame = some L) (h : b ∈ [env].filterMap (·.frame)) : b = L := by
  obtain ⟨e, he, hb⟩ := List.mem_filterMap.mp h
  rw [List.mem_singleton.mp he, hf] at hb
  exact (Option.some.inj hb).symm
/-- a def that catches, called by the law itself: its ledger begins empty -/
theorem code_defTP {env : Env} {R : Result → Shared → Prop} {name qual : Str} {params : Arguments} {body : List Stmt} {scope : Scope} {dV kV doc pm cdv ct oc : Value} {an od : Option Addr} {osl : Array (Option Value)} {f : Addr} {args : Args} {binds : List (Str × Value)}
    (B : Below A₀ base [] h₀) (F : Fr h₀ L s.heap m) (X₀ : K.In h₀) (N : News h₀ L s.heap news) (T : Top p loose mean mg mb h₀) (hA : A.frames = some [env]) (hf : env.frame = some L) (hke : env.scope.kind = .function)
    (ho : K.lookup f = some ⟨oc, od, .func (fnOf name qual params body scope dV kV doc pm an cdv ct), osl⟩) (hcd : codeIn K cdv qual = true) (hroom : A.depth < recursionLimit)
    (hbind : BindsTo s (fnOf name qual params body scope dV kV doc pm an cdv ct) args binds) (hloc : ∀ y ∈ binds, scope.names.lookup y.1 = some .local)
    (h : ∀ g L' h₁, g = s.heap → (∀ p ∈ news, p.1 < L') → Fr h₀ L g m → Fr g L' h₁ (fun y => binds.reverse.lookup y) → News g L' h₁ [] → Below A base [env] g → K.In g → Top p loose mean mg mb g → KtsDicts ([env].filterMap (·.frame)) g →
      wpAny (model prog w) (A.deeper (envOf qual scope L' f cdv)) (execs body (envOf qual scope L' f cdv))
        (fun fl s' => LeaveS0 ([env].filterMap (·.frame)) h₀ L m g (fun r s' => News h₀ L s'.heap news → R r s') (match fl with | .ret v => v | _ => .none) s')
        (fun e s' => wpAny (model prog w) (A.deeper (envOf qual scope L' f cdv)) (leaving (envOf qual scope L' f cdv) e) (fun _ s'' => R (.error e) s'') (fun e' s'' => R (.error e') s'') s')
        { s with heap := h₁, toks := s.toks + binds.length })
    (hco : scope.isCoroutine = false) (hgen : scope.isGenerator = false) (hk : scope.kind = .function)
    (hcell : ∀ x ∈ scope.names, x.2 ≠ .cell) : codeAny (model prog w) A (.call (.ref f) args) R s := by
  have X := X₀.keeps F.keep
  obtain ⟨FG, BG, st, lv⟩ := groundX (R := R) B F (News.nil (h₀ := h₀) (L := L)) hA hf hke
  refine codeAny_call_def (fd := fnOf name qual params body scope dV kV doc pm an cdv ct) (body := body) (binds := binds) hroom (X _ _ ho) rfl (T.nolimit.keeps F.keep) (codeRec_of X hcd) rfl hbind hcell hloc (fun h₁ hns hk₁ => ?_) hco hgen hk
  obtain ⟨oL, es, ep, hL, hLd, hLk, hLf⟩ := F.ns
  have hNs : ∀ (sl : Array (Option Value)) h', h'.get? L = some { oL with slots := sl } → Heap.Ns h' L m := fun sl h' e => ⟨_, es, ep, e, hLd, hLk, hLf⟩
  refine wpAny_mono (h s.heap s.heap.objs.size h₁ rfl (fun p hp => Heap.lt_size (N p hp).1) FG ⟨hns, fun b o e => hk₁ b o e, Nat.le_refl _⟩ News.nil BG (X₀.keeps st) (T.keeps st) (fun b hb => by
      rw [mem_oneF hf hb]; exact ⟨oL, es, ep, hL, hLd⟩)) (fun fl s' hl => ?_) fun _ _ y => y
  obtain ⟨g', L', m', news', T', F', N', k⟩ := hl
  have nL₀ : h₀.get? L = none := kts_self F
  obtain ⟨sl, hs⟩ := T'.up hL
  refine k ⟨hNs sl _ (F'.keep _ _ hs), fun b o e => F'.keep b o (T'.other b o (st b o e) (fun q => by
    rw [mem_oneF hf q, nL₀] at e; cases e)), F.above⟩ (fun p hp => ⟨(N' p hp).1, fun q => ?_, ?_⟩) fun p hp => ⟨F'.keep _ _ (T'.other _ _ (N p hp).1 fun q => (N p hp).2.1 (mem_oneF hf q)), (N p hp).2⟩
  · have := (N' p hp).2.2; rw [q, hs] at this; cases this
  · cases q : h₀.get? p.1 with
    | none => rfl
    | some o =>
      obtain ⟨sl', hs'⟩ := T'.up (st _ _ q)
      have := (N' p hp).2.2
      rw [hs'] at this
      cases this
end

/-- a contract of a def that catches, called by the law itself -/
abbrev TrP (prog : Program) (w : World) (K : Frag) (p : Program) (loose : List Str) (mean : ExcName → Option Value) (mg mb : Str → Option Value) (fa : Addr) (args : List Value) (bd : Nat) (Pre : Heap → Prop) (Post : Value → List (Addr × Obj) → Prop) : Prop :=
  ∀ (dp un : Nat) (gd : Option (List Code)) (cn : Str) (cs : Scope) (a : Addr) (ccd : Value) (cl : List (Str × Addr)) (A₀ : Around) (base h₀ : Heap) (L : Addr) (m : Str → Option Value) (s : Shared) (Q E : Value → Shared → Prop)
    (news : List (Addr × Obj)),
    Below A₀ base [] h₀ → Fr h₀ L s.heap m → K.In h₀ → News h₀ L s.heap news → Top p loose mean mg mb h₀ → cs.kind = .function →
    K.In base → Top p loose mean mg mb base → Pre s.heap → dp + bd < recursionLimit → un + 10 * bd < cLine →
    (∀ v tl h' tk', Post v tl → (∀ q ∈ tl, ∀ p ∈ news, p.1 ≠ q.1) → Fr h₀ L h' m → News h₀ L h' (tl ++ news) → Q v { s with heap := h', toks := tk' }) →
    wpAny (model prog w) (ktrTop dp un gd cn cs L a ccd cl []) (call (.ref fa) args) Q E s
section
variable {prog : Program} {w : World} {K : Frag} {p : Program} {loose : List Str} {mean : ExcName → Option Value} {mg mb : Str → Option Value} {fa : Addr}
  {dp un : Nat} {gd : Option (List Code)} {cn : Str} {cs : Scope} {a : Addr} {ccd : Value} {cl : List (Str × Addr)} {A₀ : Around} {base h₀ : Heap} {L : Addr} {m : Str → Option Value} {s : Shared} {Q E : Value → Shared → Prop}
theorem TrP.use {args : List Value} {bd : Nat} {Pre : Heap → Prop} {Post : Value → List (Addr × Obj) → Prop} {news : List (Addr × Obj)}
    (H : TrP prog w K p loose mean mg mb fa args bd Pre Post)
    (B : Below A₀ base [] h₀) (F : Fr h₀ L s.heap m) (X : K.In h₀) (N : News h₀ L s.heap news) (T : Top p loose mean mg mb h₀) (hk : cs.kind = .function) (XB : K.In base) (TB : Top p loose mean mg mb base) (hp : Pre s.heap) (hd : dp + bd < recursionLimit) (hu : un + 10 * bd < cLine)
    (ret : ∀ v tl h' tk', Post v tl → (∀ q ∈ tl, ∀ p ∈ news, p.1 ≠ q.1) → Fr h₀ L h' m → News h₀ L h' (tl ++ news) → Q v { s with heap := h', toks := tk' }) :
    wpAny (model prog w) (ktrTop dp un gd cn cs L a ccd cl []) (call (.ref fa) args) Q E s :=
  H dp un gd cn cs a ccd cl A₀ base h₀ L m s Q E news B F X N T hk XB TB hp hd hu ret
end

/-- as PuP; the objects handed back are other ones than the caller's -/
abbrev PuN (prog : Program) (w : World) (K : Frag) (p : Program) (loose : List Str) (mean : ExcName → Option Value) (mg mb : Str → Option Value) (fa : Addr) (args : List Value) (bd : Nat) (Pre : Heap → Prop) (Post : Value → List (Addr × Obj) → Prop) : Prop :=
  ∀ (dp un : Nat) (gd : Option (List Code)) (cn : Str) (cs : Scope) (a : Addr) (ccd : Value) (cl : List (Str × Addr)) (outer : List Env) (A₀ : Around) (base h₀ : Heap) (L : Addr) (m : Str → Option Value) (s : Shared) (Q E : Value → Shared → Prop)
    (news : List (Addr × Obj)),
    Below A₀ base outer h₀ → Fr h₀ L s.heap m → K.In h₀ → News h₀ L s.heap news → Top p loose mean mg mb h₀ → cs.kind = .function →
    Pre s.heap → dp + bd < recursionLimit → un + 10 * bd < cLine →
    (∀ v tl h' tk', Post v tl → (∀ q ∈ tl, ∀ p ∈ news, p.1 ≠ q.1) → Fr h₀ L h' m → News h₀ L h' (tl ++ news) → Q v { s with heap := h', toks := tk' }) →
    wpAny (model prog w) (ktrTop dp un gd cn cs L a ccd cl outer) (call (.ref fa) args) Q E s
section
variable {prog : Program} {w : World} {K : Frag} {p : Program} {loose : List Str} {mean : ExcName → Option Value} {mg mb : Str → Option Value} {fa : Addr}
  {dp un : Nat} {gd : Option (List Code)} {cn : Str} {cs : Scope} {a : Addr} {ccd : Value} {cl : List (Str × Addr)} {outer : List Env} {A₀ : Around} {base h₀ : Heap} {L : Addr} {m : Str → Option Value} {s : Shared} {Q E : Value → Shared → Prop}
theorem PuN.use {args : List Value} {bd : Nat} {Pre : Heap → Prop} {Post : Value → List (Addr × Obj) → Prop} {news : List (Addr × Obj)}
    (H : PuN prog w K p loose mean mg mb fa args bd Pre Post)
    (B : Below A₀ base outer h₀) (F : Fr h₀ L s.heap m) (X : K.In h₀) (N : News h₀ L s.heap news) (T : Top p loose mean mg mb h₀) (hk : cs.kind = .function) (hp : Pre s.heap) (hd : dp + bd < recursionLimit) (hu : un + 10 * bd < cLine)
    (ret : ∀ v tl h' tk', Post v tl → (∀ q ∈ tl, ∀ p ∈ news, p.1 ≠ q.1) → Fr h₀ L h' m → News h₀ L h' (tl ++ news) → Q v { s with heap := h', toks := tk' }) :
    wpAny (model prog w) (ktrTop dp un gd cn cs L a ccd cl outer) (call (.ref fa) args) Q E s :=
  H dp un gd cn cs a ccd cl outer A₀ base h₀ L m s Q E news B F X N T hk hp hd hu ret
/-- what is new to the callee is none of the caller's -/
theorem apart {g h' hs : Heap} {L' : Addr} {tl news full : List (Addr × Obj)} (N' : News g L' h' full) (e : g = hs) (N : News h₀ L hs news) (k : ∀ q ∈ tl, q ∈ full) : ∀ q ∈ tl, ∀ p ∈ news, p.1 ≠ q.1 := by
  subst e
  intro q hq p hp h
  have h1 := (N' q (k q hq)).2.2
  have h2 := (N p hp).1
  rw [h, h1] at h2
  cases h2
theorem PuN.post {args : List Value} {bd : Nat} {Pre : Heap → Prop} {Post Post' : Value → List (Addr × Obj) → Prop}
    (H : PuN prog w K p loose mean mg mb fa args bd Pre Post) (h : ∀ v tl, Post v tl → Post' v tl) : PuN prog w K p loose mean mg mb fa args bd Pre Post' :=
  fun dp un gd cn cs a ccd cl outer A₀ base h₀ L m s Q E news B F X N T hk hp hd hu ret =>
    H dp un gd cn cs a ccd cl outer A₀ base h₀ L m s Q E news B F X N T hk hp hd hu fun v tl h' tk' q => ret v tl h' tk' (h v tl q)
end
theorem news_one {h₀ h : Heap} {L : Addr} {a : Addr × Obj} {l news : List (Addr × Obj)} (N : News h₀ L h (a :: l)) (M : News h₀ L h news) : News h₀ L h ([a] ++ news) :=
  news_app N M (by intro q hq; rw [List.mem_singleton.mp hq]; exact List.mem_cons_self)
theorem news_two {h₀ h : Heap} {L : Addr} {a b : Addr × Obj} {l news : List (Addr × Obj)} (N : News h₀ L h (a :: b :: l)) (M : News h₀ L h news) : News h₀ L h ([a, b] ++ news) :=
  news_app N M (List.forall_mem_cons.mpr ⟨List.mem_cons_self, List.forall_mem_cons.mpr ⟨List.mem_cons_of_mem _ List.mem_cons_self, List.forall_mem_nil _⟩⟩)
theorem apart_one {g h' hs h₀ : Heap} {L L' : Addr} {a : Addr × Obj} {l news : List (Addr × Obj)} (N' : News g L' h' (a :: l)) (e : g = hs) (N : News h₀ L hs news) : ∀ q ∈ [a], ∀ p ∈ news, p.1 ≠ q.1 :=
  apart N' e N (by intro q hq; rw [List.mem_singleton.mp hq]; exact List.mem_cons_self)
theorem apart_two {g h' hs h₀ : Heap} {L L' : Addr} {a b : Addr × Obj} {l news : List (Addr × Obj)} (N' : News g L' h' (a :: b :: l)) (e : g = hs) (N : News h₀ L hs news) : ∀ q ∈ [a, b], ∀ p ∈ news, p.1 ≠ q.1 :=
  apart N' e N (List.forall_mem_cons.mpr ⟨List.mem_cons_self, List.forall_mem_cons.mpr ⟨List.mem_cons_of_mem _ List.mem_cons_self, List.forall_mem_nil _⟩⟩)
section
variable {prog : Program} {w : World} {A : Around} {E : Value → Shared → Prop} {s : Shared} {env : Env} {h₀ : Heap} {x : Str} {body : List Stmt} {Q : Flow → Shared → Prop}
/-- as j_range; the names of ps1 stand behind the first turn only -/
theorem j_range2 {σ : Type} {r : Addr} {a₀ b₀ : Int} {t₀ u₀ v₀ : Tok} {n : Nat} {m₀ : Str → Option Value} (Led : σ → List (Addr × Obj)) (ps ps1 : σ → List (Str × Value)) (stored : List Str) (P : Nat → σ → Prop) (c₀ : σ)
    (hsub : ∀ c, ∀ p ∈ ps1 c, stored.contains p.1 = true) (hnn : 0 < n) (hh : A.handled = none) (hr : IsRange s.heap r a₀ b₀ 1 t₀ u₀ v₀) (hsmall : Builtin.Range.small a₀ b₀ 1 = true) (hn : Builtin.Range.rangeSize a₀ b₀ 1 = (n : Int)) (F : Fr h₀ env.locals s.heap m₀) (N : News h₀ env.locals s.heap (Led c₀)) (hk : ∀ p ∈ ps c₀, m₀ p.1 = some p.2) (hp : P 0 c₀)
    (turn : ∀ (c : σ) (i : Nat) (k : Int) t (u : Str → Option Value) h tk I oI, k = a₀ + (i : Int) → i < n → P i c → (∀ p ∈ Led c, p.1 ≠ I) →
      Fr h₀ env.locals h (fun y => if y = x then some (.int k t) else kstB (fun z => if stored.contains z then u z else m₀ z) (ps c) y) → News h₀ env.locals h ((I, oI) :: Led c) →
      wpAny (model prog w) A (execs body env) (JPost h₀ env.locals s x Led (fun c => ps c ++ ps1 c) stored m₀ (P (i + 1)) I oI Q) E { s with heap := h, toks := tk })
    (done : ∀ (c : σ) (u : Str → Option Value) h tk, P n c → Fr h₀ env.locals h (fun y => if y = x then u y else kstB (fun z => if stored.contains z then u z else m₀ z) (ps c ++ ps1 c) y) → News h₀ env.locals h (Led c) → Q .next { s with heap := h, toks := tk }) :
    wpAny (model prog w) A (pyIter (.ref r)) (fun it s₂ => LoopAtV prog w A h₀ env x body Q E it s₂) E s := by
  refine wpAny_pyIter_range hr hsmall ?_
  have W : Walks prog w A s.heap.objs.size [s.heap.objs.size] [s.heap.objs.size] n (fun i v => i < n ∧ ∃ t, v = .int (a₀ + i * 1) t)
      (fun i h => IsRangeIter h s.heap.objs.size (a₀ + (i : Nat) * 1) ((n : Int) - (i : Nat)) 1) := (Walks.range hh _ a₀ 1 n).bound
  let J : Nat → (Str → Option Value) → List (Addr × Obj) → Prop := fun i m nx => ∃ c : σ, nx = Led c ∧ (∀ p ∈ ps c, m p.1 = some p.2) ∧ (i = 0 ∨ ∀ p ∈ ps1 c, m p.1 = some p.2) ∧ (∀ z, z ≠ x → (∀ p ∈ ps c, z ≠ p.1) → stored.contains z = false → m z = m₀ z) ∧ P i c
  refine ⟨_, _, _, n, _, _, m₀, Led c₀, J, rfl, W, ?_, ?_, ?_, (by show IsRangeIter _ _ _ _ _; rw [hn]; simpa using Heap.get?_push_size _ rfl), F.push _, (fun p hp => ⟨Heap.get?_push_of_some _ (N p hp).1, (N p hp).2⟩), ⟨c₀, rfl, hk, .inl rfl, fun _ _ _ _ => rfl, hp⟩, ?_, ?_⟩
  · intro hm
    exact absurd F.ns.lt ((List.mem_singleton.mp hm) ▸ Nat.lt_irrefl _)
  · intro b hb
    rw [List.mem_singleton.mp hb]
    exact next_is_new F
  · intro p hp hI
    exact absurd (Heap.lt_size (N p hp).1) ((List.mem_singleton.mp hI) ▸ Nat.lt_irrefl _)
  · rintro i v m₁ news₁ s₁ own ⟨hh', tk', rfl⟩ hin ⟨_, t, rfl⟩ ⟨c, rfl, h1, _, h2, hP⟩ hoff hown hget hfp hst F₁ N₁
    have hI0 : h₀.get? s.heap.objs.size = none := next_is_new F
    obtain ⟨oI, hoI⟩ : ∃ o, hh'.get? s.heap.objs.size = some o := ⟨_, hst⟩
    have hIown := hfp _ (List.mem_singleton.mpr rfl) hI0 _ hoI
    have e1 : a₀ + (i : Int) * 1 = a₀ + (i : Int) := by omega
    rw [e1] at F₁
    refine wpAny_mono (turn c i _ t m₁ hh' tk' s.heap.objs.size oI rfl hin hP (fun p hp e => hoff p hp (List.mem_singleton.mpr e)) (kst_fr h1 h2 F₁) (fun p hp => ?_)) (fun f s₂ q => ?_) fun _ _ e => e
    · rcases List.mem_cons.mp hp with rfl | hp
      · exact N₁ _ (List.mem_append.mpr (.inl hIown))
      · exact N₁ _ (List.mem_append.mpr (.inr hp))
    · have fin : JEnd h₀ env.locals s x Led (fun c => ps c ++ ps1 c) stored m₀ (P (i + 1)) s.heap.objs.size oI s₂ → LoopStepU h₀ env.locals [s.heap.objs.size] own (J (i + 1)) { s with heap := hh', toks := tk' } .next s₂ := by
        rintro ⟨c', h', tk, m', news', e, F', N', hn', hi', ha', hk', hr', hp'⟩
        refine ⟨rfl, h', tk, m', Led c', e, F', fun p hp => ?_, fun p hp hq => ha' p hp (List.mem_singleton.mp hq), c', rfl, (fun p hp => hk' p (List.mem_append_left _ hp)), .inr (fun p hp => hk' p (List.mem_append_right _ hp)), (fun z h1 h2 h3 => hr' z h1 (fun p hp => by
          rcases List.mem_append.mp hp with q | q
          · exact h2 p q
          · intro e; rw [e, hsub c' p q] at h3; cases h3) h3), hp'⟩
        rcases List.mem_append.mp hp with h | h
        · have h1 : p.1 = s.heap.objs.size := List.mem_singleton.mp (hown p h)
          have h2 := hget p h
          have h3 : hh'.get? p.1 = some p.2 := h2
          rw [h1] at h3
          rw [show p = (s.heap.objs.size, oI) from Prod.ext h1 (Option.some.inj (h3.symm.trans hoI))]
          exact N' _ hi'
        · exact N' p (hn' p h)
      cases f with
      | ret v => exact .ret q
      | brk => exact .brk q
      | next => exact .next (fin q)
      | cont => exact .cont (fin q)
  · rintro h' tk m' news' F' N' _ ⟨c, rfl, h1, h1', h2, hP⟩
    have h1'' := h1'.resolve_left (by omega)
    exact done c m' h' tk hP (kst_frOut (fun p hp => by rcases List.mem_append.mp hp with q | q; (· exact h1 p q); (· exact h1'' p q)) (fun z a b c => h2 z a (fun p hp => b p (List.mem_append_left _ hp)) c) F') N'
end
end

section
open PySem.Calls
section
variable {prog : Program} {w : World} {A A₀ : Around} {s : Shared} {K : Frag} {L : Addr} {h₀ base : Heap} {m mg mb : Str → Option Value} {news rest : List (Addr × Obj)} {p : Program} {loose : List Str} {mean : ExcName → Option Value}
theorem rest_stay {g h' : Heap} (N : News h₀ L s.heap rest) (e : g = hideAll s.heap (news.map (·.1))) (off : ∀ p ∈ rest, p.1 ∉ news.map (·.1)) (k : ∀ b o, g.get? b = some o → h'.get? b = some o) : News h₀ L h' rest := by
  subst e
  exact fun q hq => ⟨k _ _ (hideAll_get _ (N q hq).1 (off q hq)), (N q hq).2⟩
theorem leaveSP {g : Heap} {R : Result → Shared → Prop} {v : Value} {s' : Shared} (N : News h₀ L s.heap rest) (e : g = hideAll s.heap (news.map (·.1))) (off : ∀ p ∈ rest, p.1 ∉ news.map (·.1))
    (h : LeaveK h₀ L m g (fun r s' => News h₀ L s'.heap rest → R r s') v s') : LeaveK h₀ L m g R v s' := by
  obtain ⟨L', m', news', F', N', k⟩ := h
  exact ⟨L', m', news', F', N', fun a b => k a b (rest_stay N e off F'.keep)⟩
/-- of the caller's objects the callee turns news alone -/
theorem code_defSP {env : Env} {outer : List Env} {R : Result → Shared → Prop} {name qual : Str} {params : Arguments} {body : List Stmt} {scope : Scope} {dV kV doc pm cdv ct oc : Value} {an od : Option Addr} {osl : Array (Option Value)} {f : Addr} {args : Args} {binds : List (Str × Value)}
    (B : Below A₀ base outer h₀) (F : Fr h₀ L s.heap m) (X₀ : K.In h₀) (N : News h₀ L s.heap news) (N2 : News h₀ L s.heap rest) (off : ∀ p ∈ rest, p.1 ∉ news.map (·.1)) (T : Top p loose mean mg mb h₀) (hA : A.frames = some (env :: outer)) (hf : env.frame = some L) (hke : env.scope.kind = .function)
    (ho : K.lookup f = some ⟨oc, od, .func (fnOf name qual params body scope dV kV doc pm an cdv ct), osl⟩) (hcd : codeIn K cdv qual = true) (hroom : A.depth < recursionLimit)
    (hbind : BindsTo s (fnOf name qual params body scope dV kV doc pm an cdv ct) args binds) (hloc : ∀ y ∈ binds, scope.names.lookup y.1 = some .local)
    (h : ∀ g L' h₁, g = hideAll s.heap (news.map (·.1)) → (∀ p ∈ news, p.1 < L') → Fr h₀ L g m → Fr g L' h₁ (fun y => binds.reverse.lookup y) → News g L' h₁ news → Below A base (env :: outer) g → K.In g → Top p loose mean mg mb g →
      wpAny (model prog w) (A.deeper (envOf qual scope L' f cdv)) (execs body (envOf qual scope L' f cdv))
        (fun fl s' => LeaveK h₀ L m g (fun r s' => News h₀ L s'.heap rest → R r s') (match fl with | .ret v => v | _ => .none) s')
        (fun e s' => wpAny (model prog w) (A.deeper (envOf qual scope L' f cdv)) (leaving (envOf qual scope L' f cdv) e) (fun _ s'' => R (.error e) s'') (fun e' s'' => R (.error e') s'') s')
        { s with heap := h₁, toks := s.toks + binds.length })
    (hco : scope.isCoroutine = false) (hgen : scope.isGenerator = false) (hk : scope.kind = .function)
    (hcell : ∀ x ∈ scope.names, x.2 ≠ .cell) : codeAny (model prog w) A (.call (.ref f) args) R s := by
  obtain ⟨FG, BG, st, lv⟩ := groundX (R := R) B F N hA hf hke
  have X := X₀.keeps F.keep
  refine codeAny_call_def (fd := fnOf name qual params body scope dV kV doc pm an cdv ct) (body := body) (binds := binds) hroom (X _ _ ho) rfl (T.nolimit.keeps F.keep) (codeRec_of X hcd) rfl hbind hcell hloc (fun h₁ hns hk₁ => ?_) hco hgen hk
  exact wpAny_mono (h _ s.heap.objs.size h₁ rfl (fun p hp => Heap.lt_size (N p hp).1) FG ⟨hns, fun b o e => hk₁ b o (of_hideAll _ e), Nat.le_of_eq (hideAll_size _ _)⟩ (fun p hp => ⟨hk₁ _ _ (N p hp).1, Nat.ne_of_lt (Heap.lt_size (N p hp).1), hideAll_none _ (List.mem_map_of_mem hp)⟩) BG (X₀.keeps st) (T.keeps st))
    (fun fl s' hl => lv _ _ (leaveSP N2 rfl off hl)) fun _ _ y => y
theorem code_defSCP {env : Env} {outer : List Env} {R : Result → Shared → Prop} {name qual : Str} {params : Arguments} {body : List Stmt} {scope : Scope} {dV kV doc pm cdv ct oc : Value} {an od : Option Addr} {osl : Array (Option Value)} {f : Addr} {args : Args} {binds : List (Str × Value)}
    (B : Below A₀ base outer h₀) (F : Fr h₀ L s.heap m) (X₀ : K.In h₀) (N : News h₀ L s.heap news) (N2 : News h₀ L s.heap rest) (off : ∀ p ∈ rest, p.1 ∉ news.map (·.1)) (T : Top p loose mean mg mb h₀) (hA : A.frames = some (env :: outer)) (hf : env.frame = some L) (hke : env.scope.kind = .function)
    (ho : K.lookup f = some ⟨oc, od, .func (fnOf name qual params body scope dV kV doc pm an cdv ct), osl⟩) (hcd : codeIn K cdv qual = true) (hroom : A.depth < recursionLimit)
    (hbind : BindsTo s (fnOf name qual params body scope dV kV doc pm an cdv ct) args binds) (hkind : (binds.all fun y => scope.names.lookup y.1 == some .local || scope.names.lookup y.1 == some .cell) = true)
    (hnd : ((cellsFrom 0 scope.names []).map (·.1)).Nodup)
    (h : ∀ g L' h₁ tk cells, g = hideAll s.heap (news.map (·.1)) → (∀ p ∈ news, p.1 < L') → Fr h₀ L g m → Fr g L' h₁ (bindL (envOfC qual scope L' f cdv).kindOf binds fun _ => none) → News g L' h₁ (cells ++ news) →
      CellsAre (bindC (envOfC qual scope L' f cdv).kindOf binds fun _ => none) (cellsFrom (L' + 1) scope.names []) cells → Below A base (env :: outer) g → K.In g → Top p loose mean mg mb g →
      wpAny (model prog w) (A.deeper (envOfC qual scope L' f cdv)) (execs body (envOfC qual scope L' f cdv))
        (fun fl s' => LeaveK h₀ L m g (fun r s' => News h₀ L s'.heap rest → R r s') (match fl with | .ret v => v | _ => .none) s')
        (fun e s' => wpAny (model prog w) (A.deeper (envOfC qual scope L' f cdv)) (leaving (envOfC qual scope L' f cdv) e) (fun _ s'' => R (.error e) s'') (fun e' s'' => R (.error e') s'') s')
        { s with heap := h₁, toks := tk })
    (hco : scope.isCoroutine = false) (hgen : scope.isGenerator = false) (hk : scope.kind = .function) : codeAny (model prog w) A (.call (.ref f) args) R s := by
  obtain ⟨FG, BG, st, lv⟩ := groundX (R := R) B F N hA hf hke
  have X := X₀.keeps F.keep
  refine codeAny_call_function (fd := fnX name qual params body scope [] dV kV doc pm an cdv ct) hroom (X _ _ ho) rfl hco hgen rfl (codeRec_of X hcd) (hbind _ _ _ _ ?_)
  refine wpAny_newFunctionEnv_cells hk (kindsX hkind _) fun env' he s' x => ?_
  subst he
  refine ⟨(T.nolimit.keeps F.keep).keeps x.toInCall.keep, codeAny_func ?_⟩
  obtain ⟨h₁, tk, rfl, _⟩ := x.done
  have hk₁ := x.toInCall.keep
  obtain ⟨cells, NC, Y⟩ := Cl.news (h₀ := s.heap) (Nat.le_refl _) fun n c hm => ⟨x.cell n c (lookup_of_mem_nodup (cellsFrom_names scope.names 0 (s.heap.objs.size + 1) [] [] rfl ▸ hnd) hm), x.above n c hm⟩
  refine wpAny_mono (h _ s.heap.objs.size h₁ tk cells rfl (fun p hp => Heap.lt_size (N p hp).1) FG ⟨x.toInCall.ns, fun b o e => hk₁ b o (of_hideAll _ e), Nat.le_of_eq (hideAll_size _ _)⟩ (fun p hp => ?_) Y BG (X₀.keeps st) (T.keeps st))
    (fun fl s' hl => lv _ _ (leaveSP N2 rfl off hl)) fun _ _ y => y
  rcases List.mem_append.mp hp with hp | hp
  · refine ⟨(NC p hp).1, (NC p hp).2.1, ?_⟩
    cases q : (hideAll s.heap (news.map (·.1))).get? p.1 with
    | none => rfl
    | some o => have := of_hideAll _ q; rw [(NC p hp).2.2] at this; cases this
  · exact ⟨hk₁ _ _ (N p hp).1, Nat.ne_of_lt (Heap.lt_size (N p hp).1), hideAll_none _ (List.mem_map_of_mem hp)⟩
end

/-- a contract of a def that turns the script's state, and hands back new objects -/
abbrev StP (prog : Program) (w : World) (K : Frag) (p : Program) (loose : List Str) (mean : ExcName → Option Value) (mg mb : Str → Option Value) (fa : Addr) (args : Addr → List Value) (bd : Nat) (Post : Value → List (Addr × Obj) → Prop) : Prop :=
  ∀ (dp un : Nat) (gd : Option (List Code)) (cn : Str) (cs : Scope) (a : Addr) (ccd : Value) (cl : List (Str × Addr)) (outer : List Env) (A₀ : Around) (base h₀ : Heap) (L : Addr) (m : Str → Option Value) (s : Shared) (Q E : Value → Shared → Prop)
    (st c : Addr) (i : Int) (ti : Tok) (vs : List Value) (n1 n2 : Nat) (rest : List (Addr × Obj)),
    Below A₀ base outer h₀ → Fr h₀ L s.heap m → K.In h₀ → News h₀ L s.heap [(st, listOf #[.int i ti, .ref c] n1), (c, listOf vs.toArray n2)] → News h₀ L s.heap rest → Top p loose mean mg mb h₀ → cs.kind = .function →
    @Ne Nat st c → (∀ p ∈ rest, p.1 ∉ [(st, listOf #[.int i ti, .ref c] n1), (c, listOf vs.toArray n2)].map (·.1)) → SW i vs → dp + bd < recursionLimit → un + 10 * bd < cLine →
    (∀ v tl i' ti' vs' n1' n2' h' tk', SW i' vs' → Post v tl → (∀ q ∈ tl, ∀ p ∈ rest, p.1 ≠ q.1) → (∀ q ∈ tl, @Ne Nat st q.1 ∧ @Ne Nat c q.1) → Fr h₀ L h' m → News h₀ L h' (tl ++ (st, listOf #[.int i' ti', .ref c] n1') :: (c, listOf vs'.toArray n2') :: rest) → Q v { s with heap := h', toks := tk' }) →
    wpAny (model prog w) (ktrTop dp un gd cn cs L a ccd cl outer) (call (.ref fa) (args st)) Q E s
section
variable {prog : Program} {w : World} {K : Frag} {p : Program} {loose : List Str} {mean : ExcName → Option Value} {mg mb : Str → Option Value} {fa : Addr}
  {dp un : Nat} {gd : Option (List Code)} {cn : Str} {cs : Scope} {a : Addr} {ccd : Value} {cl : List (Str × Addr)} {outer : List Env} {A₀ : Around} {base h₀ : Heap} {L : Addr} {m : Str → Option Value} {s : Shared} {Q E : Value → Shared → Prop}
theorem StP.use {args : Addr → List Value} {bd : Nat} {Post : Value → List (Addr × Obj) → Prop} {st c : Addr} {i : Int} {ti : Tok} {vs : List Value} {n1 n2 : Nat} {news : List (Addr × Obj)} {g1 : Obj → List (Addr × Obj)} {g2 : Obj → Obj → List (Addr × Obj)}
    (H : StP prog w K p loose mean mg mb fa args bd Post)
    (B : Below A₀ base outer h₀) (F : Fr h₀ L s.heap m) (X : K.In h₀) (N : News h₀ L s.heap news) (T : Top p loose mean mg mb h₀) (hk : cs.kind = .function)
    (U1 : UpdF st (listOf #[.int i ti, .ref c] n1) news g1) (U2 : ∀ o, UpdF c (listOf vs.toArray n2) (g1 o) (g2 o)) (hw : SW i vs) (hd : dp + bd < recursionLimit) (hu : un + 10 * bd < cLine)
    (ret : ∀ v tl i' ti' vs' n1' n2' h' tk', SW i' vs' → Post v tl → (∀ q ∈ tl, ∀ p ∈ news, p.1 ≠ q.1) → Fr h₀ L h' m → News h₀ L h' (tl ++ g2 (listOf #[.int i' ti', .ref c] n1') (listOf vs'.toArray n2')) → Q v { s with heap := h', toks := tk' }) :
    wpAny (model prog w) (ktrTop dp un gd cn cs L a ccd cl outer) (call (.ref fa) (args st)) Q E s := by
  have hst := (updF_here (o' := listOf #[.int i ti, .ref c] n1) U1).1
  obtain ⟨rest, hsc, hoff, h1, h2⟩ := two_canon U1 U2
  refine H dp un gd cn cs a ccd cl outer A₀ base h₀ L m s Q E st c i ti vs n1 n2 rest B F X (fun p hp => N p (h1 p ?_)) (fun p hp => N p (h1 p (List.mem_cons_of_mem _ (List.mem_cons_of_mem _ hp)))) T hk hsc (fun p hp hq => ?_) hw hd hu
    fun v tl i' ti' vs' n1' n2' h' tk' a1 a2 a3 a3' a4 a5 => ret v tl i' ti' vs' n1' n2' h' tk' a1 a2 (fun q hq p hp => ?_) a4 fun p hp => ?_
  · rcases List.mem_cons.mp hp with rfl | hp
    · exact List.mem_cons_self
    · rw [List.mem_singleton.mp hp]; exact List.mem_cons_of_mem _ List.mem_cons_self
  · obtain ⟨q, hq1, hq2⟩ := List.mem_map.mp hq
    rcases List.mem_cons.mp hq1 with rfl | hq1
    · exact hoff p hp st List.mem_cons_self hq2.symm
    · rw [List.mem_singleton.mp hq1] at hq2; exact hoff p hp c (List.mem_cons_of_mem _ List.mem_cons_self) hq2.symm
  · by_cases e1 : p.1 = st
    · rw [e1]; exact (a3' q hq).1
    · by_cases e2 : p.1 = c
      · rw [e2]; exact (a3' q hq).2
      · have hp' := h2 (listOf #[.int i ti, .ref c] n1) (listOf vs.toArray n2) p (updF_keeps (U2 _) p (updF_keeps U1 p hp e1) e2)
        rcases List.mem_cons.mp hp' with h | h
        · exact absurd (congrArg Prod.fst h) e1
        · rcases List.mem_cons.mp h with h | h
          · exact absurd (congrArg Prod.fst h) e2
          · exact a3 q hq p h
  · rcases List.mem_append.mp hp with h | h
    · exact a5 p (List.mem_append_left _ h)
    · exact a5 p (List.mem_append_right _ (h2 _ _ p h))
/-- what is new to the callee is none of the caller's that it did not turn -/
theorem apartS {g h' : Heap} {L' : Addr} {tl news rest full : List (Addr × Obj)} (N' : News g L' h' full) (e : g = hideAll s.heap (news.map (·.1))) (N : News h₀ L s.heap rest) (off : ∀ p ∈ rest, p.1 ∉ news.map (·.1)) (k : ∀ q ∈ tl, q ∈ full) : ∀ q ∈ tl, ∀ p ∈ rest, p.1 ≠ q.1 := by
  subst e
  intro q hq p hp h
  have h1 := (N' q (k q hq)).2.2
  have h2 := hideAll_get _ (N p hp).1 (off p hp)
  rw [h, h1] at h2
  cases h2
end

/-! ### a comprehension of any length, by what holds between the turns -/
theorem comp_inv {prog : Program} {w : World} {A : Around} {h₀ : Heap} {L : Addr} {m : Str → Option Value} {env : Env} {elt : Expr} {x : Str} {scope : Scope} {cl : List (Str × Addr)} {s : Shared} {S : List (Addr × Obj) → Prop} {P : Nat → Value → Prop}
    {Fin : List Value → List (Addr × Obj) → Prop} {n : Nat} {news : List (Addr × Obj)} (J : Nat → List Value → List (Addr × Obj) → Prop) (h0 : J 0 [] news)
    (step : ∀ i ys news v I oI C oC D m₂ h tk (E' : Value → Shared → Prop), i < n → J i ys news → P i v → LCg.NsObj oC m₂ → m₂ x = some v → Fr h₀ L h m → News h₀ L h ((I, oI) :: (C, oC) :: (D, LCg.lst ys) :: news) → LCg.Off3 I C D news → ((@Ne Nat I C) ∧ (@Ne Nat I D) ∧ (@Ne Nat C D)) →
      wpAny (model prog w) A (eval elt (compEnvC scope cl C env)) (LCg.CompEnd h₀ L m { s with heap := h, toks := tk } I oI C oC D (LCg.lst ys) S (fun y news' => J (i + 1) (ys ++ [y]) news')) E' { s with heap := h, toks := tk })
    (fin : ∀ ys news, J n ys news → Fin ys news) : LCg.CompRest prog w A h₀ L m env elt x scope cl s S P Fin n 0 [] news := by
  have key : ∀ k i ys news, i + k = n → J i ys news → LCg.CompRest prog w A h₀ L m env elt x scope cl s S P Fin k i ys news := by
    intro k
    induction k with
    | zero =>
      intro i ys news e hJ
      have e' : i = n := by omega
      subst e'
      exact LCg.CompRest.zero (fin _ _ hJ)
    | succ k ih =>
      intro i ys news e hJ
      refine LCg.CompRest.succ fun v I oI C oC D m₂ h tk E' hv hC hx F N off ne => ?_
      refine wpAny_mono (step i ys news v I oI C oC D m₂ h tk E' (by omega) hJ hv hC hx F N off ne) (fun y s₂ q => ?_) fun _ _ e => e
      obtain ⟨h', tk', news', e1, F', N', off', hS, hj⟩ := q
      exact ⟨h', tk', news', e1, F', N', off', hS, ih (i + 1) _ _ (by omega) hj⟩
  exact key n 0 [] news (by omega) h0
end

section
open PySem.Calls
set_option maxRecDepth 100000
/-! ### from_bytes, with signed=False, of any length -/
section
variable {prog : Program} {w : World} {M : Model} {A : Around} {E : Value → Shared → Prop} {s : Shared} {h₀ : Heap} {L : Addr} {news : List (Addr × Obj)}
theorem grown_any {n : Nat} {Q : Value → Shared → Prop} (hn : n < 2 ^ 1000000) (h : Q (.int (n : Int) s.toks) { s with toks := s.toks + 1 }) : wpAny M A (mkIntGrown (n : Int)) Q E s := by
  unfold mkIntGrown
  rw [Int.natAbs_natCast, if_neg ?_]
  · exact wpAny_mkInt h
  · have hb : bitsLine = 134217728 := by first | rfl | decide
    rw [hb]
    by_cases hz : n = 0
    · subst hz; decide
    · have h1 := (Nat.log2_lt hz).mpr hn
      omega
theorem tree_fb {b : Array UInt8} {t u : Tok} {P : Fin → Shared → Prop} (hl : b.size ≤ 10000) (h : P (.done (.ret (.int (KFB.value (KBw.bInts b)) s.toks))) { s with toks := s.toks + 1 }) :
    wpAny M A (Builtin.«int.from_bytes» ⟨[.type "int", .bytes b t, .str (PySem.Str.ofString "big") u], [(PySem.Str.ofString "signed", .bool false)]⟩) P E s := by
  have hv : ((b.toList.foldl (fun (acc : Nat) (b : UInt8) => acc * 256 + b.toNat) 0 : Nat) : Int) = KFB.value (KBw.bInts b) := KFB.fold_cast b.toList 0
  have hn : b.toList.foldl (fun (acc : Nat) (b : UInt8) => acc * 256 + b.toNat) 0 < 2 ^ 1000000 := by
    have h1 := KFB.fold_lt b.toList 0
    rw [Nat.zero_add, Nat.one_mul, Array.length_toList] at h1
    refine Nat.lt_of_lt_of_le h1 ?_
    rw [show (256 : Nat) = 2 ^ 8 from rfl, ← Nat.pow_mul]
    exact Nat.pow_le_pow_right (by decide) (by omega)
  unfold Builtin.«int.from_bytes»
  refine wpAny_bind (wpAny_of_eq (a := true) KFB.type_int ?_)
  refine KFB.if_not rfl ?_
  refine wpAny_bind (wpAny_of_eq (a := true) F.conv_sub_int ?_)
  refine KFB.if_not rfl ?_
  refine wpAny_bind (wpAny_of_eq (a := [some (.bytes b t), some (.str (PySem.Str.ofString "big") u), some (.bool false)]) (by kernel_rfl) ?_)
  refine wpAny_bind (wpAny_of_eq (a := PySem.Str.ofString "big") (by kernel_rfl) ?_)
  refine wpAny_bind (wpAny_of_eq (a := false) (by first | rfl | kernel_rfl) ?_)
  refine wpAny_bind (wpAny_of_eq (a := false) (by kernel_rfl) ?_)
  refine wpAny_bind (wpAny_of_eq (a := b) rfl ?_)
  show wpAny _ _ (mkIntGrown (b.toList.foldl (fun (acc : Int) (b : UInt8) => acc * 256 + (b.toNat : Int)) ((0 : Nat) : Int)) >>= fun v => _) _ _ _
  rw [KFB.foldI_eq]
  refine wpAny_bind (grown_any hn ?_)
  rw [hv]
  refine KFB.if_so (by decide +kernel) ?_
  exact wpAny_bind (wpAny_pure (wpAny_pure h))
theorem check_fb {b : Array UInt8} {t u : Tok} {o : PySem.Str} : checkBoundCall "int.from_bytes" ⟨[.type "int", .bytes b t, .str o u], [(PySem.Str.ofString "signed", .bool false)]⟩ = pure () := by first | kernel_rfl | rfl
theorem call_fb {x : Addr} {b : Array UInt8} {t u : Tok} {Q : Value → Shared → Prop} (N : News h₀ L s.heap news) (hm : (x, KFB.bound) ∈ news) (hl : b.size ≤ 10000)
    (h : ∀ t' k, Q (.int (KFB.value (KBw.bInts b)) t') { s with toks := k }) : wpAny (model prog w) A (call (.ref x) [.bytes b t, .str (PySem.Str.ofString "big") u] [(PySem.Str.ofString "signed", .bool false)]) Q E s := by
  have ho : KFB.StandsAt x s.heap := KFB.at_of N hm
  refine wpAny_call (codeAny_of_tree ?_)
  show wpAny _ A.in1 (callAny (.ref x) ⟨[.bytes b t, .str _ u], [(PySem.Str.ofString "signed", .bool false)]⟩) _ _ s
  simp only [callAny]
  refine wpAny_bind (wpAny_load ho ?_)
  simp only [KFB.bound, show (Value.type "builtin_function_or_method" == Value.type "method" || Value.type "builtin_function_or_method" == Value.type "builtin_function_or_method" || Value.type "builtin_function_or_method" == Value.type "method-wrapper") = true by decide, if_true]
  refine KFB.if_so (by decide) ?_
  refine wpAny_bind (wpAny_of_eq (a := ()) check_fb ?_)
  refine wpAny_bind (wpAny_pure (wpAny_pure ?_))
  exact ⟨KFB.quiet_fb, codeAny_builtin KFB.entry_fb (tree_fb hl (h _ _))⟩
theorem callWith_fbkw {pos : Pos} {u : Addr} {first : List Value} {args : List (Bool × Sem Value)} {kws : List (Option Str × Sem Value)} {Q : Value → Shared → Prop} (hplain : args.any (·.1) = false) (hk : kws.any (·.1.isNone) = false)
    (h : wpAny M A (evalArgs (.ref u) true args kws) (fun x s₁ => KFB.StandsAt u s₁.heap ∧ wpAny M A (call (.ref u) (first ++ x.pos) x.kw) Q E s₁) E s) : wpAny M A (callWith pos (.ref u) first args kws) Q E s := by
  unfold callWith
  refine wpAny_bind (wpAny_holding (wpAny_mono h (fun x s₁ h₁ => wpAny_bind (wpAny_standAt ?_)) fun _ _ x => x))
  obtain ⟨ho, hcall⟩ := h₁
  simp only [hplain, hk, Bool.or_false]
  refine wpAny_bind (m := keeperOf (.ref u)) ?_
  unfold keeperOf
  refine wpAny_bind (wpAny_load ho ?_)
  simp only [KFB.bound, show (Value.type "builtin_function_or_method" != Value.type "method") = true by decide, show (Value.type "builtin_function_or_method" == Value.type "builtin_function_or_method" || Value.type "builtin_function_or_method" == Value.type "method-wrapper") = true by decide, if_true]
  refine wpAny_pure ?_
  exact wpAny_bind (wpAny_mono hcall (fun r s₂ hr => wpAny_bind (wpAny_holding (wpAny_point (wpAny_pure hr)))) fun _ _ x => x)
theorem callWith_fb {pos : Pos} {u : Addr} {first : List Value} {env : Env} {e : Expr} {rest : List Expr} {kws : List (Option Str × Sem Value)} {Q : Value → Shared → Prop} (_N : News h₀ L s.heap news) (_hm : (u, KFB.bound) ∈ news)
    (h : wpAny M A (spliced (backTo pos (starEach (e :: rest) env))) (fun vs s₁ => wpAny M A (evalAll (kws.map (·.2))) (fun ks s₂ => KFB.StandsAt u s₂.heap ∧ wpAny M A (call (.ref u) (first ++ vs) ((kws.filterMap (·.1)).zip ks)) Q E s₂) E s₁) E s)
    (hk : kws.any (·.1.isNone) = false) (hall : kws.all (·.1.isSome) = true)
    (he : starEach (e :: rest) env = (false, eval e env) :: starEach rest env := by rfl) (hplain : (backTo pos (starEach rest env)).any (·.1) = false := by rfl) :
    wpAny M A (callWith pos (.ref u) first (backTo pos (starEach (e :: rest) env)) kws) Q E s := by
  rw [he] at h ⊢
  refine callWith_fbkw (by show (false || (backTo pos (starEach rest env)).any (·.1)) = false; rw [hplain]; rfl) hk ?_
  exact evalArgs_kw hall h
end

/-! ### to_bytes, big, of any length -/
section
variable {prog : Program} {w : World} {M : Model} {A : Around} {E : Value → Shared → Prop} {s : Shared} {x : Int} {k : Nat} {t u v : Tok}
theorem bits_le8 (h0 : 0 ≤ x) : x < 256 ^ k ↔ Builtin.Int.intBits x ≤ 8 * k := by
  have e : (256 : Int) ^ k = ((2 ^ (8 * k) : Nat) : Int) := by rw [Nat.pow_mul]; exact (pow_cast 256 k).symm
  rw [e]
  have hhi := bits_hi x
  constructor
  · intro h
    by_cases hx : x = 0
    · subst hx; exact Nat.zero_le _
    · have hlo := bits_lo hx
      refine Classical.byContradiction fun hc => ?_
      have h3 : 2 ^ (8 * k) ≤ 2 ^ (Builtin.Int.intBits x - 1) := Nat.pow_le_pow_right (by decide) (by omega)
      omega
  · intro h
    have h3 : 2 ^ Builtin.Int.intBits x ≤ 2 ^ (8 * k) := Nat.pow_le_pow_right (by decide) h
    omega
/-- the octets of a number, the highest first -/
def octs (k : Nat) (x : Int) : List Int := (KTBy.little k x).reverse
theorem octs_length : (octs k x).length = k := by rw [octs, List.length_reverse, KTBy.little_length]
theorem call_tb {Q : Value → Shared → Prop} (hk : k ≤ 100000) (h0 : 0 ≤ x) (h1 : x < 256 ^ k)
    (h : ∀ (b : Array UInt8) t' k', KBw.bInts b = octs k x → Q (.bytes b t') { s with toks := k' }) :
    wpAny (model prog w) A (call (.builtin "int.to_bytes") [.int x t, .int (k : Int) u, .str (PySem.Str.ofString "big") v]) Q E s := by
  refine wpAny_call_entry KTBy.slot (typeIs_int s x t) KTBy.entry ?_ (KTBy.args _ _ _)
  have hb := (bits_le8 h0).mp h1
  show wpAny _ _ (Builtin.Int.intOfSelf (.int x t) >>= fun y => _) _ _ s
  refine wpAny_bind (wpAny_of_eq (a := x) rfl ?_)
  show wpAny _ _ (Builtin.Int.intBindNamed "to_bytes" ["length", "byteorder", "signed"] 0 2 [.int (k : Int) u, .str (PySem.Str.ofString "big") v] [] >>= fun l => _) _ _ s
  refine wpAny_bind (wpAny_of_eq (a := [some (.int (k : Int) u), some (.str (PySem.Str.ofString "big") v), none]) (by kernel_rfl) ?_)
  show wpAny _ _ (Builtin.Int.intIndex "int.to_bytes" (.int (k : Int) u) >>= fun n => _) _ _ s
  refine wpAny_bind (wpAny_of_eq (a := (k : Int)) rfl ?_)
  refine KFB.if_not (by show (decide ((k : Int) < -(2 ^ 63 : Int)) || decide ((k : Int) ≥ 2 ^ 63)) = false; rw [decide_eq_false (by omega), decide_eq_false (by omega)]; rfl) ?_
  refine wpAny_bind (wpAny_of_eq (a := PySem.Str.ofString "big") (by kernel_rfl) ?_)
  refine wpAny_bind (wpAny_of_eq (a := false) rfl ?_)
  refine wpAny_bind (wpAny_of_eq (a := false) (by kernel_rfl) ?_)
  refine wpAny_ite_false (decide_eq_false (by omega)) ?_
  refine wpAny_ite_false (decide_eq_false (by omega)) ?_
  refine wpAny_ite_false (decide_eq_false (by rw [sizeLine_eq]; omega)) ?_
  refine KFB.if_not (by show (decide (x < 0) && !false) = false; rw [decide_eq_false (by omega)]; rfl) ?_
  refine KFB.if_not (by show (_ && decide ((Builtin.Int.intBits x : Int) > 8 * (k : Int))) = false; rw [decide_eq_false (by omega), Bool.and_false]) ?_
  refine wpAny_bind (wpAny_mkBytes (wpAny_pure ⟨_, rfl, h _ _ _ ?_⟩) (by show (List.reverse (KTBy.low x (Int.toNat (k : Int)))).length ≤ sizeLine; rw [List.length_reverse, KTBy.low_length, Int.toNat_natCast, sizeLine_eq]; omega))
  show (List.map (fun c : UInt8 => ((c.toNat : Nat) : Int)) (List.reverse (KTBy.low x (Int.toNat (k : Int))))) = octs k x
  rw [Int.toNat_natCast, List.map_reverse, KTBy.low_ints h0 h1, ← KTBy.little_eq, octs]
theorem call_tb_few {Q : Value → Shared → Prop} (hA : A.handled = none) (hk : k ≤ 100000) (h0 : 0 ≤ x) (h1 : 256 ^ k ≤ x)
    (h : ∀ h' tk e, Heap.NewExc s.heap h' e "OverflowError" → E (.ref e) { s with heap := h', toks := tk }) :
    wpAny (model prog w) A (call (.builtin "int.to_bytes") [.int x t, .int (k : Int) u, .str (PySem.Str.ofString "big") v]) Q E s := by
  refine wpAny_call_entry KTBy.slot (typeIs_int s x t) KTBy.entry ?_ (KTBy.args _ _ _)
  have hb : ¬ Builtin.Int.intBits x ≤ 8 * k := fun hc => by have := (bits_le8 h0).mpr hc; omega
  have hx : (x != 0) = true := by
    have hp : (0 : Int) < 256 ^ k := Int.pow_pos (by decide)
    exact bne_iff_ne.mpr (by omega)
  show wpAny _ _ (Builtin.Int.intOfSelf (.int x t) >>= fun y => _) _ _ s
  refine wpAny_bind (wpAny_of_eq (a := x) rfl ?_)
  show wpAny _ _ (Builtin.Int.intBindNamed "to_bytes" ["length", "byteorder", "signed"] 0 2 [.int (k : Int) u, .str (PySem.Str.ofString "big") v] [] >>= fun l => _) _ _ s
  refine wpAny_bind (wpAny_of_eq (a := [some (.int (k : Int) u), some (.str (PySem.Str.ofString "big") v), none]) (by kernel_rfl) ?_)
  show wpAny _ _ (Builtin.Int.intIndex "int.to_bytes" (.int (k : Int) u) >>= fun n => _) _ _ s
  refine wpAny_bind (wpAny_of_eq (a := (k : Int)) rfl ?_)
  refine KFB.if_not (by show (decide ((k : Int) < -(2 ^ 63 : Int)) || decide ((k : Int) ≥ 2 ^ 63)) = false; rw [decide_eq_false (by omega), decide_eq_false (by omega)]; rfl) ?_
  refine wpAny_bind (wpAny_of_eq (a := PySem.Str.ofString "big") (by kernel_rfl) ?_)
  refine wpAny_bind (wpAny_of_eq (a := false) rfl ?_)
  refine wpAny_bind (wpAny_of_eq (a := false) (by kernel_rfl) ?_)
  refine wpAny_ite_false (decide_eq_false (by omega)) ?_
  refine wpAny_ite_false (decide_eq_false (by omega)) ?_
  refine wpAny_ite_false (decide_eq_false (by rw [sizeLine_eq]; omega)) ?_
  refine KFB.if_not (by show (decide (x < 0) && !false) = false; rw [decide_eq_false (by omega)]; rfl) ?_
  refine KFB.if_so (by show ((x != 0) && decide ((Builtin.Int.intBits x : Int) > 8 * (k : Int))) = true; rw [decide_eq_true (by omega), hx]; rfl) ?_
  obtain ⟨hp, g, d, tk, os⟩ := s
  refine wpAny_bind (wpAny_rule ?_)
  refine wpAny_bind ?_
  exact_raiseError plainExc_OverflowError hA h
end
section
variable {prog : Program} {w : World} {A : Around} {E : Value → Shared → Prop} {s : Shared} {x f : Int} {t u v : Tok}
theorem call_tbI {Q : Value → Shared → Prop} (hf0 : 0 ≤ f) (hf : f ≤ 100000) (h0 : 0 ≤ x) (h1 : x < 256 ^ f.toNat)
    (h : ∀ (b : Array UInt8) t' k', KBw.bInts b = octs f.toNat x → Q (.bytes b t') { s with toks := k' }) :
    wpAny (model prog w) A (call (.builtin "int.to_bytes") [.int x t, .int f u, .str (PySem.Str.ofString "big") v]) Q E s := by
  obtain ⟨k, rfl⟩ := Int.eq_ofNat_of_zero_le hf0
  exact call_tb (k := k) (by omega) h0 (by simpa using h1) (by simpa using h)
theorem call_tbI_few {Q : Value → Shared → Prop} (hA : A.handled = none) (hf0 : 0 ≤ f) (hf : f ≤ 100000) (h0 : 0 ≤ x) (h1 : 256 ^ f.toNat ≤ x)
    (h : ∀ h' tk e, Heap.NewExc s.heap h' e "OverflowError" → E (.ref e) { s with heap := h', toks := tk }) :
    wpAny (model prog w) A (call (.builtin "int.to_bytes") [.int x t, .int f u, .str (PySem.Str.ofString "big") v]) Q E s := by
  obtain ⟨k, rfl⟩ := Int.eq_ofNat_of_zero_le hf0
  exact call_tb_few (k := k) hA (by omega) h0 (by simpa using h1) h
end
/-- how many octets a number wants, one at the least -/
def need (x : Int) : Nat := max 1 ((Builtin.Int.intBits x + 7) / 8)
theorem need_pos (x : Int) : 1 ≤ need x := Nat.le_max_left ..
theorem need_lt {x : Int} (h0 : 0 ≤ x) : x < 256 ^ need x := (bits_le8 h0).mpr (by unfold need; omega)
theorem need_le {x : Int} (h0 : 0 ≤ x) {k : Nat} (hk : 1 ≤ k) (h : x < 256 ^ k) : need x ≤ k := by
  have := (bits_le8 h0).mp h
  unfold need
  omega
theorem need_bd {x : Int} {l : Nat} (h : SBd l x) : need x ≤ l + 1 := by
  have := h.bits
  unfold need
  omega
theorem need_if (x : Int) : (if ((Builtin.Int.intBits x : Int) + 7).fdiv 8 > 1 then ((Builtin.Int.intBits x : Int) + 7).fdiv 8 else 1) = (need x : Int) := by
  rw [Int.fdiv_eq_ediv_of_nonneg _ (by decide)]
  unfold need
  split <;> omega
theorem call_tb_need {prog : Program} {w : World} {A : Around} {E : Value → Shared → Prop} {s : Shared} {x : Int} {t u v : Tok} {Q : Value → Shared → Prop} (h0 : 0 ≤ x) (hs : SBd 9000 x)
    (h : ∀ (b : Array UInt8) t' k', KBw.bInts b = octs (need x) x → Q (.bytes b t') { s with toks := k' }) :
    wpAny (model prog w) A (call (.builtin "int.to_bytes") [.int x t, .int (if ((Builtin.Int.intBits x : Int) + 7).fdiv 8 > 1 then ((Builtin.Int.intBits x : Int) + 7).fdiv 8 else 1) u, .str (PySem.Str.ofString "big") v]) Q E s := by
  rw [need_if]
  have := need_bd hs
  exact call_tb (by omega) h0 (need_lt h0) h
end

section
open PySem.Calls
set_option maxRecDepth 100000
/-! ### list() of bytes -/
theorem lk_bytes_len : typeLookup (.type "bytes") "__len__" = pure (some (.builtin "bytes.__len__")) := by rw [typeLookup_type, builtinLookup_eq_fast]; kernel_rfl
abbrev OctAt (b : Array UInt8) (i : Nat) (v : Value) : Prop := ∃ c u, b[i]? = some c ∧ v = .int (c.toNat : Int) u
section
variable {prog : Program} {w : World} {A : Around} {E : Value → Shared → Prop} {s : Shared} {b : Array UInt8} {t : Tok}
theorem extend_bytes {R : Result → Shared → Prop} (hh : A.handled = none) (S : Addr) (res : Value) (c₀ : Nat) (hS : s.heap.get? S = some { cls := .type "list", data := .seq #[] c₀ })
    (hR : ∀ h' tk acc' c', (∀ b o, b ≠ S → s.heap.get? b = some o → h'.get? b = some o) → h'.get? S = some { cls := .type "list", dict := none, data := .seq acc' c', slots := #[] } →
      ItemsOf (OctAt b) acc' b.size → R (.ok (.ret res)) { s with heap := h', toks := tk }) (hn : b.size ≤ sizeLine) :
    wpAny (model prog w) A.in1 (Builtin.List.listExtendWith (.ref S) (.bytes b t) res)
      (fun fin s' => match fin with | .done f => R (.ok f) s' | .again c' => c'.quiet = true ∧ codeAny (model prog w) A c' R s') (fun e s' => R (.error e) s') s := by
  have hSI : S ≠ s.heap.objs.size := Nat.ne_of_lt (Heap.lt_size hS)
  have hSf : S ∉ [s.heap.objs.size] := fun hm => hSI (List.mem_singleton.mp hm)
  unfold Builtin.List.listExtendWith
  refine wpAny_bind (wpAny_typeOf (T := "bytes") (v := .bytes b t) rfl ?_)
  have h1 : Builtin.List.listSameRef (.ref S) (.bytes b t) = false := rfl
  have h2 : (Value.type "bytes" == Value.type "list") = false := by decide
  have h3 : (Value.type "bytes" == Value.type "tuple") = false := by decide
  simp only [h1, h2, h3, Bool.or_false, Bool.false_eq_true, if_false]
  refine wpAny_bind (KBw.pyIter_bytes ?_)
  refine wpAny_bind (wpAny_holding ?_)
  unfold Builtin.List.listLengthHint
  refine wpAny_bind (wpAny_specialOf (T := "bytes") (v := .bytes b t) rfl lk_bytes_len ?_)
  wp_delta
  refine wpAny_bind (wpAny_isInstance (T := "bytes") (v := .bytes b t) (b := true) rfl (by rw [isSubtype_type]; kernel_rfl) ?_)
  show wpAny _ _ (typeOf (Value.bytes b t) >>= _) _ _ _
  refine wpAny_bind (wpAny_typeOf (T := "bytes") (v := .bytes b t) rfl ?_)
  refine wpAny_pure ?_
  rw [if_neg (by decide)]
  refine wpAny_pure ⟨plainId_quiet F.plain_extend_loop _, codeAny_extend_loopS (KBw.walks (A := A.in1) hh s.heap.objs.size b t).toS hn _ hSf _ b.size 0 _ _ _ rfl (Nat.zero_le _) ⟨_, Heap.get?_push_size _ rfl, rfl, rfl⟩ (Heap.get?_push_of_some _ hS) (ItemsOf.nil _) fun s' acc' c' hm hS' hacc => ?_⟩
  rw [Moved.eq_with hm]
  refine hR s'.heap s'.toks acc' c' (fun b ob hb e => hm.heap b ob (fun hmem => ?_) (Heap.get?_push_of_some _ e)) hS' hacc
  rcases List.mem_cons.mp hmem with e' | hmem
  · exact hb e'
  · exact absurd (Heap.lt_size e) (by rw [List.mem_singleton.mp hmem]; exact Nat.lt_irrefl _)
theorem init_bytes {R : Result → Shared → Prop} (hh : A.handled = none) (S : Addr) (hS : s.heap.get? S = some { cls := .type "list", data := .seq #[] })
    (hR : ∀ h' tk acc' c', (∀ b o, b ≠ S → s.heap.get? b = some o → h'.get? b = some o) → h'.get? S = some { cls := .type "list", dict := none, data := .seq acc' c', slots := #[] } →
      ItemsOf (OctAt b) acc' b.size → R (.ok (.ret .none)) { s with heap := h', toks := tk }) (hn : b.size ≤ sizeLine) :
    wpAny (model prog w) A.in1 (Builtin.«list.__init__» ⟨[.ref S, .bytes b t], []⟩)
      (fun fin s' => match fin with | .done f => R (.ok f) s' | .again c' => c'.quiet = true ∧ codeAny (model prog w) A c' R s') (fun e s' => R (.error e) s') s := by
  show wpAny _ _ (do let old ← Builtin.List.listItems (.ref S); Builtin.List.listUpdate (.ref S) (fun _ => #[]); letGo old.toList.reverse; Builtin.List.listExtendWith (.ref S) (.bytes b t) .none) _ _ s
  refine wpAny_bind ?_
  unfold Builtin.List.listItems
  refine wpAny_bind (wpAny_seqItems hS rfl (wpAny_pure ?_))
  show wpAny _ _ (updateSeq S (fun _ => #[]) >>= fun _ => letGo (#[] : Array Value).toList.reverse >>= fun _ => Builtin.List.listExtendWith (.ref S) (.bytes b t) .none) _ _ s
  refine wpAny_bind (wpAny_updateSeq hS rfl ?_)
  have hS₂ := Heap.get?_update_self (Obj.mapSeq (fun _ => (#[] : Array Value))) hS rfl
  have oth : ∀ b o, b ≠ S → s.heap.get? b = some o → (s.heap.update S (Obj.mapSeq (fun _ => (#[] : Array Value)))).get? b = some o :=
    fun b o hb e => (Heap.get?_update_other _ _ (Ne.symm hb)).trans e
  refine wpAny_bind (wpAny_letGo ?_)
  exact extend_bytes (hn := hn) hh S .none _ hS₂ fun h' tk acc' c' hk hS' hacc => hR h' tk acc' c' (fun b o hb e => hk b o hb (oth b o hb e)) hS' hacc
theorem list_bytes {Q : Value → Shared → Prop} (hh : A.handled = none) (hn : b.size ≤ sizeLine)
    (hQ : ∀ h' tk acc' c', (∀ b o, s.heap.get? b = some o → h'.get? b = some o) →
      h'.get? s.heap.objs.size = some { cls := .type "list", dict := none, data := .seq acc' c', slots := #[] } → ItemsOf (OctAt b) acc' b.size → Q (.ref s.heap.objs.size) { s with heap := h', toks := tk }) :
    wpAny (model prog w) A (call (.type "list") [.bytes b t]) Q E s := by
  refine callType_codes (Q₁ := fun obj s₁ => obj = .ref s.heap.objs.size ∧ s₁ = { s with heap := s.heap.push { cls := .type "list", data := .seq #[] } }) F.called_list (F.typeCall_list_1 _) F.entry_list_init
    (code_list_new _ ⟨rfl, rfl⟩) fun obj s₁ h₁ => ?_
  obtain ⟨rfl, rfl⟩ := h₁
  have hS : (s.heap.push { cls := .type "list", data := .seq #[] }).get? s.heap.objs.size = some { cls := .type "list", data := .seq #[] } := Heap.get?_push_size _ rfl
  refine ⟨⟨_, hS, rfl⟩, F.args_list_init_2 _ _, init_bytes (A := A.in1) (hn := hn) hh _ hS fun h' tk acc' c' hk hS' hacc => ?_⟩
  exact ⟨rfl, hQ h' tk acc' c' (fun b o e => hk b o (Nat.ne_of_lt (Heap.lt_size e)) (Heap.get?_push_of_some _ e)) hS' hacc⟩
theorem ints_of : ∀ {vs : List Value} {ks : List Int}, vs.length = ks.length → (∀ (j : Nat) (v : Value) (k : Int), vs[j]? = some v → ks[j]? = some k → ∃ u, v = Value.int k u) → IntsAre vs ks
  | [], [], _, _ => .nil
  | v :: vs, k :: ks, hl, h => by
    obtain ⟨u, rfl⟩ := h 0 v k rfl rfl
    exact .cons k u (ints_of (Nat.succ.inj hl) fun j v' k' h1 h2 => h (j + 1) v' k' h1 h2)
  | [], _ :: _, hl, _ => by cases hl
  | _ :: _, [], hl, _ => by cases hl
theorem list_bytes_K {Q : Value → Shared → Prop} {h₀ : Heap} {L : Addr} {m : Str → Option Value} {news : List (Addr × Obj)} {ks : List Int} (hh : A.handled = none) (F : Fr h₀ L s.heap m) (N : News h₀ L s.heap news) (hb : KBw.bInts b = ks) (hn : ks.length ≤ 100000)
    (h : ∀ D vs n h' tk, Fr h₀ L h' m → News h₀ L h' ((D, listOf vs.toArray n) :: news) → (∀ p ∈ news, p.1 < D) → IntsAre vs ks → vs.length = ks.length → Q (.ref D) { s with heap := h', toks := tk }) :
    wpAny (model prog w) A (call (.type "list") [.bytes b t]) Q E s := by
  subst hb
  rw [KBw.ints_length] at hn
  refine list_bytes hh (by rw [sizeLine_eq]; omega) fun h' tk acc' c' hk hD hacc => ?_
  have hlen : acc'.toList.length = (KBw.bInts b).length := by rw [KBw.ints_length]; simp [hacc.1]
  refine h _ acc'.toList c' h' tk (F.keeps hk) (fun p hp => ?_) (fun p hp => Heap.lt_size (N p hp).1) (ints_of hlen fun j v k h1 h2 => ?_) hlen
  · rcases List.mem_cons.mp hp with rfl | hp
    · refine ⟨by simpa using hD, Nat.ne_of_gt F.ns.lt, ?_⟩
      cases e : h₀.get? s.heap.objs.size with
      | none => rfl
      | some o => exact absurd (Heap.lt_size (F.keep _ _ e)) (Nat.lt_irrefl _)
    · exact ⟨hk _ _ (N p hp).1, (N p hp).2⟩
  · obtain ⟨c, u, hc, rfl⟩ := hacc.2 j v (by simpa using h1)
    have h3 := KBw.ints_get hc
    rw [h2] at h3
    cases h3
    exact ⟨u, rfl⟩
end
end

section
open PySem.Calls
section
variable {prog : Program} {w : World} {A : Around} {E : Value → Shared → Prop} {s : Shared} {env : Env} {h₀ : Heap} {x : Str} {body : List Stmt} {Q : Flow → Shared → Prop}
/-- what stands behind a turn of a loop over a list, that makes nothing to keep -/
def LEnd {σ : Type} (h₀ : Heap) (L : Addr) (s : Shared) (x : Str) (ps : σ → List (Str × Value)) (stored : List Str) (m₀ : Str → Option Value) (P : σ → Prop) (own : List (Addr × Obj)) (s₂ : Shared) : Prop :=
  ∃ (c' : σ) (h' : Heap) (tk : Nat) (m' : Str → Option Value), s₂ = { s with heap := h', toks := tk } ∧ Fr h₀ L h' m' ∧ News h₀ L h' own ∧
    (∀ p ∈ ps c', m' p.1 = some p.2) ∧ (∀ z, z ≠ x → (∀ p ∈ ps c', z ≠ p.1) → stored.contains z = false → m' z = m₀ z) ∧ P c'
def LPost {σ : Type} (h₀ : Heap) (L : Addr) (s : Shared) (x : Str) (ps : σ → List (Str × Value)) (stored : List Str) (m₀ : Str → Option Value) (P : σ → Prop) (own : List (Addr × Obj)) (Q : Flow → Shared → Prop) (f : Flow) (s₂ : Shared) : Prop :=
  match f with
  | .ret v => Q (.ret v) s₂
  | .brk => Q .next s₂
  | _ => LEnd h₀ L s x ps stored m₀ P own s₂
theorem lend {σ : Type} {L : Addr} {ps : σ → List (Str × Value)} {stored : List Str} {m₀ m' : Str → Option Value} {P : σ → Prop} {own : List (Addr × Obj)} {h' : Heap} {tk : Nat} (c' : σ)
    (F : Fr h₀ L h' m') (N : News h₀ L h' own) (hk : ∀ p ∈ ps c', m' p.1 = some p.2) (hr : ∀ z, z ≠ x → (∀ p ∈ ps c', z ≠ p.1) → stored.contains z = false → m' z = m₀ z) (hp : P c') :
    LEnd h₀ L s x ps stored m₀ P own { s with heap := h', toks := tk } := ⟨c', h', tk, m', rfl, F, N, hk, hr, hp⟩
theorem j_list {σ : Type} {l : Addr} {vs : List Value} {ns : List Int} {m₀ : Str → Option Value} (ps : σ → List (Str × Value)) (stored : List Str) (P : Nat → σ → Prop) (c₀ : σ)
    (hh : A.handled = none) (hl : h₀.IsList l vs.toArray) (hi : IntsAre vs ns) (F : Fr h₀ env.locals s.heap m₀) (hk : ∀ p ∈ ps c₀, m₀ p.1 = some p.2) (hp : P 0 c₀)
    (turn : ∀ (c : σ) (i : Nat) (n : Int) t (u : Str → Option Value) h tk own, ns[i]? = some n → P i c →
      Fr h₀ env.locals h (fun y => if y = x then some (.int n t) else kstB (fun z => if stored.contains z then u z else m₀ z) (ps c) y) → News h₀ env.locals h own →
      wpAny (model prog w) A (execs body env) (LPost h₀ env.locals s x ps stored m₀ (P (i + 1)) own Q) E { s with heap := h, toks := tk })
    (done : ∀ (c : σ) (u : Str → Option Value) h tk, P ns.length c → Fr h₀ env.locals h (fun y => if y = x then u y else kstB (fun z => if stored.contains z then u z else m₀ z) (ps c) y) → Q .next { s with heap := h, toks := tk }) :
    wpAny (model prog w) A (pyIter (.ref l)) (fun it s₂ => LoopAtV prog w A h₀ env x body Q E it s₂) E s := by
  refine iter_invN (news := []) (fun i m nx => nx = [] ∧ ∃ c : σ, (∀ p ∈ ps c, m p.1 = some p.2) ∧ (∀ z, z ≠ x → (∀ p ∈ ps c, z ≠ p.1) → stored.contains z = false → m z = m₀ z) ∧ P i c) hh hl hi F News.nil ⟨rfl, c₀, hk, fun _ _ _ _ => rfl, hp⟩ ?_ ?_
  · rintro i n t m₁ news₁ h tk own hn hadr hoff ⟨rfl, c, h1, h2, hP⟩ F₁ N₁
    refine wpAny_mono (turn c i n t m₁ h tk own hn hP (kst_fr h1 h2 F₁) (by simpa using N₁)) (fun f s₂ q => ?_) fun _ _ e => e
    have fin : LEnd h₀ env.locals s x ps stored m₀ (P (i + 1)) own s₂ → InvEndN h₀ env.locals (fun m nx => nx = [] ∧ ∃ c : σ, (∀ p ∈ ps c, m p.1 = some p.2) ∧ (∀ z, z ≠ x → (∀ p ∈ ps c, z ≠ p.1) → stored.contains z = false → m z = m₀ z) ∧ P (i + 1) c) own [] { s with heap := h, toks := tk } s₂ := by
      rintro ⟨c', h', tk', m', e, F', N', hk', hr', hp'⟩
      exact ⟨h', tk', m', own, [], e, F', N', (fun p hp => nomatch hp), fun p hp => hp, rfl, rfl, c', hk', hr', hp'⟩
    cases f with
    | ret v => exact q
    | brk => exact q
    | next => exact fin q
    | cont => exact fin q
  · rintro m₁ news₁ h tk ⟨rfl, c, h1, h2, hP⟩ F₁ N₁
    exact done c m₁ h tk hP (kst_frOut h1 h2 F₁)
end
/-- the value of octets, the highest first -/
def val (ks : List Int) : Int := ks.foldl (fun a k => 256 * a + k) 0
theorem val_kfb : ∀ (ks : List Int) (a : Int), ks.foldl (fun a k => a * 256 + k) a = ks.foldl (fun a k => 256 * a + k) a
  | [], _ => rfl
  | k :: ks, a => by rw [List.foldl_cons, List.foldl_cons, Int.mul_comm a]; exact val_kfb ks _
theorem kfb_val (ks : List Int) : KFB.value ks = val ks := val_kfb ks 0
theorem val_snoc (ks : List Int) (k : Int) : val (ks ++ [k]) = 256 * val ks + k := by unfold val; rw [List.foldl_append]; rfl
theorem val_take {ks : List Int} {i : Nat} {k : Int} (h : ks[i]? = some k) : val (ks.take (i + 1)) = 256 * val (ks.take i) + k := by
  rw [List.take_add_one, h, Option.toList_some, val_snoc]
/-- every octet of a list -/
def Octs (ks : List Int) : Prop := ∀ k ∈ ks, 0 ≤ k ∧ k < 256
theorem fold_bd : ∀ (ks : List Int) (a : Int), Octs ks → 0 ≤ a → 0 ≤ ks.foldl (fun a k => 256 * a + k) a ∧ ks.foldl (fun a k => 256 * a + k) a < (a + 1) * 256 ^ ks.length
  | [], a, _, h => ⟨h, by rw [List.length_nil, Int.pow_zero, Int.mul_one]; exact Int.lt_succ a⟩
  | k :: ks, a, hk, h => by
    obtain ⟨h3, h4⟩ := hk k List.mem_cons_self
    obtain ⟨h1, h2⟩ := fold_bd ks (256 * a + k) (fun q hq => hk q (List.mem_cons_of_mem _ hq)) (by omega)
    refine ⟨h1, Int.lt_of_lt_of_le h2 ?_⟩
    rw [List.length_cons, Int.pow_succ, Int.mul_comm (256 ^ ks.length) 256, ← Int.mul_assoc]
    exact Int.mul_le_mul_of_nonneg_right (by omega) (Int.le_of_lt (Int.pow_pos (by decide)))
theorem val_bd {ks : List Int} (h : Octs ks) : 0 ≤ val ks ∧ val ks < 256 ^ ks.length := by
  obtain ⟨h1, h2⟩ := fold_bd ks 0 h (Int.le_refl 0)
  exact ⟨h1, by simpa [val] using h2⟩
theorem pow256 (k : Nat) : (256 : Int) ^ k = 2 ^ (8 * k) := by rw [Int.pow_mul]; rfl
theorem val_Bd {ks : List Int} (h : Octs ks) {n : Nat} (hn : 8 * ks.length ≤ n) : Bd n (val ks) := by
  obtain ⟨h1, h2⟩ := val_bd h
  rw [pow256] at h2
  exact Bd.mono ⟨h1, h2⟩ hn
theorem octs_take {ks : List Int} (h : Octs ks) (i : Nat) : Octs (ks.take i) := fun k hk => h k (List.mem_of_mem_take hk)
theorem octs_succ (k : Nat) (x : Int) : octs (k + 1) x = (x / 256 ^ k % 256) :: octs k x := by
  unfold octs
  rw [KTBy.little_eq, KTBy.little_eq, List.range_succ, List.map_append, List.reverse_append]
  rfl
theorem need_bd8 {x : Int} {l : Nat} (h : SBd l x) : need x ≤ (l + 7) / 8 + 1 := by
  have := h.bits
  unfold need
  omega
theorem few_step {x y : Int} {i : Nat} (h0 : 0 ≤ x) (q1 : y = x / 256 ^ i) (q2 : i ≤ need x) :
    0 ≤ y ∧ (y = 0 → i ≠ 0 → i = need x) ∧ (y ≠ 0 ∨ i = 0 → i + 1 ≤ need x) ∧ y.fdiv 256 = x / 256 ^ (i + 1) ∧ y.fmod 256 = x / 256 ^ i % 256 := by
  have hp : (0 : Int) < 256 ^ i := Int.pow_pos (by decide)
  have hy : 0 ≤ y := by rw [q1]; exact Int.ediv_nonneg h0 (Int.le_of_lt hp)
  refine ⟨hy, fun e hi => ?_, fun e => ?_, ?_, ?_⟩
  · have h1 : x < 256 ^ i := by
      refine Classical.byContradiction fun hc => ?_
      have := (Int.le_ediv_iff_mul_le hp).mpr (show 1 * 256 ^ i ≤ x by omega)
      omega
    have := need_le h0 (k := i) (by omega) h1
    omega
  · rcases e with e | e
    · refine Classical.byContradiction fun hc => ?_
      have hn := need_lt h0
      rw [show need x = i by omega] at hn
      have := Int.ediv_eq_zero_of_lt h0 hn
      omega
    · have := need_pos x; omega
  · rw [Int.fdiv_eq_ediv_of_nonneg _ (by decide), q1, Int.pow_succ, Int.ediv_ediv_of_nonneg (Int.le_of_lt hp)]
  · rw [Int.fmod_eq_emod_of_nonneg _ (by decide), q1]
theorem octs_rep {k : Nat} {r : Int} (h : 0 ≤ r ∧ r < 256) : Octs ((List.replicate k [r]).flatten) := by
  intro q hq
  obtain ⟨l, hl, hq⟩ := List.mem_flatten.mp hq
  rw [List.eq_of_mem_replicate hl] at hq
  rw [List.mem_singleton.mp hq]
  exact h
theorem oct_menu {r : Int} (h0 : 0 ≤ r) (h1 : r < 4) : 0 ≤ ([0, 255, 1, 128] : List Int).getD r.toNat 0 ∧ ([0, 255, 1, 128] : List Int).getD r.toNat 0 < 256 := by
  have e : r = 0 ∨ r = 1 ∨ r = 2 ∨ r = 3 := by omega
  rcases e with rfl | rfl | rfl | rfl <;> decide
theorem news_fin {h₀ h : Heap} {L : Addr} {d a b : Addr × Obj} {full rest : List (Addr × Obj)} (N : News h₀ L h full) (M : News h₀ L h rest) (h1 : d ∈ full) (h2 : a ∈ full) (h3 : b ∈ full) : News h₀ L h ([d] ++ a :: b :: rest) := by
  intro p hp
  rcases List.mem_cons.mp hp with rfl | hp
  · exact N _ h1
  · rcases List.mem_cons.mp hp with rfl | hp
    · exact N _ h2
    · rcases List.mem_cons.mp hp with rfl | hp
      · exact N _ h3
      · exact M _ hp
theorem octs_app {ks ls : List Int} (h : Octs ks) (g : Octs ls) : Octs (ks ++ ls) := fun q hq => (List.mem_append.mp hq).elim (h q) (g q)
theorem octs_drop {ks : List Int} (h : Octs ks) (i : Nat) : Octs (ks.drop i) := fun k hk => h k (List.mem_of_mem_drop hk)
theorem octs_nil : Octs [] := fun _ h => nomatch h
theorem octs_one {k : Int} (h0 : 0 ≤ k) (h1 : k < 256) : Octs [k] := fun q hq => by rw [List.mem_singleton.mp hq]; exact ⟨h0, h1⟩
/-- a row of octets, so many -/
def RowIs (ys : List Value) (i : Nat) : Prop := ∃ ks, IntsAre ys ks ∧ Octs ks ∧ ks.length = i
theorem RowIs.nil : RowIs [] 0 := ⟨[], .nil, octs_nil, rfl⟩
theorem RowIs.snoc {ys : List Value} {i : Nat} {k : Int} {t : Tok} (h : RowIs ys i) (h0 : 0 ≤ k) (h1 : k < 256) : RowIs (ys ++ [.int k t]) (i + 1) := by
  obtain ⟨ks, hI, hO, hk⟩ := h
  exact ⟨ks ++ [k], hI.append (.cons _ _ .nil), octs_app hO (octs_one h0 h1), by rw [List.length_append, hk]; rfl⟩
theorem few_need {x f : Int} (h0 : 0 ≤ x) (f0 : 0 < f) (h : f < need x) : 256 ^ f.toNat ≤ x := by
  refine Classical.byContradiction fun hc => ?_
  have := need_le h0 (k := f.toNat) (by omega) (by omega)
  omega
theorem fit_need {x f : Int} (h0 : 0 ≤ x) (h : (need x : Int) ≤ f) : x < 256 ^ f.toNat :=
  Int.lt_of_lt_of_le (need_lt h0) (ipow_mono (by decide) (by omega))
theorem octs_zero {x : Int} (h0 : 0 ≤ x) {n : Nat} (h : x < 256 ^ n) : ∀ k, octs (n + k) x = List.replicate k 0 ++ octs n x
  | 0 => rfl
  | k + 1 => by
    rw [← Nat.add_assoc, octs_succ, octs_zero h0 h k, List.replicate_succ, List.cons_append]
    congr 1
    have h2 : x < 256 ^ (n + k) := Int.lt_of_lt_of_le h (ipow_mono (by decide) (by omega))
    rw [Int.ediv_eq_zero_of_lt h0 h2]; rfl
theorem flat_rep (k : Nat) : (List.replicate k [(0 : Int)]).flatten = List.replicate k 0 := by
  induction k with
  | zero => rfl
  | succ k ih => rw [List.replicate_succ, List.flatten_cons, ih]; rfl
theorem octs_pad {x f : Int} {r : List Int} (h0 : 0 ≤ x) (hr : r = octs (need x) x) (hl : r.length = need x) (h : (need x : Int) ≤ f) : octs f.toNat x = (List.replicate (f - (r.length : Int)).toNat [(0 : Int)]).flatten ++ r := by
  rw [flat_rep, hr, octs_length, ← octs_zero h0 (need_lt h0)]
  congr 1; omega
theorem octs_val : ∀ {ks : List Int}, Octs ks → octs ks.length (val ks) = ks := by
  intro ks
  suffices H : ∀ n (ks : List Int), ks.length = n → Octs ks → octs n (val ks) = ks from fun h => H _ ks rfl h
  intro n
  induction n with
  | zero => intro ks hl _; rw [List.length_eq_zero_iff.mp hl]; rfl
  | succ n ih =>
    intro ks hl h
    obtain ⟨k, r, rfl⟩ : ∃ k r, ks = k :: r := by cases ks with | nil => cases hl | cons k r => exact ⟨k, r, rfl⟩
    obtain ⟨k0, k1⟩ := h k List.mem_cons_self
    have hr : Octs r := fun q hq => h q (List.mem_cons_of_mem _ hq)
    have hn : r.length = n := Nat.succ.inj hl
    obtain ⟨v0, v1⟩ := val_bd hr
    have hv : val (k :: r) = k * 256 ^ n + val r := by
      have key : ∀ (r : List Int) (a : Int), r.foldl (fun a k => 256 * a + k) a = a * 256 ^ r.length + val r := by
        intro r
        induction r with
        | nil => intro a; simp [val]
        | cons q r ih2 =>
          intro a
          show r.foldl _ (256 * a + q) = _
          have e : val (q :: r) = r.foldl (fun a k => 256 * a + k) (256 * 0 + q) := rfl
          rw [ih2, e, ih2, List.length_cons, Int.pow_succ]
          rw [Int.add_mul, Int.add_mul, Int.mul_zero, Int.zero_mul, Int.mul_comm 256 a, Int.mul_assoc, Int.mul_comm 256]
          omega
      have := key r (256 * 0 + k)
      rw [hn] at this
      have e : val (k :: r) = r.foldl (fun a k => 256 * a + k) (256 * 0 + k) := rfl
      rw [e, this]; simp
    have hp : (0 : Int) < 256 ^ n := Int.pow_pos (by decide)
    rw [hn] at v1
    rw [octs_succ]
    have h1 : val (k :: r) / 256 ^ n = k := by
      rw [hv, Int.add_comm, Int.add_mul_ediv_right _ _ (by omega), Int.ediv_eq_zero_of_lt v0 v1, Int.zero_add]
    rw [h1, Int.emod_eq_of_lt k0 k1]
    congr 1
    refine Eq.trans ?_ (ih r hn hr)
    unfold octs
    rw [KTBy.little_eq, KTBy.little_eq]
    congr 1
    refine List.map_congr_left fun i hi => ?_
    have hi' := List.mem_range.mp hi
    rw [hv]
    obtain ⟨j, hj⟩ : ∃ j, n = i + 1 + j := ⟨n - i - 1, by omega⟩
    have e2 : k * 256 ^ n = (k * 256 ^ j * 256) * 256 ^ i := by
      rw [hj, Int.pow_add, Int.pow_add, Int.pow_one, Int.mul_comm (256 ^ i * 256) (256 ^ j), Int.mul_comm (256 ^ i) 256, ← Int.mul_assoc, ← Int.mul_assoc]
    rw [e2, Int.add_comm, Int.add_mul_ediv_right _ _ (Int.ne_of_gt (Int.pow_pos (by decide))), Int.add_mul_emod_self_right]
theorem bInts_inj {a b : Array UInt8} (h : KBw.bInts a = KBw.bInts b) : a = b := by
  have key : ∀ (l l' : List UInt8), l.map (fun c => (c.toNat : Int)) = l'.map (fun c => (c.toNat : Int)) → l = l' := by
    intro l
    induction l with
    | nil => intro l' h; cases l' with | nil => rfl | cons _ _ => cases h
    | cons c l ih =>
      intro l' h
      cases l' with
      | nil => cases h
      | cons c' l' =>
        rw [List.map_cons, List.map_cons] at h
        obtain ⟨h1, h2⟩ := List.cons.inj h
        rw [ih l' h2, UInt8.toNat_inj.mp (show c.toNat = c'.toNat by omega)]
  exact Array.toList_inj.mp (key _ _ h)
theorem ne_bytes_K {prog : Program} {w : World} {A : Around} {E : Value → Shared → Prop} {s : Shared} {b c : Array UInt8} {t u : Tok} {ks ls : List Int} {Q : Value → Shared → Prop} (h1 : KBw.bInts b = ks) (h2 : KBw.bInts c = ls) (e : ks = ls) (h : Q (.bool false) s) :
    wpAny (model prog w) A (compareOp .NotEq (.bytes b t) (.bytes c u)) Q E s := by
  have hbc : b = c := bInts_inj (by rw [h1, h2, e])
  subst hbc
  exact ne_bytes (by simpa using h)
theorem size_le {b : Array UInt8} {ks : List Int} (h : KBw.bInts b = ks) (hk : ks.length ≤ 10000) : b.size ≤ 10000 := by rw [← KBw.ints_length, h]; exact hk
theorem bint_oct {ks : List Int} (h : Octs ks) : KBw.bInts (byteArr ks) = ks := KBa.ints_make fun k hk => h k hk
theorem val_fit {ks : List Int} {r : Int} (h : Octs ks) (e : r = val ks) : r < 256 ^ ((ks.length : Int)).toNat := by rw [e, Int.toNat_natCast]; exact (val_bd h).2
theorem val_nn {ks : List Int} {r : Int} (h : Octs ks) (e : r = val ks) : 0 ≤ r := by rw [e]; exact (val_bd h).1
theorem octs_val2 {ks : List Int} {r : Int} (h : Octs ks) (e : r = val ks) : octs ((ks.length : Int)).toNat r = ks := by rw [e, Int.toNat_natCast]; exact octs_val h
theorem pick_int4 {prog : Program} {w : World} {A : Around} {E : Value → Shared → Prop} {s : Shared} {value slice : PySem.Expr} {D : Addr} {a b c d : Int} {t1 t2 t3 t4 u : Tok} {k : Int} {Q : Value → Shared → Prop} (hl : s.heap.IsList D #[.int a t1, .int b t2, .int c t3, .int d t4]) (h0 : 0 ≤ k) (h1 : k < 4)
    (ha : -1 ≤ a ∧ a ≤ 2000) (hb : -1 ≤ b ∧ b ≤ 2000) (hc : -1 ≤ c ∧ c ≤ 2000) (hd : -1 ≤ d ∧ d ≤ 2000) (h : ∀ z t, -1 ≤ z → z ≤ 2000 → Q (.int z t) s)
    (hs : subscripted slice false (.ref D) (.int k u) = operate [.ref D, .int k u] (getItem (.ref D) (.int k u)) := by with_unfolding_all rfl) :
    wpAny (model prog w) A (subscriptTail value slice (.ref D) (.int k u)) Q E s := by
  have e : k = 0 ∨ k = 1 ∨ k = 2 ∨ k = 3 := by omega
  rcases e with rfl | rfl | rfl | rfl
  · exact item_litK (vs := [.int a t1, .int b t2, .int c t3, .int d t4]) hl (by decide) (by decide) rfl (h _ _ ha.1 ha.2) hs
  · exact item_litK (vs := [.int a t1, .int b t2, .int c t3, .int d t4]) hl (by decide) (by decide) rfl (h _ _ hb.1 hb.2) hs
  · exact item_litK (vs := [.int a t1, .int b t2, .int c t3, .int d t4]) hl (by decide) (by decide) rfl (h _ _ hc.1 hc.2) hs
  · exact item_litK (vs := [.int a t1, .int b t2, .int c t3, .int d t4]) hl (by decide) (by decide) rfl (h _ _ hd.1 hd.2) hs
theorem rowOf {b : Array UInt8} {r : List Int} {x : Int} (hr : r = octs (need x) x) (h : KBw.bInts b = octs (need x) x) : KBw.bInts b = r := h.trans hr.symm
end

section
open PySem.Calls
theorem kstB_same {m : Str → Option Value} : ∀ {l : List (Str × Value)}, (∀ p ∈ l, m p.1 = some p.2) → kstB m l = m
  | [], _ => by funext y; rfl
  | (k, v) :: r, h => by
    funext y
    have ih := kstB_same (l := r) fun p hp => h p (List.mem_cons_of_mem _ hp)
    show (if y = k then some v else kstB m r y) = m y
    by_cases e : y = k
    · rw [if_pos e, e]; exact (h (k, v) List.mem_cons_self).symm
    · rw [if_neg e, ih]
section
variable {prog : Program} {w : World} {A : Around} {E : Value → Shared → Prop} {s : Shared} {env : Env} {h₀ : Heap} {x : Str} {body : List Stmt} {Q : Flow → Shared → Prop}
/-- a for over a list that the call has made; the names of ps1 (the loop's own one among them) stand behind the first turn only -/
theorem j_made {σ : Type} {l : Addr} {vs : List Value} {ns : List Int} {n : Nat} {m₀ : Str → Option Value} (Led : σ → List (Addr × Obj)) (ps ps1 : σ → List (Str × Value)) (stored : List Str) (P : Nat → σ → Prop) (c₀ : σ)
    (hnn : 0 < ns.length) (hh : A.handled = none) (hi : IntsAre vs ns) (F : Fr h₀ env.locals s.heap m₀) (N : News h₀ env.locals s.heap ((l, listOf vs.toArray n) :: Led c₀)) (hk : ∀ p ∈ ps c₀, m₀ p.1 = some p.2) (hp : P 0 c₀)
    (hsub : ∀ c, ∀ p ∈ ps1 c, p.1 = x ∨ stored.contains p.1 = true)
    (turn : ∀ (c : σ) (i : Nat) (k : Int) t (u : Str → Option Value) h tk I oI oL, ns[i]? = some k → P i c → (∀ p ∈ (l, oL) :: Led c, p.1 ≠ I) →
      Fr h₀ env.locals h (fun y => if y = x then some (.int k t) else kstB (fun z => if stored.contains z then u z else m₀ z) (ps c) y) → News h₀ env.locals h ((I, oI) :: (l, oL) :: Led c) →
      wpAny (model prog w) A (execs body env) (JPost h₀ env.locals s x (fun c => (l, oL) :: Led c) (fun c => ps c ++ ps1 c) stored m₀ (P (i + 1)) I oI Q) E { s with heap := h, toks := tk })
    (done : ∀ (c : σ) (m' : Str → Option Value) h tk, P ns.length c → Fr h₀ env.locals h (kstB m' (ps c ++ ps1 c)) → News h₀ env.locals h (Led c) → Q .next { s with heap := h, toks := tk }) :
    wpAny (model prog w) A (pyIter (.ref l)) (fun it s₂ => LoopAtV prog w A h₀ env x body Q E it s₂) E s := by
  have Nl := N _ List.mem_cons_self
  have hls : s.heap.IsList l vs.toArray := PySem.IsL.isList (n := n) Nl.1
  have hne : l ≠ s.heap.objs.size := Nat.ne_of_lt (Heap.lt_size Nl.1)
  have N0 : News h₀ env.locals s.heap (Led c₀) := News_tl N
  refine wpAny_pyIter_list hls ?_
  have W := Walks.list (prog := prog) (w := w) hh s.heap.objs.size l hne vs.toArray
  have hlen : vs.toArray.size = ns.length := by simp [hi.length]
  rw [hlen] at W
  let J : Nat → (Str → Option Value) → List (Addr × Obj) → Prop := fun i m nx => ∃ c : σ, nx = Led c ∧ (∀ p ∈ ps c, m p.1 = some p.2) ∧ (i = 0 ∨ ∀ p ∈ ps1 c, m p.1 = some p.2) ∧ (∀ z, z ≠ x → (∀ p ∈ ps c, z ≠ p.1) → stored.contains z = false → m z = m₀ z) ∧ P i c
  refine ⟨_, _, _, ns.length, _, _, m₀, Led c₀, J, rfl, W, ?_, ?_, ?_, ⟨⟨_, Heap.get?_push_size _ rfl, rfl, rfl⟩, hls.at fun o e => Heap.get?_push_of_some _ e⟩, F.push _, (fun p hp => ⟨Heap.get?_push_of_some _ (N0 p hp).1, (N0 p hp).2⟩), ⟨c₀, rfl, hk, .inl rfl, fun _ _ _ _ => rfl, hp⟩, ?_, ?_⟩
  · intro hm
    rcases List.mem_cons.mp hm with e | hm
    · exact absurd F.ns.lt (e ▸ Nat.lt_irrefl _)
    · exact Nl.2.1 (List.mem_singleton.mp hm).symm
  · intro b hb
    rw [List.mem_singleton.mp hb]
    exact next_is_new F
  · intro p hp hI
    exact absurd (Heap.lt_size (N0 p hp).1) (by rw [List.mem_singleton.mp hI]; exact Nat.lt_irrefl _)
  · rintro i v m₁ news₁ s₁ own ⟨hh', tk', rfl⟩ hin hP ⟨c, rfl, h1, _, h2, hPc⟩ hoff hown hget hfp hst F₁ N₁
    have hI0 : h₀.get? s.heap.objs.size = none := next_is_new F
    obtain ⟨oI, hoI⟩ : ∃ o, hh'.get? s.heap.objs.size = some o := let ⟨o, ho, _⟩ := hst.1; ⟨o, ho⟩
    obtain ⟨oL, hoL⟩ : ∃ o, hh'.get? l = some o := let ⟨o, ho, _⟩ := hst.2; ⟨o, ho⟩
    have hIown := hfp _ List.mem_cons_self hI0 _ hoI
    have hLown := hfp _ (List.mem_cons_of_mem _ (List.mem_singleton.mpr rfl)) Nl.2.2 _ hoL
    have hlt' : i < ns.length := hin
    obtain ⟨t, hx⟩ := hi.get i ns[i] (by simp [hlt'])
    have hv : v = .int ns[i] t := by
      have hP' : vs[i]? = some v := by simpa using hP
      rw [hx] at hP'; exact (Option.some.inj hP').symm
    subst hv
    refine wpAny_mono (turn c i ns[i] t m₁ hh' tk' s.heap.objs.size oI oL (by simp [hlt']) hPc (fun p hp e => ?_) (kst_fr h1 h2 F₁) (fun p hp => ?_)) (fun f s₂ q => ?_) fun _ _ e => e
    · rcases List.mem_cons.mp hp with rfl | hp
      · exact hne e
      · exact hoff p hp (by rw [e]; exact List.mem_cons_self)
    · rcases List.mem_cons.mp hp with rfl | hp
      · exact N₁ _ (List.mem_append.mpr (.inl hIown))
      · rcases List.mem_cons.mp hp with rfl | hp
        · exact N₁ _ (List.mem_append.mpr (.inl hLown))
        · exact N₁ _ (List.mem_append.mpr (.inr hp))
    · have fin : JEnd h₀ env.locals s x (fun c => (l, oL) :: Led c) (fun c => ps c ++ ps1 c) stored m₀ (P (i + 1)) s.heap.objs.size oI s₂ → LoopStepU h₀ env.locals [s.heap.objs.size] own (J (i + 1)) { s with heap := hh', toks := tk' } .next s₂ := by
        rintro ⟨c', h', tk, m', news', e, F', N', hn', hi', ha', hk', hr', hp'⟩
        refine ⟨rfl, h', tk, m', Led c', e, F', fun p hp => ?_, fun p hp hq => ha' p (List.mem_cons_of_mem _ hp) (List.mem_singleton.mp hq), c', rfl, (fun p hp => hk' p (List.mem_append_left _ hp)), .inr (fun p hp => hk' p (List.mem_append_right _ hp)), (fun z h1 h2 h3 => hr' z h1 (fun p hp => by
          rcases List.mem_append.mp hp with q | q
          · exact h2 p q
          · intro e
            rcases hsub c' p q with e2 | e2
            · exact h1 (e.trans e2)
            · rw [e, e2] at h3; cases h3) h3), hp'⟩
        rcases List.mem_append.mp hp with h | h
        · have h3 : hh'.get? p.1 = some p.2 := hget p h
          rcases List.mem_cons.mp (hown p h) with h1 | h1
          · rw [h1] at h3
            rw [show p = (s.heap.objs.size, oI) from Prod.ext h1 (Option.some.inj (h3.symm.trans hoI))]
            exact N' _ hi'
          · have h1 := List.mem_singleton.mp h1
            rw [h1] at h3
            rw [show p = (l, oL) from Prod.ext h1 (Option.some.inj (h3.symm.trans hoL))]
            exact N' _ (hn' _ List.mem_cons_self)
        · exact N' p (hn' p (List.mem_cons_of_mem _ h))
      cases f with
      | ret v => exact .ret q
      | brk => exact .brk q
      | next => exact .next (fin q)
      | cont => exact .cont (fin q)
  · rintro h' tk m' news' F' N' _ ⟨c, rfl, h1, h1', h2, hPc⟩
    have h1'' := h1'.resolve_left (by omega)
    exact done c m' h' tk hPc (by rw [kstB_same (fun p hp => (List.mem_append.mp hp).elim (h1 p) (h1'' p))]; exact F') N'
end
theorem bd_two {a b k : Int} {i : Nat} (ha : Bd 400 a) (hb : Bd 400 b) (h : [a, b][i]? = some k) : Bd 400 k := by
  match i, h with
  | 0, h => exact Option.some.inj h ▸ ha
  | 1, h => exact Option.some.inj h ▸ hb
  | _ + 2, h => cases h
end

set_option maxRecDepth 100000 in
set_option maxHeartbeats 8000000 in
open_top hd for PySem.Challenge.rw_ys0002_12

section
local macro_rules | `(tactic| walk_at "nowhere0") => `(tactic| fail "nowhere")
set_option maxRecDepth 100000 in
set_option maxHeartbeats 8000000 in
theorem take_c {prog : Program} {w : World} {p : Program} {loose mean mg mb} {most : Int} {tm : Tok} (hm : 1 ≤ most) (hm2 : most < 2 ^ 30) :
    StC prog w (hd.heap_39 w.params) p loose mean mg mb 41 (fun st => [.ref st, .int most tm]) 10 (fun v => ∃ r t, v = .int r t ∧ 0 ≤ r ∧ r < most) := by
  intro dp un gd cn cs a ccd cl outer A₀ base h₀ L m s Q E st c i ti vs n1 n2 rest B F X N T hk hne hoff hw hd hu ret
  obtain ⟨ns, hI, ⟨hi0, hn0, hn1, hnn⟩⟩ := hw
  refine wpAny_call ?_
  k_dflt cell_enter
  k_steps
  all_goals ((rename Fr h₀ L _ m => kF); (rename News h₀ L _ _ => kN); (exact ret _ _ _ _ _ _ _ _ ⟨_, by with_reducible assumption, by first | exact ⟨by omega, hn0, hn1, hnn⟩ | exact ⟨hi0, by simpa using hn0, by simpa using hn1, set_nn hnn (fdiv_nn (getD_nn hnn _) hm) _⟩⟩ ⟨_, _, rfl, fmod_lo hm, fmod_hi hm⟩ kF kN))
local macro_rules | `(tactic| walk_at "call ref") => `(tactic| (k_here; (with_reducible show wpAny _ _ (call (Value.ref 41) _) _ _ _); k_dflt (refine' StC.use (take_c ?m1 ?m2) ?B ?F ?X ?N ?T ?k ?U1 ?U2 ?W ?d ?u ?_; (case B => k_asm); (case F => k_asm); (case X => k_asm); (case N => k_asm); (case T => k_asm); (case k => first | exact rfl | assumption); (case U1 => k_updF); (case U2 => intro o; (try dsimp only); k_updF); (case W => with_reducible assumption); (case m1 => omega); (case m2 => omega); (case d => ktr_room); (case u => ktr_units); k_whole; (rintro v i' ti' vs' n1' n2' h' tk' hW' ⟨r, t, hv, r0, r1⟩ F' N'); subst hv; (try dsimp only at N'); (try k_sweep))))
local macro_rules | `(tactic| walk_at "pyIter ref") => `(tactic| ((rename LoopStop => hLs'); refine Stop.here ?_))
local macro_rules | `(tactic| k_all) => `(tactic| assumption)
local macro_rules | `(tactic| walk_at "JPost") => `(tactic| dsimp only [JPost])
local macro_rules | `(tactic| k_room) => `(tactic| ktr_room)
set_option maxRecDepth 100000 in
set_option maxHeartbeats 8000000 in
theorem great_c {prog : Program} {w : World} {p : Program} {loose mean mg mb} {words : Int} {tm : Tok} (hm : 1 ≤ words) (hm2 : words ≤ 20) :
    StC prog w (hd.heap_39 w.params) p loose mean mg mb 48 (fun st => [.ref st, .int words tm]) 20 (fun v => ∃ r t, v = .int r t ∧ 0 ≤ r ∧ r < 1000003 ^ words.toNat) := by
  intro dp un gd cn cs a ccd cl outer A₀ base h₀ L m s Q E st c i ti vs n1 n2 rest B F X N T hk hne hoff hw hd hu ret
  refine wpAny_call ?_
  k_dflt cell_enter
  have hstop : LoopStop := {}
  k_steps
  refine Stop.go ?_
  rename Fr _ _ _ _ => lF
  rename News _ _ _ _ => lN
  rename IsRange _ _ _ _ _ _ _ _ => rgX
  with_unfolding_all refine' (j_range (σ := (Int × Tok × List Value × Nat × Nat) × Int × Tok)
      (fun x => (st, listOf #[.int x.1.1 x.1.2.1, .ref c] x.1.2.2.2.1) :: (c, listOf x.1.2.2.1.toArray x.1.2.2.2.2) :: rest)
      (fun x => [(Str.ofString "number", .int x.2.1 x.2.2)]) []
      (fun i x => SW x.1.1 x.1.2.2.1 ∧ 0 ≤ x.2.1 ∧ x.2.1 < 1000003 ^ i)
      ⟨⟨_, _, _, _, _⟩, _, _⟩ (by rfl) rgX (small_one (by omega) (by omega) (by omega) (by omega)) (rangeSize_nat _ _) lF lN (by kst_all) ⟨hw, (Int.le_refl 0 : (0:Int) ≤ 0), (by decide : (0:Int) < 1000003 ^ 0)⟩ ?_ ?_)
  all_goals clear lF lN
  · rintro ⟨⟨xi, xti, xvs, xn1, xn2⟩, num, tnum⟩ ii k t u h tk I oI hk' hi ⟨hw2, q0, q1⟩ hoff2 F' N'
    dsimp only [kstB] at hw2 q0 q1 hoff2 F' N'
    obtain ⟨hf1, hf2, hf3⟩ := off2 hoff2
    clear hoff2
    k_steps
    exact jend ⟨⟨_, _, _, _, _⟩, _, _⟩ (by assumption) (by assumption) (by kst_in) (by kst_entry) (by k_all) (by kst_all) (by kst_same) ⟨by with_reducible assumption, great_step q0 q1 (by assumption) (by assumption)⟩
  · rintro ⟨⟨xi, xti, xvs, xn1, xn2⟩, num, tnum⟩ u h tk ⟨hw2, q0, q1⟩ F' N'
    dsimp only [kstB] at hw2 q0 q1 F' N'
    k_steps
    (rename Fr h₀ L _ m => kF); (rename News h₀ L _ _ => kN)
    exact ret _ _ _ _ _ _ _ _ hw2 ⟨_, _, rfl, q0, by simpa using q1⟩ kF kN
local macro_rules | `(tactic| walk_at "call ref") => `(tactic| (k_here; (with_reducible show wpAny _ _ (call (Value.ref 48) _) _ _ _); k_dflt (refine' StC.use (great_c ?m1 ?m2) ?B ?F ?X ?N ?T ?k ?U1 ?U2 ?W ?d ?u ?_; (case B => k_asm); (case F => k_asm); (case X => k_asm); (case N => k_asm); (case T => k_asm); (case k => first | exact rfl | assumption); (case U1 => k_updF); (case U2 => intro o; (try dsimp only); k_updF); (case W => with_reducible assumption); (case m1 => omega); (case m2 => omega); (case d => ktr_room); (case u => ktr_units); k_whole; (rintro v i' ti' vs' n1' n2' h' tk' hW' ⟨r, t, hv, r0, r1⟩ F' N'); subst hv; (try dsimp only at N'); (try k_sweep))))
set_option maxRecDepth 100000 in
set_option maxHeartbeats 8000000 in
theorem number_c {prog : Program} {w : World} {p : Program} {loose mean mg mb} :
    StC prog w (hd.heap_39 w.params) p loose mean mg mb 55 (fun st => [.ref st]) 30 (fun v => ∃ r t, v = .int r t ∧ Bd 300 r) := by
  intro dp un gd cn cs a ccd cl outer A₀ base h₀ L m s Q E st c i ti vs n1 n2 rest B F X N T hk hne hoff hw hd hu ret
  refine wpAny_call ?_
  k_dflt cell_enter
  k_steps
  all_goals ((rename Fr h₀ L _ m => kF); (rename News h₀ L _ _ => kN))
  · exact ret _ _ _ _ _ _ _ _ (by with_reducible assumption) ⟨_, _, rfl, bd_menu (by assumption) (by assumption)⟩ kF (News_tl kN)
  · exact ret _ _ _ _ _ _ _ _ (by with_reducible assumption) ⟨_, _, rfl, bd_pow (by assumption) (by assumption) (by assumption) (by assumption)⟩ kF kN
  · exact ret _ _ _ _ _ _ _ _ (by with_reducible assumption) ⟨_, _, rfl, bd_great (by assumption) (by assumption) (by omega)⟩ kF kN
end

section
local macro_rules | `(tactic| walk_at "nowhere0") => `(tactic| fail "nowhere")
local macro_rules | `(tactic| walk_at "nowhere1") => `(tactic| fail "nowhere")
local macro_rules | `(tactic| walk_at "nowhere2") => `(tactic| fail "nowhere")
local macro_rules | `(tactic| walk_at "nowhere3") => `(tactic| fail "nowhere")
local macro_rules | `(tactic| walk_at "nowhere4") => `(tactic| fail "nowhere")
local macro_rules | `(tactic| walk_at "nowhere5") => `(tactic| fail "nowhere")
local macro_rules | `(tactic| k_ne) => `(tactic| (refine neN ?_; (try dsimp only); first | with_reducible assumption | exact Ne.symm (by with_reducible assumption) | ((repeat (cases ‹_ ∧ _›)); first | with_reducible assumption | exact Ne.symm (by with_reducible assumption) | ((repeat (rename @Ne Nat _ _ => hq9; clear hq9)); omega))))
set_option maxRecDepth 100000 in
set_option maxHeartbeats 8000000 in
theorem state_c {prog : Program} {w : World} {p : Program} {loose mean mg mb} {l : Addr} {ws : List Value} {ks : List Int} (hI : IntsAre ws ks) (hlen : ks.length ≤ 63) :
    PuN prog w (hd.heap_39 w.params) p loose mean mg mb 34 [.ref l] 10 (fun h => h.IsList l ws.toArray)
      (fun v tl => ∃ st c t vs n1 n2, v = .ref st ∧ @Ne Nat st c ∧ SW 0 vs ∧ tl = [(st, listOf #[.int 0 t, .ref c] n1), (c, listOf vs.toArray n2)]) := by
  intro dp un gd cn cs a ccd cl outer A₀ base h₀ L m s Q E news B F X N T hk hP hd hu ret
  refine wpAny_call ?_
  k_dflt (refine' code_defP ?k1 ?k2 ?k3 ?k4 ?k5 ?kA ?kF ?kK ?k6 ?k7 ?k8 ?k9 ?kB ?_ ?c2 ?c3 ?c4 ?c5; (case kA => exact rfl); (case kF => exact rfl); (case kK => assumption); (case k1 => k_asm); (case k2 => k_asm); (case k3 => k_asm); (case k4 => k_asm); (case k5 => k_asm); (case k6 => k_is); (case k7 => k_is); (case k8 => ktr_room); (case k9 => exact BindsTo.of_eq rfl); (case c5 => decide); (case kB => exact locs rfl); (case c2 => exact rfl); (case c3 => exact rfl); (case c4 => exact rfl); k_whole; intro g' L' h' hg' hlow' FG' F' N' B' X' T'; (try dsimp only); (try k_lift B'); (try k_fold))
  have hL : g'.IsList l ws.toArray := hg' ▸ hP
  k_steps
  all_goals ((rename News g' L' _ _ => kN'); (rename Fr h₀ L _ m => kF); (rename News h₀ L _ news => hN9); (rename News h₀ L _ (_ :: _) => kN))
  · exact ret _ [_, _] _ _ ⟨_, _, _, _, _, _, rfl, (by exact Nat.ne_of_gt (by omega)), (by exact ⟨[0], .cons _ _ .nil, ⟨by decide, by decide, by decide, by simp⟩⟩), rfl⟩ (apart_two kN' hg' N) kF (news_two kN hN9)
  · have hI9 := (by assumption : IntsAre _ (List.map (fun k' => if k' < 0 then -k' else k') (List.take 63 ks)))
    have hl9 : 0 < (List.map (fun k' => if k' < 0 then -k' else k') (List.take 63 ks)).length ∧ (List.map (fun k' => if k' < 0 then -k' else k') (List.take 63 ks)).length ≤ 63 := by
      simp only [List.length_map] at *; omega
    exact ret _ [_, _] _ _ ⟨_, _, _, _, _, _, rfl, (by exact Nat.ne_of_gt (by omega)), (by exact ⟨_, hI9, ⟨by decide, hl9.1, hl9.2, abs_nn _⟩⟩), rfl⟩ (apart_two kN' hg' N) kF (news_two kN hN9)
end

section
local macro_rules | `(tactic| walk_at "nowhere0") => `(tactic| fail "nowhere")
local macro_rules | `(tactic| walk_at "nowhere1") => `(tactic| fail "nowhere")
local macro_rules | `(tactic| walk_at "nowhere2") => `(tactic| fail "nowhere")
local macro_rules | `(tactic| walk_at "pyIter ref") => `(tactic| ((rename LoopStop => hLs'); refine Stop.here ?_))
local macro_rules | `(tactic| k_all) => `(tactic| assumption)
local macro_rules | `(tactic| walk_at "JPost") => `(tactic| dsimp only [JPost])
local macro_rules | `(tactic| k_room) => `(tactic| ktr_room)
local macro_rules | `(tactic| k_ne) => `(tactic| (refine neN ?_; (try dsimp only); first | with_reducible assumption | exact Ne.symm (by with_reducible assumption) | ((repeat (cases ‹_ ∧ _›)); first | with_reducible assumption | exact Ne.symm (by with_reducible assumption) | ((repeat (rename @Ne Nat _ _ => hq9; clear hq9)); omega))))
local macro_rules | `(tactic| walk_at "callWith ref") => `(tactic| (k_here; k_dflt (refine' callWith_fb ?kfbN ?kfbM ?_ ?ka ?kb; (case kfbN => k_asm); (case kfbM => k_mem); (case ka => rfl); (case kb => rfl); k_whole)))
local macro_rules | `(tactic| walk_at "call ref") => `(tactic| (k_here; k_dflt (refine' call_fb ?kfbN ?kfbM ?kl ?_; (case kfbN => k_asm); (case kfbM => k_mem); (case kl => assumption)); intro _ _))
set_option maxRecDepth 100000 in
set_option maxHeartbeats 8000000 in
theorem b2i_c {prog : Program} {w : World} {p : Program} {loose mean mg mb} {b : Array UInt8} {tb : Tok} (hb : b.size ≤ 10000) :
    PuP prog w (hd.heap_39 w.params) p loose mean mg mb 21 [.bytes b tb] 10 (fun h => True)
      (fun v tl => ∃ r t, v = .int r t ∧ r = KFB.value (KBw.bInts b) ∧ tl = []) := by
  intro dp un gd cn cs a ccd cl outer A₀ base h₀ L m s Q E news B F X N T hk hP hd hu ret
  refine wpAny_call ?_
  k_dflt (refine' code_defP ?k1 ?k2 ?k3 ?k4 ?k5 ?kA ?kF ?kK ?k6 ?k7 ?k8 ?k9 ?kB ?_ ?c2 ?c3 ?c4 ?c5; (case kA => exact rfl); (case kF => exact rfl); (case kK => assumption); (case k1 => k_asm); (case k2 => k_asm); (case k3 => k_asm); (case k4 => k_asm); (case k5 => k_asm); (case k6 => k_is); (case k7 => k_is); (case k8 => ktr_room); (case k9 => exact BindsTo.of_eq rfl); (case c5 => decide); (case kB => exact locs rfl); (case c2 => exact rfl); (case c3 => exact rfl); (case c4 => exact rfl); k_whole; intro g' L' h' hg' hlow' FG' F' N' B' X' T'; (try dsimp only); (try k_lift B'); (try k_fold))
  k_steps
  all_goals ((rename Fr h₀ L _ m => kF); (rename News h₀ L _ news => hN9))
  exact ret _ [] _ _ ⟨_, _, rfl, rfl, rfl⟩ (fun q hq => nomatch hq) kF hN9
end

section
local macro_rules | `(tactic| walk_at "nowhere0") => `(tactic| fail "nowhere")
local macro_rules | `(tactic| walk_at "nowhere1") => `(tactic| fail "nowhere")
local macro_rules | `(tactic| walk_at "nowhere2") => `(tactic| fail "nowhere")
local macro_rules | `(tactic| walk_at "nowhere3") => `(tactic| fail "nowhere")
local macro_rules | `(tactic| walk_at "pyIter ref") => `(tactic| ((rename LoopStop => hLs'); refine Stop.here ?_))
local macro_rules | `(tactic| k_all) => `(tactic| assumption)
local macro_rules | `(tactic| walk_at "JPost") => `(tactic| dsimp only [JPost])
local macro_rules | `(tactic| k_room) => `(tactic| ktr_room)
local macro_rules | `(tactic| k_ne) => `(tactic| (refine neN ?_; (try dsimp only); first | with_reducible assumption | exact Ne.symm (by with_reducible assumption) | ((repeat (cases ‹_ ∧ _›)); first | with_reducible assumption | exact Ne.symm (by with_reducible assumption) | ((repeat (rename @Ne Nat _ _ => hq9; clear hq9)); omega))))
local macro_rules | `(tactic| walk_at "call builtin:int.to_bytes") => `(tactic| (k_here; (try simp only [List.cons_append, List.nil_append]); (with_reducible show wpAny _ _ (call (Value.builtin "int.to_bytes") [Value.int _ _, Value.int _ _, Value.str _ _]) _ _ _); k_dflt (refine' call_tbI ?a ?b ?c ?d ?_; (case a => omega); (case b => omega); (case c => assumption); (case d => first | assumption | exact need_to (by assumption))); intro b' t' k' hB'))
local macro_rules | `(tactic| walk_at "call builtin:int.to_bytes") => `(tactic| (k_here; (try simp only [List.cons_append, List.nil_append]); (with_reducible show wpAny _ _ (call (Value.builtin "int.to_bytes") [Value.int _ _, Value.int (ite _ _ _) _, Value.str _ _]) _ _ _); k_dflt (refine' call_tb_need ?a ?b ?_; (case a => assumption); (case b => assumption)); intro b' t' k' hB'))
theorem need_to {x : Int} (h0 : 0 ≤ x) : x < 256 ^ need x := need_lt h0
set_option maxRecDepth 100000 in
set_option maxHeartbeats 8000000 in
theorem i2b_fill {prog : Program} {w : World} {p : Program} {loose mean mg mb} {x f : Int} {tx tf : Tok} (h0 : 0 ≤ x) (f0 : 0 < f) (f1 : f ≤ 10000) (h1 : x < 256 ^ f.toNat) :
    PuP prog w (hd.heap_39 w.params) p loose mean mg mb 29 [.int x tx, .int f tf] 10 (fun h => True)
      (fun v tl => (∃ b t, v = .bytes b t ∧ KBw.bInts b = octs f.toNat x) ∧ tl = []) := by
  intro dp un gd cn cs a ccd cl outer A₀ base h₀ L m s Q E news B F X N T hk hP hd hu ret
  refine wpAny_call ?_
  k_dflt (refine' code_defP ?k1 ?k2 ?k3 ?k4 ?k5 ?kA ?kF ?kK ?k6 ?k7 ?k8 ?k9 ?kB ?_ ?c2 ?c3 ?c4 ?c5; (case kA => exact rfl); (case kF => exact rfl); (case kK => assumption); (case k1 => k_asm); (case k2 => k_asm); (case k3 => k_asm); (case k4 => k_asm); (case k5 => k_asm); (case k6 => k_is); (case k7 => k_is); (case k8 => ktr_room); (case k9 => exact binds_K (by k_in) rfl (by k_is) rfl rfl rfl); (case c5 => decide); (case kB => exact locs rfl); (case c2 => exact rfl); (case c3 => exact rfl); (case c4 => exact rfl); k_whole; intro g' L' h' hg' hlow' FG' F' N' B' X' T'; (try dsimp only); (try k_lift B'); (try k_fold))
  k_steps
  all_goals ((rename Fr h₀ L _ m => kF); (rename News h₀ L _ news => hN9))
  exact ret _ [] _ _ ⟨⟨_, _, rfl, by assumption⟩, rfl⟩ (fun q hq => nomatch hq) kF hN9
set_option maxRecDepth 100000 in
set_option maxHeartbeats 8000000 in
theorem i2b_min {prog : Program} {w : World} {p : Program} {loose mean mg mb} {x f : Int} {tx tf : Tok} (h0 : 0 ≤ x) (f0 : f ≤ 0) (h1 : SBd 9000 x) :
    PuP prog w (hd.heap_39 w.params) p loose mean mg mb 29 [.int x tx, .int f tf] 10 (fun h => True)
      (fun v tl => (∃ b t, v = .bytes b t ∧ KBw.bInts b = octs (need x) x) ∧ tl = []) := by
  intro dp un gd cn cs a ccd cl outer A₀ base h₀ L m s Q E news B F X N T hk hP hd hu ret
  refine wpAny_call ?_
  k_dflt (refine' code_defP ?k1 ?k2 ?k3 ?k4 ?k5 ?kA ?kF ?kK ?k6 ?k7 ?k8 ?k9 ?kB ?_ ?c2 ?c3 ?c4 ?c5; (case kA => exact rfl); (case kF => exact rfl); (case kK => assumption); (case k1 => k_asm); (case k2 => k_asm); (case k3 => k_asm); (case k4 => k_asm); (case k5 => k_asm); (case k6 => k_is); (case k7 => k_is); (case k8 => ktr_room); (case k9 => exact binds_K (by k_in) rfl (by k_is) rfl rfl rfl); (case c5 => decide); (case kB => exact locs rfl); (case c2 => exact rfl); (case c3 => exact rfl); (case c4 => exact rfl); k_whole; intro g' L' h' hg' hlow' FG' F' N' B' X' T'; (try dsimp only); (try k_lift B'); (try k_fold))
  k_steps
  all_goals ((rename Fr h₀ L _ m => kF); (rename News h₀ L _ news => hN9))
  exact ret _ [] _ _ ⟨⟨_, _, rfl, by assumption⟩, rfl⟩ (fun q hq => nomatch hq) kF hN9
set_option maxRecDepth 100000 in
set_option maxHeartbeats 8000000 in
theorem i2b_one {prog : Program} {w : World} {p : Program} {loose mean mg mb} {x : Int} {tx : Tok} (h0 : 0 ≤ x) (h1 : SBd 9000 x) :
    PuP prog w (hd.heap_39 w.params) p loose mean mg mb 29 [.int x tx] 10 (fun h => True)
      (fun v tl => (∃ b t, v = .bytes b t ∧ KBw.bInts b = octs (need x) x) ∧ tl = []) := by
  intro dp un gd cn cs a ccd cl outer A₀ base h₀ L m s Q E news B F X N T hk hP hd hu ret
  refine wpAny_call ?_
  k_dflt (refine' code_defP ?k1 ?k2 ?k3 ?k4 ?k5 ?kA ?kF ?kK ?k6 ?k7 ?k8 ?k9 ?kB ?_ ?c2 ?c3 ?c4 ?c5; (case kA => exact rfl); (case kF => exact rfl); (case kK => assumption); (case k1 => k_asm); (case k2 => k_asm); (case k3 => k_asm); (case k4 => k_asm); (case k5 => k_asm); (case k6 => k_is); (case k7 => k_is); (case k8 => ktr_room); (case k9 => exact binds_K (by k_in) rfl (by k_is) rfl rfl rfl); (case c5 => decide); (case kB => exact locs rfl); (case c2 => exact rfl); (case c3 => exact rfl); (case c4 => exact rfl); k_whole; intro g' L' h' hg' hlow' FG' F' N' B' X' T'; (try dsimp only); (try k_lift B'); (try k_fold))
  k_steps
  all_goals ((rename Fr h₀ L _ m => kF); (rename News h₀ L _ news => hN9))
  exact ret _ [] _ _ ⟨⟨_, _, rfl, by assumption⟩, rfl⟩ (fun q hq => nomatch hq) kF hN9
end

section
local macro_rules | `(tactic| walk_at "nowhere0") => `(tactic| fail "nowhere")
local macro_rules | `(tactic| walk_at "nowhere1") => `(tactic| fail "nowhere")
local macro_rules | `(tactic| walk_at "call type:list") => `(tactic| (k_here; (with_reducible show wpAny _ _ (call (Value.type _) [Value.bytes _ _]) _ _ _); k_dflt (refine' list_bytes_K rfl ?lF ?lN ?lb ?ln ?_; (case lF => k_asm); (case lN => k_asm); (case lb => assumption); (case ln => ((try simp only [octs_length]); omega))); intro D' vs' n' h' tk' F' N' l1' hI' hl'; (try k_lt l1')))
local macro_rules | `(tactic| walk_at "pyIter ref") => `(tactic| ((rename LoopStop => hLs'); refine Stop.here ?_))
local macro_rules | `(tactic| k_all) => `(tactic| assumption)
local macro_rules | `(tactic| walk_at "JPost") => `(tactic| dsimp only [JPost])
local macro_rules | `(tactic| k_room) => `(tactic| ktr_room)
local macro_rules | `(tactic| k_ne) => `(tactic| (refine neN ?_; (try dsimp only); first | with_reducible assumption | exact Ne.symm (by with_reducible assumption) | ((repeat (cases ‹_ ∧ _›)); first | with_reducible assumption | exact Ne.symm (by with_reducible assumption) | ((repeat (rename @Ne Nat _ _ => hq9; clear hq9)); omega))))
local macro_rules | `(tactic| walk_at "call ref") => `(tactic| (k_here; (with_reducible show wpAny _ _ (call (Value.ref 29) [Value.int _ _, Value.int _ _]) _ _ _); k_dflt (refine' PuP.use (i2b_min ?q1 ?q2 ?q3) ?B ?F ?X ?N ?T ?k ?P ?d ?u ?_; (case B => k_asm); (case F => k_asm); (case X => k_asm); (case N => k_asm); (case T => k_asm); (case k => first | exact rfl | assumption); (case q1 => first | assumption | omega); (case q2 => first | assumption | omega); (case q3 => first | assumption | exact SBd.mono (by assumption) (by decide)); (case P => trivial); (case d => ktr_room); (case u => ktr_units); k_whole; (rintro v tl h' tk' ⟨⟨b, t, hv, hB⟩, htl⟩ hlt F' N'); clear hlt; subst hv; subst htl; (try simp only [List.nil_append] at N'); (try k_sweep))))
local macro_rules | `(tactic| walk_at "call ref") => `(tactic| (k_here; (with_reducible show wpAny _ _ (call (Value.ref 29) [Value.int _ _, Value.int _ _]) _ _ _); k_dflt (refine' PuP.use (i2b_fill ?q1 ?q2 ?q3 ?q4) ?B ?F ?X ?N ?T ?k ?P ?d ?u ?_; (case B => k_asm); (case F => k_asm); (case X => k_asm); (case N => k_asm); (case T => k_asm); (case k => first | exact rfl | assumption); (case q1 => first | assumption | omega); (case q2 => first | assumption | omega); (case q3 => first | assumption | omega); (case q4 => first | assumption | exact val_fit (by assumption) (by assumption)); (case P => trivial); (case d => ktr_room); (case u => ktr_units); k_whole; (rintro v tl h' tk' ⟨⟨b, t, hv, hB⟩, htl⟩ hlt F' N'); clear hlt; subst hv; subst htl; (try simp only [List.nil_append] at N'); (try k_sweep))))
local macro_rules | `(tactic| walk_at "call ref") => `(tactic| (k_here; (with_reducible show wpAny _ _ (call (Value.ref 29) [Value.int _ _]) _ _ _); k_dflt (refine' PuP.use (i2b_one ?q1 ?q2) ?B ?F ?X ?N ?T ?k ?P ?d ?u ?_; (case B => k_asm); (case F => k_asm); (case X => k_asm); (case N => k_asm); (case T => k_asm); (case k => first | exact rfl | assumption); (case q1 => first | assumption | omega); (case q2 => first | assumption | exact SBd.mono (Bd.sbd (by assumption)) (by decide)); (case P => trivial); (case d => ktr_room); (case u => ktr_units); k_whole; (rintro v tl h' tk' ⟨⟨b, t, hv, hB⟩, htl⟩ hlt F' N'); clear hlt; subst hv; subst htl; (try simp only [List.nil_append] at N'); (try k_sweep))))
local macro_rules | `(tactic| walk_at "call builtin:int.to_bytes") => `(tactic| (k_here; (try simp only [List.cons_append, List.nil_append]); (with_reducible show wpAny _ _ (call (Value.builtin "int.to_bytes") [Value.int _ _, Value.int _ _, Value.str _ _]) _ _ _); k_dflt (refine' call_tbI_few rfl ?a ?b ?c ?d ?_; (case a => omega); (case b => omega); (case c => assumption); (case d => assumption)); intro _ _ _ _))
set_option maxRecDepth 100000 in
set_option maxHeartbeats 8000000 in
theorem told_lo {prog : Program} {w : World} {p : Program} {loose mean mg mb} {x f : Int} {tx tf : Tok} (h0 : x < 0) :
    TrP prog w (hd.heap_39 w.params) p loose mean mg mb 81 [.int x tx, .int f tf] 30 (fun h => True)
      (fun v tl => (∃ t, v = .str (Str.ofString "below") t) ∧ tl = []) := by
  intro dp un gd cn cs a ccd cl A₀ base h₀ L m s Q E news B F X N T hk XB TB hP hd hu ret
  refine wpAny_call ?_
  k_dflt (refine' code_defTP ?k1 ?k2 ?k3 ?k4 ?k5 ?kA ?kF ?kK ?k6 ?k7 ?k8 ?k9 ?kB ?_ ?c2 ?c3 ?c4 ?c5; (case kA => exact rfl); (case kF => exact rfl); (case kK => assumption); (case k1 => k_asm); (case k2 => k_asm); (case k3 => k_asm); (case k4 => k_asm); (case k5 => k_asm); (case k6 => k_is); (case k7 => k_is); (case k8 => ktr_room); (case k9 => exact BindsTo.of_eq rfl); (case kB => exact locs rfl); (case c2 => exact rfl); (case c3 => exact rfl); (case c4 => exact rfl); (case c5 => decide); k_whole; intro g' L' h' hg' hlow' FG' F' N' B' X' T' D'; (try dsimp only); (try k_lift B'); (try k_fold))
  k_steps
  all_goals ((rename Fr h₀ L _ m => kF); (rename News h₀ L _ news => hN9))
  exact ret _ [] _ _ ⟨⟨_, rfl⟩, rfl⟩ (fun q hq => nomatch hq) kF hN9
set_option maxRecDepth 100000 in
set_option maxHeartbeats 8000000 in
theorem told_few {prog : Program} {w : World} {p : Program} {loose mean mg mb} {x f : Int} {tx tf : Tok} (h0 : 0 ≤ x) (f0 : 0 < f) (f1 : f ≤ 10000) (h1 : 256 ^ f.toNat ≤ x) :
    TrP prog w (hd.heap_39 w.params) p loose mean mg mb 81 [.int x tx, .int f tf] 30 (fun h => True)
      (fun v tl => (∃ t, v = .str (Str.ofString "too few") t) ∧ tl = []) := by
  intro dp un gd cn cs a ccd cl A₀ base h₀ L m s Q E news B F X N T hk XB TB hP hd hu ret
  refine wpAny_call ?_
  k_dflt (refine' code_defTP ?k1 ?k2 ?k3 ?k4 ?k5 ?kA ?kF ?kK ?k6 ?k7 ?k8 ?k9 ?kB ?_ ?c2 ?c3 ?c4 ?c5; (case kA => exact rfl); (case kF => exact rfl); (case kK => assumption); (case k1 => k_asm); (case k2 => k_asm); (case k3 => k_asm); (case k4 => k_asm); (case k5 => k_asm); (case k6 => k_is); (case k7 => k_is); (case k8 => ktr_room); (case k9 => exact BindsTo.of_eq rfl); (case kB => exact locs rfl); (case c2 => exact rfl); (case c3 => exact rfl); (case c4 => exact rfl); (case c5 => decide); k_whole; intro g' L' h' hg' hlow' FG' F' N' B' X' T' D'; (try dsimp only); (try k_lift B'); (try k_fold))
  k_steps
  all_goals ((rename Fr h₀ L _ m => kF); (rename News h₀ L _ news => hN9))
  exact ret _ [] _ _ ⟨⟨_, rfl⟩, rfl⟩ (fun q hq => nomatch hq) kF hN9
set_option maxRecDepth 100000 in
set_option maxHeartbeats 8000000 in
theorem told_fill {prog : Program} {w : World} {p : Program} {loose mean mg mb} {x f : Int} {tx tf : Tok} (h0 : 0 ≤ x) (f0 : 0 < f) (f1 : f ≤ 10000) (h1 : x < 256 ^ f.toNat) :
    TrP prog w (hd.heap_39 w.params) p loose mean mg mb 81 [.int x tx, .int f tf] 30 (fun h => True)
      (fun v tl => (∃ D vs n, v = .ref D ∧ IntsAre vs (octs f.toNat x) ∧ tl = [(D, listOf vs.toArray n)])) := by
  intro dp un gd cn cs a ccd cl A₀ base h₀ L m s Q E news B F X N T hk XB TB hP hd hu ret
  refine wpAny_call ?_
  k_dflt (refine' code_defTP ?k1 ?k2 ?k3 ?k4 ?k5 ?kA ?kF ?kK ?k6 ?k7 ?k8 ?k9 ?kB ?_ ?c2 ?c3 ?c4 ?c5; (case kA => exact rfl); (case kF => exact rfl); (case kK => assumption); (case k1 => k_asm); (case k2 => k_asm); (case k3 => k_asm); (case k4 => k_asm); (case k5 => k_asm); (case k6 => k_is); (case k7 => k_is); (case k8 => ktr_room); (case k9 => exact BindsTo.of_eq rfl); (case kB => exact locs rfl); (case c2 => exact rfl); (case c3 => exact rfl); (case c4 => exact rfl); (case c5 => decide); k_whole; intro g' L' h' hg' hlow' FG' F' N' B' X' T' D'; (try dsimp only); (try k_lift B'); (try k_fold))
  k_steps
  all_goals ((rename Fr h₀ L _ m => kF); (rename News h₀ L _ news => hN9))
  (rename News g' L' _ (_ :: _) => kN'); (rename News h₀ L _ (_ :: _) => kN)
  exact ret _ [_] _ _ ⟨_, _, _, rfl, by assumption, rfl⟩ (apart_one kN' hg' N) kF (news_one kN hN9)
set_option maxRecDepth 100000 in
set_option maxHeartbeats 8000000 in
theorem told_min {prog : Program} {w : World} {p : Program} {loose mean mg mb} {x f : Int} {tx tf : Tok} (h0 : 0 ≤ x) (f0 : f ≤ 0) (h1 : SBd 9000 x) :
    TrP prog w (hd.heap_39 w.params) p loose mean mg mb 81 [.int x tx, .int f tf] 30 (fun h => True)
      (fun v tl => (∃ D vs n, v = .ref D ∧ IntsAre vs (octs (need x) x) ∧ tl = [(D, listOf vs.toArray n)])) := by
  intro dp un gd cn cs a ccd cl A₀ base h₀ L m s Q E news B F X N T hk XB TB hP hd hu ret
  refine wpAny_call ?_
  k_dflt (refine' code_defTP ?k1 ?k2 ?k3 ?k4 ?k5 ?kA ?kF ?kK ?k6 ?k7 ?k8 ?k9 ?kB ?_ ?c2 ?c3 ?c4 ?c5; (case kA => exact rfl); (case kF => exact rfl); (case kK => assumption); (case k1 => k_asm); (case k2 => k_asm); (case k3 => k_asm); (case k4 => k_asm); (case k5 => k_asm); (case k6 => k_is); (case k7 => k_is); (case k8 => ktr_room); (case k9 => exact BindsTo.of_eq rfl); (case kB => exact locs rfl); (case c2 => exact rfl); (case c3 => exact rfl); (case c4 => exact rfl); (case c5 => decide); k_whole; intro g' L' h' hg' hlow' FG' F' N' B' X' T' D'; (try dsimp only); (try k_lift B'); (try k_fold))
  have hneed : need x ≤ 9001 := need_bd h1
  k_steps
  all_goals ((rename Fr h₀ L _ m => kF); (rename News h₀ L _ news => hN9))
  (rename News g' L' _ (_ :: _) => kN'); (rename News h₀ L _ (_ :: _) => kN)
  exact ret _ [_] _ _ ⟨_, _, _, rfl, by assumption, rfl⟩ (apart_one kN' hg' N) kF (news_one kN hN9)
end

section
local macro_rules | `(tactic| walk_at "nowhere0") => `(tactic| fail "nowhere")
local macro_rules | `(tactic| walk_at "nowhere1") => `(tactic| fail "nowhere")
local macro_rules | `(tactic| walk_at "nowhere2") => `(tactic| fail "nowhere")
local macro_rules | `(tactic| walk_at "nowhere3") => `(tactic| fail "nowhere")
local macro_rules | `(tactic| walk_at "nowhere4") => `(tactic| fail "nowhere")
local macro_rules | `(tactic| walk_at "pyIter ref") => `(tactic| ((rename LoopStop => hLs'); refine Stop.here ?_))
local macro_rules | `(tactic| k_all) => `(tactic| assumption)
local macro_rules | `(tactic| walk_at "JPost") => `(tactic| dsimp only [JPost])
local macro_rules | `(tactic| k_room) => `(tactic| ktr_room)
local macro_rules | `(tactic| walk_at "exec For Name Name cons nil") => `(tactic| (k_here; (rename LoopStop => hLs'); (rename Fr _ _ _ _ => lF'); (with_unfolding_all refine' For_invVF lF' ?k1 ?k2 ?_; (case k1 => exact rfl); (case k2 => exact rfl); k_whole)))
local macro_rules | `(tactic| walk_at "LPost") => `(tactic| dsimp only [LPost])
local macro_rules | `(tactic| k_ne) => `(tactic| (refine neN ?_; (try dsimp only); first | with_reducible assumption | exact Ne.symm (by with_reducible assumption) | ((repeat (cases ‹_ ∧ _›)); first | with_reducible assumption | exact Ne.symm (by with_reducible assumption) | ((repeat (rename @Ne Nat _ _ => hq9; clear hq9)); omega))))
local macro_rules | `(tactic| walk_at "binaryOp Mult int int") => `(tactic| (k_here; k_dflt (refine' mul_bd ?a ?b ?c ?_; (case a => first | assumption | exact Bd.lit (by omega) (by omega)); (case b => assumption); (case c => decide)); intro z hz hsz))
set_option maxRecDepth 100000 in
set_option maxHeartbeats 8000000 in
theorem sum_c {prog : Program} {w : World} {p : Program} {loose mean mg mb} {l : Addr} {ws : List Value} {ks : List Int} (hI : IntsAre ws ks) (ho : Octs ks) (hlen : ks.length ≤ 1000) :
    PuP prog w (hd.heap_39 w.params) p loose mean mg mb 67 [.ref l] 10 (fun h => h.IsList l ws.toArray)
      (fun v tl => ∃ r t, v = .int r t ∧ r = val ks ∧ tl = []) := by
  intro dp un gd cn cs a ccd cl outer A₀ base h₀ L m s Q E news B F X N T hk hP hd hu ret
  refine wpAny_call ?_
  k_dflt (refine' code_defP ?k1 ?k2 ?k3 ?k4 ?k5 ?kA ?kF ?kK ?k6 ?k7 ?k8 ?k9 ?kB ?_ ?c2 ?c3 ?c4 ?c5; (case kA => exact rfl); (case kF => exact rfl); (case kK => assumption); (case k1 => k_asm); (case k2 => k_asm); (case k3 => k_asm); (case k4 => k_asm); (case k5 => k_asm); (case k6 => k_is); (case k7 => k_is); (case k8 => ktr_room); (case k9 => exact BindsTo.of_eq rfl); (case c5 => decide); (case kB => exact locs rfl); (case c2 => exact rfl); (case c3 => exact rfl); (case c4 => exact rfl); k_whole; intro g' L' h' hg' hlow' FG' F' N' B' X' T'; (try dsimp only); (try k_lift B'); (try k_fold))
  have hL : g'.IsList l ws.toArray := hg' ▸ hP
  have hstop : LoopStop := {}
  k_steps
  refine Stop.go ?_
  rename Fr _ _ _ _ => lF
  with_unfolding_all refine' (j_list (σ := Int × Tok) (fun z => [(Str.ofString "number", .int z.1 z.2)]) [] (fun i z => z.1 = val (ks.take i)) ⟨_, _⟩ (by rfl) hL ?hi lF ?kk ?kp ?_ ?_)
  case hi => assumption
  case kk => kst_all
  case kp => rfl
  all_goals clear lF
  · rintro ⟨a0, t0⟩ i n t u h tk own hn hP F' N'
    dsimp only [kstB] at hP F' N'
    have hb := val_Bd (octs_take ho i) (n := 8000) (by rw [List.length_take]; omega)
    rw [← hP] at hb
    k_steps
    refine' lend ⟨_, _⟩ ?jq1 ?jq2 ?jq3 ?jq4 ?jq5
    case jq1 => set_option maxHeartbeats 400000 in (first | assumption | fail "F")
    case jq2 => set_option maxHeartbeats 400000 in (first | assumption | fail "N")
    case jq3 => set_option maxHeartbeats 400000 in (first | kst_all | fail "names")
    case jq4 => set_option maxHeartbeats 400000 in (first | kst_same | fail "same")
    case jq5 => exact (by (dsimp only; rw [val_take hn, ← hP]; omega))
  · rintro ⟨a0, t0⟩ u h tk hP F'
    dsimp only [kstB] at hP F'
    have N9 : News g' L' h [] := News.nil
    k_steps
    (rename Fr h₀ L _ m => kF); (rename News h₀ L _ news => hN9)
    exact ret _ [] _ _ ⟨_, _, rfl, by rw [hP, List.take_length], rfl⟩ (fun q hq => nomatch hq) kF hN9
end

section
local macro_rules | `(tactic| walk_at "nowhere0") => `(tactic| fail "nowhere")
local macro_rules | `(tactic| walk_at "nowhere1") => `(tactic| fail "nowhere")
local macro_rules | `(tactic| walk_at "nowhere2") => `(tactic| fail "nowhere")
local macro_rules | `(tactic| walk_at "nowhere3") => `(tactic| fail "nowhere")
local macro_rules | `(tactic| walk_at "nowhere4") => `(tactic| fail "nowhere")
local macro_rules | `(tactic| walk_at "nowhere5") => `(tactic| fail "nowhere")
local macro_rules | `(tactic| walk_at "nowhere6") => `(tactic| fail "nowhere")
local macro_rules | `(tactic| walk_at "pyIter ref") => `(tactic| ((rename LoopStop => hLs'); refine Stop.here ?_))
local macro_rules | `(tactic| k_all) => `(tactic| assumption)
local macro_rules | `(tactic| walk_at "JPost") => `(tactic| dsimp only [JPost])
local macro_rules | `(tactic| k_room) => `(tactic| ktr_room)
local macro_rules | `(tactic| walk_at "exec For Name Name cons nil") => `(tactic| (k_here; (rename LoopStop => hLs'); (rename Fr _ _ _ _ => lF'); (with_unfolding_all refine' For_invVF lF' ?k1 ?k2 ?_; (case k1 => exact rfl); (case k2 => exact rfl); k_whole)))
local macro_rules | `(tactic| walk_at "LPost") => `(tactic| dsimp only [LPost])
local macro_rules | `(tactic| k_ne) => `(tactic| (refine neN ?_; (try dsimp only); first | with_reducible assumption | exact Ne.symm (by with_reducible assumption) | ((repeat (cases ‹_ ∧ _›)); first | with_reducible assumption | exact Ne.symm (by with_reducible assumption) | ((repeat (rename @Ne Nat _ _ => hq9; clear hq9)); omega))))
set_option maxRecDepth 100000 in
set_option maxHeartbeats 8000000 in
theorem fewest_c {prog : Program} {w : World} {p : Program} {loose mean mg mb} {x : Int} {tx : Tok} (h0 : 0 ≤ x) (h1 : SBd 7000 x) :
    PuN prog w (hd.heap_39 w.params) p loose mean mg mb 74 [.int x tx] 10 (fun h => True)
      (fun v tl => ∃ D vs n, v = .ref D ∧ tl = [(D, listOf vs.toArray n)] ∧ IntsAre vs (octs (need x) x)) := by
  intro dp un gd cn cs a ccd cl outer A₀ base h₀ L m s Q E news B F X N T hk hP hd hu ret
  refine wpAny_call ?_
  k_dflt (refine' code_defP ?k1 ?k2 ?k3 ?k4 ?k5 ?kA ?kF ?kK ?k6 ?k7 ?k8 ?k9 ?kB ?_ ?c2 ?c3 ?c4 ?c5; (case kA => exact rfl); (case kF => exact rfl); (case kK => assumption); (case k1 => k_asm); (case k2 => k_asm); (case k3 => k_asm); (case k4 => k_asm); (case k5 => k_asm); (case k6 => k_is); (case k7 => k_is); (case k8 => ktr_room); (case k9 => exact BindsTo.of_eq rfl); (case c5 => decide); (case kB => exact locs rfl); (case c2 => exact rfl); (case c3 => exact rfl); (case c4 => exact rfl); k_whole; intro g' L' h' hg' hlow' FG' F' N' B' X' T'; (try dsimp only); (try k_lift B'); (try k_fold))
  have hstop : LoopStop := {}
  k_steps
  refine Stop.go ?_
  rename Fr _ _ _ _ => lF
  rename News _ _ _ (_ :: _) => lN
  rename IsRange _ _ _ _ _ _ _ _ => rgX
  with_unfolding_all refine' (j_range (σ := (Addr × List Value × Nat) × Int × Tok) (fun z => [(z.1.1, listOf z.1.2.1.toArray z.1.2.2)]) (fun z => [(Str.ofString "row", .ref z.1.1), (Str.ofString "number", .int z.2.1 z.2.2)]) []
      (fun i z => IntsAre z.1.2.1 (octs i x) ∧ z.2.1 = x / 256 ^ i ∧ i ≤ need x)
      ⟨⟨_, _, _⟩, _, _⟩ (by rfl) rgX (by decide) (n := 1000) rfl lF lN ?kk ?kp ?_ ?_)
  case kk => kst_all
  case kp => exact ⟨.nil, by simp, by omega⟩
  all_goals clear lF lN rgX
  · rintro ⟨⟨D, vs, n⟩, y, ty⟩ i k t u h tk I oI hk' hi ⟨q0, q1, q2⟩ hoff2 F' N'
    dsimp only [kstB] at q0 q1 q2 hoff2 F' N'
    have hoff := neN (hoff2 _ List.mem_cons_self)
    clear hoff2
    dsimp only at hoff
    obtain ⟨y0, f1, f2, f3, f4⟩ := few_step h0 q1 q2
    obtain ⟨r, hr, hrl⟩ : ∃ r, r = octs i x ∧ r.length = i := ⟨_, rfl, octs_length⟩
    rw [← hr] at q0
    k_steps
    · (rename Fr h₀ L _ m => kF); (rename News h₀ L _ news => hN9); (rename News g' L' _ (_ :: _) => kN'); (rename News h₀ L _ (_ :: _) => kN)
      exact ret _ [_] _ _ ⟨_, _, _, rfl, rfl, by rw [← f1 (by assumption) (by omega), ← hr]; exact q0⟩ (apart_one (News_tl kN') hg' N) kF (news_one (News_tl kN) hN9)
    all_goals (
      refine' jend ⟨⟨_, _, _⟩, _, _⟩ ?jq1 ?jq2 ?jq3 ?jq4 ?jq5 ?jq6 ?jq7 ?jq8
      case jq1 => set_option maxHeartbeats 400000 in (first | assumption | fail "F")
      case jq2 => set_option maxHeartbeats 400000 in (first | assumption | fail "N")
      case jq3 => set_option maxHeartbeats 400000 in (first | kst_in | fail "in")
      case jq4 => set_option maxHeartbeats 400000 in (first | kst_entry | fail "entry")
      case jq5 => set_option maxHeartbeats 400000 in (first | k_all | fail "all")
      case jq6 => set_option maxHeartbeats 400000 in (first | kst_all | fail "names")
      case jq7 => set_option maxHeartbeats 400000 in (first | kst_same | fail "same")
      case jq8 => exact ⟨by (dsimp only; rw [octs_succ, ← hr, ← f4]; assumption), f3, f2 (by omega)⟩
)
  · rintro ⟨⟨D, vs, n⟩, y, ty⟩ u h tk ⟨q0, q1, q2⟩ F' N'
    have := need_bd8 h1
    omega
end

section
local macro_rules | `(tactic| walk_at "nowhere0") => `(tactic| fail "nowhere")
local macro_rules | `(tactic| walk_at "nowhere1") => `(tactic| fail "nowhere")
local macro_rules | `(tactic| walk_at "nowhere2") => `(tactic| fail "nowhere")
local macro_rules | `(tactic| walk_at "nowhere3") => `(tactic| fail "nowhere")
local macro_rules | `(tactic| walk_at "nowhere4") => `(tactic| fail "nowhere")
local macro_rules | `(tactic| walk_at "nowhere5") => `(tactic| fail "nowhere")
local macro_rules | `(tactic| walk_at "nowhere6") => `(tactic| fail "nowhere")
local macro_rules | `(tactic| walk_at "nowhere7") => `(tactic| fail "nowhere")
local macro_rules | `(tactic| walk_at "pyIter ref") => `(tactic| ((rename LoopStop => hLs'); refine Stop.here ?_))
local macro_rules | `(tactic| k_all) => `(tactic| assumption)
local macro_rules | `(tactic| walk_at "JPost") => `(tactic| dsimp only [JPost])
local macro_rules | `(tactic| k_room) => `(tactic| ktr_room)
local macro_rules | `(tactic| k_ne) => `(tactic| (refine neN ?_; (try dsimp only); first | with_reducible assumption | exact Ne.symm (by with_reducible assumption) | ((repeat (cases ‹_ ∧ _›)); first | with_reducible assumption | exact Ne.symm (by with_reducible assumption) | ((repeat (rename @Ne Nat _ _ => hq9; clear hq9)); omega))))
local macro_rules | `(tactic| walk_at "call ref") => `(tactic| (k_here; (with_reducible show wpAny _ _ (call (Value.ref 41) _) _ _ _); k_dflt (refine' StC.use (take_c ?m1 ?m2) ?B ?F ?X ?N ?T ?k ?U1 ?U2 ?W ?d ?u ?_; (case B => k_asm); (case F => k_asm); (case X => k_asm); (case N => k_asm); (case T => k_asm); (case k => first | exact rfl | assumption); (case U1 => k_updF); (case U2 => intro o; (try dsimp only); k_updF); (case W => with_reducible assumption); (case m1 => omega); (case m2 => omega); (case d => ktr_room); (case u => ktr_units); k_whole; (rintro v i' ti' vs' n1' n2' h' tk' hW' ⟨r, t, hv, r0, r1⟩ F' N'); subst hv; (try dsimp only at N'); (try k_sweep))))
local macro_rules | `(tactic| walk_at "CompSrc") => `(tactic| ((rename LoopStop => hLs'); refine Stop.here ?_))
set_option maxRecDepth 100000 in
set_option maxHeartbeats 8000000 in
theorem octets_c {prog : Program} {w : World} {p : Program} {loose mean mg mb} :
    StP prog w (hd.heap_39 w.params) p loose mean mg mb 60 (fun st => [.ref st]) 30 (fun v tl => ∃ D vs ks n, v = .ref D ∧ tl = [(D, listOf vs.toArray n)] ∧ IntsAre vs ks ∧ Octs ks ∧ ks.length ≤ 44) := by
  intro dp un gd cn cs a ccd cl outer A₀ base h₀ L m s Q E st c i ti vs n1 n2 rest B F X N N2 T hk hne hoff hw hd hu ret
  refine wpAny_call ?_
  k_dflt (refine' code_defSCP B F X N N2 hoff T ?kA ?kF ?kK ?k6 ?k7 ?k8 ?k9 ?kB ?kD ?_ ?c2 ?c3 ?c4; (case kA => exact rfl); (case kF => exact rfl); (case kK => assumption); (case k6 => k_is); (case k7 => k_is); (case k8 => ktr_room); (case k9 => exact BindsTo.of_eq rfl); (case kB => exact rfl); (case kD => decide +kernel); (case c2 => exact rfl); (case c3 => exact rfl); (case c4 => exact rfl); k_whole; intro g' L' h' tk' cells' hg' hlow' FG' F' N' Y' B' X' T'; k_cells Y'; (try simp only [List.cons_append, List.nil_append] at N'); (try k_lt hlow'); (try dsimp only); (try k_lift B'); (try k_fold))
  have hstop : LoopStop := {}
  k_steps
  · (rename Fr h₀ L _ m => kF); (rename News h₀ L _ rest => hN9); (rename News g' L' _ (_ :: _) => kN'); (rename News h₀ L _ (_ :: _) => kN)
    exact ret _ [_] _ _ _ _ _ _ _ (by with_reducible assumption) ⟨_, _, _, _, rfl, rfl, by assumption, octs_rep (oct_menu (by assumption) (by assumption)), by omega⟩ (apartS kN' hg' N2 hoff (by intro q hq; rw [List.mem_singleton.mp hq]; k_mem)) (by intro q hq; rw [List.mem_singleton.mp hq]; exact ⟨by k_ne, by k_ne⟩) kF (news_fin kN hN9 (by k_mem) (by k_mem) (by k_mem))
  · refine Stop.go ?_
    rename Fr _ _ _ _ => lF
    rename News _ _ _ _ => lN
    rename SW _ _ => hSW
    rename IsRange _ _ _ _ _ _ _ _ => rgX
    refine LCg.CompSrc.range (by rfl) lF lN rgX (small_one (by omega) (by omega) (by omega) (by omega)) (rangeSize_nat _ _) (by rw [sizeLine_eq]; omega) ?_
    intro g9
    rename Obj => oC
    (rename oC.data = _ => hcd)
    with_unfolding_all refine' comp_inv (fun i ys nx => ∃ (i' : Int) (ti' : Tok) (vs' : List Value) (n1' n2' : Nat), nx = [(L' + 1, oC), (st, listOf #[.int i' ti', .ref c] n1'), (c, listOf vs'.toArray n2')] ∧ SW i' vs' ∧ RowIs ys i) ?h0 ?hstep ?hfin
    case h0 => exact ⟨_, _, _, _, _, rfl, hSW, .nil⟩
    case hstep =>
      rintro i ys nx v I oI C oC' D m₂ h tk E' hi ⟨i', ti', vs', n1', n2', rfl, hSW', hR⟩ ⟨t9, rfl⟩ hns hx F' N' off' ne'
      simp only [LCg.Off3, and_true] at off'
      k_steps
      · with_reducible assumption
      · exact hR.snoc (by assumption) (by assumption)
    case hfin =>
      rintro ys nx ⟨i', ti', vs', n1', n2', rfl, hSW', ks, hI, hO, hk⟩
      k_steps
      all_goals ((rename Fr h₀ L _ m => kF); (rename News h₀ L _ rest => hN9); (rename News g' L' _ (_ :: _) => kN'); (rename News h₀ L _ (_ :: _) => kN))
      · exact ret _ [_] _ _ _ _ _ _ _ (by with_reducible assumption) ⟨_, _, _, _, rfl, rfl, by assumption, octs_app (octs_rep ⟨by decide, by decide⟩) (octs_drop hO _), by (rw [List.length_append]; omega)⟩ (apartS kN' hg' N2 hoff (by intro q hq; rw [List.mem_singleton.mp hq]; k_mem)) (by intro q hq; rw [List.mem_singleton.mp hq]; exact ⟨by k_ne, by k_ne⟩) kF (news_fin kN hN9 (by k_mem) (by k_mem) (by k_mem))
      · exact ret _ [_] _ _ _ _ _ _ _ (by with_reducible assumption) ⟨_, _, _, _, rfl, rfl, hI, hO, by omega⟩ (apartS kN' hg' N2 hoff (by intro q hq; rw [List.mem_singleton.mp hq]; k_mem)) (by intro q hq; rw [List.mem_singleton.mp hq]; exact ⟨by k_ne, by k_ne⟩) kF (news_fin kN hN9 (by k_mem) (by k_mem) (by k_mem))
end

section
local macro_rules | `(tactic| k_all) => `(tactic| assumption)
local macro_rules | `(tactic| k_room) => `(tactic| ktr_room)
local macro_rules | `(tactic| k_ne) => `(tactic| (refine neN ?_; (try dsimp only); first | with_reducible assumption | exact Ne.symm (by with_reducible assumption) | ((repeat (cases ‹_ ∧ _›)); first | with_reducible assumption | exact Ne.symm (by with_reducible assumption) | ((repeat (rename @Ne Nat _ _ => hq9; clear hq9)); omega))))
theorem fewest_p {prog : Program} {w : World} {p : Program} {loose mean mg mb} {x : Int} {tx : Tok} (h0 : 0 ≤ x) (h1 : SBd 7000 x) : PuN prog w (hd.heap_39 w.params) p loose mean mg mb 74 [.int x tx] 10 (fun _ => True)
    (fun v tl => ∃ D vs n r, v = .ref D ∧ tl = [(D, listOf vs.toArray n)] ∧ IntsAre vs r ∧ r = octs (need x) x ∧ r.length = need x ∧ 1 ≤ need x ∧ need x ≤ 1000) :=
  (fewest_c h0 h1).post fun v tl ⟨D, vs, n, hv, htl, hI⟩ => ⟨D, vs, n, _, hv, htl, hI, rfl, octs_length, need_pos x, by have := need_bd8 h1; omega⟩
theorem i2b_row {prog : Program} {w : World} {p : Program} {loose mean mg mb} {x : Int} {r : List Int} {tx : Tok} (h0 : 0 ≤ x) (h1 : SBd 9000 x) (hr : r = octs (need x) x) : PuP prog w (hd.heap_39 w.params) p loose mean mg mb 29 [.int x tx] 10 (fun _ => True)
    (fun v tl => (∃ b t, v = .bytes b t ∧ KBw.bInts b = r) ∧ tl = []) :=
  (i2b_one h0 h1).post fun v tl ⟨⟨b, t, hv, hB⟩, htl⟩ => ⟨⟨b, t, hv, hB.trans hr.symm⟩, htl⟩
local macro_rules | `(tactic| walk_at "call ref") => `(tactic| (k_here; (with_reducible show wpAny _ _ (call (Value.ref 41) _) _ _ _); k_dflt (refine' StC.use (take_c ?m1 ?m2) ?B ?F ?X ?N ?T ?k ?U1 ?U2 ?W ?d ?u ?_; (case B => k_asm); (case F => k_asm); (case X => k_asm); (case N => k_asm); (case T => k_asm); (case k => first | exact rfl | assumption); (case U1 => k_updF); (case U2 => intro o; (try dsimp only); k_updF); (case W => with_reducible assumption); (case m1 => omega); (case m2 => omega); (case d => ktr_room); (case u => ktr_units); k_whole; (rintro v i' ti' vs' n1' n2' h' tk' hW' ⟨r, t, hv, r0, r1⟩ F' N'); subst hv; (try dsimp only at N'); (try k_sweep))))
local macro_rules | `(tactic| walk_at "call ref") => `(tactic| (k_here; (with_reducible show wpAny _ _ (call (Value.ref 55) _) _ _ _); k_dflt (refine' StC.use number_c ?B ?F ?X ?N ?T ?k ?U1 ?U2 ?W ?d ?u ?_; (case B => k_asm); (case F => k_asm); (case X => k_asm); (case N => k_asm); (case T => k_asm); (case k => first | exact rfl | assumption); (case U1 => k_updF); (case U2 => intro o; (try dsimp only); k_updF); (case W => with_reducible assumption); (case d => ktr_room); (case u => ktr_units); k_whole; (rintro v i' ti' vs' n1' n2' h' tk' hW' ⟨r, t, hv, r0⟩ F' N'); subst hv; (try dsimp only at N'); (have r0n := Bd.nn r0); (try k_sweep))))
local macro_rules | `(tactic| walk_at "call ref") => `(tactic| (k_here; (with_reducible show wpAny _ _ (call (Value.ref 34) [Value.ref _]) _ _ _); k_dflt (refine' PuN.use (state_c ?s1 ?s2) ?B ?F ?X ?N ?T ?k ?P ?d ?u ?_; (case B => k_asm); (case F => k_asm); (case X => k_asm); (case N => k_asm); (case T => k_asm); (case k => first | exact rfl | assumption); (case s1 => assumption); (case s2 => omega); (case P => is_list); (case d => ktr_room); (case u => ktr_units); k_whole; (rintro v tl h' tk' ⟨st, c, t, vs, n1, n2, hv, hne, hW, htl⟩ hlt F' N'); subst hv; subst htl; (try simp only [List.forall_mem_cons, List.not_mem_nil, false_implies, implies_true, and_true] at hlt); (try simp only [List.cons_append, List.nil_append] at N'); (try k_sweep))))
local macro_rules | `(tactic| walk_at "call ref") => `(tactic| (k_here; (with_reducible show wpAny _ _ (call (Value.ref 60) _) _ _ _); k_dflt (refine' StP.use octets_c ?B ?F ?X ?N ?T ?k ?U1 ?U2 ?W ?d ?u ?_; (case B => k_asm); (case F => k_asm); (case X => k_asm); (case N => k_asm); (case T => k_asm); (case k => first | exact rfl | assumption); (case U1 => k_updF); (case U2 => intro o; (try dsimp only); k_updF); (case W => with_reducible assumption); (case d => ktr_room); (case u => ktr_units); k_whole; (rintro v tl i' ti' vs' n1' n2' h' tk' hW' ⟨D, vs, ks, n, hv, htl, hI, hO, hkl⟩ hlt F' N'); subst hv; subst htl; (try simp only [List.forall_mem_cons, List.not_mem_nil, false_implies, implies_true, and_true] at hlt); (try simp only [List.cons_append, List.nil_append] at N'); (have hvs := hI.length); (have hbI := bint_oct hO); (try k_sweep))))
local macro_rules | `(tactic| walk_at "call ref") => `(tactic| (k_here; (with_reducible show wpAny _ _ (call (Value.ref 21) [Value.bytes _ _]) _ _ _); k_dflt (refine' PuP.use (b2i_c ?q1) ?B ?F ?X ?N ?T ?k ?P ?d ?u ?_; (case B => k_asm); (case F => k_asm); (case X => k_asm); (case N => k_asm); (case T => k_asm); (case k => first | exact rfl | assumption); (case q1 => exact size_le (by assumption) (by omega)); (case P => trivial); (case d => ktr_room); (case u => ktr_units); k_whole; (rintro v tl h' tk' ⟨r, t, hv, hr, htl⟩ hlt F' N'); clear hlt; subst hv; subst htl; (try simp only [List.nil_append] at N'); (rw [bint_oct (by assumption), kfb_val] at hr); (have hvn := val_nn (by assumption) hr); (try k_sweep))))
local macro_rules | `(tactic| walk_at "call ref") => `(tactic| (k_here; (with_reducible show wpAny _ _ (call (Value.ref 67) [Value.ref _]) _ _ _); k_dflt (refine' PuP.use (sum_c ?q1 ?q2 ?q3) ?B ?F ?X ?N ?T ?k ?P ?d ?u ?_; (case B => k_asm); (case F => k_asm); (case X => k_asm); (case N => k_asm); (case T => k_asm); (case k => first | exact rfl | assumption); (case q1 => assumption); (case q2 => assumption); (case q3 => omega); (case P => is_list); (case d => ktr_room); (case u => ktr_units); k_whole; (rintro v tl h' tk' ⟨r, t, hv, hr, htl⟩ hlt F' N'); clear hlt; subst hv; subst htl; (try simp only [List.nil_append] at N'); (have hvb := val_Bd (n := 400) (by assumption) (by omega)); (rw [← hr] at hvb); (have hvn := Bd.nn hvb); (try k_sweep))))
local macro_rules | `(tactic| walk_at "call ref") => `(tactic| (k_here; (with_reducible show wpAny _ _ (call (Value.ref 74) [Value.int _ _]) _ _ _); k_dflt (refine' PuN.use (fewest_p ?q1 ?q2) ?B ?F ?X ?N ?T ?k ?P ?d ?u ?_; (case B => k_asm); (case F => k_asm); (case X => k_asm); (case N => k_asm); (case T => k_asm); (case k => first | exact rfl | assumption); (case q1 => assumption); (case q2 => exact SBd.mono (Bd.sbd (by assumption)) (by decide)); (case P => trivial); (case d => ktr_room); (case u => ktr_units); k_whole; (rintro v tl h' tk' ⟨D, vs, n, r, hv, htl, hI, hr, hrl, hn1, hn2⟩ hlt F' N'); subst hv; subst htl; (try simp only [List.forall_mem_cons, List.not_mem_nil, false_implies, implies_true, and_true] at hlt); (try simp only [List.cons_append, List.nil_append] at N'); (try k_sweep))))
local macro_rules | `(tactic| walk_at "call ref") => `(tactic| (k_here; (with_reducible show wpAny _ _ (call (Value.ref 81) [Value.int _ _, Value.int _ _]) _ _ _); k_dflt (refine' TrP.use (told_min ?q1 ?q2 ?q3) ?B ?F ?X ?N ?T ?k ?XB ?TB ?P ?d ?u ?_; (case B => k_asm); (case F => k_asm); (case X => k_asm); (case N => k_asm); (case T => k_asm); (case k => first | exact rfl | assumption); (case XB => k_asm); (case TB => k_asm); (case q1 => assumption); (case q2 => omega); (case q3 => exact SBd.mono (Bd.sbd (by assumption)) (by decide)); (case P => trivial); (case d => ktr_room); (case u => ktr_units); k_whole; (rintro v tl h' tk' ⟨D, vs, n, hv, hI, htl⟩ hlt F' N'); subst hv; subst htl; (try simp only [List.forall_mem_cons, List.not_mem_nil, false_implies, implies_true, and_true] at hlt); (try simp only [List.cons_append, List.nil_append] at N'); (rw [← (by assumption : _ = octs (need _) _)] at hI); (try k_sweep))))
local macro_rules | `(tactic| walk_at "call ref") => `(tactic| (k_here; (with_reducible show wpAny _ _ (call (Value.ref 81) [Value.int _ _, Value.int _ _]) _ _ _); k_dflt (refine' TrP.use (told_fill ?q1 ?q2 ?q3 ?q4) ?B ?F ?X ?N ?T ?k ?XB ?TB ?P ?d ?u ?_; (case B => k_asm); (case F => k_asm); (case X => k_asm); (case N => k_asm); (case T => k_asm); (case k => first | exact rfl | assumption); (case XB => k_asm); (case TB => k_asm); (case q1 => assumption); (case q2 => omega); (case q3 => omega); (case q4 => exact fit_need (by assumption) (by omega)); (case P => trivial); (case d => ktr_room); (case u => ktr_units); k_whole; (rintro v tl h' tk' ⟨D, vs, n, hv, hI, htl⟩ hlt F' N'); subst hv; subst htl; (try simp only [List.forall_mem_cons, List.not_mem_nil, false_implies, implies_true, and_true] at hlt); (try simp only [List.cons_append, List.nil_append] at N'); (rw [octs_pad (by assumption) (by assumption) (by assumption) (by omega)] at hI); (try k_sweep))))
local macro_rules | `(tactic| walk_at "call ref") => `(tactic| (k_here; (with_reducible show wpAny _ _ (call (Value.ref 81) [Value.int _ _, Value.int _ _]) _ _ _); k_dflt (refine' TrP.use (told_few ?q1 ?q2 ?q3 ?q4) ?B ?F ?X ?N ?T ?k ?XB ?TB ?P ?d ?u ?_; (case B => k_asm); (case F => k_asm); (case X => k_asm); (case N => k_asm); (case T => k_asm); (case k => first | exact rfl | assumption); (case XB => k_asm); (case TB => k_asm); (case q1 => assumption); (case q2 => omega); (case q3 => omega); (case q4 => exact few_need (by assumption) (by omega) (by omega)); (case P => trivial); (case d => ktr_room); (case u => ktr_units); k_whole; (rintro v tl h' tk' ⟨⟨t, hv⟩, htl⟩ hlt F' N'); clear hlt; subst hv; subst htl; (try simp only [List.nil_append] at N'); (try k_sweep))))
local macro_rules | `(tactic| walk_at "call ref") => `(tactic| (k_here; (with_reducible show wpAny _ _ (call (Value.ref 81) [Value.int _ _, Value.int _ _]) _ _ _); k_dflt (refine' TrP.use (told_lo ?q1) ?B ?F ?X ?N ?T ?k ?XB ?TB ?P ?d ?u ?_; (case B => k_asm); (case F => k_asm); (case X => k_asm); (case N => k_asm); (case T => k_asm); (case k => first | exact rfl | assumption); (case XB => k_asm); (case TB => k_asm); (case q1 => omega); (case P => trivial); (case d => ktr_room); (case u => ktr_units); k_whole; (rintro v tl h' tk' ⟨⟨t, hv⟩, htl⟩ hlt F' N'); clear hlt; subst hv; subst htl; (try simp only [List.nil_append] at N'); (try k_sweep))))
local macro_rules | `(tactic| walk_at "call ref") => `(tactic| (k_here; (with_reducible show wpAny _ _ (call (Value.ref 29) [Value.int _ _, Value.int _ _]) _ _ _); k_dflt (refine' PuP.use (i2b_min ?q1 ?q2 ?q3) ?B ?F ?X ?N ?T ?k ?P ?d ?u ?_; (case B => k_asm); (case F => k_asm); (case X => k_asm); (case N => k_asm); (case T => k_asm); (case k => first | exact rfl | assumption); (case q1 => first | assumption | omega); (case q2 => first | assumption | omega); (case q3 => first | assumption | exact SBd.mono (by assumption) (by decide)); (case P => trivial); (case d => ktr_room); (case u => ktr_units); k_whole; (rintro v tl h' tk' ⟨⟨b, t, hv, hB⟩, htl⟩ hlt F' N'); clear hlt; subst hv; subst htl; (try simp only [List.nil_append] at N'); (try k_sweep))))
local macro_rules | `(tactic| walk_at "call ref") => `(tactic| (k_here; (with_reducible show wpAny _ _ (call (Value.ref 29) [Value.int _ _, Value.int _ _]) _ _ _); k_dflt (refine' PuP.use (i2b_fill ?q1 ?q2 ?q3 ?q4) ?B ?F ?X ?N ?T ?k ?P ?d ?u ?_; (case B => k_asm); (case F => k_asm); (case X => k_asm); (case N => k_asm); (case T => k_asm); (case k => first | exact rfl | assumption); (case q1 => first | assumption | omega); (case q2 => first | assumption | omega); (case q3 => first | assumption | omega); (case q4 => first | assumption | exact val_fit (by assumption) (by assumption)); (case P => trivial); (case d => ktr_room); (case u => ktr_units); k_whole; (rintro v tl h' tk' ⟨⟨b, t, hv, hB⟩, htl⟩ hlt F' N'); clear hlt; subst hv; subst htl; (try simp only [List.nil_append] at N'); (try k_sweep))))
local macro_rules | `(tactic| walk_at "call ref") => `(tactic| (k_here; (with_reducible show wpAny _ _ (call (Value.ref 29) [Value.int _ _]) _ _ _); k_dflt (refine' PuP.use (i2b_row ?q1 ?q2 ?q3) ?B ?F ?X ?N ?T ?k ?P ?d ?u ?_; (case B => k_asm); (case F => k_asm); (case X => k_asm); (case N => k_asm); (case T => k_asm); (case k => first | exact rfl | assumption); (case q1 => first | assumption | omega); (case q2 => first | assumption | exact SBd.mono (Bd.sbd (by assumption)) (by decide)); (case q3 => assumption); (case P => trivial); (case d => ktr_room); (case u => ktr_units); k_whole; (rintro v tl h' tk' ⟨⟨b, t, hv, hB⟩, htl⟩ hlt F' N'); clear hlt; subst hv; subst htl; (try simp only [List.nil_append] at N'); (try k_sweep))))
local macro_rules | `(tactic| walk_at "call type:list") => `(tactic| (k_here; (with_reducible show wpAny _ _ (call (Value.type _) [Value.bytes _ _]) _ _ _); k_dflt (refine' list_bytes_K rfl ?lF ?lN ?lb ?ln ?_; (case lF => k_asm); (case lN => k_asm); (case lb => assumption); (case ln => ((try simp only [octs_length]); omega))); intro D' vs' n' h' tk' F' N' l1' hI' hl'; (try k_lt l1')))
local macro_rules | `(tactic| walk_at "compareOp NotEq bytes bytes") => `(tactic| (k_dflt (refine' ne_bytes_K ?a ?b ?e ?_; (case a => first | assumption | exact rfl); (case b => first | assumption | exact rfl); (case e => first | assumption | decide | exact octs_val2 (by assumption) (by assumption) | skip))))
local macro_rules | `(tactic| walk_at "subscriptTail List cons Call ref int") => `(tactic| (k_here; (with_reducible show wpAny _ _ (subscriptTail _ _ (Value.ref _) (Value.int _ _)) _ _ _); (with_unfolding_all refine' pick_int4 ?k1 ?k2 ?k3 ?k4 ?k5 ?k6 ?k7 ?_ ?k8; (case k1 => is_list); (case k2 => assumption); (case k3 => assumption); (case k4 => omega); (case k5 => omega); (case k6 => omega); (case k7 => omega); (case k8 => with_unfolding_all rfl)); intro zf tzf hzf1 hzf2))
local macro_rules | `(tactic| walk_at "exec For Name List cons nil") => `(tactic| (k_here; (rename LoopStop => hLs'); (rename Fr _ _ _ _ => lF'); (with_unfolding_all refine' For_invVF lF' ?k1 ?k2 ?_; (case k1 => exact rfl); (case k2 => exact rfl); k_whole)))
local macro_rules | `(tactic| walk_at "pyIter ref") => `(tactic| ((rename LoopStop => hLs'); refine Stop.here ?_))
local macro_rules | `(tactic| walk_at "JPost") => `(tactic| dsimp only [JPost])
set_option maxRecDepth 100000 in
set_option maxHeartbeats 8000000 in
theorem t12 : PySem.Challenge.rw_ys0002_12.Holds := hd (by
  k_go0
  all_goals try k_fold
  (rename kHook _ _ _ |>.says _ _ => hz1)
  (rename Ground _ _ _ _ _ _ _ _ _ => hz2)
  (rename Flt.MathXP _ _ _ => hz3)
  (rename LooseAre _ _ _ => hz4)
  (rename Glob _ _ _ _ _ _ _ _ => hz5)
  (rename Tables _ _ _ _ => hz6)
  (rename TopE _ _ _ _ => hz7)
  (rename TopW _ _ _ => hz8)
  (rename BMod _ _ _ _ _ => hz9)
  (rename Heap.CodeRec _ _ _ => hz10)
  clear hz10 hz9 hz8 hz7 hz6 hz5 hz4 hz3
  have hstop : LoopStop := {}
  k_steps
  all_goals (
    refine Stop.go ?_
    rename Fr _ _ _ _ => lF
    rename News _ _ _ _ => lN
    rename SW _ _ => hSW
    rename @Ne Nat _ _ => hne
    rename Addr => lX
    obtain ⟨m0, st, c, i0, t0, vs0, n1, n2, a1, a2, t1, t2, n3, hm0, lF, lN, hSW, hne, hne1, hne2, ha1, ha2⟩ : ∃ (m0 : Str → Option Value) (st c : Addr) (i0 : Int) (t0 : Tok) (vs0 : List Value) (n1 n2 : Nat) (a1 a2 : Int) (t1 t2 : Tok) (n3 : Nat), m0 (Str.ofString "state") = some (.ref st) ∧ Fr _ _ _ m0 ∧
        News _ _ _ [(lX, listOf #[.int a1 t1, .int a2 t2] n3), (st, listOf #[.int i0 t0, .ref c] n1), (c, listOf vs0.toArray n2)] ∧ SW i0 vs0 ∧ @Ne Nat st c ∧ @Ne Nat st lX ∧ @Ne Nat c lX ∧ Bd 400 a1 ∧ Bd 400 a2 := ⟨_, _, _, _, _, _, _, _, _, _, _, _, _, rfl, lF, kst_newsOf lN (by kst_inAny), hSW, hne, by k_ne, by k_ne, by assumption, Bd.mono (by assumption) (by decide)⟩
    with_unfolding_all refine' (j_made (σ := (Int × Tok × List Value × Nat × Nat) × (Int × Tok × Int × Tok)) (vs := [.int a1 t1, .int a2 t2]) (ns := [a1, a2])
        (fun x => [(st, listOf #[.int x.1.1 x.1.2.1, .ref c] x.1.2.2.2.1), (c, listOf x.1.2.2.1.toArray x.1.2.2.2.2)])
        (fun x => [(Str.ofString "state", .ref st)]) (fun x => [(Str.ofString "number", .int x.2.1 x.2.2.1), (Str.ofString "fill", .int x.2.2.2.1 x.2.2.2.2)])
        [Str.ofString "row", Str.ofString "fill", Str.ofString "due"]
        (fun i x => SW x.1.1 x.1.2.2.1 ∧ (i = 0 ∨ 0 ≤ x.2.1))
        ⟨⟨_, _, _, _, _⟩, ⟨0, 0, 0, 0⟩⟩ (Nat.succ_pos _) (by rfl) ?ki lF ?kn ?kk ?kp ?ksub ?_ ?_)
    case ki => exact .cons _ _ (.cons _ _ .nil)
    case kn => exact lN
    case kk => intro q hq; (rcases List.mem_cons.mp hq with rfl | hq; (· exact hm0); (· cases hq))
    case kp => exact ⟨hSW, .inl rfl⟩
    case ksub => rintro x q hq; (rcases List.mem_cons.mp hq with rfl | hq; (· exact .inl rfl); (rcases List.mem_cons.mp hq with rfl | hq; (· exact .inr rfl); (· cases hq)))
    all_goals (try clear lF lN hSW)
    · rintro ⟨⟨xi, xti, xvs, xn1, xn2⟩, ⟨zx, tx, zf, tf⟩⟩ ii k t u h tk I oI oL hns ⟨hw2, _⟩ hoff2 F' N'
      have hbk := bd_two ha1 ha2 hns
      have hbn := Bd.nn hbk
      clear hns ha1 ha2
      dsimp only [kstB] at hw2 hoff2 F' N'
      simp only [List.forall_mem_cons] at hoff2
      obtain ⟨hf1, hf2, hf3, _⟩ := hoff2
      replace hf1 := neN hf1
      replace hf2 := neN hf2
      replace hf3 := neN hf3
      k_steps
      all_goals (
        refine' jend ⟨⟨_, _, _, _, _⟩, ⟨_, _, _, _⟩⟩ ?jq1 ?jq2 ?jq3 ?jq4 ?jq5 ?jq6 ?jq7 ?jq8
        case jq1 => set_option maxHeartbeats 400000 in (first | assumption | fail "F")
        case jq2 => set_option maxHeartbeats 400000 in (first | assumption | fail "N")
        case jq3 => set_option maxHeartbeats 400000 in (first | kst_in | fail "in")
        case jq4 => set_option maxHeartbeats 400000 in (first | kst_entry | fail "entry")
        case jq5 => set_option maxHeartbeats 400000 in (first | k_all | fail "all")
        case jq6 => set_option maxHeartbeats 400000 in (first | kst_all | fail "names")
        case jq7 => set_option maxHeartbeats 400000 in (first | kst_same | fail "same")
        case jq8 => exact ⟨by with_reducible assumption, .inr (by assumption)⟩
)
    · rintro ⟨⟨xi, xti, xvs, xn1, xn2⟩, ⟨zx, tx, zf, tf⟩⟩ m' h tk ⟨hw2, hz⟩ F' N'
      have hzx := hz.resolve_left (by simp)
      dsimp only [kstB, List.cons_append, List.nil_append] at hw2 hzx F' N'
      k_steps))
end

end Mine

theorem PySem.Challenge.cw_ys0002_12_holds : PySem.Challenge.rw_ys0002_12.Holds := by
  exact Mine.t12
