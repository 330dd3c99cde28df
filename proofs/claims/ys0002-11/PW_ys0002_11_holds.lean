import PyProof.Rows.All
import Wide.All
import OpenK.AllK
import Wide.FinOn
import PySem.Challenge.RW_ys0002_11
open PySem PySem.W PyProof.Rows
set_option Elab.async false
namespace Mine

open PySem.Calls

/-! ### plain facts -/
theorem fmod_lo {a b : Int} (h : 1 ≤ b) : 0 ≤ a.fmod b := Int.fmod_nonneg_of_pos a (by omega)
theorem fmod_hi {a b : Int} (h : 1 ≤ b) : a.fmod b < b := Int.fmod_lt_of_pos a (by omega)
theorem getD_nn {ns : List Int} (h : ∀ n ∈ ns, 0 ≤ n) (k : Nat) : 0 ≤ ns.getD k 0 := by
  rw [List.getD_eq_getElem?_getD]
  cases e : ns[k]? with
  | none => simp
  | some v => simpa using h v (List.mem_of_getElem? e)
theorem set_nn {ns : List Int} {x : Int} (h : ∀ n ∈ ns, 0 ≤ n) (hx : 0 ≤ x) (k : Nat) : ∀ n ∈ ns.set k x, 0 ≤ n := by
  intro n hn
  rcases List.mem_or_eq_of_mem_set hn with h1 | h1
  · exact h n h1
  · rw [h1]; exact hx
theorem fdiv_nn {a b : Int} (ha : 0 ≤ a) (h : 1 ≤ b) : 0 ≤ a.fdiv b := by
  rw [Int.fdiv_eq_ediv_of_nonneg _ (by omega)]
  exact Int.ediv_nonneg ha (by omega)

theorem great_step {num r : Int} {i : Nat} (q0 : 0 ≤ num) (q1 : num < 1000003 ^ i) (r0 : 0 ≤ r) (r1 : r < 1000003) : 0 ≤ 1000003 * num + r ∧ 1000003 * num + r < 1000003 ^ (i + 1) := by
  refine ⟨by omega, ?_⟩
  rw [Int.pow_succ]
  generalize (1000003 : Int) ^ i = P at q1 ⊢
  omega

theorem ipow_mono {b : Int} (hb : 1 ≤ b) {k l : Nat} (h : k ≤ l) : b ^ k ≤ b ^ l := by
  induction h with
  | refl => exact Int.le_refl _
  | @step n _ ih =>
    rw [Int.pow_succ]
    have : b ^ n * 1 ≤ b ^ n * b := Int.mul_le_mul_of_nonneg_left hb (Int.le_of_lt (Int.pow_pos (by omega)))
    omega
/-- a number from 0 on, below a power of 2 -/
def Bd (k : Nat) (r : Int) : Prop := 0 ≤ r ∧ r < 2 ^ k
theorem Bd.nn {k : Nat} {r : Int} (h : Bd k r) : 0 ≤ r := h.1
theorem Bd.mono {k l : Nat} {r : Int} (h : Bd k r) (hl : k ≤ l) : Bd l r :=
  ⟨h.1, Int.lt_of_lt_of_le h.2 (ipow_mono (by decide) hl)⟩
theorem Bd.of_lt {k : Nat} {r b : Int} (h0 : 0 ≤ r) (h1 : r < b) (hb : b ≤ 2 ^ k) : Bd k r := ⟨h0, Int.lt_of_lt_of_le h1 hb⟩
theorem bd_great {r words : Int} (h0 : 0 ≤ r) (h1 : r < 1000003 ^ words.toNat) (hw : words ≤ 10) : Bd 300 r :=
  .of_lt h0 (Int.lt_of_lt_of_le h1 (ipow_mono (by decide) (by omega : words.toNat ≤ 10))) (Int.le_trans (by decide +kernel : (1000003 : Int) ^ 10 ≤ 2 ^ 200) (ipow_mono (by decide) (by decide)))
theorem bd_pow {k d : Int} (h0 : 0 ≤ k) (h1 : k < 300) (d0 : 0 ≤ d) (d1 : d < 3) : Bd 300 (2 ^ k.toNat + d - 1) := by
  have hp : (0 : Int) < 2 ^ k.toNat := Int.pow_pos (by decide)
  have hq : (2 : Int) ^ k.toNat ≤ 2 ^ (299 : Nat) := ipow_mono (by decide) (by omega)
  have he : (2 : Int) ^ (299 + 1 : Nat) = 2 ^ (299 : Nat) * 2 := Int.pow_succ ..
  have hr : (2 : Int) ^ (2 : Nat) ≤ 2 ^ (299 : Nat) := ipow_mono (by decide) (by decide)
  refine ⟨by omega, ?_⟩
  show _ < (2 : Int) ^ (299 + 1 : Nat)
  rw [he]
  generalize (2 : Int) ^ (299 : Nat) = P at hq hr ⊢
  omega

theorem bd_menu {r : Int} (h0 : 0 ≤ r) (h1 : r < 7) : Bd 300 (([0, 1, 2, 255, 256, 65535, 65536] : List Int).getD r.toNat 0) := by
  have e : r = 0 ∨ r = 1 ∨ r = 2 ∨ r = 3 ∨ r = 4 ∨ r = 5 ∨ r = 6 := by omega
  rcases e with rfl | rfl | rfl | rfl | rfl | rfl | rfl <;> exact Bd.mono (k := 30) ⟨by decide, by decide⟩ (by decide)

theorem News_tl {h₀ h : Heap} {L : Addr} {a : Addr × Obj} {l : List (Addr × Obj)} (N : News h₀ L h (a :: l)) : News h₀ L h l := fun p hp => N p (List.mem_cons_of_mem _ hp)

theorem least_step {b amount count start : Int} (q1 : ∀ j : Int, start ≤ j → j < count → b ^ j.toNat ≤ amount) (a : ¬amount < b ^ count.toNat) : ∀ j : Int, start ≤ j → j < count + 1 → b ^ j.toNat ≤ amount := by
  intro j h1 h2
  by_cases e : j = count
  · rw [e]; omega
  · exact q1 j h1 (by omega)
theorem least_stop {b amount count start : Int} (ha : Bd 400 amount) (hb : 2 ≤ b) (hs : start = 0 ∨ start = 1) (q0 : count = start + ((2000 : Nat) : Int)) (q1 : ∀ j : Int, start ≤ j → j < count → b ^ j.toNat ≤ amount) : False := by
  have h1 := q1 (start + 1999) (by omega) (by omega)
  have h2 : (b : Int) ^ 400 ≤ b ^ (start + 1999).toNat := ipow_mono (by omega) (by omega)
  have h3 : (2 : Int) ^ 400 ≤ b ^ 400 := by
    have key : ∀ k : Nat, (2 : Int) ^ k ≤ b ^ k := by
      intro k
      induction k with
      | zero => simp
      | succ k ih =>
        rw [Int.pow_succ, Int.pow_succ]
        exact Int.mul_le_mul ih hb (by decide) (Int.le_of_lt (Int.pow_pos (by omega)))
    exact key 400
  have h4 := ha.2
  omega

theorem abs_nn (l : List Int) : ∀ n ∈ l.map (fun k' => if k' < 0 then -k' else k'), 0 ≤ n := by
  intro n hn
  obtain ⟨k, _, rfl⟩ := List.mem_map.mp hn
  split <;> omega

theorem News_two {h₀ h : Heap} {L : Addr} {a b : Addr × Obj} {l : List (Addr × Obj)} (N : News h₀ L h (a :: b :: l)) : News h₀ L h ([a, b] ++ []) := fun p hp => N p (by
  rcases List.mem_cons.mp hp with rfl | hp
  · exact List.mem_cons_self
  · rcases List.mem_cons.mp hp with rfl | hp
    · exact List.mem_cons_of_mem _ List.mem_cons_self
    · cases hp)

/-- a number of any sign whose amount is below a power of 2 -/
def SBd (k : Nat) (x : Int) : Prop := x.natAbs < 2 ^ k
theorem SBd.mono {k l : Nat} {x : Int} (h : SBd k x) (hl : k ≤ l) : SBd l x := Nat.lt_of_lt_of_le h (Nat.pow_le_pow_right (by decide) hl)
theorem Bd.sbd {k : Nat} {x : Int} (h : Bd k x) : SBd k x := by
  have h0 := h.1
  have h1 := h.2
  unfold SBd
  have e : ((2 ^ k : Nat) : Int) = (2 : Int) ^ k := by simp
  omega
theorem SBd.mul {k l : Nat} {x y : Int} (h : SBd k x) (g : SBd l y) : SBd (k + l) (x * y) := by
  unfold SBd at *
  rw [Int.natAbs_mul, Nat.pow_add]
  exact Nat.mul_lt_mul'' h g
theorem SBd.neg {k : Nat} {x : Int} (h : SBd k x) : SBd k (-x) := by unfold SBd at *; rwa [Int.natAbs_neg]
theorem SBd.add {k l : Nat} {x y : Int} (h : SBd k x) (g : SBd l y) : SBd (k + l + 1) (x + y) := by
  have h1 := h.mono (Nat.le_add_right k l)
  have g1 := g.mono (Nat.le_add_left l k)
  unfold SBd at *
  rw [Nat.pow_succ]
  generalize 2 ^ (k + l) = P at h1 g1 ⊢
  omega
theorem SBd.sub {k l : Nat} {x y : Int} (h : SBd k x) (g : SBd l y) : SBd (k + l + 1) (x - y) := by
  rw [Int.sub_eq_add_neg]; exact h.add g.neg
theorem SBd.lit {x : Int} (h : x.natAbs < 1073741824) : SBd 30 x := h
theorem SBd.abs {k : Nat} {x : Int} (h : SBd k x) : Bd k (if x < 0 then -x else x) := by
  unfold SBd at h
  have e : ((2 ^ k : Nat) : Int) = (2 : Int) ^ k := by simp
  constructor
  · split <;> omega
  · split <;> omega
theorem SBd.bits {k : Nat} {x : Int} (h : SBd k x) : Builtin.Int.intBits x ≤ k := by
  unfold SBd at h
  unfold Builtin.Int.intBits
  split
  · exact Nat.zero_le _
  · rename_i hx
    have h0 : x.natAbs ≠ 0 := by simpa using hx
    exact (Nat.log2_lt h0).mpr h
theorem mulOk {k l : Nat} {x y : Int} (h : SBd k x) (g : SBd l y) (hk : k + l ≤ 1000000) : IntMulOk x y :=
  PyProof.Rows.mulOk_of_bits h.bits g.bits (Nat.le_trans hk (by decide))
theorem mul_gen {prog : Program} {w : World} {A : Around} {E : Value → Shared → Prop} {s : Shared} {k l : Nat} {a b : Int} {t u : Tok} {Q : Value → Shared → Prop} (ha : SBd k a) (hb : SBd l b) (hk : k + l ≤ 1000000)
    (h : ∀ z, z = a * b → SBd (k + l) z → Q (.int z s.toks) { s with toks := s.toks + 1 }) : wpAny (model prog w) A (binaryOp .Mult (.int a t) (.int b u)) Q E s :=
  mul_int (h _ rfl (ha.mul hb)) (mulOk ha hb hk)

theorem bits_hi (x : Int) : x.natAbs < 2 ^ Builtin.Int.intBits x := by
  unfold Builtin.Int.intBits
  split
  · rename_i h; have : x = 0 := by simpa using h
    subst this; decide
  · rename_i hx
    have h0 : x.natAbs ≠ 0 := by simpa using hx
    exact (Nat.log2_lt h0).mp (Nat.lt_succ_self _)
theorem bits_lo {x : Int} (h : x ≠ 0) : 0 < Builtin.Int.intBits x ∧ 2 ^ (Builtin.Int.intBits x - 1) ≤ x.natAbs := by
  unfold Builtin.Int.intBits
  rw [if_neg (by simpa using h)]
  exact ⟨Nat.succ_pos _, Nat.log2_self_le (by omega)⟩
theorem pow_cast (b k : Nat) : ((b ^ k : Nat) : Int) = (b : Int) ^ k := by simp
theorem bits_of_least {x r : Int} (h0 : 0 ≤ r) (h1 : (if x < 0 then -x else x) < 2 ^ r.toNat) (h2 : ∀ j : Int, 0 ≤ j → j < r → 2 ^ j.toNat ≤ (if x < 0 then -x else x)) : r = (Builtin.Int.intBits x : Int) := by
  have ha : (if x < 0 then -x else x) = (x.natAbs : Int) := by split <;> omega
  rw [ha] at h1 h2
  have hhi := bits_hi x
  have e1 := pow_cast 2 r.toNat
  by_cases hx : x = 0
  · subst hx
    have : Builtin.Int.intBits 0 = 0 := rfl
    rw [this]
    rcases Int.lt_trichotomy r 0 with h | h | h
    · omega
    · exact h
    · have := h2 0 (by omega) h
      simp at this
  · have hlo := bits_lo hx
    generalize Builtin.Int.intBits x = B at *
    rcases Int.lt_trichotomy r (B : Int) with h | h | h
    · exfalso
      have h3 : 2 ^ r.toNat ≤ 2 ^ (B - 1) := Nat.pow_le_pow_right (by decide) (by omega)
      have h4 : x.natAbs < 2 ^ r.toNat := by
        have : ((2 : Nat) : Int) = 2 := rfl
        rw [this] at e1; omega
      omega
    · exact h
    · exfalso
      have h3 := h2 (B : Int) (by omega) h
      rw [Int.toNat_natCast] at h3
      have e2 := pow_cast 2 B
      have : ((2 : Nat) : Int) = 2 := rfl
      rw [this] at e2
      omega
theorem bytes_of_least {x r : Int} (h0 : 1 ≤ r) (h1 : (if x < 0 then -x else x) < 256 ^ r.toNat) (h2 : ∀ j : Int, 1 ≤ j → j < r → 256 ^ j.toNat ≤ (if x < 0 then -x else x)) :
    (Builtin.Int.intBits x : Int) ≤ 8 * r ∧ (r = 1 ∨ 8 * (r - 1) < (Builtin.Int.intBits x : Int)) := by
  have ha : (if x < 0 then -x else x) = (x.natAbs : Int) := by split <;> omega
  rw [ha] at h1 h2
  have hhi := bits_hi x
  have key : ∀ j : Nat, (256 : Int) ^ j = ((2 ^ (8 * j) : Nat) : Int) := by
    intro j
    rw [Nat.pow_mul]
    exact (pow_cast 256 j).symm
  rw [key] at h1
  constructor
  · by_cases hx : x = 0
    · subst hx
      have : Builtin.Int.intBits 0 = 0 := rfl
      omega
    · have hlo := bits_lo hx
      generalize Builtin.Int.intBits x = B at *
      refine Classical.byContradiction fun hc => ?_
      have h3 : 2 ^ (8 * r.toNat) ≤ 2 ^ (B - 1) := Nat.pow_le_pow_right (by decide) (by omega)
      omega
  · by_cases hr : r = 1
    · exact .inl hr
    · right
      have h3 := h2 (r - 1) (by omega) (by omega)
      rw [key] at h3
      generalize Builtin.Int.intBits x = B at *
      refine Classical.byContradiction fun hc => ?_
      have h4 : 2 ^ B ≤ 2 ^ (8 * (r - 1).toNat) := Nat.pow_le_pow_right (by decide) (by omega)
      omega

theorem sgn_menu {r : Int} (h0 : 0 ≤ r) (h1 : r < 3) : ([1, 1, -1] : List Int).getD r.toNat 0 = 1 ∨ ([1, 1, -1] : List Int).getD r.toNat 0 = -1 := by
  have e : r = 0 ∨ r = 1 ∨ r = 2 := by omega
  rcases e with rfl | rfl | rfl <;> decide
theorem mul_sgn {prog : Program} {w : World} {A : Around} {E : Value → Shared → Prop} {s : Shared} {k : Nat} {a r : Int} {t u : Tok} {Q : Value → Shared → Prop} (ha : SBd k a) (h0 : 0 ≤ r) (h1 : r < 3) (hk : k ≤ 100000)
    (h : ∀ z, (z = a ∨ z = -a) → SBd k z → Q (.int z s.toks) { s with toks := s.toks + 1 }) : wpAny (model prog w) A (binaryOp .Mult (.int a t) (.int (([1, 1, -1] : List Int).getD r.toNat 0) u)) Q E s := by
  have hs := sgn_menu h0 h1
  have e : a * ([1, 1, -1] : List Int).getD r.toNat 0 = a ∨ a * ([1, 1, -1] : List Int).getD r.toNat 0 = -a := by
    rcases hs with e | e <;> rw [e]
    · left; omega
    · right; omega
  refine mul_int (h _ e ?_) (mulOk (l := 30) ha (.lit (by rcases hs with e | e <;> rw [e] <;> decide)) (by omega))
  rcases e with e | e <;> rw [e]
  · exact ha
  · exact ha.neg
theorem pick2 {a b r : Int} (ha : Bd 300 a) (b0 : 0 ≤ b) (b1 : b < 30) (h0 : 0 ≤ r) (h1 : r < 2) : 1 ≤ ([1 + a, 1 + b] : List Int).getD r.toNat 0 ∧ SBd 331 (([1 + a, 1 + b] : List Int).getD r.toNat 0) := by
  have ha0 := ha.1
  have e : r = 0 ∨ r = 1 := by omega
  rcases e with rfl | rfl
  · exact ⟨by show 1 ≤ 1 + a; omega, by show SBd 331 (1 + a); exact (SBd.lit (x := 1) (by decide)).add ha.sbd⟩
  · exact ⟨by show 1 ≤ 1 + b; omega, by show SBd 331 (1 + b); exact (SBd.lit (x := 1 + b) (by omega)).mono (by decide)⟩

theorem bytes_of_least2 {x r : Int} (h0 : 1 ≤ r) (h1 : (if x < 0 then -x else x) < 256 ^ r.toNat) (h2 : ∀ j : Int, 1 ≤ j → j < r → 256 ^ j.toNat ≤ (if x < 0 then -x else x)) :
    (x = 0 → r = 1) ∧ (x ≠ 0 → (Int.fmod (Builtin.Int.intBits x : Int) 8 ≠ 0 → Int.fdiv (Builtin.Int.intBits x : Int) 8 + 1 = r) ∧ (Int.fmod (Builtin.Int.intBits x : Int) 8 = 0 → Int.fdiv (Builtin.Int.intBits x : Int) 8 = r)) := by
  obtain ⟨q1, q2⟩ := bytes_of_least h0 h1 h2
  constructor
  · intro hx
    subst hx
    have : Builtin.Int.intBits 0 = 0 := rfl
    omega
  · intro hx
    have hb := (bits_lo hx).1
    rw [Int.fmod_eq_emod_of_nonneg _ (by decide), Int.fdiv_eq_ediv_of_nonneg _ (by decide)]
    omega

theorem SBd.log2 {k : Nat} {x : Int} (h : SBd k x) (hx : x ≠ 0) (hk : k ≤ 9000) : x.natAbs.log2 < 9000 := by
  have h1 := h.mono hk
  exact (Nat.log2_lt (by omega)).mpr h1
/-- the quotient, rounded up -/
def cdiv (a b : Int) : Int := if Int.fmod a b = 0 then Int.fdiv a b else Int.fdiv a b + 1
theorem cdiv_of_ne {a b : Int} (h : Int.fmod a b ≠ 0) : Int.fdiv a b + 1 = cdiv a b := by unfold cdiv; rw [if_neg h]
theorem cdiv_of_eq {a b : Int} (h : Int.fmod a b = 0) : Int.fdiv a b = cdiv a b := by unfold cdiv; rw [if_pos h]
/-- the least count of octets, 1 at least -/
def bsz (x : Int) : Int := if x = 0 then 1 else cdiv (Builtin.Int.intBits x : Int) 8
theorem bsz_zero {x : Int} (h : x = 0) : 1 = bsz x := by unfold bsz; rw [if_pos h]
theorem bsz_ne {x : Int} (h : x ≠ 0) : cdiv (Builtin.Int.intBits x : Int) 8 = bsz x := by unfold bsz; rw [if_neg h]
theorem bsz_of_least {x r : Int} (h0 : 1 ≤ r) (h1 : (if x < 0 then -x else x) < 256 ^ r.toNat) (h2 : ∀ j : Int, 1 ≤ j → j < r → 256 ^ j.toNat ≤ (if x < 0 then -x else x)) : r = bsz x := by
  obtain ⟨q1, q2⟩ := bytes_of_least2 h0 h1 h2
  unfold bsz cdiv
  split
  · exact q1 (by assumption)
  · obtain ⟨a, b⟩ := q2 (by assumption)
    split
    · exact (b (by assumption)).symm
    · exact (a (by assumption)).symm
theorem cdiv_spec {a b : Int} (hb : 0 < b) : (cdiv a b - 1) * b < a ∧ a ≤ cdiv a b * b := by
  have h1 := Int.fmod_add_mul_fdiv a b
  have h2 := Int.fmod_nonneg_of_pos a hb
  have h3 := Int.fmod_lt_of_pos a hb
  have h4 : b * Int.fdiv a b = Int.fdiv a b * b := Int.mul_comm ..
  unfold cdiv
  split
  · rw [Int.sub_mul]; omega
  · rw [Int.sub_mul, Int.add_mul]; omega

theorem mul_sgn2 {prog : Program} {w : World} {A : Around} {E : Value → Shared → Prop} {s : Shared} {a b q r : Int} {t u : Tok} {Q : Value → Shared → Prop} (ha : Bd 300 a) (b0 : 0 ≤ b) (b1 : b < 30) (q0 : 0 ≤ q) (q1 : q < 2) (h0 : 0 ≤ r) (h1 : r < 3)
    (h : ∀ z, z ≠ 0 → SBd 331 z → Q (.int z s.toks) { s with toks := s.toks + 1 }) : wpAny (model prog w) A (binaryOp .Mult (.int (([1 + a, 1 + b] : List Int).getD q.toNat 0) t) (.int (([1, 1, -1] : List Int).getD r.toNat 0) u)) Q E s := by
  obtain ⟨p1, p2⟩ := pick2 ha b0 b1 q0 q1
  refine mul_sgn p2 h0 h1 (by decide) fun z hz hs => h z ?_ hs
  rcases hz with rfl | rfl <;> omega

theorem fdiv_amount (a : Int) {b : Int} (hb : b ≠ 0) : (a.fdiv b).natAbs ≤ a.natAbs + 2 := by
  obtain ⟨_, h1, h2, h3⟩ := fdiv_fmod_facts a b
  refine Classical.byContradiction fun hc => ?_
  have e : (b * a.fdiv b).natAbs = b.natAbs * (a.fdiv b).natAbs := Int.natAbs_mul ..
  have h5 : b.natAbs * (a.natAbs + 2) ≤ b.natAbs * (a.fdiv b).natAbs := Nat.mul_le_mul_left _ (by omega)
  have h6 : 1 * a.natAbs ≤ b.natAbs * a.natAbs := Nat.mul_le_mul_right _ (by omega)
  rw [Nat.mul_add] at h5
  have h7 : (a.fmod b).natAbs < b.natAbs := by
    rcases Int.lt_or_gt_of_ne hb with h | h
    · have := h3 h; omega
    · have := h2 h; omega
  omega
theorem cdiv_facts {k : Nat} {a b r : Int} (hr : r = cdiv a b) (ha : SBd k a) (hb : b ≠ 0) :
    SBd (k + 2) r ∧ (0 < b → (r - 1) * b < a ∧ a ≤ r * b) ∧ (b < 0 → (r - 1) * (0 - b) < 0 - a ∧ 0 - a ≤ r * (0 - b)) := by
  subst hr
  refine ⟨?_, fun h => cdiv_spec h, fun h => ?_⟩
  · have h1 := fdiv_amount a hb
    have h2 : (cdiv a b).natAbs ≤ a.natAbs + 3 := by unfold cdiv; split <;> omega
    unfold SBd at *
    rw [Nat.pow_add]
    omega
  · obtain ⟨h1, h0, _, h3⟩ := fdiv_fmod_facts a b
    obtain ⟨h4, h5⟩ := h3 h
    have e1 : a.fdiv b * (0 - b) = - (a.fdiv b * b) := by rw [Int.mul_sub]; omega
    unfold cdiv
    split
    · rw [Int.sub_mul, e1]; omega
    · rw [Int.sub_mul, Int.add_mul, e1]; omega

theorem divmod_zero {prog : Program} {w : World} {A : Around} {E : Value → Shared → Prop} {s : Shared} {a : Int} {t u : Tok} {Q : Value → Shared → Prop} (hA : A.handled = none)
    (h : ∀ h' tk e, Heap.NewExc s.heap h' e "ZeroDivisionError" → E (.ref e) { s with heap := h', toks := tk }) :
    wpAny (model prog w) A (call (.builtin "divmod") [.int a t, .int 0 u]) Q E s := by
  refine Calls.call_function_entry kind_divmodT plain_divmodT entry_divmodT (args_divmod2 _ _) ?_
  unfold Builtin.«divmod»
  refine wpAny_bind (m := someArgs "divmod" 2 2 _) (wpAny_pure ?_)
  show wpAny _ _ (do ret (← Builtin.Builtins.binaryNamed "divmod()" "divmod" (.int a t) (.int 0 u))) _ _ s
  refine wpAny_bind (binaryNamed_same (nm := "divmod") (T := "int") (id := "int.__divmod__") (typeIs_int s a t) (typeIs_int s 0 u) fills_int_divmod slot_int_divmod ?_)
  refine wpAny_call_entry slot_int_divmod (typeIs_int s a t) entry_int_divmod ?_ (args_int_divmod _ _)
  show wpAny _ _ (do
    if (0 : Int) == 0 then rule "int.divmod.zero"; raiseError "ZeroDivisionError" "integer division or modulo by zero"
    Builtin.roomForPylong a 0
    ret (← newTuple [← mkInt (a.fdiv 0), ← mkInt (a.fmod 0)])) _ _ s
  obtain ⟨hp, g, d, tk, os⟩ := s
  refine wpAny_bind (wpAny_rule ?_)
  refine wpAny_bind ?_
  exact_raiseError plainExc_ZeroDivisionError hA h

/-! ### what a contract is told -/
/-- the state of a script: the place, the cells -/
structure WF (i : Int) (ns : List Int) : Prop where
  i0 : 0 ≤ i
  ne : 0 < ns.length
  le : ns.length ≤ 63
  nn : ∀ n ∈ ns, 0 ≤ n

/-- the cells under the state's list are ints, as WF says -/
def SW (i : Int) (vs : List Value) : Prop := ∃ ns, IntsAre vs ns ∧ WF i ns

/-- a contract of a def that turns the script's state alone -/
abbrev StC (prog : Program) (w : World) (K : Frag) (p : Program) (loose : List Str) (mean : ExcName → Option Value) (mg mb : Str → Option Value) (fa : Addr) (args : Addr → List Value) (bd : Nat) (Post : Value → Prop) : Prop :=
  ∀ (dp un : Nat) (gd : Option (List Code)) (cn : Str) (cs : Scope) (a : Addr) (ccd : Value) (cl : List (Str × Addr)) (outer : List Env) (A₀ : Around) (base h₀ : Heap) (L : Addr) (m : Str → Option Value) (s : Shared) (Q E : Value → Shared → Prop)
    (st c : Addr) (i : Int) (ti : Tok) (vs : List Value) (n1 n2 : Nat) (rest : List (Addr × Obj)),
    Below A₀ base outer h₀ → Fr h₀ L s.heap m → K.In h₀ → News h₀ L s.heap ((st, listOf #[.int i ti, .ref c] n1) :: (c, listOf vs.toArray n2) :: rest) → Top p loose mean mg mb h₀ → cs.kind = .function →
    @Ne Nat st c → OwnOff rest [st, c] → SW i vs → dp + bd < recursionLimit → un + 10 * bd < cLine →
    (∀ v i' ti' vs' n1' n2' h' tk', SW i' vs' → Post v → Fr h₀ L h' m → News h₀ L h' ((st, listOf #[.int i' ti', .ref c] n1') :: (c, listOf vs'.toArray n2') :: rest) → Q v { s with heap := h', toks := tk' }) →
    wpAny (model prog w) (ktrTop dp un gd cn cs L a ccd cl outer) (call (.ref fa) (args st)) Q E s

/-- a contract of a def that turns nothing; what it makes stands ahead -/
abbrev PuC (prog : Program) (w : World) (K : Frag) (p : Program) (loose : List Str) (mean : ExcName → Option Value) (mg mb : Str → Option Value) (fa : Addr) (args : List Value) (bd : Nat) (Pre : Heap → List (Addr × Obj) → Prop) (Post : Value → List (Addr × Obj) → Prop) : Prop :=
  ∀ (dp un : Nat) (gd : Option (List Code)) (cn : Str) (cs : Scope) (a : Addr) (ccd : Value) (cl : List (Str × Addr)) (outer : List Env) (A₀ : Around) (base h₀ : Heap) (L : Addr) (m : Str → Option Value) (s : Shared) (Q E : Value → Shared → Prop)
    (news : List (Addr × Obj)),
    Below A₀ base outer h₀ → Fr h₀ L s.heap m → K.In h₀ → News h₀ L s.heap news → Top p loose mean mg mb h₀ → cs.kind = .function →
    Pre base news → dp + bd < recursionLimit → un + 10 * bd < cLine →
    (∀ v tl h' tk', Post v tl → (∀ q ∈ tl, ∀ p ∈ news, p.1 < q.1) → Fr h₀ L h' m → News h₀ L h' (tl ++ news) → Q v { s with heap := h', toks := tk' }) →
    wpAny (model prog w) (ktrTop dp un gd cn cs L a ccd cl outer) (call (.ref fa) args) Q E s

/-- a contract of a def that catches, called by the law itself -/
abbrev TrC (prog : Program) (w : World) (K : Frag) (p : Program) (loose : List Str) (mean : ExcName → Option Value) (mg mb : Str → Option Value) (fa : Addr) (args : List Value) (bd : Nat) (Pre : Heap → List (Addr × Obj) → Prop) (Post : Value → List (Addr × Obj) → Prop) : Prop :=
  ∀ (dp un : Nat) (gd : Option (List Code)) (cn : Str) (cs : Scope) (a : Addr) (ccd : Value) (A₀ : Around) (base h₀ : Heap) (L : Addr) (m : Str → Option Value) (s : Shared) (Q E : Value → Shared → Prop)
    (news : List (Addr × Obj)),
    Below A₀ base [] h₀ → Fr h₀ L s.heap m → K.In h₀ → News h₀ L s.heap news → Top p loose mean mg mb h₀ → cs.kind = .function →
    K.In base → Top p loose mean mg mb base → Pre base news → dp + bd < recursionLimit → un + 10 * bd < cLine →
    (∀ v tl h' tk', Post v tl → (∀ q ∈ tl, ∀ p ∈ news, p.1 < q.1) → Fr h₀ L h' m → News h₀ L h' (tl ++ news) → Q v { s with heap := h', toks := tk' }) →
    wpAny (model prog w) (ktrTop dp un gd cn cs L a ccd [] []) (call (.ref fa) args) Q E s

theorem updF_mem {d : Addr} {o o' : Obj} : ∀ {l : List (Addr × Obj)} {g : Obj → List (Addr × Obj)}, UpdF d o l g → ∀ p ∈ g o', p = (d, o') ∨ (p ∈ l ∧ p.1 ≠ d)
  | _, _, .head h, p, hp => by
    rcases List.mem_cons.mp hp with rfl | hp
    · exact .inl rfl
    · exact .inr ⟨List.mem_cons_of_mem _ hp, h p hp⟩
  | _, _, .tail h r, p, hp => by
    rcases List.mem_cons.mp hp with rfl | hp
    · exact .inr ⟨List.mem_cons_self, h⟩
    · rcases updF_mem r p hp with e | e
      · exact .inl e
      · exact .inr ⟨List.mem_cons_of_mem _ e.1, e.2⟩
theorem updF_here {d : Addr} {o o' : Obj} : ∀ {l : List (Addr × Obj)} {g : Obj → List (Addr × Obj)}, UpdF d o l g → (d, o) ∈ l ∧ (d, o') ∈ g o'
  | _, _, .head _ => ⟨List.mem_cons_self, List.mem_cons_self⟩
  | _, _, .tail _ r => ⟨List.mem_cons_of_mem _ (updF_here (o' := o') r).1, List.mem_cons_of_mem _ (updF_here r).2⟩
theorem updF_keeps {d : Addr} {o o' : Obj} : ∀ {l : List (Addr × Obj)} {g : Obj → List (Addr × Obj)}, UpdF d o l g → ∀ p ∈ l, p.1 ≠ d → p ∈ g o'
  | _, _, .head _, p, hp, hd => by
    rcases List.mem_cons.mp hp with rfl | hp
    · exact absurd rfl hd
    · exact List.mem_cons_of_mem _ hp
  | _, _, .tail _ r, p, hp, hd => by
    rcases List.mem_cons.mp hp with rfl | hp
    · exact List.mem_cons_self
    · exact List.mem_cons_of_mem _ (updF_keeps r p hp hd)

theorem two_canon {news : List (Addr × Obj)} {g1 : Obj → List (Addr × Obj)} {g2 : Obj → Obj → List (Addr × Obj)} {st c : Addr} {o1 o2 : Obj} (U1 : UpdF st o1 news g1) (U2 : ∀ o, UpdF c o2 (g1 o) (g2 o)) :
    ∃ rest, @Ne Nat st c ∧ OwnOff rest [st, c] ∧ (∀ p ∈ (st, o1) :: (c, o2) :: rest, p ∈ news) ∧ ∀ o1' o2', ∀ p ∈ g2 o1' o2', p ∈ (st, o1') :: (c, o2') :: rest := by
  have hsc : @Ne Nat st c := by
    obtain ⟨pre, post, e, _, a, b⟩ := (U2 o1).split
    have h1 : (st, o1) ∈ g1 o1 := (updF_here U1).2
    have hne : o1 ≠ o2 ∨ True := .inr trivial
    intro hsc
    have h3 := (updF_here (o' := o1) U1).2
    have h2 : (c, o2) ∈ g1 o1 := (updF_here (o' := o2) (U2 o1)).1
    -- use an object that parts the two
    let oX : Obj := { cls := .type "x", data := .plain, dict := none, slots := #[] }
    let oY : Obj := { cls := .type "y", data := .plain, dict := none, slots := #[] }
    have key : ∀ o, o = o2 := by
      intro o
      have h4 : (st, o) ∈ g1 o := (updF_here (o' := o) U1).2
      obtain ⟨pre, post, e, _, a, b⟩ := (U2 o).split
      rw [e] at h4
      rcases List.mem_append.mp h4 with h5 | h5
      · exact absurd hsc (a _ h5)
      · rcases List.mem_cons.mp h5 with h6 | h6
        · exact congrArg Prod.snd h6
        · exact absurd hsc (b _ h6)
    have hx : oX = oY := (key oX).trans (key oY).symm
    have := congrArg Obj.cls hx
    simp [oX, oY] at this
  refine ⟨news.filter (fun p => decide (p.1 ≠ st) && decide (p.1 ≠ c)), hsc, ?_, ?_, ?_⟩
  · intro p hp b hb
    have h := (List.mem_filter.mp hp).2
    simp only [Bool.and_eq_true, decide_eq_true_eq] at h
    rcases List.mem_cons.mp hb with rfl | hb
    · exact h.1
    · rcases List.mem_cons.mp hb with rfl | hb
      · exact h.2
      · cases hb
  · intro p hp
    rcases List.mem_cons.mp hp with rfl | hp
    · exact (updF_here (o' := o1) U1).1
    · rcases List.mem_cons.mp hp with rfl | hp
      · have h2 : (c, o2) ∈ g1 o1 := (updF_here (o' := o2) (U2 o1)).1
        rcases updF_mem U1 _ h2 with h | h
        · exact absurd (congrArg Prod.fst h).symm hsc
        · exact h.1
      · exact (List.mem_filter.mp hp).1
  · intro o1' o2' p hp
    rcases updF_mem (U2 o1') p hp with h | ⟨h, hc⟩
    · exact h ▸ List.mem_cons_of_mem _ List.mem_cons_self
    · rcases updF_mem U1 p h with h | ⟨h, hs⟩
      · exact h ▸ List.mem_cons_self
      · exact List.mem_cons_of_mem _ (List.mem_cons_of_mem _ (List.mem_filter.mpr ⟨h, by simp [hs, hc]⟩))

section
variable {prog : Program} {w : World} {K : Frag} {p : Program} {loose : List Str} {mean : ExcName → Option Value} {mg mb : Str → Option Value} {fa : Addr}
  {dp un : Nat} {gd : Option (List Code)} {cn : Str} {cs : Scope} {a : Addr} {ccd : Value} {cl : List (Str × Addr)} {outer : List Env} {A₀ : Around} {base h₀ : Heap} {L : Addr} {m : Str → Option Value} {s : Shared} {Q E : Value → Shared → Prop}

theorem StC.use {args : Addr → List Value} {bd : Nat} {Post : Value → Prop} {st c : Addr} {i : Int} {ti : Tok} {vs : List Value} {n1 n2 : Nat} {news : List (Addr × Obj)} {g1 : Obj → List (Addr × Obj)} {g2 : Obj → Obj → List (Addr × Obj)}
    (H : StC prog w K p loose mean mg mb fa args bd Post)
    (B : Below A₀ base outer h₀) (F : Fr h₀ L s.heap m) (X : K.In h₀) (N : News h₀ L s.heap news) (T : Top p loose mean mg mb h₀) (hk : cs.kind = .function)
    (U1 : UpdF st (listOf #[.int i ti, .ref c] n1) news g1) (U2 : ∀ o, UpdF c (listOf vs.toArray n2) (g1 o) (g2 o)) (hw : SW i vs) (hd : dp + bd < recursionLimit) (hu : un + 10 * bd < cLine)
    (ret : ∀ v i' ti' vs' n1' n2' h' tk', SW i' vs' → Post v → Fr h₀ L h' m → News h₀ L h' (g2 (listOf #[.int i' ti', .ref c] n1') (listOf vs'.toArray n2')) → Q v { s with heap := h', toks := tk' }) :
    wpAny (model prog w) (ktrTop dp un gd cn cs L a ccd cl outer) (call (.ref fa) (args st)) Q E s := by
  obtain ⟨rest, hsc, hoff, h1, h2⟩ := two_canon U1 U2
  exact H dp un gd cn cs a ccd cl outer A₀ base h₀ L m s Q E st c i ti vs n1 n2 rest B F X (fun p hp => N p (h1 p hp)) T hk hsc hoff hw hd hu
    fun v i' ti' vs' n1' n2' h' tk' a1 a2 a3 a4 => ret v i' ti' vs' n1' n2' h' tk' a1 a2 a3 fun p hp => a4 p (h2 _ _ p hp)

theorem PuC.use {args : List Value} {bd : Nat} {Pre : Heap → List (Addr × Obj) → Prop} {Post : Value → List (Addr × Obj) → Prop} {news : List (Addr × Obj)}
    (H : PuC prog w K p loose mean mg mb fa args bd Pre Post)
    (B : Below A₀ base outer h₀) (F : Fr h₀ L s.heap m) (X : K.In h₀) (N : News h₀ L s.heap news) (T : Top p loose mean mg mb h₀) (hk : cs.kind = .function) (hp : Pre base news) (hd : dp + bd < recursionLimit) (hu : un + 10 * bd < cLine)
    (ret : ∀ v tl h' tk', Post v tl → (∀ q ∈ tl, ∀ p ∈ news, p.1 < q.1) → Fr h₀ L h' m → News h₀ L h' (tl ++ news) → Q v { s with heap := h', toks := tk' }) :
    wpAny (model prog w) (ktrTop dp un gd cn cs L a ccd cl outer) (call (.ref fa) args) Q E s :=
  H dp un gd cn cs a ccd cl outer A₀ base h₀ L m s Q E news B F X N T hk hp hd hu ret
end

section
variable {prog : Program} {w : World} {K : Frag} {p : Program} {loose : List Str} {mean : ExcName → Option Value} {mg mb : Str → Option Value} {fa : Addr}
  {dp un : Nat} {gd : Option (List Code)} {cn : Str} {cs : Scope} {a : Addr} {ccd : Value} {A₀ : Around} {base h₀ : Heap} {L : Addr} {m : Str → Option Value} {s : Shared} {Q E : Value → Shared → Prop}
theorem TrC.use {args : List Value} {bd : Nat} {Pre : Heap → List (Addr × Obj) → Prop} {Post : Value → List (Addr × Obj) → Prop} {news : List (Addr × Obj)}
    (H : TrC prog w K p loose mean mg mb fa args bd Pre Post)
    (B : Below A₀ base [] h₀) (F : Fr h₀ L s.heap m) (X : K.In h₀) (N : News h₀ L s.heap news) (T : Top p loose mean mg mb h₀) (hk : cs.kind = .function) (XB : K.In base) (TB : Top p loose mean mg mb base) (hp : Pre base news) (hd : dp + bd < recursionLimit) (hu : un + 10 * bd < cLine)
    (ret : ∀ v tl h' tk', Post v tl → (∀ q ∈ tl, ∀ p ∈ news, p.1 < q.1) → Fr h₀ L h' m → News h₀ L h' (tl ++ news) → Q v { s with heap := h', toks := tk' }) :
    wpAny (model prog w) (ktrTop dp un gd cn cs L a ccd [] []) (call (.ref fa) args) Q E s :=
  H dp un gd cn cs a ccd A₀ base h₀ L m s Q E news B F X N T hk XB TB hp hd hu ret
end

/-! ### a place where the walk halts for a line of my own -/
def Stop (P : Prop) : Prop := P
theorem Stop.here {P : Prop} (h : Stop P) : P := h
theorem Stop.go {P : Prop} (h : P) : Stop P := h
structure LoopStop : Prop where

theorem off2 {st c I : Addr} {o1 o2 : Obj} {rest : List (Addr × Obj)} (h : ∀ p ∈ (st, o1) :: (c, o2) :: rest, p.1 ≠ I) : @Ne Nat st I ∧ @Ne Nat c I ∧ ∀ p ∈ rest, p.1 ≠ I :=
  ⟨h _ List.mem_cons_self, h _ (List.mem_cons_of_mem _ List.mem_cons_self), fun p hp => h p (List.mem_cons_of_mem _ (List.mem_cons_of_mem _ hp))⟩

/-! ### loops -/
section
variable {prog : Program} {w : World} {A : Around} {E : Value → Shared → Prop} {s : Shared} {env : Env} {h₀ : Heap} {x : Str} {body : List Stmt} {Q : Flow → Shared → Prop}

/-- what stands behind a turn -/
def JEnd {σ : Type} (h₀ : Heap) (L : Addr) (s : Shared) (x : Str) (Led : σ → List (Addr × Obj)) (ps : σ → List (Str × Value)) (stored : List Str) (m₀ : Str → Option Value) (P : σ → Prop) (I : Addr) (oI : Obj) (s₂ : Shared) : Prop :=
  ∃ (c' : σ) (h' : Heap) (tk : Nat) (m' : Str → Option Value) (news' : List (Addr × Obj)), s₂ = { s with heap := h', toks := tk } ∧ Fr h₀ L h' m' ∧ News h₀ L h' news' ∧ (∀ p ∈ Led c', p ∈ news') ∧ (I, oI) ∈ news' ∧ (∀ p ∈ Led c', p.1 ≠ I) ∧
    (∀ p ∈ ps c', m' p.1 = some p.2) ∧ (∀ z, z ≠ x → (∀ p ∈ ps c', z ≠ p.1) → stored.contains z = false → m' z = m₀ z) ∧ P c'
def JPost {σ : Type} (h₀ : Heap) (L : Addr) (s : Shared) (x : Str) (Led : σ → List (Addr × Obj)) (ps : σ → List (Str × Value)) (stored : List Str) (m₀ : Str → Option Value) (P : σ → Prop) (I : Addr) (oI : Obj) (Q : Flow → Shared → Prop) (f : Flow) (s₂ : Shared) : Prop :=
  match f with
  | .ret v => Q (.ret v) s₂
  | .brk => Q .next s₂
  | _ => JEnd h₀ L s x Led ps stored m₀ P I oI s₂
theorem jend {σ : Type} {L : Addr} {Led : σ → List (Addr × Obj)} {ps : σ → List (Str × Value)} {stored : List Str} {m₀ m' : Str → Option Value} {P : σ → Prop} {I : Addr} {oI : Obj} {h' : Heap} {tk : Nat} {news' : List (Addr × Obj)} (c' : σ)
    (F : Fr h₀ L h' m') (N : News h₀ L h' news') (hn : ∀ p ∈ Led c', p ∈ news') (hi : (I, oI) ∈ news') (ha : ∀ p ∈ Led c', p.1 ≠ I) (hk : ∀ p ∈ ps c', m' p.1 = some p.2) (hr : ∀ z, z ≠ x → (∀ p ∈ ps c', z ≠ p.1) → stored.contains z = false → m' z = m₀ z) (hp : P c') :
    JEnd h₀ L s x Led ps stored m₀ P I oI { s with heap := h', toks := tk } := ⟨c', h', tk, m', news', rfl, F, N, hn, hi, ha, hk, hr, hp⟩

theorem j_range {σ : Type} {r : Addr} {a₀ b₀ : Int} {t₀ u₀ v₀ : Tok} {n : Nat} {m₀ : Str → Option Value} (Led : σ → List (Addr × Obj)) (ps : σ → List (Str × Value)) (stored : List Str) (P : Nat → σ → Prop) (c₀ : σ)
    (hh : A.handled = none) (hr : IsRange s.heap r a₀ b₀ 1 t₀ u₀ v₀) (hsmall : Builtin.Range.small a₀ b₀ 1 = true) (hn : Builtin.Range.rangeSize a₀ b₀ 1 = (n : Int)) (F : Fr h₀ env.locals s.heap m₀) (N : News h₀ env.locals s.heap (Led c₀)) (hk : ∀ p ∈ ps c₀, m₀ p.1 = some p.2) (hp : P 0 c₀)
    (turn : ∀ (c : σ) (i : Nat) (k : Int) t (u : Str → Option Value) h tk I oI, k = a₀ + (i : Int) → i < n → P i c → (∀ p ∈ Led c, p.1 ≠ I) →
      Fr h₀ env.locals h (fun y => if y = x then some (.int k t) else kstB (fun z => if stored.contains z then u z else m₀ z) (ps c) y) → News h₀ env.locals h ((I, oI) :: Led c) →
      wpAny (model prog w) A (execs body env) (JPost h₀ env.locals s x Led ps stored m₀ (P (i + 1)) I oI Q) E { s with heap := h, toks := tk })
    (done : ∀ (c : σ) (u : Str → Option Value) h tk, P n c → Fr h₀ env.locals h (fun y => if y = x then u y else kstB (fun z => if stored.contains z then u z else m₀ z) (ps c) y) → News h₀ env.locals h (Led c) → Q .next { s with heap := h, toks := tk }) :
    wpAny (model prog w) A (pyIter (.ref r)) (fun it s₂ => LoopAtV prog w A h₀ env x body Q E it s₂) E s := by
  refine wpAny_pyIter_range hr hsmall ?_
  have W : Walks prog w A s.heap.objs.size [s.heap.objs.size] [s.heap.objs.size] n (fun i v => i < n ∧ ∃ t, v = .int (a₀ + i * 1) t)
      (fun i h => IsRangeIter h s.heap.objs.size (a₀ + (i : Nat) * 1) ((n : Int) - (i : Nat)) 1) := (Walks.range hh _ a₀ 1 n).bound
  let J : Nat → (Str → Option Value) → List (Addr × Obj) → Prop := fun i m nx => ∃ c : σ, nx = Led c ∧ (∀ p ∈ ps c, m p.1 = some p.2) ∧ (∀ z, z ≠ x → (∀ p ∈ ps c, z ≠ p.1) → stored.contains z = false → m z = m₀ z) ∧ P i c
  refine ⟨_, _, _, n, _, _, m₀, Led c₀, J, rfl, W, ?_, ?_, ?_, (by show IsRangeIter _ _ _ _ _; rw [hn]; simpa using Heap.get?_push_size _ rfl), F.push _, (fun p hp => ⟨Heap.get?_push_of_some _ (N p hp).1, (N p hp).2⟩), ⟨c₀, rfl, hk, fun _ _ _ _ => rfl, hp⟩, ?_, ?_⟩
  · intro hm
    exact absurd F.ns.lt ((List.mem_singleton.mp hm) ▸ Nat.lt_irrefl _)
  · intro b hb
    rw [List.mem_singleton.mp hb]
    exact next_is_new F
  · intro p hp hI
    exact absurd (Heap.lt_size (N p hp).1) ((List.mem_singleton.mp hI) ▸ Nat.lt_irrefl _)
  · rintro i v m₁ news₁ s₁ own ⟨hh', tk', rfl⟩ hin ⟨_, t, rfl⟩ ⟨c, rfl, h1, h2, hP⟩ hoff hown hget hfp hst F₁ N₁
    have hI0 : h₀.get? s.heap.objs.size = none := next_is_new F
    obtain ⟨oI, hoI⟩ : ∃ o, hh'.get? s.heap.objs.size = some o := ⟨_, hst⟩
    have hIown := hfp _ (List.mem_singleton.mpr rfl) hI0 _ hoI
    have e1 : a₀ + (i : Int) * 1 = a₀ + (i : Int) := by omega
    rw [e1] at F₁
    refine wpAny_mono (turn c i _ t m₁ hh' tk' s.heap.objs.size oI rfl hin hP (fun p hp e => hoff p hp (List.mem_singleton.mpr e)) (kst_fr h1 h2 F₁) (fun p hp => ?_)) (fun f s₂ q => ?_) fun _ _ e => e
    · rcases List.mem_cons.mp hp with rfl | hp
      · exact N₁ _ (List.mem_append.mpr (.inl hIown))
      · exact N₁ _ (List.mem_append.mpr (.inr hp))
    · have fin : JEnd h₀ env.locals s x Led ps stored m₀ (P (i + 1)) s.heap.objs.size oI s₂ → LoopStepU h₀ env.locals [s.heap.objs.size] own (J (i + 1)) { s with heap := hh', toks := tk' } .next s₂ := by
        rintro ⟨c', h', tk, m', news', e, F', N', hn', hi', ha', hk', hr', hp'⟩
        refine ⟨rfl, h', tk, m', Led c', e, F', fun p hp => ?_, fun p hp hq => ha' p hp (List.mem_singleton.mp hq), c', rfl, hk', hr', hp'⟩
        rcases List.mem_append.mp hp with h | h
        · have h1 : p.1 = s.heap.objs.size := List.mem_singleton.mp (hown p h)
          have h2 := hget p h
          have h3 : hh'.get? p.1 = some p.2 := h2
          rw [h1] at h3
          rw [show p = (s.heap.objs.size, oI) from Prod.ext h1 (Option.some.inj (h3.symm.trans hoI))]
          exact N' _ hi'
        · exact N' p (hn' p h)
      cases f with
      | ret v => exact .ret q
      | brk => exact .brk q
      | next => exact .next (fin q)
      | cont => exact .cont (fin q)
  · rintro h' tk m' news' F' N' _ ⟨c, rfl, h1, h2, hP⟩
    exact done c m' h' tk hP (kst_frOut h1 h2 F') N'
end

set_option maxRecDepth 100000 in
set_option maxHeartbeats 8000000 in
open_top hd for PySem.Challenge.rw_ys0002_11

section
set_option maxRecDepth 100000 in
set_option maxHeartbeats 8000000 in
theorem take_c {prog : Program} {w : World} {p : Program} {loose mean mg mb} {most : Int} {tm : Tok} (hm : 1 ≤ most) (hm2 : most < 2 ^ 30) :
    StC prog w (hd.heap_39 w.params) p loose mean mg mb 47 (fun st => [.ref st, .int most tm]) 10 (fun v => ∃ r t, v = .int r t ∧ 0 ≤ r ∧ r < most) := by
  intro dp un gd cn cs a ccd cl outer A₀ base h₀ L m s Q E st c i ti vs n1 n2 rest B F X N T hk hne hoff hw hd hu ret
  obtain ⟨ns, hI, ⟨hi0, hn0, hn1, hnn⟩⟩ := hw
  refine wpAny_call ?_
  k_dflt cell_enter
  k_steps
  all_goals ((rename Fr h₀ L _ m => kF); (rename News h₀ L _ _ => kN); (exact ret _ _ _ _ _ _ _ _ ⟨_, by with_reducible assumption, by first | exact ⟨by omega, hn0, hn1, hnn⟩ | exact ⟨hi0, by simpa using hn0, by simpa using hn1, set_nn hnn (fdiv_nn (getD_nn hnn _) hm) _⟩⟩ ⟨_, _, rfl, fmod_lo hm, fmod_hi hm⟩ kF kN))

local macro_rules | `(tactic| walk_at "call ref") => `(tactic| (k_here; (with_reducible show wpAny _ _ (call (Value.ref 47) _) _ _ _); k_dflt (refine' StC.use (take_c ?m1 ?m2) ?B ?F ?X ?N ?T ?k ?U1 ?U2 ?W ?d ?u ?_; (case B => k_asm); (case F => k_asm); (case X => k_asm); (case N => k_asm); (case T => k_asm); (case k => first | exact rfl | assumption); (case U1 => k_updF); (case U2 => intro o; (try dsimp only); k_updF); (case W => with_reducible assumption); (case m1 => omega); (case m2 => omega); (case d => ktr_room); (case u => ktr_units); k_whole; (rintro v i' ti' vs' n1' n2' h' tk' hW' ⟨r, t, hv, r0, r1⟩ F' N'); subst hv; (try dsimp only at N'); (try k_sweep))))

local macro_rules | `(tactic| walk_at "pyIter ref") => `(tactic| ((rename LoopStop => hLs'); refine Stop.here ?_))
local macro_rules | `(tactic| k_all) => `(tactic| assumption)
local macro_rules | `(tactic| walk_at "JPost") => `(tactic| dsimp only [JPost])
set_option maxRecDepth 100000 in
set_option maxHeartbeats 8000000 in
theorem great_c {prog : Program} {w : World} {p : Program} {loose mean mg mb} {words : Int} {tm : Tok} (hm : 1 ≤ words) (hm2 : words ≤ 20) :
    StC prog w (hd.heap_39 w.params) p loose mean mg mb 54 (fun st => [.ref st, .int words tm]) 20 (fun v => ∃ r t, v = .int r t ∧ 0 ≤ r ∧ r < 1000003 ^ words.toNat) := by
  intro dp un gd cn cs a ccd cl outer A₀ base h₀ L m s Q E st c i ti vs n1 n2 rest B F X N T hk hne hoff hw hd hu ret
  refine wpAny_call ?_
  k_dflt cell_enter
  have hstop : LoopStop := {}
  k_steps
  refine Stop.go ?_
  rename Fr _ _ _ _ => lF
  rename News _ _ _ _ => lN
  rename IsRange _ _ _ _ _ _ _ _ => rgX
  with_unfolding_all refine' (j_range (σ := (Int × Tok × List Value × Nat × Nat) × Int × Tok)
      (fun x => (st, listOf #[.int x.1.1 x.1.2.1, .ref c] x.1.2.2.2.1) :: (c, listOf x.1.2.2.1.toArray x.1.2.2.2.2) :: rest)
      (fun x => [(Str.ofString "number", .int x.2.1 x.2.2)]) []
      (fun i x => SW x.1.1 x.1.2.2.1 ∧ 0 ≤ x.2.1 ∧ x.2.1 < 1000003 ^ i)
      ⟨⟨_, _, _, _, _⟩, _, _⟩ (by rfl) rgX (small_one (by omega) (by omega) (by omega) (by omega)) (rangeSize_nat _ _) lF lN (by kst_all) ⟨hw, (Int.le_refl 0 : (0:Int) ≤ 0), (by decide : (0:Int) < 1000003 ^ 0)⟩ ?_ ?_)
  all_goals clear lF lN
  · rintro ⟨⟨xi, xti, xvs, xn1, xn2⟩, num, tnum⟩ ii k t u h tk I oI hk' hi ⟨hw2, q0, q1⟩ hoff2 F' N'
    dsimp only [kstB] at hw2 q0 q1 hoff2 F' N'
    obtain ⟨hf1, hf2, hf3⟩ := off2 hoff2
    clear hoff2
    k_steps
    exact jend ⟨⟨_, _, _, _, _⟩, _, _⟩ (by assumption) (by assumption) (by kst_in) (by kst_entry) (by k_all) (by kst_all) (by kst_same) ⟨by with_reducible assumption, great_step q0 q1 (by assumption) (by assumption)⟩
  · rintro ⟨⟨xi, xti, xvs, xn1, xn2⟩, num, tnum⟩ u h tk ⟨hw2, q0, q1⟩ F' N'
    dsimp only [kstB] at hw2 q0 q1 F' N'
    k_steps
    (rename Fr h₀ L _ m => kF); (rename News h₀ L _ _ => kN)
    exact ret _ _ _ _ _ _ _ _ hw2 ⟨_, _, rfl, q0, by simpa using q1⟩ kF kN
local macro_rules | `(tactic| walk_at "call ref") => `(tactic| (k_here; (with_reducible show wpAny _ _ (call (Value.ref 54) _) _ _ _); k_dflt (refine' StC.use (great_c ?m1 ?m2) ?B ?F ?X ?N ?T ?k ?U1 ?U2 ?W ?d ?u ?_; (case B => k_asm); (case F => k_asm); (case X => k_asm); (case N => k_asm); (case T => k_asm); (case k => first | exact rfl | assumption); (case U1 => k_updF); (case U2 => intro o; (try dsimp only); k_updF); (case W => with_reducible assumption); (case m1 => omega); (case m2 => omega); (case d => ktr_room); (case u => ktr_units); k_whole; (rintro v i' ti' vs' n1' n2' h' tk' hW' ⟨r, t, hv, r0, r1⟩ F' N'); subst hv; (try dsimp only at N'); (try k_sweep))))
set_option maxRecDepth 100000 in
set_option maxHeartbeats 8000000 in
theorem number_c {prog : Program} {w : World} {p : Program} {loose mean mg mb} :
    StC prog w (hd.heap_39 w.params) p loose mean mg mb 61 (fun st => [.ref st]) 30 (fun v => ∃ r t, v = .int r t ∧ Bd 300 r) := by
  intro dp un gd cn cs a ccd cl outer A₀ base h₀ L m s Q E st c i ti vs n1 n2 rest B F X N T hk hne hoff hw hd hu ret
  refine wpAny_call ?_
  k_dflt cell_enter
  k_steps
  all_goals ((rename Fr h₀ L _ m => kF); (rename News h₀ L _ _ => kN))
  · exact ret _ _ _ _ _ _ _ _ (by with_reducible assumption) ⟨_, _, rfl, bd_menu (by assumption) (by assumption)⟩ kF (News_tl kN)
  · exact ret _ _ _ _ _ _ _ _ (by with_reducible assumption) ⟨_, _, rfl, bd_pow (by assumption) (by assumption) (by assumption) (by assumption)⟩ kF kN
  · exact ret _ _ _ _ _ _ _ _ (by with_reducible assumption) ⟨_, _, rfl, bd_great (by assumption) (by assumption) (by omega)⟩ kF kN
end

section
local macro_rules | `(tactic| walk_at "pyIter ref") => `(tactic| ((rename LoopStop => hLs'); refine Stop.here ?_))
local macro_rules | `(tactic| k_all) => `(tactic| assumption)
local macro_rules | `(tactic| walk_at "JPost") => `(tactic| dsimp only [JPost])
set_option maxRecDepth 100000 in
set_option maxHeartbeats 8000000 in
theorem least_c {prog : Program} {w : World} {p : Program} {loose mean mg mb} {amount b start : Int} {ta tb ts : Tok} (ha : Bd 400 amount) (hb : b = 2 ∨ b = 256) (hs : start = 0 ∨ start = 1) :
    PuC prog w (hd.heap_39 w.params) p loose mean mg mb 68 [.int amount ta, .int b tb, .int start ts] 10 (fun _ _ => True)
      (fun v tl => ∃ r t, v = .int r t ∧ start ≤ r ∧ amount < b ^ r.toNat ∧ (∀ j : Int, start ≤ j → j < r → b ^ j.toNat ≤ amount) ∧ tl = []) := by
  have hb2 : b.natAbs < 2 ^ 64 ∧ 2 ≤ b := by omega
  intro dp un gd cn cs a ccd cl outer A₀ base h₀ L m s Q E news B F X N T hk _ hd hu ret
  refine wpAny_call ?_
  k_dflt cell_enter
  have hstop : LoopStop := {}
  k_steps
  refine Stop.go ?_
  rename Fr _ _ _ _ => lF
  rename News _ _ _ _ => lN
  rename IsRange _ _ _ _ _ _ _ _ => rgX
  with_unfolding_all refine' (j_range (σ := Int × Tok) (fun _ => news) (fun x => [(Str.ofString "count", .int x.1 x.2)]) []
      (fun i x => x.1 = start + (i : Int) ∧ ∀ j : Int, start ≤ j → j < x.1 → b ^ j.toNat ≤ amount)
      ⟨_, _⟩ (by rfl) rgX (small_one (by omega) (by omega) (by omega) (by omega)) (n := 2000) rfl lF lN (by kst_all) ⟨by simp, fun j h1 h2 => absurd h1 (Int.not_le.mpr h2)⟩ ?_ ?_)
  all_goals clear lF lN
  · rintro ⟨count, tc⟩ ii k t u h tk I oI hk' hi ⟨q0, q1⟩ hoff2 F' N'
    dsimp only [kstB] at q0 q1 hoff2 F' N'
    k_steps
    · (rename Fr h₀ L _ m => kF); (rename News h₀ L _ _ => kN)
      exact ret _ [] _ _ ⟨_, _, rfl, by omega, by assumption, q1, rfl⟩ (fun q hq => nomatch hq) kF (News_tl kN)
    · exact jend ⟨_, _⟩ (by assumption) (by assumption) (by kst_in) (by kst_entry) (by k_all) (by kst_all) (by kst_same) ⟨by (try dsimp only); omega, least_step q1 (by assumption)⟩
  · rintro ⟨count, tc⟩ u h tk ⟨q0, q1⟩ F' N'
    exact (least_stop ha hb2.2 hs q0 q1).elim
end

section
set_option maxRecDepth 100000 in
set_option maxHeartbeats 8000000 in
theorem state_c {prog : Program} {w : World} {p : Program} {loose mean mg mb} {l : Addr} {ws : List Value} {ks : List Int} :
    PuC prog w (hd.heap_39 w.params) p loose mean mg mb 40 [.ref l] 10 (fun base news => news = [] ∧ base.IsList l ws.toArray ∧ IntsAre ws ks ∧ ks.length ≤ 63)
      (fun v tl => ∃ st c t vs n1 n2, v = .ref st ∧ @Ne Nat st c ∧ SW 0 vs ∧ tl = [(st, listOf #[.int 0 t, .ref c] n1), (c, listOf vs.toArray n2)]) := by
  intro dp un gd cn cs a ccd cl outer A₀ base h₀ L m s Q E news B F X N T hk ⟨hnil, hL, hI, hlen⟩ hd hu ret
  subst hnil
  refine wpAny_call ?_
  k_dflt cell_enter
  k_steps
  all_goals ((rename Fr h₀ L _ m => kF); (rename News h₀ L _ _ => kN))
  · exact ret _ [_, _] _ _ ⟨_, _, _, _, _, _, rfl, (by exact Nat.ne_of_gt (by omega)), (by exact ⟨[0], .cons _ _ .nil, ⟨by decide, by decide, by decide, by simp⟩⟩), rfl⟩ (fun q hq p hp => nomatch hp) kF (News_two kN)
  · have hI9 := (by assumption : IntsAre _ (List.map (fun k' => if k' < 0 then -k' else k') (List.take 63 ks)))
    have hl9 : 0 < (List.map (fun k' => if k' < 0 then -k' else k') (List.take 63 ks)).length ∧ (List.map (fun k' => if k' < 0 then -k' else k') (List.take 63 ks)).length ≤ 63 := by
      simp only [List.length_map] at *; omega
    exact ret _ [_, _] _ _ ⟨_, _, _, _, _, _, rfl, (by exact Nat.ne_of_gt (by omega)), (by exact ⟨_, hI9, ⟨by decide, hl9.1, hl9.2, abs_nn _⟩⟩), rfl⟩ (fun q hq p hp => nomatch hp) kF (News_two kN)
end

section
local macro_rules | `(tactic| walk_at "call builtin:divmod") => `(tactic| ((with_reducible show wpAny _ _ (call (Value.builtin _) [Value.int _ _, Value.int _ _]) _ _ _); k_dflt (refine' divmod_N ?F ?N ?b ?_ (Or.inl (PyProof.noPylong_of_log2 ?l)); (case F => assumption); (case N => assumption); (case b => first | assumption | decide); (case l => first | exact SBd.log2 (by assumption) (by assumption) (by decide) | decide +kernel)); intro _ _ _))
local macro_rules | `(tactic| k_room) => `(tactic| ktr_room)
set_option maxRecDepth 100000 in
set_option maxHeartbeats 8000000 in
theorem ceil_c {prog : Program} {w : World} {p : Program} {loose mean mg mb} {a b : Int} {ta tb : Tok} (hb : b ≠ 0) (hs : SBd 400 b) :
    PuC prog w (hd.heap_39 w.params) p loose mean mg mb 35 [.int a ta, .int b tb] 10 (fun _ _ => True)
      (fun v tl => ∃ r t, v = .int r t ∧ r = cdiv a b ∧ tl = []) := by
  intro dp un gd cn cs a ccd cl outer A₀ base h₀ L m s Q E news B F X N T hk _ hd hu ret
  refine wpAny_call ?_
  k_dflt cell_enter
  k_steps
  · (rename Fr h₀ L _ m => kF); (rename News h₀ L _ _ => kN)
    exact ret _ [] _ _ ⟨_, _, rfl, cdiv_of_ne (by assumption), rfl⟩ (fun q hq => nomatch hq) kF (News_tl kN)
  · (rename Fr h₀ L _ m => kF); (rename News h₀ L _ _ => kN)
    exact ret _ [] _ _ ⟨_, _, rfl, cdiv_of_eq (by first | assumption | exact Decidable.of_not_not (by assumption)), rfl⟩ (fun q hq => nomatch hq) kF (News_tl kN)
local macro_rules | `(tactic| walk_at "call ref") => `(tactic| (k_here; (with_reducible show wpAny _ _ (call (Value.ref 35) _) _ _ _); k_dflt (refine' PuC.use (ceil_c ?hb ?hs) ?B ?F ?X ?N ?T ?k ?P ?d ?u ?_; (case B => k_asm); (case F => k_asm); (case X => k_asm); (case N => k_asm); (case T => k_asm); (case k => first | exact rfl | assumption); (case hb => first | assumption | decide); (case hs => first | assumption | exact SBd.mono (.lit (by decide)) (by decide)); (case P => trivial); (case d => ktr_room); (case u => ktr_units); k_whole; (rintro v tl h' tk' ⟨r, t, hv, hr, htl⟩ hlt F' N'); subst hv; subst htl; subst hr; (try simp only [List.nil_append] at N'); (try k_sweep))))
set_option maxRecDepth 100000 in
set_option maxHeartbeats 8000000 in
theorem bsz_c {prog : Program} {w : World} {p : Program} {loose mean mg mb} {x : Int} {ta : Tok} :
    PuC prog w (hd.heap_39 w.params) p loose mean mg mb 28 [.int x ta] 20 (fun _ _ => True)
      (fun v tl => ∃ r t, v = .int r t ∧ r = bsz x ∧ tl = []) := by
  intro dp un gd cn cs a ccd cl outer A₀ base h₀ L m s Q E news B F X N T hk _ hd hu ret
  refine wpAny_call ?_
  k_dflt cell_enter
  k_steps
  · (rename Fr h₀ L _ m => kF); (rename News h₀ L _ _ => kN)
    exact ret _ [] _ _ ⟨_, _, rfl, bsz_zero (by assumption), rfl⟩ (fun q hq => nomatch hq) kF kN
  · (rename Fr h₀ L _ m => kF); (rename News h₀ L _ _ => kN)
    exact ret _ [] _ _ ⟨_, _, rfl, bsz_ne (by assumption), rfl⟩ (fun q hq => nomatch hq) kF kN
local macro_rules | `(tactic| walk_at "call builtin:divmod") => `(tactic| ((with_reducible show wpAny _ _ (call (Value.builtin _) [Value.int _ _, Value.int 0 _]) _ _ _); k_dflt (refine' divmod_zero rfl ?_); intro _ _ _ _))
set_option maxRecDepth 100000 in
set_option maxHeartbeats 8000000 in
theorem refuses_c {prog : Program} {w : World} {p : Program} {loose mean mg mb} {x : Int} {ta : Tok} :
    TrC prog w (hd.heap_39 w.params) p loose mean mg mb 75 [.int x ta] 20 (fun _ _ => True)
      (fun v tl => v = .bool true ∧ tl = []) := by
  intro dp un gd cn cs a ccd A₀ base h₀ L m s Q E news B F X N T hk XB TB _ hd hu ret
  refine wpAny_call ?_
  k_dflt (refine' code_defS0 ?k1 ?k2 ?k3 ?k4 ?k5 ?kA ?k6 ?k7 ?k8 ?k9 ?kB ?_ ?cK ?c2 ?c3 ?c4 ?c5; (case kA => exact rfl); (case k2 => k_asm); (case k1 => k_asm); (case k3 => k_asm); (case k4 => k_asm); (case k5 => k_asm); (case k6 => k_is); (case k7 => k_is); (case k8 => k_room); (case k9 => exact BindsTo.of_eq rfl); (case kB => exact locs rfl); (case cK => assumption); (case c2 => exact rfl); (case c3 => exact rfl); (case c4 => exact rfl); (case c5 => decide); k_whole; intro g' L' h' FG' F' N' B' X' T' D'; (try dsimp only); (try k_lift B'); (try k_fold))
  k_steps
  all_goals ((rename Fr h₀ L _ m => kF); (rename News h₀ L _ _ => kN))
  exact ret _ [] _ _ ⟨rfl, rfl⟩ (fun q hq => nomatch hq) kF kN
end

section
local macro_rules | `(tactic| walk_at "pyIter ref") => `(tactic| ((rename LoopStop => hLs'); refine Stop.here ?_))
local macro_rules | `(tactic| k_all) => `(tactic| assumption)
local macro_rules | `(tactic| walk_at "JPost") => `(tactic| dsimp only [JPost])
local macro_rules | `(tactic| walk_at "call ref") => `(tactic| (k_here; (with_reducible show wpAny _ _ (call (Value.ref 47) _) _ _ _); k_dflt (refine' StC.use (take_c ?m1 ?m2) ?B ?F ?X ?N ?T ?k ?U1 ?U2 ?W ?d ?u ?_; (case B => k_asm); (case F => k_asm); (case X => k_asm); (case N => k_asm); (case T => k_asm); (case k => first | exact rfl | assumption); (case U1 => k_updF); (case U2 => intro o; (try dsimp only); k_updF); (case W => with_reducible assumption); (case m1 => omega); (case m2 => omega); (case d => ktr_room); (case u => ktr_units); k_whole; (rintro v i' ti' vs' n1' n2' h' tk' hW' ⟨r, t, hv, r0, r1⟩ F' N'); subst hv; (try dsimp only at N'); (try k_sweep))))
local macro_rules | `(tactic| walk_at "call ref") => `(tactic| (k_here; (with_reducible show wpAny _ _ (call (Value.ref 61) _) _ _ _); k_dflt (refine' StC.use number_c ?B ?F ?X ?N ?T ?k ?U1 ?U2 ?W ?d ?u ?_; (case B => k_asm); (case F => k_asm); (case X => k_asm); (case N => k_asm); (case T => k_asm); (case k => first | exact rfl | assumption); (case U1 => k_updF); (case U2 => intro o; (try dsimp only); k_updF); (case W => with_reducible assumption); (case d => ktr_room); (case u => ktr_units); k_whole; (rintro v i' ti' vs' n1' n2' h' tk' hW' ⟨r, t, hv, r0⟩ F' N'); subst hv; (try dsimp only at N'); (try k_sweep))))
local macro_rules | `(tactic| walk_at "call ref") => `(tactic| (k_here; (with_reducible show wpAny _ _ (call (Value.ref 40) _) _ _ _); k_dflt (refine' PuC.use state_c ?B ?F ?X ?N ?T ?k ?P ?d ?u ?_; (case B => k_asm); (case F => k_asm); (case X => k_asm); (case N => k_asm); (case T => k_asm); (case k => first | exact rfl | assumption); (case P => exact ⟨rfl, by assumption, by assumption, by omega⟩); (case d => ktr_room); (case u => ktr_units); k_whole; (rintro v tl h' tk' ⟨st, c, t, vs, n1, n2, hv, hne, hW, htl⟩ hlt F' N'); clear hlt; subst hv; subst htl; (try simp only [List.cons_append, List.nil_append] at N'); (try k_sweep))))
local macro_rules | `(tactic| walk_at "call ref") => `(tactic| (k_here; (with_reducible show wpAny _ _ (call (Value.ref 68) _) _ _ _); k_dflt (refine' PuC.use (least_c ?ha ?hb ?hs) ?B ?F ?X ?N ?T ?k ?P ?d ?u ?_; (case B => k_asm); (case F => k_asm); (case X => k_asm); (case N => k_asm); (case T => k_asm); (case k => first | exact rfl | assumption); (case ha => exact Bd.mono (SBd.abs (by assumption)) (by decide)); (case hb => first | exact .inl rfl | exact .inr rfl); (case hs => first | exact .inl rfl | exact .inr rfl); (case P => trivial); (case d => ktr_room); (case u => ktr_units); k_whole; (rintro v tl h' tk' ⟨r, t, hv, r0, r1, r2, htl⟩ hlt F' N'); clear hlt; subst hv; subst htl; (try simp only [List.nil_append] at N'); (first | (have hq := bits_of_least r0 r1 r2) | (have hq := bsz_of_least r0 r1 r2)); clear r0 r1 r2; (try k_sweep))))
local macro_rules | `(tactic| k_room) => `(tactic| ktr_room)
local macro_rules | `(tactic| walk_at "call ref") => `(tactic| (k_here; (with_reducible show wpAny _ _ (call (Value.ref 35) [Value.int _ _, Value.int _ _]) _ _ _); k_dflt (refine' PuC.use (ceil_c ?hb ?hs) ?B ?F ?X ?N ?T ?k ?P ?d ?u ?_; (case B => k_asm); (case F => k_asm); (case X => k_asm); (case N => k_asm); (case T => k_asm); (case k => first | exact rfl | assumption); (case hb => first | assumption | decide | omega); (case hs => first | exact SBd.mono (by assumption) (by decide) | exact SBd.mono (.lit (by decide)) (by decide)); (case P => trivial); (case d => ktr_room); (case u => ktr_units); k_whole; (rintro v tl h' tk' ⟨r, t, hv, hr, htl⟩ hlt F' N'); clear hlt; subst hv; subst htl; (try simp only [List.nil_append] at N'); (try obtain ⟨hc1, hc2, hc3⟩ := cdiv_facts hr (by assumption) (by assumption)); (try k_sweep))))
local macro_rules | `(tactic| walk_at "call ref") => `(tactic| (k_here; (with_reducible show wpAny _ _ (call (Value.ref 28) _) _ _ _); k_dflt (refine' PuC.use bsz_c ?B ?F ?X ?N ?T ?k ?P ?d ?u ?_; (case B => k_asm); (case F => k_asm); (case X => k_asm); (case N => k_asm); (case T => k_asm); (case k => first | exact rfl | assumption); (case P => trivial); (case d => ktr_room); (case u => ktr_units); k_whole; (rintro v tl h' tk' ⟨r, t, hv, hr, htl⟩ hlt F' N'); clear hlt; subst hv; subst htl; (try simp only [List.nil_append] at N'); (try k_sweep))))
local macro_rules | `(tactic| walk_at "call builtin:divmod") => `(tactic| ((with_reducible show wpAny _ _ (call (Value.builtin _) [Value.int _ _, Value.int 0 _]) _ _ _); k_dflt (refine' divmod_zero rfl ?_); intro _ _ _ _))
local macro_rules | `(tactic| walk_at "call ref") => `(tactic| (k_here; (with_reducible show wpAny _ _ (call (Value.ref 75) _) _ _ _); k_dflt (refine' TrC.use refuses_c ?B ?F ?X ?N ?T ?k ?XB ?TB ?P ?d ?u ?_; (case B => k_asm); (case F => k_asm); (case X => k_asm); (case N => k_asm); (case T => k_asm); (case k => first | exact rfl | assumption); (case XB => k_asm); (case TB => k_asm); (case P => trivial); (case d => ktr_room); (case u => ktr_units); k_whole; (rintro v tl h' tk' ⟨hv, htl⟩ hlt F' N'); clear hlt; subst hv; subst htl; (try simp only [List.nil_append] at N'); (try k_sweep))))
local macro_rules | `(tactic| walk_at "binaryOp Mult int int") => `(tactic| (k_here; first
  | (with_reducible refine' mul_sgn (Bd.sbd ?a) ?b ?c ?d ?_; (case a => assumption); (case b => assumption); (case c => assumption); (case d => decide); intro z hz hsz)
  | (with_reducible refine' mul_sgn2 ?a ?a2 ?a3 ?a4 ?a5 ?b ?c ?_; (case a => assumption); (case a2 => assumption); (case a3 => assumption); (case a4 => assumption); (case a5 => assumption); (case b => assumption); (case c => assumption); intro z hz hsz)
  | (with_reducible refine' mul_gen ?a ?b ?c ?_; (case a => first | assumption | exact SBd.sub (by assumption) (SBd.lit (by decide)) | exact SBd.sub (SBd.lit (by decide)) (by assumption)); (case b => first | assumption | exact SBd.sub (by assumption) (SBd.lit (by decide)) | exact SBd.sub (SBd.lit (by decide)) (by assumption)); (case c => decide); intro z hz hsz)))
set_option maxRecDepth 100000 in
set_option maxHeartbeats 8000000 in
theorem t11 : PySem.Challenge.rw_ys0002_11.Holds := hd (by
  k_go0
  all_goals try k_fold
  (rename kHook _ _ _ |>.says _ _ => hz1)
  (rename Ground _ _ _ _ _ _ _ _ _ => hz2)
  (rename Flt.MathXP _ _ _ => hz3)
  (rename LooseAre _ _ _ => hz4)
  (rename Glob _ _ _ _ _ _ _ _ => hz5)
  (rename Tables _ _ _ _ => hz6)
  (rename TopE _ _ _ _ => hz7)
  (rename TopW _ _ _ => hz8)
  (rename BMod _ _ _ _ _ => hz9)
  (rename Heap.CodeRec _ _ _ => hz10)
  clear hz10 hz9 hz8 hz7 hz6 hz5 hz4 hz3
  have hstop : LoopStop := {}
  have e1 : bsz 256 = 2 := by decide +kernel
  have e2 : cdiv 100 7 = 15 := by decide +kernel
  k_steps
  refine Stop.go ?_
  rename Fr _ _ _ _ => lF
  rename News _ _ _ _ => lN
  rename SW _ _ => hSW
  rename @Ne Nat _ _ => hne
  rename IsRange _ _ _ _ _ _ _ _ => rgX
  with_unfolding_all refine' (j_range (σ := Addr × Addr × Int × Tok × List Value × Nat × Nat)
      (fun x => [(x.1, listOf #[.int x.2.2.1 x.2.2.2.1, .ref x.2.1] x.2.2.2.2.2.1), (x.2.1, listOf x.2.2.2.2.1.toArray x.2.2.2.2.2.2)])
      (fun x => [(Str.ofString "state", .ref x.1)]) [Str.ofString "number", Str.ofString "divisor", Str.ofString "told"]
      (fun _ x => SW x.2.2.1 x.2.2.2.2.1 ∧ @Ne Nat x.1 x.2.1)
      ⟨_, _, _, _, _, _, _⟩ (by rfl) rgX (by decide) (n := 4) rfl lF ?kn ?kk ?kp ?_ ?_)
  case kn => exact kst_newsOf lN (by kst_inAny)
  case kk => kst_all
  case kp => exact ⟨hSW, hne⟩
  all_goals clear lF lN hSW hne
  · rintro ⟨st, c, xi, xti, xvs, xn1, xn2⟩ ii k t u h tk I oI hk' hi ⟨hw2, hne⟩ hoff2 F' N'
    dsimp only [kstB] at hw2 hne hoff2 F' N'
    obtain ⟨hf1, hf2, hf3⟩ := off2 hoff2
    clear hoff2
    k_steps
    · refine' jend ⟨_, _, _, _, _, _, _⟩ ?jq1 ?jq2 ?jq3 ?jq4 ?jq5 ?jq6 ?jq7 ?jq8
      case jq1 => set_option maxHeartbeats 400000 in (first | assumption | fail "F")
      case jq2 => set_option maxHeartbeats 400000 in (first | assumption | fail "N")
      case jq3 => set_option maxHeartbeats 400000 in (first | kst_in | fail "in")
      case jq4 => set_option maxHeartbeats 400000 in (first | kst_entry | fail "entry")
      case jq5 => set_option maxHeartbeats 400000 in (first | k_all | fail "all")
      case jq6 => set_option maxHeartbeats 400000 in (first | kst_all | fail "names")
      case jq7 => set_option maxHeartbeats 400000 in (first | kst_same | fail "same")
      case jq8 => set_option maxHeartbeats 400000 in (first | exact ⟨by with_reducible assumption, hne⟩ | fail "P")
    · refine' jend ⟨_, _, _, _, _, _, _⟩ ?jw1 ?jw2 ?jw3 ?jw4 ?jw5 ?jw6 ?jw7 ?jw8
      case jw1 => set_option maxHeartbeats 400000 in (first | assumption | fail "F")
      case jw2 => set_option maxHeartbeats 400000 in (first | assumption | fail "N")
      case jw3 => set_option maxHeartbeats 400000 in (first | kst_in | fail "in")
      case jw4 => set_option maxHeartbeats 400000 in (first | kst_entry | fail "entry")
      case jw5 => set_option maxHeartbeats 400000 in (first | k_all | fail "all")
      case jw6 => set_option maxHeartbeats 400000 in (first | kst_all | fail "names")
      case jw7 => set_option maxHeartbeats 400000 in (first | kst_same | fail "same")
      case jw8 => set_option maxHeartbeats 400000 in (first | exact ⟨by with_reducible assumption, hne⟩ | fail "P")
  · rintro ⟨st, c, xi, xti, xvs, xn1, xn2⟩ u h tk ⟨hw2, hne⟩ F' N'
    dsimp only [kstB] at hw2 hne F' N'
    k_steps)
end

end Mine

theorem PySem.Challenge.cw_ys0002_11_holds : PySem.Challenge.rw_ys0002_11.Holds := by
  exact Mine.t11
