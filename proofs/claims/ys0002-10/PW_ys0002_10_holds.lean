import PyProof.Rows.All
import Wide.All
import OpenK.AllK
import Wide.FinOn
import PySem.Challenge.RW_ys0002_10
open PySem PySem.W PyProof.Rows
set_option Elab.async false
namespace Mine

open PySem.Calls

/-! ### plain facts -/
theorem fmod_lo {a b : Int} (h : 1 ≤ b) : 0 ≤ a.fmod b := Int.fmod_nonneg_of_pos a (by omega)
theorem fmod_hi {a b : Int} (h : 1 ≤ b) : a.fmod b < b := Int.fmod_lt_of_pos a (by omega)
theorem getD_nn {ns : List Int} (h : ∀ n ∈ ns, 0 ≤ n) (k : Nat) : 0 ≤ ns.getD k 0 := by
  rw [List.getD_eq_getElem?_getD]
  cases e : ns[k]? with
  | none => simp
  | some v => simpa using h v (List.mem_of_getElem? e)
theorem set_nn {ns : List Int} {x : Int} (h : ∀ n ∈ ns, 0 ≤ n) (hx : 0 ≤ x) (k : Nat) : ∀ n ∈ ns.set k x, 0 ≤ n := by
  intro n hn
  rcases List.mem_or_eq_of_mem_set hn with h1 | h1
  · exact h n h1
  · rw [h1]; exact hx
theorem fdiv_nn {a b : Int} (ha : 0 ≤ a) (h : 1 ≤ b) : 0 ≤ a.fdiv b := by
  rw [Int.fdiv_eq_ediv_of_nonneg _ (by omega)]
  exact Int.ediv_nonneg ha (by omega)

theorem great_step {num r : Int} {i : Nat} (q0 : 0 ≤ num) (q1 : num < 1000003 ^ i) (r0 : 0 ≤ r) (r1 : r < 1000003) : 0 ≤ 1000003 * num + r ∧ 1000003 * num + r < 1000003 ^ (i + 1) := by
  refine ⟨by omega, ?_⟩
  rw [Int.pow_succ]
  generalize (1000003 : Int) ^ i = P at q1 ⊢
  omega

theorem ipow_mono {b : Int} (hb : 1 ≤ b) {k l : Nat} (h : k ≤ l) : b ^ k ≤ b ^ l := by
  induction h with
  | refl => exact Int.le_refl _
  | @step n _ ih =>
    rw [Int.pow_succ]
    have : b ^ n * 1 ≤ b ^ n * b := Int.mul_le_mul_of_nonneg_left hb (Int.le_of_lt (Int.pow_pos (by omega)))
    omega
/-- a number from 0 on, below a power of 2 -/
def Bd (k : Nat) (r : Int) : Prop := 0 ≤ r ∧ r < 2 ^ k
theorem Bd.nn {k : Nat} {r : Int} (h : Bd k r) : 0 ≤ r := h.1
theorem Bd.mono {k l : Nat} {r : Int} (h : Bd k r) (hl : k ≤ l) : Bd l r :=
  ⟨h.1, Int.lt_of_lt_of_le h.2 (ipow_mono (by decide) hl)⟩
theorem Bd.of_lt {k : Nat} {r b : Int} (h0 : 0 ≤ r) (h1 : r < b) (hb : b ≤ 2 ^ k) : Bd k r := ⟨h0, Int.lt_of_lt_of_le h1 hb⟩
theorem bd_great {r words : Int} (h0 : 0 ≤ r) (h1 : r < 1000003 ^ words.toNat) (hw : words ≤ 10) : Bd 300 r :=
  .of_lt h0 (Int.lt_of_lt_of_le h1 (ipow_mono (by decide) (by omega : words.toNat ≤ 10))) (Int.le_trans (by decide +kernel : (1000003 : Int) ^ 10 ≤ 2 ^ 200) (ipow_mono (by decide) (by decide)))
theorem bd_pow {k d : Int} (h0 : 0 ≤ k) (h1 : k < 300) (d0 : 0 ≤ d) (d1 : d < 3) : Bd 300 (2 ^ k.toNat + d - 1) := by
  have hp : (0 : Int) < 2 ^ k.toNat := Int.pow_pos (by decide)
  have hq : (2 : Int) ^ k.toNat ≤ 2 ^ (299 : Nat) := ipow_mono (by decide) (by omega)
  have he : (2 : Int) ^ (299 + 1 : Nat) = 2 ^ (299 : Nat) * 2 := Int.pow_succ ..
  have hr : (2 : Int) ^ (2 : Nat) ≤ 2 ^ (299 : Nat) := ipow_mono (by decide) (by decide)
  refine ⟨by omega, ?_⟩
  show _ < (2 : Int) ^ (299 + 1 : Nat)
  rw [he]
  generalize (2 : Int) ^ (299 : Nat) = P at hq hr ⊢
  omega

theorem bd_menu {r : Int} (h0 : 0 ≤ r) (h1 : r < 7) : Bd 300 (([0, 1, 2, 255, 256, 65535, 65536] : List Int).getD r.toNat 0) := by
  have e : r = 0 ∨ r = 1 ∨ r = 2 ∨ r = 3 ∨ r = 4 ∨ r = 5 ∨ r = 6 := by omega
  rcases e with rfl | rfl | rfl | rfl | rfl | rfl | rfl <;> exact Bd.mono (k := 30) ⟨by decide, by decide⟩ (by decide)

theorem News_tl {h₀ h : Heap} {L : Addr} {a : Addr × Obj} {l : List (Addr × Obj)} (N : News h₀ L h (a :: l)) : News h₀ L h l := fun p hp => N p (List.mem_cons_of_mem _ hp)

theorem least_step {b amount count start : Int} (q1 : ∀ j : Int, start ≤ j → j < count → b ^ j.toNat ≤ amount) (a : ¬amount < b ^ count.toNat) : ∀ j : Int, start ≤ j → j < count + 1 → b ^ j.toNat ≤ amount := by
  intro j h1 h2
  by_cases e : j = count
  · rw [e]; omega
  · exact q1 j h1 (by omega)
theorem least_stop {b amount count start : Int} (ha : Bd 400 amount) (hb : 2 ≤ b) (hs : start = 0 ∨ start = 1) (q0 : count = start + ((2000 : Nat) : Int)) (q1 : ∀ j : Int, start ≤ j → j < count → b ^ j.toNat ≤ amount) : False := by
  have h1 := q1 (start + 1999) (by omega) (by omega)
  have h2 : (b : Int) ^ 400 ≤ b ^ (start + 1999).toNat := ipow_mono (by omega) (by omega)
  have h3 : (2 : Int) ^ 400 ≤ b ^ 400 := by
    have key : ∀ k : Nat, (2 : Int) ^ k ≤ b ^ k := by
      intro k
      induction k with
      | zero => simp
      | succ k ih =>
        rw [Int.pow_succ, Int.pow_succ]
        exact Int.mul_le_mul ih hb (by decide) (Int.le_of_lt (Int.pow_pos (by omega)))
    exact key 400
  have h4 := ha.2
  omega

theorem abs_nn (l : List Int) : ∀ n ∈ l.map (fun k' => if k' < 0 then -k' else k'), 0 ≤ n := by
  intro n hn
  obtain ⟨k, _, rfl⟩ := List.mem_map.mp hn
  split <;> omega

theorem News_two {h₀ h : Heap} {L : Addr} {a b : Addr × Obj} {l : List (Addr × Obj)} (N : News h₀ L h (a :: b :: l)) : News h₀ L h ([a, b] ++ []) := fun p hp => N p (by
  rcases List.mem_cons.mp hp with rfl | hp
  · exact List.mem_cons_self
  · rcases List.mem_cons.mp hp with rfl | hp
    · exact List.mem_cons_of_mem _ List.mem_cons_self
    · cases hp)

/-- a number of any sign whose amount is below a power of 2 -/
def SBd (k : Nat) (x : Int) : Prop := x.natAbs < 2 ^ k
theorem SBd.mono {k l : Nat} {x : Int} (h : SBd k x) (hl : k ≤ l) : SBd l x := Nat.lt_of_lt_of_le h (Nat.pow_le_pow_right (by decide) hl)
theorem Bd.sbd {k : Nat} {x : Int} (h : Bd k x) : SBd k x := by
  have h0 := h.1
  have h1 := h.2
  unfold SBd
  have e : ((2 ^ k : Nat) : Int) = (2 : Int) ^ k := by simp
  omega
theorem SBd.mul {k l : Nat} {x y : Int} (h : SBd k x) (g : SBd l y) : SBd (k + l) (x * y) := by
  unfold SBd at *
  rw [Int.natAbs_mul, Nat.pow_add]
  exact Nat.mul_lt_mul'' h g
theorem SBd.neg {k : Nat} {x : Int} (h : SBd k x) : SBd k (-x) := by unfold SBd at *; rwa [Int.natAbs_neg]
theorem SBd.add {k l : Nat} {x y : Int} (h : SBd k x) (g : SBd l y) : SBd (k + l + 1) (x + y) := by
  have h1 := h.mono (Nat.le_add_right k l)
  have g1 := g.mono (Nat.le_add_left l k)
  unfold SBd at *
  rw [Nat.pow_succ]
  generalize 2 ^ (k + l) = P at h1 g1 ⊢
  omega
theorem SBd.sub {k l : Nat} {x y : Int} (h : SBd k x) (g : SBd l y) : SBd (k + l + 1) (x - y) := by
  rw [Int.sub_eq_add_neg]; exact h.add g.neg
theorem SBd.lit {x : Int} (h : x.natAbs < 1073741824) : SBd 30 x := h
theorem SBd.abs {k : Nat} {x : Int} (h : SBd k x) : Bd k (if x < 0 then -x else x) := by
  unfold SBd at h
  have e : ((2 ^ k : Nat) : Int) = (2 : Int) ^ k := by simp
  constructor
  · split <;> omega
  · split <;> omega
theorem SBd.bits {k : Nat} {x : Int} (h : SBd k x) : Builtin.Int.intBits x ≤ k := by
  unfold SBd at h
  unfold Builtin.Int.intBits
  split
  · exact Nat.zero_le _
  · rename_i hx
    have h0 : x.natAbs ≠ 0 := by simpa using hx
    exact (Nat.log2_lt h0).mpr h
theorem mulOk {k l : Nat} {x y : Int} (h : SBd k x) (g : SBd l y) (hk : k + l ≤ 1000000) : IntMulOk x y :=
  PyProof.Rows.mulOk_of_bits h.bits g.bits (Nat.le_trans hk (by decide))
theorem mul_gen {prog : Program} {w : World} {A : Around} {E : Value → Shared → Prop} {s : Shared} {k l : Nat} {a b : Int} {t u : Tok} {Q : Value → Shared → Prop} (ha : SBd k a) (hb : SBd l b) (hk : k + l ≤ 1000000)
    (h : ∀ z, z = a * b → SBd (k + l) z → Q (.int z s.toks) { s with toks := s.toks + 1 }) : wpAny (model prog w) A (binaryOp .Mult (.int a t) (.int b u)) Q E s :=
  mul_int (h _ rfl (ha.mul hb)) (mulOk ha hb hk)

theorem bits_hi (x : Int) : x.natAbs < 2 ^ Builtin.Int.intBits x := by
  unfold Builtin.Int.intBits
  split
  · rename_i h; have : x = 0 := by simpa using h
    subst this; decide
  · rename_i hx
    have h0 : x.natAbs ≠ 0 := by simpa using hx
    exact (Nat.log2_lt h0).mp (Nat.lt_succ_self _)
theorem bits_lo {x : Int} (h : x ≠ 0) : 0 < Builtin.Int.intBits x ∧ 2 ^ (Builtin.Int.intBits x - 1) ≤ x.natAbs := by
  unfold Builtin.Int.intBits
  rw [if_neg (by simpa using h)]
  exact ⟨Nat.succ_pos _, Nat.log2_self_le (by omega)⟩
theorem pow_cast (b k : Nat) : ((b ^ k : Nat) : Int) = (b : Int) ^ k := by simp
theorem bits_of_least {x r : Int} (h0 : 0 ≤ r) (h1 : (if x < 0 then -x else x) < 2 ^ r.toNat) (h2 : ∀ j : Int, 0 ≤ j → j < r → 2 ^ j.toNat ≤ (if x < 0 then -x else x)) : r = (Builtin.Int.intBits x : Int) := by
  have ha : (if x < 0 then -x else x) = (x.natAbs : Int) := by split <;> omega
  rw [ha] at h1 h2
  have hhi := bits_hi x
  have e1 := pow_cast 2 r.toNat
  by_cases hx : x = 0
  · subst hx
    have : Builtin.Int.intBits 0 = 0 := rfl
    rw [this]
    rcases Int.lt_trichotomy r 0 with h | h | h
    · omega
    · exact h
    · have := h2 0 (by omega) h
      simp at this
  · have hlo := bits_lo hx
    generalize Builtin.Int.intBits x = B at *
    rcases Int.lt_trichotomy r (B : Int) with h | h | h
    · exfalso
      have h3 : 2 ^ r.toNat ≤ 2 ^ (B - 1) := Nat.pow_le_pow_right (by decide) (by omega)
      have h4 : x.natAbs < 2 ^ r.toNat := by
        have : ((2 : Nat) : Int) = 2 := rfl
        rw [this] at e1; omega
      omega
    · exact h
    · exfalso
      have h3 := h2 (B : Int) (by omega) h
      rw [Int.toNat_natCast] at h3
      have e2 := pow_cast 2 B
      have : ((2 : Nat) : Int) = 2 := rfl
      rw [this] at e2
      omega
theorem bytes_of_least {x r : Int} (h0 : 1 ≤ r) (h1 : (if x < 0 then -x else x) < 256 ^ r.toNat) (h2 : ∀ j : Int, 1 ≤ j → j < r → 256 ^ j.toNat ≤ (if x < 0 then -x else x)) :
    (Builtin.Int.intBits x : Int) ≤ 8 * r ∧ (r = 1 ∨ 8 * (r - 1) < (Builtin.Int.intBits x : Int)) := by
  have ha : (if x < 0 then -x else x) = (x.natAbs : Int) := by split <;> omega
  rw [ha] at h1 h2
  have hhi := bits_hi x
  have key : ∀ j : Nat, (256 : Int) ^ j = ((2 ^ (8 * j) : Nat) : Int) := by
    intro j
    rw [Nat.pow_mul]
    exact (pow_cast 256 j).symm
  rw [key] at h1
  constructor
  · by_cases hx : x = 0
    · subst hx
      have : Builtin.Int.intBits 0 = 0 := rfl
      omega
    · have hlo := bits_lo hx
      generalize Builtin.Int.intBits x = B at *
      refine Classical.byContradiction fun hc => ?_
      have h3 : 2 ^ (8 * r.toNat) ≤ 2 ^ (B - 1) := Nat.pow_le_pow_right (by decide) (by omega)
      omega
  · by_cases hr : r = 1
    · exact .inl hr
    · right
      have h3 := h2 (r - 1) (by omega) (by omega)
      rw [key] at h3
      generalize Builtin.Int.intBits x = B at *
      refine Classical.byContradiction fun hc => ?_
      have h4 : 2 ^ B ≤ 2 ^ (8 * (r - 1).toNat) := Nat.pow_le_pow_right (by decide) (by omega)
      omega

theorem sgn_menu {r : Int} (h0 : 0 ≤ r) (h1 : r < 3) : ([1, 1, -1] : List Int).getD r.toNat 0 = 1 ∨ ([1, 1, -1] : List Int).getD r.toNat 0 = -1 := by
  have e : r = 0 ∨ r = 1 ∨ r = 2 := by omega
  rcases e with rfl | rfl | rfl <;> decide
theorem mul_sgn {prog : Program} {w : World} {A : Around} {E : Value → Shared → Prop} {s : Shared} {k : Nat} {a r : Int} {t u : Tok} {Q : Value → Shared → Prop} (ha : SBd k a) (h0 : 0 ≤ r) (h1 : r < 3) (hk : k ≤ 100000)
    (h : ∀ z, (z = a ∨ z = -a) → SBd k z → Q (.int z s.toks) { s with toks := s.toks + 1 }) : wpAny (model prog w) A (binaryOp .Mult (.int a t) (.int (([1, 1, -1] : List Int).getD r.toNat 0) u)) Q E s := by
  have hs := sgn_menu h0 h1
  have e : a * ([1, 1, -1] : List Int).getD r.toNat 0 = a ∨ a * ([1, 1, -1] : List Int).getD r.toNat 0 = -a := by
    rcases hs with e | e <;> rw [e]
    · left; omega
    · right; omega
  refine mul_int (h _ e ?_) (mulOk (l := 30) ha (.lit (by rcases hs with e | e <;> rw [e] <;> decide)) (by omega))
  rcases e with e | e <;> rw [e]
  · exact ha
  · exact ha.neg
theorem pick2 {a b r : Int} (ha : Bd 300 a) (b0 : 0 ≤ b) (b1 : b < 30) (h0 : 0 ≤ r) (h1 : r < 2) : 1 ≤ ([1 + a, 1 + b] : List Int).getD r.toNat 0 ∧ SBd 331 (([1 + a, 1 + b] : List Int).getD r.toNat 0) := by
  have ha0 := ha.1
  have e : r = 0 ∨ r = 1 := by omega
  rcases e with rfl | rfl
  · exact ⟨by show 1 ≤ 1 + a; omega, by show SBd 331 (1 + a); exact (SBd.lit (x := 1) (by decide)).add ha.sbd⟩
  · exact ⟨by show 1 ≤ 1 + b; omega, by show SBd 331 (1 + b); exact (SBd.lit (x := 1 + b) (by omega)).mono (by decide)⟩

theorem bytes_of_least2 {x r : Int} (h0 : 1 ≤ r) (h1 : (if x < 0 then -x else x) < 256 ^ r.toNat) (h2 : ∀ j : Int, 1 ≤ j → j < r → 256 ^ j.toNat ≤ (if x < 0 then -x else x)) :
    (x = 0 → r = 1) ∧ (x ≠ 0 → (Int.fmod (Builtin.Int.intBits x : Int) 8 ≠ 0 → Int.fdiv (Builtin.Int.intBits x : Int) 8 + 1 = r) ∧ (Int.fmod (Builtin.Int.intBits x : Int) 8 = 0 → Int.fdiv (Builtin.Int.intBits x : Int) 8 = r)) := by
  obtain ⟨q1, q2⟩ := bytes_of_least h0 h1 h2
  constructor
  · intro hx
    subst hx
    have : Builtin.Int.intBits 0 = 0 := rfl
    omega
  · intro hx
    have hb := (bits_lo hx).1
    rw [Int.fmod_eq_emod_of_nonneg _ (by decide), Int.fdiv_eq_ediv_of_nonneg _ (by decide)]
    omega

theorem SBd.log2 {k : Nat} {x : Int} (h : SBd k x) (hx : x ≠ 0) (hk : k ≤ 9000) : x.natAbs.log2 < 9000 := by
  have h1 := h.mono hk
  exact (Nat.log2_lt (by omega)).mpr h1
/-- the quotient, rounded up -/
def cdiv (a b : Int) : Int := if Int.fmod a b = 0 then Int.fdiv a b else Int.fdiv a b + 1
theorem cdiv_of_ne {a b : Int} (h : Int.fmod a b ≠ 0) : Int.fdiv a b + 1 = cdiv a b := by unfold cdiv; rw [if_neg h]
theorem cdiv_of_eq {a b : Int} (h : Int.fmod a b = 0) : Int.fdiv a b = cdiv a b := by unfold cdiv; rw [if_pos h]
/-- the least count of octets, 1 at least -/
def bsz (x : Int) : Int := if x = 0 then 1 else cdiv (Builtin.Int.intBits x : Int) 8
theorem bsz_zero {x : Int} (h : x = 0) : 1 = bsz x := by unfold bsz; rw [if_pos h]
theorem bsz_ne {x : Int} (h : x ≠ 0) : cdiv (Builtin.Int.intBits x : Int) 8 = bsz x := by unfold bsz; rw [if_neg h]
theorem bsz_of_least {x r : Int} (h0 : 1 ≤ r) (h1 : (if x < 0 then -x else x) < 256 ^ r.toNat) (h2 : ∀ j : Int, 1 ≤ j → j < r → 256 ^ j.toNat ≤ (if x < 0 then -x else x)) : r = bsz x := by
  obtain ⟨q1, q2⟩ := bytes_of_least2 h0 h1 h2
  unfold bsz cdiv
  split
  · exact q1 (by assumption)
  · obtain ⟨a, b⟩ := q2 (by assumption)
    split
    · exact (b (by assumption)).symm
    · exact (a (by assumption)).symm
theorem cdiv_spec {a b : Int} (hb : 0 < b) : (cdiv a b - 1) * b < a ∧ a ≤ cdiv a b * b := by
  have h1 := Int.fmod_add_mul_fdiv a b
  have h2 := Int.fmod_nonneg_of_pos a hb
  have h3 := Int.fmod_lt_of_pos a hb
  have h4 : b * Int.fdiv a b = Int.fdiv a b * b := Int.mul_comm ..
  unfold cdiv
  split
  · rw [Int.sub_mul]; omega
  · rw [Int.sub_mul, Int.add_mul]; omega

theorem mul_sgn2 {prog : Program} {w : World} {A : Around} {E : Value → Shared → Prop} {s : Shared} {a b q r : Int} {t u : Tok} {Q : Value → Shared → Prop} (ha : Bd 300 a) (b0 : 0 ≤ b) (b1 : b < 30) (q0 : 0 ≤ q) (q1 : q < 2) (h0 : 0 ≤ r) (h1 : r < 3)
    (h : ∀ z, z ≠ 0 → SBd 331 z → Q (.int z s.toks) { s with toks := s.toks + 1 }) : wpAny (model prog w) A (binaryOp .Mult (.int (([1 + a, 1 + b] : List Int).getD q.toNat 0) t) (.int (([1, 1, -1] : List Int).getD r.toNat 0) u)) Q E s := by
  obtain ⟨p1, p2⟩ := pick2 ha b0 b1 q0 q1
  refine mul_sgn p2 h0 h1 (by decide) fun z hz hs => h z ?_ hs
  rcases hz with rfl | rfl <;> omega

theorem fdiv_amount (a : Int) {b : Int} (hb : b ≠ 0) : (a.fdiv b).natAbs ≤ a.natAbs + 2 := by
  obtain ⟨_, h1, h2, h3⟩ := fdiv_fmod_facts a b
  refine Classical.byContradiction fun hc => ?_
  have e : (b * a.fdiv b).natAbs = b.natAbs * (a.fdiv b).natAbs := Int.natAbs_mul ..
  have h5 : b.natAbs * (a.natAbs + 2) ≤ b.natAbs * (a.fdiv b).natAbs := Nat.mul_le_mul_left _ (by omega)
  have h6 : 1 * a.natAbs ≤ b.natAbs * a.natAbs := Nat.mul_le_mul_right _ (by omega)
  rw [Nat.mul_add] at h5
  have h7 : (a.fmod b).natAbs < b.natAbs := by
    rcases Int.lt_or_gt_of_ne hb with h | h
    · have := h3 h; omega
    · have := h2 h; omega
  omega
theorem cdiv_facts {k : Nat} {a b r : Int} (hr : r = cdiv a b) (ha : SBd k a) (hb : b ≠ 0) :
    SBd (k + 2) r ∧ (0 < b → (r - 1) * b < a ∧ a ≤ r * b) ∧ (b < 0 → (r - 1) * (0 - b) < 0 - a ∧ 0 - a ≤ r * (0 - b)) := by
  subst hr
  refine ⟨?_, fun h => cdiv_spec h, fun h => ?_⟩
  · have h1 := fdiv_amount a hb
    have h2 : (cdiv a b).natAbs ≤ a.natAbs + 3 := by unfold cdiv; split <;> omega
    unfold SBd at *
    rw [Nat.pow_add]
    omega
  · obtain ⟨h1, h0, _, h3⟩ := fdiv_fmod_facts a b
    obtain ⟨h4, h5⟩ := h3 h
    have e1 : a.fdiv b * (0 - b) = - (a.fdiv b * b) := by rw [Int.mul_sub]; omega
    unfold cdiv
    split
    · rw [Int.sub_mul, e1]; omega
    · rw [Int.sub_mul, Int.add_mul, e1]; omega

theorem divmod_zero {prog : Program} {w : World} {A : Around} {E : Value → Shared → Prop} {s : Shared} {a : Int} {t u : Tok} {Q : Value → Shared → Prop} (hA : A.handled = none)
    (h : ∀ h' tk e, Heap.NewExc s.heap h' e "ZeroDivisionError" → E (.ref e) { s with heap := h', toks := tk }) :
    wpAny (model prog w) A (call (.builtin "divmod") [.int a t, .int 0 u]) Q E s := by
  refine Calls.call_function_entry kind_divmodT plain_divmodT entry_divmodT (args_divmod2 _ _) ?_
  unfold Builtin.«divmod»
  refine wpAny_bind (m := someArgs "divmod" 2 2 _) (wpAny_pure ?_)
  show wpAny _ _ (do ret (← Builtin.Builtins.binaryNamed "divmod()" "divmod" (.int a t) (.int 0 u))) _ _ s
  refine wpAny_bind (binaryNamed_same (nm := "divmod") (T := "int") (id := "int.__divmod__") (typeIs_int s a t) (typeIs_int s 0 u) fills_int_divmod slot_int_divmod ?_)
  refine wpAny_call_entry slot_int_divmod (typeIs_int s a t) entry_int_divmod ?_ (args_int_divmod _ _)
  show wpAny _ _ (do
    if (0 : Int) == 0 then rule "int.divmod.zero"; raiseError "ZeroDivisionError" "integer division or modulo by zero"
    Builtin.roomForPylong a 0
    ret (← newTuple [← mkInt (a.fdiv 0), ← mkInt (a.fmod 0)])) _ _ s
  obtain ⟨hp, g, d, tk, os⟩ := s
  refine wpAny_bind (wpAny_rule ?_)
  refine wpAny_bind ?_
  exact_raiseError plainExc_ZeroDivisionError hA h

theorem fdiv_sbd {k : Nat} {a b : Int} (ha : SBd k a) (hb : b ≠ 0) : SBd (k + 2) (a.fdiv b) := by
  have h1 := fdiv_amount a hb
  unfold SBd at *
  rw [Nat.pow_add]
  have : 0 < 2 ^ k := Nat.two_pow_pos k
  omega

/-! ### what a contract is told -/
/-- the state of a script: the place, the cells -/
structure WF (i : Int) (ns : List Int) : Prop where
  i0 : 0 ≤ i
  ne : 0 < ns.length
  le : ns.length ≤ 63
  nn : ∀ n ∈ ns, 0 ≤ n

/-- the cells under the state's list are ints, as WF says -/
def SW (i : Int) (vs : List Value) : Prop := ∃ ns, IntsAre vs ns ∧ WF i ns

/-- a contract of a def that turns the script's state alone -/
abbrev StC (prog : Program) (w : World) (K : Frag) (p : Program) (loose : List Str) (mean : ExcName → Option Value) (mg mb : Str → Option Value) (fa : Addr) (args : Addr → List Value) (bd : Nat) (Post : Value → Prop) : Prop :=
  ∀ (dp un : Nat) (gd : Option (List Code)) (cn : Str) (cs : Scope) (a : Addr) (ccd : Value) (cl : List (Str × Addr)) (outer : List Env) (A₀ : Around) (base h₀ : Heap) (L : Addr) (m : Str → Option Value) (s : Shared) (Q E : Value → Shared → Prop)
    (st c : Addr) (i : Int) (ti : Tok) (vs : List Value) (n1 n2 : Nat) (rest : List (Addr × Obj)),
    Below A₀ base outer h₀ → Fr h₀ L s.heap m → K.In h₀ → News h₀ L s.heap ((st, listOf #[.int i ti, .ref c] n1) :: (c, listOf vs.toArray n2) :: rest) → Top p loose mean mg mb h₀ → cs.kind = .function →
    @Ne Nat st c → OwnOff rest [st, c] → SW i vs → dp + bd < recursionLimit → un + 10 * bd < cLine →
    (∀ v i' ti' vs' n1' n2' h' tk', SW i' vs' → Post v → Fr h₀ L h' m → News h₀ L h' ((st, listOf #[.int i' ti', .ref c] n1') :: (c, listOf vs'.toArray n2') :: rest) → Q v { s with heap := h', toks := tk' }) →
    wpAny (model prog w) (ktrTop dp un gd cn cs L a ccd cl outer) (call (.ref fa) (args st)) Q E s

/-- a contract of a def that turns nothing; what it makes stands ahead -/
abbrev PuC (prog : Program) (w : World) (K : Frag) (p : Program) (loose : List Str) (mean : ExcName → Option Value) (mg mb : Str → Option Value) (fa : Addr) (args : List Value) (bd : Nat) (Pre : Heap → List (Addr × Obj) → Prop) (Post : Value → List (Addr × Obj) → Prop) : Prop :=
  ∀ (dp un : Nat) (gd : Option (List Code)) (cn : Str) (cs : Scope) (a : Addr) (ccd : Value) (cl : List (Str × Addr)) (outer : List Env) (A₀ : Around) (base h₀ : Heap) (L : Addr) (m : Str → Option Value) (s : Shared) (Q E : Value → Shared → Prop)
    (news : List (Addr × Obj)),
    Below A₀ base outer h₀ → Fr h₀ L s.heap m → K.In h₀ → News h₀ L s.heap news → Top p loose mean mg mb h₀ → cs.kind = .function →
    Pre base news → dp + bd < recursionLimit → un + 10 * bd < cLine →
    (∀ v tl h' tk', Post v tl → (∀ q ∈ tl, ∀ p ∈ news, p.1 < q.1) → Fr h₀ L h' m → News h₀ L h' (tl ++ news) → Q v { s with heap := h', toks := tk' }) →
    wpAny (model prog w) (ktrTop dp un gd cn cs L a ccd cl outer) (call (.ref fa) args) Q E s

/-- a contract of a def that catches, called by the law itself -/
abbrev TrC (prog : Program) (w : World) (K : Frag) (p : Program) (loose : List Str) (mean : ExcName → Option Value) (mg mb : Str → Option Value) (fa : Addr) (args : List Value) (bd : Nat) (Pre : Heap → List (Addr × Obj) → Prop) (Post : Value → List (Addr × Obj) → Prop) : Prop :=
  ∀ (dp un : Nat) (gd : Option (List Code)) (cn : Str) (cs : Scope) (a : Addr) (ccd : Value) (A₀ : Around) (base h₀ : Heap) (L : Addr) (m : Str → Option Value) (s : Shared) (Q E : Value → Shared → Prop)
    (news : List (Addr × Obj)),
    Below A₀ base [] h₀ → Fr h₀ L s.heap m → K.In h₀ → News h₀ L s.heap news → Top p loose mean mg mb h₀ → cs.kind = .function →
    K.In base → Top p loose mean mg mb base → Pre base news → dp + bd < recursionLimit → un + 10 * bd < cLine →
    (∀ v tl h' tk', Post v tl → (∀ q ∈ tl, ∀ p ∈ news, p.1 < q.1) → Fr h₀ L h' m → News h₀ L h' (tl ++ news) → Q v { s with heap := h', toks := tk' }) →
    wpAny (model prog w) (ktrTop dp un gd cn cs L a ccd [] []) (call (.ref fa) args) Q E s

theorem updF_mem {d : Addr} {o o' : Obj} : ∀ {l : List (Addr × Obj)} {g : Obj → List (Addr × Obj)}, UpdF d o l g → ∀ p ∈ g o', p = (d, o') ∨ (p ∈ l ∧ p.1 ≠ d)
  | _, _, .head h, p, hp => by
    rcases List.mem_cons.mp hp with rfl | hp
    · exact .inl rfl
    · exact .inr ⟨List.mem_cons_of_mem _ hp, h p hp⟩
  | _, _, .tail h r, p, hp => by
    rcases List.mem_cons.mp hp with rfl | hp
    · exact .inr ⟨List.mem_cons_self, h⟩
    · rcases updF_mem r p hp with e | e
      · exact .inl e
      · exact .inr ⟨List.mem_cons_of_mem _ e.1, e.2⟩
theorem updF_here {d : Addr} {o o' : Obj} : ∀ {l : List (Addr × Obj)} {g : Obj → List (Addr × Obj)}, UpdF d o l g → (d, o) ∈ l ∧ (d, o') ∈ g o'
  | _, _, .head _ => ⟨List.mem_cons_self, List.mem_cons_self⟩
  | _, _, .tail _ r => ⟨List.mem_cons_of_mem _ (updF_here (o' := o') r).1, List.mem_cons_of_mem _ (updF_here r).2⟩
theorem updF_keeps {d : Addr} {o o' : Obj} : ∀ {l : List (Addr × Obj)} {g : Obj → List (Addr × Obj)}, UpdF d o l g → ∀ p ∈ l, p.1 ≠ d → p ∈ g o'
  | _, _, .head _, p, hp, hd => by
    rcases List.mem_cons.mp hp with rfl | hp
    · exact absurd rfl hd
    · exact List.mem_cons_of_mem _ hp
  | _, _, .tail _ r, p, hp, hd => by
    rcases List.mem_cons.mp hp with rfl | hp
    · exact List.mem_cons_self
    · exact List.mem_cons_of_mem _ (updF_keeps r p hp hd)

theorem two_canon {news : List (Addr × Obj)} {g1 : Obj → List (Addr × Obj)} {g2 : Obj → Obj → List (Addr × Obj)} {st c : Addr} {o1 o2 : Obj} (U1 : UpdF st o1 news g1) (U2 : ∀ o, UpdF c o2 (g1 o) (g2 o)) :
    ∃ rest, @Ne Nat st c ∧ OwnOff rest [st, c] ∧ (∀ p ∈ (st, o1) :: (c, o2) :: rest, p ∈ news) ∧ ∀ o1' o2', ∀ p ∈ g2 o1' o2', p ∈ (st, o1') :: (c, o2') :: rest := by
  have hsc : @Ne Nat st c := by
    obtain ⟨pre, post, e, _, a, b⟩ := (U2 o1).split
    have h1 : (st, o1) ∈ g1 o1 := (updF_here U1).2
    have hne : o1 ≠ o2 ∨ True := .inr trivial
    intro hsc
    have h3 := (updF_here (o' := o1) U1).2
    have h2 : (c, o2) ∈ g1 o1 := (updF_here (o' := o2) (U2 o1)).1
    -- use an object that parts the two
    let oX : Obj := { cls := .type "x", data := .plain, dict := none, slots := #[] }
    let oY : Obj := { cls := .type "y", data := .plain, dict := none, slots := #[] }
    have key : ∀ o, o = o2 := by
      intro o
      have h4 : (st, o) ∈ g1 o := (updF_here (o' := o) U1).2
      obtain ⟨pre, post, e, _, a, b⟩ := (U2 o).split
      rw [e] at h4
      rcases List.mem_append.mp h4 with h5 | h5
      · exact absurd hsc (a _ h5)
      · rcases List.mem_cons.mp h5 with h6 | h6
        · exact congrArg Prod.snd h6
        · exact absurd hsc (b _ h6)
    have hx : oX = oY := (key oX).trans (key oY).symm
    have := congrArg Obj.cls hx
    simp [oX, oY] at this
  refine ⟨news.filter (fun p => decide (p.1 ≠ st) && decide (p.1 ≠ c)), hsc, ?_, ?_, ?_⟩
  · intro p hp b hb
    have h := (List.mem_filter.mp hp).2
    simp only [Bool.and_eq_true, decide_eq_true_eq] at h
    rcases List.mem_cons.mp hb with rfl | hb
    · exact h.1
    · rcases List.mem_cons.mp hb with rfl | hb
      · exact h.2
      · cases hb
  · intro p hp
    rcases List.mem_cons.mp hp with rfl | hp
    · exact (updF_here (o' := o1) U1).1
    · rcases List.mem_cons.mp hp with rfl | hp
      · have h2 : (c, o2) ∈ g1 o1 := (updF_here (o' := o2) (U2 o1)).1
        rcases updF_mem U1 _ h2 with h | h
        · exact absurd (congrArg Prod.fst h).symm hsc
        · exact h.1
      · exact (List.mem_filter.mp hp).1
  · intro o1' o2' p hp
    rcases updF_mem (U2 o1') p hp with h | ⟨h, hc⟩
    · exact h ▸ List.mem_cons_of_mem _ List.mem_cons_self
    · rcases updF_mem U1 p h with h | ⟨h, hs⟩
      · exact h ▸ List.mem_cons_self
      · exact List.mem_cons_of_mem _ (List.mem_cons_of_mem _ (List.mem_filter.mpr ⟨h, by simp [hs, hc]⟩))

section
variable {prog : Program} {w : World} {K : Frag} {p : Program} {loose : List Str} {mean : ExcName → Option Value} {mg mb : Str → Option Value} {fa : Addr}
  {dp un : Nat} {gd : Option (List Code)} {cn : Str} {cs : Scope} {a : Addr} {ccd : Value} {cl : List (Str × Addr)} {outer : List Env} {A₀ : Around} {base h₀ : Heap} {L : Addr} {m : Str → Option Value} {s : Shared} {Q E : Value → Shared → Prop}

theorem StC.use {args : Addr → List Value} {bd : Nat} {Post : Value → Prop} {st c : Addr} {i : Int} {ti : Tok} {vs : List Value} {n1 n2 : Nat} {news : List (Addr × Obj)} {g1 : Obj → List (Addr × Obj)} {g2 : Obj → Obj → List (Addr × Obj)}
    (H : StC prog w K p loose mean mg mb fa args bd Post)
    (B : Below A₀ base outer h₀) (F : Fr h₀ L s.heap m) (X : K.In h₀) (N : News h₀ L s.heap news) (T : Top p loose mean mg mb h₀) (hk : cs.kind = .function)
    (U1 : UpdF st (listOf #[.int i ti, .ref c] n1) news g1) (U2 : ∀ o, UpdF c (listOf vs.toArray n2) (g1 o) (g2 o)) (hw : SW i vs) (hd : dp + bd < recursionLimit) (hu : un + 10 * bd < cLine)
    (ret : ∀ v i' ti' vs' n1' n2' h' tk', SW i' vs' → Post v → Fr h₀ L h' m → News h₀ L h' (g2 (listOf #[.int i' ti', .ref c] n1') (listOf vs'.toArray n2')) → Q v { s with heap := h', toks := tk' }) :
    wpAny (model prog w) (ktrTop dp un gd cn cs L a ccd cl outer) (call (.ref fa) (args st)) Q E s := by
  obtain ⟨rest, hsc, hoff, h1, h2⟩ := two_canon U1 U2
  exact H dp un gd cn cs a ccd cl outer A₀ base h₀ L m s Q E st c i ti vs n1 n2 rest B F X (fun p hp => N p (h1 p hp)) T hk hsc hoff hw hd hu
    fun v i' ti' vs' n1' n2' h' tk' a1 a2 a3 a4 => ret v i' ti' vs' n1' n2' h' tk' a1 a2 a3 fun p hp => a4 p (h2 _ _ p hp)

theorem PuC.use {args : List Value} {bd : Nat} {Pre : Heap → List (Addr × Obj) → Prop} {Post : Value → List (Addr × Obj) → Prop} {news : List (Addr × Obj)}
    (H : PuC prog w K p loose mean mg mb fa args bd Pre Post)
    (B : Below A₀ base outer h₀) (F : Fr h₀ L s.heap m) (X : K.In h₀) (N : News h₀ L s.heap news) (T : Top p loose mean mg mb h₀) (hk : cs.kind = .function) (hp : Pre base news) (hd : dp + bd < recursionLimit) (hu : un + 10 * bd < cLine)
    (ret : ∀ v tl h' tk', Post v tl → (∀ q ∈ tl, ∀ p ∈ news, p.1 < q.1) → Fr h₀ L h' m → News h₀ L h' (tl ++ news) → Q v { s with heap := h', toks := tk' }) :
    wpAny (model prog w) (ktrTop dp un gd cn cs L a ccd cl outer) (call (.ref fa) args) Q E s :=
  H dp un gd cn cs a ccd cl outer A₀ base h₀ L m s Q E news B F X N T hk hp hd hu ret
end

section
variable {prog : Program} {w : World} {K : Frag} {p : Program} {loose : List Str} {mean : ExcName → Option Value} {mg mb : Str → Option Value} {fa : Addr}
  {dp un : Nat} {gd : Option (List Code)} {cn : Str} {cs : Scope} {a : Addr} {ccd : Value} {A₀ : Around} {base h₀ : Heap} {L : Addr} {m : Str → Option Value} {s : Shared} {Q E : Value → Shared → Prop}
theorem TrC.use {args : List Value} {bd : Nat} {Pre : Heap → List (Addr × Obj) → Prop} {Post : Value → List (Addr × Obj) → Prop} {news : List (Addr × Obj)}
    (H : TrC prog w K p loose mean mg mb fa args bd Pre Post)
    (B : Below A₀ base [] h₀) (F : Fr h₀ L s.heap m) (X : K.In h₀) (N : News h₀ L s.heap news) (T : Top p loose mean mg mb h₀) (hk : cs.kind = .function) (XB : K.In base) (TB : Top p loose mean mg mb base) (hp : Pre base news) (hd : dp + bd < recursionLimit) (hu : un + 10 * bd < cLine)
    (ret : ∀ v tl h' tk', Post v tl → (∀ q ∈ tl, ∀ p ∈ news, p.1 < q.1) → Fr h₀ L h' m → News h₀ L h' (tl ++ news) → Q v { s with heap := h', toks := tk' }) :
    wpAny (model prog w) (ktrTop dp un gd cn cs L a ccd [] []) (call (.ref fa) args) Q E s :=
  H dp un gd cn cs a ccd A₀ base h₀ L m s Q E news B F X N T hk XB TB hp hd hu ret
end

/-! ### a place where the walk halts for a line of my own -/
def Stop (P : Prop) : Prop := P
theorem Stop.here {P : Prop} (h : Stop P) : P := h
theorem Stop.go {P : Prop} (h : P) : Stop P := h
structure LoopStop : Prop where

theorem off2 {st c I : Addr} {o1 o2 : Obj} {rest : List (Addr × Obj)} (h : ∀ p ∈ (st, o1) :: (c, o2) :: rest, p.1 ≠ I) : @Ne Nat st I ∧ @Ne Nat c I ∧ ∀ p ∈ rest, p.1 ≠ I :=
  ⟨h _ List.mem_cons_self, h _ (List.mem_cons_of_mem _ List.mem_cons_self), fun p hp => h p (List.mem_cons_of_mem _ (List.mem_cons_of_mem _ hp))⟩

/-! ### loops -/
section
variable {prog : Program} {w : World} {A : Around} {E : Value → Shared → Prop} {s : Shared} {env : Env} {h₀ : Heap} {x : Str} {body : List Stmt} {Q : Flow → Shared → Prop}

/-- what stands behind a turn -/
def JEnd {σ : Type} (h₀ : Heap) (L : Addr) (s : Shared) (x : Str) (Led : σ → List (Addr × Obj)) (ps : σ → List (Str × Value)) (stored : List Str) (m₀ : Str → Option Value) (P : σ → Prop) (I : Addr) (oI : Obj) (s₂ : Shared) : Prop :=
  ∃ (c' : σ) (h' : Heap) (tk : Nat) (m' : Str → Option Value) (news' : List (Addr × Obj)), s₂ = { s with heap := h', toks := tk } ∧ Fr h₀ L h' m' ∧ News h₀ L h' news' ∧ (∀ p ∈ Led c', p ∈ news') ∧ (I, oI) ∈ news' ∧ (∀ p ∈ Led c', p.1 ≠ I) ∧
    (∀ p ∈ ps c', m' p.1 = some p.2) ∧ (∀ z, z ≠ x → (∀ p ∈ ps c', z ≠ p.1) → stored.contains z = false → m' z = m₀ z) ∧ P c'
def JPost {σ : Type} (h₀ : Heap) (L : Addr) (s : Shared) (x : Str) (Led : σ → List (Addr × Obj)) (ps : σ → List (Str × Value)) (stored : List Str) (m₀ : Str → Option Value) (P : σ → Prop) (I : Addr) (oI : Obj) (Q : Flow → Shared → Prop) (f : Flow) (s₂ : Shared) : Prop :=
  match f with
  | .ret v => Q (.ret v) s₂
  | .brk => Q .next s₂
  | _ => JEnd h₀ L s x Led ps stored m₀ P I oI s₂
theorem jend {σ : Type} {L : Addr} {Led : σ → List (Addr × Obj)} {ps : σ → List (Str × Value)} {stored : List Str} {m₀ m' : Str → Option Value} {P : σ → Prop} {I : Addr} {oI : Obj} {h' : Heap} {tk : Nat} {news' : List (Addr × Obj)} (c' : σ)
    (F : Fr h₀ L h' m') (N : News h₀ L h' news') (hn : ∀ p ∈ Led c', p ∈ news') (hi : (I, oI) ∈ news') (ha : ∀ p ∈ Led c', p.1 ≠ I) (hk : ∀ p ∈ ps c', m' p.1 = some p.2) (hr : ∀ z, z ≠ x → (∀ p ∈ ps c', z ≠ p.1) → stored.contains z = false → m' z = m₀ z) (hp : P c') :
    JEnd h₀ L s x Led ps stored m₀ P I oI { s with heap := h', toks := tk } := ⟨c', h', tk, m', news', rfl, F, N, hn, hi, ha, hk, hr, hp⟩

theorem j_range {σ : Type} {r : Addr} {a₀ b₀ : Int} {t₀ u₀ v₀ : Tok} {n : Nat} {m₀ : Str → Option Value} (Led : σ → List (Addr × Obj)) (ps : σ → List (Str × Value)) (stored : List Str) (P : Nat → σ → Prop) (c₀ : σ)
    (hh : A.handled = none) (hr : IsRange s.heap r a₀ b₀ 1 t₀ u₀ v₀) (hsmall : Builtin.Range.small a₀ b₀ 1 = true) (hn : Builtin.Range.rangeSize a₀ b₀ 1 = (n : Int)) (F : Fr h₀ env.locals s.heap m₀) (N : News h₀ env.locals s.heap (Led c₀)) (hk : ∀ p ∈ ps c₀, m₀ p.1 = some p.2) (hp : P 0 c₀)
    (turn : ∀ (c : σ) (i : Nat) (k : Int) t (u : Str → Option Value) h tk I oI, k = a₀ + (i : Int) → i < n → P i c → (∀ p ∈ Led c, p.1 ≠ I) →
      Fr h₀ env.locals h (fun y => if y = x then some (.int k t) else kstB (fun z => if stored.contains z then u z else m₀ z) (ps c) y) → News h₀ env.locals h ((I, oI) :: Led c) →
      wpAny (model prog w) A (execs body env) (JPost h₀ env.locals s x Led ps stored m₀ (P (i + 1)) I oI Q) E { s with heap := h, toks := tk })
    (done : ∀ (c : σ) (u : Str → Option Value) h tk, P n c → Fr h₀ env.locals h (fun y => if y = x then u y else kstB (fun z => if stored.contains z then u z else m₀ z) (ps c) y) → News h₀ env.locals h (Led c) → Q .next { s with heap := h, toks := tk }) :
    wpAny (model prog w) A (pyIter (.ref r)) (fun it s₂ => LoopAtV prog w A h₀ env x body Q E it s₂) E s := by
  refine wpAny_pyIter_range hr hsmall ?_
  have W : Walks prog w A s.heap.objs.size [s.heap.objs.size] [s.heap.objs.size] n (fun i v => i < n ∧ ∃ t, v = .int (a₀ + i * 1) t)
      (fun i h => IsRangeIter h s.heap.objs.size (a₀ + (i : Nat) * 1) ((n : Int) - (i : Nat)) 1) := (Walks.range hh _ a₀ 1 n).bound
  let J : Nat → (Str → Option Value) → List (Addr × Obj) → Prop := fun i m nx => ∃ c : σ, nx = Led c ∧ (∀ p ∈ ps c, m p.1 = some p.2) ∧ (∀ z, z ≠ x → (∀ p ∈ ps c, z ≠ p.1) → stored.contains z = false → m z = m₀ z) ∧ P i c
  refine ⟨_, _, _, n, _, _, m₀, Led c₀, J, rfl, W, ?_, ?_, ?_, (by show IsRangeIter _ _ _ _ _; rw [hn]; simpa using Heap.get?_push_size _ rfl), F.push _, (fun p hp => ⟨Heap.get?_push_of_some _ (N p hp).1, (N p hp).2⟩), ⟨c₀, rfl, hk, fun _ _ _ _ => rfl, hp⟩, ?_, ?_⟩
  · intro hm
    exact absurd F.ns.lt ((List.mem_singleton.mp hm) ▸ Nat.lt_irrefl _)
  · intro b hb
    rw [List.mem_singleton.mp hb]
    exact next_is_new F
  · intro p hp hI
    exact absurd (Heap.lt_size (N p hp).1) ((List.mem_singleton.mp hI) ▸ Nat.lt_irrefl _)
  · rintro i v m₁ news₁ s₁ own ⟨hh', tk', rfl⟩ hin ⟨_, t, rfl⟩ ⟨c, rfl, h1, h2, hP⟩ hoff hown hget hfp hst F₁ N₁
    have hI0 : h₀.get? s.heap.objs.size = none := next_is_new F
    obtain ⟨oI, hoI⟩ : ∃ o, hh'.get? s.heap.objs.size = some o := ⟨_, hst⟩
    have hIown := hfp _ (List.mem_singleton.mpr rfl) hI0 _ hoI
    have e1 : a₀ + (i : Int) * 1 = a₀ + (i : Int) := by omega
    rw [e1] at F₁
    refine wpAny_mono (turn c i _ t m₁ hh' tk' s.heap.objs.size oI rfl hin hP (fun p hp e => hoff p hp (List.mem_singleton.mpr e)) (kst_fr h1 h2 F₁) (fun p hp => ?_)) (fun f s₂ q => ?_) fun _ _ e => e
    · rcases List.mem_cons.mp hp with rfl | hp
      · exact N₁ _ (List.mem_append.mpr (.inl hIown))
      · exact N₁ _ (List.mem_append.mpr (.inr hp))
    · have fin : JEnd h₀ env.locals s x Led ps stored m₀ (P (i + 1)) s.heap.objs.size oI s₂ → LoopStepU h₀ env.locals [s.heap.objs.size] own (J (i + 1)) { s with heap := hh', toks := tk' } .next s₂ := by
        rintro ⟨c', h', tk, m', news', e, F', N', hn', hi', ha', hk', hr', hp'⟩
        refine ⟨rfl, h', tk, m', Led c', e, F', fun p hp => ?_, fun p hp hq => ha' p hp (List.mem_singleton.mp hq), c', rfl, hk', hr', hp'⟩
        rcases List.mem_append.mp hp with h | h
        · have h1 : p.1 = s.heap.objs.size := List.mem_singleton.mp (hown p h)
          have h2 := hget p h
          have h3 : hh'.get? p.1 = some p.2 := h2
          rw [h1] at h3
          rw [show p = (s.heap.objs.size, oI) from Prod.ext h1 (Option.some.inj (h3.symm.trans hoI))]
          exact N' _ hi'
        · exact N' p (hn' p h)
      cases f with
      | ret v => exact .ret q
      | brk => exact .brk q
      | next => exact .next (fin q)
      | cont => exact .cont (fin q)
  · rintro h' tk m' news' F' N' _ ⟨c, rfl, h1, h2, hP⟩
    exact done c m' h' tk hP (kst_frOut h1 h2 F') N'
end

section
open PySem.Calls
section
variable {prog : Program} {w : World} {A A₀ : Around} {s : Shared} {K : Frag} {L : Addr} {h₀ base : Heap} {m mg mb : Str → Option Value} {news : List (Addr × Obj)} {p : Program} {loose : List Str} {mean : ExcName → Option Value}
/-- the caller's objects stand through a call that turns none of them -/
theorem news_stay {h h' : Heap} {g : Heap} (N : News h₀ L h news) (e : g = h) (k : ∀ b o, g.get? b = some o → h'.get? b = some o) : News h₀ L h' news := by
  subst e
  exact fun q hq => ⟨k _ _ (N q hq).1, (N q hq).2⟩
/-- what stands behind a call: as LeaveK, the caller's objects handed on -/
theorem leaveP {g : Heap} {R : Result → Shared → Prop} {v : Value} {s₀ s' : Shared} (N : News h₀ L s₀.heap news) (e : g = s₀.heap)
    (h : LeaveK h₀ L m g (fun r s' => News h₀ L s'.heap news → R r s') v s') : LeaveK h₀ L m g R v s' := by
  obtain ⟨L', m', news', F', N', k⟩ := h
  exact ⟨L', m', news', F', N', fun a b => k a b (news_stay N e F'.keep)⟩

theorem code_defP {env : Env} {outer : List Env} {R : Result → Shared → Prop} {name qual : Str} {params : Arguments} {body : List Stmt} {scope : Scope} {dV kV doc pm cdv ct oc : Value} {an od : Option Addr} {osl : Array (Option Value)} {f : Addr} {args : Args} {binds : List (Str × Value)}
    (B : Below A₀ base outer h₀) (F : Fr h₀ L s.heap m) (X₀ : K.In h₀) (N : News h₀ L s.heap news) (T : Top p loose mean mg mb h₀) (hA : A.frames = some (env :: outer)) (hf : env.frame = some L) (hke : env.scope.kind = .function)
    (ho : K.lookup f = some ⟨oc, od, .func (fnOf name qual params body scope dV kV doc pm an cdv ct), osl⟩) (hcd : codeIn K cdv qual = true) (hroom : A.depth < recursionLimit)
    (hbind : BindsTo s (fnOf name qual params body scope dV kV doc pm an cdv ct) args binds) (hloc : ∀ y ∈ binds, scope.names.lookup y.1 = some .local)
    (h : ∀ g L' h₁, g = s.heap → (∀ p ∈ news, p.1 < L') → Fr h₀ L g m → Fr g L' h₁ (fun y => binds.reverse.lookup y) → News g L' h₁ [] → Below A base (env :: outer) g → K.In g → Top p loose mean mg mb g →
      wpAny (model prog w) (A.deeper (envOf qual scope L' f cdv)) (execs body (envOf qual scope L' f cdv))
        (fun fl s' => LeaveK h₀ L m g (fun r s' => News h₀ L s'.heap news → R r s') (match fl with | .ret v => v | _ => .none) s')
        (fun e s' => wpAny (model prog w) (A.deeper (envOf qual scope L' f cdv)) (leaving (envOf qual scope L' f cdv) e) (fun _ s'' => R (.error e) s'') (fun e' s'' => R (.error e') s'') s')
        { s with heap := h₁, toks := s.toks + binds.length })
    (hco : scope.isCoroutine = false) (hgen : scope.isGenerator = false) (hk : scope.kind = .function)
    (hcell : ∀ x ∈ scope.names, x.2 ≠ .cell) : codeAny (model prog w) A (.call (.ref f) args) R s := by
  obtain ⟨FG, BG, st, lv⟩ := groundX (R := R) B F (News.nil (h₀ := h₀) (L := L)) hA hf hke
  have X := X₀.keeps F.keep
  refine codeAny_call_def (fd := fnOf name qual params body scope dV kV doc pm an cdv ct) (body := body) (binds := binds) hroom (X _ _ ho) rfl (T.nolimit.keeps F.keep) (codeRec_of X hcd) rfl hbind hcell hloc (fun h₁ hns hk₁ => ?_) hco hgen hk
  exact wpAny_mono (h s.heap s.heap.objs.size h₁ rfl (fun p hp => Heap.lt_size (N p hp).1) FG ⟨hns, fun b o e => hk₁ b o e, Nat.le_refl _⟩ News.nil BG (X₀.keeps st) (T.keeps st))
    (fun fl s' hl => lv _ _ (leaveP N rfl hl)) fun _ _ y => y

theorem code_defCP {env : Env} {outer : List Env} {R : Result → Shared → Prop} {name qual : Str} {params : Arguments} {body : List Stmt} {scope : Scope} {dV kV doc pm cdv ct oc : Value} {an od : Option Addr} {osl : Array (Option Value)} {f : Addr} {args : Args} {binds : List (Str × Value)}
    (B : Below A₀ base outer h₀) (F : Fr h₀ L s.heap m) (X₀ : K.In h₀) (N : News h₀ L s.heap news) (T : Top p loose mean mg mb h₀) (hA : A.frames = some (env :: outer)) (hf : env.frame = some L) (hke : env.scope.kind = .function)
    (ho : K.lookup f = some ⟨oc, od, .func (fnOf name qual params body scope dV kV doc pm an cdv ct), osl⟩) (hcd : codeIn K cdv qual = true) (hroom : A.depth < recursionLimit)
    (hbind : BindsTo s (fnOf name qual params body scope dV kV doc pm an cdv ct) args binds) (hkind : (binds.all fun y => scope.names.lookup y.1 == some .local || scope.names.lookup y.1 == some .cell) = true)
    (hnd : ((cellsFrom 0 scope.names []).map (·.1)).Nodup)
    (h : ∀ g L' h₁ tk cells, g = s.heap → (∀ p ∈ news, p.1 < L') → Fr h₀ L g m → Fr g L' h₁ (bindL (envOfC qual scope L' f cdv).kindOf binds fun _ => none) → News g L' h₁ cells →
      CellsAre (bindC (envOfC qual scope L' f cdv).kindOf binds fun _ => none) (cellsFrom (L' + 1) scope.names []) cells → Below A base (env :: outer) g → K.In g → Top p loose mean mg mb g →
      wpAny (model prog w) (A.deeper (envOfC qual scope L' f cdv)) (execs body (envOfC qual scope L' f cdv))
        (fun fl s' => LeaveK h₀ L m g (fun r s' => News h₀ L s'.heap news → R r s') (match fl with | .ret v => v | _ => .none) s')
        (fun e s' => wpAny (model prog w) (A.deeper (envOfC qual scope L' f cdv)) (leaving (envOfC qual scope L' f cdv) e) (fun _ s'' => R (.error e) s'') (fun e' s'' => R (.error e') s'') s')
        { s with heap := h₁, toks := tk })
    (hco : scope.isCoroutine = false) (hgen : scope.isGenerator = false) (hk : scope.kind = .function) : codeAny (model prog w) A (.call (.ref f) args) R s := by
  obtain ⟨FG, BG, st, lv⟩ := groundX (R := R) B F (News.nil (h₀ := h₀) (L := L)) hA hf hke
  have X := X₀.keeps F.keep
  refine codeAny_call_function (fd := fnX name qual params body scope [] dV kV doc pm an cdv ct) hroom (X _ _ ho) rfl hco hgen rfl (codeRec_of X hcd) (hbind _ _ _ _ ?_)
  refine wpAny_newFunctionEnv_cells hk (kindsX hkind _) fun env' he s' x => ?_
  subst he
  refine ⟨(T.nolimit.keeps F.keep).keeps x.toInCall.keep, codeAny_func ?_⟩
  obtain ⟨h₁, tk, rfl, _⟩ := x.done
  have hk₁ := x.toInCall.keep
  obtain ⟨cells, NC, Y⟩ := Cl.news (h₀ := s.heap) (Nat.le_refl _) fun n c hm => ⟨x.cell n c (lookup_of_mem_nodup (cellsFrom_names scope.names 0 (s.heap.objs.size + 1) [] [] rfl ▸ hnd) hm), x.above n c hm⟩
  exact wpAny_mono (h s.heap s.heap.objs.size h₁ tk cells rfl (fun p hp => Heap.lt_size (N p hp).1) FG ⟨x.toInCall.ns, fun b o e => hk₁ b o e, Nat.le_refl _⟩ NC Y BG (X₀.keeps st) (T.keeps st))
    (fun fl s' hl => lv _ _ (leaveP N rfl hl)) fun _ _ y => y
end

/-- a contract of a def that turns nothing of the caller's; Pre speaks of the heap at the call (and what is newest) -/
abbrev PuP (prog : Program) (w : World) (K : Frag) (p : Program) (loose : List Str) (mean : ExcName → Option Value) (mg mb : Str → Option Value) (fa : Addr) (args : List Value) (bd : Nat) (Pre : Heap → Prop) (Post : Value → List (Addr × Obj) → Prop) : Prop :=
  ∀ (dp un : Nat) (gd : Option (List Code)) (cn : Str) (cs : Scope) (a : Addr) (ccd : Value) (cl : List (Str × Addr)) (outer : List Env) (A₀ : Around) (base h₀ : Heap) (L : Addr) (m : Str → Option Value) (s : Shared) (Q E : Value → Shared → Prop)
    (news : List (Addr × Obj)),
    Below A₀ base outer h₀ → Fr h₀ L s.heap m → K.In h₀ → News h₀ L s.heap news → Top p loose mean mg mb h₀ → cs.kind = .function →
    Pre s.heap → dp + bd < recursionLimit → un + 10 * bd < cLine →
    (∀ v tl h' tk', Post v tl → (∀ q ∈ tl, ∀ p ∈ news, p.1 < q.1) → Fr h₀ L h' m → News h₀ L h' (tl ++ news) → Q v { s with heap := h', toks := tk' }) →
    wpAny (model prog w) (ktrTop dp un gd cn cs L a ccd cl outer) (call (.ref fa) args) Q E s

section
variable {prog : Program} {w : World} {K : Frag} {p : Program} {loose : List Str} {mean : ExcName → Option Value} {mg mb : Str → Option Value} {fa : Addr}
  {dp un : Nat} {gd : Option (List Code)} {cn : Str} {cs : Scope} {a : Addr} {ccd : Value} {cl : List (Str × Addr)} {outer : List Env} {A₀ : Around} {base h₀ : Heap} {L : Addr} {m : Str → Option Value} {s : Shared} {Q E : Value → Shared → Prop}
theorem PuP.use {args : List Value} {bd : Nat} {Pre : Heap → Prop} {Post : Value → List (Addr × Obj) → Prop} {news : List (Addr × Obj)}
    (H : PuP prog w K p loose mean mg mb fa args bd Pre Post)
    (B : Below A₀ base outer h₀) (F : Fr h₀ L s.heap m) (X : K.In h₀) (N : News h₀ L s.heap news) (T : Top p loose mean mg mb h₀) (hk : cs.kind = .function) (hp : Pre s.heap) (hd : dp + bd < recursionLimit) (hu : un + 10 * bd < cLine)
    (ret : ∀ v tl h' tk', Post v tl → (∀ q ∈ tl, ∀ p ∈ news, p.1 < q.1) → Fr h₀ L h' m → News h₀ L h' (tl ++ news) → Q v { s with heap := h', toks := tk' }) :
    wpAny (model prog w) (ktrTop dp un gd cn cs L a ccd cl outer) (call (.ref fa) args) Q E s :=
  H dp un gd cn cs a ccd cl outer A₀ base h₀ L m s Q E news B F X N T hk hp hd hu ret
/-- what a contract hands back: its own objects ahead of the caller's -/
theorem news_app {h : Heap} {tl news full : List (Addr × Obj)} (N : News h₀ L h full) (M : News h₀ L h news) (hs : ∀ p ∈ tl, p ∈ full) : News h₀ L h (tl ++ news) := fun q hq => by
  rcases List.mem_append.mp hq with h | h
  · exact N q (hs q h)
  · exact M q h
theorem above_news {L' : Addr} {tl news : List (Addr × Obj)} (h : ∀ p ∈ news, p.1 < L') (k : ∀ q ∈ tl, L' < q.1) : ∀ q ∈ tl, ∀ p ∈ news, p.1 < q.1 := fun q hq p hp => Nat.lt_trans (h p hp) (k q hq)
end
theorem PuP.post {prog : Program} {w : World} {K : Frag} {p : Program} {loose : List Str} {mean : ExcName → Option Value} {mg mb : Str → Option Value} {fa : Addr} {args : List Value} {bd : Nat} {Pre : Heap → Prop} {Post Post' : Value → List (Addr × Obj) → Prop}
    (H : PuP prog w K p loose mean mg mb fa args bd Pre Post) (h : ∀ v tl, Post v tl → Post' v tl) : PuP prog w K p loose mean mg mb fa args bd Pre Post' :=
  fun dp un gd cn cs a ccd cl outer A₀ base h₀ L m s Q E news B F X N T hk hp hd hu ret =>
    H dp un gd cn cs a ccd cl outer A₀ base h₀ L m s Q E news B F X N T hk hp hd hu fun v tl h' tk' q => ret v tl h' tk' (h v tl q)
theorem PuC.post {prog : Program} {w : World} {K : Frag} {p : Program} {loose : List Str} {mean : ExcName → Option Value} {mg mb : Str → Option Value} {fa : Addr} {args : List Value} {bd : Nat} {Pre : Heap → List (Addr × Obj) → Prop} {Post Post' : Value → List (Addr × Obj) → Prop}
    (H : PuC prog w K p loose mean mg mb fa args bd Pre Post) (h : ∀ v tl, Post v tl → Post' v tl) : PuC prog w K p loose mean mg mb fa args bd Pre Post' :=
  fun dp un gd cn cs a ccd cl outer A₀ base h₀ L m s Q E news B F X N T hk hp hd hu ret =>
    H dp un gd cn cs a ccd cl outer A₀ base h₀ L m s Q E news B F X N T hk hp hd hu fun v tl h' tk' q => ret v tl h' tk' (h v tl q)
theorem Bd.lit {x : Int} (h0 : 0 ≤ x) (h1 : x < 1073741824) : Bd 30 x := ⟨h0, h1⟩
theorem Bd.mul {k l : Nat} {x y : Int} (h : Bd k x) (g : Bd l y) : Bd (k + l) (x * y) := by
  refine ⟨Int.mul_nonneg h.1 g.1, ?_⟩
  rw [Int.pow_add]
  have h1 := h.2; have h2 := g.2
  have a := Int.mul_le_mul_of_nonneg_left (Int.le_of_lt h2) h.1
  have b : x * 2 ^ l < 2 ^ k * 2 ^ l := Int.mul_lt_mul_of_pos_right h1 (Int.pow_pos (by decide))
  omega
theorem Bd.add {k l : Nat} {x y : Int} (h : Bd k x) (g : Bd l y) : Bd (k + l + 1) (x + y) := by
  have h1 := h.mono (Nat.le_add_right k l)
  have g1 := g.mono (Nat.le_add_left l k)
  refine ⟨Int.add_nonneg h.1 g.1, ?_⟩
  have a := h1.2; have b := g1.2
  rw [Int.pow_succ]
  omega
theorem mul_bd {prog : Program} {w : World} {A : Around} {E : Value → Shared → Prop} {s : Shared} {k l : Nat} {a b : Int} {t u : Tok} {Q : Value → Shared → Prop} (ha : Bd k a) (hb : Bd l b) (hk : k + l ≤ 1000000)
    (h : ∀ z, z = a * b → Bd (k + l) z → Q (.int z s.toks) { s with toks := s.toks + 1 }) : wpAny (model prog w) A (binaryOp .Mult (.int a t) (.int b u)) Q E s :=
  mul_int (h _ rfl (ha.mul hb)) (mulOk ha.sbd hb.sbd hk)
end

section
open PySem.Calls
section
variable {prog : Program} {w : World} {A A₀ : Around} {s : Shared} {K : Frag} {L : Addr} {h₀ base : Heap} {m mg mb : Str → Option Value} {news : List (Addr × Obj)} {p : Program} {loose : List Str} {mean : ExcName → Option Value}
theorem mem_oneF {env : Env} {b : Addr} (hf : env.frame = some L) (h : b ∈ [env].filterMap (·.frame)) : b = L := by
  obtain ⟨e, he, hb⟩ := List.mem_filterMap.mp h
  rw [List.mem_singleton.mp he, hf] at hb
  exact (Option.some.inj hb).symm
/-- a def that catches, called by the law itself: its ledger begins empty -/
theorem code_defTP {env : Env} {R : Result → Shared → Prop} {name qual : Str} {params : Arguments} {body : List Stmt} {scope : Scope} {dV kV doc pm cdv ct oc : Value} {an od : Option Addr} {osl : Array (Option Value)} {f : Addr} {args : Args} {binds : List (Str × Value)}
    (B : Below A₀ base [] h₀) (F : Fr h₀ L s.heap m) (X₀ : K.In h₀) (N : News h₀ L s.heap news) (T : Top p loose mean mg mb h₀) (hA : A.frames = some [env]) (hf : env.frame = some L) (hke : env.scope.kind = .function)
    (ho : K.lookup f = some ⟨oc, od, .func (fnOf name qual params body scope dV kV doc pm an cdv ct), osl⟩) (hcd : codeIn K cdv qual = true) (hroom : A.depth < recursionLimit)
    (hbind : BindsTo s (fnOf name qual params body scope dV kV doc pm an cdv ct) args binds) (hloc : ∀ y ∈ binds, scope.names.lookup y.1 = some .local)
    (h : ∀ g L' h₁, g = s.heap → (∀ p ∈ news, p.1 < L') → Fr h₀ L g m → Fr g L' h₁ (fun y => binds.reverse.lookup y) → News g L' h₁ [] → Below A base [env] g → K.In g → Top p loose mean mg mb g → KtsDicts ([env].filterMap (·.frame)) g →
      wpAny (model prog w) (A.deeper (envOf qual scope L' f cdv)) (execs body (envOf qual scope L' f cdv))
        (fun fl s' => LeaveS0 ([env].filterMap (·.frame)) h₀ L m g (fun r s' => News h₀ L s'.heap news → R r s') (match fl with | .ret v => v | _ => .none) s')
        (fun e s' => wpAny (model prog w) (A.deeper (envOf qual scope L' f cdv)) (leaving (envOf qual scope L' f cdv) e) (fun _ s'' => R (.error e) s'') (fun e' s'' => R (.error e') s'') s')
        { s with heap := h₁, toks := s.toks + binds.length })
    (hco : scope.isCoroutine = false) (hgen : scope.isGenerator = false) (hk : scope.kind = .function)
    (hcell : ∀ x ∈ scope.names, x.2 ≠ .cell) : codeAny (model prog w) A (.call (.ref f) args) R s := by
  have X := X₀.keeps F.keep
  obtain ⟨FG, BG, st, lv⟩ := groundX (R := R) B F (News.nil (h₀ := h₀) (L := L)) hA hf hke
  refine codeAny_call_def (fd := fnOf name qual params body scope dV kV doc pm an cdv ct) (body := body) (binds := binds) hroom (X _ _ ho) rfl (T.nolimit.keeps F.keep) (codeRec_of X hcd) rfl hbind hcell hloc (fun h₁ hns hk₁ => ?_) hco hgen hk
  obtain ⟨oL, es, ep, hL, hLd, hLk, hLf⟩ := F.ns
  have hNs : ∀ (sl : Array (Option Value)) h', h'.get? L = some { oL with slots := sl } → Heap.Ns h' L m := fun sl h' e => ⟨_, es, ep, e, hLd, hLk, hLf⟩
  refine wpAny_mono (h s.heap s.heap.objs.size h₁ rfl (fun p hp => Heap.lt_size (N p hp).1) FG ⟨hns, fun b o e => hk₁ b o e, Nat.le_refl _⟩ News.nil BG (X₀.keeps st) (T.keeps st) (fun b hb => by
      rw [mem_oneF hf hb]; exact ⟨oL, es, ep, hL, hLd⟩)) (fun fl s' hl => ?_) fun _ _ y => y
  obtain ⟨g', L', m', news', T', F', N', k⟩ := hl
  have nL₀ : h₀.get? L = none := kts_self F
  obtain ⟨sl, hs⟩ := T'.up hL
  refine k ⟨hNs sl _ (F'.keep _ _ hs), fun b o e => F'.keep b o (T'.other b o (st b o e) (fun q => by
    rw [mem_oneF hf q, nL₀] at e; cases e)), F.above⟩ (fun p hp => ⟨(N' p hp).1, fun q => ?_, ?_⟩) fun p hp => ⟨F'.keep _ _ (T'.other _ _ (N p hp).1 fun q => (N p hp).2.1 (mem_oneF hf q)), (N p hp).2⟩
  · have := (N' p hp).2.2; rw [q, hs] at this; cases this
  · cases q : h₀.get? p.1 with
    | none => rfl
    | some o =>
      obtain ⟨sl', hs'⟩ := T'.up (st _ _ q)
      have := (N' p hp).2.2
      rw [hs'] at this
      cases this
end

/-- a contract of a def that catches, called by the law itself -/
abbrev TrP (prog : Program) (w : World) (K : Frag) (p : Program) (loose : List Str) (mean : ExcName → Option Value) (mg mb : Str → Option Value) (fa : Addr) (args : List Value) (bd : Nat) (Pre : Heap → Prop) (Post : Value → List (Addr × Obj) → Prop) : Prop :=
  ∀ (dp un : Nat) (gd : Option (List Code)) (cn : Str) (cs : Scope) (a : Addr) (ccd : Value) (cl : List (Str × Addr)) (A₀ : Around) (base h₀ : Heap) (L : Addr) (m : Str → Option Value) (s : Shared) (Q E : Value → Shared → Prop)
    (news : List (Addr × Obj)),
    Below A₀ base [] h₀ → Fr h₀ L s.heap m → K.In h₀ → News h₀ L s.heap news → Top p loose mean mg mb h₀ → cs.kind = .function →
    K.In base → Top p loose mean mg mb base → Pre s.heap → dp + bd < recursionLimit → un + 10 * bd < cLine →
    (∀ v tl h' tk', Post v tl → (∀ q ∈ tl, ∀ p ∈ news, p.1 < q.1) → Fr h₀ L h' m → News h₀ L h' (tl ++ news) → Q v { s with heap := h', toks := tk' }) →
    wpAny (model prog w) (ktrTop dp un gd cn cs L a ccd cl []) (call (.ref fa) args) Q E s
section
variable {prog : Program} {w : World} {K : Frag} {p : Program} {loose : List Str} {mean : ExcName → Option Value} {mg mb : Str → Option Value} {fa : Addr}
  {dp un : Nat} {gd : Option (List Code)} {cn : Str} {cs : Scope} {a : Addr} {ccd : Value} {cl : List (Str × Addr)} {A₀ : Around} {base h₀ : Heap} {L : Addr} {m : Str → Option Value} {s : Shared} {Q E : Value → Shared → Prop}
theorem TrP.use {args : List Value} {bd : Nat} {Pre : Heap → Prop} {Post : Value → List (Addr × Obj) → Prop} {news : List (Addr × Obj)}
    (H : TrP prog w K p loose mean mg mb fa args bd Pre Post)
    (B : Below A₀ base [] h₀) (F : Fr h₀ L s.heap m) (X : K.In h₀) (N : News h₀ L s.heap news) (T : Top p loose mean mg mb h₀) (hk : cs.kind = .function) (XB : K.In base) (TB : Top p loose mean mg mb base) (hp : Pre s.heap) (hd : dp + bd < recursionLimit) (hu : un + 10 * bd < cLine)
    (ret : ∀ v tl h' tk', Post v tl → (∀ q ∈ tl, ∀ p ∈ news, p.1 < q.1) → Fr h₀ L h' m → News h₀ L h' (tl ++ news) → Q v { s with heap := h', toks := tk' }) :
    wpAny (model prog w) (ktrTop dp un gd cn cs L a ccd cl []) (call (.ref fa) args) Q E s :=
  H dp un gd cn cs a ccd cl A₀ base h₀ L m s Q E news B F X N T hk XB TB hp hd hu ret
end

/-- as PuP; the objects handed back are other ones than the caller's -/
abbrev PuN (prog : Program) (w : World) (K : Frag) (p : Program) (loose : List Str) (mean : ExcName → Option Value) (mg mb : Str → Option Value) (fa : Addr) (args : List Value) (bd : Nat) (Pre : Heap → Prop) (Post : Value → List (Addr × Obj) → Prop) : Prop :=
  ∀ (dp un : Nat) (gd : Option (List Code)) (cn : Str) (cs : Scope) (a : Addr) (ccd : Value) (cl : List (Str × Addr)) (outer : List Env) (A₀ : Around) (base h₀ : Heap) (L : Addr) (m : Str → Option Value) (s : Shared) (Q E : Value → Shared → Prop)
    (news : List (Addr × Obj)),
    Below A₀ base outer h₀ → Fr h₀ L s.heap m → K.In h₀ → News h₀ L s.heap news → Top p loose mean mg mb h₀ → cs.kind = .function →
    Pre s.heap → dp + bd < recursionLimit → un + 10 * bd < cLine →
    (∀ v tl h' tk', Post v tl → (∀ q ∈ tl, ∀ p ∈ news, p.1 ≠ q.1) → Fr h₀ L h' m → News h₀ L h' (tl ++ news) → Q v { s with heap := h', toks := tk' }) →
    wpAny (model prog w) (ktrTop dp un gd cn cs L a ccd cl outer) (call (.ref fa) args) Q E s
section
variable {prog : Program} {w : World} {K : Frag} {p : Program} {loose : List Str} {mean : ExcName → Option Value} {mg mb : Str → Option Value} {fa : Addr}
  {dp un : Nat} {gd : Option (List Code)} {cn : Str} {cs : Scope} {a : Addr} {ccd : Value} {cl : List (Str × Addr)} {outer : List Env} {A₀ : Around} {base h₀ : Heap} {L : Addr} {m : Str → Option Value} {s : Shared} {Q E : Value → Shared → Prop}
theorem PuN.use {args : List Value} {bd : Nat} {Pre : Heap → Prop} {Post : Value → List (Addr × Obj) → Prop} {news : List (Addr × Obj)}
    (H : PuN prog w K p loose mean mg mb fa args bd Pre Post)
    (B : Below A₀ base outer h₀) (F : Fr h₀ L s.heap m) (X : K.In h₀) (N : News h₀ L s.heap news) (T : Top p loose mean mg mb h₀) (hk : cs.kind = .function) (hp : Pre s.heap) (hd : dp + bd < recursionLimit) (hu : un + 10 * bd < cLine)
    (ret : ∀ v tl h' tk', Post v tl → (∀ q ∈ tl, ∀ p ∈ news, p.1 ≠ q.1) → Fr h₀ L h' m → News h₀ L h' (tl ++ news) → Q v { s with heap := h', toks := tk' }) :
    wpAny (model prog w) (ktrTop dp un gd cn cs L a ccd cl outer) (call (.ref fa) args) Q E s :=
  H dp un gd cn cs a ccd cl outer A₀ base h₀ L m s Q E news B F X N T hk hp hd hu ret
/-- what is new to the callee is none of the caller's -/
theorem apart {g h' hs : Heap} {L' : Addr} {tl news full : List (Addr × Obj)} (N' : News g L' h' full) (e : g = hs) (N : News h₀ L hs news) (k : ∀ q ∈ tl, q ∈ full) : ∀ q ∈ tl, ∀ p ∈ news, p.1 ≠ q.1 := by
  subst e
  intro q hq p hp h
  have h1 := (N' q (k q hq)).2.2
  have h2 := (N p hp).1
  rw [h, h1] at h2
  cases h2
theorem PuN.post {args : List Value} {bd : Nat} {Pre : Heap → Prop} {Post Post' : Value → List (Addr × Obj) → Prop}
    (H : PuN prog w K p loose mean mg mb fa args bd Pre Post) (h : ∀ v tl, Post v tl → Post' v tl) : PuN prog w K p loose mean mg mb fa args bd Pre Post' :=
  fun dp un gd cn cs a ccd cl outer A₀ base h₀ L m s Q E news B F X N T hk hp hd hu ret =>
    H dp un gd cn cs a ccd cl outer A₀ base h₀ L m s Q E news B F X N T hk hp hd hu fun v tl h' tk' q => ret v tl h' tk' (h v tl q)
end
theorem news_one {h₀ h : Heap} {L : Addr} {a : Addr × Obj} {l news : List (Addr × Obj)} (N : News h₀ L h (a :: l)) (M : News h₀ L h news) : News h₀ L h ([a] ++ news) :=
  news_app N M (by intro q hq; rw [List.mem_singleton.mp hq]; exact List.mem_cons_self)
theorem news_two {h₀ h : Heap} {L : Addr} {a b : Addr × Obj} {l news : List (Addr × Obj)} (N : News h₀ L h (a :: b :: l)) (M : News h₀ L h news) : News h₀ L h ([a, b] ++ news) :=
  news_app N M (List.forall_mem_cons.mpr ⟨List.mem_cons_self, List.forall_mem_cons.mpr ⟨List.mem_cons_of_mem _ List.mem_cons_self, List.forall_mem_nil _⟩⟩)
theorem apart_one {g h' hs h₀ : Heap} {L L' : Addr} {a : Addr × Obj} {l news : List (Addr × Obj)} (N' : News g L' h' (a :: l)) (e : g = hs) (N : News h₀ L hs news) : ∀ q ∈ [a], ∀ p ∈ news, p.1 ≠ q.1 :=
  apart N' e N (by intro q hq; rw [List.mem_singleton.mp hq]; exact List.mem_cons_self)
theorem apart_two {g h' hs h₀ : Heap} {L L' : Addr} {a b : Addr × Obj} {l news : List (Addr × Obj)} (N' : News g L' h' (a :: b :: l)) (e : g = hs) (N : News h₀ L hs news) : ∀ q ∈ [a, b], ∀ p ∈ news, p.1 ≠ q.1 :=
  apart N' e N (List.forall_mem_cons.mpr ⟨List.mem_cons_self, List.forall_mem_cons.mpr ⟨List.mem_cons_of_mem _ List.mem_cons_self, List.forall_mem_nil _⟩⟩)
section
variable {prog : Program} {w : World} {A : Around} {E : Value → Shared → Prop} {s : Shared} {env : Env} {h₀ : Heap} {x : Str} {body : List Stmt} {Q : Flow → Shared → Prop}
/-- as j_range; the names of ps1 stand behind the first turn only -/
theorem j_range2 {σ : Type} {r : Addr} {a₀ b₀ : Int} {t₀ u₀ v₀ : Tok} {n : Nat} {m₀ : Str → Option Value} (Led : σ → List (Addr × Obj)) (ps ps1 : σ → List (Str × Value)) (stored : List Str) (P : Nat → σ → Prop) (c₀ : σ)
    (hsub : ∀ c, ∀ p ∈ ps1 c, stored.contains p.1 = true) (hnn : 0 < n) (hh : A.handled = none) (hr : IsRange s.heap r a₀ b₀ 1 t₀ u₀ v₀) (hsmall : Builtin.Range.small a₀ b₀ 1 = true) (hn : Builtin.Range.rangeSize a₀ b₀ 1 = (n : Int)) (F : Fr h₀ env.locals s.heap m₀) (N : News h₀ env.locals s.heap (Led c₀)) (hk : ∀ p ∈ ps c₀, m₀ p.1 = some p.2) (hp : P 0 c₀)
    (turn : ∀ (c : σ) (i : Nat) (k : Int) t (u : Str → Option Value) h tk I oI, k = a₀ + (i : Int) → i < n → P i c → (∀ p ∈ Led c, p.1 ≠ I) →
      Fr h₀ env.locals h (fun y => if y = x then some (.int k t) else kstB (fun z => if stored.contains z then u z else m₀ z) (ps c) y) → News h₀ env.locals h ((I, oI) :: Led c) →
      wpAny (model prog w) A (execs body env) (JPost h₀ env.locals s x Led (fun c => ps c ++ ps1 c) stored m₀ (P (i + 1)) I oI Q) E { s with heap := h, toks := tk })
    (done : ∀ (c : σ) (u : Str → Option Value) h tk, P n c → Fr h₀ env.locals h (fun y => if y = x then u y else kstB (fun z => if stored.contains z then u z else m₀ z) (ps c ++ ps1 c) y) → News h₀ env.locals h (Led c) → Q .next { s with heap := h, toks := tk }) :
    wpAny (model prog w) A (pyIter (.ref r)) (fun it s₂ => LoopAtV prog w A h₀ env x body Q E it s₂) E s := by
  refine wpAny_pyIter_range hr hsmall ?_
  have W : Walks prog w A s.heap.objs.size [s.heap.objs.size] [s.heap.objs.size] n (fun i v => i < n ∧ ∃ t, v = .int (a₀ + i * 1) t)
      (fun i h => IsRangeIter h s.heap.objs.size (a₀ + (i : Nat) * 1) ((n : Int) - (i : Nat)) 1) := (Walks.range hh _ a₀ 1 n).bound
  let J : Nat → (Str → Option Value) → List (Addr × Obj) → Prop := fun i m nx => ∃ c : σ, nx = Led c ∧ (∀ p ∈ ps c, m p.1 = some p.2) ∧ (i = 0 ∨ ∀ p ∈ ps1 c, m p.1 = some p.2) ∧ (∀ z, z ≠ x → (∀ p ∈ ps c, z ≠ p.1) → stored.contains z = false → m z = m₀ z) ∧ P i c
  refine ⟨_, _, _, n, _, _, m₀, Led c₀, J, rfl, W, ?_, ?_, ?_, (by show IsRangeIter _ _ _ _ _; rw [hn]; simpa using Heap.get?_push_size _ rfl), F.push _, (fun p hp => ⟨Heap.get?_push_of_some _ (N p hp).1, (N p hp).2⟩), ⟨c₀, rfl, hk, .inl rfl, fun _ _ _ _ => rfl, hp⟩, ?_, ?_⟩
  · intro hm
    exact absurd F.ns.lt ((List.mem_singleton.mp hm) ▸ Nat.lt_irrefl _)
  · intro b hb
    rw [List.mem_singleton.mp hb]
    exact next_is_new F
  · intro p hp hI
    exact absurd (Heap.lt_size (N p hp).1) ((List.mem_singleton.mp hI) ▸ Nat.lt_irrefl _)
  · rintro i v m₁ news₁ s₁ own ⟨hh', tk', rfl⟩ hin ⟨_, t, rfl⟩ ⟨c, rfl, h1, _, h2, hP⟩ hoff hown hget hfp hst F₁ N₁
    have hI0 : h₀.get? s.heap.objs.size = none := next_is_new F
    obtain ⟨oI, hoI⟩ : ∃ o, hh'.get? s.heap.objs.size = some o := ⟨_, hst⟩
    have hIown := hfp _ (List.mem_singleton.mpr rfl) hI0 _ hoI
    have e1 : a₀ + (i : Int) * 1 = a₀ + (i : Int) := by omega
    rw [e1] at F₁
    refine wpAny_mono (turn c i _ t m₁ hh' tk' s.heap.objs.size oI rfl hin hP (fun p hp e => hoff p hp (List.mem_singleton.mpr e)) (kst_fr h1 h2 F₁) (fun p hp => ?_)) (fun f s₂ q => ?_) fun _ _ e => e
    · rcases List.mem_cons.mp hp with rfl | hp
      · exact N₁ _ (List.mem_append.mpr (.inl hIown))
      · exact N₁ _ (List.mem_append.mpr (.inr hp))
    · have fin : JEnd h₀ env.locals s x Led (fun c => ps c ++ ps1 c) stored m₀ (P (i + 1)) s.heap.objs.size oI s₂ → LoopStepU h₀ env.locals [s.heap.objs.size] own (J (i + 1)) { s with heap := hh', toks := tk' } .next s₂ := by
        rintro ⟨c', h', tk, m', news', e, F', N', hn', hi', ha', hk', hr', hp'⟩
        refine ⟨rfl, h', tk, m', Led c', e, F', fun p hp => ?_, fun p hp hq => ha' p hp (List.mem_singleton.mp hq), c', rfl, (fun p hp => hk' p (List.mem_append_left _ hp)), .inr (fun p hp => hk' p (List.mem_append_right _ hp)), (fun z h1 h2 h3 => hr' z h1 (fun p hp => by
          rcases List.mem_append.mp hp with q | q
          · exact h2 p q
          · intro e; rw [e, hsub c' p q] at h3; cases h3) h3), hp'⟩
        rcases List.mem_append.mp hp with h | h
        · have h1 : p.1 = s.heap.objs.size := List.mem_singleton.mp (hown p h)
          have h2 := hget p h
          have h3 : hh'.get? p.1 = some p.2 := h2
          rw [h1] at h3
          rw [show p = (s.heap.objs.size, oI) from Prod.ext h1 (Option.some.inj (h3.symm.trans hoI))]
          exact N' _ hi'
        · exact N' p (hn' p h)
      cases f with
      | ret v => exact .ret q
      | brk => exact .brk q
      | next => exact .next (fin q)
      | cont => exact .cont (fin q)
  · rintro h' tk m' news' F' N' _ ⟨c, rfl, h1, h1', h2, hP⟩
    have h1'' := h1'.resolve_left (by omega)
    exact done c m' h' tk hP (kst_frOut (fun p hp => by rcases List.mem_append.mp hp with q | q; (· exact h1 p q); (· exact h1'' p q)) (fun z a b c => h2 z a (fun p hp => b p (List.mem_append_left _ hp)) c) F') N'
end
end

section
open PySem.Calls
set_option maxRecDepth 100000
theorem powMod_fold (b e m : Nat) : ∀ k p, p = b ^ (e >>> k) % m → (List.range k).reverse.foldl (fun p i => if e.testBit i then p * p % m * b % m else p * p % m) p = b ^ e % m
  | 0, p, h => by simpa using h
  | k + 1, p, h => by
    rw [List.range_succ, List.reverse_append, List.reverse_singleton, List.singleton_append, List.foldl_cons]
    refine powMod_fold b e m k _ ?_
    have h1 : e >>> k = 2 * (e >>> (k + 1)) + (e.testBit k).toNat := by
      rw [Nat.shiftRight_succ, Nat.testBit_eq_decide_div_mod_eq, Nat.shiftRight_eq_div_pow]
      have := Nat.div_add_mod (e / 2 ^ k) 2
      rcases Nat.mod_two_eq_zero_or_one (e / 2 ^ k) with q | q <;> simp [q] <;> omega
    have h2 : b ^ (2 * (e >>> (k + 1))) % m = p * p % m := by
      rw [h, Nat.mul_comm 2, Nat.pow_mul, Nat.pow_two, Nat.mul_mod]
    rw [h1]
    cases e.testBit k with
    | false => simp only [Bool.false_eq_true, if_false, Bool.toNat_false, Nat.add_zero]; exact h2.symm
    | true =>
      simp only [if_true, Bool.toNat_true]
      rw [Nat.pow_succ, Nat.mul_mod (b ^ _), h2]
      rw [Nat.mul_mod (p * p % m) b m, Nat.mod_mod]
theorem powMod_eq (b e m : Nat) : Builtin.powMod b e m = b ^ e % m := by
  unfold Builtin.powMod
  refine powMod_fold b e m _ _ ?_
  have h : e >>> (Builtin.Int.intBits e) = 0 := by
    rw [Nat.shiftRight_eq_div_pow]
    exact Nat.div_eq_of_lt (bits_hi (e : Int))
  rw [h, Nat.pow_zero]
/-- a power's rest -/
def pmod (x e n : Int) : Int := x ^ e.toNat % n
theorem pmod_nn {x e n : Int} (hn : 1 ≤ n) : 0 ≤ pmod x e n ∧ pmod x e n < n := ⟨Int.emod_nonneg _ (by omega), Int.emod_lt_of_pos _ (by omega)⟩
theorem emod_pow (x n : Int) (k : Nat) : (x % n) ^ k % n = x ^ k % n := by
  induction k with
  | zero => simp
  | succ k ih => rw [Int.pow_succ, Int.pow_succ, Int.mul_emod, ih, Int.mul_emod (x ^ k), Int.emod_emod]
theorem pmod_nat {x e n : Int} (hn : 1 ≤ n) (he : 0 ≤ e) : ((((x % (n.natAbs : Int)).toNat) ^ e.natAbs % n.natAbs : Nat) : Int) = pmod x e n := by
  have h1 : (n.natAbs : Int) = n := Int.natAbs_of_nonneg (by omega)
  have h2 : (((x % n).toNat : Nat) : Int) = x % n := Int.toNat_of_nonneg (Int.emod_nonneg _ (by omega))
  have h3 : e.natAbs = e.toNat := by omega
  rw [h3, Int.natCast_emod, h1, Int.natCast_pow, h2]
  exact emod_pow x n _
theorem gives_pow3 (a : Int) (t : Tok) (b : Int) (u : Tok) (c : Int) (v : Tok) (hc : 1 ≤ c) (hb : 0 ≤ b) :
    Gives (Builtin.«int.__pow__» ⟨[.int a t, .int b u, .int c v], []⟩) (.int (pmod a b c)) := by
  have hc0 : ¬(c == 0) = true := by simpa using (by omega : c ≠ 0)
  have hb0 : ¬ b < 0 := by omega
  by_cases hc1 : c.natAbs == 1
  · have h : pmod a b c = 0 := by
      have : c = 1 := by have := beq_iff_eq.mp hc1; omega
      rw [this, pmod, Int.emod_one]
    rw [h]
    exact AutoIntG3.int___pow___int_int_int_1 a t b u c v hc0 hc1
  · refine .of_wp fun M A E s Q h => ?_
    obtain ⟨hp, g, d, tk, os⟩ := s
    wp_walk
    have e1 : (decide (c < 0) && ((Builtin.powMod (a % (c.natAbs : Int)).toNat b.natAbs c.natAbs : Nat) : Int) != 0) = false := by
      rw [decide_eq_false (by omega), Bool.false_and]
    rw [e1, if_neg (by decide), powMod_eq, pmod_nat hc hb]
    exact ⟨_, rfl, h⟩
theorem pmod_emod {x e n : Int} : pmod (x % n) e n = pmod x e n := emod_pow x n _
theorem pmod_fmod {x e n : Int} (hn : 1 ≤ n) : pmod (x.fmod n) e n = pmod x e n := by rw [Int.fmod_eq_emod_of_nonneg _ (by omega)]; exact pmod_emod
/-- what squaring and multiplying keeps -/
structure PInv (b0 e0 n : Int) (i : Nat) (f b e : Int) : Prop where
  f0 : 0 ≤ f
  f1 : f < n
  g0 : 0 ≤ b
  g1 : b < n
  x0 : 0 ≤ e
  lt : e * 2 ^ i ≤ e0
  eq : (f * b ^ e.toNat) % n = pmod b0 e0 n
theorem PInv.start {b e n : Int} (hn : 1 ≤ n) (h0 : 0 ≤ b) (h1 : b < n) (he : 0 ≤ e) : PInv b e n 0 (Int.fmod 1 n) b e := by
  rw [Int.fmod_eq_emod_of_nonneg _ (by omega)]
  refine ⟨Int.emod_nonneg _ (by omega), Int.emod_lt_of_pos _ (by omega), h0, h1, he, by simp, ?_⟩
  rw [Int.mul_emod, Int.emod_emod, ← Int.mul_emod, Int.one_mul]; rfl
theorem pow_half {b : Int} {e : Int} (he : 0 ≤ e) : b ^ e.toNat = (b * b) ^ (e / 2).toNat * b ^ (e % 2).toNat := by
  have h : e.toNat = 2 * (e / 2).toNat + (e % 2).toNat := by omega
  rw [h, Int.pow_add, Int.pow_mul, show b ^ 2 = b * b from by rw [show (2 : Nat) = 1 + 1 from rfl, Int.pow_add, Int.pow_one]]
theorem PInv.step {b0 e0 n : Int} {i : Nat} {f b e : Int} (hn : 1 ≤ n) (h : PInv b0 e0 n i f b e) :
    (e.fmod 2 = 1 → PInv b0 e0 n (i + 1) ((f * b).fmod n) ((b * b).fmod n) (e.fdiv 2)) ∧ (e.fmod 2 ≠ 1 → PInv b0 e0 n (i + 1) f ((b * b).fmod n) (e.fdiv 2)) := by
  have he := h.x0
  rw [Int.fmod_eq_emod_of_nonneg _ (by omega : (0 : Int) ≤ 2), Int.fdiv_eq_ediv_of_nonneg _ (by omega : (0 : Int) ≤ 2), Int.fmod_eq_emod_of_nonneg _ (by omega : 0 ≤ n), Int.fmod_eq_emod_of_nonneg _ (by omega : 0 ≤ n)]
  have hl : e / 2 * 2 ^ (i + 1) ≤ e0 := by
    have h2 : (0 : Int) ≤ 2 ^ i := Int.le_of_lt (Int.pow_pos (by decide))
    have h3 : e / 2 * 2 * 2 ^ i ≤ e * 2 ^ i := Int.mul_le_mul_of_nonneg_right (by omega) h2
    have h4 := h.lt
    rw [Int.pow_succ, Int.mul_comm (2 ^ i) 2, ← Int.mul_assoc]; omega
  have hq := h.eq
  rw [pow_half he] at hq
  constructor
  · intro h1
    refine ⟨Int.emod_nonneg _ (by omega), Int.emod_lt_of_pos _ (by omega), Int.emod_nonneg _ (by omega), Int.emod_lt_of_pos _ (by omega), by omega, hl, ?_⟩
    rw [← hq, h1, show (1 : Int).toNat = 1 from rfl, Int.pow_one]
    rw [Int.mul_emod, Int.emod_emod, emod_pow, ← Int.mul_emod]
    rw [Int.mul_assoc, Int.mul_comm b]
  · intro h1
    have h2 : e % 2 = 0 := by omega
    refine ⟨h.f0, h.f1, Int.emod_nonneg _ (by omega), Int.emod_lt_of_pos _ (by omega), by omega, hl, ?_⟩
    rw [← hq, h2, show (0 : Int).toNat = 0 from rfl, Int.pow_zero, Int.mul_one]
    rw [Int.mul_emod, emod_pow, ← Int.mul_emod]
theorem PInv.stop {b0 e0 n f b e : Int} (he : e0 < 2 ^ 400) (h : PInv b0 e0 n 1000 f b e) : e = 0 := by
  refine Classical.byContradiction fun hc => ?_
  have h0 := h.x0
  have h1 := h.lt
  have h2 : (1 : Int) * 2 ^ 1000 ≤ e * 2 ^ 1000 := Int.mul_le_mul_of_nonneg_right (by omega) (Int.le_of_lt (Int.pow_pos (by decide)))
  have h3 : (2 : Int) ^ 400 ≤ 2 ^ 1000 := ipow_mono (by decide) (by decide)
  omega
theorem PInv.fin {b0 e0 n : Int} {i : Nat} {f b : Int} (h : PInv b0 e0 n i f b 0) : f = pmod b0 e0 n := by
  have h1 := h.eq
  rw [show (0 : Int).toNat = 0 from rfl, Int.pow_zero, Int.mul_one, Int.emod_eq_of_lt h.f0 h.f1] at h1
  exact h1
theorem slot_int_pow : Slot "int" "__pow__" "int.__pow__" :=
  .of (owner := "int") (n := "__pow__") (by rw [typeLookup_type, builtinLookup_eq_fast]; kernel_rfl) (by decide +kernel) (by decide +kernel) (by decide +kernel)
    (by first | exact .inl (by decide +kernel) | exact .inr (by decide +kernel)) (by rw [isSubtype_type]; kernel_rfl)
theorem entry_int_pow : entryFor table "int.__pow__" = some Builtin.«int.__pow__» := entryFor_of_fast (by kernel_rfl)
theorem args_int_pow3 (a b c : Value) : argsOk "int.__pow__" ⟨[a, b, c], []⟩ := by unfold argsOk; kernel_rfl
theorem entry_powT : entryFor table "pow" = some Builtin.«pow» := entryFor_of_fast (by kernel_rfl)
theorem kind_powT : builtinKind "pow" = none := by decide +kernel
theorem plain_powT : plainId "pow" = true := by decide +kernel
theorem args_pow3 (a b c : Value) : argsOk "pow" ⟨[a, b, c], []⟩ := by unfold argsOk; kernel_rfl
set_option maxHeartbeats 2000000 in
theorem call_pow3 {prog : Program} {w : World} {A : Around} {E : Value → Shared → Prop} {s : Shared} {a b c : Int} {t u v : Tok} {Q : Value → Shared → Prop} (hc : 1 ≤ c) (hb : 0 ≤ b)
    (h : Q (.int (pmod a b c) s.toks) { s with toks := s.toks + 1 }) : wpAny (model prog w) A (call (.builtin "pow") [.int a t, .int b u, .int c v]) Q E s := by
  refine call_function_entry kind_powT plain_powT entry_powT (args_pow3 _ _ _) ?_
  unfold Builtin.«pow»
  refine wpAny_bind (wpAny_of_eq (a := [some (.int a t), some (.int b u), some (.int c v)]) (by first | rfl | kernel_rfl) ?_)
  refine wpAny_bind (wpAny_rule ?_)
  refine wpAny_bind (wpAny_typeOf (typeIs_int _ a t) ?_)
  dsimp only [pure_bind]
  refine wpAny_bind (wpAny_of_eq slot_int_pow.lookup ?_)
  dsimp only
  refine wpAny_bind (wpAny_callSpecial?_slot (typeIs_int _ a t) slot_int_pow (call_gives slot_int_pow (typeIs_int _ a t) entry_int_pow (args_int_pow3 _ _ _) (gives_pow3 a t b u c v hc hb) ?_))
  dsimp only [Made.post]
  exact wpAny_pure ⟨_, rfl, h⟩
end

section
open PySem.Calls
/-- a value that is no int -/
inductive NotInt (h : Heap) : Value → Prop
  | str (x t) : NotInt h (.str x t)
  | float (x t) : NotInt h (.float x t)
  | none : NotInt h .none
  | bytes (y t) : NotInt h (.bytes y t)
  | list (a : Addr) (o : Obj) : h.get? a = some o → o.cls = .type "list" → NotInt h (.ref a)
theorem NotInt.keeps {h h' : Heap} {v : Value} (H : NotInt h v) (k : ∀ b o, h.get? b = some o → h'.get? b = some o) : NotInt h' v := by
  cases H with
  | str x t => exact .str x t
  | float x t => exact .float x t
  | none => exact .none
  | bytes y t => exact .bytes y t
  | list a o h1 h2 => exact .list a o (k _ _ h1) h2
theorem isi_bytes_int {prog : Program} {w : World} {A : Around} {E : Value → Shared → Prop} {s : Shared} {y : Array UInt8} {u : Tok} {Q : Value → Shared → Prop} (h : Q (.bool false) { s with toks := s.toks + 1 }) :
    wpAny (model prog w) A (call (.builtin "isinstance") [.bytes y u, .type "int"]) Q E s :=
  call_isinstance (S := fun _ R s => R (.ok (.ret (.bool false))) { s with toks := s.toks + 1 }) (fun _ _ _ _ s hs => by
    obtain ⟨h, g, d, t, os⟩ := s
    exact isinstance_outer (isinstance_nested_false_bytes (by decide +kernel) F.isi_meta_int (by rw [isSubtype_type]; kernel_rfl) hs)) h
theorem isinst_no {prog : Program} {w : World} {A : Around} {E : Value → Shared → Prop} {s : Shared} {v : Value} {Q : Value → Shared → Prop} (hv : NotInt s.heap v) (h : ∀ tk, Q (.bool false) { s with toks := tk }) :
    wpAny (model prog w) A (call (.builtin "isinstance") [v, .type "int"]) Q E s := by
  cases hv with
  | str x t => exact IsiPair.str_int (h _)
  | float x t => exact IsiPair.float_int (h _)
  | none => exact IsiPair.NoneType_int (h _)
  | bytes y t => exact isi_bytes_int (h _)
  | list a o h1 h2 => exact IsiPair.list_int h1 h2 (h _)
theorem setItem_3 {prog : Program} {w : World} {A : Around} {E : Value → Shared → Prop} {s : Shared} {D v : Value} {r : Int} {t : Tok} {Q : Unit → Shared → Prop} (h0 : 0 ≤ r) (h1 : r < 3)
    (c0 : wpAny (model prog w) A (setItem D (.int 0 t) v) Q E s) (c1 : wpAny (model prog w) A (setItem D (.int 1 t) v) Q E s) (c2 : wpAny (model prog w) A (setItem D (.int 2 t) v) Q E s) : wpAny (model prog w) A (setItem D (.int r t) v) Q E s := by
  have e : r = 0 ∨ r = 1 ∨ r = 2 := by omega
  rcases e with rfl | rfl | rfl <;> assumption
section
variable {prog : Program} {w : World} {A : Around} {E : Value → Shared → Prop} {s : Shared} {h₀ : Heap} {L D : Addr} {m : Str → Option Value} {news news' : List (Addr × Obj)} {vs : List Value} {n : Nat} {k : Int} {x : Value} {t : Tok}
theorem set_any {Q : Unit → Shared → Prop} (F : Fr h₀ L s.heap m) (N : News h₀ L s.heap news) (U : Upd D (listOf vs.toArray n) (listOf (vs.set k.toNat x).toArray n) news news') (h0 : 0 ≤ k) (h1 : k < vs.length) (hfit : k < 2 ^ 63)
    (h : ∀ h', Fr h₀ L h' m → News h₀ L h' news' → Q () { s with heap := h' }) :
    wpAny (model prog w) A (setItem (.ref D) (.int k t) x) Q E s := by
  obtain ⟨pre, post, rfl, rfl, a, b⟩ := U.split
  have z := N (D, listOf vs.toArray n) (List.mem_append.mpr (.inr (.head _)))
  have hs : vs.toArray.size = vs.length := by rw [List.size_toArray]
  refine ki_setAt z.1 h0 hfit (by omega) (h _ (F.change (Heap.SameBut.update ..) z.2.1 z.2.2) (ki_turn _ N a b ?_ ?_))
  · show vs.toArray.setIfInBounds k.toNat x = (vs.set k.toNat x).toArray
    apply Array.toList_inj.mp
    simp
  · simp
end
/-- a value that is no int, the one list among them -/
inductive NIL (l : Addr) : Value → Prop
  | str (x t) : NIL l (.str x t)
  | float (x t) : NIL l (.float x t)
  | none : NIL l .none
  | bytes (y t) : NIL l (.bytes y t)
  | list : NIL l (.ref l)
theorem NIL.at {h₀ h : Heap} {L l : Addr} {v : Value} {o : Obj} {news : List (Addr × Obj)} (H : NIL l v) (N : News h₀ L h news) (hm : (l, o) ∈ news) (hc : o.cls = .type "list") : NotInt h v := by
  cases H with
  | str x t => exact .str x t
  | float x t => exact .float x t
  | none => exact .none
  | bytes y t => exact .bytes y t
  | list => exact .list _ _ (N.get hm) hc
theorem pick_any {prog : Program} {w : World} {A : Around} {E : Value → Shared → Prop} {s : Shared} {value slice : PySem.Expr} {D : Addr} {vs : List Value} {k : Int} {u : Tok} {Q : Value → Shared → Prop} (P : Value → Prop) (hl : s.heap.IsList D vs.toArray) (h0 : 0 ≤ k) (hhi : k < 2 ^ 63) (h1 : k < vs.length) (hP : ∀ v ∈ vs, P v) (h : ∀ v, P v → Q v s)
    (hs : subscripted slice false (.ref D) (.int k u) = operate [.ref D, .int k u] (getItem (.ref D) (.int k u)) := by with_unfolding_all rfl) :
    wpAny (model prog w) A (subscriptTail value slice (.ref D) (.int k u)) Q E s := by
  have hj : k.toNat < vs.length := by omega
  exact item_litK hl h0 hhi (List.getElem?_eq_getElem hj) (h _ (hP _ (List.getElem_mem hj))) hs
theorem pick_nil {prog : Program} {w : World} {A : Around} {E : Value → Shared → Prop} {s : Shared} {value slice : PySem.Expr} {D l : Addr} {x : Str} {f : UInt64} {y : Array UInt8} {t1 t2 t3 u : Tok} {k : Int} {Q : Value → Shared → Prop} (hl : s.heap.IsList D #[.str x t1, .float f t2, .none, .bytes y t3, .ref l]) (h0 : 0 ≤ k) (h1 : k < 5) (h : ∀ v, NIL l v → Q v s)
    (hs : subscripted slice false (.ref D) (.int k u) = operate [.ref D, .int k u] (getItem (.ref D) (.int k u)) := by with_unfolding_all rfl) :
    wpAny (model prog w) A (subscriptTail value slice (.ref D) (.int k u)) Q E s :=
  pick_any (vs := [.str x t1, .float f t2, .none, .bytes y t3, .ref l]) (NIL l) hl h0 (by omega) (by simpa using h1) (List.forall_mem_cons.mpr ⟨.str _ _, List.forall_mem_cons.mpr ⟨.float _ _, List.forall_mem_cons.mpr ⟨.none, List.forall_mem_cons.mpr ⟨.bytes _ _, List.forall_mem_cons.mpr ⟨.list, List.forall_mem_nil _⟩⟩⟩⟩⟩) h hs
end

set_option maxRecDepth 100000 in
set_option maxHeartbeats 8000000 in
open_top hd for PySem.Challenge.rw_ys0002_10

section
local macro_rules | `(tactic| walk_at "nowhere0") => `(tactic| fail "nowhere")
set_option maxRecDepth 100000 in
set_option maxHeartbeats 8000000 in
theorem take_c {prog : Program} {w : World} {p : Program} {loose mean mg mb} {most : Int} {tm : Tok} (hm : 1 ≤ most) (hm2 : most < 2 ^ 30) :
    StC prog w (hd.heap_39 w.params) p loose mean mg mb 47 (fun st => [.ref st, .int most tm]) 10 (fun v => ∃ r t, v = .int r t ∧ 0 ≤ r ∧ r < most) := by
  intro dp un gd cn cs a ccd cl outer A₀ base h₀ L m s Q E st c i ti vs n1 n2 rest B F X N T hk hne hoff hw hd hu ret
  obtain ⟨ns, hI, ⟨hi0, hn0, hn1, hnn⟩⟩ := hw
  refine wpAny_call ?_
  k_dflt cell_enter
  k_steps
  all_goals ((rename Fr h₀ L _ m => kF); (rename News h₀ L _ _ => kN); (exact ret _ _ _ _ _ _ _ _ ⟨_, by with_reducible assumption, by first | exact ⟨by omega, hn0, hn1, hnn⟩ | exact ⟨hi0, by simpa using hn0, by simpa using hn1, set_nn hnn (fdiv_nn (getD_nn hnn _) hm) _⟩⟩ ⟨_, _, rfl, fmod_lo hm, fmod_hi hm⟩ kF kN))
local macro_rules | `(tactic| walk_at "call ref") => `(tactic| (k_here; (with_reducible show wpAny _ _ (call (Value.ref 47) _) _ _ _); k_dflt (refine' StC.use (take_c ?m1 ?m2) ?B ?F ?X ?N ?T ?k ?U1 ?U2 ?W ?d ?u ?_; (case B => k_asm); (case F => k_asm); (case X => k_asm); (case N => k_asm); (case T => k_asm); (case k => first | exact rfl | assumption); (case U1 => k_updF); (case U2 => intro o; (try dsimp only); k_updF); (case W => with_reducible assumption); (case m1 => omega); (case m2 => omega); (case d => ktr_room); (case u => ktr_units); k_whole; (rintro v i' ti' vs' n1' n2' h' tk' hW' ⟨r, t, hv, r0, r1⟩ F' N'); subst hv; (try dsimp only at N'); (try k_sweep))))
local macro_rules | `(tactic| walk_at "pyIter ref") => `(tactic| ((rename LoopStop => hLs'); refine Stop.here ?_))
local macro_rules | `(tactic| k_all) => `(tactic| assumption)
local macro_rules | `(tactic| walk_at "JPost") => `(tactic| dsimp only [JPost])
local macro_rules | `(tactic| k_room) => `(tactic| ktr_room)
set_option maxRecDepth 100000 in
set_option maxHeartbeats 8000000 in
theorem great_c {prog : Program} {w : World} {p : Program} {loose mean mg mb} {words : Int} {tm : Tok} (hm : 1 ≤ words) (hm2 : words ≤ 20) :
    StC prog w (hd.heap_39 w.params) p loose mean mg mb 54 (fun st => [.ref st, .int words tm]) 20 (fun v => ∃ r t, v = .int r t ∧ 0 ≤ r ∧ r < 1000003 ^ words.toNat) := by
  intro dp un gd cn cs a ccd cl outer A₀ base h₀ L m s Q E st c i ti vs n1 n2 rest B F X N T hk hne hoff hw hd hu ret
  refine wpAny_call ?_
  k_dflt cell_enter
  have hstop : LoopStop := {}
  k_steps
  refine Stop.go ?_
  rename Fr _ _ _ _ => lF
  rename News _ _ _ _ => lN
  rename IsRange _ _ _ _ _ _ _ _ => rgX
  with_unfolding_all refine' (j_range (σ := (Int × Tok × List Value × Nat × Nat) × Int × Tok)
      (fun x => (st, listOf #[.int x.1.1 x.1.2.1, .ref c] x.1.2.2.2.1) :: (c, listOf x.1.2.2.1.toArray x.1.2.2.2.2) :: rest)
      (fun x => [(Str.ofString "number", .int x.2.1 x.2.2)]) []
      (fun i x => SW x.1.1 x.1.2.2.1 ∧ 0 ≤ x.2.1 ∧ x.2.1 < 1000003 ^ i)
      ⟨⟨_, _, _, _, _⟩, _, _⟩ (by rfl) rgX (small_one (by omega) (by omega) (by omega) (by omega)) (rangeSize_nat _ _) lF lN (by kst_all) ⟨hw, (Int.le_refl 0 : (0:Int) ≤ 0), (by decide : (0:Int) < 1000003 ^ 0)⟩ ?_ ?_)
  all_goals clear lF lN
  · rintro ⟨⟨xi, xti, xvs, xn1, xn2⟩, num, tnum⟩ ii k t u h tk I oI hk' hi ⟨hw2, q0, q1⟩ hoff2 F' N'
    dsimp only [kstB] at hw2 q0 q1 hoff2 F' N'
    obtain ⟨hf1, hf2, hf3⟩ := off2 hoff2
    clear hoff2
    k_steps
    exact jend ⟨⟨_, _, _, _, _⟩, _, _⟩ (by assumption) (by assumption) (by kst_in) (by kst_entry) (by k_all) (by kst_all) (by kst_same) ⟨by with_reducible assumption, great_step q0 q1 (by assumption) (by assumption)⟩
  · rintro ⟨⟨xi, xti, xvs, xn1, xn2⟩, num, tnum⟩ u h tk ⟨hw2, q0, q1⟩ F' N'
    dsimp only [kstB] at hw2 q0 q1 F' N'
    k_steps
    (rename Fr h₀ L _ m => kF); (rename News h₀ L _ _ => kN)
    exact ret _ _ _ _ _ _ _ _ hw2 ⟨_, _, rfl, q0, by simpa using q1⟩ kF kN
local macro_rules | `(tactic| walk_at "call ref") => `(tactic| (k_here; (with_reducible show wpAny _ _ (call (Value.ref 54) _) _ _ _); k_dflt (refine' StC.use (great_c ?m1 ?m2) ?B ?F ?X ?N ?T ?k ?U1 ?U2 ?W ?d ?u ?_; (case B => k_asm); (case F => k_asm); (case X => k_asm); (case N => k_asm); (case T => k_asm); (case k => first | exact rfl | assumption); (case U1 => k_updF); (case U2 => intro o; (try dsimp only); k_updF); (case W => with_reducible assumption); (case m1 => omega); (case m2 => omega); (case d => ktr_room); (case u => ktr_units); k_whole; (rintro v i' ti' vs' n1' n2' h' tk' hW' ⟨r, t, hv, r0, r1⟩ F' N'); subst hv; (try dsimp only at N'); (try k_sweep))))
set_option maxRecDepth 100000 in
set_option maxHeartbeats 8000000 in
theorem number_c {prog : Program} {w : World} {p : Program} {loose mean mg mb} :
    StC prog w (hd.heap_39 w.params) p loose mean mg mb 61 (fun st => [.ref st]) 30 (fun v => ∃ r t, v = .int r t ∧ Bd 300 r) := by
  intro dp un gd cn cs a ccd cl outer A₀ base h₀ L m s Q E st c i ti vs n1 n2 rest B F X N T hk hne hoff hw hd hu ret
  refine wpAny_call ?_
  k_dflt cell_enter
  k_steps
  all_goals ((rename Fr h₀ L _ m => kF); (rename News h₀ L _ _ => kN))
  · exact ret _ _ _ _ _ _ _ _ (by with_reducible assumption) ⟨_, _, rfl, bd_menu (by assumption) (by assumption)⟩ kF (News_tl kN)
  · exact ret _ _ _ _ _ _ _ _ (by with_reducible assumption) ⟨_, _, rfl, bd_pow (by assumption) (by assumption) (by assumption) (by assumption)⟩ kF kN
  · exact ret _ _ _ _ _ _ _ _ (by with_reducible assumption) ⟨_, _, rfl, bd_great (by assumption) (by assumption) (by omega)⟩ kF kN
end

section
local macro_rules | `(tactic| walk_at "nowhere0") => `(tactic| fail "nowhere")
local macro_rules | `(tactic| walk_at "nowhere1") => `(tactic| fail "nowhere")
local macro_rules | `(tactic| walk_at "nowhere2") => `(tactic| fail "nowhere")
local macro_rules | `(tactic| walk_at "nowhere3") => `(tactic| fail "nowhere")
local macro_rules | `(tactic| walk_at "nowhere4") => `(tactic| fail "nowhere")
local macro_rules | `(tactic| walk_at "nowhere5") => `(tactic| fail "nowhere")
local macro_rules | `(tactic| k_ne) => `(tactic| (refine neN ?_; (try dsimp only); first | with_reducible assumption | exact Ne.symm (by with_reducible assumption) | ((repeat (cases ‹_ ∧ _›)); first | with_reducible assumption | exact Ne.symm (by with_reducible assumption) | ((repeat (rename @Ne Nat _ _ => hq9; clear hq9)); omega))))
set_option maxRecDepth 100000 in
set_option maxHeartbeats 8000000 in
theorem state_c {prog : Program} {w : World} {p : Program} {loose mean mg mb} {l : Addr} {ws : List Value} {ks : List Int} (hI : IntsAre ws ks) (hlen : ks.length ≤ 63) :
    PuN prog w (hd.heap_39 w.params) p loose mean mg mb 40 [.ref l] 10 (fun h => h.IsList l ws.toArray)
      (fun v tl => ∃ st c t vs n1 n2, v = .ref st ∧ @Ne Nat st c ∧ SW 0 vs ∧ tl = [(st, listOf #[.int 0 t, .ref c] n1), (c, listOf vs.toArray n2)]) := by
  intro dp un gd cn cs a ccd cl outer A₀ base h₀ L m s Q E news B F X N T hk hP hd hu ret
  refine wpAny_call ?_
  k_dflt (refine' code_defP ?k1 ?k2 ?k3 ?k4 ?k5 ?kA ?kF ?kK ?k6 ?k7 ?k8 ?k9 ?kB ?_ ?c2 ?c3 ?c4 ?c5; (case kA => exact rfl); (case kF => exact rfl); (case kK => assumption); (case k1 => k_asm); (case k2 => k_asm); (case k3 => k_asm); (case k4 => k_asm); (case k5 => k_asm); (case k6 => k_is); (case k7 => k_is); (case k8 => ktr_room); (case k9 => exact BindsTo.of_eq rfl); (case c5 => decide); (case kB => exact locs rfl); (case c2 => exact rfl); (case c3 => exact rfl); (case c4 => exact rfl); k_whole; intro g' L' h' hg' hlow' FG' F' N' B' X' T'; (try dsimp only); (try k_lift B'); (try k_fold))
  have hL : g'.IsList l ws.toArray := hg' ▸ hP
  k_steps
  all_goals ((rename News g' L' _ _ => kN'); (rename Fr h₀ L _ m => kF); (rename News h₀ L _ news => hN9); (rename News h₀ L _ (_ :: _) => kN))
  · exact ret _ [_, _] _ _ ⟨_, _, _, _, _, _, rfl, (by exact Nat.ne_of_gt (by omega)), (by exact ⟨[0], .cons _ _ .nil, ⟨by decide, by decide, by decide, by simp⟩⟩), rfl⟩ (apart_two kN' hg' N) kF (news_two kN hN9)
  · have hI9 := (by assumption : IntsAre _ (List.map (fun k' => if k' < 0 then -k' else k') (List.take 63 ks)))
    have hl9 : 0 < (List.map (fun k' => if k' < 0 then -k' else k') (List.take 63 ks)).length ∧ (List.map (fun k' => if k' < 0 then -k' else k') (List.take 63 ks)).length ≤ 63 := by
      simp only [List.length_map] at *; omega
    exact ret _ [_, _] _ _ ⟨_, _, _, _, _, _, rfl, (by exact Nat.ne_of_gt (by omega)), (by exact ⟨_, hI9, ⟨by decide, hl9.1, hl9.2, abs_nn _⟩⟩), rfl⟩ (apart_two kN' hg' N) kF (news_two kN hN9)
end

section
local macro_rules | `(tactic| walk_at "nowhere0") => `(tactic| fail "nowhere")
local macro_rules | `(tactic| walk_at "nowhere1") => `(tactic| fail "nowhere")
local macro_rules | `(tactic| walk_at "nowhere2") => `(tactic| fail "nowhere")
local macro_rules | `(tactic| walk_at "pyIter ref") => `(tactic| ((rename LoopStop => hLs'); refine Stop.here ?_))
local macro_rules | `(tactic| k_all) => `(tactic| assumption)
local macro_rules | `(tactic| walk_at "JPost") => `(tactic| dsimp only [JPost])
local macro_rules | `(tactic| k_room) => `(tactic| ktr_room)
local macro_rules | `(tactic| k_ne) => `(tactic| (refine neN ?_; (try dsimp only); first | with_reducible assumption | exact Ne.symm (by with_reducible assumption) | ((repeat (cases ‹_ ∧ _›)); first | with_reducible assumption | exact Ne.symm (by with_reducible assumption) | ((repeat (rename @Ne Nat _ _ => hq9; clear hq9)); omega))))
local macro_rules | `(tactic| walk_at "binaryOp Mult int int") => `(tactic| (k_here; k_dflt (refine' mul_int ?_ (mulOk (k := 400) (l := 400) ?a ?b ?c); (case a => assumption); (case b => assumption); (case c => decide))))
local macro_rules | `(tactic| walk_at "binaryOp Mod int int") => `(tactic| (k_here; k_dflt (refine' mod_int' ?a ?_ (Or.inl (PyProof.noPylong_of_log2 (SBd.log2 ?b ?c ?d))); (case a => assumption); (case b => assumption); (case c => assumption); (case d => decide))))
theorem rest_sbd {n x : Int} (hn : SBd 400 n) (h0 : 0 ≤ x) (h1 : x < n) : SBd 400 x := by
  unfold SBd at *
  omega
set_option maxRecDepth 100000 in
set_option maxHeartbeats 8000000 in
theorem power_c {prog : Program} {w : World} {p : Program} {loose mean mg mb} {b e n : Int} {tx ty tz : Tok} (hn : 1 ≤ n) (hn2 : SBd 400 n) (h0 : 0 ≤ b) (h1 : b < n) (he : Bd 400 e) :
    PuP prog w (hd.heap_39 w.params) p loose mean mg mb 68 [.int b tx, .int e ty, .int n tz] 10 (fun _ => True)
      (fun v tl => ∃ r t, v = .int r t ∧ r = pmod b e n ∧ tl = []) := by
  have hn0 : n ≠ 0 := by omega
  intro dp un gd cn cs a ccd cl outer A₀ base h₀ L m s Q E news B F X N T hk _ hd hu ret
  refine wpAny_call ?_
  k_dflt (refine' code_defP ?k1 ?k2 ?k3 ?k4 ?k5 ?kA ?kF ?kK ?k6 ?k7 ?k8 ?k9 ?kB ?_ ?c2 ?c3 ?c4 ?c5; (case kA => exact rfl); (case kF => exact rfl); (case kK => assumption); (case k1 => k_asm); (case k2 => k_asm); (case k3 => k_asm); (case k4 => k_asm); (case k5 => k_asm); (case k6 => k_is); (case k7 => k_is); (case k8 => ktr_room); (case k9 => exact BindsTo.of_eq rfl); (case c5 => decide); (case kB => exact locs rfl); (case c2 => exact rfl); (case c3 => exact rfl); (case c4 => exact rfl); k_whole; intro g' L' h' hg' hlow' FG' F' N' B' X' T'; (try dsimp only); (try k_lift B'); (try k_fold))
  have hstop : LoopStop := {}
  k_steps
  refine Stop.go ?_
  rename Fr _ _ _ _ => lF
  rename News _ _ _ [] => lN
  rename IsRange _ _ _ _ _ _ _ _ => rgX
  with_unfolding_all refine' (j_range (σ := (Int × Int × Int) × (Tok × Tok × Tok))
      (fun z => []) (fun z => [(Str.ofString "found", .int z.1.1 z.2.1), (Str.ofString "base", .int z.1.2.1 z.2.2.1), (Str.ofString "exponent", .int z.1.2.2 z.2.2.2)]) []
      (fun i z => PInv b e n i z.1.1 z.1.2.1 z.1.2.2)
      ⟨⟨_, _, _⟩, ⟨_, _, _⟩⟩ (by rfl) rgX (by decide) (n := 1000) rfl lF lN ?kk ?kp ?_ ?_)
  case kk => kst_all
  case kp => exact PInv.start hn h0 h1 he.1
  all_goals clear lF lN rgX
  · rintro ⟨⟨f, b9, e9⟩, ⟨tf, tb, te⟩⟩ ii k t u h tk I oI hk' hi hP hoff2 F' N'
    dsimp only [kstB] at hP F' N'
    clear hoff2
    have p1 := hP.f0
    have p2 := hP.f1
    have p3 := hP.g0
    have p4 := hP.g1
    have p5 := hP.x0
    have p6 := rest_sbd hn2 p1 p2
    have p7 := rest_sbd hn2 p3 p4
    k_steps
    · (rename Fr h₀ L _ m => kF); (rename News h₀ L _ news => hN9)
      have e0 := (by assumption : e9 = 0)
      subst e0
      exact ret _ [] _ _ ⟨_, _, rfl, hP.fin, rfl⟩ (fun q hq => nomatch hq) kF hN9
    · refine' jend ⟨⟨_, _, _⟩, ⟨_, _, _⟩⟩ ?jq1 ?jq2 ?jq3 ?jq4 ?jq5 ?jq6 ?jq7 ?jq8
      case jq1 => set_option maxHeartbeats 400000 in (first | assumption | fail "F")
      case jq2 => set_option maxHeartbeats 400000 in (first | assumption | fail "N")
      case jq3 => set_option maxHeartbeats 400000 in (first | kst_in | fail "in")
      case jq4 => set_option maxHeartbeats 400000 in (first | kst_entry | fail "entry")
      case jq5 => set_option maxHeartbeats 400000 in (first | k_all | fail "all")
      case jq6 => set_option maxHeartbeats 400000 in (first | kst_all | fail "names")
      case jq7 => set_option maxHeartbeats 400000 in (first | kst_same | fail "same")
      case jq8 => exact (PInv.step hn hP).1 (by assumption)
    · refine' jend ⟨⟨_, _, _⟩, ⟨_, _, _⟩⟩ ?jq1 ?jq2 ?jq3 ?jq4 ?jq5 ?jq6 ?jq7 ?jq8
      case jq1 => set_option maxHeartbeats 400000 in (first | assumption | fail "F")
      case jq2 => set_option maxHeartbeats 400000 in (first | assumption | fail "N")
      case jq3 => set_option maxHeartbeats 400000 in (first | kst_in | fail "in")
      case jq4 => set_option maxHeartbeats 400000 in (first | kst_entry | fail "entry")
      case jq5 => set_option maxHeartbeats 400000 in (first | k_all | fail "all")
      case jq6 => set_option maxHeartbeats 400000 in (first | kst_all | fail "names")
      case jq7 => set_option maxHeartbeats 400000 in (first | kst_same | fail "same")
      case jq8 => exact (PInv.step hn hP).2 (by assumption)
  · rintro ⟨⟨f, b9, e9⟩, ⟨tf, tb, te⟩⟩ u h tk hP F' N'
    dsimp only [kstB] at hP F' N'
    have e0 := PInv.stop he.2 hP
    subst e0
    k_steps
    (rename Fr h₀ L _ m => kF); (rename News h₀ L _ news => hN9)
    exact ret _ [] _ _ ⟨_, _, rfl, hP.fin, rfl⟩ (fun q hq => nomatch hq) kF hN9
end

section
local macro_rules | `(tactic| walk_at "nowhere0") => `(tactic| fail "nowhere")
local macro_rules | `(tactic| walk_at "nowhere1") => `(tactic| fail "nowhere")
local macro_rules | `(tactic| walk_at "nowhere2") => `(tactic| fail "nowhere")
local macro_rules | `(tactic| walk_at "nowhere3") => `(tactic| fail "nowhere")
local macro_rules | `(tactic| walk_at "nowhere4") => `(tactic| fail "nowhere")
local macro_rules | `(tactic| walk_at "pyIter ref") => `(tactic| ((rename LoopStop => hLs'); refine Stop.here ?_))
local macro_rules | `(tactic| k_all) => `(tactic| assumption)
local macro_rules | `(tactic| walk_at "JPost") => `(tactic| dsimp only [JPost])
local macro_rules | `(tactic| k_room) => `(tactic| ktr_room)
local macro_rules | `(tactic| k_ne) => `(tactic| (refine neN ?_; (try dsimp only); first | with_reducible assumption | exact Ne.symm (by with_reducible assumption) | ((repeat (cases ‹_ ∧ _›)); first | with_reducible assumption | exact Ne.symm (by with_reducible assumption) | ((repeat (rename @Ne Nat _ _ => hq9; clear hq9)); omega))))
local macro_rules | `(tactic| walk_at "call builtin:pow") => `(tactic| ((with_reducible show wpAny _ _ (call (Value.builtin _) [Value.int _ _, Value.int _ _, Value.int _ _]) _ _ _); k_dflt (refine' call_pow3 ?a ?b ?_; (case a => first | assumption | omega); (case b => first | assumption | omega))))
set_option maxRecDepth 100000 in
set_option maxHeartbeats 8000000 in
theorem toldT_lo {prog : Program} {w : World} {p : Program} {loose mean mg mb} {x e n : Int} {tx ty tz : Tok} (hn : 1 ≤ n) (he : 0 ≤ e) (h : x < 0) :
    TrP prog w (hd.heap_39 w.params) p loose mean mg mb 75 [.bool true, .int x tx, .int e ty, .int n tz] 30 (fun h => True)
      (fun v tl => ∃ t, v = Value.str (Str.ofString "below") t ∧ tl = []) := by
  intro dp un gd cn cs a ccd cl A₀ base h₀ L m s Q E news B F X N T hk XB TB hP hd hu ret
  refine wpAny_call ?_
  k_dflt (refine' code_defTP ?k1 ?k2 ?k3 ?k4 ?k5 ?kA ?kF ?kK ?k6 ?k7 ?k8 ?k9 ?kB ?_ ?c2 ?c3 ?c4 ?c5; (case kA => exact rfl); (case kF => exact rfl); (case kK => assumption); (case k1 => k_asm); (case k2 => k_asm); (case k3 => k_asm); (case k4 => k_asm); (case k5 => k_asm); (case k6 => k_is); (case k7 => k_is); (case k8 => ktr_room); (case k9 => exact BindsTo.of_eq rfl); (case kB => exact locs rfl); (case c2 => exact rfl); (case c3 => exact rfl); (case c4 => exact rfl); (case c5 => decide); k_whole; intro g' L' h' hg' hlow' FG' F' N' B' X' T' D'; (try dsimp only); (try k_lift B'); (try k_fold))
  k_steps
  all_goals ((rename Fr h₀ L _ m => kF); (rename News h₀ L _ news => hN9))
  exact ret _ [] _ _ ⟨_, rfl, rfl⟩ (fun q hq => nomatch hq) kF hN9
set_option maxRecDepth 100000 in
set_option maxHeartbeats 8000000 in
theorem toldT_hi {prog : Program} {w : World} {p : Program} {loose mean mg mb} {x e n : Int} {tx ty tz : Tok} (hn : 1 ≤ n) (he : 0 ≤ e) (h : n < x) :
    TrP prog w (hd.heap_39 w.params) p loose mean mg mb 75 [.bool true, .int x tx, .int e ty, .int n tz] 30 (fun h => True)
      (fun v tl => ∃ t, v = Value.str (Str.ofString "too long") t ∧ tl = []) := by
  intro dp un gd cn cs a ccd cl A₀ base h₀ L m s Q E news B F X N T hk XB TB hP hd hu ret
  refine wpAny_call ?_
  k_dflt (refine' code_defTP ?k1 ?k2 ?k3 ?k4 ?k5 ?kA ?kF ?kK ?k6 ?k7 ?k8 ?k9 ?kB ?_ ?c2 ?c3 ?c4 ?c5; (case kA => exact rfl); (case kF => exact rfl); (case kK => assumption); (case k1 => k_asm); (case k2 => k_asm); (case k3 => k_asm); (case k4 => k_asm); (case k5 => k_asm); (case k6 => k_is); (case k7 => k_is); (case k8 => ktr_room); (case k9 => exact BindsTo.of_eq rfl); (case kB => exact locs rfl); (case c2 => exact rfl); (case c3 => exact rfl); (case c4 => exact rfl); (case c5 => decide); k_whole; intro g' L' h' hg' hlow' FG' F' N' B' X' T' D'; (try dsimp only); (try k_lift B'); (try k_fold))
  k_steps
  all_goals ((rename Fr h₀ L _ m => kF); (rename News h₀ L _ news => hN9))
  exact ret _ [] _ _ ⟨_, rfl, rfl⟩ (fun q hq => nomatch hq) kF hN9
set_option maxRecDepth 100000 in
set_option maxHeartbeats 8000000 in
theorem toldT_in {prog : Program} {w : World} {p : Program} {loose mean mg mb} {x e n : Int} {tx ty tz : Tok} (hn : 1 ≤ n) (he : 0 ≤ e) (h : 0 ≤ x) (h2 : x ≤ n) :
    TrP prog w (hd.heap_39 w.params) p loose mean mg mb 75 [.bool true, .int x tx, .int e ty, .int n tz] 30 (fun h => True)
      (fun v tl => ∃ t, v = Value.int (pmod x e n) t ∧ tl = []) := by
  intro dp un gd cn cs a ccd cl A₀ base h₀ L m s Q E news B F X N T hk XB TB hP hd hu ret
  refine wpAny_call ?_
  k_dflt (refine' code_defTP ?k1 ?k2 ?k3 ?k4 ?k5 ?kA ?kF ?kK ?k6 ?k7 ?k8 ?k9 ?kB ?_ ?c2 ?c3 ?c4 ?c5; (case kA => exact rfl); (case kF => exact rfl); (case kK => assumption); (case k1 => k_asm); (case k2 => k_asm); (case k3 => k_asm); (case k4 => k_asm); (case k5 => k_asm); (case k6 => k_is); (case k7 => k_is); (case k8 => ktr_room); (case k9 => exact BindsTo.of_eq rfl); (case kB => exact locs rfl); (case c2 => exact rfl); (case c3 => exact rfl); (case c4 => exact rfl); (case c5 => decide); k_whole; intro g' L' h' hg' hlow' FG' F' N' B' X' T' D'; (try dsimp only); (try k_lift B'); (try k_fold))
  k_steps
  all_goals ((rename Fr h₀ L _ m => kF); (rename News h₀ L _ news => hN9))
  exact ret _ [] _ _ ⟨_, rfl, rfl⟩ (fun q hq => nomatch hq) kF hN9
set_option maxRecDepth 100000 in
set_option maxHeartbeats 8000000 in
theorem toldF {prog : Program} {w : World} {p : Program} {loose mean mg mb} {x e n : Int} {tx ty tz : Tok} (hn : 1 ≤ n) (he : 0 ≤ e)  :
    TrP prog w (hd.heap_39 w.params) p loose mean mg mb 75 [.bool false, .int x tx, .int e ty, .int n tz] 30 (fun h => True)
      (fun v tl => ∃ t, v = Value.int (pmod x e n) t ∧ tl = []) := by
  intro dp un gd cn cs a ccd cl A₀ base h₀ L m s Q E news B F X N T hk XB TB hP hd hu ret
  refine wpAny_call ?_
  k_dflt (refine' code_defTP ?k1 ?k2 ?k3 ?k4 ?k5 ?kA ?kF ?kK ?k6 ?k7 ?k8 ?k9 ?kB ?_ ?c2 ?c3 ?c4 ?c5; (case kA => exact rfl); (case kF => exact rfl); (case kK => assumption); (case k1 => k_asm); (case k2 => k_asm); (case k3 => k_asm); (case k4 => k_asm); (case k5 => k_asm); (case k6 => k_is); (case k7 => k_is); (case k8 => ktr_room); (case k9 => exact BindsTo.of_eq rfl); (case kB => exact locs rfl); (case c2 => exact rfl); (case c3 => exact rfl); (case c4 => exact rfl); (case c5 => decide); k_whole; intro g' L' h' hg' hlow' FG' F' N' B' X' T' D'; (try dsimp only); (try k_lift B'); (try k_fold))
  k_steps
  all_goals ((rename Fr h₀ L _ m => kF); (rename News h₀ L _ news => hN9))
  exact ret _ [] _ _ ⟨_, rfl, rfl⟩ (fun q hq => nomatch hq) kF hN9
end

section
local macro_rules | `(tactic| walk_at "nowhere0") => `(tactic| fail "nowhere")
local macro_rules | `(tactic| walk_at "nowhere1") => `(tactic| fail "nowhere")
local macro_rules | `(tactic| walk_at "nowhere2") => `(tactic| fail "nowhere")
local macro_rules | `(tactic| walk_at "nowhere3") => `(tactic| fail "nowhere")
local macro_rules | `(tactic| walk_at "nowhere4") => `(tactic| fail "nowhere")
local macro_rules | `(tactic| walk_at "nowhere5") => `(tactic| fail "nowhere")
local macro_rules | `(tactic| walk_at "pyIter ref") => `(tactic| ((rename LoopStop => hLs'); refine Stop.here ?_))
local macro_rules | `(tactic| k_all) => `(tactic| assumption)
local macro_rules | `(tactic| walk_at "JPost") => `(tactic| dsimp only [JPost])
local macro_rules | `(tactic| k_room) => `(tactic| ktr_room)
local macro_rules | `(tactic| k_ne) => `(tactic| (refine neN ?_; (try dsimp only); first | with_reducible assumption | exact Ne.symm (by with_reducible assumption) | ((repeat (cases ‹_ ∧ _›)); first | with_reducible assumption | exact Ne.symm (by with_reducible assumption) | ((repeat (rename @Ne Nat _ _ => hq9; clear hq9)); omega))))
local macro_rules | `(tactic| walk_at "call builtin:isinstance") => `(tactic| ((with_reducible show wpAny _ _ (call (Value.builtin _) [_, Value.type "int"]) _ _ _); k_dflt (refine' isinst_no ?a ?_; (case a => first | with_reducible assumption | (refine NotInt.keeps ?_ (Fr.keep (by assumption)); first | with_reducible assumption | (refine NotInt.keeps ?_ (Fr.keep (by assumption)); first | with_reducible assumption | (refine NotInt.keeps ?_ (Fr.keep (by assumption)); with_reducible assumption))))); intro _))
set_option maxRecDepth 100000 in
set_option maxHeartbeats 8000000 in
theorem bad1 {prog : Program} {w : World} {p : Program} {loose mean mg mb} {b : Bool} {v v2 v3 : Value}  :
    TrP prog w (hd.heap_39 w.params) p loose mean mg mb 75 [.bool b, v, v2, v3] 30 (fun h => NotInt h v)
      (fun v tl => (∃ t, v = Value.str (Str.ofString "no whole number") t) ∧ tl = []) := by
  intro dp un gd cn cs a ccd cl A₀ base h₀ L m s Q E news B F X N T hk XB TB hP hd hu ret
  refine wpAny_call ?_
  k_dflt (refine' code_defTP ?k1 ?k2 ?k3 ?k4 ?k5 ?kA ?kF ?kK ?k6 ?k7 ?k8 ?k9 ?kB ?_ ?c2 ?c3 ?c4 ?c5; (case kA => exact rfl); (case kF => exact rfl); (case kK => assumption); (case k1 => k_asm); (case k2 => k_asm); (case k3 => k_asm); (case k4 => k_asm); (case k5 => k_asm); (case k6 => k_is); (case k7 => k_is); (case k8 => ktr_room); (case k9 => exact BindsTo.of_eq rfl); (case kB => exact locs rfl); (case c2 => exact rfl); (case c3 => exact rfl); (case c4 => exact rfl); (case c5 => decide); k_whole; intro g' L' h' hg' hlow' FG' F' N' B' X' T' D'; (try dsimp only); (try k_lift B'); (try k_fold))
  have hP' : NotInt g' v := hg' ▸ hP
  cases b
  all_goals k_steps
  all_goals ((rename Fr h₀ L _ m => kF); (rename News h₀ L _ news => hN9))
  all_goals exact ret _ [] _ _ ⟨⟨_, rfl⟩, rfl⟩ (fun q hq => nomatch hq) kF hN9
set_option maxRecDepth 100000 in
set_option maxHeartbeats 8000000 in
theorem bad2 {prog : Program} {w : World} {p : Program} {loose mean mg mb} {b : Bool} {x : Int} {tx : Tok} {v v3 : Value}  :
    TrP prog w (hd.heap_39 w.params) p loose mean mg mb 75 [.bool b, .int x tx, v, v3] 30 (fun h => NotInt h v)
      (fun v tl => (∃ t, v = Value.str (Str.ofString "no whole number") t) ∧ tl = []) := by
  intro dp un gd cn cs a ccd cl A₀ base h₀ L m s Q E news B F X N T hk XB TB hP hd hu ret
  refine wpAny_call ?_
  k_dflt (refine' code_defTP ?k1 ?k2 ?k3 ?k4 ?k5 ?kA ?kF ?kK ?k6 ?k7 ?k8 ?k9 ?kB ?_ ?c2 ?c3 ?c4 ?c5; (case kA => exact rfl); (case kF => exact rfl); (case kK => assumption); (case k1 => k_asm); (case k2 => k_asm); (case k3 => k_asm); (case k4 => k_asm); (case k5 => k_asm); (case k6 => k_is); (case k7 => k_is); (case k8 => ktr_room); (case k9 => exact BindsTo.of_eq rfl); (case kB => exact locs rfl); (case c2 => exact rfl); (case c3 => exact rfl); (case c4 => exact rfl); (case c5 => decide); k_whole; intro g' L' h' hg' hlow' FG' F' N' B' X' T' D'; (try dsimp only); (try k_lift B'); (try k_fold))
  have hP' : NotInt g' v := hg' ▸ hP
  cases b
  all_goals k_steps
  all_goals ((rename Fr h₀ L _ m => kF); (rename News h₀ L _ news => hN9))
  all_goals exact ret _ [] _ _ ⟨⟨_, rfl⟩, rfl⟩ (fun q hq => nomatch hq) kF hN9
set_option maxRecDepth 100000 in
set_option maxHeartbeats 8000000 in
theorem bad3 {prog : Program} {w : World} {p : Program} {loose mean mg mb} {b : Bool} {x y : Int} {tx ty : Tok} {v : Value}  :
    TrP prog w (hd.heap_39 w.params) p loose mean mg mb 75 [.bool b, .int x tx, .int y ty, v] 30 (fun h => NotInt h v)
      (fun v tl => (∃ t, v = Value.str (Str.ofString "no whole number") t) ∧ tl = []) := by
  intro dp un gd cn cs a ccd cl A₀ base h₀ L m s Q E news B F X N T hk XB TB hP hd hu ret
  refine wpAny_call ?_
  k_dflt (refine' code_defTP ?k1 ?k2 ?k3 ?k4 ?k5 ?kA ?kF ?kK ?k6 ?k7 ?k8 ?k9 ?kB ?_ ?c2 ?c3 ?c4 ?c5; (case kA => exact rfl); (case kF => exact rfl); (case kK => assumption); (case k1 => k_asm); (case k2 => k_asm); (case k3 => k_asm); (case k4 => k_asm); (case k5 => k_asm); (case k6 => k_is); (case k7 => k_is); (case k8 => ktr_room); (case k9 => exact BindsTo.of_eq rfl); (case kB => exact locs rfl); (case c2 => exact rfl); (case c3 => exact rfl); (case c4 => exact rfl); (case c5 => decide); k_whole; intro g' L' h' hg' hlow' FG' F' N' B' X' T' D'; (try dsimp only); (try k_lift B'); (try k_fold))
  have hP' : NotInt g' v := hg' ▸ hP
  cases b
  all_goals k_steps
  all_goals ((rename Fr h₀ L _ m => kF); (rename News h₀ L _ news => hN9))
  all_goals exact ret _ [] _ _ ⟨⟨_, rfl⟩, rfl⟩ (fun q hq => nomatch hq) kF hN9
end

section
local macro_rules | `(tactic| walk_at "subscriptTail List cons Call ref int") => `(tactic| (k_here; (with_reducible show wpAny _ _ (subscriptTail _ _ (Value.ref _) (Value.int _ _)) _ _ _); (with_unfolding_all refine' pick_nil ?k1 ?k2 ?k3 ?_ ?k6; (case k1 => is_list); (case k2 => assumption); (case k3 => assumption); (case k6 => with_unfolding_all rfl)); intro v hNIL))
local macro_rules | `(tactic| walk_at "setItem ref int") => `(tactic| (k_here; (with_reducible show wpAny _ _ (setItem (Value.ref _) (Value.int _ _) _) _ _ _); k_dflt (refine' setItem_3 ?a ?b ?_ ?_ ?_; (case a => assumption); (case b => assumption))))
local macro_rules | `(tactic| walk_at "setItem ref int") => `(tactic| (k_here; (with_reducible show wpAny _ _ (setItem (Value.ref _) (Value.int _ _) _) _ _ _); k_dflt (refine' set_any ?k1 ?k2 ?k3 ?k4 ?k5 ?k6 ?_; (case k4 => decide); (case k6 => decide); (case k1 => k_asm); (case k2 => k_asm); (case k3 => k_upd); (case k5 => decide); k_whole); intro h' F' N'; (try simp only [Int.toNat_zero, Int.toNat_one, Int.reduceToNat, List.set_cons_zero, List.set_cons_succ] at N'); (try k_sweep)))
local macro_rules | `(tactic| walk_at "pyIter ref") => `(tactic| ((rename LoopStop => hLs'); refine Stop.here ?_))
local macro_rules | `(tactic| k_all) => `(tactic| assumption)
local macro_rules | `(tactic| walk_at "JPost") => `(tactic| dsimp only [JPost])
local macro_rules | `(tactic| k_room) => `(tactic| ktr_room)
local macro_rules | `(tactic| k_ne) => `(tactic| (refine neN ?_; (try dsimp only); first | with_reducible assumption | exact Ne.symm (by with_reducible assumption) | ((repeat (cases ‹_ ∧ _›)); first | with_reducible assumption | exact Ne.symm (by with_reducible assumption) | ((repeat (rename @Ne Nat _ _ => hq9; clear hq9)); omega))))
local macro_rules | `(tactic| walk_at "call builtin:pow") => `(tactic| ((with_reducible show wpAny _ _ (call (Value.builtin _) [Value.int _ _, Value.int _ _, Value.int _ _]) _ _ _); k_dflt (refine' call_pow3 ?a ?b ?_; (case a => first | assumption | omega); (case b => first | assumption | omega))))
local macro_rules | `(tactic| walk_at "call ref") => `(tactic| (k_here; (with_reducible show wpAny _ _ (call (Value.ref 47) _) _ _ _); k_dflt (refine' StC.use (take_c ?m1 ?m2) ?B ?F ?X ?N ?T ?k ?U1 ?U2 ?W ?d ?u ?_; (case B => k_asm); (case F => k_asm); (case X => k_asm); (case N => k_asm); (case T => k_asm); (case k => first | exact rfl | assumption); (case U1 => k_updF); (case U2 => intro o; (try dsimp only); k_updF); (case W => with_reducible assumption); (case m1 => omega); (case m2 => omega); (case d => ktr_room); (case u => ktr_units); k_whole; (rintro v i' ti' vs' n1' n2' h' tk' hW' ⟨r, t, hv, r0, r1⟩ F' N'); subst hv; (try dsimp only at N'); (try k_sweep))))
local macro_rules | `(tactic| walk_at "call ref") => `(tactic| (k_here; (with_reducible show wpAny _ _ (call (Value.ref 61) _) _ _ _); k_dflt (refine' StC.use number_c ?B ?F ?X ?N ?T ?k ?U1 ?U2 ?W ?d ?u ?_; (case B => k_asm); (case F => k_asm); (case X => k_asm); (case N => k_asm); (case T => k_asm); (case k => first | exact rfl | assumption); (case U1 => k_updF); (case U2 => intro o; (try dsimp only); k_updF); (case W => with_reducible assumption); (case d => ktr_room); (case u => ktr_units); k_whole; (rintro v i' ti' vs' n1' n2' h' tk' hW' ⟨r, t, hv, r0⟩ F' N'); subst hv; (try dsimp only at N'); (have r0n := Bd.nn r0); (try k_sweep))))
local macro_rules | `(tactic| walk_at "call ref") => `(tactic| (k_here; (with_reducible show wpAny _ _ (call (Value.ref 40) [Value.ref _]) _ _ _); k_dflt (refine' PuN.use (state_c ?s1 ?s2) ?B ?F ?X ?N ?T ?k ?P ?d ?u ?_; (case B => k_asm); (case F => k_asm); (case X => k_asm); (case N => k_asm); (case T => k_asm); (case k => first | exact rfl | assumption); (case s1 => assumption); (case s2 => omega); (case P => is_list); (case d => ktr_room); (case u => ktr_units); k_whole; (rintro v tl h' tk' ⟨st, c, t, vs, n1, n2, hv, hne, hW, htl⟩ hlt F' N'); subst hv; subst htl; (try simp only [List.forall_mem_cons, List.not_mem_nil, false_implies, implies_true, and_true] at hlt); (try simp only [List.cons_append, List.nil_append] at N'); (try k_sweep))))
local macro_rules | `(tactic| walk_at "call ref") => `(tactic| (k_here; (with_reducible show wpAny _ _ (call (Value.ref 68) [Value.int _ _, Value.int _ _, Value.int _ _]) _ _ _); k_dflt (refine' PuP.use (power_c ?p1 ?p2 ?p3 ?p4 ?p5) ?B ?F ?X ?N ?T ?k ?P ?d ?u ?_; (case B => k_asm); (case F => k_asm); (case X => k_asm); (case N => k_asm); (case T => k_asm); (case k => first | exact rfl | assumption); (case p1 => first | assumption | omega); (case p2 => first | assumption | exact SBd.mono (by assumption) (by decide) | exact SBd.mono (SBd.add (SBd.lit (by decide)) (Bd.sbd (by assumption))) (by decide)); (case p3 => first | assumption | exact fmod_lo (by first | assumption | omega)); (case p4 => first | assumption | exact fmod_hi (by first | assumption | omega)); (case p5 => first | assumption | exact Bd.mono (by assumption) (by decide)); (case P => trivial); (case d => ktr_room); (case u => ktr_units); k_whole; (rintro v tl h' tk' ⟨r, t, hv, hr, htl⟩ hlt F' N'); clear hlt; subst hv; subst htl; (try simp only [List.nil_append] at N'); (rw [pmod_fmod (by first | assumption | omega)] at hr); subst hr; (try k_sweep))))
local macro_rules | `(tactic| walk_at "call ref") => `(tactic| (k_here; (with_reducible show wpAny _ _ (call (Value.ref 75) [Value.bool _, _, _, _]) _ _ _); k_dflt (refine' TrP.use bad1 ?B ?F ?X ?N ?T ?k ?XB ?TB ?P ?d ?u ?_; (case B => k_asm); (case F => k_asm); (case X => k_asm); (case N => k_asm); (case T => k_asm); (case k => first | exact rfl | assumption); (case XB => k_asm); (case TB => k_asm); (case P => first | exact NIL.at (by assumption) (by assumption) (by k_mem) rfl | exact .str _ _ | exact .float _ _ | exact .none | exact .bytes _ _ | exact .list _ _ (News.get (by assumption) (by k_mem)) rfl); (case d => ktr_room); (case u => ktr_units); k_whole; (rintro v tl h' tk' ⟨⟨t, hv⟩, htl⟩ hlt F' N'); clear hlt; subst hv; subst htl; (try simp only [List.nil_append] at N'); (try k_sweep))))
local macro_rules | `(tactic| walk_at "call ref") => `(tactic| (k_here; (with_reducible show wpAny _ _ (call (Value.ref 75) [Value.bool _, Value.int _ _, _, _]) _ _ _); k_dflt (refine' TrP.use bad2 ?B ?F ?X ?N ?T ?k ?XB ?TB ?P ?d ?u ?_; (case B => k_asm); (case F => k_asm); (case X => k_asm); (case N => k_asm); (case T => k_asm); (case k => first | exact rfl | assumption); (case XB => k_asm); (case TB => k_asm); (case P => first | exact NIL.at (by assumption) (by assumption) (by k_mem) rfl | exact .str _ _ | exact .float _ _ | exact .none | exact .bytes _ _ | exact .list _ _ (News.get (by assumption) (by k_mem)) rfl); (case d => ktr_room); (case u => ktr_units); k_whole; (rintro v tl h' tk' ⟨⟨t, hv⟩, htl⟩ hlt F' N'); clear hlt; subst hv; subst htl; (try simp only [List.nil_append] at N'); (try k_sweep))))
local macro_rules | `(tactic| walk_at "call ref") => `(tactic| (k_here; (with_reducible show wpAny _ _ (call (Value.ref 75) [Value.bool _, Value.int _ _, Value.int _ _, _]) _ _ _); k_dflt (refine' TrP.use bad3 ?B ?F ?X ?N ?T ?k ?XB ?TB ?P ?d ?u ?_; (case B => k_asm); (case F => k_asm); (case X => k_asm); (case N => k_asm); (case T => k_asm); (case k => first | exact rfl | assumption); (case XB => k_asm); (case TB => k_asm); (case P => first | exact NIL.at (by assumption) (by assumption) (by k_mem) rfl | exact .str _ _ | exact .float _ _ | exact .none | exact .bytes _ _ | exact .list _ _ (News.get (by assumption) (by k_mem)) rfl); (case d => ktr_room); (case u => ktr_units); k_whole; (rintro v tl h' tk' ⟨⟨t, hv⟩, htl⟩ hlt F' N'); clear hlt; subst hv; subst htl; (try simp only [List.nil_append] at N'); (try k_sweep))))
local macro_rules | `(tactic| walk_at "call ref") => `(tactic| (k_here; (with_reducible show wpAny _ _ (call (Value.ref 75) [Value.bool false, Value.int _ _, Value.int _ _, Value.int _ _]) _ _ _); k_dflt (refine' TrP.use (toldF ?t1 ?t2) ?B ?F ?X ?N ?T ?k ?XB ?TB ?P ?d ?u ?_; (case B => k_asm); (case F => k_asm); (case X => k_asm); (case N => k_asm); (case T => k_asm); (case k => first | exact rfl | assumption); (case XB => k_asm); (case TB => k_asm); (case t1 => first | assumption | omega); (case t2 => first | assumption | exact Bd.nn (by assumption)); (case P => trivial); (case d => ktr_room); (case u => ktr_units); k_whole; (rintro v tl h' tk' ⟨t, hv, htl⟩ hlt F' N'); clear hlt; subst hv; subst htl; (try simp only [List.nil_append] at N'); (try k_sweep))))
local macro_rules | `(tactic| walk_at "call ref") => `(tactic| (k_here; (with_reducible show wpAny _ _ (call (Value.ref 75) [Value.bool true, Value.int _ _, Value.int _ _, Value.int _ _]) _ _ _); k_dflt (refine' TrP.use (toldT_in ?t1 ?t2 ?t3 ?t4) ?B ?F ?X ?N ?T ?k ?XB ?TB ?P ?d ?u ?_; (case B => k_asm); (case F => k_asm); (case X => k_asm); (case N => k_asm); (case T => k_asm); (case k => first | exact rfl | assumption); (case XB => k_asm); (case TB => k_asm); (case t1 => first | assumption | omega); (case t2 => first | assumption | exact Bd.nn (by assumption)); (case t3 => omega); (case t4 => omega); (case P => trivial); (case d => ktr_room); (case u => ktr_units); k_whole; (rintro v tl h' tk' ⟨t, hv, htl⟩ hlt F' N'); clear hlt; subst hv; subst htl; (try simp only [List.nil_append] at N'); (try k_sweep))))
local macro_rules | `(tactic| walk_at "call ref") => `(tactic| (k_here; (with_reducible show wpAny _ _ (call (Value.ref 75) [Value.bool true, Value.int _ _, Value.int _ _, Value.int _ _]) _ _ _); k_dflt (refine' TrP.use (toldT_lo ?t1 ?t2 ?t3) ?B ?F ?X ?N ?T ?k ?XB ?TB ?P ?d ?u ?_; (case B => k_asm); (case F => k_asm); (case X => k_asm); (case N => k_asm); (case T => k_asm); (case k => first | exact rfl | assumption); (case XB => k_asm); (case TB => k_asm); (case t1 => first | assumption | omega); (case t2 => first | assumption | exact Bd.nn (by assumption)); (case t3 => omega); (case P => trivial); (case d => ktr_room); (case u => ktr_units); k_whole; (rintro v tl h' tk' ⟨t, hv, htl⟩ hlt F' N'); clear hlt; subst hv; subst htl; (try simp only [List.nil_append] at N'); (try k_sweep))))
local macro_rules | `(tactic| walk_at "call ref") => `(tactic| (k_here; (with_reducible show wpAny _ _ (call (Value.ref 75) [Value.bool true, Value.int _ _, Value.int _ _, Value.int _ _]) _ _ _); k_dflt (refine' TrP.use (toldT_hi ?t1 ?t2 ?t3) ?B ?F ?X ?N ?T ?k ?XB ?TB ?P ?d ?u ?_; (case B => k_asm); (case F => k_asm); (case X => k_asm); (case N => k_asm); (case T => k_asm); (case k => first | exact rfl | assumption); (case XB => k_asm); (case TB => k_asm); (case t1 => first | assumption | omega); (case t2 => first | assumption | exact Bd.nn (by assumption)); (case t3 => omega); (case P => trivial); (case d => ktr_room); (case u => ktr_units); k_whole; (rintro v tl h' tk' ⟨t, hv, htl⟩ hlt F' N'); clear hlt; subst hv; subst htl; (try simp only [List.nil_append] at N'); (try k_sweep))))
local macro_rules | `(tactic| walk_at "binaryOp Mod int int") => `(tactic| (k_here; k_dflt (refine' mod_int' ?a ?_ (Or.inl (PyProof.noPylong_of_log2 (SBd.log2 ?b ?c ?d))); (case a => omega); (case b => first | assumption | exact SBd.add (.lit (by decide)) (Bd.sbd (by assumption))); (case c => omega); (case d => decide))))
theorem sbd_succ {r : Int} (h : Bd 300 r) : SBd 331 (1 + r) := SBd.add (k := 30) (l := 300) (SBd.lit (by decide)) h.sbd
set_option maxRecDepth 100000 in
set_option maxHeartbeats 8000000 in
theorem t10 : PySem.Challenge.rw_ys0002_10.Holds := hd (by
  k_go0
  all_goals try k_fold
  (rename kHook _ _ _ |>.says _ _ => hz1)
  (rename Ground _ _ _ _ _ _ _ _ _ => hz2)
  (rename Flt.MathXP _ _ _ => hz3)
  (rename LooseAre _ _ _ => hz4)
  (rename Glob _ _ _ _ _ _ _ _ => hz5)
  (rename Tables _ _ _ _ => hz6)
  (rename TopE _ _ _ _ => hz7)
  (rename TopW _ _ _ => hz8)
  (rename BMod _ _ _ _ _ => hz9)
  (rename Heap.CodeRec _ _ _ => hz10)
  clear hz10 hz9 hz8 hz7 hz6 hz5 hz4 hz3
  have hstop : LoopStop := {}
  k_steps
  refine Stop.go ?_
  rename Fr _ _ _ _ => lF
  rename News _ _ _ _ => lN
  rename SW _ _ => hSW
  rename @Ne Nat _ _ => hne
  rename IsRange _ _ _ _ _ _ _ _ => rgX
  rename Shared => s1
  rename Obj => oC
  (rename oC.data = _ => hcd)
  obtain ⟨v0, hcd⟩ : ∃ v, oC.data = Data.cell v := ⟨_, hcd⟩
  obtain ⟨m0, st, c, i0, t0, vs0, n1, n2, hm0, lF, lN, hSW, hne, hne1, hne2⟩ : ∃ (m0 : Str → Option Value) (st c : Addr) (i0 : Int) (t0 : Tok) (vs0 : List Value) (n1 n2 : Nat), m0 (Str.ofString "state") = some (.ref st) ∧ Fr _ _ _ m0 ∧ News _ _ _ [(st, listOf #[.int i0 t0, .ref c] n1), (c, listOf vs0.toArray n2), (s1.heap.objs.size + 1, oC)] ∧ SW i0 vs0 ∧ @Ne Nat st c ∧ @Ne Nat st (s1.heap.objs.size + 1) ∧ @Ne Nat c (s1.heap.objs.size + 1) := ⟨_, _, _, _, _, _, _, _, rfl, lF, lN, hSW, hne, by k_ne, by k_ne⟩
  with_unfolding_all refine' (j_range2 (σ := (Int × Tok × List Value × Nat × Nat) × (Int × Int × Int) × (Tok × Tok × Tok))
      (fun x => [(st, listOf #[.int x.1.1 x.1.2.1, .ref c] x.1.2.2.2.1), (c, listOf x.1.2.2.1.toArray x.1.2.2.2.2), (s1.heap.objs.size + 1, oC)])
      (fun x => [(Str.ofString "state", .ref st)]) (fun x => [(Str.ofString "n", .int x.2.1.1 x.2.2.1), (Str.ofString "exponent", .int x.2.1.2.1 x.2.2.2.1), (Str.ofString "number", .int x.2.1.2.2 x.2.2.2.2)])
      [Str.ofString "n", Str.ofString "exponent", Str.ofString "number", Str.ofString "due", Str.ofString "plain"]
      (fun i x => SW x.1.1 x.1.2.2.1 ∧ (i = 0 ∨ (1 ≤ x.2.1.1 ∧ SBd 331 x.2.1.1 ∧ Bd 300 x.2.1.2.1)))
      ⟨⟨_, _, _, _, _⟩, ⟨0, 0, 0⟩, ⟨0, 0, 0⟩⟩ ?ksub (by decide) (by rfl) rgX (by decide) (n := 3) rfl lF ?kn ?kk ?kp ?_ ?_)
  case ksub => rintro x q hq; (rcases List.mem_cons.mp hq with rfl | hq; (· rfl); (rcases List.mem_cons.mp hq with rfl | hq; (· rfl); (rcases List.mem_cons.mp hq with rfl | hq; (· rfl); (· cases hq))))
  case kn => exact lN
  case kk => intro q hq; (rcases List.mem_cons.mp hq with rfl | hq; (· exact hm0); (· cases hq))
  case kp => exact ⟨hSW, .inl rfl⟩
  all_goals clear lF lN hSW rgX
  · rintro ⟨⟨xi, xti, xvs, xn1, xn2⟩, ⟨zn, ze, zx⟩, ⟨tn, te, tx⟩⟩ ii k t u h tk I oI hk' hi ⟨hw2, _⟩ hoff2 F' N'
    dsimp only [kstB] at hw2 hoff2 F' N'
    simp only [List.forall_mem_cons] at hoff2
    obtain ⟨hf1, hf2, hf3, _⟩ := hoff2
    replace hf1 := neN hf1
    replace hf2 := neN hf2
    replace hf3 := neN hf3
    k_steps
    all_goals (
      refine' jend ⟨⟨_, _, _, _, _⟩, ⟨_, _, _⟩, ⟨_, _, _⟩⟩ ?jq1 ?jq2 ?jq3 ?jq4 ?jq5 ?jq6 ?jq7 ?jq8
      case jq1 => set_option maxHeartbeats 400000 in (first | assumption | fail "F")
      case jq2 => set_option maxHeartbeats 400000 in (first | assumption | fail "N")
      case jq3 => set_option maxHeartbeats 400000 in (first | kst_in | fail "in")
      case jq4 => set_option maxHeartbeats 400000 in (first | kst_entry | fail "entry")
      case jq5 => set_option maxHeartbeats 400000 in (first | k_all | fail "all")
      case jq6 => set_option maxHeartbeats 400000 in (first | kst_all | fail "names")
      case jq7 => set_option maxHeartbeats 400000 in (first | kst_same | fail "same")
      case jq8 => (dsimp only; exact ⟨by with_reducible assumption, .inr ⟨by omega, sbd_succ (by assumption), by assumption⟩⟩)
)
  · rintro ⟨⟨xi, xti, xvs, xn1, xn2⟩, ⟨zn, ze, zx⟩, ⟨tn, te, tx⟩⟩ u h tk ⟨hw2, hz⟩ F' N'
    obtain ⟨hn1, hn2, he1⟩ := hz.resolve_left (by decide)
    dsimp only [kstB] at hw2 hn1 hn2 he1 F' N'
    k_steps)
end

end Mine

theorem PySem.Challenge.cw_ys0002_10_holds : PySem.Challenge.rw_ys0002_10.Holds := by
  exact Mine.t10
