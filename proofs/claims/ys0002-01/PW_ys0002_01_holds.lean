import PyProof.Rows.All
import Wide.All
import OpenK.AllK
import Wide.FinOn
import PySem.Challenge.RW_ys0002_01
open PySem PySem.W PyProof.Rows
set_option Elab.async false
namespace Mine

open PySem.Calls

/-! ### plain facts -/
theorem fmod_lo {a b : Int} (h : 1 ≤ b) : 0 ≤ a.fmod b := Int.fmod_nonneg_of_pos a (by omega)
theorem fmod_hi {a b : Int} (h : 1 ≤ b) : a.fmod b < b := Int.fmod_lt_of_pos a (by omega)
theorem getD_nn {ns : List Int} (h : ∀ n ∈ ns, 0 ≤ n) (k : Nat) : 0 ≤ ns.getD k 0 := by
  rw [List.getD_eq_getElem?_getD]
  cases e : ns[k]? with
  | none => simp
  | some v => simpa using h v (List.mem_of_getElem? e)
theorem set_nn {ns : List Int} {x : Int} (h : ∀ n ∈ ns, 0 ≤ n) (hx : 0 ≤ x) (k : Nat) : ∀ n ∈ ns.set k x, 0 ≤ n := by
  intro n hn
  rcases List.mem_or_eq_of_mem_set hn with h1 | h1
  · exact h n h1
  · rw [h1]; exact hx
theorem fdiv_nn {a b : Int} (ha : 0 ≤ a) (h : 1 ≤ b) : 0 ≤ a.fdiv b := by
  rw [Int.fdiv_eq_ediv_of_nonneg _ (by omega)]
  exact Int.ediv_nonneg ha (by omega)

theorem great_step {num r : Int} {i : Nat} (q0 : 0 ≤ num) (q1 : num < 1000003 ^ i) (r0 : 0 ≤ r) (r1 : r < 1000003) : 0 ≤ 1000003 * num + r ∧ 1000003 * num + r < 1000003 ^ (i + 1) := by
  refine ⟨by omega, ?_⟩
  rw [Int.pow_succ]
  generalize (1000003 : Int) ^ i = P at q1 ⊢
  omega

theorem ipow_mono {b : Int} (hb : 1 ≤ b) {k l : Nat} (h : k ≤ l) : b ^ k ≤ b ^ l := by
  induction h with
  | refl => exact Int.le_refl _
  | @step n _ ih =>
    rw [Int.pow_succ]
    have : b ^ n * 1 ≤ b ^ n * b := Int.mul_le_mul_of_nonneg_left hb (Int.le_of_lt (Int.pow_pos (by omega)))
    omega
/-- a number from 0 on, below a power of 2 -/
def Bd (k : Nat) (r : Int) : Prop := 0 ≤ r ∧ r < 2 ^ k
theorem Bd.nn {k : Nat} {r : Int} (h : Bd k r) : 0 ≤ r := h.1
theorem Bd.mono {k l : Nat} {r : Int} (h : Bd k r) (hl : k ≤ l) : Bd l r :=
  ⟨h.1, Int.lt_of_lt_of_le h.2 (ipow_mono (by decide) hl)⟩
theorem Bd.of_lt {k : Nat} {r b : Int} (h0 : 0 ≤ r) (h1 : r < b) (hb : b ≤ 2 ^ k) : Bd k r := ⟨h0, Int.lt_of_lt_of_le h1 hb⟩
theorem bd_great {r words : Int} (h0 : 0 ≤ r) (h1 : r < 1000003 ^ words.toNat) (hw : words ≤ 10) : Bd 300 r :=
  .of_lt h0 (Int.lt_of_lt_of_le h1 (ipow_mono (by decide) (by omega : words.toNat ≤ 10))) (Int.le_trans (by decide +kernel : (1000003 : Int) ^ 10 ≤ 2 ^ 200) (ipow_mono (by decide) (by decide)))
theorem bd_pow {k d : Int} (h0 : 0 ≤ k) (h1 : k < 300) (d0 : 0 ≤ d) (d1 : d < 3) : Bd 300 (2 ^ k.toNat + d - 1) := by
  have hp : (0 : Int) < 2 ^ k.toNat := Int.pow_pos (by decide)
  have hq : (2 : Int) ^ k.toNat ≤ 2 ^ (299 : Nat) := ipow_mono (by decide) (by omega)
  have he : (2 : Int) ^ (299 + 1 : Nat) = 2 ^ (299 : Nat) * 2 := Int.pow_succ ..
  have hr : (2 : Int) ^ (2 : Nat) ≤ 2 ^ (299 : Nat) := ipow_mono (by decide) (by decide)
  refine ⟨by omega, ?_⟩
  show _ < (2 : Int) ^ (299 + 1 : Nat)
  rw [he]
  generalize (2 : Int) ^ (299 : Nat) = P at hq hr ⊢
  omega

theorem bd_menu {r : Int} (h0 : 0 ≤ r) (h1 : r < 7) : Bd 300 (([0, 1, 2, 255, 256, 65535, 65536] : List Int).getD r.toNat 0) := by
  have e : r = 0 ∨ r = 1 ∨ r = 2 ∨ r = 3 ∨ r = 4 ∨ r = 5 ∨ r = 6 := by omega
  rcases e with rfl | rfl | rfl | rfl | rfl | rfl | rfl <;> exact Bd.mono (k := 30) ⟨by decide, by decide⟩ (by decide)

theorem News_tl {h₀ h : Heap} {L : Addr} {a : Addr × Obj} {l : List (Addr × Obj)} (N : News h₀ L h (a :: l)) : News h₀ L h l := fun p hp => N p (List.mem_cons_of_mem _ hp)

theorem least_step {b amount count start : Int} (q1 : ∀ j : Int, start ≤ j → j < count → b ^ j.toNat ≤ amount) (a : ¬amount < b ^ count.toNat) : ∀ j : Int, start ≤ j → j < count + 1 → b ^ j.toNat ≤ amount := by
  intro j h1 h2
  by_cases e : j = count
  · rw [e]; omega
  · exact q1 j h1 (by omega)
theorem least_stop {b amount count start : Int} (ha : Bd 400 amount) (hb : 2 ≤ b) (hs : start = 0 ∨ start = 1) (q0 : count = start + ((2000 : Nat) : Int)) (q1 : ∀ j : Int, start ≤ j → j < count → b ^ j.toNat ≤ amount) : False := by
  have h1 := q1 (start + 1999) (by omega) (by omega)
  have h2 : (b : Int) ^ 400 ≤ b ^ (start + 1999).toNat := ipow_mono (by omega) (by omega)
  have h3 : (2 : Int) ^ 400 ≤ b ^ 400 := by
    have key : ∀ k : Nat, (2 : Int) ^ k ≤ b ^ k := by
      intro k
      induction k with
      | zero => simp
      | succ k ih =>
        rw [Int.pow_succ, Int.pow_succ]
        exact Int.mul_le_mul ih hb (by decide) (Int.le_of_lt (Int.pow_pos (by omega)))
    exact key 400
  have h4 := ha.2
  omega

theorem abs_nn (l : List Int) : ∀ n ∈ l.map (fun k' => if k' < 0 then -k' else k'), 0 ≤ n := by
  intro n hn
  obtain ⟨k, _, rfl⟩ := List.mem_map.mp hn
  split <;> omega

theorem News_two {h₀ h : Heap} {L : Addr} {a b : Addr × Obj} {l : List (Addr × Obj)} (N : News h₀ L h (a :: b :: l)) : News h₀ L h ([a, b] ++ []) := fun p hp => N p (by
  rcases List.mem_cons.mp hp with rfl | hp
  · exact List.mem_cons_self
  · rcases List.mem_cons.mp hp with rfl | hp
    · exact List.mem_cons_of_mem _ List.mem_cons_self
    · cases hp)

/-- a number of any sign whose amount is below a power of 2 -/
def SBd (k : Nat) (x : Int) : Prop := x.natAbs < 2 ^ k
theorem SBd.mono {k l : Nat} {x : Int} (h : SBd k x) (hl : k ≤ l) : SBd l x := Nat.lt_of_lt_of_le h (Nat.pow_le_pow_right (by decide) hl)
theorem Bd.sbd {k : Nat} {x : Int} (h : Bd k x) : SBd k x := by
  have h0 := h.1
  have h1 := h.2
  unfold SBd
  have e : ((2 ^ k : Nat) : Int) = (2 : Int) ^ k := by simp
  omega
theorem SBd.mul {k l : Nat} {x y : Int} (h : SBd k x) (g : SBd l y) : SBd (k + l) (x * y) := by
  unfold SBd at *
  rw [Int.natAbs_mul, Nat.pow_add]
  exact Nat.mul_lt_mul'' h g
theorem SBd.neg {k : Nat} {x : Int} (h : SBd k x) : SBd k (-x) := by unfold SBd at *; rwa [Int.natAbs_neg]
theorem SBd.add {k l : Nat} {x y : Int} (h : SBd k x) (g : SBd l y) : SBd (k + l + 1) (x + y) := by
  have h1 := h.mono (Nat.le_add_right k l)
  have g1 := g.mono (Nat.le_add_left l k)
  unfold SBd at *
  rw [Nat.pow_succ]
  generalize 2 ^ (k + l) = P at h1 g1 ⊢
  omega
theorem SBd.sub {k l : Nat} {x y : Int} (h : SBd k x) (g : SBd l y) : SBd (k + l + 1) (x - y) := by
  rw [Int.sub_eq_add_neg]; exact h.add g.neg
theorem SBd.lit {x : Int} (h : x.natAbs < 1073741824) : SBd 30 x := h
theorem SBd.abs {k : Nat} {x : Int} (h : SBd k x) : Bd k (if x < 0 then -x else x) := by
  unfold SBd at h
  have e : ((2 ^ k : Nat) : Int) = (2 : Int) ^ k := by simp
  constructor
  · split <;> omega
  · split <;> omega
theorem SBd.bits {k : Nat} {x : Int} (h : SBd k x) : Builtin.Int.intBits x ≤ k := by
  unfold SBd at h
  unfold Builtin.Int.intBits
  split
  · exact Nat.zero_le _
  · rename_i hx
    have h0 : x.natAbs ≠ 0 := by simpa using hx
    exact (Nat.log2_lt h0).mpr h
theorem mulOk {k l : Nat} {x y : Int} (h : SBd k x) (g : SBd l y) (hk : k + l ≤ 1000000) : IntMulOk x y :=
  PyProof.Rows.mulOk_of_bits h.bits g.bits (Nat.le_trans hk (by decide))
theorem mul_gen {prog : Program} {w : World} {A : Around} {E : Value → Shared → Prop} {s : Shared} {k l : Nat} {a b : Int} {t u : Tok} {Q : Value → Shared → Prop} (ha : SBd k a) (hb : SBd l b) (hk : k + l ≤ 1000000)
    (h : ∀ z, z = a * b → SBd (k + l) z → Q (.int z s.toks) { s with toks := s.toks + 1 }) : wpAny (model prog w) A (binaryOp .Mult (.int a t) (.int b u)) Q E s :=
  mul_int (h _ rfl (ha.mul hb)) (mulOk ha hb hk)

theorem bits_hi (x : Int) : x.natAbs < 2 ^ Builtin.Int.intBits x := by
  unfold Builtin.Int.intBits
  split
  · rename_i h; have : x = 0 := by simpa using h
    subst this; decide
  · rename_i hx
    have h0 : x.natAbs ≠ 0 := by simpa using hx
    exact (Nat.log2_lt h0).mp (Nat.lt_succ_self _)
theorem bits_lo {x : Int} (h : x ≠ 0) : 0 < Builtin.Int.intBits x ∧ 2 ^ (Builtin.Int.intBits x - 1) ≤ x.natAbs := by
  unfold Builtin.Int.intBits
  rw [if_neg (by simpa using h)]
  exact ⟨Nat.succ_pos _, Nat.log2_self_le (by omega)⟩
theorem pow_cast (b k : Nat) : ((b ^ k : Nat) : Int) = (b : Int) ^ k := by simp
theorem bits_of_least {x r : Int} (h0 : 0 ≤ r) (h1 : (if x < 0 then -x else x) < 2 ^ r.toNat) (h2 : ∀ j : Int, 0 ≤ j → j < r → 2 ^ j.toNat ≤ (if x < 0 then -x else x)) : r = (Builtin.Int.intBits x : Int) := by
  have ha : (if x < 0 then -x else x) = (x.natAbs : Int) := by split <;> omega
  rw [ha] at h1 h2
  have hhi := bits_hi x
  have e1 := pow_cast 2 r.toNat
  by_cases hx : x = 0
  · subst hx
    have : Builtin.Int.intBits 0 = 0 := rfl
    rw [this]
    rcases Int.lt_trichotomy r 0 with h | h | h
    · omega
    · exact h
    · have := h2 0 (by omega) h
      simp at this
  · have hlo := bits_lo hx
    generalize Builtin.Int.intBits x = B at *
    rcases Int.lt_trichotomy r (B : Int) with h | h | h
    · exfalso
      have h3 : 2 ^ r.toNat ≤ 2 ^ (B - 1) := Nat.pow_le_pow_right (by decide) (by omega)
      have h4 : x.natAbs < 2 ^ r.toNat := by
        have : ((2 : Nat) : Int) = 2 := rfl
        rw [this] at e1; omega
      omega
    · exact h
    · exfalso
      have h3 := h2 (B : Int) (by omega) h
      rw [Int.toNat_natCast] at h3
      have e2 := pow_cast 2 B
      have : ((2 : Nat) : Int) = 2 := rfl
      rw [this] at e2
      omega
theorem bytes_of_least {x r : Int} (h0 : 1 ≤ r) (h1 : (if x < 0 then -x else x) < 256 ^ r.toNat) (h2 : ∀ j : Int, 1 ≤ j → j < r → 256 ^ j.toNat ≤ (if x < 0 then -x else x)) :
    (Builtin.Int.intBits x : Int) ≤ 8 * r ∧ (r = 1 ∨ 8 * (r - 1) < (Builtin.Int.intBits x : Int)) := by
  have ha : (if x < 0 then -x else x) = (x.natAbs : Int) := by split <;> omega
  rw [ha] at h1 h2
  have hhi := bits_hi x
  have key : ∀ j : Nat, (256 : Int) ^ j = ((2 ^ (8 * j) : Nat) : Int) := by
    intro j
    rw [Nat.pow_mul]
    exact (pow_cast 256 j).symm
  rw [key] at h1
  constructor
  · by_cases hx : x = 0
    · subst hx
      have : Builtin.Int.intBits 0 = 0 := rfl
      omega
    · have hlo := bits_lo hx
      generalize Builtin.Int.intBits x = B at *
      refine Classical.byContradiction fun hc => ?_
      have h3 : 2 ^ (8 * r.toNat) ≤ 2 ^ (B - 1) := Nat.pow_le_pow_right (by decide) (by omega)
      omega
  · by_cases hr : r = 1
    · exact .inl hr
    · right
      have h3 := h2 (r - 1) (by omega) (by omega)
      rw [key] at h3
      generalize Builtin.Int.intBits x = B at *
      refine Classical.byContradiction fun hc => ?_
      have h4 : 2 ^ B ≤ 2 ^ (8 * (r - 1).toNat) := Nat.pow_le_pow_right (by decide) (by omega)
      omega

theorem sgn_menu {r : Int} (h0 : 0 ≤ r) (h1 : r < 3) : ([1, 1, -1] : List Int).getD r.toNat 0 = 1 ∨ ([1, 1, -1] : List Int).getD r.toNat 0 = -1 := by
  have e : r = 0 ∨ r = 1 ∨ r = 2 := by omega
  rcases e with rfl | rfl | rfl <;> decide
theorem mul_sgn {prog : Program} {w : World} {A : Around} {E : Value → Shared → Prop} {s : Shared} {k : Nat} {a r : Int} {t u : Tok} {Q : Value → Shared → Prop} (ha : SBd k a) (h0 : 0 ≤ r) (h1 : r < 3) (hk : k ≤ 100000)
    (h : ∀ z, (z = a ∨ z = -a) → SBd k z → Q (.int z s.toks) { s with toks := s.toks + 1 }) : wpAny (model prog w) A (binaryOp .Mult (.int a t) (.int (([1, 1, -1] : List Int).getD r.toNat 0) u)) Q E s := by
  have hs := sgn_menu h0 h1
  have e : a * ([1, 1, -1] : List Int).getD r.toNat 0 = a ∨ a * ([1, 1, -1] : List Int).getD r.toNat 0 = -a := by
    rcases hs with e | e <;> rw [e]
    · left; omega
    · right; omega
  refine mul_int (h _ e ?_) (mulOk (l := 30) ha (.lit (by rcases hs with e | e <;> rw [e] <;> decide)) (by omega))
  rcases e with e | e <;> rw [e]
  · exact ha
  · exact ha.neg
theorem pick2 {a b r : Int} (ha : Bd 300 a) (b0 : 0 ≤ b) (b1 : b < 30) (h0 : 0 ≤ r) (h1 : r < 2) : 1 ≤ ([1 + a, 1 + b] : List Int).getD r.toNat 0 ∧ SBd 331 (([1 + a, 1 + b] : List Int).getD r.toNat 0) := by
  have ha0 := ha.1
  have e : r = 0 ∨ r = 1 := by omega
  rcases e with rfl | rfl
  · exact ⟨by show 1 ≤ 1 + a; omega, by show SBd 331 (1 + a); exact (SBd.lit (x := 1) (by decide)).add ha.sbd⟩
  · exact ⟨by show 1 ≤ 1 + b; omega, by show SBd 331 (1 + b); exact (SBd.lit (x := 1 + b) (by omega)).mono (by decide)⟩

theorem bytes_of_least2 {x r : Int} (h0 : 1 ≤ r) (h1 : (if x < 0 then -x else x) < 256 ^ r.toNat) (h2 : ∀ j : Int, 1 ≤ j → j < r → 256 ^ j.toNat ≤ (if x < 0 then -x else x)) :
    (x = 0 → r = 1) ∧ (x ≠ 0 → (Int.fmod (Builtin.Int.intBits x : Int) 8 ≠ 0 → Int.fdiv (Builtin.Int.intBits x : Int) 8 + 1 = r) ∧ (Int.fmod (Builtin.Int.intBits x : Int) 8 = 0 → Int.fdiv (Builtin.Int.intBits x : Int) 8 = r)) := by
  obtain ⟨q1, q2⟩ := bytes_of_least h0 h1 h2
  constructor
  · intro hx
    subst hx
    have : Builtin.Int.intBits 0 = 0 := rfl
    omega
  · intro hx
    have hb := (bits_lo hx).1
    rw [Int.fmod_eq_emod_of_nonneg _ (by decide), Int.fdiv_eq_ediv_of_nonneg _ (by decide)]
    omega

theorem SBd.log2 {k : Nat} {x : Int} (h : SBd k x) (hx : x ≠ 0) (hk : k ≤ 9000) : x.natAbs.log2 < 9000 := by
  have h1 := h.mono hk
  exact (Nat.log2_lt (by omega)).mpr h1
/-- the quotient, rounded up -/
def cdiv (a b : Int) : Int := if Int.fmod a b = 0 then Int.fdiv a b else Int.fdiv a b + 1
theorem cdiv_of_ne {a b : Int} (h : Int.fmod a b ≠ 0) : Int.fdiv a b + 1 = cdiv a b := by unfold cdiv; rw [if_neg h]
theorem cdiv_of_eq {a b : Int} (h : Int.fmod a b = 0) : Int.fdiv a b = cdiv a b := by unfold cdiv; rw [if_pos h]
/-- the least count of octets, 1 at least -/
def bsz (x : Int) : Int := if x = 0 then 1 else cdiv (Builtin.Int.intBits x : Int) 8
theorem bsz_zero {x : Int} (h : x = 0) : 1 = bsz x := by unfold bsz; rw [if_pos h]
theorem bsz_ne {x : Int} (h : x ≠ 0) : cdiv (Builtin.Int.intBits x : Int) 8 = bsz x := by unfold bsz; rw [if_neg h]
theorem bsz_of_least {x r : Int} (h0 : 1 ≤ r) (h1 : (if x < 0 then -x else x) < 256 ^ r.toNat) (h2 : ∀ j : Int, 1 ≤ j → j < r → 256 ^ j.toNat ≤ (if x < 0 then -x else x)) : r = bsz x := by
  obtain ⟨q1, q2⟩ := bytes_of_least2 h0 h1 h2
  unfold bsz cdiv
  split
  · exact q1 (by assumption)
  · obtain ⟨a, b⟩ := q2 (by assumption)
    split
    · exact (b (by assumption)).symm
    · exact (a (by assumption)).symm
theorem cdiv_spec {a b : Int} (hb : 0 < b) : (cdiv a b - 1) * b < a ∧ a ≤ cdiv a b * b := by
  have h1 := Int.fmod_add_mul_fdiv a b
  have h2 := Int.fmod_nonneg_of_pos a hb
  have h3 := Int.fmod_lt_of_pos a hb
  have h4 : b * Int.fdiv a b = Int.fdiv a b * b := Int.mul_comm ..
  unfold cdiv
  split
  · rw [Int.sub_mul]; omega
  · rw [Int.sub_mul, Int.add_mul]; omega

theorem mul_sgn2 {prog : Program} {w : World} {A : Around} {E : Value → Shared → Prop} {s : Shared} {a b q r : Int} {t u : Tok} {Q : Value → Shared → Prop} (ha : Bd 300 a) (b0 : 0 ≤ b) (b1 : b < 30) (q0 : 0 ≤ q) (q1 : q < 2) (h0 : 0 ≤ r) (h1 : r < 3)
    (h : ∀ z, z ≠ 0 → SBd 331 z → Q (.int z s.toks) { s with toks := s.toks + 1 }) : wpAny (model prog w) A (binaryOp .Mult (.int (([1 + a, 1 + b] : List Int).getD q.toNat 0) t) (.int (([1, 1, -1] : List Int).getD r.toNat 0) u)) Q E s := by
  obtain ⟨p1, p2⟩ := pick2 ha b0 b1 q0 q1
  refine mul_sgn p2 h0 h1 (by decide) fun z hz hs => h z ?_ hs
  rcases hz with rfl | rfl <;> omega

theorem fdiv_amount (a : Int) {b : Int} (hb : b ≠ 0) : (a.fdiv b).natAbs ≤ a.natAbs + 2 := by
  obtain ⟨_, h1, h2, h3⟩ := fdiv_fmod_facts a b
  refine Classical.byContradiction fun hc => ?_
  have e : (b * a.fdiv b).natAbs = b.natAbs * (a.fdiv b).natAbs := Int.natAbs_mul ..
  have h5 : b.natAbs * (a.natAbs + 2) ≤ b.natAbs * (a.fdiv b).natAbs := Nat.mul_le_mul_left _ (by omega)
  have h6 : 1 * a.natAbs ≤ b.natAbs * a.natAbs := Nat.mul_le_mul_right _ (by omega)
  rw [Nat.mul_add] at h5
  have h7 : (a.fmod b).natAbs < b.natAbs := by
    rcases Int.lt_or_gt_of_ne hb with h | h
    · have := h3 h; omega
    · have := h2 h; omega
  omega
theorem cdiv_facts {k : Nat} {a b r : Int} (hr : r = cdiv a b) (ha : SBd k a) (hb : b ≠ 0) :
    SBd (k + 2) r ∧ (0 < b → (r - 1) * b < a ∧ a ≤ r * b) ∧ (b < 0 → (r - 1) * (0 - b) < 0 - a ∧ 0 - a ≤ r * (0 - b)) := by
  subst hr
  refine ⟨?_, fun h => cdiv_spec h, fun h => ?_⟩
  · have h1 := fdiv_amount a hb
    have h2 : (cdiv a b).natAbs ≤ a.natAbs + 3 := by unfold cdiv; split <;> omega
    unfold SBd at *
    rw [Nat.pow_add]
    omega
  · obtain ⟨h1, h0, _, h3⟩ := fdiv_fmod_facts a b
    obtain ⟨h4, h5⟩ := h3 h
    have e1 : a.fdiv b * (0 - b) = - (a.fdiv b * b) := by rw [Int.mul_sub]; omega
    unfold cdiv
    split
    · rw [Int.sub_mul, e1]; omega
    · rw [Int.sub_mul, Int.add_mul, e1]; omega

theorem divmod_zero {prog : Program} {w : World} {A : Around} {E : Value → Shared → Prop} {s : Shared} {a : Int} {t u : Tok} {Q : Value → Shared → Prop} (hA : A.handled = none)
    (h : ∀ h' tk e, Heap.NewExc s.heap h' e "ZeroDivisionError" → E (.ref e) { s with heap := h', toks := tk }) :
    wpAny (model prog w) A (call (.builtin "divmod") [.int a t, .int 0 u]) Q E s := by
  refine Calls.call_function_entry kind_divmodT plain_divmodT entry_divmodT (args_divmod2 _ _) ?_
  unfold Builtin.«divmod»
  refine wpAny_bind (m := someArgs "divmod" 2 2 _) (wpAny_pure ?_)
  show wpAny _ _ (do ret (← Builtin.Builtins.binaryNamed "divmod()" "divmod" (.int a t) (.int 0 u))) _ _ s
  refine wpAny_bind (binaryNamed_same (nm := "divmod") (T := "int") (id := "int.__divmod__") (typeIs_int s a t) (typeIs_int s 0 u) fills_int_divmod slot_int_divmod ?_)
  refine wpAny_call_entry slot_int_divmod (typeIs_int s a t) entry_int_divmod ?_ (args_int_divmod _ _)
  show wpAny _ _ (do
    if (0 : Int) == 0 then rule "int.divmod.zero"; raiseError "ZeroDivisionError" "integer division or modulo by zero"
    Builtin.roomForPylong a 0
    ret (← newTuple [← mkInt (a.fdiv 0), ← mkInt (a.fmod 0)])) _ _ s
  obtain ⟨hp, g, d, tk, os⟩ := s
  refine wpAny_bind (wpAny_rule ?_)
  refine wpAny_bind ?_
  exact_raiseError plainExc_ZeroDivisionError hA h

theorem fdiv_sbd {k : Nat} {a b : Int} (ha : SBd k a) (hb : b ≠ 0) : SBd (k + 2) (a.fdiv b) := by
  have h1 := fdiv_amount a hb
  unfold SBd at *
  rw [Nat.pow_add]
  have : 0 < 2 ^ k := Nat.two_pow_pos k
  omega

/-! ### what a contract is told -/
/-- the state of a script: the place, the cells -/
structure WF (i : Int) (ns : List Int) : Prop where
  i0 : 0 ≤ i
  ne : 0 < ns.length
  le : ns.length ≤ 63
  nn : ∀ n ∈ ns, 0 ≤ n

/-- the cells under the state's list are ints, as WF says -/
def SW (i : Int) (vs : List Value) : Prop := ∃ ns, IntsAre vs ns ∧ WF i ns

/-- a contract of a def that turns the script's state alone -/
abbrev StC (prog : Program) (w : World) (K : Frag) (p : Program) (loose : List Str) (mean : ExcName → Option Value) (mg mb : Str → Option Value) (fa : Addr) (args : Addr → List Value) (bd : Nat) (Post : Value → Prop) : Prop :=
  ∀ (dp un : Nat) (gd : Option (List Code)) (cn : Str) (cs : Scope) (a : Addr) (ccd : Value) (cl : List (Str × Addr)) (outer : List Env) (A₀ : Around) (base h₀ : Heap) (L : Addr) (m : Str → Option Value) (s : Shared) (Q E : Value → Shared → Prop)
    (st c : Addr) (i : Int) (ti : Tok) (vs : List Value) (n1 n2 : Nat) (rest : List (Addr × Obj)),
    Below A₀ base outer h₀ → Fr h₀ L s.heap m → K.In h₀ → News h₀ L s.heap ((st, listOf #[.int i ti, .ref c] n1) :: (c, listOf vs.toArray n2) :: rest) → Top p loose mean mg mb h₀ → cs.kind = .function →
    @Ne Nat st c → OwnOff rest [st, c] → SW i vs → dp + bd < recursionLimit → un + 10 * bd < cLine →
    (∀ v i' ti' vs' n1' n2' h' tk', SW i' vs' → Post v → Fr h₀ L h' m → News h₀ L h' ((st, listOf #[.int i' ti', .ref c] n1') :: (c, listOf vs'.toArray n2') :: rest) → Q v { s with heap := h', toks := tk' }) →
    wpAny (model prog w) (ktrTop dp un gd cn cs L a ccd cl outer) (call (.ref fa) (args st)) Q E s

/-- a contract of a def that turns nothing; what it makes stands ahead -/
abbrev PuC (prog : Program) (w : World) (K : Frag) (p : Program) (loose : List Str) (mean : ExcName → Option Value) (mg mb : Str → Option Value) (fa : Addr) (args : List Value) (bd : Nat) (Pre : Heap → List (Addr × Obj) → Prop) (Post : Value → List (Addr × Obj) → Prop) : Prop :=
  ∀ (dp un : Nat) (gd : Option (List Code)) (cn : Str) (cs : Scope) (a : Addr) (ccd : Value) (cl : List (Str × Addr)) (outer : List Env) (A₀ : Around) (base h₀ : Heap) (L : Addr) (m : Str → Option Value) (s : Shared) (Q E : Value → Shared → Prop)
    (news : List (Addr × Obj)),
    Below A₀ base outer h₀ → Fr h₀ L s.heap m → K.In h₀ → News h₀ L s.heap news → Top p loose mean mg mb h₀ → cs.kind = .function →
    Pre base news → dp + bd < recursionLimit → un + 10 * bd < cLine →
    (∀ v tl h' tk', Post v tl → (∀ q ∈ tl, ∀ p ∈ news, p.1 < q.1) → Fr h₀ L h' m → News h₀ L h' (tl ++ news) → Q v { s with heap := h', toks := tk' }) →
    wpAny (model prog w) (ktrTop dp un gd cn cs L a ccd cl outer) (call (.ref fa) args) Q E s

/-- a contract of a def that catches, called by the law itself -/
abbrev TrC (prog : Program) (w : World) (K : Frag) (p : Program) (loose : List Str) (mean : ExcName → Option Value) (mg mb : Str → Option Value) (fa : Addr) (args : List Value) (bd : Nat) (Pre : Heap → List (Addr × Obj) → Prop) (Post : Value → List (Addr × Obj) → Prop) : Prop :=
  ∀ (dp un : Nat) (gd : Option (List Code)) (cn : Str) (cs : Scope) (a : Addr) (ccd : Value) (A₀ : Around) (base h₀ : Heap) (L : Addr) (m : Str → Option Value) (s : Shared) (Q E : Value → Shared → Prop)
    (news : List (Addr × Obj)),
    Below A₀ base [] h₀ → Fr h₀ L s.heap m → K.In h₀ → News h₀ L s.heap news → Top p loose mean mg mb h₀ → cs.kind = .function →
    K.In base → Top p loose mean mg mb base → Pre base news → dp + bd < recursionLimit → un + 10 * bd < cLine →
    (∀ v tl h' tk', Post v tl → (∀ q ∈ tl, ∀ p ∈ news, p.1 < q.1) → Fr h₀ L h' m → News h₀ L h' (tl ++ news) → Q v { s with heap := h', toks := tk' }) →
    wpAny (model prog w) (ktrTop dp un gd cn cs L a ccd [] []) (call (.ref fa) args) Q E s

theorem updF_mem {d : Addr} {o o' : Obj} : ∀ {l : List (Addr × Obj)} {g : Obj → List (Addr × Obj)}, UpdF d o l g → ∀ p ∈ g o', p = (d, o') ∨ (p ∈ l ∧ p.1 ≠ d)
  | _, _, .head h, p, hp => by
    rcases List.mem_cons.mp hp with rfl | hp
    · exact .inl rfl
    · exact .inr ⟨List.mem_cons_of_mem _ hp, h p hp⟩
  | _, _, .tail h r, p, hp => by
    rcases List.mem_cons.mp hp with rfl | hp
    · exact .inr ⟨List.mem_cons_self, h⟩
    · rcases updF_mem r p hp with e | e
      · exact .inl e
      · exact .inr ⟨List.mem_cons_of_mem _ e.1, e.2⟩
theorem updF_here {d : Addr} {o o' : Obj} : ∀ {l : List (Addr × Obj)} {g : Obj → List (Addr × Obj)}, UpdF d o l g → (d, o) ∈ l ∧ (d, o') ∈ g o'
  | _, _, .head _ => ⟨List.mem_cons_self, List.mem_cons_self⟩
  | _, _, .tail _ r => ⟨List.mem_cons_of_mem _ (updF_here (o' := o') r).1, List.mem_cons_of_mem _ (updF_here r).2⟩
theorem updF_keeps {d : Addr} {o o' : Obj} : ∀ {l : List (Addr × Obj)} {g : Obj → List (Addr × Obj)}, UpdF d o l g → ∀ p ∈ l, p.1 ≠ d → p ∈ g o'
  | _, _, .head _, p, hp, hd => by
    rcases List.mem_cons.mp hp with rfl | hp
    · exact absurd rfl hd
    · exact List.mem_cons_of_mem _ hp
  | _, _, .tail _ r, p, hp, hd => by
    rcases List.mem_cons.mp hp with rfl | hp
    · exact List.mem_cons_self
    · exact List.mem_cons_of_mem _ (updF_keeps r p hp hd)

theorem two_canon {news : List (Addr × Obj)} {g1 : Obj → List (Addr × Obj)} {g2 : Obj → Obj → List (Addr × Obj)} {st c : Addr} {o1 o2 : Obj} (U1 : UpdF st o1 news g1) (U2 : ∀ o, UpdF c o2 (g1 o) (g2 o)) :
    ∃ rest, @Ne Nat st c ∧ OwnOff rest [st, c] ∧ (∀ p ∈ (st, o1) :: (c, o2) :: rest, p ∈ news) ∧ ∀ o1' o2', ∀ p ∈ g2 o1' o2', p ∈ (st, o1') :: (c, o2') :: rest := by
  have hsc : @Ne Nat st c := by
    obtain ⟨pre, post, e, _, a, b⟩ := (U2 o1).split
    have h1 : (st, o1) ∈ g1 o1 := (updF_here U1).2
    have hne : o1 ≠ o2 ∨ True := .inr trivial
    intro hsc
    have h3 := (updF_here (o' := o1) U1).2
    have h2 : (c, o2) ∈ g1 o1 := (updF_here (o' := o2) (U2 o1)).1
    -- use an object that parts the two
    let oX : Obj := { cls := .type "x", data := .plain, dict := none, slots := #[] }
    let oY : Obj := { cls := .type "y", data := .plain, dict := none, slots := #[] }
    have key : ∀ o, o = o2 := by
      intro o
      have h4 : (st, o) ∈ g1 o := (updF_here (o' := o) U1).2
      obtain ⟨pre, post, e, _, a, b⟩ := (U2 o).split
      rw [e] at h4
      rcases List.mem_append.mp h4 with h5 | h5
      · exact absurd hsc (a _ h5)
      · rcases List.mem_cons.mp h5 with h6 | h6
        · exact congrArg Prod.snd h6
        · exact absurd hsc (b _ h6)
    have hx : oX = oY := (key oX).trans (key oY).symm
    have := congrArg Obj.cls hx
    simp [oX, oY] at this
  refine ⟨news.filter (fun p => decide (p.1 ≠ st) && decide (p.1 ≠ c)), hsc, ?_, ?_, ?_⟩
  · intro p hp b hb
    have h := (List.mem_filter.mp hp).2
    simp only [Bool.and_eq_true, decide_eq_true_eq] at h
    rcases List.mem_cons.mp hb with rfl | hb
    · exact h.1
    · rcases List.mem_cons.mp hb with rfl | hb
      · exact h.2
      · cases hb
  · intro p hp
    rcases List.mem_cons.mp hp with rfl | hp
    · exact (updF_here (o' := o1) U1).1
    · rcases List.mem_cons.mp hp with rfl | hp
      · have h2 : (c, o2) ∈ g1 o1 := (updF_here (o' := o2) (U2 o1)).1
        rcases updF_mem U1 _ h2 with h | h
        · exact absurd (congrArg Prod.fst h).symm hsc
        · exact h.1
      · exact (List.mem_filter.mp hp).1
  · intro o1' o2' p hp
    rcases updF_mem (U2 o1') p hp with h | ⟨h, hc⟩
    · exact h ▸ List.mem_cons_of_mem _ List.mem_cons_self
    · rcases updF_mem U1 p h with h | ⟨h, hs⟩
      · exact h ▸ List.mem_cons_self
      · exact List.mem_cons_of_mem _ (List.mem_cons_of_mem _ (List.mem_filter.mpr ⟨h, by simp [hs, hc]⟩))

section
variable {prog : Program} {w : World} {K : Frag} {p : Program} {loose : List Str} {mean : ExcName → Option Value} {mg mb : Str → Option Value} {fa : Addr}
  {dp un : Nat} {gd : Option (List Code)} {cn : Str} {cs : Scope} {a : Addr} {ccd : Value} {cl : List (Str × Addr)} {outer : List Env} {A₀ : Around} {base h₀ : Heap} {L : Addr} {m : Str → Option Value} {s : Shared} {Q E : Value → Shared → Prop}

theorem StC.use {args : Addr → List Value} {bd : Nat} {Post : Value → Prop} {st c : Addr} {i : Int} {ti : Tok} {vs : List Value} {n1 n2 : Nat} {news : List (Addr × Obj)} {g1 : Obj → List (Addr × Obj)} {g2 : Obj → Obj → List (Addr × Obj)}
    (H : StC prog w K p loose mean mg mb fa args bd Post)
    (B : Below A₀ base outer h₀) (F : Fr h₀ L s.heap m) (X : K.In h₀) (N : News h₀ L s.heap news) (T : Top p loose mean mg mb h₀) (hk : cs.kind = .function)
    (U1 : UpdF st (listOf #[.int i ti, .ref c] n1) news g1) (U2 : ∀ o, UpdF c (listOf vs.toArray n2) (g1 o) (g2 o)) (hw : SW i vs) (hd : dp + bd < recursionLimit) (hu : un + 10 * bd < cLine)
    (ret : ∀ v i' ti' vs' n1' n2' h' tk', SW i' vs' → Post v → Fr h₀ L h' m → News h₀ L h' (g2 (listOf #[.int i' ti', .ref c] n1') (listOf vs'.toArray n2')) → Q v { s with heap := h', toks := tk' }) :
    wpAny (model prog w) (ktrTop dp un gd cn cs L a ccd cl outer) (call (.ref fa) (args st)) Q E s := by
  obtain ⟨rest, hsc, hoff, h1, h2⟩ := two_canon U1 U2
  exact H dp un gd cn cs a ccd cl outer A₀ base h₀ L m s Q E st c i ti vs n1 n2 rest B F X (fun p hp => N p (h1 p hp)) T hk hsc hoff hw hd hu
    fun v i' ti' vs' n1' n2' h' tk' a1 a2 a3 a4 => ret v i' ti' vs' n1' n2' h' tk' a1 a2 a3 fun p hp => a4 p (h2 _ _ p hp)

theorem PuC.use {args : List Value} {bd : Nat} {Pre : Heap → List (Addr × Obj) → Prop} {Post : Value → List (Addr × Obj) → Prop} {news : List (Addr × Obj)}
    (H : PuC prog w K p loose mean mg mb fa args bd Pre Post)
    (B : Below A₀ base outer h₀) (F : Fr h₀ L s.heap m) (X : K.In h₀) (N : News h₀ L s.heap news) (T : Top p loose mean mg mb h₀) (hk : cs.kind = .function) (hp : Pre base news) (hd : dp + bd < recursionLimit) (hu : un + 10 * bd < cLine)
    (ret : ∀ v tl h' tk', Post v tl → (∀ q ∈ tl, ∀ p ∈ news, p.1 < q.1) → Fr h₀ L h' m → News h₀ L h' (tl ++ news) → Q v { s with heap := h', toks := tk' }) :
    wpAny (model prog w) (ktrTop dp un gd cn cs L a ccd cl outer) (call (.ref fa) args) Q E s :=
  H dp un gd cn cs a ccd cl outer A₀ base h₀ L m s Q E news B F X N T hk hp hd hu ret
end

section
variable {prog : Program} {w : World} {K : Frag} {p : Program} {loose : List Str} {mean : ExcName → Option Value} {mg mb : Str → Option Value} {fa : Addr}
  {dp un : Nat} {gd : Option (List Code)} {cn : Str} {cs : Scope} {a : Addr} {ccd : Value} {A₀ : Around} {base h₀ : Heap} {L : Addr} {m : Str → Option Value} {s : Shared} {Q E : Value → Shared → Prop}
theorem TrC.use {args : List Value} {bd : Nat} {Pre : Heap → List (Addr × Obj) → Prop} {Post : Value → List (Addr × Obj) → Prop} {news : List (Addr × Obj)}
    (H : TrC prog w K p loose mean mg mb fa args bd Pre Post)
    (B : Below A₀ base [] h₀) (F : Fr h₀ L s.heap m) (X : K.In h₀) (N : News h₀ L s.heap news) (T : Top p loose mean mg mb h₀) (hk : cs.kind = .function) (XB : K.In base) (TB : Top p loose mean mg mb base) (hp : Pre base news) (hd : dp + bd < recursionLimit) (hu : un + 10 * bd < cLine)
    (ret : ∀ v tl h' tk', Post v tl → (∀ q ∈ tl, ∀ p ∈ news, p.1 < q.1) → Fr h₀ L h' m → News h₀ L h' (tl ++ news) → Q v { s with heap := h', toks := tk' }) :
    wpAny (model prog w) (ktrTop dp un gd cn cs L a ccd [] []) (call (.ref fa) args) Q E s :=
  H dp un gd cn cs a ccd A₀ base h₀ L m s Q E news B F X N T hk XB TB hp hd hu ret
end

/-! ### a place where the walk halts for a line of my own -/
def Stop (P : Prop) : Prop := P
theorem Stop.here {P : Prop} (h : Stop P) : P := h
theorem Stop.go {P : Prop} (h : P) : Stop P := h
structure LoopStop : Prop where

theorem off2 {st c I : Addr} {o1 o2 : Obj} {rest : List (Addr × Obj)} (h : ∀ p ∈ (st, o1) :: (c, o2) :: rest, p.1 ≠ I) : @Ne Nat st I ∧ @Ne Nat c I ∧ ∀ p ∈ rest, p.1 ≠ I :=
  ⟨h _ List.mem_cons_self, h _ (List.mem_cons_of_mem _ List.mem_cons_self), fun p hp => h p (List.mem_cons_of_mem _ (List.mem_cons_of_mem _ hp))⟩

/-! ### loops -/
section
variable {prog : Program} {w : World} {A : Around} {E : Value → Shared → Prop} {s : Shared} {env : Env} {h₀ : Heap} {x : Str} {body : List Stmt} {Q : Flow → Shared → Prop}

/-- what stands behind a turn -/
def JEnd {σ : Type} (h₀ : Heap) (L : Addr) (s : Shared) (x : Str) (Led : σ → List (Addr × Obj)) (ps : σ → List (Str × Value)) (stored : List Str) (m₀ : Str → Option Value) (P : σ → Prop) (I : Addr) (oI : Obj) (s₂ : Shared) : Prop :=
  ∃ (c' : σ) (h' : Heap) (tk : Nat) (m' : Str → Option Value) (news' : List (Addr × Obj)), s₂ = { s with heap := h', toks := tk } ∧ Fr h₀ L h' m' ∧ News h₀ L h' news' ∧ (∀ p ∈ Led c', p ∈ news') ∧ (I, oI) ∈ news' ∧ (∀ p ∈ Led c', p.1 ≠ I) ∧
    (∀ p ∈ ps c', m' p.1 = some p.2) ∧ (∀ z, z ≠ x → (∀ p ∈ ps c', z ≠ p.1) → stored.contains z = false → m' z = m₀ z) ∧ P c'
def JPost {σ : Type} (h₀ : Heap) (L : Addr) (s : Shared) (x : Str) (Led : σ → List (Addr × Obj)) (ps : σ → List (Str × Value)) (stored : List Str) (m₀ : Str → Option Value) (P : σ → Prop) (I : Addr) (oI : Obj) (Q : Flow → Shared → Prop) (f : Flow) (s₂ : Shared) : Prop :=
  match f with
  | .ret v => Q (.ret v) s₂
  | .brk => Q .next s₂
  | _ => JEnd h₀ L s x Led ps stored m₀ P I oI s₂
theorem jend {σ : Type} {L : Addr} {Led : σ → List (Addr × Obj)} {ps : σ → List (Str × Value)} {stored : List Str} {m₀ m' : Str → Option Value} {P : σ → Prop} {I : Addr} {oI : Obj} {h' : Heap} {tk : Nat} {news' : List (Addr × Obj)} (c' : σ)
    (F : Fr h₀ L h' m') (N : News h₀ L h' news') (hn : ∀ p ∈ Led c', p ∈ news') (hi : (I, oI) ∈ news') (ha : ∀ p ∈ Led c', p.1 ≠ I) (hk : ∀ p ∈ ps c', m' p.1 = some p.2) (hr : ∀ z, z ≠ x → (∀ p ∈ ps c', z ≠ p.1) → stored.contains z = false → m' z = m₀ z) (hp : P c') :
    JEnd h₀ L s x Led ps stored m₀ P I oI { s with heap := h', toks := tk } := ⟨c', h', tk, m', news', rfl, F, N, hn, hi, ha, hk, hr, hp⟩

theorem j_range {σ : Type} {r : Addr} {a₀ b₀ : Int} {t₀ u₀ v₀ : Tok} {n : Nat} {m₀ : Str → Option Value} (Led : σ → List (Addr × Obj)) (ps : σ → List (Str × Value)) (stored : List Str) (P : Nat → σ → Prop) (c₀ : σ)
    (hh : A.handled = none) (hr : IsRange s.heap r a₀ b₀ 1 t₀ u₀ v₀) (hsmall : Builtin.Range.small a₀ b₀ 1 = true) (hn : Builtin.Range.rangeSize a₀ b₀ 1 = (n : Int)) (F : Fr h₀ env.locals s.heap m₀) (N : News h₀ env.locals s.heap (Led c₀)) (hk : ∀ p ∈ ps c₀, m₀ p.1 = some p.2) (hp : P 0 c₀)
    (turn : ∀ (c : σ) (i : Nat) (k : Int) t (u : Str → Option Value) h tk I oI, k = a₀ + (i : Int) → i < n → P i c → (∀ p ∈ Led c, p.1 ≠ I) →
      Fr h₀ env.locals h (fun y => if y = x then some (.int k t) else kstB (fun z => if stored.contains z then u z else m₀ z) (ps c) y) → News h₀ env.locals h ((I, oI) :: Led c) →
      wpAny (model prog w) A (execs body env) (JPost h₀ env.locals s x Led ps stored m₀ (P (i + 1)) I oI Q) E { s with heap := h, toks := tk })
    (done : ∀ (c : σ) (u : Str → Option Value) h tk, P n c → Fr h₀ env.locals h (fun y => if y = x then u y else kstB (fun z => if stored.contains z then u z else m₀ z) (ps c) y) → News h₀ env.locals h (Led c) → Q .next { s with heap := h, toks := tk }) :
    wpAny (model prog w) A (pyIter (.ref r)) (fun it s₂ => LoopAtV prog w A h₀ env x body Q E it s₂) E s := by
  refine wpAny_pyIter_range hr hsmall ?_
  have W : Walks prog w A s.heap.objs.size [s.heap.objs.size] [s.heap.objs.size] n (fun i v => i < n ∧ ∃ t, v = .int (a₀ + i * 1) t)
      (fun i h => IsRangeIter h s.heap.objs.size (a₀ + (i : Nat) * 1) ((n : Int) - (i : Nat)) 1) := (Walks.range hh _ a₀ 1 n).bound
  let J : Nat → (Str → Option Value) → List (Addr × Obj) → Prop := fun i m nx => ∃ c : σ, nx = Led c ∧ (∀ p ∈ ps c, m p.1 = some p.2) ∧ (∀ z, z ≠ x → (∀ p ∈ ps c, z ≠ p.1) → stored.contains z = false → m z = m₀ z) ∧ P i c
  refine ⟨_, _, _, n, _, _, m₀, Led c₀, J, rfl, W, ?_, ?_, ?_, (by show IsRangeIter _ _ _ _ _; rw [hn]; simpa using Heap.get?_push_size _ rfl), F.push _, (fun p hp => ⟨Heap.get?_push_of_some _ (N p hp).1, (N p hp).2⟩), ⟨c₀, rfl, hk, fun _ _ _ _ => rfl, hp⟩, ?_, ?_⟩
  · intro hm
    exact absurd F.ns.lt ((List.mem_singleton.mp hm) ▸ Nat.lt_irrefl _)
  · intro b hb
    rw [List.mem_singleton.mp hb]
    exact next_is_new F
  · intro p hp hI
    exact absurd (Heap.lt_size (N p hp).1) ((List.mem_singleton.mp hI) ▸ Nat.lt_irrefl _)
  · rintro i v m₁ news₁ s₁ own ⟨hh', tk', rfl⟩ hin ⟨_, t, rfl⟩ ⟨c, rfl, h1, h2, hP⟩ hoff hown hget hfp hst F₁ N₁
    have hI0 : h₀.get? s.heap.objs.size = none := next_is_new F
    obtain ⟨oI, hoI⟩ : ∃ o, hh'.get? s.heap.objs.size = some o := ⟨_, hst⟩
    have hIown := hfp _ (List.mem_singleton.mpr rfl) hI0 _ hoI
    have e1 : a₀ + (i : Int) * 1 = a₀ + (i : Int) := by omega
    rw [e1] at F₁
    refine wpAny_mono (turn c i _ t m₁ hh' tk' s.heap.objs.size oI rfl hin hP (fun p hp e => hoff p hp (List.mem_singleton.mpr e)) (kst_fr h1 h2 F₁) (fun p hp => ?_)) (fun f s₂ q => ?_) fun _ _ e => e
    · rcases List.mem_cons.mp hp with rfl | hp
      · exact N₁ _ (List.mem_append.mpr (.inl hIown))
      · exact N₁ _ (List.mem_append.mpr (.inr hp))
    · have fin : JEnd h₀ env.locals s x Led ps stored m₀ (P (i + 1)) s.heap.objs.size oI s₂ → LoopStepU h₀ env.locals [s.heap.objs.size] own (J (i + 1)) { s with heap := hh', toks := tk' } .next s₂ := by
        rintro ⟨c', h', tk, m', news', e, F', N', hn', hi', ha', hk', hr', hp'⟩
        refine ⟨rfl, h', tk, m', Led c', e, F', fun p hp => ?_, fun p hp hq => ha' p hp (List.mem_singleton.mp hq), c', rfl, hk', hr', hp'⟩
        rcases List.mem_append.mp hp with h | h
        · have h1 : p.1 = s.heap.objs.size := List.mem_singleton.mp (hown p h)
          have h2 := hget p h
          have h3 : hh'.get? p.1 = some p.2 := h2
          rw [h1] at h3
          rw [show p = (s.heap.objs.size, oI) from Prod.ext h1 (Option.some.inj (h3.symm.trans hoI))]
          exact N' _ hi'
        · exact N' p (hn' p h)
      cases f with
      | ret v => exact .ret q
      | brk => exact .brk q
      | next => exact .next (fin q)
      | cont => exact .cont (fin q)
  · rintro h' tk m' news' F' N' _ ⟨c, rfl, h1, h2, hP⟩
    exact done c m' h' tk hP (kst_frOut h1 h2 F') N'
end

section
open PySem.Calls
section
variable {prog : Program} {w : World} {A A₀ : Around} {s : Shared} {K : Frag} {L : Addr} {h₀ base : Heap} {m mg mb : Str → Option Value} {news : List (Addr × Obj)} {p : Program} {loose : List Str} {mean : ExcName → Option Value}
/-- the caller's objects stand through a call that turns none of them -/
theorem news_stay {h h' : Heap} {g : Heap} (N : News h₀ L h news) (e : g = h) (k : ∀ b o, g.get? b = some o → h'.get? b = some o) : News h₀ L h' news := by
  subst e
  exact fun q hq => ⟨k _ _ (N q hq).1, (N q hq).2⟩
/-- what stands behind a call: as LeaveK, the caller's objects handed on -/
theorem leaveP {g : Heap} {R : Result → Shared → Prop} {v : Value} {s₀ s' : Shared} (N : News h₀ L s₀.heap news) (e : g = s₀.heap)
    (h : LeaveK h₀ L m g (fun r s' => News h₀ L s'.heap news → R r s') v s') : LeaveK h₀ L m g R v s' := by
  obtain ⟨L', m', news', F', N', k⟩ := h
  exact ⟨L', m', news', F', N', fun a b => k a b (news_stay N e F'.keep)⟩

theorem code_defP {env : Env} {outer : List Env} {R : Result → Shared → Prop} {name qual : Str} {params : Arguments} {body : List Stmt} {scope : Scope} {dV kV doc pm cdv ct oc : Value} {an od : Option Addr} {osl : Array (Option Value)} {f : Addr} {args : Args} {binds : List (Str × Value)}
    (B : Below A₀ base outer h₀) (F : Fr h₀ L s.heap m) (X₀ : K.In h₀) (N : News h₀ L s.heap news) (T : Top p loose mean mg mb h₀) (hA : A.frames = some (env :: outer)) (hf : env.frame = some L) (hke : env.scope.kind = .function)
    (ho : K.lookup f = some ⟨oc, od, .func (fnOf name qual params body scope dV kV doc pm an cdv ct), osl⟩) (hcd : codeIn K cdv qual = true) (hroom : A.depth < recursionLimit)
    (hbind : BindsTo s (fnOf name qual params body scope dV kV doc pm an cdv ct) args binds) (hloc : ∀ y ∈ binds, scope.names.lookup y.1 = some .local)
    (h : ∀ g L' h₁, g = s.heap → (∀ p ∈ news, p.1 < L') → Fr h₀ L g m → Fr g L' h₁ (fun y => binds.reverse.lookup y) → News g L' h₁ [] → Below A base (env :: outer) g → K.In g → Top p loose mean mg mb g →
      wpAny (model prog w) (A.deeper (envOf qual scope L' f cdv)) (execs body (envOf qual scope L' f cdv))
        (fun fl s' => LeaveK h₀ L m g (fun r s' => News h₀ L s'.heap news → R r s') (match fl with | .ret v => v | _ => .none) s')
        (fun e s' => wpAny (model prog w) (A.deeper (envOf qual scope L' f cdv)) (leaving (envOf qual scope L' f cdv) e) (fun _ s'' => R (.error e) s'') (fun e' s'' => R (.error e') s'') s')
        { s with heap := h₁, toks := s.toks + binds.length })
    (hco : scope.isCoroutine = false) (hgen : scope.isGenerator = false) (hk : scope.kind = .function)
    (hcell : ∀ x ∈ scope.names, x.2 ≠ .cell) : codeAny (model prog w) A (.call (.ref f) args) R s := by
  obtain ⟨FG, BG, st, lv⟩ := groundX (R := R) B F (News.nil (h₀ := h₀) (L := L)) hA hf hke
  have X := X₀.keeps F.keep
  refine codeAny_call_def (fd := fnOf name qual params body scope dV kV doc pm an cdv ct) (body := body) (binds := binds) hroom (X _ _ ho) rfl (T.nolimit.keeps F.keep) (codeRec_of X hcd) rfl hbind hcell hloc (fun h₁ hns hk₁ => ?_) hco hgen hk
  exact wpAny_mono (h s.heap s.heap.objs.size h₁ rfl (fun p hp => Heap.lt_size (N p hp).1) FG ⟨hns, fun b o e => hk₁ b o e, Nat.le_refl _⟩ News.nil BG (X₀.keeps st) (T.keeps st))
    (fun fl s' hl => lv _ _ (leaveP N rfl hl)) fun _ _ y => y

theorem code_defCP {env : Env} {outer : List Env} {R : Result → Shared → Prop} {name qual : Str} {params : Arguments} {body : List Stmt} {scope : Scope} {dV kV doc pm cdv ct oc : Value} {an od : Option Addr} {osl : Array (Option Value)} {f : Addr} {args : Args} {binds : List (Str × Value)}
    (B : Below A₀ base outer h₀) (F : Fr h₀ L s.heap m) (X₀ : K.In h₀) (N : News h₀ L s.heap news) (T : Top p loose mean mg mb h₀) (hA : A.frames = some (env :: outer)) (hf : env.frame = some L) (hke : env.scope.kind = .function)
    (ho : K.lookup f = some ⟨oc, od, .func (fnOf name qual params body scope dV kV doc pm an cdv ct), osl⟩) (hcd : codeIn K cdv qual = true) (hroom : A.depth < recursionLimit)
    (hbind : BindsTo s (fnOf name qual params body scope dV kV doc pm an cdv ct) args binds) (hkind : (binds.all fun y => scope.names.lookup y.1 == some .local || scope.names.lookup y.1 == some .cell) = true)
    (hnd : ((cellsFrom 0 scope.names []).map (·.1)).Nodup)
    (h : ∀ g L' h₁ tk cells, g = s.heap → (∀ p ∈ news, p.1 < L') → Fr h₀ L g m → Fr g L' h₁ (bindL (envOfC qual scope L' f cdv).kindOf binds fun _ => none) → News g L' h₁ cells →
      CellsAre (bindC (envOfC qual scope L' f cdv).kindOf binds fun _ => none) (cellsFrom (L' + 1) scope.names []) cells → Below A base (env :: outer) g → K.In g → Top p loose mean mg mb g →
      wpAny (model prog w) (A.deeper (envOfC qual scope L' f cdv)) (execs body (envOfC qual scope L' f cdv))
        (fun fl s' => LeaveK h₀ L m g (fun r s' => News h₀ L s'.heap news → R r s') (match fl with | .ret v => v | _ => .none) s')
        (fun e s' => wpAny (model prog w) (A.deeper (envOfC qual scope L' f cdv)) (leaving (envOfC qual scope L' f cdv) e) (fun _ s'' => R (.error e) s'') (fun e' s'' => R (.error e') s'') s')
        { s with heap := h₁, toks := tk })
    (hco : scope.isCoroutine = false) (hgen : scope.isGenerator = false) (hk : scope.kind = .function) : codeAny (model prog w) A (.call (.ref f) args) R s := by
  obtain ⟨FG, BG, st, lv⟩ := groundX (R := R) B F (News.nil (h₀ := h₀) (L := L)) hA hf hke
  have X := X₀.keeps F.keep
  refine codeAny_call_function (fd := fnX name qual params body scope [] dV kV doc pm an cdv ct) hroom (X _ _ ho) rfl hco hgen rfl (codeRec_of X hcd) (hbind _ _ _ _ ?_)
  refine wpAny_newFunctionEnv_cells hk (kindsX hkind _) fun env' he s' x => ?_
  subst he
  refine ⟨(T.nolimit.keeps F.keep).keeps x.toInCall.keep, codeAny_func ?_⟩
  obtain ⟨h₁, tk, rfl, _⟩ := x.done
  have hk₁ := x.toInCall.keep
  obtain ⟨cells, NC, Y⟩ := Cl.news (h₀ := s.heap) (Nat.le_refl _) fun n c hm => ⟨x.cell n c (lookup_of_mem_nodup (cellsFrom_names scope.names 0 (s.heap.objs.size + 1) [] [] rfl ▸ hnd) hm), x.above n c hm⟩
  exact wpAny_mono (h s.heap s.heap.objs.size h₁ tk cells rfl (fun p hp => Heap.lt_size (N p hp).1) FG ⟨x.toInCall.ns, fun b o e => hk₁ b o e, Nat.le_refl _⟩ NC Y BG (X₀.keeps st) (T.keeps st))
    (fun fl s' hl => lv _ _ (leaveP N rfl hl)) fun _ _ y => y
end

/-- a contract of a def that turns nothing of the caller's; Pre speaks of the heap at the call (and what is newest) -/
abbrev PuP (prog : Program) (w : World) (K : Frag) (p : Program) (loose : List Str) (mean : ExcName → Option Value) (mg mb : Str → Option Value) (fa : Addr) (args : List Value) (bd : Nat) (Pre : Heap → Prop) (Post : Value → List (Addr × Obj) → Prop) : Prop :=
  ∀ (dp un : Nat) (gd : Option (List Code)) (cn : Str) (cs : Scope) (a : Addr) (ccd : Value) (cl : List (Str × Addr)) (outer : List Env) (A₀ : Around) (base h₀ : Heap) (L : Addr) (m : Str → Option Value) (s : Shared) (Q E : Value → Shared → Prop)
    (news : List (Addr × Obj)),
    Below A₀ base outer h₀ → Fr h₀ L s.heap m → K.In h₀ → News h₀ L s.heap news → Top p loose mean mg mb h₀ → cs.kind = .function →
    Pre s.heap → dp + bd < recursionLimit → un + 10 * bd < cLine →
    (∀ v tl h' tk', Post v tl → (∀ q ∈ tl, ∀ p ∈ news, p.1 < q.1) → Fr h₀ L h' m → News h₀ L h' (tl ++ news) → Q v { s with heap := h', toks := tk' }) →
    wpAny (model prog w) (ktrTop dp un gd cn cs L a ccd cl outer) (call (.ref fa) args) Q E s

section
variable {prog : Program} {w : World} {K : Frag} {p : Program} {loose : List Str} {mean : ExcName → Option Value} {mg mb : Str → Option Value} {fa : Addr}
  {dp un : Nat} {gd : Option (List Code)} {cn : Str} {cs : Scope} {a : Addr} {ccd : Value} {cl : List (Str × Addr)} {outer : List Env} {A₀ : Around} {base h₀ : Heap} {L : Addr} {m : Str → Option Value} {s : Shared} {Q E : Value → Shared → Prop}
theorem PuP.use {args : List Value} {bd : Nat} {Pre : Heap → Prop} {Post : Value → List (Addr × Obj) → Prop} {news : List (Addr × Obj)}
    (H : PuP prog w K p loose mean mg mb fa args bd Pre Post)
    (B : Below A₀ base outer h₀) (F : Fr h₀ L s.heap m) (X : K.In h₀) (N : News h₀ L s.heap news) (T : Top p loose mean mg mb h₀) (hk : cs.kind = .function) (hp : Pre s.heap) (hd : dp + bd < recursionLimit) (hu : un + 10 * bd < cLine)
    (ret : ∀ v tl h' tk', Post v tl → (∀ q ∈ tl, ∀ p ∈ news, p.1 < q.1) → Fr h₀ L h' m → News h₀ L h' (tl ++ news) → Q v { s with heap := h', toks := tk' }) :
    wpAny (model prog w) (ktrTop dp un gd cn cs L a ccd cl outer) (call (.ref fa) args) Q E s :=
  H dp un gd cn cs a ccd cl outer A₀ base h₀ L m s Q E news B F X N T hk hp hd hu ret
/-- what a contract hands back: its own objects ahead of the caller's -/
theorem news_app {h : Heap} {tl news full : List (Addr × Obj)} (N : News h₀ L h full) (M : News h₀ L h news) (hs : ∀ p ∈ tl, p ∈ full) : News h₀ L h (tl ++ news) := fun q hq => by
  rcases List.mem_append.mp hq with h | h
  · exact N q (hs q h)
  · exact M q h
theorem above_news {L' : Addr} {tl news : List (Addr × Obj)} (h : ∀ p ∈ news, p.1 < L') (k : ∀ q ∈ tl, L' < q.1) : ∀ q ∈ tl, ∀ p ∈ news, p.1 < q.1 := fun q hq p hp => Nat.lt_trans (h p hp) (k q hq)
end
theorem PuP.post {prog : Program} {w : World} {K : Frag} {p : Program} {loose : List Str} {mean : ExcName → Option Value} {mg mb : Str → Option Value} {fa : Addr} {args : List Value} {bd : Nat} {Pre : Heap → Prop} {Post Post' : Value → List (Addr × Obj) → Prop}
    (H : PuP prog w K p loose mean mg mb fa args bd Pre Post) (h : ∀ v tl, Post v tl → Post' v tl) : PuP prog w K p loose mean mg mb fa args bd Pre Post' :=
  fun dp un gd cn cs a ccd cl outer A₀ base h₀ L m s Q E news B F X N T hk hp hd hu ret =>
    H dp un gd cn cs a ccd cl outer A₀ base h₀ L m s Q E news B F X N T hk hp hd hu fun v tl h' tk' q => ret v tl h' tk' (h v tl q)
theorem PuC.post {prog : Program} {w : World} {K : Frag} {p : Program} {loose : List Str} {mean : ExcName → Option Value} {mg mb : Str → Option Value} {fa : Addr} {args : List Value} {bd : Nat} {Pre : Heap → List (Addr × Obj) → Prop} {Post Post' : Value → List (Addr × Obj) → Prop}
    (H : PuC prog w K p loose mean mg mb fa args bd Pre Post) (h : ∀ v tl, Post v tl → Post' v tl) : PuC prog w K p loose mean mg mb fa args bd Pre Post' :=
  fun dp un gd cn cs a ccd cl outer A₀ base h₀ L m s Q E news B F X N T hk hp hd hu ret =>
    H dp un gd cn cs a ccd cl outer A₀ base h₀ L m s Q E news B F X N T hk hp hd hu fun v tl h' tk' q => ret v tl h' tk' (h v tl q)
theorem Bd.lit {x : Int} (h0 : 0 ≤ x) (h1 : x < 1073741824) : Bd 30 x := ⟨h0, h1⟩
theorem Bd.mul {k l : Nat} {x y : Int} (h : Bd k x) (g : Bd l y) : Bd (k + l) (x * y) := by
  refine ⟨Int.mul_nonneg h.1 g.1, ?_⟩
  rw [Int.pow_add]
  have h1 := h.2; have h2 := g.2
  have a := Int.mul_le_mul_of_nonneg_left (Int.le_of_lt h2) h.1
  have b : x * 2 ^ l < 2 ^ k * 2 ^ l := Int.mul_lt_mul_of_pos_right h1 (Int.pow_pos (by decide))
  omega
theorem Bd.add {k l : Nat} {x y : Int} (h : Bd k x) (g : Bd l y) : Bd (k + l + 1) (x + y) := by
  have h1 := h.mono (Nat.le_add_right k l)
  have g1 := g.mono (Nat.le_add_left l k)
  refine ⟨Int.add_nonneg h.1 g.1, ?_⟩
  have a := h1.2; have b := g1.2
  rw [Int.pow_succ]
  omega
theorem mul_bd {prog : Program} {w : World} {A : Around} {E : Value → Shared → Prop} {s : Shared} {k l : Nat} {a b : Int} {t u : Tok} {Q : Value → Shared → Prop} (ha : Bd k a) (hb : Bd l b) (hk : k + l ≤ 1000000)
    (h : ∀ z, z = a * b → Bd (k + l) z → Q (.int z s.toks) { s with toks := s.toks + 1 }) : wpAny (model prog w) A (binaryOp .Mult (.int a t) (.int b u)) Q E s :=
  mul_int (h _ rfl (ha.mul hb)) (mulOk ha.sbd hb.sbd hk)
end

set_option maxRecDepth 100000 in
set_option maxHeartbeats 8000000 in
open_top hd for PySem.Challenge.rw_ys0002_01

section
set_option maxRecDepth 100000 in
set_option maxHeartbeats 8000000 in
theorem take_c {prog : Program} {w : World} {p : Program} {loose mean mg mb} {most : Int} {tm : Tok} (hm : 1 ≤ most) (hm2 : most < 2 ^ 30) :
    StC prog w (hd.heap_39 w.params) p loose mean mg mb 40 (fun st => [.ref st, .int most tm]) 10 (fun v => ∃ r t, v = .int r t ∧ 0 ≤ r ∧ r < most) := by
  intro dp un gd cn cs a ccd cl outer A₀ base h₀ L m s Q E st c i ti vs n1 n2 rest B F X N T hk hne hoff hw hd hu ret
  obtain ⟨ns, hI, ⟨hi0, hn0, hn1, hnn⟩⟩ := hw
  refine wpAny_call ?_
  k_dflt cell_enter
  k_steps
  all_goals ((rename Fr h₀ L _ m => kF); (rename News h₀ L _ _ => kN); (exact ret _ _ _ _ _ _ _ _ ⟨_, by with_reducible assumption, by first | exact ⟨by omega, hn0, hn1, hnn⟩ | exact ⟨hi0, by simpa using hn0, by simpa using hn1, set_nn hnn (fdiv_nn (getD_nn hnn _) hm) _⟩⟩ ⟨_, _, rfl, fmod_lo hm, fmod_hi hm⟩ kF kN))
local macro_rules | `(tactic| walk_at "call ref") => `(tactic| (k_here; (with_reducible show wpAny _ _ (call (Value.ref 40) _) _ _ _); k_dflt (refine' StC.use (take_c ?m1 ?m2) ?B ?F ?X ?N ?T ?k ?U1 ?U2 ?W ?d ?u ?_; (case B => k_asm); (case F => k_asm); (case X => k_asm); (case N => k_asm); (case T => k_asm); (case k => first | exact rfl | assumption); (case U1 => k_updF); (case U2 => intro o; (try dsimp only); k_updF); (case W => with_reducible assumption); (case m1 => omega); (case m2 => omega); (case d => ktr_room); (case u => ktr_units); k_whole; (rintro v i' ti' vs' n1' n2' h' tk' hW' ⟨r, t, hv, r0, r1⟩ F' N'); subst hv; (try dsimp only at N'); (try k_sweep))))
local macro_rules | `(tactic| walk_at "pyIter ref") => `(tactic| ((rename LoopStop => hLs'); refine Stop.here ?_))
local macro_rules | `(tactic| k_all) => `(tactic| assumption)
local macro_rules | `(tactic| walk_at "JPost") => `(tactic| dsimp only [JPost])
local macro_rules | `(tactic| k_room) => `(tactic| ktr_room)
set_option maxRecDepth 100000 in
set_option maxHeartbeats 8000000 in
theorem great_c {prog : Program} {w : World} {p : Program} {loose mean mg mb} {words : Int} {tm : Tok} (hm : 1 ≤ words) (hm2 : words ≤ 20) :
    StC prog w (hd.heap_39 w.params) p loose mean mg mb 47 (fun st => [.ref st, .int words tm]) 20 (fun v => ∃ r t, v = .int r t ∧ 0 ≤ r ∧ r < 1000003 ^ words.toNat) := by
  intro dp un gd cn cs a ccd cl outer A₀ base h₀ L m s Q E st c i ti vs n1 n2 rest B F X N T hk hne hoff hw hd hu ret
  refine wpAny_call ?_
  k_dflt cell_enter
  have hstop : LoopStop := {}
  k_steps
  refine Stop.go ?_
  rename Fr _ _ _ _ => lF
  rename News _ _ _ _ => lN
  rename IsRange _ _ _ _ _ _ _ _ => rgX
  with_unfolding_all refine' (j_range (σ := (Int × Tok × List Value × Nat × Nat) × Int × Tok)
      (fun x => (st, listOf #[.int x.1.1 x.1.2.1, .ref c] x.1.2.2.2.1) :: (c, listOf x.1.2.2.1.toArray x.1.2.2.2.2) :: rest)
      (fun x => [(Str.ofString "number", .int x.2.1 x.2.2)]) []
      (fun i x => SW x.1.1 x.1.2.2.1 ∧ 0 ≤ x.2.1 ∧ x.2.1 < 1000003 ^ i)
      ⟨⟨_, _, _, _, _⟩, _, _⟩ (by rfl) rgX (small_one (by omega) (by omega) (by omega) (by omega)) (rangeSize_nat _ _) lF lN (by kst_all) ⟨hw, (Int.le_refl 0 : (0:Int) ≤ 0), (by decide : (0:Int) < 1000003 ^ 0)⟩ ?_ ?_)
  all_goals clear lF lN
  · rintro ⟨⟨xi, xti, xvs, xn1, xn2⟩, num, tnum⟩ ii k t u h tk I oI hk' hi ⟨hw2, q0, q1⟩ hoff2 F' N'
    dsimp only [kstB] at hw2 q0 q1 hoff2 F' N'
    obtain ⟨hf1, hf2, hf3⟩ := off2 hoff2
    clear hoff2
    k_steps
    exact jend ⟨⟨_, _, _, _, _⟩, _, _⟩ (by assumption) (by assumption) (by kst_in) (by kst_entry) (by k_all) (by kst_all) (by kst_same) ⟨by with_reducible assumption, great_step q0 q1 (by assumption) (by assumption)⟩
  · rintro ⟨⟨xi, xti, xvs, xn1, xn2⟩, num, tnum⟩ u h tk ⟨hw2, q0, q1⟩ F' N'
    dsimp only [kstB] at hw2 q0 q1 F' N'
    k_steps
    (rename Fr h₀ L _ m => kF); (rename News h₀ L _ _ => kN)
    exact ret _ _ _ _ _ _ _ _ hw2 ⟨_, _, rfl, q0, by simpa using q1⟩ kF kN
local macro_rules | `(tactic| walk_at "call ref") => `(tactic| (k_here; (with_reducible show wpAny _ _ (call (Value.ref 47) _) _ _ _); k_dflt (refine' StC.use (great_c ?m1 ?m2) ?B ?F ?X ?N ?T ?k ?U1 ?U2 ?W ?d ?u ?_; (case B => k_asm); (case F => k_asm); (case X => k_asm); (case N => k_asm); (case T => k_asm); (case k => first | exact rfl | assumption); (case U1 => k_updF); (case U2 => intro o; (try dsimp only); k_updF); (case W => with_reducible assumption); (case m1 => omega); (case m2 => omega); (case d => ktr_room); (case u => ktr_units); k_whole; (rintro v i' ti' vs' n1' n2' h' tk' hW' ⟨r, t, hv, r0, r1⟩ F' N'); subst hv; (try dsimp only at N'); (try k_sweep))))
set_option maxRecDepth 100000 in
set_option maxHeartbeats 8000000 in
theorem number_c {prog : Program} {w : World} {p : Program} {loose mean mg mb} :
    StC prog w (hd.heap_39 w.params) p loose mean mg mb 54 (fun st => [.ref st]) 30 (fun v => ∃ r t, v = .int r t ∧ Bd 300 r) := by
  intro dp un gd cn cs a ccd cl outer A₀ base h₀ L m s Q E st c i ti vs n1 n2 rest B F X N T hk hne hoff hw hd hu ret
  refine wpAny_call ?_
  k_dflt cell_enter
  k_steps
  all_goals ((rename Fr h₀ L _ m => kF); (rename News h₀ L _ _ => kN))
  · exact ret _ _ _ _ _ _ _ _ (by with_reducible assumption) ⟨_, _, rfl, bd_menu (by assumption) (by assumption)⟩ kF (News_tl kN)
  · exact ret _ _ _ _ _ _ _ _ (by with_reducible assumption) ⟨_, _, rfl, bd_pow (by assumption) (by assumption) (by assumption) (by assumption)⟩ kF kN
  · exact ret _ _ _ _ _ _ _ _ (by with_reducible assumption) ⟨_, _, rfl, bd_great (by assumption) (by assumption) (by omega)⟩ kF kN
end

section
set_option maxRecDepth 100000 in
set_option maxHeartbeats 8000000 in
theorem state_c {prog : Program} {w : World} {p : Program} {loose mean mg mb} {l : Addr} {ws : List Value} {ks : List Int} :
    PuC prog w (hd.heap_39 w.params) p loose mean mg mb 33 [.ref l] 10 (fun base news => news = [] ∧ base.IsList l ws.toArray ∧ IntsAre ws ks ∧ ks.length ≤ 63)
      (fun v tl => ∃ st c t vs n1 n2, v = .ref st ∧ @Ne Nat st c ∧ SW 0 vs ∧ tl = [(st, listOf #[.int 0 t, .ref c] n1), (c, listOf vs.toArray n2)]) := by
  intro dp un gd cn cs a ccd cl outer A₀ base h₀ L m s Q E news B F X N T hk ⟨hnil, hL, hI, hlen⟩ hd hu ret
  subst hnil
  refine wpAny_call ?_
  k_dflt cell_enter
  k_steps
  all_goals ((rename Fr h₀ L _ m => kF); (rename News h₀ L _ _ => kN))
  · exact ret _ [_, _] _ _ ⟨_, _, _, _, _, _, rfl, (by exact Nat.ne_of_gt (by omega)), (by exact ⟨[0], .cons _ _ .nil, ⟨by decide, by decide, by decide, by simp⟩⟩), rfl⟩ (fun q hq p hp => nomatch hp) kF (News_two kN)
  · have hI9 := (by assumption : IntsAre _ (List.map (fun k' => if k' < 0 then -k' else k') (List.take 63 ks)))
    have hl9 : 0 < (List.map (fun k' => if k' < 0 then -k' else k') (List.take 63 ks)).length ∧ (List.map (fun k' => if k' < 0 then -k' else k') (List.take 63 ks)).length ≤ 63 := by
      simp only [List.length_map] at *; omega
    exact ret _ [_, _] _ _ ⟨_, _, _, _, _, _, rfl, (by exact Nat.ne_of_gt (by omega)), (by exact ⟨_, hI9, ⟨by decide, hl9.1, hl9.2, abs_nn _⟩⟩), rfl⟩ (fun q hq p hp => nomatch hp) kF (News_two kN)
end

section
local macro_rules | `(tactic| walk_at "pyIter ref") => `(tactic| ((rename LoopStop => hLs'); refine Stop.here ?_))
local macro_rules | `(tactic| k_all) => `(tactic| assumption)
local macro_rules | `(tactic| walk_at "JPost") => `(tactic| dsimp only [JPost])
local macro_rules | `(tactic| k_room) => `(tactic| ktr_room)
local macro_rules | `(tactic| walk_at "exec While Compare cons nil") => `(tactic| ((rename LoopStop => hLs'); refine Stop.here ?_))
theorem gcd_step {p q : Int} (hp : 0 ≤ p) (hq : 0 ≤ q) (h : q ≠ 0) : 0 ≤ p.fmod q ∧ Int.gcd q (p.fmod q) = Int.gcd p q ∧ (p.fmod q).toNat < q.toNat := by
  have h1 := Int.fmod_nonneg_of_pos p (b := q) (by omega)
  have h2 := Int.fmod_lt_of_pos p (b := q) (by omega)
  refine ⟨h1, ?_, by omega⟩
  rw [Int.fmod_eq_emod_of_nonneg _ hq]
  obtain ⟨a, rfl⟩ := Int.eq_ofNat_of_zero_le hp
  obtain ⟨b, rfl⟩ := Int.eq_ofNat_of_zero_le hq
  rw [← Int.natCast_emod, Int.gcd_natCast_natCast, Int.gcd_natCast_natCast, Nat.gcd_comm b, ← Nat.gcd_rec, Nat.gcd_comm]
set_option maxRecDepth 100000 in
set_option maxHeartbeats 8000000 in
theorem gcd_c {prog : Program} {w : World} {p : Program} {loose mean mg mb} {x y : Int} {tx ty : Tok} (hx : 0 ≤ x) (hy : 0 ≤ y) :
    PuC prog w (hd.heap_39 w.params) p loose mean mg mb 21 [.int x tx, .int y ty] 10 (fun _ _ => True)
      (fun v tl => ∃ r t, v = .int r t ∧ r = (Int.gcd x y : Int) ∧ tl = []) := by
  intro dp un gd cn cs a ccd cl outer A₀ base h₀ L m s Q E news B F X N T hk _ hd hu ret
  refine wpAny_call ?_
  k_dflt cell_enter
  have hstop : LoopStop := {}
  k_steps
  refine Stop.go ?_
  rename Fr _ _ _ _ => lF
  rename News _ _ _ _ => lN
  with_unfolding_all refine' (ksw_while (σ := Int × Tok × Int × Tok) (fun _ => news) (fun z => [(Str.ofString "p", .int z.1 z.2.1), (Str.ofString "q", .int z.2.2.1 z.2.2.2)]) (fun _ => True) []
    (fun z => 0 ≤ z.1 ∧ 0 ≤ z.2.2.1 ∧ Int.gcd z.1 z.2.2.1 = Int.gcd x y) (fun z => z.2.2.1.toNat) ⟨_, _, _, _⟩ lF lN trivial ?kk ?kp ?_)
  case kk => kst_all
  case kp => exact ⟨hx, hy, rfl⟩
  clear lF lN
  rintro ⟨a1, t1, a2, t2⟩ u h tk _ ⟨q0, q1, q2⟩ F' N'
  dsimp only [kstB] at q0 q1 q2 F' N'
  k_steps
  · refine' ksw_end ⟨_, _, _, _⟩ ?jq1 ?jq2 ?jq3 ?jq4 ?jq5 ?jq6 ?jq7 ?jq8
    case jq1 => set_option maxHeartbeats 400000 in (first | assumption | fail "F")
    case jq2 => set_option maxHeartbeats 400000 in (first | assumption | fail "N")
    case jq3 => set_option maxHeartbeats 400000 in (first | kst_in | fail "in")
    case jq4 => trivial
    case jq5 => set_option maxHeartbeats 400000 in (first | kst_all | fail "names")
    case jq6 => set_option maxHeartbeats 400000 in (first | ksw_same | fail "same")
    case jq7 => exact ⟨q1, (gcd_step q0 q1 (by assumption)).1, (gcd_step q0 q1 (by assumption)).2.1.trans q2⟩
    case jq8 => exact (gcd_step q0 q1 (by assumption)).2.2
  · (rename Fr h₀ L _ m => kF); (rename News h₀ L _ _ => kN)
    have e0 := (by assumption : a2 = 0)
    subst e0
    exact ret _ [] _ _ ⟨_, _, rfl, (by rw [← q2, Int.gcd_zero_right]; omega), rfl⟩ (fun q hq => nomatch hq) kF kN
end

section
local macro_rules | `(tactic| walk_at "pyIter ref") => `(tactic| ((rename LoopStop => hLs'); refine Stop.here ?_))
local macro_rules | `(tactic| k_all) => `(tactic| assumption)
local macro_rules | `(tactic| walk_at "JPost") => `(tactic| dsimp only [JPost])
local macro_rules | `(tactic| k_room) => `(tactic| ktr_room)
/-- Euclid's rows, with their factors -/
structure EInv (x y : Int) (i : Nat) (a0 b0 c0 a1 b1 c1 : Int) : Prop where
  n0 : 0 ≤ a0
  n1 : 0 ≤ a1
  e0 : a0 = b0 * x + c0 * y
  e1 : a1 = b1 * x + c1 * y
  g : Int.gcd a0 a1 = Int.gcd x y
  mb0 : (b0.natAbs : Int) ≤ x + y + 1
  mb1 : (b1.natAbs : Int) ≤ x + y + 1
  mb : (b1.natAbs : Int) * a0 + (b0.natAbs : Int) * a1 ≤ x + y + 1
  mc0 : (c0.natAbs : Int) ≤ x + y + 1
  mc1 : (c1.natAbs : Int) ≤ x + y + 1
  mc : (c1.natAbs : Int) * a0 + (c0.natAbs : Int) * a1 ≤ x + y + 1
  t : i = 0 ∨ a1 < a0
  ma0 : a0 ≤ x + y + 1
  ma1 : a1 ≤ x + y + 1
  p : a0 * a1 * 2 ^ i ≤ 2 * (x * y)
  p0 : i = 0 → a0 * a1 ≤ x * y
theorem EInv.start {x y : Int} (hx : 0 ≤ x) (hy : 0 ≤ y) : EInv x y 0 x 1 0 y 0 1 := by
  have hxy : 0 ≤ x * y := Int.mul_nonneg hx hy
  refine ⟨hx, hy, by omega, by omega, rfl, ?_, ?_, ?_, ?_, ?_, ?_, .inl rfl, by omega, by omega, ?_, fun _ => Int.le_refl _⟩ <;> simp <;> omega
/-- one factor's bound through a turn -/
theorem bound_step {M a0 a1 b0 b1 q : Int} (h1 : 0 < a1) (hq : 0 ≤ q) (hr : 0 ≤ a0 - q * a1) (mb : (b1.natAbs : Int) * a0 + (b0.natAbs : Int) * a1 ≤ M) :
    ((b0 - q * b1).natAbs : Int) ≤ M ∧ ((b0 - q * b1).natAbs : Int) * a1 + (b1.natAbs : Int) * (a0 - q * a1) ≤ M := by
  have k1 : ((b0 - q * b1).natAbs : Int) ≤ (b0.natAbs : Int) + q * (b1.natAbs : Int) := by
    have e : (q * b1).natAbs = q.natAbs * b1.natAbs := Int.natAbs_mul ..
    have e2 : ((q * b1).natAbs : Int) = q * (b1.natAbs : Int) := by
      rw [e]; push_cast; rw [Int.natAbs_of_nonneg hq]
    rw [← e2]; omega
  have k2 : ((b0 - q * b1).natAbs : Int) * a1 ≤ ((b0.natAbs : Int) + q * (b1.natAbs : Int)) * a1 := Int.mul_le_mul_of_nonneg_right k1 (by omega)
  have k3 : ((b0.natAbs : Int) + q * (b1.natAbs : Int)) * a1 = (b0.natAbs : Int) * a1 + (b1.natAbs : Int) * (q * a1) := by
    rw [Int.add_mul]; congr 1; rw [Int.mul_comm q, Int.mul_assoc]
  have k4 : (b1.natAbs : Int) * (a0 - q * a1) = (b1.natAbs : Int) * a0 - (b1.natAbs : Int) * (q * a1) := Int.mul_sub ..
  have k5 : ((b0 - q * b1).natAbs : Int) * 1 ≤ ((b0 - q * b1).natAbs : Int) * a1 := Int.mul_le_mul_of_nonneg_left (by omega) (by omega)
  have k6 : 0 ≤ (b1.natAbs : Int) * (a0 - q * a1) := Int.mul_nonneg (by omega) hr
  constructor <;> omega
theorem EInv.step {x y : Int} {i : Nat} {a0 b0 c0 a1 b1 c1 : Int} (h : EInv x y i a0 b0 c0 a1 b1 c1) (h1 : a1 ≠ 0) :
    EInv x y (i + 1) a1 b1 c1 (a0 - Int.fdiv a0 a1 * a1) (b0 - Int.fdiv a0 a1 * b1) (c0 - Int.fdiv a0 a1 * c1) := by
  have hpos : 0 < a1 := by have := h.n1; omega
  have hm : a0 - Int.fdiv a0 a1 * a1 = Int.fmod a0 a1 := by have := Int.fmod_add_mul_fdiv a0 a1; rw [Int.mul_comm]; omega
  have hq : 0 ≤ Int.fdiv a0 a1 := by rw [Int.fdiv_eq_ediv_of_nonneg _ (by omega)]; exact Int.ediv_nonneg h.n0 h.n1
  have r0 := Int.fmod_nonneg_of_pos a0 hpos
  have r1 := Int.fmod_lt_of_pos a0 hpos
  have hb := bound_step hpos hq (by omega) h.mb
  have hc := bound_step hpos hq (by omega) h.mc
  have hn0 := h.n0
  have e0 := h.e0
  have e1 := h.e1
  refine ⟨h.n1, by omega, e1, ?_, ?_, h.mb1, hb.1, hb.2, h.mc1, hc.1, hc.2,   .inr (by omega), h.ma1, ?_, ?_, fun h => absurd h (Nat.succ_ne_zero _)⟩
  · rw [Int.sub_mul, Int.sub_mul, Int.mul_assoc, Int.mul_assoc]
    have : Int.fdiv a0 a1 * a1 = Int.fdiv a0 a1 * (b1 * x) + Int.fdiv a0 a1 * (c1 * y) := by rw [← Int.mul_add, ← e1]
    omega
  · rw [hm, ← h.g, Int.fmod_eq_emod_of_nonneg _ (by omega)]
    obtain ⟨u, rfl⟩ := Int.eq_ofNat_of_zero_le h.n0
    obtain ⟨v, rfl⟩ := Int.eq_ofNat_of_zero_le h.n1
    rw [← Int.natCast_emod, Int.gcd_natCast_natCast, Int.gcd_natCast_natCast, Nat.gcd_comm v, ← Nat.gcd_rec, Nat.gcd_comm]
  · have h9 : 0 ≤ Int.fdiv a0 a1 * a1 := Int.mul_nonneg hq (by omega)
    have := h.ma0
    omega
  · rw [hm, Int.pow_succ]
    have hp := h.p
    have key : a1 * Int.fmod a0 a1 * 2 ≤ a0 * a1 ∨ i = 0 := by
      rcases h.t with h0 | h0
      · exact .inr h0
      · left
        have h3 : 1 ≤ Int.fdiv a0 a1 := by
          rw [Int.fdiv_eq_ediv_of_nonneg _ (by omega)]
          exact (Int.le_ediv_iff_mul_le hpos).mpr (by omega)
        have h4 : 1 * a1 ≤ Int.fdiv a0 a1 * a1 := Int.mul_le_mul_of_nonneg_right h3 (by omega)
        have h5 : Int.fmod a0 a1 * 2 ≤ a0 := by omega
        have h6 : a1 * (Int.fmod a0 a1 * 2) ≤ a1 * a0 := Int.mul_le_mul_of_nonneg_left h5 (by omega)
        rw [Int.mul_assoc, Int.mul_comm a0]; exact h6
    rcases key with k | k
    · have h2 : (0 : Int) ≤ 2 ^ i := Int.le_of_lt (Int.pow_pos (by decide))
      have h7 : a1 * Int.fmod a0 a1 * 2 * 2 ^ i ≤ a0 * a1 * 2 ^ i := Int.mul_le_mul_of_nonneg_right k h2
      have e : a1 * Int.fmod a0 a1 * (2 ^ i * 2) = a1 * Int.fmod a0 a1 * 2 * 2 ^ i := by rw [Int.mul_assoc, Int.mul_assoc, Int.mul_assoc, Int.mul_comm (2 ^ i) 2]
      rw [e]; omega
    · subst k
      rw [Int.pow_zero, Int.mul_one] at hp
      have h8 : Int.fmod a0 a1 ≤ a0 := by
        have := Int.fmod_add_mul_fdiv a0 a1
        have h9 : 0 ≤ a1 * Int.fdiv a0 a1 := Int.mul_nonneg (by omega) hq
        omega
      have h10 : a1 * Int.fmod a0 a1 ≤ a1 * a0 := Int.mul_le_mul_of_nonneg_left h8 (by omega)
      rw [Int.mul_comm a1 a0] at h10
      rw [Int.pow_zero]
      have h11 := h.p0 rfl
      omega
theorem EInv.stop {x y : Int} {a0 b0 c0 a1 b1 c1 : Int} (hx : x < 2 ^ 400) (hy : y < 2 ^ 400) (hx0 : 0 ≤ x) (hy0 : 0 ≤ y) (h : EInv x y 2000 a0 b0 c0 a1 b1 c1) : a1 = 0 := by
  refine Classical.byContradiction fun hc => ?_
  have n1 := h.n1
  have n0 := h.n0
  have ht : a1 < a0 := by rcases h.t with h | h; · cases h
                          · exact h
  have h1 : (1 : Int) * 1 ≤ a0 * a1 := Int.mul_le_mul (by omega) (by omega) (by omega) (by omega)
  have hP : (0 : Int) ≤ 2 ^ 2000 := Int.le_of_lt (Int.pow_pos (by decide))
  have h2 : 1 * 1 * 2 ^ 2000 ≤ a0 * a1 * 2 ^ 2000 := Int.mul_le_mul_of_nonneg_right h1 hP
  have h3 : x * y ≤ 2 ^ 400 * 2 ^ 400 := Int.mul_le_mul (by omega) (by omega) hy0 (Int.le_of_lt (Int.pow_pos (by decide)))
  have h4 := h.p
  have h5 : (2 : Int) ^ 2000 = 2 ^ 400 * 2 ^ 400 * 2 ^ 1200 := by rw [← Int.pow_add, ← Int.pow_add]
  have h6 : (2 : Int) ^ 400 * 2 ^ 400 * 4 ≤ 2 ^ 400 * 2 ^ 400 * 2 ^ 1200 := by
    refine Int.mul_le_mul_of_nonneg_left ?_ (Int.mul_nonneg (Int.le_of_lt (Int.pow_pos (by decide))) (Int.le_of_lt (Int.pow_pos (by decide))))
    have : (2 : Int) ^ 1200 = 4 * 2 ^ 1198 := by rw [show (1200 : Nat) = 2 + 1198 from rfl, Int.pow_add]; rfl
    have h7 : (0 : Int) < 2 ^ 1198 := Int.pow_pos (by decide)
    omega
  have h8 : (0 : Int) < 2 ^ 400 * 2 ^ 400 := Int.mul_pos (Int.pow_pos (by decide)) (Int.pow_pos (by decide))
  rw [h5] at h2 h4
  generalize (2 : Int) ^ 400 * 2 ^ 400 = P at *
  generalize P * 2 ^ 1200 = R at *
  omega
theorem EInv.size {x y : Int} {i : Nat} {a0 b0 c0 a1 b1 c1 : Int} (hx : Bd 400 x) (hy : Bd 400 y) (h : EInv x y i a0 b0 c0 a1 b1 c1) : SBd 402 a0 ∧ SBd 402 b0 ∧ SBd 402 c0 ∧ SBd 402 a1 ∧ SBd 402 b1 ∧ SBd 402 c1 := by
  have k : ∀ z : Int, (z.natAbs : Int) ≤ x + y + 1 → SBd 402 z := by
    intro z hz
    have h1 := hx.2
    have h2 := hy.2
    have e1 := pow_cast 2 400
    have e2 : (2 : Nat) ^ 402 = 4 * 2 ^ 400 := by rw [show (402 : Nat) = 2 + 400 from rfl, Nat.pow_add]
    have e3 : (2 : Nat) ^ 400 > 1 := Nat.one_lt_two_pow (by decide)
    unfold SBd
    rw [e2]
    have e4 : ((2 : Nat) : Int) = 2 := rfl
    rw [e4] at e1
    omega
  have n0 := h.n0
  have n1 := h.n1
  have m0 := h.ma0
  have m1 := h.ma1
  exact ⟨k _ (by omega), k _ h.mb0, k _ h.mc0, k _ (by omega), k _ h.mb1, k _ h.mc1⟩
local macro_rules | `(tactic| walk_at "binaryOp FloorDiv int int") => `(tactic| (k_here; k_dflt (refine' floordiv_int ?a ?_ (Or.inl (PyProof.noPylong_of_log2 (SBd.log2 ?b ?c ?d))); (case a => assumption); (case b => assumption); (case c => assumption); (case d => decide))))
local macro_rules | `(tactic| walk_at "binaryOp Mult int int") => `(tactic| (k_here; k_dflt (refine' mul_int ?_ (mulOk (k := 402 + 2) (l := 402) ?a ?b ?c); (case a => exact fdiv_sbd (by assumption) (by assumption)); (case b => assumption); (case c => decide))))
local macro_rules | `(tactic| walk_at "CompSrc") => `(tactic| (k_here; k_dflt (refine LCg.CompSrc.range (by rfl) (by k_asm) (by k_asm) (by assumption) (by first | decide | rfl) (by first | rfl | decide) (by first | size_fits | exact Nat.le_of_ble_eq_true rfl) ?_; intro g'; lcg_lit)))
theorem EInv.fin {x y : Int} {i : Nat} {a0 b0 c0 b1 c1 : Int} (h : EInv x y i a0 b0 c0 0 b1 c1) : a0 = (Int.gcd x y : Int) := by
  have h1 := h.g
  have h2 := h.n0
  rw [Int.gcd_zero_right] at h1
  omega
local macro_rules | `(tactic| k_ne) => `(tactic| (refine neN ?_; (try dsimp only); first | with_reducible assumption | exact Ne.symm (by with_reducible assumption) | ((repeat (cases ‹_ ∧ _›)); first | with_reducible assumption | exact Ne.symm (by with_reducible assumption) | ((repeat (rename @Ne Nat _ _ => hq9; clear hq9)); omega))))
local macro_rules | `(tactic| walk_at "subscriptTail Name Constant ref int") => `(tactic| (k_here; (with_reducible show wpAny _ _ (subscriptTail _ _ (Value.ref _) (Value.int _ _)) _ _ _); (with_unfolding_all refine' item_litK ?k1 ?k2 ?k3 ?k4 ?_ ?k6; (case k1 => is_list); (case k2 => decide); (case k3 => decide); (case k4 => rfl); (case k6 => with_unfolding_all rfl); k_whole)))
abbrev tup3 (a b c : Int) (t u v : Tok) (n : Nat) : Obj := { cls := .type "tuple", data := .seq #[.int a t, .int b u, .int c v] n }
set_option maxRecDepth 100000 in
set_option maxHeartbeats 8000000 in
theorem factors_c {prog : Program} {w : World} {p : Program} {loose mean mg mb} {x y : Int} {tx ty : Tok} (hx : Bd 400 x) (hy : Bd 400 y) :
    PuP prog w (hd.heap_39 w.params) p loose mean mg mb 59 [.int x tx, .int y ty] 20 (fun _ => True)
      (fun v tl => ∃ D a b c t u v' n, v = .ref D ∧ a = (Int.gcd x y : Int) ∧ a = b * x + c * y ∧ SBd 500 b ∧ SBd 500 c ∧ tl = [(D, tup3 a b c t u v' n)]) := by
  intro dp un gd cn cs a ccd cl outer A₀ base h₀ L m s Q E news B F X N T hk _ hd hu ret
  refine wpAny_call ?_
  k_dflt (refine' code_defCP ?k1 ?k2 ?k3 ?k4 ?k5 ?kA ?kF ?kK ?k6 ?k7 ?k8 ?k9 ?kB ?kD ?_ ?c2 ?c3 ?c4; (case kA => exact rfl); (case kF => exact rfl); (case kK => assumption); (case k1 => k_asm); (case k2 => k_asm); (case k3 => k_asm); (case k4 => k_asm); (case k5 => k_asm); (case k6 => k_is); (case k7 => k_is); (case k8 => ktr_room); (case k9 => exact BindsTo.of_eq rfl); (case kB => exact rfl); (case kD => decide +kernel); (case c2 => exact rfl); (case c3 => exact rfl); (case c4 => exact rfl); k_whole; intro g' L' h' tk' cells' hg' hlow' FG' F' N' Y' B' X' T'; k_cells Y'; (try dsimp only); (try k_lift B'); (try k_fold))
  have hstop : LoopStop := {}
  k_steps
  refine Stop.go ?_
  rename Fr _ _ _ _ => lF
  rename News _ _ _ _ => lN
  rename IsRange _ _ _ _ _ _ _ _ => rgX
  with_unfolding_all refine' (j_range (σ := (Addr × Addr × Addr) × (Nat × Nat × Nat) × (Int × Int × Int) × (Tok × Tok × Tok) × (Int × Int × Int) × (Tok × Tok × Tok) × (Obj × Obj))
      (fun z => [(z.1.1, listOf #[.ref z.1.2.1, .ref z.1.2.2] z.2.1.1), (z.1.2.2, tup3 z.2.2.2.2.1.1 z.2.2.2.2.1.2.1 z.2.2.2.2.1.2.2 z.2.2.2.2.2.1.1 z.2.2.2.2.2.1.2.1 z.2.2.2.2.2.1.2.2 z.2.1.2.2), (z.1.2.1, tup3 z.2.2.1.1 z.2.2.1.2.1 z.2.2.1.2.2 z.2.2.2.1.1 z.2.2.2.1.2.1 z.2.2.2.1.2.2 z.2.1.2.1), (L' + 1 + 1, z.2.2.2.2.2.2.2), (L' + 1, z.2.2.2.2.2.2.1)])
      (fun _ => []) []
      (fun i z => EInv x y i z.2.2.1.1 z.2.2.1.2.1 z.2.2.1.2.2 z.2.2.2.2.1.1 z.2.2.2.2.1.2.1 z.2.2.2.2.1.2.2 ∧ z.2.2.2.2.2.2.1.data = .cell (some (.ref z.1.1)) ∧ (∃ v, z.2.2.2.2.2.2.2.data = .cell v) ∧ (@LT.lt Nat _ (L' + 2) z.1.1 ∧ @LT.lt Nat _ (L' + 2) z.1.2.1 ∧ @LT.lt Nat _ (L' + 2) z.1.2.2 ∧ @Ne Nat z.1.1 z.1.2.1 ∧ @Ne Nat z.1.1 z.1.2.2 ∧ @Ne Nat z.1.2.1 z.1.2.2))
      ⟨⟨_, _, _⟩, ⟨_, _, _⟩, ⟨_, _, _⟩, ⟨_, _, _⟩, ⟨_, _, _⟩, ⟨_, _, _⟩, ⟨_, _⟩⟩ (by rfl) rgX (by decide) (n := 2000) rfl lF ?kn (List.forall_mem_nil _) ?kp ?_ ?_)
  case kn => exact lN
  case kp => exact ⟨EInv.start hx.1 hy.1, by assumption, ⟨_, by assumption⟩, by (dsimp only; omega), by (dsimp only; omega), by (dsimp only; omega), by (dsimp only; omega), by (dsimp only; omega), by (dsimp only; omega)⟩
  all_goals (clear lF lN rgX; (repeat (rename _ = Data.cell _ => hj9; clear hj9)))
  · rintro ⟨⟨D, T0, T1⟩, ⟨n, n0, n1⟩, ⟨a0, b0, c0⟩, ⟨ta0, tb0, tc0⟩, ⟨a1, b1, c1⟩, ⟨ta1, tb1, tc1⟩, ⟨oR, oM⟩⟩ ii k t u h tk I oI hk' hi ⟨hE, hR, ⟨vM, hM⟩, g1, g2, g3, g4, g5, g6⟩ hoff2 F' N'
    dsimp only [kstB] at hE hR hM g1 g2 g3 g4 g5 g6 hoff2 F' N'
    simp only [List.forall_mem_cons] at hoff2
    obtain ⟨f1, f2, f3, f4, f5, _⟩ := hoff2
    replace f1 := neN f1
    replace f2 := neN f2
    replace f3 := neN f3
    replace f4 := neN f4
    replace f5 := neN f5
    try dsimp only at f1 f2 f3 f4 f5
    obtain ⟨s1, s2, s3, s4, s5, s6⟩ := hE.size hx hy
    k_steps
    · (rename Fr h₀ L _ m => kF); (rename News h₀ L _ news => hN9); (rename News h₀ L _ (_ :: _) => kN)
      have e9 := (by assumption : a1 = 0)
      subst e9
      exact ret _ [_] _ _ ⟨_, _, _, _, _, _, _, _, rfl, EInv.fin hE, hE.e0, s2.mono (by decide), s3.mono (by decide), rfl⟩ (above_news hlow' (by intro q hq; rcases List.mem_cons.mp hq with rfl | hq; (· (refine ltN ?_; dsimp only; omega)); (· cases hq))) kF (news_app kN hN9 (by intro q hq; rcases List.mem_cons.mp hq with rfl | hq; (· k_mem); (· cases hq)))
    · refine' jend ⟨⟨_, _, _⟩, ⟨_, _, _⟩, ⟨_, _, _⟩, ⟨_, _, _⟩, ⟨_, _, _⟩, ⟨_, _, _⟩, ⟨_, _⟩⟩ ?jq1 ?jq2 ?jq3 ?jq4 ?jq5 ?jq6 ?jq7 ?jq8
      case jq1 => set_option maxHeartbeats 400000 in (first | assumption | fail "F")
      case jq2 => set_option maxHeartbeats 400000 in (first | assumption | fail "N")
      case jq3 => set_option maxHeartbeats 400000 in (first | kst_in | (fail "in"))
      case jq4 => set_option maxHeartbeats 400000 in (first | kst_entry | fail "entry")
      case jq5 => set_option maxHeartbeats 400000 in (first | k_all | fail "all")
      case jq6 => set_option maxHeartbeats 400000 in (first | kst_all | fail "names")
      case jq7 => set_option maxHeartbeats 400000 in (first | kst_same | fail "same")
      case jq8 =>
        (repeat (cases ‹_ ∧ _›))
        dsimp only
        exact ⟨hE.step (by assumption), by assumption, ⟨_, by assumption⟩, by omega, g3, by omega, by k_ne, by k_ne, by k_ne⟩
  · rintro ⟨⟨D, T0, T1⟩, ⟨n, n0, n1⟩, ⟨a0, b0, c0⟩, ⟨ta0, tb0, tc0⟩, ⟨a1, b1, c1⟩, ⟨ta1, tb1, tc1⟩, ⟨oR, oM⟩⟩ u h tk ⟨hE, hR, ⟨vM, hM⟩, g1, g2, g3, g4, g5, g6⟩ F' N'
    dsimp only [kstB] at hE hR hM g1 g2 g3 g4 g5 g6 F' N'
    obtain ⟨s1, s2, s3, s4, s5, s6⟩ := hE.size hx hy
    have e9 := EInv.stop hx.2 hy.2 hx.1 hy.1 hE
    subst e9
    k_steps
    (rename Fr h₀ L _ m => kF); (rename News h₀ L _ news => hN9); (rename News h₀ L _ (_ :: _) => kN)
    exact ret _ [_] _ _ ⟨_, _, _, _, _, _, _, _, rfl, EInv.fin hE, hE.e0, s2.mono (by decide), s3.mono (by decide), rfl⟩ (above_news hlow' (by intro q hq; rcases List.mem_cons.mp hq with rfl | hq; (· (refine ltN ?_; dsimp only; omega)); (· cases hq))) kF (news_app kN hN9 (by intro q hq; rcases List.mem_cons.mp hq with rfl | hq; (· k_mem); (· cases hq)))
end

section
local macro_rules | `(tactic| walk_at "pyIter ref") => `(tactic| ((rename LoopStop => hLs'); refine Stop.here ?_))
local macro_rules | `(tactic| k_all) => `(tactic| assumption)
local macro_rules | `(tactic| walk_at "JPost") => `(tactic| dsimp only [JPost])
local macro_rules | `(tactic| k_room) => `(tactic| ktr_room)
local macro_rules | `(tactic| k_ne) => `(tactic| (refine neN ?_; (try dsimp only); first | with_reducible assumption | exact Ne.symm (by with_reducible assumption) | ((repeat (cases ‹_ ∧ _›)); first | with_reducible assumption | exact Ne.symm (by with_reducible assumption) | ((repeat (rename @Ne Nat _ _ => hq9; clear hq9)); omega))))
local macro_rules | `(tactic| walk_at "call ref") => `(tactic| (k_here; (with_reducible show wpAny _ _ (call (Value.ref 21) [Value.int _ _, Value.int _ _]) _ _ _); k_dflt (refine' PuC.use (gcd_c ?g1 ?g2) ?B ?F ?X ?N ?T ?k ?P ?d ?u ?_; (case B => k_asm); (case F => k_asm); (case X => k_asm); (case N => k_asm); (case T => k_asm); (case k => first | exact rfl | assumption); (case g1 => omega); (case g2 => omega); (case P => trivial); (case d => ktr_room); (case u => ktr_units); k_whole; (rintro v tl h' tk' ⟨r, t, hv, hr, htl⟩ hlt F' N'); clear hlt; subst hv; subst htl; subst hr; (try simp only [List.nil_append] at N'); (try k_sweep))))
set_option maxRecDepth 100000 in
set_option maxHeartbeats 8000000 in
theorem arp_c {prog : Program} {w : World} {p : Program} {loose mean mg mb} {x y : Int} {tx ty : Tok} (hx : 0 ≤ x) (hy : 0 ≤ y) :
    PuP prog w (hd.heap_39 w.params) p loose mean mg mb 28 [.int x tx, .int y ty] 30 (fun _ => True)
      (fun v tl => v = .bool (decide ((Int.gcd x y : Int) = 1)) ∧ tl = []) := by
  intro dp un gd cn cs a ccd cl outer A₀ base h₀ L m s Q E news B F X N T hk _ hd hu ret
  refine wpAny_call ?_
  k_dflt (refine' code_defP ?k1 ?k2 ?k3 ?k4 ?k5 ?kA ?kF ?kK ?k6 ?k7 ?k8 ?k9 ?kB ?_ ?c2 ?c3 ?c4 ?c5; (case kA => exact rfl); (case kF => exact rfl); (case kK => assumption); (case k1 => k_asm); (case k2 => k_asm); (case k3 => k_asm); (case k4 => k_asm); (case k5 => k_asm); (case k6 => k_is); (case k7 => k_is); (case k8 => ktr_room); (case k9 => exact BindsTo.of_eq rfl); (case c5 => decide); (case kB => exact locs rfl); (case c2 => exact rfl); (case c3 => exact rfl); (case c4 => exact rfl); k_whole; intro g' L' h' hg' hlow' FG' F' N' B' X' T'; (try dsimp only); (try k_lift B'); (try k_fold))
  k_steps
  (rename Fr h₀ L _ m => kF); (rename News h₀ L _ news => hN9)
  exact ret _ [] _ _ ⟨rfl, rfl⟩ (fun q hq => nomatch hq) kF hN9
end

section
local macro_rules | `(tactic| walk_at "pyIter ref") => `(tactic| ((rename LoopStop => hLs'); refine Stop.here ?_))
local macro_rules | `(tactic| k_all) => `(tactic| assumption)
local macro_rules | `(tactic| walk_at "JPost") => `(tactic| dsimp only [JPost])
local macro_rules | `(tactic| k_room) => `(tactic| ktr_room)
local macro_rules | `(tactic| k_ne) => `(tactic| (refine neN ?_; (try dsimp only); first | with_reducible assumption | exact Ne.symm (by with_reducible assumption) | ((repeat (cases ‹_ ∧ _›)); first | with_reducible assumption | exact Ne.symm (by with_reducible assumption) | ((repeat (rename @Ne Nat _ _ => hq9; clear hq9)); omega))))
local macro_rules | `(tactic| walk_at "call ref") => `(tactic| (k_here; (with_reducible show wpAny _ _ (call (Value.ref 40) _) _ _ _); k_dflt (refine' StC.use (take_c ?m1 ?m2) ?B ?F ?X ?N ?T ?k ?U1 ?U2 ?W ?d ?u ?_; (case B => k_asm); (case F => k_asm); (case X => k_asm); (case N => k_asm); (case T => k_asm); (case k => first | exact rfl | assumption); (case U1 => k_updF); (case U2 => intro o; (try dsimp only); k_updF); (case W => with_reducible assumption); (case m1 => omega); (case m2 => omega); (case d => ktr_room); (case u => ktr_units); k_whole; (rintro v i' ti' vs' n1' n2' h' tk' hW' ⟨r, t, hv, r0, r1⟩ F' N'); subst hv; (try dsimp only at N'); (try k_sweep))))
local macro_rules | `(tactic| walk_at "call ref") => `(tactic| (k_here; (with_reducible show wpAny _ _ (call (Value.ref 54) _) _ _ _); k_dflt (refine' StC.use number_c ?B ?F ?X ?N ?T ?k ?U1 ?U2 ?W ?d ?u ?_; (case B => k_asm); (case F => k_asm); (case X => k_asm); (case N => k_asm); (case T => k_asm); (case k => first | exact rfl | assumption); (case U1 => k_updF); (case U2 => intro o; (try dsimp only); k_updF); (case W => with_reducible assumption); (case d => ktr_room); (case u => ktr_units); k_whole; (rintro v i' ti' vs' n1' n2' h' tk' hW' ⟨r, t, hv, r0⟩ F' N'); subst hv; (try dsimp only at N'); (try k_sweep))))
local macro_rules | `(tactic| walk_at "call ref") => `(tactic| (k_here; (with_reducible show wpAny _ _ (call (Value.ref 33) _) _ _ _); k_dflt (refine' PuC.use state_c ?B ?F ?X ?N ?T ?k ?P ?d ?u ?_; (case B => k_asm); (case F => k_asm); (case X => k_asm); (case N => k_asm); (case T => k_asm); (case k => first | exact rfl | assumption); (case P => exact ⟨rfl, by assumption, by assumption, by omega⟩); (case d => ktr_room); (case u => ktr_units); k_whole; (rintro v tl h' tk' ⟨st, c, t, vs, n1, n2, hv, hne, hW, htl⟩ hlt F' N'); clear hlt; subst hv; subst htl; (try simp only [List.cons_append, List.nil_append] at N'); (try k_sweep))))
theorem gcd_facts (x y : Int) : (((Int.gcd x y : Nat) : Int) = 0 → x = 0 ∧ y = 0) ∧ Int.fmod x (Int.gcd x y : Int) = 0 ∧ Int.fmod y (Int.gcd x y : Int) = 0 :=
  ⟨fun h => Int.gcd_eq_zero_iff.mp (by omega), Int.fmod_eq_zero_of_dvd (Int.gcd_dvd_left ..), Int.fmod_eq_zero_of_dvd (Int.gcd_dvd_right ..)⟩
theorem arp24 {prog : Program} {w : World} {p : Program} {loose mean mg mb} {tx ty : Tok} : PuP prog w (hd.heap_39 w.params) p loose mean mg mb 28 [.int 2 tx, .int 4 ty] 30 (fun _ => True) (fun v tl => v = .bool false ∧ tl = []) :=
  (arp_c (by decide) (by decide)).post fun v tl h => ⟨h.1.trans (congrArg Value.bool (by decide)), h.2⟩
theorem arp23 {prog : Program} {w : World} {p : Program} {loose mean mg mb} {tx ty : Tok} : PuP prog w (hd.heap_39 w.params) p loose mean mg mb 28 [.int 2 tx, .int 3 ty] 30 (fun _ => True) (fun v tl => v = .bool true ∧ tl = []) :=
  (arp_c (by decide) (by decide)).post fun v tl h => ⟨h.1.trans (congrArg Value.bool (by decide)), h.2⟩
theorem gcd00 {prog : Program} {w : World} {p : Program} {loose mean mg mb} {tx ty : Tok} : PuC prog w (hd.heap_39 w.params) p loose mean mg mb 21 [.int 0 tx, .int 0 ty] 10 (fun _ _ => True) (fun v tl => ∃ r t, v = .int r t ∧ r = 0 ∧ tl = []) :=
  (gcd_c (by decide) (by decide)).post fun v tl ⟨r, t, h, h2, h3⟩ => ⟨r, t, h, h2.trans (by decide), h3⟩
local macro_rules | `(tactic| walk_at "call ref") => `(tactic| (k_here; (with_reducible show wpAny _ _ (call (Value.ref 21) [Value.int _ _, Value.int _ _]) _ _ _); k_dflt (refine' PuC.use (gcd_c ?g1 ?g2) ?B ?F ?X ?N ?T ?k ?P ?d ?u ?_; (case B => k_asm); (case F => k_asm); (case X => k_asm); (case N => k_asm); (case T => k_asm); (case k => first | exact rfl | assumption); (case g1 => exact Bd.nn (by assumption)); (case g2 => exact Bd.nn (by assumption)); (case P => trivial); (case d => ktr_room); (case u => ktr_units); k_whole; (rintro v tl h' tk' ⟨r, t, hv, hr, htl⟩ hlt F' N'); clear hlt; subst hv; subst htl; (try simp only [List.nil_append] at N'); (obtain ⟨hgz, hg1, hg2⟩ := gcd_facts _ _; rw [← hr] at hgz hg1 hg2); (try k_sweep))))
local macro_rules | `(tactic| walk_at "call ref") => `(tactic| (k_here; (with_reducible show wpAny _ _ (call (Value.ref 21) [Value.int 0 _, Value.int 0 _]) _ _ _); k_dflt (refine' PuC.use gcd00 ?B ?F ?X ?N ?T ?k ?P ?d ?u ?_; (case B => k_asm); (case F => k_asm); (case X => k_asm); (case N => k_asm); (case T => k_asm); (case k => first | exact rfl | assumption); (case P => trivial); (case d => ktr_room); (case u => ktr_units); k_whole; (rintro v tl h' tk' ⟨r, t, hv, hr, htl⟩ hlt F' N'); clear hlt; subst hv; subst htl; subst hr; (try simp only [List.nil_append] at N'); (try k_sweep))))
local macro_rules | `(tactic| walk_at "call ref") => `(tactic| (k_here; (with_reducible show wpAny _ _ (call (Value.ref 28) [Value.int _ _, Value.int _ _]) _ _ _); k_dflt (refine' PuP.use (arp_c ?g1 ?g2) ?B ?F ?X ?N ?T ?k ?P ?d ?u ?_; (case B => k_asm); (case F => k_asm); (case X => k_asm); (case N => k_asm); (case T => k_asm); (case k => first | exact rfl | assumption); (case g1 => exact Bd.nn (by assumption)); (case g2 => exact Bd.nn (by assumption)); (case P => trivial); (case d => ktr_room); (case u => ktr_units); k_whole; (rintro v tl h' tk' ⟨hv, htl⟩ hlt F' N'); clear hlt; subst hv; subst htl; (try simp only [List.nil_append] at N'); (try k_sweep))))
local macro_rules | `(tactic| walk_at "call ref") => `(tactic| (k_here; (with_reducible show wpAny _ _ (call (Value.ref 28) [Value.int 2 _, Value.int 4 _]) _ _ _); k_dflt (refine' PuP.use arp24 ?B ?F ?X ?N ?T ?k ?P ?d ?u ?_; (case B => k_asm); (case F => k_asm); (case X => k_asm); (case N => k_asm); (case T => k_asm); (case k => first | exact rfl | assumption); (case P => trivial); (case d => ktr_room); (case u => ktr_units); k_whole; (rintro v tl h' tk' ⟨hv, htl⟩ hlt F' N'); clear hlt; subst hv; subst htl; (try simp only [List.nil_append] at N'); (try k_sweep))))
local macro_rules | `(tactic| walk_at "call ref") => `(tactic| (k_here; (with_reducible show wpAny _ _ (call (Value.ref 28) [Value.int 2 _, Value.int 3 _]) _ _ _); k_dflt (refine' PuP.use arp23 ?B ?F ?X ?N ?T ?k ?P ?d ?u ?_; (case B => k_asm); (case F => k_asm); (case X => k_asm); (case N => k_asm); (case T => k_asm); (case k => first | exact rfl | assumption); (case P => trivial); (case d => ktr_room); (case u => ktr_units); k_whole; (rintro v tl h' tk' ⟨hv, htl⟩ hlt F' N'); clear hlt; subst hv; subst htl; (try simp only [List.nil_append] at N'); (try k_sweep))))
local macro_rules | `(tactic| walk_at "call ref") => `(tactic| (k_here; (with_reducible show wpAny _ _ (call (Value.ref 59) [Value.int _ _, Value.int _ _]) _ _ _); k_dflt (refine' PuP.use (factors_c ?g1 ?g2) ?B ?F ?X ?N ?T ?k ?P ?d ?u ?_; (case B => k_asm); (case F => k_asm); (case X => k_asm); (case N => k_asm); (case T => k_asm); (case k => first | exact rfl | assumption); (case g1 => exact Bd.mono (by assumption) (by decide)); (case g2 => exact Bd.mono (by assumption) (by decide)); (case P => trivial); (case d => ktr_room); (case u => ktr_units); k_whole; (rintro v tl h' tk' ⟨D, fa, fb, fc, ft, fu, fv, fn, hv, hfa, hfe, hfb, hfc, htl⟩ hlt F' N'); subst hv; subst htl; (replace hlt := hlt _ (List.mem_singleton.mpr rfl)); (try dsimp only at hlt); (try k_lt hlt); (try simp only [List.cons_append, List.nil_append] at N'); (try k_sweep))))
local macro_rules | `(tactic| walk_at "binaryOp Mult int int") => `(tactic| (k_here; first
  | (with_reducible refine' mul_bd ?a ?b ?c ?_; (case a => assumption); (case b => first | exact Bd.lit (by omega) (by omega)); (case c => decide); intro z hz hsz)
  | (with_reducible refine' mul_gen ?a ?b ?c ?_; (case a => assumption); (case b => exact Bd.sbd (by assumption)); (case c => decide); intro z hz hsz)))
set_option maxRecDepth 100000 in
set_option maxHeartbeats 8000000 in
theorem t01 : PySem.Challenge.rw_ys0002_01.Holds := hd (by
  k_go0
  all_goals try k_fold
  (rename kHook _ _ _ |>.says _ _ => hz1)
  (rename Ground _ _ _ _ _ _ _ _ _ => hz2)
  (rename Flt.MathXP _ _ _ => hz3)
  (rename LooseAre _ _ _ => hz4)
  (rename Glob _ _ _ _ _ _ _ _ => hz5)
  (rename Tables _ _ _ _ => hz6)
  (rename TopE _ _ _ _ => hz7)
  (rename TopW _ _ _ => hz8)
  (rename BMod _ _ _ _ _ => hz9)
  (rename Heap.CodeRec _ _ _ => hz10)
  clear hz10 hz9 hz8 hz7 hz6 hz5 hz4 hz3
  have hstop : LoopStop := {}
  k_steps
  refine Stop.go ?_
  rename Fr _ _ _ _ => lF
  rename News _ _ _ _ => lN
  rename SW _ _ => hSW
  rename @Ne Nat _ _ => hne
  rename IsRange _ _ _ _ _ _ _ _ => rgX
  with_unfolding_all refine' (j_range (σ := Addr × Addr × Int × Tok × List Value × Nat × Nat)
      (fun x => [(x.1, listOf #[.int x.2.2.1 x.2.2.2.1, .ref x.2.1] x.2.2.2.2.2.1), (x.2.1, listOf x.2.2.2.2.1.toArray x.2.2.2.2.2.2)])
      (fun x => [(Str.ofString "state", .ref x.1)]) [Str.ofString "one", Str.ofString "two", Str.ofString "kind", Str.ofString "part", Str.ofString "told", Str.ofString "found", Str.ofString "first", Str.ofString "second"]
      (fun _ x => SW x.2.2.1 x.2.2.2.2.1 ∧ @Ne Nat x.1 x.2.1)
      ⟨_, _, _, _, _, _, _⟩ (by rfl) rgX (by decide) (n := 3) rfl lF ?kn ?kk ?kp ?_ ?_)
  case kn => exact kst_newsOf lN (by kst_inAny)
  case kk => kst_all
  case kp => exact ⟨hSW, hne⟩
  all_goals clear lF lN hSW hne rgX
  · rintro ⟨st, c, xi, xti, xvs, xn1, xn2⟩ ii k t u h tk I oI hk' hi ⟨hw2, hne⟩ hoff2 F' N'
    dsimp only [kstB] at hw2 hne hoff2 F' N'
    obtain ⟨hf1, hf2, hf3⟩ := off2 hoff2
    clear hoff2
    k_steps
    all_goals (
      refine' jend ⟨_, _, _, _, _, _, _⟩ ?jq1 ?jq2 ?jq3 ?jq4 ?jq5 ?jq6 ?jq7 ?jq8
      case jq1 => set_option maxHeartbeats 400000 in (first | assumption | fail "F")
      case jq2 => set_option maxHeartbeats 400000 in (first | assumption | fail "N")
      case jq3 => set_option maxHeartbeats 400000 in (first | kst_in | fail "in")
      case jq4 => set_option maxHeartbeats 400000 in (first | kst_entry | fail "entry")
      case jq5 => set_option maxHeartbeats 400000 in (first | k_all | fail "all")
      case jq6 => set_option maxHeartbeats 400000 in (first | kst_all | fail "names")
      case jq7 => set_option maxHeartbeats 400000 in (first | kst_same | fail "same")
      case jq8 => set_option maxHeartbeats 400000 in (first | exact ⟨by with_reducible assumption, hne⟩ | fail "P"))
  · rintro ⟨st, c, xi, xti, xvs, xn1, xn2⟩ u h tk ⟨hw2, hne⟩ F' N'
    dsimp only [kstB] at hw2 hne F' N'
    k_steps)
end

end Mine

theorem PySem.Challenge.cw_ys0002_01_holds : PySem.Challenge.rw_ys0002_01.Holds := by
  exact Mine.t01
