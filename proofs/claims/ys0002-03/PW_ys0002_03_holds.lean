import PyProof.Rows.All
import Wide.All
import OpenK.AllK
import Wide.FinOn
import PySem.Challenge.RW_ys0002_03
open PySem PySem.W PyProof.Rows
set_option Elab.async false
set_option compiler.extract_closed false
set_option genSizeOf false
namespace Mine

section
/-! ### the top run upon a tree of objects, at once -/
noncomputable def topRunT (tb : String → Option Builtin) (p : Program) (w : World) (n₀ : Nat) (ann : Option Value) : Nat → SharedT → Thread → Option SharedT
  | 0, _, _ => none
  | n + 1, s, t => match through t with
    | true => some s
    | false => match stepOk n₀ ann t with
      | false => none
      | true => match stepT (denote tb) p w s t with
        | some (s', t') => topRunT tb p w n₀ ann n s' t'
        | none => none
theorem topRun_of {tb : String → Option Builtin} {p : Program} {w : World} {n₀ : Nat} {ann : Option Value} : ∀ {n : Nat} {s s' : SharedT} {t : Thread}, topRunT tb p w n₀ ann n s t = some s' → topRun tb p w n₀ ann n s.abs t = some s'.abs
  | 0, _, _, _, h => by cases h
  | n + 1, s, s', t, h => by
    unfold topRunT at h
    unfold topRun
    cases he : through t with
    | true => rw [he] at h; cases h; rfl
    | false =>
      rw [he] at h
      cases hk : stepOk n₀ ann t with
      | false => rw [hk] at h; cases h
      | true =>
        rw [hk] at h
        cases hs : stepT (denote tb) p w s t with
        | none => rw [hs] at h; cases h
        | some r => obtain ⟨s₂, t₂⟩ := r; rw [hs] at h; rw [stepT_spec hs]; exact topRun_of h
noncomputable def insAll : BT → Nat → List Obj → Option BT
  | T, _, [] => some T
  | T, n, o :: r => match ((T.ins n o).get n).isSome with
    | true => insAll (T.ins n o) (n + 1) r
    | false => none
theorem insAll_abs {life : Life} : ∀ {l : List Obj} {T T' : BT} {n : Nat}, insAll T n l = some T' → (absHeap T' (n + l.length) life).objs = (absHeap T n life).objs ++ l.toArray
  | [], T, T', n, h => by cases h; simp
  | o :: r, T, T', n, h => by
    unfold insAll at h
    cases hg : ((T.ins n o).get n).isSome with
    | false => rw [hg] at h; cases h
    | true =>
      rw [hg] at h
      have ih := insAll_abs (life := life) h
      have e := absHeap_ins (life := life) hg
      rw [show n + (o :: r).length = n + 1 + r.length by rw [List.length_cons]; omega, ih, e]
      unfold Heap.push
      simp
theorem insAll_heap {h : Heap} {T : BT} (e : insAll .nil 0 h.objs.toList = some T) : absHeap T h.objs.size h.life = h := by
  have := insAll_abs (life := h.life) e
  rw [Nat.zero_add, Array.length_toList] at this
  have e2 : (absHeap .nil 0 h.life).objs = #[] := rfl
  rw [e2] at this
  obtain ⟨objs, life⟩ := h
  unfold absHeap at this ⊢
  dsimp only at this ⊢
  rw [this]
  simp
noncomputable def bootT (P : Params) : BT := (insAll .nil 0 (boot_heap P).objs.toList).getD .nil
noncomputable def bootS (w : World) (os : OsState) : SharedT := ⟨bootT w.params, (boot_heap w.params).objs.size, (boot_heap w.params).life, Array.mk [], boot_drawn, boot_toks, os⟩
theorem LeftO.of_tree {p q : Program} {loose : List Str} {Xt : Shared → Bool} {α : Type} {Yf : Shared → α} {Ya : World → α} {N : Nat} {g0 : Bool} {m₀ : Nat} {ann : Option Value}
    (open_ : ∀ w : World, (fencedOpening treeTable p w N).map (fun s => (s.heap, s.gens, s.drawn, s.toks)) = some (boot_heap w.params, Array.mk [], boot_drawn, boot_toks))
    (ins : ∀ w : World, (insAll .nil 0 (boot_heap w.params).objs.toList).isSome = true)
    (size : ∀ w : World, ((boot_heap w.params).isNs mainGlobals, (boot_heap w.params).objs.size, (boot_heap w.params).nsMap mainGlobals "__annotations__") = (true, m₀, ann))
    (run : ∀ (w : World) (os : OsState), (topRunT treeTable p w m₀ ann N (bootS w os) (topStub p)).map (fun S => (staticsOk (importedModules p.main.body) (boot_heap w.params) S.abs.heap && namesBound p S.abs.heap && gensDone S.abs && laidKept (boot_heap w.params) S.abs.heap,
        openSeen q loose (importedModules p.main.body) Xt g0 S.abs, Yf S.abs)) = some (true, openGood q loose, Ya w)) : LeftO p q loose Xt Yf Ya N g0 := fun w => by
  obtain ⟨⟨h, gs, d, k, os⟩, e, e'⟩ := Option.map_eq_some_iff.mp (open_ w)
  obtain ⟨rfl, rfl, rfl, rfl⟩ : h = boot_heap w.params ∧ gs = Array.mk [] ∧ d = boot_drawn ∧ k = boot_toks := by simpa using e'
  obtain ⟨z1, z2, z3⟩ : _ ∧ _ ∧ _ := by simpa only [Prod.mk.injEq] using size w
  obtain ⟨T, hT⟩ := Option.isSome_iff_exists.mp (ins w)
  have hb : (bootS w os).abs = ⟨boot_heap w.params, Array.mk [], boot_drawn, boot_toks, os⟩ := by
    unfold bootS bootT SharedT.abs
    rw [hT]
    dsimp only [Option.getD_some]
    rw [insAll_heap hT]
  obtain ⟨S, r1, r2⟩ := Option.map_eq_some_iff.mp (run w os)
  obtain ⟨l1, l2, l3⟩ : _ ∧ _ ∧ _ := by simpa only [Prod.mk.injEq] using r2
  have r := topRun_of r1
  rw [hb] at r
  have t : topFrom treeTable p w N ⟨boot_heap w.params, Array.mk [], boot_drawn, boot_toks, os⟩ = some S.abs := by
    unfold topFrom
    dsimp only
    rw [z1, z2, z3, r]
    show (match staticsOk (importedModules p.main.body) (boot_heap w.params) S.abs.heap && namesBound p S.abs.heap && gensDone S.abs && laidKept (boot_heap w.params) S.abs.heap with | true => _ | false => _) = _
    rw [l1]
  unfold openEnds
  rw [e]
  show (topFrom treeTable p w N _).map _ = _
  rw [t]
  exact congrArg some (Prod.ext l2 l3)
end

noncomputable def keepS (s : Stmt) : Bool := match s with
  | .Assign .. => false
  | .FunctionDef n .. => !(n == Str.ofString "int2bytes")
  | _ => true
noncomputable def viewS (p : Program) : Program := { p with main := { p.main with body := p.main.body.filter keepS } }
theorem open0 : ∀ w : World, (fencedOpening treeTable PySem.Challenge.rw_ys0002_03.row.prog w 9000).map (fun s => (s.heap, s.gens, s.drawn, s.toks)) = some (boot_heap w.params, Array.mk [], boot_drawn, boot_toks) :=
  boot_open (by kernel_rfl) (by decide +kernel) (fun s => by kernel_rfl)
theorem ins0 : ∀ w : World, (insAll .nil 0 (boot_heap w.params).objs.toList).isSome = true := fun w => by kernel_rfl
theorem size0 : ∀ w : World, ((boot_heap w.params).isNs mainGlobals, (boot_heap w.params).objs.size, (boot_heap w.params).nsMap mainGlobals "__annotations__") = (true, 11, some (.ref 6)) := fun w => by kernel_rfl
theorem said : OpenLaw.wellSaid PySem.Challenge.rw_ys0002_03 = true := by kernel_rfl
local macro_rules | `(tactic| o_law) => `(tactic| refine holds_law said (fun _ => ?_))
local macro_rules | `(tactic| o_head $H) => `(tactic| (
  refine holds_open (q := viewS PySem.Challenge.rw_ys0002_03.prog) (loose := [Str.ofString "NotRelativePrimeError", Str.ofString "int2bytes"]) (Xt := fun s => xlAt (viewS PySem.Challenge.rw_ys0002_03.prog) [] s && recOk (RowW.records (OpenRow.toRowW (PySem.Challenge.rw_ys0002_03.row))) s) (XP := XL (viewS PySem.Challenge.rw_ys0002_03.prog) []) (Yf := Hook.obs $H) (Ya := Hook.val $H) (YP := Hook.says $H) (N := 9000) ?hl (Hook.of $H) (Hook.keeps $H) (fun s e => xl_of s (Bool.and_eq_true_iff.mp e).1) XL.keeps (by rfl) (by rfl) (by rfl) (fun s e => recFacts_of (Bool.and_eq_true_iff.mp e).2) (by rfl) (by first | assumption | decide +kernel) (by decide +kernel) ⟨rfl, rfl, rfl, rfl, rfl, by decide +kernel⟩ ?hw ?hc
  (case hl => exact LeftO.of_tree open0 ins0 size0 (fun w os => by kernel_rfl))))
set_option maxRecDepth 100000 in
set_option maxHeartbeats 8000000 in
open_top hd for PySem.Challenge.rw_ys0002_03

open PySem.Calls

/-! ### plain facts -/
theorem fmod_lo {a b : Int} (h : 1 ≤ b) : 0 ≤ a.fmod b := Int.fmod_nonneg_of_pos a (by omega)
theorem fmod_hi {a b : Int} (h : 1 ≤ b) : a.fmod b < b := Int.fmod_lt_of_pos a (by omega)
theorem ipow_mono {b : Int} (hb : 1 ≤ b) {k l : Nat} (h : k ≤ l) : b ^ k ≤ b ^ l := by
  induction h with
  | refl => exact Int.le_refl _
  | @step n _ ih =>
    rw [Int.pow_succ]
    have : b ^ n * 1 ≤ b ^ n * b := Int.mul_le_mul_of_nonneg_left hb (Int.le_of_lt (Int.pow_pos (by omega)))
    omega
/-- a number from 0 on, below a power of 2 -/
noncomputable def Bd (k : Nat) (r : Int) : Prop := 0 ≤ r ∧ r < 2 ^ k
theorem Bd.nn {k : Nat} {r : Int} (h : Bd k r) : 0 ≤ r := h.1
theorem Bd.mono {k l : Nat} {r : Int} (h : Bd k r) (hl : k ≤ l) : Bd l r :=
  ⟨h.1, Int.lt_of_lt_of_le h.2 (ipow_mono (by decide) hl)⟩
theorem Bd.of_lt {k : Nat} {r b : Int} (h0 : 0 ≤ r) (h1 : r < b) (hb : b ≤ 2 ^ k) : Bd k r := ⟨h0, Int.lt_of_lt_of_le h1 hb⟩
/-- a number of any sign whose amount is below a power of 2 -/
noncomputable def SBd (k : Nat) (x : Int) : Prop := x.natAbs < 2 ^ k
theorem SBd.mono {k l : Nat} {x : Int} (h : SBd k x) (hl : k ≤ l) : SBd l x := Nat.lt_of_lt_of_le h (Nat.pow_le_pow_right (by decide) hl)
theorem Bd.sbd {k : Nat} {x : Int} (h : Bd k x) : SBd k x := by
  have h0 := h.1
  have h1 := h.2
  unfold SBd
  have e : ((2 ^ k : Nat) : Int) = (2 : Int) ^ k := by simp
  omega
theorem SBd.mul {k l : Nat} {x y : Int} (h : SBd k x) (g : SBd l y) : SBd (k + l) (x * y) := by
  unfold SBd at *
  rw [Int.natAbs_mul, Nat.pow_add]
  exact Nat.mul_lt_mul'' h g
theorem SBd.neg {k : Nat} {x : Int} (h : SBd k x) : SBd k (-x) := by unfold SBd at *; rwa [Int.natAbs_neg]
theorem SBd.add {k l : Nat} {x y : Int} (h : SBd k x) (g : SBd l y) : SBd (k + l + 1) (x + y) := by
  have h1 := h.mono (Nat.le_add_right k l)
  have g1 := g.mono (Nat.le_add_left l k)
  unfold SBd at *
  rw [Nat.pow_succ]
  generalize 2 ^ (k + l) = P at h1 g1 ⊢
  omega
theorem SBd.sub {k l : Nat} {x y : Int} (h : SBd k x) (g : SBd l y) : SBd (k + l + 1) (x - y) := by
  rw [Int.sub_eq_add_neg]; exact h.add g.neg
theorem SBd.lit {x : Int} (h : x.natAbs < 1073741824) : SBd 30 x := h
theorem SBd.abs {k : Nat} {x : Int} (h : SBd k x) : Bd k (if x < 0 then -x else x) := by
  unfold SBd at h
  have e : ((2 ^ k : Nat) : Int) = (2 : Int) ^ k := by simp
  constructor
  · split <;> omega
  · split <;> omega
theorem SBd.bits {k : Nat} {x : Int} (h : SBd k x) : Builtin.Int.intBits x ≤ k := by
  unfold SBd at h
  unfold Builtin.Int.intBits
  split
  · exact Nat.zero_le _
  · rename_i hx
    have h0 : x.natAbs ≠ 0 := by simpa using hx
    exact (Nat.log2_lt h0).mpr h
theorem mulOk {k l : Nat} {x y : Int} (h : SBd k x) (g : SBd l y) (hk : k + l ≤ 1000000) : IntMulOk x y :=
  PyProof.Rows.mulOk_of_bits h.bits g.bits (Nat.le_trans hk (by decide))
theorem bits_hi (x : Int) : x.natAbs < 2 ^ Builtin.Int.intBits x := by
  unfold Builtin.Int.intBits
  split
  · rename_i h; have : x = 0 := by simpa using h
    subst this; decide
  · rename_i hx
    have h0 : x.natAbs ≠ 0 := by simpa using hx
    exact (Nat.log2_lt h0).mp (Nat.lt_succ_self _)
theorem bits_lo {x : Int} (h : x ≠ 0) : 0 < Builtin.Int.intBits x ∧ 2 ^ (Builtin.Int.intBits x - 1) ≤ x.natAbs := by
  unfold Builtin.Int.intBits
  rw [if_neg (by simpa using h)]
  exact ⟨Nat.succ_pos _, Nat.log2_self_le (by omega)⟩
theorem pow_cast (b k : Nat) : ((b ^ k : Nat) : Int) = (b : Int) ^ k := by simp
theorem SBd.log2 {k : Nat} {x : Int} (h : SBd k x) (hx : x ≠ 0) (hk : k ≤ 9000) : x.natAbs.log2 < 9000 := by
  have h1 := h.mono hk
  exact (Nat.log2_lt (by omega)).mpr h1
/-- the quotient, rounded up -/
noncomputable def cdiv (a b : Int) : Int := if Int.fmod a b = 0 then Int.fdiv a b else Int.fdiv a b + 1
theorem cdiv_of_ne {a b : Int} (h : Int.fmod a b ≠ 0) : Int.fdiv a b + 1 = cdiv a b := by unfold cdiv; rw [if_neg h]
theorem cdiv_of_eq {a b : Int} (h : Int.fmod a b = 0) : Int.fdiv a b = cdiv a b := by unfold cdiv; rw [if_pos h]
/-- the least count of octets, 1 at least -/
noncomputable def bsz (x : Int) : Int := if x = 0 then 1 else cdiv (Builtin.Int.intBits x : Int) 8
theorem bsz_zero {x : Int} (h : x = 0) : 1 = bsz x := by unfold bsz; rw [if_pos h]
theorem bsz_ne {x : Int} (h : x ≠ 0) : cdiv (Builtin.Int.intBits x : Int) 8 = bsz x := by unfold bsz; rw [if_neg h]
theorem fdiv_amount (a : Int) {b : Int} (_ : b ≠ 0) : (a.fdiv b).natAbs ≤ a.natAbs + 2 := by
  have h := Int.natAbs_ediv_le_natAbs a b
  rw [Int.fdiv_eq_ediv]
  split
  · rw [Int.sub_zero]; exact Nat.le_trans h (Nat.le_add_right _ _)
  · exact Nat.le_trans (Int.natAbs_sub_le _ _) (Nat.add_le_add h (by decide))
theorem fdiv_sbd {k : Nat} {a b : Int} (ha : SBd k a) (hb : b ≠ 0) : SBd (k + 2) (a.fdiv b) := by
  have h1 := fdiv_amount a hb
  unfold SBd at *
  rw [Nat.pow_add]
  have : 0 < 2 ^ k := Nat.two_pow_pos k
  omega

/-! ### what a contract is told -/
/-- the state of a script: the place, the cells -/
structure WF (i : Int) (ns : List Int) : Prop where
  i0 : 0 ≤ i
  ne : 0 < ns.length
  le : ns.length ≤ 63
  nn : ∀ n ∈ ns, 0 ≤ n

/-- the cells under the state's list are ints, as WF says -/
noncomputable def SW (i : Int) (vs : List Value) : Prop := ∃ ns, IntsAre vs ns ∧ WF i ns

/-- a contract of a def that turns the script's state alone -/
noncomputable abbrev StC (prog : Program) (w : World) (K : Frag) (p : Program) (loose : List Str) (mean : ExcName → Option Value) (mg mb : Str → Option Value) (fa : Addr) (args : Addr → List Value) (bd : Nat) (Post : Value → Prop) : Prop :=
  ∀ (dp un : Nat) (gd : Option (List Code)) (cn : Str) (cs : Scope) (a : Addr) (ccd : Value) (cl : List (Str × Addr)) (outer : List Env) (A₀ : Around) (base h₀ : Heap) (L : Addr) (m : Str → Option Value) (s : Shared) (Q E : Value → Shared → Prop)
    (st c : Addr) (i : Int) (ti : Tok) (vs : List Value) (n1 n2 : Nat) (rest : List (Addr × Obj)),
    Below A₀ base outer h₀ → Fr h₀ L s.heap m → K.In h₀ → News h₀ L s.heap ((st, listOf #[.int i ti, .ref c] n1) :: (c, listOf vs.toArray n2) :: rest) → Top p loose mean mg mb h₀ → cs.kind = .function →
    @Ne Nat st c → OwnOff rest [st, c] → SW i vs → dp + bd < recursionLimit → un + 10 * bd < cLine →
    (∀ v i' ti' vs' n1' n2' h' tk', SW i' vs' → Post v → Fr h₀ L h' m → News h₀ L h' ((st, listOf #[.int i' ti', .ref c] n1') :: (c, listOf vs'.toArray n2') :: rest) → Q v { s with heap := h', toks := tk' }) →
    wpAny (model prog w) (ktrTop dp un gd cn cs L a ccd cl outer) (call (.ref fa) (args st)) Q E s

/-- a contract of a def that turns nothing; what it makes stands ahead -/
noncomputable abbrev PuC (prog : Program) (w : World) (K : Frag) (p : Program) (loose : List Str) (mean : ExcName → Option Value) (mg mb : Str → Option Value) (fa : Addr) (args : List Value) (bd : Nat) (Pre : Heap → List (Addr × Obj) → Prop) (Post : Value → List (Addr × Obj) → Prop) : Prop :=
  ∀ (dp un : Nat) (gd : Option (List Code)) (cn : Str) (cs : Scope) (a : Addr) (ccd : Value) (cl : List (Str × Addr)) (outer : List Env) (A₀ : Around) (base h₀ : Heap) (L : Addr) (m : Str → Option Value) (s : Shared) (Q E : Value → Shared → Prop)
    (news : List (Addr × Obj)),
    Below A₀ base outer h₀ → Fr h₀ L s.heap m → K.In h₀ → News h₀ L s.heap news → Top p loose mean mg mb h₀ → cs.kind = .function →
    Pre base news → dp + bd < recursionLimit → un + 10 * bd < cLine →
    (∀ v tl h' tk', Post v tl → (∀ q ∈ tl, ∀ p ∈ news, p.1 < q.1) → Fr h₀ L h' m → News h₀ L h' (tl ++ news) → Q v { s with heap := h', toks := tk' }) →
    wpAny (model prog w) (ktrTop dp un gd cn cs L a ccd cl outer) (call (.ref fa) args) Q E s

/-- a contract of a def that catches, called by the law itself -/
noncomputable abbrev TrC (prog : Program) (w : World) (K : Frag) (p : Program) (loose : List Str) (mean : ExcName → Option Value) (mg mb : Str → Option Value) (fa : Addr) (args : List Value) (bd : Nat) (Pre : Heap → List (Addr × Obj) → Prop) (Post : Value → List (Addr × Obj) → Prop) : Prop :=
  ∀ (dp un : Nat) (gd : Option (List Code)) (cn : Str) (cs : Scope) (a : Addr) (ccd : Value) (A₀ : Around) (base h₀ : Heap) (L : Addr) (m : Str → Option Value) (s : Shared) (Q E : Value → Shared → Prop)
    (news : List (Addr × Obj)),
    Below A₀ base [] h₀ → Fr h₀ L s.heap m → K.In h₀ → News h₀ L s.heap news → Top p loose mean mg mb h₀ → cs.kind = .function →
    K.In base → Top p loose mean mg mb base → Pre base news → dp + bd < recursionLimit → un + 10 * bd < cLine →
    (∀ v tl h' tk', Post v tl → (∀ q ∈ tl, ∀ p ∈ news, p.1 < q.1) → Fr h₀ L h' m → News h₀ L h' (tl ++ news) → Q v { s with heap := h', toks := tk' }) →
    wpAny (model prog w) (ktrTop dp un gd cn cs L a ccd [] []) (call (.ref fa) args) Q E s

theorem updF_mem {d : Addr} {o o' : Obj} : ∀ {l : List (Addr × Obj)} {g : Obj → List (Addr × Obj)}, UpdF d o l g → ∀ p ∈ g o', p = (d, o') ∨ (p ∈ l ∧ p.1 ≠ d)
  | _, _, .head h, p, hp => by
    rcases List.mem_cons.mp hp with rfl | hp
    · exact .inl rfl
    · exact .inr ⟨List.mem_cons_of_mem _ hp, h p hp⟩
  | _, _, .tail h r, p, hp => by
    rcases List.mem_cons.mp hp with rfl | hp
    · exact .inr ⟨List.mem_cons_self, h⟩
    · rcases updF_mem r p hp with e | e
      · exact .inl e
      · exact .inr ⟨List.mem_cons_of_mem _ e.1, e.2⟩
theorem updF_here {d : Addr} {o o' : Obj} : ∀ {l : List (Addr × Obj)} {g : Obj → List (Addr × Obj)}, UpdF d o l g → (d, o) ∈ l ∧ (d, o') ∈ g o'
  | _, _, .head _ => ⟨List.mem_cons_self, List.mem_cons_self⟩
  | _, _, .tail _ r => ⟨List.mem_cons_of_mem _ (updF_here (o' := o') r).1, List.mem_cons_of_mem _ (updF_here r).2⟩
theorem updF_keeps {d : Addr} {o o' : Obj} : ∀ {l : List (Addr × Obj)} {g : Obj → List (Addr × Obj)}, UpdF d o l g → ∀ p ∈ l, p.1 ≠ d → p ∈ g o'
  | _, _, .head _, p, hp, hd => by
    rcases List.mem_cons.mp hp with rfl | hp
    · exact absurd rfl hd
    · exact List.mem_cons_of_mem _ hp
  | _, _, .tail _ r, p, hp, hd => by
    rcases List.mem_cons.mp hp with rfl | hp
    · exact List.mem_cons_self
    · exact List.mem_cons_of_mem _ (updF_keeps r p hp hd)

theorem two_canon {news : List (Addr × Obj)} {g1 : Obj → List (Addr × Obj)} {g2 : Obj → Obj → List (Addr × Obj)} {st c : Addr} {o1 o2 : Obj} (U1 : UpdF st o1 news g1) (U2 : ∀ o, UpdF c o2 (g1 o) (g2 o)) :
    ∃ rest, @Ne Nat st c ∧ OwnOff rest [st, c] ∧ (∀ p ∈ (st, o1) :: (c, o2) :: rest, p ∈ news) ∧ ∀ o1' o2', ∀ p ∈ g2 o1' o2', p ∈ (st, o1') :: (c, o2') :: rest := by
  have hsc : @Ne Nat st c := by
    obtain ⟨pre, post, e, _, a, b⟩ := (U2 o1).split
    have h1 : (st, o1) ∈ g1 o1 := (updF_here U1).2
    have hne : o1 ≠ o2 ∨ True := .inr trivial
    intro hsc
    have h3 := (updF_here (o' := o1) U1).2
    have h2 : (c, o2) ∈ g1 o1 := (updF_here (o' := o2) (U2 o1)).1
    -- use an object that parts the two
    let oX : Obj := { cls := .type "x", data := .plain, dict := none, slots := #[] }
    let oY : Obj := { cls := .type "y", data := .plain, dict := none, slots := #[] }
    have key : ∀ o, o = o2 := by
      intro o
      have h4 : (st, o) ∈ g1 o := (updF_here (o' := o) U1).2
      obtain ⟨pre, post, e, _, a, b⟩ := (U2 o).split
      rw [e] at h4
      rcases List.mem_append.mp h4 with h5 | h5
      · exact absurd hsc (a _ h5)
      · rcases List.mem_cons.mp h5 with h6 | h6
        · exact congrArg Prod.snd h6
        · exact absurd hsc (b _ h6)
    have hx : oX = oY := (key oX).trans (key oY).symm
    have := congrArg Obj.cls hx
    simp [oX, oY] at this
  refine ⟨news.filter (fun p => decide (p.1 ≠ st) && decide (p.1 ≠ c)), hsc, ?_, ?_, ?_⟩
  · intro p hp b hb
    have h := (List.mem_filter.mp hp).2
    simp only [Bool.and_eq_true, decide_eq_true_eq] at h
    rcases List.mem_cons.mp hb with rfl | hb
    · exact h.1
    · rcases List.mem_cons.mp hb with rfl | hb
      · exact h.2
      · cases hb
  · intro p hp
    rcases List.mem_cons.mp hp with rfl | hp
    · exact (updF_here (o' := o1) U1).1
    · rcases List.mem_cons.mp hp with rfl | hp
      · have h2 : (c, o2) ∈ g1 o1 := (updF_here (o' := o2) (U2 o1)).1
        rcases updF_mem U1 _ h2 with h | h
        · exact absurd (congrArg Prod.fst h).symm hsc
        · exact h.1
      · exact (List.mem_filter.mp hp).1
  · intro o1' o2' p hp
    rcases updF_mem (U2 o1') p hp with h | ⟨h, hc⟩
    · exact h ▸ List.mem_cons_of_mem _ List.mem_cons_self
    · rcases updF_mem U1 p h with h | ⟨h, hs⟩
      · exact h ▸ List.mem_cons_self
      · exact List.mem_cons_of_mem _ (List.mem_cons_of_mem _ (List.mem_filter.mpr ⟨h, by simp [hs, hc]⟩))

section
variable {prog : Program} {w : World} {K : Frag} {p : Program} {loose : List Str} {mean : ExcName → Option Value} {mg mb : Str → Option Value} {fa : Addr}
  {dp un : Nat} {gd : Option (List Code)} {cn : Str} {cs : Scope} {a : Addr} {ccd : Value} {cl : List (Str × Addr)} {outer : List Env} {A₀ : Around} {base h₀ : Heap} {L : Addr} {m : Str → Option Value} {s : Shared} {Q E : Value → Shared → Prop}

theorem StC.use {args : Addr → List Value} {bd : Nat} {Post : Value → Prop} {st c : Addr} {i : Int} {ti : Tok} {vs : List Value} {n1 n2 : Nat} {news : List (Addr × Obj)} {g1 : Obj → List (Addr × Obj)} {g2 : Obj → Obj → List (Addr × Obj)}
    (H : StC prog w K p loose mean mg mb fa args bd Post)
    (B : Below A₀ base outer h₀) (F : Fr h₀ L s.heap m) (X : K.In h₀) (N : News h₀ L s.heap news) (T : Top p loose mean mg mb h₀) (hk : cs.kind = .function)
    (U1 : UpdF st (listOf #[.int i ti, .ref c] n1) news g1) (U2 : ∀ o, UpdF c (listOf vs.toArray n2) (g1 o) (g2 o)) (hw : SW i vs) (hd : dp + bd < recursionLimit) (hu : un + 10 * bd < cLine)
    (ret : ∀ v i' ti' vs' n1' n2' h' tk', SW i' vs' → Post v → Fr h₀ L h' m → News h₀ L h' (g2 (listOf #[.int i' ti', .ref c] n1') (listOf vs'.toArray n2')) → Q v { s with heap := h', toks := tk' }) :
    wpAny (model prog w) (ktrTop dp un gd cn cs L a ccd cl outer) (call (.ref fa) (args st)) Q E s := by
  obtain ⟨rest, hsc, hoff, h1, h2⟩ := two_canon U1 U2
  exact H dp un gd cn cs a ccd cl outer A₀ base h₀ L m s Q E st c i ti vs n1 n2 rest B F X (fun p hp => N p (h1 p hp)) T hk hsc hoff hw hd hu
    fun v i' ti' vs' n1' n2' h' tk' a1 a2 a3 a4 => ret v i' ti' vs' n1' n2' h' tk' a1 a2 a3 fun p hp => a4 p (h2 _ _ p hp)

theorem PuC.use {args : List Value} {bd : Nat} {Pre : Heap → List (Addr × Obj) → Prop} {Post : Value → List (Addr × Obj) → Prop} {news : List (Addr × Obj)}
    (H : PuC prog w K p loose mean mg mb fa args bd Pre Post)
    (B : Below A₀ base outer h₀) (F : Fr h₀ L s.heap m) (X : K.In h₀) (N : News h₀ L s.heap news) (T : Top p loose mean mg mb h₀) (hk : cs.kind = .function) (hp : Pre base news) (hd : dp + bd < recursionLimit) (hu : un + 10 * bd < cLine)
    (ret : ∀ v tl h' tk', Post v tl → (∀ q ∈ tl, ∀ p ∈ news, p.1 < q.1) → Fr h₀ L h' m → News h₀ L h' (tl ++ news) → Q v { s with heap := h', toks := tk' }) :
    wpAny (model prog w) (ktrTop dp un gd cn cs L a ccd cl outer) (call (.ref fa) args) Q E s :=
  H dp un gd cn cs a ccd cl outer A₀ base h₀ L m s Q E news B F X N T hk hp hd hu ret
end

section
variable {prog : Program} {w : World} {K : Frag} {p : Program} {loose : List Str} {mean : ExcName → Option Value} {mg mb : Str → Option Value} {fa : Addr}
  {dp un : Nat} {gd : Option (List Code)} {cn : Str} {cs : Scope} {a : Addr} {ccd : Value} {A₀ : Around} {base h₀ : Heap} {L : Addr} {m : Str → Option Value} {s : Shared} {Q E : Value → Shared → Prop}
theorem TrC.use {args : List Value} {bd : Nat} {Pre : Heap → List (Addr × Obj) → Prop} {Post : Value → List (Addr × Obj) → Prop} {news : List (Addr × Obj)}
    (H : TrC prog w K p loose mean mg mb fa args bd Pre Post)
    (B : Below A₀ base [] h₀) (F : Fr h₀ L s.heap m) (X : K.In h₀) (N : News h₀ L s.heap news) (T : Top p loose mean mg mb h₀) (hk : cs.kind = .function) (XB : K.In base) (TB : Top p loose mean mg mb base) (hp : Pre base news) (hd : dp + bd < recursionLimit) (hu : un + 10 * bd < cLine)
    (ret : ∀ v tl h' tk', Post v tl → (∀ q ∈ tl, ∀ p ∈ news, p.1 < q.1) → Fr h₀ L h' m → News h₀ L h' (tl ++ news) → Q v { s with heap := h', toks := tk' }) :
    wpAny (model prog w) (ktrTop dp un gd cn cs L a ccd [] []) (call (.ref fa) args) Q E s :=
  H dp un gd cn cs a ccd A₀ base h₀ L m s Q E news B F X N T hk XB TB hp hd hu ret
end

/-! ### a place where the walk halts for a line of my own -/
noncomputable def Stop (P : Prop) : Prop := P
theorem Stop.here {P : Prop} (h : Stop P) : P := h
theorem Stop.go {P : Prop} (h : P) : Stop P := h
structure LoopStop : Prop where

/-! ### loops -/
section
variable {prog : Program} {w : World} {A : Around} {E : Value → Shared → Prop} {s : Shared} {env : Env} {h₀ : Heap} {x : Str} {body : List Stmt} {Q : Flow → Shared → Prop}

/-- what stands behind a turn -/
noncomputable def JEnd {σ : Type} (h₀ : Heap) (L : Addr) (s : Shared) (x : Str) (Led : σ → List (Addr × Obj)) (ps : σ → List (Str × Value)) (stored : List Str) (m₀ : Str → Option Value) (P : σ → Prop) (I : Addr) (oI : Obj) (s₂ : Shared) : Prop :=
  ∃ (c' : σ) (h' : Heap) (tk : Nat) (m' : Str → Option Value) (news' : List (Addr × Obj)), s₂ = { s with heap := h', toks := tk } ∧ Fr h₀ L h' m' ∧ News h₀ L h' news' ∧ (∀ p ∈ Led c', p ∈ news') ∧ (I, oI) ∈ news' ∧ (∀ p ∈ Led c', p.1 ≠ I) ∧
    (∀ p ∈ ps c', m' p.1 = some p.2) ∧ (∀ z, z ≠ x → (∀ p ∈ ps c', z ≠ p.1) → stored.contains z = false → m' z = m₀ z) ∧ P c'
noncomputable def JPost {σ : Type} (h₀ : Heap) (L : Addr) (s : Shared) (x : Str) (Led : σ → List (Addr × Obj)) (ps : σ → List (Str × Value)) (stored : List Str) (m₀ : Str → Option Value) (P : σ → Prop) (I : Addr) (oI : Obj) (Q : Flow → Shared → Prop) (f : Flow) (s₂ : Shared) : Prop :=
  match f with
  | .ret v => Q (.ret v) s₂
  | .brk => Q .next s₂
  | _ => JEnd h₀ L s x Led ps stored m₀ P I oI s₂
theorem jend {σ : Type} {L : Addr} {Led : σ → List (Addr × Obj)} {ps : σ → List (Str × Value)} {stored : List Str} {m₀ m' : Str → Option Value} {P : σ → Prop} {I : Addr} {oI : Obj} {h' : Heap} {tk : Nat} {news' : List (Addr × Obj)} (c' : σ)
    (F : Fr h₀ L h' m') (N : News h₀ L h' news') (hn : ∀ p ∈ Led c', p ∈ news') (hi : (I, oI) ∈ news') (ha : ∀ p ∈ Led c', p.1 ≠ I) (hk : ∀ p ∈ ps c', m' p.1 = some p.2) (hr : ∀ z, z ≠ x → (∀ p ∈ ps c', z ≠ p.1) → stored.contains z = false → m' z = m₀ z) (hp : P c') :
    JEnd h₀ L s x Led ps stored m₀ P I oI { s with heap := h', toks := tk } := ⟨c', h', tk, m', news', rfl, F, N, hn, hi, ha, hk, hr, hp⟩

theorem j_range {σ : Type} {r : Addr} {a₀ b₀ : Int} {t₀ u₀ v₀ : Tok} {n : Nat} {m₀ : Str → Option Value} (Led : σ → List (Addr × Obj)) (ps : σ → List (Str × Value)) (stored : List Str) (P : Nat → σ → Prop) (c₀ : σ)
    (hh : A.handled = none) (hr : IsRange s.heap r a₀ b₀ 1 t₀ u₀ v₀) (hsmall : Builtin.Range.small a₀ b₀ 1 = true) (hn : Builtin.Range.rangeSize a₀ b₀ 1 = (n : Int)) (F : Fr h₀ env.locals s.heap m₀) (N : News h₀ env.locals s.heap (Led c₀)) (hk : ∀ p ∈ ps c₀, m₀ p.1 = some p.2) (hp : P 0 c₀)
    (turn : ∀ (c : σ) (i : Nat) (k : Int) t (u : Str → Option Value) h tk I oI, k = a₀ + (i : Int) → i < n → P i c → (∀ p ∈ Led c, p.1 ≠ I) →
      Fr h₀ env.locals h (fun y => if y = x then some (.int k t) else kstB (fun z => if stored.contains z then u z else m₀ z) (ps c) y) → News h₀ env.locals h ((I, oI) :: Led c) →
      wpAny (model prog w) A (execs body env) (JPost h₀ env.locals s x Led ps stored m₀ (P (i + 1)) I oI Q) E { s with heap := h, toks := tk })
    (done : ∀ (c : σ) (u : Str → Option Value) h tk, P n c → Fr h₀ env.locals h (fun y => if y = x then u y else kstB (fun z => if stored.contains z then u z else m₀ z) (ps c) y) → News h₀ env.locals h (Led c) → Q .next { s with heap := h, toks := tk }) :
    wpAny (model prog w) A (pyIter (.ref r)) (fun it s₂ => LoopAtV prog w A h₀ env x body Q E it s₂) E s := by
  refine wpAny_pyIter_range hr hsmall ?_
  have W : Walks prog w A s.heap.objs.size [s.heap.objs.size] [s.heap.objs.size] n (fun i v => i < n ∧ ∃ t, v = .int (a₀ + i * 1) t)
      (fun i h => IsRangeIter h s.heap.objs.size (a₀ + (i : Nat) * 1) ((n : Int) - (i : Nat)) 1) := (Walks.range hh _ a₀ 1 n).bound
  let J : Nat → (Str → Option Value) → List (Addr × Obj) → Prop := fun i m nx => ∃ c : σ, nx = Led c ∧ (∀ p ∈ ps c, m p.1 = some p.2) ∧ (∀ z, z ≠ x → (∀ p ∈ ps c, z ≠ p.1) → stored.contains z = false → m z = m₀ z) ∧ P i c
  refine ⟨_, _, _, n, _, _, m₀, Led c₀, J, rfl, W, ?_, ?_, ?_, (by show IsRangeIter _ _ _ _ _; rw [hn]; simpa using Heap.get?_push_size _ rfl), F.push _, (fun p hp => ⟨Heap.get?_push_of_some _ (N p hp).1, (N p hp).2⟩), ⟨c₀, rfl, hk, fun _ _ _ _ => rfl, hp⟩, ?_, ?_⟩
  · intro hm
    exact absurd F.ns.lt ((List.mem_singleton.mp hm) ▸ Nat.lt_irrefl _)
  · intro b hb
    rw [List.mem_singleton.mp hb]
    exact next_is_new F
  · intro p hp hI
    exact absurd (Heap.lt_size (N p hp).1) ((List.mem_singleton.mp hI) ▸ Nat.lt_irrefl _)
  · rintro i v m₁ news₁ s₁ own ⟨hh', tk', rfl⟩ hin ⟨_, t, rfl⟩ ⟨c, rfl, h1, h2, hP⟩ hoff hown hget hfp hst F₁ N₁
    have hI0 : h₀.get? s.heap.objs.size = none := next_is_new F
    obtain ⟨oI, hoI⟩ : ∃ o, hh'.get? s.heap.objs.size = some o := ⟨_, hst⟩
    have hIown := hfp _ (List.mem_singleton.mpr rfl) hI0 _ hoI
    have e1 : a₀ + (i : Int) * 1 = a₀ + (i : Int) := by omega
    rw [e1] at F₁
    refine wpAny_mono (turn c i _ t m₁ hh' tk' s.heap.objs.size oI rfl hin hP (fun p hp e => hoff p hp (List.mem_singleton.mpr e)) (kst_fr h1 h2 F₁) (fun p hp => ?_)) (fun f s₂ q => ?_) fun _ _ e => e
    · rcases List.mem_cons.mp hp with rfl | hp
      · exact N₁ _ (List.mem_append.mpr (.inl hIown))
      · exact N₁ _ (List.mem_append.mpr (.inr hp))
    · have fin : JEnd h₀ env.locals s x Led ps stored m₀ (P (i + 1)) s.heap.objs.size oI s₂ → LoopStepU h₀ env.locals [s.heap.objs.size] own (J (i + 1)) { s with heap := hh', toks := tk' } .next s₂ := by
        rintro ⟨c', h', tk, m', news', e, F', N', hn', hi', ha', hk', hr', hp'⟩
        refine ⟨rfl, h', tk, m', Led c', e, F', fun p hp => ?_, fun p hp hq => ha' p hp (List.mem_singleton.mp hq), c', rfl, hk', hr', hp'⟩
        rcases List.mem_append.mp hp with h | h
        · have h1 : p.1 = s.heap.objs.size := List.mem_singleton.mp (hown p h)
          have h2 := hget p h
          have h3 : hh'.get? p.1 = some p.2 := h2
          rw [h1] at h3
          rw [show p = (s.heap.objs.size, oI) from Prod.ext h1 (Option.some.inj (h3.symm.trans hoI))]
          exact N' _ hi'
        · exact N' p (hn' p h)
      cases f with
      | ret v => exact .ret q
      | brk => exact .brk q
      | next => exact .next (fin q)
      | cont => exact .cont (fin q)
  · rintro h' tk m' news' F' N' _ ⟨c, rfl, h1, h2, hP⟩
    exact done c m' h' tk hP (kst_frOut h1 h2 F') N'
end
local macro_rules | `(tactic| walk_at $s:str) => `(tactic| k_extra $s)
local macro_rules | `(tactic| k_ne) => `(tactic| (refine neN ?_; (try dsimp only); first | with_reducible assumption | exact Ne.symm (by with_reducible assumption) | exact Nat.ne_of_lt (by with_reducible assumption) | exact Nat.ne_of_gt (by with_reducible assumption) | ((repeat (cases ‹_ ∧ _›)); first | with_reducible assumption | exact Ne.symm (by with_reducible assumption) | exact Nat.ne_of_lt (by with_reducible assumption) | exact Nat.ne_of_gt (by with_reducible assumption) | ((repeat (rename @Ne Nat _ _ => hq9; clear hq9)); omega))))
local macro_rules | `(tactic| k_lt $h:ident) => `(tactic| (replace $h := allLt_of $h; simp only [AllLt, and_true] at $h:ident; (repeat (with_reducible (rename And _ _ => hq9; cases hq9)))))
local macro_rules | `(tactic| k_all) => `(tactic| assumption)
local macro_rules | `(tactic| k_room) => `(tactic| ktr_room)

section
open PySem.Calls
section
variable {prog : Program} {w : World} {A A₀ : Around} {s : Shared} {K : Frag} {L : Addr} {h₀ base : Heap} {m mg mb : Str → Option Value} {news : List (Addr × Obj)} {p : Program} {loose : List Str} {mean : ExcName → Option Value}
/-- the caller's objects stand through a call that turns none of them -/
theorem news_stay {h h' : Heap} {g : Heap} (N : News h₀ L h news) (e : g = h) (k : ∀ b o, g.get? b = some o → h'.get? b = some o) : News h₀ L h' news := by
  subst e
  exact fun q hq => ⟨k _ _ (N q hq).1, (N q hq).2⟩
/-- what stands behind a call: as LeaveK, the caller's objects handed on -/
theorem leaveP {g : Heap} {R : Result → Shared → Prop} {v : Value} {s₀ s' : Shared} (N : News h₀ L s₀.heap news) (e : g = s₀.heap)
    (h : LeaveK h₀ L m g (fun r s' => News h₀ L s'.heap news → R r s') v s') : LeaveK h₀ L m g R v s' := by
  obtain ⟨L', m', news', F', N', k⟩ := h
  exact ⟨L', m', news', F', N', fun a b => k a b (news_stay N e F'.keep)⟩

theorem code_defP {env : Env} {outer : List Env} {R : Result → Shared → Prop} {name qual : Str} {params : Arguments} {body : List Stmt} {scope : Scope} {dV kV doc pm cdv ct oc : Value} {an od : Option Addr} {osl : Array (Option Value)} {f : Addr} {args : Args} {binds : List (Str × Value)}
    (B : Below A₀ base outer h₀) (F : Fr h₀ L s.heap m) (X₀ : K.In h₀) (N : News h₀ L s.heap news) (T : Top p loose mean mg mb h₀) (hA : A.frames = some (env :: outer)) (hf : env.frame = some L) (hke : env.scope.kind = .function)
    (ho : K.lookup f = some ⟨oc, od, .func (fnOf name qual params body scope dV kV doc pm an cdv ct), osl⟩) (hcd : codeIn K cdv qual = true) (hroom : A.depth < recursionLimit)
    (hbind : BindsTo s (fnOf name qual params body scope dV kV doc pm an cdv ct) args binds) (hloc : ∀ y ∈ binds, scope.names.lookup y.1 = some .local)
    (h : ∀ g L' h₁, g = s.heap → (∀ p ∈ news, p.1 < L') → Fr h₀ L g m → Fr g L' h₁ (fun y => binds.reverse.lookup y) → News g L' h₁ [] → Below A base (env :: outer) g → K.In g → Top p loose mean mg mb g →
      wpAny (model prog w) (A.deeper (envOf qual scope L' f cdv)) (execs body (envOf qual scope L' f cdv))
        (fun fl s' => LeaveK h₀ L m g (fun r s' => News h₀ L s'.heap news → R r s') (match fl with | .ret v => v | _ => .none) s')
        (fun e s' => wpAny (model prog w) (A.deeper (envOf qual scope L' f cdv)) (leaving (envOf qual scope L' f cdv) e) (fun _ s'' => R (.error e) s'') (fun e' s'' => R (.error e') s'') s')
        { s with heap := h₁, toks := s.toks + binds.length })
    (hco : scope.isCoroutine = false) (hgen : scope.isGenerator = false) (hk : scope.kind = .function)
    (hcell : ∀ x ∈ scope.names, x.2 ≠ .cell) : codeAny (model prog w) A (.call (.ref f) args) R s := by
  obtain ⟨FG, BG, st, lv⟩ := groundX (R := R) B F (News.nil (h₀ := h₀) (L := L)) hA hf hke
  have X := X₀.keeps F.keep
  refine codeAny_call_def (fd := fnOf name qual params body scope dV kV doc pm an cdv ct) (body := body) (binds := binds) hroom (X _ _ ho) rfl (T.nolimit.keeps F.keep) (codeRec_of X hcd) rfl hbind hcell hloc (fun h₁ hns hk₁ => ?_) hco hgen hk
  exact wpAny_mono (h s.heap s.heap.objs.size h₁ rfl (fun p hp => Heap.lt_size (N p hp).1) FG ⟨hns, fun b o e => hk₁ b o e, Nat.le_refl _⟩ News.nil BG (X₀.keeps st) (T.keeps st))
    (fun fl s' hl => lv _ _ (leaveP N rfl hl)) fun _ _ y => y

theorem code_defCP {env : Env} {outer : List Env} {R : Result → Shared → Prop} {name qual : Str} {params : Arguments} {body : List Stmt} {scope : Scope} {dV kV doc pm cdv ct oc : Value} {an od : Option Addr} {osl : Array (Option Value)} {f : Addr} {args : Args} {binds : List (Str × Value)}
    (B : Below A₀ base outer h₀) (F : Fr h₀ L s.heap m) (X₀ : K.In h₀) (N : News h₀ L s.heap news) (T : Top p loose mean mg mb h₀) (hA : A.frames = some (env :: outer)) (hf : env.frame = some L) (hke : env.scope.kind = .function)
    (ho : K.lookup f = some ⟨oc, od, .func (fnOf name qual params body scope dV kV doc pm an cdv ct), osl⟩) (hcd : codeIn K cdv qual = true) (hroom : A.depth < recursionLimit)
    (hbind : BindsTo s (fnOf name qual params body scope dV kV doc pm an cdv ct) args binds) (hkind : (binds.all fun y => scope.names.lookup y.1 == some .local || scope.names.lookup y.1 == some .cell) = true)
    (hnd : ((cellsFrom 0 scope.names []).map (·.1)).Nodup)
    (h : ∀ g L' h₁ tk cells, g = s.heap → (∀ p ∈ news, p.1 < L') → Fr h₀ L g m → Fr g L' h₁ (bindL (envOfC qual scope L' f cdv).kindOf binds fun _ => none) → News g L' h₁ cells →
      CellsAre (bindC (envOfC qual scope L' f cdv).kindOf binds fun _ => none) (cellsFrom (L' + 1) scope.names []) cells → Below A base (env :: outer) g → K.In g → Top p loose mean mg mb g →
      wpAny (model prog w) (A.deeper (envOfC qual scope L' f cdv)) (execs body (envOfC qual scope L' f cdv))
        (fun fl s' => LeaveK h₀ L m g (fun r s' => News h₀ L s'.heap news → R r s') (match fl with | .ret v => v | _ => .none) s')
        (fun e s' => wpAny (model prog w) (A.deeper (envOfC qual scope L' f cdv)) (leaving (envOfC qual scope L' f cdv) e) (fun _ s'' => R (.error e) s'') (fun e' s'' => R (.error e') s'') s')
        { s with heap := h₁, toks := tk })
    (hco : scope.isCoroutine = false) (hgen : scope.isGenerator = false) (hk : scope.kind = .function) : codeAny (model prog w) A (.call (.ref f) args) R s := by
  obtain ⟨FG, BG, st, lv⟩ := groundX (R := R) B F (News.nil (h₀ := h₀) (L := L)) hA hf hke
  have X := X₀.keeps F.keep
  refine codeAny_call_function (fd := fnX name qual params body scope [] dV kV doc pm an cdv ct) hroom (X _ _ ho) rfl hco hgen rfl (codeRec_of X hcd) (hbind _ _ _ _ ?_)
  refine wpAny_newFunctionEnv_cells hk (kindsX hkind _) fun env' he s' x => ?_
  subst he
  refine ⟨(T.nolimit.keeps F.keep).keeps x.toInCall.keep, codeAny_func ?_⟩
  obtain ⟨h₁, tk, rfl, _⟩ := x.done
  have hk₁ := x.toInCall.keep
  obtain ⟨cells, NC, Y⟩ := Cl.news (h₀ := s.heap) (Nat.le_refl _) fun n c hm => ⟨x.cell n c (lookup_of_mem_nodup (cellsFrom_names scope.names 0 (s.heap.objs.size + 1) [] [] rfl ▸ hnd) hm), x.above n c hm⟩
  exact wpAny_mono (h s.heap s.heap.objs.size h₁ tk cells rfl (fun p hp => Heap.lt_size (N p hp).1) FG ⟨x.toInCall.ns, fun b o e => hk₁ b o e, Nat.le_refl _⟩ NC Y BG (X₀.keeps st) (T.keeps st))
    (fun fl s' hl => lv _ _ (leaveP N rfl hl)) fun _ _ y => y
end

/-- a contract of a def that turns nothing of the caller's; Pre speaks of the heap at the call (and what is newest) -/
noncomputable abbrev PuP (prog : Program) (w : World) (K : Frag) (p : Program) (loose : List Str) (mean : ExcName → Option Value) (mg mb : Str → Option Value) (fa : Addr) (args : List Value) (bd : Nat) (Pre : Heap → Prop) (Post : Value → List (Addr × Obj) → Prop) : Prop :=
  ∀ (dp un : Nat) (gd : Option (List Code)) (cn : Str) (cs : Scope) (a : Addr) (ccd : Value) (cl : List (Str × Addr)) (outer : List Env) (A₀ : Around) (base h₀ : Heap) (L : Addr) (m : Str → Option Value) (s : Shared) (Q E : Value → Shared → Prop)
    (news : List (Addr × Obj)),
    Below A₀ base outer h₀ → Fr h₀ L s.heap m → K.In h₀ → News h₀ L s.heap news → Top p loose mean mg mb h₀ → cs.kind = .function →
    Pre s.heap → dp + bd < recursionLimit → un + 10 * bd < cLine →
    (∀ v tl h' tk', Post v tl → (∀ q ∈ tl, ∀ p ∈ news, p.1 < q.1) → Fr h₀ L h' m → News h₀ L h' (tl ++ news) → Q v { s with heap := h', toks := tk' }) →
    wpAny (model prog w) (ktrTop dp un gd cn cs L a ccd cl outer) (call (.ref fa) args) Q E s

section
variable {prog : Program} {w : World} {K : Frag} {p : Program} {loose : List Str} {mean : ExcName → Option Value} {mg mb : Str → Option Value} {fa : Addr}
  {dp un : Nat} {gd : Option (List Code)} {cn : Str} {cs : Scope} {a : Addr} {ccd : Value} {cl : List (Str × Addr)} {outer : List Env} {A₀ : Around} {base h₀ : Heap} {L : Addr} {m : Str → Option Value} {s : Shared} {Q E : Value → Shared → Prop}
theorem PuP.use {args : List Value} {bd : Nat} {Pre : Heap → Prop} {Post : Value → List (Addr × Obj) → Prop} {news : List (Addr × Obj)}
    (H : PuP prog w K p loose mean mg mb fa args bd Pre Post)
    (B : Below A₀ base outer h₀) (F : Fr h₀ L s.heap m) (X : K.In h₀) (N : News h₀ L s.heap news) (T : Top p loose mean mg mb h₀) (hk : cs.kind = .function) (hp : Pre s.heap) (hd : dp + bd < recursionLimit) (hu : un + 10 * bd < cLine)
    (ret : ∀ v tl h' tk', Post v tl → (∀ q ∈ tl, ∀ p ∈ news, p.1 < q.1) → Fr h₀ L h' m → News h₀ L h' (tl ++ news) → Q v { s with heap := h', toks := tk' }) :
    wpAny (model prog w) (ktrTop dp un gd cn cs L a ccd cl outer) (call (.ref fa) args) Q E s :=
  H dp un gd cn cs a ccd cl outer A₀ base h₀ L m s Q E news B F X N T hk hp hd hu ret
/-- what a contract hands back: its own objects ahead of the caller's -/
theorem news_app {h : Heap} {tl news full : List (Addr × Obj)} (N : News h₀ L h full) (M : News h₀ L h news) (hs : ∀ p ∈ tl, p ∈ full) : News h₀ L h (tl ++ news) := fun q hq => by
  rcases List.mem_append.mp hq with h | h
  · exact N q (hs q h)
  · exact M q h
end
theorem PuP.post {prog : Program} {w : World} {K : Frag} {p : Program} {loose : List Str} {mean : ExcName → Option Value} {mg mb : Str → Option Value} {fa : Addr} {args : List Value} {bd : Nat} {Pre : Heap → Prop} {Post Post' : Value → List (Addr × Obj) → Prop}
    (H : PuP prog w K p loose mean mg mb fa args bd Pre Post) (h : ∀ v tl, Post v tl → Post' v tl) : PuP prog w K p loose mean mg mb fa args bd Pre Post' :=
  fun dp un gd cn cs a ccd cl outer A₀ base h₀ L m s Q E news B F X N T hk hp hd hu ret =>
    H dp un gd cn cs a ccd cl outer A₀ base h₀ L m s Q E news B F X N T hk hp hd hu fun v tl h' tk' q => ret v tl h' tk' (h v tl q)
theorem PuC.post {prog : Program} {w : World} {K : Frag} {p : Program} {loose : List Str} {mean : ExcName → Option Value} {mg mb : Str → Option Value} {fa : Addr} {args : List Value} {bd : Nat} {Pre : Heap → List (Addr × Obj) → Prop} {Post Post' : Value → List (Addr × Obj) → Prop}
    (H : PuC prog w K p loose mean mg mb fa args bd Pre Post) (h : ∀ v tl, Post v tl → Post' v tl) : PuC prog w K p loose mean mg mb fa args bd Pre Post' :=
  fun dp un gd cn cs a ccd cl outer A₀ base h₀ L m s Q E news B F X N T hk hp hd hu ret =>
    H dp un gd cn cs a ccd cl outer A₀ base h₀ L m s Q E news B F X N T hk hp hd hu fun v tl h' tk' q => ret v tl h' tk' (h v tl q)
theorem Bd.lit {x : Int} (h0 : 0 ≤ x) (h1 : x < 1073741824) : Bd 30 x := ⟨h0, h1⟩
theorem Bd.mul {k l : Nat} {x y : Int} (h : Bd k x) (g : Bd l y) : Bd (k + l) (x * y) := by
  refine ⟨Int.mul_nonneg h.1 g.1, ?_⟩
  rw [Int.pow_add]
  have h1 := h.2; have h2 := g.2
  have a := Int.mul_le_mul_of_nonneg_left (Int.le_of_lt h2) h.1
  have b : x * 2 ^ l < 2 ^ k * 2 ^ l := Int.mul_lt_mul_of_pos_right h1 (Int.pow_pos (by decide))
  omega
theorem Bd.add {k l : Nat} {x y : Int} (h : Bd k x) (g : Bd l y) : Bd (k + l + 1) (x + y) := by
  have h1 := h.mono (Nat.le_add_right k l)
  have g1 := g.mono (Nat.le_add_left l k)
  refine ⟨Int.add_nonneg h.1 g.1, ?_⟩
  have a := h1.2; have b := g1.2
  rw [Int.pow_succ]
  omega
theorem mul_bd {prog : Program} {w : World} {A : Around} {E : Value → Shared → Prop} {s : Shared} {k l : Nat} {a b : Int} {t u : Tok} {Q : Value → Shared → Prop} (ha : Bd k a) (hb : Bd l b) (hk : k + l ≤ 1000000)
    (h : ∀ z, z = a * b → Bd (k + l) z → Q (.int z s.toks) { s with toks := s.toks + 1 }) : wpAny (model prog w) A (binaryOp .Mult (.int a t) (.int b u)) Q E s :=
  mul_int (h _ rfl (ha.mul hb)) (mulOk ha.sbd hb.sbd hk)
end

section
open PySem.Calls
section
variable {prog : Program} {w : World} {A A₀ : Around} {s : Shared} {K : Frag} {L : Addr} {h₀ base : Heap} {m mg mb : Str → Option Value} {news : List (Addr × Obj)} {p : Program} {loose : List Str} {mean : ExcName → Option Value}
theorem mem_oneF {env : Env} {b : Addr} (hf : env.frame = some L) (h : b ∈ [env].filterMap (·.frame)) : b = L := by
  obtain ⟨e, he, hb⟩ := List.mem_filterMap.mp h
  rw [List.mem_singleton.mp he, hf] at hb
  exact (Option.some.inj hb).symm
/-- a def that catches, called by the law itself: its ledger begins empty -/
theorem code_defTP {env : Env} {R : Result → Shared → Prop} {name qual : Str} {params : Arguments} {body : List Stmt} {scope : Scope} {dV kV doc pm cdv ct oc : Value} {an od : Option Addr} {osl : Array (Option Value)} {f : Addr} {args : Args} {binds : List (Str × Value)}
    (B : Below A₀ base [] h₀) (F : Fr h₀ L s.heap m) (X₀ : K.In h₀) (N : News h₀ L s.heap news) (T : Top p loose mean mg mb h₀) (hA : A.frames = some [env]) (hf : env.frame = some L) (hke : env.scope.kind = .function)
    (ho : K.lookup f = some ⟨oc, od, .func (fnOf name qual params body scope dV kV doc pm an cdv ct), osl⟩) (hcd : codeIn K cdv qual = true) (hroom : A.depth < recursionLimit)
    (hbind : BindsTo s (fnOf name qual params body scope dV kV doc pm an cdv ct) args binds) (hloc : ∀ y ∈ binds, scope.names.lookup y.1 = some .local)
    (h : ∀ g L' h₁, g = s.heap → (∀ p ∈ news, p.1 < L') → Fr h₀ L g m → Fr g L' h₁ (fun y => binds.reverse.lookup y) → News g L' h₁ [] → Below A base [env] g → K.In g → Top p loose mean mg mb g → KtsDicts ([env].filterMap (·.frame)) g →
      wpAny (model prog w) (A.deeper (envOf qual scope L' f cdv)) (execs body (envOf qual scope L' f cdv))
        (fun fl s' => LeaveS0 ([env].filterMap (·.frame)) h₀ L m g (fun r s' => News h₀ L s'.heap news → R r s') (match fl with | .ret v => v | _ => .none) s')
        (fun e s' => wpAny (model prog w) (A.deeper (envOf qual scope L' f cdv)) (leaving (envOf qual scope L' f cdv) e) (fun _ s'' => R (.error e) s'') (fun e' s'' => R (.error e') s'') s')
        { s with heap := h₁, toks := s.toks + binds.length })
    (hco : scope.isCoroutine = false) (hgen : scope.isGenerator = false) (hk : scope.kind = .function)
    (hcell : ∀ x ∈ scope.names, x.2 ≠ .cell) : codeAny (model prog w) A (.call (.ref f) args) R s := by
  have X := X₀.keeps F.keep
  obtain ⟨FG, BG, st, lv⟩ := groundX (R := R) B F (News.nil (h₀ := h₀) (L := L)) hA hf hke
  refine codeAny_call_def (fd := fnOf name qual params body scope dV kV doc pm an cdv ct) (body := body) (binds := binds) hroom (X _ _ ho) rfl (T.nolimit.keeps F.keep) (codeRec_of X hcd) rfl hbind hcell hloc (fun h₁ hns hk₁ => ?_) hco hgen hk
  obtain ⟨oL, es, ep, hL, hLd, hLk, hLf⟩ := F.ns
  have hNs : ∀ (sl : Array (Option Value)) h', h'.get? L = some { oL with slots := sl } → Heap.Ns h' L m := fun sl h' e => ⟨_, es, ep, e, hLd, hLk, hLf⟩
  refine wpAny_mono (h s.heap s.heap.objs.size h₁ rfl (fun p hp => Heap.lt_size (N p hp).1) FG ⟨hns, fun b o e => hk₁ b o e, Nat.le_refl _⟩ News.nil BG (X₀.keeps st) (T.keeps st) (fun b hb => by
      rw [mem_oneF hf hb]; exact ⟨oL, es, ep, hL, hLd⟩)) (fun fl s' hl => ?_) fun _ _ y => y
  obtain ⟨g', L', m', news', T', F', N', k⟩ := hl
  have nL₀ : h₀.get? L = none := kts_self F
  obtain ⟨sl, hs⟩ := T'.up hL
  refine k ⟨hNs sl _ (F'.keep _ _ hs), fun b o e => F'.keep b o (T'.other b o (st b o e) (fun q => by
    rw [mem_oneF hf q, nL₀] at e; cases e)), F.above⟩ (fun p hp => ⟨(N' p hp).1, fun q => ?_, ?_⟩) fun p hp => ⟨F'.keep _ _ (T'.other _ _ (N p hp).1 fun q => (N p hp).2.1 (mem_oneF hf q)), (N p hp).2⟩
  · have := (N' p hp).2.2; rw [q, hs] at this; cases this
  · cases q : h₀.get? p.1 with
    | none => rfl
    | some o =>
      obtain ⟨sl', hs'⟩ := T'.up (st _ _ q)
      have := (N' p hp).2.2
      rw [hs'] at this
      cases this
end

/-- a contract of a def that catches, called by the law itself -/
noncomputable abbrev TrP (prog : Program) (w : World) (K : Frag) (p : Program) (loose : List Str) (mean : ExcName → Option Value) (mg mb : Str → Option Value) (fa : Addr) (args : List Value) (bd : Nat) (Pre : Heap → Prop) (Post : Value → List (Addr × Obj) → Prop) : Prop :=
  ∀ (dp un : Nat) (gd : Option (List Code)) (cn : Str) (cs : Scope) (a : Addr) (ccd : Value) (cl : List (Str × Addr)) (A₀ : Around) (base h₀ : Heap) (L : Addr) (m : Str → Option Value) (s : Shared) (Q E : Value → Shared → Prop)
    (news : List (Addr × Obj)),
    Below A₀ base [] h₀ → Fr h₀ L s.heap m → K.In h₀ → News h₀ L s.heap news → Top p loose mean mg mb h₀ → cs.kind = .function →
    K.In base → Top p loose mean mg mb base → Pre s.heap → dp + bd < recursionLimit → un + 10 * bd < cLine →
    (∀ v tl h' tk', Post v tl → (∀ q ∈ tl, ∀ p ∈ news, p.1 ≠ q.1) → Fr h₀ L h' m → News h₀ L h' (tl ++ news) → Q v { s with heap := h', toks := tk' }) →
    wpAny (model prog w) (ktrTop dp un gd cn cs L a ccd cl []) (call (.ref fa) args) Q E s
section
variable {prog : Program} {w : World} {K : Frag} {p : Program} {loose : List Str} {mean : ExcName → Option Value} {mg mb : Str → Option Value} {fa : Addr}
  {dp un : Nat} {gd : Option (List Code)} {cn : Str} {cs : Scope} {a : Addr} {ccd : Value} {cl : List (Str × Addr)} {A₀ : Around} {base h₀ : Heap} {L : Addr} {m : Str → Option Value} {s : Shared} {Q E : Value → Shared → Prop}
theorem TrP.use {args : List Value} {bd : Nat} {Pre : Heap → Prop} {Post : Value → List (Addr × Obj) → Prop} {news : List (Addr × Obj)}
    (H : TrP prog w K p loose mean mg mb fa args bd Pre Post)
    (B : Below A₀ base [] h₀) (F : Fr h₀ L s.heap m) (X : K.In h₀) (N : News h₀ L s.heap news) (T : Top p loose mean mg mb h₀) (hk : cs.kind = .function) (XB : K.In base) (TB : Top p loose mean mg mb base) (hp : Pre s.heap) (hd : dp + bd < recursionLimit) (hu : un + 10 * bd < cLine)
    (ret : ∀ v tl h' tk', Post v tl → (∀ q ∈ tl, ∀ p ∈ news, p.1 ≠ q.1) → Fr h₀ L h' m → News h₀ L h' (tl ++ news) → Q v { s with heap := h', toks := tk' }) :
    wpAny (model prog w) (ktrTop dp un gd cn cs L a ccd cl []) (call (.ref fa) args) Q E s :=
  H dp un gd cn cs a ccd cl A₀ base h₀ L m s Q E news B F X N T hk XB TB hp hd hu ret
end

/-- as PuP; the objects handed back are other ones than the caller's -/
noncomputable abbrev PuN (prog : Program) (w : World) (K : Frag) (p : Program) (loose : List Str) (mean : ExcName → Option Value) (mg mb : Str → Option Value) (fa : Addr) (args : List Value) (bd : Nat) (Pre : Heap → Prop) (Post : Value → List (Addr × Obj) → Prop) : Prop :=
  ∀ (dp un : Nat) (gd : Option (List Code)) (cn : Str) (cs : Scope) (a : Addr) (ccd : Value) (cl : List (Str × Addr)) (outer : List Env) (A₀ : Around) (base h₀ : Heap) (L : Addr) (m : Str → Option Value) (s : Shared) (Q E : Value → Shared → Prop)
    (news : List (Addr × Obj)),
    Below A₀ base outer h₀ → Fr h₀ L s.heap m → K.In h₀ → News h₀ L s.heap news → Top p loose mean mg mb h₀ → cs.kind = .function →
    Pre s.heap → dp + bd < recursionLimit → un + 10 * bd < cLine →
    (∀ v tl h' tk', Post v tl → (∀ q ∈ tl, ∀ p ∈ news, p.1 ≠ q.1) → Fr h₀ L h' m → News h₀ L h' (tl ++ news) → Q v { s with heap := h', toks := tk' }) →
    wpAny (model prog w) (ktrTop dp un gd cn cs L a ccd cl outer) (call (.ref fa) args) Q E s
section
variable {prog : Program} {w : World} {K : Frag} {p : Program} {loose : List Str} {mean : ExcName → Option Value} {mg mb : Str → Option Value} {fa : Addr}
  {dp un : Nat} {gd : Option (List Code)} {cn : Str} {cs : Scope} {a : Addr} {ccd : Value} {cl : List (Str × Addr)} {outer : List Env} {A₀ : Around} {base h₀ : Heap} {L : Addr} {m : Str → Option Value} {s : Shared} {Q E : Value → Shared → Prop}
theorem PuN.use {args : List Value} {bd : Nat} {Pre : Heap → Prop} {Post : Value → List (Addr × Obj) → Prop} {news : List (Addr × Obj)}
    (H : PuN prog w K p loose mean mg mb fa args bd Pre Post)
    (B : Below A₀ base outer h₀) (F : Fr h₀ L s.heap m) (X : K.In h₀) (N : News h₀ L s.heap news) (T : Top p loose mean mg mb h₀) (hk : cs.kind = .function) (hp : Pre s.heap) (hd : dp + bd < recursionLimit) (hu : un + 10 * bd < cLine)
    (ret : ∀ v tl h' tk', Post v tl → (∀ q ∈ tl, ∀ p ∈ news, p.1 ≠ q.1) → Fr h₀ L h' m → News h₀ L h' (tl ++ news) → Q v { s with heap := h', toks := tk' }) :
    wpAny (model prog w) (ktrTop dp un gd cn cs L a ccd cl outer) (call (.ref fa) args) Q E s :=
  H dp un gd cn cs a ccd cl outer A₀ base h₀ L m s Q E news B F X N T hk hp hd hu ret
/-- what is new to the callee is none of the caller's -/
theorem apart {g h' hs : Heap} {L' : Addr} {tl news full : List (Addr × Obj)} (N' : News g L' h' full) (e : g = hs) (N : News h₀ L hs news) (k : ∀ q ∈ tl, q ∈ full) : ∀ q ∈ tl, ∀ p ∈ news, p.1 ≠ q.1 := by
  subst e
  intro q hq p hp h
  have h1 := (N' q (k q hq)).2.2
  have h2 := (N p hp).1
  rw [h, h1] at h2
  cases h2
theorem PuN.post {args : List Value} {bd : Nat} {Pre : Heap → Prop} {Post Post' : Value → List (Addr × Obj) → Prop}
    (H : PuN prog w K p loose mean mg mb fa args bd Pre Post) (h : ∀ v tl, Post v tl → Post' v tl) : PuN prog w K p loose mean mg mb fa args bd Pre Post' :=
  fun dp un gd cn cs a ccd cl outer A₀ base h₀ L m s Q E news B F X N T hk hp hd hu ret =>
    H dp un gd cn cs a ccd cl outer A₀ base h₀ L m s Q E news B F X N T hk hp hd hu fun v tl h' tk' q => ret v tl h' tk' (h v tl q)
end
theorem news_one {h₀ h : Heap} {L : Addr} {a : Addr × Obj} {l news : List (Addr × Obj)} (N : News h₀ L h (a :: l)) (M : News h₀ L h news) : News h₀ L h ([a] ++ news) :=
  news_app N M (by intro q hq; rw [List.mem_singleton.mp hq]; exact List.mem_cons_self)
theorem apart_one {g h' hs h₀ : Heap} {L L' : Addr} {a : Addr × Obj} {l news : List (Addr × Obj)} (N' : News g L' h' (a :: l)) (e : g = hs) (N : News h₀ L hs news) : ∀ q ∈ [a], ∀ p ∈ news, p.1 ≠ q.1 :=
  apart N' e N (by intro q hq; rw [List.mem_singleton.mp hq]; exact List.mem_cons_self)
section
variable {prog : Program} {w : World} {A : Around} {E : Value → Shared → Prop} {s : Shared} {env : Env} {h₀ : Heap} {x : Str} {body : List Stmt} {Q : Flow → Shared → Prop}
/-- as j_range; the names of ps1 stand behind the first turn only -/
theorem j_range2 {σ : Type} {r : Addr} {a₀ b₀ : Int} {t₀ u₀ v₀ : Tok} {n : Nat} {m₀ : Str → Option Value} (Led : σ → List (Addr × Obj)) (ps ps1 : σ → List (Str × Value)) (stored : List Str) (P : Nat → σ → Prop) (c₀ : σ)
    (hsub : ∀ c, ∀ p ∈ ps1 c, stored.contains p.1 = true) (hnn : 0 < n) (hh : A.handled = none) (hr : IsRange s.heap r a₀ b₀ 1 t₀ u₀ v₀) (hsmall : Builtin.Range.small a₀ b₀ 1 = true) (hn : Builtin.Range.rangeSize a₀ b₀ 1 = (n : Int)) (F : Fr h₀ env.locals s.heap m₀) (N : News h₀ env.locals s.heap (Led c₀)) (hk : ∀ p ∈ ps c₀, m₀ p.1 = some p.2) (hp : P 0 c₀)
    (turn : ∀ (c : σ) (i : Nat) (k : Int) t (u : Str → Option Value) h tk I oI, k = a₀ + (i : Int) → i < n → P i c → (∀ p ∈ Led c, p.1 ≠ I) →
      Fr h₀ env.locals h (fun y => if y = x then some (.int k t) else kstB (fun z => if stored.contains z then u z else m₀ z) (ps c) y) → News h₀ env.locals h ((I, oI) :: Led c) →
      wpAny (model prog w) A (execs body env) (JPost h₀ env.locals s x Led (fun c => ps c ++ ps1 c) stored m₀ (P (i + 1)) I oI Q) E { s with heap := h, toks := tk })
    (done : ∀ (c : σ) (u : Str → Option Value) h tk, P n c → Fr h₀ env.locals h (fun y => if y = x then u y else kstB (fun z => if stored.contains z then u z else m₀ z) (ps c ++ ps1 c) y) → News h₀ env.locals h (Led c) → Q .next { s with heap := h, toks := tk }) :
    wpAny (model prog w) A (pyIter (.ref r)) (fun it s₂ => LoopAtV prog w A h₀ env x body Q E it s₂) E s := by
  refine wpAny_pyIter_range hr hsmall ?_
  have W : Walks prog w A s.heap.objs.size [s.heap.objs.size] [s.heap.objs.size] n (fun i v => i < n ∧ ∃ t, v = .int (a₀ + i * 1) t)
      (fun i h => IsRangeIter h s.heap.objs.size (a₀ + (i : Nat) * 1) ((n : Int) - (i : Nat)) 1) := (Walks.range hh _ a₀ 1 n).bound
  let J : Nat → (Str → Option Value) → List (Addr × Obj) → Prop := fun i m nx => ∃ c : σ, nx = Led c ∧ (∀ p ∈ ps c, m p.1 = some p.2) ∧ (i = 0 ∨ ∀ p ∈ ps1 c, m p.1 = some p.2) ∧ (∀ z, z ≠ x → (∀ p ∈ ps c, z ≠ p.1) → stored.contains z = false → m z = m₀ z) ∧ P i c
  refine ⟨_, _, _, n, _, _, m₀, Led c₀, J, rfl, W, ?_, ?_, ?_, (by show IsRangeIter _ _ _ _ _; rw [hn]; simpa using Heap.get?_push_size _ rfl), F.push _, (fun p hp => ⟨Heap.get?_push_of_some _ (N p hp).1, (N p hp).2⟩), ⟨c₀, rfl, hk, .inl rfl, fun _ _ _ _ => rfl, hp⟩, ?_, ?_⟩
  · intro hm
    exact absurd F.ns.lt ((List.mem_singleton.mp hm) ▸ Nat.lt_irrefl _)
  · intro b hb
    rw [List.mem_singleton.mp hb]
    exact next_is_new F
  · intro p hp hI
    exact absurd (Heap.lt_size (N p hp).1) ((List.mem_singleton.mp hI) ▸ Nat.lt_irrefl _)
  · rintro i v m₁ news₁ s₁ own ⟨hh', tk', rfl⟩ hin ⟨_, t, rfl⟩ ⟨c, rfl, h1, _, h2, hP⟩ hoff hown hget hfp hst F₁ N₁
    have hI0 : h₀.get? s.heap.objs.size = none := next_is_new F
    obtain ⟨oI, hoI⟩ : ∃ o, hh'.get? s.heap.objs.size = some o := ⟨_, hst⟩
    have hIown := hfp _ (List.mem_singleton.mpr rfl) hI0 _ hoI
    have e1 : a₀ + (i : Int) * 1 = a₀ + (i : Int) := by omega
    rw [e1] at F₁
    refine wpAny_mono (turn c i _ t m₁ hh' tk' s.heap.objs.size oI rfl hin hP (fun p hp e => hoff p hp (List.mem_singleton.mpr e)) (kst_fr h1 h2 F₁) (fun p hp => ?_)) (fun f s₂ q => ?_) fun _ _ e => e
    · rcases List.mem_cons.mp hp with rfl | hp
      · exact N₁ _ (List.mem_append.mpr (.inl hIown))
      · exact N₁ _ (List.mem_append.mpr (.inr hp))
    · have fin : JEnd h₀ env.locals s x Led (fun c => ps c ++ ps1 c) stored m₀ (P (i + 1)) s.heap.objs.size oI s₂ → LoopStepU h₀ env.locals [s.heap.objs.size] own (J (i + 1)) { s with heap := hh', toks := tk' } .next s₂ := by
        rintro ⟨c', h', tk, m', news', e, F', N', hn', hi', ha', hk', hr', hp'⟩
        refine ⟨rfl, h', tk, m', Led c', e, F', fun p hp => ?_, fun p hp hq => ha' p hp (List.mem_singleton.mp hq), c', rfl, (fun p hp => hk' p (List.mem_append_left _ hp)), .inr (fun p hp => hk' p (List.mem_append_right _ hp)), (fun z h1 h2 h3 => hr' z h1 (fun p hp => by
          rcases List.mem_append.mp hp with q | q
          · exact h2 p q
          · intro e; rw [e, hsub c' p q] at h3; cases h3) h3), hp'⟩
        rcases List.mem_append.mp hp with h | h
        · have h1 : p.1 = s.heap.objs.size := List.mem_singleton.mp (hown p h)
          have h2 := hget p h
          have h3 : hh'.get? p.1 = some p.2 := h2
          rw [h1] at h3
          rw [show p = (s.heap.objs.size, oI) from Prod.ext h1 (Option.some.inj (h3.symm.trans hoI))]
          exact N' _ hi'
        · exact N' p (hn' p h)
      cases f with
      | ret v => exact .ret q
      | brk => exact .brk q
      | next => exact .next (fin q)
      | cont => exact .cont (fin q)
  · rintro h' tk m' news' F' N' _ ⟨c, rfl, h1, h1', h2, hP⟩
    have h1'' := h1'.resolve_left (by omega)
    exact done c m' h' tk hP (kst_frOut (fun p hp => by rcases List.mem_append.mp hp with q | q; (· exact h1 p q); (· exact h1'' p q)) (fun z a b c => h2 z a (fun p hp => b p (List.mem_append_left _ hp)) c) F') N'
end
end

section
/-! ### the contracts' uses, the context first -/
section
variable {prog : Program} {w : World} {K : Frag} {p : Program} {loose : List Str} {mean : ExcName → Option Value} {mg mb : Str → Option Value} {fa : Addr}
  {dp un : Nat} {gd : Option (List Code)} {cn : Str} {cs : Scope} {a : Addr} {ccd : Value} {cl : List (Str × Addr)} {outer : List Env} {A₀ : Around} {base h₀ : Heap} {L : Addr} {m : Str → Option Value} {s : Shared} {Q E : Value → Shared → Prop}
theorem PuP.use2 {args : List Value} {bd : Nat} {Pre : Heap → Prop} {Post : Value → List (Addr × Obj) → Prop} {news : List (Addr × Obj)}
    (B : Below A₀ base outer h₀) (F : Fr h₀ L s.heap m) (X : K.In h₀) (N : News h₀ L s.heap news) (T : Top p loose mean mg mb h₀) (hk : cs.kind = .function) (hp : Pre s.heap) (H : PuP prog w K p loose mean mg mb fa args bd Pre Post) (hd : dp + bd < recursionLimit) (hu : un + 10 * bd < cLine)
    (ret : ∀ v tl h' tk', Post v tl → (∀ q ∈ tl, ∀ p ∈ news, p.1 < q.1) → Fr h₀ L h' m → News h₀ L h' (tl ++ news) → Q v { s with heap := h', toks := tk' }) :
    wpAny (model prog w) (ktrTop dp un gd cn cs L a ccd cl outer) (call (.ref fa) args) Q E s := H.use B F X N T hk hp hd hu ret
theorem PuN.use2 {args : List Value} {bd : Nat} {Pre : Heap → Prop} {Post : Value → List (Addr × Obj) → Prop} {news : List (Addr × Obj)}
    (B : Below A₀ base outer h₀) (F : Fr h₀ L s.heap m) (X : K.In h₀) (N : News h₀ L s.heap news) (T : Top p loose mean mg mb h₀) (hk : cs.kind = .function) (hp : Pre s.heap) (H : PuN prog w K p loose mean mg mb fa args bd Pre Post) (hd : dp + bd < recursionLimit) (hu : un + 10 * bd < cLine)
    (ret : ∀ v tl h' tk', Post v tl → (∀ q ∈ tl, ∀ p ∈ news, p.1 ≠ q.1) → Fr h₀ L h' m → News h₀ L h' (tl ++ news) → Q v { s with heap := h', toks := tk' }) :
    wpAny (model prog w) (ktrTop dp un gd cn cs L a ccd cl outer) (call (.ref fa) args) Q E s := H.use B F X N T hk hp hd hu ret
theorem TrP.use2 {args : List Value} {bd : Nat} {Pre : Heap → Prop} {Post : Value → List (Addr × Obj) → Prop} {news : List (Addr × Obj)}
    (B : Below A₀ base [] h₀) (F : Fr h₀ L s.heap m) (X : K.In h₀) (N : News h₀ L s.heap news) (T : Top p loose mean mg mb h₀) (hk : cs.kind = .function) (XB : K.In base) (TB : Top p loose mean mg mb base) (hp : Pre s.heap) (H : TrP prog w K p loose mean mg mb fa args bd Pre Post) (hd : dp + bd < recursionLimit) (hu : un + 10 * bd < cLine)
    (ret : ∀ v tl h' tk', Post v tl → (∀ q ∈ tl, ∀ p ∈ news, p.1 ≠ q.1) → Fr h₀ L h' m → News h₀ L h' (tl ++ news) → Q v { s with heap := h', toks := tk' }) :
    wpAny (model prog w) (ktrTop dp un gd cn cs L a ccd cl []) (call (.ref fa) args) Q E s := H.use B F X N T hk XB TB hp hd hu ret
end
end

section
open PySem.Calls
section
variable {prog : Program} {w : World} {A A₀ : Around} {s : Shared} {K : Frag} {L : Addr} {h₀ base : Heap} {m mg mb : Str → Option Value} {news rest : List (Addr × Obj)} {p : Program} {loose : List Str} {mean : ExcName → Option Value}
theorem rest_stay {g h' : Heap} (N : News h₀ L s.heap rest) (e : g = hideAll s.heap (news.map (·.1))) (off : ∀ p ∈ rest, p.1 ∉ news.map (·.1)) (k : ∀ b o, g.get? b = some o → h'.get? b = some o) : News h₀ L h' rest := by
  subst e
  exact fun q hq => ⟨k _ _ (hideAll_get _ (N q hq).1 (off q hq)), (N q hq).2⟩
theorem leaveSP {g : Heap} {R : Result → Shared → Prop} {v : Value} {s' : Shared} (N : News h₀ L s.heap rest) (e : g = hideAll s.heap (news.map (·.1))) (off : ∀ p ∈ rest, p.1 ∉ news.map (·.1))
    (h : LeaveK h₀ L m g (fun r s' => News h₀ L s'.heap rest → R r s') v s') : LeaveK h₀ L m g R v s' := by
  obtain ⟨L', m', news', F', N', k⟩ := h
  exact ⟨L', m', news', F', N', fun a b => k a b (rest_stay N e off F'.keep)⟩
/-- of the caller's objects the callee turns news alone -/
theorem code_defSP {env : Env} {outer : List Env} {R : Result → Shared → Prop} {name qual : Str} {params : Arguments} {body : List Stmt} {scope : Scope} {dV kV doc pm cdv ct oc : Value} {an od : Option Addr} {osl : Array (Option Value)} {f : Addr} {args : Args} {binds : List (Str × Value)}
    (B : Below A₀ base outer h₀) (F : Fr h₀ L s.heap m) (X₀ : K.In h₀) (N : News h₀ L s.heap news) (N2 : News h₀ L s.heap rest) (off : ∀ p ∈ rest, p.1 ∉ news.map (·.1)) (T : Top p loose mean mg mb h₀) (hA : A.frames = some (env :: outer)) (hf : env.frame = some L) (hke : env.scope.kind = .function)
    (ho : K.lookup f = some ⟨oc, od, .func (fnOf name qual params body scope dV kV doc pm an cdv ct), osl⟩) (hcd : codeIn K cdv qual = true) (hroom : A.depth < recursionLimit)
    (hbind : BindsTo s (fnOf name qual params body scope dV kV doc pm an cdv ct) args binds) (hloc : ∀ y ∈ binds, scope.names.lookup y.1 = some .local)
    (h : ∀ g L' h₁, g = hideAll s.heap (news.map (·.1)) → (∀ p ∈ news, p.1 < L') → Fr h₀ L g m → Fr g L' h₁ (fun y => binds.reverse.lookup y) → News g L' h₁ news → Below A base (env :: outer) g → K.In g → Top p loose mean mg mb g →
      wpAny (model prog w) (A.deeper (envOf qual scope L' f cdv)) (execs body (envOf qual scope L' f cdv))
        (fun fl s' => LeaveK h₀ L m g (fun r s' => News h₀ L s'.heap rest → R r s') (match fl with | .ret v => v | _ => .none) s')
        (fun e s' => wpAny (model prog w) (A.deeper (envOf qual scope L' f cdv)) (leaving (envOf qual scope L' f cdv) e) (fun _ s'' => R (.error e) s'') (fun e' s'' => R (.error e') s'') s')
        { s with heap := h₁, toks := s.toks + binds.length })
    (hco : scope.isCoroutine = false) (hgen : scope.isGenerator = false) (hk : scope.kind = .function)
    (hcell : ∀ x ∈ scope.names, x.2 ≠ .cell) : codeAny (model prog w) A (.call (.ref f) args) R s := by
  obtain ⟨FG, BG, st, lv⟩ := groundX (R := R) B F N hA hf hke
  have X := X₀.keeps F.keep
  refine codeAny_call_def (fd := fnOf name qual params body scope dV kV doc pm an cdv ct) (body := body) (binds := binds) hroom (X _ _ ho) rfl (T.nolimit.keeps F.keep) (codeRec_of X hcd) rfl hbind hcell hloc (fun h₁ hns hk₁ => ?_) hco hgen hk
  exact wpAny_mono (h _ s.heap.objs.size h₁ rfl (fun p hp => Heap.lt_size (N p hp).1) FG ⟨hns, fun b o e => hk₁ b o (of_hideAll _ e), Nat.le_of_eq (hideAll_size _ _)⟩ (fun p hp => ⟨hk₁ _ _ (N p hp).1, Nat.ne_of_lt (Heap.lt_size (N p hp).1), hideAll_none _ (List.mem_map_of_mem hp)⟩) BG (X₀.keeps st) (T.keeps st))
    (fun fl s' hl => lv _ _ (leaveSP N2 rfl off hl)) fun _ _ y => y
end

/-- a contract of a def that turns the script's state, and hands back new objects -/
noncomputable abbrev StP (prog : Program) (w : World) (K : Frag) (p : Program) (loose : List Str) (mean : ExcName → Option Value) (mg mb : Str → Option Value) (fa : Addr) (args : Addr → List Value) (bd : Nat) (Post : Value → List (Addr × Obj) → Prop) : Prop :=
  ∀ (dp un : Nat) (gd : Option (List Code)) (cn : Str) (cs : Scope) (a : Addr) (ccd : Value) (cl : List (Str × Addr)) (outer : List Env) (A₀ : Around) (base h₀ : Heap) (L : Addr) (m : Str → Option Value) (s : Shared) (Q E : Value → Shared → Prop)
    (st c : Addr) (i : Int) (ti : Tok) (vs : List Value) (n1 n2 : Nat) (rest : List (Addr × Obj)),
    Below A₀ base outer h₀ → Fr h₀ L s.heap m → K.In h₀ → News h₀ L s.heap [(st, listOf #[.int i ti, .ref c] n1), (c, listOf vs.toArray n2)] → News h₀ L s.heap rest → Top p loose mean mg mb h₀ → cs.kind = .function →
    @Ne Nat st c → (∀ p ∈ rest, p.1 ∉ [(st, listOf #[.int i ti, .ref c] n1), (c, listOf vs.toArray n2)].map (·.1)) → SW i vs → dp + bd < recursionLimit → un + 10 * bd < cLine →
    (∀ v tl i' ti' vs' n1' n2' h' tk', SW i' vs' → Post v tl → (∀ q ∈ tl, ∀ p ∈ rest, p.1 ≠ q.1) → (∀ q ∈ tl, @Ne Nat st q.1 ∧ @Ne Nat c q.1) → Fr h₀ L h' m → News h₀ L h' (tl ++ (st, listOf #[.int i' ti', .ref c] n1') :: (c, listOf vs'.toArray n2') :: rest) → Q v { s with heap := h', toks := tk' }) →
    wpAny (model prog w) (ktrTop dp un gd cn cs L a ccd cl outer) (call (.ref fa) (args st)) Q E s
section
variable {prog : Program} {w : World} {K : Frag} {p : Program} {loose : List Str} {mean : ExcName → Option Value} {mg mb : Str → Option Value} {fa : Addr}
  {dp un : Nat} {gd : Option (List Code)} {cn : Str} {cs : Scope} {a : Addr} {ccd : Value} {cl : List (Str × Addr)} {outer : List Env} {A₀ : Around} {base h₀ : Heap} {L : Addr} {m : Str → Option Value} {s : Shared} {Q E : Value → Shared → Prop}
theorem StP.use {args : Addr → List Value} {bd : Nat} {Post : Value → List (Addr × Obj) → Prop} {st c : Addr} {i : Int} {ti : Tok} {vs : List Value} {n1 n2 : Nat} {news : List (Addr × Obj)} {g1 : Obj → List (Addr × Obj)} {g2 : Obj → Obj → List (Addr × Obj)}
    (H : StP prog w K p loose mean mg mb fa args bd Post)
    (B : Below A₀ base outer h₀) (F : Fr h₀ L s.heap m) (X : K.In h₀) (N : News h₀ L s.heap news) (T : Top p loose mean mg mb h₀) (hk : cs.kind = .function)
    (U1 : UpdF st (listOf #[.int i ti, .ref c] n1) news g1) (U2 : ∀ o, UpdF c (listOf vs.toArray n2) (g1 o) (g2 o)) (hw : SW i vs) (hd : dp + bd < recursionLimit) (hu : un + 10 * bd < cLine)
    (ret : ∀ v tl i' ti' vs' n1' n2' h' tk', SW i' vs' → Post v tl → (∀ q ∈ tl, ∀ p ∈ news, p.1 ≠ q.1) → Fr h₀ L h' m → News h₀ L h' (tl ++ g2 (listOf #[.int i' ti', .ref c] n1') (listOf vs'.toArray n2')) → Q v { s with heap := h', toks := tk' }) :
    wpAny (model prog w) (ktrTop dp un gd cn cs L a ccd cl outer) (call (.ref fa) (args st)) Q E s := by
  have hst := (updF_here (o' := listOf #[.int i ti, .ref c] n1) U1).1
  obtain ⟨rest, hsc, hoff, h1, h2⟩ := two_canon U1 U2
  refine H dp un gd cn cs a ccd cl outer A₀ base h₀ L m s Q E st c i ti vs n1 n2 rest B F X (fun p hp => N p (h1 p ?_)) (fun p hp => N p (h1 p (List.mem_cons_of_mem _ (List.mem_cons_of_mem _ hp)))) T hk hsc (fun p hp hq => ?_) hw hd hu
    fun v tl i' ti' vs' n1' n2' h' tk' a1 a2 a3 a3' a4 a5 => ret v tl i' ti' vs' n1' n2' h' tk' a1 a2 (fun q hq p hp => ?_) a4 fun p hp => ?_
  · rcases List.mem_cons.mp hp with rfl | hp
    · exact List.mem_cons_self
    · rw [List.mem_singleton.mp hp]; exact List.mem_cons_of_mem _ List.mem_cons_self
  · obtain ⟨q, hq1, hq2⟩ := List.mem_map.mp hq
    rcases List.mem_cons.mp hq1 with rfl | hq1
    · exact hoff p hp st List.mem_cons_self hq2.symm
    · rw [List.mem_singleton.mp hq1] at hq2; exact hoff p hp c (List.mem_cons_of_mem _ List.mem_cons_self) hq2.symm
  · by_cases e1 : p.1 = st
    · rw [e1]; exact (a3' q hq).1
    · by_cases e2 : p.1 = c
      · rw [e2]; exact (a3' q hq).2
      · have hp' := h2 (listOf #[.int i ti, .ref c] n1) (listOf vs.toArray n2) p (updF_keeps (U2 _) p (updF_keeps U1 p hp e1) e2)
        rcases List.mem_cons.mp hp' with h | h
        · exact absurd (congrArg Prod.fst h) e1
        · rcases List.mem_cons.mp h with h | h
          · exact absurd (congrArg Prod.fst h) e2
          · exact a3 q hq p h
  · rcases List.mem_append.mp hp with h | h
    · exact a5 p (List.mem_append_left _ h)
    · exact a5 p (List.mem_append_right _ (h2 _ _ p h))
/-- what is new to the callee is none of the caller's that it did not turn -/
theorem apartS {g h' : Heap} {L' : Addr} {tl news rest full : List (Addr × Obj)} (N' : News g L' h' full) (e : g = hideAll s.heap (news.map (·.1))) (N : News h₀ L s.heap rest) (off : ∀ p ∈ rest, p.1 ∉ news.map (·.1)) (k : ∀ q ∈ tl, q ∈ full) : ∀ q ∈ tl, ∀ p ∈ rest, p.1 ≠ q.1 := by
  subst e
  intro q hq p hp h
  have h1 := (N' q (k q hq)).2.2
  have h2 := hideAll_get _ (N p hp).1 (off p hp)
  rw [h, h1] at h2
  cases h2
end

/-! ### a comprehension of any length, by what holds between the turns -/
theorem comp_inv {prog : Program} {w : World} {A : Around} {h₀ : Heap} {L : Addr} {m : Str → Option Value} {env : Env} {elt : Expr} {x : Str} {scope : Scope} {cl : List (Str × Addr)} {s : Shared} {S : List (Addr × Obj) → Prop} {P : Nat → Value → Prop}
    {Fin : List Value → List (Addr × Obj) → Prop} {n : Nat} {news : List (Addr × Obj)} (J : Nat → List Value → List (Addr × Obj) → Prop) (h0 : J 0 [] news)
    (step : ∀ i ys news v I oI C oC D m₂ h tk (E' : Value → Shared → Prop), i < n → J i ys news → P i v → LCg.NsObj oC m₂ → m₂ x = some v → Fr h₀ L h m → News h₀ L h ((I, oI) :: (C, oC) :: (D, LCg.lst ys) :: news) → LCg.Off3 I C D news → ((@Ne Nat I C) ∧ (@Ne Nat I D) ∧ (@Ne Nat C D)) →
      wpAny (model prog w) A (eval elt (compEnvC scope cl C env)) (LCg.CompEnd h₀ L m { s with heap := h, toks := tk } I oI C oC D (LCg.lst ys) S (fun y news' => J (i + 1) (ys ++ [y]) news')) E' { s with heap := h, toks := tk })
    (fin : ∀ ys news, J n ys news → Fin ys news) : LCg.CompRest prog w A h₀ L m env elt x scope cl s S P Fin n 0 [] news := by
  have key : ∀ k i ys news, i + k = n → J i ys news → LCg.CompRest prog w A h₀ L m env elt x scope cl s S P Fin k i ys news := by
    intro k
    induction k with
    | zero =>
      intro i ys news e hJ
      have e' : i = n := by omega
      subst e'
      exact LCg.CompRest.zero (fin _ _ hJ)
    | succ k ih =>
      intro i ys news e hJ
      refine LCg.CompRest.succ fun v I oI C oC D m₂ h tk E' hv hC hx F N off ne => ?_
      refine wpAny_mono (step i ys news v I oI C oC D m₂ h tk E' (by omega) hJ hv hC hx F N off ne) (fun y s₂ q => ?_) fun _ _ e => e
      obtain ⟨h', tk', news', e1, F', N', off', hS, hj⟩ := q
      exact ⟨h', tk', news', e1, F', N', off', hS, ih (i + 1) _ _ (by omega) hj⟩
  exact key n 0 [] news (by omega) h0
end

section
open PySem.Calls
set_option maxRecDepth 100000
/-! ### from_bytes, with signed=False, of any length -/
section
variable {prog : Program} {w : World} {M : Model} {A : Around} {E : Value → Shared → Prop} {s : Shared} {h₀ : Heap} {L : Addr} {news : List (Addr × Obj)}
theorem grown_any {n : Nat} {Q : Value → Shared → Prop} (hn : n < 2 ^ 1000000) (h : Q (.int (n : Int) s.toks) { s with toks := s.toks + 1 }) : wpAny M A (mkIntGrown (n : Int)) Q E s := by
  unfold mkIntGrown
  rw [Int.natAbs_natCast, if_neg ?_]
  · exact wpAny_mkInt h
  · have hb : bitsLine = 134217728 := by first | rfl | decide
    rw [hb]
    by_cases hz : n = 0
    · subst hz; decide
    · have h1 := (Nat.log2_lt hz).mpr hn
      omega
theorem tree_fb {b : Array UInt8} {t u : Tok} {P : Fin → Shared → Prop} (hl : b.size ≤ 10000) (h : P (.done (.ret (.int (KFB.value (KBw.bInts b)) s.toks))) { s with toks := s.toks + 1 }) :
    wpAny M A (Builtin.«int.from_bytes» ⟨[.type "int", .bytes b t, .str (PySem.Str.ofString "big") u], [(PySem.Str.ofString "signed", .bool false)]⟩) P E s := by
  have hv : ((b.toList.foldl (fun (acc : Nat) (b : UInt8) => acc * 256 + b.toNat) 0 : Nat) : Int) = KFB.value (KBw.bInts b) := KFB.fold_cast b.toList 0
  have hn : b.toList.foldl (fun (acc : Nat) (b : UInt8) => acc * 256 + b.toNat) 0 < 2 ^ 1000000 := by
    have h1 := KFB.fold_lt b.toList 0
    rw [Nat.zero_add, Nat.one_mul, Array.length_toList] at h1
    refine Nat.lt_of_lt_of_le h1 ?_
    rw [show (256 : Nat) = 2 ^ 8 from rfl, ← Nat.pow_mul]
    exact Nat.pow_le_pow_right (by decide) (by omega)
  unfold Builtin.«int.from_bytes»
  refine wpAny_bind (wpAny_of_eq (a := true) KFB.type_int ?_)
  refine KFB.if_not rfl ?_
  refine wpAny_bind (wpAny_of_eq (a := true) F.conv_sub_int ?_)
  refine KFB.if_not rfl ?_
  refine wpAny_bind (wpAny_of_eq (a := [some (.bytes b t), some (.str (PySem.Str.ofString "big") u), some (.bool false)]) (by kernel_rfl) ?_)
  refine wpAny_bind (wpAny_of_eq (a := PySem.Str.ofString "big") (by kernel_rfl) ?_)
  refine wpAny_bind (wpAny_of_eq (a := false) (by first | rfl | kernel_rfl) ?_)
  refine wpAny_bind (wpAny_of_eq (a := false) (by kernel_rfl) ?_)
  refine wpAny_bind (wpAny_of_eq (a := b) rfl ?_)
  show wpAny _ _ (mkIntGrown (b.toList.foldl (fun (acc : Int) (b : UInt8) => acc * 256 + (b.toNat : Int)) ((0 : Nat) : Int)) >>= fun v => _) _ _ _
  rw [KFB.foldI_eq]
  refine wpAny_bind (grown_any hn ?_)
  rw [hv]
  refine KFB.if_so (by decide +kernel) ?_
  exact wpAny_bind (wpAny_pure (wpAny_pure h))
theorem check_fb {b : Array UInt8} {t u : Tok} {o : PySem.Str} : checkBoundCall "int.from_bytes" ⟨[.type "int", .bytes b t, .str o u], [(PySem.Str.ofString "signed", .bool false)]⟩ = pure () := by first | kernel_rfl | rfl
theorem call_fb {x : Addr} {b : Array UInt8} {t u : Tok} {Q : Value → Shared → Prop} (N : News h₀ L s.heap news) (hm : (x, KFB.bound) ∈ news) (hl : b.size ≤ 10000)
    (h : ∀ t' k, Q (.int (KFB.value (KBw.bInts b)) t') { s with toks := k }) : wpAny (model prog w) A (call (.ref x) [.bytes b t, .str (PySem.Str.ofString "big") u] [(PySem.Str.ofString "signed", .bool false)]) Q E s := by
  have ho : KFB.StandsAt x s.heap := KFB.at_of N hm
  refine wpAny_call (codeAny_of_tree ?_)
  show wpAny _ A.in1 (callAny (.ref x) ⟨[.bytes b t, .str _ u], [(PySem.Str.ofString "signed", .bool false)]⟩) _ _ s
  simp only [callAny]
  refine wpAny_bind (wpAny_load ho ?_)
  simp only [KFB.bound, show (Value.type "builtin_function_or_method" == Value.type "method" || Value.type "builtin_function_or_method" == Value.type "builtin_function_or_method" || Value.type "builtin_function_or_method" == Value.type "method-wrapper") = true by decide, if_true]
  refine KFB.if_so (by decide) ?_
  refine wpAny_bind (wpAny_of_eq (a := ()) check_fb ?_)
  refine wpAny_bind (wpAny_pure (wpAny_pure ?_))
  exact ⟨KFB.quiet_fb, codeAny_builtin KFB.entry_fb (tree_fb hl (h _ _))⟩
theorem callWith_fbkw {pos : Pos} {u : Addr} {first : List Value} {args : List (Bool × Sem Value)} {kws : List (Option Str × Sem Value)} {Q : Value → Shared → Prop} (hplain : args.any (·.1) = false) (hk : kws.any (·.1.isNone) = false)
    (h : wpAny M A (evalArgs (.ref u) true args kws) (fun x s₁ => KFB.StandsAt u s₁.heap ∧ wpAny M A (call (.ref u) (first ++ x.pos) x.kw) Q E s₁) E s) : wpAny M A (callWith pos (.ref u) first args kws) Q E s := by
  unfold callWith
  refine wpAny_bind (wpAny_holding (wpAny_mono h (fun x s₁ h₁ => wpAny_bind (wpAny_standAt ?_)) fun _ _ x => x))
  obtain ⟨ho, hcall⟩ := h₁
  simp only [hplain, hk, Bool.or_false]
  refine wpAny_bind (m := keeperOf (.ref u)) ?_
  unfold keeperOf
  refine wpAny_bind (wpAny_load ho ?_)
  simp only [KFB.bound, show (Value.type "builtin_function_or_method" != Value.type "method") = true by decide, show (Value.type "builtin_function_or_method" == Value.type "builtin_function_or_method" || Value.type "builtin_function_or_method" == Value.type "method-wrapper") = true by decide, if_true]
  refine wpAny_pure ?_
  exact wpAny_bind (wpAny_mono hcall (fun r s₂ hr => wpAny_bind (wpAny_holding (wpAny_point (wpAny_pure hr)))) fun _ _ x => x)
theorem callWith_fb {pos : Pos} {u : Addr} {first : List Value} {env : Env} {e : Expr} {rest : List Expr} {kws : List (Option Str × Sem Value)} {Q : Value → Shared → Prop} (_N : News h₀ L s.heap news) (_hm : (u, KFB.bound) ∈ news)
    (h : wpAny M A (spliced (backTo pos (starEach (e :: rest) env))) (fun vs s₁ => wpAny M A (evalAll (kws.map (·.2))) (fun ks s₂ => KFB.StandsAt u s₂.heap ∧ wpAny M A (call (.ref u) (first ++ vs) ((kws.filterMap (·.1)).zip ks)) Q E s₂) E s₁) E s)
    (hk : kws.any (·.1.isNone) = false) (hall : kws.all (·.1.isSome) = true)
    (he : starEach (e :: rest) env = (false, eval e env) :: starEach rest env := by rfl) (hplain : (backTo pos (starEach rest env)).any (·.1) = false := by rfl) :
    wpAny M A (callWith pos (.ref u) first (backTo pos (starEach (e :: rest) env)) kws) Q E s := by
  rw [he] at h ⊢
  refine callWith_fbkw (by show (false || (backTo pos (starEach rest env)).any (·.1)) = false; rw [hplain]; rfl) hk ?_
  exact evalArgs_kw hall h
end

/-! ### to_bytes, big, of any length -/
section
variable {prog : Program} {w : World} {M : Model} {A : Around} {E : Value → Shared → Prop} {s : Shared} {x : Int} {k : Nat} {t u v : Tok}
theorem bits_le8 (h0 : 0 ≤ x) : x < 256 ^ k ↔ Builtin.Int.intBits x ≤ 8 * k := by
  have e : (256 : Int) ^ k = ((2 ^ (8 * k) : Nat) : Int) := by rw [Nat.pow_mul]; exact (pow_cast 256 k).symm
  rw [e]
  have hhi := bits_hi x
  constructor
  · intro h
    by_cases hx : x = 0
    · subst hx; exact Nat.zero_le _
    · have hlo := bits_lo hx
      refine Classical.byContradiction fun hc => ?_
      have h3 : 2 ^ (8 * k) ≤ 2 ^ (Builtin.Int.intBits x - 1) := Nat.pow_le_pow_right (by decide) (by omega)
      omega
  · intro h
    have h3 : 2 ^ Builtin.Int.intBits x ≤ 2 ^ (8 * k) := Nat.pow_le_pow_right (by decide) h
    omega
/-- the octets of a number, the highest first -/
noncomputable def octs (k : Nat) (x : Int) : List Int := (KTBy.little k x).reverse
theorem octs_length : (octs k x).length = k := by rw [octs, List.length_reverse, KTBy.little_length]
theorem call_tb {Q : Value → Shared → Prop} (hk : k ≤ 100000) (h0 : 0 ≤ x) (h1 : x < 256 ^ k)
    (h : ∀ (b : Array UInt8) t' k', KBw.bInts b = octs k x → Q (.bytes b t') { s with toks := k' }) :
    wpAny (model prog w) A (call (.builtin "int.to_bytes") [.int x t, .int (k : Int) u, .str (PySem.Str.ofString "big") v]) Q E s := by
  refine wpAny_call_entry KTBy.slot (typeIs_int s x t) KTBy.entry ?_ (KTBy.args _ _ _)
  have hb := (bits_le8 h0).mp h1
  show wpAny _ _ (Builtin.Int.intOfSelf (.int x t) >>= fun y => _) _ _ s
  refine wpAny_bind (wpAny_of_eq (a := x) rfl ?_)
  show wpAny _ _ (Builtin.Int.intBindNamed "to_bytes" ["length", "byteorder", "signed"] 0 2 [.int (k : Int) u, .str (PySem.Str.ofString "big") v] [] >>= fun l => _) _ _ s
  refine wpAny_bind (wpAny_of_eq (a := [some (.int (k : Int) u), some (.str (PySem.Str.ofString "big") v), none]) (by kernel_rfl) ?_)
  show wpAny _ _ (Builtin.Int.intIndex "int.to_bytes" (.int (k : Int) u) >>= fun n => _) _ _ s
  refine wpAny_bind (wpAny_of_eq (a := (k : Int)) rfl ?_)
  refine KFB.if_not (by show (decide ((k : Int) < -(2 ^ 63 : Int)) || decide ((k : Int) ≥ 2 ^ 63)) = false; rw [decide_eq_false (by omega), decide_eq_false (by omega)]; rfl) ?_
  refine wpAny_bind (wpAny_of_eq (a := PySem.Str.ofString "big") (by kernel_rfl) ?_)
  refine wpAny_bind (wpAny_of_eq (a := false) rfl ?_)
  refine wpAny_bind (wpAny_of_eq (a := false) (by kernel_rfl) ?_)
  refine wpAny_ite_false (decide_eq_false (by omega)) ?_
  refine wpAny_ite_false (decide_eq_false (by omega)) ?_
  refine wpAny_ite_false (decide_eq_false (by rw [sizeLine_eq]; omega)) ?_
  refine KFB.if_not (by show (decide (x < 0) && !false) = false; rw [decide_eq_false (by omega)]; rfl) ?_
  refine KFB.if_not (by show (_ && decide ((Builtin.Int.intBits x : Int) > 8 * (k : Int))) = false; rw [decide_eq_false (by omega), Bool.and_false]) ?_
  refine wpAny_bind (wpAny_mkBytes (wpAny_pure ⟨_, rfl, h _ _ _ ?_⟩) (by show (List.reverse (KTBy.low x (Int.toNat (k : Int)))).length ≤ sizeLine; rw [List.length_reverse, KTBy.low_length, Int.toNat_natCast, sizeLine_eq]; omega))
  show (List.map (fun c : UInt8 => ((c.toNat : Nat) : Int)) (List.reverse (KTBy.low x (Int.toNat (k : Int))))) = octs k x
  rw [Int.toNat_natCast, List.map_reverse, KTBy.low_ints h0 h1, ← KTBy.little_eq, octs]
end
section
variable {prog : Program} {w : World} {A : Around} {E : Value → Shared → Prop} {s : Shared} {x f : Int} {t u v : Tok}
theorem call_tbI {Q : Value → Shared → Prop} (hf0 : 0 ≤ f) (hf : f ≤ 100000) (h0 : 0 ≤ x) (h1 : x < 256 ^ f.toNat)
    (h : ∀ (b : Array UInt8) t' k', KBw.bInts b = octs f.toNat x → Q (.bytes b t') { s with toks := k' }) :
    wpAny (model prog w) A (call (.builtin "int.to_bytes") [.int x t, .int f u, .str (PySem.Str.ofString "big") v]) Q E s := by
  obtain ⟨k, rfl⟩ := Int.eq_ofNat_of_zero_le hf0
  exact call_tb (k := k) (by omega) h0 (by simpa using h1) (by simpa using h)
end
/-- how many octets a number wants, one at the least -/
noncomputable def need (x : Int) : Nat := max 1 ((Builtin.Int.intBits x + 7) / 8)
theorem need_lt {x : Int} (h0 : 0 ≤ x) : x < 256 ^ need x := (bits_le8 h0).mpr (by unfold need; omega)
end

section
open PySem.Calls
set_option maxRecDepth 100000
/-! ### list() of bytes -/
theorem lk_bytes_len : typeLookup (.type "bytes") "__len__" = pure (some (.builtin "bytes.__len__")) := by rw [typeLookup_type, builtinLookup_eq_fast]; kernel_rfl
noncomputable abbrev OctAt (b : Array UInt8) (i : Nat) (v : Value) : Prop := ∃ c u, b[i]? = some c ∧ v = .int (c.toNat : Int) u
section
variable {prog : Program} {w : World} {A : Around} {E : Value → Shared → Prop} {s : Shared} {b : Array UInt8} {t : Tok}
theorem extend_bytes {R : Result → Shared → Prop} (hh : A.handled = none) (S : Addr) (res : Value) (c₀ : Nat) (hS : s.heap.get? S = some { cls := .type "list", data := .seq #[] c₀ })
    (hR : ∀ h' tk acc' c', (∀ b o, b ≠ S → s.heap.get? b = some o → h'.get? b = some o) → h'.get? S = some { cls := .type "list", dict := none, data := .seq acc' c', slots := #[] } →
      ItemsOf (OctAt b) acc' b.size → R (.ok (.ret res)) { s with heap := h', toks := tk }) (hn : b.size ≤ sizeLine) :
    wpAny (model prog w) A.in1 (Builtin.List.listExtendWith (.ref S) (.bytes b t) res)
      (fun fin s' => match fin with | .done f => R (.ok f) s' | .again c' => c'.quiet = true ∧ codeAny (model prog w) A c' R s') (fun e s' => R (.error e) s') s := by
  have hSI : S ≠ s.heap.objs.size := Nat.ne_of_lt (Heap.lt_size hS)
  have hSf : S ∉ [s.heap.objs.size] := fun hm => hSI (List.mem_singleton.mp hm)
  unfold Builtin.List.listExtendWith
  refine wpAny_bind (wpAny_typeOf (T := "bytes") (v := .bytes b t) rfl ?_)
  have h1 : Builtin.List.listSameRef (.ref S) (.bytes b t) = false := rfl
  have h2 : (Value.type "bytes" == Value.type "list") = false := by decide
  have h3 : (Value.type "bytes" == Value.type "tuple") = false := by decide
  simp only [h1, h2, h3, Bool.or_false, Bool.false_eq_true, if_false]
  refine wpAny_bind (KBw.pyIter_bytes ?_)
  refine wpAny_bind (wpAny_holding ?_)
  unfold Builtin.List.listLengthHint
  refine wpAny_bind (wpAny_specialOf (T := "bytes") (v := .bytes b t) rfl lk_bytes_len ?_)
  wp_delta
  refine wpAny_bind (wpAny_isInstance (T := "bytes") (v := .bytes b t) (b := true) rfl (by rw [isSubtype_type]; kernel_rfl) ?_)
  show wpAny _ _ (typeOf (Value.bytes b t) >>= _) _ _ _
  refine wpAny_bind (wpAny_typeOf (T := "bytes") (v := .bytes b t) rfl ?_)
  refine wpAny_pure ?_
  rw [if_neg (by decide)]
  refine wpAny_pure ⟨plainId_quiet F.plain_extend_loop _, codeAny_extend_loopS (KBw.walks (A := A.in1) hh s.heap.objs.size b t).toS hn _ hSf _ b.size 0 _ _ _ rfl (Nat.zero_le _) ⟨_, Heap.get?_push_size _ rfl, rfl, rfl⟩ (Heap.get?_push_of_some _ hS) (ItemsOf.nil _) fun s' acc' c' hm hS' hacc => ?_⟩
  rw [Moved.eq_with hm]
  refine hR s'.heap s'.toks acc' c' (fun b ob hb e => hm.heap b ob (fun hmem => ?_) (Heap.get?_push_of_some _ e)) hS' hacc
  rcases List.mem_cons.mp hmem with e' | hmem
  · exact hb e'
  · exact absurd (Heap.lt_size e) (by rw [List.mem_singleton.mp hmem]; exact Nat.lt_irrefl _)
theorem init_bytes {R : Result → Shared → Prop} (hh : A.handled = none) (S : Addr) (hS : s.heap.get? S = some { cls := .type "list", data := .seq #[] })
    (hR : ∀ h' tk acc' c', (∀ b o, b ≠ S → s.heap.get? b = some o → h'.get? b = some o) → h'.get? S = some { cls := .type "list", dict := none, data := .seq acc' c', slots := #[] } →
      ItemsOf (OctAt b) acc' b.size → R (.ok (.ret .none)) { s with heap := h', toks := tk }) (hn : b.size ≤ sizeLine) :
    wpAny (model prog w) A.in1 (Builtin.«list.__init__» ⟨[.ref S, .bytes b t], []⟩)
      (fun fin s' => match fin with | .done f => R (.ok f) s' | .again c' => c'.quiet = true ∧ codeAny (model prog w) A c' R s') (fun e s' => R (.error e) s') s := by
  show wpAny _ _ (do let old ← Builtin.List.listItems (.ref S); Builtin.List.listUpdate (.ref S) (fun _ => #[]); letGo old.toList.reverse; Builtin.List.listExtendWith (.ref S) (.bytes b t) .none) _ _ s
  refine wpAny_bind ?_
  unfold Builtin.List.listItems
  refine wpAny_bind (wpAny_seqItems hS rfl (wpAny_pure ?_))
  show wpAny _ _ (updateSeq S (fun _ => #[]) >>= fun _ => letGo (#[] : Array Value).toList.reverse >>= fun _ => Builtin.List.listExtendWith (.ref S) (.bytes b t) .none) _ _ s
  refine wpAny_bind (wpAny_updateSeq hS rfl ?_)
  have hS₂ := Heap.get?_update_self (Obj.mapSeq (fun _ => (#[] : Array Value))) hS rfl
  have oth : ∀ b o, b ≠ S → s.heap.get? b = some o → (s.heap.update S (Obj.mapSeq (fun _ => (#[] : Array Value)))).get? b = some o :=
    fun b o hb e => (Heap.get?_update_other _ _ (Ne.symm hb)).trans e
  refine wpAny_bind (wpAny_letGo ?_)
  exact extend_bytes (hn := hn) hh S .none _ hS₂ fun h' tk acc' c' hk hS' hacc => hR h' tk acc' c' (fun b o hb e => hk b o hb (oth b o hb e)) hS' hacc
theorem list_bytes {Q : Value → Shared → Prop} (hh : A.handled = none) (hn : b.size ≤ sizeLine)
    (hQ : ∀ h' tk acc' c', (∀ b o, s.heap.get? b = some o → h'.get? b = some o) →
      h'.get? s.heap.objs.size = some { cls := .type "list", dict := none, data := .seq acc' c', slots := #[] } → ItemsOf (OctAt b) acc' b.size → Q (.ref s.heap.objs.size) { s with heap := h', toks := tk }) :
    wpAny (model prog w) A (call (.type "list") [.bytes b t]) Q E s := by
  refine callType_codes (Q₁ := fun obj s₁ => obj = .ref s.heap.objs.size ∧ s₁ = { s with heap := s.heap.push { cls := .type "list", data := .seq #[] } }) F.called_list (F.typeCall_list_1 _) F.entry_list_init
    (code_list_new _ ⟨rfl, rfl⟩) fun obj s₁ h₁ => ?_
  obtain ⟨rfl, rfl⟩ := h₁
  have hS : (s.heap.push { cls := .type "list", data := .seq #[] }).get? s.heap.objs.size = some { cls := .type "list", data := .seq #[] } := Heap.get?_push_size _ rfl
  refine ⟨⟨_, hS, rfl⟩, F.args_list_init_2 _ _, init_bytes (A := A.in1) (hn := hn) hh _ hS fun h' tk acc' c' hk hS' hacc => ?_⟩
  exact ⟨rfl, hQ h' tk acc' c' (fun b o e => hk b o (Nat.ne_of_lt (Heap.lt_size e)) (Heap.get?_push_of_some _ e)) hS' hacc⟩
theorem ints_of : ∀ {vs : List Value} {ks : List Int}, vs.length = ks.length → (∀ (j : Nat) (v : Value) (k : Int), vs[j]? = some v → ks[j]? = some k → ∃ u, v = Value.int k u) → IntsAre vs ks
  | [], [], _, _ => .nil
  | v :: vs, k :: ks, hl, h => by
    obtain ⟨u, rfl⟩ := h 0 v k rfl rfl
    exact .cons k u (ints_of (Nat.succ.inj hl) fun j v' k' h1 h2 => h (j + 1) v' k' h1 h2)
  | [], _ :: _, hl, _ => by cases hl
  | _ :: _, [], hl, _ => by cases hl
theorem list_bytes_K {Q : Value → Shared → Prop} {h₀ : Heap} {L : Addr} {m : Str → Option Value} {news : List (Addr × Obj)} {ks : List Int} (hh : A.handled = none) (F : Fr h₀ L s.heap m) (N : News h₀ L s.heap news) (hb : KBw.bInts b = ks) (hn : ks.length ≤ 100000)
    (h : ∀ D vs n h' tk, Fr h₀ L h' m → News h₀ L h' ((D, listOf vs.toArray n) :: news) → (∀ p ∈ news, p.1 < D) → IntsAre vs ks → vs.length = ks.length → Q (.ref D) { s with heap := h', toks := tk }) :
    wpAny (model prog w) A (call (.type "list") [.bytes b t]) Q E s := by
  subst hb
  rw [KBw.ints_length] at hn
  refine list_bytes hh (by rw [sizeLine_eq]; omega) fun h' tk acc' c' hk hD hacc => ?_
  have hlen : acc'.toList.length = (KBw.bInts b).length := by rw [KBw.ints_length]; simp [hacc.1]
  refine h _ acc'.toList c' h' tk (F.keeps hk) (fun p hp => ?_) (fun p hp => Heap.lt_size (N p hp).1) (ints_of hlen fun j v k h1 h2 => ?_) hlen
  · rcases List.mem_cons.mp hp with rfl | hp
    · refine ⟨by simpa using hD, Nat.ne_of_gt F.ns.lt, ?_⟩
      cases e : h₀.get? s.heap.objs.size with
      | none => rfl
      | some o => exact absurd (Heap.lt_size (F.keep _ _ e)) (Nat.lt_irrefl _)
    · exact ⟨hk _ _ (N p hp).1, (N p hp).2⟩
  · obtain ⟨c, u, hc, rfl⟩ := hacc.2 j v (by simpa using h1)
    have h3 := KBw.ints_get hc
    rw [h2] at h3
    cases h3
    exact ⟨u, rfl⟩
end
end

section
open PySem.Calls
section
variable {prog : Program} {w : World} {A : Around} {E : Value → Shared → Prop} {s : Shared} {env : Env} {h₀ : Heap} {x : Str} {body : List Stmt} {Q : Flow → Shared → Prop}
/-- what stands behind a turn of a loop over a list, that makes nothing to keep -/
noncomputable def LEnd {σ : Type} (h₀ : Heap) (L : Addr) (s : Shared) (x : Str) (ps : σ → List (Str × Value)) (stored : List Str) (m₀ : Str → Option Value) (P : σ → Prop) (own : List (Addr × Obj)) (s₂ : Shared) : Prop :=
  ∃ (c' : σ) (h' : Heap) (tk : Nat) (m' : Str → Option Value), s₂ = { s with heap := h', toks := tk } ∧ Fr h₀ L h' m' ∧ News h₀ L h' own ∧
    (∀ p ∈ ps c', m' p.1 = some p.2) ∧ (∀ z, z ≠ x → (∀ p ∈ ps c', z ≠ p.1) → stored.contains z = false → m' z = m₀ z) ∧ P c'
noncomputable def LPost {σ : Type} (h₀ : Heap) (L : Addr) (s : Shared) (x : Str) (ps : σ → List (Str × Value)) (stored : List Str) (m₀ : Str → Option Value) (P : σ → Prop) (own : List (Addr × Obj)) (Q : Flow → Shared → Prop) (f : Flow) (s₂ : Shared) : Prop :=
  match f with
  | .ret v => Q (.ret v) s₂
  | .brk => Q .next s₂
  | _ => LEnd h₀ L s x ps stored m₀ P own s₂
theorem lend {σ : Type} {L : Addr} {ps : σ → List (Str × Value)} {stored : List Str} {m₀ m' : Str → Option Value} {P : σ → Prop} {own : List (Addr × Obj)} {h' : Heap} {tk : Nat} (c' : σ)
    (F : Fr h₀ L h' m') (N : News h₀ L h' own) (hk : ∀ p ∈ ps c', m' p.1 = some p.2) (hr : ∀ z, z ≠ x → (∀ p ∈ ps c', z ≠ p.1) → stored.contains z = false → m' z = m₀ z) (hp : P c') :
    LEnd h₀ L s x ps stored m₀ P own { s with heap := h', toks := tk } := ⟨c', h', tk, m', rfl, F, N, hk, hr, hp⟩
theorem j_list {σ : Type} {l : Addr} {vs : List Value} {ns : List Int} {m₀ : Str → Option Value} (ps : σ → List (Str × Value)) (stored : List Str) (P : Nat → σ → Prop) (c₀ : σ)
    (hh : A.handled = none) (hl : h₀.IsList l vs.toArray) (hi : IntsAre vs ns) (F : Fr h₀ env.locals s.heap m₀) (hk : ∀ p ∈ ps c₀, m₀ p.1 = some p.2) (hp : P 0 c₀)
    (turn : ∀ (c : σ) (i : Nat) (n : Int) t (u : Str → Option Value) h tk own, ns[i]? = some n → P i c →
      Fr h₀ env.locals h (fun y => if y = x then some (.int n t) else kstB (fun z => if stored.contains z then u z else m₀ z) (ps c) y) → News h₀ env.locals h own →
      wpAny (model prog w) A (execs body env) (LPost h₀ env.locals s x ps stored m₀ (P (i + 1)) own Q) E { s with heap := h, toks := tk })
    (done : ∀ (c : σ) (u : Str → Option Value) h tk, P ns.length c → Fr h₀ env.locals h (fun y => if y = x then u y else kstB (fun z => if stored.contains z then u z else m₀ z) (ps c) y) → Q .next { s with heap := h, toks := tk }) :
    wpAny (model prog w) A (pyIter (.ref l)) (fun it s₂ => LoopAtV prog w A h₀ env x body Q E it s₂) E s := by
  refine iter_invN (news := []) (fun i m nx => nx = [] ∧ ∃ c : σ, (∀ p ∈ ps c, m p.1 = some p.2) ∧ (∀ z, z ≠ x → (∀ p ∈ ps c, z ≠ p.1) → stored.contains z = false → m z = m₀ z) ∧ P i c) hh hl hi F News.nil ⟨rfl, c₀, hk, fun _ _ _ _ => rfl, hp⟩ ?_ ?_
  · rintro i n t m₁ news₁ h tk own hn hadr hoff ⟨rfl, c, h1, h2, hP⟩ F₁ N₁
    refine wpAny_mono (turn c i n t m₁ h tk own hn hP (kst_fr h1 h2 F₁) (by simpa using N₁)) (fun f s₂ q => ?_) fun _ _ e => e
    have fin : LEnd h₀ env.locals s x ps stored m₀ (P (i + 1)) own s₂ → InvEndN h₀ env.locals (fun m nx => nx = [] ∧ ∃ c : σ, (∀ p ∈ ps c, m p.1 = some p.2) ∧ (∀ z, z ≠ x → (∀ p ∈ ps c, z ≠ p.1) → stored.contains z = false → m z = m₀ z) ∧ P (i + 1) c) own [] { s with heap := h, toks := tk } s₂ := by
      rintro ⟨c', h', tk', m', e, F', N', hk', hr', hp'⟩
      exact ⟨h', tk', m', own, [], e, F', N', (fun p hp => nomatch hp), fun p hp => hp, rfl, rfl, c', hk', hr', hp'⟩
    cases f with
    | ret v => exact q
    | brk => exact q
    | next => exact fin q
    | cont => exact fin q
  · rintro m₁ news₁ h tk ⟨rfl, c, h1, h2, hP⟩ F₁ N₁
    exact done c m₁ h tk hP (kst_frOut h1 h2 F₁)
end
/-- the value of octets, the highest first -/
noncomputable def val (ks : List Int) : Int := ks.foldl (fun a k => 256 * a + k) 0
theorem val_kfb : ∀ (ks : List Int) (a : Int), ks.foldl (fun a k => a * 256 + k) a = ks.foldl (fun a k => 256 * a + k) a
  | [], _ => rfl
  | k :: ks, a => by rw [List.foldl_cons, List.foldl_cons, Int.mul_comm a]; exact val_kfb ks _
theorem kfb_val (ks : List Int) : KFB.value ks = val ks := val_kfb ks 0
theorem val_snoc (ks : List Int) (k : Int) : val (ks ++ [k]) = 256 * val ks + k := by unfold val; rw [List.foldl_append]; rfl
theorem val_take {ks : List Int} {i : Nat} {k : Int} (h : ks[i]? = some k) : val (ks.take (i + 1)) = 256 * val (ks.take i) + k := by
  rw [List.take_add_one, h, Option.toList_some, val_snoc]
/-- every octet of a list -/
noncomputable def Octs (ks : List Int) : Prop := ∀ k ∈ ks, 0 ≤ k ∧ k < 256
theorem fold_bd : ∀ (ks : List Int) (a : Int), Octs ks → 0 ≤ a → 0 ≤ ks.foldl (fun a k => 256 * a + k) a ∧ ks.foldl (fun a k => 256 * a + k) a < (a + 1) * 256 ^ ks.length
  | [], a, _, h => ⟨h, by rw [List.length_nil, Int.pow_zero, Int.mul_one]; exact Int.lt_succ a⟩
  | k :: ks, a, hk, h => by
    obtain ⟨h3, h4⟩ := hk k List.mem_cons_self
    obtain ⟨h1, h2⟩ := fold_bd ks (256 * a + k) (fun q hq => hk q (List.mem_cons_of_mem _ hq)) (by omega)
    refine ⟨h1, Int.lt_of_lt_of_le h2 ?_⟩
    rw [List.length_cons, Int.pow_succ, Int.mul_comm (256 ^ ks.length) 256, ← Int.mul_assoc]
    exact Int.mul_le_mul_of_nonneg_right (by omega) (Int.le_of_lt (Int.pow_pos (by decide)))
theorem val_bd {ks : List Int} (h : Octs ks) : 0 ≤ val ks ∧ val ks < 256 ^ ks.length := by
  obtain ⟨h1, h2⟩ := fold_bd ks 0 h (Int.le_refl 0)
  exact ⟨h1, by simpa [val] using h2⟩
theorem pow256 (k : Nat) : (256 : Int) ^ k = 2 ^ (8 * k) := by rw [Int.pow_mul]; rfl
theorem val_Bd {ks : List Int} (h : Octs ks) {n : Nat} (hn : 8 * ks.length ≤ n) : Bd n (val ks) := by
  obtain ⟨h1, h2⟩ := val_bd h
  rw [pow256] at h2
  exact Bd.mono ⟨h1, h2⟩ hn
theorem octs_take {ks : List Int} (h : Octs ks) (i : Nat) : Octs (ks.take i) := fun k hk => h k (List.mem_of_mem_take hk)
theorem octs_succ (k : Nat) (x : Int) : octs (k + 1) x = (x / 256 ^ k % 256) :: octs k x := by
  unfold octs
  rw [KTBy.little_eq, KTBy.little_eq, List.range_succ, List.map_append, List.reverse_append]
  rfl
theorem octs_app {ks ls : List Int} (h : Octs ks) (g : Octs ls) : Octs (ks ++ ls) := fun q hq => (List.mem_append.mp hq).elim (h q) (g q)
theorem octs_nil : Octs [] := fun _ h => nomatch h
theorem octs_one {k : Int} (h0 : 0 ≤ k) (h1 : k < 256) : Octs [k] := fun q hq => by rw [List.mem_singleton.mp hq]; exact ⟨h0, h1⟩
/-- a row of octets, so many -/
noncomputable def RowIs (ys : List Value) (i : Nat) : Prop := ∃ ks, IntsAre ys ks ∧ Octs ks ∧ ks.length = i
theorem RowIs.nil : RowIs [] 0 := ⟨[], .nil, octs_nil, rfl⟩
theorem RowIs.snoc {ys : List Value} {i : Nat} {k : Int} {t : Tok} (h : RowIs ys i) (h0 : 0 ≤ k) (h1 : k < 256) : RowIs (ys ++ [.int k t]) (i + 1) := by
  obtain ⟨ks, hI, hO, hk⟩ := h
  exact ⟨ks ++ [k], hI.append (.cons _ _ .nil), octs_app hO (octs_one h0 h1), by rw [List.length_append, hk]; rfl⟩
theorem octs_val : ∀ {ks : List Int}, Octs ks → octs ks.length (val ks) = ks := by
  intro ks
  suffices H : ∀ n (ks : List Int), ks.length = n → Octs ks → octs n (val ks) = ks from fun h => H _ ks rfl h
  intro n
  induction n with
  | zero => intro ks hl _; rw [List.length_eq_zero_iff.mp hl]; rfl
  | succ n ih =>
    intro ks hl h
    obtain ⟨k, r, rfl⟩ : ∃ k r, ks = k :: r := by cases ks with | nil => cases hl | cons k r => exact ⟨k, r, rfl⟩
    obtain ⟨k0, k1⟩ := h k List.mem_cons_self
    have hr : Octs r := fun q hq => h q (List.mem_cons_of_mem _ hq)
    have hn : r.length = n := Nat.succ.inj hl
    obtain ⟨v0, v1⟩ := val_bd hr
    have hv : val (k :: r) = k * 256 ^ n + val r := by
      have key : ∀ (r : List Int) (a : Int), r.foldl (fun a k => 256 * a + k) a = a * 256 ^ r.length + val r := by
        intro r
        induction r with
        | nil => intro a; simp [val]
        | cons q r ih2 =>
          intro a
          show r.foldl _ (256 * a + q) = _
          have e : val (q :: r) = r.foldl (fun a k => 256 * a + k) (256 * 0 + q) := rfl
          rw [ih2, e, ih2, List.length_cons, Int.pow_succ]
          rw [Int.add_mul, Int.add_mul, Int.mul_zero, Int.zero_mul, Int.mul_comm 256 a, Int.mul_assoc, Int.mul_comm 256]
          omega
      have := key r (256 * 0 + k)
      rw [hn] at this
      have e : val (k :: r) = r.foldl (fun a k => 256 * a + k) (256 * 0 + k) := rfl
      rw [e, this]; simp
    have hp : (0 : Int) < 256 ^ n := Int.pow_pos (by decide)
    rw [hn] at v1
    rw [octs_succ]
    have h1 : val (k :: r) / 256 ^ n = k := by
      rw [hv, Int.add_comm, Int.add_mul_ediv_right _ _ (by omega), Int.ediv_eq_zero_of_lt v0 v1, Int.zero_add]
    rw [h1, Int.emod_eq_of_lt k0 k1]
    congr 1
    refine Eq.trans ?_ (ih r hn hr)
    unfold octs
    rw [KTBy.little_eq, KTBy.little_eq]
    congr 1
    refine List.map_congr_left fun i hi => ?_
    have hi' := List.mem_range.mp hi
    rw [hv]
    obtain ⟨j, hj⟩ : ∃ j, n = i + 1 + j := ⟨n - i - 1, by omega⟩
    have e2 : k * 256 ^ n = (k * 256 ^ j * 256) * 256 ^ i := by
      rw [hj, Int.pow_add, Int.pow_add, Int.pow_one, Int.mul_comm (256 ^ i * 256) (256 ^ j), Int.mul_comm (256 ^ i) 256, ← Int.mul_assoc, ← Int.mul_assoc]
    rw [e2, Int.add_comm, Int.add_mul_ediv_right _ _ (Int.ne_of_gt (Int.pow_pos (by decide))), Int.add_mul_emod_self_right]
theorem bInts_inj {a b : Array UInt8} (h : KBw.bInts a = KBw.bInts b) : a = b := by
  have key : ∀ (l l' : List UInt8), l.map (fun c => (c.toNat : Int)) = l'.map (fun c => (c.toNat : Int)) → l = l' := by
    intro l
    induction l with
    | nil => intro l' h; cases l' with | nil => rfl | cons _ _ => cases h
    | cons c l ih =>
      intro l' h
      cases l' with
      | nil => cases h
      | cons c' l' =>
        rw [List.map_cons, List.map_cons] at h
        obtain ⟨h1, h2⟩ := List.cons.inj h
        rw [ih l' h2, UInt8.toNat_inj.mp (show c.toNat = c'.toNat by omega)]
  exact Array.toList_inj.mp (key _ _ h)
theorem size_le {b : Array UInt8} {ks : List Int} (h : KBw.bInts b = ks) (hk : ks.length ≤ 10000) : b.size ≤ 10000 := by rw [← KBw.ints_length, h]; exact hk
theorem bint_oct {ks : List Int} (h : Octs ks) : KBw.bInts (byteArr ks) = ks := KBa.ints_make fun k hk => h k hk
end

section
open PySem.Calls
section
variable {prog : Program} {w : World} {A : Around} {E : Value → Shared → Prop} {s : Shared} {env : Env} {h₀ : Heap} {x : Str} {body : List Stmt} {Q : Flow → Shared → Prop}
end
end

section
open PySem.Calls
set_option maxRecDepth 100000
theorem powMod_fold (b e m : Nat) : ∀ k p, p = b ^ (e >>> k) % m → (List.range k).reverse.foldl (fun p i => if e.testBit i then p * p % m * b % m else p * p % m) p = b ^ e % m
  | 0, p, h => by simpa using h
  | k + 1, p, h => by
    rw [List.range_succ, List.reverse_append, List.reverse_singleton, List.singleton_append, List.foldl_cons]
    refine powMod_fold b e m k _ ?_
    have h1 : e >>> k = 2 * (e >>> (k + 1)) + (e.testBit k).toNat := by
      rw [Nat.shiftRight_succ, Nat.testBit_eq_decide_div_mod_eq, Nat.shiftRight_eq_div_pow]
      have := Nat.div_add_mod (e / 2 ^ k) 2
      rcases Nat.mod_two_eq_zero_or_one (e / 2 ^ k) with q | q <;> simp [q] <;> omega
    have h2 : b ^ (2 * (e >>> (k + 1))) % m = p * p % m := by
      rw [h, Nat.mul_comm 2, Nat.pow_mul, Nat.pow_two, Nat.mul_mod]
    rw [h1]
    cases e.testBit k with
    | false => simp only [Bool.false_eq_true, if_false, Bool.toNat_false, Nat.add_zero]; exact h2.symm
    | true =>
      simp only [if_true, Bool.toNat_true]
      rw [Nat.pow_succ, Nat.mul_mod (b ^ _), h2]
      rw [Nat.mul_mod (p * p % m) b m, Nat.mod_mod]
theorem powMod_eq (b e m : Nat) : Builtin.powMod b e m = b ^ e % m := by
  unfold Builtin.powMod
  refine powMod_fold b e m _ _ ?_
  have h : e >>> (Builtin.Int.intBits e) = 0 := by
    rw [Nat.shiftRight_eq_div_pow]
    exact Nat.div_eq_of_lt (bits_hi (e : Int))
  rw [h, Nat.pow_zero]
/-- a power's rest -/
noncomputable def pmod (x e n : Int) : Int := x ^ e.toNat % n
theorem pmod_nn {x e n : Int} (hn : 1 ≤ n) : 0 ≤ pmod x e n ∧ pmod x e n < n := ⟨Int.emod_nonneg _ (by omega), Int.emod_lt_of_pos _ (by omega)⟩
theorem emod_pow (x n : Int) (k : Nat) : (x % n) ^ k % n = x ^ k % n := by
  induction k with
  | zero => simp
  | succ k ih => rw [Int.pow_succ, Int.pow_succ, Int.mul_emod, ih, Int.mul_emod (x ^ k), Int.emod_emod]
theorem pmod_nat {x e n : Int} (hn : 1 ≤ n) (he : 0 ≤ e) : ((((x % (n.natAbs : Int)).toNat) ^ e.natAbs % n.natAbs : Nat) : Int) = pmod x e n := by
  have h1 : (n.natAbs : Int) = n := Int.natAbs_of_nonneg (by omega)
  have h2 : (((x % n).toNat : Nat) : Int) = x % n := Int.toNat_of_nonneg (Int.emod_nonneg _ (by omega))
  have h3 : e.natAbs = e.toNat := by omega
  rw [h3, Int.natCast_emod, h1, Int.natCast_pow, h2]
  exact emod_pow x n _
theorem gives_pow3 (a : Int) (t : Tok) (b : Int) (u : Tok) (c : Int) (v : Tok) (hc : 1 ≤ c) (hb : 0 ≤ b) :
    Gives (Builtin.«int.__pow__» ⟨[.int a t, .int b u, .int c v], []⟩) (.int (pmod a b c)) := by
  have hc0 : ¬(c == 0) = true := by simpa using (by omega : c ≠ 0)
  have hb0 : ¬ b < 0 := by omega
  by_cases hc1 : c.natAbs == 1
  · have h : pmod a b c = 0 := by
      have : c = 1 := by have := beq_iff_eq.mp hc1; omega
      rw [this, pmod, Int.emod_one]
    rw [h]
    exact AutoIntG3.int___pow___int_int_int_1 a t b u c v hc0 hc1
  · refine .of_wp fun M A E s Q h => ?_
    obtain ⟨hp, g, d, tk, os⟩ := s
    wp_walk
    have e1 : (decide (c < 0) && ((Builtin.powMod (a % (c.natAbs : Int)).toNat b.natAbs c.natAbs : Nat) : Int) != 0) = false := by
      rw [decide_eq_false (by omega), Bool.false_and]
    rw [e1, if_neg (by decide), powMod_eq, pmod_nat hc hb]
    exact ⟨_, rfl, h⟩
/-- what squaring and multiplying keeps -/
structure PInv (b0 e0 n : Int) (i : Nat) (f b e : Int) : Prop where
  f0 : 0 ≤ f
  f1 : f < n
  g0 : 0 ≤ b
  g1 : b < n
  x0 : 0 ≤ e
  lt : e * 2 ^ i ≤ e0
  eq : (f * b ^ e.toNat) % n = pmod b0 e0 n
theorem PInv.start {b e n : Int} (hn : 1 ≤ n) (h0 : 0 ≤ b) (h1 : b < n) (he : 0 ≤ e) : PInv b e n 0 (Int.fmod 1 n) b e := by
  rw [Int.fmod_eq_emod_of_nonneg _ (by omega)]
  refine ⟨Int.emod_nonneg _ (by omega), Int.emod_lt_of_pos _ (by omega), h0, h1, he, by simp, ?_⟩
  rw [Int.mul_emod, Int.emod_emod, ← Int.mul_emod, Int.one_mul]; rfl
theorem pow_half {b : Int} {e : Int} (he : 0 ≤ e) : b ^ e.toNat = (b * b) ^ (e / 2).toNat * b ^ (e % 2).toNat := by
  have h : e.toNat = 2 * (e / 2).toNat + (e % 2).toNat := by omega
  rw [h, Int.pow_add, Int.pow_mul, show b ^ 2 = b * b from by rw [show (2 : Nat) = 1 + 1 from rfl, Int.pow_add, Int.pow_one]]
theorem PInv.step {b0 e0 n : Int} {i : Nat} {f b e : Int} (hn : 1 ≤ n) (h : PInv b0 e0 n i f b e) :
    (e.fmod 2 = 1 → PInv b0 e0 n (i + 1) ((f * b).fmod n) ((b * b).fmod n) (e.fdiv 2)) ∧ (e.fmod 2 ≠ 1 → PInv b0 e0 n (i + 1) f ((b * b).fmod n) (e.fdiv 2)) := by
  have he := h.x0
  rw [Int.fmod_eq_emod_of_nonneg _ (by omega : (0 : Int) ≤ 2), Int.fdiv_eq_ediv_of_nonneg _ (by omega : (0 : Int) ≤ 2), Int.fmod_eq_emod_of_nonneg _ (by omega : 0 ≤ n), Int.fmod_eq_emod_of_nonneg _ (by omega : 0 ≤ n)]
  have hl : e / 2 * 2 ^ (i + 1) ≤ e0 := by
    have h2 : (0 : Int) ≤ 2 ^ i := Int.le_of_lt (Int.pow_pos (by decide))
    have h3 : e / 2 * 2 * 2 ^ i ≤ e * 2 ^ i := Int.mul_le_mul_of_nonneg_right (by omega) h2
    have h4 := h.lt
    rw [Int.pow_succ, Int.mul_comm (2 ^ i) 2, ← Int.mul_assoc]; omega
  have hq := h.eq
  rw [pow_half he] at hq
  constructor
  · intro h1
    refine ⟨Int.emod_nonneg _ (by omega), Int.emod_lt_of_pos _ (by omega), Int.emod_nonneg _ (by omega), Int.emod_lt_of_pos _ (by omega), by omega, hl, ?_⟩
    rw [← hq, h1, show (1 : Int).toNat = 1 from rfl, Int.pow_one]
    rw [Int.mul_emod, Int.emod_emod, emod_pow, ← Int.mul_emod]
    rw [Int.mul_assoc, Int.mul_comm b]
  · intro h1
    have h2 : e % 2 = 0 := by omega
    refine ⟨h.f0, h.f1, Int.emod_nonneg _ (by omega), Int.emod_lt_of_pos _ (by omega), by omega, hl, ?_⟩
    rw [← hq, h2, show (0 : Int).toNat = 0 from rfl, Int.pow_zero, Int.mul_one]
    rw [Int.mul_emod, emod_pow, ← Int.mul_emod]
theorem PInv.stop {b0 e0 n f b e : Int} (he : e0 < 2 ^ 400) (h : PInv b0 e0 n 1000 f b e) : e = 0 := by
  refine Classical.byContradiction fun hc => ?_
  have h0 := h.x0
  have h1 := h.lt
  have h2 : (1 : Int) * 2 ^ 1000 ≤ e * 2 ^ 1000 := Int.mul_le_mul_of_nonneg_right (by omega) (Int.le_of_lt (Int.pow_pos (by decide)))
  have h3 : (2 : Int) ^ 400 ≤ 2 ^ 1000 := ipow_mono (by decide) (by decide)
  omega
theorem PInv.fin {b0 e0 n : Int} {i : Nat} {f b : Int} (h : PInv b0 e0 n i f b 0) : f = pmod b0 e0 n := by
  have h1 := h.eq
  rw [show (0 : Int).toNat = 0 from rfl, Int.pow_zero, Int.mul_one, Int.emod_eq_of_lt h.f0 h.f1] at h1
  exact h1
theorem slot_int_pow : Slot "int" "__pow__" "int.__pow__" :=
  .of (owner := "int") (n := "__pow__") (by rw [typeLookup_type, builtinLookup_eq_fast]; kernel_rfl) (by decide +kernel) (by decide +kernel) (by decide +kernel)
    (by first | exact .inl (by decide +kernel) | exact .inr (by decide +kernel)) (by rw [isSubtype_type]; kernel_rfl)
theorem entry_int_pow : entryFor table "int.__pow__" = some Builtin.«int.__pow__» := entryFor_of_fast (by kernel_rfl)
theorem args_int_pow3 (a b c : Value) : argsOk "int.__pow__" ⟨[a, b, c], []⟩ := by unfold argsOk; kernel_rfl
theorem entry_powT : entryFor table "pow" = some Builtin.«pow» := entryFor_of_fast (by kernel_rfl)
theorem kind_powT : builtinKind "pow" = none := by decide +kernel
theorem plain_powT : plainId "pow" = true := by decide +kernel
theorem args_pow3 (a b c : Value) : argsOk "pow" ⟨[a, b, c], []⟩ := by unfold argsOk; kernel_rfl
set_option maxHeartbeats 2000000 in
theorem call_pow3 {prog : Program} {w : World} {A : Around} {E : Value → Shared → Prop} {s : Shared} {a b c : Int} {t u v : Tok} {Q : Value → Shared → Prop} (hc : 1 ≤ c) (hb : 0 ≤ b)
    (h : Q (.int (pmod a b c) s.toks) { s with toks := s.toks + 1 }) : wpAny (model prog w) A (call (.builtin "pow") [.int a t, .int b u, .int c v]) Q E s := by
  refine call_function_entry kind_powT plain_powT entry_powT (args_pow3 _ _ _) ?_
  unfold Builtin.«pow»
  refine wpAny_bind (wpAny_of_eq (a := [some (.int a t), some (.int b u), some (.int c v)]) (by first | rfl | kernel_rfl) ?_)
  refine wpAny_bind (wpAny_rule ?_)
  refine wpAny_bind (wpAny_typeOf (typeIs_int _ a t) ?_)
  dsimp only [pure_bind]
  refine wpAny_bind (wpAny_of_eq slot_int_pow.lookup ?_)
  dsimp only
  refine wpAny_bind (wpAny_callSpecial?_slot (typeIs_int _ a t) slot_int_pow (call_gives slot_int_pow (typeIs_int _ a t) entry_int_pow (args_int_pow3 _ _ _) (gives_pow3 a t b u c v hc hb) ?_))
  dsimp only [Made.post]
  exact wpAny_pure ⟨_, rfl, h⟩
end

section
open PySem.Calls
/-- a value that is no int -/
inductive NotInt (h : Heap) : Value → Prop
  | str (x t) : NotInt h (.str x t)
  | float (x t) : NotInt h (.float x t)
  | none : NotInt h .none
  | bytes (y t) : NotInt h (.bytes y t)
  | list (a : Addr) (o : Obj) : h.get? a = some o → o.cls = .type "list" → NotInt h (.ref a)
theorem NotInt.keeps {h h' : Heap} {v : Value} (H : NotInt h v) (k : ∀ b o, h.get? b = some o → h'.get? b = some o) : NotInt h' v := by
  cases H with
  | str x t => exact .str x t
  | float x t => exact .float x t
  | none => exact .none
  | bytes y t => exact .bytes y t
  | list a o h1 h2 => exact .list a o (k _ _ h1) h2
section
variable {prog : Program} {w : World} {A : Around} {E : Value → Shared → Prop} {s : Shared} {h₀ : Heap} {L D : Addr} {m : Str → Option Value} {news news' : List (Addr × Obj)} {vs : List Value} {n : Nat} {k : Int} {x : Value} {t : Tok}
end
/-- a value that is no int, the one list among them -/
inductive NIL (l : Addr) : Value → Prop
  | str (x t) : NIL l (.str x t)
  | float (x t) : NIL l (.float x t)
  | none : NIL l .none
  | bytes (y t) : NIL l (.bytes y t)
  | list : NIL l (.ref l)
theorem NIL.at {h₀ h : Heap} {L l : Addr} {v : Value} {o : Obj} {news : List (Addr × Obj)} (H : NIL l v) (N : News h₀ L h news) (hm : (l, o) ∈ news) (hc : o.cls = .type "list") : NotInt h v := by
  cases H with
  | str x t => exact .str x t
  | float x t => exact .float x t
  | none => exact .none
  | bytes y t => exact .bytes y t
  | list => exact .list _ _ (N.get hm) hc
theorem pick_any {prog : Program} {w : World} {A : Around} {E : Value → Shared → Prop} {s : Shared} {value slice : PySem.Expr} {D : Addr} {vs : List Value} {k : Int} {u : Tok} {Q : Value → Shared → Prop} (P : Value → Prop) (hl : s.heap.IsList D vs.toArray) (h0 : 0 ≤ k) (hhi : k < 2 ^ 63) (h1 : k < vs.length) (hP : ∀ v ∈ vs, P v) (h : ∀ v, P v → Q v s)
    (hs : subscripted slice false (.ref D) (.int k u) = operate [.ref D, .int k u] (getItem (.ref D) (.int k u)) := by with_unfolding_all rfl) :
    wpAny (model prog w) A (subscriptTail value slice (.ref D) (.int k u)) Q E s := by
  have hj : k.toNat < vs.length := by omega
  exact item_litK hl h0 hhi (List.getElem?_eq_getElem hj) (h _ (hP _ (List.getElem_mem hj))) hs
end

section
/-- Euclid's rows, with their factors -/
structure EInv (x y : Int) (i : Nat) (a0 b0 c0 a1 b1 c1 : Int) : Prop where
  n0 : 0 ≤ a0
  n1 : 0 ≤ a1
  e0 : a0 = b0 * x + c0 * y
  e1 : a1 = b1 * x + c1 * y
  g : Int.gcd a0 a1 = Int.gcd x y
  mb0 : (b0.natAbs : Int) ≤ x + y + 1
  mb1 : (b1.natAbs : Int) ≤ x + y + 1
  mb : (b1.natAbs : Int) * a0 + (b0.natAbs : Int) * a1 ≤ x + y + 1
  mc0 : (c0.natAbs : Int) ≤ x + y + 1
  mc1 : (c1.natAbs : Int) ≤ x + y + 1
  mc : (c1.natAbs : Int) * a0 + (c0.natAbs : Int) * a1 ≤ x + y + 1
  t : i = 0 ∨ a1 < a0
  ma0 : a0 ≤ x + y + 1
  ma1 : a1 ≤ x + y + 1
  p : a0 * a1 * 2 ^ i ≤ 2 * (x * y)
  p0 : i = 0 → a0 * a1 ≤ x * y
theorem EInv.start {x y : Int} (hx : 0 ≤ x) (hy : 0 ≤ y) : EInv x y 0 x 1 0 y 0 1 := by
  have hxy : 0 ≤ x * y := Int.mul_nonneg hx hy
  refine ⟨hx, hy, by omega, by omega, rfl, ?_, ?_, ?_, ?_, ?_, ?_, .inl rfl, by omega, by omega, ?_, fun _ => Int.le_refl _⟩ <;> simp <;> omega
/-- one factor's bound through a turn -/
theorem bound_step {M a0 a1 b0 b1 q : Int} (h1 : 0 < a1) (hq : 0 ≤ q) (hr : 0 ≤ a0 - q * a1) (mb : (b1.natAbs : Int) * a0 + (b0.natAbs : Int) * a1 ≤ M) :
    ((b0 - q * b1).natAbs : Int) ≤ M ∧ ((b0 - q * b1).natAbs : Int) * a1 + (b1.natAbs : Int) * (a0 - q * a1) ≤ M := by
  have k1 : ((b0 - q * b1).natAbs : Int) ≤ (b0.natAbs : Int) + q * (b1.natAbs : Int) := by
    have e : (q * b1).natAbs = q.natAbs * b1.natAbs := Int.natAbs_mul ..
    have e2 : ((q * b1).natAbs : Int) = q * (b1.natAbs : Int) := by
      rw [e]; push_cast; rw [Int.natAbs_of_nonneg hq]
    rw [← e2]; omega
  have k2 : ((b0 - q * b1).natAbs : Int) * a1 ≤ ((b0.natAbs : Int) + q * (b1.natAbs : Int)) * a1 := Int.mul_le_mul_of_nonneg_right k1 (by omega)
  have k3 : ((b0.natAbs : Int) + q * (b1.natAbs : Int)) * a1 = (b0.natAbs : Int) * a1 + (b1.natAbs : Int) * (q * a1) := by
    rw [Int.add_mul]; congr 1; rw [Int.mul_comm q, Int.mul_assoc]
  have k4 : (b1.natAbs : Int) * (a0 - q * a1) = (b1.natAbs : Int) * a0 - (b1.natAbs : Int) * (q * a1) := Int.mul_sub ..
  have k5 : ((b0 - q * b1).natAbs : Int) * 1 ≤ ((b0 - q * b1).natAbs : Int) * a1 := Int.mul_le_mul_of_nonneg_left (by omega) (by omega)
  have k6 : 0 ≤ (b1.natAbs : Int) * (a0 - q * a1) := Int.mul_nonneg (by omega) hr
  constructor <;> omega
theorem EInv.step {x y : Int} {i : Nat} {a0 b0 c0 a1 b1 c1 : Int} (h : EInv x y i a0 b0 c0 a1 b1 c1) (h1 : a1 ≠ 0) :
    EInv x y (i + 1) a1 b1 c1 (a0 - Int.fdiv a0 a1 * a1) (b0 - Int.fdiv a0 a1 * b1) (c0 - Int.fdiv a0 a1 * c1) := by
  have hpos : 0 < a1 := by have := h.n1; omega
  have hm : a0 - Int.fdiv a0 a1 * a1 = Int.fmod a0 a1 := by have := Int.fmod_add_mul_fdiv a0 a1; rw [Int.mul_comm]; omega
  have hq : 0 ≤ Int.fdiv a0 a1 := by rw [Int.fdiv_eq_ediv_of_nonneg _ (by omega)]; exact Int.ediv_nonneg h.n0 h.n1
  have r0 := Int.fmod_nonneg_of_pos a0 hpos
  have r1 := Int.fmod_lt_of_pos a0 hpos
  have hb := bound_step hpos hq (by omega) h.mb
  have hc := bound_step hpos hq (by omega) h.mc
  have hn0 := h.n0
  have e0 := h.e0
  have e1 := h.e1
  refine ⟨h.n1, by omega, e1, ?_, ?_, h.mb1, hb.1, hb.2, h.mc1, hc.1, hc.2,   .inr (by omega), h.ma1, ?_, ?_, fun h => absurd h (Nat.succ_ne_zero _)⟩
  · rw [Int.sub_mul, Int.sub_mul, Int.mul_assoc, Int.mul_assoc]
    have : Int.fdiv a0 a1 * a1 = Int.fdiv a0 a1 * (b1 * x) + Int.fdiv a0 a1 * (c1 * y) := by rw [← Int.mul_add, ← e1]
    omega
  · rw [hm, ← h.g, Int.fmod_eq_emod_of_nonneg _ (by omega)]
    obtain ⟨u, rfl⟩ := Int.eq_ofNat_of_zero_le h.n0
    obtain ⟨v, rfl⟩ := Int.eq_ofNat_of_zero_le h.n1
    rw [← Int.natCast_emod, Int.gcd_natCast_natCast, Int.gcd_natCast_natCast, Nat.gcd_comm v, ← Nat.gcd_rec, Nat.gcd_comm]
  · have h9 : 0 ≤ Int.fdiv a0 a1 * a1 := Int.mul_nonneg hq (by omega)
    have := h.ma0
    omega
  · rw [hm, Int.pow_succ]
    have hp := h.p
    have key : a1 * Int.fmod a0 a1 * 2 ≤ a0 * a1 ∨ i = 0 := by
      rcases h.t with h0 | h0
      · exact .inr h0
      · left
        have h3 : 1 ≤ Int.fdiv a0 a1 := by
          rw [Int.fdiv_eq_ediv_of_nonneg _ (by omega)]
          exact (Int.le_ediv_iff_mul_le hpos).mpr (by omega)
        have h4 : 1 * a1 ≤ Int.fdiv a0 a1 * a1 := Int.mul_le_mul_of_nonneg_right h3 (by omega)
        have h5 : Int.fmod a0 a1 * 2 ≤ a0 := by omega
        have h6 : a1 * (Int.fmod a0 a1 * 2) ≤ a1 * a0 := Int.mul_le_mul_of_nonneg_left h5 (by omega)
        rw [Int.mul_assoc, Int.mul_comm a0]; exact h6
    rcases key with k | k
    · have h2 : (0 : Int) ≤ 2 ^ i := Int.le_of_lt (Int.pow_pos (by decide))
      have h7 : a1 * Int.fmod a0 a1 * 2 * 2 ^ i ≤ a0 * a1 * 2 ^ i := Int.mul_le_mul_of_nonneg_right k h2
      have e : a1 * Int.fmod a0 a1 * (2 ^ i * 2) = a1 * Int.fmod a0 a1 * 2 * 2 ^ i := by rw [Int.mul_assoc, Int.mul_assoc, Int.mul_assoc, Int.mul_comm (2 ^ i) 2]
      rw [e]; omega
    · subst k
      rw [Int.pow_zero, Int.mul_one] at hp
      have h8 : Int.fmod a0 a1 ≤ a0 := by
        have := Int.fmod_add_mul_fdiv a0 a1
        have h9 : 0 ≤ a1 * Int.fdiv a0 a1 := Int.mul_nonneg (by omega) hq
        omega
      have h10 : a1 * Int.fmod a0 a1 ≤ a1 * a0 := Int.mul_le_mul_of_nonneg_left h8 (by omega)
      rw [Int.mul_comm a1 a0] at h10
      rw [Int.pow_zero]
      have h11 := h.p0 rfl
      omega
theorem EInv.stop {x y : Int} {a0 b0 c0 a1 b1 c1 : Int} (hx : x < 2 ^ 400) (hy : y < 2 ^ 400) (hx0 : 0 ≤ x) (hy0 : 0 ≤ y) (h : EInv x y 2000 a0 b0 c0 a1 b1 c1) : a1 = 0 := by
  refine Classical.byContradiction fun hc => ?_
  have n1 := h.n1
  have n0 := h.n0
  have ht : a1 < a0 := by rcases h.t with h | h; · cases h
                          · exact h
  have h1 : (1 : Int) * 1 ≤ a0 * a1 := Int.mul_le_mul (by omega) (by omega) (by omega) (by omega)
  have hP : (0 : Int) ≤ 2 ^ 2000 := Int.le_of_lt (Int.pow_pos (by decide))
  have h2 : 1 * 1 * 2 ^ 2000 ≤ a0 * a1 * 2 ^ 2000 := Int.mul_le_mul_of_nonneg_right h1 hP
  have h3 : x * y ≤ 2 ^ 400 * 2 ^ 400 := Int.mul_le_mul (by omega) (by omega) hy0 (Int.le_of_lt (Int.pow_pos (by decide)))
  have h4 := h.p
  have h5 : (2 : Int) ^ 2000 = 2 ^ 400 * 2 ^ 400 * 2 ^ 1200 := by rw [← Int.pow_add, ← Int.pow_add]
  have h6 : (2 : Int) ^ 400 * 2 ^ 400 * 4 ≤ 2 ^ 400 * 2 ^ 400 * 2 ^ 1200 := by
    refine Int.mul_le_mul_of_nonneg_left ?_ (Int.mul_nonneg (Int.le_of_lt (Int.pow_pos (by decide))) (Int.le_of_lt (Int.pow_pos (by decide))))
    have : (2 : Int) ^ 1200 = 4 * 2 ^ 1198 := by rw [show (1200 : Nat) = 2 + 1198 from rfl, Int.pow_add]; rfl
    have h7 : (0 : Int) < 2 ^ 1198 := Int.pow_pos (by decide)
    omega
  have h8 : (0 : Int) < 2 ^ 400 * 2 ^ 400 := Int.mul_pos (Int.pow_pos (by decide)) (Int.pow_pos (by decide))
  rw [h5] at h2 h4
  generalize (2 : Int) ^ 400 * 2 ^ 400 = P at *
  generalize P * 2 ^ 1200 = R at *
  omega
end

section
/-- the script's numbers are of a length that can be laid -/
noncomputable def Scr (ks : List Int) : Prop := ∀ k ∈ ks, SBd 1048576 k
theorem Scr.of {ks : List Int} (h : PyData.layable0 (.list (ks.map .int)) = true) : Scr ks := fun k hk => by
  have h1 := PyData.bits_item_of_ints h hk
  exact Nat.lt_of_lt_of_le (PyProof.Rows.natAbs_lt_pow_bits k) (Nat.pow_le_pow_right (by decide) h1)
theorem Scr.getD {ks : List Int} (h : Scr ks) (i : Nat) : SBd 1048576 (ks.getD i 0) := by
  rw [List.getD_eq_getElem?_getD]
  cases e : ks[i]? with
  | none => show (0 : Int).natAbs < 2 ^ 1048576; exact Nat.pow_pos (by decide)
  | some n => exact h n (List.mem_of_getElem? e)
theorem Scr.cell {ks : List Int} (h : Scr ks) (i : Nat) : Bd 1048580 (if ks.getD i 0 < 0 then -ks.getD i 0 else ks.getD i 0) := Bd.mono (SBd.abs (h.getD i)) (by decide)
theorem Bd.add1 {k : Nat} {x y : Int} (h : Bd k x) (g : Bd k y) : Bd (k + 1) (x + y) := by
  have a := h.2; have b := g.2
  refine ⟨Int.add_nonneg h.1 g.1, ?_⟩
  rw [Int.pow_succ]
  omega
theorem mulOk2 {k l : Nat} {x y : Int} (h : SBd k x) (g : SBd l y) (hk : k + l ≤ 134217728) : IntMulOk x y := mulOk_of_bits h.bits g.bits hk
theorem EInv.stop2 {x y : Int} {a0 b0 c0 a1 b1 c1 : Int} (hx : Bd 1300 x) (hy : Bd 1300 y) (h : EInv x y 5000 a0 b0 c0 a1 b1 c1) : a1 = 0 := by
  refine Classical.byContradiction fun hc => ?_
  have n1 := h.n1
  have n0 := h.n0
  have ht : a1 < a0 := by rcases h.t with h | h; · cases h
                          · exact h
  have h1 : (1 : Int) * 1 ≤ a0 * a1 := Int.mul_le_mul (by omega) (by omega) (by omega) (by omega)
  have hP : (0 : Int) ≤ 2 ^ 5000 := Int.le_of_lt (Int.pow_pos (by decide))
  have h2 : 1 * 1 * 2 ^ 5000 ≤ a0 * a1 * 2 ^ 5000 := Int.mul_le_mul_of_nonneg_right h1 hP
  have h3 : x * y ≤ 2 ^ 1300 * 2 ^ 1300 := Int.mul_le_mul (Int.le_of_lt hx.2) (Int.le_of_lt hy.2) hy.1 (Int.le_of_lt (Int.pow_pos (by decide)))
  have h4 := h.p
  have h5 : (2 : Int) ^ 5000 = 2 ^ 1300 * 2 ^ 1300 * 2 ^ 2400 := by rw [← Int.pow_add, ← Int.pow_add]
  have h6 : (2 : Int) ^ 1300 * 2 ^ 1300 * 4 ≤ 2 ^ 1300 * 2 ^ 1300 * 2 ^ 2400 := by
    refine Int.mul_le_mul_of_nonneg_left ?_ (Int.mul_nonneg (Int.le_of_lt (Int.pow_pos (by decide))) (Int.le_of_lt (Int.pow_pos (by decide))))
    have : (2 : Int) ^ 2400 = 4 * 2 ^ 2398 := by rw [show (2400 : Nat) = 2 + 2398 from rfl, Int.pow_add]; rfl
    have h7 : (0 : Int) < 2 ^ 2398 := Int.pow_pos (by decide)
    omega
  have h8 : (0 : Int) < 2 ^ 1300 * 2 ^ 1300 := Int.mul_pos (Int.pow_pos (by decide)) (Int.pow_pos (by decide))
  rw [h5] at h2 h4
  generalize (2 : Int) ^ 1300 * 2 ^ 1300 = P at *
  generalize P * 2 ^ 2400 = R at *
  omega
theorem bd_abs_le {u x y : Int} (hx : Bd 1300 x) (hy : Bd 1300 y) (h : (u.natAbs : Int) ≤ x + y + 1) : SBd 1303 u := by
  have h1 := hx.2
  have h2 := hy.2
  have e : (2 : Int) ^ 1303 = 8 * 2 ^ 1300 := by rw [show (1303 : Nat) = 3 + 1300 from rfl, Int.pow_add]; rfl
  have h3 : (0 : Int) < 2 ^ 1300 := Int.pow_pos (by decide)
  have h4 : ((u.natAbs : Nat) : Int) < ((2 ^ 1303 : Nat) : Int) := by rw [pow_cast]; show _ < (2 : Int) ^ 1303; omega
  exact Int.ofNat_lt.mp h4
/-- Euclid's rows, the factors left open -/
noncomputable def EG (x y : Int) (i : Nat) (a0 a1 : Int) : Prop := ∃ b0 c0 b1 c1, EInv x y i a0 b0 c0 a1 b1 c1
theorem EG.start {x y : Int} (hx : 0 ≤ x) (hy : 0 ≤ y) : EG x y 0 x y := ⟨_, _, _, _, EInv.start hx hy⟩
theorem fmod_sub (a b : Int) : a - Int.fdiv a b * b = Int.fmod a b := by have := Int.fmod_add_mul_fdiv a b; rw [Int.mul_comm]; omega
theorem EG.step {x y : Int} {i : Nat} {a0 a1 : Int} (h : EG x y i a0 a1) (h1 : a1 ≠ 0) : EG x y (i + 1) a1 (Int.fmod a0 a1) := by
  obtain ⟨b0, c0, b1, c1, h⟩ := h
  have := h.step h1
  rw [fmod_sub] at this
  exact ⟨_, _, _, _, this⟩
theorem EG.fin {x y : Int} {i : Nat} {a0 a1 : Int} (h : EG x y i a0 a1) (h1 : a1 = 0) : a0 = (Int.gcd x y : Int) := by
  obtain ⟨b0, c0, b1, c1, h⟩ := h
  subst h1
  have h1 := h.g
  have h2 := h.n0
  rw [Int.gcd_zero_right] at h1
  omega
theorem EG.stop {x y a0 a1 : Int} (hx : Bd 1300 x) (hy : Bd 1300 y) (h : EG x y 5000 a0 a1) : a1 = 0 := by
  obtain ⟨b0, c0, b1, c1, h⟩ := h
  exact h.stop2 hx hy
/-- Euclid's rows, the factors of the first left open -/
noncomputable def EC (x y : Int) (i : Nat) (a0 c0 a1 c1 : Int) : Prop := ∃ b0 b1, EInv x y i a0 b0 c0 a1 b1 c1
theorem EC.start {x y : Int} (hx : 0 ≤ x) (hy : 0 ≤ y) : EC x y 0 x 0 y 1 := ⟨_, _, EInv.start hx hy⟩
theorem EC.step {x y : Int} {i : Nat} {a0 c0 a1 c1 : Int} (h : EC x y i a0 c0 a1 c1) (h1 : a1 ≠ 0) : EC x y (i + 1) a1 c1 (a0 - Int.fdiv a0 a1 * a1) (c0 - Int.fdiv a0 a1 * c1) := by
  obtain ⟨b0, b1, h⟩ := h
  exact ⟨_, _, h.step h1⟩
theorem EC.stop {x y a0 c0 a1 c1 : Int} (hx : Bd 1300 x) (hy : Bd 1300 y) (h : EC x y 5000 a0 c0 a1 c1) : a1 = 0 := by
  obtain ⟨b0, b1, h⟩ := h
  exact h.stop2 hx hy
theorem EC.size {x y : Int} {i : Nat} {a0 c0 a1 c1 : Int} (hx : Bd 1300 x) (hy : Bd 1300 y) (h : EC x y i a0 c0 a1 c1) : SBd 1303 a0 ∧ SBd 1303 c0 ∧ SBd 1303 a1 ∧ SBd 1303 c1 := by
  obtain ⟨b0, b1, h⟩ := h
  have h1 := h.ma0; have h2 := h.ma1; have h3 := h.n0; have h4 := h.n1
  exact ⟨bd_abs_le hx hy (by omega), bd_abs_le hx hy h.mc0, bd_abs_le hx hy (by omega), bd_abs_le hx hy h.mc1⟩
/-- what the inverse is -/
theorem EC.inv {e whole : Int} {i : Nat} {a0 c0 a1 c1 : Int} (he : 0 ≤ e) (hw : 0 < whole) (hg : Int.gcd e whole = 1) (h : EC whole (Int.fmod e whole) i a0 c0 a1 c1) (h1 : a1 = 0) :
    e * Int.fmod c0 whole % whole = 1 % whole := by
  obtain ⟨b0, b1, h⟩ := h
  subst h1
  have hgc : Int.gcd whole (Int.fmod e whole) = 1 := by
    rw [Int.fmod_eq_emod_of_nonneg _ (by omega), ← hg]
    obtain ⟨u, rfl⟩ := Int.eq_ofNat_of_zero_le he
    obtain ⟨v, rfl⟩ := Int.eq_ofNat_of_zero_le (Int.le_of_lt hw)
    rw [← Int.natCast_emod, Int.gcd_natCast_natCast, Int.gcd_natCast_natCast, Nat.gcd_comm v, ← Nat.gcd_rec, Nat.gcd_comm]
  have h2 := h.g
  have h3 := h.n0
  rw [Int.gcd_zero_right, hgc] at h2
  have h4 : a0 = 1 := by omega
  have h5 := h.e0
  rw [h4, Int.fmod_eq_emod_of_nonneg _ (by omega)] at h5
  rw [Int.fmod_eq_emod_of_nonneg _ (by omega)]
  have h6 : 1 % whole = c0 * (e % whole) % whole := by
    conv => lhs; rw [h5]
    rw [Int.add_comm, Int.add_mul_emod_self_right]
  rw [h6, Int.mul_comm e, Int.mul_emod, Int.emod_emod, Int.mul_emod c0, Int.emod_emod]
/-- the octets that a number takes, as the law counts them -/
noncomputable def osz (n : Int) : Int := ((Builtin.Int.intBits n : Int) + 7).fdiv 8
theorem RowIs.len {ys : List Value} {i : Nat} (h : RowIs ys i) : ys.length = i := by
  obtain ⟨ks, h1, _, h3⟩ := h
  rw [h1.length, h3]
theorem octs_get {x : Int} : ∀ {k i : Nat}, i < k → (octs k x)[i]? = some (x / 256 ^ (k - 1 - i) % 256)
  | 0, _, h => absurd h (Nat.not_lt_zero _)
  | k + 1, 0, _ => by rw [octs_succ]; simp
  | k + 1, i + 1, h => by
    rw [octs_succ, List.getElem?_cons_succ, octs_get (Nat.lt_of_succ_lt_succ h)]
    rw [show k + 1 - 1 - (i + 1) = k - 1 - i by omega]
theorem octs_row {x n : Int} {ys : List Value} {i : Nat} {t : Tok} (h : IntsAre ys ((octs n.toNat x).take i)) (hi : i < (n - 0).toNat) :
    IntsAre (ys ++ [.int ((x.fdiv (2 ^ (8 * (n - 1 - (0 + (i : Int)))).toNat)).fmod 256) t]) ((octs n.toNat x).take (i + 1)) := by
  have hi' : i < n.toNat := by omega
  rw [List.take_succ, octs_get hi']
  have e : (x.fdiv (2 ^ (8 * (n - 1 - (0 + (i : Int)))).toNat)).fmod 256 = x / 256 ^ (n.toNat - 1 - i) % 256 := by
    rw [Int.fmod_eq_emod_of_nonneg _ (by decide), Int.fdiv_eq_ediv_of_nonneg _ (Int.le_of_lt (Int.pow_pos (by decide))), pow256]
    congr 3
    omega
  rw [e]
  exact h.append (.cons _ _ .nil)
theorem len_row {prog : Program} {w : World} {A : Around} {E : Value → Shared → Prop} {s : Shared} {h₀ : Heap} {L D : Addr} {news : List (Addr × Obj)} {ys : List Value} {n : Nat} {Q : Value → Shared → Prop} (N : News h₀ L s.heap news) (hm : (D, ({ cls := .type "list", data := .seq ys.toArray n } : Obj)) ∈ news) (hz : ys.length ≤ 16384)
    (h : ∀ k, k = (ys.length : Int) → Q (.int k (s.toks + 1)) { s with toks := s.toks + 1 + 1 }) : wpAny (model prog w) A (call (.builtin "len") [.ref D]) Q E s :=
  kun_lenL (News.isList N hm) (by rw [List.size_toArray]) (by omega) (h _ rfl)
theorem fil_yes {ys : List Value} {ds : List Int} {i : Nat} {k : Int} {t : Tok} (h : IntsAre ys ((ds.take i).filter (fun k => k ≠ 0))) (e : ds[i]? = some k) (hk : k ≠ 0) : IntsAre (ys ++ [.int k t]) ((ds.take (i + 1)).filter (fun k => k ≠ 0)) := by
  rw [List.take_succ, e, List.filter_append]
  refine h.append ?_
  rw [show List.filter (fun k => decide (k ≠ 0)) (some k).toList = [k] by simp [hk]]
  exact .cons _ _ .nil
theorem fil_no {ys : List Value} {ds : List Int} {i : Nat} {k : Int} (h : IntsAre ys ((ds.take i).filter (fun k => k ≠ 0))) (e : ds[i]? = some k) (hk : k = 0) : IntsAre ys ((ds.take (i + 1)).filter (fun k => k ≠ 0)) := by
  rw [List.take_succ, e, List.filter_append, show List.filter (fun k => decide (k ≠ 0)) (some k).toList = [] by simp [hk], List.append_nil]
  exact h
end

section
set_option maxHeartbeats 2000000
open PySem.Calls LCg LCt
/-! ### a comprehension with a test, of any length, by what holds between the turns -/
theorem comp_invT {prog : Program} {w : World} {A : Around} {h₀ : Heap} {L : Addr} {m : Str → Option Value} {env : Env} {ct elt : Expr} {x : Str} {scope : Scope} {cl : List (Str × Addr)} {s : Shared} {S : List (Addr × Obj) → Prop} {P : Nat → Value → Prop}
    {Fin : List Value → List (Addr × Obj) → Prop} {n : Nat} {news : List (Addr × Obj)} (J : Nat → List Value → List (Addr × Obj) → Prop) (h0 : J 0 [] news)
    (step : ∀ i ys news v I oI C oC D m₂ h tk (E' : Value → Shared → Prop), i < n → J i ys news → P i v → NsObj oC m₂ → m₂ x = some v → Fr h₀ L h m → News h₀ L h ((I, oI) :: (C, oC) :: (D, lst ys) :: news) → Off3 I C D news → ((@Ne Nat I C) ∧ (@Ne Nat I D) ∧ (@Ne Nat C D)) →
      wpAny (model prog w) A (isTrue ct (compEnvC scope cl C env) (eval ct (compEnvC scope cl C env))) (fun ok s' => if ok = true then
        wpAny (model prog w) A (eval elt (compEnvC scope cl C env)) (CompEnd h₀ L m { s with heap := h, toks := tk } I oI C oC D (lst ys) S (fun y news' => J (i + 1) (ys ++ [y]) news')) E' s'
        else CompEnd h₀ L m { s with heap := h, toks := tk } I oI C oC D (lst ys) S (fun _ news' => J (i + 1) ys news') Value.none s') E' { s with heap := h, toks := tk })
    (fin : ∀ ys news, J n ys news → Fin ys news) : CompRestT prog w A h₀ L m env ct elt x scope cl s S P Fin n 0 [] news := by
  have key : ∀ k i ys news, i + k = n → J i ys news → CompRestT prog w A h₀ L m env ct elt x scope cl s S P Fin k i ys news := by
    intro k
    induction k with
    | zero =>
      intro i ys news e hJ
      have e' : i = n := by omega
      subst e'
      exact CompRestT.zero (fin _ _ hJ)
    | succ k ih =>
      intro i ys news e hJ
      refine CompRestT.succ fun v I oI C oC D m₂ h tk E' hv hC hx F N off ne => ?_
      have up : ∀ (y : Value) (b : List Value) s₂, (CompEnd h₀ L m { s with heap := h, toks := tk } I oI C oC D (lst ys) S (fun _ news' => J (i + 1) b news')) y s₂ →
          (CompEnd h₀ L m { s with heap := h, toks := tk } I oI C oC D (lst ys) S (fun _ news' => CompRestT prog w A h₀ L m env ct elt x scope cl s S P Fin k (i + 1) b news')) y s₂ := by
        rintro y b s₂ ⟨h', tk', news', e1, F', N', off', hS, hj⟩
        exact ⟨h', tk', news', e1, F', N', off', hS, ih (i + 1) _ _ (by omega) hj⟩
      refine wpAny_mono (step i ys news v I oI C oC D m₂ h tk E' (by omega) hJ hv hC hx F N off ne) (fun ok s₂ q => ?_) fun _ _ e => e
      cases ok with
      | true =>
        simp only [if_true] at q ⊢
        exact wpAny_mono q (fun y s₃ q' => up y (ys ++ [y]) s₃ q') fun _ _ e => e
      | false =>
        simp only [Bool.false_eq_true, if_false] at q ⊢
        exact up _ _ _ q
  exact key n 0 [] news (by omega) h0

section
variable {prog : Program} {w : World} {A : Around} {E : Value → Shared → Prop} {s : Shared} {h₀ : Heap} {L : Addr} {m : Str → Option Value} {env : Env}
/-! ### the same over bytes -/
noncomputable def SrcTB (prog : Program) (w : World) (A : Around) (h₀ : Heap) (L : Addr) (m : Str → Option Value) (env : Env) (ct elt : Expr) (x : Str) (scope : Scope) (cl : List (Str × Addr)) (Fin : Shared → List Value → List (Addr × Obj) → Prop) (xv : Value) (s₁ : Shared) : Prop :=
  ∃ b t news, xv = .bytes b t ∧ A.handled = none ∧ Fr h₀ L s₁.heap m ∧ News h₀ L s₁.heap news ∧ b.size ≤ sizeLine ∧
    ∀ s₂ : Shared, (∃ h, s₂ = { s₁ with heap := h }) → CompRestT prog w A h₀ L m env ct elt x scope cl s₂ (fun _ => True) (fun i v => ∃ c u, b[i]? = some c ∧ v = .int (c.toNat : Int) u) (Fin s₂) b.size 0 [] news
theorem SrcTB.go {ct elt : Expr} {x : Str} {scope : Scope} {cl : List (Str × Addr)} {Fin : Shared → List Value → List (Addr × Obj) → Prop} {b : Array UInt8} {t : Tok} {news : List (Addr × Obj)} {s₁ : Shared}
    (hh : A.handled = none) (F : Fr h₀ L s₁.heap m) (N : News h₀ L s₁.heap news) (hsz : b.size ≤ sizeLine)
    (h : ∀ g, CompRestT prog w A h₀ L m env ct elt x scope cl { s₁ with heap := g } (fun _ => True) (fun i v => ∃ c u, b[i]? = some c ∧ v = .int (c.toNat : Int) u) (Fin { s₁ with heap := g }) b.size 0 [] news) :
    SrcTB prog w A h₀ L m env ct elt x scope cl Fin (.bytes b t) s₁ := ⟨b, t, news, rfl, hh, F, N, hsz, fun _ ⟨g, e⟩ => e ▸ h g⟩
theorem bytes_st {I : Addr} {b : Array UInt8} {t : Tok} : ∀ i (h h' : Heap) (o : Obj) (nw : List (Addr × Obj)), KBw.IsBytesIter h I b t i → h.get? I = some o → h'.get? I = some o → (∀ b o, h₀.get? b = some o → h'.get? b = some o) → News h₀ L h' nw → True → KBw.IsBytesIter h' I b t i :=
  fun i h h' o nw st e e' _ _ _ => by obtain ⟨o', q, r⟩ := st; rw [e] at q; cases q; exact ⟨o, e', r⟩
theorem ListComp_TB {ct elt iter : Expr} {x : Str} {px : Pos} {scope : Scope} {cl : List (Str × Addr)} {pos : Pos} {Q : Value → Shared → Prop} (F₀ : Fr h₀ L s.heap m)
    (hclos : closureFor scope env = pure cl) (hcell : ∀ y ∈ scope.names, y.2 ≠ .cell) (hkind : scope.kind = .function)
    (hnames : ∀ y ∈ scope.names, y.2 = .local → scope.names.lookup y.1 = some .local) (hx : scope.names.lookup x = some .local)
    (h : wpAny (model prog w) A (eval iter env) (SrcTB prog w A h₀ L m env ct elt x scope cl (fun s₂ => FinE h₀ L m s₂ Q)) E s)
    (hs : ∀ x, foldedSetIterable iter env x = pure x := by intro _; rfl) :
    wpAny (model prog w) A (eval (.ListComp elt [⟨.Name x px, iter, [ct], 0⟩] scope pos) env) Q E s := by
  rw [eval_ListComp]
  refine wpAny_comprehension_free (use := none) rfl hs hclos hkind hnames (wpAny_mono h (fun xv s₁ h₁ => ?_) fun _ _ e => e)
  obtain ⟨b, t, news, rfl, hh, F, N, hsz, R⟩ := h₁
  refine KBw.pyIter_bytes ?_
  have up : ∀ a o, s₁.heap.get? a = some o → (s₁.heap.push { cls := .type "bytes_iterator", data := .fields #[.bytes b t, .int 0 0] }).get? a = some o := fun a o e => Heap.get?_push_of_some _ e
  refine block_T (KBw.walks hh s₁.heap.objs.size b t) hsz (fun i h st => by obtain ⟨o, e, _⟩ := st; exact ⟨o, e⟩) bytes_st hcell hkind hx ⟨_, Heap.get?_push_size _ rfl, rfl, rfl⟩ (fun a ha => ?_)
    (F.keeps up) (N.grown up) (Nat.ne_of_lt F.ns.lt) (next_is_new F) (fun p hp => Nat.ne_of_lt (Heap.lt_size (N p hp).1)) trivial (R _ ⟨_, rfl⟩) ?_
  · show a < (s₁.heap.push _).objs.size
    rw [Heap.size_push, List.mem_singleton.mp ha]
    exact Nat.lt_succ_self _
  · intro D C h tk m' ys news' F' N' o1 hn hC₀ hD₀ hCL hDL hCD offC fin
    refine ⟨m', hn, fun h'' hs'' => fin D h'' tk (F'.change hs'' hCL hC₀) (fun p hp => ?_) o1⟩
    refine ⟨hs''.extBut _ _ ?_ (N' p hp).1, (N' p hp).2⟩
    rcases List.mem_cons.mp hp with rfl | hp
    · exact Ne.symm hCD
    · exact offC p hp
end
end

section
set_option maxHeartbeats 2000000
open PySem.Calls LCg LCt
noncomputable abbrev two (elt : Expr) (x y : Str) (px py : Pos) (iter iter2 ct : Expr) (scope : Scope) (pos : Pos) : Expr := .ListComp elt [⟨.Name x px, iter, [], 0⟩, ⟨.Name y py, iter2, [ct], 0⟩] scope pos
theorem compTurn2_0 (elt iter iter2 ct : Expr) (x y : Str) (px py : Pos) (scope : Scope) (pos : Pos) (it acc : Value) (env : Env) :
    compTurn (two elt x y px py iter iter2 ct scope pos) 0 it acc env = (do
      standAt iter.pos
      match ← pyNext it with
      | none => pure (.done .next)
      | some v =>
        letOwnedTupleGo (.Name x px) it v
        assign (.Name x px) env v
        let z ← eval iter2 env
        standAt iter2.pos
        let z ← foldedSetIterable iter2 env z
        let _ ← runOwn (.compStart (two elt x y px py iter iter2 ct scope pos) 1 (← holding [z] (pyIter z)) acc env) env
        again (.compLoop (two elt x y px py iter iter2 ct scope pos) 0 it acc env)) := by rfl
theorem compTurn2_1 (elt iter iter2 ct : Expr) (x y : Str) (px py : Pos) (scope : Scope) (pos : Pos) (it acc : Value) (env : Env) :
    compTurn (two elt x y px py iter iter2 ct scope pos) 1 it acc env = (do
      standAt iter2.pos
      match ← pyNext it with
      | none => pure (.done .next)
      | some v =>
        letOwnedTupleGo (.Name y py) it v
        assign (.Name y py) env v
        let mut ok := true
        for c in [ct] do
          if ok then ok ← isTrue c env (eval c env)
        if ok then
          (do let _ ← call (.builtin "list.append") [acc, ← eval elt env])
        again (.compLoop (two elt x y px py iter iter2 ct scope pos) 1 it acc env)) := by rfl
section
variable {prog : Program} {w : World} {A : Around} {E : Value → Shared → Prop} {R : Result → Shared → Prop} {s : Shared} {elt iter iter2 ct : Expr} {x y : Str} {px py : Pos} {scope : Scope} {pos : Pos} {it acc : Value} {env : Env}
theorem compStart2_1
    (h0 : codeAny (model prog w) A (.compLoop (two elt x y px py iter iter2 ct scope pos) 1 it acc env) R s)
    (h : wpAny (model prog w) A (pyIter it) (fun it' s' => codeAny (model prog w) A (.compLoop (two elt x y px py iter iter2 ct scope pos) 1 it' acc env) R s')
      (notedBy (model prog w) A env fun x s' => R (.error x) s') s) :
    codeAny (model prog w) A (.compStart (two elt x y px py iter iter2 ct scope pos) 1 it acc env) R s := by
  refine codeAny_of_tree ?_
  show wpAny _ _ ((compStart (two elt x y px py iter iter2 ct scope pos) 1 it acc env).onRaise (fun x => do noteFrame x env; standAt theWindowsPlace)) _ _ s
  refine wpAny_notedAt ?_
  unfold compStart
  show wpAny _ _ (ask >>= _) _ _ s
  refine wpAny_bind (wpAny_askSetting (wpAny_ite ?_))
  split
  · first
      | exact wpAny_bind (wpAny_pure (wpAny_pure (And.intro rfl h0)))
      | exact wpAny_pure (And.intro rfl h0)
  · first
      | exact wpAny_bind (wpAny_rule (wpAny_bind (wpAny_standAt (wpAny_bind (wpAny_mono h (fun it' s' h' => wpAny_pure (And.intro rfl h')) fun _ _ x => x)))))
      | (refine wpAny_bind (wpAny_rule ?_); show wpAny _ _ (standAt iter2.pos >>= _) _ _ s; exact wpAny_bind (wpAny_standAt (wpAny_bind (wpAny_mono h (fun it' s' h' => wpAny_pure (And.intro rfl h')) fun _ _ x => x))))
theorem compLoop2_1 (I : Nat → Shared → Prop)
    (turn : ∀ n s, I n s → wpAny (model prog w) A (pyNext it) (fun r s₁ => match r with
      | none => R (.ok .next) s₁
      | some v => wpAny (model prog w) A (assign (.Name y py) env v) (fun _ s₂ =>
          wpAny (model prog w) A (isTrue ct env (eval ct env)) (fun ok s₃ =>
            if ok = true then wpAny (model prog w) A (eval elt env) (fun x s₄ =>
              wpAny (model prog w) A (call (.builtin "list.append") [acc, x]) (fun _ s₅ => ∃ m, m < n ∧ I m s₅) (notedBy (model prog w) A env fun e s' => R (.error e) s') s₄) (notedBy (model prog w) A env fun e s' => R (.error e) s') s₃
            else ∃ m, m < n ∧ I m s₃) (notedBy (model prog w) A env fun e s' => R (.error e) s') s₂) (notedBy (model prog w) A env fun e s' => R (.error e) s') s₁) (notedBy (model prog w) A env fun e s' => R (.error e) s') s)
    (n : Nat) (h : I n s) :
    codeAny (model prog w) A (.compLoop (two elt x y px py iter iter2 ct scope pos) 1 it acc env) R s := by
  refine codeAny_loop rfl I (fun n s hI => ?_) n h
  show wpAny _ A ((compTurn (two elt x y px py iter iter2 ct scope pos) 1 it acc env).onRaise (fun x => do noteFrame x env; theTreesLotGoes x)) _ _ s
  refine wpAny_noted ?_
  rw [compTurn2_1]
  refine wpAny_bind (wpAny_standAt (wpAny_bind (wpAny_mono (turn n s hI) (fun r s₁ h₁ => ?_) fun _ _ h' => h')))
  cases r with
  | none => exact wpAny_pure h₁
  | some v =>
    refine wpAny_bind (wpAny_of_eq (a := ()) rfl ?_)
    refine wpAny_bind (wpAny_mono h₁ (fun _ s₂ h₂ => wpAny_bind (wpAny_tests_one (wpAny_mono h₂ (fun ok s₃ h₃ => ?_) fun _ _ h' => h'))) fun _ _ h' => h')
    cases ok with
    | false => exact wpAny_pure ⟨rfl, h₃⟩
    | true =>
      exact wpAny_bind (wpAny_bind (wpAny_mono h₃ (fun x s₄ h₄ => wpAny_bind (wpAny_mono h₄ (fun _ s₅ h₅ => wpAny_pure (wpAny_pure ⟨rfl, h₅⟩)) fun _ _ h' => h')) fun _ _ h' => h'))
theorem compLoop2_0 (I : Nat → Shared → Prop) (hs2 : ∀ z, foldedSetIterable iter2 env z = pure z)
    (turn : ∀ n s, I n s → wpAny (model prog w) A (pyNext it) (fun r s₁ => match r with
      | none => R (.ok .next) s₁
      | some v => wpAny (model prog w) A (assign (.Name x px) env v) (fun _ s₂ =>
          wpAny (model prog w) A (eval iter2 env) (fun z s₃ => wpAny (model prog w) A (pyIter z) (fun it2 s₄ =>
            codeAny (model prog w) A (.compStart (two elt x y px py iter iter2 ct scope pos) 1 it2 acc env) (fun r s₅ => match r with | .ok _ => ∃ m, m < n ∧ I m s₅ | .error e => cameBackBy (model prog w) A env (notedBy (model prog w) A env fun e s' => R (.error e) s') e s₅) s₄)
            (notedBy (model prog w) A env fun e s' => R (.error e) s') s₃) (notedBy (model prog w) A env fun e s' => R (.error e) s') s₂) (notedBy (model prog w) A env fun e s' => R (.error e) s') s₁) (notedBy (model prog w) A env fun e s' => R (.error e) s') s)
    (n : Nat) (h : I n s) :
    codeAny (model prog w) A (.compLoop (two elt x y px py iter iter2 ct scope pos) 0 it acc env) R s := by
  refine codeAny_loop rfl I (fun n s hI => ?_) n h
  show wpAny _ A ((compTurn (two elt x y px py iter iter2 ct scope pos) 0 it acc env).onRaise (fun x => do noteFrame x env; theTreesLotGoes x)) _ _ s
  refine wpAny_noted ?_
  rw [compTurn2_0]
  refine wpAny_bind (wpAny_standAt (wpAny_bind (wpAny_mono (turn n s hI) (fun r s₁ h₁ => ?_) fun _ _ h' => h')))
  cases r with
  | none => exact wpAny_pure h₁
  | some v =>
    refine wpAny_bind (wpAny_of_eq (a := ()) rfl ?_)
    refine wpAny_bind (wpAny_mono h₁ (fun _ s₂ h₂ => wpAny_bind (wpAny_mono h₂ (fun z s₃ h₃ => wpAny_bind (wpAny_standAt (wpAny_bind (wpAny_of_eq (hs2 z) (wpAny_bind (wpAny_holding (wpAny_mono h₃ (fun it2 s₄ h₄ => ?_) fun _ _ h' => h'))))))) fun _ _ h' => h')) fun _ _ h' => h')
    refine wpAny_bind (wpAny_runOwn (codeAny_mono h₄ fun r s₅ h₅ => ?_))
    cases r with
    | ok f => exact wpAny_pure ⟨rfl, h₅⟩
    | error e => exact h₅
end
end

section
set_option maxHeartbeats 2000000
open PySem.Calls LCg LCt
section
variable {prog : Program} {w : World} {A : Around} {E : Value → Shared → Prop} {h₀ : Heap} {L : Addr} {m : Str → Option Value} {env : Env} {elt iter iter2 ct : Expr} {x y : Str} {px py : Pos} {scope : Scope} {pos : Pos} {cl : List (Str × Addr)}
theorem inner2 {s : Shared} {R : Result → Shared → Prop} {I C D ax : Addr} {oC : Obj} {m₀ : Str → Option Value} {its : Array Value} {v : Value} {ys : List Value} {news : List (Addr × Obj)} (J : Nat → List Value → List (Addr × Obj) → Prop)
    (hh : A.handled = none) (hkind : scope.kind = .function) (hy : scope.names.lookup y = some .local) (hxy : x ≠ y)
    (hsz : ∀ j ys nx, J j ys nx → ys.length ≤ 100000) (hSrc : ∀ j ys nx, J j ys nx → SrcAt h₀ ax its nx)
    (F : Fr h₀ L s.heap m) (hC : NsObj oC m₀) (hx : m₀ x = some v) (N : News h₀ L s.heap ((C, oC) :: (D, lst ys) :: news)) (off : Off3 I C D news) (hCD : @Ne Nat C D)
    (hit : s.heap.IsListIter I ax 0) (hIL : L ≠ I) (hI₀ : h₀.get? I = none) (hCI : @Ne Nat I C) (hDI : @Ne Nat I D) (hax : ax ≠ I) (hJ : J 0 ys news)
    (step : ∀ j ys nx u oI oC m₂ h tk (E' : Value → Shared → Prop), j < its.size → J j ys nx → its[j]? = some u → NsObj oC m₂ → m₂ x = some v → m₂ y = some u → Fr h₀ L h m → News h₀ L h ((I, oI) :: (C, oC) :: (D, lst ys) :: nx) → Off3 I C D nx → ((@Ne Nat I C) ∧ (@Ne Nat I D) ∧ (@Ne Nat C D)) →
      wpAny (model prog w) A (isTrue ct (compEnvC scope cl C env) (eval ct (compEnvC scope cl C env))) (fun ok s' => if ok = true then
        wpAny (model prog w) A (eval elt (compEnvC scope cl C env)) (CompEnd h₀ L m { s with heap := h, toks := tk } I oI C oC D (lst ys) (fun _ => True) (fun y news' => J (j + 1) (ys ++ [y]) news')) E' s'
        else CompEnd h₀ L m { s with heap := h, toks := tk } I oI C oC D (lst ys) (fun _ => True) (fun _ news' => J (j + 1) ys news') Value.none s') E' { s with heap := h, toks := tk })
    (done : ∀ h tk ys nx oC m₂, J its.size ys nx → NsObj oC m₂ → Fr h₀ L h m → News h₀ L h ((C, oC) :: (D, lst ys) :: nx) → Off3 I C D nx → R (.ok .next) { s with heap := h, toks := tk }) :
    codeAny (model prog w) A (.compLoop (two elt x y px py iter iter2 ct scope pos) 1 (.ref I) (.ref D) (compEnvC scope cl C env)) R s := by
  have W := Walks.list (prog := prog) (w := w) hh I ax hax its
  have hDC : @Ne Nat D C := Ne.symm hCD
  have zC0 := (N (C, oC) List.mem_cons_self).2
  have zD0 := (N (D, lst ys) (List.mem_cons_of_mem _ List.mem_cons_self)).2
  have hCL : C ≠ L := zC0.1
  have hC₀ : h₀.get? C = none := zC0.2
  have hDL : D ≠ L := zD0.1
  have hD₀ : h₀.get? D = none := zD0.2
  refine compLoop2_1
    (fun k s' => ∃ h' tk i ys oC m' news', s' = { s with heap := h', toks := tk } ∧ i ≤ its.size ∧ k = its.size + 1 - i ∧ h'.IsListIter I ax i ∧ Fr h₀ L h' m ∧ NsObj oC m' ∧ m' x = some v ∧ News h₀ L h' ((C, oC) :: (D, lst ys) :: news') ∧
      Off3 I C D news' ∧ J i ys news') ?_ (its.size + 1)
    ⟨s.heap, s.toks, 0, ys, oC, m₀, news, rfl, Nat.zero_le _, rfl, hit, F, hC, hx, N, off, hJ⟩
  rintro k s' ⟨h', tk, i, ys, oC, m', news', rfl, hi, rfl, hit', F', hC', hx', N', off', hJ'⟩
  have hl' : h'.IsList ax its := (hSrc _ _ _ hJ').list F'.keep fun p hp => N' p (List.mem_cons_of_mem _ (List.mem_cons_of_mem _ hp))
  have hst' : h'.IsListIter I ax i ∧ h'.IsList ax its := ⟨hit', hl'⟩
  have hn' : h'.Ns C m' := hC'.ns (N' _ List.mem_cons_self).1
  have off3' := off'.mem
  by_cases hlt : i < its.size
  · refine W.item i _ _ _ hlt hst' fun u h₂ tk₂ hPv hst₂ hk₂ => ?_
    refine wpAny_assign_Name (wpAny_storeName_local (lookup_relabel_local hy) (hn'.at' fun o e => hk₂ _ o (by simpa using Ne.symm hCI) e) (fun h₃ hn₃ hs₃ => ?_) (by simp [compEnvC, relabel, hkind]))
    obtain ⟨oI, heI, _⟩ := id hst₂.1
    have heI₃ : h₃.get? I = some oI := hs₃.extBut _ _ hCI heI
    have hit₃ : h₃.IsListIter I ax (i + 1) := hst₂.1.at fun o e => hs₃.extBut _ o hCI e
    obtain ⟨oC₃, heC, hoC⟩ := ns_obj hn₃
    have F₃ : Fr h₀ L h₃ m := (fr_but F' hk₂ hIL hI₀).change hs₃ hCL hC₀
    have N₂ : News h₀ L h₂ ((D, lst ys) :: news') := news_but (fun p hp => N' p (List.mem_cons_of_mem _ hp)) hk₂ fun p hp => by
      rcases List.mem_cons.mp hp with rfl | hp
      · exact Ne.symm hDI
      · exact (off3' p hp).1
    have N₃ : News h₀ L h₃ ((I, oI) :: (C, oC₃) :: (D, lst ys) :: news') := fun p hp => by
      rcases List.mem_cons.mp hp with rfl | hp
      · exact ⟨heI₃, Ne.symm hIL, hI₀⟩
      · rcases List.mem_cons.mp hp with rfl | hp
        · exact ⟨heC, hCL, hC₀⟩
        · have z := N₂ p hp
          refine ⟨hs₃.extBut _ _ ?_ z.1, z.2⟩
          rcases List.mem_cons.mp hp with rfl | hp
          · exact hDC
          · exact (off3' p hp).2.1
    have up : ∀ (t9 : Nat) (z : Value) (b : List Value) s₂, (CompEnd h₀ L m { s with heap := h₃, toks := t9 } I oI C oC₃ D (lst ys) (fun _ => True) (fun _ news' => J (i + 1) b news')) z s₂ → b = ys →
        ∃ n, n < its.size + 1 - i ∧ ∃ h' tk i ys oC m' news', s₂ = { s with heap := h', toks := tk } ∧ i ≤ its.size ∧ n = its.size + 1 - i ∧ h'.IsListIter I ax i ∧ Fr h₀ L h' m ∧ NsObj oC m' ∧ m' x = some v ∧ News h₀ L h' ((C, oC) :: (D, lst ys) :: news') ∧
          Off3 I C D news' ∧ J i ys news' := by
      rintro t9 z b s₂ ⟨h₄, tk₄, news₄, rfl, F₄, N₄, off₄, _, hj⟩ rfl
      have zI := (N₄ (I, oI) List.mem_cons_self).1
      exact ⟨its.size + 1 - (i + 1), by omega, h₄, tk₄, i + 1, _, oC₃, _, news₄, rfl, hlt, rfl, hit₃.at fun o e => by rw [zI]; rw [heI₃] at e; exact e, F₄, hoC, (by simp [hxy, hx']), fun p hp => N₄ p (List.mem_cons_of_mem _ hp), off₄, hj⟩
    refine wpAny_mono (step i ys news' u oI oC₃ _ h₃ _ _ hlt hJ' hPv hoC (by simp [hxy, hx']) (by simp) F₃ N₃ off' ⟨hCI, hDI, hCD⟩) (fun ok s₄ h₄ => ?_) fun _ _ e => e
    cases ok with
    | false =>
      simp only [Bool.false_eq_true, if_false] at h₄ ⊢
      exact up _ _ _ _ h₄ rfl
    | true =>
      simp only [if_true] at h₄ ⊢
      refine wpAny_mono h₄ (fun z s₅ h₅ => ?_) fun _ _ e => e
      obtain ⟨h₆, tk₆, news₆, rfl, F₆, N₆, off₆, _, hj⟩ := h₅
      have zI := (N₆ (I, oI) List.mem_cons_self).1
      have zC := (N₆ (C, oC₃) (List.mem_cons_of_mem _ List.mem_cons_self)).1
      have zD := (N₆ (D, lst ys) (List.mem_cons_of_mem _ (List.mem_cons_of_mem _ List.mem_cons_self))).1
      have N₆' : News h₀ L h₆ news₆ := fun p hp => N₆ p (List.mem_cons_of_mem _ (List.mem_cons_of_mem _ (List.mem_cons_of_mem _ hp)))
      refine append_at (hsz := by show ys.toArray.size ≤ sizeLine; rw [List.size_toArray, sizeLine_eq]; have := hsz _ _ _ hJ'; omega) zD fun h₇ hs₇ hD₇ => ?_
      have off6 := off₆.mem
      refine ⟨its.size + 1 - (i + 1), by omega, h₇, tk₆, i + 1, ys ++ [z], oC₃, _, news₆, rfl, hlt, rfl, hit₃.at fun o e => by rw [hs₇.extBut _ _ hDI zI]; rw [heI₃] at e; exact e, F₆.change hs₇ hDL hD₀, hoC, (by simp [hxy, hx']), fun p hp => ?_, off₆, hj⟩
      rcases List.mem_cons.mp hp with rfl | hp
      · exact ⟨hs₇.extBut _ _ hCD zC, hCL, hC₀⟩
      · rcases List.mem_cons.mp hp with rfl | hp
        · exact ⟨hD₇.trans (congrArg some (lst_snoc ys z)), hDL, hD₀⟩
        · exact ⟨hs₇.extBut _ _ (off6 p hp).2.2 (N₆' p hp).1, (N₆' p hp).2⟩
  · obtain rfl : i = its.size := Nat.le_antisymm hi (Nat.not_lt.mp hlt)
    refine W.done _ _ _ hst' fun h₂ tk₂ hk₂ => ?_
    refine done h₂ tk₂ ys news' oC m' hJ' hC' (fr_but F' hk₂ hIL hI₀) (news_but N' hk₂ fun p hp => ?_) off'
    rcases List.mem_cons.mp hp with rfl | hp
    · exact Ne.symm hCI
    · rcases List.mem_cons.mp hp with rfl | hp
      · exact Ne.symm hDI
      · exact (off3' p hp).1
end
end

section
set_option maxHeartbeats 2000000
open PySem.Calls LCg LCt
/-- the ledger within the second clause: the first clause's iterator stands first -/
noncomputable def JI (J : Nat → Nat → List Value → List (Addr × Obj) → Prop) (I : Addr) (oI : Obj) (i j : Nat) (ys : List Value) (nx' : List (Addr × Obj)) : Prop := ∃ nx, nx' = (I, oI) :: nx ∧ (∀ p ∈ nx, p.1 ≠ I) ∧ J i j ys nx
section
variable {prog : Program} {w : World} {A : Around} {E : Value → Shared → Prop} {h₀ : Heap} {L : Addr} {m : Str → Option Value} {env : Env} {elt iter iter2 ct : Expr} {x y : Str} {px py : Pos} {scope : Scope} {pos : Pos} {cl : List (Str × Addr)}
/-- what is to be shown of the two clauses -/
structure Two (prog : Program) (w : World) (A : Around) (h₀ : Heap) (L : Addr) (m : Str → Option Value) (env : Env) (elt iter2 ct : Expr) (x y : Str) (scope : Scope) (cl : List (Str × Addr)) (s : Shared) (ax ax2 : Addr) (its its2 : Array Value) (J : Nat → Nat → List Value → List (Addr × Obj) → Prop) : Prop where
  sz : ∀ i j ys nx, J i j ys nx → ys.length ≤ 100000
  src : ∀ i j ys nx, J i j ys nx → SrcAt h₀ ax its nx
  src2 : ∀ i j ys nx, J i j ys nx → SrcAt h₀ ax2 its2 nx
  it2 : ∀ i ys nx v I oI C oC D m₂ h tk (E' : Value → Shared → Prop), J i 0 ys nx → NsObj oC m₂ → m₂ x = some v → Fr h₀ L h m → News h₀ L h ((I, oI) :: (C, oC) :: (D, lst ys) :: nx) →
    wpAny (model prog w) A (eval iter2 (compEnvC scope cl C env)) (fun z s' => z = .ref ax2 ∧ ∃ tk', s' = { s with heap := h, toks := tk' }) E' { s with heap := h, toks := tk }
  step : ∀ i j ys nx v u I oI I₁ oI₁ C oC D m₂ h tk (E' : Value → Shared → Prop), i < its.size → j < its2.size → J i j ys nx → its[i]? = some v → its2[j]? = some u → NsObj oC m₂ → m₂ x = some v → m₂ y = some u → Fr h₀ L h m → News h₀ L h ((I, oI) :: (C, oC) :: (D, lst ys) :: (I₁, oI₁) :: nx) → Off3 I C D ((I₁, oI₁) :: nx) → ((@Ne Nat I C) ∧ (@Ne Nat I D) ∧ (@Ne Nat C D)) → (∀ p ∈ nx, p.1 ≠ I₁) →
      wpAny (model prog w) A (isTrue ct (compEnvC scope cl C env) (eval ct (compEnvC scope cl C env))) (fun ok s' => if ok = true then
        wpAny (model prog w) A (eval elt (compEnvC scope cl C env)) (CompEnd h₀ L m { s with heap := h, toks := tk } I oI C oC D (lst ys) (fun _ => True) (fun y news' => JI J I₁ oI₁ i (j + 1) (ys ++ [y]) news')) E' s'
        else CompEnd h₀ L m { s with heap := h, toks := tk } I oI C oC D (lst ys) (fun _ => True) (fun _ news' => JI J I₁ oI₁ i (j + 1) ys news') Value.none s') E' { s with heap := h, toks := tk }
  next : ∀ i ys nx, i < its.size → J i its2.size ys nx → J (i + 1) 0 ys nx
theorem block2 {s₂ : Shared} {I ax ax2 : Addr} {its its2 : Array Value} {news : List (Addr × Obj)} {J : Nat → Nat → List Value → List (Addr × Obj) → Prop}
    {Fin : List Value → List (Addr × Obj) → Prop} {RR : Value → Addr → Result → Shared → Prop}
    (hh : A.handled = none) (hax : ax ≠ I) (hs2 : ∀ (C : Addr) z, foldedSetIterable iter2 (compEnvC scope cl C env) z = pure z)
    (hcell : ∀ y ∈ scope.names, y.2 ≠ .cell) (hkind : scope.kind = .function) (hx : scope.names.lookup x = some .local) (hy : scope.names.lookup y = some .local) (hxy : x ≠ y)
    (hit : s₂.heap.IsListIter I ax 0) (hIlt : I < s₂.heap.objs.size)
    (F : Fr h₀ L s₂.heap m) (N : News h₀ L s₂.heap news) (hIL : L ≠ I) (hI₀ : h₀.get? I = none) (off : ∀ p ∈ news, p.1 ≠ I)
    (H : Two prog w A h₀ L m env elt iter2 ct x y scope cl s₂ ax ax2 its its2 J) (hJ : J 0 0 [] news) (hfin : ∀ ys nx, J its.size 0 ys nx → Fin ys nx)
    (hRR : ∀ D C h tk m' ys news', Fr h₀ L h m → News h₀ L h ((D, lst ys) :: news') → Off1 D news' → h.Ns C m' → h₀.get? C = none → h₀.get? D = none → C ≠ L → D ≠ L → C ≠ D → (∀ p ∈ news', p.1 ≠ C) → Fin ys news' → RR (.ref D) C (.ok .next) { s₂ with heap := h, toks := tk }) :
    wpAny (model prog w) A (newList []) (fun acc s₃ => wpAny (model prog w) A (newFunctionEnv scope env.globals cl [] env.qual none .none (some env)) (fun cenv s₄ =>
      codeAny (model prog w) A (.compStart (two elt x y px py iter iter2 ct scope pos) 0 (.ref I) acc { cenv with scope := relabel scope env }) (RR acc cenv.locals) s₄) E s₃) E s₂ := by
  refine wpAny_newObj_type (wpAny_newFunctionEnv hcell (by intro y hy; simp at hy) (fun h₁ hns₁ hsb₁ => ?_) hkind)
  dsimp only at hns₁ hsb₁ ⊢
  generalize hH2 : s₂.heap.push { cls := .type "list", dict := none, data := .seq ([] : List Value).toArray } = H2 at hns₁ hsb₁ ⊢
  have hC : H2.objs.size = s₂.heap.objs.size + 1 := by rw [← hH2, Heap.size_push]
  have hDC : s₂.heap.objs.size ≠ H2.objs.size := by rw [hC]; exact Nat.ne_of_lt (Nat.lt_succ_self _)
  have below : ∀ b, b < s₂.heap.objs.size → b ≠ H2.objs.size ∧ b ≠ s₂.heap.objs.size := fun b hb => ⟨by rw [hC]; exact Nat.ne_of_lt (Nat.lt_succ_of_lt hb), Nat.ne_of_lt hb⟩
  have old : ∀ b o, s₂.heap.get? b = some o → h₁.get? b = some o := fun b o e => hsb₁.extBut b o (below b (Heap.lt_size e)).1 (Heap.get?_push_of_some _ (hH2 ▸ Heap.get?_push_of_some _ e))
  have hacc : h₁.get? s₂.heap.objs.size = some (lst []) := hsb₁.extBut _ _ hDC (Heap.get?_push_of_some _ (hH2 ▸ Heap.get?_push_size _ rfl))
  have hit₁ : h₁.IsListIter I ax 0 := hit.at fun o e => old _ o e
  have fresh : ∀ a, s₂.heap.objs.size ≤ a → s₂.heap.get? a = none := fun a ha => by
    cases e : s₂.heap.get? a with
    | none => rfl
    | some o' => exact absurd (Heap.lt_size e) (Nat.not_lt.mpr ha)
  have fresh₀ : ∀ a, s₂.heap.objs.size ≤ a → h₀.get? a = none := fun a ha => by
    cases e : h₀.get? a with
    | none => rfl
    | some o' => have := F.keep a o' e; rw [fresh a ha] at this; cases this
  have hD₀ : h₀.get? s₂.heap.objs.size = none := fresh₀ _ (Nat.le_refl _)
  have hC₀ : h₀.get? H2.objs.size = none := fresh₀ _ (by rw [hC]; exact Nat.le_succ _)
  have hLlt : L < s₂.heap.objs.size := F.ns.lt
  have hDL : s₂.heap.objs.size ≠ L := Ne.symm (below L hLlt).2
  have hCL : H2.objs.size ≠ L := Ne.symm (below L hLlt).1
  have hCI : I ≠ H2.objs.size := (below I hIlt).1
  have hDI : I ≠ s₂.heap.objs.size := (below I hIlt).2
  have off₀ : Off3 I H2.objs.size s₂.heap.objs.size news := Off3.of fun p hp => ⟨off p hp, (below _ (Heap.lt_size (N p hp).1)).1, (below _ (Heap.lt_size (N p hp).1)).2⟩
  have W := Walks.list (prog := prog) (w := w) hh I ax hax its
  obtain ⟨oC₁, heC₁, hoC₁⟩ := ns_obj hns₁
  have N₁ : News h₀ L h₁ ((H2.objs.size, oC₁) :: (s₂.heap.objs.size, lst []) :: news) := fun p hp => by
    rcases List.mem_cons.mp hp with rfl | hp
    · exact ⟨heC₁, hCL, hC₀⟩
    · rcases List.mem_cons.mp hp with rfl | hp
      · exact ⟨hacc, hDL, hD₀⟩
      · exact ⟨old _ _ (N p hp).1, (N p hp).2⟩
  have hl₁ : h₁.IsList ax its := (H.src _ _ _ _ hJ).list (F.keeps old).keep fun p hp => N₁ p (List.mem_cons_of_mem _ (List.mem_cons_of_mem _ hp))
  generalize H2.objs.size = C at *
  generalize s₂.heap.objs.size = D at *
  have loop : ∀ s₃ : Shared, s₃ = { s₂ with heap := h₁, toks := s₂.toks + ([] : List (Str × Value)).length } →
      codeAny (model prog w) A (.compLoop (two elt x y px py iter iter2 ct scope pos) 0 (.ref I) (.ref D) (compEnvC scope cl C env))
        (RR (.ref D) C) s₃ := by
    rintro s₃ rfl
    refine compLoop2_0
      (fun k s' => ∃ h' tk i ys oC m' news', s' = { s₂ with heap := h', toks := tk } ∧ i ≤ its.size ∧ k = its.size + 1 - i ∧ h'.IsListIter I ax i ∧ Fr h₀ L h' m ∧ NsObj oC m' ∧ News h₀ L h' ((C, oC) :: (D, lst ys) :: news') ∧
        Off3 I C D news' ∧ J i 0 ys news') (hs2 C) ?_ (its.size + 1)
      ⟨h₁, _, 0, [], oC₁, _, news, rfl, Nat.zero_le _, rfl, hit₁, F.keeps old, hoC₁, N₁, off₀, hJ⟩
    rintro k s' ⟨h', tk, i, ys, oC, m', news', rfl, hi, rfl, hit', F', hC', N', off', hJ'⟩
    have hl' : h'.IsList ax its := (H.src _ _ _ _ hJ').list F'.keep fun p hp => N' p (List.mem_cons_of_mem _ (List.mem_cons_of_mem _ hp))
    have hst' : h'.IsListIter I ax i ∧ h'.IsList ax its := ⟨hit', hl'⟩
    have hn' : h'.Ns C m' := hC'.ns (N' _ List.mem_cons_self).1
    have off3' := off'.mem
    by_cases hlt : i < its.size
    · refine W.item i _ _ _ hlt hst' fun v h₂ tk₂ hPv hst₂ hk₂ => ?_
      refine wpAny_assign_Name (wpAny_storeName_local (lookup_relabel_local hx) (hn'.at' fun o e => hk₂ _ o (by simpa using Ne.symm hCI) e) (fun h₃ hn₃ hs₃ => ?_) (by simp [compEnvC, relabel, hkind]))
      obtain ⟨oI, heI, _⟩ := id hst₂.1
      have heI₃ : h₃.get? I = some oI := hs₃.extBut _ _ hCI heI
      have hit₃ : h₃.IsListIter I ax (i + 1) := hst₂.1.at fun o e => hs₃.extBut _ o hCI e
      obtain ⟨oC₃, heC, hoC⟩ := ns_obj hn₃
      have F₃ : Fr h₀ L h₃ m := (fr_but F' hk₂ hIL hI₀).change hs₃ hCL hC₀
      have N₂ : News h₀ L h₂ ((D, lst ys) :: news') := news_but (fun p hp => N' p (List.mem_cons_of_mem _ hp)) hk₂ fun p hp => by
        rcases List.mem_cons.mp hp with rfl | hp
        · exact Ne.symm hDI
        · exact (off3' p hp).1
      have N₃ : News h₀ L h₃ ((I, oI) :: (C, oC₃) :: (D, lst ys) :: news') := fun p hp => by
        rcases List.mem_cons.mp hp with rfl | hp
        · exact ⟨heI₃, Ne.symm hIL, hI₀⟩
        · rcases List.mem_cons.mp hp with rfl | hp
          · exact ⟨heC, hCL, hC₀⟩
          · have z := N₂ p hp
            refine ⟨hs₃.extBut _ _ ?_ z.1, z.2⟩
            rcases List.mem_cons.mp hp with rfl | hp
            · exact hDC
            · exact (off3' p hp).2.1
      have hl₃ : h₃.IsList ax2 its2 := (H.src2 _ _ _ _ hJ').list F₃.keep fun p hp => N₃ p (List.mem_cons_of_mem _ (List.mem_cons_of_mem _ (List.mem_cons_of_mem _ hp)))
      refine wpAny_mono (H.it2 i ys news' v I oI C oC₃ D _ h₃ _ _ hJ' hoC (by simp) F₃ N₃) (fun z s₄ h₄ => ?_) fun _ _ e => e
      obtain ⟨rfl, tk₄, rfl⟩ := h₄
      refine wpAny_pyIter_list hl₃ ?_
      dsimp only
      have hlt2 : ax2 < h₃.objs.size := by obtain ⟨_, e, _⟩ := hl₃; exact Heap.lt_size e
      have up : ∀ b o, h₃.get? b = some o → (h₃.push { cls := .type "list_iterator", data := .fields #[.ref ax2, .int 0 0] }).get? b = some o := fun b o e => Heap.get?_push_of_some _ e
      have hnew : ∀ b o, h₃.get? b = some o → b ≠ h₃.objs.size := fun b o e => Nat.ne_of_lt (Heap.lt_size e)
      have Wi := Walks.list (prog := prog) (w := w) hh h₃.objs.size ax2 (Nat.ne_of_lt hlt2) its2
      have hiter : (h₃.push { cls := .type "list_iterator", data := .fields #[.ref ax2, .int 0 0] }).IsListIter h₃.objs.size ax2 0 := ⟨_, Heap.get?_push_size _ rfl, rfl, rfl⟩
      have inn : codeAny (model prog w) A (.compLoop (two elt x y px py iter iter2 ct scope pos) 1 (.ref h₃.objs.size) (.ref D) (compEnvC scope cl C env))
          (fun r s₅ => match r with | .ok _ => ∃ m9, m9 < its.size + 1 - i ∧ (fun k s' => ∃ h' tk i ys oC m' news', s' = { s₂ with heap := h', toks := tk } ∧ i ≤ its.size ∧ k = its.size + 1 - i ∧ h'.IsListIter I ax i ∧ Fr h₀ L h' m ∧ NsObj oC m' ∧ News h₀ L h' ((C, oC) :: (D, lst ys) :: news') ∧
        Off3 I C D news' ∧ J i 0 ys news') m9 s₅ | .error e => cameBackBy (model prog w) A (compEnvC scope cl C env) (notedBy (model prog w) A (compEnvC scope cl C env) fun e s' => RR (.ref D) C (.error e) s') e s₅)
          { s₂ with heap := h₃.push { cls := .type "list_iterator", data := .fields #[.ref ax2, .int 0 0] }, toks := tk₄ } := by
        refine inner2 (s := { s₂ with heap := h₃.push _, toks := tk₄ }) (ys := ys) (news := (I, oI) :: news') (its := its2) (v := v) (ax := ax2) (oC := oC₃) (JI J I oI i) hh hkind hy hxy ?_ ?_ (F₃.keeps up) hoC (by simp) (fun p hp => ?_) ?_ (Ne.symm hDC) hiter (hnew _ _ (N₃ _ List.mem_cons_self).1 |> fun _ => Nat.ne_of_lt F₃.ns.lt) (next_is_new F₃) (Ne.symm (hnew _ _ heC)) (Ne.symm (hnew _ _ (N₃ (D, lst ys) (by simp)).1)) (Nat.ne_of_lt hlt2) ⟨news', rfl, fun p hp => (off3' p hp).1, hJ'⟩ ?_ ?_
        · rintro j ys' nx' ⟨nx, rfl, _, hj⟩
          exact H.sz _ _ _ _ hj
        · rintro j ys' nx' ⟨nx, rfl, _, hj⟩
          rcases H.src2 _ _ _ _ hj with q | ⟨o, q, r⟩
          · exact .inl q
          · exact .inr ⟨o, List.mem_cons_of_mem _ q, r⟩
        · have hp' : p ∈ (I, oI) :: (C, oC₃) :: (D, lst ys) :: news' := by
            rcases List.mem_cons.mp hp with rfl | hp
            · simp
            · rcases List.mem_cons.mp hp with rfl | hp
              · simp
              · rcases List.mem_cons.mp hp with rfl | hp
                · simp
                · simp [hp]
          exact ⟨up _ _ (N₃ p hp').1, (N₃ p hp').2⟩
        · refine Off3.of fun p hp => ?_
          rcases List.mem_cons.mp hp with rfl | hp
          · exact ⟨hnew _ _ heI₃, hCI, hDI⟩
          · exact ⟨hnew _ _ (N₃ p (by simp [hp])).1, (off3' p hp).2.1, (off3' p hp).2.2⟩
        · rintro j ys' nx' u oI₂ oC₂ m₂ h tk' E' hjlt ⟨nx, rfl, hoffI, hj⟩ hu hoC₂ hmx hmy F₄ N₄ off₄ hne
          exact H.step i j ys' nx v u _ oI₂ I oI C oC₂ D m₂ h tk' E' hlt hjlt hj hPv hu hoC₂ hmx hmy F₄ N₄ off₄ hne hoffI
        · rintro h tk' ys' nx' oC₂ m₂ ⟨nx, rfl, hoffI, hj⟩ hoC₂ F₄ N₄ off₄
          have zI := (N₄ (I, oI) (by simp)).1
          refine ⟨its.size + 1 - (i + 1), by omega, h, tk', i + 1, ys', oC₂, m₂, nx, rfl, hlt, rfl, hit₃.at fun o e => by rw [zI]; rw [heI₃] at e; exact e, F₄, hoC₂, fun p hp => N₄ p ?_, Off3.of fun p hp => ⟨hoffI p hp, (off₄.mem p (List.mem_cons_of_mem _ hp)).2⟩, H.next i ys' nx hlt hj⟩
          rcases List.mem_cons.mp hp with rfl | hp
          · simp
          · rcases List.mem_cons.mp hp with rfl | hp
            · simp
            · simp [hp]
      exact compStart2_1 inn (Wi.self 0 _ _ _ ⟨hiter, hl₃.push _⟩ inn)
    · obtain rfl : i = its.size := Nat.le_antisymm hi (Nat.not_lt.mp hlt)
      refine W.done _ _ _ hst' fun h₂ tk₂ hk₂ => ?_
      refine hRR _ _ h₂ tk₂ _ ys news' (fr_but F' hk₂ hIL hI₀) (news_but (fun p hp => N' p (List.mem_cons_of_mem _ hp)) hk₂ fun p hp => by
        rcases List.mem_cons.mp hp with rfl | hp
        · exact Ne.symm hDI
        · exact (off3' p hp).1) off'.one (hn'.at' fun o e => hk₂ _ o (by simpa using Ne.symm hCI) e) hC₀ hD₀ hCL hDL (Ne.symm hDC) (fun p hp => (off3' p hp).2.1) (hfin _ _ hJ')
  exact codeAny_compStart_list (loop _ rfl) (W.self 0 _ _ _ ⟨hit₁, hl₁⟩ (loop _ rfl))
end
end

section
set_option maxHeartbeats 2000000
open PySem.Calls LCg LCt
section
variable {prog : Program} {w : World} {A : Around} {E : Value → Shared → Prop} {h₀ : Heap} {L : Addr} {m : Str → Option Value} {env : Env} {elt iter iter2 ct : Expr} {x y : Str} {px py : Pos} {scope : Scope} {pos : Pos} {cl : List (Str × Addr)} {s : Shared}
/-- the source of the first clause: a list -/
noncomputable def SrcTwo (prog : Program) (w : World) (A : Around) (h₀ : Heap) (L : Addr) (m : Str → Option Value) (env : Env) (elt iter2 ct : Expr) (x y : Str) (scope : Scope) (cl : List (Str × Addr)) (Fin : Shared → List Value → List (Addr × Obj) → Prop) (xv : Value) (s₁ : Shared) : Prop :=
  ∃ ax ax2 its its2 news J, xv = .ref ax ∧ A.handled = none ∧ Fr h₀ L s₁.heap m ∧ News h₀ L s₁.heap news ∧ SrcAt h₀ ax its news ∧ J 0 0 [] news ∧
    ∀ s₂ : Shared, (∃ h, s₂ = { s₁ with heap := h }) → Two prog w A h₀ L m env elt iter2 ct x y scope cl s₂ ax ax2 its its2 J ∧ ∀ ys nx, J its.size 0 ys nx → Fin s₂ ys nx
theorem SrcTwo.go {Fin : Shared → List Value → List (Addr × Obj) → Prop} {ax ax2 : Addr} {its its2 : Array Value} {news : List (Addr × Obj)} {s₁ : Shared} (J : Nat → Nat → List Value → List (Addr × Obj) → Prop)
    (hh : A.handled = none) (F : Fr h₀ L s₁.heap m) (N : News h₀ L s₁.heap news) (hS : SrcAt h₀ ax its news) (hJ : J 0 0 [] news)
    (h : ∀ g, Two prog w A h₀ L m env elt iter2 ct x y scope cl { s₁ with heap := g } ax ax2 its its2 J) (fin : ∀ g ys nx, J its.size 0 ys nx → Fin { s₁ with heap := g } ys nx) :
    SrcTwo prog w A h₀ L m env elt iter2 ct x y scope cl Fin (.ref ax) s₁ := ⟨ax, ax2, its, its2, news, J, rfl, hh, F, N, hS, hJ, fun _ ⟨g, e⟩ => e ▸ ⟨h g, fin g⟩⟩
theorem Assign_ListComp_2 {z : Str} {pz : Pos} {spos : Pos} {Q : Flow → Shared → Prop} (F₀ : Fr h₀ L s.heap m) (hLe : env.locals = L)
    (hsw : swapsWith (two elt x y px py iter iter2 ct scope pos) (some (.Name z pz)) spos.line env = pure true)
    (hclos : closureFor scope env = pure cl) (hcell : ∀ z ∈ scope.names, z.2 ≠ .cell) (hkind : scope.kind = .function)
    (hnames : ∀ z ∈ scope.names, z.2 = .local → scope.names.lookup z.1 = some .local) (hx : scope.names.lookup x = some .local) (hy : scope.names.lookup y = some .local) (hxy : x ≠ y)
    (hz : env.kindOf z = some .local) (hp : (env.scope.kind == .class || (env.scope.kind == .module && env.locals != env.globals)) = false)
    (hs2 : ∀ (C : Addr) z, foldedSetIterable iter2 (compEnvC scope cl C env) z = pure z)
    (h : wpAny (model prog w) A (eval iter env) (SrcTwo prog w A h₀ L m env elt iter2 ct x y scope cl (fun s₂ => FinA h₀ L m s₂ z Q)) E s)
    (hs : ∀ x, foldedSetIterable iter env x = pure x := by intro _; rfl) :
    wpAny (model prog w) A (exec (.Assign [.Name z pz] (two elt x y px py iter iter2 ct scope pos) spos) env) Q E s := by
  subst hLe
  rw [exec_Assign_Name_used _ _ _ _ hsw]
  refine wpAny_bind (wpAny_standAt (wpAny_bind ?_))
  show wpAny _ A (do let _ ← comprehension (two elt x y px py iter iter2 ct scope pos) scope env _ (newList []) false (eval iter env) (some (assign (.Name z pz) env))) _ _ s
  refine wpAny_bind (wpAny_mono (wpAny_comprehension_free (use := some (assign (.Name z pz) env)) (Q := fun _ s' => Q .next s') rfl hs hclos hkind hnames
    (wpAny_mono h (fun xv s₁ h₁ => ?_) fun _ _ e => e)) (fun _ s' hq => wpAny_pure (wpAny_pure hq)) fun _ _ e => e)
  obtain ⟨ax, ax2, its, its2, news, J, rfl, hh, F, N, S, hJ, R⟩ := h₁
  have hl := S.list F.keep N
  have hlt : ax < s₁.heap.objs.size := by obtain ⟨_, e, _⟩ := hl; exact Heap.lt_size e
  refine wpAny_pyIter_list hl ?_
  have up : ∀ b o, s₁.heap.get? b = some o → (s₁.heap.push { cls := .type "list_iterator", data := .fields #[.ref ax, .int 0 0] }).get? b = some o := fun b o e => Heap.get?_push_of_some _ e
  refine block2 (I := s₁.heap.objs.size) hh (Nat.ne_of_lt hlt) hs2 hcell hkind hx hy hxy ⟨_, Heap.get?_push_size _ rfl, rfl, rfl⟩ ?_
    (F.keeps up) (N.grown up) (Nat.ne_of_lt F.ns.lt) (next_is_new F) (fun p hp => Nat.ne_of_lt (Heap.lt_size (N p hp).1)) (R { s₁ with heap := s₁.heap.push _ } ⟨_, rfl⟩).1 hJ (R { s₁ with heap := s₁.heap.push { cls := .type "list_iterator", data := .fields #[.ref ax, .int 0 0] } } ⟨_, rfl⟩).2 ?_
  · show s₁.heap.objs.size < (s₁.heap.push _).objs.size
    rw [Heap.size_push]
    exact Nat.lt_succ_self _
  · intro D C h' tk m' ys news' F' N' o1 hn hC₀ hD₀ hCL hDL hCD offC fin
    show wpAny _ A (assign (.Name z pz) env (.ref D)) _ _ _
    refine wpAny_assign_Name (wpAny_storeName_local hz F'.ns (fun h₂ hn₂ hs₂ => ?_) hp)
    have hL₀ : h₀.get? env.locals = none := Heap.get?_none_of_le F'.above
    have F₂ : Fr h₀ env.locals h₂ (fun y => if y = z then some (.ref D) else m y) := ⟨hn₂, fun b o e => hs₂.extBut b o (fun q => by rw [q, hL₀] at e; cases e) (F'.keep b o e), F'.above⟩
    refine ⟨m', hn.sameBut hs₂ hCL, fun h'' hs'' => fin D h'' _ (F₂.change hs'' hCL hC₀) (fun p hp => ?_) o1⟩
    have zz : h₂.get? p.1 = some p.2 := hs₂.extBut _ _ (N' p hp).2.1 (N' p hp).1
    refine ⟨hs''.extBut _ _ ?_ zz, (N' p hp).2⟩
    rcases List.mem_cons.mp hp with rfl | hp
    · exact Ne.symm hCD
    · exact offC p hp
end
end

section
set_option maxHeartbeats 2000000
open PySem.Calls PySem.Builtin
set_option maxRecDepth 100000
theorem slot_bytes_join : Slot "bytes" "join" "bytes.join" :=
  .of (owner := "bytes") (n := "join") (by rw [typeLookup_type, builtinLookup_eq_fast]; kernel_rfl) (by decide +kernel) (by decide +kernel) (by decide +kernel)
    (by first | exact .inl (by decide +kernel) | exact .inr (by decide +kernel)) (by rw [isSubtype_type]; kernel_rfl)
theorem type_bytes_join : typeOf (.builtin "bytes.join") = pure (.type "method_descriptor") := by show builtinType _ = _; rw [builtinType_eq_fast]; kernel_rfl
theorem entry_bytes_join : entryFor table "bytes.join" = some Builtin.«bytes.join» := entryFor_of_fast (by kernel_rfl)
theorem args_bytes_join_2 (a b : Value) : argsOk "bytes.join" ⟨[a, b], []⟩ := by unfold argsOk; kernel_rfl
section
variable {prog : Program} {w : World} {M : Model} {A : Around} {E : Value → Shared → Prop} {s : Shared} {b : Array UInt8} {t : Tok}
theorem take_eq {id : String} {f : Int} (hf : (f == Bytes.fullReadOnly) = false) : Bytes.takeBuffer? id (.bytes b t) f = pure (some (b, none)) := by
  unfold Bytes.takeBuffer?
  rw [KBy.special_eq KBy.look_buffer, KBy.own_buffer, hf, KBy.buffer_eq]
  kernel_rfl
theorem takeQ_eq {id : String} : Bytes.takeBufferQuiet? id (.bytes b t) 0 = pure (some (b, none)) := by
  unfold Bytes.takeBufferQuiet?
  rw [take_eq (by decide)]
  rfl
theorem letGo_join {taken : List (Value × Option Value)} {keep : List Value} {Q : Unit → Shared → Prop} (hn : ∀ p ∈ taken, p.2 = none) (h : Q () s) : wpAny M A (Bytes.joinLetGo taken keep) Q E s := by
  induction taken with
  | nil => exact wpAny_pure h
  | cons p r ih =>
    obtain ⟨x, w⟩ := p
    have hw : w = none := hn _ List.mem_cons_self
    subst hw
    rw [Bytes.joinLetGo.eq_def]
    dsimp only
    exact wpAny_bind (wpAny_letGo (ih fun p hp => hn p (List.mem_cons_of_mem _ hp)))
theorem wpAny_no {α : Type} {c : Bool} {f g : Sem α} {Q : α → Shared → Prop} (h : c = false) (hg : wpAny M A g Q E s) : wpAny M A (if c = true then f else g) Q E s := by
  subst h
  exact hg
theorem takeQ_at {v : Value} {id : String} (hv : v = .bytes b t) : Bytes.takeBufferQuiet? id v 0 = pure (some (b, none)) := by rw [hv]; exact takeQ_eq
theorem wpAny_one {α : Type} {its : Array Value} {f : Value → Sem α} {g : Sem α} {Q : α → Shared → Prop} (h : ¬ its.size = 1) (hg : wpAny M A g Q E s) : wpAny M A (match its with | #[x] => f x | _ => g) Q E s := by
  obtain ⟨l⟩ := its
  match l, h with
  | [], _ => exact hg
  | [x], h => exact absurd rfl h
  | x :: y :: r, _ => exact hg
theorem joined_eq {a b c d : Array UInt8} : Bytes.joined #[] [a, b, c, d] = a ++ b ++ c ++ d := by simp [Bytes.joined]
theorem joined_size {a b c d : Array UInt8} : (Bytes.joined #[] [a, b, c, d]).size = a.size + b.size + c.size + d.size := by rw [joined_eq]; simp [Nat.add_assoc]
theorem joined_ints {a b c d : Array UInt8} : KBw.bInts (Bytes.joined #[] [a, b, c, d]) = KBw.bInts a ++ KBw.bInts b ++ KBw.bInts c ++ KBw.bInts d := by
  rw [joined_eq]; exact KBw.ints_app (KBw.ints_app (KBw.ints_app rfl rfl) rfl) rfl
theorem joined_len {a b c d : Array UInt8} : Array.foldl (fun x y => x + y.size) ((#[] : Array UInt8).size * ((((((#[] : Array (Array UInt8)).push a).push b).push c).push d).size - 1)) (((((#[] : Array (Array UInt8)).push a).push b).push c).push d) = a.size + b.size + c.size + d.size := by simp
theorem code_join4 {l : Addr} {a b c d : Array UInt8} {t t1 t2 t3 t4 : Tok} {P : Fin → Shared → Prop} (hl : s.heap.IsList l #[.bytes a t1, .bytes b t2, .bytes c t3, .bytes d t4])
    (hsz : a.size + b.size + c.size + d.size ≤ 16777216) (h : P (.done (.ret (.bytes (Bytes.joined #[] [a, b, c, d]) s.toks))) { s with toks := s.toks + 1 }) :
    wpAny M A (Builtin.«bytes.join» ⟨[.bytes #[] t, .ref l], []⟩) P E s := by
  obtain ⟨o, ho, hc, n, hd⟩ := id hl
  obtain ⟨its, hits⟩ : ∃ its, its = #[Value.bytes a t1, Value.bytes b t2, Value.bytes c t3, Value.bytes d t4] := ⟨_, rfl⟩
  rw [← hits] at hd
  unfold Builtin.«bytes.join» Bytes.joinM
  refine wpAny_bind (m := selfAndOne _ _) (wpAny_of_eq (a := (Value.bytes #[] t, Value.ref l)) rfl ?_)
  dsimp only
  refine wpAny_bind ?_
  show wpAny _ _ (Bytes.joinItems (.ref l)) _ _ _
  unfold Bytes.joinItems
  refine wpAny_bind (wpAny_typeOf (T := "list") ⟨o, ho, hc⟩ ?_)
  rw [if_pos (by decide)]
  refine wpAny_pure ?_
  refine wpAny_bind (wpAny_seqItems ho hd ?_)
  dsimp only
  rw [if_pos (by decide)]
  refine wpAny_one (by rw [hits]; show ¬ ((4 : Nat) = 1); decide) ?_
  subst hits
  rw [Std.Legacy.Range.forIn_eq_forIn_range']
  rw [show List.range' [:#[Value.bytes a t1, Value.bytes b t2, Value.bytes c t3, Value.bytes d t4].size].start [:#[Value.bytes a t1, Value.bytes b t2, Value.bytes c t3, Value.bytes d t4].size].size [:#[Value.bytes a t1, Value.bytes b t2, Value.bytes c t3, Value.bytes d t4].size].step = [0, 1, 2, 3] from by kernel_rfl]
  refine wpAny_bind ?_
  iterate 4
    rw [List.forIn_cons]
    refine wpAny_bind ?_
    refine wpAny_bind (wpAny_seqItems ho hd ?_)
    dsimp only
    refine wpAny_no (by first | rfl | decide) ?_
    refine wpAny_bind (wpAny_holding (wpAny_of_eq (takeQ_at rfl) ?_))
    dsimp only
    refine wpAny_bind (wpAny_seqItems ho hd ?_)
    dsimp only
    refine wpAny_no (by first | rfl | decide) ?_
    refine wpAny_pure ?_
    dsimp only
  rw [List.forIn_nil]
  refine wpAny_pure ?_
  dsimp only
  refine wpAny_bind (wpAny_of_eq (a := (#[] : Array UInt8)) rfl ?_)
  refine wpAny_no (KBy.tooLong_not (by rw [joined_len]; omega)) ?_
  refine wpAny_bind ?_
  show wpAny _ _ (mkBytes (Bytes.joined #[] [a, b, c, d])) _ _ _
  refine wpAny_mkBytes ?_ (by rw [joined_size, sizeLine_eq]; omega)
  refine wpAny_bind (wpAny_holding (wpAny_point ?_))
  refine wpAny_bind (letGo_join (by intro p hp; simp only [List.nil_append, List.cons_append, List.mem_cons, List.not_mem_nil, or_false] at hp; rcases hp with rfl | rfl | rfl | rfl <;> rfl) ?_)
  exact wpAny_pure h
theorem call_join4 {l : Addr} {a b c d : Array UInt8} {t t1 t2 t3 t4 : Tok} {Q : Value → Shared → Prop} (hl : s.heap.IsList l #[.bytes a t1, .bytes b t2, .bytes c t3, .bytes d t4])
    (hsz : a.size + b.size + c.size + d.size ≤ 16777216) (h : ∀ z t' k, KBw.bInts z = KBw.bInts a ++ KBw.bInts b ++ KBw.bInts c ++ KBw.bInts d → Q (.bytes z t') { s with toks := k }) :
    wpAny (model prog w) A (call (.builtin "bytes.join") [.bytes #[] t, .ref l]) Q E s :=
  wpAny_call_entry slot_bytes_join (typeIs_bytes _ _ _) entry_bytes_join (code_join4 hl hsz ⟨_, rfl, h _ _ _ joined_ints⟩) (args_bytes_join_2 _ _)
theorem method_join {b : Array UInt8} {pl : Sem Bool} {Q : Value × List Value → Shared → Prop} (h : Q (.builtin "bytes.join", [.bytes b t]) s) : wpAny M A (getMethod (.bytes b t) "join" pl) Q E s := by
  with_reducible exact KBd.method_of (.bytes b t) (typeIs_bytes _ _ _) slot_bytes_join type_bytes_join KBd.noRef h
end
theorem join_fit {a b c d x : Array UInt8} (h1 : a.size ≤ 10) (h2 : b.size ≤ x.size) (h3 : x.size ≤ 10000) (h4 : c.size ≤ 10) (h5 : d.size ≤ 10000) : a.size + b.size + c.size + d.size ≤ 16777216 := by omega
theorem clip_of {k : Nat} {i : Int} (h0 : 0 ≤ i) (h1 : i ≤ (k : Int)) : clipAt k i = i.toNat := by
  obtain ⟨j, rfl⟩ := Int.eq_ofNat_of_zero_le h0
  rw [clipAt_nat, Int.toNat_natCast]
  omega
end

section
/-! ### the size of a modulus -/
theorem osz_nat (n : Int) : osz n = (((Builtin.Int.intBits n + 7) / 8 : Nat) : Int) := by
  unfold osz
  rw [Int.fdiv_eq_ediv_of_nonneg _ (by decide)]
  omega
theorem osz_bsz {n : Int} (h : n ≠ 0) : bsz n = osz n := by
  rw [bsz, if_neg h, osz_nat, cdiv, Int.fdiv_eq_ediv_of_nonneg _ (by decide), Int.fmod_eq_emod_of_nonneg _ (by decide)]
  split <;> omega
theorem osz_bd {k : Nat} {n : Int} (h : SBd k n) : osz n ≤ (((k + 7) / 8 : Nat) : Int) := by
  rw [osz_nat]
  have := h.bits
  omega
theorem osz_pos {n : Int} (h : 0 < n) : 1 ≤ osz n := by
  rw [osz_nat]
  have := (bits_lo (x := n) (by omega)).1
  omega
theorem osz_hi {n : Int} (h : 0 ≤ n) : n < 256 ^ (osz n).toNat := by
  rw [pow256, osz_nat]
  have h1 := bits_hi n
  have h2 : 2 ^ Builtin.Int.intBits n ≤ 2 ^ (8 * ((Builtin.Int.intBits n + 7) / 8)) := Nat.pow_le_pow_right (by decide) (by omega)
  have h3 : ((n.natAbs : Nat) : Int) < ((2 ^ (8 * ((Builtin.Int.intBits n + 7) / 8)) : Nat) : Int) := Int.ofNat_lt.mpr (Nat.lt_of_lt_of_le h1 h2)
  rw [pow_cast] at h3
  rw [Int.toNat_natCast]
  have h4 : ((n.natAbs : Nat) : Int) = n := by omega
  rw [h4] at h3
  exact h3
theorem osz_lo {n : Int} (h : 0 < n) : 256 ^ ((osz n).toNat - 1) ≤ n := by
  rw [pow256, osz_nat]
  obtain ⟨h0, h1⟩ := bits_lo (x := n) (by omega)
  have h2 : 2 ^ (8 * ((Builtin.Int.intBits n + 7) / 8 - 1)) ≤ 2 ^ (Builtin.Int.intBits n - 1) := Nat.pow_le_pow_right (by decide) (by omega)
  have h3 : ((2 ^ (8 * ((Builtin.Int.intBits n + 7) / 8 - 1)) : Nat) : Int) ≤ ((n.natAbs : Nat) : Int) := Int.ofNat_le.mpr (Nat.le_trans h2 h1)
  rw [pow_cast] at h3
  rw [Int.toNat_natCast]
  have h4 : ((n.natAbs : Nat) : Int) = n := by omega
  rw [h4] at h3
  exact h3
theorem blk_lt {r : List Int} (h : Octs r) : val (0 :: 2 :: r) < 3 * 256 ^ r.length := (fold_bd r 2 h (by decide)).2
theorem blk_n {n : Int} {r : List Int} (hn : 0 < n) (h : Octs r) (hl : (r.length : Int) + 2 = osz n) : val (0 :: 2 :: r) < n := by
  have h1 := blk_lt h
  have h2 := osz_lo hn
  rw [show (osz n).toNat - 1 = r.length + 1 by omega, Int.pow_succ] at h2
  have h3 : (0 : Int) < 256 ^ r.length := Int.pow_pos (by decide)
  omega
/-- the octets of a block -/
noncomputable def blk (sz : Int) (fs ks : List Int) : List Int := [0, 2] ++ fs.take (sz - ks.length - 3).toNat ++ [0] ++ ks
theorem blk_octs {sz : Int} {fs ks : List Int} (hf : Octs fs) (hk : Octs ks) : Octs (blk sz fs ks) :=
  octs_app (octs_app (octs_app (fun k h => by simp at h; omega) (octs_take hf _)) (octs_one (by decide) (by decide))) hk
theorem blk_len {sz : Int} {fs ks : List Int} (hm : (ks.length : Int) ≤ sz - 11) (hf : sz - ks.length - 3 ≤ (fs.length : Int)) : ((blk sz fs ks).length : Int) = sz := by
  unfold blk
  simp only [List.length_append, List.length_take, List.length_cons, List.length_nil]
  omega
theorem blk_val {n : Int} {fs ks : List Int} (hn : 0 < n) (hf : Octs fs) (hk : Octs ks) (hm : (ks.length : Int) ≤ osz n - 11) (hl : osz n - ks.length - 3 ≤ (fs.length : Int)) : 0 ≤ val (blk (osz n) fs ks) ∧ val (blk (osz n) fs ks) < n := by
  refine ⟨(val_bd (blk_octs hf hk)).1, ?_⟩
  have e : blk (osz n) fs ks = 0 :: 2 :: (fs.take (osz n - ks.length - 3).toNat ++ [0] ++ ks) := by simp [blk]
  have h1 := blk_len hm hl
  rw [e] at h1 ⊢
  refine blk_n hn (octs_app (octs_app (octs_take hf _) (octs_one (by decide) (by decide))) hk) ?_
  rw [List.length_cons, List.length_cons] at h1
  omega
theorem pmod_fit {x e n : Int} (hn : 0 < n) : 0 ≤ pmod x e n ∧ pmod x e n < 256 ^ (osz n).toNat := by
  obtain ⟨h1, h2⟩ := pmod_nn (x := x) (e := e) (n := n) (by omega)
  exact ⟨h1, Int.lt_trans h2 (osz_hi (by omega))⟩
/-! ### an instance seen from below -/
theorem InstAt.keeps {h h' : Heap} {x C : Addr} {ox : Obj} {od : Option Obj} (I : InstAt h x ox C od) (k : ∀ b o, h.get? b = some o → h'.get? b = some o) : InstAt h' x ox C od := by
  refine ⟨k _ _ I.at_, I.cls, I.no, ?_⟩
  have := I.dict
  split at this
  · exact k _ _ this
  · trivial
  · exact this
/-- a public key's instance -/
noncomputable def PubAt (C : Addr) (h : Heap) (x : Addr) (nn ee : Int) : Prop := ∃ dd es m t1 t2, InstAt h x (instObj C dd) C (some (dictOf es m)) ∧ getL (Str.ofString "n") es = some (some (.int nn t1)) ∧ getL (Str.ofString "e") es = some (some (.int ee t2))
theorem PubAt.keeps {C : Addr} {h h' : Heap} {x : Addr} {nn ee : Int} (H : PubAt C h x nn ee) (k : ∀ b o, h.get? b = some o → h'.get? b = some o) : PubAt C h' x nn ee := by
  obtain ⟨dd, es, m, t1, t2, I, h1, h2⟩ := H
  exact ⟨dd, es, m, t1, t2, InstAt.keeps I k, h1, h2⟩
theorem octs_octs {n : Nat} {x : Int} : Octs (octs n x) := by
  induction n with
  | zero => intro k hk; exact nomatch hk
  | succ n ih =>
    intro k hk
    rw [octs_succ] at hk
    rcases List.mem_cons.mp hk with rfl | hk
    · exact ⟨Int.emod_nonneg _ (by decide), Int.emod_lt_of_pos _ (by decide)⟩
    · exact ih k hk
theorem val_cons (k : Int) (r : List Int) : val (k :: r) = k * 256 ^ r.length + val r := by
  have key : ∀ (r : List Int) (a : Int), r.foldl (fun a k => 256 * a + k) a = a * 256 ^ r.length + val r := by
    intro r
    induction r with
    | nil => intro a; simp [val]
    | cons q r ih2 =>
      intro a
      show r.foldl _ (256 * a + q) = _
      have e : val (q :: r) = r.foldl (fun a k => 256 * a + k) (256 * 0 + q) := rfl
      rw [ih2, e, ih2, List.length_cons, Int.pow_succ]
      rw [Int.add_mul, Int.add_mul, Int.mul_zero, Int.zero_mul, Int.mul_comm 256 a, Int.mul_assoc, Int.mul_comm 256]
      omega
  have e : val (k :: r) = r.foldl (fun a k => 256 * a + k) (256 * 0 + k) := rfl
  rw [e, key r (256 * 0 + k), show (256 : Int) * 0 + k = k by omega]
theorem val_octs_mod (X : Nat) : ∀ n : Nat, val (octs n (X : Int)) = ((X % 256 ^ n : Nat) : Int)
  | 0 => by rw [Nat.pow_zero, Nat.mod_one]; rfl
  | n + 1 => by
    rw [octs_succ, val_cons, octs_length, val_octs_mod X n, Nat.pow_succ, Nat.mod_mul, Int.natCast_add, Int.natCast_mul, Int.natCast_emod, Int.natCast_emod, Int.natCast_ediv, Int.natCast_pow, Int.mul_comm]
    exact Int.add_comm _ _
theorem val_octs {n : Nat} {x : Int} (h0 : 0 ≤ x) (h1 : x < 256 ^ n) : val (octs n x) = x := by
  obtain ⟨X, rfl⟩ := Int.eq_ofNat_of_zero_le h0
  have h2 : X < 256 ^ n := Int.ofNat_lt.mp (by rw [Int.natCast_pow]; exact h1)
  rw [val_octs_mod, Nat.mod_eq_of_lt h2]
/-- too few octets that are not 0 -/
noncomputable def Few (ds : List Int) (sz : Int) : Prop := Octs ds ∧ ds.length ≤ 900 ∧ ((ds.filter (fun k => k ≠ 0)).length : Int) = sz - 4
theorem map_row {ys : List Value} {os : List Int} {i : Nat} {k : Int} {t : Tok} {f : Int → Int} (h : IntsAre ys ((os.take i).map f)) (e : os[i]? = some k) : IntsAre (ys ++ [.int (f k) t]) ((os.take (i + 1)).map f) := by
  rw [List.take_succ, e, List.map_append]
  exact h.append (.cons _ _ .nil)
end

section
namespace Num
noncomputable def Pr (p : Nat) : Prop := 2 ≤ p ∧ ∀ d, d ∣ p → d = 1 ∨ d = p
theorem Pr.cop {p a : Nat} (h : Pr p) (ha : ¬ p ∣ a) : Nat.Coprime p a := by
  rcases h.2 _ (Nat.gcd_dvd_left p a) with e | e
  · exact e
  · exact absurd (e ▸ Nat.gcd_dvd_right p a) ha
/-! ### the binomial numbers -/
noncomputable def ch : Nat → Nat → Nat
  | _, 0 => 1
  | 0, _ + 1 => 0
  | n + 1, k + 1 => ch n k + ch n (k + 1)
theorem ch_out : ∀ {n k : Nat}, n < k → ch n k = 0
  | _, 0, h => absurd h (Nat.not_lt_zero _)
  | 0, _ + 1, _ => rfl
  | n + 1, k + 1, h => by rw [ch, ch_out (show n < k by omega), ch_out (show n < k + 1 by omega)]
theorem ch_self : ∀ n, ch n n = 1
  | 0 => rfl
  | n + 1 => by rw [ch, ch_self n, ch_out (Nat.lt_succ_self n)]
theorem ch_zero (n : Nat) : ch n 0 = 1 := by cases n <;> rfl
theorem ch_mul : ∀ n k, (k + 1) * ch (n + 1) (k + 1) = (n + 1) * ch n k
  | 0, 0 => rfl
  | 0, k + 1 => by rw [show ch (0 + 1) (k + 1 + 1) = ch 0 (k + 1) + ch 0 (k + 1 + 1) from rfl, ch_out (show 0 < k + 1 by omega), ch_out (show 0 < k + 1 + 1 by omega)]; simp
  | n + 1, 0 => by
    have h := ch_mul n 0
    have h3 : ch (n + 1 + 1) (0 + 1) = ch (n + 1) 0 + ch (n + 1) (0 + 1) := rfl
    rw [h3, ch_zero]
    rw [ch_zero] at h
    omega
  | n + 1, k + 1 => by
    have h1 := ch_mul n k
    have h2 := ch_mul n (k + 1)
    rw [show ch (n + 1 + 1) (k + 1 + 1) = ch (n + 1) (k + 1) + ch (n + 1) (k + 1 + 1) from rfl, Nat.mul_add, h2]
    have h3 : ch (n + 1) (k + 1) = ch n k + ch n (k + 1) := rfl
    rw [show k + 1 + 1 = (k + 1) + 1 from rfl, Nat.add_mul, h1, h3]
    rw [Nat.add_mul (n + 1) 1, Nat.mul_add (n + 1)]
    omega
noncomputable def bs (n x : Nat) : Nat → Nat
  | 0 => 1
  | m + 1 => bs n x m + ch n (m + 1) * x ^ (m + 1)
theorem bs_succ (n x : Nat) : ∀ m, bs (n + 1) x (m + 1) = bs n x (m + 1) + x * bs n x m
  | 0 => by
    simp only [bs, ch, ch_zero]
    rw [Nat.zero_add, Nat.pow_one, Nat.add_mul]
    omega
  | m + 1 => by
    rw [show bs (n + 1) x (m + 1 + 1) = bs (n + 1) x (m + 1) + ch (n + 1) (m + 1 + 1) * x ^ (m + 1 + 1) from rfl, bs_succ n x m]
    rw [show bs n x (m + 1 + 1) = bs n x (m + 1) + ch n (m + 1 + 1) * x ^ (m + 1 + 1) from rfl]
    rw [show ch (n + 1) (m + 1 + 1) = ch n (m + 1) + ch n (m + 1 + 1) from rfl, Nat.add_mul]
    have : x * bs n x (m + 1) = x * bs n x m + ch n (m + 1) * x ^ (m + 1 + 1) := by
      rw [show bs n x (m + 1) = bs n x m + ch n (m + 1) * x ^ (m + 1) from rfl, Nat.mul_add, Nat.pow_succ x (m + 1)]
      congr 1
      rw [Nat.mul_comm x, Nat.mul_assoc]
    omega
theorem binom (x : Nat) : ∀ n, bs n x n = (x + 1) ^ n
  | 0 => rfl
  | n + 1 => by
    rw [bs_succ, show bs n x (n + 1) = bs n x n + ch n (n + 1) * x ^ (n + 1) from rfl, ch_out (Nat.lt_succ_self n), binom x n, Nat.zero_mul, Nat.add_zero, Nat.pow_succ (x + 1), Nat.mul_add ((x + 1) ^ n)]
    rw [Nat.mul_one, Nat.mul_comm x]
    omega
theorem ch_prime {p k : Nat} (h : Pr p) (hk : k + 1 < p) : p ∣ ch p (k + 1) := by
  obtain ⟨n, rfl⟩ : ∃ n, p = n + 1 := ⟨p - 1, by have := h.1; omega⟩
  have e := ch_mul n k
  have c : Nat.Coprime (n + 1) (k + 1) := h.cop fun d => by have := Nat.le_of_dvd (by omega) d; omega
  exact c.dvd_of_dvd_mul_left (e ▸ Nat.dvd_mul_right _ _)
theorem bs_prime {p x : Nat} (h : Pr p) : ∀ m, m < p → bs p x m % p = 1 % p
  | 0, _ => rfl
  | m + 1, hm => by
    rw [show bs p x (m + 1) = bs p x m + ch p (m + 1) * x ^ (m + 1) from rfl]
    obtain ⟨c, hc⟩ := ch_prime h hm
    rw [hc, Nat.mul_assoc, Nat.add_mul_mod_self_left]
    exact bs_prime h m (by omega)
/-- Fermat -/
theorem fermat {p : Nat} (h : Pr p) : ∀ x : Nat, x ^ p % p = x % p
  | 0 => by rw [Nat.zero_pow (by have := h.1; omega)]
  | x + 1 => by
    obtain ⟨n, hn⟩ : ∃ n, p = n + 1 := ⟨p - 1, by have := h.1; omega⟩
    have e : (x + 1) ^ p = bs p x n + x ^ p := by
      rw [← binom]
      conv => lhs; arg 3; rw [hn]
      rw [show bs p x (n + 1) = bs p x n + ch p (n + 1) * x ^ (n + 1) from rfl, ← hn, ch_self, Nat.one_mul]
    rw [e, Nat.add_mod, bs_prime h n (by omega), fermat h x, ← Nat.add_mod, Nat.add_comm]
theorem fermat_more {p : Nat} (h : Pr p) (x : Nat) : ∀ j, x ^ (1 + j * (p - 1)) % p = x % p
  | 0 => by rw [Nat.zero_mul, Nat.add_zero, Nat.pow_one]
  | j + 1 => by
    have h1 := h.1
    rw [show 1 + (j + 1) * (p - 1) = (1 + j * (p - 1)) + (p - 1) by rw [Nat.add_mul]; omega, Nat.pow_add, Nat.mul_mod, fermat_more h x j, ← Nat.mul_mod]
    have e : x * x ^ (p - 1) = x ^ p := by
      conv => rhs; rw [show p = (p - 1) + 1 by omega]
      rw [Nat.pow_succ, Nat.mul_comm]
    rw [e]; exact fermat h x
theorem mod_eq_dvd {a b n : Nat} (h : a % n = b % n) : n ∣ ((a : Int) - b).natAbs := by
  have h1 : ((a : Int) % n) = (b : Int) % n := by rw [← Int.natCast_emod, ← Int.natCast_emod, h]
  have h2 := Int.emod_eq_emod_iff_emod_sub_eq_zero.mp h1
  exact Int.ofNat_dvd_left.mp (Int.dvd_of_emod_eq_zero h2)
theorem dvd_mod_eq {a b n : Nat} (h : n ∣ ((a : Int) - b).natAbs) : a % n = b % n := by
  have h2 : ((a : Int) - b) % n = 0 := Int.emod_eq_zero_of_dvd (Int.ofNat_dvd_left.mpr h)
  have h1 := Int.emod_eq_emod_iff_emod_sub_eq_zero.mpr h2
  rw [← Int.natCast_emod, ← Int.natCast_emod] at h1
  exact Int.ofNat.inj h1
theorem Pr.ne_cop {p q : Nat} (hp : Pr p) (hq : Pr q) (h : p ≠ q) : Nat.Coprime p q := hp.cop fun d => by
  rcases hq.2 _ d with e | e
  · have := hp.1; omega
  · exact h e
theorem crt {p q a b : Nat} (c : Nat.Coprime p q) (h1 : a % p = b % p) (h2 : a % q = b % q) : a % (p * q) = b % (p * q) :=
  dvd_mod_eq (c.mul_dvd_of_dvd_of_dvd (mod_eq_dvd h1) (mod_eq_dvd h2))
theorem rsa {p q e d x : Nat} (hp : Pr p) (hq : Pr q) (h : p ≠ q) (he : e * d % ((p - 1) * (q - 1)) = 1) (hx : x < p * q) : x ^ (e * d) % (p * q) = x := by
  have hk : e * d = 1 + (p - 1) * (q - 1) * (e * d / ((p - 1) * (q - 1))) := by
    have := Nat.div_add_mod (e * d) ((p - 1) * (q - 1)); omega
  rw [← Nat.mod_eq_of_lt hx]
  conv => rhs; rw [Nat.mod_eq_of_lt hx]
  rw [Nat.mod_eq_of_lt hx]
  conv => rhs; rw [← Nat.mod_eq_of_lt hx]
  refine crt (hp.ne_cop hq h) ?_ ?_
  · rw [hk, Nat.mul_assoc, Nat.mul_comm (p - 1)]
    exact fermat_more hp x _
  · rw [hk, Nat.mul_comm (p - 1), Nat.mul_assoc, Nat.mul_comm (q - 1)]
    exact fermat_more hq x _
/-! ### orders, without a group -/
theorem pig : ∀ (s t : Nat) (f : Nat → Nat), (∀ i, i < t → f i < s) → (∀ i j, i < j → j < t → f i ≠ f j) → t ≤ s
  | 0, t, f, hb, _ => by
    rcases Nat.eq_zero_or_pos t with h | h
    · omega
    · exact absurd (hb 0 h) (Nat.not_lt_zero _)
  | s + 1, t, f, hb, hi => by
    by_cases hs : ∃ k, k < t ∧ f k = s
    · obtain ⟨k, hk, hks⟩ := hs
      have := pig s (t - 1) (fun i => if i = k then f (t - 1) else f i) (fun i hi' => ?_) (fun i j hij hj => ?_)
      · omega
      · split
        · next e =>
          subst e
          have h1 := hb (t - 1) (by omega)
          have h2 := hi i (t - 1) (by omega) (by omega)
          omega
        · next e =>
          have h1 := hb i (by omega)
          rcases Nat.lt_or_gt_of_ne e with h | h
          · have h2 := hi i k h hk; omega
          · have h2 := hi k i h (by omega); omega
      · split <;> split
        · omega
        · next e1 e2 => exact fun h => hi j (t - 1) (by omega) (by omega) h.symm
        · next e1 e2 => exact hi i (t - 1) (by omega) (by omega)
        · exact hi i j hij (by omega)
    · have := pig s t f (fun i hi' => by have h1 := hb i hi'; have h2 : f i ≠ s := fun e => hs ⟨i, hi', e⟩; omega) hi
      omega
/-- a walk that goes on alike from like places -/
noncomputable def Like (f : Nat → Nat) : Prop := ∀ i j k, f i = f j → f (i + k) = f (j + k)
theorem Like.mul {f : Nat → Nat} (H : Like f) {m : Nat} (hm : f m = f 0) (r : Nat) : ∀ q, f (m * q + r) = f r
  | 0 => by rw [Nat.mul_zero, Nat.zero_add]
  | q + 1 => by
    have h := H m 0 (m * q + r) hm
    rw [show m * (q + 1) + r = m + (m * q + r) by rw [Nat.mul_add]; omega, h, Nat.zero_add]
    exact H.mul hm r q
theorem Like.order {f : Nat → Nat} (H : Like f) {n : Nat} (hn : 0 < n) (h : f n = f 0) : ∃ t, 0 < t ∧ f t = f 0 ∧ (∀ n, f n = f 0 → t ∣ n) ∧ ∀ i j, i < j → j < t → f i ≠ f j := by
  have least : ∀ n, 0 < n → f n = f 0 → ∃ t, 0 < t ∧ f t = f 0 ∧ ∀ k, 0 < k → k < t → f k ≠ f 0 := by
    intro n
    induction n using Nat.strongRecOn with
    | ind n ih =>
      intro hn h
      by_cases hs : ∃ k, 0 < k ∧ k < n ∧ f k = f 0
      · obtain ⟨k, h1, h2, h3⟩ := hs
        exact ih k h2 h1 h3
      · exact ⟨n, hn, h, fun k h1 h2 h3 => hs ⟨k, h1, h2, h3⟩⟩
  obtain ⟨t, h1, h2, h3⟩ := least n hn h
  refine ⟨t, h1, h2, fun m hm => ?_, fun i j hij hj e => ?_⟩
  · have e := H.mul h2 (m % t) (m / t)
    rw [Nat.div_add_mod] at e
    rcases Nat.eq_zero_or_pos (m % t) with h0 | h0
    · exact Nat.dvd_of_mod_eq_zero h0
    · exact absurd (e.symm.trans hm) (h3 _ h0 (Nat.mod_lt _ h1))
  · have e1 := H i j (t - i) e
    rw [show i + (t - i) = t by omega, show j + (t - i) = t + (j - i) by omega, h2] at e1
    have e2 := H t 0 (j - i) h2
    rw [Nat.zero_add] at e2
    exact h3 (j - i) (by omega) (by omega) (e2.symm.trans e1.symm)
theorem dvd_ppow {r : Nat} (h : Pr r) : ∀ (k d : Nat), d ∣ r ^ (k + 1) → d = r ^ (k + 1) ∨ d ∣ r ^ k
  | k, d, hd => by
    by_cases hr : r ∣ d
    · obtain ⟨e, rfl⟩ := hr
      have he : e ∣ r ^ k := by
        rw [Nat.pow_succ, Nat.mul_comm (r ^ k) r] at hd
        exact Nat.dvd_of_mul_dvd_mul_left (k := r) (by have := h.1; omega) hd
      cases k with
      | zero =>
        rw [Nat.pow_zero] at he
        left; rw [Nat.dvd_one.mp he, Nat.zero_add, Nat.pow_one, Nat.mul_one]
      | succ k =>
        rcases dvd_ppow h k e he with q | q
        · left; rw [q, Nat.pow_succ r (k + 1), Nat.mul_comm]
        · right; rw [Nat.pow_succ, Nat.mul_comm]; exact Nat.mul_dvd_mul q (Nat.dvd_refl r)
    · right
      have c : Nat.Coprime d (r ^ (k + 1)) := (Nat.Coprime.pow_left _ (h.cop hr)).symm
      have e : Nat.gcd d (r ^ (k + 1)) = d := Nat.gcd_eq_left hd
      rw [Nat.Coprime, e] at c
      rw [c]; exact Nat.one_dvd _
theorem order_ppow {t r k m : Nat} (h : Pr r) (h1 : t ∣ r ^ (k + 1) * m) (h2 : ¬ t ∣ r ^ k * m) : r ^ (k + 1) ∣ t := by
  have h3 : t ∣ Nat.gcd t (r ^ (k + 1)) * m := Nat.dvd_gcd_mul_iff_dvd_mul.mpr h1
  rcases dvd_ppow h k _ (Nat.gcd_dvd_right t (r ^ (k + 1))) with e | e
  · rw [← e]; exact Nat.gcd_dvd_left _ _
  · exact absurd (Nat.dvd_trans h3 (Nat.mul_dvd_mul e (Nat.dvd_refl m))) h2

/-! ### a test by the factors of n - 1 -/
theorem like_pow (a l : Nat) : Like (fun n => a ^ n % l) := fun i j k h => by
  dsimp only at *
  rw [Nat.pow_add, Nat.pow_add, Nat.mul_mod, h, ← Nat.mul_mod]
/-- what one prime factor of n - 1 says of every divisor -/
noncomputable def Fac (a n r k : Nat) : Prop := ∃ m, Pr r ∧ n - 1 = r ^ (k + 1) * m ∧ Nat.gcd (a ^ (r ^ k * m) % n + (n - 1)) n = 1
theorem fac_dvd {a n l r k t : Nat} (hn : 1 < n) (H : Fac a n r k) (hl : l ∣ n) (hl1 : 1 < l) (h1 : t ∣ n - 1) (ht : ∀ m, t ∣ m → a ^ m % l = 1 % l) : r ^ (k + 1) ∣ t := by
  obtain ⟨m, hr, hm, hg⟩ := H
  refine order_ppow hr (hm ▸ h1) fun h2 => ?_
  have h3 := ht _ h2
  have h4 : l ∣ a ^ (r ^ k * m) % n + (n - 1) := by
    refine Nat.dvd_of_mod_eq_zero ?_
    rw [Nat.add_mod, Nat.mod_mod_of_dvd _ hl, h3, ← Nat.add_mod, show 1 + (n - 1) = n by omega]
    exact Nat.mod_eq_zero_of_dvd hl
  have h5 : l ∣ 1 := hg ▸ Nat.dvd_gcd h4 hl
  have := Nat.le_of_dvd (by decide) h5
  omega
/-- a number is prime that has no divisor below a bound -/
theorem pr_of {n f : Nat} (hn : 1 < n) (hf : n < f * f) (h : ∀ l, l ∣ n → 1 < l → f ≤ l) : Pr n := by
  refine ⟨hn, fun d hd => ?_⟩
  obtain ⟨e, he⟩ := hd
  by_cases h1 : d = 1
  · exact .inl h1
  · by_cases h2 : e = 1
    · right; rw [he, h2, Nat.mul_one]
    · exfalso
      have d0 : d ≠ 0 := fun z => by rw [z, Nat.zero_mul] at he; omega
      have e0 : e ≠ 0 := fun z => by rw [z, Nat.mul_zero] at he; omega
      have a1 := h d ⟨e, he⟩ (by omega)
      have a2 := h e ⟨d, by rw [Nat.mul_comm]; exact he⟩ (by omega)
      have := Nat.mul_le_mul a1 a2
      omega
theorem pock_order {a n l : Nat} (hn : 1 < n) (ha : a ^ (n - 1) % n = 1) (hl : l ∣ n) (hl1 : 1 < l) : ∃ t, 0 < t ∧ t ≤ l ∧ t ∣ n - 1 ∧ ∀ m, t ∣ m → a ^ m % l = 1 % l := by
  have e : a ^ (n - 1) % l = 1 % l := by rw [← Nat.mod_mod_of_dvd _ hl, ha]
  obtain ⟨t, h1, h2, h3, h4⟩ := (like_pow a l).order (n := n - 1) (by omega) (by rw [e, Nat.pow_zero])
  refine ⟨t, h1, ?_, h3 _ (by rw [e, Nat.pow_zero]), fun m hm => ?_⟩
  · exact pig l t _ (fun i _ => Nat.mod_lt _ (by omega)) h4
  · obtain ⟨q, rfl⟩ := hm
    have := (like_pow a l).mul h2 0 q
    try dsimp only at this
    rw [Nat.add_zero, Nat.pow_zero] at this
    exact this
/-- trial division -/
noncomputable def none (n : Nat) : Nat → Bool
  | 0 => true
  | k + 1 => (k < 2 || n % k != 0) && none n k
theorem none_spec {n : Nat} : ∀ {k : Nat}, none n k = true → ∀ d, d < k → 1 < d → ¬ d ∣ n
  | k + 1, h, d, hd, h1, hdv => by
    rw [none, Bool.and_eq_true, Bool.or_eq_true] at h
    by_cases e : d = k
    · subst e
      rcases h.1 with q | q
      · have := of_decide_eq_true q; omega
      · rw [Nat.mod_eq_zero_of_dvd hdv] at q; cases q
    · exact none_spec h.2 d (by omega) h1 hdv
theorem pr_small {n k : Nat} (hn : 1 < n) (hk : n < k * k) (h : none n k = true) : Pr n :=
  pr_of hn hk fun l hl h1 => by
    refine Nat.le_of_not_lt fun h2 => ?_
    exact none_spec h l h2 h1 hl
/-! ### powers, by the exponent's bits -/
noncomputable def pm (a n e s : Nat) : Nat → Nat
  | 0 => 1 % n
  | j + 1 => ((pm a n e s j) ^ 2 % n * (a ^ (e / 2 ^ (s - (j + 1)) % 2))) % n
theorem pm_eq {a n e s : Nat} (he : e < 2 ^ s) : ∀ {j : Nat}, j ≤ s → pm a n e s j = a ^ (e / 2 ^ (s - j)) % n
  | 0, _ => by rw [pm, Nat.sub_zero, Nat.div_eq_of_lt he, Nat.pow_zero]
  | j + 1, hj => by
    rw [pm, pm_eq he (show j ≤ s by omega)]
    have e1 : e / 2 ^ (s - j) = e / 2 ^ (s - (j + 1)) / 2 := by
      rw [Nat.div_div_eq_div_mul, ← Nat.pow_succ]
      congr 2
      omega
    rw [e1]
    generalize e / 2 ^ (s - (j + 1)) = u
    have e2 : a ^ u = (a ^ (u / 2)) ^ 2 * a ^ (u % 2) := by
      rw [← Nat.pow_mul, ← Nat.pow_add]
      congr 1
      omega
    rw [e2, Nat.mul_mod ((a ^ (u / 2)) ^ 2), Nat.pow_mod (a ^ (u / 2) % n), Nat.mod_mod, ← Nat.pow_mod, Nat.mul_mod, Nat.mod_mod]
theorem pm_pow {a n e s : Nat} (he : e < 2 ^ s) : a ^ e % n = pm a n e s s := by
  rw [pm_eq he (Nat.le_refl s), Nat.sub_self, Nat.pow_zero, Nat.div_one]
/-! ### Lucas and Lehmer -/
noncomputable def wx : Nat → Nat × Nat
  | 0 => (1, 0)
  | n + 1 => (2 * (wx n).1 + 3 * (wx n).2, (wx n).1 + 2 * (wx n).2)
theorem wx_add (m : Nat) : ∀ n, (wx (m + n)).1 = (wx m).1 * (wx n).1 + 3 * ((wx m).2 * (wx n).2) ∧ (wx (m + n)).2 = (wx m).1 * (wx n).2 + (wx m).2 * (wx n).1
  | 0 => by simp [wx]
  | n + 1 => by
    obtain ⟨h1, h2⟩ := wx_add m n
    rw [← Nat.add_assoc]
    simp only [wx]
    rw [h1, h2]
    generalize (wx m).1 = a, (wx m).2 = b, (wx n).1 = c, (wx n).2 = d
    have e1 : a * (2 * c + 3 * d) = 2 * (a * c) + 3 * (a * d) := by rw [Nat.mul_add, Nat.mul_left_comm, Nat.mul_left_comm a 3]
    have e2 : b * (c + 2 * d) = b * c + 2 * (b * d) := by rw [Nat.mul_add, Nat.mul_left_comm b 2]
    have e3 : b * (2 * c + 3 * d) = 2 * (b * c) + 3 * (b * d) := by rw [Nat.mul_add, Nat.mul_left_comm, Nat.mul_left_comm b 3]
    have e4 : a * (c + 2 * d) = a * c + 2 * (a * d) := by rw [Nat.mul_add, Nat.mul_left_comm a 2]
    rw [e1, e2, e3, e4]
    omega
theorem wx_norm : ∀ n, (wx n).1 * (wx n).1 = 3 * ((wx n).2 * (wx n).2) + 1
  | 0 => rfl
  | n + 1 => by
    have h := wx_norm n
    simp only [wx]
    generalize (wx n).1 = x at *
    generalize (wx n).2 = y at *
    simp only [Nat.mul_add, Nat.add_mul]
    have e1 : 2 * x * (2 * x) = 4 * (x * x) := by rw [Nat.mul_assoc, Nat.mul_left_comm x]; omega
    have e2 : 3 * y * (2 * x) = 6 * (x * y) := by rw [Nat.mul_assoc, Nat.mul_left_comm y, Nat.mul_comm y x]; omega
    have e3 : 2 * x * (3 * y) = 6 * (x * y) := by rw [Nat.mul_assoc, Nat.mul_left_comm x]; omega
    have e4 : 3 * y * (3 * y) = 9 * (y * y) := by rw [Nat.mul_assoc, Nat.mul_left_comm y]; omega
    have e5 : 2 * y * x = 2 * (x * y) := by rw [Nat.mul_assoc, Nat.mul_comm y x]
    have e6 : x * (2 * y) = 2 * (x * y) := by rw [Nat.mul_left_comm x]
    have e7 : 2 * y * (2 * y) = 4 * (y * y) := by rw [Nat.mul_assoc, Nat.mul_left_comm y]; omega
    rw [e1, e2, e3, e4, e5, e6, e7]
    omega
theorem wx_two (n : Nat) : (wx (n + n)).1 + 1 = 2 * ((wx n).1 * (wx n).1) ∧ (wx (n + n)).2 = 2 * ((wx n).1 * (wx n).2) := by
  obtain ⟨h1, h2⟩ := wx_add n n
  have h := wx_norm n
  rw [Nat.mul_comm (wx n).2 (wx n).1] at h2
  omega
/-- the places, modulo q -/
noncomputable def place (q n : Nat) : Nat := (wx n).1 % q * q + (wx n).2 % q
theorem place_inj {q i j : Nat} (hq : 0 < q) (h : place q i = place q j) : (wx i).1 % q = (wx j).1 % q ∧ (wx i).2 % q = (wx j).2 % q := by
  unfold place at h
  have a := Nat.mod_lt (wx i).2 hq
  have b := Nat.mod_lt (wx j).2 hq
  have h1 : ((wx i).1 % q * q + (wx i).2 % q) / q = ((wx j).1 % q * q + (wx j).2 % q) / q := by rw [h]
  rw [Nat.mul_comm _ q, Nat.mul_comm _ q, Nat.mul_add_div hq, Nat.mul_add_div hq, Nat.div_eq_of_lt a, Nat.div_eq_of_lt b] at h1
  have h2 : (wx i).1 % q = (wx j).1 % q := by omega
  rw [h2] at h
  exact ⟨h2, by omega⟩
theorem lin_mod {q u v u' v' c d e : Nat} (h1 : u % q = u' % q) (h2 : v % q = v' % q) : (u * c + e * (v * d)) % q = (u' * c + e * (v' * d)) % q := by
  rw [Nat.add_mod, Nat.mul_mod u, Nat.mul_mod e, Nat.mul_mod v, h1, h2]
  conv => rhs; rw [Nat.add_mod, Nat.mul_mod u', Nat.mul_mod e, Nat.mul_mod v']
theorem place_like {q : Nat} (hq : 0 < q) : Like (place q) := by
  intro i j k h
  obtain ⟨h1, h2⟩ := place_inj hq h
  have a := wx_add i k
  have b := wx_add j k
  unfold place
  have e1 : (wx (i + k)).1 % q = (wx (j + k)).1 % q := by
    rw [a.1, b.1]; exact lin_mod h1 h2
  have e2 : (wx (i + k)).2 % q = (wx (j + k)).2 % q := by
    rw [a.2, b.2]; have := lin_mod (c := (wx k).2) (d := (wx k).1) (e := 1) h1 h2; rwa [Nat.one_mul, Nat.one_mul] at this
  rw [e1, e2]
theorem place_lt {q : Nat} (hq : 0 < q) (n : Nat) : place q n < q * q := by
  have a := Nat.mod_lt (wx n).1 hq
  have b := Nat.mod_lt (wx n).2 hq
  unfold place
  have : ((wx n).1 % q + 1) * q ≤ q * q := Nat.mul_le_mul_right q a
  rw [Nat.add_mul] at this
  omega
noncomputable def ll (n : Nat) : Nat → Nat
  | 0 => 2
  | i + 1 => (2 * (ll n i) ^ 2 + (n - 1)) % n
theorem ll_eq {n : Nat} (hn : 2 < n) : ∀ i, ll n i % n = (wx (2 ^ i)).1 % n
  | 0 => rfl
  | i + 1 => by
    have h := (wx_two (2 ^ i)).1
    rw [ll, Nat.mod_mod, Nat.add_mod, Nat.mul_mod, Nat.pow_mod, ll_eq hn i, ← Nat.pow_mod, ← Nat.mul_mod, ← Nat.add_mod, Nat.pow_two, ← h, Nat.pow_succ, Nat.mul_two]
    rw [show (wx (2 ^ i + 2 ^ i)).1 + 1 + (n - 1) = (wx (2 ^ i + 2 ^ i)).1 + n by omega, Nat.add_mod_right]
theorem pr2 : Pr 2 := pr_small (k := 2) (by decide) (by decide) rfl
theorem mersenne {k n : Nat} (hk : n + 1 = 2 ^ (k + 2)) (h : ll n k = 0) : Pr n := by
  have hp : 0 < 2 ^ k := Nat.pow_pos (by decide)
  have hk2 : 2 ^ (k + 2) = 4 * 2 ^ k := by rw [Nat.pow_add]; omega
  have hn : 2 < n := by omega
  refine ⟨by omega, fun d hd => ?_⟩
  have key : ∀ l, l ∣ n → 1 < l → n < l * l := by
    intro l hl h1
    have hodd : l ≠ 2 := fun e => by
      subst e
      obtain ⟨c, hc⟩ := hl
      omega
    have e0 : (wx (2 ^ k)).1 % l = 0 := by
      have := ll_eq hn k
      rw [h, Nat.zero_mod] at this
      exact Nat.mod_eq_zero_of_dvd (Nat.dvd_trans hl (Nat.dvd_of_mod_eq_zero this.symm))
    obtain ⟨c, hc⟩ := Nat.dvd_of_mod_eq_zero e0
    have t1 := wx_two (2 ^ k)
    rw [← Nat.mul_two, ← Nat.pow_succ] at t1
    have x1 : ((wx (2 ^ (k + 1))).1 + 1) % l = 0 := by rw [t1.1, hc, Nat.mul_assoc, Nat.mul_left_comm]; exact Nat.mul_mod_right _ _
    have y1 : (wx (2 ^ (k + 1))).2 % l = 0 := by rw [t1.2, hc, Nat.mul_assoc, Nat.mul_left_comm]; exact Nat.mul_mod_right _ _
    have t2 := wx_two (2 ^ (k + 1))
    rw [← Nat.mul_two, ← Nat.pow_succ] at t2
    have y2 : (wx (2 ^ (k + 2))).2 % l = 0 := by
      obtain ⟨b, hb⟩ := Nat.dvd_of_mod_eq_zero y1
      rw [t2.2, hb]; exact Nat.mod_eq_zero_of_dvd (Nat.dvd_mul_left_of_dvd (Nat.dvd_mul_left_of_dvd (Nat.dvd_mul_right l b) _) _)
    have x2 : (wx (2 ^ (k + 2))).1 % l = 1 := by
      have nm := wx_norm (2 ^ (k + 1))
      obtain ⟨b, hb⟩ := Nat.dvd_of_mod_eq_zero y1
      have t2' : (wx (2 ^ (k + 2))).1 + 1 = 2 * ((wx (2 ^ (k + 1))).1 * (wx (2 ^ (k + 1))).1) := t2.1
      rw [nm] at t2'
      have e9 : (wx (2 ^ (k + 2))).1 = 6 * ((wx (2 ^ (k + 1))).2 * (wx (2 ^ (k + 1))).2) + 1 := by omega
      rw [e9, hb, Nat.mul_assoc, Nat.mul_left_comm, Nat.mul_add_mod, Nat.mod_eq_of_lt h1]
    have z0 : place l 0 = 1 % l * l + 0 % l := rfl
    have big : place l (2 ^ (k + 2)) = place l 0 := by
      rw [z0, place, x2, y2, Nat.mod_eq_of_lt h1, Nat.zero_mod]
    have small : place l (2 ^ (k + 1)) ≠ place l 0 := fun e => by
      have e1 := (place_inj (by omega) e).1
      have e2 : (wx 0).1 = 1 := rfl
      rw [e2] at e1
      rw [Nat.add_mod, e1, ← Nat.add_mod] at x1
      have := Nat.le_of_dvd (by decide) (Nat.dvd_of_mod_eq_zero x1)
      omega
    obtain ⟨t, h2, h3, h4, h5⟩ := (place_like (q := l) (by omega)).order (n := 2 ^ (k + 2)) (Nat.pow_pos (by decide)) big
    have h6 := h4 _ big
    have h7 : t = 2 ^ (k + 2) := by
      rcases dvd_ppow pr2 (k + 1) t h6 with q | q
      · exact q
      · exfalso
        obtain ⟨b, hb⟩ := q
        have := (place_like (q := l) (by omega)).mul h3 0 b
        rw [Nat.add_zero, ← hb] at this
        exact small this
    have h8 := pig (l * l) t (place l) (fun i _ => place_lt (by omega) i) h5
    omega
  obtain ⟨e, he⟩ := hd
  by_cases h1 : d = 1
  · exact .inl h1
  · by_cases h2 : e = 1
    · right; rw [he, h2, Nat.mul_one]
    · exfalso
      have d0 : d ≠ 0 := fun z => by rw [z, Nat.zero_mul] at he; omega
      have e0 : e ≠ 0 := fun z => by rw [z, Nat.mul_zero] at he; omega
      have a1 := key d ⟨e, he⟩ (by omega)
      have a2 := key e ⟨d, by rw [Nat.mul_comm]; exact he⟩ (by omega)
      rw [he] at a1 a2
      have a3 := Nat.lt_of_mul_lt_mul_left a1
      have a4 := Nat.lt_of_mul_lt_mul_right a2
      omega
end Num
end

section
namespace Num
theorem fac_of {a n r m s : Nat} (hr : Pr r) (h1 : n - 1 = r * m) (hm : m < 2 ^ s) (h2 : Nat.gcd (pm a n m s s + (n - 1)) n = 1) : Fac a n r 0 :=
  ⟨m, hr, by rw [Nat.zero_add, Nat.pow_one]; exact h1, by rw [Nat.pow_zero, Nat.one_mul, pm_pow hm]; exact h2⟩
theorem dvd_of_fac {a n l r t : Nat} (hn : 1 < n) (H : Fac a n r 0) (hl : l ∣ n) (hl1 : 1 < l) (h1 : t ∣ n - 1) (ht : ∀ m, t ∣ m → a ^ m % l = 1 % l) : r ∣ t := by
  have := fac_dvd hn H hl hl1 h1 ht
  rwa [Nat.zero_add, Nat.pow_one] at this
theorem pock1 {a n r s : Nat} (hn : 1 < n) (hs : n < 2 ^ s) (ha : pm a n (n - 1) s s = 1) (H : Fac a n r 0) (hf : n < r * r) : Pr n := by
  rw [← pm_pow (by omega)] at ha
  refine pr_of hn hf fun l hl hl1 => ?_
  obtain ⟨t, h0, h1, h2, h3⟩ := pock_order hn ha hl hl1
  exact Nat.le_trans (Nat.le_of_dvd h0 (dvd_of_fac hn H hl hl1 h2 h3)) h1
theorem pock2 {a n r r' s : Nat} (hn : 1 < n) (hs : n < 2 ^ s) (ha : pm a n (n - 1) s s = 1) (H : Fac a n r 0) (H' : Fac a n r' 0) (hc : Nat.Coprime r r') (hf : n < r * r' * (r * r')) : Pr n := by
  rw [← pm_pow (by omega)] at ha
  refine pr_of hn hf fun l hl hl1 => ?_
  obtain ⟨t, h0, h1, h2, h3⟩ := pock_order hn ha hl hl1
  exact Nat.le_trans (Nat.le_of_dvd h0 (hc.mul_dvd_of_dvd_of_dvd (dvd_of_fac hn H hl hl1 h2 h3) (dvd_of_fac hn H' hl hl1 h2 h3))) h1
theorem p15331 : Pr 15331 := pr_small (k := 124) (by decide) (by decide) (by decide +kernel)
theorem p2131 : Pr 2131 := pr_small (k := 47) (by decide) (by decide) (by decide +kernel)
theorem p430751 : Pr 430751 := pr_small (k := 657) (by decide) (by decide) (by decide +kernel)
theorem p4153 : Pr 4153 := pr_small (k := 65) (by decide) (by decide) (by decide +kernel)
theorem p3 : Pr 3 := pr_small (k := 2) (by decide) (by decide) (by decide +kernel)
theorem p353 : Pr 353 := pr_small (k := 19) (by decide) (by decide) (by decide +kernel)
theorem p57467 : Pr 57467 := pr_small (k := 240) (by decide) (by decide) (by decide +kernel)
theorem p132049 : Pr 132049 := pr_small (k := 364) (by decide) (by decide) (by decide +kernel)
theorem p1923133 : Pr 1923133 := pr_small (k := 1387) (by decide) (by decide) (by decide +kernel)
theorem p5594472617641 : Pr 5594472617641 := pock2 (a := 2) (s := 43) (by decide +kernel) (by decide +kernel) (by decide +kernel) (fac_of (a := 2) (n := 5594472617641) (r := 15331) (m := 364912440) (s := 43) p15331 (by decide +kernel) (by decide +kernel) (by decide +kernel)) (fac_of (a := 2) (n := 5594472617641) (r := 2131) (m := 2625280440) (s := 43) p2131 (by decide +kernel) (by decide +kernel) (by decide +kernel)) (by decide +kernel) (by decide +kernel)
theorem p31757755568855353 : Pr 31757755568855353 := pock2 (a := 2) (s := 55) (by decide +kernel) (by decide +kernel) (by decide +kernel) (fac_of (a := 2) (n := 31757755568855353) (r := 430751) (m := 73726481352) (s := 55) p430751 (by decide +kernel) (by decide +kernel) (by decide +kernel)) (fac_of (a := 2) (n := 31757755568855353) (r := 4153) (m := 7646943310584) (s := 55) p4153 (by decide +kernel) (by decide +kernel) (by decide +kernel)) (by decide +kernel) (by decide +kernel)
theorem p18446744073709551557 : Pr 18446744073709551557 := pock1 (a := 2) (s := 64) (by decide +kernel) (by decide +kernel) (by decide +kernel) (fac_of (a := 2) (n := 18446744073709551557) (r := 5594472617641) (m := 3297316) (s := 64) p5594472617641 (by decide +kernel) (by decide +kernel) (by decide +kernel)) (by decide +kernel)
theorem p2 : Pr 2 := pr2
theorem p74058212732561358302231226437062788676166966415465897661863160754340907 : Pr 74058212732561358302231226437062788676166966415465897661863160754340907 := by
  have hn : 1 < 74058212732561358302231226437062788676166966415465897661863160754340907 := by decide +kernel
  have ha : 2 ^ (74058212732561358302231226437062788676166966415465897661863160754340907 - 1) % 74058212732561358302231226437062788676166966415465897661863160754340907 = 1 := by
    rw [pm_pow (s := 236) (by decide +kernel)]
    decide +kernel
  refine pr_of (f := 981609426360740691344999861639072106) hn (by decide +kernel) fun l hl hl1 => ?_
  obtain ⟨t, h0, h1, h2, h3⟩ := pock_order hn ha hl hl1
  refine Nat.le_trans (Nat.le_of_dvd h0 ?_) h1
  have d0 := dvd_of_fac hn (fac_of (a := 2) (n := 74058212732561358302231226437062788676166966415465897661863160754340907) (r := 2) (m := 37029106366280679151115613218531394338083483207732948830931580377170453) (s := 236) p2 (by decide +kernel) (by decide +kernel) (by decide +kernel)) hl hl1 h2 h3
  have q0 := d0
  have d1 := dvd_of_fac hn (fac_of (a := 2) (n := 74058212732561358302231226437062788676166966415465897661863160754340907) (r := 3) (m := 24686070910853786100743742145687596225388988805155299220621053584780302) (s := 236) p3 (by decide +kernel) (by decide +kernel) (by decide +kernel)) hl hl1 h2 h3
  have q1 : 6 ∣ t := Nat.Coprime.mul_dvd_of_dvd_of_dvd (m := 2) (n := 3) (by decide +kernel) q0 d1
  have d2 := dvd_of_fac hn (fac_of (a := 2) (n := 74058212732561358302231226437062788676166966415465897661863160754340907) (r := 353) (m := 209796636636151156663544550813209033076960244803019540118592523383402) (s := 236) p353 (by decide +kernel) (by decide +kernel) (by decide +kernel)) hl hl1 h2 h3
  have q2 : 2118 ∣ t := Nat.Coprime.mul_dvd_of_dvd_of_dvd (m := 6) (n := 353) (by decide +kernel) q1 d2
  have d3 := dvd_of_fac hn (fac_of (a := 2) (n := 74058212732561358302231226437062788676166966415465897661863160754340907) (r := 57467) (m := 1288708523719027586305727224964984924846728842909250485702458119518) (s := 236) p57467 (by decide +kernel) (by decide +kernel) (by decide +kernel)) hl hl1 h2 h3
  have q3 : 121715106 ∣ t := Nat.Coprime.mul_dvd_of_dvd_of_dvd (m := 2118) (n := 57467) (by decide +kernel) q2 d3
  have d4 := dvd_of_fac hn (fac_of (a := 2) (n := 74058212732561358302231226437062788676166966415465897661863160754340907) (r := 132049) (m := 560838875966961948233089432233964578877287722099113947563882806794) (s := 236) p132049 (by decide +kernel) (by decide +kernel) (by decide +kernel)) hl hl1 h2 h3
  have q4 : 16072358032194 ∣ t := Nat.Coprime.mul_dvd_of_dvd_of_dvd (m := 121715106) (n := 132049) (by decide +kernel) q3 d4
  have d5 := dvd_of_fac hn (fac_of (a := 2) (n := 74058212732561358302231226437062788676166966415465897661863160754340907) (r := 1923133) (m := 38509147694185143878364744631319200843710219946028640589009268082) (s := 236) p1923133 (by decide +kernel) (by decide +kernel) (by decide +kernel)) hl hl1 h2 h3
  have q5 : 30909282119527343802 ∣ t := Nat.Coprime.mul_dvd_of_dvd_of_dvd (m := 16072358032194) (n := 1923133) (by decide +kernel) q4 d5
  have d6 := dvd_of_fac hn (fac_of (a := 2) (n := 74058212732561358302231226437062788676166966415465897661863160754340907) (r := 31757755568855353) (m := 2331972502653487852620185443007392165117953542933313402) (s := 236) p31757755568855353 (by decide +kernel) (by decide +kernel) (by decide +kernel)) hl hl1 h2 h3
  have q6 : 981609426360740691344999861639072106 ∣ t := Nat.Coprime.mul_dvd_of_dvd_of_dvd (m := 30909282119527343802) (n := 31757755568855353) (by decide +kernel) q5 d6
  exact q6
theorem p57896044618658097711785492504343953926634992332820282019728792003956564819949 : Pr 57896044618658097711785492504343953926634992332820282019728792003956564819949 := pock1 (a := 2) (s := 255) (by decide +kernel) (by decide +kernel) (by decide +kernel) (fac_of (a := 2) (n := 57896044618658097711785492504343953926634992332820282019728792003956564819949) (r := 74058212732561358302231226437062788676166966415465897661863160754340907) (m := 781764) (s := 255) p74058212732561358302231226437062788676166966415465897661863160754340907 (by decide +kernel) (by decide +kernel) (by decide +kernel)) (by decide +kernel)
theorem m31 : Pr 2147483647 := mersenne (k := 29) (by decide +kernel) (by decide +kernel)
theorem m61 : Pr 2305843009213693951 := mersenne (k := 59) (by decide +kernel) (by decide +kernel)
theorem m89 : Pr 618970019642690137449562111 := mersenne (k := 87) (by decide +kernel) (by decide +kernel)
theorem m107 : Pr 162259276829213363391578010288127 := mersenne (k := 105) (by decide +kernel) (by decide +kernel)
theorem m127 : Pr 170141183460469231731687303715884105727 := mersenne (k := 125) (by decide +kernel) (by decide +kernel)
theorem m521 : Pr 6864797660130609714981900799081393217269435300143305409394463459185543183397656052122559640661454554977296311391480858037121987999716643812574028291115057151 := mersenne (k := 519) (by decide +kernel) (by decide +kernel)
theorem m607 : Pr 531137992816767098689588206552468627329593117727031923199444138200403559860852242739162502265229285668889329486246501015346579337652707239409519978766587351943831270835393219031728127 := mersenne (k := 605) (by decide +kernel) (by decide +kernel)
/-- the nine -/
noncomputable def nine : List Nat := [2147483647, 2305843009213693951, 618970019642690137449562111, 162259276829213363391578010288127, 170141183460469231731687303715884105727, 6864797660130609714981900799081393217269435300143305409394463459185543183397656052122559640661454554977296311391480858037121987999716643812574028291115057151, 531137992816767098689588206552468627329593117727031923199444138200403559860852242739162502265229285668889329486246501015346579337652707239409519978766587351943831270835393219031728127, 18446744073709551557, 57896044618658097711785492504343953926634992332820282019728792003956564819949]
theorem nine_pr : ∀ p ∈ nine, Pr p := by
  intro p hp
  simp only [nine, List.mem_cons, List.not_mem_nil, or_false] at hp
  rcases hp with rfl | rfl | rfl | rfl | rfl | rfl | rfl | rfl | rfl
  · exact m31
  · exact m61
  · exact m89
  · exact m107
  · exact m127
  · exact m521
  · exact m607
  · exact p18446744073709551557
  · exact p57896044618658097711785492504343953926634992332820282019728792003956564819949
noncomputable def wit : List Nat := [4001, 7993, 11993, 15991, 19991, 23983, 27983, 31981, 35977, 39973, 43973, 47969, 51959, 55949, 59929, 63929, 67927, 71923, 75913, 79907, 83903]
theorem wit_cop : ∀ w ∈ wit, ∀ p ∈ nine, Nat.gcd w (p - 1) = 1 := by decide +kernel
noncomputable def okT : Nat → List Nat → Bool
  | _, [] => true
  | p, t :: r => decide (t < p + 2000) && okT (t + 1) r
theorem near_of : ∀ {ts : List Nat} {p c : Nat}, okT p ts = true → p ≤ c → (∃ t, t ∈ ts ∧ c ≤ t) → ∃ t, t ∈ ts ∧ c ≤ t ∧ t < c + 2000
  | [], _, _, _, _, ⟨_, h, _⟩ => nomatch h
  | t :: r, p, c, h, hp, ⟨x, hx, hc⟩ => by
    unfold okT at h
    rw [Bool.and_eq_true, decide_eq_true_eq] at h
    by_cases g : c ≤ t
    · exact ⟨t, List.mem_cons_self, g, by omega⟩
    · rcases List.mem_cons.mp hx with rfl | hx
      · exact absurd hc g
      · obtain ⟨y, hy, h1, h2⟩ := near_of h.2 (by omega) ⟨x, hx, hc⟩
        exact ⟨y, List.mem_cons_of_mem _ hy, h1, h2⟩
noncomputable def ths : List Nat := [1999, 3995, 5995, 7994, 9994, 11990, 13990, 15989, 17987, 19985, 21985, 23983, 25978, 27973, 29963, 31963, 33962, 35960, 37955, 39952, 41950]
theorem wit_near {c : Nat} (hc : c < 40000) : ∃ k, k < 2000 ∧ 3 + 2 * c + 2 * k ∈ wit := by
  obtain ⟨t, ht, h1, h2⟩ := near_of (ts := ths) (p := 0) (by decide +kernel) (Nat.zero_le c) ⟨41950, by decide +kernel, by omega⟩
  refine ⟨t - c, by omega, ?_⟩
  rw [show 3 + 2 * c + 2 * (t - c) = 3 + 2 * t by omega]
  exact (show ∀ t ∈ ths, 3 + 2 * t ∈ wit by decide +kernel) t ht
theorem wit_ends {c p q : Nat} (hc : c < 40000) (hp : p ∈ nine) (hq : q ∈ nine) : ∃ k, k < 2000 ∧ Nat.gcd (3 + 2 * c + 2 * k) ((p - 1) * (q - 1)) = 1 := by
  obtain ⟨k, hk, hw⟩ := wit_near hc
  exact ⟨k, hk, Nat.Coprime.mul_right (wit_cop _ hw p hp) (wit_cop _ hw q hq)⟩
end Num
end

section
set_option maxHeartbeats 2000000
open PySem.Calls PySem.Builtin
set_option maxRecDepth 100000
theorem slot_bytes_find : Slot "bytes" "find" "bytes.find" :=
  .of (owner := "bytes") (n := "find") (by rw [typeLookup_type, builtinLookup_eq_fast]; kernel_rfl) (by decide +kernel) (by decide +kernel) (by decide +kernel)
    (by first | exact .inl (by decide +kernel) | exact .inr (by decide +kernel)) (by rw [isSubtype_type]; kernel_rfl)
theorem type_bytes_find : typeOf (.builtin "bytes.find") = pure (.type "method_descriptor") := by show builtinType _ = _; rw [builtinType_eq_fast]; kernel_rfl
theorem entry_bytes_find : entryFor table "bytes.find" = some Builtin.«bytes.find» := entryFor_of_fast (by kernel_rfl)
theorem args_bytes_find_3 (a b c : Value) : argsOk "bytes.find" ⟨[a, b, c], []⟩ := by unfold argsOk; kernel_rfl
section
variable {prog : Program} {w : World} {M : Model} {A : Around} {E : Value → Shared → Prop} {s : Shared} {b : Array UInt8} {t : Tok}
/-- where the first 0 from the third octet on stands; or -1 -/
noncomputable def idx0 (b : Array UInt8) : Int := match Bytes.find? b #[0] 2 b.size with | some i => (i : Int) | none => -1
theorem code_find {t t2 t3 : Tok} {P : Fin → Shared → Prop} (hb : 3 ≤ b.size) (h : ∀ k, P (.done (.ret (.int (idx0 b) k))) { s with toks := k + 1 }) :
    wpAny M A (Builtin.«bytes.find» ⟨[.bytes b t, .bytes #[0] t2, .int 2 t3], []⟩) P E s := by
  unfold Builtin.«bytes.find» Bytes.searchM
  refine wpAny_bind ?_
  unfold Bytes.searchArgs
  refine wpAny_bind (m := selfAndSome _ _ _ _ _) (wpAny_of_eq (a := (Value.bytes b t, [Value.bytes #[0] t2, Value.int 2 t3])) rfl ?_)
  dsimp only
  refine wpAny_bind ?_
  unfold Bytes.bound?
  dsimp only [List.getElem?_cons_succ, List.getElem?_cons_zero, List.getElem?_nil]
  refine wpAny_bind (wpAny_specialOf (T := "int") (typeIs_int _ _ _) F.slot_int_index.lookup ?_)
  refine wpAny_no rfl ?_
  refine wpAny_bind (wpAny_of_eq (a := (2 : Int)) rfl (wpAny_pure ?_))
  refine wpAny_bind (wpAny_pure ?_)
  refine wpAny_bind (wpAny_of_eq KBy.buffer_eq ?_)
  refine wpAny_bind (wpAny_pure ?_)
  refine wpAny_bind (wpAny_of_eq (a := b) rfl ?_)
  refine wpAny_pure ?_
  dsimp only
  have hw : Bytes.window b.size (some 2) none = (2, (b.size : Int)) := by
    unfold Bytes.window
    simp only [Option.getD_some, Option.getD_none]
    rw [if_neg (by decide), if_neg (by omega)]
    congr 1
    omega
  have h1 : (#[0] : Array UInt8).size = 1 := rfl
  rw [hw, if_neg (by rw [h1]; dsimp only; omega)]
  show wpAny M A (match Bytes.find? b #[0] 2 b.size with | some i => retInt i | none => _) P E s
  unfold idx0 at h
  split
  · next i hi =>
    rw [hi] at h
    exact wpAny_bind (wpAny_mkInt (wpAny_pure (h _)))
  · next hi =>
    rw [hi] at h
    refine wpAny_bind (wpAny_rule ?_)
    refine wpAny_no rfl ?_
    exact wpAny_bind (wpAny_mkInt (wpAny_pure (h _)))
theorem call_find {t t2 t3 : Tok} {Q : Value → Shared → Prop} (hb : 3 ≤ b.size) (h : ∀ k, Q (.int (idx0 b) k) { s with toks := k + 1 }) :
    wpAny (model prog w) A (call (.builtin "bytes.find") [.bytes b t, .bytes #[0] t2, .int 2 t3]) Q E s :=
  wpAny_call_entry slot_bytes_find (typeIs_bytes _ _ _) entry_bytes_find (code_find hb fun k => ⟨_, rfl, h k⟩) (args_bytes_find_3 _ _ _)
theorem method_find {b : Array UInt8} {pl : Sem Bool} {Q : Value × List Value → Shared → Prop} (h : Q (.builtin "bytes.find", [.bytes b t]) s) : wpAny M A (getMethod (.bytes b t) "find" pl) Q E s := by
  with_reducible exact KBd.method_of (.bytes b t) (typeIs_bytes _ _ _) slot_bytes_find type_bytes_find KBd.noRef h
end
theorem ext_zero {b : Array UInt8} {ks : List Int} (hk : KBw.bInts b = ks) {i : Nat} (hi : i < b.size) : (b.extract i (i + 1) == #[0]) = true ↔ ks[i]? = some 0 := by
  have e : b.extract i (i + 1) = #[b[i]] := by
    apply Array.ext
    · simp; omega
    · intro j h1 h2
      simp at h1 h2
      have : j = 0 := by omega
      subst this
      simp
  have g : ks[i]? = some ((b[i]).toNat : Int) := hk ▸ KBw.ints_get (by simp [hi])
  rw [e, g]
  constructor
  · intro h
    have h1 : b[i] = 0 := by simpa using h
    rw [h1]; rfl
  · intro h
    have h1 : (b[i]).toNat = 0 := by
      have := Option.some.inj h
      omega
    have h2 : b[i] = 0 := UInt8.toNat_inj.mp h1
    rw [h2]; rfl
theorem idx0_spec {b : Array UInt8} {ks : List Int} (hk : KBw.bInts b = ks) (hb : 3 ≤ b.size) :
    (∃ j : Nat, 2 ≤ j ∧ ks[j]? = some 0 ∧ (∀ i, 2 ≤ i → i < j → ks[i]? ≠ some 0) ∧ idx0 b = (j : Int)) ∨ ((∀ i, 2 ≤ i → i < ks.length → ks[i]? ≠ some 0) ∧ idx0 b = -1) := by
  have hl : ks.length = b.size := by rw [← hk, KBw.ints_length]
  unfold idx0 Bytes.find?
  have h1 : (#[0] : Array UInt8).size = 1 := rfl
  rw [h1, List.find?_map]
  cases h : (List.range (b.size + 1 - (2 + 1))).find? ((fun i => b.extract i (i + 1) == #[0]) ∘ fun x => x + 2) with
  | none =>
    right
    refine ⟨fun i hi0 hi1 hz => ?_, rfl⟩
    have := List.find?_eq_none.mp h (i - 2) (List.mem_range.mpr (by omega))
    apply this
    show (b.extract (i - 2 + 2) (i - 2 + 2 + 1) == #[0]) = true
    rw [show i - 2 + 2 = i by omega]
    exact (ext_zero hk (by omega)).mpr hz
  | some j =>
    left
    obtain ⟨g1, g2, g3⟩ := List.find?_range_eq_some.mp h
    have g4 := List.mem_range.mp g2
    refine ⟨j + 2, by omega, (ext_zero hk (by omega)).mp g1, fun i hi0 hi1 hz => ?_, rfl⟩
    have := g3 (i - 2) (by omega)
    have e : (((fun i => b.extract i (i + 1) == #[0]) ∘ fun x => x + 2) (i - 2)) = true := by
      show (b.extract (i - 2 + 2) (i - 2 + 2 + 1) == #[0]) = true
      rw [show i - 2 + 2 = i by omega]
      exact (ext_zero hk (by omega)).mpr hz
    rw [e] at this
    cases this
end

section
/-! ### what a cleartext's marks and separator say -/
/-- where the first 0 from the third octet on stands; or -1 -/
noncomputable def Idx (cl : List Int) (i : Int) : Prop :=
  (∃ j : Nat, 2 ≤ j ∧ cl[j]? = some 0 ∧ (∀ k, 2 ≤ k → k < j → cl[k]? ≠ some 0) ∧ i = (j : Int)) ∨ ((∀ k, 2 ≤ k → k < cl.length → cl[k]? ≠ some 0) ∧ i = -1)
/-- a cleartext that stands: what is behind the separator -/
noncomputable def Clear (cl : List Int) (rs : List Int) : Prop := ∃ mid, cl = 0 :: 2 :: (mid ++ 0 :: rs) ∧ 0 ∉ mid ∧ 8 ≤ mid.length
section
variable {prog : Program} {w : World} {A : Around} {E : Value → Shared → Prop} {s : Shared}
theorem ne_head {b : Array UInt8} {t u : Tok} {cl : List Int} {Q : Value → Shared → Prop} (h1 : KBw.bInts b = cl.take (clipAt cl.length 2)) (h : ∀ z : Bool, (z = false ↔ cl.take 2 = [0, 2]) → Q (.bool z) s) :
    wpAny (model prog w) A (compareOp .NotEq (.bytes b t) (.bytes #[0, 2] u)) Q E s := by
  refine ne_bytes (h _ ?_)
  have e : cl.take (clipAt cl.length 2) = cl.take 2 := by
    rw [show clipAt cl.length 2 = min 2 cl.length from clipAt_nat cl.length 2]
    rcases Nat.le_total 2 cl.length with g | g
    · rw [Nat.min_eq_left g]
    · rw [Nat.min_eq_right g, List.take_of_length_le (Nat.le_refl _), List.take_of_length_le g]
  have h2 : KBw.bInts #[0, 2] = [0, 2] := by decide
  constructor
  · intro g
    have g' : b = #[0, 2] := Array.toList_inj.mp (by simpa using g)
    rw [← e, ← h1, g', h2]
  · intro g
    have g' : b = #[0, 2] := bInts_inj (by rw [h1, e, g, h2])
    rw [g']; rfl
theorem call_findI {b : Array UInt8} {t t2 t3 : Tok} {cl : List Int} {Q : Value → Shared → Prop} (hk : KBw.bInts b = cl) (hb : 3 ≤ cl.length) (h : ∀ i k, Idx cl i → Q (.int i k) { s with toks := k + 1 }) :
    wpAny (model prog w) A (call (.builtin "bytes.find") [.bytes b t, .bytes #[0] t2, .int 2 t3]) Q E s :=
  have hs : 3 ≤ b.size := by rw [← KBw.ints_length, hk]; exact hb
  call_find hs fun k => h _ k (idx0_spec hk hs)
end
theorem mid_get {cl mid rs : List Int} (h : cl = 0 :: 2 :: (mid ++ 0 :: rs)) (k : Nat) (hk : k < mid.length) : cl[k + 2]? = mid[k]? := by
  rw [h, List.getElem?_cons_succ, List.getElem?_cons_succ, List.getElem?_append_left hk]
theorem mid_sep {cl mid rs : List Int} (h : cl = 0 :: 2 :: (mid ++ 0 :: rs)) : cl[mid.length + 2]? = some 0 := by
  rw [h, List.getElem?_cons_succ, List.getElem?_cons_succ, List.getElem?_append_right (Nat.le_refl _), Nat.sub_self]; rfl
theorem idx_at {cl mid rs : List Int} {i : Int} (h : cl = 0 :: 2 :: (mid ++ 0 :: rs)) (hm : 0 ∉ mid) (hi : Idx cl i) : i = (mid.length : Int) + 2 := by
  have hl : mid.length + 2 < cl.length := by rw [h]; simp only [List.length_cons, List.length_append]; omega
  rcases hi with ⟨j, h2, h0, hn, rfl⟩ | ⟨hn, rfl⟩
  · rcases Nat.lt_trichotomy j (mid.length + 2) with g | g | g
    · exfalso
      have := mid_get h (j - 2) (by omega)
      rw [show j - 2 + 2 = j by omega, h0] at this
      exact hm (List.mem_of_getElem? this.symm)
    · omega
    · exact absurd (mid_sep h) (hn _ (by omega) g)
  · exact absurd (mid_sep h) (hn _ (by omega) hl)
theorem clear_drop {cl mid rs : List Int} {i : Int} (h : cl = 0 :: 2 :: (mid ++ 0 :: rs)) (hi : i = (mid.length : Int) + 2) : cl.drop (i + 1).toNat = rs := by
  subst h; subst hi
  rw [show ((mid.length : Int) + 2 + 1).toNat = mid.length + 1 + 1 + 1 by omega, List.drop_succ_cons, List.drop_succ_cons, List.drop_append, Nat.add_sub_cancel_left, List.drop_eq_nil_of_le (Nat.le_succ _), List.nil_append, List.drop_succ_cons, List.drop_zero]
theorem drop_clip {cl : List Int} {i : Int} (h0 : 0 ≤ i) : (cl.drop (clipAt cl.length i)).take (cl.length - clipAt cl.length i) = cl.drop i.toNat := by
  have e := clipAt_cast cl.length i
  rw [if_neg (by omega)] at e
  rw [List.take_of_length_le (by rw [List.length_drop]; exact Nat.le_refl _)]
  rcases Nat.le_total i.toNat cl.length with g | g
  · rw [show clipAt cl.length i = i.toNat by omega]
  · rw [show clipAt cl.length i = cl.length by omega, List.drop_eq_nil_of_le (Nat.le_refl _), List.drop_eq_nil_of_le g]
theorem clear_i {cl rs : List Int} {i : Int} (h : Clear cl rs) (hi : Idx cl i) : cl.take 2 = [0, 2] ∧ 10 ≤ i ∧ cl.drop (i + 1).toNat = rs := by
  obtain ⟨mid, h1, h2, h3⟩ := h
  have e := idx_at h1 h2 hi
  exact ⟨by rw [h1]; rfl, by omega, clear_drop h1 e⟩
theorem Clear.len {cl rs : List Int} (h : Clear cl rs) : rs.length + 11 ≤ cl.length := by
  obtain ⟨mid, h1, h2, h3⟩ := h
  rw [h1]; simp only [List.length_cons, List.length_append]; omega
theorem clear_bad {cl rs : List Int} {i : Int} {z : Bool} (h : Clear cl rs) (hi : Idx cl i) (hz : z = false ↔ cl.take 2 = [0, 2]) (a : (z || decide (i < 10)) = true) : False := by
  obtain ⟨h1, h2, _⟩ := clear_i h hi
  rw [hz.mpr h1, Bool.false_or, decide_eq_true_eq] at a
  omega
theorem clear_cut {cl rs ls : List Int} {i : Int} (h : Clear cl rs) (hi : Idx cl i) (e : ls = (cl.drop (clipAt cl.length (i + 1))).take (cl.length - clipAt cl.length (i + 1))) : ls = rs := by
  obtain ⟨_, h2, h3⟩ := clear_i h hi
  rw [e, drop_clip (by omega), h3]
end

section
/-! ### list.index over octets -/
end

section
open PySem.Calls
section
variable {prog : Program} {w : World} {A A₀ : Around} {s : Shared} {K : Frag} {L : Addr} {h₀ base : Heap} {m mg mb : Str → Option Value} {news rest : List (Addr × Obj)} {p : Program} {loose : List Str} {mean : ExcName → Option Value}
end

/-! ### a key's object -/
set_option genInjectivity false in
set_option genSizeOfSpec false in
/-- what turns of a key's dict: the blinding pair, the tokens -/
structure KD where
  bf : Int
  bi : Int
  k0 : Tok
  k1 : Tok
  k2 : Tok
  k3 : Tok
  k4 : Tok
  k5 : Tok
  k6 : Tok
  k7 : Tok
  k8 : Tok
  k9 : Tok
  v0 : Tok
  v1 : Tok
  v2 : Tok
  v3 : Tok
  v4 : Tok
  v5 : Tok
  v6 : Tok
  v7 : Tok
  v8 : Tok
  v9 : Tok
set_option genInjectivity false in
set_option genSizeOfSpec false in
/-- what stays -/
structure KN where
  n : Int
  e : Int
  d : Int
  p : Int
  q : Int
  e1 : Int
  e2 : Int
  co : Int
noncomputable def keyDict (P : Params) (k : KN) (z : KD) : Obj := dictOf [
  { hash := PyData.keyHash P (Str.ofString "n"), key := .str (Str.ofString "n") z.k0, val := .int k.n z.v0 },
  { hash := PyData.keyHash P (Str.ofString "e"), key := .str (Str.ofString "e") z.k1, val := .int k.e z.v1 },
  { hash := PyData.keyHash P (Str.ofString "blindfac"), key := .str (Str.ofString "blindfac") z.k2, val := .int z.bf z.v2 },
  { hash := PyData.keyHash P (Str.ofString "blindfac_inverse"), key := .str (Str.ofString "blindfac_inverse") z.k3, val := .int z.bi z.v3 },
  { hash := PyData.keyHash P (Str.ofString "d"), key := .str (Str.ofString "d") z.k4, val := .int k.d z.v4 },
  { hash := PyData.keyHash P (Str.ofString "p"), key := .str (Str.ofString "p") z.k5, val := .int k.p z.v5 },
  { hash := PyData.keyHash P (Str.ofString "q"), key := .str (Str.ofString "q") z.k6, val := .int k.q z.v6 },
  { hash := PyData.keyHash P (Str.ofString "exp1"), key := .str (Str.ofString "exp1") z.k7, val := .int k.e1 z.v7 },
  { hash := PyData.keyHash P (Str.ofString "exp2"), key := .str (Str.ofString "exp2") z.k8, val := .int k.e2 z.v8 },
  { hash := PyData.keyHash P (Str.ofString "coef"), key := .str (Str.ofString "coef") z.k9, val := .int k.co z.v9 }] 10
/-- the blinding pair: none yet, or inverse to each other -/
noncomputable def BF (n : Int) (z : KD) : Prop := z.bf < 0 ∨ (0 ≤ z.bf ∧ SBd 3000 z.bi ∧ z.bf * z.bi % n = 1 % n)

/-- a contract of a def that turns a key's dict (of class C), and hands back new objects; lo: what it reads of the caller's -/
noncomputable abbrev KyP (prog : Program) (w : World) (K : Frag) (p : Program) (loose : List Str) (mean : ExcName → Option Value) (mg mb : Str → Option Value) (fa C : Addr) (k : KN) (lo : List (Addr × Obj)) (args : Addr → List Value) (bd : Nat) (Post : Value → List (Addr × Obj) → Prop) : Prop :=
  ∀ (dp un : Nat) (gd : Option (List Code)) (cn : Str) (cs : Scope) (a : Addr) (ccd : Value) (cl : List (Str × Addr)) (outer : List Env) (A₀ : Around) (base h₀ : Heap) (L : Addr) (m : Str → Option Value) (s : Shared) (Q E : Value → Shared → Prop)
    (x d : Addr) (z : KD) (rest : List (Addr × Obj)),
    Below A₀ base outer h₀ → Fr h₀ L s.heap m → K.In h₀ → News h₀ L s.heap [(x, instObj C d), (d, keyDict w.params k z)] → News h₀ L s.heap rest → (∀ q ∈ lo, q ∈ rest) → Top p loose mean mg mb h₀ → cs.kind = .function →
    @Ne Nat x d → (∀ p ∈ rest, p.1 ∉ [(x, instObj C d), (d, keyDict w.params k z)].map (·.1)) → BF k.n z → dp + bd < recursionLimit → un + 10 * bd < cLine →
    (∀ v tl z' h' tk', BF k.n z' → Post v tl → (∀ q ∈ tl, ∀ p ∈ rest, p.1 ≠ q.1) → (∀ q ∈ tl, @Ne Nat x q.1 ∧ @Ne Nat d q.1) → Fr h₀ L h' m → News h₀ L h' (tl ++ (x, instObj C d) :: (d, keyDict w.params k z') :: rest) → Q v { s with heap := h', toks := tk' }) →
    wpAny (model prog w) (ktrTop dp un gd cn cs L a ccd cl outer) (call (.ref fa) (args x)) Q E s
/-- the same of a def that catches, called by the law itself -/
noncomputable abbrev TyP (prog : Program) (w : World) (K : Frag) (p : Program) (loose : List Str) (mean : ExcName → Option Value) (mg mb : Str → Option Value) (fa C : Addr) (k : KN) (lo : List (Addr × Obj)) (args : Addr → List Value) (bd : Nat) (Post : Value → List (Addr × Obj) → Prop) : Prop :=
  ∀ (dp un : Nat) (gd : Option (List Code)) (cn : Str) (cs : Scope) (a : Addr) (ccd : Value) (cl : List (Str × Addr)) (A₀ : Around) (base h₀ : Heap) (L : Addr) (m : Str → Option Value) (s : Shared) (Q E : Value → Shared → Prop)
    (x d : Addr) (z : KD) (rest : List (Addr × Obj)),
    Below A₀ base [] h₀ → Fr h₀ L s.heap m → K.In h₀ → News h₀ L s.heap [(x, instObj C d), (d, keyDict w.params k z)] → News h₀ L s.heap rest → (∀ q ∈ lo, q ∈ rest) → Top p loose mean mg mb h₀ → cs.kind = .function →
    K.In base → Top p loose mean mg mb base →
    @Ne Nat x d → (∀ p ∈ rest, p.1 ∉ [(x, instObj C d), (d, keyDict w.params k z)].map (·.1)) → BF k.n z → dp + bd < recursionLimit → un + 10 * bd < cLine →
    (∀ v tl z' h' tk', BF k.n z' → Post v tl → (∀ q ∈ tl, ∀ p ∈ rest, p.1 ≠ q.1) → (∀ q ∈ tl, @Ne Nat x q.1 ∧ @Ne Nat d q.1) → Fr h₀ L h' m → News h₀ L h' (tl ++ (x, instObj C d) :: (d, keyDict w.params k z') :: rest) → Q v { s with heap := h', toks := tk' }) →
    wpAny (model prog w) (ktrTop dp un gd cn cs L a ccd cl []) (call (.ref fa) (args x)) Q E s
theorem two_canon2 {news : List (Addr × Obj)} {g2 : Obj → List (Addr × Obj)} {x d : Addr} {o1 o2 : Obj} (hx : (x, o1) ∈ news) (hxd : @Ne Nat x d) (U2 : UpdF d o2 news g2) :
    ∃ rest, OwnOff rest [x, d] ∧ (∀ p ∈ (x, o1) :: (d, o2) :: rest, p ∈ news) ∧ (∀ p ∈ news, p.1 ≠ x → p.1 ≠ d → p ∈ rest) ∧ ∀ o2', ∀ p ∈ g2 o2', p.1 ≠ x → p = (d, o2') ∨ p ∈ rest := by
  refine ⟨news.filter (fun p => decide (p.1 ≠ x) && decide (p.1 ≠ d)), ?_, ?_, ?_, ?_⟩
  · intro p hp b hb
    have h := (List.mem_filter.mp hp).2
    simp only [Bool.and_eq_true, decide_eq_true_eq] at h
    rcases List.mem_cons.mp hb with rfl | hb
    · exact h.1
    · rcases List.mem_cons.mp hb with rfl | hb
      · exact h.2
      · cases hb
  · intro p hp
    rcases List.mem_cons.mp hp with rfl | hp
    · exact hx
    · rcases List.mem_cons.mp hp with rfl | hp
      · exact (updF_here (o' := o2) U2).1
      · exact (List.mem_filter.mp hp).1
  · intro p hp h1 h2
    exact List.mem_filter.mpr ⟨hp, by simp [h1, h2]⟩
  · intro o2' p hp h1
    rcases updF_mem U2 p hp with h | ⟨h, hc⟩
    · exact .inl h
    · exact .inr (List.mem_filter.mpr ⟨h, by simp [h1, hc]⟩)
section
variable {prog : Program} {w : World} {K : Frag} {p : Program} {loose : List Str} {mean : ExcName → Option Value} {mg mb : Str → Option Value} {fa : Addr}
  {dp un : Nat} {gd : Option (List Code)} {cn : Str} {cs : Scope} {a : Addr} {ccd : Value} {cl : List (Str × Addr)} {outer : List Env} {A₀ : Around} {base h₀ : Heap} {L : Addr} {m : Str → Option Value} {s : Shared} {Q E : Value → Shared → Prop}
theorem ky_ret {C x d : Addr} {k : KN} {z z' : KD} {news rest tl : List (Addr × Obj)} {g2 : Obj → List (Addr × Obj)} {h' : Heap} {P : Params} (hxn : ∀ p ∈ news, p.1 = x → p = (x, instObj C d)) (U2 : UpdF d (keyDict P k z) news g2) (hxd : @Ne Nat x d)
    (h4 : ∀ o2', ∀ p ∈ g2 o2', p.1 ≠ x → p = (d, o2') ∨ p ∈ rest) (N : News h₀ L h' (tl ++ (x, instObj C d) :: (d, keyDict P k z') :: rest)) : News h₀ L h' (tl ++ g2 (keyDict P k z')) := by
  intro p hp
  refine N p ?_
  rcases List.mem_append.mp hp with h | h
  · exact List.mem_append_left _ h
  · refine List.mem_append_right _ ?_
    by_cases e : p.1 = x
    · rcases updF_mem U2 p h with h5 | ⟨h5, _⟩
      · exact absurd ((congrArg Prod.fst h5).symm.trans e) (fun q => hxd q.symm)
      · rw [hxn p h5 e]; exact List.mem_cons_self
    · rcases h4 _ p h e with h5 | h5
      · rw [h5]; exact List.mem_cons_of_mem _ List.mem_cons_self
      · exact List.mem_cons_of_mem _ (List.mem_cons_of_mem _ h5)
theorem ky_ne {x d : Addr} {o1 o2 : Obj} {news rest tl : List (Addr × Obj)} (h3 : ∀ p ∈ news, p.1 ≠ x → p.1 ≠ d → p ∈ rest) (a3 : ∀ q ∈ tl, ∀ p ∈ rest, p.1 ≠ q.1) (a4 : ∀ q ∈ tl, @Ne Nat x q.1 ∧ @Ne Nat d q.1) : ∀ q ∈ tl, ∀ p ∈ news, p.1 ≠ q.1 := by
  intro q hq p hp
  by_cases e1 : p.1 = x
  · rw [e1]; exact (a4 q hq).1
  · by_cases e2 : p.1 = d
    · rw [e2]; exact (a4 q hq).2
    · exact a3 q hq p (h3 p hp e1 e2)
theorem ky_off {C x d : Addr} {k : KN} {z : KD} {rest : List (Addr × Obj)} {P : Params} (hoff : OwnOff rest [x, d]) : ∀ p ∈ rest, p.1 ∉ [(x, instObj C d), (d, keyDict P k z)].map (·.1) := by
  intro p hp hq
  obtain ⟨q, hq1, hq2⟩ := List.mem_map.mp hq
  rcases List.mem_cons.mp hq1 with rfl | hq1
  · exact hoff p hp x List.mem_cons_self hq2.symm
  · rw [List.mem_singleton.mp hq1] at hq2; exact hoff p hp d (List.mem_cons_of_mem _ List.mem_cons_self) hq2.symm
theorem ky_two {x d : Addr} {o1 o2 : Obj} {news rest : List (Addr × Obj)} (N : News h₀ L s.heap news) (h1 : ∀ p ∈ (x, o1) :: (d, o2) :: rest, p ∈ news) : News h₀ L s.heap [(x, o1), (d, o2)] ∧ News h₀ L s.heap rest := by
  refine ⟨fun p hp => N p (h1 p ?_), fun p hp => N p (h1 p (List.mem_cons_of_mem _ (List.mem_cons_of_mem _ hp)))⟩
  rcases List.mem_cons.mp hp with rfl | hp
  · exact List.mem_cons_self
  · rw [List.mem_singleton.mp hp]; exact List.mem_cons_of_mem _ List.mem_cons_self
theorem KyP.use {C x d : Addr} {k : KN} {z : KD} {lo news : List (Addr × Obj)} {args : Addr → List Value} {bd : Nat} {Post : Value → List (Addr × Obj) → Prop} {g2 : Obj → List (Addr × Obj)}
    (H : KyP prog w K p loose mean mg mb fa C k lo args bd Post)
    (B : Below A₀ base outer h₀) (F : Fr h₀ L s.heap m) (X : K.In h₀) (N : News h₀ L s.heap news) (T : Top p loose mean mg mb h₀) (hk : cs.kind = .function)
    (hx : (x, instObj C d) ∈ news) (hxd : @Ne Nat x d) (U2 : UpdF d (keyDict w.params k z) news g2) (hlo : ∀ q ∈ lo, q ∈ news ∧ @Ne Nat q.1 x ∧ @Ne Nat q.1 d) (hb : BF k.n z) (hd : dp + bd < recursionLimit) (hu : un + 10 * bd < cLine)
    (ret : ∀ v tl z' h' tk', BF k.n z' → Post v tl → (∀ q ∈ tl, ∀ p ∈ news, p.1 ≠ q.1) → Fr h₀ L h' m → News h₀ L h' (tl ++ g2 (keyDict w.params k z')) → Q v { s with heap := h', toks := tk' }) :
    wpAny (model prog w) (ktrTop dp un gd cn cs L a ccd cl outer) (call (.ref fa) (args x)) Q E s := by
  obtain ⟨rest, hoff, h1, h3, h4⟩ := two_canon2 hx hxd U2
  obtain ⟨N1, N2⟩ := ky_two N h1
  refine H dp un gd cn cs a ccd cl outer A₀ base h₀ L m s Q E x d z rest B F X N1 N2 (fun q hq => h3 q (hlo q hq).1 (hlo q hq).2.1 (hlo q hq).2.2) T hk hxd (ky_off hoff) hb hd hu
    fun v tl z' h' tk' a1 a2 a3 a4 a5 a6 => ret v tl z' h' tk' a1 a2 (ky_ne (o1 := instObj C d) (o2 := instObj C d) h3 a3 a4) a5 (ky_ret (fun p hp e => ?_) U2 hxd h4 a6)
  have q1 := (N p hp).1
  have q2 := (N _ hx).1
  rw [e, q2] at q1
  exact Prod.ext e (Option.some.inj q1).symm
theorem TyP.use {C x d : Addr} {k : KN} {z : KD} {lo news : List (Addr × Obj)} {args : Addr → List Value} {bd : Nat} {Post : Value → List (Addr × Obj) → Prop} {g2 : Obj → List (Addr × Obj)}
    (H : TyP prog w K p loose mean mg mb fa C k lo args bd Post)
    (B : Below A₀ base [] h₀) (F : Fr h₀ L s.heap m) (X : K.In h₀) (N : News h₀ L s.heap news) (T : Top p loose mean mg mb h₀) (hk : cs.kind = .function) (XB : K.In base) (TB : Top p loose mean mg mb base)
    (hx : (x, instObj C d) ∈ news) (hxd : @Ne Nat x d) (U2 : UpdF d (keyDict w.params k z) news g2) (hlo : ∀ q ∈ lo, q ∈ news ∧ @Ne Nat q.1 x ∧ @Ne Nat q.1 d) (hb : BF k.n z) (hd : dp + bd < recursionLimit) (hu : un + 10 * bd < cLine)
    (ret : ∀ v tl z' h' tk', BF k.n z' → Post v tl → (∀ q ∈ tl, ∀ p ∈ news, p.1 ≠ q.1) → Fr h₀ L h' m → News h₀ L h' (tl ++ g2 (keyDict w.params k z')) → Q v { s with heap := h', toks := tk' }) :
    wpAny (model prog w) (ktrTop dp un gd cn cs L a ccd cl []) (call (.ref fa) (args x)) Q E s := by
  obtain ⟨rest, hoff, h1, h3, h4⟩ := two_canon2 hx hxd U2
  obtain ⟨N1, N2⟩ := ky_two N h1
  refine H dp un gd cn cs a ccd cl A₀ base h₀ L m s Q E x d z rest B F X N1 N2 (fun q hq => h3 q (hlo q hq).1 (hlo q hq).2.1 (hlo q hq).2.2) T hk XB TB hxd (ky_off hoff) hb hd hu
    fun v tl z' h' tk' a1 a2 a3 a4 a5 a6 => ret v tl z' h' tk' a1 a2 (ky_ne (o1 := instObj C d) (o2 := instObj C d) h3 a3 a4) a5 (ky_ret (fun p hp e => ?_) U2 hxd h4 a6)
  have q1 := (N p hp).1
  have q2 := (N _ hx).1
  rw [e, q2] at q1
  exact Prod.ext e (Option.some.inj q1).symm
theorem KyP.use2 {C x d : Addr} {k : KN} {z : KD} {lo news : List (Addr × Obj)} {args : Addr → List Value} {bd : Nat} {Post : Value → List (Addr × Obj) → Prop} {g2 : Obj → List (Addr × Obj)}
    (B : Below A₀ base outer h₀) (F : Fr h₀ L s.heap m) (X : K.In h₀) (N : News h₀ L s.heap news) (T : Top p loose mean mg mb h₀) (hk : cs.kind = .function)
    (hx : (x, instObj C d) ∈ news) (hxd : @Ne Nat x d) (U2 : UpdF d (keyDict w.params k z) news g2) (hb : BF k.n z) (hlo : ∀ q ∈ lo, q ∈ news ∧ @Ne Nat q.1 x ∧ @Ne Nat q.1 d) (H : KyP prog w K p loose mean mg mb fa C k lo args bd Post) (hd : dp + bd < recursionLimit) (hu : un + 10 * bd < cLine)
    (ret : ∀ v tl z' h' tk', BF k.n z' → Post v tl → (∀ q ∈ tl, ∀ p ∈ news, p.1 ≠ q.1) → Fr h₀ L h' m → News h₀ L h' (tl ++ g2 (keyDict w.params k z')) → Q v { s with heap := h', toks := tk' }) :
    wpAny (model prog w) (ktrTop dp un gd cn cs L a ccd cl outer) (call (.ref fa) (args x)) Q E s := H.use B F X N T hk hx hxd U2 hlo hb hd hu ret
theorem TyP.use2 {C x d : Addr} {k : KN} {z : KD} {lo news : List (Addr × Obj)} {args : Addr → List Value} {bd : Nat} {Post : Value → List (Addr × Obj) → Prop} {g2 : Obj → List (Addr × Obj)}
    (B : Below A₀ base [] h₀) (F : Fr h₀ L s.heap m) (X : K.In h₀) (N : News h₀ L s.heap news) (T : Top p loose mean mg mb h₀) (hk : cs.kind = .function) (XB : K.In base) (TB : Top p loose mean mg mb base)
    (hx : (x, instObj C d) ∈ news) (hxd : @Ne Nat x d) (U2 : UpdF d (keyDict w.params k z) news g2) (hb : BF k.n z) (hlo : ∀ q ∈ lo, q ∈ news ∧ @Ne Nat q.1 x ∧ @Ne Nat q.1 d) (H : TyP prog w K p loose mean mg mb fa C k lo args bd Post) (hd : dp + bd < recursionLimit) (hu : un + 10 * bd < cLine)
    (ret : ∀ v tl z' h' tk', BF k.n z' → Post v tl → (∀ q ∈ tl, ∀ p ∈ news, p.1 ≠ q.1) → Fr h₀ L h' m → News h₀ L h' (tl ++ g2 (keyDict w.params k z')) → Q v { s with heap := h', toks := tk' }) :
    wpAny (model prog w) (ktrTop dp un gd cn cs L a ccd cl []) (call (.ref fa) (args x)) Q E s := H.use B F X N T hk XB TB hx hxd U2 hlo hb hd hu ret
/-- what a callee hands back, at its end: its own objects, the key's two, the caller's rest -/
theorem ky_end {h' : Heap} {x d : Addr} {o1 o2 : Obj} {tl rest full : List (Addr × Obj)} (N : News h₀ L h' full) (hx : (x, o1) ∈ full) (hd : (d, o2) ∈ full) (ht : ∀ q ∈ tl, q ∈ full) (M : News h₀ L h' rest) : News h₀ L h' (tl ++ (x, o1) :: (d, o2) :: rest) := by
  intro p hp
  rcases List.mem_append.mp hp with h | h
  · exact N p (ht p h)
  · rcases List.mem_cons.mp h with rfl | h
    · exact N _ hx
    · rcases List.mem_cons.mp h with rfl | h
      · exact N _ hd
      · exact M p h
end
end

section
open PySem.Calls
/-! ### ways that meet -/
section
variable {prog : Program} {w : World} {A : Around} {s : Shared} {L : Addr} {h₀ : Heap} {m : Str → Option Value} {news : List (Addr × Obj)} {E : Value → Shared → Prop}
theorem ld_env {x : Str} {pos : Pos} {v : Value} {Q : Value → Shared → Prop} {C f : Addr} {cdv : Value} {qual : Str} {scope : Scope} (F : Fr h₀ C s.heap m) (hv : m x = some v) (h : Q v s)
    (hk : scope.kind = .function := by rfl) (hl : (envOf qual scope C f cdv).kindOf x = some .local := by rfl) (hd : (x == ("__debug__" : Str)) = false := by decide) :
    wpAny (model prog w) A (eval (.Name x pos) (envOf qual scope C f cdv)) Q E s := wpAny_Name (wpAny_loadName_local hk hl F.ns hv h) hd
theorem news_less {h : Heap} {x : Addr × Obj} (N : News h₀ L h (x :: news)) : News h₀ L h news := fun p hp => N p (List.mem_cons_of_mem _ hp)
end
end

section
/-! ### a blinded power, by the two primes apart -/
noncomputable def bdec (n e p q x1 x2 co y b c : Int) : Int :=
  Int.fmod (c * (pmod (Int.fmod (y * pmod b e n) n) x2 q + q * Int.fmod ((pmod (Int.fmod (y * pmod b e n) n) x1 p - pmod (Int.fmod (y * pmod b e n) n) x2 q) * co) p)) n
theorem mc_mul {a b c d n : Int} (h1 : a % n = b % n) (h2 : c % n = d % n) : (a * c) % n = (b * d) % n := by rw [Int.mul_emod, h1, h2, ← Int.mul_emod]
theorem mc_add {a b c d n : Int} (h1 : a % n = b % n) (h2 : c % n = d % n) : (a + c) % n = (b + d) % n := by rw [Int.add_emod, h1, h2, ← Int.add_emod]
theorem mc_pow {a b n : Int} (h : a % n = b % n) (k : Nat) : a ^ k % n = b ^ k % n := by rw [← emod_pow, h, emod_pow]
theorem fm_nat {P a r k : Nat} (hp : Num.Pr P) (hr : 1 ≤ r) : a ^ (r + k * (P - 1)) % P = a ^ r % P := by
  have e1 : r + k * (P - 1) = (r - 1) + (1 + k * (P - 1)) := by omega
  have e2 : r = (r - 1) + 1 := by omega
  rw [e1, Nat.pow_add, Nat.mul_mod, Num.fermat_more hp, ← Nat.mul_mod]
  conv => rhs; rw [e2, Nat.pow_succ]
theorem fm_int {P : Nat} {a d : Int} (hp : Num.Pr P) (ha : 0 ≤ a) (hd : 0 ≤ d) (h1 : 1 ≤ d.fmod ((P : Int) - 1)) : pmod a (d.fmod ((P : Int) - 1)) (P : Int) = a ^ d.toNat % (P : Int) := by
  have h2 := hp.1
  rw [Int.fmod_eq_emod_of_nonneg _ (by omega)] at h1 ⊢
  obtain ⟨a, rfl⟩ := Int.eq_ofNat_of_zero_le ha
  obtain ⟨d, rfl⟩ := Int.eq_ofNat_of_zero_le hd
  have e : (d : Int) % ((P : Int) - 1) = ((d % (P - 1) : Nat) : Int) := by rw [Int.natCast_emod, Int.natCast_sub (by omega)]; rfl
  rw [e] at h1 ⊢
  unfold pmod
  rw [Int.toNat_natCast, Int.toNat_natCast, ← Int.natCast_pow, ← Int.natCast_pow, ← Int.natCast_emod, ← Int.natCast_emod]
  congr 1
  have := fm_nat (P := P) (a := a) (r := d % (P - 1)) (k := d / (P - 1)) hp (by omega)
  rw [← this]
  congr 2
  have := Nat.mod_add_div d (P - 1)
  rw [Nat.mul_comm]; omega
theorem crt_int {P Q : Nat} {a b : Int} (c : Nat.Coprime P Q) (ha : 0 ≤ a) (hb : 0 ≤ b) (h1 : a % (P : Int) = b % (P : Int)) (h2 : a % (Q : Int) = b % (Q : Int)) : a % ((P : Int) * Q) = b % ((P : Int) * Q) := by
  obtain ⟨a, rfl⟩ := Int.eq_ofNat_of_zero_le ha
  obtain ⟨b, rfl⟩ := Int.eq_ofNat_of_zero_le hb
  rw [← Int.natCast_emod, ← Int.natCast_emod] at h1 h2
  rw [← Int.natCast_mul, ← Int.natCast_emod, ← Int.natCast_emod, Num.crt c (Int.ofNat.inj h1) (Int.ofNat.inj h2)]
theorem rsa_any {P Q : Nat} {e d b : Int} (hp : Num.Pr P) (hq : Num.Pr Q) (hne : P ≠ Q) (he : 0 ≤ e) (hd : 0 ≤ d) (hed : e.toNat * d.toNat % ((P - 1) * (Q - 1)) = 1) (hb : 0 ≤ b) : (b ^ e.toNat) ^ d.toNat % ((P : Int) * Q) = b % ((P : Int) * Q) := by
  have hP := hp.1
  have hQ := hq.1
  obtain ⟨X, hX⟩ := Int.eq_ofNat_of_zero_le (Int.emod_nonneg b (show ((P : Int) * Q) ≠ 0 from Int.mul_ne_zero (by omega) (by omega)))
  have hlt : X < P * Q := by
    have := Int.emod_lt_of_pos b (show (0 : Int) < (P : Int) * Q from Int.mul_pos (by omega) (by omega))
    rw [hX, ← Int.natCast_mul] at this
    exact Int.ofNat_lt.mp this
  have r := Num.rsa hp hq hne hed hlt
  rw [← Int.pow_mul, ← emod_pow, hX, ← Int.natCast_mul, ← Int.natCast_pow, ← Int.natCast_emod, r]
theorem bdec_eq {P Q : Nat} {e d co y b c : Int} (hp : Num.Pr P) (hq : Num.Pr Q) (hne : P ≠ Q) (he : 0 ≤ e) (hd : 0 ≤ d) (hed : e.toNat * d.toNat % ((P - 1) * (Q - 1)) = 1)
    (h1 : 1 ≤ d.fmod ((P : Int) - 1)) (h2 : 1 ≤ d.fmod ((Q : Int) - 1)) (hco : (Q : Int) * co % (P : Int) = 1 % (P : Int)) (hy : 0 ≤ y) (hb : 0 ≤ b) (hbc : b * c % ((P : Int) * Q) = 1 % ((P : Int) * Q)) :
    bdec ((P : Int) * Q) e P Q (d.fmod ((P : Int) - 1)) (d.fmod ((Q : Int) - 1)) co y b c = pmod y d ((P : Int) * Q) := by
  have hP := hp.1
  have hQ := hq.1
  have hn : (0 : Int) < (P : Int) * Q := Int.mul_pos (by omega) (by omega)
  unfold bdec
  generalize hbl : Int.fmod (y * pmod b e ((P : Int) * Q)) ((P : Int) * Q) = bl
  have hbl0 : 0 ≤ bl := by rw [← hbl]; exact Int.fmod_nonneg_of_pos _ hn
  have hblm : bl % ((P : Int) * Q) = (y * b ^ e.toNat) % ((P : Int) * Q) := by
    rw [← hbl, Int.fmod_eq_emod_of_nonneg _ (Int.le_of_lt hn), Int.emod_emod]
    exact mc_mul rfl (by unfold pmod; rw [Int.emod_emod])
  rw [fm_int hp hbl0 hd h1, fm_int hq hbl0 hd h2]
  have hs1 := Int.emod_nonneg (bl ^ d.toNat) (show (P : Int) ≠ 0 by omega)
  have hs2 := Int.emod_nonneg (bl ^ d.toNat) (show (Q : Int) ≠ 0 by omega)
  generalize hh : Int.fmod ((bl ^ d.toNat % (P : Int) - bl ^ d.toNat % (Q : Int)) * co) (P : Int) = h
  have hh0 : 0 ≤ h := by rw [← hh]; exact Int.fmod_nonneg_of_pos _ (by omega)
  have hdec0 : 0 ≤ bl ^ d.toNat % (Q : Int) + (Q : Int) * h := Int.add_nonneg hs2 (Int.mul_nonneg (by omega) hh0)
  have hdQ : (bl ^ d.toNat % (Q : Int) + (Q : Int) * h) % (Q : Int) = bl ^ d.toNat % (Q : Int) := by
    rw [Int.add_mul_emod_self_left, Int.emod_emod]
  have hdP : (bl ^ d.toNat % (Q : Int) + (Q : Int) * h) % (P : Int) = bl ^ d.toNat % (P : Int) := by
    have e1 : ((Q : Int) * h) % (P : Int) = (bl ^ d.toNat % (P : Int) - bl ^ d.toNat % (Q : Int)) % (P : Int) := by
      rw [← hh, Int.fmod_eq_emod_of_nonneg _ (by omega)]
      have e2 : ((Q : Int) * ((bl ^ d.toNat % (P : Int) - bl ^ d.toNat % (Q : Int)) * co % (P : Int))) % (P : Int) = ((Q : Int) * ((bl ^ d.toNat % (P : Int) - bl ^ d.toNat % (Q : Int)) * co)) % (P : Int) := mc_mul rfl (Int.emod_emod ..)
      rw [e2]
      generalize bl ^ d.toNat % (P : Int) - bl ^ d.toNat % (Q : Int) = D
      have e3 : (Q : Int) * (D * co) = ((Q : Int) * co) * D := by rw [Int.mul_comm D co, Int.mul_assoc]
      rw [e3, mc_mul hco (rfl : D % (P : Int) = D % (P : Int)), Int.one_mul]
    rw [mc_add (rfl : bl ^ d.toNat % (Q : Int) % (P : Int) = _) e1]
    have e4 : bl ^ d.toNat % (Q : Int) + (bl ^ d.toNat % (P : Int) - bl ^ d.toNat % (Q : Int)) = bl ^ d.toNat % (P : Int) := by omega
    rw [e4, Int.emod_emod]
  have hdec := crt_int (hp.ne_cop hq hne) hdec0 (Int.pow_nonneg hbl0) hdP hdQ
  rw [Int.fmod_eq_emod_of_nonneg _ (Int.le_of_lt hn)]
  unfold pmod
  have k1 : (c * (bl ^ d.toNat % (Q : Int) + (Q : Int) * h)) % ((P : Int) * Q) = (c * bl ^ d.toNat) % ((P : Int) * Q) := mc_mul rfl hdec
  have k2 : bl ^ d.toNat % ((P : Int) * Q) = (y ^ d.toNat * b) % ((P : Int) * Q) := by
    rw [mc_pow hblm, Int.mul_pow]
    exact mc_mul rfl (rsa_any hp hq hne he hd hed hb)
  rw [k1, mc_mul (rfl : c % ((P : Int) * Q) = _) k2]
  have k3 : c * (y ^ d.toNat * b) = (b * c) * y ^ d.toNat := by rw [Int.mul_comm (y ^ d.toNat) b, ← Int.mul_assoc, Int.mul_comm c b]
  rw [k3, mc_mul hbc (rfl : y ^ d.toNat % ((P : Int) * Q) = _), Int.one_mul]
theorem pmod_Bd {k : Nat} {x e n : Int} (h1 : 1 ≤ n) (hb : Bd k n) : Bd k (pmod x e n) := let ⟨p0, p1⟩ := pmod_nn (x := x) (e := e) h1; ⟨p0, Int.lt_trans p1 hb.2⟩
theorem fmod_Bd {k : Nat} {x n : Int} (h1 : 1 ≤ n) (hb : Bd k n) : Bd k (Int.fmod x n) := ⟨fmod_lo h1, Int.lt_trans (fmod_hi h1) hb.2⟩
/-- what a private key keeps -/
structure KOk (k : KN) : Prop where
  h0 : 0 ≤ k.n
  h1 : 1 ≤ k.n
  hnb : Bd 1300 k.n
  hg : Int.gcd k.n 2 = 1
  he : 0 ≤ k.e
  hp1 : 1 ≤ k.p
  hq1 : 1 ≤ k.q
  hpb : Bd 610 k.p
  hqb : Bd 610 k.q
  hx1 : 0 ≤ k.e1
  hx2 : 0 ≤ k.e2
  hco : SBd 3000 k.co
  hD : ∀ y b c, 0 ≤ y → 0 ≤ b → b * c % k.n = 1 % k.n → bdec k.n k.e k.p k.q k.e1 k.e2 k.co y b c = pmod y k.d k.n
end

section
/-! ### an octet turned -/
theorem set_octs {ks : List Int} {i : Nat} {x : Int} (h : Octs ks) (x0 : 0 ≤ x) (x1 : x < 256) : Octs (ks.set i x) := fun k hk => by
  rcases List.mem_or_eq_of_mem_set hk with h1 | h1
  · exact h k h1
  · rw [h1]; exact ⟨x0, x1⟩
end

section
/-! ### a public key's object; rows that are the same -/
noncomputable def PubD (od : Obj) (nn ee : Int) : Prop := ∃ es m t1 t2, od = dictOf es m ∧ getL (Str.ofString "n") es = some (some (.int nn t1)) ∧ getL (Str.ofString "e") es = some (some (.int ee t2))
theorem pub_of {C : Addr} {h₀ h : Heap} {L x d : Addr} {od : Obj} {news : List (Addr × Obj)} {nn ee : Int} (N : News h₀ L h news) (h1 : (x, instObj C d) ∈ news) (h2 : (d, od) ∈ news) (ho : PubD od nn ee) : PubAt C h x nn ee := by
  obtain ⟨es, m, t1, t2, rfl, g1, g2⟩ := ho
  exact ⟨d, es, m, t1, t2, InstAt.of_news N h1 h2, g1, g2⟩
theorem pubd_abs {h₀ h : Heap} {L x d C : Addr} {more : List (Addr × Obj)} {rest : List DictEntry} {m : Nat} {h1 h2 : Int} {k1 k2 t1 t2 : Tok} {nn ee : Int}
    (N : News h₀ L h ((x, instObj C d) :: (d, dictOf ({ hash := h1, key := .str (Str.ofString "n") k1, val := .int nn t1 } :: { hash := h2, key := .str (Str.ofString "e") k2, val := .int ee t2 } :: rest) m) :: more)) : ∃ od, PubD od nn ee ∧ News h₀ L h ((x, instObj C d) :: (d, od) :: more) :=
  ⟨_, ⟨_, _, _, _, rfl, by first | rfl | kernel_rfl, by first | rfl | kernel_rfl⟩, N⟩
/-- the octets of a number, written with a size of their own -/
theorem short_facts {y z m : Int} (h0 : 0 ≤ y) (h1 : y < 256 ^ m.toNat) (hm : 1 ≤ m) (hz : z = osz y) : ∃ k : Int, k = max 1 z ∧ 1 ≤ k ∧ k ≤ m ∧ y < 256 ^ k.toNat := by
  refine ⟨_, rfl, by omega, ?_, ?_⟩
  · have hb : SBd (8 * m.toNat) y := by
      unfold SBd
      have h2 : y.toNat < 256 ^ m.toNat := by
        have : ((y.toNat : Nat) : Int) < ((256 ^ m.toNat : Nat) : Int) := by rw [Int.toNat_of_nonneg h0, Int.natCast_pow]; exact h1
        exact Int.ofNat_lt.mp this
      rw [show (2 : Nat) ^ (8 * m.toNat) = 256 ^ m.toNat by rw [Nat.pow_mul]]
      omega
    have := osz_bd hb
    omega
  · have h2 := osz_hi h0
    rw [← hz] at h2
    rcases Int.le_total z 1 with g | g
    · have : y < 256 := by
        by_cases g0 : z = 1
        · rw [g0] at h2; exact h2
        · have : z.toNat = 0 := by omega
          rw [this] at h2
          omega
      rw [show max 1 z = 1 by omega]; exact this
    · rw [show max 1 z = z by omega]; exact h2
end

section
set_option maxRecDepth 100000 in
set_option maxHeartbeats 8000000 in
theorem cell_c {prog : Program} {w : World} {p : Program} {loose mean mg mb} {l : Addr} {ws : List Value} {ks : List Int} {k : Int} {tk : Tok} (hI : IntsAre ws ks) (hs : Scr ks) (hlen : ks.length ≤ 63) (hk : 0 ≤ k) (hk2 : k < 1000) :
    PuP prog w (hd.heap_1 w.params) p loose mean mg mb 293 [.ref l, .int k tk] 10 (fun h => h.IsList l ws.toArray)
      (fun v tl => ∃ r t, v = .int r t ∧ Bd 1048580 r ∧ tl = []) := by
  w_top off
  k_with_none
  intro dp un gd cn cs a ccd cl outer A₀ base h₀ L m s Q E news B F X N T hk hP hd hu ret
  refine wpAny_call ?_
  k_dflt (refine' code_defP ?k1 ?k2 ?k3 ?k4 ?k5 ?kA ?kF ?kK ?k6 ?k7 ?k8 ?k9 ?kB ?_ ?c2 ?c3 ?c4 ?c5; (case kA => exact rfl); (case kF => exact rfl); (case kK => assumption); (case k1 => k_asm); (case k2 => k_asm); (case k3 => k_asm); (case k4 => k_asm); (case k5 => k_asm); (case k6 => k_is); (case k7 => k_is); (case k8 => ktr_room); (case k9 => exact BindsTo.of_eq rfl); (case c5 => decide); (case kB => exact locs rfl); (case c2 => exact rfl); (case c3 => exact rfl); (case c4 => exact rfl); k_whole; intro g' L' h' hg' hlow' FG' F' N' B' X' T'; (try dsimp only); (try k_lift B'); (try k_fold))
  have hL : g'.IsList l ws.toArray := hg' ▸ hP
  k_steps
  all_goals ((rename Fr h₀ L _ m => kF); (rename News h₀ L _ news => hN9))
  · exact ret _ [] _ _ ⟨_, _, rfl, hs.cell _, rfl⟩ (fun q hq => nomatch hq) kF hN9
  · exact ret _ [] _ _ ⟨_, _, rfl, Bd.mono (Bd.lit (by omega) (by omega)) (by decide), rfl⟩ (fun q hq => nomatch hq) kF hN9
end

section
set_option maxRecDepth 100000 in
set_option maxHeartbeats 8000000 in
theorem common_c {prog : Program} {w : World} {p : Program} {loose mean mg mb} {x y : Int} {tx ty : Tok} (hx : Bd 1300 x) (hy : Bd 1300 y) :
    PuP prog w (hd.heap_1 w.params) p loose mean mg mb 307 [.int x tx, .int y ty] 10 (fun h => True)
      (fun v tl => ∃ r t, v = .int r t ∧ r = (Int.gcd x y : Int) ∧ tl = []) := by
  w_top off
  k_with_none
  (k_with "pyIter ref" => ((rename LoopStop => hLs'7); refine Stop.here ?_))
  (k_with "JPost" => (dsimp only [JPost]))
  intro dp un gd cn cs a ccd cl outer A₀ base h₀ L m s Q E news B F X N T hk hP hd hu ret
  refine wpAny_call ?_
  k_dflt (refine' code_defP ?k1 ?k2 ?k3 ?k4 ?k5 ?kA ?kF ?kK ?k6 ?k7 ?k8 ?k9 ?kB ?_ ?c2 ?c3 ?c4 ?c5; (case kA => exact rfl); (case kF => exact rfl); (case kK => assumption); (case k1 => k_asm); (case k2 => k_asm); (case k3 => k_asm); (case k4 => k_asm); (case k5 => k_asm); (case k6 => k_is); (case k7 => k_is); (case k8 => ktr_room); (case k9 => exact BindsTo.of_eq rfl); (case c5 => decide); (case kB => exact locs rfl); (case c2 => exact rfl); (case c3 => exact rfl); (case c4 => exact rfl); k_whole; intro g' L' h' hg' hlow' FG' F' N' B' X' T'; (try dsimp only); (try k_lift B'); (try k_fold))
  have hstop : LoopStop := {}
  k_steps
  refine Stop.go ?_
  rename Fr _ _ _ _ => lF
  rename IsRange _ _ _ _ _ _ _ _ => rgX
  with_unfolding_all refine' (j_range (σ := Int × Tok × Int × Tok) (fun _ => []) (fun z => [(Str.ofString "one", .int z.1 z.2.1), (Str.ofString "two", .int z.2.2.1 z.2.2.2)]) []
    (fun i z => EG x y i z.1 z.2.2.1) ⟨_, _, _, _⟩ (by rfl) rgX (by decide) (n := 5000) rfl lF ?kn ?kk ?kp ?_ ?_)
  case kn => exact News.nil
  case kk => kst_all
  case kp => exact EG.start hx.1 hy.1
  all_goals (clear lF rgX)
  · rintro ⟨a0, t0, a1, t1⟩ ii k t u h tk I oI hk' hi hE hoff2 F' N'
    dsimp only [kstB] at hE hoff2 F' N'
    k_steps
    · (rename Fr h₀ L _ m => kF); (rename News h₀ L _ news => hN9)
      exact ret _ [] _ _ ⟨_, _, rfl, hE.fin (by assumption), rfl⟩ (fun q hq => nomatch hq) kF hN9
    · refine' jend ⟨_, _, _, _⟩ ?jq1 ?jq2 ?jq3 ?jq4 ?jq5 ?jq6 ?jq7 ?jq8
      case jq1 => set_option maxHeartbeats 400000 in (first | assumption | fail "F")
      case jq2 => set_option maxHeartbeats 400000 in (first | assumption | fail "N")
      case jq3 => set_option maxHeartbeats 400000 in (first | kst_in | fail "in")
      case jq4 => set_option maxHeartbeats 400000 in (first | kst_entry | fail "entry")
      case jq5 => set_option maxHeartbeats 400000 in (first | k_all | fail "all")
      case jq6 => set_option maxHeartbeats 400000 in (first | kst_all | fail "names")
      case jq7 => set_option maxHeartbeats 400000 in (first | kst_same | ((try simp only [List.cons_append, List.nil_append]); kst_same) | fail "same")
      case jq8 => exact hE.step (by assumption)

  · rintro ⟨a0, t0, a1, t1⟩ u h tk hE F' N'
    dsimp only [kstB] at hE F' N'
    k_steps
    (rename Fr h₀ L _ m => kF); (rename News h₀ L _ news => hN9)
    exact ret _ [] _ _ ⟨_, _, rfl, hE.fin (hE.stop hx hy), rfl⟩ (fun q hq => nomatch hq) kF hN9
set_option maxRecDepth 100000 in
set_option maxHeartbeats 8000000 in
theorem inverse_c {prog : Program} {w : World} {p : Program} {loose mean mg mb} {x y : Int} {tx ty : Tok} (hx : Bd 1300 x) (hy : Bd 1300 y) (h0 : 0 < y) (hg : Int.gcd x y = 1) :
    PuP prog w (hd.heap_1 w.params) p loose mean mg mb 314 [.int x tx, .int y ty] 10 (fun h => True)
      (fun v tl => ∃ r t, v = .int r t ∧ 0 ≤ r ∧ r < y ∧ x * r % y = 1 % y ∧ tl = []) := by
  (k_with "binaryOp FloorDiv int int" => (k_here; k_dflt (refine' floordiv_int (by assumption) ?_ (Or.inl (PyProof.noPylong_of_log2 (SBd.log2 (by assumption) (by assumption) (by decide)))))))
  (k_with "binaryOp Mult int int" => (k_here; k_dflt (refine' mul_int ?_ (mulOk (k := 1303 + 2) (l := 1303) (by exact fdiv_sbd (by assumption) (by assumption)) (by assumption) (by decide)))))
  intro dp un gd cn cs a ccd cl outer A₀ base h₀ L m s Q E news B F X N T hk hP hd hu ret
  refine wpAny_call ?_
  k_dflt (refine' code_defP ?k1 ?k2 ?k3 ?k4 ?k5 ?kA ?kF ?kK ?k6 ?k7 ?k8 ?k9 ?kB ?_ ?c2 ?c3 ?c4 ?c5; (case kA => exact rfl); (case kF => exact rfl); (case kK => assumption); (case k1 => k_asm); (case k2 => k_asm); (case k3 => k_asm); (case k4 => k_asm); (case k5 => k_asm); (case k6 => k_is); (case k7 => k_is); (case k8 => ktr_room); (case k9 => exact BindsTo.of_eq rfl); (case c5 => decide); (case kB => exact locs rfl); (case c2 => exact rfl); (case c3 => exact rfl); (case c4 => exact rfl); k_whole; intro g' L' h' hg' hlow' FG' F' N' B' X' T'; (try dsimp only); (try k_lift B'); (try k_fold))
  have hy0 : y ≠ 0 := by omega
  have hm : Bd 1300 (Int.fmod x y) := ⟨fmod_lo (by omega), Int.lt_trans (fmod_hi (by omega)) hy.2⟩
  have hstop : LoopStop := {}
  k_steps
  refine Stop.go ?_
  rename Fr _ _ _ _ => lF
  rename IsRange _ _ _ _ _ _ _ _ => rgX
  with_unfolding_all refine' (j_range2 (σ := (Int × Int × Int × Int) × (Tok × Tok × Tok × Tok) × (Int × Tok)) (fun _ => []) (fun z => [(Str.ofString "old", .int z.1.1 z.2.1.1), (Str.ofString "new", .int z.1.2.2.1 z.2.1.2.2.1), (Str.ofString "first", .int z.1.2.1 z.2.1.2.1), (Str.ofString "second", .int z.1.2.2.2 z.2.1.2.2.2)])
    (fun z => [(Str.ofString "times", .int z.2.2.1 z.2.2.2)]) [Str.ofString "times"]
    (fun i z => EC y (Int.fmod x y) i z.1.1 z.1.2.1 z.1.2.2.1 z.1.2.2.2) ⟨⟨_, _, _, _⟩, ⟨_, _, _, _⟩, ⟨0, 0⟩⟩ ?ksub (Nat.succ_pos _) (by rfl) rgX (by decide) (n := 5000) rfl lF ?kn ?kk ?kp ?_ ?_)
  case kn => exact News.nil
  case kk => kst_all
  case kp => exact EC.start hy.1 hm.1
  case ksub => rintro x q hq; (rcases List.mem_cons.mp hq with rfl | hq; (· rfl); (· cases hq))
  all_goals (clear lF rgX)
  · rintro ⟨⟨a0, c0, a1, c1⟩, ⟨t0, u0, t1, u1⟩, ⟨q, tq⟩⟩ ii k t u h tk I oI hk' hi hE hoff2 F' N'
    dsimp only [kstB] at hE hoff2 F' N'
    obtain ⟨s1, s2, s3, s4⟩ := hE.size hy hm
    k_steps
    · (rename Fr h₀ L _ m => kF); (rename News h₀ L _ news => hN9)
      exact ret _ [] _ _ ⟨_, _, rfl, fmod_lo (by omega), fmod_hi (by omega), hE.inv hx.1 h0 hg (by assumption), rfl⟩ (fun q hq => nomatch hq) kF hN9
    · refine' jend ⟨⟨_, _, _, _⟩, ⟨_, _, _, _⟩, ⟨_, _⟩⟩ ?jq1 ?jq2 ?jq3 ?jq4 ?jq5 ?jq6 ?jq7 ?jq8
      case jq1 => set_option maxHeartbeats 400000 in (first | assumption | fail "F")
      case jq2 => set_option maxHeartbeats 400000 in (first | assumption | fail "N")
      case jq3 => set_option maxHeartbeats 400000 in (first | kst_in | fail "in")
      case jq4 => set_option maxHeartbeats 400000 in (first | kst_entry | fail "entry")
      case jq5 => set_option maxHeartbeats 400000 in (first | k_all | fail "all")
      case jq6 => set_option maxHeartbeats 400000 in (first | kst_all | fail "names")
      case jq7 => set_option maxHeartbeats 400000 in (first | kst_same | ((try simp only [List.cons_append, List.nil_append]); kst_same) | fail "same")
      case jq8 => exact hE.step (by assumption)

  · rintro ⟨⟨a0, c0, a1, c1⟩, ⟨t0, u0, t1, u1⟩, ⟨q, tq⟩⟩ u h tk hE F' N'
    dsimp only [kstB, List.cons_append, List.nil_append] at hE F' N'
    k_steps
    (rename Fr h₀ L _ m => kF); (rename News h₀ L _ news => hN9)
    exact ret _ [] _ _ ⟨_, _, rfl, fmod_lo (by omega), fmod_hi (by omega), hE.inv hx.1 h0 hg (hE.stop hy hm), rfl⟩ (fun q hq => nomatch hq) kF hN9
end

section
set_option maxRecDepth 100000 in
set_option maxHeartbeats 8000000 in
theorem size_c {prog : Program} {w : World} {p : Program} {loose mean mg mb} {x : Int} {tx : Tok}  :
    PuP prog w (hd.heap_1 w.params) p loose mean mg mb 321 [.int x tx] 10 (fun h => True)
      (fun v tl => ∃ r t, v = .int r t ∧ r = osz x ∧ tl = []) := by
  w_top off
  k_with_none
  (k_with "pyIter ref" => ((rename LoopStop => hLs'7); refine Stop.here ?_))
  (k_with "JPost" => (dsimp only [JPost]))
  (k_with "call builtin:divmod" => ((with_reducible show wpAny _ _ (call (Value.builtin _) [Value.int _ _, Value.int _ _]) _ _ _); k_dflt (refine' divmod_N (by assumption) (by assumption) (by first | assumption | decide) ?_ (Or.inl (PyProof.noPylong_of_log2 (by first | exact SBd.log2 (by assumption) (by assumption) (by decide) | decide +kernel)))); intro _ _ _))
  intro dp un gd cn cs a ccd cl outer A₀ base h₀ L m s Q E news B F X N T hk hP hd hu ret
  refine wpAny_call ?_
  k_dflt (refine' code_defP ?k1 ?k2 ?k3 ?k4 ?k5 ?kA ?kF ?kK ?k6 ?k7 ?k8 ?k9 ?kB ?_ ?c2 ?c3 ?c4 ?c5; (case kA => exact rfl); (case kF => exact rfl); (case kK => assumption); (case k1 => k_asm); (case k2 => k_asm); (case k3 => k_asm); (case k4 => k_asm); (case k5 => k_asm); (case k6 => k_is); (case k7 => k_is); (case k8 => ktr_room); (case k9 => exact BindsTo.of_eq rfl); (case c5 => decide); (case kB => exact locs rfl); (case c2 => exact rfl); (case c3 => exact rfl); (case c4 => exact rfl); k_whole; intro g' L' h' hg' hlow' FG' F' N' B' X' T'; (try dsimp only); (try k_lift B'); (try k_fold))
  k_steps
  (rename Fr h₀ L _ m => kF); (rename News h₀ L _ news => hN9)
  exact ret _ [] _ _ ⟨_, _, rfl, rfl, rfl⟩ (fun q hq => nomatch hq) kF hN9
set_option maxRecDepth 100000 in
set_option maxHeartbeats 8000000 in
theorem ceil_c {prog : Program} {w : World} {p : Program} {loose mean mg mb} {x y : Int} {ta tb : Tok} (hb : y ≠ 0) (hs : SBd 400 y) :
    PuP prog w (hd.heap_1 w.params) p loose mean mg mb 63 [.int x ta, .int y tb] 10 (fun h => True)
      (fun v tl => ∃ r t, v = .int r t ∧ r = cdiv x y ∧ tl = []) := by
  intro dp un gd cn cs a ccd cl outer A₀ base h₀ L m s Q E news B F X N T hk hP hd hu ret
  refine wpAny_call ?_
  k_dflt (refine' code_defP ?k1 ?k2 ?k3 ?k4 ?k5 ?kA ?kF ?kK ?k6 ?k7 ?k8 ?k9 ?kB ?_ ?c2 ?c3 ?c4 ?c5; (case kA => exact rfl); (case kF => exact rfl); (case kK => assumption); (case k1 => k_asm); (case k2 => k_asm); (case k3 => k_asm); (case k4 => k_asm); (case k5 => k_asm); (case k6 => k_is); (case k7 => k_is); (case k8 => ktr_room); (case k9 => exact BindsTo.of_eq rfl); (case c5 => decide); (case kB => exact locs rfl); (case c2 => exact rfl); (case c3 => exact rfl); (case c4 => exact rfl); k_whole; intro g' L' h' hg' hlow' FG' F' N' B' X' T'; (try dsimp only); (try k_lift B'); (try k_fold))
  k_steps
  all_goals ((rename Fr h₀ L _ m => kF); (rename News h₀ L _ news => hN9))
  · exact ret _ [] _ _ ⟨_, _, rfl, cdiv_of_ne (by assumption), rfl⟩ (fun q hq => nomatch hq) kF hN9
  · exact ret _ [] _ _ ⟨_, _, rfl, cdiv_of_eq (by first | assumption | exact Decidable.of_not_not (by assumption)), rfl⟩ (fun q hq => nomatch hq) kF hN9
set_option maxRecDepth 100000 in
set_option maxHeartbeats 8000000 in
theorem bsz_c {prog : Program} {w : World} {p : Program} {loose mean mg mb} {x : Int} {tx : Tok} (hx : SBd 5000 x) :
    PuP prog w (hd.heap_1 w.params) p loose mean mg mb 56 [.int x tx] 20 (fun h => True)
      (fun v tl => ∃ r t, v = .int r t ∧ r = bsz x ∧ tl = []) := by
  (k_with "call ref" => (k_here; (with_reducible show wpAny _ _ (call (Value.ref 63) _) _ _ _); k_dflt (refine' PuP.use2 (by k_asm) (by k_asm) (by k_asm) (by k_asm) (by k_asm) (by first | exact rfl | assumption) (by trivial) (ceil_c (by first | assumption | decide) (by first | assumption | exact SBd.mono (.lit (by decide)) (by decide))) (by ktr_room) (by ktr_units) ?_; k_whole; (rintro v7 tl7 h'7 tk'7 ⟨r7, t7, hv7, hr7, htl7⟩ hlt7 F'7 N'7); clear hlt7; subst hv7; subst htl7; (try simp only [List.nil_append] at N'7); subst hr7; (try k_sweep))))
  intro dp un gd cn cs a ccd cl outer A₀ base h₀ L m s Q E news B F X N T hk hP hd hu ret
  refine wpAny_call ?_
  k_dflt (refine' code_defP ?k1 ?k2 ?k3 ?k4 ?k5 ?kA ?kF ?kK ?k6 ?k7 ?k8 ?k9 ?kB ?_ ?c2 ?c3 ?c4 ?c5; (case kA => exact rfl); (case kF => exact rfl); (case kK => assumption); (case k1 => k_asm); (case k2 => k_asm); (case k3 => k_asm); (case k4 => k_asm); (case k5 => k_asm); (case k6 => k_is); (case k7 => k_is); (case k8 => ktr_room); (case k9 => exact BindsTo.of_eq rfl); (case c5 => decide); (case kB => exact locs rfl); (case c2 => exact rfl); (case c3 => exact rfl); (case c4 => exact rfl); k_whole; intro g' L' h' hg' hlow' FG' F' N' B' X' T'; (try dsimp only); (try k_lift B'); (try k_fold))
  have hbb := hx.bits
  k_steps
  all_goals ((rename Fr h₀ L _ m => kF); (rename News h₀ L _ news => hN9))
  · exact ret _ [] _ _ ⟨_, _, rfl, bsz_zero (by assumption), rfl⟩ (fun q hq => nomatch hq) kF hN9
  · exact ret _ [] _ _ ⟨_, _, rfl, bsz_ne (by assumption), rfl⟩ (fun q hq => nomatch hq) kF hN9
end

section
set_option maxRecDepth 100000 in
set_option maxHeartbeats 8000000 in
theorem octets_c {prog : Program} {w : World} {p : Program} {loose mean mg mb} {l : Addr} {ws : List Value} {ks : List Int} {start size : Int} {tk tk2 : Tok} (hI : IntsAre ws ks) (hs : Scr ks) (hlen : ks.length ≤ 63) (h0 : 0 ≤ start) (h1 : start < 100) (h2 : 0 ≤ size) (h3 : size ≤ 1000) :
    PuN prog w (hd.heap_1 w.params) p loose mean mg mb 300 [.ref l, .int start tk, .int size tk2] 20 (fun h => h.IsList l ws.toArray)
      (fun v tl => ∃ D vs os n, v = .ref D ∧ tl = [(D, listOf vs.toArray n)] ∧ IntsAre vs os ∧ Octs os ∧ (os.length : Int) = size) := by
  w_top off
  k_with_none
  (k_with "pyIter ref" => ((rename LoopStop => hLs'7); refine Stop.here ?_))
  (k_with "JPost" => (dsimp only [JPost]))
  (k_with "call builtin:list.append" => (k_here; (try simp only [List.cons_append, List.nil_append]); (with_reducible show wpAny _ _ (call (Value.builtin _) [Value.ref _, _]) _ _ _); k_dflt (refine' append_K (by k_asm) (by k_asm) (by k_upd) ?_ (by size_fits); k_whole); intro h'7 F'7 N'7; (try k_sweep)))
  (k_with "call ref" => (k_here; (with_reducible show wpAny _ _ (call (Value.ref 293) [Value.ref _, Value.int _ _]) _ _ _); k_dflt (refine' PuP.use2 (by k_asm) (by k_asm) (by k_asm) (by k_asm) (by k_asm) (by first | exact rfl | assumption) (by is_list) (cell_c (by assumption) (by assumption) (by first | assumption | omega) (by omega) (by omega)) (by ktr_room) (by ktr_units) ?_; k_whole; (rintro v7 tl7 h'7 tk'7 ⟨r7, t7, hv7, hr7, htl7⟩ hlt7 F'7 N'7); clear hlt7; subst hv7; subst htl7; (try simp only [List.nil_append] at N'7); (have hrn7 := Bd.nn hr7); (try k_sweep))))
  (k_with "binaryOp Mult int int" => (k_here; k_dflt (refine' mul_int ?_ (mulOk2 (k := 1048600) (l := 40) (by exact Bd.sbd (by first | assumption | exact Bd.mono (Bd.add1 (k := 1048590) (by assumption) (Bd.mono (by assumption) (by decide))) (by decide) | exact Bd.mono (by assumption) (by decide))) (by decide) (by decide)))))
  intro dp un gd cn cs a ccd cl outer A₀ base h₀ L m s Q E news B F X N T hk hP hd hu ret
  refine wpAny_call ?_
  k_dflt (refine' code_defP ?k1 ?k2 ?k3 ?k4 ?k5 ?kA ?kF ?kK ?k6 ?k7 ?k8 ?k9 ?kB ?_ ?c2 ?c3 ?c4 ?c5; (case kA => exact rfl); (case kF => exact rfl); (case kK => assumption); (case k1 => k_asm); (case k2 => k_asm); (case k3 => k_asm); (case k4 => k_asm); (case k5 => k_asm); (case k6 => k_is); (case k7 => k_is); (case k8 => ktr_room); (case k9 => exact BindsTo.of_eq rfl); (case c5 => decide); (case kB => exact locs rfl); (case c2 => exact rfl); (case c3 => exact rfl); (case c4 => exact rfl); k_whole; intro g' L' h' hg' hlow' FG' F' N' B' X' T'; (try dsimp only); (try k_lift B'); (try k_fold))
  have hL : g'.IsList l ws.toArray := hg' ▸ hP
  have hstop : LoopStop := {}
  k_steps
  refine Stop.go ?_
  rename Fr _ _ _ _ => lF
  rename News _ _ _ (_ :: _) => lN
  rename IsRange _ _ _ _ _ _ _ _ => rgX
  with_unfolding_all refine' (j_range (σ := (Addr × List Value × Nat) × Int × Tok) (fun z => [(z.1.1, listOf z.1.2.1.toArray z.1.2.2)]) (fun z => [(Str.ofString "row", .ref z.1.1), (Str.ofString "number", .int z.2.1 z.2.2)]) []
      (fun i z => RowIs z.1.2.1 i ∧ Bd 1048590 z.2.1)
      ⟨⟨_, _, _⟩, _, _⟩ (by rfl) rgX (small_one (by omega) (by omega) (by omega) (by omega)) (rangeSize_nat _ _) lF lN ?kk ?kp ?_ ?_)
  case kk => kst_all
  case kp => exact ⟨.nil, Bd.mono (Bd.add1 (k := 1048580) (Bd.mono (Bd.lit (by decide) (by decide)) (by decide)) (by assumption)) (by decide)⟩
  all_goals (try clear lF lN rgX)
  · rintro ⟨⟨D, vs, n⟩, y, ty⟩ i k t u h tk I oI hk' hi ⟨q0, q1⟩ hoff2 F' N'
    dsimp only [kstB] at q0 q1 hoff2 F' N'
    have hoff := neN (hoff2 _ List.mem_cons_self)
    clear hoff2
    dsimp only at hoff
    have hvl : vs.length ≤ 1000 := by rw [q0.len]; omega
    k_steps
    all_goals (
      refine' jend ⟨⟨_, _, _⟩, _, _⟩ ?jq1 ?jq2 ?jq3 ?jq4 ?jq5 ?jq6 ?jq7 ?jq8
      case jq1 => set_option maxHeartbeats 400000 in (first | assumption | fail "F")
      case jq2 => set_option maxHeartbeats 400000 in (first | assumption | fail "N")
      case jq3 => set_option maxHeartbeats 400000 in (first | kst_in | fail "in")
      case jq4 => set_option maxHeartbeats 400000 in (first | kst_entry | fail "entry")
      case jq5 => set_option maxHeartbeats 400000 in (first | k_all | fail "all")
      case jq6 => set_option maxHeartbeats 400000 in (first | kst_all | fail "names")
      case jq7 => set_option maxHeartbeats 400000 in (first | kst_same | ((try simp only [List.cons_append, List.nil_append]); kst_same) | fail "same")
      case jq8 => exact ⟨by (dsimp only; rw [List.concat_eq_append]; exact q0.snoc (fmod_lo (by decide)) (fmod_hi (by decide))), Bd.mono (Bd.of_lt (k := 31) (fmod_lo (by decide)) (fmod_hi (by decide)) (by decide)) (by decide)⟩
)
  · rintro ⟨⟨D, vs, n⟩, y, ty⟩ u h tk ⟨⟨os, q0, q2, q3⟩, q1⟩ F' N'
    dsimp only [kstB] at q0 q1 F' N'
    k_steps
    (rename News g' L' _ _ => kN'); (rename Fr h₀ L _ m => kF); (rename News h₀ L _ news => hN9); (rename News h₀ L _ (_ :: _) => kN)
    exact ret _ [_] _ _ ⟨_, _, _, _, rfl, rfl, q0, q2, by omega⟩ (apart_one kN' hg' N) kF (news_one kN hN9)
end

section
set_option maxRecDepth 100000 in
set_option maxHeartbeats 8000000 in
theorem number_c {prog : Program} {w : World} {p : Program} {loose mean mg mb} {l : Addr} {ws : List Value} {ks : List Int} (hI : IntsAre ws ks) (ho : Octs ks) (hlen : ks.length ≤ 1000) :
    PuP prog w (hd.heap_1 w.params) p loose mean mg mb 333 [.ref l] 10 (fun h => h.IsList l ws.toArray)
      (fun v tl => ∃ r t, v = .int r t ∧ r = val ks ∧ tl = []) := by
  w_top off
  k_with_none
  (k_with "pyIter ref" => ((rename LoopStop => hLs'7); refine Stop.here ?_))
  (k_with "JPost" => (dsimp only [JPost]))
  (k_with "exec For Name Name cons nil" => (k_here; (rename LoopStop => hLs'7); (rename Fr _ _ _ _ => lF'7); with_unfolding_all refine' For_invVF lF'7 ?k1 ?k2 ?_; (case k1 => exact rfl); (case k2 => exact rfl); k_whole))
  (k_with "LPost" => (dsimp only [LPost]))
  (k_with "binaryOp Mult int int" => (k_here; k_dflt (refine' mul_bd (by first | assumption | exact Bd.lit (by omega) (by omega)) (by assumption) (by decide) ?_); intro z7 hz7 hsz7))
  intro dp un gd cn cs a ccd cl outer A₀ base h₀ L m s Q E news B F X N T hk hP hd hu ret
  refine wpAny_call ?_
  k_dflt (refine' code_defP ?k1 ?k2 ?k3 ?k4 ?k5 ?kA ?kF ?kK ?k6 ?k7 ?k8 ?k9 ?kB ?_ ?c2 ?c3 ?c4 ?c5; (case kA => exact rfl); (case kF => exact rfl); (case kK => assumption); (case k1 => k_asm); (case k2 => k_asm); (case k3 => k_asm); (case k4 => k_asm); (case k5 => k_asm); (case k6 => k_is); (case k7 => k_is); (case k8 => ktr_room); (case k9 => exact BindsTo.of_eq rfl); (case c5 => decide); (case kB => exact locs rfl); (case c2 => exact rfl); (case c3 => exact rfl); (case c4 => exact rfl); k_whole; intro g' L' h' hg' hlow' FG' F' N' B' X' T'; (try dsimp only); (try k_lift B'); (try k_fold))
  have hL : g'.IsList l ws.toArray := hg' ▸ hP
  have hstop : LoopStop := {}
  k_steps
  refine Stop.go ?_
  rename Fr _ _ _ _ => lF
  with_unfolding_all refine' (j_list (σ := Int × Tok) (fun z => [(Str.ofString "number", .int z.1 z.2)]) [] (fun i z => z.1 = val (ks.take i)) ⟨_, _⟩ (by rfl) hL ?hi lF ?kk ?kp ?_ ?_)
  case hi => assumption
  case kk => kst_all
  case kp => rfl
  all_goals clear lF
  · rintro ⟨a0, t0⟩ i n t u h tk own hn hP F' N'
    dsimp only [kstB] at hP F' N'
    have hb := val_Bd (octs_take ho i) (n := 8000) (by rw [List.length_take]; omega)
    rw [← hP] at hb
    k_steps
    refine' lend ⟨_, _⟩ ?jq1 ?jq2 ?jq3 ?jq4 ?jq5
    case jq1 => set_option maxHeartbeats 400000 in (first | assumption | fail "F")
    case jq2 => set_option maxHeartbeats 400000 in (first | assumption | fail "N")
    case jq3 => set_option maxHeartbeats 400000 in (first | kst_all | fail "names")
    case jq4 => set_option maxHeartbeats 400000 in (first | kst_same | fail "same")
    case jq5 => exact (by (dsimp only; rw [val_take hn, ← hP]; omega))
  · rintro ⟨a0, t0⟩ u h tk hP F'
    dsimp only [kstB] at hP F'
    have N9 : News g' L' h [] := News.nil
    k_steps
    (rename Fr h₀ L _ m => kF); (rename News h₀ L _ news => hN9)
    exact ret _ [] _ _ ⟨_, _, rfl, by rw [hP, List.take_length], rfl⟩ (fun q hq => nomatch hq) kF hN9
end

section
set_option maxRecDepth 100000 in
set_option maxHeartbeats 8000000 in
theorem written_c {prog : Program} {w : World} {p : Program} {loose mean mg mb} {x n : Int} {tx tn : Tok} (h0 : 0 ≤ x) (hx : SBd 5000 x) (n0 : 0 ≤ n) (n1 : n ≤ 1000) :
    PuN prog w (hd.heap_1 w.params) p loose mean mg mb 338 [.int x tx, .int n tn] 20 (fun h => True)
      (fun v tl => ∃ D vs m, v = .ref D ∧ tl = [(D, listOf vs.toArray m)] ∧ IntsAre vs (octs n.toNat x)) := by
  w_top off
  k_with_none
  (k_with "pyIter ref" => ((rename LoopStop => hLs'7); refine Stop.here ?_))
  (k_with "JPost" => (dsimp only [JPost]))
  (k_with "CompSrc" => ((rename LoopStop => hLs'7); refine Stop.here ?_))
  intro dp un gd cn cs a ccd cl outer A₀ base h₀ L m s Q E news B F X N T hk hP hd hu ret
  refine wpAny_call ?_
  k_dflt (refine' code_defCP ?k1 ?k2 ?k3 ?k4 ?k5 ?kA ?kF ?kK ?k6 ?k7 ?k8 ?k9 ?kB ?kD ?_ ?c2 ?c3 ?c4; (case kA => exact rfl); (case kF => exact rfl); (case kK => assumption); (case k1 => k_asm); (case k2 => k_asm); (case k3 => k_asm); (case k4 => k_asm); (case k5 => k_asm); (case k6 => k_is); (case k7 => k_is); (case k8 => ktr_room); (case k9 => exact BindsTo.of_eq rfl); (case kB => exact rfl); (case kD => decide +kernel); (case c2 => exact rfl); (case c3 => exact rfl); (case c4 => exact rfl); k_whole; intro g' L' h' tk' cells' hg' hlow' FG' F' N' Y' B' X' T'; k_cells Y'; (try dsimp only); (try k_lift B'); (try k_fold))
  have hstop : LoopStop := {}
  k_steps
  refine Stop.go ?_
  rename Fr _ _ _ _ => lF
  rename News _ _ _ (_ :: _) => lN
  rename IsRange _ _ _ _ _ _ _ _ => rgX
  refine LCg.CompSrc.range (by rfl) lF lN rgX (small_one (by omega) (by omega) (by omega) (by omega)) (rangeSize_nat _ _) (by rw [sizeLine_eq]; omega) ?_
  intro g9
  obtain ⟨nx9, h9, lN⟩ : ∃ nx9, nx9 = _ ∧ News _ _ _ nx9 := ⟨_, rfl, lN⟩
  with_unfolding_all refine' comp_inv (fun i ys nx => nx = nx9 ∧ IntsAre ys ((octs n.toNat x).take i)) ?h0 ?hstep ?hfin
  case h0 => exact ⟨h9.symm, .nil⟩
  all_goals (clear lN lF rgX)
  case hstep =>
    rintro i ys nx v I oI C oC' D m₂ h tk E' hi ⟨rfl, hR⟩ ⟨t9, rfl⟩ hns hx' F' N' off' ne'
    subst h9
    simp only [LCg.Off3, and_true] at off'
    k_steps
    exact octs_row hR hi
  case hfin =>
    rintro ys nx ⟨rfl, hR⟩
    subst h9
    k_steps
    (rename News g' L' _ _ => kN'); (rename Fr h₀ L _ m => kF); (rename News h₀ L _ news => hN9); (rename News h₀ L _ (_ :: _) => kN)
    exact ret _ [_] _ _ ⟨_, _, _, rfl, rfl, by rw [List.take_of_length_le (by rw [octs_length]; omega)] at hR; exact hR⟩ (apart_one kN' hg' N) kF (news_one kN hN9)
end

section
noncomputable def mers : List Int := [2 ^ 31 - 1, 2 ^ 61 - 1, 2 ^ 89 - 1, 2 ^ 107 - 1, 2 ^ 127 - 1, 2 ^ 521 - 1, 2 ^ 607 - 1]
theorem seven {i : Nat} {v : Value} {a b c d e f g : Tok} (h : (#[Value.int 31 a, .int 61 b, .int 89 c, .int 107 d, .int 127 e, .int 521 f, .int 607 g] : Array Value)[i]? = some v) :
    ∃ k t, v = .int k t ∧ 0 ≤ k ∧ k < 1000 ∧ mers[i]? = some (2 ^ k.toNat - 1) := by
  match i, h with
  | 0, h => cases h; exact ⟨_, _, rfl, by decide, by decide, rfl⟩
  | 1, h => cases h; exact ⟨_, _, rfl, by decide, by decide, rfl⟩
  | 2, h => cases h; exact ⟨_, _, rfl, by decide, by decide, rfl⟩
  | 3, h => cases h; exact ⟨_, _, rfl, by decide, by decide, rfl⟩
  | 4, h => cases h; exact ⟨_, _, rfl, by decide, by decide, rfl⟩
  | 5, h => cases h; exact ⟨_, _, rfl, by decide, by decide, rfl⟩
  | 6, h => cases h; exact ⟨_, _, rfl, by decide, by decide, rfl⟩
theorem nine_bd : ∀ p ∈ Num.nine, (p : Int) < 2 ^ 610 := by decide +kernel
noncomputable def nineI : List Int := Num.nine.map Int.ofNat
theorem nine_mers : List.take 7 mers ++ [1 * 2 ^ Int.toNat 64 - 59, 1 * 2 ^ Int.toNat 255 - 19] = nineI := by decide +kernel
/-- one pair -/
structure Row where
  a : Addr
  p : Nat
  q : Nat
  t : Tok
  u : Tok
  n : Nat
noncomputable def Row.obj (r : Row) : Addr × Obj := (r.a, { cls := .type "tuple", data := .seq #[.int (r.p : Int) r.t, .int (r.q : Int) r.u] r.n })
noncomputable def Row.Ok (least : Int) (r : Row) : Prop := r.p ∈ Num.nine ∧ r.q ∈ Num.nine ∧ r.p ≠ r.q ∧ least ≤ osz ((r.p : Int) * (r.q : Int))
noncomputable def pairJ (cP cB D : Addr) (oP oB : Obj) (vs : List Value) (least : Int) (i j : Nat) (ys : List Value) (nx : List (Addr × Obj)) : Prop :=
  ∃ rows : List Row, ys = rows.map (fun r => Value.ref r.a) ∧ nx = (D, listOf vs.toArray 0) :: (cP, oP) :: (cB, oB) :: rows.map Row.obj ∧ (∀ r ∈ rows, r.Ok least) ∧ rows.length ≤ 9 * i + j ∧ i ≤ 9 ∧ j ≤ 9 ∧ ((5 < i ∨ (i = 5 ∧ 6 < j)) → rows ≠ [])
theorem pairJ_start {cP cB D : Addr} {oP oB : Obj} {vs : List Value} {least : Int} : pairJ cP cB D oP oB vs least 0 0 [] [(D, listOf vs.toArray 0), (cP, oP), (cB, oB)] :=
  ⟨[], rfl, rfl, (fun _ h => nomatch h), by decide, by decide, by decide, fun h => by omega⟩
theorem pairJ.len {cP cB D : Addr} {oP oB : Obj} {vs : List Value} {least : Int} {i j : Nat} {ys : List Value} {nx : List (Addr × Obj)} (h : pairJ cP cB D oP oB vs least i j ys nx) : ys.length ≤ 100000 := by
  obtain ⟨rows, rfl, _, _, h1, h2, h3, _⟩ := h
  rw [List.length_map]; omega
theorem pairJ.src {h₀ : Heap} {cP cB D : Addr} {oP oB : Obj} {vs : List Value} {least : Int} {i j : Nat} {ys : List Value} {nx : List (Addr × Obj)} (h : pairJ cP cB D oP oB vs least i j ys nx) : LCg.SrcAt h₀ D vs.toArray nx := by
  obtain ⟨rows, rfl, rfl, _⟩ := h
  exact .inr ⟨_, List.mem_cons_self, rfl, _, rfl⟩
theorem nineI_len : nineI.length = 9 := by decide
theorem pairJ.next {cP cB D : Addr} {oP oB : Obj} {vs : List Value} {least : Int} {i : Nat} {ys : List Value} {nx : List (Addr × Obj)} (hI : IntsAre vs nineI) (hi : i < vs.toArray.size) (h : pairJ cP cB D oP oB vs least i vs.toArray.size ys nx) : pairJ cP cB D oP oB vs least (i + 1) 0 ys nx := by
  have e : vs.toArray.size = 9 := by rw [List.size_toArray, hI.length, nineI_len]
  rw [e] at h hi
  obtain ⟨rows, h1, h2, h3, h4, h5, h6, h7⟩ := h
  exact ⟨rows, h1, h2, h3, by omega, by omega, by omega, fun h8 => h7 (by omega)⟩
theorem ints_at : ∀ {vs : List Value} {ns : List Int}, IntsAre vs ns → ∀ {i : Nat} {v : Value}, vs[i]? = some v → ∃ k t, v = Value.int k t ∧ ns[i]? = some k
  | _, _, .cons n t r, 0, v, h => by cases h; exact ⟨_, _, rfl, rfl⟩
  | _, _, .cons n t r, i + 1, v, h => by
    rw [List.getElem?_cons_succ] at h
    obtain ⟨k, t, e, h2⟩ := ints_at r h
    exact ⟨k, t, e, by rw [List.getElem?_cons_succ]; exact h2⟩
theorem nine_at {vs : List Value} {i : Nat} {v : Value} (hI : IntsAre vs nineI) (h : vs.toArray[i]? = some v) : ∃ (p : Nat) (t : Tok), v = .int (p : Int) t ∧ Num.nine[i]? = some p ∧ p ∈ Num.nine ∧ Bd 610 (p : Int) := by
  rw [List.getElem?_toArray] at h
  obtain ⟨k, t, rfl, hk⟩ := ints_at hI h
  rw [nineI, List.getElem?_map, Option.map_eq_some_iff] at hk
  obtain ⟨p, hp, rfl⟩ := hk
  have hm := List.mem_of_getElem? hp
  exact ⟨p, t, rfl, hp, hm, Int.natCast_nonneg p, nine_bd p hm⟩
theorem pair56 {i j pp qq : Nat} (hi : Num.nine[i]? = some pp) (hj : Num.nine[j]? = some qq) (ei : i = 5) (ej : j = 6) : pp ≠ qq ∧ osz ((pp : Int) * (qq : Int)) = 141 := by
  subst ei; subst ej
  cases hi; cases hj
  exact ⟨by decide, by decide +kernel⟩
theorem pair_sub {I C D I1 D9 P B : Addr} {oI oC oD oI1 o9 oP oB : Obj} {rows : List Row} {r : Row} {tup : Addr × Obj} (e : r.obj = tup) :
    ∀ p ∈ (I, oI) :: (C, oC) :: (D, oD) :: (I1, oI1) :: (D9, o9) :: (P, oP) :: (B, oB) :: (rows ++ [r]).map Row.obj, p ∈ tup :: (I, oI) :: (C, oC) :: (D, oD) :: (I1, oI1) :: (D9, o9) :: (P, oP) :: (B, oB) :: rows.map Row.obj := by
  subst e
  intro p hp
  rw [List.map_append, List.map_singleton] at hp
  simp only [List.mem_cons, List.mem_append, List.not_mem_nil, or_false] at hp ⊢
  rcases hp with h | h | h | h | h | h | h | h | h <;> simp [h]
theorem pair_new {I1 D9 P B : Addr} {oI1 o9 oP oB : Obj} {rows : List Row} {r : Row} {p : Addr × Obj} (hp : p ∈ (I1, oI1) :: (D9, o9) :: (P, oP) :: (B, oB) :: (rows ++ [r]).map Row.obj) : p ∈ (I1, oI1) :: (D9, o9) :: (P, oP) :: (B, oB) :: rows.map Row.obj ∨ p = r.obj := by
  rw [List.map_append, List.map_singleton] at hp
  simp only [List.mem_cons, List.mem_append, List.not_mem_nil, or_false] at hp ⊢
  rcases hp with h | h | h | h | h | h <;> simp [h]
theorem pair_new2 {D9 P B : Addr} {o9 oP oB : Obj} {rows : List Row} {r : Row} {p : Addr × Obj} (hp : p ∈ (D9, o9) :: (P, oP) :: (B, oB) :: (rows ++ [r]).map Row.obj) : p ∈ (D9, o9) :: (P, oP) :: (B, oB) :: rows.map Row.obj ∨ p = r.obj := by
  rw [List.map_append, List.map_singleton] at hp
  simp only [List.mem_cons, List.mem_append, List.not_mem_nil, or_false] at hp ⊢
  rcases hp with h | h | h | h | h <;> simp [h]
theorem nine_lo : ∀ p ∈ Num.nine, 2147483647 ≤ p := by decide +kernel
theorem nine_m1 {p : Nat} (h : p ∈ Num.nine) : Bd 610 ((p : Int) - 1) := by
  have h1 := nine_lo p h
  have h2 := nine_bd p h
  exact ⟨by omega, by omega⟩
theorem whole_cast {pp qq : Nat} (hp : pp ∈ Num.nine) (hq : qq ∈ Num.nine) : (((pp - 1) * (qq - 1) : Nat) : Int) = ((pp : Int) - 1) * ((qq : Int) - 1) := by
  have h1 := nine_lo pp hp
  have h2 := nine_lo qq hq
  rw [Int.natCast_mul, Int.natCast_sub (by omega), Int.natCast_sub (by omega)]
  rfl
theorem whole_pos {pp qq : Nat} (hp : pp ∈ Num.nine) (hq : qq ∈ Num.nine) : 0 < ((pp : Int) - 1) * ((qq : Int) - 1) := by
  have h1 := nine_lo pp hp
  have h2 := nine_lo qq hq
  exact Int.mul_pos (by omega) (by omega)
/-- the search for an exponent -/
noncomputable def EP (pp qq i : Nat) (z : Int) : Prop := ∃ c, c < 40000 ∧ z = ((3 + 2 * c + 2 * i : Nat) : Int) ∧ ∀ k, k < i → Nat.gcd (3 + 2 * c + 2 * k) ((pp - 1) * (qq - 1)) ≠ 1
theorem EP.start {pp qq : Nat} {r : Int} : EP pp qq 0 (3 + 2 * r.fmod 40000) := by
  have h1 := fmod_lo (a := r) (b := 40000) (by decide)
  have h2 := fmod_hi (a := r) (b := 40000) (by decide)
  exact ⟨(r.fmod 40000).toNat, by omega, by omega, fun k h => absurd h (Nat.not_lt_zero k)⟩
theorem EP.step {pp qq i : Nat} {z : Int} (hp : pp ∈ Num.nine) (hq : qq ∈ Num.nine) (h : EP pp qq i z) (hg : Int.gcd z (((pp : Int) - 1) * ((qq : Int) - 1)) ≠ 1) : EP pp qq (i + 1) (z + 2) := by
  obtain ⟨c, h1, rfl, h3⟩ := h
  rw [← whole_cast hp hq, Int.gcd_natCast_natCast] at hg
  refine ⟨c, h1, by omega, fun k hk => ?_⟩
  by_cases e : k = i
  · subst e; exact hg
  · exact h3 k (by omega)
theorem EP.stop {pp qq : Nat} {z : Int} (hp : pp ∈ Num.nine) (hq : qq ∈ Num.nine) : ¬ EP pp qq 2000 z := by
  rintro ⟨c, h1, _, h3⟩
  obtain ⟨k, hk, hg⟩ := Num.wit_ends h1 hp hq
  exact h3 k hk hg
theorem EP.bd {pp qq i : Nat} {z : Int} (hi : i ≤ 2000) (h : EP pp qq i z) : Bd 1300 z ∧ 3 ≤ z ∧ z < 100000 := by
  obtain ⟨c, h1, rfl, _⟩ := h
  exact ⟨Bd.mono (Bd.lit (by omega) (by omega)) (by decide), by omega, by omega⟩
noncomputable abbrev tup4 (a b c d : Int) (t1 t2 t3 t4 : Tok) (n : Nat) : Obj := { cls := .type "tuple", data := .seq #[.int a t1, .int b t2, .int c t3, .int d t4] n }
theorem name_cell {o : Obj} {D : Addr} (_ : o.data = Data.cell (some (Value.ref D))) : ∃ D9 : Addr, D9 = D := ⟨D, rfl⟩
/-- what the law's keys are -/
noncomputable def Keys (least : Int) (pp qq : Nat) (e d : Int) : Prop := pp ∈ Num.nine ∧ qq ∈ Num.nine ∧ pp ≠ qq ∧ least ≤ osz ((pp : Int) * (qq : Int)) ∧ 3 ≤ e ∧ e < 100000 ∧ 0 ≤ d ∧ d < ((pp : Int) - 1) * ((qq : Int) - 1) ∧ e * d % (((pp : Int) - 1) * ((qq : Int) - 1)) = 1 % (((pp : Int) - 1) * ((qq : Int) - 1))
theorem mers_row {ys : List Value} {i : Nat} {k : Int} {t : Tok} (h : IntsAre ys (mers.take i)) (e : mers[i]? = some (2 ^ k.toNat - 1)) : IntsAre (ys ++ [.int (1 * 2 ^ k.toNat - 1) t]) (mers.take (i + 1)) := by
  rw [List.take_succ, e, Int.one_mul]
  exact h.append (.cons _ _ .nil)
theorem Keys.bds {least : Int} {pp qq : Nat} {e d : Int} (h : Keys least pp qq e d) : Bd 610 (pp : Int) ∧ Bd 610 (qq : Int) := ⟨⟨Int.natCast_nonneg _, nine_bd _ h.1⟩, ⟨Int.natCast_nonneg _, nine_bd _ h.2.1⟩⟩
set_option maxRecDepth 100000 in
set_option maxHeartbeats 8000000 in
theorem keys_c {prog : Program} {w : World} {p : Program} {loose mean mg mb} {l : Addr} {ws : List Value} {ks : List Int} {start least : Int} {tk tk2 : Tok} (hI : IntsAre ws ks) (hs : Scr ks) (hlen : ks.length ≤ 63) (h0 : 0 ≤ start) (h1 : start < 100) (h2 : 0 ≤ least) (h3 : least ≤ 141) :
    PuN prog w (hd.heap_1 w.params) p loose mean mg mb 326 [.ref l, .int start tk, .int least tk2] 30 (fun h => h.IsList l ws.toArray)
      (fun v tl => ∃ T pp qq e d t1 t2 t3 t4 n, v = .ref T ∧ tl = [(T, tup4 (pp : Nat) (qq : Nat) e d t1 t2 t3 t4 n)] ∧ Keys least pp qq e d) := by
  w_top off
  k_with_none
  (k_with "pyIter ref" => ((rename LoopStop => hLs'7); refine Stop.here ?_))
  (k_with "JPost" => (dsimp only [JPost]))
  (k_with "call ref" => (k_here; (with_reducible show wpAny _ _ (call (Value.ref 293) [Value.ref _, Value.int _ _]) _ _ _); k_dflt (refine' PuP.use2 (by k_asm) (by k_asm) (by k_asm) (by k_asm) (by k_asm) (by first | exact rfl | assumption) (by is_list) (cell_c (by assumption) (by assumption) (by first | assumption | omega) (by omega) (by omega)) (by ktr_room) (by ktr_units) ?_; k_whole; (rintro v7 tl7 h'7 tk'7 ⟨r7, t7, hv7, hr7, htl7⟩ hlt7 F'7 N'7); clear hlt7; subst hv7; subst htl7; (try simp only [List.nil_append] at N'7); (have hrn7 := Bd.nn hr7); (try k_sweep))))
  (k_with "call ref" => (k_here; (with_reducible show wpAny _ _ (call (Value.ref 321) [Value.int _ _]) _ _ _); k_dflt (refine' PuP.use2 (by k_asm) (by k_asm) (by k_asm) (by k_asm) (by k_asm) (by first | exact rfl | assumption) (by trivial) size_c (by ktr_room) (by ktr_units) ?_; k_whole; (rintro v7 tl7 h'7 tk'7 ⟨r7, t7, hv7, hr7, htl7⟩ hlt7 F'7 N'7); clear hlt7; subst hv7; subst htl7; (try simp only [List.nil_append] at N'7); (try k_sweep))))
  (k_with "call ref" => (k_here; (with_reducible show wpAny _ _ (call (Value.ref 307) [Value.int _ _, Value.int _ _]) _ _ _); k_dflt (refine' PuP.use2 (by k_asm) (by k_asm) (by k_asm) (by k_asm) (by k_asm) (by first | exact rfl | assumption) (by trivial) (common_c (by assumption) (by assumption)) (by ktr_room) (by ktr_units) ?_; k_whole; (rintro v7 tl7 h'7 tk'7 ⟨r7, t7, hv7, hr7, htl7⟩ hlt7 F'7 N'7); clear hlt7; subst hv7; subst htl7; (try simp only [List.nil_append] at N'7); (try k_sweep))))
  (k_with "call ref" => (k_here; (with_reducible show wpAny _ _ (call (Value.ref 314) [Value.int _ _, Value.int _ _]) _ _ _); k_dflt (refine' PuP.use2 (by k_asm) (by k_asm) (by k_asm) (by k_asm) (by k_asm) (by first | exact rfl | assumption) (by trivial) (inverse_c (by assumption) (by assumption) (by assumption) (by first | assumption | omega)) (by ktr_room) (by ktr_units) ?_; k_whole; (rintro v7 tl7 h'7 tk'7 ⟨r7, t7, hv7, hr07, hr17, hr27, htl7⟩ hlt7 F'7 N'7); clear hlt7; subst hv7; subst htl7; (try simp only [List.nil_append] at N'7); (try k_sweep))))
  (k_with "CompSrc" => ((rename LoopStop => hLs'7); refine Stop.here ?_))
  (k_with "binaryOp LShift int int" => (k_here; with_reducible refine lshift_int_small (by omega) (by omega) (by decide) ?_))
  (k_with "binaryOp Mult int int" => (k_here; k_dflt (refine' mul_bd (by assumption) (by assumption) (by decide) ?_); intro z7 hz7 hsz7))
  (k_with "call builtin:len" => (k_here; (with_reducible show wpAny _ _ (call (Value.builtin "len") [Value.ref _]) _ _ _); k_dflt (refine' len_row (by k_asm) (by k_mem) (by omega) ?_); intro z7 hz7))
  (k_with "subscriptTail Name BinOp ref int" => ((rename LoopStop => hLs'7); refine Stop.here ?_))
  (k_with "exec Assign cons ListComp" => ((rename LoopStop => hLs'7); refine Stop.here ?_))
  intro dp un gd cn cs a ccd cl outer A₀ base h₀ L m s Q E news B F X N T hk hP hd hu ret
  refine wpAny_call ?_
  k_dflt (refine' code_defCP ?k1 ?k2 ?k3 ?k4 ?k5 ?kA ?kF ?kK ?k6 ?k7 ?k8 ?k9 ?kB ?kD ?_ ?c2 ?c3 ?c4; (case kA => exact rfl); (case kF => exact rfl); (case kK => assumption); (case k1 => k_asm); (case k2 => k_asm); (case k3 => k_asm); (case k4 => k_asm); (case k5 => k_asm); (case k6 => k_is); (case k7 => k_is); (case k8 => ktr_room); (case k9 => exact BindsTo.of_eq rfl); (case kB => exact rfl); (case kD => decide +kernel); (case c2 => exact rfl); (case c3 => exact rfl); (case c4 => exact rfl); k_whole; intro g' L' h' tk' cells' hg' hlow' FG' F' N' Y' B' X' T'; k_cells Y'; (try dsimp only); (try k_lift B'); (try k_fold))
  have hL : g'.IsList l ws.toArray := hg' ▸ hP
  have hstop : LoopStop := {}
  k_steps
  refine Stop.go ?_
  rename Fr _ _ _ _ => lF
  rename News _ _ _ (_ :: _) => lN
  refine LCg.CompSrc.ledger (by rfl) lF lN (by k_mem) (by (show 7 ≤ sizeLine); rw [sizeLine_eq]; decide) ?_
  intro g9
  obtain ⟨nx9, h9, lN⟩ : ∃ nx9, nx9 = _ ∧ News _ _ _ nx9 := ⟨_, rfl, lN⟩
  with_unfolding_all refine' comp_inv (n := 7) (fun i ys nx => nx = nx9 ∧ IntsAre ys (mers.take i)) ?h0 ?hstep ?hfin
  case h0 => exact ⟨h9.symm, .nil⟩
  all_goals (clear lN lF)
  case hstep =>
    rintro i ys nx v I oI C oC' D m₂ h tk E' hi ⟨rfl, hR⟩ hv9 hns hx' F' N' off' ne'
    obtain ⟨k9, t9, rfl, hk0, hk1, hk2⟩ := seven hv9
    clear hv9
    subst h9
    simp only [LCg.Off3, and_true] at off'
    k_steps
    exact mers_row hR hk2
  case hfin =>
    rintro ys nx ⟨rfl, hR⟩
    subst h9
    k_steps
    refine Stop.go ?_
    k_dflt (refine Assign_ListComp_2 (F₀ := by k_asm) (by rfl) (by with_unfolding_all rfl) (by with_unfolding_all rfl) (by decide) (by rfl) (by decide) (by rfl) (by rfl) (by decide) (by rfl) (by rfl) (by intros; rfl) ?_)
    k_steps
    rename Fr _ _ _ _ => lF
    rename News _ _ _ _ => lN
    rename IntsAre _ (_ ++ _) => hI9
    rename (_ = Data.cell (some (Value.ref _))) => hP9
    rename List Value => vs9
    rename Obj => oP
    obtain ⟨D9, rfl⟩ := name_cell hP9
    rename (_ = Data.cell (bindC _ _ _ _)) => hB9
    replace hI9 : IntsAre vs9 nineI := by rw [← nine_mers]; exact hI9
    obtain ⟨oB, lN, hB9⟩ : ∃ oB, News _ _ _ [(D9, listOf vs9.toArray 0), (L' + 1 + 1, oP), (L' + 1, oB)] ∧ oB.data = .cell (some (.int least tk2)) := ⟨_, kst_newsOf lN (by kst_inAny), hB9⟩
    have hlt9 : @LT.lt Nat _ (L' + 1 + 1) D9 := by omega
    refine SrcTwo.go (ax2 := D9) (its2 := vs9.toArray) (pairJ (L' + 1 + 1) (L' + 1) D9 oP oB vs9 least) (by rfl) lF lN (.inr ⟨_, List.mem_cons_self, rfl, _, rfl⟩) pairJ_start ?htwo ?hfin2
    case htwo =>
      intro g10
      refine ⟨fun i j ys nx hJ => hJ.len, fun i j ys nx hJ => hJ.src, fun i j ys nx hJ => hJ.src, ?hit2, ?hstep2, fun i ys nx hi hJ => pairJ.next hI9 hi hJ⟩
      case hit2 =>
        rintro i ys nx v I oI C oC D m₂ h tk E' ⟨rows, rfl, rfl, _⟩ hns hx F' N'
        k_steps
      case hstep2 =>
        rintro i j ys nx v u I oI I₁ oI₁ C oC D m₂ h tk E' hi hj hJ hv hu hns hmx hmy F' N' off' ne' hoffI
        obtain ⟨pp, tp, rfl, hpi, hpm, hpb⟩ := nine_at hI9 hv
        obtain ⟨qq, tq, rfl, hqi, hqm, hqb⟩ := nine_at hI9 hu
        obtain ⟨rows, rfl, rfl, hrows, hrl, hi9, hj9, hne9⟩ := hJ
        have off0 := off'.mem
        simp only [LCg.Off3] at off'
        have hj8 : j < 9 := by rw [List.size_toArray, hI9.length, nineI_len] at hj; exact hj
        clear hv hu
        k_steps
        all_goals (rename News _ _ _ _ => N9; rename Fr _ _ _ _ => F9)
        · refine' LCg.CompEnd.intro F9 N9 ((I₁, oI₁) :: (D9, listOf vs9.toArray 0) :: (L' + 1 + 1, oP) :: (L' + 1, oB) :: (rows ++ [Row.mk _ pp qq tp tq _]).map Row.obj) ?e1 ?e2 ?e3 ?e4
          case e1 => (refine pair_sub ?_; with_unfolding_all rfl)
          case e3 => trivial
          case e2 =>
            refine LCg.Off3.of fun q hq => ?_
            rcases pair_new hq with hq | hq
            · exact off0 q hq
            · rw [hq]; dsimp only [Row.obj]; exact ⟨by k_ne, by k_ne, by k_ne⟩
          case e4 =>
            refine ⟨_, rfl, fun q hq => ?_, rows ++ [Row.mk _ pp qq tp tq _], (by rw [List.map_append]; rfl), rfl, fun q hq => ?_, (by rw [List.length_append, List.length_singleton]; omega), hi9, by omega, fun _ h => by simp at h⟩
            · rcases pair_new2 hq with hq | hq
              · exact hoffI q hq
              · rw [hq]; dsimp only [Row.obj]; k_ne
            · rcases List.mem_append.mp hq with hq | hq
              · exact hrows q hq
              · rw [List.mem_singleton.mp hq]
                exact ⟨hpm, hqm, by (intro e9; rename (@Ne Int _ _) => hne0; exact hne0 (congrArg Nat.cast e9)), by (rename (_ = osz _) => hr9; rename ((_ : Int) = _ * _) => hz9; rw [← hz9, ← hr9]; assumption)⟩
        all_goals (
          refine' LCg.CompEnd.intro F9 N9 ((I₁, oI₁) :: (D9, listOf vs9.toArray 0) :: (L' + 1 + 1, oP) :: (L' + 1, oB) :: rows.map Row.obj) ?e1 ?e2 ?e3 ?e4
          case e1 => exact fun q hq => hq
          case e2 => exact LCg.Off3.of off0
          case e3 => trivial
          case e4 =>
            refine ⟨_, rfl, hoffI, rows, rfl, rfl, hrows, by omega, hi9, by omega, fun h8 => hne9 (h8.elim .inl fun h8 => .inr ⟨h8.1, ?_⟩)⟩
            by_cases h9 : j = 6
            · exfalso
              obtain ⟨c1, c2⟩ := pair56 hpi hqi h8.1 h9
              first | omega | (rename (_ = osz _) => hr9; rename ((_ : Int) = _ * _) => hz9; rw [← hz9, ← hr9] at c2; omega)
            · omega)
    case hfin2 =>
      rintro g ys nx ⟨rows, rfl, rfl, hrows, hrl, hi9, hj9, hne9⟩
      have e9 : vs9.toArray.size = 9 := by rw [List.size_toArray, hI9.length, nineI_len]
      rw [e9] at hrl hne9
      have hmp : (rows.map (fun r => Value.ref r.a)).length ≤ 81 := by rw [List.length_map]; omega
      have hm0 : 0 < (rows.map (fun r => Value.ref r.a)).length := by rw [List.length_map]; exact List.length_pos_iff.mpr (hne9 (.inl (by decide)))
      k_steps
      refine Stop.go ?_
      rename Fr _ _ _ _ => F9
      rename News _ _ _ _ => N9
      with_unfolding_all refine' pick_any (vs := rows.map (fun r => Value.ref r.a)) (fun v => ∃ r ∈ rows, v = Value.ref r.a) ?g1 ?g2 ?g3 ?g4 ?g5 ?g6 ?g7
      case g1 => exact News.isList N9 (by k_mem)
      case g2 => exact fmod_lo (by omega)
      case g3 => exact Int.lt_of_lt_of_le (fmod_hi (by omega)) (by omega)
      case g4 => exact Int.lt_of_lt_of_le (fmod_hi (by omega)) (by omega)
      case g5 => intro v hv; obtain ⟨r, hr, rfl⟩ := List.mem_map.mp hv; exact ⟨r, hr, rfl⟩
      case g7 => with_unfolding_all rfl
      rintro _ ⟨r, hr, rfl⟩
      have N10 : News g' L' _ [r.obj] := fun q hq => N9 q (by rw [List.mem_singleton.mp hq]; exact List.mem_cons_of_mem _ (List.mem_cons_of_mem _ (List.mem_cons_of_mem _ (List.mem_cons_of_mem _ (List.mem_map_of_mem hr)))))
      obtain ⟨c1, c2, c3, c4⟩ := hrows r hr
      clear N9 hrows hr hrl hne9 hmp hm0 lN hB9 hP9 hI9 e9
      obtain ⟨ra, pp, qq, tp, tq, rn⟩ := r
      dsimp only [Row.obj] at N10 c1 c2 c3 c4 ⊢
      have hp1 := nine_m1 c1
      have hq1 := nine_m1 c2
      k_steps
      refine Stop.go ?_
      rename ((_ : Int) = _ * _) => hz9
      subst hz9
      rename Fr _ _ _ _ => lF
      rename News _ _ _ _ => lN
      rename IsRange _ _ _ _ _ _ _ _ => rgX
      have hW : Bd 1300 (((pp : Int) - 1) * ((qq : Int) - 1)) := Bd.mono (Bd.mul hp1 hq1) (by decide)
      have hW0 : 0 < ((pp : Int) - 1) * ((qq : Int) - 1) := whole_pos c1 c2
      with_unfolding_all refine' (j_range (σ := Int × Tok) (fun _ => [(ra, { cls := .type "tuple", data := .seq #[.int (pp : Int) tp, .int (qq : Int) tq] rn })]) (fun z => [(Str.ofString "e", .int z.1 z.2)]) [] (fun i z => EP pp qq i z.1) ⟨_, _⟩ (by rfl) rgX (by decide) (n := 2000) rfl lF ?kn ?kk ?kp ?_ ?_)
      case kn => exact kst_newsOf lN (by kst_inAny)
      case kk => kst_all
      case kp => exact EP.start
      all_goals (clear lF lN rgX)
      · rintro ⟨a0, t0⟩ ii k t u h tk I oI hk' hi hE hoff2 F' N'
        dsimp only [kstB] at hE hoff2 F' N'
        obtain ⟨hb, hb3, hb9⟩ := hE.bd (by omega)
        k_steps
        · (rename News g' L' _ _ => kN'); (rename Fr h₀ L _ m => kF); (rename News h₀ L _ news => hN9); (rename News h₀ L _ (_ :: _) => kN)
          exact ret _ [_] _ _ ⟨_, _, _, _, _, _, _, _, _, _, rfl, rfl, c1, c2, c3, c4, hb3, hb9, by assumption, by assumption, by assumption⟩ (apart_one kN' hg' N) kF (news_one kN hN9)
        · refine' jend ⟨_, _⟩ ?jq1 ?jq2 ?jq3 ?jq4 ?jq5 ?jq6 ?jq7 ?jq8
          case jq1 => set_option maxHeartbeats 400000 in (first | assumption | fail "F")
          case jq2 => set_option maxHeartbeats 400000 in (first | assumption | fail "N")
          case jq3 => set_option maxHeartbeats 400000 in (first | kst_in | fail "in")
          case jq4 => set_option maxHeartbeats 400000 in (first | kst_entry | fail "entry")
          case jq5 => set_option maxHeartbeats 400000 in (first | k_all | fail "all")
          case jq6 => set_option maxHeartbeats 400000 in (first | kst_all | fail "names")
          case jq7 => set_option maxHeartbeats 400000 in (first | kst_same | ((try simp only [List.cons_append, List.nil_append]); kst_same) | fail "same")
          case jq8 => exact hE.step c1 c2 (by omega)

      · rintro ⟨a0, t0⟩ u h tk hE F' N'
        exact absurd hE (EP.stop c1 c2)
end

section
theorem fmod_lt2 {a b : Int} (ha : 0 ≤ a) (hb : 0 ≤ b) (h : b ≠ 0) : (a.fmod b).toNat < b.toNat := by
  have h1 := Int.fmod_nonneg_of_pos a (b := b) (by omega)
  have h2 := Int.fmod_lt_of_pos a (b := b) (by omega)
  omega
noncomputable abbrev tup3 (a b c : Int) (t u v : Tok) (n : Nat) : Obj := { cls := .type "tuple", data := .seq #[.int a t, .int b u, .int c v] n }
/-- Euclid's rows, the turn left open -/
noncomputable def EA (x y a0 b0 c0 a1 b1 c1 : Int) : Prop := ∃ i, EInv x y i a0 b0 c0 a1 b1 c1
theorem EA.step {x y a0 b0 c0 a1 b1 c1 : Int} (h : EA x y a0 b0 c0 a1 b1 c1) (h1 : a1 ≠ 0) : EA x y a1 b1 c1 (Int.fmod a0 a1) (b0 - Int.fdiv a0 a1 * b1) (c0 - Int.fdiv a0 a1 * c1) := by
  obtain ⟨i, h⟩ := h
  have := h.step h1
  rw [fmod_sub] at this
  exact ⟨_, this⟩
theorem EA.size {x y a0 b0 c0 a1 b1 c1 : Int} (hx : Bd 1300 x) (hy : Bd 1300 y) (h : EA x y a0 b0 c0 a1 b1 c1) : 0 ≤ a0 ∧ 0 ≤ a1 ∧ SBd 1303 a0 ∧ SBd 1303 b0 ∧ SBd 1303 c0 ∧ SBd 1303 a1 ∧ SBd 1303 b1 ∧ SBd 1303 c1 := by
  obtain ⟨i, h⟩ := h
  have h1 := h.ma0; have h2 := h.ma1; have h3 := h.n0; have h4 := h.n1
  exact ⟨h3, h4, bd_abs_le hx hy (by omega), bd_abs_le hx hy h.mb0, bd_abs_le hx hy h.mc0, bd_abs_le hx hy (by omega), bd_abs_le hx hy h.mb1, bd_abs_le hx hy h.mc1⟩
theorem EA.fin {x y a0 b0 c0 a1 b1 c1 : Int} (h : EA x y a0 b0 c0 a1 b1 c1) (h1 : a1 = 0) : a0 = (Int.gcd x y : Int) ∧ a0 = b0 * x + c0 * y := by
  obtain ⟨i, h⟩ := h
  subst h1
  have h1 := h.g
  have h2 := h.n0
  rw [Int.gcd_zero_right] at h1
  exact ⟨by omega, h.e0⟩
theorem eg1 {x y a b c : Int} (h : a = b * x + c * y) : (a - b * x) % y = 0 := by
  rw [h, show b * x + c * y - b * x = c * y by omega]
  exact Int.mul_emod_left _ _
theorem eg2 {x y a b c : Int} (h : a = b * x + c * y) : (a - (b + y) * x) % y = 0 := by
  rw [h, show b * x + c * y - (b + y) * x = (c - x) * y by rw [Int.add_mul, Int.sub_mul, Int.mul_comm y x]; omega]
  exact Int.mul_emod_left _ _
set_option maxRecDepth 100000 in
set_option maxHeartbeats 8000000 in
theorem egcd_c {prog : Program} {w : World} {p : Program} {loose mean mg mb} {x y : Int} {tx ty : Tok} (hx : Bd 1300 x) (hy : Bd 1300 y) (hx0 : 0 < x) (hy0 : 0 < y) :
    PuN prog w (hd.heap_1 w.params) p loose mean mg mb 70 [.int x tx, .int y ty] 10 (fun h => True)
      (fun v tl => ∃ T a b c t1 t2 t3 n, v = .ref T ∧ tl = [(T, tup3 a b c t1 t2 t3 n)] ∧ a = (Int.gcd x y : Int) ∧ SBd 3000 b ∧ (a - b * x) % y = 0) := by
  w_top off
  k_with_none
  (k_with "pyIter ref" => ((rename LoopStop => hLs'7); refine Stop.here ?_))
  (k_with "JPost" => (dsimp only [JPost]))
  (k_with "exec While Compare cons nil" => ((rename LoopStop => hLs'7); refine Stop.here ?_))
  (k_with "binaryOp FloorDiv int int" => (k_here; k_dflt (refine' floordiv_int (by assumption) ?_ (Or.inl (PyProof.noPylong_of_log2 (SBd.log2 (by assumption) (by assumption) (by decide)))))))
  (k_with "binaryOp Mult int int" => (k_here; k_dflt (refine' mul_int ?_ (mulOk (k := 1303 + 2) (l := 1303) (by exact fdiv_sbd (by assumption) (by assumption)) (by assumption) (by decide)))))
  intro dp un gd cn cs a ccd cl outer A₀ base h₀ L m s Q E news B F X N T hk hP hd hu ret
  refine wpAny_call ?_
  k_dflt (refine' code_defP ?k1 ?k2 ?k3 ?k4 ?k5 ?kA ?kF ?kK ?k6 ?k7 ?k8 ?k9 ?kB ?_ ?c2 ?c3 ?c4 ?c5; (case kA => exact rfl); (case kF => exact rfl); (case kK => assumption); (case k1 => k_asm); (case k2 => k_asm); (case k3 => k_asm); (case k4 => k_asm); (case k5 => k_asm); (case k6 => k_is); (case k7 => k_is); (case k8 => ktr_room); (case k9 => exact BindsTo.of_eq rfl); (case c5 => decide); (case kB => exact locs rfl); (case c2 => exact rfl); (case c3 => exact rfl); (case c4 => exact rfl); k_whole; intro g' L' h' hg' hlow' FG' F' N' B' X' T'; (try dsimp only); (try k_lift B'); (try k_fold))
  have hstop : LoopStop := {}
  k_steps
  refine Stop.go ?_
  rename Fr _ _ _ _ => lF
  with_unfolding_all refine' (ksw_while (σ := (Int × Int × Int × Int × Int × Int) × (Tok × Tok × Tok × Tok × Tok × Tok)) (fun _ => []) (fun z => [(Str.ofString "a", .int z.1.1 z.2.1), (Str.ofString "lx", .int z.1.2.1 z.2.2.1), (Str.ofString "ly", .int z.1.2.2.1 z.2.2.2.1), (Str.ofString "b", .int z.1.2.2.2.1 z.2.2.2.2.1), (Str.ofString "x", .int z.1.2.2.2.2.1 z.2.2.2.2.2.1), (Str.ofString "y", .int z.1.2.2.2.2.2 z.2.2.2.2.2.2)]) (fun _ => True) [Str.ofString "q"]
    (fun z => EA x y z.1.1 z.1.2.1 z.1.2.2.1 z.1.2.2.2.1 z.1.2.2.2.2.1 z.1.2.2.2.2.2) (fun z => z.1.2.2.2.1.toNat) ⟨⟨_, _, _, _, _, _⟩, ⟨_, _, _, _, _, _⟩⟩ lF News.nil trivial ?kk ?kp ?_)
  case kk => kst_all
  case kp => exact ⟨0, EInv.start hx.1 hy.1⟩
  clear lF
  rintro ⟨⟨a0, b0, c0, a1, b1, c1⟩, ⟨t0, u0, v0, t1, u1, v1⟩⟩ u h tk _ hE F' N'
  dsimp only [kstB] at hE F' N'
  obtain ⟨n0, n1, s1, s2, s3, s4, s5, s6⟩ := hE.size hx hy
  k_steps
  · refine' ksw_end ⟨⟨_, _, _, _, _, _⟩, ⟨_, _, _, _, _, _⟩⟩ ?jq1 ?jq2 ?jq3 ?jq4 ?jq5 ?jq6 ?jq7 ?jq8
    case jq1 => set_option maxHeartbeats 400000 in (first | assumption | fail "F")
    case jq2 => set_option maxHeartbeats 400000 in (first | assumption | exact News.nil | fail "N")
    case jq3 => set_option maxHeartbeats 400000 in (first | kst_in | exact List.forall_mem_nil _ | fail "in")
    case jq4 => trivial
    case jq5 => set_option maxHeartbeats 400000 in (first | kst_all | fail "names")
    case jq6 => set_option maxHeartbeats 400000 in (first | ksw_same | fail "same")
    case jq7 => exact hE.step (by assumption)
    case jq8 => exact fmod_lt2 n0 n1 (by assumption)
  all_goals (
    (rename News g' L' _ _ => kN'); (rename Fr h₀ L _ m => kF); (rename News h₀ L _ news => hN9); (rename News h₀ L _ (_ :: _) => kN)
    obtain ⟨e1, e2⟩ := hE.fin (by assumption)
    exact ret _ [_] _ _ ⟨_, _, _, _, _, _, _, _, rfl, rfl, e1, by first | exact SBd.mono s2 (by decide) | exact SBd.mono (SBd.add s2 hy.sbd) (by decide), by first | exact eg1 e2 | exact eg2 e2⟩ (apart_one kN' hg' N) kF (news_one kN hN9))
end

section
theorem egcd1_c {prog : Program} {w : World} {p : Program} {loose mean mg mb} {x y : Int} {tx ty : Tok} (hx : Bd 1300 x) (hy : Bd 1300 y) (hx0 : 0 < x) (hy0 : 0 < y) (hg : Int.gcd x y = 1) : PuN prog w (hd.heap_1 w.params) p loose mean mg mb 70 [.int x tx, .int y ty] 10 (fun _ => True)
    (fun v tl => ∃ T b c t1 t2 t3 n, v = .ref T ∧ tl = [(T, tup3 1 b c t1 t2 t3 n)] ∧ SBd 3000 b ∧ x * b % y = 1 % y) :=
  (egcd_c hx hy hx0 hy0).post fun v tl ⟨T, a, b, c, t1, t2, t3, n, hv, htl, h1, h2, h3⟩ => by
    rw [hg] at h1
    subst h1
    refine ⟨T, b, c, t1, t2, t3, n, hv, htl, h2, ?_⟩
    rw [Int.mul_comm]
    exact (Int.emod_eq_emod_iff_emod_sub_eq_zero.mpr h3).symm
set_option maxRecDepth 100000 in
set_option maxHeartbeats 8000000 in
theorem inv_c {prog : Program} {w : World} {p : Program} {loose mean mg mb} {x y : Int} {tx ty : Tok} (hx : Bd 1300 x) (hy : Bd 1300 y) (hx0 : 0 < x) (hy0 : 0 < y) (hg : Int.gcd x y = 1) :
    PuP prog w (hd.heap_1 w.params) p loose mean mg mb 77 [.int x tx, .int y ty] 20 (fun h => True)
      (fun v tl => ∃ r t, v = .int r t ∧ SBd 3000 r ∧ x * r % y = 1 % y ∧ tl = []) := by
  w_top off
  k_with_none
  (k_with "call ref" => (k_here; (with_reducible show wpAny _ _ (call (Value.ref 70) [Value.int _ _, Value.int _ _]) _ _ _); k_dflt (refine' PuN.use2 (by k_asm) (by k_asm) (by k_asm) (by k_asm) (by k_asm) (by first | exact rfl | assumption) (by trivial) (egcd1_c (by assumption) (by assumption) (by assumption) (by assumption) (by assumption)) (by ktr_room) (by ktr_units) ?_; k_whole; (rintro v7 tl7 h'7 tk'7 ⟨T97, b97, c97, t17, t27, t37, n97, hv7, htl7, hb97, hc97⟩ hlt7 F'7 N'7); subst hv7; subst htl7; (try simp only [List.forall_mem_cons, List.not_mem_nil, false_implies, implies_true, and_true] at hlt7); (repeat (with_reducible (rename And _ _ => hq; cases hq))); (try simp only [List.cons_append, List.nil_append] at N'7); (try k_sweep))))
  intro dp un gd cn cs a ccd cl outer A₀ base h₀ L m s Q E news B F X N T hk hP hd hu ret
  refine wpAny_call ?_
  k_dflt (refine' code_defP ?k1 ?k2 ?k3 ?k4 ?k5 ?kA ?kF ?kK ?k6 ?k7 ?k8 ?k9 ?kB ?_ ?c2 ?c3 ?c4 ?c5; (case kA => exact rfl); (case kF => exact rfl); (case kK => assumption); (case k1 => k_asm); (case k2 => k_asm); (case k3 => k_asm); (case k4 => k_asm); (case k5 => k_asm); (case k6 => k_is); (case k7 => k_is); (case k8 => ktr_room); (case k9 => exact BindsTo.of_eq rfl); (case c5 => decide); (case kB => exact locs rfl); (case c2 => exact rfl); (case c3 => exact rfl); (case c4 => exact rfl); k_whole; intro g' L' h' hg' hlow' FG' F' N' B' X' T'; (try dsimp only); (try k_lift B'); (try k_fold))
  k_steps
  (rename Fr h₀ L _ m => kF); (rename News h₀ L _ news => hN9)
  exact ret _ [] _ _ ⟨_, _, rfl, by assumption, by assumption, rfl⟩ (fun q hq => nomatch hq) kF hN9
end

section
theorem gcd_step {p q : Int} (hp : 0 ≤ p) (hq : 0 ≤ q) (h : q ≠ 0) : 0 ≤ p.fmod q ∧ Int.gcd q (p.fmod q) = Int.gcd p q ∧ (p.fmod q).toNat < q.toNat := by
  have h1 := Int.fmod_nonneg_of_pos p (b := q) (by omega)
  have h2 := Int.fmod_lt_of_pos p (b := q) (by omega)
  refine ⟨h1, ?_, by omega⟩
  rw [Int.fmod_eq_emod_of_nonneg _ hq]
  obtain ⟨a, rfl⟩ := Int.eq_ofNat_of_zero_le hp
  obtain ⟨b, rfl⟩ := Int.eq_ofNat_of_zero_le hq
  rw [← Int.natCast_emod, Int.gcd_natCast_natCast, Int.gcd_natCast_natCast, Nat.gcd_comm b, ← Nat.gcd_rec, Nat.gcd_comm]
set_option maxRecDepth 100000 in
set_option maxHeartbeats 8000000 in
theorem gcd_c {prog : Program} {w : World} {p : Program} {loose mean mg mb} {x y : Int} {tx ty : Tok} (hx : 0 ≤ x) (hy : 0 ≤ y) :
    PuP prog w (hd.heap_1 w.params) p loose mean mg mb 157 [.int x tx, .int y ty] 10 (fun h => True)
      (fun v tl => ∃ r t, v = .int r t ∧ r = (Int.gcd x y : Int) ∧ tl = []) := by
  w_top off
  k_with_none
  (k_with "pyIter ref" => ((rename LoopStop => hLs'7); refine Stop.here ?_))
  (k_with "JPost" => (dsimp only [JPost]))
  (k_with "exec While Compare cons nil" => ((rename LoopStop => hLs'7); refine Stop.here ?_))
  intro dp un gd cn cs a ccd cl outer A₀ base h₀ L m s Q E news B F X N T hk hP hd hu ret
  refine wpAny_call ?_
  k_dflt (refine' code_defP ?k1 ?k2 ?k3 ?k4 ?k5 ?kA ?kF ?kK ?k6 ?k7 ?k8 ?k9 ?kB ?_ ?c2 ?c3 ?c4 ?c5; (case kA => exact rfl); (case kF => exact rfl); (case kK => assumption); (case k1 => k_asm); (case k2 => k_asm); (case k3 => k_asm); (case k4 => k_asm); (case k5 => k_asm); (case k6 => k_is); (case k7 => k_is); (case k8 => ktr_room); (case k9 => exact BindsTo.of_eq rfl); (case c5 => decide); (case kB => exact locs rfl); (case c2 => exact rfl); (case c3 => exact rfl); (case c4 => exact rfl); k_whole; intro g' L' h' hg' hlow' FG' F' N' B' X' T'; (try dsimp only); (try k_lift B'); (try k_fold))
  have hstop : LoopStop := {}
  k_steps
  refine Stop.go ?_
  rename Fr _ _ _ _ => lF
  with_unfolding_all refine' (ksw_while (σ := Int × Tok × Int × Tok) (fun _ => []) (fun z => [(Str.ofString "p", .int z.1 z.2.1), (Str.ofString "q", .int z.2.2.1 z.2.2.2)]) (fun _ => True) []
    (fun z => 0 ≤ z.1 ∧ 0 ≤ z.2.2.1 ∧ Int.gcd z.1 z.2.2.1 = Int.gcd x y) (fun z => z.2.2.1.toNat) ⟨_, _, _, _⟩ lF News.nil trivial ?kk ?kp ?_)
  case kk => kst_all
  case kp => exact ⟨hx, hy, rfl⟩
  clear lF
  rintro ⟨a1, t1, a2, t2⟩ u h tk _ ⟨q0, q1, q2⟩ F' N'
  dsimp only [kstB] at q0 q1 q2 F' N'
  k_steps
  · refine' ksw_end ⟨_, _, _, _⟩ ?jq1 ?jq2 ?jq3 ?jq4 ?jq5 ?jq6 ?jq7 ?jq8
    case jq1 => set_option maxHeartbeats 400000 in (first | assumption | fail "F")
    case jq2 => set_option maxHeartbeats 400000 in (first | assumption | exact News.nil | fail "N")
    case jq3 => set_option maxHeartbeats 400000 in (first | kst_in | exact List.forall_mem_nil _ | fail "in")
    case jq4 => trivial
    case jq5 => set_option maxHeartbeats 400000 in (first | kst_all | fail "names")
    case jq6 => set_option maxHeartbeats 400000 in (first | ksw_same | fail "same")
    case jq7 => exact ⟨q1, (gcd_step q0 q1 (by assumption)).1, (gcd_step q0 q1 (by assumption)).2.1.trans q2⟩
    case jq8 => exact (gcd_step q0 q1 (by assumption)).2.2
  · (rename Fr h₀ L _ m => kF); (rename News h₀ L _ news => hN9)
    have e0 := (by assumption : a2 = 0)
    subst e0
    exact ret _ [] _ _ ⟨_, _, rfl, (by rw [← q2, Int.gcd_zero_right]; omega), rfl⟩ (fun q hq => nomatch hq) kF hN9
set_option maxRecDepth 100000 in
set_option maxHeartbeats 8000000 in
theorem arp_c {prog : Program} {w : World} {p : Program} {loose mean mg mb} {x y : Int} {tx ty : Tok} (hx : 0 ≤ x) (hy : 0 ≤ y) :
    PuP prog w (hd.heap_1 w.params) p loose mean mg mb 164 [.int x tx, .int y ty] 20 (fun h => True)
      (fun v tl => v = .bool (decide ((Int.gcd x y : Int) = 1)) ∧ tl = []) := by
  (k_with "call ref" => (k_here; (with_reducible show wpAny _ _ (call (Value.ref 157) [Value.int _ _, Value.int _ _]) _ _ _); k_dflt (refine' PuP.use2 (by k_asm) (by k_asm) (by k_asm) (by k_asm) (by k_asm) (by first | exact rfl | assumption) (by trivial) (gcd_c (by omega) (by omega)) (by ktr_room) (by ktr_units) ?_; k_whole; (rintro v7 tl7 h'7 tk'7 ⟨r7, t7, hv7, hr7, htl7⟩ hlt7 F'7 N'7); clear hlt7; subst hv7; subst htl7; (try simp only [List.nil_append] at N'7); subst hr7; (try k_sweep))))
  intro dp un gd cn cs a ccd cl outer A₀ base h₀ L m s Q E news B F X N T hk hP hd hu ret
  refine wpAny_call ?_
  k_dflt (refine' code_defP ?k1 ?k2 ?k3 ?k4 ?k5 ?kA ?kF ?kK ?k6 ?k7 ?k8 ?k9 ?kB ?_ ?c2 ?c3 ?c4 ?c5; (case kA => exact rfl); (case kF => exact rfl); (case kK => assumption); (case k1 => k_asm); (case k2 => k_asm); (case k3 => k_asm); (case k4 => k_asm); (case k5 => k_asm); (case k6 => k_is); (case k7 => k_is); (case k8 => ktr_room); (case k9 => exact BindsTo.of_eq rfl); (case c5 => decide); (case kB => exact locs rfl); (case c2 => exact rfl); (case c3 => exact rfl); (case c4 => exact rfl); k_whole; intro g' L' h' hg' hlow' FG' F' N' B' X' T'; (try dsimp only); (try k_lift B'); (try k_fold))
  k_steps
  (rename Fr h₀ L _ m => kF); (rename News h₀ L _ news => hN9)
  exact ret _ [] _ _ ⟨rfl, rfl⟩ (fun q hq => nomatch hq) kF hN9
end

section
theorem arp1_c {prog : Program} {w : World} {p : Program} {loose mean mg mb} {x y : Int} {tx ty : Tok} (hx : 0 ≤ x) (hy : 0 ≤ y) (hg : Int.gcd x y = 1) : PuP prog w (hd.heap_1 w.params) p loose mean mg mb 164 [.int x tx, .int y ty] 20 (fun _ => True) (fun v tl => v = .bool true ∧ tl = []) :=
  (arp_c hx hy).post fun v tl ⟨hv, htl⟩ => ⟨by rw [hv, hg]; rfl, htl⟩
noncomputable abbrev tup2 (a b : Int) (t u : Tok) (n : Nat) : Obj := { cls := .type "tuple", data := .seq #[.int a t, .int b u] n }
theorem bf_sq {n b c : Int} (h1 : 1 ≤ n) (hb : Bd 1300 n) (h : b * c % n = 1 % n) : 0 ≤ pmod b 2 n ∧ SBd 3000 (pmod b 2 n) ∧ SBd 3000 (pmod c 2 n) ∧ pmod b 2 n * pmod c 2 n % n = 1 % n := by
  obtain ⟨p0, p1⟩ := pmod_nn (x := b) (e := 2) h1
  obtain ⟨q0, q1⟩ := pmod_nn (x := c) (e := 2) h1
  refine ⟨p0, SBd.mono (Bd.sbd (k := 1300) ⟨p0, Int.lt_trans p1 hb.2⟩) (by decide), SBd.mono (Bd.sbd (k := 1300) ⟨q0, Int.lt_trans q1 hb.2⟩) (by decide), ?_⟩
  unfold pmod
  rw [← Int.mul_emod, ← Int.mul_pow, show (2 : Int).toNat = 2 from rfl, Int.pow_succ, Int.pow_succ, Int.pow_zero, Int.one_mul, Int.mul_emod, h, ← Int.mul_emod, Int.one_mul]
set_option maxRecDepth 100000 in
set_option maxHeartbeats 8000000 in
theorem update_c {prog : Program} {w : World} {p : Program} {loose mean mg mb}  {kn : KN} (h0 : 0 ≤ kn.n) (h1 : 1 ≤ kn.n) (hnb : Bd 1300 kn.n) (hg : Int.gcd kn.n 2 = 1) :
    KyP prog w (hd.heap_1 w.params) p loose mean mg mb 206 284 kn ([]) (fun x => [.ref x]) 60
      (fun v tl => ∃ T b c t1 t2 n, v = .ref T ∧ tl = [(T, tup2 b c t1 t2 n)] ∧ 0 ≤ b ∧ SBd 3000 b ∧ SBd 3000 c ∧ b * c % kn.n = 1 % kn.n) := by
  w_top off
  k_with_none
  (k_with "call ref" => (k_here; (with_reducible show wpAny _ _ (call (Value.ref 164) [Value.int _ _, Value.int _ _]) _ _ _); k_dflt (refine' PuP.use2 (by k_asm) (by k_asm) (by k_asm) (by k_asm) (by k_asm) (by first | exact rfl | assumption) (by trivial) (arp1_c (by first | assumption | omega) (by first | assumption | omega) (by assumption)) (by ktr_room) (by ktr_units) ?_; k_whole; (rintro v7 tl7 h'7 tk'7 ⟨hv7, htl7⟩ hlt7 F'7 N'7); clear hlt7; subst hv7; subst htl7; (try simp only [List.nil_append] at N'7); (try k_sweep))))
  (k_with "call builtin:pow" => ((with_reducible show wpAny _ _ (call (Value.builtin _) [Value.int _ _, Value.int _ _, Value.int _ _]) _ _ _); k_dflt (refine' call_pow3 (by first | assumption | omega) (by first | assumption | omega) ?_)))
  (k_with "call ref" => (k_here; (with_reducible show wpAny _ _ (call (Value.ref 77) [Value.int _ _, Value.int _ _]) _ _ _); k_dflt (refine' PuP.use2 (by k_asm) (by k_asm) (by k_asm) (by k_asm) (by k_asm) (by first | exact rfl | assumption) (by trivial) (inv_c (by with_reducible assumption) (by with_reducible assumption) (by with_reducible assumption) (by with_reducible assumption) (by with_reducible assumption)) (by ktr_room) (by ktr_units) ?_; k_whole; (rintro v7 tl7 h'7 tk'7 ⟨r7, t7, hv7, hrs7, hri7, htl7⟩ hlt7 F'7 N'7); clear hlt7; subst hv7; subst htl7; (try simp only [List.nil_append] at N'7); (try k_sweep))))
  obtain ⟨nn, ee, kd, kp, kq, kx1, kx2, kco⟩ := kn
  dsimp only at *
  intro dp un gd cn cs a ccd cl outer A₀ base h₀ L m s Q E x d z rest B F X N N2 hlo T hk hxd hoff hBF hd hu ret
  refine wpAny_call ?_
  k_dflt (refine' code_defSP B F X N N2 hoff T ?kA ?kF ?kK ?k6 ?k7 ?k8 ?k9 ?kB ?_ ?c2 ?c3 ?c4 ?c5; (case kA => exact rfl); (case kF => exact rfl); (case kK => assumption); (case k6 => k_is); (case k7 => k_is); (case k8 => ktr_room); (case k9 => exact BindsTo.of_eq rfl); (case kB => exact locs rfl); (case c2 => exact rfl); (case c3 => exact rfl); (case c4 => exact rfl); (case c5 => decide); k_whole; intro g' L' h' hg' hlow' FG' F' N' B' X' T'; (obtain ⟨bf, bi, zk0, zk1, zk2, zk3, zk4, zk5, zk6, zk7, zk8, zk9, zv0, zv1, zv2, zv3, zv4, zv5, zv6, zv7, zv8, zv9⟩ := z); (try dsimp only [keyDict] at N'); (try simp only [List.forall_mem_cons, List.not_mem_nil, false_implies, implies_true, and_true] at hlow'); (obtain ⟨hlow1, hlow2⟩ := hlow'); (try dsimp only at hlow1 hlow2); (try dsimp only); (try k_lift B'); (try k_fold))
  have hn0 : 0 < nn := by omega
  have h20 : (0 : Int) < 2 := by decide
  have hb2 : Bd 1300 (2 : Int) := Bd.mono (Bd.lit (by decide) (by decide)) (by decide)
  have hg2 : Int.gcd 2 nn = 1 := by rw [Int.gcd_comm]; exact hg
  dsimp only [BF] at hBF
  rcases hBF with hbf | ⟨hbf0, hbi, hinv⟩
  all_goals k_steps
  · (rename Fr h₀ L _ m => kF); (rename News h₀ L _ rest => hN9); (rename News g' L' _ (_ :: _) => kN'); (rename News h₀ L _ (_ :: _) => kN)
    exact ret _ [_] ⟨_, _, _, _, _, _, _, _, _, _, _, _, _, _, _, _, _, _, _, _, _, _⟩ _ _ (.inr ⟨(by decide : (0 : Int) ≤ 2), by assumption, by assumption⟩) ⟨_, 2, _, _, _, _, rfl, rfl, by decide, SBd.mono (.lit (by decide)) (by decide), by assumption, by assumption⟩ (apartS kN' hg' N2 hoff (by intro q hq; rw [List.mem_singleton.mp hq]; k_mem)) (by intro q hq; rw [List.mem_singleton.mp hq]; exact ⟨by k_ne, by k_ne⟩) kF (ky_end (tl := [_]) kN (by k_mem) (by k_mem) (by intro q hq; rw [List.mem_singleton.mp hq]; k_mem) hN9)
  · (rename Fr h₀ L _ m => kF); (rename News h₀ L _ rest => hN9); (rename News g' L' _ (_ :: _) => kN'); (rename News h₀ L _ (_ :: _) => kN)
    obtain ⟨e1, e2, e3, e4⟩ := bf_sq (b := bf) (c := bi) h1 hnb hinv
    exact ret _ [_] ⟨_, _, _, _, _, _, _, _, _, _, _, _, _, _, _, _, _, _, _, _, _, _⟩ _ _ (.inr ⟨e1, e3, e4⟩) ⟨_, _, _, _, _, _, rfl, rfl, e1, e2, e3, e4⟩ (apartS kN' hg' N2 hoff (by intro q hq; rw [List.mem_singleton.mp hq]; k_mem)) (by intro q hq; rw [List.mem_singleton.mp hq]; exact ⟨by k_ne, by k_ne⟩) kF (ky_end (tl := [_]) kN (by k_mem) (by k_mem) (by intro q hq; rw [List.mem_singleton.mp hq]; k_mem) hN9)
end

section
set_option maxRecDepth 100000 in
set_option maxHeartbeats 8000000 in
theorem blind_c {prog : Program} {w : World} {p : Program} {loose mean mg mb} {y : Int} {ty : Tok} {kn : KN} (h0 : 0 ≤ kn.n) (h1 : 1 ≤ kn.n) (hnb : Bd 1300 kn.n) (hg : Int.gcd kn.n 2 = 1) (he : 0 ≤ kn.e) (hy : Bd 5000 y) :
    KyP prog w (hd.heap_1 w.params) p loose mean mg mb 185 284 kn ([]) (fun x => [.ref x, .int y ty]) 80
      (fun v tl => ∃ T b c bl t1 t2 n, v = .ref T ∧ tl = [(T, tup2 bl c t1 t2 n)] ∧ 0 ≤ b ∧ SBd 3000 c ∧ b * c % kn.n = 1 % kn.n ∧ bl = Int.fmod (y * pmod b kn.e kn.n) kn.n ∧ 0 ≤ bl ∧ bl < kn.n) := by
  w_top off
  k_with_none
  (k_with "call builtin:pow" => ((with_reducible show wpAny _ _ (call (Value.builtin _) [Value.int _ _, Value.int _ _, Value.int _ _]) _ _ _); k_dflt (refine' call_pow3 (by first | assumption | omega) (by first | assumption | omega) ?_)))
  (k_with "binaryOp Mult int int" => (k_here; k_dflt (refine' mul_int ?_ (mulOk (k := 5000) (l := 1300) (by exact Bd.sbd (by assumption)) (by exact Bd.sbd (pmod_Bd (by assumption) (by assumption))) (by decide)))))
  (k_with "call ref" => (k_here; (with_reducible show wpAny _ _ (call (Value.ref 206) _) _ _ _); k_dflt (refine' KyP.use2 (k := ⟨_, _, _, _, _, _, _, _⟩) (z := ⟨_, _, _, _, _, _, _, _, _, _, _, _, _, _, _, _, _, _, _, _, _, _⟩) (by k_asm) (by k_asm) (by k_asm) (by k_asm) (by k_asm) (by first | exact rfl | assumption) (by k_mem) (by k_ne) (by k_updF) (by with_reducible assumption) (by exact (fun q hq => nomatch hq)) (update_c (by assumption) (by assumption) (by assumption) (by assumption)) (by ktr_room) (by ktr_units) ?_; k_whole; (rintro v7 tl7 z'7 h'7 tk'7 hBF'7 ⟨T97, b97, c97, t917, t927, n97, hv7, htl7, hb07, hbs7, hcs7, hbc7⟩ hlt7 F'7 N'7); subst hv7; subst htl7; (try simp only [List.forall_mem_cons, List.not_mem_nil, false_implies, implies_true, and_true] at hlt7); (repeat (with_reducible (rename And _ _ => hq; cases hq))); (try simp only [List.cons_append, List.nil_append] at N'7); (obtain ⟨bf7, bi7, zk07, zk17, zk27, zk37, zk47, zk57, zk67, zk77, zk87, zk97, zv07, zv17, zv27, zv37, zv47, zv57, zv67, zv77, zv87, zv97⟩ := z'7); (try dsimp only [keyDict] at N'7); (try k_sweep))))
  obtain ⟨nn, ee, kd, kp, kq, kx1, kx2, kco⟩ := kn
  dsimp only at *
  intro dp un gd cn cs a ccd cl outer A₀ base h₀ L m s Q E x d z rest B F X N N2 hlo T hk hxd hoff hBF hd hu ret
  refine wpAny_call ?_
  k_dflt (refine' code_defSP B F X N N2 hoff T ?kA ?kF ?kK ?k6 ?k7 ?k8 ?k9 ?kB ?_ ?c2 ?c3 ?c4 ?c5; (case kA => exact rfl); (case kF => exact rfl); (case kK => assumption); (case k6 => k_is); (case k7 => k_is); (case k8 => ktr_room); (case k9 => exact BindsTo.of_eq rfl); (case kB => exact locs rfl); (case c2 => exact rfl); (case c3 => exact rfl); (case c4 => exact rfl); (case c5 => decide); k_whole; intro g' L' h' hg' hlow' FG' F' N' B' X' T'; (obtain ⟨bf, bi, zk0, zk1, zk2, zk3, zk4, zk5, zk6, zk7, zk8, zk9, zv0, zv1, zv2, zv3, zv4, zv5, zv6, zv7, zv8, zv9⟩ := z); (try dsimp only [keyDict] at N'); (try simp only [List.forall_mem_cons, List.not_mem_nil, false_implies, implies_true, and_true] at hlow'); (obtain ⟨hlow1, hlow2⟩ := hlow'); (try dsimp only at hlow1 hlow2); (try dsimp only); (try k_lift B'); (try k_fold))
  have hn0 : nn ≠ 0 := by omega
  k_steps
  (rename Fr h₀ L _ m => kF); (rename News h₀ L _ rest => hN9); (rename News g' L' _ (_ :: _) => kN'); (rename News h₀ L _ (_ :: _) => kN)
  exact ret _ [_] ⟨_, _, _, _, _, _, _, _, _, _, _, _, _, _, _, _, _, _, _, _, _, _⟩ _ _ (by assumption) ⟨_, _, _, _, _, _, _, rfl, rfl, by assumption, by assumption, by assumption, rfl, fmod_lo h1, fmod_hi h1⟩ (apartS kN' hg' N2 hoff (by intro q hq; rw [List.mem_singleton.mp hq]; k_mem)) (by intro q hq; rw [List.mem_singleton.mp hq]; exact ⟨by k_ne, by k_ne⟩) kF (ky_end (tl := [_]) kN (by k_mem) (by k_mem) (by intro q hq; rw [List.mem_singleton.mp hq]; k_mem) hN9)
set_option maxRecDepth 100000 in
set_option maxHeartbeats 8000000 in
theorem unblind_c {prog : Program} {w : World} {p : Program} {loose mean mg mb} {y c : Int} {ty tc : Tok} {kn : KN} (h1 : 1 ≤ kn.n) (hc : SBd 3000 c) (hy : Bd 2000 y) :
    KyP prog w (hd.heap_1 w.params) p loose mean mg mb 192 284 kn ([]) (fun x => [.ref x, .int y ty, .int c tc]) 20
      (fun v tl => ∃ r t, v = .int r t ∧ r = Int.fmod (c * y) kn.n ∧ tl = []) := by
  (k_with "binaryOp Mult int int" => (k_here; k_dflt (refine' mul_int ?_ (mulOk (k := 3000) (l := 2000) (by assumption) (by exact Bd.sbd (by assumption)) (by decide)))))
  obtain ⟨nn, ee, kd, kp, kq, kx1, kx2, kco⟩ := kn
  dsimp only at *
  intro dp un gd cn cs a ccd cl outer A₀ base h₀ L m s Q E x d z rest B F X N N2 hlo T hk hxd hoff hBF hd hu ret
  refine wpAny_call ?_
  k_dflt (refine' code_defSP B F X N N2 hoff T ?kA ?kF ?kK ?k6 ?k7 ?k8 ?k9 ?kB ?_ ?c2 ?c3 ?c4 ?c5; (case kA => exact rfl); (case kF => exact rfl); (case kK => assumption); (case k6 => k_is); (case k7 => k_is); (case k8 => ktr_room); (case k9 => exact BindsTo.of_eq rfl); (case kB => exact locs rfl); (case c2 => exact rfl); (case c3 => exact rfl); (case c4 => exact rfl); (case c5 => decide); k_whole; intro g' L' h' hg' hlow' FG' F' N' B' X' T'; (obtain ⟨bf, bi, zk0, zk1, zk2, zk3, zk4, zk5, zk6, zk7, zk8, zk9, zv0, zv1, zv2, zv3, zv4, zv5, zv6, zv7, zv8, zv9⟩ := z); (try dsimp only [keyDict] at N'); (try simp only [List.forall_mem_cons, List.not_mem_nil, false_implies, implies_true, and_true] at hlow'); (obtain ⟨hlow1, hlow2⟩ := hlow'); (try dsimp only at hlow1 hlow2); (try dsimp only); (try k_lift B'); (try k_fold))
  have hn0 : nn ≠ 0 := by omega
  k_steps
  (rename Fr h₀ L _ m => kF); (rename News h₀ L _ rest => hN9); (rename News g' L' _ (_ :: _) => kN'); (rename News h₀ L _ (_ :: _) => kN)
  exact ret _ [] ⟨_, _, _, _, _, _, _, _, _, _, _, _, _, _, _, _, _, _, _, _, _, _⟩ _ _ hBF ⟨_, _, rfl, rfl, rfl⟩ (fun q hq => nomatch hq) (fun q hq => nomatch hq) kF (ky_end (tl := []) kN (by k_mem) (by k_mem) (fun q hq => nomatch hq) hN9)
end

section
set_option maxRecDepth 100000 in
set_option maxHeartbeats 8000000 in
theorem bdec_c {prog : Program} {w : World} {p : Program} {loose mean mg mb} {y : Int} {ty : Tok} {kn : KN} (hK : KOk kn) (hy : Bd 5000 y) :
    KyP prog w (hd.heap_1 w.params) p loose mean mg mb 274 284 kn ([]) (fun x => [.ref x, .int y ty]) 120
      (fun v tl => ∃ r t, v = .int r t ∧ r = pmod y kn.d kn.n ∧ tl = []) := by
  w_top off
  k_with_none
  (k_with "call builtin:pow" => ((with_reducible show wpAny _ _ (call (Value.builtin _) [Value.int _ _, Value.int _ _, Value.int _ _]) _ _ _); k_dflt (refine' call_pow3 (by first | assumption | omega) (by first | assumption | omega) ?_)))
  (k_with "binaryOp Mult int int" => (k_here; k_dflt (refine' mul_int ?_ (mulOk (k := 610 + 610 + 1) (l := 3000) (by exact SBd.sub (Bd.sbd (pmod_Bd (by assumption) (by assumption))) (Bd.sbd (pmod_Bd (by assumption) (by assumption)))) (by assumption) (by decide)))))
  (k_with "binaryOp Mult int int" => (k_here; k_dflt (refine' mul_int ?_ (mulOk (k := 610) (l := 610) (by exact Bd.sbd (by assumption)) (by exact Bd.sbd (fmod_Bd (by assumption) (by assumption))) (by decide)))))
  (k_with "call ref" => (k_here; (with_reducible show wpAny _ _ (call (Value.ref 185) _) _ _ _); k_dflt (refine' KyP.use2 (k := ⟨_, _, _, _, _, _, _, _⟩) (z := ⟨_, _, _, _, _, _, _, _, _, _, _, _, _, _, _, _, _, _, _, _, _, _⟩) (by k_asm) (by k_asm) (by k_asm) (by k_asm) (by k_asm) (by first | exact rfl | assumption) (by k_mem) (by k_ne) (by k_updF) (by with_reducible assumption) (by exact (fun q hq => nomatch hq)) (blind_c (by assumption) (by assumption) (by assumption) (by assumption) (by assumption) (by assumption)) (by ktr_room) (by ktr_units) ?_; k_whole; (rintro v7 tl7 z'7 h'7 tk'7 hBF'7 ⟨T97, b97, c97, bl97, t917, t927, n97, hv7, htl7, hb07, hcs7, hbc7, hbl7, hbl07, hbl17⟩ hlt7 F'7 N'7); subst hv7; subst htl7; (try simp only [List.forall_mem_cons, List.not_mem_nil, false_implies, implies_true, and_true] at hlt7); (repeat (with_reducible (rename And _ _ => hq; cases hq))); (try simp only [List.cons_append, List.nil_append] at N'7); (obtain ⟨bf7, bi7, zk07, zk17, zk27, zk37, zk47, zk57, zk67, zk77, zk87, zk97, zv07, zv17, zv27, zv37, zv47, zv57, zv67, zv77, zv87, zv97⟩ := z'7); (try dsimp only [keyDict] at N'7); (try k_sweep))))
  (k_with "call ref" => (k_here; (with_reducible show wpAny _ _ (call (Value.ref 192) _) _ _ _); k_dflt (refine' KyP.use2 (k := ⟨_, _, _, _, _, _, _, _⟩) (z := ⟨_, _, _, _, _, _, _, _, _, _, _, _, _, _, _, _, _, _, _, _, _, _⟩) (by k_asm) (by k_asm) (by k_asm) (by k_asm) (by k_asm) (by first | exact rfl | assumption) (by k_mem) (by k_ne) (by k_updF) (by with_reducible assumption) (by exact (fun q hq => nomatch hq)) (unblind_c (by assumption) (by assumption) (by first | assumption | exact Bd.mono (Bd.add (pmod_Bd (by assumption) (by assumption)) (Bd.mul (by assumption) (fmod_Bd (by assumption) (by assumption)))) (by decide))) (by ktr_room) (by ktr_units) ?_; k_whole; (rintro v7 tl7 z'7 h'7 tk'7 hBF'7 ⟨r7, t7, hv7, hr7, htl7⟩ hlt7 F'7 N'7); clear hlt7; subst hv7; subst htl7; (try simp only [List.nil_append] at N'7); (obtain ⟨bf7, bi7, zk07, zk17, zk27, zk37, zk47, zk57, zk67, zk77, zk87, zk97, zv07, zv17, zv27, zv37, zv47, zv57, zv67, zv77, zv87, zv97⟩ := z'7); (try dsimp only [keyDict] at N'7); subst hr7; (try k_sweep))))
  obtain ⟨nn, ee, kd, kp, kq, kx1, kx2, kco⟩ := kn
  dsimp only at *
  have hK2 := hK
  obtain ⟨h0, h1, hnb, hg, he, hp1, hq1, hpb, hqb, hx1, hx2, hco, hD⟩ := hK2
  dsimp only at h0 h1 hnb hg he hp1 hq1 hpb hqb hx1 hx2 hco hD
  intro dp un gd cn cs a ccd cl outer A₀ base h₀ L m s Q E x d z rest B F X N N2 hlo T hk hxd hoff hBF hd hu ret
  refine wpAny_call ?_
  k_dflt (refine' code_defSP B F X N N2 hoff T ?kA ?kF ?kK ?k6 ?k7 ?k8 ?k9 ?kB ?_ ?c2 ?c3 ?c4 ?c5; (case kA => exact rfl); (case kF => exact rfl); (case kK => assumption); (case k6 => k_is); (case k7 => k_is); (case k8 => ktr_room); (case k9 => exact BindsTo.of_eq rfl); (case kB => exact locs rfl); (case c2 => exact rfl); (case c3 => exact rfl); (case c4 => exact rfl); (case c5 => decide); k_whole; intro g' L' h' hg' hlow' FG' F' N' B' X' T'; (obtain ⟨bf, bi, zk0, zk1, zk2, zk3, zk4, zk5, zk6, zk7, zk8, zk9, zv0, zv1, zv2, zv3, zv4, zv5, zv6, zv7, zv8, zv9⟩ := z); (try dsimp only [keyDict] at N'); (try simp only [List.forall_mem_cons, List.not_mem_nil, false_implies, implies_true, and_true] at hlow'); (obtain ⟨hlow1, hlow2⟩ := hlow'); (try dsimp only at hlow1 hlow2); (try dsimp only); (try k_lift B'); (try k_fold))
  have hp0 : kp ≠ 0 := by omega
  have hq0 : kq ≠ 0 := by omega
  k_steps
  (rename Fr h₀ L _ m => kF); (rename News h₀ L _ rest => hN9); (rename News g' L' _ (_ :: _) => kN'); (rename News h₀ L _ (_ :: _) => kN)
  rename (_ = Int.fmod (y * pmod _ _ _) _) => hb9
  subst hb9
  exact ret _ [] ⟨_, _, _, _, _, _, _, _, _, _, _, _, _, _, _, _, _, _, _, _, _, _⟩ _ _ (by assumption) ⟨_, _, rfl, hD _ _ _ hy.1 (by assumption) (by assumption), rfl⟩ (fun q hq => nomatch hq) (fun q hq => nomatch hq) kF (ky_end (tl := []) kN (by k_mem) (by k_mem) (fun q hq => nomatch hq) hN9)
end

section
set_option maxRecDepth 100000 in
set_option maxHeartbeats 8000000 in
theorem b2i_c {prog : Program} {w : World} {p : Program} {loose mean mg mb} {b : Array UInt8} {tb : Tok} (hb : b.size ≤ 10000) :
    PuP prog w (hd.heap_1 w.params) p loose mean mg mb 98 [.bytes b tb] 10 (fun h => True)
      (fun v tl => ∃ r t, v = .int r t ∧ r = KFB.value (KBw.bInts b) ∧ tl = []) := by
  w_top off
  k_with_none
  (k_with "pyIter ref" => ((rename LoopStop => hLs'7); refine Stop.here ?_))
  (k_with "JPost" => (dsimp only [JPost]))
  (k_with "callWith ref" => (k_here; k_dflt (refine' callWith_fb (by k_asm) (by k_mem) ?_ (by rfl) (by rfl); k_whole)))
  (k_with "call ref" => (k_here; k_dflt (refine' call_fb (by k_asm) (by k_mem) (by assumption) ?_); intro _ _))
  intro dp un gd cn cs a ccd cl outer A₀ base h₀ L m s Q E news B F X N T hk hP hd hu ret
  refine wpAny_call ?_
  k_dflt (refine' code_defP ?k1 ?k2 ?k3 ?k4 ?k5 ?kA ?kF ?kK ?k6 ?k7 ?k8 ?k9 ?kB ?_ ?c2 ?c3 ?c4 ?c5; (case kA => exact rfl); (case kF => exact rfl); (case kK => assumption); (case k1 => k_asm); (case k2 => k_asm); (case k3 => k_asm); (case k4 => k_asm); (case k5 => k_asm); (case k6 => k_is); (case k7 => k_is); (case k8 => ktr_room); (case k9 => exact BindsTo.of_eq rfl); (case c5 => decide); (case kB => exact locs rfl); (case c2 => exact rfl); (case c3 => exact rfl); (case c4 => exact rfl); k_whole; intro g' L' h' hg' hlow' FG' F' N' B' X' T'; (try dsimp only); (try k_lift B'); (try k_fold))
  k_steps
  (rename Fr h₀ L _ m => kF); (rename News h₀ L _ news => hN9)
  exact ret _ [] _ _ ⟨_, _, rfl, rfl, rfl⟩ (fun q hq => nomatch hq) kF hN9
theorem need_to {x : Int} (h0 : 0 ≤ x) : x < 256 ^ need x := need_lt h0
set_option maxRecDepth 100000 in
set_option maxHeartbeats 8000000 in
theorem i2b_fill {prog : Program} {w : World} {p : Program} {loose mean mg mb} {x f : Int} {tx tf : Tok} (h0 : 0 ≤ x) (f0 : 0 < f) (f1 : f ≤ 10000) (h1 : x < 256 ^ f.toNat) :
    PuP prog w (hd.heap_1 w.params) p loose mean mg mb 106 [.int x tx, .int f tf] 10 (fun h => True)
      (fun v tl => (∃ b t, v = .bytes b t ∧ KBw.bInts b = octs f.toNat x) ∧ tl = []) := by
  (k_with "call builtin:int.to_bytes" => (k_here; (try simp only [List.cons_append, List.nil_append]); (with_reducible show wpAny _ _ (call (Value.builtin "int.to_bytes") [Value.int _ _, Value.int _ _, Value.str _ _]) _ _ _); k_dflt (refine' call_tbI (by omega) (by omega) (by assumption) (by first | assumption | exact need_to (by assumption)) ?_); intro b'7 t'7 k'7 hB'7))
  intro dp un gd cn cs a ccd cl outer A₀ base h₀ L m s Q E news B F X N T hk hP hd hu ret
  refine wpAny_call ?_
  k_dflt (refine' code_defP ?k1 ?k2 ?k3 ?k4 ?k5 ?kA ?kF ?kK ?k6 ?k7 ?k8 ?k9 ?kB ?_ ?c2 ?c3 ?c4 ?c5; (case kA => exact rfl); (case kF => exact rfl); (case kK => assumption); (case k1 => k_asm); (case k2 => k_asm); (case k3 => k_asm); (case k4 => k_asm); (case k5 => k_asm); (case k6 => k_is); (case k7 => k_is); (case k8 => ktr_room); (case k9 => exact binds_K (by k_in) rfl (by k_is) rfl rfl rfl); (case c5 => decide); (case kB => exact locs rfl); (case c2 => exact rfl); (case c3 => exact rfl); (case c4 => exact rfl); k_whole; intro g' L' h' hg' hlow' FG' F' N' B' X' T'; (try dsimp only); (try k_lift B'); (try k_fold))
  k_steps
  all_goals ((rename Fr h₀ L _ m => kF); (rename News h₀ L _ news => hN9))
  exact ret _ [] _ _ ⟨⟨_, _, rfl, by assumption⟩, rfl⟩ (fun q hq => nomatch hq) kF hN9
theorem bszo_c {prog : Program} {w : World} {p : Program} {loose mean mg mb} {x : Int} {tx : Tok} (h0 : x ≠ 0) (hx : SBd 5000 x) : PuP prog w (hd.heap_1 w.params) p loose mean mg mb 56 [.int x tx] 20 (fun _ => True)
    (fun v tl => ∃ r t, v = .int r t ∧ r = osz x ∧ tl = []) :=
  (bsz_c hx).post fun v tl ⟨r, t, hv, hr, htl⟩ => ⟨r, t, hv, hr.trans (osz_bsz h0), htl⟩
end

section
set_option maxRecDepth 100000 in
set_option maxHeartbeats 8000000 in
theorem dec_c {prog : Program} {w : World} {p : Program} {loose mean mg mb} {b : Array UInt8} {tb : Tok} {ks cz rs : List Int} {kn : KN} (hK : KOk kn) (hb : KBw.bInts b = ks) (hO : Octs ks) (hk : ks.length ≤ 600) (h12 : 12 ≤ osz kn.n) (hl : (ks.length : Int) ≤ osz kn.n) (hc : octs (osz kn.n).toNat (pmod (val ks) kn.d kn.n) = cz) (hcl : Clear cz rs) :
    KyP prog w (hd.heap_1 w.params) p loose mean mg mb 150 284 kn ([]) (fun x => [.bytes b tb, .ref x]) 160
      (fun v tl => ∃ b t, v = .bytes b t ∧ KBw.bInts b = rs ∧ tl = []) := by
  w_top off
  k_with_none
  (k_with "getMethod bytes" => (k_here; refine method_find ?_))
  (k_with "call builtin:bytes.find" => (k_here; (try simp only [List.cons_append, List.nil_append]); k_dflt (refine' call_findI (cl := ?kc) (by assumption) (by omega) ?_); intro i97 k97 hi97))
  (k_with "compareOp NotEq bytes bytes" => (k_here; k_dflt (refine' ne_head (by assumption) ?_); intro z97 hz97))
  (k_with "call ref" => (k_here; (with_reducible show wpAny _ _ (call (Value.ref 56) [Value.int _ _]) _ _ _); k_dflt (refine' PuP.use2 (by k_asm) (by k_asm) (by k_asm) (by k_asm) (by k_asm) (by first | exact rfl | assumption) (by trivial) (bszo_c (by first | assumption | omega) (by assumption)) (by ktr_room) (by ktr_units) ?_; k_whole; (rintro v7 tl7 h'7 tk'7 ⟨r7, t7, hv7, hr7, htl7⟩ hlt7 F'7 N'7); clear hlt7; subst hv7; subst htl7; (try simp only [List.nil_append] at N'7); subst hr7; (try k_sweep))))
  (k_with "call ref" => (k_here; (with_reducible show wpAny _ _ (call (Value.ref 98) [Value.bytes _ _]) _ _ _); k_dflt (refine' PuP.use2 (by k_asm) (by k_asm) (by k_asm) (by k_asm) (by k_asm) (by first | exact rfl | assumption) (by trivial) (b2i_c (by exact size_le (by assumption) (by first | assumption | omega))) (by ktr_room) (by ktr_units) ?_; k_whole; (rintro v7 tl7 h'7 tk'7 ⟨r7, t7, hv7, hr7, htl7⟩ hlt7 F'7 N'7); clear hlt7; subst hv7; subst htl7; (try simp only [List.nil_append] at N'7); (rw [show KBw.bInts _ = _ from by assumption, kfb_val] at hr7); subst hr7; (try k_sweep))))
  (k_with "call ref" => (k_here; (with_reducible show wpAny _ _ (call (Value.ref 106) [Value.int _ _, Value.int _ _]) _ _ _); k_dflt (refine' PuP.use2 (by k_asm) (by k_asm) (by k_asm) (by k_asm) (by k_asm) (by first | exact rfl | assumption) (by trivial) (i2b_fill (by first | assumption | omega) (by first | assumption | omega) (by first | assumption | omega) (by assumption)) (by ktr_room) (by ktr_units) ?_; k_whole; (rintro v7 tl7 h'7 tk'7 ⟨⟨b97, t97, hv7, hb97⟩, htl7⟩ hlt7 F'7 N'7); clear hlt7; subst hv7; subst htl7; (rw [(by assumption : octs _ _ = _)] at hb97); (try simp only [List.nil_append] at N'7); (try k_sweep))))
  (k_with "call ref" => (k_here; (with_reducible show wpAny _ _ (call (Value.ref 274) _) _ _ _); k_dflt (refine' KyP.use2 (k := ⟨_, _, _, _, _, _, _, _⟩) (z := ⟨_, _, _, _, _, _, _, _, _, _, _, _, _, _, _, _, _, _, _, _, _, _⟩) (by k_asm) (by k_asm) (by k_asm) (by k_asm) (by k_asm) (by first | exact rfl | assumption) (by k_mem) (by k_ne) (by k_updF) (by with_reducible assumption) (by exact (fun q hq => nomatch hq)) (bdec_c (by assumption) (by assumption)) (by ktr_room) (by ktr_units) ?_; k_whole; (rintro v7 tl7 z'7 h'7 tk'7 hBF'7 ⟨r7, t7, hv7, hr7, htl7⟩ hlt7 F'7 N'7); clear hlt7; subst hv7; subst htl7; (try simp only [List.nil_append] at N'7); (obtain ⟨bf7, bi7, zk07, zk17, zk27, zk37, zk47, zk57, zk67, zk77, zk87, zk97, zv07, zv17, zv27, zv37, zv47, zv57, zv67, zv77, zv87, zv97⟩ := z'7); (try dsimp only [keyDict] at N'7); subst hr7; (try k_sweep))))
  obtain ⟨nn, ee, kd, kp, kq, kx1, kx2, kco⟩ := kn
  dsimp only at *
  have hK2 := hK
  obtain ⟨h0, h1, hnb, hg, he, hp1, hq1, hpb, hqb, hx1, hx2, hco, hD⟩ := hK2
  dsimp only at h0 h1 hnb hg he hp1 hq1 hpb hqb hx1 hx2 hco hD
  intro dp un gd cn cs a ccd cl outer A₀ base h₀ L m s Q E x d z rest B F X N N2 hlo T hk hxd hoff hBF hd hu ret
  refine wpAny_call ?_
  k_dflt (refine' code_defSP B F X N N2 hoff T ?kA ?kF ?kK ?k6 ?k7 ?k8 ?k9 ?kB ?_ ?c2 ?c3 ?c4 ?c5; (case kA => exact rfl); (case kF => exact rfl); (case kK => assumption); (case k6 => k_is); (case k7 => k_is); (case k8 => ktr_room); (case k9 => exact BindsTo.of_eq rfl); (case kB => exact locs rfl); (case c2 => exact rfl); (case c3 => exact rfl); (case c4 => exact rfl); (case c5 => decide); k_whole; intro g' L' h' hg' hlow' FG' F' N' B' X' T'; (obtain ⟨bf, bi, zk0, zk1, zk2, zk3, zk4, zk5, zk6, zk7, zk8, zk9, zv0, zv1, zv2, zv3, zv4, zv5, zv6, zv7, zv8, zv9⟩ := z); (try dsimp only [keyDict] at N'); (try simp only [List.forall_mem_cons, List.not_mem_nil, false_implies, implies_true, and_true] at hlow'); (obtain ⟨hlow1, hlow2⟩ := hlow'); (try dsimp only at hlow1 hlow2); (try dsimp only); (try k_lift B'); (try k_fold))
  have hn0 : nn ≠ 0 := by omega
  have hs5 : SBd 5000 nn := SBd.mono hnb.sbd (by decide)
  have hsz := osz_bd hnb.sbd
  have hvb : Bd 5000 (val ks) := val_Bd hO (by omega)
  obtain ⟨hp0, hp1'⟩ := pmod_fit (x := val ks) (e := kd) (n := nn) (by omega)
  have hsb : b.size = ks.length := by rw [← hb, KBw.ints_length]
  have hcn : (cz.length : Int) = osz nn := by rw [← hc, octs_length]; omega
  k_steps
  · exact (clear_bad hcl (by assumption) (by assumption) (by assumption)).elim
  · (rename Fr h₀ L _ m => kF); (rename News h₀ L _ rest => hN9); (rename News g' L' _ (_ :: _) => kN'); (rename News h₀ L _ (_ :: _) => kN)
    exact ret _ [] ⟨_, _, _, _, _, _, _, _, _, _, _, _, _, _, _, _, _, _, _, _, _, _⟩ _ _ (by assumption) ⟨_, _, rfl, clear_cut hcl (by assumption) (by assumption), rfl⟩ (fun q hq => nomatch hq) (fun q hq => nomatch hq) kF (ky_end (tl := []) kN (by k_mem) (by k_mem) (fun q hq => nomatch hq) hN9)
end

section
theorem Keys.more {least : Int} {pp qq : Nat} {e d : Int} (h : Keys least pp qq e d) : Bd 1300 (pp : Int) ∧ Bd 1300 (qq : Int) ∧ 0 < (qq : Int) ∧ 0 < (pp : Int) ∧ Int.gcd (qq : Int) (pp : Int) = 1 ∧ (2147483647 : Int) ≤ pp ∧ (2147483647 : Int) ≤ qq := by
  obtain ⟨b1, b2⟩ := h.bds
  have l1 := nine_lo pp h.1
  have l2 := nine_lo qq h.2.1
  refine ⟨b1.mono (by decide), b2.mono (by decide), by omega, by omega, ?_, by omega, by omega⟩
  rw [Int.gcd_natCast_natCast]
  exact Num.Pr.ne_cop (Num.nine_pr _ h.2.1) (Num.nine_pr _ h.1) (Ne.symm h.2.2.1)
theorem nine_odd : ∀ p ∈ Num.nine, p % 2 = 1 := by decide +kernel
theorem ed_mod {least : Int} {pp qq : Nat} {e d : Int} (hK : Keys least pp qq e d) : e.toNat * d.toNat % ((pp - 1) * (qq - 1)) = 1 := by
  obtain ⟨k1, k2, k3, k4, k5, k6, k7, k8, k9⟩ := hK
  obtain ⟨e, rfl⟩ := Int.eq_ofNat_of_zero_le (show 0 ≤ e by omega)
  obtain ⟨d, rfl⟩ := Int.eq_ofNat_of_zero_le k7
  have l1 := nine_lo pp k1
  have l2 := nine_lo qq k2
  have hW : 1 < (pp - 1) * (qq - 1) := by
    have := Nat.mul_le_mul (show 2 ≤ pp - 1 by omega) (show 1 ≤ qq - 1 by omega)
    omega
  rw [← whole_cast k1 k2] at k9
  have : ((e * d % ((pp - 1) * (qq - 1)) : Nat) : Int) = ((1 % ((pp - 1) * (qq - 1)) : Nat) : Int) := by
    rw [Int.natCast_emod, Int.natCast_emod, Int.natCast_mul e d]; exact k9
  have := Int.ofNat.inj this
  rwa [Nat.mod_eq_of_lt hW] at this
theorem d_mod {P W e d : Nat} (h : e * d % W = 1) (hd : P ∣ W) (hP : 2 ≤ P) : 1 ≤ d % P := by
  rcases Nat.eq_zero_or_pos (d % P) with h0 | h0
  · exfalso
    have h1 : P ∣ e * d := Nat.dvd_trans (Nat.dvd_of_mod_eq_zero h0) (Nat.dvd_mul_left d e)
    have h2 : P ∣ e * d % W := (Nat.dvd_mod_iff hd).mpr h1
    rw [h] at h2
    have := Nat.le_of_dvd (by decide) h2
    omega
  · exact h0
theorem d_fmod {P : Nat} {d : Int} (hd : 0 ≤ d) (hP : 2 ≤ P) (h : 1 ≤ d.toNat % (P - 1)) : 1 ≤ d.fmod ((P : Int) - 1) := by
  obtain ⟨d, rfl⟩ := Int.eq_ofNat_of_zero_le hd
  rw [Int.fmod_eq_emod_of_nonneg _ (by omega)]
  have e : (d : Int) % ((P : Int) - 1) = ((d % (P - 1) : Nat) : Int) := by rw [Int.natCast_emod, Int.natCast_sub (by omega)]; rfl
  rw [e]
  rw [Int.toNat_natCast] at h
  omega
theorem osz_le_of {k : Nat} {r n : Int} (hr : r = osz n) (h : Bd k n) : r ≤ (((k + 7) / 8 : Nat) : Int) := hr ▸ osz_bd h.sbd
theorem size_lo {least : Int} {pp qq : Nat} {e d z r : Int} (hK : Keys least pp qq e d) (hz : z = (pp : Int) * (qq : Int)) (hr : r = osz z) : least ≤ r := by rw [hr, hz]; exact hK.2.2.2.1
theorem n_facts {least : Int} {pp qq : Nat} {e d nn : Int} (hK : Keys least pp qq e d) (hz : nn = (pp : Int) * (qq : Int)) : 0 < nn ∧ Bd 1300 nn ∧ 0 ≤ e ∧ 0 ≤ d ∧ 1 ≤ nn := by
  have l1 := nine_lo pp hK.1
  have l2 := nine_lo qq hK.2.1
  obtain ⟨b1, b2⟩ := hK.bds
  have h0 : 0 < nn := by rw [hz]; exact Int.mul_pos (by omega) (by omega)
  have h3 := hK.2.2.2.2.1
  have h7 := hK.2.2.2.2.2.2.1
  exact ⟨h0, by rw [hz]; exact Bd.mono (Bd.mul b1 b2) (by decide), by omega, h7, by omega⟩
/-- the key that the law makes -/
theorem kok_of {least : Int} {pp qq : Nat} {e d nn co : Int} (hK : Keys least pp qq e d) (hz : nn = (pp : Int) * (qq : Int)) (hs : SBd 3000 co) (hi : (qq : Int) * co % (pp : Int) = 1 % (pp : Int)) :
    KOk ⟨nn, e, d, pp, qq, d.fmod ((pp : Int) - 1), d.fmod ((qq : Int) - 1), co⟩ := by
  obtain ⟨n0, n1, n2, n3, n4⟩ := n_facts hK hz
  have hed := ed_mod hK
  obtain ⟨b1, b2⟩ := hK.bds
  obtain ⟨k1, k2, k3, k4, k5, k6, k7, k8, k9⟩ := hK
  have l1 := nine_lo pp k1
  have l2 := nine_lo qq k2
  have g1 := d_fmod (P := pp) k7 (by omega) (d_mod hed (Nat.dvd_mul_right _ _) (by omega))
  have g2 := d_fmod (P := qq) k7 (by omega) (d_mod hed (Nat.dvd_mul_left _ _) (by omega))
  refine { h0 := Int.le_of_lt n0, h1 := n4, hnb := n1, hg := ?_, he := n2, hp1 := by dsimp only; omega, hq1 := by dsimp only; omega, hpb := b1, hqb := b2, hx1 := by dsimp only; omega, hx2 := by dsimp only; omega, hco := hs, hD := fun y b c hy hb hbc => ?_ }
  · dsimp only
    subst hz
    rw [← Int.natCast_mul]
    show Int.gcd ((pp * qq : Nat) : Int) ((2 : Nat) : Int) = 1
    rw [Int.gcd_natCast_natCast, Nat.gcd_comm, Nat.gcd_rec, Nat.mul_mod, nine_odd pp k1, nine_odd qq k2]
    rfl
  · dsimp only at hbc ⊢
    subst hz
    exact bdec_eq (Num.nine_pr _ k1) (Num.nine_pr _ k2) k3 n2 k7 hed g1 g2 hi hy hb hbc
/-- decrypting by hand -/
theorem keys_rsa {least : Int} {pp qq : Nat} {e d nn : Int} (hK : Keys least pp qq e d) (hn : nn = (pp : Int) * (qq : Int)) : ∀ x, 0 ≤ x → x < nn → pmod (pmod x e nn) d nn = x := by
  have hed := ed_mod hK
  obtain ⟨k1, k2, k3, k4, k5, k6, k7, k8, k9⟩ := hK
  intro x h0 h1
  subst hn
  unfold pmod
  rw [emod_pow, rsa_any (Num.nine_pr _ k1) (Num.nine_pr _ k2) k3 (by omega) k7 hed h0, Int.emod_eq_of_lt h0 h1]
end

section
set_option maxRecDepth 100000 in
set_option maxHeartbeats 8000000 in
theorem eint_c {prog : Program} {w : World} {p : Program} {loose mean mg mb} {x e n : Int} {tx te tn : Tok} (h0 : 0 ≤ x) (h1 : x ≤ n) (h2 : 0 ≤ e) (h3 : 1 ≤ n) :
    PuP prog w (hd.heap_1 w.params) p loose mean mg mb 91 [.int x tx, .int e te, .int n tn] 20 (fun h => True)
      (fun v tl => ∃ r t, v = .int r t ∧ r = pmod x e n ∧ tl = []) := by
  w_top off
  k_with_none
  (k_with "pyIter ref" => ((rename LoopStop => hLs'7); refine Stop.here ?_))
  (k_with "JPost" => (dsimp only [JPost]))
  (k_with "call builtin:pow" => ((with_reducible show wpAny _ _ (call (Value.builtin _) [Value.int _ _, Value.int _ _, Value.int _ _]) _ _ _); k_dflt (refine' call_pow3 (by first | assumption | omega) (by first | assumption | omega) ?_)))
  intro dp un gd cn cs a ccd cl outer A₀ base h₀ L m s Q E news B F X N T hk hP hd hu ret
  refine wpAny_call ?_
  k_dflt (refine' code_defP ?k1 ?k2 ?k3 ?k4 ?k5 ?kA ?kF ?kK ?k6 ?k7 ?k8 ?k9 ?kB ?_ ?c2 ?c3 ?c4 ?c5; (case kA => exact rfl); (case kF => exact rfl); (case kK => assumption); (case k1 => k_asm); (case k2 => k_asm); (case k3 => k_asm); (case k4 => k_asm); (case k5 => k_asm); (case k6 => k_is); (case k7 => k_is); (case k8 => ktr_room); (case k9 => exact BindsTo.of_eq rfl); (case c5 => decide); (case kB => exact locs rfl); (case c2 => exact rfl); (case c3 => exact rfl); (case c4 => exact rfl); k_whole; intro g' L' h' hg' hlow' FG' F' N' B' X' T'; (try dsimp only); (try k_lift B'); (try k_fold))
  k_steps
  (rename Fr h₀ L _ m => kF); (rename News h₀ L _ news => hN9)
  exact ret _ [] _ _ ⟨_, _, rfl, rfl, rfl⟩ (fun q hq => nomatch hq) kF hN9
end

section
set_option maxRecDepth 100000 in
set_option maxHeartbeats 8000000 in
theorem pad_c {prog : Program} {w : World} {p : Program} {loose mean mg mb} {b dr : Array UInt8} {tb td tn : Tok} {ks ds : List Int} {n : Int} (hb : KBw.bInts b = ks) (hdr : KBw.bInts dr = ds) (hk : ks.length ≤ 1000) (hds : ds.length ≤ 1000) (hn : n ≤ 1000) (hm : (ks.length : Int) ≤ n - 11) (hf : n - ks.length - 3 ≤ ((ds.filter (fun k => k ≠ 0)).length : Int)) :
    PuP prog w (hd.heap_1 w.params) p loose mean mg mb 136 [.bytes b tb, .int n tn, .bytes dr td] 20 (fun h => True)
      (fun v tl => ∃ b t, v = .bytes b t ∧ KBw.bInts b = [0, 2] ++ (ds.filter (fun k => k ≠ 0)).take (n - ks.length - 3).toNat ++ [0] ++ ks ∧ tl = []) := by
  w_top off
  k_with_none
  (k_with "pyIter ref" => ((rename LoopStop => hLs'7); refine Stop.here ?_))
  (k_with "JPost" => (dsimp only [JPost]))
  (k_with "call type:bytes" => (k_here; (with_reducible show wpAny _ _ (call (Value.type "bytes") [Value.ref _]) _ _ _); k_dflt (refine' KBa.make_K (by k_asm) (by k_asm) (by rfl) (by first | is_list | exact News.isList (by k_asm) (by k_mem)) (by assumption) (by (show Octs _; assumption)) (by omega) ?_); intro _ _ _ F'7 N'7 kbaIn7; (have hbI7 := KBa.ints_make kbaIn7)))
  (k_with "getMethod bytes" => (k_here; refine method_join ?_))
  (k_with "call builtin:bytes.join" => (k_here; (try simp only [List.cons_append, List.nil_append]); k_dflt (refine' call_join4 (by first | is_list | exact News.isList (by k_asm) (by k_mem)) (by exact join_fit (by decide) (KBc.size_picked_le _ _ _) (by omega) (by decide) (by omega)) ?_); intro z97 t97 k97 hz97))
  (k_with "eval ListComp" => (k_here; k_dflt (refine ListComp_TB (F₀ := by k_asm) (by with_unfolding_all rfl) (by decide) (by rfl) (by decide) (by rfl) ?_)))
  intro dp un gd cn cs a ccd cl outer A₀ base h₀ L m s Q E news B F X N T hk hP hd hu ret
  refine wpAny_call ?_
  k_dflt (refine' code_defP ?k1 ?k2 ?k3 ?k4 ?k5 ?kA ?kF ?kK ?k6 ?k7 ?k8 ?k9 ?kB ?_ ?c2 ?c3 ?c4 ?c5; (case kA => exact rfl); (case kF => exact rfl); (case kK => assumption); (case k1 => k_asm); (case k2 => k_asm); (case k3 => k_asm); (case k4 => k_asm); (case k5 => k_asm); (case k6 => k_is); (case k7 => k_is); (case k8 => ktr_room); (case k9 => exact BindsTo.of_eq rfl); (case c5 => decide); (case kB => exact locs rfl); (case c2 => exact rfl); (case c3 => exact rfl); (case c4 => exact rfl); k_whole; intro g' L' h' hg' hlow' FG' F' N' B' X' T'; (try dsimp only); (try k_lift B'); (try k_fold))
  have hsz : dr.size = ds.length := by rw [← hdr, KBw.ints_length]
  have hdo : Octs ds := fun k hk => KBw.ints_in (hdr ▸ hk)
  k_steps
  rename Fr _ _ _ _ => lF
  refine SrcTB.go (by rfl) lF News.nil (by rw [sizeLine_eq]; omega) ?_
  intro g9
  with_unfolding_all refine' comp_invT (fun i ys nx => nx = [] ∧ IntsAre ys ((ds.take i).filter (fun k => k ≠ 0))) ?h0 ?hstep ?hfin
  case h0 => exact ⟨rfl, .nil⟩
  all_goals clear lF
  case hstep =>
    rintro i ys nx v I oI C oC D m₂ h tk E' hi ⟨rfl, hR⟩ ⟨c9, u9, hc9, rfl⟩ hns hx F' N' off' ne'
    have hd9 : ds[i]? = some (c9.toNat : Int) := hdr ▸ KBw.ints_get hc9
    k_steps
    · exact fil_yes hR hd9 (by assumption)
    · exact fil_no hR hd9 (by assumption)
  case hfin =>
    rintro ys nx ⟨rfl, hR⟩
    rw [List.take_of_length_le (by omega)] at hR
    obtain ⟨fs, hfs, hR, hfo, hfl⟩ : ∃ fs, fs = ds.filter (fun k => k ≠ 0) ∧ IntsAre ys fs ∧ Octs fs ∧ fs.length ≤ 1000 := ⟨_, rfl, hR, fun k hk => hdo k (List.mem_filter.mp hk).1, Nat.le_trans (List.length_filter_le _ _) hds⟩
    rw [← hfs] at hf
    have hclip := clip_of (k := fs.length) (i := n - ks.length - 3) (by omega) hf
    have hsb : b.size = ks.length := by rw [← hb, KBw.ints_length]
    have hsf : (byteArr fs).size = fs.length := by rw [← KBw.ints_length, bint_oct hfo]
    k_steps
    · (rename Fr h₀ L _ m => kF); (rename News h₀ L _ news => hN9)
      refine ret _ [] _ _ ⟨_, _, rfl, ?_, rfl⟩ (fun q hq => nomatch hq) kF hN9
      rename (_ = _ ++ _ ++ _ ++ _) => hz9
      rename (_ = List.take _ fs) => hpk
      rw [hz9, hpk, hclip, hfs, hb]
      rfl
    · exfalso
      rename (¬ (_ = _)) => hno
      rw [hclip] at hno
      omega
end

section
theorem padb_c {prog : Program} {w : World} {p : Program} {loose mean mg mb} {b dr : Array UInt8} {tb td tn : Tok} {ks ds : List Int} {n : Int} (hb : KBw.bInts b = ks) (hdr : KBw.bInts dr = ds) (hk : ks.length ≤ 1000) (hds : ds.length ≤ 1000) (hn : n ≤ 1000) (hm : (ks.length : Int) ≤ n - 11) (hf : n - ks.length - 3 ≤ ((ds.filter (fun k => k ≠ 0)).length : Int)) :
    PuP prog w (hd.heap_1 w.params) p loose mean mg mb 136 [.bytes b tb, .int n tn, .bytes dr td] 20 (fun _ => True) (fun v tl => ∃ b t, v = .bytes b t ∧ KBw.bInts b = blk n (ds.filter (fun k => k ≠ 0)) ks ∧ tl = []) := pad_c hb hdr hk hds hn hm hf
set_option maxRecDepth 100000 in
set_option maxHeartbeats 8000000 in
theorem enc_c {prog : Program} {w : World} {p : Program} {loose mean mg mb} {b dr : Array UInt8} {tb td : Tok} {ks ds : List Int} {x : Addr} {nn ee : Int} (hb : KBw.bInts b = ks) (hdr : KBw.bInts dr = ds) (hO : Octs ks) (hk : ks.length ≤ 1000) (hds : ds.length ≤ 1000) (hn : 0 < nn) (hnb : Bd 1300 nn) (he : 0 ≤ ee) (hm : (ks.length : Int) ≤ osz nn - 11) (hf : osz nn - ks.length - 3 ≤ ((ds.filter (fun k => k ≠ 0)).length : Int)) :
    PuP prog w (hd.heap_1 w.params) p loose mean mg mb 143 [.bytes b tb, .ref x, .bytes dr td] 30 (fun h => PubAt 237 h x nn ee)
      (fun v tl => ∃ b t, v = .bytes b t ∧ KBw.bInts b = octs (osz nn).toNat (pmod (val (blk (osz nn) (ds.filter (fun k => k ≠ 0)) ks)) ee nn) ∧ tl = []) := by
  w_top off
  k_with_none
  (k_with "getAttr ref" => (k_here; k_dflt (refine' get_own (by k_asm) (by k_asm) (by first | assumption | exact InstAt.keeps (by assumption) (Fr.keep (by k_asm)) | exact InstAt.keeps (InstAt.keeps (by assumption) (Fr.keep (by assumption))) (Fr.keep (by k_asm))) (by k_is) (by k_is) (by k_is) (by k_is) (by assumption) (by k_handed) ?_; k_whole)))
  (k_with "call ref" => (k_here; (with_reducible show wpAny _ _ (call (Value.ref 56) [Value.int _ _]) _ _ _); k_dflt (refine' PuP.use2 (by k_asm) (by k_asm) (by k_asm) (by k_asm) (by k_asm) (by first | exact rfl | assumption) (by trivial) (bszo_c (by first | assumption | omega) (by assumption)) (by ktr_room) (by ktr_units) ?_; k_whole; (rintro v7 tl7 h'7 tk'7 ⟨r7, t7, hv7, hr7, htl7⟩ hlt7 F'7 N'7); clear hlt7; subst hv7; subst htl7; (try simp only [List.nil_append] at N'7); subst hr7; (try k_sweep))))
  (k_with "call ref" => (k_here; (with_reducible show wpAny _ _ (call (Value.ref 136) [Value.bytes _ _, Value.int _ _, Value.bytes _ _]) _ _ _); k_dflt (refine' PuP.use2 (by k_asm) (by k_asm) (by k_asm) (by k_asm) (by k_asm) (by first | exact rfl | assumption) (by trivial) (padb_c (by assumption) (by assumption) (by assumption) (by assumption) (by omega) (by omega) (by assumption)) (by ktr_room) (by ktr_units) ?_; k_whole; (rintro v7 tl7 h'7 tk'7 ⟨b97, t97, hv7, hb97, htl7⟩ hlt7 F'7 N'7); clear hlt7; subst hv7; subst htl7; (try simp only [List.nil_append] at N'7); (try k_sweep))))
  (k_with "call ref" => (k_here; (with_reducible show wpAny _ _ (call (Value.ref 98) [Value.bytes _ _]) _ _ _); k_dflt (refine' PuP.use2 (by k_asm) (by k_asm) (by k_asm) (by k_asm) (by k_asm) (by first | exact rfl | assumption) (by trivial) (b2i_c (by exact size_le (by assumption) (by first | assumption | omega))) (by ktr_room) (by ktr_units) ?_; k_whole; (rintro v7 tl7 h'7 tk'7 ⟨r7, t7, hv7, hr7, htl7⟩ hlt7 F'7 N'7); clear hlt7; subst hv7; subst htl7; (try simp only [List.nil_append] at N'7); (rw [show KBw.bInts _ = _ from by assumption, kfb_val] at hr7); subst hr7; (try k_sweep))))
  (k_with "call ref" => (k_here; (with_reducible show wpAny _ _ (call (Value.ref 91) [Value.int _ _, Value.int _ _, Value.int _ _]) _ _ _); k_dflt (refine' PuP.use2 (by k_asm) (by k_asm) (by k_asm) (by k_asm) (by k_asm) (by first | exact rfl | assumption) (by trivial) (eint_c (by first | assumption | omega) (by first | assumption | omega) (by first | assumption | omega) (by first | assumption | omega)) (by ktr_room) (by ktr_units) ?_; k_whole; (rintro v7 tl7 h'7 tk'7 ⟨r7, t7, hv7, hr7, htl7⟩ hlt7 F'7 N'7); clear hlt7; subst hv7; subst htl7; (try simp only [List.nil_append] at N'7); subst hr7; (try k_sweep))))
  (k_with "call ref" => (k_here; (with_reducible show wpAny _ _ (call (Value.ref 106) [Value.int _ _, Value.int _ _]) _ _ _); k_dflt (refine' PuP.use2 (by k_asm) (by k_asm) (by k_asm) (by k_asm) (by k_asm) (by first | exact rfl | assumption) (by trivial) (i2b_fill (by first | assumption | omega) (by first | assumption | omega) (by first | assumption | omega) (by assumption)) (by ktr_room) (by ktr_units) ?_; k_whole; (rintro v7 tl7 h'7 tk'7 ⟨⟨b97, t97, hv7, hb97⟩, htl7⟩ hlt7 F'7 N'7); clear hlt7; subst hv7; subst htl7; (try simp only [List.nil_append] at N'7); (try k_sweep))))
  intro dp un gd cn cs a ccd cl outer A₀ base h₀ L m s Q E news B F X N T hk hP hd hu ret
  refine wpAny_call ?_
  k_dflt (refine' code_defP ?k1 ?k2 ?k3 ?k4 ?k5 ?kA ?kF ?kK ?k6 ?k7 ?k8 ?k9 ?kB ?_ ?c2 ?c3 ?c4 ?c5; (case kA => exact rfl); (case kF => exact rfl); (case kK => assumption); (case k1 => k_asm); (case k2 => k_asm); (case k3 => k_asm); (case k4 => k_asm); (case k5 => k_asm); (case k6 => k_is); (case k7 => k_is); (case k8 => ktr_room); (case k9 => exact BindsTo.of_eq rfl); (case c5 => decide); (case kB => exact locs rfl); (case c2 => exact rfl); (case c3 => exact rfl); (case c4 => exact rfl); k_whole; intro g' L' h' hg' hlow' FG' F' N' B' X' T'; (try dsimp only); (try k_lift B'); (try k_fold))
  obtain ⟨dd, es, m9, t1, t2, hI9, hg1, hg2⟩ : PubAt 237 g' x nn ee := hg' ▸ hP
  have hdo : Octs (ds.filter (fun k => k ≠ 0)) := fun k hk => KBw.ints_in (hdr ▸ (List.mem_filter.mp hk).1)
  have hs5 : SBd 5000 nn := SBd.mono hnb.sbd (by decide)
  have hsz := osz_bd hnb.sbd
  have hsp := osz_pos hn
  have hbl := blk_len (sz := osz nn) (fs := ds.filter (fun k => k ≠ 0)) (ks := ks) hm hf
  have hblk : (blk (osz nn) (ds.filter (fun k => k ≠ 0)) ks).length ≤ 10000 := by omega
  obtain ⟨hv0, hv1⟩ := blk_val hn hdo hO hm hf
  obtain ⟨hp0, hp1⟩ := pmod_fit (x := val (blk (osz nn) (ds.filter (fun k => k ≠ 0)) ks)) (e := ee) hn
  k_steps
  (rename Fr h₀ L _ m => kF); (rename News h₀ L _ news => hN9)
  exact ret _ [] _ _ ⟨_, _, rfl, by assumption, rfl⟩ (fun q hq => nomatch hq) kF hN9
end

section
set_option maxRecDepth 100000 in
set_option maxHeartbeats 8000000 in
theorem long_c {prog : Program} {w : World} {p : Program} {loose mean mg mb} {l l2 x : Addr} {ws ws2 : List Value} {ks ds : List Int} {nn ee : Int} (hI : IntsAre ws ks) (hI2 : IntsAre ws2 ds) (hO : Octs ks) (hO2 : Octs ds) (hk : ks.length ≤ 1000) (hds : ds.length ≤ 1000) (hn : 0 < nn) (hnb : Bd 1300 nn) (he : 0 ≤ ee) (h12 : 12 ≤ osz nn) (hm : osz nn - 11 < (ks.length : Int)) :
    TrP prog w (hd.heap_1 w.params) p loose mean mg mb 345 [.ref l, .ref x, .ref l2] 60 (fun h => h.IsList l ws.toArray ∧ h.IsList l2 ws2.toArray ∧ PubAt 237 h x nn ee)
      (fun v tl => v = .bool true ∧ tl = []) := by
  w_top off
  k_with_none
  (k_with "getAttr ref" => (k_here; k_dflt (refine' get_own (by k_asm) (by k_asm) (by first | assumption | exact InstAt.keeps (by assumption) (Fr.keep (by k_asm)) | exact InstAt.keeps (InstAt.keeps (by assumption) (Fr.keep (by assumption))) (Fr.keep (by k_asm))) (by k_is) (by k_is) (by k_is) (by k_is) (by assumption) (by k_handed) ?_; k_whole)))
  (k_with "call type:bytes" => (k_here; (with_reducible show wpAny _ _ (call (Value.type "bytes") [Value.ref _]) _ _ _); k_dflt (refine' KBa.make_K (by k_asm) (by k_asm) (by rfl) (by first | is_list | exact News.isList (by k_asm) (by k_mem)) (by assumption) (by (show Octs _; assumption)) (by omega) ?_); intro _ _ _ F'7 N'7 kbaIn7; (have hbI7 := KBa.ints_make kbaIn7)))
  (k_with "call ref" => (k_here; (with_reducible show wpAny _ _ (call (Value.ref 56) [Value.int _ _]) _ _ _); k_dflt (refine' PuP.use2 (by k_asm) (by k_asm) (by k_asm) (by k_asm) (by k_asm) (by first | exact rfl | assumption) (by trivial) (bszo_c (by first | assumption | omega) (by assumption)) (by ktr_room) (by ktr_units) ?_; k_whole; (rintro v7 tl7 h'7 tk'7 ⟨r7, t7, hv7, hr7, htl7⟩ hlt7 F'7 N'7); clear hlt7; subst hv7; subst htl7; (try simp only [List.nil_append] at N'7); subst hr7; (try k_sweep))))
  intro dp un gd cn cs a ccd cl A₀ base h₀ L m s Q E news B F X N T hk XB TB hP hd hu ret
  refine wpAny_call ?_
  k_dflt (refine' code_defTP ?k1 ?k2 ?k3 ?k4 ?k5 ?kA ?kF ?kK ?k6 ?k7 ?k8 ?k9 ?kB ?_ ?c2 ?c3 ?c4 ?c5; (case kA => exact rfl); (case kF => exact rfl); (case kK => assumption); (case k1 => k_asm); (case k2 => k_asm); (case k3 => k_asm); (case k4 => k_asm); (case k5 => k_asm); (case k6 => k_is); (case k7 => k_is); (case k8 => ktr_room); (case k9 => exact BindsTo.of_eq rfl); (case kB => exact locs rfl); (case c2 => exact rfl); (case c3 => exact rfl); (case c4 => exact rfl); (case c5 => decide); k_whole; intro g' L' h' hg' hlow' FG' F' N' B' X' T' D'; (try dsimp only); (try k_lift B'); (try k_fold))
  obtain ⟨hL1, hL2, hPub⟩ : g'.IsList l ws.toArray ∧ g'.IsList l2 ws2.toArray ∧ PubAt 237 g' x nn ee := hg' ▸ hP
  have hs5 : SBd 5000 nn := SBd.mono hnb.sbd (by decide)
  have hsz := osz_bd hnb.sbd
  have hsp := osz_pos hn
  obtain ⟨dd, es, m9, t1, t2, hI9, hg1, hg2⟩ := hPub
  k_steps
  (rename Fr h₀ L _ m => kF); (rename News h₀ L _ news => hN9)
  exact ret _ [] _ _ ⟨rfl, rfl⟩ (fun q hq => nomatch hq) kF hN9
end
local macro_rules | `(tactic| ktr_units) => `(tactic| ((simp only [units_under_make, units_in1, units_deeper, Around.mark_units, units_caller, cLine]); first | decide | omega))

section
theorem news_sub {L : Addr} {h₀ h : Heap} {full news : List (Addr × Obj)} (N : News h₀ L h full) (hs : ∀ p ∈ news, p ∈ full) : News h₀ L h news := fun q hq => N q (hs q hq)
set_option maxRecDepth 100000 in
set_option maxHeartbeats 8000000 in
theorem dask_c {w : World} {h₀ base : Heap} {L f : Addr} {cdv : Value} {p : Program} {loose : List Str} {mean : ExcName → Option Value} {mg mb : Str → Option Value} {s : Shared} {Q : Bool → Shared → Prop} {E : Value → Shared → Prop} {pm : Arguments} {body : List Stmt} {sc : Scope} {nn ee dd pp qq e1 e2 co : Int} {kz : KD} {x d : Addr} {l DM : Addr} {ws vsM : List Value} {ks cz M : List Int} {nl nM : Nat} {rest : List (Addr × Obj)} {p1 p2 p3 p4 p5 p6 p7 p8 p9 p10 : Pos} {m : Str → Option Value}
    (hdef : (PySem.Challenge.rw_ys0002_03.row.prog).theDef (Str.ofString "law") = some (pm, body, sc)) (B : Below callerA base [] h₀) (X : (hd.heap_1 w.params).In h₀) (XB : (hd.heap_1 w.params).In base) (T : Top p loose mean mg mb h₀) (TB : Top p loose mean mg mb base)
    (hKO : KOk ⟨nn, ee, dd, pp, qq, e1, e2, co⟩) (h12 : 12 ≤ osz nn) (hkz : BF nn kz) (hI : IntsAre ws ks) (hO : Octs ks) (hk : ks.length ≤ 600) (hl1 : (ks.length : Int) ≤ osz nn) (hc : octs (osz nn).toNat (pmod (val ks) dd nn) = cz) (hcl : Clear cz M) (hIm : IntsAre vsM M) (hM6 : M.length ≤ 600) (hm1 : m (Str.ofString "octets") = some (.ref l)) (hm2 : m (Str.ofString "private") = some (.ref x)) (hm3 : m (Str.ofString "message") = some (.ref DM))
    (F : Fr h₀ L s.heap m)
    (N : News h₀ L s.heap ((l, listOf ws.toArray nl) :: (DM, listOf vsM.toArray nM) :: (x, instObj 284 d) :: (d, keyDict w.params ⟨nn, ee, dd, pp, qq, e1, e2, co⟩ kz) :: rest)) (hlx : @Ne Nat l x) (hld : @Ne Nat l d) (hMx : @Ne Nat DM x) (hMd : @Ne Nat DM d) (hxd : @Ne Nat x d) (hoff : ∀ p ∈ rest, p.1 ≠ d)
    (hQ : ∀ z' h' tk', BF nn z' → Fr h₀ L h' m → News h₀ L h' ((l, listOf ws.toArray nl) :: (DM, listOf vsM.toArray nM) :: (x, instObj 284 d) :: (d, keyDict w.params ⟨nn, ee, dd, pp, qq, e1, e2, co⟩ z') :: rest) → Q false { s with heap := h', toks := tk' }) :
    wpAny (model PySem.Challenge.rw_ys0002_03.row.prog w) (callerA.deeper (envOf (Str.ofString "law") sc L f cdv)) (PySem.isTrue (PySem.Expr.Compare (PySem.Expr.Call (PySem.Expr.Name (Str.ofString "list") p1) [PySem.Expr.Call (PySem.Expr.Name (Str.ofString "decrypt") p2) [PySem.Expr.Call (PySem.Expr.Name (Str.ofString "bytes") p3) [(PySem.Expr.Name (Str.ofString "octets") p4)] [] p5, (PySem.Expr.Name (Str.ofString "private") p6)] [] p7] [] p8) [PySem.CmpOp.NotEq] [(PySem.Expr.Name (Str.ofString "message") p9)] p10) (envOf (Str.ofString "law") sc L f cdv) (eval (PySem.Expr.Compare (PySem.Expr.Call (PySem.Expr.Name (Str.ofString "list") p1) [PySem.Expr.Call (PySem.Expr.Name (Str.ofString "decrypt") p2) [PySem.Expr.Call (PySem.Expr.Name (Str.ofString "bytes") p3) [(PySem.Expr.Name (Str.ofString "octets") p4)] [] p5, (PySem.Expr.Name (Str.ofString "private") p6)] [] p7] [] p8) [PySem.CmpOp.NotEq] [(PySem.Expr.Name (Str.ofString "message") p9)] p10) (envOf (Str.ofString "law") sc L f cdv))) Q E s := by
  conv at hdef => lhs; whnf
  injection hdef with h1
  injection h1 with h1 h2
  injection h2 with h2 h3
  subst h1 h2 h3
  w_top off
  k_with_none
  (k_with "eval Name" => (k_here; (with_reducible show wpAny _ _ (eval (PySem.Expr.Name _ _) (envOf _ _ _ _ _)) _ _ _); k_dflt (refine ld_env (by k_asm) (by assumption) ?_)))
  (k_with "call type:bytes" => (k_here; (with_reducible show wpAny _ _ (call (Value.type "bytes") [Value.ref _]) _ _ _); k_dflt (refine' KBa.make_K (by k_asm) (by k_asm) (by rfl) (by first | is_list | exact News.isList (by k_asm) (by k_mem)) (by assumption) (by (show Octs _; assumption)) (by omega) ?_); intro _ _ _ F'7 N'7 kbaIn7; (have hbI7 := KBa.ints_make kbaIn7)))
  (k_with "call type:list" => (k_here; (with_reducible show wpAny _ _ (call (Value.type _) [Value.bytes _ _]) _ _ _); k_dflt (refine' list_bytes_K rfl (by k_asm) (by k_asm) (by assumption) (by ((try simp only [octs_length]); omega)) ?_); intro D'7 vs'7 n'7 h'7 tk'7 F'7 N'7 l1'7 hI'7 hl'7; (try k_lt l1'7)))
  (k_with "call ref" => (k_here; (with_reducible show wpAny _ _ (call (Value.ref 150) _) _ _ _); k_dflt (refine' KyP.use2 (k := ⟨_, _, _, _, _, _, _, _⟩) (z := ⟨_, _, _, _, _, _, _, _, _, _, _, _, _, _, _, _, _, _, _, _, _, _⟩) (by k_asm) (by k_asm) (by k_asm) (by k_asm) (by k_asm) (by first | exact rfl | assumption) (by k_mem) (by k_ne) (by k_updF) (by with_reducible assumption) (by exact (fun q hq => nomatch hq)) (dec_c (by assumption) (by assumption) (by assumption) (by first | assumption | omega) (by assumption) (by first | assumption | omega) (by assumption) (by assumption)) (by ktr_room) (by ktr_units) ?_; k_whole; (rintro v7 tl7 z'7 h'7 tk'7 hBF'7 ⟨b97, t97, hv7, hb97, htl7⟩ hlt7 F'7 N'7); clear hlt7; subst hv7; subst htl7; (try simp only [List.nil_append] at N'7); (obtain ⟨bf7, bi7, zk07, zk17, zk27, zk37, zk47, zk57, zk67, zk77, zk87, zk97, zv07, zv17, zv27, zv37, zv47, zv57, zv67, zv77, zv87, zv97⟩ := z'7); (try dsimp only [keyDict] at N'7); (try k_sweep))))
  k_steps
  rename Fr h₀ _ _ _ => lF9
  rename News h₀ _ _ _ => lN9
  exact hQ _ _ _ (by assumption) lF9 (news_less lN9)
set_option maxRecDepth 100000 in
set_option maxHeartbeats 8000000 in
theorem dask_u {w : World} {h₀ base : Heap} {L f : Addr} {cdv : Value} {p : Program} {loose : List Str} {mean : ExcName → Option Value} {mg mb : Str → Option Value} {s : Shared} {Q : Bool → Shared → Prop} {E : Value → Shared → Prop} {pm : Arguments} {body : List Stmt} {sc : Scope} {nn ee dd pp qq e1 e2 co : Int} {kz : KD} {x d : Addr} {l DM : Addr} {ws vsM : List Value} {ks cz M : List Int} {nl nM : Nat} {news : List (Addr × Obj)} {g2 : Obj → List (Addr × Obj)} {p1 p2 p3 p4 p5 p6 p7 p8 p9 p10 : Pos} {m : Str → Option Value}
    (hdef : (PySem.Challenge.rw_ys0002_03.row.prog).theDef (Str.ofString "law") = some (pm, body, sc)) (B : Below callerA base [] h₀) (X : (hd.heap_1 w.params).In h₀) (XB : (hd.heap_1 w.params).In base) (T : Top p loose mean mg mb h₀) (TB : Top p loose mean mg mb base)
    (hKO : KOk ⟨nn, ee, dd, pp, qq, e1, e2, co⟩) (h12 : 12 ≤ osz nn) (hkz : BF nn kz) (hI : IntsAre ws ks) (hO : Octs ks) (hk : ks.length ≤ 600) (hl1 : (ks.length : Int) ≤ osz nn) (hc : octs (osz nn).toNat (pmod (val ks) dd nn) = cz) (hcl : Clear cz M) (hIm : IntsAre vsM M) (hM6 : M.length ≤ 600) (hm1 : m (Str.ofString "octets") = some (.ref l)) (hm2 : m (Str.ofString "private") = some (.ref x)) (hm3 : m (Str.ofString "message") = some (.ref DM))
    (F : Fr h₀ L s.heap m)
    (N : News h₀ L s.heap news) (hl : (l, listOf ws.toArray nl) ∈ news) (hM : (DM, listOf vsM.toArray nM) ∈ news) (hx : (x, instObj 284 d) ∈ news) (U : UpdF d (keyDict w.params ⟨nn, ee, dd, pp, qq, e1, e2, co⟩ kz) news g2) (hlx : @Ne Nat l x) (hld : @Ne Nat l d) (hMx : @Ne Nat DM x) (hMd : @Ne Nat DM d) (hxd : @Ne Nat x d)
    (hQ : ∀ z' h' tk', BF nn z' → Fr h₀ L h' m → News h₀ L h' (g2 (keyDict w.params ⟨nn, ee, dd, pp, qq, e1, e2, co⟩ z')) → Q false { s with heap := h', toks := tk' }) :
    wpAny (model PySem.Challenge.rw_ys0002_03.row.prog w) (callerA.deeper (envOf (Str.ofString "law") sc L f cdv)) (PySem.isTrue (PySem.Expr.Compare (PySem.Expr.Call (PySem.Expr.Name (Str.ofString "list") p1) [PySem.Expr.Call (PySem.Expr.Name (Str.ofString "decrypt") p2) [PySem.Expr.Call (PySem.Expr.Name (Str.ofString "bytes") p3) [(PySem.Expr.Name (Str.ofString "octets") p4)] [] p5, (PySem.Expr.Name (Str.ofString "private") p6)] [] p7] [] p8) [PySem.CmpOp.NotEq] [(PySem.Expr.Name (Str.ofString "message") p9)] p10) (envOf (Str.ofString "law") sc L f cdv) (eval (PySem.Expr.Compare (PySem.Expr.Call (PySem.Expr.Name (Str.ofString "list") p1) [PySem.Expr.Call (PySem.Expr.Name (Str.ofString "decrypt") p2) [PySem.Expr.Call (PySem.Expr.Name (Str.ofString "bytes") p3) [(PySem.Expr.Name (Str.ofString "octets") p4)] [] p5, (PySem.Expr.Name (Str.ofString "private") p6)] [] p7] [] p8) [PySem.CmpOp.NotEq] [(PySem.Expr.Name (Str.ofString "message") p9)] p10) (envOf (Str.ofString "law") sc L f cdv))) Q E s := by
  refine dask_c (nl := nl) (nM := nM) (rest := news.filter fun p => decide (p.1 ≠ d)) hdef B X XB T TB hKO h12 hkz hI hO hk hl1 hc hcl hIm hM6 hm1 hm2 hm3 F (fun p hp => ?_) hlx hld hMx hMd hxd (fun p hp => by simpa using (List.mem_filter.mp hp).2) (fun z' h' tk' hb hF hN => hQ z' h' tk' hb hF fun p hp => ?_)
  · rcases List.mem_cons.mp hp with rfl | hp
    · exact N _ hl
    · rcases List.mem_cons.mp hp with rfl | hp
      · exact N _ hM
      · rcases List.mem_cons.mp hp with rfl | hp
        · exact N _ hx
        · rcases List.mem_cons.mp hp with rfl | hp
          · exact N _ (updF_here (o' := keyDict w.params ⟨nn, ee, dd, pp, qq, e1, e2, co⟩ kz) U).1
          · exact N p (List.mem_filter.mp hp).1
  · rcases updF_mem U p hp with h | ⟨h, hc⟩
    · rw [h]; exact hN _ (List.mem_cons_of_mem _ (List.mem_cons_of_mem _ (List.mem_cons_of_mem _ List.mem_cons_self)))
    · exact hN p (List.mem_cons_of_mem _ (List.mem_cons_of_mem _ (List.mem_cons_of_mem _ (List.mem_cons_of_mem _ (List.mem_filter.mpr ⟨h, by simpa using hc⟩)))))
end

section
theorem ones_octs {n : Nat} : Octs (List.replicate n ([1] : List Int)).flatten := by
  intro k hk
  obtain ⟨l, hl, hk⟩ := List.mem_flatten.mp hk
  rw [(List.mem_replicate.mp hl).2, List.mem_singleton] at hk
  omega
theorem ones_len : ∀ {n : Nat}, ((List.replicate n ([1] : List Int)).flatten).length = n
  | 0 => rfl
  | n + 1 => by rw [List.replicate_succ, List.flatten_cons, List.length_append, ones_len, List.length_singleton]; omega
set_option maxRecDepth 100000 in
set_option maxHeartbeats 8000000 in
theorem tf_all {w : World} {h₀ base : Heap} {L f ls : Addr} {cdv : Value} {p : Program} {loose : List Str} {mean : ExcName → Option Value} {mg mb : Str → Option Value} {s : Shared} {Q : Flow → Shared → Prop} {E : Value → Shared → Prop} {pm : Arguments} {body : List Stmt} {sc : Scope} {nn ee dd : Int} {Pp Qq : Nat}{tsz tn td te tq tp : Tok} {vsM vsD vsB : List Value} {M ds B : List Int} {nM nD nB : Nat} {DM DD DB : Addr} {my : Int} {kz : KD} {x d xp dp : Addr} {od : Obj} {e1 e2 co : Int} {bM : Array UInt8} {tM : Tok} {yv : Int} {tmy tmo : Tok} {uk : Str → Option Value} {DS : Addr} {vsS : List Value} {S : List Int} {nS : Nat}
    (hdef : (PySem.Challenge.rw_ys0002_03.row.prog).theDef (Str.ofString "law") = some (pm, body, sc)) (B9 : Below callerA base [] h₀) (X : (hd.heap_1 w.params).In h₀) (XB : (hd.heap_1 w.params).In base) (T : Top p loose mean mg mb h₀) (TB : Top p loose mean mg mb base)
    (h12 : 12 ≤ osz nn) (hz163 : osz nn ≤ 163) (hK7 : Keys 12 Pp Qq ee dd) (hnn7 : nn = (Pp : Int) * (Qq : Int)) (hn1 : 1 ≤ nn) (hn13 : Bd 1300 nn) (hd0 : 0 ≤ dd) (he0 : 0 ≤ ee) (hm0 : 0 ≤ my) (hm1 : my ≤ osz nn - 11) (hIm : IntsAre vsM M) (hOm : Octs M) (hlm : (M.length : Int) = my) (hId : IntsAre vsD ds) (hOd9 : Octs ds) (hfil : ds.filter (fun k => k ≠ 0) = ds) (hdl : (ds.length : Int) = osz nn) (hblk : blk (osz nn) ds M = B) (hIB : IntsAre vsB B) (hBO : Octs B) (hBl : (B.length : Int) = osz nn) (hBv0 : 0 ≤ val B) (hBv1 : val B < nn) (hBc : Clear B M) (hKO : KOk ⟨nn, ee, dd, (Pp : Int), (Qq : Int), e1, e2, co⟩) (hkz : BF nn kz) (hod : PubD od nn ee) (hbM : KBw.bInts bM = octs (osz nn).toNat yv) (hy : yv = pmod (val B) ee nn) (hIS : IntsAre vsS S) (hSO : Octs S) (hSl : (S.length : Int) ≤ osz nn) (hSv : val S = yv)
    (F : Fr h₀ L s.heap (fun y => if y = Str.ofString "short" then some (.ref DS) else if y = Str.ofString "made" then some (.bytes bM tM) else if y = Str.ofString "private" then some (.ref x) else if y = Str.ofString "public" then some (.ref xp) else if y = Str.ofString "block" then some (.ref DB) else if y = Str.ofString "drawn" then some (.ref DD) else if y = Str.ofString "k" then uk y else if y = Str.ofString "message" then some (.ref DM) else if y = Str.ofString "many" then some (.int my tmy) else if y = Str.ofString "most" then some (.int (osz nn - 11) tmo) else if y = Str.ofString "size" then some (.int (osz nn) tsz) else if y = Str.ofString "n" then some (.int nn tn) else if y = Str.ofString "d" then some (.int dd td) else if y = Str.ofString "e" then some (.int ee te) else if y = Str.ofString "q" then some (.int (Qq : Int) tq) else if y = Str.ofString "p" then some (.int (Pp : Int) tp) else List.lookup y [(Str.ofString "script", Value.ref ls)].reverse))
    (N : News h₀ L s.heap ((DS, listOf vsS.toArray nS) :: (x, instObj 284 d) :: (d, keyDict w.params ⟨nn, ee, dd, (Pp : Int), (Qq : Int), e1, e2, co⟩ kz) :: (xp, instObj 237 dp) :: (dp, od) :: (DM, listOf vsM.toArray nM) :: (DD, listOf vsD.toArray nD) :: (DB, listOf vsB.toArray nB) :: [])) (e01 : @Ne Nat DM DD) (e02 : @Ne Nat DM DB) (e03 : @Ne Nat DM x) (e04 : @Ne Nat DM d) (e05 : @Ne Nat DM xp) (e06 : @Ne Nat DM dp) (e07 : @Ne Nat DM DS) (e12 : @Ne Nat DD DB) (e13 : @Ne Nat DD x) (e14 : @Ne Nat DD d) (e15 : @Ne Nat DD xp) (e16 : @Ne Nat DD dp) (e17 : @Ne Nat DD DS) (e23 : @Ne Nat DB x) (e24 : @Ne Nat DB d) (e25 : @Ne Nat DB xp) (e26 : @Ne Nat DB dp) (e27 : @Ne Nat DB DS) (e34 : @Ne Nat x d) (e35 : @Ne Nat x xp) (e36 : @Ne Nat x dp) (e37 : @Ne Nat x DS) (e45 : @Ne Nat d xp) (e46 : @Ne Nat d dp) (e47 : @Ne Nat d DS) (e56 : @Ne Nat xp dp) (e57 : @Ne Nat xp DS) (e67 : @Ne Nat dp DS)
    (hQ : ∀ h' tk' m', Fr h₀ L h' m' → Q (.ret (.bool true)) { s with heap := h', toks := tk' }) (hE : PassesOwn (model PySem.Challenge.rw_ys0002_03.row.prog w) (callerA.deeper (envOf (Str.ofString "law") sc L f cdv)) (envOf (Str.ofString "law") sc L f cdv) E) :
    wpAny (model PySem.Challenge.rw_ys0002_03.row.prog w) (callerA.deeper (envOf (Str.ofString "law") sc L f cdv)) (execs (body.drop 14) (envOf (Str.ofString "law") sc L f cdv)) Q E s := by
  conv at hdef => lhs; whnf
  injection hdef with h1
  injection h1 with h1 h2
  injection h2 with h2 h3
  subst h1 h2 h3
  conv in List.drop _ _ => whnf
  w_top off
  k_with_none
  (k_with "call type:bytes" => (k_here; (with_reducible show wpAny _ _ (call (Value.type "bytes") [Value.ref _]) _ _ _); k_dflt (refine' KBa.make_K (by k_asm) (by k_asm) (by rfl) (by first | is_list | exact News.isList (by k_asm) (by k_mem)) (by assumption) (by (show Octs _; assumption)) (by omega) ?_); intro _ _ _ F'7 N'7 kbaIn7; (have hbI7 := KBa.ints_make kbaIn7)))
  (k_with "call type:list" => (k_here; (with_reducible show wpAny _ _ (call (Value.type _) [Value.bytes _ _]) _ _ _); k_dflt (refine' list_bytes_K rfl (by k_asm) (by k_asm) (by assumption) (by ((try simp only [octs_length]); omega)) ?_); intro D'7 vs'7 n'7 h'7 tk'7 F'7 N'7 l1'7 hI'7 hl'7; (try k_lt l1'7)))
  (k_with "call ref" => (k_here; (with_reducible show wpAny _ _ (call (Value.ref 345) [Value.ref _, Value.ref _, Value.ref _]) _ _ _); k_dflt (refine' TrP.use2 (by k_asm) (by k_asm) (by k_asm) (by k_asm) (by k_asm) (by first | exact rfl | assumption) (by k_asm) (by k_asm) (by exact ⟨by first | is_list | exact News.isList (by k_asm) (by k_mem), by first | is_list | exact News.isList (by k_asm) (by k_mem), pub_of (by k_asm) (by k_mem) (by k_mem) (by assumption)⟩) (long_c (by first | assumption | omega) (by first | assumption | omega) (by first | assumption | omega) (by first | assumption | omega) (by first | assumption | omega) (by first | assumption | omega) (by first | assumption | omega) (by first | assumption | omega) (by first | assumption | omega) (by omega) (by omega)) (by ktr_room) (by ktr_units) ?_; k_whole; (rintro v7 tl7 h'7 tk'7 ⟨hv7, htl7⟩ hlt7 F'7 N'7); clear hlt7; subst hv7; subst htl7; (try simp only [List.nil_append] at N'7); (try k_sweep))))
  (k_with "exec If" => ((rename LoopStop => hLs'7); clear hLs'7; refine Stop.here ?_))
  have hn0 : 0 < nn := by omega
  obtain ⟨y0, y1⟩ := pmod_fit (x := val B) (e := ee) hn0
  rw [← hy] at y0 y1
  have hvy : val (octs (osz nn).toNat yv) = yv := val_octs y0 y1
  have hyn : pmod yv dd nn = val B := hy ▸ keys_rsa hK7 hnn7 _ hBv0 hBv1
  have hyB : octs (osz nn).toNat (val B) = B := by
    have := octs_val hBO
    rwa [show B.length = (osz nn).toNat by omega] at this
  have hOy : Octs (octs (osz nn).toNat yv) := octs_octs
  have hly : (octs (osz nn).toNat yv).length = (osz nn).toNat := octs_length
  have hs1 : octs (osz nn).toNat (pmod (val (octs (osz nn).toNat yv)) dd nn) = B := by rw [hvy, hyn, hyB]
  have hs2 : octs (osz nn).toNat (pmod (val S) dd nn) = B := by rw [hSv, hyn, hyB]
  have hl1 : ((octs (osz nn).toNat yv).length : Int) ≤ osz nn := by omega
  have hO9 : Octs (M ++ (List.replicate (osz nn - 11 + 1 - my).toNat [1]).flatten) := octs_app hOm ones_octs
  have hl9 : ((M ++ (List.replicate (osz nn - 11 + 1 - my).toNat [1]).flatten).length : Int) = osz nn - 10 := by rw [List.length_append, ones_len]; omega
  have hst : LoopStop := {}
  k_steps
  with_reducible refine Stop.go ?_
  rename IntsAre _ (octs _ yv) => hJ2
  revert hJ2
  rename IntsAre _ (octs _ yv) => hJ1
  intro hJ2
  walk1
  rename Fr h₀ _ _ _ => lF9
  rename News h₀ _ _ (_ :: _) => lN9
  refine dask_u rfl B9 X XB T TB hKO h12 (by assumption) hJ1 hOy (by omega) hl1 hs1 hBc hIm (by omega) rfl rfl rfl lF9 lN9 (by k_mem) (by k_mem) (by k_mem) (by k_updF) (by k_ne) (by k_ne) (by k_ne) (by k_ne) (by k_ne) ?_
  intro z9 h9 tk9 hkz9 kF9 kN9
  clear lF9 lN9
  have hst : LoopStop := {}
  k_steps
  with_reducible refine Stop.go ?_
  walk1
  rename Fr h₀ _ _ _ => lF9
  rename News h₀ _ _ (_ :: _) => lN9
  refine dask_u rfl B9 X XB T TB hKO h12 (by assumption) hJ2 hOy (by omega) hl1 hs1 hBc hIm (by omega) rfl rfl rfl lF9 lN9 (by k_mem) (by k_mem) (by k_mem) (by k_updF) (by k_ne) (by k_ne) (by k_ne) (by k_ne) (by k_ne) ?_
  intro z9 h9 tk9 hkz9 kF9 kN9
  clear lF9 lN9
  have hst : LoopStop := {}
  k_steps
  with_reducible refine Stop.go ?_
  walk1
  rename Fr h₀ _ _ _ => lF9
  rename News h₀ _ _ (_ :: _) => lN9
  refine dask_u rfl B9 X XB T TB hKO h12 (by assumption) hIS hSO (by omega) hSl hs2 hBc hIm (by omega) rfl rfl rfl lF9 lN9 (by k_mem) (by k_mem) (by k_mem) (by k_updF) (by k_ne) (by k_ne) (by k_ne) (by k_ne) (by k_ne) ?_
  intro z9 h9 tk9 hkz9 kF9 kN9
  clear lF9 lN9
  k_steps
  exact hQ _ _ _ (by assumption)
end

section
set_option maxRecDepth 100000 in
set_option maxHeartbeats 8000000 in
theorem tm_all {w : World} {h₀ base : Heap} {L f ls : Addr} {cdv : Value} {p : Program} {loose : List Str} {mean : ExcName → Option Value} {mg mb : Str → Option Value} {s : Shared} {Q : Flow → Shared → Prop} {E : Value → Shared → Prop} {pm : Arguments} {body : List Stmt} {sc : Scope} {nn ee dd : Int} {Pp Qq : Nat}{tsz tn td te tq tp : Tok} {vsM vsD vsB : List Value} {M ds B : List Int} {nM nD nB : Nat} {DM DD DB : Addr} {my : Int} {kz : KD} {x d xp dp : Addr} {od : Obj} {e1 e2 co : Int} {bM : Array UInt8} {tM : Tok} {yv : Int} {tmy tmo : Tok} {uk : Str → Option Value}
    (hdef : (PySem.Challenge.rw_ys0002_03.row.prog).theDef (Str.ofString "law") = some (pm, body, sc)) (B9 : Below callerA base [] h₀) (X : (hd.heap_1 w.params).In h₀) (XB : (hd.heap_1 w.params).In base) (T : Top p loose mean mg mb h₀) (TB : Top p loose mean mg mb base)
    (h12 : 12 ≤ osz nn) (hz163 : osz nn ≤ 163) (hK7 : Keys 12 Pp Qq ee dd) (hnn7 : nn = (Pp : Int) * (Qq : Int)) (hn1 : 1 ≤ nn) (hn13 : Bd 1300 nn) (hd0 : 0 ≤ dd) (he0 : 0 ≤ ee) (hm0 : 0 ≤ my) (hm1 : my ≤ osz nn - 11) (hIm : IntsAre vsM M) (hOm : Octs M) (hlm : (M.length : Int) = my) (hId : IntsAre vsD ds) (hOd9 : Octs ds) (hfil : ds.filter (fun k => k ≠ 0) = ds) (hdl : (ds.length : Int) = osz nn) (hblk : blk (osz nn) ds M = B) (hIB : IntsAre vsB B) (hBO : Octs B) (hBl : (B.length : Int) = osz nn) (hBv0 : 0 ≤ val B) (hBv1 : val B < nn) (hBc : Clear B M) (hKO : KOk ⟨nn, ee, dd, (Pp : Int), (Qq : Int), e1, e2, co⟩) (hkz : BF nn kz) (hod : PubD od nn ee) (hbM : KBw.bInts bM = octs (osz nn).toNat yv) (hy : yv = pmod (val B) ee nn)
    (F : Fr h₀ L s.heap (fun y => if y = Str.ofString "made" then some (.bytes bM tM) else if y = Str.ofString "private" then some (.ref x) else if y = Str.ofString "public" then some (.ref xp) else if y = Str.ofString "block" then some (.ref DB) else if y = Str.ofString "drawn" then some (.ref DD) else if y = Str.ofString "k" then uk y else if y = Str.ofString "message" then some (.ref DM) else if y = Str.ofString "many" then some (.int my tmy) else if y = Str.ofString "most" then some (.int (osz nn - 11) tmo) else if y = Str.ofString "size" then some (.int (osz nn) tsz) else if y = Str.ofString "n" then some (.int nn tn) else if y = Str.ofString "d" then some (.int dd td) else if y = Str.ofString "e" then some (.int ee te) else if y = Str.ofString "q" then some (.int (Qq : Int) tq) else if y = Str.ofString "p" then some (.int (Pp : Int) tp) else List.lookup y [(Str.ofString "script", Value.ref ls)].reverse))
    (N : News h₀ L s.heap ((x, instObj 284 d) :: (d, keyDict w.params ⟨nn, ee, dd, (Pp : Int), (Qq : Int), e1, e2, co⟩ kz) :: (xp, instObj 237 dp) :: (dp, od) :: (DM, listOf vsM.toArray nM) :: (DD, listOf vsD.toArray nD) :: (DB, listOf vsB.toArray nB) :: [])) (e01 : @Ne Nat DM DD) (e02 : @Ne Nat DM DB) (e03 : @Ne Nat DM x) (e04 : @Ne Nat DM d) (e05 : @Ne Nat DM xp) (e06 : @Ne Nat DM dp) (e12 : @Ne Nat DD DB) (e13 : @Ne Nat DD x) (e14 : @Ne Nat DD d) (e15 : @Ne Nat DD xp) (e16 : @Ne Nat DD dp) (e23 : @Ne Nat DB x) (e24 : @Ne Nat DB d) (e25 : @Ne Nat DB xp) (e26 : @Ne Nat DB dp) (e34 : @Ne Nat x d) (e35 : @Ne Nat x xp) (e36 : @Ne Nat x dp) (e45 : @Ne Nat d xp) (e46 : @Ne Nat d dp) (e56 : @Ne Nat xp dp)
    (hQ : ∀ h' tk' m', Fr h₀ L h' m' → Q (.ret (.bool true)) { s with heap := h', toks := tk' }) (hE : PassesOwn (model PySem.Challenge.rw_ys0002_03.row.prog w) (callerA.deeper (envOf (Str.ofString "law") sc L f cdv)) (envOf (Str.ofString "law") sc L f cdv) E) :
    wpAny (model PySem.Challenge.rw_ys0002_03.row.prog w) (callerA.deeper (envOf (Str.ofString "law") sc L f cdv)) (execs (body.drop 12) (envOf (Str.ofString "law") sc L f cdv)) Q E s := by
  conv at hdef => lhs; whnf
  injection hdef with h1
  injection h1 with h1 h2
  injection h2 with h2 h3
  subst h1 h2 h3
  conv in List.drop _ _ => whnf
  w_top off
  k_with_none
  (k_with "call builtin:pow" => ((with_reducible show wpAny _ _ (call (Value.builtin _) [Value.int _ _, Value.int _ _, Value.int _ _]) _ _ _); k_dflt (refine' call_pow3 (by first | assumption | omega) (by first | assumption | omega) ?_)))
  (k_with "call ref" => (k_here; (with_reducible show wpAny _ _ (call (Value.ref 321) [Value.int _ _]) _ _ _); k_dflt (refine' PuP.use2 (by k_asm) (by k_asm) (by k_asm) (by k_asm) (by k_asm) (by first | exact rfl | assumption) (by trivial) size_c (by ktr_room) (by ktr_units) ?_; k_whole; (rintro v7 tl7 h'7 tk'7 ⟨r7, t7, hv7, hr7, htl7⟩ hlt7 F'7 N'7); clear hlt7; subst hv7; subst htl7; subst hr7; (try simp only [List.nil_append] at N'7); (try k_sweep))))
  (k_with "call ref" => (k_here; (with_reducible show wpAny _ _ (call (Value.ref 333) _) _ _ _); k_dflt (refine' PuP.use2 (by k_asm) (by k_asm) (by k_asm) (by k_asm) (by k_asm) (by first | exact rfl | assumption) (by first | is_list | exact News.isList (by k_asm) (by k_mem)) (number_c (by assumption) (by first | assumption | exact blk5_octs (by assumption) (by assumption)) (by first | omega | (simp only [List.length_append, List.length_map, List.length_cons, List.length_nil]; omega))) (by ktr_room) (by ktr_units) ?_; k_whole; (rintro v7 tl7 h'7 tk'7 ⟨r7, t7, hv7, hr7, htl7⟩ hlt7 F'7 N'7); clear hlt7; subst hv7; subst htl7; (try rw [hvy] at hr7); subst hr7; (try simp only [List.nil_append] at N'7); (try k_sweep))))
  (k_with "call ref" => (k_here; (with_reducible show wpAny _ _ (call (Value.ref 338) _) _ _ _); k_dflt (refine' PuN.use2 (by k_asm) (by k_asm) (by k_asm) (by k_asm) (by k_asm) (by first | exact rfl | assumption) (by trivial) (written_c (by first | assumption | exact (pmod_nn (by assumption)).1) (by first | assumption | exact SBd.mono (Bd.sbd (pmod_Bd (by assumption) (by assumption))) (by decide)) (by omega) (by omega)) (by ktr_room) (by ktr_units) ?_; k_whole; (rintro v7 tl7 h'7 tk'7 ⟨D97, vs97, m97, hv7, htl7, hI97⟩ hlt7 F'7 N'7); subst hv7; subst htl7; (try simp only [List.forall_mem_cons, List.not_mem_nil, false_implies, implies_true, and_true] at hlt7); (repeat (with_reducible (rename And _ _ => hq; cases hq))); (try simp only [List.cons_append, List.nil_append] at N'7); (try k_sweep))))
  (k_with "call type:list" => (k_here; (with_reducible show wpAny _ _ (call (Value.type _) [Value.bytes _ _]) _ _ _); k_dflt (refine' list_bytes_K rfl (by k_asm) (by k_asm) (by assumption) (by ((try simp only [octs_length]); omega)) ?_); intro D'7 vs'7 n'7 h'7 tk'7 F'7 N'7 l1'7 hI'7 hl'7; (try k_lt l1'7)))
  (k_with "storeName" => ((with_reducible show wpAny _ _ (storeName _ (Str.ofString "short") _) _ _ _); (rename LoopStop => hLs'7); clear hLs'7; refine Stop.here ?_))
  have hn0 : 0 < nn := by omega
  obtain ⟨y0, y1⟩ := pmod_fit (x := val B) (e := ee) hn0
  rw [← hy] at y0 y1
  have hvy : val (octs (osz nn).toNat yv) = yv := val_octs y0 y1
  have hyn : pmod yv dd nn = val B := hy ▸ keys_rsa hK7 hnn7 _ hBv0 hBv1
  have hyB : octs (osz nn).toNat (val B) = B := by
    have := octs_val hBO
    rwa [show B.length = (osz nn).toNat by omega] at this
  have hyb : SBd 5000 yv := hy ▸ SBd.mono (Bd.sbd (pmod_Bd (x := val B) (e := ee) hn1 hn13)) (by decide)
  have hOy : Octs (octs (osz nn).toNat yv) := octs_octs
  have hly : (octs (osz nn).toNat yv).length = (osz nn).toNat := octs_length
  obtain ⟨k9, hk9, k1, k2, k3⟩ := short_facts y0 y1 (by omega) rfl
  subst hy
  have hst : LoopStop := {}
  k_steps
  with_reducible refine Stop.go ?_
  rename (IntsAre _ (octs _ _)) => hIS
  have hk8 : (if osz (pmod (val B) ee nn) > 1 then osz (pmod (val B) ee nn) else 1) = k9 := by rw [hk9]; split <;> omega
  rw [hk8] at hIS
  walk1
  rename Fr h₀ _ _ _ => lF9
  rename News h₀ _ _ (_ :: _) => lN9
  exact tf_all rfl B9 X XB T TB h12 hz163 hK7 hnn7 hn1 hn13 hd0 he0 hm0 hm1 hIm hOm hlm hId hOd9 hfil hdl hblk hIB hBO hBl hBv0 hBv1 hBc hKO hkz hod hbM rfl hIS octs_octs (by rw [octs_length]; omega) (val_octs y0 k3) lF9 (news_sub lN9 (by lcg_sub)) (by k_ne) (by k_ne) (by k_ne) (by k_ne) (by k_ne) (by k_ne) (by k_ne) (by k_ne) (by k_ne) (by k_ne) (by k_ne) (by k_ne) (by k_ne) (by k_ne) (by k_ne) (by k_ne) (by k_ne) (by k_ne) (by k_ne) (by k_ne) (by k_ne) (by k_ne) (by k_ne) (by k_ne) (by k_ne) (by k_ne) (by k_ne) (by k_ne) hQ hE
end

section
theorem mod_lty {prog : Program} {w : World} {A : Around} {E : Value → Shared → Prop} {s : Shared} {a b : Int} {t u : Tok} {Q : Value → Shared → Prop} (hb : 1 ≤ b)
    (h : ∀ z, z = Int.fmod a b → 0 ≤ z → z < b → Q (.int z s.toks) { s with toks := s.toks + 1 }) : wpAny (model prog w) A (binaryOp .Mod (.int a t) (.int b u)) Q E s :=
  mod_int' (by omega) (h _ rfl (fmod_lo hb) (fmod_hi hb))
theorem keyd_abs {h₀ h : Heap} {L x d C : Addr} {rest : List (Addr × Obj)} {P : Params} {n e d' p q e1 e2 co : Int} {k0 k1 k2 k3 k4 k5 k6 k7 k8 k9 v0 v1 v2 v3 v4 v5 v6 v7 v8 v9 : Tok}
    (N : News h₀ L h ((x, instObj C d) :: (d, dictOf [{ hash := PyData.keyHash P (Str.ofString "n"), key := .str (Str.ofString "n") k0, val := .int (n) v0 }, { hash := PyData.keyHash P (Str.ofString "e"), key := .str (Str.ofString "e") k1, val := .int (e) v1 }, { hash := PyData.keyHash P (Str.ofString "blindfac"), key := .str (Str.ofString "blindfac") k2, val := .int (-1) v2 }, { hash := PyData.keyHash P (Str.ofString "blindfac_inverse"), key := .str (Str.ofString "blindfac_inverse") k3, val := .int (-1) v3 }, { hash := PyData.keyHash P (Str.ofString "d"), key := .str (Str.ofString "d") k4, val := .int (d') v4 }, { hash := PyData.keyHash P (Str.ofString "p"), key := .str (Str.ofString "p") k5, val := .int (p) v5 }, { hash := PyData.keyHash P (Str.ofString "q"), key := .str (Str.ofString "q") k6, val := .int (q) v6 }, { hash := PyData.keyHash P (Str.ofString "exp1"), key := .str (Str.ofString "exp1") k7, val := .int (e1) v7 }, { hash := PyData.keyHash P (Str.ofString "exp2"), key := .str (Str.ofString "exp2") k8, val := .int (e2) v8 }, { hash := PyData.keyHash P (Str.ofString "coef"), key := .str (Str.ofString "coef") k9, val := .int (co) v9 }] 10) :: rest)) : ∃ z : KD, BF n z ∧ News h₀ L h ((x, instObj C d) :: (d, keyDict P ⟨n, e, d', p, q, e1, e2, co⟩ z) :: rest) :=
  ⟨⟨-1, -1, k0, k1, k2, k3, k4, k5, k6, k7, k8, k9, v0, v1, v2, v3, v4, v5, v6, v7, v8, v9⟩, .inl (show (-1 : Int) < 0 by decide), N⟩
set_option maxRecDepth 100000 in
set_option maxHeartbeats 8000000 in
theorem ty_all {w : World} {h₀ base : Heap} {L f ls : Addr} {cdv : Value} {p : Program} {loose : List Str} {mean : ExcName → Option Value} {mg mb : Str → Option Value} {s : Shared} {Q : Flow → Shared → Prop} {E : Value → Shared → Prop} {pm : Arguments} {body : List Stmt} {sc : Scope} {nn ee dd : Int} {Pp Qq : Nat}{tsz tn td te tq tp : Tok} {vsM vsD vsB : List Value} {M ds B : List Int} {nM nD nB : Nat} {DM DD DB : Addr} {my : Int} {tmy : Tok} {tmo : Tok} {uk : Str → Option Value}
    (hdef : (PySem.Challenge.rw_ys0002_03.row.prog).theDef (Str.ofString "law") = some (pm, body, sc)) (B9 : Below callerA base [] h₀) (X : (hd.heap_1 w.params).In h₀) (XB : (hd.heap_1 w.params).In base) (T : Top p loose mean mg mb h₀) (TB : Top p loose mean mg mb base)
    (h12 : 12 ≤ osz nn) (hz163 : osz nn ≤ 163) (hK7 : Keys 12 Pp Qq ee dd) (hnn7 : nn = (Pp : Int) * (Qq : Int)) (hn1 : 1 ≤ nn) (hn13 : Bd 1300 nn) (hd0 : 0 ≤ dd) (he0 : 0 ≤ ee) (hm0 : 0 ≤ my) (hm1 : my ≤ osz nn - 11) (hIm : IntsAre vsM M) (hOm : Octs M) (hlm : (M.length : Int) = my) (hId : IntsAre vsD ds) (hOd9 : Octs ds) (hfil : ds.filter (fun k => k ≠ 0) = ds) (hdl : (ds.length : Int) = osz nn) (hblk : blk (osz nn) ds M = B) (hIB : IntsAre vsB B) (hBO : Octs B) (hBl : (B.length : Int) = osz nn) (hBv0 : 0 ≤ val B) (hBv1 : val B < nn) (hBc : Clear B M)
    (F : Fr h₀ L s.heap (fun y => if y = Str.ofString "block" then some (.ref DB) else if y = Str.ofString "drawn" then some (.ref DD) else if y = Str.ofString "k" then uk y else if y = Str.ofString "message" then some (.ref DM) else if y = Str.ofString "many" then some (.int my tmy) else if y = Str.ofString "most" then some (.int (osz nn - 11) tmo) else if y = Str.ofString "size" then some (.int (osz nn) tsz) else if y = Str.ofString "n" then some (.int nn tn) else if y = Str.ofString "d" then some (.int dd td) else if y = Str.ofString "e" then some (.int ee te) else if y = Str.ofString "q" then some (.int (Qq : Int) tq) else if y = Str.ofString "p" then some (.int (Pp : Int) tp) else List.lookup y [(Str.ofString "script", Value.ref ls)].reverse))
    (N : News h₀ L s.heap ((DM, listOf vsM.toArray nM) :: (DD, listOf vsD.toArray nD) :: (DB, listOf vsB.toArray nB) :: [])) (e01 : @Ne Nat DM DD) (e02 : @Ne Nat DM DB) (e12 : @Ne Nat DD DB)
    (hQ : ∀ h' tk' m', Fr h₀ L h' m' → Q (.ret (.bool true)) { s with heap := h', toks := tk' }) (hE : PassesOwn (model PySem.Challenge.rw_ys0002_03.row.prog w) (callerA.deeper (envOf (Str.ofString "law") sc L f cdv)) (envOf (Str.ofString "law") sc L f cdv) E) :
    wpAny (model PySem.Challenge.rw_ys0002_03.row.prog w) (callerA.deeper (envOf (Str.ofString "law") sc L f cdv)) (execs (body.drop 9) (envOf (Str.ofString "law") sc L f cdv)) Q E s := by
  conv at hdef => lhs; whnf
  injection hdef with h1
  injection h1 with h1 h2
  injection h2 with h2 h3
  subst h1 h2 h3
  conv in List.drop _ _ => whnf
  w_top off
  k_with_none
  (k_with "binaryOp Mult int int" => (k_here; k_dflt (refine' mul_bd (k := 610) (l := 610) (by with_reducible assumption) (by with_reducible assumption) (by decide) ?_); intro nn7 hnn7 hsz7))
  (k_with "call builtin:pow" => ((with_reducible show wpAny _ _ (call (Value.builtin _) [Value.int _ _, Value.int _ _, Value.int _ _]) _ _ _); k_dflt (refine' call_pow3 (by first | assumption | omega) (by first | assumption | omega) ?_)))
  (k_with "call ref" => (k_here; (with_reducible show wpAny _ _ (call (Value.ref 326) _) _ _ _); k_dflt (refine' PuN.use2 (by k_asm) (by k_asm) (by k_asm) (by k_asm) (by k_asm) (by first | exact rfl | assumption) (by is_list) (keys_c (by assumption) (by assumption) (by first | assumption | omega) (by omega) (by omega) (by omega) (by omega)) (by ktr_room) (by ktr_units) ?_; k_whole; (rintro v7 tl7 h'7 tk'7 ⟨T97, pp7, qq7, e97, d97, t17, t27, t37, t47, n97, hv7, htl7, hK7⟩ hlt7 F'7 N'7); subst hv7; subst htl7; (try simp only [List.forall_mem_cons, List.not_mem_nil, false_implies, implies_true, and_true] at hlt7); (repeat (with_reducible (rename And _ _ => hq; cases hq))); (try simp only [List.cons_append, List.nil_append] at N'7); (obtain ⟨hKp7, hKq7⟩ := hK7.bds); (obtain ⟨hKb17, hKb27, hKq07, hKp07, hKg7, hKlp7, hKlq7⟩ := hK7.more); (try k_sweep))))
  (k_with "call ref" => (k_here; (with_reducible show wpAny _ _ (call (Value.ref 321) [Value.int _ _]) _ _ _); k_dflt (refine' PuP.use2 (by k_asm) (by k_asm) (by k_asm) (by k_asm) (by k_asm) (by first | exact rfl | assumption) (by trivial) size_c (by ktr_room) (by ktr_units) ?_; k_whole; (rintro v7 tl7 h'7 tk'7 ⟨r7, t7, hv7, hr7, htl7⟩ hlt7 F'7 N'7); clear hlt7; subst hv7; subst htl7; subst hr7; (try simp only [List.nil_append] at N'7); (try k_sweep))))
  (k_with "call ref" => (k_here; (with_reducible show wpAny _ _ (call (Value.ref 77) [Value.int _ _, Value.int _ _]) _ _ _); k_dflt (refine' PuP.use2 (by k_asm) (by k_asm) (by k_asm) (by k_asm) (by k_asm) (by first | exact rfl | assumption) (by trivial) (inv_c (by with_reducible assumption) (by with_reducible assumption) (by with_reducible assumption) (by with_reducible assumption) (by with_reducible assumption)) (by ktr_room) (by ktr_units) ?_; k_whole; (rintro v7 tl7 h'7 tk'7 ⟨r7, t7, hv7, hrs7, hri7, htl7⟩ hlt7 F'7 N'7); clear hlt7; subst hv7; subst htl7; (try simp only [List.nil_append] at N'7); (try k_sweep))))
  (k_with "binaryOp Mod int int" => (k_here; k_dflt (refine' mod_lty (by with_reducible assumption) ?_); intro m97 hm97 hm907 hm917))
  (k_with "call ref" => (k_here; (with_reducible show wpAny _ _ (call (Value.ref 333) _) _ _ _); k_dflt (refine' PuP.use2 (by k_asm) (by k_asm) (by k_asm) (by k_asm) (by k_asm) (by first | exact rfl | assumption) (by first | is_list | exact News.isList (by k_asm) (by k_mem)) (number_c (by assumption) (by first | assumption | exact blk5_octs (by assumption) (by assumption)) (by first | omega | (simp only [List.length_append, List.length_map, List.length_cons, List.length_nil]; omega))) (by ktr_room) (by ktr_units) ?_; k_whole; (rintro v7 tl7 h'7 tk'7 ⟨r7, t7, hv7, hr7, htl7⟩ hlt7 F'7 N'7); clear hlt7; subst hv7; subst htl7; subst hr7; (try simp only [List.nil_append] at N'7); (try k_sweep))))
  (k_with "call ref" => (k_here; (with_reducible show wpAny _ _ (call (Value.ref 338) _) _ _ _); k_dflt (refine' PuN.use2 (by k_asm) (by k_asm) (by k_asm) (by k_asm) (by k_asm) (by first | exact rfl | assumption) (by trivial) (written_c (by first | assumption | exact (pmod_nn (by assumption)).1) (by first | assumption | exact SBd.mono (Bd.sbd (pmod_Bd (by assumption) (by assumption))) (by decide)) (by omega) (by omega)) (by ktr_room) (by ktr_units) ?_; k_whole; (rintro v7 tl7 h'7 tk'7 ⟨D97, vs97, m97, hv7, htl7, hI97⟩ hlt7 F'7 N'7); subst hv7; subst htl7; (try simp only [List.forall_mem_cons, List.not_mem_nil, false_implies, implies_true, and_true] at hlt7); (repeat (with_reducible (rename And _ _ => hq; cases hq))); (try simp only [List.cons_append, List.nil_append] at N'7); (try k_sweep))))
  (k_with "call ref" => (k_here; (with_reducible show wpAny _ _ (call (Value.ref 300) _) _ _ _); k_dflt (refine' PuN.use2 (by k_asm) (by k_asm) (by k_asm) (by k_asm) (by k_asm) (by first | exact rfl | assumption) (by is_list) (octets_c (by assumption) (by assumption) (by first | assumption | omega) (by omega) (by omega) (by omega) (by omega)) (by ktr_room) (by ktr_units) ?_; k_whole; (rintro v7 tl7 h'7 tk'7 ⟨D97, vs97, os97, n97, hv7, htl7, hI97, hO97, hl97⟩ hlt7 F'7 N'7); subst hv7; subst htl7; (try simp only [List.forall_mem_cons, List.not_mem_nil, false_implies, implies_true, and_true] at hlt7); (repeat (with_reducible (rename And _ _ => hq; cases hq))); (try simp only [List.cons_append, List.nil_append] at N'7); (try k_sweep))))
  (k_with "call ref" => (k_here; (with_reducible show wpAny _ _ (call (Value.ref 293) [Value.ref _, Value.int _ _]) _ _ _); k_dflt (refine' PuP.use2 (by k_asm) (by k_asm) (by k_asm) (by k_asm) (by k_asm) (by first | exact rfl | assumption) (by is_list) (cell_c (by assumption) (by assumption) (by first | assumption | omega) (by omega) (by omega)) (by ktr_room) (by ktr_units) ?_; k_whole; (rintro v7 tl7 h'7 tk'7 ⟨r7, t7, hv7, hr7, htl7⟩ hlt7 F'7 N'7); clear hlt7; subst hv7; subst htl7; (try simp only [List.nil_append] at N'7); (have hrn7 := Bd.nn hr7); (try k_sweep))))
  (k_with "eval Call" => (k_here; (with_reducible show wpAny _ _ (eval (PySem.Expr.Call (PySem.Expr.Name (Str.ofString "_law_cell") _) _ _ _) _) _ _ _); k_dflt (refine Call_ ?_)))
  (k_with "storeName" => ((with_reducible show wpAny _ _ (storeName _ (Str.ofString "public") _) _ _ _); (rename LoopStop => hLs'7); clear hLs'7; refine Stop.here ?_))
  (k_with "storeName" => ((with_reducible show wpAny _ _ (storeName _ (Str.ofString "private") _) _ _ _); (rename LoopStop => hLs'7); clear hLs'7; refine Stop.here ?_))
  (k_with "storeName" => ((with_reducible show wpAny _ _ (storeName _ (Str.ofString "made") _) _ _ _); (rename LoopStop => hLs'7); clear hLs'7; refine Stop.here ?_))
  (k_with "call type:bytes" => (k_here; (with_reducible show wpAny _ _ (call (Value.type "bytes") [Value.ref _]) _ _ _); k_dflt (refine' KBa.make_K (by k_asm) (by k_asm) (by rfl) (by first | is_list | exact News.isList (by k_asm) (by k_mem)) (by assumption) (by (show Octs _; assumption)) (by omega) ?_); intro _ _ _ F'7 N'7 kbaIn7; (have hbI7 := KBa.ints_make kbaIn7)))
  (k_with "call ref" => (k_here; (with_reducible show wpAny _ _ (call (Value.ref 143) _) _ _ _); k_dflt (refine' PuP.use2 (by k_asm) (by k_asm) (by k_asm) (by k_asm) (by k_asm) (by first | exact rfl | assumption) (by exact pub_of (by k_asm) (by k_mem) (by k_mem) (by assumption)) (enc_c (by first | assumption | omega) (by first | assumption | omega) (by first | assumption | omega) (by first | assumption | omega) (by first | assumption | omega) (by first | assumption | omega) (by first | assumption | omega) (by first | assumption | omega) (by first | assumption | omega) (by first | assumption | omega)) (by ktr_room) (by ktr_units) ?_; k_whole; (rintro v7 tl7 h'7 tk'7 ⟨b97, t97, hv7, hb97, htl7⟩ hlt7 F'7 N'7); clear hlt7; subst hv7; subst htl7; (try simp only [List.nil_append] at N'7); (rw [hfil, hblk] at hb97); (try k_sweep))))
  obtain ⟨hKp7, hKq7⟩ := hK7.bds
  obtain ⟨hKb17, hKb27, hKq07, hKp07, hKg7, hKlp7, hKlq7⟩ := hK7.more
  have hst : LoopStop := {}
  k_steps
  with_reducible refine Stop.go ?_
  rename News h₀ _ _ (_ :: _) => lN
  obtain ⟨od9, hod9, lN⟩ := pubd_abs lN
  walk1
  have hst : LoopStop := {}
  k_steps
  with_reducible refine Stop.go ?_
  have hKO := kok_of hK7 hnn7 (by assumption) (by assumption)
  rename News h₀ _ _ (_ :: _) => lN
  obtain ⟨kz, hkz, lN⟩ := keyd_abs lN
  have hn0 : 0 < nn := by omega
  have hf9 : osz nn - M.length - 3 ≤ ((ds.filter (fun k => k ≠ 0)).length : Int) := by rw [hfil]; omega
  have hm9 : (M.length : Int) ≤ osz nn - 11 := by omega
  have hM6 : M.length ≤ 1000 := by omega
  have hd6 : ds.length ≤ 1000 := by omega
  walk1
  have hst : LoopStop := {}
  k_steps
  with_reducible refine Stop.go ?_
  rename (KBw.bInts _ = octs _ _) => hbM
  walk1
  rename Fr h₀ _ _ _ => lF9
  rename News h₀ _ _ (_ :: _) => lN9
  exact tm_all rfl B9 X XB T TB h12 hz163 hK7 hnn7 hn1 hn13 hd0 he0 hm0 hm1 hIm hOm hlm hId hOd9 hfil hdl hblk hIB hBO hBl hBv0 hBv1 hBc hKO hkz hod9 hbM rfl lF9 (news_sub lN9 (by lcg_sub)) (by k_ne) (by k_ne) (by k_ne) (by k_ne) (by k_ne) (by k_ne) (by k_ne) (by k_ne) (by k_ne) (by k_ne) (by k_ne) (by k_ne) (by k_ne) (by k_ne) (by k_ne) (by k_ne) (by k_ne) (by k_ne) (by k_ne) (by k_ne) (by k_ne) hQ hE
end

section
theorem mod_lt {prog : Program} {w : World} {A : Around} {E : Value → Shared → Prop} {s : Shared} {a b : Int} {t u : Tok} {Q : Value → Shared → Prop} (hb : 1 ≤ b)
    (h : ∀ z, z = Int.fmod a b → 0 ≤ z → z < b → Q (.int z s.toks) { s with toks := s.toks + 1 }) : wpAny (model prog w) A (binaryOp .Mod (.int a t) (.int b u)) Q E s :=
  mod_int' (by omega) (h _ rfl (fmod_lo hb) (fmod_hi hb))
theorem fill_octs {f : List Int} : Octs (f.map (fun o => 1 + o.fmod 255)) := by
  intro k hk
  obtain ⟨o, _, rfl⟩ := List.mem_map.mp hk
  have h1 := fmod_lo (a := o) (b := 255) (by decide)
  have h2 := fmod_hi (a := o) (b := 255) (by decide)
  omega
theorem fill_no0 {f : List Int} : 0 ∉ f.map (fun o => 1 + o.fmod 255) := fun h => by
  obtain ⟨o, _, h⟩ := List.mem_map.mp h
  have h1 := fmod_lo (a := o) (b := 255) (by decide)
  omega
theorem fill_fil {f : List Int} : (f.map (fun o => 1 + o.fmod 255)).filter (fun k => k ≠ 0) = f.map (fun o => 1 + o.fmod 255) :=
  List.filter_eq_self.mpr fun k hk => by simp only [ne_eq, decide_not, Bool.not_eq_true', decide_eq_false_iff_not]; exact fun e => fill_no0 (e ▸ hk)
theorem blk3_facts {nn : Int} {ds M B : List Int} (hn : 0 < nn) (hd : Octs ds) (h0 : 0 ∉ ds) (hM : Octs M) (hm : (M.length : Int) ≤ osz nn - 11) (hl : osz nn - M.length - 3 ≤ (ds.length : Int)) (hB : blk (osz nn) ds M = B) :
    Octs B ∧ (B.length : Int) = osz nn ∧ 0 ≤ val B ∧ val B < nn ∧ Clear B M := by
  subst hB
  obtain ⟨v0, v1⟩ := blk_val hn hd hM hm hl
  refine ⟨blk_octs hd hM, blk_len hm hl, v0, v1, ds.take (osz nn - M.length - 3).toNat, ?_, fun h => h0 (List.mem_of_mem_take h), by rw [List.length_take]; omega⟩
  unfold blk
  simp only [List.cons_append, List.nil_append, List.append_assoc]
set_option maxRecDepth 100000 in
set_option maxHeartbeats 8000000 in
theorem tu_all {w : World} {h₀ base : Heap} {L f ls : Addr} {cdv : Value} {p : Program} {loose : List Str} {mean : ExcName → Option Value} {mg mb : Str → Option Value} {s : Shared} {Q : Flow → Shared → Prop} {E : Value → Shared → Prop} {pm : Arguments} {body : List Stmt} {sc : Scope} {nn ee dd : Int} {Pp Qq : Nat}{tsz tn td te tq tp : Tok} {vsS vsM : List Value} {nsS M : List Int} {nM : Nat} {DM : Addr} {my : Int} {tmy : Tok} {tmo : Tok} {uk : Str → Option Value}
    (hdef : (PySem.Challenge.rw_ys0002_03.row.prog).theDef (Str.ofString "law") = some (pm, body, sc)) (B9 : Below callerA base [] h₀) (X : (hd.heap_1 w.params).In h₀) (XB : (hd.heap_1 w.params).In base) (T : Top p loose mean mg mb h₀) (TB : Top p loose mean mg mb base)
    (h12 : 12 ≤ osz nn) (hz163 : osz nn ≤ 163) (hK7 : Keys 12 Pp Qq ee dd) (hnn7 : nn = (Pp : Int) * (Qq : Int)) (hn1 : 1 ≤ nn) (hn13 : Bd 1300 nn) (hd0 : 0 ≤ dd) (he0 : 0 ≤ ee) (hI : IntsAre vsS nsS) (hScr : Scr nsS) (hlen : nsS.length ≤ 63) (hL : h₀.IsList ls vsS.toArray) (hm0 : 0 ≤ my) (hm1 : my ≤ osz nn - 11) (hIm : IntsAre vsM M) (hOm : Octs M) (hlm : (M.length : Int) = my)
    (F : Fr h₀ L s.heap (fun y => if y = Str.ofString "k" then uk y else if y = Str.ofString "message" then some (.ref DM) else if y = Str.ofString "many" then some (.int my tmy) else if y = Str.ofString "most" then some (.int (osz nn - 11) tmo) else if y = Str.ofString "size" then some (.int (osz nn) tsz) else if y = Str.ofString "n" then some (.int nn tn) else if y = Str.ofString "d" then some (.int dd td) else if y = Str.ofString "e" then some (.int ee te) else if y = Str.ofString "q" then some (.int (Qq : Int) tq) else if y = Str.ofString "p" then some (.int (Pp : Int) tp) else List.lookup y [(Str.ofString "script", Value.ref ls)].reverse))
    (N : News h₀ L s.heap [(DM, listOf vsM.toArray nM)]) 
    (hQ : ∀ h' tk' m', Fr h₀ L h' m' → Q (.ret (.bool true)) { s with heap := h', toks := tk' }) (hE : PassesOwn (model PySem.Challenge.rw_ys0002_03.row.prog w) (callerA.deeper (envOf (Str.ofString "law") sc L f cdv)) (envOf (Str.ofString "law") sc L f cdv) E) :
    wpAny (model PySem.Challenge.rw_ys0002_03.row.prog w) (callerA.deeper (envOf (Str.ofString "law") sc L f cdv)) (execs (body.drop 7) (envOf (Str.ofString "law") sc L f cdv)) Q E s := by
  conv at hdef => lhs; whnf
  injection hdef with h1
  injection h1 with h1 h2
  injection h2 with h2 h3
  subst h1 h2 h3
  conv in List.drop _ _ => whnf
  w_top off
  k_with_none
  (k_with "binaryOp Mult int int" => (k_here; k_dflt (refine' mul_bd (k := 610) (l := 610) (by with_reducible assumption) (by with_reducible assumption) (by decide) ?_); intro nn7 hnn7 hsz7))
  (k_with "call builtin:pow" => ((with_reducible show wpAny _ _ (call (Value.builtin _) [Value.int _ _, Value.int _ _, Value.int _ _]) _ _ _); k_dflt (refine' call_pow3 (by first | assumption | omega) (by first | assumption | omega) ?_)))
  (k_with "call ref" => (k_here; (with_reducible show wpAny _ _ (call (Value.ref 326) _) _ _ _); k_dflt (refine' PuN.use2 (by k_asm) (by k_asm) (by k_asm) (by k_asm) (by k_asm) (by first | exact rfl | assumption) (by is_list) (keys_c (by assumption) (by assumption) (by first | assumption | omega) (by omega) (by omega) (by omega) (by omega)) (by ktr_room) (by ktr_units) ?_; k_whole; (rintro v7 tl7 h'7 tk'7 ⟨T97, pp7, qq7, e97, d97, t17, t27, t37, t47, n97, hv7, htl7, hK7⟩ hlt7 F'7 N'7); subst hv7; subst htl7; (try simp only [List.forall_mem_cons, List.not_mem_nil, false_implies, implies_true, and_true] at hlt7); (repeat (with_reducible (rename And _ _ => hq; cases hq))); (try simp only [List.cons_append, List.nil_append] at N'7); (obtain ⟨hKp7, hKq7⟩ := hK7.bds); (obtain ⟨hKb17, hKb27, hKq07, hKp07, hKg7, hKlp7, hKlq7⟩ := hK7.more); (try k_sweep))))
  (k_with "call ref" => (k_here; (with_reducible show wpAny _ _ (call (Value.ref 321) [Value.int _ _]) _ _ _); k_dflt (refine' PuP.use2 (by k_asm) (by k_asm) (by k_asm) (by k_asm) (by k_asm) (by first | exact rfl | assumption) (by trivial) size_c (by ktr_room) (by ktr_units) ?_; k_whole; (rintro v7 tl7 h'7 tk'7 ⟨r7, t7, hv7, hr7, htl7⟩ hlt7 F'7 N'7); clear hlt7; subst hv7; subst htl7; subst hr7; (try simp only [List.nil_append] at N'7); (try k_sweep))))
  (k_with "call ref" => (k_here; (with_reducible show wpAny _ _ (call (Value.ref 77) [Value.int _ _, Value.int _ _]) _ _ _); k_dflt (refine' PuP.use2 (by k_asm) (by k_asm) (by k_asm) (by k_asm) (by k_asm) (by first | exact rfl | assumption) (by trivial) (inv_c (by with_reducible assumption) (by with_reducible assumption) (by with_reducible assumption) (by with_reducible assumption) (by with_reducible assumption)) (by ktr_room) (by ktr_units) ?_; k_whole; (rintro v7 tl7 h'7 tk'7 ⟨r7, t7, hv7, hrs7, hri7, htl7⟩ hlt7 F'7 N'7); clear hlt7; subst hv7; subst htl7; (try simp only [List.nil_append] at N'7); (try k_sweep))))
  (k_with "binaryOp Mod int int" => (k_here; k_dflt (refine' mod_lt (by with_reducible assumption) ?_); intro m97 hm97 hm907 hm917))
  (k_with "call ref" => (k_here; (with_reducible show wpAny _ _ (call (Value.ref 333) _) _ _ _); k_dflt (refine' PuP.use2 (by k_asm) (by k_asm) (by k_asm) (by k_asm) (by k_asm) (by first | exact rfl | assumption) (by first | is_list | exact News.isList (by k_asm) (by k_mem)) (number_c (by assumption) (by first | assumption | exact blk5_octs (by assumption) (by assumption)) (by first | omega | (simp only [List.length_append, List.length_map, List.length_cons, List.length_nil]; omega))) (by ktr_room) (by ktr_units) ?_; k_whole; (rintro v7 tl7 h'7 tk'7 ⟨r7, t7, hv7, hr7, htl7⟩ hlt7 F'7 N'7); clear hlt7; subst hv7; subst htl7; subst hr7; (try simp only [List.nil_append] at N'7); (try k_sweep))))
  (k_with "call ref" => (k_here; (with_reducible show wpAny _ _ (call (Value.ref 338) _) _ _ _); k_dflt (refine' PuN.use2 (by k_asm) (by k_asm) (by k_asm) (by k_asm) (by k_asm) (by first | exact rfl | assumption) (by trivial) (written_c (by first | assumption | exact (pmod_nn (by assumption)).1) (by first | assumption | exact SBd.mono (Bd.sbd (pmod_Bd (by assumption) (by assumption))) (by decide)) (by omega) (by omega)) (by ktr_room) (by ktr_units) ?_; k_whole; (rintro v7 tl7 h'7 tk'7 ⟨D97, vs97, m97, hv7, htl7, hI97⟩ hlt7 F'7 N'7); subst hv7; subst htl7; (try simp only [List.forall_mem_cons, List.not_mem_nil, false_implies, implies_true, and_true] at hlt7); (repeat (with_reducible (rename And _ _ => hq; cases hq))); (try simp only [List.cons_append, List.nil_append] at N'7); (try k_sweep))))
  (k_with "call ref" => (k_here; (with_reducible show wpAny _ _ (call (Value.ref 300) _) _ _ _); k_dflt (refine' PuN.use2 (by k_asm) (by k_asm) (by k_asm) (by k_asm) (by k_asm) (by first | exact rfl | assumption) (by is_list) (octets_c (by assumption) (by assumption) (by first | assumption | omega) (by omega) (by omega) (by omega) (by omega)) (by ktr_room) (by ktr_units) ?_; k_whole; (rintro v7 tl7 h'7 tk'7 ⟨D97, vs97, os97, n97, hv7, htl7, hI97, hO97, hl97⟩ hlt7 F'7 N'7); subst hv7; subst htl7; (try simp only [List.forall_mem_cons, List.not_mem_nil, false_implies, implies_true, and_true] at hlt7); (repeat (with_reducible (rename And _ _ => hq; cases hq))); (try simp only [List.cons_append, List.nil_append] at N'7); (try k_sweep))))
  (k_with "call ref" => (k_here; (with_reducible show wpAny _ _ (call (Value.ref 293) [Value.ref _, Value.int _ _]) _ _ _); k_dflt (refine' PuP.use2 (by k_asm) (by k_asm) (by k_asm) (by k_asm) (by k_asm) (by first | exact rfl | assumption) (by is_list) (cell_c (by assumption) (by assumption) (by first | assumption | omega) (by omega) (by omega)) (by ktr_room) (by ktr_units) ?_; k_whole; (rintro v7 tl7 h'7 tk'7 ⟨r7, t7, hv7, hr7, htl7⟩ hlt7 F'7 N'7); clear hlt7; subst hv7; subst htl7; (try simp only [List.nil_append] at N'7); (have hrn7 := Bd.nn hr7); (try k_sweep))))
  (k_with "eval Call" => (k_here; (with_reducible show wpAny _ _ (eval (PySem.Expr.Call (PySem.Expr.Name (Str.ofString "_law_cell") _) _ _ _) _) _ _ _); k_dflt (refine Call_ ?_)))
  (k_with "storeName" => ((with_reducible show wpAny _ _ (storeName _ (Str.ofString "drawn") _) _ _ _); (rename LoopStop => hLs'7); clear hLs'7; refine Stop.here ?_))
  (k_with "storeName" => ((with_reducible show wpAny _ _ (storeName _ (Str.ofString "block") _) _ _ _); (rename LoopStop => hLs'7); clear hLs'7; refine Stop.here ?_))
  (k_with "eval ListComp" => ((rename LoopStop => hLs'7); clear hLs'7; refine Stop.here ?_))
  (k_with "CompSrc" => ((rename LoopStop => hLs'7); clear hLs'7; refine Stop.here ?_))
  obtain ⟨hKp7, hKq7⟩ := hK7.bds
  obtain ⟨hKb17, hKb27, hKq07, hKp07, hKg7, hKlp7, hKlq7⟩ := hK7.more
  have hst : LoopStop := {}
  k_steps
  with_reducible refine Stop.go ?_
  rename Octs _ => hOf
  rename IntsAre _ _ => hIf
  rename (((List.length _ : Nat) : Int) = osz nn) => hlf
  rename List Int => osF
  rename List Value => vsF
  have hvsz : vsF.toArray.size = osF.length := by rw [List.size_toArray, hIf.length]
  rename Fr _ _ _ _ => lF2
  rename News _ _ _ (_ :: _) => lN2
  refine LCg.CompSrc.ledger (by rfl) lF2 lN2 (by k_mem) (by rw [hvsz, sizeLine_eq]; omega) ?_
  intro g9
  obtain ⟨nx8, h8, lN2⟩ : ∃ nx8, nx8 = _ ∧ News _ _ _ nx8 := ⟨_, rfl, lN2⟩
  with_unfolding_all refine' comp_inv (fun i ys nx => nx = nx8 ∧ IntsAre ys ((osF.take i).map (fun o => 1 + o.fmod 255))) ?h0 ?hstep ?hfin
  case h0 => exact ⟨h8.symm, .nil⟩
  all_goals (clear lF2 lN2)
  case hstep =>
    rintro i ys nx v I2 oI2 C oC D m₂ h2 tk2 E' hi ⟨rfl, hR⟩ hv hns2 hx' F' N' off' ne'
    obtain ⟨kk, tt, rfl, hkk⟩ := ints_at hIf (by rw [List.getElem?_toArray] at hv; exact hv)
    clear hv
    subst h8
    simp only [LCg.Off3, and_true] at off'
    k_steps
    exact map_row hR hkk
  case hfin =>
    rintro ys nx ⟨rfl, hR⟩
    subst h8
    rw [List.take_of_length_le (by rw [hvsz]; exact Nat.le_refl _)] at hR
    have hst : LoopStop := {}
    k_steps
    with_reducible refine Stop.go ?_
    have hIB := (by assumption : IntsAre _ ([0, 2] ++ List.take (osz nn - my - 3).toNat (osF.map (fun o => 1 + o.fmod 255)) ++ [0] ++ M))
    have hOd9 : Octs (osF.map (fun o => 1 + o.fmod 255)) := fill_octs
    have hfil : (osF.map (fun o => 1 + o.fmod 255)).filter (fun k => k ≠ 0) = osF.map (fun o => 1 + o.fmod 255) := fill_fil
    have hdl : ((osF.map (fun o => 1 + o.fmod 255)).length : Int) = osz nn := by rw [List.length_map]; exact hlf
    obtain ⟨B, hB⟩ : ∃ B, B = [0, 2] ++ List.take (osz nn - my - 3).toNat (osF.map (fun o => 1 + o.fmod 255)) ++ [0] ++ M := ⟨_, rfl⟩
    have hblk : blk (osz nn) (osF.map (fun o => 1 + o.fmod 255)) M = B := by rw [hB]; unfold blk; rw [hlm]
    rw [← hB] at hIB
    obtain ⟨hBO, hBl, hBv0, hBv1, hBc⟩ := blk3_facts (by omega : 0 < nn) hOd9 (fill_no0 (f := osF)) hOm (by omega : (M.length : Int) ≤ osz nn - 11) (by omega) hblk
    walk1
    rename Fr h₀ _ _ _ => lF9
    rename News h₀ _ _ (_ :: _) => lN9
    exact ty_all rfl B9 X XB T TB h12 hz163 hK7 hnn7 hn1 hn13 hd0 he0 hm0 hm1 hIm hOm hlm hR hOd9 hfil hdl hblk hIB hBO hBl hBv0 hBv1 hBc lF9 (news_sub lN9 (by lcg_sub)) (by k_ne) (by k_ne) (by k_ne) hQ hE
end

section
set_option maxRecDepth 100000 in
set_option maxHeartbeats 8000000 in
theorem tb_all {w : World} {h₀ base : Heap} {L f ls : Addr} {cdv : Value} {p : Program} {loose : List Str} {mean : ExcName → Option Value} {mg mb : Str → Option Value} {s : Shared} {Q : Flow → Shared → Prop} {E : Value → Shared → Prop} {pm : Arguments} {body : List Stmt} {sc : Scope} {nn ee dd : Int} {Pp Qq : Nat}{tsz tn td te tq tp : Tok} {vsS : List Value} {nsS : List Int} {my : Int} {tmy : Tok} {tmo : Tok}
    (hdef : (PySem.Challenge.rw_ys0002_03.row.prog).theDef (Str.ofString "law") = some (pm, body, sc)) (B : Below callerA base [] h₀) (X : (hd.heap_1 w.params).In h₀) (XB : (hd.heap_1 w.params).In base) (T : Top p loose mean mg mb h₀) (TB : Top p loose mean mg mb base)
    (h12 : 12 ≤ osz nn) (hz163 : osz nn ≤ 163) (hK7 : Keys 12 Pp Qq ee dd) (hnn7 : nn = (Pp : Int) * (Qq : Int)) (hn1 : 1 ≤ nn) (hn13 : Bd 1300 nn) (hd0 : 0 ≤ dd) (he0 : 0 ≤ ee) (hI : IntsAre vsS nsS) (hScr : Scr nsS) (hlen : nsS.length ≤ 63) (hL : h₀.IsList ls vsS.toArray) (hm0 : 0 ≤ my) (hm1 : my ≤ osz nn - 11)
    (F : Fr h₀ L s.heap (fun y => if y = Str.ofString "many" then some (.int my tmy) else if y = Str.ofString "most" then some (.int (osz nn - 11) tmo) else if y = Str.ofString "size" then some (.int (osz nn) tsz) else if y = Str.ofString "n" then some (.int nn tn) else if y = Str.ofString "d" then some (.int dd td) else if y = Str.ofString "e" then some (.int ee te) else if y = Str.ofString "q" then some (.int (Qq : Int) tq) else if y = Str.ofString "p" then some (.int (Pp : Int) tp) else List.lookup y [(Str.ofString "script", Value.ref ls)].reverse))
    (N : News h₀ L s.heap []) 
    (hQ : ∀ h' tk' m', Fr h₀ L h' m' → Q (.ret (.bool true)) { s with heap := h', toks := tk' }) (hE : PassesOwn (model PySem.Challenge.rw_ys0002_03.row.prog w) (callerA.deeper (envOf (Str.ofString "law") sc L f cdv)) (envOf (Str.ofString "law") sc L f cdv) E) :
    wpAny (model PySem.Challenge.rw_ys0002_03.row.prog w) (callerA.deeper (envOf (Str.ofString "law") sc L f cdv)) (execs (body.drop 5) (envOf (Str.ofString "law") sc L f cdv)) Q E s := by
  conv at hdef => lhs; whnf
  injection hdef with h1
  injection h1 with h1 h2
  injection h2 with h2 h3
  subst h1 h2 h3
  conv in List.drop _ _ => whnf
  w_top off
  k_with_none
  (k_with "binaryOp Mult int int" => (k_here; k_dflt (refine' mul_bd (k := 610) (l := 610) (by with_reducible assumption) (by with_reducible assumption) (by decide) ?_); intro nn7 hnn7 hsz7))
  (k_with "call builtin:pow" => ((with_reducible show wpAny _ _ (call (Value.builtin _) [Value.int _ _, Value.int _ _, Value.int _ _]) _ _ _); k_dflt (refine' call_pow3 (by first | assumption | omega) (by first | assumption | omega) ?_)))
  (k_with "call ref" => (k_here; (with_reducible show wpAny _ _ (call (Value.ref 326) _) _ _ _); k_dflt (refine' PuN.use2 (by k_asm) (by k_asm) (by k_asm) (by k_asm) (by k_asm) (by first | exact rfl | assumption) (by is_list) (keys_c (by assumption) (by assumption) (by first | assumption | omega) (by omega) (by omega) (by omega) (by omega)) (by ktr_room) (by ktr_units) ?_; k_whole; (rintro v7 tl7 h'7 tk'7 ⟨T97, pp7, qq7, e97, d97, t17, t27, t37, t47, n97, hv7, htl7, hK7⟩ hlt7 F'7 N'7); subst hv7; subst htl7; (try simp only [List.forall_mem_cons, List.not_mem_nil, false_implies, implies_true, and_true] at hlt7); (repeat (with_reducible (rename And _ _ => hq; cases hq))); (try simp only [List.cons_append, List.nil_append] at N'7); (obtain ⟨hKp7, hKq7⟩ := hK7.bds); (obtain ⟨hKb17, hKb27, hKq07, hKp07, hKg7, hKlp7, hKlq7⟩ := hK7.more); (try k_sweep))))
  (k_with "call ref" => (k_here; (with_reducible show wpAny _ _ (call (Value.ref 321) [Value.int _ _]) _ _ _); k_dflt (refine' PuP.use2 (by k_asm) (by k_asm) (by k_asm) (by k_asm) (by k_asm) (by first | exact rfl | assumption) (by trivial) size_c (by ktr_room) (by ktr_units) ?_; k_whole; (rintro v7 tl7 h'7 tk'7 ⟨r7, t7, hv7, hr7, htl7⟩ hlt7 F'7 N'7); clear hlt7; subst hv7; subst htl7; subst hr7; (try simp only [List.nil_append] at N'7); (try k_sweep))))
  (k_with "call ref" => (k_here; (with_reducible show wpAny _ _ (call (Value.ref 77) [Value.int _ _, Value.int _ _]) _ _ _); k_dflt (refine' PuP.use2 (by k_asm) (by k_asm) (by k_asm) (by k_asm) (by k_asm) (by first | exact rfl | assumption) (by trivial) (inv_c (by with_reducible assumption) (by with_reducible assumption) (by with_reducible assumption) (by with_reducible assumption) (by with_reducible assumption)) (by ktr_room) (by ktr_units) ?_; k_whole; (rintro v7 tl7 h'7 tk'7 ⟨r7, t7, hv7, hrs7, hri7, htl7⟩ hlt7 F'7 N'7); clear hlt7; subst hv7; subst htl7; (try simp only [List.nil_append] at N'7); (try k_sweep))))
  (k_with "binaryOp Mod int int" => (k_here; k_dflt (refine' mod_lt (by with_reducible assumption) ?_); intro m97 hm97 hm907 hm917))
  (k_with "call ref" => (k_here; (with_reducible show wpAny _ _ (call (Value.ref 333) _) _ _ _); k_dflt (refine' PuP.use2 (by k_asm) (by k_asm) (by k_asm) (by k_asm) (by k_asm) (by first | exact rfl | assumption) (by first | is_list | exact News.isList (by k_asm) (by k_mem)) (number_c (by assumption) (by first | assumption | exact blk5_octs (by assumption) (by assumption)) (by first | omega | (simp only [List.length_append, List.length_map, List.length_cons, List.length_nil]; omega))) (by ktr_room) (by ktr_units) ?_; k_whole; (rintro v7 tl7 h'7 tk'7 ⟨r7, t7, hv7, hr7, htl7⟩ hlt7 F'7 N'7); clear hlt7; subst hv7; subst htl7; subst hr7; (try simp only [List.nil_append] at N'7); (try k_sweep))))
  (k_with "call ref" => (k_here; (with_reducible show wpAny _ _ (call (Value.ref 338) _) _ _ _); k_dflt (refine' PuN.use2 (by k_asm) (by k_asm) (by k_asm) (by k_asm) (by k_asm) (by first | exact rfl | assumption) (by trivial) (written_c (by first | assumption | exact (pmod_nn (by assumption)).1) (by first | assumption | exact SBd.mono (Bd.sbd (pmod_Bd (by assumption) (by assumption))) (by decide)) (by omega) (by omega)) (by ktr_room) (by ktr_units) ?_; k_whole; (rintro v7 tl7 h'7 tk'7 ⟨D97, vs97, m97, hv7, htl7, hI97⟩ hlt7 F'7 N'7); subst hv7; subst htl7; (try simp only [List.forall_mem_cons, List.not_mem_nil, false_implies, implies_true, and_true] at hlt7); (repeat (with_reducible (rename And _ _ => hq; cases hq))); (try simp only [List.cons_append, List.nil_append] at N'7); (try k_sweep))))
  (k_with "call ref" => (k_here; (with_reducible show wpAny _ _ (call (Value.ref 300) _) _ _ _); k_dflt (refine' PuN.use2 (by k_asm) (by k_asm) (by k_asm) (by k_asm) (by k_asm) (by first | exact rfl | assumption) (by is_list) (octets_c (by assumption) (by assumption) (by first | assumption | omega) (by omega) (by omega) (by omega) (by omega)) (by ktr_room) (by ktr_units) ?_; k_whole; (rintro v7 tl7 h'7 tk'7 ⟨D97, vs97, os97, n97, hv7, htl7, hI97, hO97, hl97⟩ hlt7 F'7 N'7); subst hv7; subst htl7; (try simp only [List.forall_mem_cons, List.not_mem_nil, false_implies, implies_true, and_true] at hlt7); (repeat (with_reducible (rename And _ _ => hq; cases hq))); (try simp only [List.cons_append, List.nil_append] at N'7); (try k_sweep))))
  (k_with "call ref" => (k_here; (with_reducible show wpAny _ _ (call (Value.ref 293) [Value.ref _, Value.int _ _]) _ _ _); k_dflt (refine' PuP.use2 (by k_asm) (by k_asm) (by k_asm) (by k_asm) (by k_asm) (by first | exact rfl | assumption) (by is_list) (cell_c (by assumption) (by assumption) (by first | assumption | omega) (by omega) (by omega)) (by ktr_room) (by ktr_units) ?_; k_whole; (rintro v7 tl7 h'7 tk'7 ⟨r7, t7, hv7, hr7, htl7⟩ hlt7 F'7 N'7); clear hlt7; subst hv7; subst htl7; (try simp only [List.nil_append] at N'7); (have hrn7 := Bd.nn hr7); (try k_sweep))))
  (k_with "eval Call" => (k_here; (with_reducible show wpAny _ _ (eval (PySem.Expr.Call (PySem.Expr.Name (Str.ofString "_law_cell") _) _ _ _) _) _ _ _); k_dflt (refine Call_ ?_)))
  (k_with "storeName" => ((with_reducible show wpAny _ _ (storeName _ (Str.ofString "message") _) _ _ _); (rename LoopStop => hLs'7); clear hLs'7; refine Stop.here ?_))
  (k_with "pyIter ref" => ((rename LoopStop => hLs7); clear hLs7; refine Stop.here ?_))
  have hst : LoopStop := {}
  k_steps
  with_reducible refine Stop.go ?_
  rename Octs _ => hOm
  rename IntsAre _ _ => hIm
  rename (((List.length _ : Nat) : Int) = my) => hlm
  walk1
  have hst : LoopStop := {}
  k_steps
  with_reducible refine Stop.go ?_
  rename Fr _ _ _ _ => lF
  rename News _ _ _ (_ :: _) => lN
  rename IsRange _ _ _ _ _ _ _ _ => rgX
  with_unfolding_all refine' (j_range (σ := List Value × Nat) (fun z => [(_, listOf z.1.toArray z.2)]) (fun _ => []) []
      (fun i z => ∃ ns, IntsAre z.1 ns ∧ Octs ns ∧ (ns.length : Int) = my)
      ⟨_, _⟩ (by rfl) rgX (small_one (by omega) (by omega) (by omega) (by omega)) (rangeSize_nat _ _) lF lN ?kk ?kp ?_ ?_)
  case kk => kst_all
  case kp => exact ⟨_, hIm, hOm, hlm⟩
  all_goals (try clear lF lN rgX)
  · rintro ⟨vs, n⟩ i k t u h tk I oI hk' hi ⟨ns, q0, q1, q2⟩ hoff2 F' N'
    dsimp only [kstB] at q0 q1 hoff2 F' N'
    have hoff := neN (hoff2 _ List.mem_cons_self)
    clear hoff2
    dsimp only at hoff
    k_steps
    · refine' jend ⟨_, _⟩ ?jq1 ?jq2 ?jq3 ?jq4 ?jq5 ?jq6 ?jq7 ?jq8
      case jq1 => set_option maxHeartbeats 400000 in (first | assumption | fail "F")
      case jq2 => set_option maxHeartbeats 400000 in (first | assumption | fail "N")
      case jq3 => set_option maxHeartbeats 400000 in (first | kst_in | fail "in")
      case jq4 => set_option maxHeartbeats 400000 in (first | kst_entry | fail "entry")
      case jq5 => set_option maxHeartbeats 400000 in (first | k_all | fail "all")
      case jq6 => set_option maxHeartbeats 400000 in (first | kst_all | fail "names")
      case jq7 => set_option maxHeartbeats 400000 in (first | kst_same | ((try simp only [List.cons_append, List.nil_append]); kst_same) | fail "same")
      case jq8 => exact ⟨_, by assumption, set_octs q1 (by decide) (by decide), by rw [List.length_set]; exact q2⟩
    · refine' jend ⟨_, _⟩ ?jq1 ?jq2 ?jq3 ?jq4 ?jq5 ?jq6 ?jq7 ?jq8
      case jq1 => set_option maxHeartbeats 400000 in (first | assumption | fail "F")
      case jq2 => set_option maxHeartbeats 400000 in (first | assumption | fail "N")
      case jq3 => set_option maxHeartbeats 400000 in (first | kst_in | fail "in")
      case jq4 => set_option maxHeartbeats 400000 in (first | kst_entry | fail "entry")
      case jq5 => set_option maxHeartbeats 400000 in (first | k_all | fail "all")
      case jq6 => set_option maxHeartbeats 400000 in (first | kst_all | fail "names")
      case jq7 => set_option maxHeartbeats 400000 in (first | kst_same | ((try simp only [List.cons_append, List.nil_append]); kst_same) | fail "same")
      case jq8 => exact ⟨_, q0, q1, q2⟩
  · rintro ⟨vs, n⟩ u h tk ⟨ns, q0, q1, q2⟩ F' N'
    dsimp only [kstB] at q0 q1 F' N'
    simp only [List.contains_nil, Bool.false_eq_true, if_false] at F'
    exact tu_all rfl B X XB T TB h12 hz163 hK7 hnn7 hn1 hn13 hd0 he0 hI hScr hlen hL hm0 hm1 q0 q1 q2 F' N' hQ hE
end

section
local macro_rules | `(tactic| k_qdec) => `(tactic| decide +kernel)
theorem two_get {a b : Int} {c : Prop} [Decidable c] : ([a, b] : List Int).getD (if c then (1 : Int) else 0).toNat 0 = if c then b else a := by split <;> rfl
set_option maxRecDepth 100000 in
set_option maxHeartbeats 8000000 in
theorem t03 : PySem.Challenge.rw_ys0002_03.Holds := hd (by
  w_top off
  k_with_none
  (k_with "binaryOp Mult int int" => (k_here; k_dflt (refine' mul_bd (k := 610) (l := 610) (by with_reducible assumption) (by with_reducible assumption) (by decide) ?_); intro nn7 hnn7 hsz7))
  (k_with "call builtin:pow" => ((with_reducible show wpAny _ _ (call (Value.builtin _) [Value.int _ _, Value.int _ _, Value.int _ _]) _ _ _); k_dflt (refine' call_pow3 (by first | assumption | omega) (by first | assumption | omega) ?_)))
  (k_with "call ref" => (k_here; (with_reducible show wpAny _ _ (call (Value.ref 326) _) _ _ _); k_dflt (refine' PuN.use2 (by k_asm) (by k_asm) (by k_asm) (by k_asm) (by k_asm) (by first | exact rfl | assumption) (by is_list) (keys_c (by assumption) (by assumption) (by first | assumption | omega) (by omega) (by omega) (by omega) (by omega)) (by ktr_room) (by ktr_units) ?_; k_whole; (rintro v7 tl7 h'7 tk'7 ⟨T97, pp7, qq7, e97, d97, t17, t27, t37, t47, n97, hv7, htl7, hK7⟩ hlt7 F'7 N'7); subst hv7; subst htl7; (try simp only [List.forall_mem_cons, List.not_mem_nil, false_implies, implies_true, and_true] at hlt7); (repeat (with_reducible (rename And _ _ => hq; cases hq))); (try simp only [List.cons_append, List.nil_append] at N'7); (obtain ⟨hKp7, hKq7⟩ := hK7.bds); (obtain ⟨hKb17, hKb27, hKq07, hKp07, hKg7, hKlp7, hKlq7⟩ := hK7.more); (try k_sweep))))
  (k_with "call ref" => (k_here; (with_reducible show wpAny _ _ (call (Value.ref 321) [Value.int _ _]) _ _ _); k_dflt (refine' PuP.use2 (by k_asm) (by k_asm) (by k_asm) (by k_asm) (by k_asm) (by first | exact rfl | assumption) (by trivial) size_c (by ktr_room) (by ktr_units) ?_; k_whole; (rintro v7 tl7 h'7 tk'7 ⟨r7, t7, hv7, hr7, htl7⟩ hlt7 F'7 N'7); clear hlt7; subst hv7; subst htl7; (have hsb97 := osz_le_of hr7 (by assumption)); (have hsl97 := size_lo (by assumption) (by assumption) hr7); subst hr7; (try simp only [List.nil_append] at N'7); (try k_sweep))))
  (k_with "call ref" => (k_here; (with_reducible show wpAny _ _ (call (Value.ref 77) [Value.int _ _, Value.int _ _]) _ _ _); k_dflt (refine' PuP.use2 (by k_asm) (by k_asm) (by k_asm) (by k_asm) (by k_asm) (by first | exact rfl | assumption) (by trivial) (inv_c (by with_reducible assumption) (by with_reducible assumption) (by with_reducible assumption) (by with_reducible assumption) (by with_reducible assumption)) (by ktr_room) (by ktr_units) ?_; k_whole; (rintro v7 tl7 h'7 tk'7 ⟨r7, t7, hv7, hrs7, hri7, htl7⟩ hlt7 F'7 N'7); clear hlt7; subst hv7; subst htl7; (try simp only [List.nil_append] at N'7); (try k_sweep))))
  (k_with "binaryOp Mod int int" => (k_here; k_dflt (refine' mod_lt (by with_reducible assumption) ?_); intro m97 hm97 hm907 hm917))
  (k_with "call ref" => (k_here; (with_reducible show wpAny _ _ (call (Value.ref 333) _) _ _ _); k_dflt (refine' PuP.use2 (by k_asm) (by k_asm) (by k_asm) (by k_asm) (by k_asm) (by first | exact rfl | assumption) (by first | is_list | exact News.isList (by k_asm) (by k_mem)) (number_c (by assumption) (by first | assumption | exact hOset7 _ | exact blk5_octs (by assumption) (by assumption)) (by first | omega | (simp only [List.length_append, List.length_map, List.length_cons, List.length_nil]; omega))) (by ktr_room) (by ktr_units) ?_; k_whole; (rintro v7 tl7 h'7 tk'7 ⟨r7, t7, hv7, hr7, htl7⟩ hlt7 F'7 N'7); clear hlt7; subst hv7; subst htl7; subst hr7; (try simp only [List.nil_append] at N'7); (try k_sweep))))
  (k_with "call ref" => (k_here; (with_reducible show wpAny _ _ (call (Value.ref 338) _) _ _ _); k_dflt (refine' PuN.use2 (by k_asm) (by k_asm) (by k_asm) (by k_asm) (by k_asm) (by first | exact rfl | assumption) (by trivial) (written_c (by first | assumption | exact (pmod_nn (by assumption)).1) (by first | assumption | exact SBd.mono (Bd.sbd (pmod_Bd (by assumption) (by assumption))) (by decide)) (by omega) (by omega)) (by ktr_room) (by ktr_units) ?_; k_whole; (rintro v7 tl7 h'7 tk'7 ⟨D97, vs97, m97, hv7, htl7, hI97⟩ hlt7 F'7 N'7); subst hv7; subst htl7; (try simp only [List.forall_mem_cons, List.not_mem_nil, false_implies, implies_true, and_true] at hlt7); (repeat (with_reducible (rename And _ _ => hq; cases hq))); (try simp only [List.cons_append, List.nil_append] at N'7); (try k_sweep))))
  (k_with "call ref" => (k_here; (with_reducible show wpAny _ _ (call (Value.ref 300) _) _ _ _); k_dflt (refine' PuN.use2 (by k_asm) (by k_asm) (by k_asm) (by k_asm) (by k_asm) (by first | exact rfl | assumption) (by is_list) (octets_c (by assumption) (by assumption) (by first | assumption | omega) (by omega) (by omega) (by omega) (by omega)) (by ktr_room) (by ktr_units) ?_; k_whole; (rintro v7 tl7 h'7 tk'7 ⟨D97, vs97, os97, n97, hv7, htl7, hI97, hO97, hl97⟩ hlt7 F'7 N'7); subst hv7; subst htl7; (try simp only [List.forall_mem_cons, List.not_mem_nil, false_implies, implies_true, and_true] at hlt7); (repeat (with_reducible (rename And _ _ => hq; cases hq))); (try simp only [List.cons_append, List.nil_append] at N'7); (try k_sweep))))
  (k_with "call ref" => (k_here; (with_reducible show wpAny _ _ (call (Value.ref 293) [Value.ref _, Value.int _ _]) _ _ _); k_dflt (refine' PuP.use2 (by k_asm) (by k_asm) (by k_asm) (by k_asm) (by k_asm) (by first | exact rfl | assumption) (by is_list) (cell_c (by assumption) (by assumption) (by first | assumption | omega) (by omega) (by omega)) (by ktr_room) (by ktr_units) ?_; k_whole; (rintro v7 tl7 h'7 tk'7 ⟨r7, t7, hv7, hr7, htl7⟩ hlt7 F'7 N'7); clear hlt7; subst hv7; subst htl7; (try simp only [List.nil_append] at N'7); (have hrn7 := Bd.nn hr7); (try k_sweep))))
  (k_with "eval Call" => (k_here; (with_reducible show wpAny _ _ (eval (PySem.Expr.Call (PySem.Expr.Name (Str.ofString "_law_cell") _) _ _ _) _) _ _ _); k_dflt (refine Call_ ?_)))
  (k_with "storeName" => ((with_reducible show wpAny _ _ (storeName _ (Str.ofString "most") _) _ _ _); (rename LoopStop => hLs'7); clear hLs'7; refine Stop.here ?_))
  (k_with "storeName" => ((with_reducible show wpAny _ _ (storeName _ (Str.ofString "many") _) _ _ _); (rename LoopStop => hLs'7); clear hLs'7; refine Stop.here ?_))
  k_go0
  all_goals try k_fold
  (rename kHook _ _ _ |>.says _ _ => hz1)
  (rename Ground _ _ _ _ _ _ _ _ _ => hz2)
  (rename Flt.MathXP _ _ _ => hz3)
  (rename LooseAre _ _ _ => hz4)
  (rename Glob _ _ _ _ _ _ _ _ => hz5)
  (rename Tables _ _ _ _ => hz6)
  (rename TopE _ _ _ _ => hz7)
  (rename TopW _ _ _ => hz8)
  (rename BMod _ _ _ _ _ => hz9)
  (rename Heap.CodeRec _ _ _ => hz10)
  clear hz10 hz9 hz8 hz7 hz6 hz5 hz4 hz3
  have hst : LoopStop := {}
  have hScr := Scr.of (by assumption)
  k_steps
  with_reducible refine Stop.go ?_
  obtain ⟨hn0, hn13, he0, hd0, hn1⟩ := n_facts hK7 hnn7
  have hs1 : 1 ≤ osz nn7 - 11 + 1 := by omega
  walk1
  have hst : LoopStop := {}
  k_steps
  all_goals (with_reducible refine Stop.go ?_)
  all_goals walk1
  all_goals (rename Fr _ _ _ _ => lF9)
  all_goals (refine tb_all rfl (by assumption) (by assumption) (by assumption) (by assumption) (by assumption) (by omega) (by omega) hK7 hnn7 hn1 hn13 hd0 he0 (by assumption) hScr (by omega) (by is_list) (by rw [two_get]; split <;> omega) (by rw [two_get]; split <;> omega) lF9 (fun q hq => nomatch hq) ?_ (by passes_own))
  all_goals intro h' tk' m' F'
  all_goals k_steps)
end

end Mine

theorem PySem.Challenge.cw_ys0002_03_holds : PySem.Challenge.rw_ys0002_03.Holds := by
  exact Mine.t03
