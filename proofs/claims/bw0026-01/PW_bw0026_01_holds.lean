import PyProof.Rows.All
import Wide.All
import OpenK.AllK
import Wide.FinOn
import PySem.Challenge.RW_bw0026_01
open PySem PySem.W PySem.Calls PyProof.Rows
set_option Elab.async false
set_option maxRecDepth 100000
set_option rowWalk.seconds 0
namespace Mine
set_option maxRecDepth 100000 in
set_option maxHeartbeats 8000000 in
open_top hd for PySem.Challenge.rw_bw0026_01

section
/-- what is asked of a call of the def at `f` with the arguments `vs`; `C` is what the caller offers for the answer -/
abbrev Ask (w : World) (f : Addr) (k : Nat) (vs : List Value)
    (C : (h₀ : Heap) → (L : Addr) → (m : Str → Option Value) → (news : List (Addr × Obj)) → (s : Shared) → (Q : Value → Shared → Prop) → Prop) : Prop :=
  ∀ (p : Program) (loose : List Str) (mean : ExcName → Option Value) (mg mb : Str → Option Value) (dp un : Nat) (gd : Option (List Code)) (cn : Str) (cs : Scope) (a : Addr) (ccd : Value) (cl : List (Str × Addr)) (outer : List Env) (A₀ : Around) (base h₀ : Heap) (L : Addr) (m : Str → Option Value) (news : List (Addr × Obj)) (s : Shared) (Q E : Value → Shared → Prop),
    Below A₀ base outer h₀ → Fr h₀ L s.heap m → (hd.heap_39 w.params).In h₀ → News h₀ L s.heap news → Top p loose mean mg mb h₀ → cs.kind = .function →
    dp + k < recursionLimit → un + 8 * k < cLine → C h₀ L m news s Q →
      wpAny (model PySem.Challenge.rw_bw0026_01.row.prog w) (ktrTop dp un gd cn cs L a ccd cl outer) (call (.ref f) vs) Q E s

theorem Ask.use {w : World} {f : Addr} {k : Nat} {vs : List Value}
    {C : (h₀ : Heap) → (L : Addr) → (m : Str → Option Value) → (news : List (Addr × Obj)) → (s : Shared) → (Q : Value → Shared → Prop) → Prop} (H : Ask w f k vs C)
    {p : Program} {loose : List Str} {mean : ExcName → Option Value} {mg mb : Str → Option Value} {dp un : Nat} {gd : Option (List Code)} {cn : Str} {cs : Scope} {a : Addr} {ccd : Value} {cl : List (Str × Addr)} {outer : List Env} {A₀ : Around} {base h₀ : Heap} {L : Addr} {m : Str → Option Value} {news : List (Addr × Obj)} {s : Shared} {Q E : Value → Shared → Prop}
    (B : Below A₀ base outer h₀) (F : Fr h₀ L s.heap m) (X : (hd.heap_39 w.params).In h₀) (N : News h₀ L s.heap news) (T : Top p loose mean mg mb h₀) (hk : cs.kind = .function)
    (hd : dp + k < recursionLimit) (hu : un + 8 * k < cLine) (hc : C h₀ L m news s Q) :
      wpAny (model PySem.Challenge.rw_bw0026_01.row.prog w) (ktrTop dp un gd cn cs L a ccd cl outer) (call (.ref f) vs) Q E s :=
  H _ _ _ _ _ _ _ _ _ _ _ _ _ _ _ _ _ _ _ _ _ _ _ B F X N T hk hd hu hc

abbrev tup4 (a b c d : Int) (t1 t2 t3 t4 : Tok) : Obj := { cls := .type "tuple", data := .seq #[Value.int a t1, Value.int b t2, Value.int c t3, Value.int d t4] }
/-- the answer is a new tuple of four ints -/
abbrev RetT (r : Int × Int × Int × Int) (h₀ : Heap) (L : Addr) (m : Str → Option Value) (news : List (Addr × Obj)) (s : Shared) (Q : Value → Shared → Prop) : Prop :=
  ∀ (D : Addr) (t1 t2 t3 t4 : Tok) (h' : Heap) (tk' : Nat), Fr h₀ L h' m → News h₀ L h' ((D, tup4 r.1 r.2.1 r.2.2.1 r.2.2.2 t1 t2 t3 t4) :: news) → Q (.ref D) { s with heap := h', toks := tk' }
/-- the answer is an int -/
abbrev RetI (r : Int) (h₀ : Heap) (L : Addr) (m : Str → Option Value) (news : List (Addr × Obj)) (s : Shared) (Q : Value → Shared → Prop) : Prop :=
  ∀ (t : Tok) (h' : Heap) (tk' : Nat), Fr h₀ L h' m → News h₀ L h' news → Q (.int r t) { s with heap := h', toks := tk' }
/-- the answer is this object -/
abbrev RetR (r : Addr) (h₀ : Heap) (L : Addr) (m : Str → Option Value) (news : List (Addr × Obj)) (s : Shared) (Q : Value → Shared → Prop) : Prop :=
  ∀ (h' : Heap) (tk' : Nat), Fr h₀ L h' m → News h₀ L h' news → Q (.ref r) { s with heap := h', toks := tk' }
abbrev RetB (r : Bool) (h₀ : Heap) (L : Addr) (m : Str → Option Value) (news : List (Addr × Obj)) (s : Shared) (Q : Value → Shared → Prop) : Prop :=
  ∀ (h' : Heap) (tk' : Nat), Fr h₀ L h' m → News h₀ L h' news → Q (.bool r) { s with heap := h', toks := tk' }

section
variable {h₀ h : Heap} {L : Addr} {m : Str → Option Value} {news : List (Addr × Obj)} {s : Shared} {Q : Value → Shared → Prop}
theorem endT {r : Int × Int × Int × Int} (H : RetT r h₀ L m news s Q) {D : Addr} {a b c d : Int} {t1 t2 t3 t4 : Tok} {tk : Nat} {news' : List (Addr × Obj)} (F : Fr h₀ L h m) (N : News h₀ L h news')
    (hs : ∀ p ∈ (D, tup4 a b c d t1 t2 t3 t4) :: news, p ∈ news') (he : (a, b, c, d) = r) : Q (.ref D) { s with heap := h, toks := tk } := by
  subst he
  exact H D t1 t2 t3 t4 h tk F (fun p hp => N p (hs p hp))
theorem endI {r x : Int} (H : RetI r h₀ L m news s Q) {t : Tok} {tk : Nat} {news' : List (Addr × Obj)} (F : Fr h₀ L h m) (N : News h₀ L h news')
    (hs : ∀ p ∈ news, p ∈ news') (he : x = r) : Q (.int x t) { s with heap := h, toks := tk } := by
  subst he
  exact H t h tk F (fun p hp => N p (hs p hp))
theorem endR {r : Addr} (H : RetR r h₀ L m news s Q) {tk : Nat} {news' : List (Addr × Obj)} (F : Fr h₀ L h m) (N : News h₀ L h news')
    (hs : ∀ p ∈ news, p ∈ news') : Q (.ref r) { s with heap := h, toks := tk } := H h tk F (fun p hp => N p (hs p hp))
theorem endB {r x : Bool} (H : RetB r h₀ L m news s Q) {tk : Nat} {news' : List (Addr × Obj)} (F : Fr h₀ L h m) (N : News h₀ L h news')
    (hs : ∀ p ∈ news, p ∈ news') (he : x = r) : Q (.bool x) { s with heap := h, toks := tk } := by
  subst he
  exact H h tk F (fun p hp => N p (hs p hp))
end

section
variable {M : Model} {A : Around} {E : Value → Shared → Prop} {env : Env}
theorem gen_toks {α : Type} {t : Sem α} {Q : α → Shared → Prop} {h : Heap} {g d o} {x : Nat} (H : ∀ tk : Nat, wpAny M A t Q E ⟨h, g, d, tk, o⟩) : wpAny M A t Q E ⟨h, g, d, x, o⟩ := H x

theorem cut_wp {M : Model} {Γ : Ctx} {env : Env} {E : Value → Shared → Prop} (P : Shared → Prop) : ∀ (k : Nat) {ss : List Stmt} {Q : Flow → Shared → Prop} {s : Shared} {p : Pos}
    (_ : Sem.wp M Γ (execs (ss.take k) env) (fun f _ s' => match f with | .next => P s' | f => Q f s') (fun e _ s' => E e s') p s)
    (_ : ∀ s' p', P s' → Sem.wp M Γ (execs (ss.drop k) env) (fun f _ s' => Q f s') (fun e _ s' => E e s') p' s'), Sem.wp M Γ (execs ss env) (fun f _ s' => Q f s') (fun e _ s' => E e s') p s
  | 0, ss, Q, s, p, h1, h2 => h2 s p h1
  | k + 1, [], Q, s, p, h1, h2 => h2 s p h1
  | k + 1, st :: rest, Q, s, p, h1, h2 => by
    rw [List.take_succ_cons] at h1
    rw [List.drop_succ_cons] at h2
    rw [execs_cons, Sem.wp_bind'] at h1 ⊢
    refine Sem.wp_mono M Γ _ (fun f p' s' h' => ?_) (fun _ _ _ h' => h') _ _ h1
    cases f with
    | next => exact cut_wp P k h' h2
    | brk => exact h'
    | cont => exact h'
    | ret v => exact h'
/-- a body cut in two: behind the first k statements only `P` is known -/
theorem cut {M : Model} {A : Around} {E : Value → Shared → Prop} {env : Env} (k : Nat) (P : Shared → Prop) {ss : List Stmt} {Q : Flow → Shared → Prop} {s : Shared}
    (h1 : wpAny M A (execs (ss.take k) env) (fun f s' => match f with | .next => P s' | f => Q f s') E s)
    (h2 : ∀ s', P s' → wpAny M A (execs (ss.drop k) env) Q E s') : wpAny M A (execs ss env) Q E s :=
  fun Γ p hΓ => cut_wp P k (h1 Γ p hΓ) (fun s' p' hP => h2 s' hP Γ p' hΓ)

/-- a while whose turns go on, break or return; it raises nothing -/
def Turn (Q : Flow → Shared → Prop) (I : Nat → Shared → Prop) (n : Nat) (f : Flow) (s : Shared) : Prop :=
  match f with
  | .next => ∃ m, m < n ∧ I m s
  | .cont => ∃ m, m < n ∧ I m s
  | .brk => Q .next s
  | .ret v => Q (.ret v) s
theorem while_turn {prog : Program} {w : World} {A : Around} {E : Value → Shared → Prop} {env : Env} {test : PySem.Expr} {body : List Stmt} {pos : Pos} {Q : Flow → Shared → Prop} {s : Shared} (I : Nat → Shared → Prop) (n₀ : Nat) (h0 : I n₀ s)
    (turn : ∀ n s', I n s' → wpAny (model prog w) A (isTrue test env (eval test env)) (fun b s₂ => if b = true then wpAny (model prog w) A (execs body env) (Turn Q I n) (fun _ _ => False) s₂ else Q .next s₂) (fun _ _ => False) s') :
    wpAny (model prog w) A (exec (.While test body [] pos) env) Q E s := by
  refine wpAny_noRaise (wpAny_While (codeAny_whileLoop I ?_ n₀ h0))
  intro n s' hI
  have hE : PassesOwn (model prog w) A env (fun _ _ => False) := PassesOwn.never
  refine wpAny_mono (turn n s' hI) (fun b s₂ h₂ => ?_) hE
  cases b with
  | false =>
    simp only [Bool.false_eq_true, if_false] at h₂ ⊢
    exact wpAny_execs_nil h₂
  | true =>
    simp only [if_true] at h₂ ⊢
    refine wpAny_mono h₂ (fun f s₃ h₃ => ?_) hE
    cases f with
    | next => exact h₃
    | cont => exact h₃
    | brk => exact h₃
    | ret v => exact h₃
end
theorem Fr.see {h₀ h : Heap} {L : Addr} {m : Str → Option Value} {x : Str} {v : Value} (F : Fr h₀ L h m) (e : m x = some v) : Fr h₀ L h (fun y => if y = x then some v else m y) := by
  have : (fun y => if y = x then some v else m y) = m := by
    funext y
    by_cases h : y = x
    · rw [if_pos h, h, e]
    · rw [if_neg h]
  rw [this]; exact F
end

section
def tz (n : Nat) : Nat := if h : n = 0 then 0 else if n % 2 = 1 then 0 else tz (n / 2) + 1
termination_by n
decreasing_by omega

theorem tz_odd {n : Nat} (h : n % 2 = 1) : tz n = 0 := by
  unfold tz
  by_cases h0 : n = 0
  · rw [dif_pos h0]
  · rw [dif_neg h0, if_pos h]
theorem tz_even {n : Nat} (h0 : n ≠ 0) (h : n % 2 = 0) : tz n = tz (n / 2) + 1 := by
  rw [tz, dif_neg h0, if_neg (by omega)]
/-- the odd part -/
def odp (n : Nat) : Nat := n / 2 ^ tz n
theorem odp_odd {n : Nat} (h : n % 2 = 1) : odp n = n := by
  unfold odp; rw [tz_odd h]; simp
theorem odp_even {n : Nat} (h0 : n ≠ 0) (h : n % 2 = 0) : odp n = odp (n / 2) := by
  unfold odp; rw [tz_even h0 h, Nat.pow_succ, Nat.mul_comm, Nat.div_div_eq_div_mul]
theorem tz_spec : ∀ (n : Nat), n ≠ 0 → odp n * 2 ^ tz n = n ∧ odp n % 2 = 1 := by
  intro n
  induction n using Nat.strongRecOn with
  | ind n ih =>
    intro h0
    by_cases h : n % 2 = 1
    · rw [odp_odd h, tz_odd h]; exact ⟨by simp, h⟩
    · have h' : n % 2 = 0 := by omega
      obtain ⟨a, b⟩ := ih (n / 2) (by omega) (by omega)
      rw [odp_even h0 h', tz_even h0 h']
      refine ⟨?_, b⟩
      rw [Nat.pow_succ, ← Nat.mul_assoc, a]
      omega
theorem odp_mul {n : Nat} (h0 : n ≠ 0) : odp n * 2 ^ tz n = n := (tz_spec n h0).1
theorem odp_mod {n : Nat} (h0 : n ≠ 0) : odp n % 2 = 1 := (tz_spec n h0).2
theorem odp_pos {n : Nat} (h0 : n ≠ 0) : 0 < odp n := by have := odp_mod h0; omega

theorem and_pred : ∀ (n : Nat), n ≠ 0 → n = (n &&& (n - 1)) + 2 ^ tz n := by
  intro n
  induction n using Nat.strongRecOn with
  | ind n ih =>
    intro h0
    have e : n &&& (n - 1) = 2 * ((n / 2) &&& ((n - 1) / 2)) + (n % 2 &&& ((n - 1) % 2)) := by
      have a := Nat.div_add_mod (n &&& (n - 1)) 2
      rw [Nat.and_div_two, show (n &&& (n - 1)) % 2 = (n % 2 &&& ((n - 1) % 2)) from Nat.and_mod_two_pow (n := 1)] at a
      exact a.symm
    by_cases h : n % 2 = 1
    · rw [tz_odd h, e]
      have e1 : (n - 1) / 2 = n / 2 := by omega
      have e2 : (n - 1) % 2 = 0 := by omega
      rw [e1, e2, Nat.and_self, Nat.and_zero]
      simp; omega
    · have h' : n % 2 = 0 := by omega
      have i := ih (n / 2) (by omega) (by omega)
      rw [tz_even h0 h', e]
      have e1 : (n - 1) / 2 = n / 2 - 1 := by omega
      rw [e1, h', Nat.zero_and, Nat.pow_succ]
      omega

/-- the bits of a number -/
def nb (n : Nat) : Nat := Builtin.Int.intBits (n : Int)
theorem nb_le {n m : Nat} : nb n ≤ m ↔ n < 2 ^ m := by
  unfold nb; rw [intBits_le_iff]; simp
theorem lt_nb {n m : Nat} : m < nb n ↔ 2 ^ m ≤ n := by
  have := nb_le (n := n) (m := m)
  constructor
  · intro h; exact Nat.le_of_not_lt fun h' => absurd (this.mpr h') (by omega)
  · intro h; exact Nat.lt_of_not_le fun h' => absurd (this.mp h') (by omega)
theorem nb_lt_pow (n : Nat) : n < 2 ^ nb n := nb_le.mp (Nat.le_refl _)
theorem nb_eq {n m : Nat} (h1 : 2 ^ m ≤ n) (h2 : n < 2 ^ (m + 1)) : nb n = m + 1 := by
  have a := nb_le.mpr h2; have b := lt_nb.mpr h1; omega
theorem nb_zero : nb 0 = 0 := rfl
theorem nb_one : nb 1 = 1 := by have := nb_eq (n := 1) (m := 0) (by decide) (by decide); simpa using this
theorem nb_pos {n : Nat} (h : n ≠ 0) : 0 < nb n := lt_nb.mpr (by simp; omega)
theorem pow_nb_le {n : Nat} (h : n ≠ 0) : 2 ^ (nb n - 1) ≤ n := by
  have := nb_pos h; exact lt_nb.mp (by omega)
theorem nb_pow (k : Nat) : nb (2 ^ k) = k + 1 := nb_eq (Nat.le_refl _) (Nat.pow_lt_pow_right (by decide) (by omega))
theorem nb_mono {a b : Nat} (h : a ≤ b) : nb a ≤ nb b := nb_le.mpr (Nat.lt_of_le_of_lt h (nb_lt_pow b))
theorem nb_mul_pow {n : Nat} (h : n ≠ 0) (k : Nat) : nb (n * 2 ^ k) = nb n + k := by
  have hp := nb_pos h
  obtain ⟨j, hj⟩ : ∃ j, nb n = j + 1 := ⟨nb n - 1, by omega⟩
  have a : 2 ^ j ≤ n := lt_nb.mp (by omega)
  have b : n < 2 ^ (j + 1) := nb_le.mp (by omega)
  have := nb_eq (n := n * 2 ^ k) (m := j + k) (by rw [Nat.pow_add]; exact Nat.mul_le_mul_right _ a)
    (by rw [show j + k + 1 = (j + 1) + k from by omega, Nat.pow_add]; exact Nat.mul_lt_mul_of_pos_right b (Nat.two_pow_pos k))
  omega
theorem nb_div_pow (n k : Nat) : nb (n / 2 ^ k) = nb n - k := by
  have a : ∀ m, nb (n / 2 ^ k) ≤ m ↔ nb n - k ≤ m := by
    intro m
    rw [nb_le, Nat.div_lt_iff_lt_mul (Nat.two_pow_pos k), ← Nat.pow_add, ← nb_le]; omega
  have b := (a (nb n - k)).mpr (Nat.le_refl _)
  have c := (a (nb (n / 2 ^ k))).mp (Nat.le_refl _)
  omega
theorem nb_half (n : Nat) : nb (n / 2) = nb n - 1 := by have := nb_div_pow n 1; simpa using this
theorem nb_odp {n : Nat} (h : n ≠ 0) : nb (odp n) + tz n = nb n := by
  have := nb_mul_pow (n := odp n) (by have := odp_pos h; omega) (tz n)
  rw [odp_mul h] at this; exact this.symm
theorem nb_natCast (n : Nat) : Builtin.Int.intBits (n : Int) = nb n := rfl

theorem trail_eq {n : Nat} (h : n ≠ 0) : (Builtin.Int.intBits (Builtin.bitAnd (n : Int) (-(n : Int))) : Int) - 1 = (tz n : Int) := by
  have e : Builtin.bitAnd (n : Int) (-(n : Int)) = ((2 ^ tz n : Nat) : Int) := by
    rw [bitAnd_pn (by omega) (by omega)]
    have e1 : (Builtin.bitNot (-(n : Int))).toNat = n - 1 := by unfold Builtin.bitNot; omega
    rw [e1, Int.toNat_natCast]
    have := and_pred n h
    omega
  rw [e, nb_natCast, nb_pow]
  omega

/-- sign, odd part, power of two, bits -/
def told (sg : Int) (m : Nat) (p : Int) : Int × Int × Int × Int := (sg, (odp m : Int), p + (tz m : Int), (nb (odp m) : Int))
end

section
/-- the five ways of rounding -/
inductive Way where
  | n | f | c | u | d
def Way.str : Way → Str
  | .n => Str.ofString "n"
  | .f => Str.ofString "f"
  | .c => Str.ofString "c"
  | .u => Str.ofString "u"
  | .d => Str.ofString "d"
def sI : Bool → Int
  | false => 0
  | true => 1
/-- away from nought? -/
def Way.out : Way → Bool → Bool
  | .n, _ => false
  | .d, _ => false
  | .u, _ => true
  | .c, ng => !ng
  | .f, ng => ng
def halfUp (m k : Nat) : Bool := decide (m / 2 ^ (k - 1) % 2 = 1) && (decide (m / 2 ^ k % 2 = 1) || decide (m % 2 ^ (k - 1) ≠ 0))
def goUp : Way → Bool → Nat → Nat → Bool
  | .n, _, m, k => halfUp m k
  | wy, ng, m, k => wy.out ng && decide (m % 2 ^ k ≠ 0)
/-- m without its k low bits, rounded -/
def rnd (wy : Way) (ng : Bool) (m k : Nat) : Nat := if k = 0 then m else m / 2 ^ k + (if goUp wy ng m k = true then 1 else 0)

theorem fdivN (m j : Nat) : (m : Int).fdiv (2 ^ j) = ((m / 2 ^ j : Nat) : Int) := by
  have : (2 : Int) ^ j = ((2 ^ j : Nat) : Int) := by simp
  rw [this]; exact (Int.ofNat_fdiv m (2 ^ j)).symm
theorem and1N (m : Nat) : Builtin.bitAnd (m : Int) 1 = ((m % 2 : Nat) : Int) := by rw [bitAnd_m1]; omega
theorem and2N (m : Nat) : Builtin.bitAnd (m : Int) 2 = ((2 * (m / 2 % 2) : Nat) : Int) := by
  rw [bitAnd_pp (by omega) (by decide), Int.toNat_natCast, show (2 : Int).toNat = 2 from rfl]
  have a := Nat.div_add_mod (m &&& 2) 2
  rw [Nat.and_div_two, show (m &&& 2) % 2 = (m % 2 &&& (2 % 2)) from Nat.and_mod_two_pow (n := 1)] at a
  rw [show 2 % 2 = 0 from rfl, Nat.and_zero, show 2 / 2 = 1 from rfl, Nat.and_one_is_mod] at a
  omega
theorem maskN (m j : Nat) : Builtin.bitAnd (m : Int) (1 * 2 ^ j - 1) = ((m % 2 ^ j : Nat) : Int) := by
  have hp := Nat.two_pow_pos j
  have e : (1 * 2 ^ j - 1 : Int) = ((2 ^ j - 1 : Nat) : Int) := by
    have : (2 : Int) ^ j = ((2 ^ j : Nat) : Int) := by simp
    rw [this]; omega
  rw [e, bitAnd_pp (by omega) (by omega), Int.toNat_natCast, Int.toNat_natCast, Nat.and_two_pow_sub_one_eq_mod]
theorem ceilN (m j : Nat) : -((-(m : Int)).fdiv (2 ^ j)) = ((m / 2 ^ j + (if m % 2 ^ j ≠ 0 then 1 else 0) : Nat) : Int) := by
  have hp := Nat.two_pow_pos j
  have e2 : (2 : Int) ^ j = ((2 ^ j : Nat) : Int) := by simp
  rw [e2, Int.fdiv_eq_ediv_of_nonneg _ (by omega)]
  generalize hd : 2 ^ j = d at hp
  have h1 := Nat.div_add_mod m d
  have h2 := Nat.mod_lt m hp
  generalize m / d = q at h1
  generalize m % d = r at h1 h2
  have key : -(m : Int) / (d : Int) = -((q + (if r ≠ 0 then 1 else 0) : Nat) : Int) := by
    have hz : (d : Int) ≠ 0 := by omega
    by_cases hr : r = 0
    · subst hr
      simp only [ne_eq, not_true, if_false, Nat.add_zero] at h1 ⊢
      rw [← h1]
      have : -((d * q : Nat) : Int) = (d : Int) * (-(q : Int)) := by
        rw [Int.natCast_mul, Int.mul_neg]
      rw [this, Int.mul_ediv_cancel_left _ hz]
    · simp only [ne_eq, hr, not_false_eq_true, if_true]
      have : -(m : Int) = ((d - r : Nat) : Int) + (d : Int) * (-((q : Int) + 1)) := by
        have h3 : (m : Int) = (d : Int) * (q : Int) + (r : Int) := by rw [← h1]; simp
        have h4 : ((d - r : Nat) : Int) = (d : Int) - (r : Int) := by omega
        rw [h3, h4, Int.mul_neg, Int.mul_add]; omega
      rw [this, Int.add_mul_ediv_left _ _ hz]
      have h5 : ((d - r : Nat) : Int) / (d : Int) = 0 := Int.ediv_eq_zero_of_lt (by omega) (by omega)
      rw [h5]; omega
  rw [key]; omega
end

section
def AllV (m : Str → Option Value) : List (Str × Value) → Prop
  | [] => True
  | (x, v) :: r => m x = some v ∧ AllV m r
def over : List (Str × Value) → (Str → Option Value) → (Str → Option Value)
  | [], m => m
  | (x, v) :: r, m => fun y => if y = x then some v else over r m y
theorem over_eq : ∀ {vs : List (Str × Value)} {m : Str → Option Value}, AllV m vs → over vs m = m
  | [], _, _ => rfl
  | (x, v) :: r, m, ⟨e, h⟩ => by
    funext y
    show (if y = x then some v else over r m y) = m y
    rw [over_eq h]
    by_cases hy : y = x
    · rw [if_pos hy, hy, e]
    · rw [if_neg hy]
/-- of the frame's names these stand so; of the others nothing is known -/
def Vars (g : Heap) (L : Addr) (s : Shared) (news : List (Addr × Obj)) (vs : List (Str × Value)) (s' : Shared) : Prop :=
  ∃ (h : Heap) (tk : Nat) (m : Str → Option Value), s' = { s with heap := h, toks := tk } ∧ Fr g L h (over vs m) ∧ News g L h news
theorem Vars.intro {g h : Heap} {L : Addr} {s : Shared} {news news' : List (Addr × Obj)} {vs : List (Str × Value)} {m : Str → Option Value} {tk : Nat}
    (F : Fr g L h m) (N : News g L h news') (hs : ∀ p ∈ news, p ∈ news') (hv : AllV m vs) : Vars g L s news vs { s with heap := h, toks := tk } :=
  ⟨h, tk, m, rfl, by rw [over_eq hv]; exact F, fun p hp => N p (hs p hp)⟩
theorem eqI {x y : Int} {t : Tok} (h : x = y) : some (Value.int x t) = some (Value.int y t) := by rw [h]
end

section
theorem partC1 : True := by w_top off; trivial
section
local macro_rules | `(tactic| walk_at "execs cons") => `(tactic| (k_here; (with_reducible show wpAny _ _ _ _ _ (Shared.mk _ _ _ (_ + _) _)); refine gen_toks ?_; intro tk))
local macro_rules | `(tactic| walk_at "execs nil") => `(tactic| (k_here; (with_reducible show wpAny _ _ _ _ _ (Shared.mk _ _ _ (_ + _) _)); refine gen_toks ?_; intro tk))
set_option maxHeartbeats 4000000
theorem c_trailing (w : World) (n : Nat) (t : Tok) (hn : n ≠ 0) : Ask w 21 1 [.int (n : Int) t] (RetI (tz n : Int)) := by
  unfold Ask
  k_fill
  intro p loose mean mg mb dp un gd cn cs a ccd cl outer A₀ base h₀ L m news s Q E B F X N T hk hd hu hret
  refine wpAny_call ?_
  k_dflt cell_enter
  refine wpAny_noRaise ?_
  k_steps
  · rename_i kF kN _ _
    exact endI hret kF kN (fun _ h => h) (trail_eq hn)
  · exfalso; omega

def NormMid (g : Heap) (L : Addr) (s : Shared) (news : List (Addr × Obj)) (sg man exp bc : Int) (s' : Shared) : Prop :=
  ∃ t1 t2 t3 t4 : Tok, Vars g L s news [(Str.ofString "sign", .int sg t1), (Str.ofString "man", .int man t2), (Str.ofString "exp", .int exp t3), (Str.ofString "bc", .int bc t4)] s'
theorem NormMid.intro {g h : Heap} {L : Addr} {s : Shared} {news news' : List (Addr × Obj)} {sg man exp bc : Int} {m : Str → Option Value} {tk : Nat} {t1 t2 t3 t4 : Tok}
    (F : Fr g L h m) (N : News g L h news') (hs : ∀ p ∈ news, p ∈ news') (h1 : m (Str.ofString "sign") = some (.int sg t1)) (h2 : m (Str.ofString "man") = some (.int man t2)) (h3 : m (Str.ofString "exp") = some (.int exp t3)) (h4 : m (Str.ofString "bc") = some (.int bc t4)) :
    NormMid g L s news sg man exp bc { s with heap := h, toks := tk } := ⟨t1, t2, t3, t4, Vars.intro F N hs ⟨h1, h2, h3, h4, trivial⟩⟩

section
variable {wy : Way} {ng : Bool} {M P : Nat}
theorem rnd_zero : rnd wy ng M 0 = M := by unfold rnd; rw [if_pos rfl]
theorem rnd_le (h : ¬ (0 : Int) < (nb M : Int) - P) : (M : Int) = (rnd wy ng M (nb M - P) : Nat) := by
  rw [show nb M - P = 0 from by omega, rnd_zero]
theorem kOf (h : (0 : Int) < (nb M : Int) - P) : ((nb M : Int) - P).toNat = nb M - P := by omega
theorem goUp_ne (hn : wy ≠ .n) (k : Nat) : goUp wy ng M k = (wy.out ng && decide (M % 2 ^ k ≠ 0)) := by
  cases wy <;> first | exact absurd rfl hn | rfl
theorem rnd_pos {k : Nat} (h : k ≠ 0) : rnd wy ng M k = M / 2 ^ k + (if goUp wy ng M k = true then 1 else 0) := by unfold rnd; rw [if_neg h]
theorem rnd_down (hn : wy ≠ .n) (ho : wy.out ng = false) (h : (0 : Int) < (nb M : Int) - P) : (M : Int).fdiv (2 ^ ((nb M : Int) - P).toNat) = (rnd wy ng M (nb M - P) : Nat) := by
  rw [kOf h, fdivN, rnd_pos (by omega), goUp_ne hn, ho]
  simp
theorem rnd_up (hn : wy ≠ .n) (ho : wy.out ng = true) (h : (0 : Int) < (nb M : Int) - P) : -((-(M : Int)).fdiv (2 ^ ((nb M : Int) - P).toNat)) = (rnd wy ng M (nb M - P) : Nat) := by
  rw [kOf h, ceilN, rnd_pos (by omega), goUp_ne hn, ho]
  simp
theorem kOf1 (h : (0 : Int) < (nb M : Int) - P) : ((nb M : Int) - P - 1).toNat = nb M - P - 1 := by omega
theorem tOf (h : (0 : Int) < (nb M : Int) - P) : (M : Int).fdiv (2 ^ ((nb M : Int) - P - 1).toNat) = ((M / 2 ^ (nb M - P - 1) : Nat) : Int) := by rw [kOf1 h, fdivN]
theorem t2Of (h : (0 : Int) < (nb M : Int) - P) : ((M : Int).fdiv (2 ^ ((nb M : Int) - P - 1).toNat)).fdiv (2 ^ Int.toNat 1) = ((M / 2 ^ (nb M - P) : Nat) : Int) := by
  rw [tOf h, show Int.toNat 1 = 1 from rfl, fdivN, Nat.div_div_eq_div_mul, ← Nat.pow_succ, show (nb M - P - 1).succ = nb M - P from by omega]
theorem t_half (h : (0 : Int) < (nb M : Int) - P) : M / 2 ^ (nb M - P - 1) / 2 = M / 2 ^ (nb M - P) := by
  rw [Nat.div_div_eq_div_mul, ← Nat.pow_succ, show (nb M - P - 1).succ = nb M - P from by omega]
theorem rnd_nA (h : (0 : Int) < (nb M : Int) - P) (c1 : Builtin.bitAnd ((M : Int).fdiv (2 ^ ((nb M : Int) - P - 1).toNat)) 1 ≠ 0) (c2 : Builtin.bitAnd ((M : Int).fdiv (2 ^ ((nb M : Int) - P - 1).toNat)) 2 ≠ 0) :
    ((M : Int).fdiv (2 ^ ((nb M : Int) - P - 1).toNat)).fdiv (2 ^ Int.toNat 1) + 1 = (rnd .n ng M (nb M - P) : Nat) := by
  rw [t2Of h]
  rw [tOf h, and1N] at c1
  rw [tOf h, and2N, t_half h] at c2
  unfold rnd goUp halfUp
  rw [if_neg (by omega)]
  have a : M / 2 ^ (nb M - P - 1) % 2 = 1 := by omega
  have b : M / 2 ^ (nb M - P) % 2 = 1 := by omega
  simp [a, b]
theorem rnd_nB (h : (0 : Int) < (nb M : Int) - P) (c1 : Builtin.bitAnd ((M : Int).fdiv (2 ^ ((nb M : Int) - P - 1).toNat)) 1 ≠ 0) (c2 : Builtin.bitAnd (M : Int) (1 * 2 ^ ((nb M : Int) - P - 1).toNat - 1) ≠ 0) :
    ((M : Int).fdiv (2 ^ ((nb M : Int) - P - 1).toNat)).fdiv (2 ^ Int.toNat 1) + 1 = (rnd .n ng M (nb M - P) : Nat) := by
  rw [t2Of h]
  rw [tOf h, and1N] at c1
  rw [maskN, kOf1 h] at c2
  unfold rnd goUp halfUp
  rw [if_neg (by omega)]
  have a : M / 2 ^ (nb M - P - 1) % 2 = 1 := by omega
  have b : M % 2 ^ (nb M - P - 1) ≠ 0 := by omega
  simp [a, b]
theorem rnd_nC (h : (0 : Int) < (nb M : Int) - P) (c1 : Builtin.bitAnd ((M : Int).fdiv (2 ^ ((nb M : Int) - P - 1).toNat)) 2 = 0) (c2 : Builtin.bitAnd (M : Int) (1 * 2 ^ ((nb M : Int) - P - 1).toNat - 1) = 0) :
    ((M : Int).fdiv (2 ^ ((nb M : Int) - P - 1).toNat)).fdiv (2 ^ Int.toNat 1) = (rnd .n ng M (nb M - P) : Nat) := by
  rw [t2Of h]
  rw [tOf h, and2N, t_half h] at c1
  rw [maskN, kOf1 h] at c2
  unfold rnd goUp halfUp
  rw [if_neg (by omega)]
  have a : ¬ M / 2 ^ (nb M - P) % 2 = 1 := by omega
  have b : M % 2 ^ (nb M - P - 1) = 0 := by omega
  simp [a, b]
theorem rnd_nD (h : (0 : Int) < (nb M : Int) - P) (c1 : Builtin.bitAnd ((M : Int).fdiv (2 ^ ((nb M : Int) - P - 1).toNat)) 1 = 0) :
    ((M : Int).fdiv (2 ^ ((nb M : Int) - P - 1).toNat)).fdiv (2 ^ Int.toNat 1) = (rnd .n ng M (nb M - P) : Nat) := by
  rw [t2Of h]
  rw [tOf h, and1N] at c1
  unfold rnd goUp halfUp
  rw [if_neg (by omega)]
  have a : ¬ M / 2 ^ (nb M - P - 1) % 2 = 1 := by omega
  simp [a]
theorem rnd_size (hM : M ≠ 0) (hP : 1 ≤ P) : rnd wy ng M (nb M - P) ≠ 0 ∧ ((if nb M - P = 0 then nb M else P) = nb (rnd wy ng M (nb M - P)) ∨ rnd wy ng M (nb M - P) = 2 ^ (if nb M - P = 0 then nb M else P)) := by
  by_cases hk : nb M - P = 0
  · rw [hk, rnd_zero]; exact ⟨hM, .inl (if_pos rfl)⟩
  · rw [if_neg hk]
    have hq : nb (M / 2 ^ (nb M - P)) = P := by rw [nb_div_pow]; omega
    have hlt : M / 2 ^ (nb M - P) < 2 ^ P := nb_le.mp (by omega)
    have hge : 2 ^ (P - 1) ≤ M / 2 ^ (nb M - P) := lt_nb.mp (by omega)
    have hpp := Nat.two_pow_pos (P - 1)
    rw [rnd_pos hk]
    generalize M / 2 ^ (nb M - P) = q at *
    by_cases hu : goUp wy ng M (nb M - P) = true
    · rw [if_pos hu]
      refine ⟨by omega, ?_⟩
      by_cases he : q + 1 = 2 ^ P
      · exact .inr he
      · refine .inl ?_
        have := nb_eq (n := q + 1) (m := P - 1) (by omega) (by rw [Nat.sub_add_cancel hP]; omega)
        omega
    · rw [if_neg hu]
      exact ⟨by omega, .inl (by simpa using hq.symm)⟩
theorem exp_pos (h : (0 : Int) < (nb M : Int) - P) (e : Int) : e + ((nb M : Int) - P) = e + ((nb M - P : Nat) : Int) := by omega
theorem exp_nil (h : ¬ (0 : Int) < (nb M : Int) - P) (e : Int) : e = e + ((nb M - P : Nat) : Int) := by omega
theorem bc_pos (h : (0 : Int) < (nb M : Int) - P) : (P : Int) = ((if nb M - P = 0 then nb M else P : Nat) : Int) := by rw [if_neg (by omega)]
theorem bc_nil (h : ¬ (0 : Int) < (nb M : Int) - P) : (nb M : Int) = ((if nb M - P = 0 then nb M else P : Nat) : Int) := by rw [if_pos (by omega)]
end

section
variable {sg e : Int} {r b : Nat}
theorem tail1 (h1 : Builtin.bitAnd (r : Int) 1 ≠ 0) (h2 : (r : Int) = 1) : (sg, (r : Int), e, (1 : Int)) = told sg r e := by
  have : r = 1 := by omega
  subst this
  unfold told; rw [odp_odd (by decide), tz_odd (by decide), nb_one]; simp
theorem tail2 (hb : b = nb r ∨ r = 2 ^ b) (h1 : Builtin.bitAnd (r : Int) 1 ≠ 0) (h2 : (r : Int) ≠ 1) : (sg, (r : Int), e, (b : Int)) = told sg r e := by
  rw [and1N] at h1
  have ho : r % 2 = 1 := by omega
  have : b = nb r := by
    rcases hb with h | h
    · exact h
    · cases b with
      | zero => exact absurd (by rw [h]; simp) h2
      | succ b => rw [Nat.pow_succ] at h; omega
  unfold told; rw [odp_odd ho, tz_odd ho, this]; simp
theorem tail3 (h2 : (r : Int).fdiv (2 ^ ((tz r : Nat) : Int).toNat) = 1) : (sg, (r : Int).fdiv (2 ^ ((tz r : Nat) : Int).toNat), e + (tz r : Int), (1 : Int)) = told sg r e := by
  rw [Int.toNat_natCast, fdivN] at *
  have : odp r = 1 := by unfold odp; omega
  unfold told; rw [this, nb_one]; unfold odp at this; rw [this]; simp
theorem tail4 (h0 : r ≠ 0) (hb : b = nb r ∨ r = 2 ^ b) (h2 : (r : Int).fdiv (2 ^ ((tz r : Nat) : Int).toNat) ≠ 1) : (sg, (r : Int).fdiv (2 ^ ((tz r : Nat) : Int).toNat), e + (tz r : Int), (b : Int) - (tz r : Int)) = told sg r e := by
  rw [Int.toNat_natCast, fdivN] at *
  have h3 : odp r ≠ 1 := by unfold odp; omega
  have h4 := nb_odp h0
  have h5 : b = nb r := by
    rcases hb with h | h
    · exact h
    · refine absurd ?_ h3
      have h6 := odp_mul h0
      have h7 := odp_mod h0
      have : ∀ (k : Nat), odp (2 ^ k) = 1 := by
        intro k
        induction k with
        | zero => exact odp_odd (by decide)
        | succ k ih =>
          rw [odp_even (by have := Nat.two_pow_pos (k + 1); omega) (by rw [Nat.pow_succ]; omega)]
          rw [Nat.pow_succ, Nat.mul_div_cancel _ (by decide)]; exact ih
      rw [h]; exact this b
  unfold told
  have : (b : Int) - (tz r : Int) = (nb (odp r) : Int) := by omega
  rw [this]; rfl
end

local macro_rules | `(tactic| walk_at "call ref") => `(tactic| (k_here; k_dflt (refine' Ask.use (c_trailing _ _ _ ?kn) ?k1 ?k2 ?k3 ?k4 ?k5 ?k6 ?kd ?ku ?_; (case k1 => k_asm); (case k2 => k_asm); (case k3 => k_asm); (case k4 => k_asm); (case k5 => k_asm); (case k6 => first | exact rfl | assumption); (case kd => ktr_room); (case ku => ktr_units); (case kn => first | assumption | omega); k_whole); intro t9 h9 tk9 F9 N9; (try dsimp only); (try k_fold)))

theorem c_norm0 (w : World) (wy : Way) (ng : Bool) (M : Nat) (e : Int) (P : Nat) (t1 t2 t3 t4 t5 t6 : Tok) (hM : M ≠ 0) (hbig : nb M ≤ 100000) (hP : 1 ≤ P) :
    Ask w 38 2 [.int (sI ng) t1, .int (M : Int) t2, .int e t3, .int (nb M : Int) t4, .int (P : Int) t5, .str wy.str t6] (RetT (told (sI ng) (rnd wy ng M (nb M - P)) (e + ((nb M - P : Nat) : Int)))) := by
  unfold Ask
  k_fill
  intro p loose mean mg mb dp un gd cn cs a ccd cl outer A₀ base h₀ L m news s Q E B F X N T hk hd hu hret
  refine wpAny_call ?_
  k_dflt cell_enter
  rename_i g L1 h1 FG F1 N1 B1 X1 T1
  refine wpAny_noRaise ?_
  refine cut 3 (NormMid g L1 s news (sI ng) (rnd wy ng M (nb M - P) : Nat) (e + ((nb M - P : Nat) : Int)) ((if nb M - P = 0 then nb M else P : Nat) : Int)) ?_ ?_
  · dsimp only [List.take]
    clear hret
    have hnb := nb_pos hM
    cases wy <;> cases ng <;> dsimp only [Way.str, sI] at F1
    all_goals k_steps
    all_goals first
      | (exfalso; omega)
      | (show NormMid _ _ _ _ _ _ _ _ _
         refine' NormMid.intro ?F ?N (fun _ h => h) ?s ?a ?b ?c
         case F => assumption
         case N => assumption
         case s => exact rfl
         case b => (refine eqI ?_; first | exact exp_pos (by assumption) _ | exact exp_nil (by assumption) _)
         case c => (refine eqI ?_; first | exact bc_pos (by assumption) | exact bc_nil (by assumption))
         case a => (refine eqI ?_; first
           | exact rnd_le (by assumption)
           | exact rnd_down (fun h => nomatch h) rfl (by assumption)
           | exact rnd_up (fun h => nomatch h) rfl (by assumption)
           | exact rnd_nA (by assumption) (by assumption) (by assumption)
           | exact rnd_nB (by assumption) (by assumption) (by assumption)
           | exact rnd_nC (by assumption) (by assumption) (by assumption)
           | exact rnd_nD (by assumption) (by assumption)))
  · dsimp only [List.drop]
    rintro s' ⟨u1, u2, u3, u4, h, tk, m, rfl, F2, N2⟩
    dsimp only [over] at F2
    clear F1 N1
    obtain ⟨hr, hb⟩ := rnd_size (wy := wy) (ng := ng) (M := M) (P := P) hM hP
    generalize rnd wy ng M (nb M - P) = r at *
    generalize (if nb M - P = 0 then nb M else P) = b at *
    generalize e + ((nb M - P : Nat) : Int) = e' at *
    k_steps
    all_goals first
      | (exfalso; omega)
      | (refine' endT hret ?F ?N (fun _ h => h) ?E
         case F => assumption
         case N => assumption
         case E => first
           | exact tail1 (by assumption) (by assumption)
           | exact tail2 (by assumption) (by assumption) (by assumption)
           | exact tail3 (by assumption)
           | exact tail4 (by assumption) (by assumption) (by assumption))
end
end

section
theorem partC2 : True := by w_top off; trivial
local macro_rules | `(tactic| walk_at "idle") => `(tactic| skip)
local macro_rules | `(tactic| walk_at "idle") => `(tactic| skip)
local macro_rules | `(tactic| walk_at "idle") => `(tactic| skip)
local macro_rules | `(tactic| walk_at "idle") => `(tactic| skip)
local macro_rules | `(tactic| walk_at "execs cons") => `(tactic| (k_here; (with_reducible show wpAny _ _ _ _ _ (Shared.mk _ _ _ (_ + _) _)); refine gen_toks ?_; intro tk))
local macro_rules | `(tactic| walk_at "execs nil") => `(tactic| (k_here; (with_reducible show wpAny _ _ _ _ _ (Shared.mk _ _ _ (_ + _) _)); refine gen_toks ?_; intro tk))
set_option maxHeartbeats 4000000
local macro_rules | `(tactic| walk_at "call ref") => `(tactic| (k_here; (with_reducible show wpAny _ _ (call (Value.ref 38) _) _ _ _); k_dflt (refine' Ask.use (c_norm0 _ _ _ _ _ _ _ _ _ _ _ _ ?p1 ?p2 ?p3) ?k1 ?k2 ?k3 ?k4 ?k5 ?k6 ?kd ?ku ?_; (case k1 => k_asm); (case k2 => k_asm); (case k3 => k_asm); (case k4 => k_asm); (case k5 => k_asm); (case k6 => first | exact rfl | assumption); (case kd => ktr_room); (case ku => ktr_units); (case p1 => assumption); (case p2 => assumption); (case p3 => assumption); k_whole); intro D9 u1 u2 u3 u4 h9 tk9 F9 N9; (try dsimp only); (try k_fold)))

theorem c_norm (w : World) (wy : Way) (ng : Bool) (M : Nat) (e : Int) (P : Nat) (t1 t2 t3 t4 t5 t6 : Tok) (hM : M ≠ 0) (hbig : nb M ≤ 100000) (hP : 1 ≤ P) :
    Ask w 45 3 [.int (sI ng) t1, .int (M : Int) t2, .int e t3, .int (nb M : Int) t4, .int (P : Int) t5, .str wy.str t6] (RetT (told (sI ng) (rnd wy ng M (nb M - P)) (e + ((nb M - P : Nat) : Int)))) := by
  unfold Ask
  k_fill
  intro p loose mean mg mb dp un gd cn cs a ccd cl outer A₀ base h₀ L m news s Q E B F X N T hk hd hu hret
  refine wpAny_call ?_
  k_dflt cell_enter
  refine wpAny_noRaise ?_
  k_steps
  refine' endT hret ?F ?N (fun _ h => h) ?E
  case F => assumption
  case N => assumption
  case E => exact rfl
local macro_rules | `(tactic| walk_at "call ref") => `(tactic| (k_here; (with_reducible show wpAny _ _ (call (Value.ref 21) _) _ _ _); k_dflt (refine' Ask.use (c_trailing _ _ _ ?p1) ?k1 ?k2 ?k3 ?k4 ?k5 ?k6 ?kd ?ku ?_; (case k1 => k_asm); (case k2 => k_asm); (case k3 => k_asm); (case k4 => k_asm); (case k5 => k_asm); (case k6 => first | exact rfl | assumption); (case kd => ktr_room); (case ku => ktr_units); (case p1 => first | assumption | omega); k_whole); intro t9 h9 tk9 F9 N9; (try dsimp only); (try k_fold)))

def FmeMid (g : Heap) (L : Addr) (s : Shared) (news : List (Addr × Obj)) (sg man exp : Int) (s' : Shared) : Prop :=
  ∃ t1 t2 t3 t4 : Tok, Vars g L s news [(Str.ofString "sign", .int sg t1), (Str.ofString "man", .int man t2), (Str.ofString "exp", .int exp t3), (Str.ofString "prec", .int 0 t4)] s'
theorem FmeMid.intro {g h : Heap} {L : Addr} {s : Shared} {news news' : List (Addr × Obj)} {sg man exp : Int} {m : Str → Option Value} {tk : Nat} {t1 t2 t3 t4 : Tok}
    (F : Fr g L h m) (N : News g L h news') (hs : ∀ p ∈ news, p ∈ news') (h1 : m (Str.ofString "sign") = some (.int sg t1)) (h2 : m (Str.ofString "man") = some (.int man t2)) (h3 : m (Str.ofString "exp") = some (.int exp t3)) (h4 : m (Str.ofString "prec") = some (.int 0 t4)) :
    FmeMid g L s news sg man exp { s with heap := h, toks := tk } := ⟨t1, t2, t3, t4, Vars.intro F N hs ⟨h1, h2, h3, h4, trivial⟩⟩
theorem fme_neg {Z : Int} (h : Z < 0) : (1 : Int) = sI (decide (Z < 0)) ∧ -Z = (Z.natAbs : Nat) := by
  rw [decide_eq_true h]; exact ⟨rfl, by omega⟩
theorem fme_pos {Z : Int} (h : ¬ Z < 0) : (0 : Int) = sI (decide (Z < 0)) ∧ Z = (Z.natAbs : Nat) := by
  rw [decide_eq_false h]; exact ⟨rfl, by omega⟩
theorem fme1 {sg e : Int} {r : Nat} (h : Builtin.bitAnd (r : Int) 1 ≠ 0) : (sg, (r : Int), e, ((Builtin.Int.intBits (r : Int) : Nat) : Int)) = told sg r e := by
  rw [and1N] at h
  unfold told; rw [odp_odd (by omega), tz_odd (by omega), nb_natCast]; simp
theorem fme2 {sg e : Int} {r : Nat} (h0 : r ≠ 0) (h : Builtin.bitAnd (r : Int) 1 = 0) (h2 : Builtin.bitAnd (r : Int) 2 ≠ 0) : (sg, (r : Int).fdiv (2 ^ Int.toNat 1), e + 1, ((Builtin.Int.intBits (r : Int) : Nat) : Int) - 1) = told sg r e := by
  rw [and1N] at h
  rw [and2N] at h2
  have h3 : r / 2 % 2 = 1 := by omega
  have h4 := nb_half r
  have h5 := nb_pos h0
  unfold told
  rw [odp_even h0 (by omega), tz_even h0 (by omega), odp_odd h3, tz_odd h3, nb_natCast, show Int.toNat 1 = 1 from rfl, fdivN, show 2 ^ 1 = 2 from rfl, h4]
  simp; omega
theorem fme3 {sg e : Int} {r : Nat} (h0 : r ≠ 0) : (sg, (r : Int).fdiv (2 ^ ((tz r : Nat) : Int).toNat), e + (tz r : Int), ((Builtin.Int.intBits (r : Int) : Nat) : Int) - (tz r : Int)) = told sg r e := by
  have := nb_odp h0
  rw [Int.toNat_natCast, fdivN, nb_natCast]
  unfold told
  rw [show (nb r : Int) - (tz r : Int) = (nb (odp r) : Int) from by omega]; rfl
theorem c_fme (w : World) (Z e : Int) (t1 t2 : Tok) (hZ : Z ≠ 0) :
    Ask w 53 3 [.int Z t1, .int e t2] (RetT (told (sI (decide (Z < 0))) Z.natAbs e)) := by
  unfold Ask
  k_fill
  intro p loose mean mg mb dp un gd cn cs a ccd cl outer A₀ base h₀ L m news s Q E B F X N T hk hd hu hret
  refine wpAny_call ?_
  k_dflt (refine' code_def ?k1 ?k2 ?k3 ?k4 ?k5 ?kA ?kF ?kK ?k6 ?k7 ?k8 ?k9 ?kB ?_ ?c2 ?c3 ?c4 ?c5; (case kA => exact rfl); (case kF => exact rfl); (case kK => assumption); (case k1 => k_asm); (case k2 => k_asm); (case k3 => k_asm); (case k4 => k_asm); (case k5 => k_asm); (case k6 => k_is); (case k7 => k_is); (case k8 => ktr_room); (case k9 => first | exact BindsTo.of_eq rfl | exact binds_K (by k_in) rfl (by k_is) rfl rfl rfl); (case c5 => decide); (case kB => exact locs rfl); (case c2 => exact rfl); (case c3 => exact rfl); (case c4 => exact rfl); k_whole; intro g L1 h1 FG F1 N1 B1 X1 T1; (try dsimp only); (try k_fold))
  refine wpAny_noRaise ?_
  refine cut 3 (FmeMid g L1 s news (sI (decide (Z < 0))) (Z.natAbs : Nat) e) ?_ ?_
  · dsimp only [List.take]
    clear hret
    k_steps
    all_goals (
      (show FmeMid _ _ _ _ _ _ _ _)
      refine' FmeMid.intro ?F ?N (fun _ h => h) ?s ?a ?b ?c
      case F => assumption
      case N => assumption
      case b => exact rfl
      case c => exact rfl
      case s => (refine eqI ?_; first | exact (fme_neg (by assumption)).1 | exact (fme_pos (by assumption)).1)
      case a => (refine eqI ?_; first | exact (fme_neg (by assumption)).2 | exact (fme_pos (by assumption)).2))
  · dsimp only [List.drop]
    rintro s' ⟨u1, u2, u3, u4, h, tk, m, rfl, F2, N2⟩
    dsimp only [over] at F2
    clear F1 N1
    have hr : Z.natAbs ≠ 0 := by omega
    generalize Z.natAbs = r at *
    k_steps
    all_goals first
      | (exfalso; omega)
      | (refine' endT hret ?F ?N (fun _ h => h) ?E
         case F => assumption
         case N => assumption
         case E => first
           | exact fme1 (by assumption)
           | exact fme2 hr (by assumption) (by assumption)
           | exact fme3 hr)
end

section
theorem partC3 : True := by w_top off; trivial
local macro_rules | `(tactic| walk_at "idle") => `(tactic| skip)
local macro_rules | `(tactic| walk_at "idle") => `(tactic| skip)
local macro_rules | `(tactic| walk_at "idle") => `(tactic| skip)
local macro_rules | `(tactic| walk_at "idle") => `(tactic| skip)
local macro_rules | `(tactic| walk_at "idle") => `(tactic| skip)
local macro_rules | `(tactic| walk_at "idle") => `(tactic| skip)
local macro_rules | `(tactic| walk_at "idle") => `(tactic| skip)
local macro_rules | `(tactic| walk_at "idle") => `(tactic| skip)
local macro_rules | `(tactic| walk_at "idle") => `(tactic| skip)
set_option maxHeartbeats 4000000
local macro_rules | `(tactic| walk_at "execs cons") => `(tactic| (k_here; (with_reducible show wpAny _ _ _ _ _ (Shared.mk _ _ _ (_ + _) _)); refine gen_toks ?_; intro tk))
local macro_rules | `(tactic| walk_at "execs nil") => `(tactic| (k_here; (with_reducible show wpAny _ _ _ _ _ (Shared.mk _ _ _ (_ + _) _)); refine gen_toks ?_; intro tk))
local macro_rules | `(tactic| walk_at "ite") => `(tactic| (k_here; first
  | (refine ite_pos (by (simp only [bne_iff_ne, ne_eq, beq_iff_eq, decide_eq_true_eq, decide_eq_false_iff_not, Bool.and_eq_true, Bool.or_eq_true, Bool.not_eq_true', beq_eq_false_iff_ne, bne_eq_false_iff_eq]; first | done | omega)) ?_; walk_say "BY THE FACTS")
  | (refine ite_neg (by (simp only [bne_iff_ne, ne_eq, beq_iff_eq, decide_eq_true_eq, decide_eq_false_iff_not, Bool.and_eq_true, Bool.or_eq_true, Bool.not_eq_true', beq_eq_false_iff_ne, bne_eq_false_iff_eq]; first | done | omega)) ?_; walk_say "BY THE FACTS")))
theorem pyl {x : Int} {T : Nat} (h : nb T ≤ 9000) : Builtin.divisionGoesByPylong x (T : Int) = false := by
  refine PyProof.noPylong_of_log2 ?_
  have h2 := nb_le.mp h
  by_cases h0 : T = 0
  · subst h0; decide
  · rw [Int.natAbs_natCast]; exact (Nat.log2_lt h0).mpr h2
theorem dv_pow {P T : Nat} : (1 * 2 ^ ((P : Int) - 1 + (nb T : Int) + 5).toNat : Int) = ((2 ^ (P + nb T + 4) : Nat) : Int) := by
  rw [show ((P : Int) - 1 + (nb T : Int) + 5).toNat = P + nb T + 4 from by omega]; simp
theorem bits_cast {n m : Nat} (h : n < 2 ^ m) : Builtin.Int.intBits (n : Int) ≤ m := by rw [nb_natCast]; exact nb_le.mpr h
theorem dv_bits {P T : Nat} (hP : P ≤ 10000) (hT : nb T ≤ 9000) : (Builtin.Int.intBits ((1 * 2 ^ ((P : Int) - 1 + (nb T : Int) + 5).toNat : Int).fdiv (T : Int)) : Int) + 1 ≤ 2 ^ 27 := by
  rw [dv_pow]
  have : Builtin.Int.intBits (((2 ^ (P + nb T + 4) : Nat) : Int).fdiv (T : Int)) ≤ P + nb T + 5 := intBits_fdiv_le (bits_cast (Nat.pow_lt_pow_right (by decide) (by omega)))
  omega
local macro_rules | `(tactic| walk_at "call builtin:divmod") => `(tactic| (k_here; k_dflt ((with_reducible show wpAny _ _ (call (Value.builtin _) [Value.int _ _, Value.int _ _]) _ _ _); refine divmod_N (by assumption) (by assumption) (by omega) ?_ (Or.inl (pyl (by first | assumption | omega))); intro hq Fq Nq)))
theorem bits_one : Builtin.Int.intBits 1 = 1 := by decide
local macro_rules | `(tactic| walk_at "binaryOp LShift int int") => `(tactic| (k_here; k_dflt (refine lshift_int (by omega) (by first | exact dv_bits (by assumption) (by assumption) | (rw [bits_one]; omega)) ?_)))

theorem c_normE (w : World) (wy : Way) (sg man e bc prec : Int) (t1 t2 t3 t4 t5 t6 : Tok) (ng : Bool) (M P : Nat) (_hs : sg = sI ng) (_hm : man = (M : Int)) (hb : bc = (nb M : Int)) (hp : prec = (P : Int)) (hM : M ≠ 0) (hbig : nb M ≤ 100000) (hP : 1 ≤ P) :
    Ask w 45 3 [.int sg t1, .int man t2, .int e t3, .int bc t4, .int prec t5, .str wy.str t6] (RetT (told (sI ng) (rnd wy ng M (nb M - P)) (e + ((nb M - P : Nat) : Int)))) := by
  subst _hs; subst _hm; subst hb; subst hp
  exact c_norm w wy ng M e P t1 t2 t3 t4 t5 t6 hM hbig hP
theorem xor00 : Builtin.bitXor 0 0 = sI false := by decide
theorem xor01 : Builtin.bitXor 0 1 = sI true := by decide
theorem nbI_one : (1 : Int) = ((nb 1 : Nat) : Int) := by rw [nb_one]; rfl
theorem nb_one_le : nb 1 ≤ 100000 := by rw [nb_one]; decide
local macro_rules | `(tactic| walk_at "call ref") => `(tactic| (k_here; (with_reducible show wpAny _ _ (call (Value.ref 45) _) _ _ _); k_dflt (refine' Ask.use (c_normE _ _ _ _ _ _ _ _ _ _ _ _ _ _ _ _ ?p1 ?p2 ?p3 ?p4 ?p5 ?p6 ?p7) ?k1 ?k2 ?k3 ?k4 ?k5 ?k6 ?kd ?ku ?_; (case k1 => k_asm); (case k2 => k_asm); (case k3 => k_asm); (case k4 => k_asm); (case k5 => k_asm); (case k6 => first | exact rfl | assumption); (case kd => ktr_room); (case ku => ktr_units); (case p2 => first | exact rfl | exact (rfl : (1 : Int) = ((1 : Nat) : Int))); (case p1 => first | exact (xor00 : Builtin.bitXor 0 0 = sI false) | exact (xor01 : Builtin.bitXor 0 1 = sI true) | exact rfl | exact (rfl : (0 : Int) = sI false) | exact (rfl : (1 : Int) = sI true)); (case p3 => first | exact rfl | exact nbI_one | assumption); (case p4 => exact rfl); (case p5 => first | assumption | decide); (case p6 => first | assumption | exact nb_one_le); (case p7 => assumption); k_whole); intro D9 u1 u2 u3 u4 h9 tk9 F9 N9; (try dsimp only); (try k_fold) ; dsimp only [told] at N9))

abbrev IsT (news : List (Addr × Obj)) (D : Addr) (r : Int × Int × Int × Int) : Prop := ∃ t1 t2 t3 t4 : Tok, (D, tup4 r.1 r.2.1 r.2.2.1 r.2.2.2 t1 t2 t3 t4) ∈ news
theorem c_pos (w : World) (wy : Way) (ng : Bool) (D : Addr) (M : Nat) (e : Int) (P : Nat) (t5 t6 : Tok) (hM : M ≠ 0) (hbig : nb M ≤ 100000) (hP : 1 ≤ P) :
    Ask w 61 4 [.ref D, .int (P : Int) t5, .str wy.str t6] (fun h₀ L m news s Q => IsT news D (sI ng, (M : Int), e, (nb M : Int)) ∧ RetT (told (sI ng) (rnd wy ng M (nb M - P)) (e + ((nb M - P : Nat) : Int))) h₀ L m news s Q) := by
  unfold Ask
  k_fill
  intro p loose mean mg mb dp un gd cn cs a ccd cl outer A₀ base h₀ L m news s Q E B F X N T hk hd hu hret
  obtain ⟨⟨v1, v2, v3, v4, hD⟩, hret⟩ := hret
  dsimp only at hD
  refine wpAny_call ?_
  k_dflt (refine' code_def ?k1 ?k2 ?k3 ?k4 ?k5 ?kA ?kF ?kK ?k6 ?k7 ?k8 ?k9 ?kB ?_ ?c2 ?c3 ?c4 ?c5; (case kA => exact rfl); (case kF => exact rfl); (case kK => assumption); (case k1 => k_asm); (case k2 => k_asm); (case k3 => k_asm); (case k4 => k_asm); (case k5 => k_asm); (case k6 => k_is); (case k7 => k_is); (case k8 => ktr_room); (case k9 => first | exact BindsTo.of_eq rfl | exact binds_K (by k_in) rfl (by k_is) rfl rfl rfl); (case c5 => decide); (case kB => exact locs rfl); (case c2 => exact rfl); (case c3 => exact rfl); (case c4 => exact rfl); k_whole; intro g L1 h1 FG F1 N1 B1 X1 T1; (try dsimp only); (try k_fold))
  refine wpAny_noRaise ?_
  k_steps
  all_goals first
    | (exfalso; omega)
    | (refine' endT hret ?F ?N (fun _ h => h) ?E
       case F => assumption
       case N => assumption
       case E => exact rfl)

/-- the quotient with its sticky bit, as mpf_div reckons one by T -/
def dvQ (T P : Nat) : Nat := if 2 ^ (P + nb T + 4) % T = 0 then 2 ^ (P + nb T + 4) / T else 2 * (2 ^ (P + nb T + 4) / T) + 1
def dvX (T P : Nat) : Nat := if 2 ^ (P + nb T + 4) % T = 0 then P + nb T + 4 else P + nb T + 5
def dv (ng : Bool) (T : Nat) (e : Int) (P : Nat) (wy : Way) : Int × Int × Int × Int :=
  if T = 1 then (sI ng, 1, -e, 1) else told (sI ng) (rnd wy ng (dvQ T P) (nb (dvQ T P) - P)) (0 - e - (dvX T P : Nat) + ((nb (dvQ T P) - P : Nat) : Int))
def DivMid (g : Heap) (L : Addr) (s : Shared) (news : List (Addr × Obj)) (P : Nat) (wy : Way) (sg quot sexp texp extra : Int) (s' : Shared) : Prop :=
  ∃ t1 t2 t3 t4 t5 t6 t7 : Tok, Vars g L s news [(Str.ofString "sign", .int sg t1), (Str.ofString "quot", .int quot t2), (Str.ofString "sexp", .int sexp t3), (Str.ofString "texp", .int texp t4), (Str.ofString "extra", .int extra t5), (Str.ofString "prec", .int (P : Int) t6), (Str.ofString "rnd", .str wy.str t7)] s'
theorem DivMid.intro {g h : Heap} {L : Addr} {s : Shared} {news news' : List (Addr × Obj)} {P : Nat} {wy : Way} {sg quot sexp texp extra : Int} {m : Str → Option Value} {tk : Nat} {t1 t2 t3 t4 t5 t6 t7 : Tok}
    (F : Fr g L h m) (N : News g L h news') (hs : ∀ p ∈ news, p ∈ news') (h1 : m (Str.ofString "sign") = some (.int sg t1)) (h2 : m (Str.ofString "quot") = some (.int quot t2)) (h3 : m (Str.ofString "sexp") = some (.int sexp t3)) (h4 : m (Str.ofString "texp") = some (.int texp t4)) (h5 : m (Str.ofString "extra") = some (.int extra t5)) (h6 : m (Str.ofString "prec") = some (.int (P : Int) t6)) (h7 : m (Str.ofString "rnd") = some (.str wy.str t7)) :
    DivMid g L s news P wy sg quot sexp texp extra { s with heap := h, toks := tk } := ⟨t1, t2, t3, t4, t5, t6, t7, Vars.intro F N hs ⟨h1, h2, h3, h4, h5, h6, h7, trivial⟩⟩
section
variable {T P : Nat} {e : Int} {wy : Way} {ng : Bool}
theorem dv_e1 (h : (T : Int) = 1) (hP : 1 ≤ P) : (sI ng, ((odp (rnd wy ng 1 (nb 1 - P)) : Nat) : Int), 0 - e + ((nb 1 - P : Nat) : Int) + ((tz (rnd wy ng 1 (nb 1 - P)) : Nat) : Int), ((nb (odp (rnd wy ng 1 (nb 1 - P))) : Nat) : Int)) = dv ng T e P wy := by
  unfold dv
  rw [if_pos (by omega), nb_one, show 1 - P = 0 from by omega, rnd_zero, odp_odd (by decide), tz_odd (by decide), nb_one]
  simp
theorem dv_fmod (hT : T ≠ 0) : (1 * 2 ^ ((P : Int) - 1 + (nb T : Int) + 5).toNat : Int).fmod (T : Int) = ((2 ^ (P + nb T + 4) % T : Nat) : Int) := by
  rw [dv_pow]; exact (Int.ofNat_fmod _ _).symm
theorem dv_fdiv : (1 * 2 ^ ((P : Int) - 1 + (nb T : Int) + 5).toNat : Int).fdiv (T : Int) = ((2 ^ (P + nb T + 4) / T : Nat) : Int) := by
  rw [dv_pow]; exact (Int.ofNat_fdiv _ _).symm
theorem dv_q1 (hT : T ≠ 0) (h : (1 * 2 ^ ((P : Int) - 1 + (nb T : Int) + 5).toNat : Int).fmod (T : Int) ≠ 0) : (1 * 2 ^ ((P : Int) - 1 + (nb T : Int) + 5).toNat : Int).fdiv (T : Int) * 2 ^ Int.toNat 1 + 1 = ((dvQ T P : Nat) : Int) := by
  rw [dv_fmod hT] at h
  rw [dv_fdiv]
  unfold dvQ
  rw [if_neg (by omega), show Int.toNat 1 = 1 from rfl]
  omega
theorem dv_q2 (hT : T ≠ 0) (h : (1 * 2 ^ ((P : Int) - 1 + (nb T : Int) + 5).toNat : Int).fmod (T : Int) = 0) : (1 * 2 ^ ((P : Int) - 1 + (nb T : Int) + 5).toNat : Int).fdiv (T : Int) = ((dvQ T P : Nat) : Int) := by
  rw [dv_fmod hT] at h
  rw [dv_fdiv]
  unfold dvQ
  rw [if_pos (by omega)]
theorem dv_x1 (hT : T ≠ 0) (h : (1 * 2 ^ ((P : Int) - 1 + (nb T : Int) + 5).toNat : Int).fmod (T : Int) ≠ 0) : (P : Int) - 1 + (nb T : Int) + 5 + 1 = ((dvX T P : Nat) : Int) := by
  rw [dv_fmod hT] at h
  unfold dvX
  rw [if_neg (by omega)]; omega
theorem dv_x2 (hT : T ≠ 0) (h : (1 * 2 ^ ((P : Int) - 1 + (nb T : Int) + 5).toNat : Int).fmod (T : Int) = 0) : (P : Int) - 1 + (nb T : Int) + 5 = ((dvX T P : Nat) : Int) := by
  rw [dv_fmod hT] at h
  unfold dvX
  rw [if_pos (by omega)]; omega
theorem dvQ_pos (hT : T ≠ 0) : dvQ T P ≠ 0 := by
  have h1 := nb_lt_pow T
  have h2 : 2 ^ nb T ≤ 2 ^ (P + nb T + 4) := Nat.pow_le_pow_right (by decide) (by omega)
  have h3 : 0 < 2 ^ (P + nb T + 4) / T := Nat.div_pos (by omega) (by omega)
  unfold dvQ
  split <;> omega
theorem dvQ_bits : nb (dvQ T P) ≤ P + nb T + 6 := by
  rw [nb_le]
  have h : 2 ^ (P + nb T + 4) / T ≤ 2 ^ (P + nb T + 4) := Nat.div_le_self _ _
  have e : 2 ^ (P + nb T + 6) = 4 * 2 ^ (P + nb T + 4) := by rw [show P + nb T + 6 = (P + nb T + 4) + 2 from rfl, Nat.pow_add]; omega
  have hp := Nat.two_pow_pos (P + nb T + 4)
  unfold dvQ
  split <;> omega
end
theorem c_div (w : World) (wy : Way) (ng : Bool) (D : Addr) (T₀ : Nat) (e : Int) (P : Nat) (t5 t6 : Tok) (hT : T₀ ≠ 0) (hbig : nb T₀ ≤ 9000) (hP : 1 ≤ P) (hP2 : P ≤ 10000) :
    Ask w 76 5 [.ref 23, .ref D, .int (P : Int) t5, .str wy.str t6] (fun h₀ L m news s Q => IsT news D (sI ng, (T₀ : Int), e, (nb T₀ : Int)) ∧ RetT (dv ng T₀ e P wy) h₀ L m news s Q) := by
  unfold Ask
  k_fill
  intro p loose mean mg mb dp un gd cn cs a ccd cl outer A₀ base h₀ L m news s Q E B F X N T hk hd hu hret
  obtain ⟨⟨v1, v2, v3, v4, hD⟩, hret⟩ := hret
  dsimp only at hD
  refine wpAny_call ?_
  k_dflt (refine' code_def ?k1 ?k2 ?k3 ?k4 ?k5 ?kA ?kF ?kK ?k6 ?k7 ?k8 ?k9 ?kB ?_ ?c2 ?c3 ?c4 ?c5; (case kA => exact rfl); (case kF => exact rfl); (case kK => assumption); (case k1 => k_asm); (case k2 => k_asm); (case k3 => k_asm); (case k4 => k_asm); (case k5 => k_asm); (case k6 => k_is); (case k7 => k_is); (case k8 => ktr_room); (case k9 => first | exact BindsTo.of_eq rfl | exact binds_K (by k_in) rfl (by k_is) rfl rfl rfl); (case c5 => decide); (case kB => exact locs rfl); (case c2 => exact rfl); (case c3 => exact rfl); (case c4 => exact rfl); k_whole; intro g L1 h1 FG F1 N1 B1 X1 T1; (try dsimp only); (try k_fold))
  refine wpAny_noRaise ?_
  refine cut 9 (fun s' => T₀ ≠ 1 ∧ DivMid g L1 s news P wy (sI ng) (dvQ T₀ P : Nat) 0 e (dvX T₀ P : Nat) s') ?_ ?_
  · dsimp only [List.take]
    have hT' : (T₀ : Int) ≠ 0 := by omega
    cases ng <;> dsimp only [sI] at hD
    all_goals k_steps
    all_goals first
      | (refine' endT hret ?F ?N (fun _ h => h) ?E
         case F => assumption
         case N => assumption
         case E => exact dv_e1 (by assumption) hP)
      | ((show T₀ ≠ 1); omega)
      | ((show DivMid _ _ _ _ _ _ _ _ _ _ _ _)
         refine' DivMid.intro ?F ?N ?h ?s ?a ?b ?c ?d ?e ?f
         case F => assumption
         case N => assumption
         case h => exact (fun _ h => List.Mem.tail _ h)
         case b => exact rfl
         case c => exact rfl
         case e => exact rfl
         case f => exact rfl
         case s => first | exact (rfl : some (Value.int (Builtin.bitXor 0 0) _) = _) | exact eqI xor00 | exact eqI xor01
         case a => (refine eqI ?_; first | exact dv_q1 hT (by assumption) | exact dv_q2 hT (by assumption))
         case d => (refine eqI ?_; first | exact dv_x1 hT (by assumption) | exact dv_x2 hT (by assumption)))
  · dsimp only [List.drop]
    rintro s' ⟨hT1, v1, v2, v3, v4, v5, v6, v7, h, tk, m, rfl, F2, N2⟩
    dsimp only [over] at F2
    clear F1 N1 hD
    have hq := dvQ_pos (T := T₀) (P := P) hT
    have hq2 : nb (dvQ T₀ P) ≤ 100000 := Nat.le_trans (dvQ_bits (T := T₀) (P := P)) (by omega)
    k_steps
    refine' endT hret ?F ?N (fun _ h => h) ?E
    case F => assumption
    case N => assumption
    case E => (unfold dv; rw [if_neg hT1]; exact rfl)
end

section
theorem partC4 : True := by w_top off; trivial
local macro_rules | `(tactic| walk_at "idle") => `(tactic| skip)
local macro_rules | `(tactic| walk_at "idle") => `(tactic| skip)
local macro_rules | `(tactic| walk_at "idle") => `(tactic| skip)
local macro_rules | `(tactic| walk_at "idle") => `(tactic| skip)
local macro_rules | `(tactic| walk_at "idle") => `(tactic| skip)
local macro_rules | `(tactic| walk_at "idle") => `(tactic| skip)
local macro_rules | `(tactic| walk_at "idle") => `(tactic| skip)
local macro_rules | `(tactic| walk_at "idle") => `(tactic| skip)
local macro_rules | `(tactic| walk_at "idle") => `(tactic| skip)
local macro_rules | `(tactic| walk_at "idle") => `(tactic| skip)
local macro_rules | `(tactic| walk_at "idle") => `(tactic| skip)
local macro_rules | `(tactic| walk_at "idle") => `(tactic| skip)
local macro_rules | `(tactic| walk_at "idle") => `(tactic| skip)
local macro_rules | `(tactic| walk_at "idle") => `(tactic| skip)
local macro_rules | `(tactic| walk_at "idle") => `(tactic| skip)
local macro_rules | `(tactic| walk_at "idle") => `(tactic| skip)
set_option maxHeartbeats 4000000
local macro_rules | `(tactic| walk_at "execs cons") => `(tactic| (k_here; (with_reducible show wpAny _ _ _ _ _ (Shared.mk _ _ _ (_ + _) _)); refine gen_toks ?_; intro tk))
local macro_rules | `(tactic| walk_at "execs nil") => `(tactic| (k_here; (with_reducible show wpAny _ _ _ _ _ (Shared.mk _ _ _ (_ + _) _)); refine gen_toks ?_; intro tk))
local macro_rules | `(tactic| walk_at "ite") => `(tactic| (k_here; first
  | (refine ite_pos (by (simp only [bne_iff_ne, ne_eq, beq_iff_eq, decide_eq_true_eq, decide_eq_false_iff_not, Bool.and_eq_true, Bool.or_eq_true, Bool.not_eq_true', beq_eq_false_iff_ne, bne_eq_false_iff_eq]; first | done | omega)) ?_; walk_say "BY THE FACTS")
  | (refine ite_neg (by (simp only [bne_iff_ne, ne_eq, beq_iff_eq, decide_eq_true_eq, decide_eq_false_iff_not, Bool.and_eq_true, Bool.or_eq_true, Bool.not_eq_true', beq_eq_false_iff_ne, bne_eq_false_iff_eq]; first | done | omega)) ?_; walk_say "BY THE FACTS")))

/-- a list of ints of the call's own; of its items nothing is said -/
def SomeInts (news : List (Addr × Obj)) (l : Addr) : Prop := ∃ ws ks, (l, PySem.W.listOf ws.toArray 0) ∈ news ∧ IntsAre ws ks ∧ ks.length ≤ 24
theorem num_item {prog : Program} {w : World} {A : Around} {E : Value → Shared → Prop} {s : Shared} {value slice : PySem.Expr} {h₀ : Heap} {L l : Addr} {news : List (Addr × Obj)} {ws : List Value} {ks : List Int} {i : Int} {u : Tok} {Q : Value → Shared → Prop}
    (N : News h₀ L s.heap news) (hD : (l, PySem.W.listOf ws.toArray 0) ∈ news) (hI : IntsAre ws ks) (h0 : 0 ≤ i) (h1 : i < (ks.length : Int)) (h2 : ks.length ≤ 24)
    (h : ∀ k t, Q (.int k t) s)
    (hs : subscripted slice false (.ref l) (.int i u) = operate [.ref l, .int i u] (getItem (.ref l) (.int i u)) := by with_unfolding_all rfl) :
    wpAny (model prog w) A (subscriptTail value slice (.ref l) (.int i u)) Q E s := by
  have hl : s.heap.IsList l ws.toArray := News.isList N hD
  have hlen := hI.length
  have hlt : i.toNat < ws.length := by omega
  obtain ⟨n, t, e, _⟩ := hI.at i.toNat _ (List.getElem?_eq_getElem hlt)
  refine tail_any hl.typeIs slot_list_getitem.lookup (wpAny_getItem_list hl h0 (by omega) (x := .int n t) ?_ (h n t)) hs
  rw [List.getElem?_toArray, List.getElem?_eq_getElem hlt, e]
local macro_rules | `(tactic| walk_at "call builtin:len") => `(tactic| (k_here; (with_reducible show wpAny _ _ (call (Value.builtin _) [Value.ref _]) _ _ _); (with_unfolding_all refine' len_ints_fit ?k1 ?k2 ?k3 ?_; (case k1 => exact News.isList (by assumption) (by assumption)); (case k2 => assumption); (case k3 => omega); k_whole)))
local macro_rules | `(tactic| walk_at "subscriptTail") => `(tactic| (k_here; (with_reducible show wpAny _ _ (subscriptTail _ _ (Value.ref _) (Value.int _ _)) _ _ _); (with_unfolding_all refine' num_item ?k1 ?k2 ?k3 ?k4 ?k5 ?k6 ?_ ?k7; (case k1 => assumption); (case k2 => assumption); (case k3 => assumption); (case k4 => omega); (case k5 => omega); (case k6 => assumption); (case k7 => with_unfolding_all rfl); k_whole); intro k9 t9))
theorem c_num (w : World) (l : Addr) (i : Int) (t1 : Tok) (hi0 : 0 ≤ i) (hi : i ≤ 100) :
    Ask w 92 2 [.ref l, .int i t1] (fun h₀ L m news s Q => SomeInts news l ∧ ∀ k, RetI k h₀ L m news s Q) := by
  unfold Ask
  k_fill
  intro p loose mean mg mb dp un gd cn cs a ccd cl outer A₀ base h₀ L m news s Q E B F X N T hk hd hu hret
  obtain ⟨⟨ws, ks, hD, hI, hl⟩, hret⟩ := hret
  refine wpAny_call ?_
  k_dflt (refine' code_def ?k1 ?k2 ?k3 ?k4 ?k5 ?kA ?kF ?kK ?k6 ?k7 ?k8 ?k9 ?kB ?_ ?c2 ?c3 ?c4 ?c5; (case kA => exact rfl); (case kF => exact rfl); (case kK => assumption); (case k1 => k_asm); (case k2 => k_asm); (case k3 => k_asm); (case k4 => k_asm); (case k5 => k_asm); (case k6 => k_is); (case k7 => k_is); (case k8 => ktr_room); (case k9 => first | exact BindsTo.of_eq rfl | exact binds_K (by k_in) rfl (by k_is) rfl rfl rfl); (case c5 => decide); (case kB => exact locs rfl); (case c2 => exact rfl); (case c3 => exact rfl); (case c4 => exact rfl); k_whole; intro g L1 h1 FG F1 N1 B1 X1 T1; (try dsimp only); (try k_fold))
  refine wpAny_noRaise ?_
  k_steps
  all_goals (
    refine' endI (hret _) ?F ?N (fun _ h => h) rfl
    case F => assumption
    case N => assumption)

/-- the loop's state in _law_told -/
def ToldMid (g : Heap) (L : Addr) (s : Shared) (news : List (Addr × Obj)) (side size power : Int) (s' : Shared) : Prop :=
  ∃ t1 t2 t3 : Tok, Vars g L s news [(Str.ofString "side", .int side t1), (Str.ofString "size", .int size t2), (Str.ofString "power", .int power t3)] s'
theorem ToldMid.intro {g h : Heap} {L : Addr} {s : Shared} {news news' : List (Addr × Obj)} {side size power : Int} {m : Str → Option Value} {tk : Nat} {t1 t2 t3 : Tok}
    (F : Fr g L h m) (N : News g L h news') (hs : ∀ p ∈ news, p ∈ news') (h1 : m (Str.ofString "side") = some (.int side t1)) (h2 : m (Str.ofString "size") = some (.int size t2)) (h3 : m (Str.ofString "power") = some (.int power t3)) :
    ToldMid g L s news side size power { s with heap := h, toks := tk } := ⟨t1, t2, t3, Vars.intro F N hs ⟨h1, h2, h3, trivial⟩⟩
/-- the loop: n its measure; what stands tells the same -/
def ToldI (g : Heap) (L : Addr) (s : Shared) (news : List (Addr × Obj)) (side : Int) (M : Nat) (p : Int) (n : Nat) (s' : Shared) : Prop :=
  ∃ p' : Int, n ≠ 0 ∧ told side n p' = told side M p ∧ ToldMid g L s news side (n : Int) p' s'
theorem abs_neg {Z : Int} (h : Z < 0) : (if Z < 0 then -Z else Z) = ((Z.natAbs : Nat) : Int) := by rw [if_pos h]; omega
theorem abs_pos {Z : Int} (h : ¬ Z < 0) : (if Z < 0 then -Z else Z) = ((Z.natAbs : Nat) : Int) := by rw [if_neg h]; omega
theorem fmodN (n k : Nat) : (n : Int).fmod (k : Int) = ((n % k : Nat) : Int) := (Int.ofNat_fmod n k).symm
theorem fmod2N (n : Nat) : (n : Int).fmod 2 = ((n % 2 : Nat) : Int) := fmodN n 2
theorem told_half {n : Nat} (hn : n ≠ 0) (h : (n : Int).fmod 2 = 0) : n / 2 ≠ 0 := by rw [fmod2N] at h; omega
theorem told_step {sg : Int} {n : Nat} {p : Int} (hn : n ≠ 0) (h : (n : Int).fmod 2 = 0) : told sg (n / 2) (p + 1) = told sg n p := by
  rw [fmod2N] at h
  unfold told
  rw [odp_even (n := n) hn (by omega), tz_even (n := n) hn (by omega)]
  simp; omega
theorem told_done {sg : Int} {n M : Nat} {p e : Int} (ht : told sg n p = told sg M e) (h : (n : Int).fmod 2 ≠ 0) : (n : Int) = ((odp M : Nat) : Int) ∧ p = e + ((tz M : Nat) : Int) := by
  rw [fmod2N] at h
  unfold told at ht
  rw [odp_odd (n := n) (by omega), tz_odd (n := n) (by omega)] at ht
  simp only [Prod.mk.injEq, true_and] at ht
  refine ⟨ht.1, ?_⟩
  have := ht.2.1
  omega
theorem c_told (w : World) (Z e : Int) (t1 t2 : Tok) (hZ : Z ≠ 0) :
    Ask w 99 2 [.int Z t1, .int e t2] (RetT (told (sI (decide (Z < 0))) Z.natAbs e)) := by
  unfold Ask
  k_fill
  intro p loose mean mg mb dp un gd cn cs a ccd cl outer A₀ base h₀ L m news s Q E B F X N T hk hd hu hret
  refine wpAny_call ?_
  k_dflt (refine' code_def ?k1 ?k2 ?k3 ?k4 ?k5 ?kA ?kF ?kK ?k6 ?k7 ?k8 ?k9 ?kB ?_ ?c2 ?c3 ?c4 ?c5; (case kA => exact rfl); (case kF => exact rfl); (case kK => assumption); (case k1 => k_asm); (case k2 => k_asm); (case k3 => k_asm); (case k4 => k_asm); (case k5 => k_asm); (case k6 => k_is); (case k7 => k_is); (case k8 => ktr_room); (case k9 => first | exact BindsTo.of_eq rfl | exact binds_K (by k_in) rfl (by k_is) rfl rfl rfl); (case c5 => decide); (case kB => exact locs rfl); (case c2 => exact rfl); (case c3 => exact rfl); (case c4 => exact rfl); k_whole; intro g L1 h1 FG F1 N1 B1 X1 T1; (try dsimp only); (try k_fold))
  refine wpAny_noRaise ?_
  refine cut 2 (ToldMid g L1 s news (sI (decide (Z < 0))) (Z.natAbs : Nat) e) ?_ ?_
  · dsimp only [List.take]
    clear hret
    k_steps
    all_goals (
      (show ToldMid _ _ _ _ _ _ _ _)
      refine' ToldMid.intro ?F ?N ?h ?s ?a ?b
      case F => assumption
      case N => assumption
      case h => exact (fun _ h => List.Mem.tail _ h)
      case b => exact rfl
      case s => (refine eqI ?_; first | exact (fme_neg (by assumption)).1 | exact (fme_pos (by assumption)).1)
      case a => (refine eqI ?_; first | exact abs_neg (by assumption) | exact abs_pos (by assumption)))
  · dsimp only [List.drop]
    rintro s1 hs1
    refine cut 1 (ToldMid g L1 s news (sI (decide (Z < 0))) (odp Z.natAbs : Nat) (e + (tz Z.natAbs : Nat))) ?_ ?_
    · dsimp only [List.take]
      clear hret F1 N1
      refine wpAny_execs_cons ?_
      refine while_turn (ToldI g L1 s news (sI (decide (Z < 0))) Z.natAbs e) Z.natAbs ⟨e, by omega, rfl, hs1⟩ ?_
      rintro n s' ⟨p', hn, ht, u1, u2, u3, h, tk, m, rfl, F2, N2⟩
      dsimp only [over] at F2
      clear hs1
      k_steps
      · refine ⟨n / 2, Nat.div_lt_self (by omega) (by decide), p' + 1, told_half hn (by assumption), (told_step hn (by assumption)).trans ht, ?_⟩
        refine' ToldMid.intro ?F ?N ?h ?s ?a ?b
        case F => assumption
        case N => assumption
        case h => exact (fun _ h => List.Mem.tail _ h)
        case s => exact rfl
        case b => exact rfl
        case a => exact eqI (Int.ofNat_fdiv n 2).symm
      · (show ToldMid _ _ _ _ _ _ _ _)
        refine' ToldMid.intro ?F ?N ?h ?s ?a ?b
        case F => assumption
        case N => assumption
        case h => exact (fun _ h => h)
        case s => exact rfl
        case b => exact eqI (told_done ht (by assumption)).2
        case a => exact eqI (told_done ht (by assumption)).1
    · dsimp only [List.drop]
      rintro s' ⟨u1, u2, u3, h, tk, m, rfl, F2, N2⟩
      dsimp only [over] at F2
      clear F1 N1 hs1
      k_steps
      refine' endT hret ?F ?N (fun _ h => h) ?E
      case F => assumption
      case N => assumption
      case E => exact rfl
end

section
theorem partC5 : True := by w_top off; trivial
local macro_rules | `(tactic| walk_at "idle") => `(tactic| skip)
local macro_rules | `(tactic| walk_at "idle") => `(tactic| skip)
local macro_rules | `(tactic| walk_at "idle") => `(tactic| skip)
local macro_rules | `(tactic| walk_at "idle") => `(tactic| skip)
local macro_rules | `(tactic| walk_at "idle") => `(tactic| skip)
local macro_rules | `(tactic| walk_at "idle") => `(tactic| skip)
local macro_rules | `(tactic| walk_at "idle") => `(tactic| skip)
local macro_rules | `(tactic| walk_at "idle") => `(tactic| skip)
local macro_rules | `(tactic| walk_at "idle") => `(tactic| skip)
local macro_rules | `(tactic| walk_at "idle") => `(tactic| skip)
local macro_rules | `(tactic| walk_at "idle") => `(tactic| skip)
local macro_rules | `(tactic| walk_at "idle") => `(tactic| skip)
local macro_rules | `(tactic| walk_at "idle") => `(tactic| skip)
local macro_rules | `(tactic| walk_at "idle") => `(tactic| skip)
local macro_rules | `(tactic| walk_at "idle") => `(tactic| skip)
local macro_rules | `(tactic| walk_at "idle") => `(tactic| skip)
local macro_rules | `(tactic| walk_at "idle") => `(tactic| skip)
local macro_rules | `(tactic| walk_at "idle") => `(tactic| skip)
local macro_rules | `(tactic| walk_at "idle") => `(tactic| skip)
local macro_rules | `(tactic| walk_at "idle") => `(tactic| skip)
local macro_rules | `(tactic| walk_at "idle") => `(tactic| skip)
local macro_rules | `(tactic| walk_at "idle") => `(tactic| skip)
set_option maxHeartbeats 4000000
local macro_rules | `(tactic| walk_at "execs cons") => `(tactic| (k_here; (with_reducible show wpAny _ _ _ _ _ (Shared.mk _ _ _ (_ + _) _)); refine gen_toks ?_; intro tk))
local macro_rules | `(tactic| walk_at "execs nil") => `(tactic| (k_here; (with_reducible show wpAny _ _ _ _ _ (Shared.mk _ _ _ (_ + _) _)); refine gen_toks ?_; intro tk))
local macro_rules | `(tactic| walk_at "ite") => `(tactic| (k_here; first
  | (refine ite_pos (by (simp only [bne_iff_ne, ne_eq, beq_iff_eq, decide_eq_true_eq, decide_eq_false_iff_not, Bool.and_eq_true, Bool.or_eq_true, Bool.not_eq_true', beq_eq_false_iff_ne, bne_eq_false_iff_eq]; first | done | omega)) ?_; walk_say "BY THE FACTS")
  | (refine ite_neg (by (simp only [bne_iff_ne, ne_eq, beq_iff_eq, decide_eq_true_eq, decide_eq_false_iff_not, Bool.and_eq_true, Bool.or_eq_true, Bool.not_eq_true', beq_eq_false_iff_ne, bne_eq_false_iff_eq]; first | done | omega)) ?_; walk_say "BY THE FACTS")))
local macro_rules | `(tactic| walk_at "call ref") => `(tactic| (k_here; (with_reducible show wpAny _ _ (call (Value.ref 99) _) _ _ _); k_dflt (refine' Ask.use (c_told _ _ _ _ _ ?p1) ?k1 ?k2 ?k3 ?k4 ?k5 ?k6 ?kd ?ku ?_; (case k1 => k_asm); (case k2 => k_asm); (case k3 => k_asm); (case k4 => k_asm); (case k5 => k_asm); (case k6 => first | exact rfl | assumption); (case kd => ktr_room); (case ku => ktr_units); (case p1 => first | assumption | omega); k_whole); intro D9 u1 u2 u3 u4 h9 tk9 F9 N9; (try dsimp only); (try k_fold)))

theorem bits_two : Builtin.Int.intBits 2 = 2 := by decide
theorem pow2I (k : Nat) : (2 : Int) ^ k = ((2 ^ k : Nat) : Int) := by simp
theorem pow2_ne (k : Nat) : (2 : Int) ^ k ≠ 0 := by rw [pow2I]; have := Nat.two_pow_pos k; omega
theorem pylP {x : Int} {k : Nat} (h : k < 9000) : Builtin.divisionGoesByPylong x ((2 : Int) ^ k) = false := by
  rw [pow2I]; exact pyl (by rw [nb_pow]; omega)
theorem fmodP (m j : Nat) : (m : Int).fmod (2 ^ j) = ((m % 2 ^ j : Nat) : Int) := by rw [pow2I]; exact fmodN m (2 ^ j)
local macro_rules | `(tactic| walk_at "binaryOp Pow int int") => `(tactic| (k_here; k_dflt (refine pow_int (by omega) (by first | (rw [bits_two]; omega)) ?_)))
local macro_rules | `(tactic| walk_at "binaryOp FloorDiv int int") => `(tactic| (k_here; k_dflt (refine floordiv_int (pow2_ne _) ?_ (Or.inl (pylP (by omega))))))
local macro_rules | `(tactic| walk_at "binaryOp Mod int int") => `(tactic| (k_here; k_dflt (refine mod_int (pow2_ne _) ?_ (Or.inl (pylP (by omega))))))

def RndMid (g : Heap) (L : Addr) (s : Shared) (news : List (Addr × Obj)) (wy : Way) (Z e cut low rest : Int) (s' : Shared) : Prop :=
  ∃ t1 t2 t3 t4 t5 t6 : Tok, Vars g L s news [(Str.ofString "whole", .int Z t1), (Str.ofString "power", .int e t2), (Str.ofString "way", .str wy.str t3), (Str.ofString "cut", .int cut t4), (Str.ofString "low", .int low t5), (Str.ofString "rest", .int rest t6)] s'
theorem RndMid.intro {g h : Heap} {L : Addr} {s : Shared} {news news' : List (Addr × Obj)} {wy : Way} {Z e cut low rest : Int} {m : Str → Option Value} {tk : Nat} {t1 t2 t3 t4 t5 t6 : Tok}
    (F : Fr g L h m) (N : News g L h news') (hs : ∀ p ∈ news, p ∈ news') (h1 : m (Str.ofString "whole") = some (.int Z t1)) (h2 : m (Str.ofString "power") = some (.int e t2)) (h3 : m (Str.ofString "way") = some (.str wy.str t3)) (h4 : m (Str.ofString "cut") = some (.int cut t4)) (h5 : m (Str.ofString "low") = some (.int low t5)) (h6 : m (Str.ofString "rest") = some (.int rest t6)) :
    RndMid g L s news wy Z e cut low rest { s with heap := h, toks := tk } := ⟨t1, t2, t3, t4, t5, t6, Vars.intro F N hs ⟨h1, h2, h3, h4, h5, h6, trivial⟩⟩
def RndEnd (g : Heap) (L : Addr) (s : Shared) (news : List (Addr × Obj)) (Z e cut low : Int) (s' : Shared) : Prop :=
  ∃ t1 t2 t4 t5 : Tok, Vars g L s news [(Str.ofString "whole", .int Z t1), (Str.ofString "power", .int e t2), (Str.ofString "cut", .int cut t4), (Str.ofString "low", .int low t5)] s'
theorem RndEnd.intro {g h : Heap} {L : Addr} {s : Shared} {news news' : List (Addr × Obj)} {Z e cut low : Int} {m : Str → Option Value} {tk : Nat} {t1 t2 t4 t5 : Tok}
    (F : Fr g L h m) (N : News g L h news') (hs : ∀ p ∈ news, p ∈ news') (h1 : m (Str.ofString "whole") = some (.int Z t1)) (h2 : m (Str.ofString "power") = some (.int e t2)) (h4 : m (Str.ofString "cut") = some (.int cut t4)) (h5 : m (Str.ofString "low") = some (.int low t5)) :
    RndEnd g L s news Z e cut low { s with heap := h, toks := tk } := ⟨t1, t2, t4, t5, Vars.intro F N hs ⟨h1, h2, h4, h5, trivial⟩⟩
def RndOne (g : Heap) (L : Addr) (s : Shared) (news : List (Addr × Obj)) (wy : Way) (Z e P size : Int) (s' : Shared) : Prop :=
  ∃ t1 t2 t3 t4 t5 : Tok, Vars g L s news [(Str.ofString "whole", .int Z t1), (Str.ofString "power", .int e t2), (Str.ofString "way", .str wy.str t3), (Str.ofString "most", .int P t4), (Str.ofString "size", .int size t5)] s'
theorem RndOne.intro {g h : Heap} {L : Addr} {s : Shared} {news news' : List (Addr × Obj)} {wy : Way} {Z e P size : Int} {m : Str → Option Value} {tk : Nat} {t1 t2 t3 t4 t5 : Tok}
    (F : Fr g L h m) (N : News g L h news') (hs : ∀ p ∈ news, p ∈ news') (h1 : m (Str.ofString "whole") = some (.int Z t1)) (h2 : m (Str.ofString "power") = some (.int e t2)) (h3 : m (Str.ofString "way") = some (.str wy.str t3)) (h4 : m (Str.ofString "most") = some (.int P t4)) (h5 : m (Str.ofString "size") = some (.int size t5)) :
    RndOne g L s news wy Z e P size { s with heap := h, toks := tk } := ⟨t1, t2, t3, t4, t5, Vars.intro F N hs ⟨h1, h2, h3, h4, h5, trivial⟩⟩
theorem absI (Z : Int) : (if Z < 0 then -Z else Z) = ((Z.natAbs : Nat) : Int) := by split <;> omega
section
variable {M P k : Nat}
theorem rnd_k0 (h : ((Builtin.Int.intBits (M : Int) : Nat) : Int) - (P : Int) ≤ 0) : nb M - P = 0 := by rw [nb_natCast] at h; omega
theorem rnd_k1 (h : ¬ ((Builtin.Int.intBits (M : Int) : Nat) : Int) - (P : Int) ≤ 0) : 0 < nb M - P := by rw [nb_natCast] at h; omega
theorem rnd_k2 (h : ¬ ((Builtin.Int.intBits (M : Int) : Nat) : Int) - (P : Int) ≤ 0) : ((Builtin.Int.intBits (M : Int) : Nat) : Int) - (P : Int) = ((nb M - P : Nat) : Int) := by rw [nb_natCast] at *; omega
theorem rnd_k3 (h : ¬ ((Builtin.Int.intBits (M : Int) : Nat) : Int) - (P : Int) ≤ 0) : (M : Int).fdiv (2 ^ (((Builtin.Int.intBits (M : Int) : Nat) : Int) - (P : Int)).toNat) = ((M / 2 ^ (nb M - P) : Nat) : Int) := by
  rw [rnd_k2 h, Int.toNat_natCast, fdivN]
theorem rnd_k4 (h : ¬ ((Builtin.Int.intBits (M : Int) : Nat) : Int) - (P : Int) ≤ 0) : (M : Int).fmod (2 ^ (((Builtin.Int.intBits (M : Int) : Nat) : Int) - (P : Int)).toNat) = ((M % 2 ^ (nb M - P) : Nat) : Int) := by
  rw [rnd_k2 h, Int.toNat_natCast, fmodP]
theorem half_facts (hk : 0 < k) : 2 ^ k = 2 * 2 ^ (k - 1) ∧ M % 2 ^ k = M % 2 ^ (k - 1) + 2 ^ (k - 1) * (M / 2 ^ (k - 1) % 2) ∧ M % 2 ^ (k - 1) < 2 ^ (k - 1) := by
  obtain ⟨j, rfl⟩ : ∃ j, k = j + 1 := ⟨k - 1, by omega⟩
  refine ⟨by rw [Nat.pow_succ]; simp; omega, ?_, Nat.mod_lt _ (Nat.two_pow_pos _)⟩
  simp only [Nat.add_sub_cancel, Nat.pow_succ]
  exact Nat.mod_mul
/-- half up as the law says it -/
theorem halfUp_iff (hk : 0 < k) : halfUp M k = true ↔ (2 ^ k < 2 * (M % 2 ^ k) ∨ (2 * (M % 2 ^ k) = 2 ^ k ∧ M / 2 ^ k % 2 = 1)) := by
  obtain ⟨a, b, c⟩ := half_facts (M := M) hk
  unfold halfUp
  rw [Bool.and_eq_true, Bool.or_eq_true, decide_eq_true_iff, decide_eq_true_iff, decide_eq_true_iff]
  have d : M / 2 ^ (k - 1) % 2 = 0 ∨ M / 2 ^ (k - 1) % 2 = 1 := by omega
  generalize M / 2 ^ (k - 1) % 2 = x at *
  generalize M / 2 ^ k % 2 = y at *
  generalize M % 2 ^ (k - 1) = u at *
  generalize M % 2 ^ k = v at *
  generalize 2 ^ (k - 1) = p at *
  generalize 2 ^ k = q at *
  rcases d with d | d <;> subst d <;> simp only [Nat.mul_zero, Nat.mul_one] at b <;> constructor
  · intro h; omega
  · intro h; omega
  · intro h; omega
  · intro h; omega
theorem rl_up {wy : Way} {ng : Bool} (hk : 0 < k) (h : goUp wy ng M k = true) : ((M / 2 ^ k : Nat) : Int) + 1 = ((rnd wy ng M k : Nat) : Int) := by
  rw [rnd_pos (by omega), if_pos h]; omega
theorem rl_dn {wy : Way} {ng : Bool} (hk : 0 < k) (h : ¬ goUp wy ng M k = true) : ((M / 2 ^ k : Nat) : Int) = ((rnd wy ng M k : Nat) : Int) := by
  rw [rnd_pos (by omega), if_neg h]; omega
theorem castP : (2 : Int) ^ ((k : Nat) : Int).toNat = ((2 ^ k : Nat) : Int) := by rw [Int.toNat_natCast, pow2I]
theorem rl_n1 {ng : Bool} (hk : 0 < k) (h : (2 : Int) ^ ((k : Nat) : Int).toNat < 2 * ((M % 2 ^ k : Nat) : Int)) : ((M / 2 ^ k : Nat) : Int) + 1 = ((rnd .n ng M k : Nat) : Int) :=
  rl_up hk ((halfUp_iff hk).mpr (.inl (by rw [castP] at h; omega)))
theorem rl_n2 {ng : Bool} (hk : 0 < k) (h : 2 * ((M % 2 ^ k : Nat) : Int) = (2 : Int) ^ ((k : Nat) : Int).toNat) (h2 : ((M / 2 ^ k : Nat) : Int).fmod 2 = 1) : ((M / 2 ^ k : Nat) : Int) + 1 = ((rnd .n ng M k : Nat) : Int) :=
  rl_up hk ((halfUp_iff hk).mpr (.inr ⟨by rw [castP] at h; omega, by rw [fmod2N] at h2; omega⟩))
theorem rl_n3 {ng : Bool} (hk : 0 < k) (h : ¬ (2 : Int) ^ ((k : Nat) : Int).toNat < 2 * ((M % 2 ^ k : Nat) : Int)) (h2 : ((M / 2 ^ k : Nat) : Int).fmod 2 ≠ 1) : ((M / 2 ^ k : Nat) : Int) = ((rnd .n ng M k : Nat) : Int) :=
  rl_dn hk (fun h3 => (((halfUp_iff hk).mp h3).elim (fun h4 => by rw [castP] at h; omega) (fun h4 => by rw [fmod2N] at h2; omega)))
theorem rl_n4 {ng : Bool} (hk : 0 < k) (h : ¬ (2 : Int) ^ ((k : Nat) : Int).toNat < 2 * ((M % 2 ^ k : Nat) : Int)) (h2 : 2 * ((M % 2 ^ k : Nat) : Int) ≠ (2 : Int) ^ ((k : Nat) : Int).toNat) : ((M / 2 ^ k : Nat) : Int) = ((rnd .n ng M k : Nat) : Int) :=
  rl_dn hk (fun h3 => (((halfUp_iff hk).mp h3).elim (fun h4 => by rw [castP] at h; omega) (fun h4 => by rw [castP] at h2; omega)))
theorem rl_0 {wy : Way} {ng : Bool} (hn : wy ≠ .n) (hk : 0 < k) (h : ¬ (0 : Int) < ((M % 2 ^ k : Nat) : Int)) : ((M / 2 ^ k : Nat) : Int) = ((rnd wy ng M k : Nat) : Int) := by
  refine rl_dn hk ?_
  rw [goUp_ne hn, decide_eq_false (by omega)]; simp
theorem rl_out {wy : Way} {ng : Bool} (hn : wy ≠ .n) (hk : 0 < k) (ho : wy.out ng = true) (h : (0 : Int) < ((M % 2 ^ k : Nat) : Int)) : ((M / 2 ^ k : Nat) : Int) + 1 = ((rnd wy ng M k : Nat) : Int) := by
  refine rl_up hk ?_
  rw [goUp_ne hn, ho, decide_eq_true (by omega)]; rfl
theorem rl_in {wy : Way} {ng : Bool} (hn : wy ≠ .n) (hk : 0 < k) (ho : wy.out ng = false) : ((M / 2 ^ k : Nat) : Int) = ((rnd wy ng M k : Nat) : Int) := by
  refine rl_dn hk ?_
  rw [goUp_ne hn, ho]; simp
theorem rl_c1 {Z : Int} (h : ¬ Z < 0) : (!decide (Z < 0)) = true := by rw [decide_eq_false h]; rfl
theorem rl_c0 {Z : Int} (h : Z < 0) : (!decide (Z < 0)) = false := by rw [decide_eq_true h]; rfl
end
section
variable {Z e : Int} {r k : Nat}
theorem rl_e1 (h : Z < 0) (hr : r ≠ 0) : (((told (sI (decide (-(r : Int) < 0))) (-(r : Int)).natAbs (e + (k : Int))).1, (told (sI (decide (-(r : Int) < 0))) (-(r : Int)).natAbs (e + (k : Int))).2.1, (told (sI (decide (-(r : Int) < 0))) (-(r : Int)).natAbs (e + (k : Int))).2.2.1, (told (sI (decide (-(r : Int) < 0))) (-(r : Int)).natAbs (e + (k : Int))).2.2.2) : Int × Int × Int × Int) = told (sI (decide (Z < 0))) r (e + (k : Int)) := by
  rw [decide_eq_true h, decide_eq_true (show -(r : Int) < 0 by omega), show (-(r : Int)).natAbs = r by omega]
theorem rl_e2 (h : ¬ Z < 0) : (((told (sI (decide ((r : Int) < 0))) (r : Int).natAbs (e + (k : Int))).1, (told (sI (decide ((r : Int) < 0))) (r : Int).natAbs (e + (k : Int))).2.1, (told (sI (decide ((r : Int) < 0))) (r : Int).natAbs (e + (k : Int))).2.2.1, (told (sI (decide ((r : Int) < 0))) (r : Int).natAbs (e + (k : Int))).2.2.2) : Int × Int × Int × Int) = told (sI (decide (Z < 0))) r (e + (k : Int)) := by
  rw [decide_eq_false h, decide_eq_false (show ¬ (r : Int) < 0 by omega), show (r : Int).natAbs = r by omega]
end
theorem c_rounded (w : World) (wy : Way) (Z e : Int) (P : Nat) (t1 t2 t3 t4 : Tok) (hZ : Z ≠ 0) (hbig : nb Z.natAbs ≤ 9000) (hP : 1 ≤ P) :
    Ask w 106 4 [.int Z t1, .int e t2, .int (P : Int) t3, .str wy.str t4] (RetT (told (sI (decide (Z < 0))) (rnd wy (decide (Z < 0)) Z.natAbs (nb Z.natAbs - P)) (e + ((nb Z.natAbs - P : Nat) : Int)))) := by
  unfold Ask
  k_fill
  intro p loose mean mg mb dp un gd cn cs a ccd cl outer A₀ base h₀ L m news s Q E B F X N T hk hd hu hret
  refine wpAny_call ?_
  k_dflt (refine' code_def ?k1 ?k2 ?k3 ?k4 ?k5 ?kA ?kF ?kK ?k6 ?k7 ?k8 ?k9 ?kB ?_ ?c2 ?c3 ?c4 ?c5; (case kA => exact rfl); (case kF => exact rfl); (case kK => assumption); (case k1 => k_asm); (case k2 => k_asm); (case k3 => k_asm); (case k4 => k_asm); (case k5 => k_asm); (case k6 => k_is); (case k7 => k_is); (case k8 => ktr_room); (case k9 => first | exact BindsTo.of_eq rfl | exact binds_K (by k_in) rfl (by k_is) rfl rfl rfl); (case c5 => decide); (case kB => exact locs rfl); (case c2 => exact rfl); (case c3 => exact rfl); (case c4 => exact rfl); k_whole; intro g L1 h1 FG F1 N1 B1 X1 T1; (try dsimp only); (try k_fold))
  refine wpAny_noRaise ?_
  refine cut 1 (RndOne g L1 s news wy Z e P (Z.natAbs : Nat)) ?_ ?_
  · dsimp only [List.take]
    clear hret
    k_steps
    (show RndOne _ _ _ _ _ _ _ _ _ _)
    refine' RndOne.intro ?F ?N (fun _ h => h) ?a ?b ?c ?d ?e
    case F => assumption
    case N => assumption
    case a => exact rfl
    case b => exact rfl
    case c => exact rfl
    case d => exact rfl
    case e => exact eqI (absI Z)
  dsimp only [List.drop]
  rintro s1 ⟨u1, u2, u3, u4, u5, h, tk, m, rfl, F2, N2⟩
  dsimp only [over] at F2
  clear F1 N1
  have hM : Z.natAbs ≠ 0 := by omega
  generalize hMd : Z.natAbs = M at *
  have hnb : Builtin.Int.intBits (M : Int) = nb M := rfl
  refine cut 3 (fun s' => 0 < nb M - P ∧ RndMid g L1 s news wy Z e (nb M - P : Nat) (M / 2 ^ (nb M - P) : Nat) (M % 2 ^ (nb M - P) : Nat) s') ?_ ?_
  · dsimp only [List.take]
    k_steps
    · refine' endT hret ?F ?N (fun _ h => h) ?E
      case F => assumption
      case N => assumption
      case E =>
        rw [hMd, show nb M - P = 0 from rnd_k0 (by assumption), rnd_zero]; simp
    · (show RndMid _ _ _ _ _ _ _ _ _ _ _)
      refine' RndMid.intro ?F ?N ?h ?a ?b ?c ?d ?e ?f
      case F => assumption
      case N => assumption
      case h => exact (fun _ h => List.Mem.tail _ h)
      case a => exact rfl
      case b => exact rfl
      case c => exact rfl
      case d => exact eqI (rnd_k2 (by assumption))
      case e => exact eqI (rnd_k3 (by assumption))
      case f => exact eqI (rnd_k4 (by assumption))
  · dsimp only [List.drop]
    rintro s1 ⟨hk, u1, u2, u3, u4, u5, u6, h, tk, m, rfl, F2, N2⟩
    dsimp only [over] at F2
    refine cut 3 (RndEnd g L1 s news Z e (nb M - P : Nat) (rnd wy (decide (Z < 0)) M (nb M - P) : Nat)) ?_ ?_
    · dsimp only [List.take]
      clear hret
      have hk' : ((nb M - P : Nat) : Int).toNat = nb M - P := Int.toNat_natCast _
      cases wy <;> dsimp only [Way.str] at F2
      all_goals k_steps
      all_goals first
        | ((show RndEnd _ _ _ _ _ _ _ _ _)
           refine' RndEnd.intro ?F ?N (fun _ h => h) ?a ?b ?c ?d
           case F => assumption
           case N => assumption
           case a => exact rfl
           case b => exact rfl
           case c => exact rfl
           case d => (refine eqI ?_; first
             | exact rl_n1 hk (by assumption)
             | exact rl_n2 hk (by assumption) (by assumption)
             | exact rl_n3 hk (by assumption) (by assumption)
             | exact rl_n4 hk (by assumption) (by assumption)
             | exact rl_0 (fun h => nomatch h) hk (by assumption)
             | exact rl_out (fun h => nomatch h) hk rfl (by assumption)
             | exact rl_in (fun h => nomatch h) hk rfl
             | exact rl_out (fun h => nomatch h) hk (decide_eq_true (by omega)) (by assumption)
             | exact rl_in (fun h => nomatch h) hk (decide_eq_false (by omega))
             | exact rl_out (fun h => nomatch h) hk (rl_c1 (by omega)) (by assumption)
             | exact rl_in (fun h => nomatch h) hk (rl_c0 (by omega))))
    · dsimp only [List.drop]
      rintro s' ⟨u1, u2, u3, u4, h, tk, m, rfl, F2, N2⟩
      dsimp only [over] at F2
      have hr := (rnd_size (wy := wy) (ng := decide (Z < 0)) (M := M) (P := P) hM hP).1
      generalize rnd wy (decide (Z < 0)) M (nb M - P) = r at *
      k_steps
      all_goals (
        refine' endT hret ?F ?N (fun _ h => h) ?E
        case F => assumption
        case N => assumption
        case E => first | exact rl_e1 (by assumption) hr | exact rl_e2 (by assumption))
end

section
theorem partC6 : True := by w_top off; trivial
local macro_rules | `(tactic| walk_at "idle") => `(tactic| skip)
local macro_rules | `(tactic| walk_at "idle") => `(tactic| skip)
local macro_rules | `(tactic| walk_at "idle") => `(tactic| skip)
local macro_rules | `(tactic| walk_at "idle") => `(tactic| skip)
local macro_rules | `(tactic| walk_at "idle") => `(tactic| skip)
local macro_rules | `(tactic| walk_at "idle") => `(tactic| skip)
local macro_rules | `(tactic| walk_at "idle") => `(tactic| skip)
local macro_rules | `(tactic| walk_at "idle") => `(tactic| skip)
local macro_rules | `(tactic| walk_at "idle") => `(tactic| skip)
local macro_rules | `(tactic| walk_at "idle") => `(tactic| skip)
local macro_rules | `(tactic| walk_at "idle") => `(tactic| skip)
local macro_rules | `(tactic| walk_at "idle") => `(tactic| skip)
local macro_rules | `(tactic| walk_at "idle") => `(tactic| skip)
local macro_rules | `(tactic| walk_at "idle") => `(tactic| skip)
local macro_rules | `(tactic| walk_at "idle") => `(tactic| skip)
local macro_rules | `(tactic| walk_at "idle") => `(tactic| skip)
local macro_rules | `(tactic| walk_at "idle") => `(tactic| skip)
local macro_rules | `(tactic| walk_at "idle") => `(tactic| skip)
local macro_rules | `(tactic| walk_at "idle") => `(tactic| skip)
local macro_rules | `(tactic| walk_at "idle") => `(tactic| skip)
local macro_rules | `(tactic| walk_at "idle") => `(tactic| skip)
local macro_rules | `(tactic| walk_at "idle") => `(tactic| skip)
local macro_rules | `(tactic| walk_at "idle") => `(tactic| skip)
local macro_rules | `(tactic| walk_at "idle") => `(tactic| skip)
local macro_rules | `(tactic| walk_at "idle") => `(tactic| skip)
local macro_rules | `(tactic| walk_at "idle") => `(tactic| skip)
local macro_rules | `(tactic| walk_at "idle") => `(tactic| skip)
local macro_rules | `(tactic| walk_at "idle") => `(tactic| skip)
local macro_rules | `(tactic| walk_at "idle") => `(tactic| skip)
local macro_rules | `(tactic| walk_at "idle") => `(tactic| skip)
set_option maxHeartbeats 4000000
local macro_rules | `(tactic| walk_at "execs cons") => `(tactic| (k_here; (with_reducible show wpAny _ _ _ _ _ (Shared.mk _ _ _ (_ + _) _)); refine gen_toks ?_; intro tk))
local macro_rules | `(tactic| walk_at "execs nil") => `(tactic| (k_here; (with_reducible show wpAny _ _ _ _ _ (Shared.mk _ _ _ (_ + _) _)); refine gen_toks ?_; intro tk))
local macro_rules | `(tactic| walk_at "ite") => `(tactic| (k_here; first
  | (refine ite_pos (by (simp only [bne_iff_ne, ne_eq, beq_iff_eq, decide_eq_true_eq, decide_eq_false_iff_not, Bool.and_eq_true, Bool.or_eq_true, Bool.not_eq_true', beq_eq_false_iff_ne, bne_eq_false_iff_eq]; first | done | omega)) ?_; walk_say "BY THE FACTS")
  | (refine ite_neg (by (simp only [bne_iff_ne, ne_eq, beq_iff_eq, decide_eq_true_eq, decide_eq_false_iff_not, Bool.and_eq_true, Bool.or_eq_true, Bool.not_eq_true', beq_eq_false_iff_ne, bne_eq_false_iff_eq]; first | done | omega)) ?_; walk_say "BY THE FACTS")))

theorem bitsN {n m : Nat} (h : nb n ≤ m) : Builtin.Int.intBits (n : Int) ≤ m := h
theorem bitsP {k m : Nat} (h : k < m) : Builtin.Int.intBits ((2 : Int) ^ k) ≤ m := by rw [pow2I]; exact bits_cast (Nat.pow_lt_pow_right (by decide) h)
theorem bitsS {k m : Nat} (h : k + 4 < m) : Builtin.Int.intBits ((2 : Int) ^ k - 4) ≤ m := by
  have h1 : Builtin.Int.intBits ((2 : Int) ^ k) ≤ k + 1 := bitsP (by omega)
  have h2 : Builtin.Int.intBits (4 : Int) ≤ 3 := by decide
  have := intBits_sub_le h1 h2
  omega
theorem bitsA {k m : Nat} (h : k + 4 < m) : Builtin.Int.intBits ((2 : Int) ^ k + 4) ≤ m := by
  have h1 : Builtin.Int.intBits ((2 : Int) ^ k) ≤ k + 1 := bitsP (by omega)
  have h2 : Builtin.Int.intBits (4 : Int) ≤ 3 := by decide
  have := intBits_add_le h1 h2
  omega
local macro_rules | `(tactic| walk_at "binaryOp Mult int int") => `(tactic| (k_here; k_dflt (refine mul_int (hm := IntMulOk.of_le (m := 1000000) (n := 1000000) (by first | with_reducible exact bitsN (by omega) | with_reducible exact bitsP (by omega) | with_reducible exact bitsS (by omega) | with_reducible exact bitsA (by omega)) (by first | with_reducible exact bitsN (by omega) | with_reducible exact bitsP (by omega) | with_reducible exact bitsS (by omega) | with_reducible exact bitsA (by omega)) (by decide)) ?_)))
local macro_rules | `(tactic| walk_at "binaryOp Pow int int") => `(tactic| (k_here; k_dflt (refine pow_int (by omega) (by first | (rw [bits_two]; omega)) ?_)))
def NearA (g : Heap) (L : Addr) (s : Shared) (news : List (Addr × Obj)) (wy : Way) (side pw left right P : Int) (s' : Shared) : Prop :=
  ∃ t1 t2 t3 t4 t5 t6 : Tok, Vars g L s news [(Str.ofString "side", .int side t1), (Str.ofString "power", .int pw t2), (Str.ofString "left", .int left t3), (Str.ofString "right", .int right t4), (Str.ofString "most", .int P t5), (Str.ofString "way", .str wy.str t6)] s'
theorem NearA.intro {g h : Heap} {L : Addr} {s : Shared} {news news' : List (Addr × Obj)} {wy : Way} {side pw left right P : Int} {m : Str → Option Value} {tk : Nat} {t1 t2 t3 t4 t5 t6 : Tok}
    (F : Fr g L h m) (N : News g L h news') (hs : ∀ p ∈ news, p ∈ news') (h1 : m (Str.ofString "side") = some (.int side t1)) (h2 : m (Str.ofString "power") = some (.int pw t2)) (h3 : m (Str.ofString "left") = some (.int left t3)) (h4 : m (Str.ofString "right") = some (.int right t4)) (h5 : m (Str.ofString "most") = some (.int P t5)) (h6 : m (Str.ofString "way") = some (.str wy.str t6)) :
    NearA g L s news wy side pw left right P { s with heap := h, toks := tk } := ⟨t1, t2, t3, t4, t5, t6, Vars.intro F N hs ⟨h1, h2, h3, h4, h5, h6, trivial⟩⟩
def NearB (g : Heap) (L : Addr) (s : Shared) (news : List (Addr × Obj)) (wy : Way) (side left right P : Int) (s' : Shared) : Prop :=
  ∃ t1 t2 t3 t4 t5 : Tok, Vars g L s news [(Str.ofString "side", .int side t1), (Str.ofString "left", .int left t2), (Str.ofString "right", .int right t3), (Str.ofString "most", .int P t4), (Str.ofString "way", .str wy.str t5)] s'
theorem NearB.intro {g h : Heap} {L : Addr} {s : Shared} {news news' : List (Addr × Obj)} {wy : Way} {side left right P : Int} {m : Str → Option Value} {tk : Nat} {t1 t2 t3 t4 t5 : Tok}
    (F : Fr g L h m) (N : News g L h news') (hs : ∀ p ∈ news, p ∈ news') (h1 : m (Str.ofString "side") = some (.int side t1)) (h2 : m (Str.ofString "left") = some (.int left t2)) (h3 : m (Str.ofString "right") = some (.int right t3)) (h4 : m (Str.ofString "most") = some (.int P t4)) (h5 : m (Str.ofString "way") = some (.str wy.str t5)) :
    NearB g L s news wy side left right P { s with heap := h, toks := tk } := ⟨t1, t2, t3, t4, t5, Vars.intro F N hs ⟨h1, h2, h3, h4, h5, trivial⟩⟩

def nearL (S Bl : Nat) (pw : Int) : Nat := if pw > 0 then S * Bl * 2 ^ pw.toNat else S * Bl
def nearR (Ab : Nat) (pw : Int) : Nat := if pw > 0 then Ab else Ab * 2 ^ (-pw).toNat
/-- what the law asks of the answer: the value against the exact one -/
structure Near (wy : Way) (ng : Bool) (L R P : Nat) : Prop where
  lo : (R : Int) * (2 ^ P - 4) ≤ (L : Int) * 2 ^ P
  hi : (L : Int) * 2 ^ P ≤ (R : Int) * (2 ^ P + 4)
  inn : wy ≠ .n → wy.out ng = false → L ≤ R
  out : wy.out ng = true → R ≤ L
theorem nb_mul_le (a b : Nat) : nb (a * b) ≤ nb a + nb b := by
  have := intBits_mul_le (Nat.le_refl (Builtin.Int.intBits (a : Int))) (Nat.le_refl (Builtin.Int.intBits (b : Int)))
  rw [← Int.natCast_mul] at this; exact this
section
variable {S Bl Ab : Nat} {pw : Int}
theorem nl1 (h : 0 < pw) : ((S * Bl : Nat) : Int) * 2 ^ pw.toNat = ((nearL S Bl pw : Nat) : Int) := by
  unfold nearL; rw [if_pos h, pow2I, ← Int.natCast_mul]
theorem nl2 (h : ¬ 0 < pw) : ((S * Bl : Nat) : Int) = ((nearL S Bl pw : Nat) : Int) := by
  unfold nearL; rw [if_neg h]
theorem nl3 (h : 0 < pw) : (Ab : Int) = ((nearR Ab pw : Nat) : Int) := by
  unfold nearR; rw [if_pos h]
theorem nl4 (h : ¬ 0 < pw) : (Ab : Int) * 2 ^ (-pw).toNat = ((nearR Ab pw : Nat) : Int) := by
  unfold nearR; rw [if_neg h, pow2I, ← Int.natCast_mul]
theorem nb_mul_pow_le (n k : Nat) : nb (n * 2 ^ k) ≤ nb n + k := by
  by_cases h : n = 0
  · subst h; rw [Nat.zero_mul, nb_zero]; omega
  · exact Nat.le_of_eq (nb_mul_pow h k)
theorem nb_nearL (h : nb (S * Bl) ≤ 25000) (h2 : pw ≤ 20000) : nb (nearL S Bl pw) ≤ 50000 := by
  unfold nearL
  split
  · have := nb_mul_pow_le (S * Bl) pw.toNat; omega
  · omega
theorem nb_nearR (h : nb Ab ≤ 20000) (h2 : -20000 ≤ pw) : nb (nearR Ab pw) ≤ 50000 := by
  unfold nearR
  split
  · omega
  · have := nb_mul_pow_le Ab (-pw).toNat; omega
end
theorem c_near (w : World) (wy : Way) (ng : Bool) (D : Addr) (S Ab Bl P : Nat) (pw : Int) (t2 t3 t4 t5 : Tok) (hS : S % 2 = 1) (hSP : nb S ≤ P) (hP : P ≤ 1000) (hA : nb Ab ≤ 20000) (hB : nb Bl ≤ 20000) (hp1 : pw ≤ 20000) (hp2 : -20000 ≤ pw)
    (hN : Near wy ng (nearL S Bl pw) (nearR Ab pw) P) :
    Ask w 113 2 [.ref D, .int (Ab : Int) t2, .int (Bl : Int) t3, .int (P : Int) t4, .str wy.str t5] (fun h₀ L m news s Q => (∃ v1 v2 v3 v4 : Tok, (D, tup4 (sI ng) (S : Int) pw (nb S : Int) v1 v2 v3 v4) ∈ news) ∧ RetB true h₀ L m news s Q) := by
  unfold Ask
  k_fill
  intro p loose mean mg mb dp un gd cn cs a ccd cl outer A₀ base h₀ L m news s Q E B F X N T hk hd hu hret
  obtain ⟨⟨v1, v2, v3, v4, hD⟩, hret⟩ := hret
  refine wpAny_call ?_
  k_dflt (refine' code_def ?k1 ?k2 ?k3 ?k4 ?k5 ?kA ?kF ?kK ?k6 ?k7 ?k8 ?k9 ?kB ?_ ?c2 ?c3 ?c4 ?c5; (case kA => exact rfl); (case kF => exact rfl); (case kK => assumption); (case k1 => k_asm); (case k2 => k_asm); (case k3 => k_asm); (case k4 => k_asm); (case k5 => k_asm); (case k6 => k_is); (case k7 => k_is); (case k8 => ktr_room); (case k9 => first | exact BindsTo.of_eq rfl | exact binds_K (by k_in) rfl (by k_is) rfl rfl rfl); (case c5 => decide); (case kB => exact locs rfl); (case c2 => exact rfl); (case c3 => exact rfl); (case c4 => exact rfl); k_whole; intro g L1 h1 FG F1 N1 B1 X1 T1; (try dsimp only); (try k_fold))
  refine wpAny_noRaise ?_
  have hnb : Builtin.Int.intBits (S : Int) = nb S := rfl
  have hodd : ((S : Nat) : Int).fmod 2 ≠ 0 := by rw [fmod2N]; omega
  refine cut 3 (NearA g L1 s news wy (sI ng) pw (S * Bl : Nat) Ab P) ?_ ?_
  · dsimp only [List.take]
    clear hret
    k_steps
    all_goals (
      (show NearA _ _ _ _ _ _ _ _ _ _ _)
      refine' NearA.intro ?F ?N ?h ?a ?b ?c ?d ?e ?f
      case F => assumption
      case N => assumption
      case h => exact (fun _ h => List.Mem.tail _ h)
      case a => exact rfl
      case b => exact rfl
      case c => exact eqI (Int.natCast_mul S Bl).symm
      case d => exact rfl
      case e => exact rfl
      case f => exact rfl)
  dsimp only [List.drop]
  rintro s1 ⟨u1, u2, u3, u4, u5, u6, h, tk, m, rfl, F2, N2⟩
  dsimp only [over] at F2
  clear F1 N1 hD
  have hb0 : nb (S * Bl) ≤ 25000 := by have := nb_mul_le S Bl; omega
  refine cut 1 (NearB g L1 s news wy (sI ng) (nearL S Bl pw : Nat) (nearR Ab pw : Nat) P) ?_ ?_
  · dsimp only [List.take]
    clear hret
    k_steps
    all_goals (
      (show NearB _ _ _ _ _ _ _ _ _ _)
      refine' NearB.intro ?F ?N (fun _ h => h) ?a ?c ?d ?e ?f
      case F => assumption
      case N => assumption
      case a => exact rfl
      case c => (refine eqI ?_; first | exact nl1 (by assumption) | exact nl2 (by assumption))
      case d => (refine eqI ?_; first | exact nl3 (by assumption) | exact nl4 (by assumption))
      case e => exact rfl
      case f => exact rfl)
  dsimp only [List.drop]
  rintro s1 ⟨u1, u2, u3, u4, u5, h, tk, m, rfl, F2, N2⟩
  dsimp only [over] at F2
  have hbL := nb_nearL (pw := pw) (S := S) (Bl := Bl) hb0 hp1
  have hbR := nb_nearR (pw := pw) (Ab := Ab) hA hp2
  generalize nearL S Bl pw = Lv at *
  generalize nearR Ab pw = Rv at *
  have hlo : (Rv : Int) * (2 ^ ((P : Nat) : Int).toNat - 4) ≤ (Lv : Int) * 2 ^ ((P : Nat) : Int).toNat := by rw [Int.toNat_natCast]; exact hN.lo
  have hhi : (Lv : Int) * 2 ^ ((P : Nat) : Int).toNat ≤ (Rv : Int) * (2 ^ ((P : Nat) : Int).toNat + 4) := by rw [Int.toNat_natCast]; exact hN.hi
  have hin := hN.inn
  have hout := hN.out
  clear hN
  cases wy <;> cases ng <;> dsimp only [Way.str, sI] at F2
  all_goals k_steps
  all_goals (
    refine' endB hret ?F ?N (fun _ h => h) ?E
    case F => assumption
    case N => assumption
    case E => first
      | exact rfl
      | exact decide_eq_true (Int.ofNat_le.mpr (hin (fun h => nomatch h) rfl))
      | exact decide_eq_true (Int.ofNat_le.mpr (hout rfl)))
end

section
theorem partC7 : True := by w_top off; trivial
local macro_rules | `(tactic| walk_at "idle") => `(tactic| skip)
local macro_rules | `(tactic| walk_at "idle") => `(tactic| skip)
local macro_rules | `(tactic| walk_at "idle") => `(tactic| skip)
local macro_rules | `(tactic| walk_at "idle") => `(tactic| skip)
local macro_rules | `(tactic| walk_at "idle") => `(tactic| skip)
local macro_rules | `(tactic| walk_at "idle") => `(tactic| skip)
local macro_rules | `(tactic| walk_at "idle") => `(tactic| skip)
local macro_rules | `(tactic| walk_at "idle") => `(tactic| skip)
local macro_rules | `(tactic| walk_at "idle") => `(tactic| skip)
local macro_rules | `(tactic| walk_at "idle") => `(tactic| skip)
local macro_rules | `(tactic| walk_at "idle") => `(tactic| skip)
local macro_rules | `(tactic| walk_at "idle") => `(tactic| skip)
local macro_rules | `(tactic| walk_at "idle") => `(tactic| skip)
local macro_rules | `(tactic| walk_at "idle") => `(tactic| skip)
local macro_rules | `(tactic| walk_at "idle") => `(tactic| skip)
local macro_rules | `(tactic| walk_at "idle") => `(tactic| skip)
local macro_rules | `(tactic| walk_at "idle") => `(tactic| skip)
local macro_rules | `(tactic| walk_at "idle") => `(tactic| skip)
local macro_rules | `(tactic| walk_at "idle") => `(tactic| skip)
local macro_rules | `(tactic| walk_at "idle") => `(tactic| skip)
local macro_rules | `(tactic| walk_at "idle") => `(tactic| skip)
local macro_rules | `(tactic| walk_at "idle") => `(tactic| skip)
local macro_rules | `(tactic| walk_at "idle") => `(tactic| skip)
local macro_rules | `(tactic| walk_at "idle") => `(tactic| skip)
local macro_rules | `(tactic| walk_at "idle") => `(tactic| skip)
local macro_rules | `(tactic| walk_at "idle") => `(tactic| skip)
local macro_rules | `(tactic| walk_at "idle") => `(tactic| skip)
local macro_rules | `(tactic| walk_at "idle") => `(tactic| skip)
local macro_rules | `(tactic| walk_at "idle") => `(tactic| skip)
local macro_rules | `(tactic| walk_at "idle") => `(tactic| skip)
local macro_rules | `(tactic| walk_at "idle") => `(tactic| skip)
local macro_rules | `(tactic| walk_at "idle") => `(tactic| skip)
local macro_rules | `(tactic| walk_at "idle") => `(tactic| skip)
local macro_rules | `(tactic| walk_at "idle") => `(tactic| skip)
local macro_rules | `(tactic| walk_at "idle") => `(tactic| skip)
local macro_rules | `(tactic| walk_at "idle") => `(tactic| skip)
set_option maxHeartbeats 4000000
local macro_rules | `(tactic| walk_at "execs cons") => `(tactic| (k_here; (with_reducible show wpAny _ _ _ _ _ (Shared.mk _ _ _ (_ + _) _)); refine gen_toks ?_; intro tk))
local macro_rules | `(tactic| walk_at "execs nil") => `(tactic| (k_here; (with_reducible show wpAny _ _ _ _ _ (Shared.mk _ _ _ (_ + _) _)); refine gen_toks ?_; intro tk))
local macro_rules | `(tactic| walk_at "ite") => `(tactic| (k_here; first
  | (refine ite_pos (by (simp only [bne_iff_ne, ne_eq, beq_iff_eq, decide_eq_true_eq, decide_eq_false_iff_not, Bool.and_eq_true, Bool.or_eq_true, Bool.not_eq_true', beq_eq_false_iff_ne, bne_eq_false_iff_eq]; first | done | omega)) ?_; walk_say "BY THE FACTS")
  | (refine ite_neg (by (simp only [bne_iff_ne, ne_eq, beq_iff_eq, decide_eq_true_eq, decide_eq_false_iff_not, Bool.and_eq_true, Bool.or_eq_true, Bool.not_eq_true', beq_eq_false_iff_ne, bne_eq_false_iff_eq]; first | done | omega)) ?_; walk_say "BY THE FACTS")))

theorem sI0 : (0 : Int) = sI false := rfl
theorem powN {M k : Nat} : (M : Int) ^ ((k : Nat) : Int).toNat = ((M ^ k : Nat) : Int) := by rw [Int.toNat_natCast]; simp
theorem sqN {M : Nat} : (M : Int) * (M : Int) = ((M ^ 2 : Nat) : Int) := by rw [← Int.natCast_mul, Nat.pow_two]
theorem bits_powN {M k : Nat} : ((Builtin.Int.intBits ((M : Int) ^ ((k : Nat) : Int).toNat) : Nat) : Int) = ((nb (M ^ k) : Nat) : Int) := by rw [powN]; rfl
theorem and_sI {ng : Bool} {k : Nat} : Builtin.bitAnd (sI ng) (k : Int) = sI (ng && decide (k % 2 = 1)) := by
  cases ng
  · rw [bitAnd_comm]; exact bitAnd_zero _
  · rw [bitAnd_comm]
    show Builtin.bitAnd (k : Int) 1 = _
    rw [and1N]
    by_cases h : k % 2 = 1
    · rw [decide_eq_true h, h]; rfl
    · rw [decide_eq_false h, show k % 2 = 0 from by omega]; rfl
theorem nb_mul_ge {a b : Nat} (ha : a ≠ 0) (hb : b ≠ 0) : nb a + nb b - 1 ≤ nb (a * b) := by
  have h1 := nb_pos ha
  have h2 := nb_pos hb
  have : nb a + nb b - 2 < nb (a * b) := lt_nb.mpr (by
    rw [show nb a + nb b - 2 = (nb a - 1) + (nb b - 1) from by omega, Nat.pow_add]
    exact Nat.mul_le_mul (pow_nb_le ha) (pow_nb_le hb))
  omega
theorem bits_mulN {a b : Nat} {x : Int} (ha : a ≠ 0) (hb : b ≠ 0) (hx : x = ((nb a + nb b - 2 : Nat) : Int)) : x + ((Builtin.Int.intBits (((a * b : Nat) : Int).fdiv (2 ^ x.toNat)) : Nat) : Int) = ((nb (a * b) : Nat) : Int) := by
  have h1 := nb_pos ha
  have h2 := nb_pos hb
  have h3 := nb_mul_ge ha hb
  subst hx
  rw [Int.toNat_natCast, fdivN, nb_natCast, nb_div_pow]
  omega
theorem bits_sq {M : Nat} (hM : M ≠ 0) : (nb M : Int) + (nb M : Int) - 2 + ((Builtin.Int.intBits (((M : Int) * (M : Int)).fdiv (2 ^ ((nb M : Int) + (nb M : Int) - 2).toNat)) : Nat) : Int) = ((nb (M ^ 2) : Nat) : Int) := by
  have h1 := nb_pos hM
  rw [Nat.pow_two, ← bits_mulN hM hM (x := (nb M : Int) + (nb M : Int) - 2) (by omega), Int.natCast_mul]
theorem bitsI {x : Int} {m : Nat} (h1 : -9223372036854775807 ≤ x) (h2 : x ≤ 9223372036854775807) (hm : 64 ≤ m) : Builtin.Int.intBits x ≤ m := Nat.le_trans (intBits_le_64 (by omega) (by omega)) hm
theorem nb_pow_le {M k : Nat} (hk : 1 ≤ k) : nb (M ^ k) ≤ nb M * k := by
  rw [nb_le, Nat.pow_mul]
  exact Nat.pow_lt_pow_left (nb_lt_pow M) (by omega)
local macro_rules | `(tactic| walk_at "binaryOp Mult int int") => `(tactic| (k_here; k_dflt (refine mul_int (hm := IntMulOk.of_le (m := 1000000) (n := 1000000) (by first | with_reducible exact bitsN (by omega) | exact bitsI (by omega) (by omega) (by decide)) (by first | with_reducible exact bitsN (by omega) | exact bitsI (by omega) (by omega) (by decide)) (by decide)) ?_)))
local macro_rules | `(tactic| walk_at "inplaceOp Pow int int") => `(tactic| (k_here; k_dflt (refine ipow_int (by omega) (by assumption) ?_)))
local macro_rules | `(tactic| walk_at "call ref") => `(tactic| (k_here; (with_reducible show wpAny _ _ (call (Value.ref 45) _) _ _ _); k_dflt (refine' Ask.use (c_normE _ _ _ _ _ _ _ _ _ _ _ _ _ _ _ _ ?p1 ?p2 ?p3 ?p4 ?p5 ?p6 ?p7) ?k1 ?k2 ?k3 ?k4 ?k5 ?k6 ?kd ?ku ?_; (case k1 => k_asm); (case k2 => k_asm); (case k3 => k_asm); (case k4 => k_asm); (case k5 => k_asm); (case k6 => first | exact rfl | assumption); (case kd => ktr_room); (case ku => ktr_units); (case p2 => first | with_reducible exact powN | with_reducible exact sqN | with_reducible exact rfl); (case p1 => first | with_reducible exact and_sI | exact sI0 | with_reducible exact rfl); (case p3 => first | with_reducible exact bits_powN | exact bits_sq (by assumption) | assumption); (case p4 => exact rfl); (case p5 => assumption); (case p6 => assumption); (case p7 => assumption); k_whole); intro D9 u1 u2 u3 u4 h9 tk9 F9 N9; (try dsimp only); (try k_fold); dsimp only [told] at N9))
local macro_rules | `(tactic| walk_at "call ref") => `(tactic| (k_here; (with_reducible show wpAny _ _ (call (Value.ref 61) _) _ _ _); k_dflt (refine' Ask.use (c_pos _ _ _ _ _ _ _ _ _ ?p5 ?p6 ?p7) ?k1 ?k2 ?k3 ?k4 ?k5 ?k6 ?kd ?ku ⟨⟨_, _, _, _, ?kt⟩, ?_⟩; (case kt => assumption); (case k1 => k_asm); (case k2 => k_asm); (case k3 => k_asm); (case k4 => k_asm); (case k5 => k_asm); (case k6 => first | exact rfl | assumption); (case kd => ktr_room); (case ku => ktr_units); (case p5 => assumption); (case p6 => assumption); (case p7 => assumption); k_whole); intro D9 u1 u2 u3 u4 h9 tk9 F9 N9; (try dsimp only); (try k_fold)))

/-- the sign of a power -/
def sgp (ng : Bool) (k : Nat) : Bool := ng && decide (k % 2 = 1)
/-- the rounded power -/
def pwr (wy : Way) (ng : Bool) (M : Nat) (e : Int) (k P : Nat) : Int × Int × Int × Int :=
  told (sI (sgp ng k)) (rnd wy (sgp ng k) (M ^ k) (nb (M ^ k) - P)) (e * (k : Int) + ((nb (M ^ k) - P : Nat) : Int))
abbrev HasT (news : List (Addr × Obj)) (D : Addr) (a b c d : Int) : Prop := ∃ v1 v2 v3 v4 : Tok, (D, tup4 a b c d v1 v2 v3 v4) ∈ news
section
variable {wy : Way} {ng : Bool} {M k P : Nat} {e : Int}
theorem sgp_one : sgp ng 1 = ng := by unfold sgp; simp
theorem sgp_two : sgp ng 2 = false := by unfold sgp; simp
theorem pwr_e1 : told (sI ng) (rnd wy ng M (nb M - P)) (e + ((nb M - P : Nat) : Int)) = pwr wy ng M e 1 P := by
  unfold pwr; rw [sgp_one, Nat.pow_one]; simp
theorem told_unit (sg : Int) : (sg, (1 : Int), e, (1 : Int)) = told sg 1 e := by unfold told; rw [odp_odd (by decide), tz_odd (by decide), nb_one]; simp
theorem pwr_unit (hP : 1 ≤ P) : pwr wy ng 1 e k P = told (sI (sgp ng k)) 1 (e * (k : Int)) := by
  unfold pwr; rw [Nat.one_pow, nb_one, show 1 - P = 0 from by omega, rnd_zero]; simp
theorem pwr_e2 (hP : 1 ≤ P) (h : (M : Int) * (M : Int) = 1) : ((0 : Int), (1 : Int), e + e, (1 : Int)) = pwr wy ng M e 2 P := by
  have hm : M = 1 := by
    have h2 : M * M = 1 := by rw [← Int.natCast_mul] at h; omega
    exact Nat.eq_one_of_mul_eq_one_right h2
  subst hm
  rw [pwr_unit hP, sgp_two, told_unit]
  have : e * ((2 : Nat) : Int) = e + e := by omega
  rw [this]; rfl
theorem pwr_e3 : told (sI false) (rnd wy false (M ^ 2) (nb (M ^ 2) - P)) (e + e + ((nb (M ^ 2) - P : Nat) : Int)) = pwr wy ng M e 2 P := by
  unfold pwr; rw [sgp_two]
  have : e * ((2 : Nat) : Int) = e + e := by omega
  rw [this]
theorem pwr_e4 (hP : 1 ≤ P) : (Builtin.bitAnd (sI ng) (k : Int), (1 : Int), e * (k : Int), (1 : Int)) = pwr wy ng 1 e k P := by
  rw [pwr_unit hP, and_sI, told_unit]; rfl
end
theorem c_pow_small (w : World) (wy : Way) (ng : Bool) (D : Addr) (M : Nat) (e : Int) (k P : Nat) (t2 t5 t6 : Tok) (hM : M ≠ 0) (hbig : nb M ≤ 1000) (hP : 1 ≤ P) (hk : 1 ≤ k) (hk2 : k ≤ 1000) (hs : k ≤ 2 ∨ M = 1 ∨ nb M * k < 1000) (he1 : e ≤ 100000) (he2 : -100000 ≤ e) :
    Ask w 85 6 [.ref D, .int (k : Int) t2, .int (P : Int) t5, .str wy.str t6] (fun h₀ L m news s Q => HasT news D (sI ng) (M : Int) e (nb M : Int) ∧ RetT (pwr wy ng M e k P) h₀ L m news s Q) := by
  unfold Ask
  k_fill
  intro p loose mean mg mb dp un gd cn cs a ccd cl outer A₀ base h₀ L m news s Q E B F X N T hkf hd hu hret
  obtain ⟨⟨v1, v2, v3, v4, hD⟩, hret⟩ := hret
  refine wpAny_call ?_
  k_dflt (refine' code_def ?k1 ?k2 ?k3 ?k4 ?k5 ?kA ?kF ?kK ?k6 ?k7 ?k8 ?k9 ?kB ?_ ?c2 ?c3 ?c4 ?c5; (case kA => exact rfl); (case kF => exact rfl); (case kK => assumption); (case k1 => k_asm); (case k2 => k_asm); (case k3 => k_asm); (case k4 => k_asm); (case k5 => k_asm); (case k6 => k_is); (case k7 => k_is); (case k8 => ktr_room); (case k9 => first | exact BindsTo.of_eq rfl | exact binds_K (by k_in) rfl (by k_is) rfl rfl rfl); (case c5 => decide); (case kB => exact locs rfl); (case c2 => exact rfl); (case c3 => exact rfl); (case c4 => exact rfl); k_whole; intro g L1 h1 FG F1 N1 B1 X1 T1; (try dsimp only); (try k_fold))
  refine wpAny_noRaise ?_
  have hM' : (M : Int) ≠ 0 := by omega
  have hnb := nb_pos hM
  have hb6 : nb M ≤ 100000 := by omega
  by_cases hk1 : k = 1
  · subst hk1
    k_steps
    refine' endT hret ?F ?N (fun _ h => h) ?E
    case F => assumption
    case N => assumption
    case E => exact pwr_e1
  by_cases hk2 : k = 2
  · subst hk2
    have hq : M ^ 2 ≠ 0 := Nat.pos_iff_ne_zero.mp (Nat.pow_pos (by omega))
    have hqb : nb (M ^ 2) ≤ 100000 := by have := nb_pow_le (M := M) (k := 2) (by decide); omega
    k_steps
    all_goals (
      refine' endT hret ?F ?N (fun _ h => h) ?E
      case F => assumption
      case N => assumption
      case E => first | exact pwr_e2 hP (by assumption) | exact pwr_e3)
  by_cases hM1 : M = 1
  · subst hM1
    k_steps
    refine' endT hret ?F ?N (fun _ h => h) ?E
    case F => assumption
    case N => assumption
    case E => exact pwr_e4 hP
  have hs' : nb M * k < 1000 := by omega
  have hs2 : (nb M : Int) * (k : Int) < 1000 := by rw [← Int.natCast_mul]; omega
  have hs3 : ((Builtin.Int.intBits (M : Int) : Nat) : Int) * (k : Int) ≤ 2 ^ 27 := by rw [nb_natCast]; omega
  have hq : M ^ k ≠ 0 := Nat.pos_iff_ne_zero.mp (Nat.pow_pos (by omega))
  have hqb : nb (M ^ k) ≤ 100000 := by have := nb_pow_le (M := M) (k := k) hk; omega
  k_steps
  refine' endT hret ?F ?N (fun _ h => h) ?E
  case F => assumption
  case N => assumption
  case E => exact rfl
end

section
theorem partC8 : True := by w_top off; trivial
local macro_rules | `(tactic| walk_at "idle") => `(tactic| skip)
local macro_rules | `(tactic| walk_at "idle") => `(tactic| skip)
local macro_rules | `(tactic| walk_at "idle") => `(tactic| skip)
local macro_rules | `(tactic| walk_at "idle") => `(tactic| skip)
local macro_rules | `(tactic| walk_at "idle") => `(tactic| skip)
local macro_rules | `(tactic| walk_at "idle") => `(tactic| skip)
local macro_rules | `(tactic| walk_at "idle") => `(tactic| skip)
local macro_rules | `(tactic| walk_at "idle") => `(tactic| skip)
local macro_rules | `(tactic| walk_at "idle") => `(tactic| skip)
local macro_rules | `(tactic| walk_at "idle") => `(tactic| skip)
local macro_rules | `(tactic| walk_at "idle") => `(tactic| skip)
local macro_rules | `(tactic| walk_at "idle") => `(tactic| skip)
local macro_rules | `(tactic| walk_at "idle") => `(tactic| skip)
local macro_rules | `(tactic| walk_at "idle") => `(tactic| skip)
local macro_rules | `(tactic| walk_at "idle") => `(tactic| skip)
local macro_rules | `(tactic| walk_at "idle") => `(tactic| skip)
local macro_rules | `(tactic| walk_at "idle") => `(tactic| skip)
local macro_rules | `(tactic| walk_at "idle") => `(tactic| skip)
local macro_rules | `(tactic| walk_at "idle") => `(tactic| skip)
local macro_rules | `(tactic| walk_at "idle") => `(tactic| skip)
local macro_rules | `(tactic| walk_at "idle") => `(tactic| skip)
local macro_rules | `(tactic| walk_at "idle") => `(tactic| skip)
local macro_rules | `(tactic| walk_at "idle") => `(tactic| skip)
local macro_rules | `(tactic| walk_at "idle") => `(tactic| skip)
local macro_rules | `(tactic| walk_at "idle") => `(tactic| skip)
local macro_rules | `(tactic| walk_at "idle") => `(tactic| skip)
local macro_rules | `(tactic| walk_at "idle") => `(tactic| skip)
local macro_rules | `(tactic| walk_at "idle") => `(tactic| skip)
local macro_rules | `(tactic| walk_at "idle") => `(tactic| skip)
local macro_rules | `(tactic| walk_at "idle") => `(tactic| skip)
local macro_rules | `(tactic| walk_at "idle") => `(tactic| skip)
local macro_rules | `(tactic| walk_at "idle") => `(tactic| skip)
local macro_rules | `(tactic| walk_at "idle") => `(tactic| skip)
local macro_rules | `(tactic| walk_at "idle") => `(tactic| skip)
local macro_rules | `(tactic| walk_at "idle") => `(tactic| skip)
local macro_rules | `(tactic| walk_at "idle") => `(tactic| skip)
local macro_rules | `(tactic| walk_at "idle") => `(tactic| skip)
local macro_rules | `(tactic| walk_at "idle") => `(tactic| skip)
local macro_rules | `(tactic| walk_at "idle") => `(tactic| skip)
local macro_rules | `(tactic| walk_at "idle") => `(tactic| skip)
local macro_rules | `(tactic| walk_at "idle") => `(tactic| skip)
local macro_rules | `(tactic| walk_at "idle") => `(tactic| skip)
local macro_rules | `(tactic| walk_at "idle") => `(tactic| skip)
local macro_rules | `(tactic| walk_at "idle") => `(tactic| skip)
set_option maxHeartbeats 4000000
local macro_rules | `(tactic| walk_at "execs cons") => `(tactic| (k_here; (with_reducible show wpAny _ _ _ _ _ (Shared.mk _ _ _ (_ + _) _)); refine gen_toks ?_; intro tk))
local macro_rules | `(tactic| walk_at "execs nil") => `(tactic| (k_here; (with_reducible show wpAny _ _ _ _ _ (Shared.mk _ _ _ (_ + _) _)); refine gen_toks ?_; intro tk))
local macro_rules | `(tactic| walk_at "ite") => `(tactic| (k_here; first
  | (refine ite_pos (by (simp only [bne_iff_ne, ne_eq, beq_iff_eq, decide_eq_true_eq, decide_eq_false_iff_not, Bool.and_eq_true, Bool.or_eq_true, Bool.not_eq_true', beq_eq_false_iff_ne, bne_eq_false_iff_eq]; first | done | omega)) ?_; walk_say "BY THE FACTS")
  | (refine ite_neg (by (simp only [bne_iff_ne, ne_eq, beq_iff_eq, decide_eq_true_eq, decide_eq_false_iff_not, Bool.and_eq_true, Bool.or_eq_true, Bool.not_eq_true', beq_eq_false_iff_ne, bne_eq_false_iff_eq]; first | done | omega)) ?_; walk_say "BY THE FACTS")))

def Way.recip : Way → Way
  | .n => .n
  | .f => .c
  | .c => .f
  | .u => .d
  | .d => .u
theorem str_n : Str.ofString "n" = Way.n.str := rfl
theorem str_f : Str.ofString "f" = Way.f.str := rfl
theorem str_c : Str.ofString "c" = Way.c.str := rfl
theorem str_u : Str.ofString "u" = Way.u.str := rfl
theorem str_d : Str.ofString "d" = Way.d.str := rfl
theorem neg_negI {k : Nat} : - -((k : Nat) : Int) = ((k : Nat) : Int) := Int.neg_neg _
theorem castP5 {P : Nat} : (P : Int) + 5 = ((P + 5 : Nat) : Int) := by omega
theorem c_pow_smallE (w : World) (wy : Way) (rs : Str) (ng : Bool) (D : Addr) (M : Nat) (e n prec : Int) (k P : Nat) (t2 t5 t6 : Tok) (hr : rs = wy.str) (hn : n = (k : Int)) (hp : prec = (P : Int)) (hM : M ≠ 0) (hbig : nb M ≤ 1000) (hP : 1 ≤ P) (hk : 1 ≤ k) (hk2 : k ≤ 1000) (hs : k ≤ 2 ∨ M = 1 ∨ nb M * k < 1000) (he1 : e ≤ 100000) (he2 : -100000 ≤ e) :
    Ask w 85 6 [.ref D, .int n t2, .int prec t5, .str rs t6] (fun h₀ L m news s Q => HasT news D (sI ng) (M : Int) e (nb M : Int) ∧ RetT (pwr wy ng M e k P) h₀ L m news s Q) := by
  subst hr; subst hn; subst hp
  exact c_pow_small w wy ng D M e k P t2 t5 t6 hM hbig hP hk hk2 hs he1 he2
/-- the inverse that mpf_pow_int reckons first, for an exponent below minus one -/
def invR (wy : Way) (ng : Bool) (M k P : Nat) : Nat := rnd wy.recip (sgp ng k) (M ^ k) (nb (M ^ k) - (P + 5))
def invE (wy : Way) (ng : Bool) (M : Nat) (e : Int) (k P : Nat) : Int := e * (k : Int) + ((nb (M ^ k) - (P + 5) : Nat) : Int) + (tz (invR wy ng M k P) : Int)
def pwn (wy : Way) (ng : Bool) (M : Nat) (e : Int) (k P : Nat) : Int × Int × Int × Int :=
  if k = 1 then dv ng M e P wy else dv (sgp ng k) (odp (invR wy ng M k P)) (invE wy ng M e k P) P wy
theorem c_divE (w : World) (wy : Way) (rs : Str) (ng : Bool) (D : Addr) (T₀ : Nat) (e : Int) (P : Nat) (t5 t6 : Tok) (hr : rs = wy.str) (hT : T₀ ≠ 0) (hbig : nb T₀ ≤ 9000) (hP : 1 ≤ P) (hP2 : P ≤ 10000) :
    Ask w 76 5 [.ref 23, .ref D, .int (P : Int) t5, .str rs t6] (fun h₀ L m news s Q => HasT news D (sI ng) (T₀ : Int) e (nb T₀ : Int) ∧ RetT (dv ng T₀ e P wy) h₀ L m news s Q) := by
  subst hr; exact c_div w wy ng D T₀ e P t5 t6 hT hbig hP hP2
local macro_rules | `(tactic| walk_at "call ref") => `(tactic| (k_here; (with_reducible show wpAny _ _ (call (Value.ref 85) _) _ _ _); k_dflt (refine' Ask.use (c_pow_smallE _ _ _ _ _ _ _ _ _ _ _ _ _ _ ?p0 ?p1 ?p2 ?p3 ?p4 ?p5 ?p6 ?p7 ?p8 ?p9 ?pa) ?k1 ?k2 ?k3 ?k4 ?k5 ?k6 ?kd ?ku ⟨⟨_, _, _, _, ?kt⟩, ?_⟩; (case k1 => k_asm); (case k2 => k_asm); (case k3 => k_asm); (case k4 => k_asm); (case k5 => k_asm); (case k6 => first | exact rfl | assumption); (case kd => ktr_room); (case ku => ktr_units); (case kt => first | assumption | exact List.Mem.head _ | exact List.Mem.tail _ (List.Mem.head _)); (case p0 => first | exact str_n | exact str_f | exact str_c | exact str_u | exact str_d | exact rfl); (case p1 => exact neg_negI); (case p2 => exact castP5); (case p3 => assumption); (case p4 => assumption); (case p5 => omega); (case p6 => assumption); (case p7 => assumption); (case p8 => assumption); (case p9 => assumption); (case pa => assumption); k_whole); intro D9 u1 u2 u3 u4 h9 tk9 F9 N9; (try dsimp only); (try k_fold); dsimp only [told, pwr] at N9))
local macro_rules | `(tactic| walk_at "call ref") => `(tactic| (k_here; (with_reducible show wpAny _ _ (call (Value.ref 76) _) _ _ _); k_dflt (refine' Ask.use (c_divE _ _ _ _ _ _ _ _ _ _ ?p0 ?p5 ?p6 ?p7 ?p8) ?k1 ?k2 ?k3 ?k4 ?k5 ?k6 ?kd ?ku ⟨⟨_, _, _, _, ?kt⟩, ?_⟩; (case k1 => k_asm); (case k2 => k_asm); (case k3 => k_asm); (case k4 => k_asm); (case k5 => k_asm); (case k6 => first | exact rfl | assumption); (case kd => ktr_room); (case ku => ktr_units); (case kt => first | assumption | exact List.Mem.head _ | exact List.Mem.tail _ (List.Mem.head _)); (case p0 => first | exact str_n | exact str_f | exact str_c | exact str_u | exact str_d | exact rfl); (case p5 => assumption); (case p6 => assumption); (case p7 => assumption); (case p8 => omega); k_whole); intro D9 u1 u2 u3 u4 h9 tk9 F9 N9; (try dsimp only); (try k_fold)))

theorem invR_facts {wy : Way} {ng : Bool} {M k P : Nat} (hM : M ≠ 0) (hk : 1 ≤ k) : odp (invR wy ng M k P) ≠ 0 ∧ nb (odp (invR wy ng M k P)) ≤ nb M * k + 1 := by
  have hq : M ^ k ≠ 0 := Nat.pos_iff_ne_zero.mp (Nat.pow_pos (by omega))
  have hqb := nb_pow_le (M := M) (k := k) hk
  obtain ⟨h1, h2⟩ := rnd_size (wy := wy.recip) (ng := sgp ng k) (M := M ^ k) (P := P + 5) hq (by omega)
  have h3 : nb (invR wy ng M k P) ≤ nb M * k + 1 := by
    unfold invR
    rcases h2 with h2 | h2
    · rw [← h2]; split <;> omega
    · rw [h2, nb_pow]; split <;> omega
  have h4 : invR wy ng M k P ≠ 0 := h1
  have h5 := nb_odp h4
  exact ⟨Nat.pos_iff_ne_zero.mp (odp_pos h4), by omega⟩
theorem c_pow_neg (w : World) (wy : Way) (ng : Bool) (D : Addr) (M : Nat) (e : Int) (k P : Nat) (t2 t5 t6 : Tok) (hM : M ≠ 0) (hbig : nb M ≤ 1000) (hP : 1 ≤ P) (hP2 : P ≤ 1000) (hk : 1 ≤ k) (hk2 : k ≤ 1000) (hs : nb M * k < 1000) (he1 : e ≤ 100000) (he2 : -100000 ≤ e) :
    Ask w 85 9 [.ref D, .int (-(k : Int)) t2, .int (P : Int) t5, .str wy.str t6] (fun h₀ L m news s Q => HasT news D (sI ng) (M : Int) e (nb M : Int) ∧ RetT (pwn wy ng M e k P) h₀ L m news s Q) := by
  unfold Ask
  k_fill
  intro p loose mean mg mb dp un gd cn cs a ccd cl outer A₀ base h₀ L m news s Q E B F X N T hkf hd hu hret
  obtain ⟨⟨v1, v2, v3, v4, hD⟩, hret⟩ := hret
  refine wpAny_call ?_
  k_dflt (refine' code_def ?k1 ?k2 ?k3 ?k4 ?k5 ?kA ?kF ?kK ?k6 ?k7 ?k8 ?k9 ?kB ?_ ?c2 ?c3 ?c4 ?c5; (case kA => exact rfl); (case kF => exact rfl); (case kK => assumption); (case k1 => k_asm); (case k2 => k_asm); (case k3 => k_asm); (case k4 => k_asm); (case k5 => k_asm); (case k6 => k_is); (case k7 => k_is); (case k8 => ktr_room); (case k9 => first | exact BindsTo.of_eq rfl | exact binds_K (by k_in) rfl (by k_is) rfl rfl rfl); (case c5 => decide); (case kB => exact locs rfl); (case c2 => exact rfl); (case c3 => exact rfl); (case c4 => exact rfl); k_whole; intro g L1 h1 FG F1 N1 B1 X1 T1; (try dsimp only); (try k_fold))
  refine wpAny_noRaise ?_
  have hM' : (M : Int) ≠ 0 := by omega
  have hb9 : nb M ≤ 9000 := by omega
  have hs' : k ≤ 2 ∨ M = 1 ∨ nb M * k < 1000 := .inr (.inr hs)
  by_cases hk1 : k = 1
  · subst hk1
    k_steps
    refine' endT hret ?F ?N (fun _ h => h) ?E
    case F => assumption
    case N => assumption
    case E => (unfold pwn; rw [if_pos rfl])
  obtain ⟨hi1, hi2⟩ := invR_facts (wy := wy) (ng := ng) (M := M) (k := k) (P := P) hM hk
  unfold invR at hi1 hi2
  have hi3 := Nat.le_trans hi2 (show _ ≤ 9000 by omega)
  cases wy <;> dsimp only [Way.str, Way.recip] at F1 hi1 hi3
  all_goals k_steps
  all_goals (
    refine' endT hret ?F ?N ?h ?E
    case F => assumption
    case N => assumption
    case h => exact (fun p hp => (List.mem_cons.mp hp).elim (fun e => e ▸ List.Mem.head _) (fun h => List.Mem.tail _ (List.Mem.tail _ h)))
    case E => (unfold pwn invE invR; rw [if_neg hk1]; exact rfl))
end

section
theorem partC9 : True := by w_top off; trivial
local macro_rules | `(tactic| walk_at "idle") => `(tactic| skip)
local macro_rules | `(tactic| walk_at "idle") => `(tactic| skip)
local macro_rules | `(tactic| walk_at "idle") => `(tactic| skip)
local macro_rules | `(tactic| walk_at "idle") => `(tactic| skip)
local macro_rules | `(tactic| walk_at "idle") => `(tactic| skip)
local macro_rules | `(tactic| walk_at "idle") => `(tactic| skip)
local macro_rules | `(tactic| walk_at "idle") => `(tactic| skip)
local macro_rules | `(tactic| walk_at "idle") => `(tactic| skip)
local macro_rules | `(tactic| walk_at "idle") => `(tactic| skip)
local macro_rules | `(tactic| walk_at "idle") => `(tactic| skip)
local macro_rules | `(tactic| walk_at "idle") => `(tactic| skip)
local macro_rules | `(tactic| walk_at "idle") => `(tactic| skip)
local macro_rules | `(tactic| walk_at "idle") => `(tactic| skip)
local macro_rules | `(tactic| walk_at "idle") => `(tactic| skip)
local macro_rules | `(tactic| walk_at "idle") => `(tactic| skip)
local macro_rules | `(tactic| walk_at "idle") => `(tactic| skip)
local macro_rules | `(tactic| walk_at "idle") => `(tactic| skip)
local macro_rules | `(tactic| walk_at "idle") => `(tactic| skip)
local macro_rules | `(tactic| walk_at "idle") => `(tactic| skip)
local macro_rules | `(tactic| walk_at "idle") => `(tactic| skip)
local macro_rules | `(tactic| walk_at "idle") => `(tactic| skip)
local macro_rules | `(tactic| walk_at "idle") => `(tactic| skip)
local macro_rules | `(tactic| walk_at "idle") => `(tactic| skip)
local macro_rules | `(tactic| walk_at "idle") => `(tactic| skip)
local macro_rules | `(tactic| walk_at "idle") => `(tactic| skip)
local macro_rules | `(tactic| walk_at "idle") => `(tactic| skip)
local macro_rules | `(tactic| walk_at "idle") => `(tactic| skip)
local macro_rules | `(tactic| walk_at "idle") => `(tactic| skip)
local macro_rules | `(tactic| walk_at "idle") => `(tactic| skip)
local macro_rules | `(tactic| walk_at "idle") => `(tactic| skip)
local macro_rules | `(tactic| walk_at "idle") => `(tactic| skip)
local macro_rules | `(tactic| walk_at "idle") => `(tactic| skip)
local macro_rules | `(tactic| walk_at "idle") => `(tactic| skip)
local macro_rules | `(tactic| walk_at "idle") => `(tactic| skip)
local macro_rules | `(tactic| walk_at "idle") => `(tactic| skip)
local macro_rules | `(tactic| walk_at "idle") => `(tactic| skip)
local macro_rules | `(tactic| walk_at "idle") => `(tactic| skip)
local macro_rules | `(tactic| walk_at "idle") => `(tactic| skip)
local macro_rules | `(tactic| walk_at "idle") => `(tactic| skip)
local macro_rules | `(tactic| walk_at "idle") => `(tactic| skip)
local macro_rules | `(tactic| walk_at "idle") => `(tactic| skip)
local macro_rules | `(tactic| walk_at "idle") => `(tactic| skip)
local macro_rules | `(tactic| walk_at "idle") => `(tactic| skip)
local macro_rules | `(tactic| walk_at "idle") => `(tactic| skip)
local macro_rules | `(tactic| walk_at "idle") => `(tactic| skip)
local macro_rules | `(tactic| walk_at "idle") => `(tactic| skip)
local macro_rules | `(tactic| walk_at "idle") => `(tactic| skip)
local macro_rules | `(tactic| walk_at "idle") => `(tactic| skip)
local macro_rules | `(tactic| walk_at "idle") => `(tactic| skip)
local macro_rules | `(tactic| walk_at "idle") => `(tactic| skip)
set_option maxHeartbeats 4000000
local macro_rules | `(tactic| walk_at "execs cons") => `(tactic| (k_here; (with_reducible show wpAny _ _ _ _ _ (Shared.mk _ _ _ (_ + _) _)); refine gen_toks ?_; intro tk))
local macro_rules | `(tactic| walk_at "execs nil") => `(tactic| (k_here; (with_reducible show wpAny _ _ _ _ _ (Shared.mk _ _ _ (_ + _) _)); refine gen_toks ?_; intro tk))
local macro_rules | `(tactic| walk_at "ite") => `(tactic| (k_here; first
  | (refine ite_pos (by (simp only [bne_iff_ne, ne_eq, beq_iff_eq, decide_eq_true_eq, decide_eq_false_iff_not, Bool.and_eq_true, Bool.or_eq_true, Bool.not_eq_true', beq_eq_false_iff_ne, bne_eq_false_iff_eq]; first | done | omega)) ?_; walk_say "BY THE FACTS")
  | (refine ite_neg (by (simp only [bne_iff_ne, ne_eq, beq_iff_eq, decide_eq_true_eq, decide_eq_false_iff_not, Bool.and_eq_true, Bool.or_eq_true, Bool.not_eq_true', beq_eq_false_iff_ne, bne_eq_false_iff_eq]; first | done | omega)) ?_; walk_say "BY THE FACTS")))

theorem c_pow_zero (w : World) (wy : Way) (ng : Bool) (D : Addr) (M : Nat) (e : Int) (P : Nat) (t2 t5 t6 : Tok) (hM : M ≠ 0) :
    Ask w 85 6 [.ref D, .int 0 t2, .int (P : Int) t5, .str wy.str t6] (fun h₀ L m news s Q => HasT news D (sI ng) (M : Int) e (nb M : Int) ∧ RetR 23 h₀ L m news s Q) := by
  unfold Ask
  k_fill
  intro p loose mean mg mb dp un gd cn cs a ccd cl outer A₀ base h₀ L m news s Q E B F X N T hkf hd hu hret
  obtain ⟨⟨v1, v2, v3, v4, hD⟩, hret⟩ := hret
  refine wpAny_call ?_
  k_dflt (refine' code_def ?k1 ?k2 ?k3 ?k4 ?k5 ?kA ?kF ?kK ?k6 ?k7 ?k8 ?k9 ?kB ?_ ?c2 ?c3 ?c4 ?c5; (case kA => exact rfl); (case kF => exact rfl); (case kK => assumption); (case k1 => k_asm); (case k2 => k_asm); (case k3 => k_asm); (case k4 => k_asm); (case k5 => k_asm); (case k6 => k_is); (case k7 => k_is); (case k8 => ktr_room); (case k9 => first | exact BindsTo.of_eq rfl | exact binds_K (by k_in) rfl (by k_is) rfl rfl rfl); (case c5 => decide); (case kB => exact locs rfl); (case c2 => exact rfl); (case c3 => exact rfl); (case c4 => exact rfl); k_whole; intro g L1 h1 FG F1 N1 B1 X1 T1; (try dsimp only); (try k_fold))
  refine wpAny_noRaise ?_
  have hM' : (M : Int) ≠ 0 := by omega
  k_steps
  refine' endR hret ?F ?N (fun _ h => h)
  case F => assumption
  case N => assumption
def PowA (g : Heap) (L : Addr) (s : Shared) (news : List (Addr × Obj)) (wy : Way) (sg man e bc n P : Int) (s' : Shared) : Prop :=
  ∃ t1 t2 t3 t4 t5 t6 t7 : Tok, Vars g L s news [(Str.ofString "result_sign", .int sg t1), (Str.ofString "man", .int man t2), (Str.ofString "exp", .int e t3), (Str.ofString "bc", .int bc t4), (Str.ofString "n", .int n t5), (Str.ofString "prec", .int P t6), (Str.ofString "rnd", .str wy.str t7)] s'
theorem PowA.intro {g h : Heap} {L : Addr} {s : Shared} {news news' : List (Addr × Obj)} {wy : Way} {sg man e bc n P : Int} {m : Str → Option Value} {tk : Nat} {t1 t2 t3 t4 t5 t6 t7 : Tok}
    (F : Fr g L h m) (N : News g L h news') (hs : ∀ p ∈ news, p ∈ news') (h1 : m (Str.ofString "result_sign") = some (.int sg t1)) (h2 : m (Str.ofString "man") = some (.int man t2)) (h3 : m (Str.ofString "exp") = some (.int e t3)) (h4 : m (Str.ofString "bc") = some (.int bc t4)) (h5 : m (Str.ofString "n") = some (.int n t5)) (h6 : m (Str.ofString "prec") = some (.int P t6)) (h7 : m (Str.ofString "rnd") = some (.str wy.str t7)) :
    PowA g L s news wy sg man e bc n P { s with heap := h, toks := tk } := ⟨t1, t2, t3, t4, t5, t6, t7, Vars.intro F N hs ⟨h1, h2, h3, h4, h5, h6, h7, trivial⟩⟩

/-- the loop's frame -/
def LoopS (g : Heap) (L : Addr) (s : Shared) (news : List (Addr × Obj)) (wy : Way) (sg : Bool) (P W : Nat) (m n pm : Nat) (e pe : Int) (s' : Shared) : Prop :=
  ∃ (rd : Value) (t1 t2 t3 t4 t5 t6 t7 t8 t9 ta tb : Tok), (rd = .bool true ∨ ∃ t, rd = .int 1 t) ∧ Vars g L s news [(Str.ofString "result_sign", .int (sI sg) t1), (Str.ofString "man", .int (m : Int) t2), (Str.ofString "exp", .int e t3), (Str.ofString "bc", .int (nb m : Int) t4), (Str.ofString "n", .int (n : Int) t5), (Str.ofString "prec", .int (P : Int) t6), (Str.ofString "rnd", .str wy.str t7), (Str.ofString "rounds_down", rd), (Str.ofString "workprec", .int (W : Int) t8), (Str.ofString "pm", .int (pm : Int) t9), (Str.ofString "pe", .int pe ta), (Str.ofString "pbc", .int (nb pm : Int) tb)] s'
theorem LoopS.intro {g h : Heap} {L : Addr} {s : Shared} {news news' : List (Addr × Obj)} {wy : Way} {sg : Bool} {P W m n pm : Nat} {e pe : Int} {f : Str → Option Value} {tk : Nat} {rd : Value} {t1 t2 t3 t4 t5 t6 t7 t8 t9 ta tb : Tok}
    (F : Fr g L h f) (N : News g L h news') (hs : ∀ p ∈ news, p ∈ news') (hr : rd = .bool true ∨ ∃ t, rd = .int 1 t)
    (h1 : f (Str.ofString "result_sign") = some (.int (sI sg) t1)) (h2 : f (Str.ofString "man") = some (.int (m : Int) t2)) (h3 : f (Str.ofString "exp") = some (.int e t3)) (h4 : f (Str.ofString "bc") = some (.int (nb m : Int) t4)) (h5 : f (Str.ofString "n") = some (.int (n : Int) t5)) (h6 : f (Str.ofString "prec") = some (.int (P : Int) t6)) (h7 : f (Str.ofString "rnd") = some (.str wy.str t7)) (h8 : f (Str.ofString "rounds_down") = some rd) (h9 : f (Str.ofString "workprec") = some (.int (W : Int) t8)) (ha : f (Str.ofString "pm") = some (.int (pm : Int) t9)) (hb : f (Str.ofString "pe") = some (.int pe ta)) (hc : f (Str.ofString "pbc") = some (.int (nb pm : Int) tb)) :
    LoopS g L s news wy sg P W m n pm e pe { s with heap := h, toks := tk } := ⟨rd, t1, t2, t3, t4, t5, t6, t7, t8, t9, ta, tb, hr, Vars.intro F N hs ⟨h1, h2, h3, h4, h5, h6, h7, h8, h9, ha, hb, hc, trivial⟩⟩
/-- what the loop keeps: the squares' base and the product against the exact powers -/
def PowJ (M k W : Nat) (e0 : Int) (n pm m : Nat) (pe e : Int) : Prop := m ≠ 0 ∧ pm ≠ 0 ∧ nb m ≤ 2000 ∧ nb pm ≤ 2000 ∧ ∃ a b d dp : Nat, 1 ≤ b ∧ a + b * n = k ∧ e = e0 * (b : Int) + (d : Int) ∧ pe = e0 * (a : Int) + (dp : Int) ∧
  m * 2 ^ d ≤ M ^ b ∧ M ^ b * 2 ^ (W - 1) ≤ m * 2 ^ d * 2 ^ (W - 1) + (b - 1) * M ^ b ∧ pm * 2 ^ dp ≤ M ^ a ∧ M ^ a * 2 ^ (W - 1) ≤ pm * 2 ^ dp * 2 ^ (W - 1) + a * M ^ a
/-- what is known of the product behind the loop -/
structure PowEnd (M k W : Nat) (pm dp : Nat) : Prop where
  pos : pm ≠ 0
  size : nb pm ≤ 2000
  le : pm * 2 ^ dp ≤ M ^ k
  ge : M ^ k * 2 ^ (W - 1) ≤ pm * 2 ^ dp * 2 ^ (W - 1) + k * M ^ k
def wprec (k P : Nat) : Nat := P + 4 * nb k + 4
local macro_rules | `(tactic| walk_at "call ref") => `(tactic| (k_here; (with_reducible show wpAny _ _ (call (Value.ref 45) _) _ _ _); k_dflt (refine' Ask.use (c_normE _ _ _ _ _ _ _ _ _ _ _ _ _ _ _ _ ?p1 ?p2 ?p3 ?p4 ?p5 ?p6 ?p7) ?k1 ?k2 ?k3 ?k4 ?k5 ?k6 ?kd ?ku ?_; (case k1 => k_asm); (case k2 => k_asm); (case k3 => k_asm); (case k4 => k_asm); (case k5 => k_asm); (case k6 => first | exact rfl | assumption); (case kd => ktr_room); (case ku => ktr_units); (case p2 => with_reducible exact rfl); (case p1 => with_reducible exact rfl); (case p3 => with_reducible exact rfl); (case p4 => exact rfl); (case p5 => assumption); (case p6 => assumption); (case p7 => assumption); k_whole); intro D9 u1 u2 u3 u4 h9 tk9 F9 N9; (try dsimp only); (try k_fold); dsimp only [told] at N9))

theorem truthy_rd {prog : Program} {w : World} {A : Around} {E : Value → Shared → Prop} {s : Shared} {rd : Value} {Q : Bool → Shared → Prop} (h : rd = .bool true ∨ ∃ t, rd = .int 1 t) (hq : Q true s) : wpAny (model prog w) A (truthy rd) Q E s := by
  rcases h with rfl | ⟨t, rfl⟩
  · exact wpAny_truthy_bool hq
  · exact truthy_int hq
local macro_rules | `(tactic| walk_at "truthy") => `(tactic| (k_here; refine truthy_rd (by assumption) ?_))
theorem wprec_eq {k P : Nat} : (P : Int) + 4 * ((Builtin.Int.intBits (k : Int) : Nat) : Int) + 4 = ((wprec k P : Nat) : Int) := by unfold wprec; rw [nb_natCast]; omega
theorem powJ_start {M k W : Nat} {e : Int} (hM : M ≠ 0) (hb : nb M ≤ 1000) (hk : k ≤ 1000) : PowJ M k W e k 1 M 0 e := by
  refine ⟨hM, by decide, by omega, by rw [nb_one]; decide, 0, 1, 0, 0, Nat.le_refl _, by omega, by omega, by omega, ?_, ?_, ?_, ?_⟩ <;> simp

local macro_rules | `(tactic| walk_at "binaryOp Mult int int") => `(tactic| (k_here; k_dflt (refine mul_int (hm := IntMulOk.of_le (m := 1000000) (n := 1000000) (by first | with_reducible exact bitsN (by omega) | exact bitsI (by omega) (by omega) (by decide)) (by first | with_reducible exact bitsN (by omega) | exact bitsI (by omega) (by omega) (by decide)) (by decide)) ?_)))
/-- a product cut down to W bits -/
def cutW (W x : Nat) : Nat := x / 2 ^ (nb x - W)
theorem cutW_nil {W x : Nat} (h : nb x ≤ W) : cutW W x = x := by unfold cutW; rw [show nb x - W = 0 from by omega]; simp
theorem nb_cutW (W x : Nat) : nb (cutW W x) = min (nb x) W := by unfold cutW; rw [nb_div_pow]; omega
theorem cutW_ne {W x : Nat} (hW : 1 ≤ W) (hx : x ≠ 0) : cutW W x ≠ 0 := by
  intro h
  have := nb_cutW W x
  rw [h, nb_zero] at this
  have := nb_pos hx
  omega
theorem cutW_le (W x : Nat) : cutW W x * 2 ^ (nb x - W) ≤ x := Nat.div_mul_le_self _ _
theorem cutW_ge {W x : Nat} (hW : 1 ≤ W) (hx : x ≠ 0) : x * 2 ^ (W - 1) ≤ cutW W x * 2 ^ (nb x - W) * 2 ^ (W - 1) + x := by
  by_cases h : nb x ≤ W
  · rw [cutW_nil h, show nb x - W = 0 from by omega]; simp
  · have h1 : x < (cutW W x + 1) * 2 ^ (nb x - W) := by
      unfold cutW
      have := Nat.lt_div_mul_add (a := x) (b := 2 ^ (nb x - W)) (Nat.two_pow_pos _)
      rw [Nat.add_mul, Nat.one_mul]; exact this
    have h2 : 2 ^ (nb x - W) * 2 ^ (W - 1) ≤ x := by
      rw [← Nat.pow_add, show nb x - W + (W - 1) = nb x - 1 from by omega]; exact pow_nb_le hx
    have h3 : x * 2 ^ (W - 1) ≤ (cutW W x + 1) * 2 ^ (nb x - W) * 2 ^ (W - 1) := Nat.mul_le_mul_right _ (Nat.le_of_lt h1)
    rw [Nat.add_mul, Nat.add_mul, Nat.one_mul] at h3
    omega
/-- two deficits: of a product -/
theorem defi_mul {A a B b U c c' : Nat} (h1 : A * U ≤ a * U + c * A) (hb : b ≤ B) (h2 : B * U ≤ b * U + c' * B) : A * B * U ≤ a * b * U + (c + c') * (A * B) := by
  have e1 : A * B * U = A * (B * U) := by rw [Nat.mul_assoc]
  have s1 : A * (B * U) ≤ A * (b * U + c' * B) := Nat.mul_le_mul_left _ h2
  have e2 : A * (b * U + c' * B) = b * (A * U) + c' * (A * B) := by
    rw [Nat.mul_add]
    congr 1
    · rw [Nat.mul_left_comm]
    · rw [Nat.mul_left_comm]
  have s2 : b * (A * U) ≤ b * (a * U + c * A) := Nat.mul_le_mul_left _ h1
  have e3 : b * (a * U + c * A) = a * b * U + c * (A * b) := by
    rw [Nat.mul_add]
    congr 1
    · rw [← Nat.mul_assoc, Nat.mul_comm b a]
    · rw [Nat.mul_left_comm, Nat.mul_comm b A]
  have s3 : c * (A * b) ≤ c * (A * B) := Nat.mul_le_mul_left _ (Nat.mul_le_mul_left _ hb)
  rw [e1, Nat.add_mul]
  omega
theorem defi_cut {A x W c : Nat} (hW : 1 ≤ W) (hx : x ≠ 0) (D : Nat) (hle : x * 2 ^ D ≤ A) (h : A * 2 ^ (W - 1) ≤ x * 2 ^ D * 2 ^ (W - 1) + c * A) :
    A * 2 ^ (W - 1) ≤ cutW W x * 2 ^ (D + (nb x - W)) * 2 ^ (W - 1) + (c + 1) * A := by
  have h1 := cutW_ge hW hx
  have h2 : x * 2 ^ (W - 1) * 2 ^ D ≤ (cutW W x * 2 ^ (nb x - W) * 2 ^ (W - 1) + x) * 2 ^ D := Nat.mul_le_mul_right _ h1
  have e1 : x * 2 ^ (W - 1) * 2 ^ D = x * 2 ^ D * 2 ^ (W - 1) := Nat.mul_right_comm _ _ _
  have e2 : (cutW W x * 2 ^ (nb x - W) * 2 ^ (W - 1) + x) * 2 ^ D = cutW W x * 2 ^ (D + (nb x - W)) * 2 ^ (W - 1) + x * 2 ^ D := by
    rw [Nat.add_mul, Nat.pow_add, Nat.mul_right_comm _ (2 ^ (W - 1)), Nat.mul_assoc (cutW W x), Nat.mul_comm (2 ^ (nb x - W))]
  rw [e1, e2] at h2
  rw [Nat.add_mul, Nat.one_mul]
  omega
theorem cut_le {A x W : Nat} (D : Nat) (hle : x * 2 ^ D ≤ A) : cutW W x * 2 ^ (D + (nb x - W)) ≤ A := by
  have h1 := cutW_le W x
  have h2 : cutW W x * 2 ^ (nb x - W) * 2 ^ D ≤ x * 2 ^ D := Nat.mul_le_mul_right _ h1
  rw [Nat.add_comm, Nat.pow_add, ← Nat.mul_assoc]
  omega
theorem mul_shift (x y D E : Nat) : x * y * 2 ^ (D + E) = x * 2 ^ D * (y * 2 ^ E) := by
  rw [Nat.pow_add, Nat.mul_mul_mul_comm]
theorem powJ_mul {M k W n pm m : Nat} {e0 pe e : Int} (hW : 1 ≤ W) (hW2 : W ≤ 2000) (hn : n % 2 = 1) (h : PowJ M k W e0 n pm m pe e) :
    PowJ M k W e0 (n - 1) (cutW W (pm * m)) m (pe + e + ((nb (pm * m) - W : Nat) : Int)) e := by
  obtain ⟨hm, hpm, hmb, hpmb, a, b, d, dp, hb, hk, he, hpe, h1, h2, h3, h4⟩ := h
  have hx : pm * m ≠ 0 := Nat.mul_ne_zero hpm hm
  have e1 : b * n = b * (n - 1) + b := by
    obtain ⟨j, rfl⟩ : ∃ j, n = j + 1 := ⟨n - 1, by omega⟩
    rw [Nat.add_sub_cancel, Nat.mul_succ]
  have hle : pm * m * 2 ^ (dp + d) ≤ M ^ (a + b) := by
    rw [mul_shift, Nat.pow_add]; exact Nat.mul_le_mul h3 h1
  have hde : M ^ (a + b) * 2 ^ (W - 1) ≤ pm * m * 2 ^ (dp + d) * 2 ^ (W - 1) + (a + (b - 1)) * M ^ (a + b) := by
    rw [mul_shift, Nat.pow_add]; exact defi_mul h4 h1 h2
  refine ⟨hm, cutW_ne hW hx, hmb, by rw [nb_cutW]; omega, a + b, b, d, dp + d + (nb (pm * m) - W), hb, by omega, he, ?_, h1, h2, cut_le _ hle, ?_⟩
  · rw [hpe, he]; simp only [Int.natCast_add, Int.mul_add]; omega
  · have := defi_cut hW hx _ hle hde
    rw [show a + b = a + (b - 1) + 1 from by omega] at this ⊢
    exact this
theorem powJ_sq {M k W n pm m : Nat} {e0 pe e : Int} (hW : 1 ≤ W) (hW2 : W ≤ 2000) (hn : n % 2 = 0) (h : PowJ M k W e0 n pm m pe e) :
    PowJ M k W e0 (n / 2) pm (cutW W (m * m)) pe (e + e + ((nb (m * m) - W : Nat) : Int)) := by
  obtain ⟨hm, hpm, hmb, hpmb, a, b, d, dp, hb, hk, he, hpe, h1, h2, h3, h4⟩ := h
  have hx : m * m ≠ 0 := Nat.mul_ne_zero hm hm
  have e1 : (b + b) * (n / 2) = b * n := by
    obtain ⟨j, rfl⟩ : ∃ j, n = 2 * j := ⟨n / 2, by omega⟩
    rw [Nat.mul_div_cancel_left _ (by decide), ← Nat.two_mul, Nat.mul_comm 2 b, Nat.mul_assoc]
  have hle : m * m * 2 ^ (d + d) ≤ M ^ (b + b) := by
    rw [mul_shift, Nat.pow_add]; exact Nat.mul_le_mul h1 h1
  have hde : M ^ (b + b) * 2 ^ (W - 1) ≤ m * m * 2 ^ (d + d) * 2 ^ (W - 1) + (b - 1 + (b - 1)) * M ^ (b + b) := by
    rw [mul_shift, Nat.pow_add]; exact defi_mul h2 h1 h2
  refine ⟨cutW_ne hW hx, hpm, by rw [nb_cutW]; omega, hpmb, a, b + b, d + d + (nb (m * m) - W), dp, by omega, by omega, ?_, hpe, cut_le _ hle, ?_, h3, h4⟩
  · rw [he]; simp only [Int.natCast_add, Int.mul_add]; omega
  · have := defi_cut hW hx _ hle hde
    rw [show b + b - 1 = b - 1 + (b - 1) + 1 from by omega]
    exact this
theorem powJ_end {M k W pm m : Nat} {e0 pe e : Int} (h : PowJ M k W e0 0 pm m pe e) : ∃ dp, PowEnd M k W pm dp ∧ pe = e0 * (k : Int) + (dp : Int) := by
  obtain ⟨hm, hpm, hmb, hpmb, a, b, d, dp, hb, hk, he, hpe, h1, h2, h3, h4⟩ := h
  have : a = k := by omega
  subst this
  exact ⟨dp, ⟨hpm, hpmb, h3, h4⟩, hpe⟩

theorem bits_mulA {a b : Nat} (ha : a ≠ 0) (hb : b ≠ 0) : (nb a : Int) + ((nb b : Int) - 2) + ((Builtin.Int.intBits (((a : Int) * (b : Int)).fdiv (2 ^ ((nb a : Int) + ((nb b : Int) - 2)).toNat)) : Nat) : Int) = ((nb (a * b) : Nat) : Int) := by
  have h1 := nb_pos ha
  have h2 := nb_pos hb
  rw [← bits_mulN ha hb (x := (nb a : Int) + ((nb b : Int) - 2)) (by omega), Int.natCast_mul]
theorem bits_mulB {a b : Nat} (ha : a ≠ 0) (hb : b ≠ 0) : (nb a : Int) + (nb b : Int) - 2 + ((Builtin.Int.intBits (((a : Int) * (b : Int)).fdiv (2 ^ ((nb a : Int) + (nb b : Int) - 2).toNat)) : Nat) : Int) = ((nb (a * b) : Nat) : Int) := by
  have h1 := nb_pos ha
  have h2 := nb_pos hb
  rw [← bits_mulN ha hb (x := (nb a : Int) + (nb b : Int) - 2) (by omega), Int.natCast_mul]
section
variable {a b W n : Nat} {X pe e : Int}
theorem lp_m1 (hX : X = ((nb (a * b) : Nat) : Int)) (h : (W : Int) < X) : ((a : Int) * (b : Int)).fdiv (2 ^ (X - (W : Int)).toNat) = ((cutW W (a * b) : Nat) : Int) := by
  subst hX; rw [← Int.natCast_mul, show (((nb (a * b) : Nat) : Int) - (W : Int)).toNat = nb (a * b) - W from by omega, fdivN]; rfl
theorem lp_m2 (hX : X = ((nb (a * b) : Nat) : Int)) (h : ¬ (W : Int) < X) : (a : Int) * (b : Int) = ((cutW W (a * b) : Nat) : Int) := by
  subst hX; rw [cutW_nil (by omega), Int.natCast_mul]
theorem lp_b1 (hX : X = ((nb (a * b) : Nat) : Int)) (h : (W : Int) < X) : (W : Int) = ((nb (cutW W (a * b)) : Nat) : Int) := by
  subst hX; rw [nb_cutW]; omega
theorem lp_b2 (hX : X = ((nb (a * b) : Nat) : Int)) (h : ¬ (W : Int) < X) : X = ((nb (cutW W (a * b)) : Nat) : Int) := by
  subst hX; rw [nb_cutW]; omega
theorem lp_e1 (hX : X = ((nb (a * b) : Nat) : Int)) (h : (W : Int) < X) : pe + e + (X - (W : Int)) = pe + e + ((nb (a * b) - W : Nat) : Int) := by
  subst hX; omega
theorem lp_e2 (hX : X = ((nb (a * b) : Nat) : Int)) (h : ¬ (W : Int) < X) : pe + e = pe + e + ((nb (a * b) - W : Nat) : Int) := by
  subst hX; omega
theorem lp_odd (h : Builtin.bitAnd (n : Int) 1 ≠ 0) : n % 2 = 1 := by rw [and1N] at h; omega
theorem lp_even (h : Builtin.bitAnd (n : Int) 1 = 0) : n % 2 = 0 := by rw [and1N] at h; omega
end
/-- the loop's state between the product and the square -/
def LoopM (g : Heap) (L : Addr) (s : Shared) (news : List (Addr × Obj)) (wy : Way) (sg : Bool) (P W M k : Nat) (e0 : Int) (n m : Nat) (e : Int) (s' : Shared) : Prop :=
  ∃ n' pm' pe', (n' ≠ 0 ∧ n' ≤ n ∧ n' % 2 = 0) ∧ PowJ M k W e0 n' pm' m pe' e ∧ LoopS g L s news wy sg P W m n' pm' e pe' s'
def LoopZ (g : Heap) (L : Addr) (s : Shared) (news : List (Addr × Obj)) (wy : Way) (sg : Bool) (P W M k : Nat) (e0 : Int) (s' : Shared) : Prop :=
  ∃ m pm e' dp, PowEnd M k W pm dp ∧ LoopS g L s news wy sg P W m 0 pm e' (e0 * (k : Int) + (dp : Int)) s'
theorem c_pow_loop (w : World) (wy : Way) (ng : Bool) (D : Addr) (M : Nat) (e : Int) (k P : Nat) (t2 t5 t6 : Tok) (hM : M ≠ 0) (hM1 : M ≠ 1) (hbig : nb M ≤ 1000) (hP : 1 ≤ P) (hP2 : P ≤ 1000) (hk : 3 ≤ k) (hk2 : k ≤ 1000) (hs : 1000 ≤ nb M * k) (he1 : e ≤ 100000) (he2 : -100000 ≤ e) (ho : wy = .n ∨ wy.out (sgp ng k) = false) :
    Ask w 85 7 [.ref D, .int (k : Int) t2, .int (P : Int) t5, .str wy.str t6] (fun h₀ L m news s Q => HasT news D (sI ng) (M : Int) e (nb M : Int) ∧ ∀ pm dp, PowEnd M k (wprec k P) pm dp → RetT (told (sI (sgp ng k)) (rnd wy (sgp ng k) pm (nb pm - P)) (e * (k : Int) + (dp : Int) + ((nb pm - P : Nat) : Int))) h₀ L m news s Q) := by
  unfold Ask
  k_fill
  intro p loose mean mg mb dp un gd cn cs a ccd cl outer A₀ base h₀ L m news s Q E B F X N T hkf hd hu hret
  obtain ⟨⟨v1, v2, v3, v4, hD⟩, hret⟩ := hret
  refine wpAny_call ?_
  k_dflt (refine' code_def ?k1 ?k2 ?k3 ?k4 ?k5 ?kA ?kF ?kK ?k6 ?k7 ?k8 ?k9 ?kB ?_ ?c2 ?c3 ?c4 ?c5; (case kA => exact rfl); (case kF => exact rfl); (case kK => assumption); (case k1 => k_asm); (case k2 => k_asm); (case k3 => k_asm); (case k4 => k_asm); (case k5 => k_asm); (case k6 => k_is); (case k7 => k_is); (case k8 => ktr_room); (case k9 => first | exact BindsTo.of_eq rfl | exact binds_K (by k_in) rfl (by k_is) rfl rfl rfl); (case c5 => decide); (case kB => exact locs rfl); (case c2 => exact rfl); (case c3 => exact rfl); (case c4 => exact rfl); k_whole; intro g L1 h1 FG F1 N1 B1 X1 T1; (try dsimp only); (try k_fold))
  refine wpAny_noRaise ?_
  have hM' : (M : Int) ≠ 0 := by omega
  have hnb := nb_pos hM
  have hs2 : ¬ (nb M : Int) * (k : Int) < 1000 := by rw [← Int.natCast_mul]; omega
  refine cut 11 (PowA g L1 s news wy (sI (sgp ng k)) M e (nb M : Nat) k P) ?_ ?_
  · dsimp only [List.take]
    clear hret
    k_steps
    (show PowA _ _ _ _ _ _ _ _ _ _ _ _)
    refine' PowA.intro ?F ?N (fun _ h => h) ?a ?b ?c ?d ?e ?f ?g
    case F => assumption
    case N => assumption
    case a => exact eqI and_sI
    case b => exact rfl
    case c => exact rfl
    case d => exact rfl
    case e => exact rfl
    case f => exact rfl
    case g => exact rfl
  dsimp only [List.drop]
  rintro s1 ⟨u1, u2, u3, u4, u5, u6, u7, h, tk, m, rfl, F2, N2⟩
  dsimp only [over] at F2
  clear F1 N1 hD
  refine cut 3 (LoopS g L1 s news wy (sgp ng k) P (wprec k P) M k 1 e 0) ?_ ?_
  · dsimp only [List.take]
    clear hret
    generalize sgp ng k = sg at *
    cases wy <;> cases sg <;> first | (exfalso; simp [Way.out] at ho; done) | skip
    all_goals dsimp only [Way.str, sI] at F2
    all_goals k_steps
    all_goals (
      (show LoopS _ _ _ _ _ _ _ _ _ _ _ _ _ _)
      refine' LoopS.intro ?F ?N (fun _ h => h) ?r ?a ?b ?c ?d ?e ?f ?g ?h ?i ?j ?k ?l
      case F => assumption
      case N => assumption
      case h => exact rfl
      case r => first | exact .inl rfl | exact .inr ⟨_, rfl⟩
      case a => exact rfl
      case b => exact rfl
      case c => exact rfl
      case d => exact rfl
      case e => exact rfl
      case f => exact rfl
      case g => exact rfl
      case i => exact eqI wprec_eq
      case j => exact rfl
      case k => exact rfl
      case l => exact eqI nbI_one)
  dsimp only [List.drop]
  intro s1 hs1
  clear F2 N2
  have hWk : 1 ≤ wprec k P := by unfold wprec; omega
  have hWb : wprec k P ≤ 1100 := by unfold wprec; have := nb_le.mpr (show k < 2 ^ 10 by omega); omega
  refine cut 1 (LoopZ g L1 s news wy (sgp ng k) P (wprec k P) M k e) ?_ ?_
  · dsimp only [List.take]
    clear hret
    refine wpAny_execs_cons ?_
    refine while_turn (fun n s' => n ≠ 0 ∧ ∃ m pm e' pe, PowJ M k (wprec k P) e n pm m pe e' ∧ LoopS g L1 s news wy (sgp ng k) P (wprec k P) m n pm e' pe s') k ⟨by omega, M, 1, e, 0, powJ_start hM hbig (by omega), hs1⟩ ?_
    rintro n s' ⟨hn0, m, pm, e', pe, hJ, rd, u1, u2, u3, u4, u5, u6, u7, u8, u9, ua, ub, hrd, h, tk, fm, rfl, F2, N2⟩
    dsimp only [over] at F2
    clear hs1
    have hJ' := hJ
    obtain ⟨hm0, hpm0, hmb, hpmb, -⟩ := hJ'
    have hnm := nb_pos hm0
    have hnpm := nb_pos hpm0
    generalize hW : wprec k P = W at *
    iterate 4 (first | (k_unfold; (try dsimp only)) | walk1)
    refine cut 1 (LoopM g L1 s news wy (sgp ng k) P W M k e n m e') ?_ ?_
    · dsimp only [List.take]
      have hX := bits_mulA hpm0 hm0
      k_steps
      all_goals first
      | ((show LoopM _ _ _ _ _ _ _ _ _ _ _ _ _ _ _)
         have hodd : n % 2 = 1 := lp_odd (by assumption)
         refine ⟨n - 1, cutW W (pm * m), pe + e' + ((nb (pm * m) - W : Nat) : Int), ⟨by omega, by omega, by omega⟩, powJ_mul hWk (by omega) hodd hJ, ?_⟩
         refine' LoopS.intro ?F ?N (fun _ h => h) ?r ?a ?b ?c ?d ?e ?f ?g ?h ?i ?j ?k ?l
         case F => assumption
         case N => assumption
         case h => exact rfl
         case r => assumption
         case a => exact rfl
         case b => exact rfl
         case c => exact rfl
         case d => exact rfl
         case e => exact eqI (by omega)
         case f => exact rfl
         case g => exact rfl
         case i => exact rfl
         case j => first | exact eqI (lp_m1 hX (by assumption)) | exact eqI (lp_m2 hX (by assumption))
         case k => first | exact eqI (lp_e1 hX (by assumption)) | exact eqI (lp_e2 hX (by assumption))
         case l => first | exact eqI (lp_b1 hX (by assumption)) | exact eqI (lp_b2 hX (by assumption)))
      | ((show LoopM _ _ _ _ _ _ _ _ _ _ _ _ _ _ _)
         refine ⟨n, pm, pe, ⟨hn0, Nat.le_refl _, lp_even (by assumption)⟩, hJ, ?_⟩
         refine' LoopS.intro ?F ?N (fun _ h => h) ?r ?a ?b ?c ?d ?e ?f ?g ?h ?i ?j ?k ?l
         case F => assumption
         case N => assumption
         case h => exact rfl
         case r => assumption
         case a => exact rfl
         case b => exact rfl
         case c => exact rfl
         case d => exact rfl
         case e => exact rfl
         case f => exact rfl
         case g => exact rfl
         case i => exact rfl
         case j => exact rfl
         case k => exact rfl
         case l => exact rfl)
      | ((show wpAny _ _ (execs [] _) _ _ _)
         refine wpAny_execs_nil ?_
         (show LoopZ _ _ _ _ _ _ _ _ _ _ _ _)
         have hodd : n % 2 = 1 := lp_odd (by assumption)
         have hz := powJ_mul hWk (by omega) hodd hJ
         rw [show n - 1 = 0 from by omega] at hz
         obtain ⟨dp, hE, hpe⟩ := powJ_end hz
         refine ⟨m, cutW W (pm * m), e', dp, hE, ?_⟩
         refine' LoopS.intro ?F ?N (fun _ h => h) ?r ?a ?b ?c ?d ?e ?f ?g ?h ?i ?j ?k ?l
         case F => assumption
         case N => assumption
         case h => exact rfl
         case r => assumption
         case a => exact rfl
         case b => exact rfl
         case c => exact rfl
         case d => exact rfl
         case e => exact eqI (by omega)
         case f => exact rfl
         case g => exact rfl
         case i => exact rfl
         case j => first | exact eqI (lp_m1 hX (by assumption)) | exact eqI (lp_m2 hX (by assumption))
         case k => first | exact eqI ((lp_e1 hX (by assumption)).trans hpe) | exact eqI ((lp_e2 hX (by assumption)).trans hpe)
         case l => first | exact eqI (lp_b1 hX (by assumption)) | exact eqI (lp_b2 hX (by assumption)))
    · dsimp only [List.drop]
      rintro s2 ⟨n', pm', pe', ⟨hn1, hn2, hn3⟩, hJ2, rd2, w1, w2, w3, w4, w5, w6, w7, w8, w9, wa, wb, hrd2, h2, tk2, fm2, rfl, F3, N3⟩
      dsimp only [over] at F3
      clear F2 N2 hJ hrd
      have hX := bits_mulB hm0 hm0
      k_steps
      all_goals (
         refine ⟨n' / 2, by omega, by omega, cutW W (m * m), pm', e' + e' + ((nb (m * m) - W : Nat) : Int), pe', powJ_sq hWk (by omega) hn3 hJ2, ?_⟩
         refine' LoopS.intro ?F ?N (fun _ h => h) ?r ?a ?b ?c ?d ?e ?f ?g ?h ?i ?j ?k ?l
         case F => assumption
         case N => assumption
         case h => exact rfl
         case r => assumption
         case a => exact rfl
         case b => first | exact eqI (lp_m1 hX (by assumption)) | exact eqI (lp_m2 hX (by assumption))
         case c => first | exact eqI (lp_e1 hX (by assumption)) | exact eqI (lp_e2 hX (by assumption))
         case d => first | exact eqI (lp_b1 hX (by assumption)) | exact eqI (lp_b2 hX (by assumption))
         case e => exact eqI (Int.ofNat_fdiv n' 2).symm
         case f => exact rfl
         case g => exact rfl
         case i => exact rfl
         case j => exact rfl
         case k => exact rfl
         case l => exact rfl)
  · dsimp only [List.drop]
    rintro s1 ⟨m, pm, e', dp, hE, rd, u1, u2, u3, u4, u5, u6, u7, u8, u9, ua, ub, hrd, h, tk, fm, rfl, F2, N2⟩
    dsimp only [over] at F2
    clear hs1
    have hpm0 := hE.pos
    have hpmb : nb pm ≤ 100000 := Nat.le_trans hE.size (by decide)
    k_steps
    refine' endT (hret pm dp hE) ?F ?N (fun _ h => h) ?E
    case F => assumption
    case N => assumption
    case E => exact rfl
end

section
theorem Near.mk' {wy : Way} {ng : Bool} {L R P : Nat} (lo : R * 2 ^ P ≤ L * 2 ^ P + 4 * R) (hi : L * 2 ^ P ≤ R * 2 ^ P + 4 * R) (inn : wy ≠ .n → wy.out ng = false → L ≤ R) (out : wy.out ng = true → R ≤ L) : Near wy ng L R P where
  lo := by
    rw [pow2I]
    have e : (R : Int) * (((2 ^ P : Nat) : Int) - 4) = ((R * 2 ^ P : Nat) : Int) - 4 * (R : Int) := by rw [Int.mul_sub, Int.natCast_mul]; omega
    rw [e, ← Int.natCast_mul]; omega
  hi := by
    rw [pow2I]
    have e : (R : Int) * (((2 ^ P : Nat) : Int) + 4) = ((R * 2 ^ P : Nat) : Int) + 4 * (R : Int) := by rw [Int.mul_add, Int.natCast_mul]; omega
    rw [e, ← Int.natCast_mul]; omega
  inn := inn
  out := out
theorem Near.lo' {wy : Way} {ng : Bool} {L R P : Nat} (h : Near wy ng L R P) : R * 2 ^ P ≤ L * 2 ^ P + 4 * R := by
  have := h.lo
  rw [pow2I] at this
  have e : (R : Int) * (((2 ^ P : Nat) : Int) - 4) = ((R * 2 ^ P : Nat) : Int) - 4 * (R : Int) := by rw [Int.mul_sub, Int.natCast_mul]; omega
  rw [e, ← Int.natCast_mul] at this; omega
theorem Near.hi' {wy : Way} {ng : Bool} {L R P : Nat} (h : Near wy ng L R P) : L * 2 ^ P ≤ R * 2 ^ P + 4 * R := by
  have := h.hi
  rw [pow2I] at this
  have e : (R : Int) * (((2 ^ P : Nat) : Int) + 4) = ((R * 2 ^ P : Nat) : Int) + 4 * (R : Int) := by rw [Int.mul_add, Int.natCast_mul]; omega
  rw [e, ← Int.natCast_mul] at this; omega
/-- both sides times the same -/
theorem Near.of {wy : Way} {ng : Bool} {L R L' R' P a b : Nat} (hb : 0 < b) (hL : L * b = L' * a) (hR : R * b = R' * a) (h : Near wy ng L' R' P) : Near wy ng L R P := by
  have lo := Nat.mul_le_mul_right a h.lo'
  have hi := Nat.mul_le_mul_right a h.hi'
  have eR : R' * 2 ^ P * a = R * 2 ^ P * b := by rw [Nat.mul_right_comm, ← hR, Nat.mul_right_comm]
  have eL : L' * 2 ^ P * a = L * 2 ^ P * b := by rw [Nat.mul_right_comm, ← hL, Nat.mul_right_comm]
  have e4 : 4 * R' * a = 4 * R * b := by rw [Nat.mul_assoc, ← hR, Nat.mul_assoc]
  rw [Nat.add_mul, eR, eL, e4, ← Nat.add_mul] at lo
  rw [Nat.add_mul, eR, eL, e4, ← Nat.add_mul] at hi
  refine Near.mk' (Nat.le_of_mul_le_mul_right lo hb) (Nat.le_of_mul_le_mul_right hi hb) (fun h1 h2 => ?_) (fun h1 => ?_)
  · have := Nat.mul_le_mul_right a (h.inn h1 h2)
    rw [← hL, ← hR] at this
    exact Nat.le_of_mul_le_mul_right this hb
  · have := Nat.mul_le_mul_right a (h.out h1)
    rw [← hL, ← hR] at this
    exact Nat.le_of_mul_le_mul_right this hb

/-- rounding: one unit of the last place at most, and the side -/
theorem rnd_err (wy : Way) (ng : Bool) {m P : Nat} (hm : m ≠ 0) (hP : 1 ≤ P) :
    rnd wy ng m (nb m - P) * 2 ^ (nb m - P) * 2 ^ (P - 1) ≤ m * 2 ^ (P - 1) + m ∧ m * 2 ^ (P - 1) ≤ rnd wy ng m (nb m - P) * 2 ^ (nb m - P) * 2 ^ (P - 1) + m ∧
    (wy ≠ .n → wy.out ng = false → rnd wy ng m (nb m - P) * 2 ^ (nb m - P) ≤ m) ∧ (wy.out ng = true → m ≤ rnd wy ng m (nb m - P) * 2 ^ (nb m - P)) := by
  by_cases hk : nb m - P = 0
  · rw [hk, rnd_zero]
    simp
  · have hsz : 2 ^ (nb m - P) * 2 ^ (P - 1) ≤ m := by
      rw [← Nat.pow_add, show nb m - P + (P - 1) = nb m - 1 from by omega]; exact pow_nb_le hm
    have hp := Nat.two_pow_pos (nb m - P)
    generalize hkk : nb m - P = kk at *
    have hdm := Nat.div_add_mod m (2 ^ kk)
    have hlt := Nat.mod_lt m hp
    rw [Nat.mul_comm] at hdm
    have hr : rnd wy ng m kk = m / 2 ^ kk + (if goUp wy ng m kk = true then 1 else 0) := rnd_pos hk
    have up1 : rnd wy ng m kk * 2 ^ kk ≤ m + 2 ^ kk := by
      rw [hr]; split
      · rw [Nat.add_mul]; omega
      · rw [Nat.add_zero]; omega
    have dn1 : m ≤ rnd wy ng m kk * 2 ^ kk + 2 ^ kk := by
      rw [hr]; split
      · rw [Nat.add_mul]; omega
      · rw [Nat.add_zero]; omega
    refine ⟨?_, ?_, fun h1 h2 => ?_, fun h1 => ?_⟩
    · have := Nat.mul_le_mul_right (2 ^ (P - 1)) up1
      rw [Nat.add_mul] at this; omega
    · have := Nat.mul_le_mul_right (2 ^ (P - 1)) dn1
      rw [Nat.add_mul] at this; omega
    · rw [hr, goUp_ne h1, h2]
      simp only [Bool.false_and, Bool.false_eq_true, if_false, Nat.add_zero]; omega
    · have hn : wy ≠ .n := by rintro rfl; exact Bool.false_ne_true h1
      rw [hr, goUp_ne hn, h1]
      by_cases hs : m % 2 ^ kk = 0
      · rw [decide_eq_false (by simpa using hs)]; simp only [Bool.and_false, Bool.false_eq_true, if_false, Nat.add_zero]; omega
      · rw [decide_eq_true hs]; simp only [Bool.and_true, if_true, Nat.add_mul]; omega

theorem twoP {P : Nat} (hP : 1 ≤ P) : 2 ^ P = 2 * 2 ^ (P - 1) := by
  obtain ⟨j, rfl⟩ : ∃ j, P = j + 1 := ⟨P - 1, by omega⟩
  rw [Nat.pow_succ]; simp; omega

/-- the loop's product, rounded, against the exact power -/
theorem near_loop {wy : Way} {sg : Bool} {M k P pm dp : Nat} (hP : 1 ≤ P) (ho : wy = .n ∨ wy.out sg = false) (h : PowEnd M k (wprec k P) pm dp) :
    Near wy sg (rnd wy sg pm (nb pm - P) * 2 ^ (dp + (nb pm - P))) (M ^ k) P := by
  obtain ⟨e1, e2, e3, e4⟩ := rnd_err wy sg (m := pm) (P := P) h.pos hP
  have hle := h.le
  have hge := h.ge
  generalize hr : rnd wy sg pm (nb pm - P) = r at *
  generalize nb pm - P = kk at *
  generalize hX : M ^ k = X at *
  have hV : r * 2 ^ (dp + kk) = r * 2 ^ kk * 2 ^ dp := by rw [Nat.add_comm, Nat.pow_add, Nat.mul_assoc]
  rw [hV]
  generalize r * 2 ^ kk = v at *
  have hG := twoP hP
  -- the product's own error
  have hU : 2 ^ (wprec k P - 1) = 2 ^ P * 2 ^ (4 * nb k + 3) := by rw [← Nat.pow_add]; congr 1
  have hkU : k ≤ 2 ^ (4 * nb k + 3) := Nat.le_trans (Nat.le_of_lt (nb_lt_pow k)) (Nat.pow_le_pow_right (by decide) (by omega))
  have hA : X * 2 ^ P ≤ pm * 2 ^ dp * 2 ^ P + X := by
    rw [hU, ← Nat.mul_assoc, ← Nat.mul_assoc] at hge
    have h3 : k * X ≤ X * 2 ^ (4 * nb k + 3) := by rw [Nat.mul_comm]; exact Nat.mul_le_mul_left _ hkU
    have h4 : X * 2 ^ P * 2 ^ (4 * nb k + 3) ≤ (pm * 2 ^ dp * 2 ^ P + X) * 2 ^ (4 * nb k + 3) := by rw [Nat.add_mul]; omega
    exact Nat.le_of_mul_le_mul_right h4 (Nat.two_pow_pos _)
  have f1 := Nat.mul_le_mul_right (2 ^ dp) e1
  have f2 := Nat.mul_le_mul_right (2 ^ dp) e2
  have c1 : v * 2 ^ (P - 1) * 2 ^ dp = v * 2 ^ dp * 2 ^ (P - 1) := Nat.mul_right_comm _ _ _
  have c2 : pm * 2 ^ (P - 1) * 2 ^ dp = pm * 2 ^ dp * 2 ^ (P - 1) := Nat.mul_right_comm _ _ _
  rw [Nat.add_mul, c1, c2] at f1 f2
  generalize hA' : pm * 2 ^ dp = A at *
  generalize hv' : v * 2 ^ dp = V at *
  have g1 : ∀ x : Nat, x * 2 ^ P = 2 * (x * 2 ^ (P - 1)) := fun x => by rw [hG, Nat.mul_left_comm]
  have gX := g1 X
  have gV := g1 V
  have gA := g1 A
  have hAX : A * 2 ^ (P - 1) ≤ X * 2 ^ (P - 1) := Nat.mul_le_mul_right _ hle
  refine Near.mk' (by omega) (by omega) (fun h1 h2 => ?_) (fun h1 => ?_)
  · have := Nat.mul_le_mul_right (2 ^ dp) (e3 h1 h2)
    omega
  · rcases ho with rfl | ho
    · exact absurd h1 Bool.false_ne_true
    · rw [ho] at h1; exact absurd h1 Bool.false_ne_true

section
variable {V X Y T B Q Rb G : Nat}
theorem div_hi (hT : 0 < T) (hG : 1 ≤ G) (u1 : V * G ≤ Q * (G + 2)) (u2 : Q * T * (32 * G) ≤ B * (32 * G) + Q * T) (u3 : X * (16 * G) ≤ Y * (16 * G) + X) (hR : Rb * T = B * Y) :
    V * X * G ≤ Rb * (G + 4) := by
  obtain ⟨a, ha⟩ : ∃ a, 32 * G = a + 1 := ⟨32 * G - 1, by omega⟩
  obtain ⟨b, hb⟩ : ∃ b, 16 * G = b + 1 := ⟨16 * G - 1, by omega⟩
  rw [ha] at u2
  rw [hb] at u3
  have u2' : Q * T * a ≤ B * (a + 1) := by rw [Nat.mul_succ] at u2; omega
  have u3' : X * b ≤ Y * (b + 1) := by rw [Nat.mul_succ X] at u3; omega
  have s1 : V * G * (T * X * a * b) ≤ Q * (G + 2) * (T * X * a * b) := Nat.mul_le_mul_right _ u1
  have s2 : Q * T * a * (X * b) ≤ B * (a + 1) * (Y * (b + 1)) := Nat.mul_le_mul u2' u3'
  have s3 := Nat.mul_le_mul_left (G + 2) s2
  have p1 : (a + 1) * (b + 1) * (G + 2) ≤ (G + 4) * (a * b) := by
    have q1 : (a + 1) * (b + 1) = a * b + a + b + 1 := by rw [Nat.add_mul, Nat.mul_add]; omega
    have q2 : a * (15 * G) ≤ a * b := Nat.mul_le_mul_left _ (by omega)
    have q3 : (a + b + 1) * (G + 2) ≤ (2 * a) * (3 * G) := Nat.mul_le_mul (by omega) (by omega)
    have q4 : (2 * a) * (3 * G) = 6 * (a * G) := by rw [Nat.mul_mul_mul_comm]
    have q5 : a * (15 * G) = 15 * (a * G) := Nat.mul_left_comm _ _ _
    have q6 : (a + 1) * (b + 1) * (G + 2) = a * b * (G + 2) + (a + b + 1) * (G + 2) := by rw [q1, ← Nat.add_mul]; congr 1; omega
    have q7 : (G + 4) * (a * b) = a * b * (G + 2) + 2 * (a * b) := by rw [Nat.mul_comm, show G + 4 = (G + 2) + 2 from rfl, Nat.mul_add (a * b) (G + 2) 2]; omega
    omega
  have p2 := Nat.mul_le_mul_left (Rb * T) p1
  have e1 : V * X * G * (T * (a * b)) = V * G * (T * X * a * b) := by ac_rfl
  have e2 : Q * (G + 2) * (T * X * a * b) = (G + 2) * (Q * T * a * (X * b)) := by ac_rfl
  have e3 : (G + 2) * (B * (a + 1) * (Y * (b + 1))) = Rb * T * ((a + 1) * (b + 1) * (G + 2)) := by rw [hR]; ac_rfl
  have e4 : Rb * T * ((G + 4) * (a * b)) = Rb * (G + 4) * (T * (a * b)) := by ac_rfl
  have hab : 0 < T * (a * b) := Nat.mul_pos hT (Nat.mul_pos (by omega) (by omega))
  refine Nat.le_of_mul_le_mul_right ?_ hab
  rw [e1]
  omega
theorem div_lo (hT : 0 < T) (hG : 4 ≤ G) (l1 : Q * G ≤ V * G + 2 * Q) (l2 : B * (32 * G) ≤ Q * T * (32 * G) + Q * T) (l3 : Y * (16 * G) ≤ X * (16 * G) + X) (hR : Rb * T = B * Y) :
    Rb * G ≤ V * X * G + 4 * Rb := by
  obtain ⟨g, hg⟩ : ∃ g, G = g + 4 := ⟨G - 4, by omega⟩
  have l1' : Q * (g + 2) ≤ V * G := by
    have : Q * G = Q * (g + 2) + Q * 2 := by rw [hg, ← Nat.mul_add]
    omega
  have l2' : B * (32 * G) ≤ Q * T * (32 * G + 1) := by rw [Nat.mul_succ]; exact l2
  have l3' : Y * (16 * G) ≤ X * (16 * G + 1) := by rw [Nat.mul_succ]; exact l3
  generalize ha : 32 * G = a at *
  generalize hb : 16 * G = b at *
  have s1 : B * a * (Y * b) ≤ Q * T * (a + 1) * (X * (b + 1)) := Nat.mul_le_mul l2' l3'
  have s2 := Nat.mul_le_mul_right (g + 2) s1
  have s3 := Nat.mul_le_mul_right (T * X * (a + 1) * (b + 1)) l1'
  have p1 : g * ((a + 1) * (b + 1)) ≤ (g + 2) * (a * b) := by
    have q1 : (a + 1) * (b + 1) = a * b + (a + b + 1) := by rw [Nat.add_mul, Nat.mul_add]; omega
    have q2 : g * (a + b + 1) ≤ b * (2 * a) := Nat.mul_le_mul (by omega) (by omega)
    have q3 : b * (2 * a) = 2 * (a * b) := by rw [Nat.mul_left_comm, Nat.mul_comm b a]
    rw [q1, Nat.mul_add, Nat.add_mul]; omega
  have p2 := Nat.mul_le_mul_left (Rb * T) p1
  have e1 : B * a * (Y * b) * (g + 2) = Rb * T * ((g + 2) * (a * b)) := by rw [hR]; ac_rfl
  have e2 : Q * T * (a + 1) * (X * (b + 1)) * (g + 2) = Q * (g + 2) * (T * X * (a + 1) * (b + 1)) := by ac_rfl
  have e3 : V * G * (T * X * (a + 1) * (b + 1)) = V * X * G * (T * ((a + 1) * (b + 1))) := by ac_rfl
  have e4 : Rb * T * (g * ((a + 1) * (b + 1))) = Rb * g * (T * ((a + 1) * (b + 1))) := by ac_rfl
  have hab : 0 < T * ((a + 1) * (b + 1)) := Nat.mul_pos hT (Nat.mul_pos (by omega) (by omega))
  have : Rb * g ≤ V * X * G := Nat.le_of_mul_le_mul_right (by rw [← e4, ← e3]; omega) hab
  have e5 : Rb * G = Rb * g + Rb * 4 := by rw [hg, Nat.mul_add]
  omega
end
end

section
theorem odd_dvd {T : Nat} (hT : T % 2 = 1) : ∀ (x c : Nat), T * c = 2 ^ x → T = 1
  | 0, c, h => Nat.eq_one_of_mul_eq_one_right h
  | x + 1, c, h => by
    have hc : c % 2 = 0 := by
      have h1 : (T * c) % 2 = 0 := by rw [h, Nat.pow_succ]; omega
      rw [Nat.mul_mod, hT] at h1
      omega
    refine odd_dvd hT x (c / 2) ?_
    have h2 : c = 2 * (c / 2) := by omega
    rw [h2, Nat.pow_succ, Nat.mul_left_comm] at h
    omega

theorem near_unit {wy : Way} {sg : Bool} {X Y P : Nat} (h1 : X * (16 * 2 ^ P) ≤ Y * (16 * 2 ^ P) + X) (h2 : Y * (16 * 2 ^ P) ≤ X * (16 * 2 ^ P) + X)
    (h3 : wy ≠ .n → wy.out sg = false → X ≤ Y) (h4 : wy.out sg = true → Y ≤ X) : Near wy sg X Y P := by
  have hp := Nat.two_pow_pos P
  have e1 : X * (16 * 2 ^ P) = 16 * (X * 2 ^ P) := Nat.mul_left_comm _ _ _
  have e2 : Y * (16 * 2 ^ P) = 16 * (Y * 2 ^ P) := Nat.mul_left_comm _ _ _
  rw [e1, e2] at h1 h2
  have e3 : X ≤ X * 2 ^ P := Nat.le_mul_of_pos_right _ hp
  have e4 : 15 * X ≤ 16 * Y := by
    refine Nat.le_of_mul_le_mul_right ?_ hp
    rw [Nat.mul_assoc, Nat.mul_assoc]; omega
  exact Near.mk' (by omega) (by omega) h3 h4

theorem near_dv {wy : Way} {sg : Bool} {X T c P : Nat} (hT : T % 2 = 1) (hT1 : T ≠ 1) (hP : 4 ≤ P) (h1 : X * (16 * 2 ^ P) ≤ T * 2 ^ c * (16 * 2 ^ P) + X) (h2 : T * 2 ^ c * (16 * 2 ^ P) ≤ X * (16 * 2 ^ P) + X)
    (h3 : wy ≠ .n → wy.out sg = false → X ≤ T * 2 ^ c) (h4 : wy.out sg = true → T * 2 ^ c ≤ X) :
    Near wy sg (rnd wy sg (dvQ T P) (nb (dvQ T P) - P) * 2 ^ (nb (dvQ T P) - P) * X) (2 ^ (dvX T P + c)) P := by
  have hT0 : T ≠ 0 := by omega
  have hR0 : 2 ^ (P + nb T + 4) % T ≠ 0 := fun h => hT1 (odd_dvd hT (P + nb T + 4) (2 ^ (P + nb T + 4) / T) (by have := Nat.div_add_mod (2 ^ (P + nb T + 4)) T; omega))
  have hx : dvX T P = P + nb T + 5 := by unfold dvX; rw [if_neg hR0]
  have hQ : dvQ T P = 2 * (2 ^ (P + nb T + 4) / T) + 1 := by unfold dvQ; rw [if_neg hR0]
  have hq : 2 ^ (P + 4) ≤ 2 ^ (P + nb T + 4) / T := by
    rw [Nat.le_div_iff_mul_le (by omega), show P + nb T + 4 = P + 4 + nb T from by omega, Nat.pow_add 2 (P + 4)]
    exact Nat.mul_le_mul_left _ (Nat.le_of_lt (nb_lt_pow T))
  have hdm := Nat.div_add_mod (2 ^ (P + nb T + 4)) T
  have hlt := Nat.mod_lt (2 ^ (P + nb T + 4)) (show T > 0 by omega)
  obtain ⟨e1, e2, e3, e4⟩ := rnd_err wy sg (m := dvQ T P) (P := P) (dvQ_pos hT0) (by omega)
  have hkk : 1 ≤ nb (dvQ T P) - P := by
    have : P + 4 < nb (dvQ T P) := lt_nb.mpr (by rw [hQ]; omega)
    omega
  have heven : ∃ u, rnd wy sg (dvQ T P) (nb (dvQ T P) - P) * 2 ^ (nb (dvQ T P) - P) = 2 * u := by
    obtain ⟨j, hj⟩ : ∃ j, nb (dvQ T P) - P = j + 1 := ⟨nb (dvQ T P) - P - 1, by omega⟩
    rw [hj, Nat.pow_succ]
    exact ⟨rnd wy sg (dvQ T P) (j + 1) * 2 ^ j, by rw [← Nat.mul_assoc, Nat.mul_comm]⟩
  obtain ⟨u, hu⟩ := heven
  have hB : 2 ^ (dvX T P + c) * T = 2 ^ (P + nb T + 5) * (T * 2 ^ c) := by rw [hx, Nat.pow_add]; ac_rfl
  have hB2 : 2 ^ (P + nb T + 5) = 2 * (T * (2 ^ (P + nb T + 4) / T)) + 2 * (2 ^ (P + nb T + 4) % T) := by
    rw [show P + nb T + 5 = (P + nb T + 4) + 1 from rfl, Nat.pow_succ]; omega
  generalize rnd wy sg (dvQ T P) (nb (dvQ T P) - P) * 2 ^ (nb (dvQ T P) - P) = V at *
  generalize 2 ^ (P + nb T + 4) / T = q at *
  generalize 2 ^ (P + nb T + 4) % T = R0 at *
  generalize 2 ^ (P + nb T + 5) = B at *
  generalize 2 ^ (dvX T P + c) = Rb at *
  generalize hY : T * 2 ^ c = Y at *
  generalize hQ' : dvQ T P = Q at *
  have hG := twoP (P := P) (by omega)
  have hG4 : 16 ≤ 2 ^ P := Nat.pow_le_pow_right (n := 2) (by decide) hP
  have hQT : Q * T = 2 * (T * q) + T := by rw [hQ, Nat.add_mul, Nat.one_mul, Nat.mul_assoc, Nat.mul_comm q]
  have hbig : T * (32 * 2 ^ P) ≤ Q * T := by
    rw [Nat.mul_comm Q]
    refine Nat.mul_le_mul_left _ ?_
    rw [hQ]
    have : 2 ^ (P + 4) = 16 * 2 ^ P := by rw [Nat.pow_add]; omega
    omega
  have u2 : Q * T * (32 * 2 ^ P) ≤ B * (32 * 2 ^ P) + Q * T := by
    have : Q * T * (32 * 2 ^ P) ≤ (B + T) * (32 * 2 ^ P) := Nat.mul_le_mul_right _ (by omega)
    rw [Nat.add_mul] at this; omega
  have l2 : B * (32 * 2 ^ P) ≤ Q * T * (32 * 2 ^ P) + Q * T := by
    have : B * (32 * 2 ^ P) ≤ (Q * T + T) * (32 * 2 ^ P) := Nat.mul_le_mul_right _ (by omega)
    rw [Nat.add_mul] at this; omega
  have g1 : ∀ x : Nat, x * 2 ^ P = 2 * (x * 2 ^ (P - 1)) := fun x => by rw [hG, Nat.mul_left_comm]
  have gV := g1 V
  have gQ := g1 Q
  have u1 : V * 2 ^ P ≤ Q * (2 ^ P + 2) := by rw [Nat.mul_add]; omega
  have l1 : Q * 2 ^ P ≤ V * 2 ^ P + 2 * Q := by omega
  refine Near.mk' ?_ ?_ (fun a1 a2 => ?_) (fun a1 => ?_)
  · exact div_lo (by omega) (by omega) l1 l2 h2 hB
  · have := div_hi (by omega) (by omega) u1 u2 h1 hB
    rw [Nat.mul_add] at this; omega
  · have v1 := e3 a1 a2
    have v2 := h3 a1 a2
    have v3 : V * T ≤ B := by
      have : V * T ≤ (2 * q) * T := Nat.mul_le_mul_right _ (by omega)
      have e : (2 * q) * T = 2 * (T * q) := by rw [Nat.mul_assoc, Nat.mul_comm q]
      omega
    refine Nat.le_of_mul_le_mul_right (c := T) ?_ (by omega)
    rw [hB, Nat.mul_right_comm]
    exact Nat.mul_le_mul v3 v2
  · have v1 := e4 a1
    have v2 := h4 a1
    have v3 : B ≤ V * T := by
      have : (2 * q + 2) * T ≤ V * T := Nat.mul_le_mul_right _ (by omega)
      have e : (2 * q + 2) * T = 2 * (T * q) + 2 * T := by rw [Nat.add_mul, Nat.mul_assoc, Nat.mul_comm q]
      omega
    refine Nat.le_of_mul_le_mul_right (c := T) ?_ (by omega)
    rw [hB, Nat.mul_right_comm]
    exact Nat.mul_le_mul v3 v2
end

section
theorem nearL_eq (S Bl : Nat) (pw : Int) : nearL S Bl pw = S * Bl * 2 ^ pw.toNat := by
  unfold nearL
  split
  · rfl
  · rw [show pw.toNat = 0 from by omega, Nat.pow_zero, Nat.mul_one]
theorem nearR_eq (Ab : Nat) (pw : Int) : nearR Ab pw = Ab * 2 ^ (-pw).toNat := by
  unfold nearR
  split
  · rw [show (-pw).toNat = 0 from by omega, Nat.pow_zero, Nat.mul_one]
  · rfl
theorem pow4 (x a b : Nat) : x * 2 ^ a * 2 ^ b = x * 2 ^ (a + b) := by rw [Nat.pow_add, Nat.mul_assoc]

/-- a positive power: the law's two sides -/
theorem near_pos {wy : Way} {sg : Bool} {S X d P : Nat} {sh pw : Int} (hpw : pw = sh + (d : Int)) (h : Near wy sg (S * 2 ^ d) X P) :
    Near wy sg (nearL S (2 ^ (-sh).toNat) pw) (nearR (X * 2 ^ sh.toNat) pw) P := by
  rw [nearL_eq, nearR_eq]
  refine Near.of (a := 2 ^ (sh.toNat + (-pw).toNat)) (b := 1) (by decide) ?_ ?_ h
  · rw [Nat.mul_one, pow4, pow4]
    congr 2; omega
  · rw [Nat.mul_one, pow4]
/-- a negative power -/
theorem near_neg {wy : Way} {sg : Bool} {S X f y P : Nat} {sh pw : Int} (hpw : sh + pw = (f : Int) - (y : Int)) (h : Near wy sg (S * 2 ^ f * X) (2 ^ y) P) :
    Near wy sg (nearL S (X * 2 ^ sh.toNat) pw) (nearR (2 ^ (-sh).toNat) pw) P := by
  rw [nearL_eq, nearR_eq]
  refine Near.of (a := 2 ^ ((-sh).toNat + (-pw).toNat)) (b := 2 ^ y) (Nat.two_pow_pos _) ?_ ?_ h
  · have e : S * 2 ^ f * X * 2 ^ ((-sh).toNat + (-pw).toNat) = S * X * 2 ^ (f + ((-sh).toNat + (-pw).toNat)) := by rw [Nat.pow_add 2 f]; ac_rfl
    have e2 : S * (X * 2 ^ sh.toNat) * 2 ^ pw.toNat * 2 ^ y = S * X * 2 ^ (sh.toNat + pw.toNat + y) := by rw [Nat.pow_add, Nat.pow_add]; ac_rfl
    rw [e, e2]
    congr 2; omega
  · rw [← Nat.pow_add, ← Nat.pow_add, ← Nat.pow_add]
    congr 1; omega

theorem odp_bits {r P : Nat} (hr : r ≠ 0) (hP : 1 ≤ P) (h : nb r ≤ P ∨ r = 2 ^ P) : nb (odp r) ≤ P := by
  rcases h with h | h
  · have := nb_odp hr; omega
  · have h1 := odp_mul hr
    have h2 := odp_mod hr
    have h3 : odp r = 1 := odd_dvd h2 P (2 ^ tz r) (by rw [h1, h])
    rw [h3, nb_one]; exact hP
theorem rnd_bits {wy : Way} {ng : Bool} {M P : Nat} (hM : M ≠ 0) (hP : 1 ≤ P) : rnd wy ng M (nb M - P) ≠ 0 ∧ nb (odp (rnd wy ng M (nb M - P))) ≤ P ∧ tz (rnd wy ng M (nb M - P)) ≤ nb M + 1 := by
  obtain ⟨h1, h2⟩ := rnd_size (wy := wy) (ng := ng) hM hP
  have h3 := nb_odp h1
  have h4 := nb_pos (Nat.pos_iff_ne_zero.mp (odp_pos h1))
  by_cases hk : nb M - P = 0
  · rw [if_pos hk] at h2
    have h5 : rnd wy ng M (nb M - P) = M := by rw [hk, rnd_zero]
    rw [h5] at h3 h4 ⊢
    refine ⟨hM, odp_bits hM hP (.inl (by omega)), by omega⟩
  · rw [if_neg hk] at h2
    refine ⟨h1, odp_bits h1 hP (h2.imp (fun h => by omega) id), ?_⟩
    rcases h2 with h2 | h2
    · omega
    · rw [h2, nb_pow, ← h2] at h3; omega

/-- the loop's answer as the law asks it -/
theorem loop_near {wy : Way} {sg : Bool} {M k P pm dp : Nat} {e : Int} (hP : 1 ≤ P) (hP2 : P ≤ 1000) (hM : M ≠ 0) (hb : nb M * k ≤ 5000) (hk : 1 ≤ k) (he1 : e * (k : Int) ≤ 5000) (he2 : -5000 ≤ e * (k : Int)) (ho : wy = .n ∨ wy.out sg = false) (h : PowEnd M k (wprec k P) pm dp) :
    ∃ (S : Nat) (pw : Int), told (sI sg) (rnd wy sg pm (nb pm - P)) (e * (k : Int) + (dp : Int) + ((nb pm - P : Nat) : Int)) = (sI sg, (S : Int), pw, (nb S : Int)) ∧ S % 2 = 1 ∧ nb S ≤ P ∧ pw ≤ 20000 ∧ -20000 ≤ pw ∧
      Near wy sg (nearL S (2 ^ (-(e * (k : Int))).toNat) pw) (nearR (M ^ k * 2 ^ (e * (k : Int)).toNat) pw) P := by
  have hN := near_loop hP ho h
  obtain ⟨h1, h2, h3⟩ := rnd_bits (wy := wy) (ng := sg) h.pos hP
  have hle := h.le
  have hsz := h.size
  have hpos := h.pos
  have hdp : dp ≤ 6000 := by
    have a : 2 ^ dp ≤ M ^ k := Nat.le_trans (Nat.le_mul_of_pos_left _ (by omega)) hle
    have b := nb_mono a
    rw [nb_pow] at b
    have c := nb_pow_le (M := M) hk
    omega
  have hkk : nb pm - P ≤ 2000 := by omega
  generalize rnd wy sg pm (nb pm - P) = r at *
  generalize nb pm - P = kk at *
  refine ⟨odp r, e * (k : Int) + (dp : Int) + (kk : Int) + (tz r : Int), rfl, odp_mod h1, h2, ?_, ?_, ?_⟩
  · omega
  · omega
  · refine near_pos (d := dp + kk + tz r) (by omega) ?_
    have e2 : odp r * 2 ^ (dp + kk + tz r) = r * 2 ^ (dp + kk) := by
      rw [Nat.add_comm, Nat.pow_add, ← Nat.mul_assoc, odp_mul h1]
    rw [e2]; exact hN

theorem recip_out (wy : Way) (sg : Bool) : wy ≠ .n → wy.recip.out sg = !(wy.out sg) ∧ wy.recip ≠ .n := by
  intro h
  cases wy <;> cases sg <;> first | exact absurd rfl h | exact ⟨rfl, fun h => nomatch h⟩
theorem out_ne {wy : Way} {sg : Bool} (h : wy.out sg = true) : wy ≠ .n := by
  rintro rfl; exact Bool.false_ne_true h

/-- the inverse's rounding against the exact power -/
theorem inv_err {wy : Way} {sg : Bool} {X r c P : Nat} (hX : X ≠ 0) (hr : r = rnd wy.recip sg X (nb X - (P + 5))) (hY : odp r * 2 ^ c = r * 2 ^ (nb X - (P + 5))) :
    X * (16 * 2 ^ P) ≤ odp r * 2 ^ c * (16 * 2 ^ P) + X ∧ odp r * 2 ^ c * (16 * 2 ^ P) ≤ X * (16 * 2 ^ P) + X ∧ (wy ≠ .n → wy.out sg = false → X ≤ odp r * 2 ^ c) ∧ (wy.out sg = true → odp r * 2 ^ c ≤ X) := by
  obtain ⟨e1, e2, e3, e4⟩ := rnd_err wy.recip sg (m := X) (P := P + 5) hX (by omega)
  rw [← hr, ← hY] at e1 e2 e3 e4
  have e : 2 ^ (P + 5 - 1) = 16 * 2 ^ P := by rw [show P + 5 - 1 = P + 4 from rfl, Nat.pow_add]; omega
  rw [e] at e1 e2
  refine ⟨e2, e1, fun h1 h2 => ?_, fun h1 => ?_⟩
  · exact e4 (by rw [(recip_out wy sg h1).1, h2]; rfl)
  · have h2 := out_ne h1
    exact e3 (recip_out wy sg h2).2 (by rw [(recip_out wy sg h2).1, h1]; rfl)

/-- the quotient's answer as the law asks it: T stands for X, its power of two apart -/
theorem dv_near {wy : Way} {sg : Bool} {X T c P : Nat} {sh E : Int} (hT : T % 2 = 1) (hP : 4 ≤ P) (hP2 : P ≤ 1000) (hTb : nb T ≤ 5000) (hE1 : E ≤ 5000) (hE2 : -5000 ≤ E) (hE : sh - E = -(c : Int))
    (h1 : X * (16 * 2 ^ P) ≤ T * 2 ^ c * (16 * 2 ^ P) + X) (h2 : T * 2 ^ c * (16 * 2 ^ P) ≤ X * (16 * 2 ^ P) + X)
    (h3 : wy ≠ .n → wy.out sg = false → X ≤ T * 2 ^ c) (h4 : wy.out sg = true → T * 2 ^ c ≤ X) :
    ∃ (S : Nat) (pw : Int), dv sg T E P wy = (sI sg, (S : Int), pw, (nb S : Int)) ∧ S % 2 = 1 ∧ nb S ≤ P ∧ pw ≤ 20000 ∧ -20000 ≤ pw ∧
      Near wy sg (nearL S (X * 2 ^ sh.toNat) pw) (nearR (2 ^ (-sh).toNat) pw) P := by
  by_cases hT1 : T = 1
  · subst hT1
    refine ⟨1, -E, ?_, by decide, by rw [nb_one]; omega, by omega, by omega, ?_⟩
    · unfold dv; rw [if_pos rfl, nb_one]; rfl
    · rw [Nat.one_mul] at h1 h2 h3 h4
      refine near_neg (f := 0) (y := c) (by omega) ?_
      rw [Nat.pow_zero, Nat.mul_one, Nat.one_mul]
      exact near_unit h1 h2 h3 h4
  · have hN := near_dv hT hT1 hP h1 h2 h3 h4
    have hT0 : T ≠ 0 := by omega
    obtain ⟨r1, r2, r3⟩ := rnd_bits (wy := wy) (ng := sg) (M := dvQ T P) (P := P) (dvQ_pos hT0) (by omega)
    have hQb := dvQ_bits (T := T) (P := P)
    have hx : dvX T P ≤ P + nb T + 5 := by unfold dvX; split <;> omega
    have hd : dv sg T E P wy = told (sI sg) (rnd wy sg (dvQ T P) (nb (dvQ T P) - P)) (0 - E - (dvX T P : Nat) + ((nb (dvQ T P) - P : Nat) : Int)) := by unfold dv; rw [if_neg hT1]
    have hkk : nb (dvQ T P) - P ≤ 7000 := by omega
    have hxx : dvX T P ≤ 7000 := by omega
    have htz : tz (rnd wy sg (dvQ T P) (nb (dvQ T P) - P)) ≤ 8000 := by omega
    rw [hd]
    generalize rnd wy sg (dvQ T P) (nb (dvQ T P) - P) = r at *
    generalize nb (dvQ T P) - P = kk at *
    generalize dvX T P = x at *
    refine ⟨odp r, 0 - E - (x : Int) + (kk : Int) + (tz r : Int), rfl, odp_mod r1, r2, by omega, by omega, ?_⟩
    refine near_neg (f := kk + tz r) (y := x + c) (by omega) ?_
    have e2 : odp r * 2 ^ (kk + tz r) = r * 2 ^ kk := by
      rw [Nat.add_comm, Nat.pow_add, ← Nat.mul_assoc, odp_mul r1]
    rw [e2]; exact hN
/-- an exponent below nought: the answer as the law asks it -/
theorem pwn_near {wy : Way} {ng : Bool} {M k P : Nat} {e : Int} (hP : 4 ≤ P) (hP2 : P ≤ 1000) (hM : M % 2 = 1) (hb : nb M * k ≤ 1000) (hk : 1 ≤ k) (he1 : e * (k : Int) ≤ 2000) (he2 : -2000 ≤ e * (k : Int)) :
    ∃ (S : Nat) (pw : Int), pwn wy ng M e k P = (sI (sgp ng k), (S : Int), pw, (nb S : Int)) ∧ S % 2 = 1 ∧ nb S ≤ P ∧ pw ≤ 20000 ∧ -20000 ≤ pw ∧
      Near wy (sgp ng k) (nearL S (M ^ k * 2 ^ (e * (k : Int)).toNat) pw) (nearR (2 ^ (-(e * (k : Int))).toNat) pw) P := by
  have hM0 : M ≠ 0 := by omega
  by_cases hk1 : k = 1
  · subst hk1
    unfold pwn
    rw [if_pos rfl, sgp_one, Nat.pow_one]
    have he : e * ((1 : Nat) : Int) = e := by omega
    rw [he] at he1 he2 ⊢
    exact dv_near (c := 0) hM hP hP2 (by omega) (by omega) (by omega) (by omega) (by simp) (by simp) (by simp) (by simp)
  · have hq : M ^ k ≠ 0 := Nat.pos_iff_ne_zero.mp (Nat.pow_pos (by omega))
    have hqb := nb_pow_le (M := M) (k := k) hk
    unfold pwn
    rw [if_neg hk1]
    have hr : invR wy ng M k P = rnd wy.recip (sgp ng k) (M ^ k) (nb (M ^ k) - (P + 5)) := rfl
    obtain ⟨r1, r2, r3⟩ := rnd_bits (wy := wy.recip) (ng := sgp ng k) (M := M ^ k) (P := P + 5) hq (by omega)
    rw [← hr] at r1 r2 r3
    obtain ⟨a1, a2, a3, a4⟩ := inv_err (wy := wy) (sg := sgp ng k) (X := M ^ k) (r := invR wy ng M k P) (c := nb (M ^ k) - (P + 5) + tz (invR wy ng M k P)) (P := P) hq hr (by
      rw [Nat.add_comm, Nat.pow_add, ← Nat.mul_assoc, odp_mul r1])
    refine dv_near (c := nb (M ^ k) - (P + 5) + tz (invR wy ng M k P)) (odp_mod r1) hP hP2 (by omega) ?_ ?_ ?_ a1 a2 a3 a4
    · unfold invE; omega
    · unfold invE; omega
    · unfold invE; omega
end

section
/-- the answer of a far power, as the law asks it -/
def Far (wy : Way) (sg : Bool) (Ab Bl P : Nat) (S : Nat) (pw : Int) : Prop :=
  S % 2 = 1 ∧ nb S ≤ P ∧ pw ≤ 20000 ∧ -20000 ≤ pw ∧ Near wy sg (nearL S Bl pw) (nearR Ab pw) P
theorem c_pow_zeroX (w : World) (wy : Way) (ng : Bool) (D : Addr) (M : Nat) (e n : Int) (P : Nat) (t2 t5 t6 : Tok) (hn : n = 0) (hM : M ≠ 0) :
    Ask w 85 6 [.ref D, .int n t2, .int (P : Int) t5, .str wy.str t6] (fun h₀ L m news s Q => HasT news D (sI ng) (M : Int) e (nb M : Int) ∧ RetR 23 h₀ L m news s Q) := by
  subst hn; exact c_pow_zero w wy ng D M e P t2 t5 t6 hM
theorem c_pow_farL (w : World) (wy : Way) (ng : Bool) (D : Addr) (M : Nat) (e : Int) (k P : Nat) (t2 t5 t6 : Tok) (hM : M ≠ 0) (hM1 : M ≠ 1) (hbig : nb M ≤ 40) (hP : 1 ≤ P) (hP2 : P ≤ 1000) (hk : 3 ≤ k) (hk2 : k ≤ 48) (hs : 1000 ≤ nb M * k) (he1 : e ≤ 70) (he2 : -30 ≤ e) (ho : wy = .n ∨ wy.out (sgp ng k) = false) :
    Ask w 85 7 [.ref D, .int (k : Int) t2, .int (P : Int) t5, .str wy.str t6] (fun h₀ L m news s Q => HasT news D (sI ng) (M : Int) e (nb M : Int) ∧ ∀ S pw, Far wy (sgp ng k) (M ^ k * 2 ^ (e * (k : Int)).toNat) (2 ^ (-(e * (k : Int))).toNat) P S pw → RetT (sI (sgp ng k), (S : Int), pw, (nb S : Int)) h₀ L m news s Q) := by
  intro p loose mean mg mb dp un gd cn cs a ccd cl outer A₀ base h₀ L m news s Q E B F X N T hkf hd hu hret
  refine c_pow_loop w wy ng D M e k P t2 t5 t6 hM hM1 (by omega) hP hP2 hk (by omega) hs (by omega) (by omega) ho p loose mean mg mb dp un gd cn cs a ccd cl outer A₀ base h₀ L m news s Q E B F X N T hkf hd hu ⟨hret.1, fun pm dp hE => ?_⟩
  have hek : e * (k : Int) ≤ 5000 ∧ -5000 ≤ e * (k : Int) := by
    have h1 : e * (k : Int) ≤ 70 * (k : Int) := Int.mul_le_mul_of_nonneg_right he1 (by omega)
    have h2 : (-30) * (k : Int) ≤ e * (k : Int) := Int.mul_le_mul_of_nonneg_right he2 (by omega)
    omega
  have hb : nb M * k ≤ 5000 := Nat.le_trans (Nat.mul_le_mul hbig hk2) (by decide)
  obtain ⟨S, pw, hS, h1, h2, h3, h4, h5⟩ := loop_near (wy := wy) (sg := sgp ng k) (M := M) (k := k) (P := P) (e := e) hP hP2 hM hb (by omega) hek.1 hek.2 ho hE
  rw [hS]
  exact hret.2 S pw ⟨h1, h2, h3, h4, h5⟩
theorem c_pow_farN (w : World) (wy : Way) (ng : Bool) (D : Addr) (M : Nat) (e : Int) (k P : Nat) (t2 t5 t6 : Tok) (hM : M % 2 = 1) (hbig : nb M ≤ 40) (hP : 4 ≤ P) (hP2 : P ≤ 1000) (hk : 1 ≤ k) (hk2 : k ≤ 12) (he1 : e ≤ 70) (he2 : -30 ≤ e) :
    Ask w 85 9 [.ref D, .int (-(k : Int)) t2, .int (P : Int) t5, .str wy.str t6] (fun h₀ L m news s Q => HasT news D (sI ng) (M : Int) e (nb M : Int) ∧ ∀ S pw, Far wy (sgp ng k) (2 ^ (-(e * (k : Int))).toNat) (M ^ k * 2 ^ (e * (k : Int)).toNat) P S pw → RetT (sI (sgp ng k), (S : Int), pw, (nb S : Int)) h₀ L m news s Q) := by
  intro p loose mean mg mb dp un gd cn cs a ccd cl outer A₀ base h₀ L m news s Q E B F X N T hkf hd hu hret
  have hek : e * (k : Int) ≤ 2000 ∧ -2000 ≤ e * (k : Int) := by
    have h1 : e * (k : Int) ≤ 70 * (k : Int) := Int.mul_le_mul_of_nonneg_right he1 (by omega)
    have h2 : (-30) * (k : Int) ≤ e * (k : Int) := Int.mul_le_mul_of_nonneg_right he2 (by omega)
    omega
  have hb : nb M * k ≤ 480 := Nat.mul_le_mul hbig hk2
  obtain ⟨S, pw, hS, h1, h2, h3, h4, h5⟩ := pwn_near (wy := wy) (ng := ng) (M := M) (k := k) (P := P) (e := e) hP hP2 hM (by omega) hk hek.1 hek.2
  refine c_pow_neg w wy ng D M e k P t2 t5 t6 (by omega) (by omega) (by omega) hP2 hk (by omega) (by omega) (by omega) (by omega) p loose mean mg mb dp un gd cn cs a ccd cl outer A₀ base h₀ L m news s Q E B F X N T hkf hd hu ⟨hret.1, ?_⟩
  rw [hS]
  exact hret.2 S pw ⟨h1, h2, h3, h4, h5⟩
theorem pwn_unit {wy : Way} {ng : Bool} {e : Int} {k P : Nat} (hk : 1 ≤ k) : pwn wy ng 1 e k P = (sI (sgp ng k), 1, e * (-(k : Int)), 1) := by
  unfold pwn
  by_cases h : k = 1
  · subst h
    rw [if_pos rfl, sgp_one]
    unfold dv
    rw [if_pos rfl]
    have : e * (-((1 : Nat) : Int)) = -e := by omega
    rw [this]
  · rw [if_neg h]
    have hr : invR wy ng 1 k P = 1 := by
      unfold invR
      rw [Nat.one_pow, nb_one, show 1 - (P + 5) = 0 from by omega, rnd_zero]
    have hE : invE wy ng 1 e k P = e * (k : Int) := by
      unfold invE
      rw [hr, Nat.one_pow, nb_one, show 1 - (P + 5) = 0 from by omega, tz_odd (by decide)]
      simp
    rw [hr, hE, odp_odd (by decide)]
    unfold dv
    rw [if_pos rfl, Int.mul_neg]
theorem c_pow_negU (w : World) (wy : Way) (ng : Bool) (D : Addr) (e : Int) (k P : Nat) (t2 t5 t6 : Tok) (hP : 4 ≤ P) (hP2 : P ≤ 1000) (hk : 1 ≤ k) (hk2 : k ≤ 12) (he1 : e ≤ 70) (he2 : -30 ≤ e) :
    Ask w 85 9 [.ref D, .int (-(k : Int)) t2, .int (P : Int) t5, .str wy.str t6] (fun h₀ L m news s Q => HasT news D (sI ng) ((1 : Nat) : Int) e (nb 1 : Int) ∧ RetT (sI (sgp ng k), 1, e * (-(k : Int)), 1) h₀ L m news s Q) := by
  rw [← pwn_unit (wy := wy) (ng := ng) (e := e) (P := P) hk]
  exact c_pow_neg w wy ng D 1 e k P t2 t5 t6 (by decide) (by rw [nb_one]; decide) (by omega) hP2 hk (by omega) (by rw [nb_one]; omega) (by omega) (by omega)
/-- what the law rounds itself: the whole power -/
theorem c_rndpow (w : World) (wy : Way) (ng : Bool) (M : Nat) (e Z x : Int) (k P : Nat) (t1 t2 t3 t4 : Tok) (hZ : Z = (-1) ^ (sI (sgp ng k)).toNat * (M : Int) ^ k) (hx : x = e * (k : Int)) (hM : M ≠ 0) (hbig : nb (M ^ k) ≤ 9000) (hP : 1 ≤ P) :
    Ask w 106 4 [.int Z t1, .int x t2, .int (P : Int) t3, .str wy.str t4] (RetT (pwr wy ng M e k P)) := by
  have hq : M ^ k ≠ 0 := Nat.pos_iff_ne_zero.mp (Nat.pow_pos (by omega))
  have hqi : (M : Int) ^ k = ((M ^ k : Nat) : Int) := by simp
  have hZ2 : Z = if sgp ng k then -((M ^ k : Nat) : Int) else ((M ^ k : Nat) : Int) := by
    rw [hZ, hqi]
    cases sgp ng k
    · show (-1) ^ 0 * _ = _
      rw [Int.pow_zero, Int.one_mul]; rfl
    · show (-1) ^ 1 * _ = _
      rw [Int.pow_succ, Int.pow_zero, Int.one_mul, Int.neg_one_mul]; rfl
  have h0 : Z ≠ 0 := by rw [hZ2]; split <;> omega
  have ha : Z.natAbs = M ^ k := by rw [hZ2]; split <;> omega
  have hd : decide (Z < 0) = sgp ng k := by
    rw [hZ2]
    cases sgp ng k
    · exact decide_eq_false (by simp; omega)
    · exact decide_eq_true (by simp; omega)
  subst hx
  have := c_rounded w wy Z (e * (k : Int)) P t1 t2 t3 t4 h0 (by rw [ha]; exact hbig) hP
  rw [ha, hd] at this
  exact this
theorem pwr_zero {wy : Way} {ng : Bool} {M P : Nat} {e : Int} (hP : 1 ≤ P) : pwr wy ng M e 0 P = (0, 1, 0, 1) := by
  unfold pwr
  have h : sgp ng 0 = false := by unfold sgp; simp
  rw [h, Nat.pow_zero, nb_one, show 1 - P = 0 from by omega, rnd_zero]
  unfold told
  rw [odp_odd (by decide), tz_odd (by decide), nb_one]
  simp [sI]
theorem c_rndone (w : World) (wy : Way) (Z x : Int) (P : Nat) (t1 t2 t3 t4 : Tok) (hZ : Z = 1) (hx : x = 0) (hP : 1 ≤ P) :
    Ask w 106 4 [.int Z t1, .int x t2, .int (P : Int) t3, .str wy.str t4] (RetT (0, 1, 0, 1)) := by
  have := c_rndpow w wy false 1 0 Z x 0 P t1 t2 t3 t4 (by rw [hZ]; simp [sgp, sI]) (by rw [hx]; simp) (by decide) (by rw [Nat.pow_zero, nb_one]; decide) hP
  rw [pwr_zero hP] at this
  exact this
end

section
theorem partC11 : True := by w_top off; trivial
local macro_rules | `(tactic| walk_at "idle") => `(tactic| skip)
local macro_rules | `(tactic| walk_at "idle") => `(tactic| skip)
local macro_rules | `(tactic| walk_at "idle") => `(tactic| skip)
local macro_rules | `(tactic| walk_at "idle") => `(tactic| skip)
local macro_rules | `(tactic| walk_at "idle") => `(tactic| skip)
local macro_rules | `(tactic| walk_at "idle") => `(tactic| skip)
local macro_rules | `(tactic| walk_at "idle") => `(tactic| skip)
local macro_rules | `(tactic| walk_at "idle") => `(tactic| skip)
local macro_rules | `(tactic| walk_at "idle") => `(tactic| skip)
local macro_rules | `(tactic| walk_at "idle") => `(tactic| skip)
local macro_rules | `(tactic| walk_at "idle") => `(tactic| skip)
local macro_rules | `(tactic| walk_at "idle") => `(tactic| skip)
local macro_rules | `(tactic| walk_at "idle") => `(tactic| skip)
local macro_rules | `(tactic| walk_at "idle") => `(tactic| skip)
local macro_rules | `(tactic| walk_at "idle") => `(tactic| skip)
local macro_rules | `(tactic| walk_at "idle") => `(tactic| skip)
local macro_rules | `(tactic| walk_at "idle") => `(tactic| skip)
local macro_rules | `(tactic| walk_at "idle") => `(tactic| skip)
local macro_rules | `(tactic| walk_at "idle") => `(tactic| skip)
local macro_rules | `(tactic| walk_at "idle") => `(tactic| skip)
local macro_rules | `(tactic| walk_at "idle") => `(tactic| skip)
local macro_rules | `(tactic| walk_at "idle") => `(tactic| skip)
local macro_rules | `(tactic| walk_at "idle") => `(tactic| skip)
local macro_rules | `(tactic| walk_at "idle") => `(tactic| skip)
local macro_rules | `(tactic| walk_at "idle") => `(tactic| skip)
local macro_rules | `(tactic| walk_at "idle") => `(tactic| skip)
local macro_rules | `(tactic| walk_at "idle") => `(tactic| skip)
local macro_rules | `(tactic| walk_at "idle") => `(tactic| skip)
local macro_rules | `(tactic| walk_at "idle") => `(tactic| skip)
local macro_rules | `(tactic| walk_at "idle") => `(tactic| skip)
local macro_rules | `(tactic| walk_at "idle") => `(tactic| skip)
local macro_rules | `(tactic| walk_at "idle") => `(tactic| skip)
local macro_rules | `(tactic| walk_at "idle") => `(tactic| skip)
local macro_rules | `(tactic| walk_at "idle") => `(tactic| skip)
local macro_rules | `(tactic| walk_at "idle") => `(tactic| skip)
local macro_rules | `(tactic| walk_at "idle") => `(tactic| skip)
local macro_rules | `(tactic| walk_at "idle") => `(tactic| skip)
local macro_rules | `(tactic| walk_at "idle") => `(tactic| skip)
local macro_rules | `(tactic| walk_at "idle") => `(tactic| skip)
local macro_rules | `(tactic| walk_at "idle") => `(tactic| skip)
local macro_rules | `(tactic| walk_at "idle") => `(tactic| skip)
local macro_rules | `(tactic| walk_at "idle") => `(tactic| skip)
local macro_rules | `(tactic| walk_at "idle") => `(tactic| skip)
local macro_rules | `(tactic| walk_at "idle") => `(tactic| skip)
local macro_rules | `(tactic| walk_at "idle") => `(tactic| skip)
local macro_rules | `(tactic| walk_at "idle") => `(tactic| skip)
local macro_rules | `(tactic| walk_at "idle") => `(tactic| skip)
local macro_rules | `(tactic| walk_at "idle") => `(tactic| skip)
local macro_rules | `(tactic| walk_at "idle") => `(tactic| skip)
local macro_rules | `(tactic| walk_at "idle") => `(tactic| skip)
local macro_rules | `(tactic| walk_at "idle") => `(tactic| skip)
local macro_rules | `(tactic| walk_at "idle") => `(tactic| skip)
local macro_rules | `(tactic| walk_at "idle") => `(tactic| skip)
local macro_rules | `(tactic| walk_at "idle") => `(tactic| skip)
local macro_rules | `(tactic| walk_at "idle") => `(tactic| skip)
local macro_rules | `(tactic| walk_at "idle") => `(tactic| skip)
local macro_rules | `(tactic| walk_at "idle") => `(tactic| skip)
set_option maxHeartbeats 4000000
local macro_rules | `(tactic| walk_at "execs cons") => `(tactic| (k_here; (with_reducible show wpAny _ _ _ _ _ (Shared.mk _ _ _ (_ + _) _)); refine gen_toks ?_; intro tk))
local macro_rules | `(tactic| walk_at "execs nil") => `(tactic| (k_here; (with_reducible show wpAny _ _ _ _ _ (Shared.mk _ _ _ (_ + _) _)); refine gen_toks ?_; intro tk))
local macro_rules | `(tactic| walk_at "ite") => `(tactic| (k_here; first
  | (refine ite_pos (by (simp only [bne_iff_ne, ne_eq, beq_iff_eq, decide_eq_true_eq, decide_eq_false_iff_not, Bool.and_eq_true, Bool.or_eq_true, Bool.not_eq_true', beq_eq_false_iff_ne, bne_eq_false_iff_eq]; first | done | omega)) ?_; walk_say "BY THE FACTS")
  | (refine ite_neg (by (simp only [bne_iff_ne, ne_eq, beq_iff_eq, decide_eq_true_eq, decide_eq_false_iff_not, Bool.and_eq_true, Bool.or_eq_true, Bool.not_eq_true', beq_eq_false_iff_ne, bne_eq_false_iff_eq]; first | done | omega)) ?_; walk_say "BY THE FACTS")))

theorem c_norm0_z (w : World) (rs : Str) (sg man e bc prec : Int) (t1 t2 t3 t4 t5 t6 : Tok) (hm : man = 0) :
    Ask w 38 2 [.int sg t1, .int man t2, .int e t3, .int bc t4, .int prec t5, .str rs t6] (RetR 22) := by
  subst hm
  unfold Ask
  k_fill
  intro p loose mean mg mb dp un gd cn cs a ccd cl outer A₀ base h₀ L m news s Q E B F X N T hk hd hu hret
  refine wpAny_call ?_
  k_dflt (refine' code_def ?k1 ?k2 ?k3 ?k4 ?k5 ?kA ?kF ?kK ?k6 ?k7 ?k8 ?k9 ?kB ?_ ?c2 ?c3 ?c4 ?c5; (case kA => exact rfl); (case kF => exact rfl); (case kK => assumption); (case k1 => k_asm); (case k2 => k_asm); (case k3 => k_asm); (case k4 => k_asm); (case k5 => k_asm); (case k6 => k_is); (case k7 => k_is); (case k8 => ktr_room); (case k9 => first | exact BindsTo.of_eq rfl | exact binds_K (by k_in) rfl (by k_is) rfl rfl rfl); (case c5 => decide); (case kB => exact locs rfl); (case c2 => exact rfl); (case c3 => exact rfl); (case c4 => exact rfl); k_whole; intro g L1 h1 FG F1 N1 B1 X1 T1; (try dsimp only); (try k_fold))
  refine wpAny_noRaise ?_
  k_steps
  all_goals first
    | (exfalso; omega)
    | (refine' endR hret ?F ?N (fun _ h => h)
       case F => assumption
       case N => assumption)
local macro_rules | `(tactic| walk_at "call ref") => `(tactic| (k_here; (with_reducible show wpAny _ _ (call (Value.ref 38) _) _ _ _); k_dflt (refine' Ask.use (c_norm0_z _ _ _ _ _ _ _ _ _ _ _ _ _ ?p1) ?k1 ?k2 ?k3 ?k4 ?k5 ?k6 ?kd ?ku ?_; (case k1 => k_asm); (case k2 => k_asm); (case k3 => k_asm); (case k4 => k_asm); (case k5 => k_asm); (case k6 => first | exact rfl | assumption); (case kd => ktr_room); (case ku => ktr_units); (case p1 => first | exact rfl | assumption); k_whole); intro h9 tk9 F9 N9; (try dsimp only); (try k_fold)))

theorem c_norm_z (w : World) (rs : Str) (sg man e bc prec : Int) (t1 t2 t3 t4 t5 t6 : Tok) (hm : man = 0) (hb : bc = 0) :
    Ask w 45 3 [.int sg t1, .int man t2, .int e t3, .int bc t4, .int prec t5, .str rs t6] (RetR 22) := by
  subst hm; subst hb
  unfold Ask
  k_fill
  intro p loose mean mg mb dp un gd cn cs a ccd cl outer A₀ base h₀ L m news s Q E B F X N T hk hd hu hret
  refine wpAny_call ?_
  k_dflt (refine' code_def ?k1 ?k2 ?k3 ?k4 ?k5 ?kA ?kF ?kK ?k6 ?k7 ?k8 ?k9 ?kB ?_ ?c2 ?c3 ?c4 ?c5; (case kA => exact rfl); (case kF => exact rfl); (case kK => assumption); (case k1 => k_asm); (case k2 => k_asm); (case k3 => k_asm); (case k4 => k_asm); (case k5 => k_asm); (case k6 => k_is); (case k7 => k_is); (case k8 => ktr_room); (case k9 => first | exact BindsTo.of_eq rfl | exact binds_K (by k_in) rfl (by k_is) rfl rfl rfl); (case c5 => decide); (case kB => exact locs rfl); (case c2 => exact rfl); (case c3 => exact rfl); (case c4 => exact rfl); k_whole; intro g L1 h1 FG F1 N1 B1 X1 T1; (try dsimp only); (try k_fold))
  refine wpAny_noRaise ?_
  k_steps
  all_goals first
    | (exfalso; omega)
    | (refine' endR hret ?F ?N (fun _ h => h)
       case F => assumption
       case N => assumption)
local macro_rules | `(tactic| walk_at "call ref") => `(tactic| (k_here; (with_reducible show wpAny _ _ (call (Value.ref 45) _) _ _ _); k_dflt (refine' Ask.use (c_norm_z _ _ _ _ _ _ _ _ _ _ _ _ _ ?p1 ?p2) ?k1 ?k2 ?k3 ?k4 ?k5 ?k6 ?kd ?ku ?_; (case k1 => k_asm); (case k2 => k_asm); (case k3 => k_asm); (case k4 => k_asm); (case k5 => k_asm); (case k6 => first | exact rfl | assumption); (case kd => ktr_room); (case ku => ktr_units); (case p1 => first | exact rfl | assumption); (case p2 => first | exact rfl | assumption); k_whole); intro h9 tk9 F9 N9; (try dsimp only); (try k_fold)))

theorem c_pos_z (w : World) (rs : Str) (prec : Int) (t5 t6 : Tok) (hp : 1 ≤ prec) :
    Ask w 61 4 [.ref 22, .int prec t5, .str rs t6] (RetR 22) := by
  unfold Ask
  k_fill
  intro p loose mean mg mb dp un gd cn cs a ccd cl outer A₀ base h₀ L m news s Q E B F X N T hk hd hu hret
  refine wpAny_call ?_
  k_dflt (refine' code_def ?k1 ?k2 ?k3 ?k4 ?k5 ?kA ?kF ?kK ?k6 ?k7 ?k8 ?k9 ?kB ?_ ?c2 ?c3 ?c4 ?c5; (case kA => exact rfl); (case kF => exact rfl); (case kK => assumption); (case k1 => k_asm); (case k2 => k_asm); (case k3 => k_asm); (case k4 => k_asm); (case k5 => k_asm); (case k6 => k_is); (case k7 => k_is); (case k8 => ktr_room); (case k9 => first | exact BindsTo.of_eq rfl | exact binds_K (by k_in) rfl (by k_is) rfl rfl rfl); (case c5 => decide); (case kB => exact locs rfl); (case c2 => exact rfl); (case c3 => exact rfl); (case c4 => exact rfl); k_whole; intro g L1 h1 FG F1 N1 B1 X1 T1; (try dsimp only); (try k_fold))
  refine wpAny_noRaise ?_
  k_steps
  all_goals first
    | (exfalso; omega)
    | (refine' endR hret ?F ?N (fun _ h => h)
       case F => assumption
       case N => assumption)
local macro_rules | `(tactic| walk_at "call ref") => `(tactic| (k_here; (with_reducible show wpAny _ _ (call (Value.ref 61) _) _ _ _); k_dflt (refine' Ask.use (c_pos_z _ _ _ _ _ ?p1) ?k1 ?k2 ?k3 ?k4 ?k5 ?k6 ?kd ?ku ?_; (case k1 => k_asm); (case k2 => k_asm); (case k3 => k_asm); (case k4 => k_asm); (case k5 => k_asm); (case k6 => first | exact rfl | assumption); (case kd => ktr_room); (case ku => ktr_units); (case p1 => assumption); k_whole); intro h9 tk9 F9 N9; (try dsimp only); (try k_fold)))

theorem c_pow_z (w : World) (rs : Str) (n prec : Int) (t2 t5 t6 : Tok) (hn : 1 ≤ n) (hn2 : n ≤ 48) (hp : 1 ≤ prec) :
    Ask w 85 6 [.ref 22, .int n t2, .int prec t5, .str rs t6] (RetR 22) := by
  unfold Ask
  k_fill
  intro p loose mean mg mb dp un gd cn cs a ccd cl outer A₀ base h₀ L m news s Q E B F X N T hk hd hu hret
  refine wpAny_call ?_
  k_dflt (refine' code_def ?k1 ?k2 ?k3 ?k4 ?k5 ?kA ?kF ?kK ?k6 ?k7 ?k8 ?k9 ?kB ?_ ?c2 ?c3 ?c4 ?c5; (case kA => exact rfl); (case kF => exact rfl); (case kK => assumption); (case k1 => k_asm); (case k2 => k_asm); (case k3 => k_asm); (case k4 => k_asm); (case k5 => k_asm); (case k6 => k_is); (case k7 => k_is); (case k8 => ktr_room); (case k9 => first | exact BindsTo.of_eq rfl | exact binds_K (by k_in) rfl (by k_is) rfl rfl rfl); (case c5 => decide); (case kB => exact locs rfl); (case c2 => exact rfl); (case c3 => exact rfl); (case c4 => exact rfl); k_whole; intro g L1 h1 FG F1 N1 B1 X1 T1; (try dsimp only); (try k_fold))
  refine wpAny_noRaise ?_
  have hz : (0 : Int) ^ n.toNat = 0 := Int.zero_pow (by omega)
  have hz2 : ((Builtin.Int.intBits ((0 : Int) ^ n.toNat) : Nat) : Int) = 0 := by rw [hz]; rfl
  have hz3 : ((Builtin.Int.intBits 0 : Nat) : Int) * n ≤ 2 ^ 27 := by
    have : Builtin.Int.intBits 0 = 0 := by decide
    rw [this]; omega
  k_steps
  all_goals first
    | (exfalso; omega)
    | (refine' endR hret ?F ?N (fun _ h => h)
       case F => assumption
       case N => assumption)
theorem c_pow_z0 (w : World) (rs : Str) (n prec : Int) (t2 t5 t6 : Tok) (hn : n = 0) :
    Ask w 85 6 [.ref 22, .int n t2, .int prec t5, .str rs t6] (RetR 23) := by
  subst hn
  unfold Ask
  k_fill
  intro p loose mean mg mb dp un gd cn cs a ccd cl outer A₀ base h₀ L m news s Q E B F X N T hk hd hu hret
  refine wpAny_call ?_
  k_dflt (refine' code_def ?k1 ?k2 ?k3 ?k4 ?k5 ?kA ?kF ?kK ?k6 ?k7 ?k8 ?k9 ?kB ?_ ?c2 ?c3 ?c4 ?c5; (case kA => exact rfl); (case kF => exact rfl); (case kK => assumption); (case k1 => k_asm); (case k2 => k_asm); (case k3 => k_asm); (case k4 => k_asm); (case k5 => k_asm); (case k6 => k_is); (case k7 => k_is); (case k8 => ktr_room); (case k9 => first | exact BindsTo.of_eq rfl | exact binds_K (by k_in) rfl (by k_is) rfl rfl rfl); (case c5 => decide); (case kB => exact locs rfl); (case c2 => exact rfl); (case c3 => exact rfl); (case c4 => exact rfl); k_whole; intro g L1 h1 FG F1 N1 B1 X1 T1; (try dsimp only); (try k_fold))
  refine wpAny_noRaise ?_
  k_steps
  all_goals first
    | (exfalso; omega)
    | (refine' endR hret ?F ?N (fun _ h => h)
       case F => assumption
       case N => assumption)

theorem c_told_z (w : World) (Z e : Int) (t1 t2 : Tok) (hZ : Z = 0) :
    Ask w 99 2 [.int Z t1, .int e t2] (RetT (0, 0, 0, 0)) := by
  subst hZ
  unfold Ask
  k_fill
  intro p loose mean mg mb dp un gd cn cs a ccd cl outer A₀ base h₀ L m news s Q E B F X N T hk hd hu hret
  refine wpAny_call ?_
  k_dflt (refine' code_def ?k1 ?k2 ?k3 ?k4 ?k5 ?kA ?kF ?kK ?k6 ?k7 ?k8 ?k9 ?kB ?_ ?c2 ?c3 ?c4 ?c5; (case kA => exact rfl); (case kF => exact rfl); (case kK => assumption); (case k1 => k_asm); (case k2 => k_asm); (case k3 => k_asm); (case k4 => k_asm); (case k5 => k_asm); (case k6 => k_is); (case k7 => k_is); (case k8 => ktr_room); (case k9 => first | exact BindsTo.of_eq rfl | exact binds_K (by k_in) rfl (by k_is) rfl rfl rfl); (case c5 => decide); (case kB => exact locs rfl); (case c2 => exact rfl); (case c3 => exact rfl); (case c4 => exact rfl); k_whole; intro g L1 h1 FG F1 N1 B1 X1 T1; (try dsimp only); (try k_fold))
  refine wpAny_noRaise ?_
  k_steps
  refine' endT hret ?F ?N (fun _ h => h) ?E
  case F => assumption
  case N => assumption
  case E => exact rfl
local macro_rules | `(tactic| walk_at "call ref") => `(tactic| (k_here; (with_reducible show wpAny _ _ (call (Value.ref 99) _) _ _ _); k_dflt (refine' Ask.use (c_told_z _ _ _ _ _ ?p1) ?k1 ?k2 ?k3 ?k4 ?k5 ?k6 ?kd ?ku ?_; (case k1 => k_asm); (case k2 => k_asm); (case k3 => k_asm); (case k4 => k_asm); (case k5 => k_asm); (case k6 => first | exact rfl | assumption); (case kd => ktr_room); (case ku => ktr_units); (case p1 => first | exact rfl | assumption); k_whole); intro D9 u1 u2 u3 u4 h9 tk9 F9 N9; (try dsimp only); (try k_fold)))

theorem c_rounded_z (w : World) (rs : Str) (Z e prec : Int) (t1 t2 t3 t4 : Tok) (hZ : Z = 0) (hp : 1 ≤ prec) :
    Ask w 106 4 [.int Z t1, .int e t2, .int prec t3, .str rs t4] (RetT (0, 0, 0, 0)) := by
  subst hZ
  unfold Ask
  k_fill
  intro p loose mean mg mb dp un gd cn cs a ccd cl outer A₀ base h₀ L m news s Q E B F X N T hk hd hu hret
  refine wpAny_call ?_
  k_dflt (refine' code_def ?k1 ?k2 ?k3 ?k4 ?k5 ?kA ?kF ?kK ?k6 ?k7 ?k8 ?k9 ?kB ?_ ?c2 ?c3 ?c4 ?c5; (case kA => exact rfl); (case kF => exact rfl); (case kK => assumption); (case k1 => k_asm); (case k2 => k_asm); (case k3 => k_asm); (case k4 => k_asm); (case k5 => k_asm); (case k6 => k_is); (case k7 => k_is); (case k8 => ktr_room); (case k9 => first | exact BindsTo.of_eq rfl | exact binds_K (by k_in) rfl (by k_is) rfl rfl rfl); (case c5 => decide); (case kB => exact locs rfl); (case c2 => exact rfl); (case c3 => exact rfl); (case c4 => exact rfl); k_whole; intro g L1 h1 FG F1 N1 B1 X1 T1; (try dsimp only); (try k_fold))
  refine wpAny_noRaise ?_
  have hz : ((Builtin.Int.intBits (if (0 : Int) < 0 then -0 else 0) : Nat) : Int) = 0 := by decide
  k_steps
  refine' endT hret ?F ?N (fun _ h => h) ?E
  case F => assumption
  case N => assumption
  case E => exact rfl
end

section
theorem partL1 : True := by w_top off; trivial
local macro_rules | `(tactic| walk_at "idle") => `(tactic| skip)
local macro_rules | `(tactic| walk_at "idle") => `(tactic| skip)
local macro_rules | `(tactic| walk_at "idle") => `(tactic| skip)
local macro_rules | `(tactic| walk_at "idle") => `(tactic| skip)
local macro_rules | `(tactic| walk_at "idle") => `(tactic| skip)
local macro_rules | `(tactic| walk_at "idle") => `(tactic| skip)
local macro_rules | `(tactic| walk_at "idle") => `(tactic| skip)
local macro_rules | `(tactic| walk_at "idle") => `(tactic| skip)
local macro_rules | `(tactic| walk_at "idle") => `(tactic| skip)
local macro_rules | `(tactic| walk_at "idle") => `(tactic| skip)
local macro_rules | `(tactic| walk_at "idle") => `(tactic| skip)
local macro_rules | `(tactic| walk_at "idle") => `(tactic| skip)
local macro_rules | `(tactic| walk_at "idle") => `(tactic| skip)
local macro_rules | `(tactic| walk_at "idle") => `(tactic| skip)
local macro_rules | `(tactic| walk_at "idle") => `(tactic| skip)
local macro_rules | `(tactic| walk_at "idle") => `(tactic| skip)
local macro_rules | `(tactic| walk_at "idle") => `(tactic| skip)
local macro_rules | `(tactic| walk_at "idle") => `(tactic| skip)
local macro_rules | `(tactic| walk_at "idle") => `(tactic| skip)
local macro_rules | `(tactic| walk_at "idle") => `(tactic| skip)
local macro_rules | `(tactic| walk_at "idle") => `(tactic| skip)
local macro_rules | `(tactic| walk_at "idle") => `(tactic| skip)
local macro_rules | `(tactic| walk_at "idle") => `(tactic| skip)
local macro_rules | `(tactic| walk_at "idle") => `(tactic| skip)
local macro_rules | `(tactic| walk_at "idle") => `(tactic| skip)
local macro_rules | `(tactic| walk_at "idle") => `(tactic| skip)
local macro_rules | `(tactic| walk_at "idle") => `(tactic| skip)
local macro_rules | `(tactic| walk_at "idle") => `(tactic| skip)
local macro_rules | `(tactic| walk_at "idle") => `(tactic| skip)
local macro_rules | `(tactic| walk_at "idle") => `(tactic| skip)
local macro_rules | `(tactic| walk_at "idle") => `(tactic| skip)
local macro_rules | `(tactic| walk_at "idle") => `(tactic| skip)
local macro_rules | `(tactic| walk_at "idle") => `(tactic| skip)
local macro_rules | `(tactic| walk_at "idle") => `(tactic| skip)
local macro_rules | `(tactic| walk_at "idle") => `(tactic| skip)
local macro_rules | `(tactic| walk_at "idle") => `(tactic| skip)
local macro_rules | `(tactic| walk_at "idle") => `(tactic| skip)
local macro_rules | `(tactic| walk_at "idle") => `(tactic| skip)
local macro_rules | `(tactic| walk_at "idle") => `(tactic| skip)
local macro_rules | `(tactic| walk_at "idle") => `(tactic| skip)
local macro_rules | `(tactic| walk_at "idle") => `(tactic| skip)
local macro_rules | `(tactic| walk_at "idle") => `(tactic| skip)
local macro_rules | `(tactic| walk_at "idle") => `(tactic| skip)
local macro_rules | `(tactic| walk_at "idle") => `(tactic| skip)
local macro_rules | `(tactic| walk_at "idle") => `(tactic| skip)
local macro_rules | `(tactic| walk_at "idle") => `(tactic| skip)
local macro_rules | `(tactic| walk_at "idle") => `(tactic| skip)
local macro_rules | `(tactic| walk_at "idle") => `(tactic| skip)
local macro_rules | `(tactic| walk_at "idle") => `(tactic| skip)
local macro_rules | `(tactic| walk_at "idle") => `(tactic| skip)
local macro_rules | `(tactic| walk_at "idle") => `(tactic| skip)
local macro_rules | `(tactic| walk_at "idle") => `(tactic| skip)
local macro_rules | `(tactic| walk_at "idle") => `(tactic| skip)
local macro_rules | `(tactic| walk_at "idle") => `(tactic| skip)
local macro_rules | `(tactic| walk_at "idle") => `(tactic| skip)
local macro_rules | `(tactic| walk_at "idle") => `(tactic| skip)
local macro_rules | `(tactic| walk_at "idle") => `(tactic| skip)
local macro_rules | `(tactic| walk_at "idle") => `(tactic| skip)
local macro_rules | `(tactic| walk_at "idle") => `(tactic| skip)
local macro_rules | `(tactic| walk_at "idle") => `(tactic| skip)
local macro_rules | `(tactic| walk_at "idle") => `(tactic| skip)
local macro_rules | `(tactic| walk_at "idle") => `(tactic| skip)
local macro_rules | `(tactic| walk_at "idle") => `(tactic| skip)
local macro_rules | `(tactic| walk_at "idle") => `(tactic| skip)
local macro_rules | `(tactic| walk_at "idle") => `(tactic| skip)
set_option maxHeartbeats 8000000
local macro_rules | `(tactic| walk_at "execs cons") => `(tactic| (k_here; (with_reducible show wpAny _ _ _ _ _ (Shared.mk _ _ _ (_ + _) _)); refine gen_toks ?_; intro tk))
local macro_rules | `(tactic| walk_at "execs nil") => `(tactic| (k_here; (with_reducible show wpAny _ _ _ _ _ (Shared.mk _ _ _ (_ + _) _)); refine gen_toks ?_; intro tk))
local macro_rules | `(tactic| walk_at "ite") => `(tactic| (k_here; first
  | (refine ite_pos (by (simp only [bne_iff_ne, ne_eq, beq_iff_eq, decide_eq_true_eq, decide_eq_false_iff_not, Bool.and_eq_true, Bool.or_eq_true, Bool.not_eq_true', beq_eq_false_iff_ne, bne_eq_false_iff_eq]; first | done | omega)) ?_; walk_say "BY THE FACTS")
  | (refine ite_neg (by (simp only [bne_iff_ne, ne_eq, beq_iff_eq, decide_eq_true_eq, decide_eq_false_iff_not, Bool.and_eq_true, Bool.or_eq_true, Bool.not_eq_true', beq_eq_false_iff_ne, bne_eq_false_iff_eq]; first | done | omega)) ?_; walk_say "BY THE FACTS")))
local macro_rules | `(tactic| walk_at "call ref") => `(tactic| (k_here; (with_reducible show wpAny _ _ (call (Value.ref 92) _) _ _ _); k_dflt (refine' Ask.use (c_num _ _ _ _ ?p1 ?p2) ?k1 ?k2 ?k3 ?k4 ?k5 ?k6 ?kd ?ku ⟨⟨_, _, ?kt, ?kl, ?kn⟩, ?_⟩; (case k1 => k_asm); (case k2 => k_asm); (case k3 => k_asm); (case k4 => k_asm); (case k5 => k_asm); (case k6 => first | exact rfl | assumption); (case kd => ktr_room); (case ku => ktr_units); (case kt => first | assumption | exact List.Mem.head _ | exact List.Mem.tail _ (List.Mem.head _)); (case kl => assumption); (case kn => first | assumption | omega | (simp only [List.length_take]; omega)); (case p1 => omega); (case p2 => omega); k_whole); intro k9 t9 h9 tk9 F9 N9; (try dsimp only); (try k_fold)))
def LawA (g : Heap) (L : Addr) (s : Shared) (news : List (Addr × Obj)) (wy : Way) (Z p n : Int) (P : Nat) (s' : Shared) : Prop :=
  ∃ t1 t2 t3 t4 t5 : Tok, Vars g L s news [(Str.ofString "whole", .int Z t1), (Str.ofString "power", .int p t2), (Str.ofString "many", .int n t3), (Str.ofString "most", .int (P : Int) t4), (Str.ofString "way", .str wy.str t5)] s'
theorem LawA.intro {g h : Heap} {L : Addr} {s : Shared} {news news' : List (Addr × Obj)} {wy : Way} {Z p n : Int} {P : Nat} {m : Str → Option Value} {tk : Nat} {t1 t2 t3 t4 t5 : Tok}
    (F : Fr g L h m) (N : News g L h news') (hs : ∀ p ∈ news, p ∈ news') (h1 : m (Str.ofString "whole") = some (.int Z t1)) (h2 : m (Str.ofString "power") = some (.int p t2)) (h3 : m (Str.ofString "many") = some (.int n t3)) (h4 : m (Str.ofString "most") = some (.int (P : Int) t4)) (h5 : m (Str.ofString "way") = some (.str wy.str t5)) :
    LawA g L s news wy Z p n P { s with heap := h, toks := tk } := ⟨t1, t2, t3, t4, t5, Vars.intro F N hs ⟨h1, h2, h3, h4, h5, trivial⟩⟩

def LawOK (g : Heap) (L : Addr) (s : Shared) (s' : Shared) : Prop := ∃ (Z p n : Int) (P : Nat) (wy : Way), (-1000000000000 < Z ∧ Z < 1000000000000) ∧ (-30 ≤ p ∧ p ≤ 30) ∧ (-12 ≤ n ∧ n ≤ 48) ∧ (4 ≤ P ∧ P ≤ 53) ∧ LawA g L s [] wy Z p n P s'
/-- the script's copy and two numbers -/
def LawS (g : Heap) (L : Addr) (s : Shared) (A : Int → Int → Prop) (s' : Shared) : Prop :=
  ∃ (l : Addr) (ws : List Value) (ks : List Int) (x k : Int) (t1 t2 : Tok), A x k ∧ IntsAre ws ks ∧ ks.length ≤ 24 ∧ Vars g L s [(l, PySem.W.listOf ws.toArray 0)] [(Str.ofString "script", .ref l), (Str.ofString "whole", .int x t1), (Str.ofString "kind", .int k t2)] s'
theorem LawS.intro {g h : Heap} {L : Addr} {s : Shared} {A : Int → Int → Prop} {news' : List (Addr × Obj)} {l : Addr} {ws : List Value} {ks : List Int} {x k : Int} {m : Str → Option Value} {tk : Nat} {t1 t2 : Tok}
    (F : Fr g L h m) (N : News g L h news') (hs : ∀ p ∈ [(l, PySem.W.listOf ws.toArray 0)], p ∈ news') (hA : A x k) (hI : IntsAre ws ks) (hl : ks.length ≤ 24)
    (h1 : m (Str.ofString "script") = some (.ref l)) (h2 : m (Str.ofString "whole") = some (.int x t1)) (h3 : m (Str.ofString "kind") = some (.int k t2)) : LawS g L s A { s with heap := h, toks := tk } :=
  ⟨l, ws, ks, x, k, t1, t2, hA, hI, hl, Vars.intro F N hs ⟨h1, h2, h3, trivial⟩⟩

def LawT (g : Heap) (L : Addr) (s : Shared) (s' : Shared) : Prop :=
  ∃ (l : Addr) (ws : List Value) (ks : List Int) (Z p n : Int) (t1 t2 t3 : Tok), ((-1000000000000 < Z ∧ Z < 1000000000000) ∧ (-30 ≤ p ∧ p ≤ 30) ∧ (-12 ≤ n ∧ n ≤ 48)) ∧ IntsAre ws ks ∧ ks.length ≤ 24 ∧ Vars g L s [(l, PySem.W.listOf ws.toArray 0)] [(Str.ofString "script", .ref l), (Str.ofString "whole", .int Z t1), (Str.ofString "power", .int p t2), (Str.ofString "many", .int n t3)] s'
theorem LawT.intro {g h : Heap} {L : Addr} {s : Shared} {news' : List (Addr × Obj)} {l : Addr} {ws : List Value} {ks : List Int} {Z p n : Int} {m : Str → Option Value} {tk : Nat} {t1 t2 t3 : Tok}
    (F : Fr g L h m) (N : News g L h news') (hs : ∀ p ∈ [(l, PySem.W.listOf ws.toArray 0)], p ∈ news') (hA : (-1000000000000 < Z ∧ Z < 1000000000000) ∧ (-30 ≤ p ∧ p ≤ 30) ∧ (-12 ≤ n ∧ n ≤ 48)) (hI : IntsAre ws ks) (hl : ks.length ≤ 24)
    (h1 : m (Str.ofString "script") = some (.ref l)) (h2 : m (Str.ofString "whole") = some (.int Z t1)) (h3 : m (Str.ofString "power") = some (.int p t2)) (h4 : m (Str.ofString "many") = some (.int n t3)) : LawT g L s { s with heap := h, toks := tk } :=
  ⟨l, ws, ks, Z, p, n, t1, t2, t3, hA, hI, hl, Vars.intro F N hs ⟨h1, h2, h3, h4, trivial⟩⟩
theorem sub0 {α : Type} {a b : α} {l : List α} : ∀ p ∈ [a], p ∈ b :: a :: l := fun _ h => List.Mem.tail _ (by rw [List.mem_singleton.mp h]; exact List.Mem.head _)
theorem sub1 {α : Type} {a : α} {l : List α} : ∀ p ∈ [a], p ∈ a :: l := fun _ h => by rw [List.mem_singleton.mp h]; exact List.Mem.head _
theorem fmodR (x : Int) (k : Nat) (hk : 0 < k) : 0 ≤ x.fmod (k : Int) ∧ x.fmod (k : Int) < (k : Int) := ⟨Int.fmod_nonneg_of_pos x (by omega), Int.fmod_lt_of_pos x (by omega)⟩
theorem fmod30 (x : Int) : 0 ≤ x.fmod 30 := Int.fmod_nonneg_of_pos x (by decide)
theorem pw30 (x : Int) : ((Builtin.Int.intBits 2 : Nat) : Int) * x.fmod 30 ≤ 2 ^ 27 := by
  have : x.fmod 30 < 30 := Int.fmod_lt_of_pos x (by decide)
  rw [bits_two]; omega
local macro_rules | `(tactic| walk_at "binaryOp Pow int int") => `(tactic| (k_here; with_reducible refine pow_int (fmod30 _) (pw30 _) ?_))
theorem menu_ok {x k : Int} (h0 : 0 ≤ k) (h5 : k < 5) :
    0 ≤ [x.fmod (10 ^ Int.toNat 12), x.fmod 1000, x.fmod (10 ^ Int.toNat 12), 2 ^ (x.fmod 30).toNat, x.fmod 3].getD k.toNat 0 ∧ [x.fmod (10 ^ Int.toNat 12), x.fmod 1000, x.fmod (10 ^ Int.toNat 12), 2 ^ (x.fmod 30).toNat, x.fmod 3].getD k.toNat 0 < 1000000000000 := by
  have e : (10 : Int) ^ Int.toNat 12 = ((1000000000000 : Nat) : Int) := by decide
  have a := fmodR x 1000000000000 (by decide)
  have b : 0 ≤ x.fmod 1000 ∧ x.fmod 1000 < 1000 := fmodR x 1000 (by decide)
  have c : 0 ≤ x.fmod 3 ∧ x.fmod 3 < 3 := fmodR x 3 (by decide)
  have d : 0 ≤ x.fmod 30 ∧ x.fmod 30 < 30 := fmodR x 30 (by decide)
  have d2 : (2 : Int) ^ (x.fmod 30).toNat < 1000000000000 := by
    have h1 : (x.fmod 30).toNat ≤ 29 := by omega
    have h2 : 2 ^ (x.fmod 30).toNat ≤ 2 ^ 29 := Nat.pow_le_pow_right (by decide) h1
    have h3 : (2 : Nat) ^ 29 = 536870912 := by decide
    rw [pow2I]; omega
  have d3 : (0 : Int) ≤ 2 ^ (x.fmod 30).toNat := by rw [pow2I]; exact Int.natCast_nonneg _
  rw [e]
  have hk : k = 0 ∨ k = 1 ∨ k = 2 ∨ k = 3 ∨ k = 4 := by omega
  rcases hk with rfl | rfl | rfl | rfl | rfl
  · exact a
  · exact ⟨b.1, Int.lt_trans b.2 (by decide)⟩
  · exact a
  · exact ⟨d3, d2⟩
  · exact ⟨c.1, Int.lt_trans c.2 (by decide)⟩
theorem pm_ok {x a b : Int} (h0 : -1000000000000 < x) (h1 : x < 1000000000000) : (-1000000000000 < x ∧ x < 1000000000000) ∧ (-30 ≤ a.fmod 61 - 30 ∧ a.fmod 61 - 30 ≤ 30) ∧ (-12 ≤ b.fmod 61 - 12 ∧ b.fmod 61 - 12 ≤ 48) := by
  have h2 : 0 ≤ a.fmod 61 ∧ a.fmod 61 < 61 := fmodR a 61 (by decide)
  have h3 : 0 ≤ b.fmod 61 ∧ b.fmod 61 < 61 := fmodR b 61 (by decide)
  omega
theorem neg_ok {x : Int} (h0 : 0 ≤ x) (h1 : x < 1000000000000) : -1000000000000 < -x ∧ -x < 1000000000000 := by omega
theorem pos_ok {x : Int} (h0 : 0 ≤ x) (h1 : x < 1000000000000) : -1000000000000 < x ∧ x < 1000000000000 := by omega
theorem most_ok (x : Int) : ∃ P : Nat, 4 + x.fmod 50 = (P : Int) ∧ 4 ≤ P ∧ P ≤ 53 := by
  have h2 : 0 ≤ x.fmod 50 ∧ x.fmod 50 < 50 := fmodR x 50 (by decide)
  exact ⟨(4 + x.fmod 50).toNat, by omega, by omega, by omega⟩
theorem way_ok (x : Int) : ∃ wy : Way, Txt.item (Str.ofString "nfcud") (x.fmod 5) = wy.str := by
  have h2 : 0 ≤ x.fmod 5 ∧ x.fmod 5 < 5 := fmodR x 5 (by decide)
  have hk : x.fmod 5 = 0 ∨ x.fmod 5 = 1 ∨ x.fmod 5 = 2 ∨ x.fmod 5 = 3 ∨ x.fmod 5 = 4 := by omega
  rcases hk with h | h | h | h | h <;> rw [h]
  · exact ⟨.n, by decide +kernel⟩
  · exact ⟨.f, by decide +kernel⟩
  · exact ⟨.c, by decide +kernel⟩
  · exact ⟨.u, by decide +kernel⟩
  · exact ⟨.d, by decide +kernel⟩
theorem eqS {x y : Str} {t : Tok} (h : x = y) : some (Value.str x t) = some (Value.str y t) := by rw [h]
theorem LawOK.intro {g h : Heap} {L : Addr} {s : Shared} {news' : List (Addr × Obj)} {Z p n Pz : Int} {ws : Str} {m : Str → Option Value} {tk : Nat} {t1 t2 t3 t4 t5 : Tok}
    (F : Fr g L h m) (N : News g L h news') (h1 : m (Str.ofString "whole") = some (.int Z t1)) (h2 : m (Str.ofString "power") = some (.int p t2)) (h3 : m (Str.ofString "many") = some (.int n t3)) (h4 : m (Str.ofString "most") = some (.int Pz t4)) (h5 : m (Str.ofString "way") = some (.str ws t5))
    (hA : (-1000000000000 < Z ∧ Z < 1000000000000) ∧ (-30 ≤ p ∧ p ≤ 30) ∧ (-12 ≤ n ∧ n ≤ 48)) (eP : ∃ P : Nat, Pz = (P : Int) ∧ 4 ≤ P ∧ P ≤ 53) (eW : ∃ wy : Way, ws = wy.str) : LawOK g L s { s with heap := h, toks := tk } := by
  obtain ⟨P, rfl, p1, p2⟩ := eP
  obtain ⟨wy, rfl⟩ := eW
  exact ⟨Z, p, n, P, wy, hA.1, hA.2.1, hA.2.2, ⟨p1, p2⟩, LawA.intro F N (fun _ h => nomatch h) h1 h2 h3 h4 h5⟩
def LawB (g : Heap) (L : Addr) (s : Shared) (wy : Way) (sg : Int) (M : Nat) (e n : Int) (P : Nat) (s' : Shared) : Prop :=
  ∃ (D : Addr) (v1 v2 v3 v4 t1 t2 t3 t4 t5 : Tok) (Z : Int), Z ≠ 0 ∧ Vars g L s [(D, tup4 sg (M : Int) e (nb M : Int) v1 v2 v3 v4)] [(Str.ofString "whole", .int Z t1), (Str.ofString "many", .int n t2), (Str.ofString "most", .int (P : Int) t3), (Str.ofString "way", .str wy.str t4), (Str.ofString "base", .ref D)] s'
theorem ld1 {n : Int} (h3 : 3 ≤ n) (h : ¬ 2 < if n < 0 then -n else n) : False := by rw [if_neg (by omega)] at h; omega
theorem ld2 {n : Int} {M : Nat} (h3 : 3 ≤ n) (hL : 1000 ≤ (nb M : Int) * n) (h : ¬ 1000 ≤ ((Builtin.Int.intBits (M : Int) : Nat) : Int) * if n < 0 then -n else n) : False := by rw [if_neg (by omega)] at h; exact h hL
theorem ld3 {n : Int} {b : Bool} (h3 : 3 ≤ n) (hb : b = true) (h : (b == decide (0 < n)) = false) : False := by
  subst hb; rw [decide_eq_true (by omega)] at h; exact Bool.noConfusion h
local macro_rules | `(tactic| walk_at "call ref") => `(tactic| (k_here; (with_reducible show wpAny _ _ (call (Value.ref 53) _) _ _ _); k_dflt (refine' Ask.use (c_fme _ _ _ _ _ ?p1) ?k1 ?k2 ?k3 ?k4 ?k5 ?k6 ?kd ?ku ?_; (case k1 => k_asm); (case k2 => k_asm); (case k3 => k_asm); (case k4 => k_asm); (case k5 => k_asm); (case k6 => first | exact rfl | assumption); (case kd => ktr_room); (case ku => ktr_units); (case p1 => assumption); k_whole); intro D9 u1 u2 u3 u4 h9 tk9 F9 N9; (try dsimp only); (try k_fold); dsimp only [told] at N9))
local macro_rules | `(tactic| walk_at "call ref") => `(tactic| (k_here; (with_reducible show wpAny _ _ (call (Value.ref 99) _) _ _ _); k_dflt (refine' Ask.use (c_told _ _ _ _ _ ?p1) ?k1 ?k2 ?k3 ?k4 ?k5 ?k6 ?kd ?ku ?_; (case k1 => k_asm); (case k2 => k_asm); (case k3 => k_asm); (case k4 => k_asm); (case k5 => k_asm); (case k6 => first | exact rfl | assumption); (case kd => ktr_room); (case ku => ktr_units); (case p1 => first | assumption | omega); k_whole); intro D9 u1 u2 u3 u4 h9 tk9 F9 N9; (try dsimp only); (try k_fold); dsimp only [told] at N9))

def LawC (g : Heap) (L : Addr) (s : Shared) (wy : Way) (sg : Int) (M : Nat) (e n side : Int) (P : Nat) (s' : Shared) : Prop :=
  ∃ (D : Addr) (v1 v2 v3 v4 t1 t2 t3 t4 t5 : Tok), Vars g L s [(D, tup4 sg (M : Int) e (nb M : Int) v1 v2 v3 v4)] [(Str.ofString "many", .int n t1), (Str.ofString "most", .int (P : Int) t2), (Str.ofString "way", .str wy.str t3), (Str.ofString "base", .ref D), (Str.ofString "odd", .int (M : Int) t4), (Str.ofString "side", .int side t5)] s'
theorem LawB.intro {g h : Heap} {L : Addr} {s : Shared} {news' : List (Addr × Obj)} {wy : Way} {sg : Int} {M : Nat} {e n : Int} {P : Nat} {D : Addr} {v1 v2 v3 v4 : Tok} {Z : Int} {m : Str → Option Value} {tk : Nat} {t1 t2 t3 t4 : Tok}
    (hZ : Z ≠ 0) (F : Fr g L h m) (N : News g L h news') (hs : ∀ p ∈ [(D, tup4 sg (M : Int) e (nb M : Int) v1 v2 v3 v4)], p ∈ news') (h1 : m (Str.ofString "whole") = some (.int Z t1)) (h2 : m (Str.ofString "many") = some (.int n t2)) (h3 : m (Str.ofString "most") = some (.int (P : Int) t3)) (h4 : m (Str.ofString "way") = some (.str wy.str t4)) (h5 : m (Str.ofString "base") = some (.ref D)) :
    LawB g L s wy sg M e n P { s with heap := h, toks := tk } := ⟨D, v1, v2, v3, v4, t1, t2, t3, t4, 0, Z, hZ, Vars.intro F N hs ⟨h1, h2, h3, h4, h5, trivial⟩⟩
theorem LawC.intro {g h : Heap} {L : Addr} {s : Shared} {news' : List (Addr × Obj)} {wy : Way} {sg : Int} {M : Nat} {e n side : Int} {P : Nat} {D : Addr} {v1 v2 v3 v4 : Tok} {m : Str → Option Value} {tk : Nat} {t1 t2 t3 t4 t5 : Tok}
    (F : Fr g L h m) (N : News g L h news') (hs : ∀ p ∈ [(D, tup4 sg (M : Int) e (nb M : Int) v1 v2 v3 v4)], p ∈ news') (h1 : m (Str.ofString "many") = some (.int n t1)) (h2 : m (Str.ofString "most") = some (.int (P : Int) t2)) (h3 : m (Str.ofString "way") = some (.str wy.str t3)) (h4 : m (Str.ofString "base") = some (.ref D)) (h5 : m (Str.ofString "odd") = some (.int (M : Int) t4)) (h6 : m (Str.ofString "side") = some (.int side t5)) :
    LawC g L s wy sg M e n side P { s with heap := h, toks := tk } := ⟨D, v1, v2, v3, v4, t1, t2, t3, t4, t5, Vars.intro F N hs ⟨h1, h2, h3, h4, h5, h6, trivial⟩⟩
theorem side_eq {ng : Bool} {n : Int} : sI ng * n.fmod 2 = sI (sgp ng n.natAbs) := by
  have h : n.fmod 2 = ((n.natAbs % 2 : Nat) : Int) := by
    have := Int.fmod_eq_emod_of_nonneg n (show (0 : Int) ≤ 2 by decide)
    rw [this]; omega
  rw [h]
  unfold sgp
  have : n.natAbs % 2 = 0 ∨ n.natAbs % 2 = 1 := by omega
  cases ng <;> rcases this with h2 | h2 <;> rw [h2] <;> rfl
theorem bits_small {a : Nat} {b : Int} (ha : a ≤ 1000000) : Builtin.Int.intBits (a : Int) ≤ 64 := intBits_le_64 (by omega) (by omega)
theorem sI_bits {b : Bool} : Builtin.Int.intBits (sI b) ≤ 1000000 := by cases b <;> decide
/-- the way that is asked: where the loop would round away, the nearest -/
def LawD (g : Heap) (L : Addr) (s : Shared) (ng : Bool) (M : Nat) (e n : Int) (P : Nat) (s' : Shared) : Prop :=
  ∃ wy : Way, (3 ≤ n → 1000 ≤ (nb M : Int) * n → wy = .n ∨ wy.out (sgp ng n.natAbs) = false) ∧ LawC g L s wy (sI ng) M e n (sI (sgp ng n.natAbs)) P s'

theorem LawD.intro {g h : Heap} {L : Addr} {s : Shared} {news' : List (Addr × Obj)} {ng : Bool} {M : Nat} {e n sd sg : Int} {P : Nat} {wy : Way} {ws : Str} {D : Addr} {v1 v2 v3 v4 : Tok} {m : Str → Option Value} {tk : Nat} {t1 t2 t3 t4 t5 : Tok}
    (F : Fr g L h m) (N : News g L h news') (hs : ∀ p ∈ [(D, tup4 sg (M : Int) e (nb M : Int) v1 v2 v3 v4)], p ∈ news') (h1 : m (Str.ofString "many") = some (.int n t1)) (h2 : m (Str.ofString "most") = some (.int (P : Int) t2)) (h3 : m (Str.ofString "way") = some (.str ws t3)) (h4 : m (Str.ofString "base") = some (.ref D)) (h5 : m (Str.ofString "odd") = some (.int (M : Int) t4)) (h6 : m (Str.ofString "side") = some (.int sd t5))
    (hg : sg = sI ng) (hd : sd = sI (sgp ng n.natAbs)) (hw : ws = wy.str) (hi : 3 ≤ n → 1000 ≤ (nb M : Int) * n → wy = .n ∨ wy.out (sgp ng n.natAbs) = false) :
    LawD g L s ng M e n P { s with heap := h, toks := tk } := by
  subst hg; subst hd; subst hw
  exact ⟨wy, hi, LawC.intro F N hs h1 h2 h3 h4 h5 h6⟩

local macro_rules | `(tactic| ked_read) => `(tactic| exact reads_tuple_at ((Frag.In.keeps (by k_asm) (Fr.keep (by k_asm))) _ _ (by k_is)) rfl rfl (by ked_reads))
def LawE (g : Heap) (L : Addr) (s : Shared) (wy : Way) (ng sg : Bool) (M : Nat) (e n : Int) (P A B X : Nat) (s' : Shared) : Prop :=
  ∃ (S : Nat) (pw : Int) (D D2 : Addr) (v1 v2 v3 v4 w1 w2 w3 w4 t1 t2 t3 t4 t5 : Tok), Far wy sg A B P S pw ∧ Vars g L s [(D2, tup4 (sI sg) (S : Int) pw (nb S : Int) w1 w2 w3 w4), (D, tup4 (sI ng) (M : Int) e (nb M : Int) v1 v2 v3 v4)] [(Str.ofString "told", .ref D2), (Str.ofString "above", .int (X : Int) t1), (Str.ofString "below", .int 1 t2), (Str.ofString "base", .ref D), (Str.ofString "many", .int n t3), (Str.ofString "most", .int (P : Int) t4), (Str.ofString "way", .str wy.str t5)] s'
theorem LawE.intro {g h : Heap} {L : Addr} {s : Shared} {news' : List (Addr × Obj)} {wy : Way} {ng sg : Bool} {M : Nat} {e n x : Int} {P A B X S : Nat} {pw : Int} {D D2 : Addr} {v1 v2 v3 v4 w1 w2 w3 w4 : Tok} {m : Str → Option Value} {tk : Nat} {t1 t2 t3 t4 t5 : Tok}
    (hF : Far wy sg A B P S pw) (F : Fr g L h m) (N : News g L h news') (hs : ∀ p ∈ [(D2, tup4 (sI sg) (S : Int) pw (nb S : Int) w1 w2 w3 w4), (D, tup4 (sI ng) (M : Int) e (nb M : Int) v1 v2 v3 v4)], p ∈ news') (h1 : m (Str.ofString "told") = some (.ref D2)) (h2 : m (Str.ofString "above") = some (.int x t1)) (h3 : m (Str.ofString "below") = some (.int 1 t2)) (h4 : m (Str.ofString "base") = some (.ref D)) (h5 : m (Str.ofString "many") = some (.int n t3)) (h6 : m (Str.ofString "most") = some (.int (P : Int) t4)) (h7 : m (Str.ofString "way") = some (.str wy.str t5)) (hx : x = (X : Int)) :
    LawE g L s wy ng sg M e n P A B X { s with heap := h, toks := tk } := by
  subst hx
  exact ⟨S, pw, D, D2, v1, v2, v3, v4, w1, w2, w3, w4, t1, t2, t3, t4, t5, hF, Vars.intro F N hs ⟨h1, h2, h3, h4, h5, h6, h7, trivial⟩⟩
theorem sub2 {α : Type} {a b c : α} {l : List α} : ∀ p ∈ [b, c], p ∈ a :: b :: c :: l := fun _ h => List.Mem.tail _ (by
  rcases List.mem_cons.mp h with rfl | h
  · exact List.Mem.head _
  · rw [List.mem_singleton.mp h]; exact List.Mem.tail _ (List.Mem.head _))
theorem abs_pw {M k : Nat} {x : Int} (h : x = (k : Int)) : (M : Int) ^ x.toNat = ((M ^ k : Nat) : Int) := by subst h; exact powN
def LawF (g : Heap) (L : Addr) (s : Shared) (wy : Way) (sg : Bool) (n sh : Int) (P A B X : Nat) (s' : Shared) : Prop :=
  ∃ (S : Nat) (pw : Int) (D2 : Addr) (w1 w2 w3 w4 t1 t2 t3 t4 t5 t6 : Tok), Far wy sg A B P S pw ∧ Vars g L s [(D2, tup4 (sI sg) (S : Int) pw (nb S : Int) w1 w2 w3 w4)] [(Str.ofString "told", .ref D2), (Str.ofString "above", .int (X : Int) t1), (Str.ofString "below", .int 1 t2), (Str.ofString "shift", .int sh t6), (Str.ofString "many", .int n t3), (Str.ofString "most", .int (P : Int) t4), (Str.ofString "way", .str wy.str t5)] s'
theorem LawF.intro {g h : Heap} {L : Addr} {s : Shared} {news' : List (Addr × Obj)} {wy : Way} {sg : Bool} {n sh x : Int} {P A B X S : Nat} {pw : Int} {D2 : Addr} {w1 w2 w3 w4 : Tok} {m : Str → Option Value} {tk : Nat} {t1 t2 t3 t4 t5 t6 : Tok}
    (hF : Far wy sg A B P S pw) (F : Fr g L h m) (N : News g L h news') (hs : ∀ p ∈ [(D2, tup4 (sI sg) (S : Int) pw (nb S : Int) w1 w2 w3 w4)], p ∈ news') (h1 : m (Str.ofString "told") = some (.ref D2)) (h2 : m (Str.ofString "above") = some (.int (X : Int) t1)) (h3 : m (Str.ofString "below") = some (.int 1 t2)) (h4 : m (Str.ofString "shift") = some (.int x t6)) (h5 : m (Str.ofString "many") = some (.int n t3)) (h6 : m (Str.ofString "most") = some (.int (P : Int) t4)) (h7 : m (Str.ofString "way") = some (.str wy.str t5)) (hx : x = sh) :
    LawF g L s wy sg n sh P A B X { s with heap := h, toks := tk } := by
  subst hx
  exact ⟨S, pw, D2, w1, w2, w3, w4, t1, t2, t3, t4, t5, t6, hF, Vars.intro F N hs ⟨h1, h2, h3, h4, h5, h6, h7, trivial⟩⟩
def LawG (g : Heap) (L : Addr) (s : Shared) (wy : Way) (sg : Bool) (n : Int) (P A B X Y : Nat) (s' : Shared) : Prop :=
  ∃ (S : Nat) (pw : Int) (D2 : Addr) (w1 w2 w3 w4 t1 t2 t3 t4 t5 : Tok), Far wy sg A B P S pw ∧ Vars g L s [(D2, tup4 (sI sg) (S : Int) pw (nb S : Int) w1 w2 w3 w4)] [(Str.ofString "told", .ref D2), (Str.ofString "above", .int (X : Int) t1), (Str.ofString "below", .int (Y : Int) t2), (Str.ofString "many", .int n t3), (Str.ofString "most", .int (P : Int) t4), (Str.ofString "way", .str wy.str t5)] s'
theorem LawG.intro {g h : Heap} {L : Addr} {s : Shared} {news' : List (Addr × Obj)} {wy : Way} {sg : Bool} {n x y : Int} {P A B X Y S : Nat} {pw : Int} {D2 : Addr} {w1 w2 w3 w4 : Tok} {m : Str → Option Value} {tk : Nat} {t1 t2 t3 t4 t5 : Tok}
    (hF : Far wy sg A B P S pw) (F : Fr g L h m) (N : News g L h news') (hs : ∀ p ∈ [(D2, tup4 (sI sg) (S : Int) pw (nb S : Int) w1 w2 w3 w4)], p ∈ news') (h1 : m (Str.ofString "told") = some (.ref D2)) (h2 : m (Str.ofString "above") = some (.int x t1)) (h3 : m (Str.ofString "below") = some (.int y t2)) (h5 : m (Str.ofString "many") = some (.int n t3)) (h6 : m (Str.ofString "most") = some (.int (P : Int) t4)) (h7 : m (Str.ofString "way") = some (.str wy.str t5)) (hxy : x = (X : Int) ∧ y = (Y : Int)) :
    LawG g L s wy sg n P A B X Y { s with heap := h, toks := tk } := by
  obtain ⟨rfl, rfl⟩ := hxy
  exact ⟨S, pw, D2, w1, w2, w3, w4, t1, t2, t3, t4, t5, hF, Vars.intro F N hs ⟨h1, h2, h3, h5, h6, h7, trivial⟩⟩
theorem sh_pos {X : Nat} {sh : Int} (h : 0 < sh) : (X : Int) * 2 ^ sh.toNat = ((X * 2 ^ sh.toNat : Nat) : Int) ∧ (1 : Int) = ((2 ^ (-sh).toNat : Nat) : Int) := by
  rw [pow2I, ← Int.natCast_mul, show (-sh).toNat = 0 from by omega]; exact ⟨rfl, rfl⟩
theorem sh_neg {X : Nat} {sh : Int} (h : ¬ 0 < sh) : (X : Int) = ((X * 2 ^ sh.toNat : Nat) : Int) ∧ (2 : Int) ^ (-sh).toNat = ((2 ^ (-sh).toNat : Nat) : Int) := by
  rw [pow2I, show sh.toNat = 0 from by omega]; simp
theorem nb_far {X : Nat} {sh : Int} (hX : nb X ≤ 9000) (h1 : sh ≤ 5000) (h2 : -5000 ≤ sh) : nb (X * 2 ^ sh.toNat) ≤ 20000 ∧ nb (2 ^ (-sh).toNat) ≤ 20000 := by
  constructor
  · have := nb_mul_pow_le X sh.toNat; omega
  · rw [nb_pow]; omega
theorem sI_nn {b : Bool} : 0 ≤ sI b := by cases b <;> decide
theorem sI_pw {b : Bool} : ((Builtin.Int.intBits (-1) : Nat) : Int) * sI b ≤ 2 ^ 27 := by cases b <;> decide
theorem sI_pb {b : Bool} : Builtin.Int.intBits ((-1) ^ (sI b).toNat) ≤ 1000000 := by cases b <;> decide
theorem rpw {b : Bool} {M k : Nat} : (-1 : Int) ^ (sI b).toNat * (M : Int) ^ ((k : Nat) : Int).toNat = (-1) ^ (sI b).toNat * (M : Int) ^ k := by rw [Int.toNat_natCast]
local macro_rules | `(tactic| walk_at "binaryOp Pow int int") => `(tactic| (k_here; first | with_reducible refine pow_int sI_nn sI_pw ?_ | k_dflt (refine pow_int (by first | assumption | omega) (by assumption) ?_)))
local macro_rules | `(tactic| walk_at "binaryOp Mult int int") => `(tactic| (k_here; k_dflt (refine mul_int (hm := IntMulOk.of_le (m := 1000000) (n := 1000000) (by first | with_reducible assumption | with_reducible exact sI_pb | with_reducible exact bitsN (by omega) | with_reducible exact bitsP (by omega) | exact bitsI (by omega) (by omega) (by decide)) (by first | with_reducible assumption | with_reducible exact bitsP (by omega) | with_reducible exact bitsN (by omega) | exact bitsI (by omega) (by omega) (by decide)) (by decide)) ?_)))
local macro_rules | `(tactic| walk_at "call ref") => `(tactic| (k_here; (with_reducible show wpAny _ _ (call (Value.ref 106) _) _ _ _); k_dflt (refine' Ask.use (c_rndpow _ _ _ _ _ _ _ _ _ _ _ _ _ ?p1 ?p2 ?p3 ?p4 ?p5) ?k1 ?k2 ?k3 ?k4 ?k5 ?k6 ?kd ?ku ?_; (case k1 => k_asm); (case k2 => k_asm); (case k3 => k_asm); (case k4 => k_asm); (case k5 => k_asm); (case k6 => first | exact rfl | assumption); (case kd => ktr_room); (case ku => ktr_units); (case p1 => exact rpw); (case p2 => exact rfl); (case p3 => assumption); (case p4 => assumption); (case p5 => omega); k_whole); intro D9 u1 u2 u3 u4 h9 tk9 F9 N9; (try dsimp only); (try k_fold)))
local macro_rules | `(tactic| walk_at "call ref") => `(tactic| (k_here; (with_reducible show wpAny _ _ (call (Value.ref 106) _) _ _ _); k_dflt (refine' Ask.use (c_rndone _ _ _ _ _ _ _ _ _ ?p1 ?p2 ?p3) ?k1 ?k2 ?k3 ?k4 ?k5 ?k6 ?kd ?ku ?_; (case k1 => k_asm); (case k2 => k_asm); (case k3 => k_asm); (case k4 => k_asm); (case k5 => k_asm); (case k6 => first | exact rfl | assumption); (case kd => ktr_room); (case ku => ktr_units); (case p1 => assumption); (case p2 => assumption); (case p3 => omega); k_whole); intro D9 u1 u2 u3 u4 h9 tk9 F9 N9; (try dsimp only); (try k_fold)))
local macro_rules | `(tactic| walk_at "call ref") => `(tactic| (k_here; (with_reducible show wpAny _ _ (call (Value.ref 113) _) _ _ _); k_dflt (refine' Ask.use (c_near _ _ _ _ _ _ _ _ _ _ _ _ _ ?p1 ?p2 ?p3 ?p4 ?p5 ?p6 ?p7 ?p8) ?k1 ?k2 ?k3 ?k4 ?k5 ?k6 ?kd ?ku ⟨⟨_, _, _, _, ?kt⟩, ?_⟩; (case k1 => k_asm); (case k2 => k_asm); (case k3 => k_asm); (case k4 => k_asm); (case k5 => k_asm); (case k6 => first | exact rfl | assumption); (case kd => ktr_room); (case ku => ktr_units); (case kt => first | assumption | exact List.Mem.head _ | exact List.Mem.tail _ (List.Mem.head _)); (case p1 => assumption); (case p2 => assumption); (case p3 => omega); (case p4 => assumption); (case p5 => assumption); (case p6 => assumption); (case p7 => assumption); (case p8 => assumption); k_whole); intro h9 tk9 F9 N9; (try dsimp only); (try k_fold)))
local macro_rules | `(tactic| walk_at "call ref") => `(tactic| (k_here; (with_reducible show wpAny _ _ (call (Value.ref 85) _) _ _ _); k_dflt (refine' Ask.use (c_pow_zeroX _ _ _ _ _ _ _ _ _ _ _ ?p1 ?p2) ?k1 ?k2 ?k3 ?k4 ?k5 ?k6 ?kd ?ku ⟨⟨_, _, _, _, ?kt⟩, ?_⟩; (case k1 => k_asm); (case k2 => k_asm); (case k3 => k_asm); (case k4 => k_asm); (case k5 => k_asm); (case k6 => first | exact rfl | assumption); (case kd => ktr_room); (case ku => ktr_units); (case kt => first | assumption | exact List.Mem.head _ | exact List.Mem.tail _ (List.Mem.head _)); (case p1 => first | assumption | omega); (case p2 => assumption); k_whole); intro h9 tk9 F9 N9; (try dsimp only); (try k_fold)))
local macro_rules | `(tactic| walk_at "call ref") => `(tactic| (k_here; (with_reducible show wpAny _ _ (call (Value.ref 85) _) _ _ _); k_dflt (refine' Ask.use (c_pow_small _ _ _ _ _ _ _ _ _ _ _ ?p1 ?p2 ?p3 ?p4 ?p5 ?p6 ?p7 ?p8) ?k1 ?k2 ?k3 ?k4 ?k5 ?k6 ?kd ?ku ⟨⟨_, _, _, _, ?kt⟩, ?_⟩; (case k1 => k_asm); (case k2 => k_asm); (case k3 => k_asm); (case k4 => k_asm); (case k5 => k_asm); (case k6 => first | exact rfl | assumption); (case kd => ktr_room); (case ku => ktr_units); (case kt => first | assumption | exact List.Mem.head _ | exact List.Mem.tail _ (List.Mem.head _)); (case p1 => assumption); (case p2 => omega); (case p3 => omega); (case p4 => omega); (case p5 => omega); (case p6 => assumption); (case p7 => omega); (case p8 => omega); k_whole); intro D9 u1 u2 u3 u4 h9 tk9 F9 N9; (try dsimp only); (try k_fold)))
local macro_rules | `(tactic| walk_at "call ref") => `(tactic| (k_here; (with_reducible show wpAny _ _ (call (Value.ref 85) _) _ _ _); k_dflt (refine' Ask.use (c_pow_farL _ _ _ _ _ _ _ _ _ _ _ ?p1 ?p2 ?p3 ?p4 ?p5 ?p6 ?p7 ?p8 ?p9 ?pa ?pb) ?k1 ?k2 ?k3 ?k4 ?k5 ?k6 ?kd ?ku ⟨⟨_, _, _, _, ?kt⟩, ?_⟩; (case k1 => k_asm); (case k2 => k_asm); (case k3 => k_asm); (case k4 => k_asm); (case k5 => k_asm); (case k6 => first | exact rfl | assumption); (case kd => ktr_room); (case ku => ktr_units); (case kt => first | assumption | exact List.Mem.head _ | exact List.Mem.tail _ (List.Mem.head _)); (case p1 => assumption); (case p2 => assumption); (case p3 => omega); (case p4 => omega); (case p5 => omega); (case p6 => omega); (case p7 => omega); (case p8 => assumption); (case p9 => omega); (case pa => omega); (case pb => assumption); k_whole); intro S9 pw9 hF9 D9 u1 u2 u3 u4 h9 tk9 F9 N9; (try dsimp only); (try k_fold)))
local macro_rules | `(tactic| walk_at "call ref") => `(tactic| (k_here; (with_reducible show wpAny _ _ (call (Value.ref 85) _) _ _ _); k_dflt (refine' Ask.use (c_pow_farN _ _ _ _ _ _ _ _ _ _ _ ?p1 ?p3 ?p4 ?p5 ?p6 ?p7 ?p9 ?pa) ?k1 ?k2 ?k3 ?k4 ?k5 ?k6 ?kd ?ku ⟨⟨_, _, _, _, ?kt⟩, ?_⟩; (case k1 => k_asm); (case k2 => k_asm); (case k3 => k_asm); (case k4 => k_asm); (case k5 => k_asm); (case k6 => first | exact rfl | assumption); (case kd => ktr_room); (case ku => ktr_units); (case kt => first | assumption | exact List.Mem.head _ | exact List.Mem.tail _ (List.Mem.head _)); (case p1 => assumption); (case p3 => omega); (case p4 => omega); (case p5 => omega); (case p6 => omega); (case p7 => omega); (case p9 => omega); (case pa => omega); k_whole); intro S9 pw9 hF9 D9 u1 u2 u3 u4 h9 tk9 F9 N9; (try dsimp only); (try k_fold)))
local macro_rules | `(tactic| walk_at "call ref") => `(tactic| (k_here; (with_reducible show wpAny _ _ (call (Value.ref 85) _) _ _ _); k_dflt (refine' Ask.use (c_pow_negU _ _ _ _ _ _ _ _ _ _ ?p4 ?p5 ?p6 ?p7 ?p9 ?pa) ?k1 ?k2 ?k3 ?k4 ?k5 ?k6 ?kd ?ku ⟨⟨_, _, _, _, ?kt⟩, ?_⟩; (case k1 => k_asm); (case k2 => k_asm); (case k3 => k_asm); (case k4 => k_asm); (case k5 => k_asm); (case k6 => first | exact rfl | assumption); (case kd => ktr_room); (case ku => ktr_units); (case kt => first | assumption | exact List.Mem.head _ | exact List.Mem.tail _ (List.Mem.head _)); (case p4 => omega); (case p5 => omega); (case p6 => omega); (case p7 => omega); (case p9 => omega); (case pa => omega); k_whole); intro D9 u1 u2 u3 u4 h9 tk9 F9 N9; (try dsimp only); (try k_fold)))

def LawBZ (g : Heap) (L : Addr) (s : Shared) (wy : Way) (n : Int) (P : Nat) (s' : Shared) : Prop :=
  ∃ (t1 t2 t3 t4 : Tok), Vars g L s [] [(Str.ofString "whole", .int 0 t1), (Str.ofString "many", .int n t2), (Str.ofString "most", .int (P : Int) t3), (Str.ofString "way", .str wy.str t4), (Str.ofString "base", .ref 22)] s'
theorem LawBZ.intro {g h : Heap} {L : Addr} {s : Shared} {news' : List (Addr × Obj)} {wy : Way} {n : Int} {P : Nat} {m : Str → Option Value} {tk : Nat} {t1 t2 t3 t4 : Tok}
    (F : Fr g L h m) (N : News g L h news') (h1 : m (Str.ofString "whole") = some (.int 0 t1)) (h2 : m (Str.ofString "many") = some (.int n t2)) (h3 : m (Str.ofString "most") = some (.int (P : Int) t3)) (h4 : m (Str.ofString "way") = some (.str wy.str t4)) (h5 : m (Str.ofString "base") = some (.ref 22)) :
    LawBZ g L s wy n P { s with heap := h, toks := tk } := ⟨t1, t2, t3, t4, Vars.intro F N (fun _ h => nomatch h) ⟨h1, h2, h3, h4, h5, trivial⟩⟩
def LawCZ (g : Heap) (L : Addr) (s : Shared) (wy : Way) (n : Int) (P : Nat) (s' : Shared) : Prop :=
  ∃ (t1 t2 t3 t4 t5 : Tok), Vars g L s [] [(Str.ofString "many", .int n t1), (Str.ofString "most", .int (P : Int) t2), (Str.ofString "way", .str wy.str t3), (Str.ofString "base", .ref 22), (Str.ofString "odd", .int 0 t4), (Str.ofString "side", .int 0 t5)] s'
theorem LawCZ.intro {g h : Heap} {L : Addr} {s : Shared} {news' : List (Addr × Obj)} {wy : Way} {n sd : Int} {ws : Str} {P : Nat} {m : Str → Option Value} {tk : Nat} {t1 t2 t3 t4 t5 : Tok}
    (F : Fr g L h m) (N : News g L h news') (h1 : m (Str.ofString "many") = some (.int n t1)) (h2 : m (Str.ofString "most") = some (.int (P : Int) t2)) (h3 : m (Str.ofString "way") = some (.str ws t3)) (h4 : m (Str.ofString "base") = some (.ref 22)) (h5 : m (Str.ofString "odd") = some (.int 0 t4)) (h6 : m (Str.ofString "side") = some (.int sd t5)) (hd : sd = 0) (hw : ws = wy.str) :
    LawCZ g L s wy n P { s with heap := h, toks := tk } := by
  subst hd; subst hw
  exact ⟨t1, t2, t3, t4, t5, Vars.intro F N (fun _ h => nomatch h) ⟨h1, h2, h3, h4, h5, h6, trivial⟩⟩
def LawDZ (g : Heap) (L : Addr) (s : Shared) (n : Int) (P : Nat) (s' : Shared) : Prop := ∃ wy : Way, LawCZ g L s wy n P s'
theorem LawDZ.intro {g h : Heap} {L : Addr} {s : Shared} {news' : List (Addr × Obj)} {wy : Way} {n sd : Int} {ws : Str} {P : Nat} {m : Str → Option Value} {tk : Nat} {t1 t2 t3 t4 t5 : Tok}
    (F : Fr g L h m) (N : News g L h news') (h1 : m (Str.ofString "many") = some (.int n t1)) (h2 : m (Str.ofString "most") = some (.int (P : Int) t2)) (h3 : m (Str.ofString "way") = some (.str ws t3)) (h4 : m (Str.ofString "base") = some (.ref 22)) (h5 : m (Str.ofString "odd") = some (.int 0 t4)) (h6 : m (Str.ofString "side") = some (.int sd t5)) (hd : sd = 0) (hw : ws = wy.str) :
    LawDZ g L s n P { s with heap := h, toks := tk } := ⟨wy, LawCZ.intro F N h1 h2 h3 h4 h5 h6 hd hw⟩
def RetE (P : Value → Shared → Prop) (f : Flow) (s : Shared) : Prop := ∃ v, f = .ret v ∧ P v s
/-- the body's first k statements return -/
theorem cut_ret {M : Model} {A : Around} {E : Value → Shared → Prop} {env : Env} (k : Nat) (P : Value → Shared → Prop) {ss : List Stmt} {Q : Flow → Shared → Prop} {s : Shared}
    (h1 : wpAny M A (execs (ss.take k) env) (RetE P) E s)
    (h2 : ∀ v s', P v s' → Q (.ret v) s') : wpAny M A (execs ss env) Q E s :=
  cut k (fun _ => False) (fun Γ p hΓ => Sem.wp_mono M Γ _ (fun f _ s' h => by
    obtain ⟨v, rfl, hP⟩ := h
    exact h2 v s' hP) (fun _ _ _ h => h) _ _ (h1 Γ p hΓ)) (fun _ h => h.elim)
def RetTrue (g : Heap) (L : Addr) (s : Shared) (v : Value) (s' : Shared) : Prop := v = .bool true ∧ Vars g L s [] [] s'
theorem RetTrue.intro {g h : Heap} {L : Addr} {s : Shared} {news' : List (Addr × Obj)} {m : Str → Option Value} {tk : Nat} {b : Bool} (hb : b = true)
    (F : Fr g L h m) (N : News g L h news') : RetE (RetTrue g L s) (Flow.ret (.bool b)) { s with heap := h, toks := tk } := by
  subst hb
  exact ⟨_, rfl, rfl, Vars.intro F N (fun _ h => nomatch h) trivial⟩
theorem recip_sub {w : World} {wy : Way} {A : Around} {x y : Str} {p q : Pos} {h₀ : Heap} {L : Addr} {m : Str → Option Value} {s : Shared} {t : Tok} {Q E : Value → Shared → Prop}
    (X : (hd.heap_39 w.params).In h₀) (F : Fr h₀ L s.heap m) (H : ∀ (t' : Tok) (tk : Nat), Q (.str wy.recip.str t') { s with toks := tk }) :
    wpAny (model PySem.Challenge.rw_bw0026_01.row.prog w) A (subscriptTail (PySem.Expr.Name x p) (PySem.Expr.Name y q) (.ref 77) (.str wy.str t)) Q E s := by
  revert X F H
  k_fill
  intro X F H
  cases wy <;> dsimp only [Way.str]
  all_goals (
    k_dflt (refine' topItem_K ?F ?X ?l ?k ?e ?_; (case F => k_asm); (case X => k_asm); (case l => k_is); (case k => k_keys); (case e => k_is))
    exact H _ _)
local macro_rules | `(tactic| walk_at "call ref") => `(tactic| (k_here; (with_reducible show wpAny _ _ (call (Value.ref 99) _) _ _ _); k_dflt (refine' Ask.use (c_told_z _ _ _ _ _ ?p1) ?k1 ?k2 ?k3 ?k4 ?k5 ?k6 ?kd ?ku ?_; (case k1 => k_asm); (case k2 => k_asm); (case k3 => k_asm); (case k4 => k_asm); (case k5 => k_asm); (case k6 => first | exact rfl | assumption); (case kd => ktr_room); (case ku => ktr_units); (case p1 => first | exact rfl | assumption); k_whole); intro D9 u1 u2 u3 u4 h9 tk9 F9 N9; (try dsimp only); (try k_fold); dsimp only at N9))
local macro_rules | `(tactic| walk_at "call ref") => `(tactic| (k_here; (with_reducible show wpAny _ _ (call (Value.ref 106) _) _ _ _); k_dflt (refine' Ask.use (c_rounded_z _ _ _ _ _ _ _ _ _ ?p1 ?p2) ?k1 ?k2 ?k3 ?k4 ?k5 ?k6 ?kd ?ku ?_; (case k1 => k_asm); (case k2 => k_asm); (case k3 => k_asm); (case k4 => k_asm); (case k5 => k_asm); (case k6 => first | exact rfl | assumption); (case kd => ktr_room); (case ku => ktr_units); (case p1 => assumption); (case p2 => omega); k_whole); intro D9 u1 u2 u3 u4 h9 tk9 F9 N9; (try dsimp only); (try k_fold); dsimp only at N9))
local macro_rules | `(tactic| walk_at "call ref") => `(tactic| (k_here; (with_reducible show wpAny _ _ (call (Value.ref 85) _) _ _ _); k_dflt (refine' Ask.use (c_pow_z _ _ _ _ _ _ _ ?p1 ?p2 ?p3) ?k1 ?k2 ?k3 ?k4 ?k5 ?k6 ?kd ?ku ?_; (case k1 => k_asm); (case k2 => k_asm); (case k3 => k_asm); (case k4 => k_asm); (case k5 => k_asm); (case k6 => first | exact rfl | assumption); (case kd => ktr_room); (case ku => ktr_units); (case p1 => omega); (case p2 => omega); (case p3 => omega); k_whole); intro h9 tk9 F9 N9; (try dsimp only); (try k_fold)))
local macro_rules | `(tactic| walk_at "call ref") => `(tactic| (k_here; (with_reducible show wpAny _ _ (call (Value.ref 85) _) _ _ _); k_dflt (refine' Ask.use (c_pow_z0 _ _ _ _ _ _ _ ?p1) ?k1 ?k2 ?k3 ?k4 ?k5 ?k6 ?kd ?ku ?_; (case k1 => k_asm); (case k2 => k_asm); (case k3 => k_asm); (case k4 => k_asm); (case k5 => k_asm); (case k6 => first | exact rfl | assumption); (case kd => ktr_room); (case ku => ktr_units); (case p1 => first | exact rfl | omega); k_whole); intro h9 tk9 F9 N9; (try dsimp only); (try k_fold)))
local macro_rules | `(tactic| walk_at "subscriptTail") => `(tactic| (k_here; (with_reducible show wpAny _ _ (subscriptTail _ _ (Value.ref 77) (Value.str (Way.str _) _)) _ _ _); k_dflt (refine' recip_sub ?rX ?rF ?_; (case rX => k_asm); (case rF => k_asm); k_whole); intro tr9 tk9; (try dsimp only)))

theorem law_holds : PySem.Challenge.rw_bw0026_01.Holds := hd (by
  k_fill
  intro w s₀ s₁ mg mb G Y fa o pm cd doc dV kV ho hd' hcd hD hmg hg args vals as hpre hlay hrd hwl hlo
  have KX := kIn_of Y
  k_behind G ho hd' hcd hD hmg hpre hlay hrd hwl hlo cd
  (all_goals try k_fold)
  refine wpAny_noRaise ?_
  refine cut 2 (LawS s₁.heap s₁.heap.objs.size s₁ (fun _ k => 0 ≤ k ∧ k < 5)) ?_ ?_
  · dsimp only [List.take]
    k_steps
    (show LawS _ _ _ _ _)
    refine' LawS.intro ?zF ?zN ?zh ?zA ?zI ?zl ?za ?zb ?zc
    case zF => assumption
    case zN => assumption
    case za => exact rfl
    case zb => exact rfl
    case zc => exact rfl
    case zh => exact sub0
    case zI => assumption
    case zl => (simp only [List.length_take]; omega)
    case zA => exact fmodR _ 5 (by decide)
  dsimp only [List.drop]
  rintro s1 ⟨l, ws, ks, x, k, u1, u2, ⟨hk0, hk5⟩, hI, hl, h, tk, m, rfl, F2, N2⟩
  dsimp only [over] at F2
  refine cut 1 (LawS s₁.heap s₁.heap.objs.size s₁ (fun x _ => 0 ≤ x ∧ x < 1000000000000)) ?_ ?_
  · dsimp only [List.take]
    k_steps
    (show LawS _ _ _ _ _)
    refine' LawS.intro ?yF ?yN ?yh ?yA ?yI ?yl ?ya ?yb ?yc
    case yF => assumption
    case yN => assumption
    case ya => exact rfl
    case yb => exact rfl
    case yc => exact rfl
    case yh => exact sub0
    case yI => assumption
    case yl => assumption
    case yA => exact menu_ok hk0 hk5
  dsimp only [List.drop]
  rintro s2 ⟨l, ws, ks, x, k, u1, u2, ⟨hx0, hx1⟩, hI, hl, h, tk, m, rfl, F2, N2⟩
  dsimp only [over] at F2
  refine cut 1 (LawS s₁.heap s₁.heap.objs.size s₁ (fun x _ => -1000000000000 < x ∧ x < 1000000000000)) ?_ ?_
  · dsimp only [List.take]
    k_steps
    all_goals (
      (show LawS _ _ _ _ _)
      refine' LawS.intro ?yF ?yN ?yh ?yA ?yI ?yl ?ya ?yb ?yc
      case yF => assumption
      case yN => assumption
      case ya => exact rfl
      case yb => exact rfl
      case yc => exact rfl
      case yh => exact sub1
      case yI => assumption
      case yl => assumption
      case yA => (first | exact neg_ok hx0 hx1 | exact pos_ok hx0 hx1))
  dsimp only [List.drop]
  rintro s2 ⟨l, ws, ks, x, k, u1, u2, ⟨hx0, hx1⟩, hI, hl, h, tk, m, rfl, F2, N2⟩
  dsimp only [over] at F2
  refine cut 1 (LawT s₁.heap s₁.heap.objs.size s₁) ?_ ?_
  · dsimp only [List.take]
    k_steps
    (show LawT _ _ _ _)
    refine' LawT.intro ?xF ?xN ?xh ?xA ?xI ?xl ?xa ?xb ?xc ?xd
    case xF => assumption
    case xN => assumption
    case xa => exact rfl
    case xb => exact rfl
    case xc => exact rfl
    case xd => exact rfl
    case xh => exact sub0
    case xI => assumption
    case xl => assumption
    case xA => exact pm_ok hx0 hx1
  dsimp only [List.drop]
  rintro s3 ⟨l, ws, ks, Z, p, n, u1, u2, u3, hA, hI, hl, h, tk, m, rfl, F2, N2⟩
  dsimp only [over] at F2
  refine cut 1 (LawOK s₁.heap s₁.heap.objs.size s₁) ?_ ?_
  · dsimp only [List.take]
    k_steps
    (show LawOK _ _ _ _)
    refine' LawOK.intro ?wF ?wN ?wa ?wb ?wc ?wd ?we ?wA ?wP ?wW
    case wF => assumption
    case wN => assumption
    case wa => exact rfl
    case wb => exact rfl
    case wc => exact rfl
    case wd => exact rfl
    case we => exact rfl
    case wA => exact hA
    case wP => exact most_ok _
    case wW => exact way_ok _
  dsimp only [List.drop]
  rintro s4 ⟨Z, p, n, P, wy, ⟨hZ1, hZ2⟩, ⟨hp1, hp2⟩, ⟨hn1, hn2⟩, ⟨hP1, hP2⟩, u1, u2, u3, u4, u5, h, tk, m, rfl, F2, N2⟩
  dsimp only [over] at F2
  by_cases hZ : Z = 0
  · subst hZ
    clear hZ1 hZ2
    refine cut 2 (LawBZ s₁.heap s₁.heap.objs.size s₁ wy n P) ?_ ?_
    · dsimp only [List.take]
      k_steps
      (show LawBZ _ _ _ _ _ _ _)
      refine' LawBZ.intro ?tF ?tN ?ta ?tb ?tc ?td ?te
      case tF => assumption
      case tN => assumption
      case ta => exact rfl
      case tb => exact rfl
      case tc => exact rfl
      case td => exact rfl
      case te => exact rfl
    dsimp only [List.drop]
    clear F2 N2
    rintro s5 ⟨u1, u2, u3, u4, h, tk, m, rfl, F2, N2⟩
    dsimp only [over] at F2
    by_cases hneg : n < 0
    · refine cut_ret 1 (RetTrue s₁.heap s₁.heap.objs.size s₁) ?_ ?_
      · dsimp only [List.take]
        k_steps
        all_goals (
          (show RetE _ _ _)
          refine' RetTrue.intro ?rb ?rF ?rN
          case rF => assumption
          case rN => assumption
          case rb => exact rfl)
      rintro v s' ⟨rfl, h, tk, m, rfl, F2, N2⟩
      dsimp only
      k_steps
    refine cut 2 (LawCZ s₁.heap s₁.heap.objs.size s₁ wy n P) ?_ ?_
    · dsimp only [List.take]
      k_steps
      (show LawCZ _ _ _ _ _ _ _)
      refine' LawCZ.intro ?tF ?tN ?ta ?tb ?tc ?td ?te ?tf ?th ?ti
      case tF => assumption
      case tN => assumption
      case ta => exact rfl
      case tb => exact rfl
      case tc => exact rfl
      case td => exact rfl
      case te => exact rfl
      case tf => exact rfl
      case ti => exact rfl
      case th => exact Int.zero_mul _
    dsimp only [List.drop]
    clear F2 N2
    rintro s6 ⟨u1, u2, u3, u4, u5, h, tk, m, rfl, F2, N2⟩
    dsimp only [over] at F2
    refine cut 2 (LawDZ s₁.heap s₁.heap.objs.size s₁ n P) ?_ ?_
    · dsimp only [List.take]
      k_steps
      all_goals (
        (show LawDZ _ _ _ _ _ _)
        refine' LawDZ.intro ?tF ?tN ?ta ?tb ?tc ?td ?te ?tf ?th ?ti
        case tF => assumption
        case tN => assumption
        case ta => exact rfl
        case tb => exact rfl
        case tc => exact rfl
        case td => exact rfl
        case te => exact rfl
        case tf => exact rfl
        case th => exact rfl
        case ti => first | with_reducible exact rfl | with_reducible exact str_n)
    dsimp only [List.drop]
    clear F2 N2
    rintro s6 ⟨wy', u1, u2, u3, u4, u5, h, tk, m, rfl, F2, N2⟩
    dsimp only [over] at F2
    refine cut_ret 2 (RetTrue s₁.heap s₁.heap.objs.size s₁) ?_ ?_
    · dsimp only [List.take]
      by_cases hn0 : n = 0
      · subst hn0
        have z1 : (-1 : Int) ^ (0 : Int).toNat * (0 : Int) ^ (0 : Int).toNat = 1 := by decide
        have z2 : (0 : Int) * 0 = 0 := by decide
        k_steps
        all_goals (
          (show RetE _ _ _)
          refine' RetTrue.intro ?rb ?rF ?rN
          case rF => assumption
          case rN => assumption
          case rb => exact rfl)
      · have z1 : (-1 : Int) ^ (0 : Int).toNat * (0 : Int) ^ n.toNat = 0 := by rw [Int.zero_pow (by omega)]; rfl
        have hb0 : ((Builtin.Int.intBits 0 : Nat) : Int) * n < 1000 := by
          rw [show Builtin.Int.intBits 0 = 0 from by decide]; omega
        k_steps
        all_goals (
          (show RetE _ _ _)
          refine' RetTrue.intro ?rb ?rF ?rN
          case rF => assumption
          case rN => assumption
          case rb => exact rfl)
    rintro v s' ⟨rfl, h, tk, m, rfl, F2, N2⟩
    dsimp only
    k_steps
  have hM0 : odp Z.natAbs ≠ 0 := Nat.pos_iff_ne_zero.mp (odp_pos (by omega))
  have hMo : odp Z.natAbs % 2 = 1 := odp_mod (by omega)
  have hZb : nb Z.natAbs ≤ 40 := nb_le.mpr (by have : (2 : Nat) ^ 40 = 1099511627776 := by decide
                                               omega)
  have hMb : nb (odp Z.natAbs) + tz Z.natAbs ≤ 40 := by rw [nb_odp (by omega)]; exact hZb
  refine cut 2 (LawB s₁.heap s₁.heap.objs.size s₁ wy (sI (decide (Z < 0))) (odp Z.natAbs) (p + (tz Z.natAbs : Nat)) n P) ?_ ?_
  · dsimp only [List.take]
    k_steps
    (show LawB _ _ _ _ _ _ _ _ _ _)
    refine' LawB.intro hZ ?vF ?vN ?vh ?va ?vb ?vc ?vd ?ve
    case vF => assumption
    case vN => assumption
    case va => exact rfl
    case vb => exact rfl
    case vc => exact rfl
    case vd => exact rfl
    case ve => exact rfl
    case vh => exact sub0
  dsimp only [List.drop]
  clear F2 N2
  generalize odp Z.natAbs = M at *
  have he1 : p + ((tz Z.natAbs : Nat) : Int) ≤ 70 := by omega
  have he2 : -30 ≤ p + ((tz Z.natAbs : Nat) : Int) := by omega
  generalize p + ((tz Z.natAbs : Nat) : Int) = e at *
  generalize decide (Z < 0) = ng at *
  rintro s5 ⟨D, v1, v2, v3, v4, u1, u2, u3, u4, u5, Z', hZ', h, tk, m, rfl, F2, N2⟩
  dsimp only [over] at F2
  refine cut 2 (LawC s₁.heap s₁.heap.objs.size s₁ wy (sI ng) M e n (sI (sgp ng n.natAbs)) P) ?_ ?_
  · dsimp only [List.take]
    k_steps
    (show LawC _ _ _ _ _ _ _ _ _ _ _)
    refine' LawC.intro ?tF ?tN ?th ?ta ?tb ?tc ?td ?te ?tf
    case tF => assumption
    case tN => assumption
    case ta => exact rfl
    case tb => exact rfl
    case tc => exact rfl
    case td => exact rfl
    case te => exact rfl
    case tf => exact eqI side_eq
    case th => exact sub0
  dsimp only [List.drop]
  rintro s6 ⟨D, v1, v2, v3, v4, u1, u2, u3, u4, u5, h, tk, m, rfl, F2, N2⟩
  dsimp only [over] at F2
  refine cut 2 (LawD s₁.heap s₁.heap.objs.size s₁ ng M e n P) ?_ ?_
  · dsimp only [List.take]
    generalize hsg : sgp ng n.natAbs = sg at F2
    cases wy <;> cases sg <;> dsimp only [Way.str, sI] at F2
    all_goals k_steps
    all_goals (
      (show LawD _ _ _ _ _ _ _ _ _)
      refine' LawD.intro ?tF ?tN ?th ?ta ?tb ?tc ?td ?te ?tf ?tg ?ti ?tj ?tk
      case tF => assumption
      case tN => assumption
      case ta => exact rfl
      case tb => exact rfl
      case tc => exact rfl
      case td => exact rfl
      case te => exact rfl
      case tf => exact rfl
      case tg => exact rfl
      case th => exact fun _ h => h
      case ti => (rw [hsg]; exact rfl)
      case tj => first | with_reducible exact str_n | with_reducible exact str_f | with_reducible exact str_c | with_reducible exact str_u | with_reducible exact str_d
      case tk =>
        rw [hsg]
        intro h3 hL
        first
        | exact .inl rfl
        | exact .inr rfl
        | (exfalso; first | exact ld1 h3 (by assumption) | exact ld2 h3 hL (by assumption) | exact ld3 h3 (by first | with_reducible rfl | decide +kernel) (by assumption)))
  dsimp only [List.drop]
  rintro s7 ⟨wy', hi, D, v1, v2, v3, v4, u1, u2, u3, u4, u5, h, tk, m, rfl, F2, N2⟩
  dsimp only [over] at F2
  by_cases hneg : n < 0
  · obtain ⟨k, rfl⟩ : ∃ k : Nat, n = -(k : Int) := ⟨(-n).toNat, by omega⟩
    clear hi
    simp only [Int.natAbs_neg, Int.natAbs_natCast] at F2
    have hMi : (M : Int) ≠ 0 := by omega
    have hk1 : 1 ≤ k := by omega
    have hkk : k ≤ 12 := by omega
    have hkb : nb M * k ≤ 480 := Nat.mul_le_mul (show nb M ≤ 40 by omega) hkk
    by_cases hM1 : M = 1
    · subst hM1
      k_steps
    have hM1i : (M : Int) ≠ 1 := by omega
    have hqb : nb (M ^ k) ≤ 9000 := by have := nb_pow_le (M := M) (k := k) (by omega); omega
    have habs : (if -(k : Int) < 0 then - -(k : Int) else -(k : Int)) = (k : Int) := by rw [if_pos (by omega)]; omega
    have hab0 : (0 : Int) ≤ (if -(k : Int) < 0 then - -(k : Int) else -(k : Int)) := by rw [habs]; omega
    have hab1 : ((Builtin.Int.intBits (M : Int) : Nat) : Int) * (if -(k : Int) < 0 then - -(k : Int) else -(k : Int)) ≤ 2 ^ 27 := by rw [habs, nb_natCast, ← Int.natCast_mul]; omega
    refine cut 4 (LawE s₁.heap s₁.heap.objs.size s₁ wy' ng (sgp ng k) M e (-(k : Int)) P (2 ^ (-(e * (k : Int))).toNat) (M ^ k * 2 ^ (e * (k : Int)).toNat) (M ^ k)) ?_ ?_
    · dsimp only [List.take]
      k_steps
      all_goals (
        (show LawE _ _ _ _ _ _ _ _ _ _ _ _ _ _)
        refine' LawE.intro ?rX ?rF ?rN ?rh ?ra ?rb ?rc ?rd ?re ?rf ?rg ?rx
        case rF => assumption
        case rN => assumption
        case ra => exact rfl
        case rb => exact rfl
        case rc => exact rfl
        case rd => exact rfl
        case re => exact rfl
        case rf => exact rfl
        case rg => exact rfl
        case rh => exact sub2
        case rX => assumption
        case rx => exact abs_pw habs)
    dsimp only [List.drop]
    rintro s8 ⟨S, pw, D, D2, v1, v2, v3, v4, w1, w2, w3, w4, u1, u2, u3, u4, u5, hF, h, tk, m, rfl, F2, N2⟩
    dsimp only [over] at F2
    have hsh : e * (k : Int) ≤ 5000 ∧ -5000 ≤ e * (k : Int) := by
      have h1 : e * (k : Int) ≤ 70 * (k : Int) := Int.mul_le_mul_of_nonneg_right he1 (by omega)
      have h2 : (-30) * (k : Int) ≤ e * (k : Int) := Int.mul_le_mul_of_nonneg_right he2 (by omega)
      omega
    obtain ⟨hsh1, hsh2⟩ := hsh
    obtain ⟨hfa, hfb⟩ := nb_far (sh := e * (k : Int)) hqb hsh1 hsh2
    refine cut 1 (LawF s₁.heap s₁.heap.objs.size s₁ wy' (sgp ng k) (-(k : Int)) (e * (k : Int)) P (2 ^ (-(e * (k : Int))).toNat) (M ^ k * 2 ^ (e * (k : Int)).toNat) (M ^ k)) ?_ ?_
    · dsimp only [List.take]
      k_steps
      (show LawF _ _ _ _ _ _ _ _ _ _ _ _)
      refine' LawF.intro ?rX ?rF ?rN ?rh ?ra ?rb ?rc ?rd ?re ?rf ?rg ?rx
      case rF => assumption
      case rN => assumption
      case ra => exact rfl
      case rb => exact rfl
      case rc => exact rfl
      case rd => exact rfl
      case re => exact rfl
      case rf => exact rfl
      case rg => exact rfl
      case rh => exact sub1
      case rX => assumption
      case rx => rw [habs]
    dsimp only [List.drop]
    generalize e * (k : Int) = sh at *
    rintro s9 ⟨S, pw, D2, w1, w2, w3, w4, u1, u2, u3, u4, u5, u6, hF, h, tk, m, rfl, F2, N2⟩
    dsimp only [over] at F2
    have hs2 : ((Builtin.Int.intBits 2 : Nat) : Int) * sh ≤ 2 ^ 27 := by rw [bits_two]; omega
    have hs3 : ((Builtin.Int.intBits 2 : Nat) : Int) * -sh ≤ 2 ^ 27 := by rw [bits_two]; omega
    refine cut 1 (LawG s₁.heap s₁.heap.objs.size s₁ wy' (sgp ng k) (-(k : Int)) P (2 ^ (-sh).toNat) (M ^ k * 2 ^ sh.toNat) (M ^ k * 2 ^ sh.toNat) (2 ^ (-sh).toNat)) ?_ ?_
    · dsimp only [List.take]
      k_steps
      all_goals (
        (show LawG _ _ _ _ _ _ _ _ _ _ _ _)
        refine' LawG.intro ?rX ?rF ?rN ?rh ?ra ?rb ?rc ?re ?rf ?rg ?rx
        case rF => assumption
        case rN => assumption
        case ra => exact rfl
        case rb => exact rfl
        case rc => exact rfl
        case re => exact rfl
        case rf => exact rfl
        case rg => exact rfl
        case rh => exact fun _ h => h
        case rX => assumption
        case rx => first | exact sh_pos (by assumption) | exact sh_neg (by assumption))
    dsimp only [List.drop]
    rintro s9 ⟨S, pw, D2, w1, w2, w3, w4, u1, u2, u3, u4, u5, ⟨hF1, hF2, hF3, hF4, hF5⟩, h, tk, m, rfl, F2, N2⟩
    dsimp only [over] at F2
    k_steps
  obtain ⟨k, rfl⟩ : ∃ k : Nat, n = (k : Int) := ⟨n.toNat, by omega⟩
  rw [Int.natAbs_natCast] at hi
  simp only [Int.natAbs_natCast] at F2
  have hMi : (M : Int) ≠ 0 := by omega
  have hkk : k ≤ 48 := by omega
  have hkb : nb M * k ≤ 1920 := Nat.mul_le_mul (show nb M ≤ 40 by omega) hkk
  have hpb : ((Builtin.Int.intBits (M : Int) : Nat) : Int) * ((k : Nat) : Int) ≤ 2 ^ 27 := by rw [nb_natCast, ← Int.natCast_mul]; omega
  have hqb : nb (M ^ k) ≤ 9000 := by
    by_cases hk0 : k = 0
    · subst hk0; rw [Nat.pow_zero, nb_one]; decide
    · have := nb_pow_le (M := M) (k := k) (by omega); omega
  have hqi : Builtin.Int.intBits ((M : Int) ^ ((k : Nat) : Int).toNat) ≤ 1000000 := by rw [powN]; exact Nat.le_trans hqb (by decide)
  by_cases hk0 : k = 0
  · subst hk0
    have one1 : (-1 : Int) ^ (sI (sgp ng 0)).toNat * (M : Int) ^ ((0 : Nat) : Int).toNat = 1 := by simp [sgp, sI]
    have one2 : e * ((0 : Nat) : Int) = 0 := by simp
    k_steps
  have hk1 : 1 ≤ k := by omega
  by_cases hsm : k ≤ 2 ∨ M = 1 ∨ nb M * k < 1000
  · have hsmi : ((k : Int) < 3 ∨ ((Builtin.Int.intBits (M : Int) : Nat) : Int) * (k : Int) < 1000) ∨ (M : Int) = 1 := by
      rw [nb_natCast, ← Int.natCast_mul]; omega
    k_steps
  have hk3 : 3 ≤ k := by omega
  have hM1 : M ≠ 1 := by omega
  have hM1i : (M : Int) ≠ 1 := by omega
  have hge : 1000 ≤ nb M * k := by omega
  have hgei : ¬ ((Builtin.Int.intBits (M : Int) : Nat) : Int) * (k : Int) < 1000 := by rw [nb_natCast, ← Int.natCast_mul]; omega
  have hout := hi (by omega) (by rw [← Int.natCast_mul]; omega)
  have habs : (if (k : Int) < 0 then -(k : Int) else (k : Int)) = (k : Int) := if_neg (by omega)
  have hab0 : (0 : Int) ≤ (if (k : Int) < 0 then -(k : Int) else (k : Int)) := by rw [habs]; omega
  have hab1 : ((Builtin.Int.intBits (M : Int) : Nat) : Int) * (if (k : Int) < 0 then -(k : Int) else (k : Int)) ≤ 2 ^ 27 := by rw [habs]; exact hpb
  refine cut 4 (LawE s₁.heap s₁.heap.objs.size s₁ wy' ng (sgp ng k) M e (k : Int) P (M ^ k * 2 ^ (e * (k : Int)).toNat) (2 ^ (-(e * (k : Int))).toNat) (M ^ k)) ?_ ?_
  · dsimp only [List.take]
    k_steps
    all_goals (
      (show LawE _ _ _ _ _ _ _ _ _ _ _ _ _ _)
      refine' LawE.intro ?rX ?rF ?rN ?rh ?ra ?rb ?rc ?rd ?re ?rf ?rg ?rx
      case rF => assumption
      case rN => assumption
      case ra => exact rfl
      case rb => exact rfl
      case rc => exact rfl
      case rd => exact rfl
      case re => exact rfl
      case rf => exact rfl
      case rg => exact rfl
      case rh => exact sub2
      case rX => assumption
      case rx => exact abs_pw habs)
  dsimp only [List.drop]
  rintro s8 ⟨S, pw, D, D2, v1, v2, v3, v4, w1, w2, w3, w4, u1, u2, u3, u4, u5, hF, h, tk, m, rfl, F2, N2⟩
  dsimp only [over] at F2
  have hsh : e * (k : Int) ≤ 5000 ∧ -5000 ≤ e * (k : Int) := by
    have h1 : e * (k : Int) ≤ 70 * (k : Int) := Int.mul_le_mul_of_nonneg_right he1 (by omega)
    have h2 : (-30) * (k : Int) ≤ e * (k : Int) := Int.mul_le_mul_of_nonneg_right he2 (by omega)
    omega
  obtain ⟨hsh1, hsh2⟩ := hsh
  obtain ⟨hfa, hfb⟩ := nb_far (sh := e * (k : Int)) hqb hsh1 hsh2
  refine cut 1 (LawF s₁.heap s₁.heap.objs.size s₁ wy' (sgp ng k) (k : Int) (e * (k : Int)) P (M ^ k * 2 ^ (e * (k : Int)).toNat) (2 ^ (-(e * (k : Int))).toNat) (M ^ k)) ?_ ?_
  · dsimp only [List.take]
    k_steps
    (show LawF _ _ _ _ _ _ _ _ _ _ _ _)
    refine' LawF.intro ?rX ?rF ?rN ?rh ?ra ?rb ?rc ?rd ?re ?rf ?rg ?rx
    case rF => assumption
    case rN => assumption
    case ra => exact rfl
    case rb => exact rfl
    case rc => exact rfl
    case rd => exact rfl
    case re => exact rfl
    case rf => exact rfl
    case rg => exact rfl
    case rh => exact sub1
    case rX => assumption
    case rx => rw [habs]
  dsimp only [List.drop]
  generalize e * (k : Int) = sh at *
  rintro s9 ⟨S, pw, D2, w1, w2, w3, w4, u1, u2, u3, u4, u5, u6, hF, h, tk, m, rfl, F2, N2⟩
  dsimp only [over] at F2
  have hs2 : ((Builtin.Int.intBits 2 : Nat) : Int) * sh ≤ 2 ^ 27 := by rw [bits_two]; omega
  have hs3 : ((Builtin.Int.intBits 2 : Nat) : Int) * -sh ≤ 2 ^ 27 := by rw [bits_two]; omega
  refine cut 1 (LawG s₁.heap s₁.heap.objs.size s₁ wy' (sgp ng k) (k : Int) P (M ^ k * 2 ^ sh.toNat) (2 ^ (-sh).toNat) (M ^ k * 2 ^ sh.toNat) (2 ^ (-sh).toNat)) ?_ ?_
  · dsimp only [List.take]
    k_steps
    all_goals (
      (show LawG _ _ _ _ _ _ _ _ _ _ _ _)
      refine' LawG.intro ?rX ?rF ?rN ?rh ?ra ?rb ?rc ?re ?rf ?rg ?rx
      case rF => assumption
      case rN => assumption
      case ra => exact rfl
      case rb => exact rfl
      case rc => exact rfl
      case re => exact rfl
      case rf => exact rfl
      case rg => exact rfl
      case rh => exact fun _ h => h
      case rX => assumption
      case rx => first | exact sh_pos (by assumption) | exact sh_neg (by assumption))
  dsimp only [List.drop]
  rintro s9 ⟨S, pw, D2, w1, w2, w3, w4, u1, u2, u3, u4, u5, ⟨hF1, hF2, hF3, hF4, hF5⟩, h, tk, m, rfl, F2, N2⟩
  dsimp only [over] at F2
  k_steps)
end
end Mine

theorem PySem.Challenge.cw_bw0026_01_holds : PySem.Challenge.rw_bw0026_01.Holds :=
  Mine.law_holds
