import PyProof.Rows.All
import Wide.All
import OpenK.AllK
import Wide.FinOn
import Lean
import PySem.Challenge.RW_ab6008_01
open PySem PySem.W PyProof.Rows PySem.Spec
set_option Elab.async false
namespace GW
set_option maxRecDepth 100000 in
set_option maxHeartbeats 8000000 in
open_top hd for PySem.Challenge.rw_ab6008_01
end GW
local macro_rules | `(tactic| walk_at "gw one") => `(tactic| (first | (k_unfold; (try dsimp only)) | (k_end; wrow_close) | walk1 | (dsimp only; walk1) | (leave1; walk_say "STEP leave1"; try dsimp only) | fail "no step"))
local macro_rules | `(tactic| walk_at "gw to") => `(tactic| repeat' (
  (fail_if_success (with_reducible show KswEnd _ _ _ _ _ _ _ _ _ _ _ _));
  (fail_if_success (with_reducible show InvEndN _ _ _ _ _ _ _));
  (fail_if_success (with_reducible show LCg.CompSrc _ _ _ _ _ _ _ _ _ _ _ _ _ _));
  (fail_if_success (with_reducible show LCg.CompEnd _ _ _ _ _ _ _ _ _ _ _ _ _ _));
  (fail_if_success (with_reducible show LCg.FinE _ _ _ _ _ _ _));
  (fail_if_success (with_reducible show wpAny _ _ (exec (Stmt.While _ _ _ _) _) _ _ _));
  (fail_if_success (with_reducible show wpAny _ _ (subscriptTail _ _ _ _) _ _ _));
  (fail_if_success (with_reducible show wpAny _ _ (setItem _ _ _) _ _ _));
  (fail_if_success (with_reducible show wpAny _ _ (delItem _ _) _ _ _));
  (fail_if_success (with_reducible show wpAny _ _ (pyIter _) _ _ _));
  (fail_if_success (with_reducible show wpAny _ _ (compareOp CmpOp.NotEq (Value.ref _) (Value.ref _)) _ _ _));
  (fail_if_success (with_reducible show wpAny _ _ (call (Value.ref 44) _) _ _ _));
  (fail_if_success (with_reducible show wpAny _ _ (call (Value.ref 51) _) _ _ _));
  (fail_if_success (with_reducible show wpAny _ _ (call (Value.ref 58) _) _ _ _));
  (fail_if_success (with_reducible show wpAny _ _ (call (Value.ref 63) _) _ _ _));
  (fail_if_success (with_reducible show wpAny _ _ (call (Value.ref 68) _) _ _ _));
  (fail_if_success (with_reducible show wpAny _ _ (call (Value.builtin "list.pop") _) _ _ _));
  (fail_if_success (with_reducible show wpAny _ _ (call (Value.builtin "list.insert") _) _ _ _));
  walk_at "gw one"))
local macro_rules | `(tactic| walk_at "gw call") => `(tactic| (refine wpAny_call ?_; k_dflt (refine' code_def ?k1 ?k2 ?k3 ?k4 ?k5 ?kA ?kF ?kK ?k6 ?k7 ?k8 ?k9 ?kB ?_ ?c2 ?c3 ?c4 ?c5; (case kA => exact rfl); (case kF => exact rfl); (case kK => first | exact rfl | assumption); (case k1 => k_asm); (case k2 => k_asm); (case k3 => k_asm); (case k4 => k_asm); (case k5 => k_asm); (case k6 => k_is); (case k7 => k_is); (case k8 => ktr_room); (case k9 => exact BindsTo.of_eq rfl); (case c5 => decide); (case kB => exact locs rfl); (case c2 => exact rfl); (case c3 => exact rfl); (case c4 => exact rfl); k_whole; intro g' L' h' FG' F' N' B' X' T'; (try dsimp only); (try k_lift B'); (try k_fold))))
local macro_rules | `(tactic| walk_at "gw callC") => `(tactic| (refine wpAny_call ?_; k_dflt (refine' code_defC ?k1 ?k2 ?k3 ?k4 ?k5 ?kA ?kF ?kK ?k6 ?k7 ?k8 ?k9 ?kB ?kD ?_ ?c2 ?c3 ?c4; (case kA => exact rfl); (case kF => exact rfl); (case kK => first | exact rfl | assumption); (case k1 => k_asm); (case k2 => k_asm); (case k3 => k_asm); (case k4 => k_asm); (case k5 => k_asm); (case k6 => k_is); (case k7 => k_is); (case k8 => ktr_room); (case k9 => exact BindsTo.of_eq rfl); (case kB => exact rfl); (case kD => decide +kernel); (case c2 => exact rfl); (case c3 => exact rfl); (case c4 => exact rfl); k_whole; intro g' L' h' tk' cells' FG' F' N' Y' B' X' T' l1; (try k_lt l1); k_cells Y'; (try simp only [List.cons_append, List.nil_append] at N'); (try dsimp only); (try k_lift B'); (try k_fold))))
/-! The plain law: Garsia-Wachs over weights, by heights in a dyadic interval. -/
namespace GW

def ml (w : Int) (h : Nat) : Int := w * (h : Int)
theorem ml_succ (w : Int) (h : Nat) : ml w (h + 1) = ml w h + w := by
  unfold ml; rw [Int.natCast_add, Int.mul_add]; simp
theorem ml_add (x y : Int) (h : Nat) : ml (x + y) h = ml x h + ml y h := Int.add_mul ..
theorem ml_mono {w : Int} (hw : 0 ≤ w) {h k : Nat} (e : h ≤ k) : ml w h ≤ ml w k := by
  unfold ml; exact Int.mul_le_mul_of_nonneg_left (by omega) hw

abbrev PL := List (Int × Nat)

def Al : Nat → PL → Nat → Prop
  | p, [], q => p = q
  | p, a :: r, q => 2 ^ a.2 ∣ p ∧ Al (p + 2 ^ a.2) r q

def gain : PL → Int
  | [] => 0
  | a :: r => ml a.1 a.2 + gain r

theorem gain_append (A B : PL) : gain (A ++ B) = gain A + gain B := by
  induction A with
  | nil => simp [gain]
  | cons a A ih => simp only [List.cons_append, gain, ih]; omega

theorem al_append {A B : PL} : ∀ {p q : Nat}, Al p (A ++ B) q ↔ ∃ m, Al p A m ∧ Al m B q := by
  induction A with
  | nil => intro p q; simp [Al]
  | cons a A ih =>
    intro p q
    simp only [List.cons_append, Al, ih]
    constructor
    · rintro ⟨h, m, h1, h2⟩; exact ⟨m, ⟨h, h1⟩, h2⟩
    · rintro ⟨m, ⟨h, h1⟩, h2⟩; exact ⟨h, m, h1, h2⟩

theorem al_le {A : PL} : ∀ {p q : Nat}, Al p A q → p ≤ q := by
  induction A with
  | nil => intro p q h; exact Nat.le_of_eq h
  | cons a A ih => intro p q h; exact Nat.le_trans (Nat.le_add_right _ _) (ih h.2)

theorem pow_pos' (h : Nat) : 0 < 2 ^ h := Nat.two_pow_pos h

theorem al_mem {A : PL} : ∀ {p q : Nat}, Al p A q → ∀ a ∈ A, p + 2 ^ a.2 ≤ q := by
  induction A with
  | nil => intro p q _ a ha; cases ha
  | cons b A ih =>
    intro p q h a ha
    rcases List.mem_cons.mp ha with rfl | ha
    · exact al_le h.2
    · have := ih h.2 a ha; have := Nat.two_pow_pos b.2; omega

theorem al_nil_of {A : PL} {p : Nat} (h : Al p A p) : A = [] := by
  cases A with
  | nil => rfl
  | cons a A => have := al_le h.2; have := pow_pos' a.2; omega

theorem pow_dvd_of_le {a b : Nat} (h : a ≤ b) : 2 ^ a ∣ 2 ^ b := Nat.pow_dvd_pow 2 h
theorem le_of_pow_le {a b : Nat} (h : 2 ^ a ≤ 2 ^ b) : a ≤ b := (Nat.pow_le_pow_iff_right (by omega)).mp h
theorem le_of_pow_dvd {a b : Nat} (h : 2 ^ a ∣ 2 ^ b) : a ≤ b := le_of_pow_le (Nat.le_of_dvd (pow_pos' b) h)

/-- every height is at most D -/
theorem al_hle {A : PL} {p D : Nat} (h : Al p A (2 ^ D)) : ∀ a ∈ A, a.2 ≤ D := fun a ha => by
  have := al_mem h a ha
  exact le_of_pow_le (by omega)

/-- the end is aligned at what all heights reach -/
theorem al_end {A : PL} {e : Nat} : ∀ {p q : Nat}, Al p A q → 2 ^ e ∣ p → (∀ a ∈ A, e ≤ a.2) → 2 ^ e ∣ q := by
  induction A with
  | nil => intro p q h hp _; exact (show p = q from h) ▸ hp
  | cons a A ih =>
    intro p q h hp hA
    exact ih h.2 (Nat.dvd_add hp (pow_dvd_of_le (hA a (.head _)))) fun b hb => hA b (.tail _ hb)

/-- a boundary, or a leaf that lies across it -/
theorem al_split {A : PL} : ∀ {p q r : Nat}, Al p A q → p ≤ r → r ≤ q →
    (∃ B C, A = B ++ C ∧ Al p B r ∧ Al r C q) ∨
    (∃ B a C p1, A = B ++ a :: C ∧ Al p B p1 ∧ 2 ^ a.2 ∣ p1 ∧ p1 < r ∧ r < p1 + 2 ^ a.2 ∧ p1 + 2 ^ a.2 ≤ q) := by
  induction A with
  | nil => intro p q r h h1 h2; exact .inl ⟨[], [], rfl, by have : p = q := h; show p = r; omega, by have : p = q := h; show r = q; omega⟩
  | cons a A ih =>
    intro p q r h h1 h2
    by_cases e : p = r
    · exact .inl ⟨[], a :: A, rfl, e, e ▸ h⟩
    · by_cases e2 : r < p + 2 ^ a.2
      · exact .inr ⟨[], a, A, p, rfl, rfl, h.1, by omega, e2, al_le h.2⟩
      · rcases ih h.2 (r := r) (by omega) h2 with ⟨B, C, rfl, hB, hC⟩ | ⟨B, b, C, p1, rfl, hB, hd, h3, h4, h5⟩
        · exact .inl ⟨a :: B, C, rfl, ⟨h.1, hB⟩, hC⟩
        · exact .inr ⟨a :: B, b, C, p1, rfl, ⟨h.1, hB⟩, hd, h3, h4, h5⟩

/-- the block of size 2^e left of p, p an odd multiple of 2^e -/
theorem al_left {A : PL} {r e : Nat} (h : Al 0 A (r + 2 ^ e)) (hr : 2 ^ (e + 1) ∣ r) :
    ∃ A1 B, A = A1 ++ B ∧ Al 0 A1 r ∧ Al r B (r + 2 ^ e) ∧ ∀ b ∈ B, b.2 ≤ e := by
  rcases al_split h (r := r) (by omega) (by omega) with ⟨B, C, rfl, hB, hC⟩ | ⟨B, a, C, p1, rfl, hB, hd, h3, h4, h5⟩
  · exact ⟨B, C, rfl, hB, hC, fun b hb => le_of_pow_le (by have := al_mem hC b hb; omega)⟩
  · exfalso
    by_cases hae : a.2 ≤ e + 1
    · have h6 : 2 ^ a.2 ∣ r := Nat.dvd_trans (pow_dvd_of_le hae) hr
      obtain ⟨x, rfl⟩ := hd
      obtain ⟨y, rfl⟩ := h6
      have h7 : x < y := Nat.lt_of_mul_lt_mul_left h3
      have h8 : 2 ^ a.2 * (x + 1) ≤ 2 ^ a.2 * y := Nat.mul_le_mul_left _ h7
      rw [Nat.mul_add] at h8
      omega
    · have h6 : 2 ^ (e + 1) ∣ p1 := Nat.dvd_trans (pow_dvd_of_le (by omega)) hd
      have h7 : 2 ^ (e + 1) ≤ 2 ^ a.2 := Nat.pow_le_pow_right (by omega) (by omega)
      have h9 : 2 ^ (e + 1) = 2 * 2 ^ e := by rw [Nat.pow_succ]; omega
      have hp := pow_pos' e
      have h6' : 2 ^ (e + 1) ∣ p1 + 2 ^ a.2 := Nat.dvd_add h6 (pow_dvd_of_le (by omega))
      obtain ⟨x, hx⟩ := h6'
      obtain ⟨y, hy⟩ := hr
      have h10 : y < x := Nat.lt_of_mul_lt_mul_left (a := 2 ^ (e + 1)) (by omega)
      have h8 : 2 ^ (e + 1) * (y + 1) ≤ 2 ^ (e + 1) * x := Nat.mul_le_mul_left _ h10
      rw [Nat.mul_add] at h8
      omega

/-- the block of size 2^e from p on, where the first leaf is no higher than e -/
theorem al_right {C : PL} {p q e : Nat} (h : Al p C q) (hp : 2 ^ e ∣ p) (hq : p + 2 ^ e ≤ q) (hh : ∀ a r, C = a :: r → a.2 ≤ e) :
    ∃ B C1, C = B ++ C1 ∧ Al p B (p + 2 ^ e) ∧ Al (p + 2 ^ e) C1 q ∧ ∀ b ∈ B, b.2 ≤ e := by
  rcases al_split h (r := p + 2 ^ e) (by omega) hq with ⟨B, C, rfl, hB, hC⟩ | ⟨B, a, C, p1, rfl, hB, hd, h3, h4, h5⟩
  · exact ⟨B, C, rfl, hB, hC, fun b hb => le_of_pow_le (by have := al_mem hB b hb; omega)⟩
  · exfalso
    by_cases hae : a.2 ≤ e
    · have h6 : 2 ^ a.2 ∣ p + 2 ^ e := Nat.dvd_add (Nat.dvd_trans (pow_dvd_of_le hae) hp) (pow_dvd_of_le hae)
      obtain ⟨x, rfl⟩ := hd
      obtain ⟨y, hy⟩ := h6
      rw [hy] at h3 h4
      have h7 : x < y := Nat.lt_of_mul_lt_mul_left h3
      have h8 : 2 ^ a.2 * (x + 1) ≤ 2 ^ a.2 * y := Nat.mul_le_mul_left _ h7
      rw [Nat.mul_add] at h8
      omega
    · have hpp := al_le hB
      cases B with
      | nil => exact absurd (hh a C rfl) (by omega)
      | cons b B =>
        have h6 : 2 ^ e ∣ p1 := Nat.dvd_trans (pow_dvd_of_le (by omega)) hd
        have h7 := al_le hB.2
        have hb := pow_pos' b.2
        obtain ⟨x, hx⟩ := h6
        obtain ⟨y, hy⟩ := hp
        have h10 : y < x := Nat.lt_of_mul_lt_mul_left (a := 2 ^ e) (by omega)
        have h8 : 2 ^ e * (y + 1) ≤ 2 ^ e * x := Nat.mul_le_mul_left _ h10
        rw [Nat.mul_add] at h8
        omega

def up (B : PL) : PL := B.map fun a => (a.1, a.2 + 1)

def wts (A : PL) : List Int := A.map (·.1)
theorem wts_up (B : PL) : wts (up B) = wts B := by simp [wts, up, Function.comp_def]
theorem wts_append (A B : PL) : wts (A ++ B) = wts A ++ wts B := List.map_append
theorem gain_up (B : PL) : gain (up B) = gain B + (wts B).sum := by
  induction B with
  | nil => simp [up, gain, wts]
  | cons a B ih =>
    have : gain (up (a :: B)) = ml a.1 (a.2 + 1) + gain (up B) := rfl
    rw [this, ih, ml_succ]
    simp only [gain, wts, List.map_cons, List.sum_cons]
    omega

theorem al_double {B : PL} {b c e : Nat} (hb : 2 ^ e ∣ b) (hc : 2 ^ (e + 1) ∣ c) : ∀ {x y : Nat}, Al (b + x) B (b + y) → (∀ a ∈ B, a.2 ≤ e) → Al (c + 2 * x) (up B) (c + 2 * y) := by
  induction B with
  | nil => intro x y h _; have : b + x = b + y := h; show c + 2 * x = c + 2 * y; omega
  | cons a B ih =>
    intro x y h hB
    have ha := hB a (.head _)
    have h1 : 2 ^ a.2 ∣ x := (Nat.dvd_add_right (Nat.dvd_trans (pow_dvd_of_le ha) hb)).mp h.1
    refine ⟨?_, ?_⟩
    · show 2 ^ (a.2 + 1) ∣ c + 2 * x
      refine Nat.dvd_add (Nat.dvd_trans (pow_dvd_of_le (by omega)) hc) ?_
      rw [Nat.pow_succ, Nat.mul_comm]
      exact Nat.mul_dvd_mul_left 2 h1
    · have h2 := ih (x := x + 2 ^ a.2) (y := y) (by rw [← Nat.add_assoc]; exact h.2) fun b hb => hB b (.tail _ hb)
      have e2 : c + 2 * (x + 2 ^ a.2) = c + 2 * x + 2 ^ (a.2 + 1) := by rw [Nat.pow_succ]; omega
      rw [e2] at h2
      exact h2

/-- moved by a multiple of what no height exceeds -/
theorem al_shift {S : PL} {c e : Nat} (hc : 2 ^ e ∣ c) : ∀ {p q : Nat}, Al p S q → (∀ a ∈ S, a.2 ≤ e) → Al (p + c) S (q + c) := by
  induction S with
  | nil => intro p q h _; have : p = q := h; show p + c = q + c; omega
  | cons a S ih =>
    intro p q h hS
    have ha := hS a (.head _)
    refine ⟨Nat.dvd_add h.1 (Nat.dvd_trans (pow_dvd_of_le ha) hc), ?_⟩
    have := ih h.2 fun b hb => hS b (.tail _ hb)
    rw [Nat.add_right_comm] at this
    exact this
theorem al_unshift {S : PL} {c e : Nat} (hc : 2 ^ e ∣ c) : ∀ {p q : Nat}, Al (p + c) S q → (∀ a ∈ S, a.2 ≤ e) → ∃ q', q = q' + c ∧ Al p S q' := by
  induction S with
  | nil => intro p q h _; exact ⟨p, Eq.symm h, rfl⟩
  | cons a S ih =>
    intro p q h hS
    have ha := hS a (.head _)
    have h2 := h.2
    rw [Nat.add_right_comm] at h2
    obtain ⟨q', rfl, h3⟩ := ih h2 fun b hb => hS b (.tail _ hb)
    exact ⟨q', rfl, (Nat.dvd_add_left (Nat.dvd_trans (pow_dvd_of_le ha) hc)).mp h.1, h3⟩

def Opt (D : Nat) (ps : PL) : Prop := Al 0 ps (2 ^ D) ∧ ∀ qs, wts qs = wts ps → Al 0 qs (2 ^ D) → gain qs ≤ gain ps

theorem pow_succ2 (h : Nat) : 2 ^ (h + 1) = 2 ^ h + 2 ^ h := by rw [Nat.pow_succ]; omega

/-- the core of lemma X: if the middle one lies lower than the right one -/
theorem x_core {D : Nat} {A C : PL} {b c : Int} {hb hc : Nat} (h : Al 0 (A ++ (b, hb) :: (c, hc) :: C) (2 ^ D)) (hlt : hb < hc) :
    ∃ A1 B k, A = A1 ++ B ∧ B ≠ [] ∧ hc = k + 1 ∧ Al 0 (A1 ++ up B ++ (b, k) :: (c, k) :: C) (2 ^ D) := by
  obtain ⟨p, hA, h1, h2, h3⟩ := al_append.mp h
  obtain ⟨k, rfl⟩ : ∃ k, hc = k + 1 := ⟨hc - 1, by omega⟩
  have hbk : hb ≤ k := by omega
  have h2' : 2 ^ (hb + 1) ∣ p + 2 ^ hb := Nat.dvd_trans (pow_dvd_of_le (by omega)) h2
  have hp : 2 ^ hb ≤ p := by
    rcases Nat.lt_or_ge p (2 ^ hb) with hlt | hge
    · have : p = 0 := Nat.eq_zero_of_dvd_of_lt h1 hlt
      subst this
      have h4 := Nat.le_of_dvd (by have := pow_pos' hb; omega) h2'
      rw [pow_succ2] at h4
      have := pow_pos' hb
      omega
    · exact hge
  obtain ⟨r, rfl⟩ : ∃ r, p = r + 2 ^ hb := ⟨p - 2 ^ hb, by omega⟩
  have hr : 2 ^ (hb + 1) ∣ r := by
    have : r + 2 ^ hb + 2 ^ hb = r + 2 ^ (hb + 1) := by rw [pow_succ2]; omega
    rw [this] at h2'
    exact (Nat.dvd_add_left (Nat.dvd_refl _)).mp h2'
  obtain ⟨A1, B, rfl, hA1, hB, hBh⟩ := al_left hA hr
  refine ⟨A1, B, k, rfl, ?_, rfl, ?_⟩
  · rintro rfl
    have : r = r + 2 ^ hb := hB
    have := pow_pos' hb
    omega
  · have hr0 : 2 ^ hb ∣ r := Nat.dvd_trans (pow_dvd_of_le (by omega)) hr
    have hd := al_double (b := r) (c := r) (e := hb) (x := 0) (y := 2 ^ hb) hr0 hr (by simpa using hB) hBh
    refine al_append.mpr ⟨r + 2 * 2 ^ hb, al_append.mpr ⟨r, hA1, by simpa using hd⟩, ?_⟩
    have e1 : r + 2 * 2 ^ hb = r + 2 ^ hb + 2 ^ hb := by omega
    rw [e1]
    simp only at h2 h3
    refine ⟨Nat.dvd_trans (pow_dvd_of_le (by omega)) h2, ?_, ?_⟩
    · show 2 ^ k ∣ r + 2 ^ hb + 2 ^ hb + 2 ^ k
      exact Nat.dvd_add (Nat.dvd_trans (pow_dvd_of_le (by omega)) h2) (Nat.dvd_refl _)
    · show Al (r + 2 ^ hb + 2 ^ hb + 2 ^ k + 2 ^ k) C (2 ^ D)
      have e2 : r + 2 ^ hb + 2 ^ hb + 2 ^ k + 2 ^ k = r + 2 ^ hb + 2 ^ hb + 2 ^ (k + 1) := by rw [pow_succ2]; omega
      rw [e2]; exact h3

theorem gain_cons (a : Int × Nat) (r : PL) : gain (a :: r) = ml a.1 a.2 + gain r := rfl

theorem sum_nonneg' {l : List Int} (h : ∀ w ∈ l, 0 ≤ w) : 0 ≤ l.sum := by
  induction l with
  | nil => simp
  | cons a l ih =>
    rw [List.sum_cons]
    have := h a (.head _)
    have := ih fun w hw => h w (.tail _ hw)
    omega

/-- lemma X -/
theorem lemX {D : Nat} {A C : PL} {a b c : Int} {ha hb hc : Nat} (h : Opt D (A ++ (a, ha) :: (b, hb) :: (c, hc) :: C))
    (hw : ∀ w ∈ wts (A ++ (a, ha) :: (b, hb) :: (c, hc) :: C), 0 ≤ w) (hac : c < a) : hc ≤ hb := by
  rcases Nat.lt_or_ge hb hc with hlt | hge
  · exfalso
    have e1 : A ++ (a, ha) :: (b, hb) :: (c, hc) :: C = (A ++ [(a, ha)]) ++ (b, hb) :: (c, hc) :: C := by simp
    rw [e1] at h hw
    obtain ⟨A1, B, k, hAB, hB, rfl, hal⟩ := x_core h.1 hlt
    rw [hAB] at h hw
    have hg := h.2 (A1 ++ up B ++ (b, k) :: (c, k) :: C) (by simp [wts_append, wts_up]; simp [wts]) hal
    have hbk := ml_mono (w := b) (hw b (by simp [wts])) (show hb ≤ k by omega)
    simp only [gain_append, gain_cons, gain_up, ml_succ] at hg
    -- the weight of B is at least a
    have hBa : a ≤ (wts B).sum := by
      rcases List.eq_nil_or_concat B with rfl | ⟨B', x, rfl⟩
      · exact absurd rfl hB
      · have e2 : A ++ [(a, ha)] = (A1 ++ B') ++ [x] := by rw [hAB]; simp
        have e3 := List.append_inj' e2 rfl
        have e4 : x = (a, ha) := by simpa using e3.2.symm
        subst e4
        have e5 : (wts (B'.concat (a, ha))).sum = (wts B').sum + a := by simp [wts]
        rw [e5]
        have := sum_nonneg' (l := wts B') fun w hw' => hw w (by simp [wts_append]; simp [hw'])
        omega
    omega
  · exact hge

/-- the first two leaves -/
theorem lemX0 {D : Nat} {C : PL} {b c : Int} {hb hc : Nat} (h : Al 0 ((b, hb) :: (c, hc) :: C) (2 ^ D)) : hc ≤ hb := by
  rcases Nat.lt_or_ge hb hc with hlt | hge
  · exfalso
    obtain ⟨A1, B, k, hAB, hB, _, _⟩ := x_core (A := []) (by simpa using h) hlt
    have := List.append_eq_nil_iff.mp hAB.symm
    exact hB this.2
  · exact hge

/-- the mirror of lemma X: the middle one lies lower than the left one -/
theorem xr_core {D : Nat} {A C : PL} {x y : Int} {hx hy : Nat} (h : Al 0 (A ++ (x, hx) :: (y, hy) :: C) (2 ^ D)) (hlt : hy < hx) :
    ∃ B C1 k, C = B ++ C1 ∧ B ≠ [] ∧ hx = k + 1 ∧ Al 0 (A ++ (x, k) :: (y, k) :: (up B ++ C1)) (2 ^ D) := by
  obtain ⟨p, hA, h1, h2, h3⟩ := al_append.mp h
  obtain ⟨k, rfl⟩ : ∃ k, hx = k + 1 := ⟨hx - 1, by omega⟩
  simp only at h1 h2 h3
  have hD : k + 1 ≤ D := al_hle h (x, k + 1) (by simp)
  have hyk : hy ≤ k := by omega
  -- the place of y
  have hq : 2 ^ (k + 1) ∣ p + 2 ^ (k + 1) := Nat.dvd_add h1 (Nat.dvd_refl _)
  have hq1 : 2 ^ (hy + 1) ∣ p + 2 ^ (k + 1) := Nat.dvd_trans (pow_dvd_of_le (by omega)) hq
  have hD1 : 2 ^ (hy + 1) ∣ 2 ^ D := pow_dvd_of_le (by omega)
  have hle := al_le h3
  have hroom : p + 2 ^ (k + 1) + 2 ^ (hy + 1) ≤ 2 ^ D := by
    obtain ⟨u, hu⟩ := hq1
    obtain ⟨v, hv⟩ := hD1
    have := pow_pos' hy
    have h4 : u < v := Nat.lt_of_mul_lt_mul_left (a := 2 ^ (hy + 1)) (by omega)
    have h5 : 2 ^ (hy + 1) * (u + 1) ≤ 2 ^ (hy + 1) * v := Nat.mul_le_mul_left _ h4
    rw [Nat.mul_add] at h5
    omega
  have hodd : ¬ 2 ^ (hy + 1) ∣ p + 2 ^ (k + 1) + 2 ^ hy := by
    intro hd
    have h4 := (Nat.dvd_add_right hq1).mp hd
    have h5 := le_of_pow_dvd h4
    omega
  obtain ⟨B, C1, rfl, hB, hC1, hBh⟩ := al_right h3 (e := hy) (Nat.dvd_add (Nat.dvd_trans (pow_dvd_of_le (by omega)) hq) (Nat.dvd_refl _)) (by rw [pow_succ2] at hroom; omega)
    (by
      rintro a r rfl
      rcases Nat.lt_or_ge hy a.2 with hlt | hge
      · exact absurd (Nat.dvd_trans (pow_dvd_of_le (by omega)) h3.1) hodd
      · exact hge)
  refine ⟨B, C1, k, rfl, ?_, rfl, ?_⟩
  · rintro rfl
    have : p + 2 ^ (k + 1) + 2 ^ hy = p + 2 ^ (k + 1) + 2 ^ hy + 2 ^ hy := hB
    have := pow_pos' hy
    omega
  · have hd := al_double (b := p + 2 ^ (k + 1) + 2 ^ hy) (c := p + 2 ^ (k + 1)) (e := hy) (x := 0) (y := 2 ^ hy) (Nat.dvd_add (Nat.dvd_trans (pow_dvd_of_le (by omega)) hq) (Nat.dvd_refl _)) hq1 (by simpa using hB) hBh
    refine al_append.mpr ⟨p, hA, ?_, ?_, ?_⟩
    · exact Nat.dvd_trans (pow_dvd_of_le (by omega)) h1
    · exact Nat.dvd_add (Nat.dvd_trans (pow_dvd_of_le (by simp)) h1) (Nat.dvd_refl _)
    · show Al (p + 2 ^ k + 2 ^ k) (up B ++ C1) (2 ^ D)
      have e1 : p + 2 ^ k + 2 ^ k = p + 2 ^ (k + 1) := by rw [pow_succ2]; omega
      rw [e1]
      refine al_append.mpr ⟨p + 2 ^ (k + 1) + 2 * 2 ^ hy, by simpa using hd, ?_⟩
      have e2 : p + 2 ^ (k + 1) + 2 * 2 ^ hy = p + 2 ^ (k + 1) + 2 ^ hy + 2 ^ hy := by omega
      rw [e2]; exact hC1

/-- lemma X read from behind, not strict: an optimum in which x and y lie alike -/
theorem lemXr {D : Nat} {A C : PL} {x y : Int} {hx hy : Nat} (h : Opt D (A ++ (x, hx) :: (y, hy) :: C))
    (hw : ∀ w ∈ wts (A ++ (x, hx) :: (y, hy) :: C), 0 ≤ w) (hC : ∀ z C', C = z :: C' → x ≤ z.1) (hlt : hy < hx) :
    ∃ k C', wts C' = wts C ∧ Opt D (A ++ (x, k) :: (y, k) :: C') := by
  obtain ⟨B, C1, k, rfl, hB, rfl, hal⟩ := xr_core h.1 hlt
  refine ⟨k, up B ++ C1, by simp [wts_append, wts_up], hal, fun qs hq hqa => ?_⟩
  have e : wts (A ++ (x, k) :: (y, k) :: (up B ++ C1)) = wts (A ++ (x, k + 1) :: (y, hy) :: (B ++ C1)) := by
    simp [wts_append, wts_up, wts]; simp [up, Function.comp_def]
  have hg := h.2 qs (hq.trans e) hqa
  have hyk := ml_mono (w := y) (hw y (by simp [wts])) (show hy ≤ k by omega)
  have hBx : x ≤ (wts B).sum := by
    cases B with
    | nil => exact absurd rfl hB
    | cons z B =>
      have h1 := hC z (B ++ C1) rfl
      have h2 := sum_nonneg' (l := wts B) fun w hw' => hw w (by simp [wts] at hw' ⊢; simp [hw'])
      simp only [wts, List.map_cons, List.sum_cons] at h2 ⊢
      omega
  simp only [gain_append, gain_cons, gain_up, ml_succ] at hg ⊢
  omega

/-- lemma Y: what may not stand in an optimum -/
theorem lemY {D : Nat} {A M C : PL} {s t : Int} {h ht : Nat} (ho : Opt D (A ++ (s, h + 2) :: (M ++ (t, ht) :: C)))
    (hw : ∀ w ∈ wts (A ++ (s, h + 2) :: (M ++ (t, ht) :: C)), 0 ≤ w) (hM : ∀ a ∈ M, a.2 = h + 1) (htl : ht ≤ h) (hC : ∀ z C', C = z :: C' → s < t + z.1) : False := by
  obtain ⟨p, hA, h1, h2⟩ := al_append.mp ho.1
  obtain ⟨q, hMq, h3, h4⟩ := al_append.mp h2
  simp only at h1 h2 h3 h4 hMq
  have hD : h + 2 ≤ D := al_hle ho.1 (s, h + 2) (by simp)
  have e22 : 2 ^ (h + 2) = 2 ^ (h + 1) + 2 ^ (h + 1) := pow_succ2 (h + 1)
  have hps : 2 ^ (h + 1) ∣ p := Nat.dvd_trans (pow_dvd_of_le (by omega)) h1
  have hp1 : 2 ^ (h + 1) ∣ p + 2 ^ (h + 2) := Nat.dvd_add hps (pow_dvd_of_le (by omega))
  have hq1 : 2 ^ (h + 1) ∣ q := al_end hMq hp1 fun a ha => by rw [hM a ha]; exact Nat.le_refl _
  have hle := al_le h4
  have hroom : q + 2 ^ (h + 1) ≤ 2 ^ D := by
    obtain ⟨u, hu⟩ := hq1
    obtain ⟨v, hv⟩ := pow_dvd_of_le (show h + 1 ≤ D by omega)
    have := pow_pos' ht
    have h5 : u < v := Nat.lt_of_mul_lt_mul_left (a := 2 ^ (h + 1)) (by omega)
    have h6 : 2 ^ (h + 1) * (u + 1) ≤ 2 ^ (h + 1) * v := Nat.mul_le_mul_left _ h5
    rw [Nat.mul_add] at h6
    omega
  obtain ⟨B, C1, hBC, hB, hC1, hBh⟩ := al_right (C := (t, ht) :: C) (p := q) (q := 2 ^ D) (e := h + 1) ⟨h3, h4⟩ hq1 hroom
    (by rintro a r e; cases e; show ht ≤ h + 1; omega)
  -- B holds t and one more
  obtain ⟨z, B', C', rfl, rfl, rfl⟩ : ∃ z B' C', B = (t, ht) :: z :: B' ∧ C = z :: C' ∧ C' = B' ++ C1 := by
    cases B with
    | nil => exact absurd (show q = q + 2 ^ (h + 1) from hB) (by have := pow_pos' (h + 1); omega)
    | cons b B =>
      have e := (List.cons.inj hBC)
      obtain ⟨e1, e2⟩ := e
      subst e1
      cases B with
      | nil =>
        exfalso
        have h5 : q + 2 ^ ht = q + 2 ^ (h + 1) := hB.2
        have h6 : 2 ^ ht ≤ 2 ^ h := Nat.pow_le_pow_right (by omega) htl
        have h7 := pow_succ2 h
        have := pow_pos' h
        omega
      | cons z B' => exact ⟨z, B', B' ++ C1, rfl, e2, rfl⟩
  have hs := hC z _ rfl
  -- all of B is at most h
  have hBh' : ∀ b ∈ (t, ht) :: z :: B', b.2 ≤ h := by
    intro b hb
    rcases List.mem_cons.mp hb with rfl | hb'
    · exact htl
    · have := al_mem hB.2 b hb'
      have h7 := pow_pos' ht
      simp only at this
      exact Nat.le_of_lt_succ (Nat.lt_of_not_le fun hge => by
        have h8 : 2 ^ (h + 1) ≤ 2 ^ b.2 := Nat.pow_le_pow_right (by omega) hge
        omega)
  -- M one place to the left, B doubled
  obtain ⟨q', rfl, hM'⟩ := al_unshift (S := M) (c := 2 ^ (h + 1)) (e := h + 1) (p := p + 2 ^ (h + 1)) (q := q) (Nat.dvd_refl _)
    (by rw [show p + 2 ^ (h + 1) + 2 ^ (h + 1) = p + 2 ^ (h + 2) by omega]; exact hMq) fun a ha => by rw [hM a ha]; exact Nat.le_refl _
  have hq2 : 2 ^ (h + 1) ∣ q' := (Nat.dvd_add_left (Nat.dvd_refl _)).mp hq1
  have hd := al_double (B := (t, ht) :: z :: B') (b := q' + 2 ^ (h + 1)) (c := q') (e := h) (x := 0) (y := 2 ^ (h + 1)) (Nat.dvd_trans (pow_dvd_of_le (by omega)) hq1) hq2 (by simpa using hB) hBh'
  have hal : Al 0 (A ++ (s, h + 1) :: (M ++ (up ((t, ht) :: z :: B') ++ C1))) (2 ^ D) := by
    refine al_append.mpr ⟨p, hA, hps, ?_⟩
    refine al_append.mpr ⟨q', hM', ?_⟩
    refine al_append.mpr ⟨q' + 2 * 2 ^ (h + 1), by simpa using hd, ?_⟩
    rw [show q' + 2 * 2 ^ (h + 1) = q' + 2 ^ (h + 1) + 2 ^ (h + 1) by omega]
    exact hC1
  have hg := ho.2 _ (by simp [wts, up, Function.comp_def]) hal
  have hB0 := sum_nonneg' (l := wts B') fun w hw' => hw w (by simp [wts] at hw' ⊢; simp [hw'])
  have e3 : (wts ((t, ht) :: z :: B')).sum = t + (z.1 + (wts B').sum) := by simp [wts]
  simp only [gain_append, gain_cons, gain_up, e3] at hg
  have e4 : ml s (h + 2) = ml s (h + 1) + s := ml_succ s (h + 1)
  omega
end GW
/-! One joining: an optimum for the joined row is an optimum for the row. -/
namespace GW

def NI : PL → Prop
  | a :: b :: r => b.2 ≤ a.2 ∧ NI (b :: r)
  | _ => True

def Dec2 : List Int → Prop
  | a :: b :: c :: r => c < a ∧ Dec2 (b :: c :: r)
  | _ => True

theorem dec2_tail {a : Int} {r : List Int} (h : Dec2 (a :: r)) : Dec2 r := by
  cases r with
  | nil => trivial
  | cons b r =>
    cases r with
    | nil => trivial
    | cons c r => exact h.2
theorem dec2_suffix {A r : List Int} (h : Dec2 (A ++ r)) : Dec2 r := by
  induction A with
  | nil => exact h
  | cons a A ih => exact ih (dec2_tail h)

theorem dec2_prefix {L r : List Int} (h : Dec2 (L ++ r)) : Dec2 L := by
  induction L with
  | nil => trivial
  | cons a L ih =>
    have h2 := ih (dec2_tail h)
    cases L with
    | nil => trivial
    | cons b L =>
      cases L with
      | nil => trivial
      | cons c L => exact ⟨h.1, h2⟩

theorem ni_tail {a : Int × Nat} {r : PL} (h : NI (a :: r)) : NI r := by
  cases r with
  | nil => trivial
  | cons b r => exact h.2
theorem ni_suffix {A r : PL} (h : NI (A ++ r)) : NI r := by
  induction A with
  | nil => exact h
  | cons a A ih => exact ih (ni_tail h)
theorem ni_le {a : Int × Nat} {r : PL} (h : NI (a :: r)) : ∀ b ∈ r, b.2 ≤ a.2 := by
  induction r generalizing a with
  | nil => intro b hb; cases hb
  | cons c r ih =>
    intro b hb
    rcases List.mem_cons.mp hb with rfl | hb
    · exact h.1
    · exact Nat.le_trans (ih h.2 b hb) h.1

theorem ni_of {D : Nat} {C : PL} : ∀ (L A : PL) (a : Int × Nat), Opt D (A ++ a :: (L ++ C)) → (∀ w ∈ wts (A ++ a :: (L ++ C)), 0 ≤ w) → Dec2 (wts (a :: L)) → NI L
  | [], _, _, _, _, _ => trivial
  | [_], _, _, _, _, _ => trivial
  | b :: c :: r, A, a, h, hw, hd => by
    have h1 : c.2 ≤ b.2 := lemX (A := A) (C := r ++ C) (a := a.1) (ha := a.2) (b := b.1) (hb := b.2) (c := c.1) (hc := c.2) h hw hd.1
    have e : A ++ a :: (b :: c :: r ++ C) = (A ++ [a]) ++ b :: (c :: r ++ C) := by simp
    rw [e] at h hw
    exact ⟨h1, ni_of (c :: r) (A ++ [a]) b h hw hd.2⟩

theorem ni_first {D : Nat} {C : PL} : ∀ (L : PL), Opt D (L ++ C) → (∀ w ∈ wts (L ++ C), 0 ≤ w) → Dec2 (wts L) → NI L
  | [], _, _, _ => trivial
  | [_], _, _, _ => trivial
  | b :: c :: r, h, hw, hd => by
    have h1 : c.2 ≤ b.2 := lemX0 (C := r ++ C) (b := b.1) (hb := b.2) (c := c.1) (hc := c.2) h.1
    exact ⟨h1, ni_of (c :: r) [] b h hw hd⟩

theorem run1 {h : Nat} : ∀ (L : PL), NI L → (∀ a r, L = a :: r → a.2 ≤ h + 1) → (∃ p ∈ L, p.2 ≤ h) →
    ∃ M t L', L = M ++ t :: L' ∧ (∀ m ∈ M, m.2 = h + 1) ∧ t.2 ≤ h
  | [], _, _, ⟨p, hp, _⟩ => nomatch hp
  | a :: L, hn, hf, hx => by
    by_cases ha : a.2 ≤ h
    · exact ⟨[], a, L, rfl, fun _ hm => (nomatch hm), ha⟩
    · have ha' := hf a L rfl
      have h1 : a.2 = h + 1 := by omega
      obtain ⟨p, hp, hpl⟩ := hx
      rcases List.mem_cons.mp hp with rfl | hp
      · exact absurd hpl ha
      · obtain ⟨M, t, L', rfl, hM, ht⟩ := run1 L (ni_tail hn) (fun b r e => by subst e; exact Nat.le_trans hn.1 ha') ⟨p, hp, hpl⟩
        refine ⟨a :: M, t, L', rfl, fun m hm => ?_, ht⟩
        rcases List.mem_cons.mp hm with rfl | hm
        · exact h1
        · exact hM m hm

theorem run2 {h : Nat} : ∀ (L : PL) (s : Int × Nat), s.2 = h + 2 → NI (s :: L) → (∃ p ∈ L, p.2 ≤ h) →
    ∃ R s' M t L', s :: L = R ++ s' :: (M ++ t :: L') ∧ s'.2 = h + 2 ∧ (∀ m ∈ M, m.2 = h + 1) ∧ t.2 ≤ h
  | [], _, _, _, ⟨p, hp, _⟩ => nomatch hp
  | a :: L, s, hs, hn, hx => by
    by_cases ha : a.2 = h + 2
    · obtain ⟨p, hp, hpl⟩ := hx
      rcases List.mem_cons.mp hp with rfl | hp
      · omega
      · obtain ⟨R, s', M, t, L', e, h1, h2, h3⟩ := run2 L a ha hn.2 ⟨p, hp, hpl⟩
        exact ⟨s :: R, s', M, t, L', by rw [e]; rfl, h1, h2, h3⟩
    · have := hn.1
      obtain ⟨M, t, L', e, hM, ht⟩ := run1 (h := h) (a :: L) hn.2 (fun b r e => by cases e; omega) hx
      exact ⟨[], s, M, t, L', by rw [e]; rfl, hs, hM, ht⟩

/-- two next to each other weigh at least v -/
def SGe (v : Int) : List Int → Prop
  | a :: b :: r => v ≤ a + b ∧ SGe v (b :: r)
  | _ => True
theorem sge_tail {v a : Int} {r : List Int} (h : SGe v (a :: r)) : SGe v r := by
  cases r with
  | nil => trivial
  | cons b r => exact h.2
theorem sge_at {v : Int} {A r : List Int} {a b : Int} (h : SGe v (A ++ a :: b :: r)) : v ≤ a + b := by
  induction A with
  | nil => exact h.1
  | cons c A ih => exact ih (sge_tail h)
theorem sge_suffix {v : Int} {A r : List Int} (h : SGe v (A ++ r)) : SGe v r := by
  induction A with
  | nil => exact h
  | cons c A ih => exact ih (sge_tail h)

theorem sge_of {x y : Int} : ∀ (L : List Int), Dec2 (L ++ [x, y]) → SGe (x + y) (L ++ [x, y])
  | [], _ => ⟨Int.le_refl _, trivial⟩
  | [a], h => ⟨by have := h.1; omega, sge_of [] h.2⟩
  | a :: b :: L, h => by
    have ih := sge_of (b :: L) (dec2_tail h)
    refine ⟨?_, ih⟩
    cases L with
    | nil => have h1 : x < a := h.1; have h2 : x + y ≤ b + x := ih.1; omega
    | cons c L => have h1 : c < a := h.1; have h2 : x + y ≤ b + c := ih.1; omega

/-- .. and more than x + y where the last is no lighter than x -/
theorem sgt_of {x y z : Int} (hz : x ≤ z) : ∀ (L : List Int), Dec2 (L ++ [x, y]) → SGe (x + y + 1) (L ++ [z])
  | [], _ => trivial
  | [a], h => ⟨by have : y < a := h.1; omega, trivial⟩
  | a :: b :: L, h => by
    have ih := sgt_of hz (b :: L) (dec2_tail h)
    refine ⟨?_, ih⟩
    have hs := sge_of (b :: L) (dec2_tail h)
    cases L with
    | nil => have h1 : x < a := h.1; have h2 : x + y ≤ b + x := hs.1; omega
    | cons c L => have h1 : c < a := h.1; have h2 : x + y ≤ b + c := hs.1; omega
theorem sgt_of' {x y : Int} : ∀ (L : List Int), Dec2 (L ++ [x, y]) → SGe (x + y + 1) L
  | [], _ => trivial
  | [_], _ => trivial
  | a :: b :: L, h => by
    refine ⟨?_, sgt_of' (b :: L) (dec2_tail h)⟩
    have hs := sge_of (b :: L) (dec2_tail h)
    cases L with
    | nil => have h1 : x < a := h.1; have h2 : x + y ≤ b + x := hs.1; omega
    | cons c L => have h1 : c < a := h.1; have h2 : x + y ≤ b + c := hs.1; omega

theorem wts_cons (a : Int × Nat) (r : PL) : wts (a :: r) = a.1 :: wts r := rfl

theorem wts_split {ps : PL} {U V : List Int} (h : wts ps = U ++ V) : ∃ A B, ps = A ++ B ∧ wts A = U ∧ wts B = V := by
  obtain ⟨A, B, e, h1, h2⟩ := List.map_eq_append_iff.mp h
  exact ⟨A, B, e, h1, h2⟩
theorem wts_head {ps : PL} {u : Int} {V : List Int} (h : wts ps = u :: V) : ∃ k B, ps = (u, k) :: B ∧ wts B = V := by
  obtain ⟨a, B, e, h1, h2⟩ := List.map_eq_cons_iff.mp h
  subst h1
  exact ⟨a.2, B, e, h2⟩

/-- what stands at a row's first joining -/
structure Joins (WA WS : List Int) (x y : Int) (WC : List Int) : Prop where
  dec : Dec2 (WA ++ (WS ++ [x, y]))
  z : ∀ z C, WC = z :: C → x ≤ z
  S : ∀ v ∈ WS, v < x + y
  A : ∀ a A', WA = A' ++ [a] → x + y ≤ a
  nn : ∀ w ∈ WA ++ (WS ++ (x :: y :: WC)), 0 < w

theorem stepA {D : Nat} {WA WS WC : List Int} {x y : Int} (J : Joins WA WS x y WC) {ps : PL} (ho : Opt D ps) (hps : wts ps = WA ++ (x + y) :: (WS ++ WC)) (hpos : ∀ a ∈ ps, 0 < a.2) :
    ∃ A S C k, ps = A ++ (x + y, k + 1) :: (S ++ C) ∧ wts A = WA ∧ wts S = WS ∧ wts C = WC ∧ Al 0 (A ++ (S ++ (x, k) :: (y, k) :: C)) (2 ^ D) := by
  obtain ⟨A, B0, rfl, hA, hB0⟩ := wts_split hps
  obtain ⟨k1, B, rfl, hB⟩ := wts_head hB0
  obtain ⟨S, C, rfl, hS, hC⟩ := wts_split hB
  obtain ⟨k, rfl⟩ : ∃ k, k1 = k + 1 := ⟨k1 - 1, by have := hpos (x + y, k1) (by simp); simp only at this; omega⟩
  subst hA hS hC
  refine ⟨A, S, C, k, rfl, rfl, rfl, rfl, ?_⟩
  have hx0 : 0 < x := J.nn x (by simp)
  have hy0 : 0 < y := J.nn y (by simp)
  have hw : ∀ w ∈ wts (A ++ (x + y, k + 1) :: (S ++ C)), 0 ≤ w := by
    intro w hw
    simp only [wts_append, wts_cons, List.mem_append, List.mem_cons] at hw
    rcases hw with h | rfl | h | h
    · exact Int.le_of_lt (J.nn w (by simp [h]))
    · omega
    · exact Int.le_of_lt (J.nn w (by simp [h]))
    · exact Int.le_of_lt (J.nn w (by simp [h]))
  have hdS : Dec2 (wts S ++ [x, y]) := dec2_suffix J.dec
  have hd1 : Dec2 ((x + y) :: wts S) := by
    cases hS : wts S with
    | nil => trivial
    | cons u r =>
      rw [hS] at hdS
      cases r with
      | nil => trivial
      | cons v r => exact ⟨by have := J.S v (by rw [hS]; simp); omega, dec2_prefix (r := [x, y]) hdS⟩
  -- the heights fall from the joined one on
  have hni : NI ((x + y, k + 1) :: S) := by
    rcases List.eq_nil_or_concat A with rfl | ⟨A', a, rfl⟩
    · exact ni_first ((x + y, k + 1) :: S) ho hw hd1
    · have e : A'.concat a ++ (x + y, k + 1) :: (S ++ C) = A' ++ a :: (((x + y, k + 1) :: S) ++ C) := by simp
      rw [e] at ho hw
      refine ni_of ((x + y, k + 1) :: S) A' a ho hw ?_
      cases hS : wts S with
      | nil => simp [wts_cons, hS, Dec2]
      | cons u r =>
        rw [hS] at hd1
        simp only [wts_cons, hS]
        refine ⟨?_, hd1⟩
        have h1 := J.A a.1 (wts A') (by simp [wts])
        have h2 := J.S u (by rw [hS]; simp)
        omega
  have hup : ∀ a ∈ S, a.2 ≤ k + 1 := ni_le hni
  -- and by one at most
  have hlo : ∀ a ∈ S, k ≤ a.2 := by
    intro a ha
    rcases Nat.lt_or_ge a.2 k with hlt | hge
    · exfalso
      obtain ⟨h, rfl⟩ : ∃ h, k = h + 1 := ⟨k - 1, by omega⟩
      obtain ⟨R, s', M, t, L', e, h1, h2, h3⟩ := run2 S (x + y, h + 1 + 1) rfl hni ⟨a, ha, by omega⟩
      have e1 : A ++ (x + y, h + 1 + 1) :: (S ++ C) = (A ++ R) ++ (s'.1, h + 2) :: (M ++ (t.1, t.2) :: (L' ++ C)) := by
        rw [← List.cons_append, e, ← h1]; simp
      rw [e1] at ho hw
      have hs1 : s'.1 ≤ x + y := by
        have : s' ∈ (x + y, h + 1 + 1) :: S := by rw [e]; simp
        rcases List.mem_cons.mp this with rfl | hm
        · exact Int.le_refl _
        · exact Int.le_of_lt (J.S _ (List.mem_map_of_mem hm))
      -- t and what follows it
      have hS' : ∃ S1, S = S1 ++ t :: L' := by
        cases R with
        | nil =>
          have := (List.cons.inj e).2
          exact ⟨M, this⟩
        | cons r R =>
          have := (List.cons.inj e).2
          exact ⟨R ++ s' :: M, by rw [this]; simp⟩
      obtain ⟨S1, hS1⟩ := hS'
      refine lemY ho hw h2 h3 fun z C' hz => ?_
      cases L' with
      | cons u L' =>
        have hz1 : z = u := (List.cons.inj hz).1.symm
        subst hz1
        have h4 := sgt_of' (wts S) hdS
        rw [hS1, wts_append] at h4
        have h9 : x + y + 1 ≤ t.1 + z.1 := sge_at h4
        omega
      | nil =>
        have hC1 : C = z :: C' := hz
        have h4 := sgt_of (z := z.1) (J.z z.1 (wts C') (by rw [hC1]; rfl)) (wts S) hdS
        rw [hS1, wts_append, List.append_assoc] at h4
        have := sge_at (A := wts S1) (a := t.1) (b := z.1) (r := []) h4
        omega
    · exact hge
  -- the new row
  obtain ⟨p, hAp, h1, h2⟩ := al_append.mp ho.1
  obtain ⟨q, hSq, hCq⟩ := al_append.mp h2
  simp only at h1 hSq
  obtain ⟨q', rfl, hS'⟩ := al_unshift (c := 2 ^ (k + 1)) (Nat.dvd_refl _) hSq hup
  have hq : 2 ^ k ∣ q' := al_end hS' (Nat.dvd_trans (pow_dvd_of_le (by omega)) h1) hlo
  refine al_append.mpr ⟨p, hAp, al_append.mpr ⟨q', hS', hq, Nat.dvd_add hq (Nat.dvd_refl _), ?_⟩⟩
  show Al (q' + 2 ^ k + 2 ^ k) C (2 ^ D)
  rw [Nat.add_assoc, ← pow_succ2]
  exact hCq

theorem stepB {D : Nat} {WA WS WC : List Int} {x y : Int} (J : Joins WA WS x y WC) {ps : PL} (ho : Opt D ps) (hps : wts ps = WA ++ (WS ++ (x :: y :: WC))) :
    ∃ qs, wts qs = WA ++ (x + y) :: (WS ++ WC) ∧ Al 0 qs (2 ^ D) ∧ gain ps + (x + y) ≤ gain qs := by
  -- first an optimum in which x and y lie alike
  obtain ⟨ps, ho, hps, hg, A, S, C, k, rfl, rfl, rfl, rfl⟩ : ∃ ps', Opt D ps' ∧ wts ps' = WA ++ (WS ++ (x :: y :: WC)) ∧ gain ps ≤ gain ps' ∧
      ∃ A S C k, ps' = A ++ (S ++ ((x, k) :: (y, k) :: C)) ∧ wts A = WA ∧ wts S = WS ∧ wts C = WC := by
    obtain ⟨A, B0, rfl, rfl, hB0⟩ := wts_split hps
    obtain ⟨S, B1, rfl, rfl, hB1⟩ := wts_split hB0
    obtain ⟨hx, B2, rfl, hB2⟩ := wts_head hB1
    obtain ⟨hy, C, rfl, rfl⟩ := wts_head hB2
    have hw : ∀ w ∈ wts (A ++ (S ++ (x, hx) :: (y, hy) :: C)), 0 ≤ w := fun w hw => Int.le_of_lt (J.nn w (by rw [hps] at hw; exact hw))
    have hni : hy ≤ hx := by
      have e : A ++ (S ++ (x, hx) :: (y, hy) :: C) = (A ++ S ++ [(x, hx), (y, hy)]) ++ C := by simp
      rw [e] at ho hw
      have := ni_first (A ++ S ++ [(x, hx), (y, hy)]) ho hw (by simpa [wts] using J.dec)
      exact (ni_suffix (A := A ++ S) this).1
    rcases Nat.lt_or_ge hy hx with hlt | hge
    · have e : A ++ (S ++ (x, hx) :: (y, hy) :: C) = (A ++ S) ++ (x, hx) :: (y, hy) :: C := by simp
      have ho' := ho
      rw [e] at ho' hw
      obtain ⟨k, C', hC', ho2⟩ := lemXr ho' hw (fun z C1 hz => J.z z.1 (wts C1) (by rw [hz]; rfl)) hlt
      rw [List.append_assoc] at ho2
      have hwt : wts (A ++ (S ++ (x, k) :: (y, k) :: C')) = wts (A ++ (S ++ (x, hx) :: (y, hy) :: C)) := by
        simp only [wts_append, wts_cons, hC']
      exact ⟨_, ho2, hwt.trans hps, ho2.2 _ hwt.symm ho.1, A, S, C', k, rfl, rfl, rfl, hC'⟩
    · have : hx = hy := by omega
      subst this
      exact ⟨_, ho, hps, Int.le_refl _, A, S, C, hx, rfl, rfl, rfl, rfl⟩
  suffices h : ∃ qs, wts qs = wts A ++ (x + y) :: (wts S ++ wts C) ∧ Al 0 qs (2 ^ D) ∧ gain (A ++ (S ++ ((x, k) :: (y, k) :: C))) + (x + y) ≤ gain qs by
    obtain ⟨qs, h1, h2, h3⟩ := h
    exact ⟨qs, h1, h2, by omega⟩
  clear hg
  have hx0 : 0 < x := J.nn x (by simp)
  have hy0 : 0 < y := J.nn y (by simp)
  have hw : ∀ w ∈ wts (A ++ (S ++ (x, k) :: (y, k) :: C)), 0 ≤ w := fun w hw => Int.le_of_lt (J.nn w (by rw [hps] at hw; exact hw))
  have hni : NI (A ++ (S ++ [(x, k), (y, k)])) := by
    have e : A ++ (S ++ (x, k) :: (y, k) :: C) = (A ++ (S ++ [(x, k), (y, k)])) ++ C := by simp
    rw [e] at ho hw
    exact ni_first _ ho hw (by simpa [wts] using J.dec)
  have hniS : NI (S ++ [(x, k), (y, k)]) := ni_suffix hni
  -- no leaf of S lies lower than x
  have hlo : ∀ a ∈ S, k ≤ a.2 := by
    intro a ha
    obtain ⟨S1, S2, rfl⟩ := List.append_of_mem ha
    have h1 : NI (a :: (S2 ++ [(x, k), (y, k)])) := ni_suffix (A := S1) (by simpa using hniS)
    exact ni_le h1 (x, k) (by simp)
  -- and none lies higher by two
  have hup : ∀ a ∈ S, a.2 ≤ k + 1 := by
    intro a ha
    rcases Nat.lt_or_ge (k + 1) a.2 with hlt | hge
    · exfalso
      obtain ⟨S1, S2, rfl⟩ := List.append_of_mem ha
      obtain ⟨h, hh⟩ : ∃ h, a.2 = h + 2 := ⟨a.2 - 2, by omega⟩
      have h1 : NI (a :: (S2 ++ [(x, k), (y, k)])) := ni_suffix (A := S1) (by simpa using hniS)
      -- up to x alone, so that one more stands behind t
      have h1' : NI (a :: (S2 ++ [(x, k)])) := by
        have : ∀ (P Q : PL), NI (P ++ Q) → NI P := by
          intro P Q
          induction P with
          | nil => intro _; trivial
          | cons p P ih =>
            intro hp
            cases P with
            | nil => trivial
            | cons p' P => exact ⟨hp.1, ih hp.2⟩
        exact this _ [(y, k)] (by simpa using h1)
      obtain ⟨R, s', M, t, L', e, h2, h3, h4⟩ := run2 (S2 ++ [(x, k)]) a hh h1' ⟨(x, k), by simp, by show k ≤ h; omega⟩
      have e1 : A ++ ((S1 ++ a :: S2) ++ (x, k) :: (y, k) :: C) = (A ++ S1 ++ R) ++ (s'.1, h + 2) :: (M ++ (t.1, t.2) :: (L' ++ (y, k) :: C)) := by
        have e2 : A ++ ((S1 ++ a :: S2) ++ (x, k) :: (y, k) :: C) = A ++ S1 ++ ((a :: (S2 ++ [(x, k)])) ++ (y, k) :: C) := by simp
        rw [e2, e, ← h2]; simp
      rw [e1] at ho hw
      -- s' is one of S
      have hs1 : s'.1 < x + y := by
        have hm : s' ∈ a :: (S2 ++ [(x, k)]) := by rw [e]; simp
        simp only [List.mem_cons, List.mem_append, List.not_mem_nil, or_false] at hm
        rcases hm with rfl | hm | rfl
        · exact J.S _ (by simp [wts])
        · exact J.S _ (by rw [wts_append, wts_cons]; exact List.mem_append_right _ (.tail _ (List.mem_map_of_mem hm)))
        · exact absurd h2 (by show k ≠ h + 2; omega)
      have hS' : ∃ S3, S2 ++ [(x, k)] = S3 ++ t :: L' := by
        cases R with
        | nil => exact ⟨M, (List.cons.inj e).2⟩
        | cons r R => exact ⟨R ++ s' :: M, by rw [(List.cons.inj e).2]; simp⟩
      obtain ⟨S3, hS3⟩ := hS'
      refine lemY ho hw h3 h4 fun z C' hz => ?_
      have h5 := sge_of (wts (A ++ (S1 ++ a :: S2))) (x := x) (y := y) (by simpa [wts] using J.dec)
      have e3 : wts (A ++ (S1 ++ a :: S2)) ++ [x, y] = wts (A ++ (S1 ++ [a])) ++ (wts (S3 ++ t :: L') ++ [y]) := by
        rw [← hS3]; simp [wts]
      rw [e3] at h5
      have h6 := sge_suffix h5
      cases L' with
      | cons u L' =>
        have hz1 : z = u := (List.cons.inj hz).1.symm
        subst hz1
        have h7 : SGe (x + y) (wts S3 ++ t.1 :: z.1 :: (wts L' ++ [y])) := by simpa [wts] using h6
        have := sge_at h7
        omega
      | nil =>
        have hz1 : z = (y, k) := (List.cons.inj hz).1.symm
        subst hz1
        have h7 : SGe (x + y) (wts S3 ++ t.1 :: y :: []) := by simpa [wts] using h6
        have := sge_at h7
        simp only
        omega
    · exact hge
  -- where S begins
  obtain ⟨p, hAp, h2⟩ := al_append.mp ho.1
  obtain ⟨q, hSq, h3, h4, h5⟩ := al_append.mp h2
  simp only at h3 h4 h5
  have e2k : q + 2 ^ k + 2 ^ k = q + 2 ^ (k + 1) := by rw [pow_succ2]; omega
  rw [e2k] at h5
  have hmlx := ml_succ x k
  have hmly := ml_succ y k
  have hmlxy := ml_add x y k
  have hmlxy' := ml_succ (x + y) k
  by_cases hp : 2 ^ (k + 1) ∣ p
  · refine ⟨A ++ (x + y, k + 1) :: (S ++ C), by simp [wts], ?_, ?_⟩
    · refine al_append.mpr ⟨p, hAp, hp, al_append.mpr ⟨q + 2 ^ (k + 1), al_shift (Nat.dvd_refl _) hSq hup, h5⟩⟩
    · simp only [gain_append, gain_cons]
      omega
  · -- the heights of S are all k, and so is the last of A's
    have hSk : ∀ a ∈ S, a.2 = k := by
      cases S with
      | nil => intro a ha; cases ha
      | cons s S =>
        have hs1 : s.2 = k := by
          have h6 := hup s (.head _)
          have h7 := hlo s (.head _)
          rcases Nat.lt_or_ge k s.2 with hlt | hge
          · have : s.2 = k + 1 := by omega
            have h8 := hSq.1
            rw [this] at h8
            exact absurd h8 hp
          · omega
        intro a ha
        have h6 := hlo a ha
        rcases List.mem_cons.mp ha with rfl | ha
        · exact hs1
        · have := ni_le hniS a (by simp [ha])
          omega
    have hpk : 2 ^ k ∣ p := by
      cases S with
      | nil => have : p = q := hSq; subst this; exact h3
      | cons s S => have := hSq.1; rw [hSk s (.head _)] at this; exact this
    rcases List.eq_nil_or_concat A with rfl | ⟨A', a, rfl⟩
    · exfalso
      have : 0 = p := hAp
      subst this
      exact hp (Nat.dvd_zero _)
    · rw [List.concat_eq_append] at *
      obtain ⟨r, hA', ha1, ha2⟩ := al_append.mp hAp
      have ha2 : r + 2 ^ a.2 = p := ha2
      subst ha2
      have hak : a.2 = k := by
        have h6 : k ≤ a.2 := by
          have h7 : NI (a :: (S ++ [(x, k), (y, k)])) := ni_suffix (A := A') (by simpa using hni)
          exact ni_le h7 (x, k) (by simp)
        rcases Nat.lt_or_ge k a.2 with hlt | hge
        · exact absurd (Nat.dvd_add (Nat.dvd_trans (pow_dvd_of_le (by omega)) ha1) (pow_dvd_of_le (by omega))) hp
        · omega
      obtain ⟨aw, ah⟩ := a
      simp only at hak
      subst hak
      have hr : 2 ^ (ah + 1) ∣ r := by
        simp only at ha1 hp
        obtain ⟨u, rfl⟩ := ha1
        rcases Nat.mod_two_eq_zero_or_one u with hu | hu
        · obtain ⟨v, rfl⟩ : ∃ v, u = 2 * v := ⟨u / 2, by omega⟩
          rw [Nat.pow_succ]
          exact Nat.mul_dvd_mul_left _ (Nat.dvd_mul_right _ _)
        · exfalso
          obtain ⟨v, rfl⟩ : ∃ v, u = 2 * v + 1 := ⟨u / 2, by omega⟩
          apply hp
          have : 2 ^ ah * (2 * v + 1) + 2 ^ ah = 2 ^ (ah + 1) * (v + 1) := by
            rw [Nat.pow_succ, Nat.mul_add, Nat.mul_add, Nat.mul_assoc]; omega
          rw [this]
          exact Nat.dvd_mul_right _ _
      have haw : x + y ≤ aw := J.A aw (wts A') (by simp [wts])
      refine ⟨A' ++ (aw, ah + 1) :: (x + y, ah) :: (S ++ C), by simp [wts], ?_, ?_⟩
      · refine al_append.mpr ⟨r, hA', hr, ?_, ?_⟩
        · exact Nat.dvd_add (Nat.dvd_trans (pow_dvd_of_le (by omega)) hr) (pow_dvd_of_le (by simp))
        · show Al (r + 2 ^ (ah + 1) + 2 ^ ah) (S ++ C) (2 ^ D)
          have e3 : r + 2 ^ (ah + 1) + 2 ^ ah = r + 2 ^ ah + 2 ^ (ah + 1) := by omega
          rw [e3]
          exact al_append.mpr ⟨q + 2 ^ (ah + 1), al_shift (Nat.dvd_refl _) hSq hup, h5⟩
      · have := ml_succ aw ah
        simp only [gain_append, gain, Int.add_zero]
        omega

/-- there is an optimum -/
theorem gain_le {D : Nat} {ps : PL} (hw : ∀ w ∈ wts ps, 0 ≤ w) (h : ∀ a ∈ ps, a.2 ≤ D) : gain ps ≤ ml (wts ps).sum D := by
  induction ps with
  | nil => simp [gain, wts, ml]
  | cons a ps ih =>
    have h1 := ih (fun w hw' => hw w (.tail _ hw')) fun b hb => h b (.tail _ hb)
    have h2 := ml_mono (w := a.1) (hw a.1 (.head _)) (h a (.head _))
    rw [gain_cons, wts_cons, List.sum_cons, ml_add]
    omega

theorem exists_opt {D : Nat} {ps : PL} (hw : ∀ w ∈ wts ps, 0 ≤ w) (h : Al 0 ps (2 ^ D)) : ∃ qs, wts qs = wts ps ∧ Opt D qs ∧ gain ps ≤ gain qs := by
  have key : ∀ (n : Nat) (qs : PL), wts qs = wts ps → Al 0 qs (2 ^ D) → (ml (wts ps).sum D - gain qs).toNat ≤ n → ∃ rs, wts rs = wts ps ∧ Opt D rs ∧ gain qs ≤ gain rs := by
    intro n
    induction n with
    | zero =>
      intro qs e ha hn
      refine ⟨qs, e, ⟨ha, fun rs hr hra => ?_⟩, Int.le_refl _⟩
      have := gain_le (ps := rs) (by rw [hr, e]; exact hw) (al_hle hra)
      rw [hr, e] at this
      omega
    | succ n ih =>
      intro qs e ha hn
      by_cases hq : ∀ rs, wts rs = wts qs → Al 0 rs (2 ^ D) → gain rs ≤ gain qs
      · exact ⟨qs, e, ⟨ha, hq⟩, Int.le_refl _⟩
      · have hq' : ∃ rs, wts rs = wts qs ∧ Al 0 rs (2 ^ D) ∧ gain qs < gain rs := by
          refine Classical.byContradiction fun hc => hq fun rs h1 h2 => ?_
          exact Int.not_lt.mp fun h3 => hc ⟨rs, h1, h2, h3⟩
        obtain ⟨rs, h1, h2, h3⟩ := hq'
        obtain ⟨us, h4, h5, h6⟩ := ih rs (h1.trans e) h2 (by
          have := gain_le (ps := rs) (by rw [h1, e]; exact hw) (al_hle h2)
          rw [h1, e] at this
          omega)
        exact ⟨us, h4, h5, by omega⟩
  exact key _ ps rfl h (Nat.le_refl _)

theorem step {D : Nat} {WA WS WC : List Int} {x y : Int} (J : Joins WA WS x y WC) {ps : PL} (ho : Opt D ps) (hps : wts ps = WA ++ (x + y) :: (WS ++ WC)) (hpos : ∀ a ∈ ps, 0 < a.2) :
    ∃ A S C k, ps = A ++ (x + y, k + 1) :: (S ++ C) ∧ wts A = WA ∧ wts S = WS ∧ wts C = WC ∧ Opt D (A ++ (S ++ (x, k) :: (y, k) :: C)) := by
  obtain ⟨A, S, C, k, rfl, rfl, rfl, rfl, hal⟩ := stepA J ho hps hpos
  refine ⟨A, S, C, k, rfl, rfl, rfl, rfl, hal, fun qs hq hqa => ?_⟩
  have e : wts (A ++ (S ++ (x, k) :: (y, k) :: C)) = wts A ++ (wts S ++ (x :: y :: wts C)) := by simp [wts]
  have hnn : ∀ w ∈ wts qs, 0 ≤ w := fun w hw => Int.le_of_lt (J.nn w (by rw [hq, e] at hw; exact hw))
  obtain ⟨rs, hr1, hr2, hr3⟩ := exists_opt hnn hqa
  obtain ⟨us, hu1, hu2, hu3⟩ := stepB J hr2 (hr1.trans (hq.trans e))
  have h1 := ho.2 us (hu1.trans hps.symm) hu2
  have h2 := ml_succ (x + y) k
  have h3 := ml_add x y k
  simp only [gain_append, gain_cons] at h1 ⊢
  omega
end GW
/-! Trees: the least cost, the joined tree's depths, the stack that reads levels. -/
namespace GW

inductive W where
  | lf (w : Int)
  | br (a b : W)

def W.leaves : W → List Int
  | .lf w => [w]
  | .br a b => a.leaves ++ b.leaves
def W.cost : W → Int
  | .lf _ => 0
  | .br a b => a.cost + b.cost + (a.leaves.sum + b.leaves.sum)
def W.dep : W → Nat
  | .lf _ => 0
  | .br a b => max a.dep b.dep + 1
def W.ps : W → Nat → PL
  | .lf w, h => [(w, h)]
  | .br a b, h => a.ps (h - 1) ++ b.ps (h - 1)
def W.lv : W → Nat → List Nat
  | .lf _, d => [d]
  | .br a b, d => a.lv (d + 1) ++ b.lv (d + 1)
def W.mirror : W → W
  | .lf w => .lf w
  | .br a b => .br b.mirror a.mirror

theorem W.wts_ps (t : W) : ∀ h, wts (t.ps h) = t.leaves := by
  induction t with
  | lf w => intro h; rfl
  | br a b iha ihb => intro h; simp only [W.ps, wts_append, iha, ihb, W.leaves]
theorem W.dep_lt (t : W) : t.dep < t.leaves.length := by
  induction t with
  | lf w => simp [W.dep, W.leaves]
  | br a b iha ihb => simp only [W.dep, W.leaves, List.length_append]; omega
theorem W.al_ps (t : W) : ∀ h p, t.dep ≤ h → 2 ^ h ∣ p → Al p (t.ps h) (p + 2 ^ h) := by
  induction t with
  | lf w => intro h p _ hp; exact ⟨hp, rfl⟩
  | br a b iha ihb =>
    intro h p hd hp
    obtain ⟨k, rfl⟩ : ∃ k, h = k + 1 := ⟨h - 1, by simp only [W.dep] at hd; omega⟩
    simp only [W.dep] at hd
    have hk : 2 ^ k ∣ p := Nat.dvd_trans (pow_dvd_of_le (by omega)) hp
    simp only [W.ps, Nat.add_sub_cancel]
    refine al_append.mpr ⟨p + 2 ^ k, iha k p (by omega) hk, ?_⟩
    have := ihb k (p + 2 ^ k) (by omega) (Nat.dvd_add hk (Nat.dvd_refl _))
    rw [Nat.add_assoc, ← pow_succ2] at this
    exact this
theorem W.gain_ps (t : W) : ∀ h, t.dep ≤ h → gain (t.ps h) = ml t.leaves.sum h - t.cost := by
  induction t with
  | lf w => intro h _; simp [W.ps, gain, W.leaves, W.cost]
  | br a b iha ihb =>
    intro h hd
    obtain ⟨k, rfl⟩ : ∃ k, h = k + 1 := ⟨h - 1, by simp only [W.dep] at hd; omega⟩
    simp only [W.dep] at hd
    have h1 := iha k (by omega)
    have h2 := ihb k (by omega)
    simp only [W.ps, Nat.add_sub_cancel, gain_append, h1, h2, W.leaves, List.sum_append, W.cost]
    rw [ml_succ, ml_add]
    omega
theorem W.hle_ps (t : W) : ∀ h, ∀ a ∈ t.ps h, h ≤ a.2 + t.dep := by
  induction t with
  | lf w => intro h a ha; simp [W.ps] at ha; subst ha; simp
  | br a b iha ihb =>
    intro h x hx
    simp only [W.ps, List.mem_append] at hx
    simp only [W.dep]
    rcases hx with hx | hx
    · have := iha _ x hx; omega
    · have := ihb _ x hx; omega
theorem W.lv_ps (t : W) (D : Nat) : ∀ h, t.dep ≤ h → h ≤ D → (t.ps h).map (fun a => D - a.2) = t.lv (D - h) := by
  induction t with
  | lf w => intro h _ _; rfl
  | br a b iha ihb =>
    intro h hd hD
    obtain ⟨k, rfl⟩ : ∃ k, h = k + 1 := ⟨h - 1, by simp only [W.dep] at hd; omega⟩
    simp only [W.dep] at hd
    simp only [W.ps, Nat.add_sub_cancel, List.map_append, W.lv]
    rw [iha k (by omega) (by omega), ihb k (by omega) (by omega), show D - (k + 1) + 1 = D - k by omega]

theorem parse : ∀ (h p : Nat) (ps : PL), Al p ps (p + 2 ^ h) → 2 ^ h ∣ p → ∃ t : W, t.dep ≤ h ∧ t.ps h = ps := by
  intro h
  induction h with
  | zero =>
    intro p ps ha hp
    cases ps with
    | nil => exact absurd (show p = p + 2 ^ 0 from ha) (by simp)
    | cons a r =>
      have h1 := al_mem ha a (.head _)
      have h2 : a.2 = 0 := by
        have := le_of_pow_le (a := a.2) (b := 0) (by omega)
        omega
      have h3 := ha.2
      rw [h2] at h3
      have := al_nil_of h3
      subst this
      exact ⟨.lf a.1, Nat.le_refl _, by rw [W.ps, ← h2]⟩
  | succ h ih =>
    intro p ps ha hp
    cases ps with
    | nil => exact absurd (show p = p + 2 ^ (h + 1) from ha) (by have := pow_pos' (h + 1); omega)
    | cons a r =>
      have h1 := al_mem ha a (.head _)
      have h2 : a.2 ≤ h + 1 := le_of_pow_le (by omega)
      by_cases h3 : a.2 = h + 1
      · have h4 := ha.2
        rw [h3] at h4
        have := al_nil_of h4
        subst this
        exact ⟨.lf a.1, by simp [W.dep], by rw [W.ps, ← h3]⟩
      · have hp' : 2 ^ h ∣ p := Nat.dvd_trans (pow_dvd_of_le (by omega)) hp
        obtain ⟨B, C, e, hB, hC, _⟩ := al_right (e := h) ha hp' (by rw [pow_succ2]; omega) (by rintro b r' e; cases e; omega)
        obtain ⟨t1, d1, e1⟩ := ih p B hB hp'
        obtain ⟨t2, d2, e2⟩ := ih (p + 2 ^ h) C (by rw [Nat.add_assoc, ← pow_succ2]; exact hC) (Nat.dvd_add hp' (Nat.dvd_refl _))
        exact ⟨.br t1 t2, by simp only [W.dep]; omega, by simp only [W.ps, Nat.add_sub_cancel, e1, e2, e]⟩

/-- v is the least cost of a tree over ws -/
def IsMin (ws : List Int) (v : Int) : Prop := (∃ t : W, t.leaves = ws ∧ t.cost = v) ∧ ∀ t : W, t.leaves = ws → v ≤ t.cost

theorem IsMin.unique {ws : List Int} {v v' : Int} (h : IsMin ws v) (h' : IsMin ws v') : v = v' := by
  obtain ⟨⟨t, e, rfl⟩, h2⟩ := h
  obtain ⟨⟨t', e', rfl⟩, h2'⟩ := h'
  exact Int.le_antisymm (h2 t' e') (h2' t e)

theorem W.leaves_mirror (t : W) : t.mirror.leaves = t.leaves.reverse := by
  induction t with
  | lf w => rfl
  | br a b iha ihb => simp only [W.mirror, W.leaves, iha, ihb, List.reverse_append]
theorem sum_reverse' (l : List Int) : l.reverse.sum = l.sum := by
  induction l with
  | nil => rfl
  | cons a l ih => rw [List.reverse_cons, List.sum_append, ih, List.sum_cons]; simp; omega
theorem W.cost_mirror (t : W) : t.mirror.cost = t.cost := by
  induction t with
  | lf w => rfl
  | br a b iha ihb => simp only [W.mirror, W.cost, iha, ihb, W.leaves_mirror, sum_reverse']; omega
theorem IsMin.mirror {ws : List Int} {v : Int} (h : IsMin ws v) : IsMin ws.reverse v := by
  obtain ⟨⟨t, rfl, rfl⟩, h2⟩ := h
  refine ⟨⟨t.mirror, t.leaves_mirror, t.cost_mirror⟩, fun t' e => ?_⟩
  rw [← t'.cost_mirror]
  exact h2 _ (by rw [t'.leaves_mirror, e, List.reverse_reverse])

theorem isMin_one (w : Int) : IsMin [w] 0 := by
  refine ⟨⟨.lf w, rfl, rfl⟩, fun t e => ?_⟩
  cases t with
  | lf w => exact Int.le_refl _
  | br a b =>
    exfalso
    have h1 := a.dep_lt
    have h2 := b.dep_lt
    have := congrArg List.length e
    simp only [W.leaves, List.length_append, List.length_cons, List.length_nil] at this
    omega

/-- the table's step -/
theorem isMin_cut {ws : List Int} {m : Int} {l r : Nat → Int} (h2 : 2 ≤ ws.length)
    (hl : ∀ k, 0 < k → k < ws.length → IsMin (ws.take k) (l k)) (hr : ∀ k, 0 < k → k < ws.length → IsMin (ws.drop k) (r k))
    (hm : ∃ k, 0 < k ∧ k < ws.length ∧ m = l k + r k) (hle : ∀ k, 0 < k → k < ws.length → m ≤ l k + r k) : IsMin ws (ws.sum + m) := by
  constructor
  · obtain ⟨k, h0, h1, rfl⟩ := hm
    obtain ⟨t1, e1, c1⟩ := (hl k h0 h1).1
    obtain ⟨t2, e2, c2⟩ := (hr k h0 h1).1
    refine ⟨.br t1 t2, by simp only [W.leaves, e1, e2, List.take_append_drop], ?_⟩
    have : ws.sum = (ws.take k).sum + (ws.drop k).sum := by rw [← List.sum_append, List.take_append_drop]
    simp only [W.cost, e1, e2, c1, c2, this]
    omega
  · intro t e
    cases t with
    | lf w =>
      exfalso
      rw [← e] at h2
      simp [W.leaves] at h2
    | br a b =>
      have ha := a.dep_lt
      have hb := b.dep_lt
      have e' : a.leaves ++ b.leaves = ws := e
      have hlen := congrArg List.length e'
      rw [List.length_append] at hlen
      have h3 := hle a.leaves.length (by omega) (by omega)
      have h4 := (hl a.leaves.length (by omega) (by omega)).2 a (by rw [← e']; simp)
      have h5 := (hr a.leaves.length (by omega) (by omega)).2 b (by rw [← e']; simp)
      have : ws.sum = a.leaves.sum + b.leaves.sum := by rw [← List.sum_append, e']
      simp only [W.cost]
      omega

/-- an optimum's cost is the least -/
theorem isMin_opt {D : Nat} {ps : PL} (ho : Opt D ps) (hl : ps.length ≤ D) : IsMin (wts ps) (ml (wts ps).sum D - gain ps) ∧ ∃ t : W, t.dep < ps.length ∧ t.ps D = ps := by
  obtain ⟨t, hd, e⟩ := parse D 0 ps (by simpa using ho.1) (Nat.dvd_zero _)
  have e1 : t.leaves = wts ps := by rw [← e, t.wts_ps]
  have e2 := t.gain_ps D hd
  have hlen : t.leaves.length = ps.length := by rw [e1]; simp [wts]
  refine ⟨⟨⟨t, e1, by rw [← e1]; rw [e] at e2; omega⟩, fun t' e' => ?_⟩, t, by rw [← hlen]; exact t.dep_lt, e⟩
  have h1 := t'.dep_lt
  rw [e', ← e1, hlen] at h1
  have h2 := ho.2 (t'.ps D) (by rw [t'.wts_ps, e']) (by simpa using t'.al_ps D 0 (by omega) (Nat.dvd_zero _))
  rw [t'.gain_ps D (by omega), e'] at h2
  omega

/-- the joined trees -/
inductive T where
  | leaf (k : Nat)
  | node (a b : T)

def T.ld : T → Nat → List (Nat × Nat)
  | .leaf k, d => [(k, d)]
  | .node a b, d => a.ld (d + 1) ++ b.ld (d + 1)

def flat (D : Nat) (l : List (T × Nat)) : List (Nat × Nat) := l.flatMap fun p => p.1.ld (D - p.2)

/-- one joining of the row H with its trees TS -/
structure GStep (H : List Int) (TS : List T) (H' : List Int) (TS' : List T) : Prop where
  ex : ∃ HA HS x y HC TA TB tx ty TC, H = HA ++ (HS ++ x :: y :: HC) ∧ TS = TA ++ (TB ++ tx :: ty :: TC) ∧
    H' = HA ++ (x + y) :: (HS ++ HC) ∧ TS' = TA ++ T.node tx ty :: (TB ++ TC) ∧ TA.length = HA.length ∧ TB.length = HS.length ∧ TC.length = HC.length ∧
    Dec2 (HA ++ (HS ++ [x, y])) ∧ (∀ z C, HC = z :: C → x ≤ z) ∧ (∀ v ∈ HS, v < x + y) ∧ (∀ a A', HA = A' ++ [a] → x + y ≤ a)

structure Good (D : Nat) (t : T) (H : List Int) (TS : List T) : Prop where
  ex : ∃ hs : List Nat, hs.length = H.length ∧ TS.length = H.length ∧ Opt D (H.zip hs) ∧ (t.ld 0).Perm (flat D (TS.zip hs))

theorem wts_zip {H : List Int} {hs : List Nat} (h : hs.length = H.length) : wts (H.zip hs) = H := by
  unfold wts
  rw [List.map_fst_zip (by omega)]

theorem zip_of (A : PL) : (wts A).zip (A.map (·.2)) = A := by
  induction A with
  | nil => rfl
  | cons a A ih => simp only [wts, List.map_cons, List.zip_cons_cons] at ih ⊢; rw [ih]

theorem flat_append (D : Nat) (A B : List (T × Nat)) : flat D (A ++ B) = flat D A ++ flat D B := List.flatMap_append

theorem good_back {D : Nat} {t : T} {H H' : List Int} {TS TS' : List T} (g : GStep H TS H' TS') (hnn : ∀ w ∈ H, 0 < w) (hD : H.length ≤ D) (h : Good D t H' TS') : Good D t H TS := by
  obtain ⟨HA, HS, x, y, HC, TA, TB, tx, ty, TC, rfl, rfl, rfl, rfl, lA, lS, lC, h1, h2, h3, h4⟩ := g.ex
  obtain ⟨hs, hl, hl2, ho, hp⟩ := h.ex
  have J : Joins HA HS x y HC := ⟨h1, h2, h3, h4, hnn⟩
  have hw := wts_zip hl
  have hpos : ∀ a ∈ (HA ++ (x + y) :: (HS ++ HC)).zip hs, 0 < a.2 := by
    have hlen : ((HA ++ (x + y) :: (HS ++ HC)).zip hs).length = (HA ++ (x + y) :: (HS ++ HC)).length := by
      rw [List.length_zip, hl]; omega
    simp only [List.length_append, List.length_cons] at hD hlen
    obtain ⟨_, t', ht', e⟩ := isMin_opt (D := D) ho (by omega)
    intro a ha
    rw [← e] at ha
    have := t'.hle_ps D a ha
    omega
  obtain ⟨A, S, C, k, e, rfl, rfl, rfl, ho'⟩ := step J ho hw hpos
  have ho1 := ho.1
  rw [e] at ho1
  have hk : k + 1 ≤ D := al_hle ho1 (x + y, k + 1) (by simp)
  have ehs : hs = A.map (·.2) ++ (k + 1) :: (S.map (·.2) ++ C.map (·.2)) := by
    have := congrArg (List.map Prod.snd) e
    rw [List.map_snd_zip (by omega)] at this
    simpa using this
  have la : TA.length = (A.map (·.2)).length := by rw [lA]; simp [wts]
  have lb : TB.length = (S.map (·.2)).length := by rw [lS]; simp [wts]
  have lc : (wts A).length = (A.map (·.2)).length := by simp [wts]
  have ld : (wts S).length = (S.map (·.2)).length := by simp [wts]
  refine ⟨A.map (·.2) ++ (S.map (·.2) ++ k :: k :: C.map (·.2)), by simp [wts], by simp [wts] at lA lS lC ⊢; omega, ?_, ?_⟩
  · rw [List.zip_append lc, List.zip_append ld, List.zip_cons_cons, List.zip_cons_cons, zip_of, zip_of, zip_of]
    exact ho'
  · refine hp.trans ?_
    rw [ehs, List.zip_append la, List.zip_cons_cons, List.zip_append lb, List.zip_append la, List.zip_append lb, List.zip_cons_cons, List.zip_cons_cons]
    have ekd : D - (k + 1) + 1 = D - k := by omega
    have e1 : ∀ (p : T × Nat) (l : List (T × Nat)), flat D (p :: l) = p.1.ld (D - p.2) ++ flat D l := fun p l => by simp [flat]
    simp only [flat_append, e1, T.ld, ekd]
    refine List.Perm.append_left _ ?_
    generalize flat D (TB.zip (S.map fun x => x.snd)) = X
    generalize flat D (TC.zip (C.map fun x => x.snd)) = Y
    generalize tx.ld (D - k) = U
    generalize ty.ld (D - k) = V
    have h5 : ((U ++ V) ++ X).Perm (X ++ (U ++ V)) := List.perm_append_comm
    have h6 := List.Perm.append_right Y h5
    simpa [List.append_assoc] using h6

/-- from a row to a later one -/
inductive Reach : List Int → List T → List Int → List T → Prop
  | refl {H TS} : Reach H TS H TS
  | tail {H TS H' TS' H'' TS''} : Reach H TS H' TS' → GStep H' TS' H'' TS'' → Reach H TS H'' TS''

theorem gstep_len {H H' : List Int} {TS TS' : List T} (g : GStep H TS H' TS') : H.length = H'.length + 1 := by
  obtain ⟨HA, HS, x, y, HC, TA, TB, tx, ty, TC, rfl, rfl, rfl, rfl, _⟩ := g.ex
  simp only [List.length_append, List.length_cons]
  omega
theorem gstep_lenT {H H' : List Int} {TS TS' : List T} (g : GStep H TS H' TS') (h : TS.length = H.length) : TS'.length = H'.length := by
  obtain ⟨HA, HS, x, y, HC, TA, TB, tx, ty, TC, rfl, rfl, rfl, rfl, h1, h2, h3, _⟩ := g.ex
  simp only [List.length_append, List.length_cons]
  omega
theorem gstep_sum {H H' : List Int} {TS TS' : List T} (g : GStep H TS H' TS') : H'.sum = H.sum := by
  obtain ⟨HA, HS, x, y, HC, TA, TB, tx, ty, TC, rfl, rfl, rfl, rfl, _⟩ := g.ex
  simp only [List.sum_append, List.sum_cons]
  omega
theorem gstep_nn {H H' : List Int} {TS TS' : List T} (g : GStep H TS H' TS') (h : ∀ w ∈ H, 0 < w) : ∀ w ∈ H', 0 < w := by
  obtain ⟨HA, HS, x, y, HC, TA, TB, tx, ty, TC, rfl, rfl, rfl, rfl, _⟩ := g.ex
  intro w hw
  simp only [List.mem_append, List.mem_cons] at hw
  rcases hw with hw | rfl | hw | hw
  · exact h w (by simp [hw])
  · have := h x (by simp)
    have := h y (by simp)
    omega
  · exact h w (by simp [hw])
  · exact h w (by simp [hw])

theorem reach_facts {H H' : List Int} {TS TS' : List T} (r : Reach H TS H' TS') (hnn : ∀ w ∈ H, 0 < w) (hl : TS.length = H.length) :
    (∀ w ∈ H', 0 < w) ∧ TS'.length = H'.length ∧ H'.sum = H.sum ∧ H'.length ≤ H.length := by
  induction r with
  | refl => exact ⟨hnn, hl, rfl, Nat.le_refl _⟩
  | tail r g ih =>
    obtain ⟨h1, h2, h3, h4⟩ := ih
    exact ⟨gstep_nn g h1, gstep_lenT g h2, (gstep_sum g).trans h3, by have := gstep_len g; omega⟩

theorem good_reach {D : Nat} {t : T} {H H' : List Int} {TS TS' : List T} (r : Reach H TS H' TS') (hnn : ∀ w ∈ H, 0 < w) (hl : TS.length = H.length) (hD : H.length ≤ D)
    (h : Good D t H' TS') : Good D t H TS := by
  induction r with
  | refl => exact h
  | tail r g ih =>
    obtain ⟨h1, _, _, h4⟩ := reach_facts r hnn hl
    exact ih (good_back g h1 (by omega) h)

theorem good_one (D : Nat) (h : Int) (t : T) : Good D t [h] [t] := by
  refine ⟨[D], rfl, rfl, ⟨⟨Nat.dvd_zero _, by show 0 + 2 ^ D = 2 ^ D; omega⟩, fun qs hq ha => ?_⟩, by simp [flat]⟩
  obtain ⟨k, B, rfl, hB⟩ := wts_head (V := []) hq
  have : B = [] := by simpa [wts] using hB
  subst this
  have h1 : 0 + 2 ^ k = 2 ^ D := ha.2
  have h2 : k = D := Nat.le_antisymm (le_of_pow_le (by omega)) (le_of_pow_le (by omega))
  subst h2
  exact Int.le_refl _

/-- what the text's function of depths yields -/
def T.fill : T → Nat → List Int → List Int
  | .leaf k, d, ds => ds.set k (d : Int)
  | .node a b, d, ds => a.fill (d + 1) (b.fill (d + 1) ds)

def sets (L : List (Nat × Nat)) (ds : List Int) : List Int := L.foldl (fun ds p => ds.set p.1 (p.2 : Int)) ds

theorem T.fill_eq (t : T) : ∀ d ds, t.fill d ds = sets (t.ld d).reverse ds := by
  induction t with
  | leaf k => intro d ds; rfl
  | node a b iha ihb =>
    intro d ds
    simp only [T.fill, iha, ihb, T.ld, List.reverse_append, sets, List.foldl_append]

theorem sets_len (L : List (Nat × Nat)) : ∀ ds, (sets L ds).length = ds.length := by
  induction L with
  | nil => intro ds; rfl
  | cons p L ih => intro ds; show (sets L (ds.set p.1 _)).length = _; rw [ih, List.length_set]

theorem sets_off (L : List (Nat × Nat)) (k : Nat) (h : k ∉ L.map (·.1)) : ∀ ds, (sets L ds)[k]? = ds[k]? := by
  induction L with
  | nil => intro ds; rfl
  | cons p L ih =>
    intro ds
    simp only [List.map_cons, List.mem_cons, not_or] at h
    show (sets L (ds.set p.1 _))[k]? = _
    rw [ih h.2, List.getElem?_set]
    rw [if_neg (fun e => h.1 e.symm)]

theorem sets_at (L : List (Nat × Nat)) (hnd : (L.map (·.1)).Nodup) {k d : Nat} (hm : (k, d) ∈ L) : ∀ ds, k < ds.length → (sets L ds)[k]? = some (d : Int) := by
  induction L with
  | nil => cases hm
  | cons p L ih =>
    intro ds hk
    simp only [List.map_cons, List.nodup_cons] at hnd
    show (sets L (ds.set p.1 _))[k]? = _
    rcases List.mem_cons.mp hm with rfl | hm
    · rw [sets_off L _ hnd.1, List.getElem?_set]
      simp [hk]
    · exact ih hnd.2 hm _ (by rw [List.length_set]; exact hk)

/-- the stack that reads levels, its top first -/
def red : List Int → List Int
  | a :: b :: r => if a = b then red ((b - 1) :: r) else a :: b :: r
  | s => s
termination_by s => s.length

def reads (st : List Int) (ds : List Int) : List Int := ds.foldl (fun st d => red (d :: st)) st

theorem red_eq (a : Int) (r : List Int) : red (a :: a :: r) = red ((a - 1) :: r) := by rw [red]; simp
theorem red_ne {a b : Int} {r : List Int} (h : a ≠ b) : red (a :: b :: r) = a :: b :: r := by rw [red]; simp [h]
theorem red_one (a : Int) : red [a] = [a] := by rw [red]; simp

theorem W.reads_lv (t : W) : ∀ (d : Nat) (st : List Int), (∀ a r, st = a :: r → a ≤ (d : Int)) → reads st ((t.lv d).map fun n : Nat => (n : Int)) = red ((d : Int) :: st) := by
  induction t with
  | lf w => intro d st _; rfl
  | br a b iha ihb =>
    intro d st hst
    have e1 : red (((d + 1 : Nat) : Int) :: st) = ((d + 1 : Nat) : Int) :: st := by
      cases st with
      | nil => exact red_one _
      | cons x r => exact red_ne (by have := hst x r rfl; omega)
    have h1 := iha (d + 1) st (fun x r e => by have := hst x r e; omega)
    simp only [W.lv, List.map_append, reads, List.foldl_append] at h1 ⊢
    rw [h1, e1]
    have h2 := ihb (d + 1) (((d + 1 : Nat) : Int) :: st) (fun x r e => by cases e; exact Int.le_refl _)
    simp only [reads] at h2
    rw [h2, red_eq]
    congr 2
    omega

def dot : List Int → List Int → Int
  | a :: r, b :: s => a * b + dot r s
  | _, _ => 0

theorem dot_zip (D : Nat) : ∀ (ps : PL), (∀ a ∈ ps, a.2 ≤ D) → dot (wts ps) (ps.map fun a => ((D - a.2 : Nat) : Int)) = ml (wts ps).sum D - gain ps
  | [], _ => by simp [dot, wts, ml, gain]
  | a :: ps, h => by
    have ih := dot_zip D ps fun b hb => h b (.tail _ hb)
    have ha := h a (.head _)
    simp only [wts, List.map_cons, dot, List.sum_cons, gain_cons] at ih ⊢
    rw [ih, ml_add]
    have e : a.1 * ((D - a.2 : Nat) : Int) = ml a.1 D - ml a.1 a.2 := by
      unfold ml
      rw [← Int.mul_sub]
      congr 1
      omega
    rw [e]
    omega

/-- all that the law asks of a joining -/
theorem joined {ws : List Int} {h : Int} {t : T} (hnn : ∀ w ∈ ws, 0 < w) (r : Reach ws ((List.range ws.length).map T.leaf) [h] [t]) :
    h = ws.sum ∧ (∀ p ∈ t.ld 0, p.1 < ws.length) ∧ reads [] (t.fill 0 (List.replicate ws.length 0)) = [0] ∧ IsMin ws (dot ws (t.fill 0 (List.replicate ws.length 0))) := by
  have hf := reach_facts r hnn (by simp)
  refine ⟨by have := hf.2.2.1; simpa using this, ?_⟩
  obtain ⟨hs, hl, _, ho, hp⟩ := (good_reach (D := ws.length) r hnn (by simp) (Nat.le_refl _) (good_one _ h t)).ex
  generalize hD : ws.length = D at *
  have hflat : flat D (((List.range D).map T.leaf).zip hs) = (List.range D).zip (hs.map fun h => D - h) := by
    have : ∀ (l : List Nat) (hs : List Nat), flat D ((l.map T.leaf).zip hs) = l.zip (hs.map fun h => D - h) := by
      intro l
      induction l with
      | nil => intro hs; rfl
      | cons a l ih =>
        intro hs
        cases hs with
        | nil => rfl
        | cons b hs =>
          have e1 : flat D ((T.leaf a, b) :: ((l.map T.leaf).zip hs)) = [(a, D - b)] ++ flat D ((l.map T.leaf).zip hs) := by simp [flat, T.ld]
          simp only [List.map_cons, List.zip_cons_cons]
          rw [e1, ih]
          rfl
    exact this _ _
  rw [hflat] at hp
  have hkeys : ((t.ld 0).map (·.1)).Perm (List.range D) := by
    have := hp.map (fun p : Nat × Nat => p.1)
    rwa [List.map_fst_zip (by simp; omega)] at this
  have hnd : ((t.ld 0).map (·.1)).Nodup := hkeys.nodup_iff.mpr List.nodup_range
  have hfill : t.fill 0 (List.replicate D 0) = hs.map fun h => ((D - h : Nat) : Int) := by
    rw [T.fill_eq]
    apply List.ext_getElem?
    intro i
    by_cases hi : i < D
    · have hm : (i, D - hs[i]'(by omega)) ∈ (t.ld 0) := by
        refine hp.mem_iff.mpr ?_
        have : ((List.range D).zip (hs.map fun h => D - h))[i]? = some (i, D - hs[i]'(by omega)) := by
          rw [List.getElem?_zip_eq_some]
          simp [hi]
          exact ⟨hs[i]'(by omega), List.getElem?_eq_getElem _, rfl⟩
        exact List.mem_of_getElem? this
      rw [sets_at (t.ld 0).reverse (by rw [List.map_reverse]; exact (List.reverse_perm _).nodup_iff.mpr hnd) (List.mem_reverse.mpr hm) _ (by simpa using hi)]
      simp [hl, hi]
    · rw [List.getElem?_eq_none (by rw [sets_len]; simp; omega), List.getElem?_eq_none (by simp; omega)]
  have hwz := wts_zip (H := ws) (hs := hs) (by omega)
  have hlen : (ws.zip hs).length = D := by rw [List.length_zip]; omega
  obtain ⟨hmin, t', hd, e⟩ := isMin_opt ho (by omega)
  have hhs : (ws.zip hs).map (fun a => a.2) = hs := List.map_snd_zip (by omega)
  refine ⟨fun p hp' => ?_, ?_, ?_⟩
  · have := hkeys.mem_iff.mp (List.mem_map_of_mem hp')
    simpa using this
  · rw [hfill]
    have e2 := t'.lv_ps D D (by omega) (Nat.le_refl _)
    rw [e] at e2
    have e3 : hs.map (fun h => ((D - h : Nat) : Int)) = (t'.lv (D - D)).map fun n : Nat => (n : Int) := by
      rw [← e2, List.map_map]
      conv => lhs; rw [← hhs, List.map_map]
      rfl
    rw [e3, t'.reads_lv (D - D) [] (fun a r e => nomatch e)]
    simp [red_one]
  · rw [hfill]
    have e4 := dot_zip D (ws.zip hs) (al_hle ho.1)
    rw [hwz] at e4 hmin
    have e5 : (ws.zip hs).map (fun a => ((D - a.2 : Nat) : Int)) = hs.map fun h => ((D - h : Nat) : Int) := by
      conv => rhs; rw [← hhs, List.map_map]
      rfl
    rw [e5] at e4
    rw [e4]
    exact hmin
end GW

namespace GW
theorem reads_snoc (p : List Int) (n : Int) : reads [] (p ++ [n]) = red (n :: reads [] p) := by
  simp [reads, List.foldl_append]
theorem red_short {l : List Int} (h : l.length < 2) : red l = l := by
  match l, h with
  | [], _ => rw [red]; simp
  | [a], _ => exact red_one a
end GW

namespace GW
theorem joined_len {ws : List Int} {h : Int} {t : T} (hnn : ∀ w ∈ ws, 0 < w) (r : Reach ws ((List.range ws.length).map T.leaf) [h] [t]) : (t.ld 0).length = ws.length := by
  obtain ⟨hs, hl, hl2, ho, hp⟩ := (good_reach (D := ws.length) r hnn (by simp) (Nat.le_refl _) (good_one _ h t)).ex
  rw [hp.length_eq]
  have : ∀ (D : Nat) (l : List Nat) (hs : List Nat), l.length = hs.length → (flat D ((l.map T.leaf).zip hs)).length = l.length := by
    intro D l
    induction l with
    | nil => intro hs _; rfl
    | cons a l ih =>
      intro hs he
      cases hs with
      | nil => cases he
      | cons b hs =>
        have e1 : flat D ((T.leaf a, b) :: ((l.map T.leaf).zip hs)) = [(a, D - b)] ++ flat D ((l.map T.leaf).zip hs) := by simp [flat, T.ld]
        simp only [List.map_cons, List.zip_cons_cons]
        rw [e1, List.length_append, ih hs (by simpa using he)]
        simp; omega
  rw [this _ _ _ (by simp; omega)]
  simp
end GW
/-! What the two searches find is one joining. -/
namespace GW

theorem dec2_of : ∀ (L : List Int), (∀ k, k + 2 < L.length → L.getD (k + 2) 0 < L.getD k 0) → Dec2 L
  | [], _ => trivial
  | [_], _ => trivial
  | [_, _], _ => trivial
  | a :: b :: c :: r, h => by
    refine ⟨by simpa using h 0 (by simp), dec2_of (b :: c :: r) fun k hk => ?_⟩
    have := h (k + 1) (by simp at hk ⊢; omega)
    simpa using this

/-- a row parted at j and at the pair i - 1, i -/
theorem parted {α : Type} (H : List α) {i j : Nat} (h1 : 1 ≤ i) (hi : i < H.length) (hj : j ≤ i - 1) :
    ∃ A S x y C, H = A ++ (S ++ x :: y :: C) ∧ A.length = j ∧ A.length + S.length = i - 1 ∧ H[i - 1]? = some x ∧ H[i]? = some y ∧
      (H.eraseIdx i).eraseIdx (i - 1) = A ++ (S ++ C) ∧ C = H.drop (i + 1) := by
  have hi1 : i - 1 < H.length := by omega
  have e1 : H = H.take (i - 1) ++ H[i - 1] :: H[i] :: H.drop (i + 1) := by
    have e2 : H.drop (i - 1) = H[i - 1] :: H.drop i := by
      have := List.drop_eq_getElem_cons hi1
      rwa [show i - 1 + 1 = i by omega] at this
    have e3 : H.drop i = H[i] :: H.drop (i + 1) := List.drop_eq_getElem_cons hi
    rw [← e3, ← e2, List.take_append_drop]
  have e4 : H.take (i - 1) = (H.take (i - 1)).take j ++ (H.take (i - 1)).drop j := (List.take_append_drop _ _).symm
  generalize hA : (H.take (i - 1)).take j = A at e4
  generalize hS : (H.take (i - 1)).drop j = S at e4
  have lA : A.length = j := by rw [← hA]; simp; omega
  have lS : A.length + S.length = i - 1 := by
    rw [← List.length_append, ← e4]; simp; omega
  refine ⟨A, S, H[i - 1], H[i], H.drop (i + 1), ?_, lA, lS, List.getElem?_eq_getElem hi1, List.getElem?_eq_getElem hi, ?_, rfl⟩
  · rw [← List.append_assoc, ← e4]; exact e1
  · generalize hx : H[i - 1] = x at e1
    generalize hy : H[i] = y at e1
    generalize H.drop (i + 1) = C at e1
    rw [e1, e4]
    have l1 : (A ++ S).length = i - 1 := by rw [List.length_append]; exact lS
    have e5 : (A ++ S ++ x :: y :: C).eraseIdx i = A ++ S ++ x :: C := by
      rw [List.eraseIdx_append_of_length_le (by omega), l1, show i - (i - 1) = 1 by omega]
      rfl
    rw [e5, List.eraseIdx_append_of_length_le (by omega), l1, Nat.sub_self]
    simp

theorem gstep_of {H : List Int} {TS : List T} {i j : Nat} {x y : Int} {tx ty : T} (hl : TS.length = H.length) (h1 : 1 ≤ i) (hi : i < H.length) (hj : j ≤ i - 1)
    (hx : H.getD (i - 1) 0 = x) (hy : H.getD i 0 = y) (htx : TS[i - 1]? = some tx) (hty : TS[i]? = some ty)
    (hdec : ∀ k, 1 ≤ k → k < i → H.getD (k + 1) 0 < H.getD (k - 1) 0) (hz : i + 1 < H.length → H.getD (i - 1) 0 ≤ H.getD (i + 1) 0)
    (hS : ∀ k, j ≤ k → k < i - 1 → ((H.eraseIdx i).eraseIdx (i - 1)).getD k 0 < x + y) (hA : 0 < j → x + y ≤ ((H.eraseIdx i).eraseIdx (i - 1)).getD (j - 1) 0) :
    GStep H TS (((H.eraseIdx i).eraseIdx (i - 1)).take j ++ (x + y) :: ((H.eraseIdx i).eraseIdx (i - 1)).drop j)
      (((TS.eraseIdx i).eraseIdx (i - 1)).take j ++ T.node tx ty :: ((TS.eraseIdx i).eraseIdx (i - 1)).drop j) := by
  obtain ⟨A, S, x', y', C, eH, lA, lS, ex, ey, eE, eC⟩ := parted H h1 hi hj
  obtain ⟨TA, TB, tx', ty', TC, eT, lTA, lTB, etx, ety, eTE, eTC⟩ := parted TS h1 (by omega) hj
  have e1 : x' = x := by rw [← hx, List.getD_eq_getElem?_getD, ex]; rfl
  have e2 : y' = y := by rw [← hy, List.getD_eq_getElem?_getD, ey]; rfl
  have e3 : tx' = tx := by rw [etx] at htx; exact Option.some.inj htx
  have e4 : ty' = ty := by rw [ety] at hty; exact Option.some.inj hty
  subst e1 e2 e3 e4
  rw [eE, eTE]
  rw [eE] at hS hA
  have t1 : (A ++ (S ++ C)).take j = A := by rw [List.take_append_of_le_length (by omega), List.take_of_length_le (by omega)]
  have d1 : (A ++ (S ++ C)).drop j = S ++ C := by rw [← lA, List.drop_left]
  have t2 : (TA ++ (TB ++ TC)).take j = TA := by rw [List.take_append_of_le_length (by omega), List.take_of_length_le (by omega)]
  have d2 : (TA ++ (TB ++ TC)).drop j = TB ++ TC := by rw [← lTA, List.drop_left]
  rw [t1, d1, t2, d2]
  have hlH := congrArg List.length eH
  have hlT := congrArg List.length eT
  simp only [List.length_append, List.length_cons] at hlH hlT
  refine ⟨A, S, x', y', C, TA, TB, tx', ty', TC, eH, eT, rfl, rfl, by omega, by omega, by omega, ?_, ?_, ?_, ?_⟩
  · refine dec2_of _ fun k hk => ?_
    have hk' : k + 2 < i + 1 := by
      simp only [List.length_append, List.length_cons, List.length_nil] at hk
      omega
    have h5 := hdec (k + 1) (by omega) (by omega)
    have e5 : H = (A ++ (S ++ [x', y'])) ++ C := by rw [eH]; simp
    rw [e5] at h5
    have l5 : (A ++ (S ++ [x', y'])).length = i + 1 := by simp only [List.length_append, List.length_cons, List.length_nil]; omega
    simp only [List.getD_eq_getElem?_getD] at h5 ⊢
    rw [List.getElem?_append_left (l₁ := A ++ (S ++ [x', y'])) (by omega), List.getElem?_append_left (l₁ := A ++ (S ++ [x', y'])) (by omega)] at h5
    exact h5
  · intro z C' hC
    have hi1 : i + 1 < H.length := by
      rw [hlH, hC, List.length_cons]; omega
    have h5 := hz hi1
    have e5 : H.getD (i + 1) 0 = z := by
      have h6 := eC
      rw [hC, List.drop_eq_getElem_cons hi1] at h6
      have h7 := (List.cons.inj h6).1
      rw [h7]
      simp [List.getD_eq_getElem?_getD, hi1]
    rw [hx, e5] at h5
    exact h5
  · intro v hv
    obtain ⟨n, hn, rfl⟩ := List.mem_iff_getElem.mp hv
    have h5 := hS (j + n) (by omega) (by omega)
    rw [List.getD_eq_getElem?_getD, List.getElem?_append_right (by omega), List.getElem?_append_left (by omega), show j + n - A.length = n by omega, List.getElem?_eq_getElem hn] at h5
    exact h5
  · intro a A' hA'
    have h5 := hA (by rw [← lA, hA']; simp)
    have e5 : (A ++ (S ++ C)).getD (j - 1) 0 = a := by
      rw [← lA, hA']
      simp [List.getD_eq_getElem?_getD]
    rw [e5] at h5
    exact h5
end GW
namespace GW
theorem delL_of : ∀ {l : List Value} {k : Nat}, k < l.length → ki_delL l k = some (l.eraseIdx k)
  | [], _, h => absurd h (Nat.not_lt_zero _)
  | _ :: _, 0, _ => rfl
  | x :: r, k + 1, h => by
    have e := delL_of (l := r) (k := k) (Nat.lt_of_succ_lt_succ h)
    unfold ki_delL
    rw [e]
    rfl
theorem setL_of {v : Value} : ∀ {l : List Value} {k : Nat}, k < l.length → ki_setL l k v = some (l.set k v)
  | [], _, h => absurd h (Nat.not_lt_zero _)
  | _ :: _, 0, _ => rfl
  | x :: r, k + 1, h => by
    have e := setL_of (v := v) (l := r) (k := k) (Nat.lt_of_succ_lt_succ h)
    unfold ki_setL
    rw [e]
    rfl
theorem last_of {y : Value} : ∀ {p : List Value}, kl_last (p ++ [y]) = some (p, y)
  | [] => rfl
  | x :: p => by
    have e := last_of (y := y) (p := p)
    show kl_last (x :: (p ++ [y])) = _
    unfold kl_last
    rw [e]
theorem idx_of {k n : Nat} (h : k < n) : seqIndex? (k : Int) n = some k := by
  have := seqIndex_at (i := (k : Int)) (n := n) (by omega) (by omega)
  rw [this]
  simp
theorem fits_of {k : Int} (h0 : 0 ≤ k) (h : k < 2 ^ 63) : Builtin.List.listFitsIndex k = true := fitsIndex_of h0 h

section
variable {prog : Program} {w : World} {A : Around} {E : Value → Shared → Prop} {s : Shared} {h₀ : Heap} {L D : Addr} {m : Str → Option Value} {news news' : List (Addr × Obj)} {vs : List Value} {c : Nat}

theorem gw_get {value slice : Expr} {k : Int} {u : Tok} {x : Value} {Q : Value → Shared → Prop} (N : News h₀ L s.heap news) (hm : (D, listOf vs.toArray c) ∈ news) (h0 : 0 ≤ k) (hfit : k < 2 ^ 63) (hx : vs[k.toNat]? = some x) (h : Q x s)
    (hs : subscripted slice false (.ref D) (.int k u) = operate [.ref D, .int k u] (getItem (.ref D) (.int k u)) := by with_unfolding_all rfl) (hg : ∀ r, letTemporaryGo value (.ref D) r = pure () := by intro _; with_unfolding_all rfl) :
    wpAny (model prog w) A (subscriptTail value slice (.ref D) (.int k u)) Q E s := kim_list N hm rfl rfl h0 hfit hx h hs hg
theorem gw_back {value slice : Expr} {k : Int} {u : Tok} {x : Value} {Q : Value → Shared → Prop} (N : News h₀ L s.heap news) (hm : (D, listOf vs.toArray c) ∈ news) (h0 : k < 0) (h1 : -(vs.length : Int) ≤ k) (hfit : -(2 ^ 63) ≤ k) (hx : vs[(k + (vs.length : Int)).toNat]? = some x) (h : Q x s)
    (hs : subscripted slice false (.ref D) (.int k u) = operate [.ref D, .int k u] (getItem (.ref D) (.int k u)) := by with_unfolding_all rfl) (hg : ∀ r, letTemporaryGo value (.ref D) r = pure () := by intro _; with_unfolding_all rfl) :
    wpAny (model prog w) A (subscriptTail value slice (.ref D) (.int k u)) Q E s := kim_back N hm rfl rfl h0 h1 hfit hx h hs hg
theorem gw_set {k : Int} {t : Tok} {v : Value} {Q : Unit → Shared → Prop} (F : Fr h₀ L s.heap m) (N : News h₀ L s.heap news) (U : Upd D (listOf vs.toArray c) (listOf (vs.set k.toNat v).toArray c) news news') (h0 : 0 ≤ k) (hk : k < vs.length) (hfit : vs.length < 2 ^ 63)
    (h : ∀ h', Fr h₀ L h' m → News h₀ L h' news' → Q () { s with heap := h' }) : wpAny (model prog w) A (setItem (.ref D) (.int k t) v) Q E s :=
  ki_set F N h0 (by omega) (setL_of (by simp; omega)) U h
theorem gw_setNeg {k : Int} {t : Tok} {v : Value} {Q : Unit → Shared → Prop} (F : Fr h₀ L s.heap m) (N : News h₀ L s.heap news) (U : Upd D (listOf vs.toArray c) (listOf (vs.set (k + vs.length).toNat v).toArray c) news news') (h0 : k < 0) (hk : -(vs.length : Int) ≤ k) (hfit : -(2 ^ 63) ≤ k)
    (h : ∀ h', Fr h₀ L h' m → News h₀ L h' news' → Q () { s with heap := h' }) : wpAny (model prog w) A (setItem (.ref D) (.int k t) v) Q E s :=
  ki_setNeg F N h0 hfit (by rw [List.size_toArray]; exact PySem.seqIndex_neg h0 hk) (setL_of (by simp; omega)) U h
theorem gw_del {k : Int} {u : Tok} {Q : Unit → Shared → Prop} (F : Fr h₀ L s.heap m) (N : News h₀ L s.heap news) (U : Upd D (listOf vs.toArray c) (listOf (vs.eraseIdx k.toNat).toArray (c + 1)) news news') (h0 : 0 ≤ k) (hk : k < vs.length) (hz : vs.length ≤ sizeLine)
    (h : ∀ h', Fr h₀ L h' m → News h₀ L h' news' → Q () { s with heap := h' }) : wpAny (model prog w) A (delItem (.ref D) (.int k u)) Q E s := by
  have hs : sizeLine < 2 ^ 62 := by rw [sizeLine_eq]; decide
  obtain ⟨j, rfl⟩ := Int.eq_ofNat_of_zero_le h0
  exact ki_del (k := j) F N (fitsIndex_of h0 (by omega)) (by rw [List.size_toArray]; exact idx_of (by omega)) (delL_of (by simp; omega)) U (by simpa using hz) h
theorem gw_pop {p : List Value} {y : Value} {Q : Value → Shared → Prop} (F : Fr h₀ L s.heap m) (N : News h₀ L s.heap news) (U : Upd D (listOf (p ++ [y]).toArray c) (listOf p.toArray (c + 1)) news news') (hz : p.length < sizeLine)
    (h : ∀ h', Fr h₀ L h' m → News h₀ L h' news' → Q y { s with heap := h' }) : wpAny (model prog w) A (call (.builtin "list.pop") [.ref D]) Q E s :=
  kl_pop F N last_of U (by simp; omega) h
theorem gw_ins {k : Int} {u : Tok} {y : Value} {Q : Value → Shared → Prop} (F : Fr h₀ L s.heap m) (N : News h₀ L s.heap news) (U : Upd D (listOf vs.toArray c) (listOf (vs.take k.toNat ++ y :: vs.drop k.toNat).toArray (c + 1)) news news') (h0 : 0 ≤ k) (hk : k ≤ vs.length) (hz : vs.length ≤ sizeLine)
    (h : ∀ h', Fr h₀ L h' m → News h₀ L h' news' → Q .none { s with heap := h' }) : wpAny (model prog w) A (call (.builtin "list.insert") [.ref D, .int k u, y]) Q E s := by
  have hs : sizeLine < 2 ^ 62 := by rw [sizeLine_eq]; decide
  refine kl_insert F N (fitsIndex_of h0 (by omega)) ?_ U (by simpa using hz) h
  show kl_ins vs k y = _
  unfold kl_ins
  rw [if_neg (by omega), Nat.min_eq_left (by omega)]
end

/-- the last two of a list of ints -/
theorem two_last {vals : List Value} {st : List Int} (hi : IntsAre vals st) (h : 2 ≤ st.length) :
    ∃ r rv a b ta tb, st = r ++ [b, a] ∧ vals = rv ++ [.int b tb, .int a ta] ∧ IntsAre rv r := by
  have hl := hi.length
  refine ⟨st.take (st.length - 2), vals.take (st.length - 2), ?_⟩
  have h1 : IntsAre (vals.drop (st.length - 2)) (st.drop (st.length - 2)) := hi.drop _
  have h2 : (st.drop (st.length - 2)).length = 2 := by rw [List.length_drop]; omega
  match hd : st.drop (st.length - 2), h2 with
  | [b, a], _ =>
    rw [hd] at h1
    obtain ⟨tb, v1, e1, h3⟩ := h1.cons_inv
    obtain ⟨ta, v2, e2, h4⟩ := h3.cons_inv
    have e3 := h4.nil_inv
    subst e3
    subst e2
    refine ⟨a, b, ta, tb, ?_, ?_, hi.take _⟩
    · rw [← hd, List.take_append_drop]
    · rw [← e1, List.take_append_drop]

theorem at_back1 {rv : List Value} {x : Value} : (rv ++ [x])[((-1 : Int) + ((rv ++ [x]).length : Int)).toNat]? = some x := by
  have : ((-1 : Int) + ((rv ++ [x]).length : Int)).toNat = rv.length := by simp; omega
  rw [this]; simp
theorem at_two1 {rv : List Value} {x y : Value} : (rv ++ [x, y])[((-1 : Int) + ((rv ++ [x, y]).length : Int)).toNat]? = some y := by
  have : ((-1 : Int) + ((rv ++ [x, y]).length : Int)).toNat = rv.length + 1 := by simp; omega
  rw [this]; simp
theorem at_two2 {rv : List Value} {x y : Value} : (rv ++ [x, y])[((-2 : Int) + ((rv ++ [x, y]).length : Int)).toNat]? = some x := by
  have : ((-2 : Int) + ((rv ++ [x, y]).length : Int)).toNat = rv.length := by simp; omega
  rw [this]; simp

theorem set_back1 {rv : List Value} {x v : Value} : (rv ++ [x]).set ((-1 : Int) + ((rv ++ [x]).length : Int)).toNat v = rv ++ [v] := by
  have : ((-1 : Int) + ((rv ++ [x]).length : Int)).toNat = rv.length := by simp; omega
  rw [this]; simp
theorem two_split {rv : List Value} {x y : Value} : rv ++ [x, y] = (rv ++ [x]) ++ [y] := by simp

section
variable {prog : Program} {w : World} {A : Around} {E : Value → Shared → Prop} {s : Shared}
theorem gw_ne_nil {l b : Addr} {vs : List Value} {Q : Value → Shared → Prop} (hl : s.heap.IsList l vs.toArray) (hb : s.heap.IsList b #[]) (hu : A.units < cLine) (h : Q (.bool (!vs.isEmpty)) s) :
    wpAny (model prog w) A (compareOp .NotEq (.ref l) (.ref b)) Q E s := by
  refine cmp_ofNotEq ?_
  cases vs with
  | nil =>
    exact PySem.SeqAt.RcNeAt.lists (e := fun _ => true) hl hb rfl hu (fun j h1 _ => absurd h1 (by simp)) prog w E Q h
  | cons v vs =>
    exact PySem.SeqAt.RcNeAt.lists_lengths hl hb (by simp) hu prog w E Q h
end

theorem news_swap2 {h₀ h : Heap} {L : Addr} {a b c : Addr × Obj} {r : List (Addr × Obj)} (N : News h₀ L h (a :: b :: c :: r)) : News h₀ L h (a :: c :: b :: r) := fun p hp => N p (by
  simp only [List.mem_cons] at hp ⊢
  rcases hp with h | h | h | h
  · exact .inl h
  · exact .inr (.inr (.inl h))
  · exact .inr (.inl h)
  · exact .inr (.inr (.inr h)))
theorem ownOff_cons {p : Addr × Obj} {own : List (Addr × Obj)} {adr : List Addr} (h1 : ∀ b ∈ adr, p.1 ≠ b) (h2 : OwnOff own adr) : OwnOff (p :: own) adr := by
  intro q hq b hb
  rcases List.mem_cons.mp hq with rfl | hq
  · exact h1 b hb
  · exact h2 q hq b hb
theorem ownOff_lt {own : List (Addr × Obj)} {adr : List Addr} (h : ∀ p ∈ own, ∀ b ∈ adr, p.1 < b) : OwnOff own adr := fun p hp b hb => Nat.ne_of_lt (h p hp b hb)

theorem ownOff2_cons {p : Addr × Obj} {own : List (Addr × Obj)} {a b : Addr} (h1 : p.1 ≠ a) (h2 : p.1 ≠ b) (h : OwnOff own [a, b]) : OwnOff (p :: own) [a, b] := by
  refine ownOff_cons ?_ h
  intro c hc
  rcases List.mem_cons.mp hc with rfl | hc
  · exact h1
  · rw [List.mem_singleton.mp hc]; exact h2
theorem ownOff2_lt {own : List (Addr × Obj)} {a b : Addr} (ha : ∀ p ∈ own, p.1 < a) (hb : ∀ p ∈ own, p.1 < b) : OwnOff own [a, b] := by
  intro p hp c hc
  rcases List.mem_cons.mp hc with rfl | hc
  · exact Nat.ne_of_lt (ha p hp)
  · rw [List.mem_singleton.mp hc]; exact Nat.ne_of_lt (hb p hp)
theorem allLt_mem {d : Addr} {own : List (Addr × Obj)} (h : AllLt d own) : ∀ p ∈ own, p.1 < d := kst_ltOf h
end GW

namespace GW
/-- a frame whose names are known in part, with these written out -/
theorem fr_known {h₀ h : Heap} {L : Addr} {m : Str → Option Value} (F : Fr h₀ L h m) (ps : List (Str × Value)) (hk : ∀ p ∈ ps, m p.1 = some p.2) : Fr h₀ L h (kstB m ps) := by
  have e : kstB m ps = m := by
    funext z
    exact kstB_eq hk fun _ => rfl
  rw [e]
  exact F
end GW

namespace GW
/-- behind a while that turns one int -/
structure AfterI {g h0 : Heap} {L : Addr} {m₀ : Str → Option Value} (_F : Fr g L h0 m₀) (s : Shared) (led : List (Addr × Obj)) (name : Str) (P : Int → Prop) (f : Flow) (s2 : Shared) : Prop where
  ex : f = Flow.next ∧ ∃ (i : Int) (ti : Tok) (h : Heap) (tk : Nat), s2 = { s with heap := h, toks := tk } ∧ Fr g L h (fun z => if z = name then some (Value.int i ti) else m₀ z) ∧ News g L h led ∧ P i
theorem fr_if {g h : Heap} {L : Addr} {m m₀ : Str → Option Value} {name : Str} {v : Value} (F : Fr g L h m) (h1 : m name = some v) (h2 : ∀ z, z ≠ name → m z = m₀ z) : Fr g L h (fun z => if z = name then some v else m₀ z) := by
  have e : (fun z => if z = name then some v else m₀ z) = m := by
    funext z
    by_cases hz : z = name
    · rw [if_pos hz, hz, h1]
    · rw [if_neg hz, h2 z hz]
  rw [e]
  exact F
end GW
namespace GW

/-- a call of a def at address f with the ledger news, from a frame (h₀, L, m) -/
def CallOk (lv : Nat) (w : World) (loose : List Str) (mean : ExcName → Option Value) (mg mb : Str → Option Value) (f : Addr) (news : List (Addr × Obj)) (vs : List Value) (pre : Prop) (ret : (Heap → Addr → (Str → Option Value) → Heap → Value → Prop)) : Prop :=
  ∀ (dp un : Nat) (gd : Option (List Code)) (cn : Str) (cs : Scope) (a : Addr) (ccd : Value) (cl : List (Str × Addr)) (outer : List Env) (A₀ : Around) (base h₀ : Heap) (L : Addr) (m : Str → Option Value) (s : Shared) (Q E : Value → Shared → Prop),
    Below A₀ base outer h₀ → Fr h₀ L s.heap m → (hd.heap_39 w.params).In h₀ → News h₀ L s.heap news → Top hd.view_39 loose mean mg mb h₀ → cs.kind = .function →
    pre → dp + 3 * lv < recursionLimit → un + 100 * lv < cLine →
    (∀ r h' tk', Fr h₀ L h' m → ret h₀ L m h' r → Q r { s with heap := h', toks := tk' }) →
      wpAny (model PySem.Challenge.rw_ab6008_01.row.prog w) (ktrTop dp un gd cn cs L a ccd cl outer) (call (.ref f) vs) Q E s

end GW
namespace GW
abbrev tupOf (vs : List Value) (n : Nat) : Obj := { cls := .type "tuple", data := .seq vs.toArray n }
/-- the ledger bears the tree t at v -/
inductive TreeIn (news : List (Addr × Obj)) : Value → T → Prop where
  | leaf (k : Nat) (tk : Tok) : TreeIn news (.int (k : Int) tk) (.leaf k)
  | node {a : Addr} {v1 v2 : Value} {t1 t2 : T} {n : Nat} : (a, tupOf [v1, v2] n) ∈ news → TreeIn news v1 t1 → TreeIn news v2 t2 → TreeIn news (.ref a) (.node t1 t2)
theorem TreeIn.mono {news news' : List (Addr × Obj)} {v : Value} {t : T} (h : TreeIn news v t) (hs : ∀ p ∈ news, p ∈ news') : TreeIn news' v t := by
  induction h with
  | leaf k tk => exact .leaf k tk
  | node hm _ _ ih1 ih2 => exact .node (hs _ hm) ih1 ih2
/-- .. and trees at many -/
inductive TreesIn (news : List (Addr × Obj)) : List Value → List T → Prop where
  | nil : TreesIn news [] []
  | cons {v : Value} {vs : List Value} {t : T} {ts : List T} : TreeIn news v t → TreesIn news vs ts → TreesIn news (v :: vs) (t :: ts)
theorem TreesIn.mono {news news' : List (Addr × Obj)} {vs : List Value} {ts : List T} (h : TreesIn news vs ts) (hs : ∀ p ∈ news, p ∈ news') : TreesIn news' vs ts := by
  induction h with
  | nil => exact .nil
  | cons h _ ih => exact .cons (h.mono hs) ih
theorem TreesIn.length {news : List (Addr × Obj)} {vs : List Value} {ts : List T} (h : TreesIn news vs ts) : vs.length = ts.length := by
  induction h with
  | nil => rfl
  | cons _ _ ih => simp [ih]

/-- the stack of trees with their depths, its bottom first -/
inductive StackIn (news : List (Addr × Obj)) : List Value → List (T × Nat) → Prop where
  | nil : StackIn news [] []
  | snoc {a : Addr} {v : Value} {tk : Tok} {n : Nat} {vs : List Value} {t : T} {d : Nat} {st : List (T × Nat)} :
      (a, tupOf [v, .int (d : Int) tk] n) ∈ news → TreeIn news v t → StackIn news vs st → StackIn news (vs ++ [.ref a]) (st ++ [(t, d)])
theorem StackIn.mono {news news' : List (Addr × Obj)} {vs : List Value} {st : List (T × Nat)} (h : StackIn news vs st) (hs : ∀ p ∈ news, p ∈ news') : StackIn news' vs st := by
  induction h with
  | nil => exact .nil
  | snoc hm ht _ ih => exact .snoc (hs _ hm) (ht.mono hs) ih
theorem StackIn.length {news : List (Addr × Obj)} {vs : List Value} {st : List (T × Nat)} (h : StackIn news vs st) : vs.length = st.length := by
  induction h with
  | nil => rfl
  | snoc _ _ _ ih => simp [ih]

def T.size : T → Nat
  | .leaf _ => 1
  | .node a b => a.size + b.size + 1
def T.lt (n : Nat) : T → Prop
  | .leaf k => k < n
  | .node a b => a.lt n ∧ b.lt n
theorem T.lt_of {n : Nat} (t : T) : ∀ d, (∀ p ∈ t.ld d, p.1 < n) → t.lt n := by
  induction t with
  | leaf k => intro d h; exact h (k, d) (by simp [T.ld])
  | node a b iha ihb =>
    intro d h
    exact ⟨iha (d + 1) fun p hp => h p (by simp [T.ld, hp]), ihb (d + 1) fun p hp => h p (by simp [T.ld, hp])⟩
theorem T.fill_len (t : T) : ∀ d ds, (t.fill d ds).length = ds.length := by
  intro d ds
  rw [t.fill_eq, sets_len]

/-- what the loop over the stack will have done -/
def fillS : List (T × Nat) → List Int → List Int
  | [], ds => ds
  | p :: r, ds => fillS r (p.1.fill p.2 ds)
def stSize (st : List (T × Nat)) : Nat := (st.map fun p => p.1.size).sum
end GW

namespace GW
theorem treesIn_ints {news : List (Addr × Obj)} : ∀ {vs : List Value} (ks : List Nat), IntsAre vs (ks.map fun i : Nat => (i : Int)) → TreesIn news vs (ks.map T.leaf)
  | _, [], h => by cases h; exact .nil
  | _, k :: ks, h => by
    obtain ⟨t, vs', rfl, h'⟩ := IntsAre.cons_inv h
    exact .cons (.leaf k t) (treesIn_ints ks h')
theorem treesIn_range {news : List (Addr × Obj)} {vs : List Value} {n : Nat} (h : IntsAre vs (rangeKs 0 ((n : Int) - 0).toNat)) : TreesIn news vs ((List.range n).map T.leaf) := by
  refine treesIn_ints _ ?_
  have e : rangeKs 0 ((n : Int) - 0).toNat = (List.range n).map fun i : Nat => (i : Int) := by
    unfold rangeKs
    simp
  rw [← e]; exact h
theorem TreesIn.get {news : List (Addr × Obj)} {vs : List Value} {ts : List T} (h : TreesIn news vs ts) : ∀ {k : Nat}, k < ts.length → ∃ v t, vs[k]? = some v ∧ ts[k]? = some t ∧ TreeIn news v t := by
  induction h with
  | nil => intro k hk; exact absurd hk (Nat.not_lt_zero _)
  | cons h _ ih =>
    intro k hk
    cases k with
    | zero => exact ⟨_, _, rfl, rfl, h⟩
    | succ k =>
      obtain ⟨v, t, h1, h2, h3⟩ := ih (Nat.lt_of_succ_lt_succ hk)
      exact ⟨v, t, by simpa using h1, by simpa using h2, h3⟩
theorem TreesIn.erase {news : List (Addr × Obj)} {vs : List Value} {ts : List T} (h : TreesIn news vs ts) : ∀ k, TreesIn news (vs.eraseIdx k) (ts.eraseIdx k) := by
  induction h with
  | nil => intro k; exact .nil
  | cons h hs ih =>
    intro k
    cases k with
    | zero => exact hs
    | succ k => exact .cons h (ih k)
theorem TreesIn.ins {news : List (Addr × Obj)} {vs : List Value} {ts : List T} {v : Value} {t : T} (hv : TreeIn news v t) (h : TreesIn news vs ts) : ∀ k, TreesIn news (vs.take k ++ v :: vs.drop k) (ts.take k ++ t :: ts.drop k) := by
  induction h with
  | nil => intro k; simpa using TreesIn.cons hv .nil
  | cons h hs ih =>
    intro k
    cases k with
    | zero => exact .cons hv (.cons h hs)
    | succ k => exact .cons h (ih k)
theorem ints_erase {vs : List Value} {ns : List Int} (h : IntsAre vs ns) : ∀ k, IntsAre (vs.eraseIdx k) (ns.eraseIdx k) := by
  induction h with
  | nil => intro k; exact .nil
  | cons i t h ih =>
    intro k
    cases k with
    | zero => exact h
    | succ k => exact .cons i t (ih k)
theorem ints_ins {vs : List Value} {ns : List Int} {x : Int} {tk : Tok} (h : IntsAre vs ns) (k : Nat) : IntsAre (vs.take k ++ .int x tk :: vs.drop k) (ns.take k ++ x :: ns.drop k) :=
  (h.take k).append (.cons x tk (h.drop k))
end GW

namespace GW
theorem ints_one {vs : List Value} {ns : List Int} (h : IntsAre vs ns) (hl : ns.length = 1) : ∃ x tx, ns = [x] ∧ vs = [Value.int x tx] := by
  cases h with
  | nil => cases hl
  | cons x tx h =>
    cases h with
    | nil => exact ⟨x, tx, rfl, rfl⟩
    | cons _ _ _ => simp at hl
theorem trees_one {own : List (Addr × Obj)} {vs : List Value} {ts : List T} (h : TreesIn own vs ts) (hl : ts.length = 1) : ∃ v t, vs = [v] ∧ ts = [t] ∧ TreeIn own v t := by
  cases h with
  | nil => cases hl
  | cons h hs =>
    cases hs with
    | nil => exact ⟨_, _, rfl, rfl, h⟩
    | cons _ _ => simp at hl
end GW

namespace GW
theorem T.size_ld (t : T) : ∀ d, t.size + 1 = 2 * (t.ld d).length := by
  induction t with
  | leaf k => intro d; rfl
  | node a b iha ihb =>
    intro d
    have h1 := iha (d + 1)
    have h2 := ihb (d + 1)
    simp only [T.size, T.ld, List.length_append]
    omega
end GW
namespace GW
set_option maxRecDepth 100000 in
set_option maxHeartbeats 8000000 in
theorem fits_ok {w : World} {loose mean mg mb} (news : List (Addr × Obj)) (l : Addr) (vs : List Value) (ds : List Int) (c : Nat)
   (hi : IntsAre vs ds) :
   CallOk 1 w loose mean mg mb 58 ((l, listOf vs.toArray c) :: news) [.ref l] (ds.length < 100) (fun h₀ L m h' r => News h₀ L h' ((l, listOf vs.toArray c) :: news) ∧ r = .bool (decide (reads [] ds = [0]))) := by
  w_top off
  unfold CallOk
  k_fill
  intro dp un gd cn cs a ccd cl outer A₀ base h₀ L m s Q E B F X N T hk hlen hd hu hret
  refine wpAny_call ?_
  k_dflt cell_enter
  walk_at "gw to"
  k_state (fun pre st => st.reverse = reads [] pre ∧ st.length ≤ pre.length) "stack"
  all_goals walk_at "gw to"
  · rename_i l' h2 l1 h3 tk0 vals st cnt kL left right kLen1 h4 FF NN
    refine ksw_while (σ := List Value × List Int × Nat) (fun c' => (l', listOf c'.1.toArray c'.2.2) :: (l, listOf vs.toArray c) :: (news ++ kOwn)) (fun _ => []) (fun c' => IntsAre c'.1 c'.2.1) []
      (fun c' => red c'.2.1.reverse = red (st ++ [kN]).reverse ∧ c'.2.1.length ≤ st.length + 1) (fun c' => c'.2.1.length) (vals ++ [.int kN kT], st ++ [kN], cnt + 1) FF ?_ ?_ ?_ ?_ ?_
    · simpa using NN
    · exact kFacts.append (.cons _ _ .nil)
    · exact fun _ h => nomatch h
    · simp
    · rintro ⟨vals', st', cnt'⟩ u hh tk' hf ⟨hp1, hp2⟩ Fr' N'
      dsimp only at hf hp1 hp2 N'
      simp only [kstB, List.contains_nil, Bool.false_eq_true, if_false] at Fr'
      have hl9 := hf.length
      by_cases h2 : 2 ≤ st'.length
      · obtain ⟨r, rv, b, a', tb, ta, rfl, rfl, hr⟩ := two_last hf h2
        walk_at "gw to"
        rename News _ _ _ _ => N1
        refine gw_back N1 (.head _) (by decide) (by simp; omega) (by decide) at_two1 ?_
        walk_at "gw to"
        rename News _ _ _ _ => N1
        refine gw_back N1 (.head _) (by decide) (by simp; omega) (by decide) at_two2 ?_
        walk_at "gw to"
        · rename Fr _ _ _ _ => F1
          rename News _ _ _ _ => N1
          rw [two_split] at N1
          have hab : b = a' := by assumption
          have hsz : (rv ++ [Value.int a' ta]).length < sizeLine := by
            rw [sizeLine_eq]; simp only [List.length_append, List.length_cons, List.length_nil] at *; omega
          refine gw_pop F1 N1 (Upd.head (by k_all)) hsz ?_
          intro hq F2 N2
          walk_at "gw to"
          refine gw_back N2 (.head _) (by decide) (by simp; omega) (by decide) at_back1 ?_
          walk_at "gw to"
          rename Fr _ _ _ _ => F3
          rename News _ _ _ _ => N3
          refine gw_setNeg F3 N3 (Upd.head (by k_all)) (by decide) (by simp; omega) (by decide) ?_
          intro hq F4 N4
          rw [set_back1] at N4
          walk_at "gw to"
          rename Fr _ _ _ _ => F5
          rename News _ _ _ _ => N5
          refine ksw_end (rv ++ [Value.int (a' - 1) _], r ++ [a' - 1], _) F5 N5 (fun _ h => h) (hr.append (.cons _ _ .nil)) (fun _ h => nomatch h) (by ksw_same) ⟨?_, ?_⟩ ?_
          · have hab' : b = a' := by simpa using hab
            rw [← hp1]
            simp only [List.reverse_append, List.reverse_cons, List.reverse_nil, List.nil_append, List.cons_append]
            rw [hab, red_eq]
          · simp only [List.length_append, List.length_cons, List.length_nil] at *; omega
          · simp only [List.length_append, List.length_cons, List.length_nil]; omega
        · rename Fr _ _ _ _ => F5
          rename News _ _ _ _ => N5
          have hab : b ≠ a' := by assumption
          refine kst_end (rv ++ [Value.int a' ta, Value.int b tb], r ++ [a', b], cnt') F5 N5 (by first | kst_in | kst_inAny) (by first | (intro p hp; kst_mem) | kst_anyIn) rfl hf (fun _ h => nomatch h) (by kst_same) ⟨?_, ?_⟩
          · rw [reads_snoc, ← left]
            have e1 : red (st ++ [kN]).reverse = red (kN :: st.reverse) := by simp
            rw [← e1, ← hp1]
            simp only [List.reverse_append, List.reverse_cons, List.reverse_nil, List.nil_append, List.cons_append]
            rw [red_ne hab]
          · simp only [List.length_append, List.length_cons, List.length_nil] at *; omega
      · walk_at "gw to"
        rename Fr _ _ _ _ => F5
        rename News _ _ _ _ => N5
        refine kst_end (vals', st', cnt') F5 N5 (by first | kst_in | kst_inAny) (by first | (intro p hp; kst_mem) | kst_anyIn) rfl hf (fun _ h => nomatch h) (by kst_same) ⟨?_, ?_⟩
        · rw [reads_snoc, ← left]
          have e1 : red (st ++ [kN]).reverse = red (kN :: st.reverse) := by simp
          rw [← e1, ← hp1, red_short (by simp; omega)]
        · simp only [List.length_append, List.length_cons, List.length_nil] at *; omega
  · rename Fr _ _ _ _ => F5
    rename News _ _ _ _ => N5
    refine hret _ _ _ F5 ⟨cb_drop N5 (by kcj_all), ?_⟩
    rename (List.reverse _ = reads [] ds) => hl
    rw [← hl]
    congr 1
    exact decide_eq_decide.mpr (by rw [List.reverse_eq_iff]; rfl)
end GW
namespace GW
set_option maxRecDepth 100000 in
set_option maxHeartbeats 8000000 in
theorem depths_ok {w : World} {loose mean mg mb} (news : List (Addr × Obj)) (v : Value) (t : T) (n : Nat) (tk : Tok)
   (ht : TreeIn news v t) :
   CallOk 1 w loose mean mg mb 44 news [v, .int (n : Int) tk] (t.lt n ∧ n < 100 ∧ t.size < 300) (fun h₀ L _ h' r => ∃ a vs c, r = .ref a ∧ News h₀ L h' ((a, listOf vs.toArray c) :: news) ∧ IntsAre vs (t.fill 0 (List.replicate n 0)) ∧ ∀ p ∈ news, p.1 < a) := by
  w_top off
  unfold CallOk
  k_fill
  intro dp un gd cn cs a ccd cl outer A₀ base h₀ L m s Q E B F X N T0 hk hpre hd hu hret
  obtain ⟨hlt, hn, hsz⟩ := hpre
  refine wpAny_call ?_
  k_dflt cell_enter
  rename_i g0 L0 _ FG0 _ _ B0 X0 T0
  walk_at "gw to"
  rename Fr _ _ _ _ => F1
  rename News _ _ _ _ => N1
  rename_i tk0 za _ l1 da _ iD _ _ _ _ _ l2 _ tk1 ta _ l3 wa _ l4 _
  have N2 := news_swap2 N1
  simp only [Int.toNat_natCast, List.flatten_replicate_singleton] at iD N2
  refine ksw_while (σ := List Value × List Int × List Value × List (T × Nat) × Nat × Nat × List (Addr × Obj))
    (fun x => (wa, listOf x.2.2.1.toArray x.2.2.2.2.2.1) :: (da, listOf x.1.toArray x.2.2.2.2.1) :: x.2.2.2.2.2.2) (fun _ => [])
    (fun x => IntsAre x.1 x.2.1 ∧ StackIn x.2.2.2.2.2.2 x.2.2.1 x.2.2.2.1 ∧ (∀ p ∈ news, p ∈ x.2.2.2.2.2.2) ∧ OwnOff x.2.2.2.2.2.2 [wa, da]) [Str.ofString "part", Str.ofString "depth"]
    (fun x => fillS x.2.2.2.1.reverse x.2.1 = t.fill 0 (List.replicate n 0) ∧ (∀ p ∈ x.2.2.2.1, p.1.lt n) ∧ x.2.1.length = n ∧ stSize x.2.2.2.1 ≤ t.size) (fun x => stSize x.2.2.2.1)
    (List.replicate n (Value.int 0 tk0), List.replicate n 0, [Value.ref ta], [(t, 0)], 0, 0, (ta, tupOf [v, Value.int ((0 : Nat) : Int) tk1] 0) :: (za, listOf #[Value.int 0 tk0] 0) :: news) F1 N2 ?_ ?_ ?_ ?_
  · refine ⟨iD, .snoc (vs := []) (st := []) (.head _) (ht.mono fun p hp => .tail _ (.tail _ hp)) .nil, fun p hp => .tail _ (.tail _ hp), ?_⟩
    exact ownOff2_cons (Nat.ne_of_lt l4.1) (Nat.ne_of_gt l3.1) (ownOff2_cons (Nat.ne_of_lt l4.2.2.1) (Nat.ne_of_lt l2.1) (ownOff2_lt (allLt_mem l4.2.2.2) (allLt_mem l2.2)))
  · exact fun _ h => nomatch h
  · refine ⟨rfl, ?_, by simp, by simp [stSize]⟩
    intro p hp
    rw [List.mem_singleton.mp hp]; exact hlt
  · rintro ⟨dv, ds, wv, st, c1, c2, own⟩ u hh tk' ⟨hf1, hf2, hf3, hf4⟩ ⟨hp1, hp2, hp3, hp4⟩ Fr' N'
    dsimp only at hf1 hf2 hf3 hf4 hp1 hp2 hp3 hp4 N'
    simp only [kstB, List.contains_cons, List.contains_nil] at Fr'
    have hMk9 := kstMark
    have hl9 := hf1.length
    have hl8 := hf2.length
    have hwd : da < wa := l4.2.1
    walk_at "gw to"
    rename Fr _ _ _ _ => F3
    rename News _ _ _ _ => N3
    rename_i nl _ m0
    refine gw_ne_nil (PySem.IsL.isList (N3 _ (.tail _ (.head _))).1) (PySem.IsL.isList (N3 _ (.head _)).1) (by ktr_units) ?_
    cases hf2 with
    | nil =>
      walk_at "gw to"
      rename Fr _ _ _ _ => F5
      rename News _ _ _ _ => N5
      refine hret _ _ _ F5 ⟨da, dv, c1, rfl, ?_, ?_, allLt_mem l2.2⟩
      · intro p hp
        rcases List.mem_cons.mp hp with rfl | hp
        · exact N5 _ (by simp)
        · exact N5 _ (by simp [hf3 p hp])
      · have e1 : ds = t.fill 0 (List.replicate n 0) := hp1
        rw [← e1]; exact hf1
    | snoc hm1 ht1 hst =>
      rename_i b1 v1 tk2 n1 wv1 t1 d1 st1
      have e1 : (!(wv1 ++ [Value.ref b1]).isEmpty) = true := by simp
      rw [e1]
      walk_at "gw to"
      rename Fr _ _ _ _ => F4
      rename News _ _ _ _ => N4
      have hz : stSize (st1 ++ [(t1, d1)]) = stSize st1 + t1.size := by simp [stSize]
      have hle : ∀ st : List (T × Nat), st.length ≤ stSize st := by
        intro st
        induction st with
        | nil => exact Nat.zero_le _
        | cons p st ih => have : 1 ≤ p.1.size := by cases p.1 <;> simp [T.size]
                          simp only [stSize, List.map_cons, List.sum_cons, List.length_cons] at *; omega
      have hl7 := hst.length
      have hle1 := hle st1
      have hsz1 : wv1.length < sizeLine := by rw [sizeLine_eq]; omega
      refine gw_pop F4 N4 (by k_upd) hsz1 ?_
      intro hq F5 N5
      walk_at "gw to"
      have hT : IsTup hq b1 #[v1, Value.int (d1 : Int) tk2] := News.isTup N5 (.tail _ (.tail _ (.tail _ hm1)))
      refine unpackN_ F5 N5 hT rfl rfl rfl ?_
      intro hr F6 N6
      cases ht1 with
      | leaf k tk3 =>
        have hkn : k < n := hp2 (.leaf k, d1) (by simp)
        walk_at "gw to"
        rename Fr _ _ _ _ => F7
        rename News _ _ _ _ => N7
        refine gw_set F7 N7 (by k_upd) (by omega) (by omega) (by omega) ?_
        intro hs F8 N8
        walk_at "gw to"
        rename Fr _ _ _ _ => F9
        rename News _ _ _ _ => N9
        refine ksw_end (dv.set (k : Int).toNat (Value.int (d1 : Int) tk2), ds.set (k : Int).toNat (d1 : Int), wv1, st1, _, _, own) F9 N9 (by first | kst_in | kst_inAny) ⟨ints_set hf1 _, hst, hf3, hf4⟩ (fun _ h => nomatch h) (by ksw_same) ⟨?_, ?_, ?_, ?_⟩ ?_
        · rw [← hp1]
          simp [fillS, T.fill]
        · intro p hp
          exact hp2 p (by simp [hp])
        · simpa using hp3
        · show stSize st1 ≤ t.size
          omega
        · show stSize st1 < stSize (st1 ++ _)
          rw [hz]; simp [T.size]
      | node hm2 hta htb =>
        rename_i a2 va vb na nb n2
        walk_at "gw to"
        rename News _ _ _ _ => N7
        refine PySem.IsiPair.isTuple_tuple (xs := #[va, vb]) ⟨_, (N7 _ (.tail _ (.tail _ (.tail _ hm2)))).1, rfl, n2, rfl⟩ (fun _ _ e => e) ?_
        walk_at "gw to"
        refine kim_tup (l := [va, vb]) (j := 0) N7 (.tail _ (.tail _ (.tail _ hm2))) rfl rfl (by decide) (by decide) rfl rfl ?_
        walk_at "gw to"
        rename News _ _ _ _ => N8
        refine kim_tup (l := [va, vb]) (j := 1) (lo := tupOf [va, vb] n2) N8 (.tail _ (.tail _ (.tail _ (.tail _ hm2)))) rfl rfl (by decide) (by decide) rfl rfl ?_
        walk_at "gw to"
        rename Fr _ _ _ _ => F9
        rename News _ _ _ _ => N9
        simp only [List.push_toArray] at N9
        rename_i tk5 D1 _ m1 _ _ D2 _ m2 h9
        have key : ∀ tA tB, News g0 L0 h9 ((D2, tupOf [vb, Value.int ((d1 + 1 : Nat) : Int) tA] 0) :: (D1, tupOf [va, Value.int ((d1 + 1 : Nat) : Int) tB] 0) :: (nl, listOf #[] 0) :: (wa, listOf ((wv1 ++ [Value.ref D1]) ++ [Value.ref D2]).toArray (c2 + 1 + 1 + 1)) :: (da, listOf dv.toArray c1) :: own) → ∃ own', (∀ p ∈ (wa, listOf ((wv1 ++ [Value.ref D1]) ++ [Value.ref D2]).toArray (c2 + 1 + 1 + 1)) :: (da, listOf dv.toArray c1) :: own', p ∈ ((D2, tupOf [vb, Value.int ((d1 + 1 : Nat) : Int) tA] 0) :: (D1, tupOf [va, Value.int ((d1 + 1 : Nat) : Int) tB] 0) :: (nl, listOf #[] 0) :: (wa, listOf ((wv1 ++ [Value.ref D1]) ++ [Value.ref D2]).toArray (c2 + 1 + 1 + 1)) :: (da, listOf dv.toArray c1) :: own)) ∧ StackIn own' ((wv1 ++ [Value.ref D1]) ++ [Value.ref D2]) ((st1 ++ [(na, d1 + 1)]) ++ [(nb, d1 + 1)]) ∧ (∀ p ∈ news, p ∈ own') ∧ OwnOff own' [wa, da] := by
          intro tA tB _
          refine ⟨(D2, tupOf [vb, Value.int ((d1 + 1 : Nat) : Int) tA] 0) :: (D1, tupOf [va, Value.int ((d1 + 1 : Nat) : Int) tB] 0) :: own, ?_, ?_, fun p hp => .tail _ (.tail _ (hf3 p hp)), ?_⟩
          · intro p hp
            simp only [List.mem_cons] at hp ⊢
            rcases hp with h | h | h | h | h
            · exact .inr (.inr (.inr (.inl h)))
            · exact .inr (.inr (.inr (.inr (.inl h))))
            · exact .inl h
            · exact .inr (.inl h)
            · exact .inr (.inr (.inr (.inr (.inr h))))
          · have up : ∀ p ∈ own, p ∈ (D2, tupOf [vb, Value.int ((d1 + 1 : Nat) : Int) tA] 0) :: (D1, tupOf [va, Value.int ((d1 + 1 : Nat) : Int) tB] 0) :: own := fun p hp => .tail _ (.tail _ hp)
            exact .snoc (.head _) (htb.mono up) (.snoc (.tail _ (.head _)) (hta.mono up) (hst.mono up))
          · exact ownOff2_cons (Nat.ne_of_gt m2.2.2.1) (Nat.ne_of_gt m2.2.2.2.1) (ownOff2_cons (Nat.ne_of_gt m1.2.1) (Nat.ne_of_gt m1.2.2.1) hf4)
        obtain ⟨own', k1, k2, k3, k4⟩ := key _ _ N9
        refine ksw_end (dv, ds, (wv1 ++ [Value.ref D1]) ++ [Value.ref D2], (st1 ++ [(na, d1 + 1)]) ++ [(nb, d1 + 1)], c1, c2 + 1 + 1 + 1, own') F9 N9 k1 ⟨hf1, k2, k3, k4⟩ (fun _ h => nomatch h) (by ksw_same) ⟨?_, ?_, hp3, ?_⟩ ?_
        · rw [← hp1]
          simp [fillS, T.fill]
        · intro p hp
          simp only [List.mem_append, List.mem_singleton] at hp
          have h8 := hp2 (.node na nb, d1) (by simp)
          rcases hp with (hp | rfl) | rfl
          · exact hp2 p (by simp [hp])
          · exact h8.1
          · exact h8.2
        · show stSize ((st1 ++ _) ++ _) ≤ t.size
          simp only [stSize, List.map_append, List.sum_append, List.map_cons, List.map_nil, List.sum_cons, List.sum_nil, T.size] at hp4 ⊢
          omega
        · show stSize ((st1 ++ _) ++ _) < stSize (st1 ++ _)
          simp only [stSize, List.map_append, List.sum_append, List.map_cons, List.map_nil, List.sum_cons, List.sum_nil, T.size]
          omega
end GW
namespace GW
set_option maxRecDepth 100000 in
set_option maxHeartbeats 8000000 in
theorem join_ok {w : World} {loose mean mg mb} (news : List (Addr × Obj)) (l : Addr) (vs : List Value) (ws : List Int) (c : Nat)
   (hi : IntsAre vs ws) :
   CallOk 2 w loose mean mg mb 51 ((l, listOf vs.toArray c) :: news) [.ref l] (0 < ws.length ∧ ws.length < 50 ∧ ∀ x ∈ ws, 0 < x) (fun h₀ L _ h' r => ∃ a b vs' c' k tk x t, r = .ref a ∧ News h₀ L h' ((a, tupOf [Value.int x tk, Value.ref b] k) :: (b, listOf vs'.toArray c') :: (l, listOf vs.toArray c) :: news) ∧
     Reach ws ((List.range ws.length).map T.leaf) [x] [t] ∧ IntsAre vs' (t.fill 0 (List.replicate ws.length 0)) ∧ (l < b ∧ AllLt b news) ∧ b < a) := by
  w_top off
  unfold CallOk
  k_fill
  intro dp un gd cn cs a ccd cl outer A₀ base h₀ L m s Q E B F X N T0 hk hpre hd hu hret
  obtain ⟨hlen0, hlen, hpos⟩ := hpre
  refine wpAny_call ?_
  k_dflt cell_enter
  rename_i g0 L0 _ FG0 _ _ B0 X0 T0
  walk_at "gw to"
  rename Fr _ _ _ _ => F1
  rename News _ _ _ _ => N1
  rename_i _ ha c01 _ l1 _ _ _ _ _ _ _ _ _ ta tv0 c02 _ _ iR l2 _
  refine ksw_while (σ := List Value × List Int × List Value × List T × Nat × Nat × List (Addr × Obj))
    (fun x => (ta, listOf x.2.2.1.toArray x.2.2.2.2.2.1) :: (ha, listOf x.1.toArray x.2.2.2.2.1) :: x.2.2.2.2.2.2) (fun _ => [])
    (fun x => IntsAre x.1 x.2.1 ∧ TreesIn x.2.2.2.2.2.2 x.2.2.1 x.2.2.2.1 ∧ (∀ p ∈ (l, listOf vs.toArray c) :: news, p ∈ x.2.2.2.2.2.2) ∧ OwnOff x.2.2.2.2.2.2 [ta, ha]) [Str.ofString "i", Str.ofString "joined", Str.ofString "tree", Str.ofString "j"]
    (fun x => Reach ws ((List.range ws.length).map T.leaf) x.2.1 x.2.2.2.1 ∧ x.2.1.length ≤ 50 ∧ x.2.2.2.1.length = x.2.1.length ∧ 0 < x.2.1.length) (fun x => x.2.1.length)
    (vs, ws, tv0, (List.range ws.length).map T.leaf, c01, c02, (l, listOf vs.toArray c) :: news) F1 N1 ?_ ?_ ?_ ?_
  · exact ⟨hi, treesIn_range iR, fun _ h => h, ownOff2_cons (Nat.ne_of_lt l2.2.1) (Nat.ne_of_lt l1.1) (ownOff2_lt (allLt_mem l2.2.2) (allLt_mem l1.2))⟩
  · exact fun _ h => nomatch h
  · exact ⟨.refl, by show ws.length ≤ 50; omega, by simp, hlen0⟩
  · rintro ⟨hv, H, tv, TS, c1, c2, own⟩ u hh tk' ⟨hf1, hf2, hf3, hf4⟩ ⟨hp1, hp2, hp3, hp4⟩ Fr' N'
    dsimp only at hf1 hf2 hf3 hf4 hp1 hp2 hp3 hp4 N'
    simp only [kstB, List.contains_cons, List.contains_nil] at Fr'
    have hMk9 := kstMark
    have hl9 := hf1.length
    have hl8 := hf2.length
    have hth : ha < ta := l2.1
    by_cases h2 : 2 ≤ H.length
    · walk_at "gw to"
      rename Fr _ _ _ _ => F2
      rename News _ _ _ _ => N2
      refine wpAny_mono (Q := AfterI F2 s ((ta, listOf tv.toArray c2) :: (ha, listOf hv.toArray c1) :: own) (Str.ofString "i")
          (fun i => 1 ≤ i ∧ i < H.length ∧ (∀ k : Nat, 1 ≤ k → (k : Int) < i → H.getD (k + 1) 0 < H.getD (k - 1) 0) ∧ (i + 1 < H.length → H.getD (i - 1).toNat 0 ≤ H.getD (i + 1).toNat 0))) ?_ ?_ (fun _ _ h => h)
      · refine ksw_while (σ := Int × Tok) (fun _ => (ta, listOf tv.toArray c2) :: (ha, listOf hv.toArray c1) :: own) (fun x => [(Str.ofString "i", Value.int x.1 x.2)])
          (fun _ => True) [Str.ofString "i"] (fun x => 1 ≤ x.1 ∧ x.1 < H.length ∧ ∀ k : Nat, 1 ≤ k → (k : Int) < x.1 → H.getD (k + 1) 0 < H.getD (k - 1) 0) (fun x => (H.length - x.1).toNat)
          (1, _) F2 N2 trivial (by intro p hp; rw [List.mem_singleton.mp hp]; rfl) ?_ ?_
        · refine ⟨Int.le_refl _, by show (1 : Int) < _; omega, fun k h1 h3 => ?_⟩
          dsimp only at h3
          omega
        · rintro ⟨i, ti⟩ u2 hh2 tk2 - ⟨q1, q2, q3⟩ Fr2 N3
          dsimp only at q1 q2 q3 N3
          simp only [kstB, List.contains_cons, List.contains_nil] at Fr2
          walk_at "gw to"
          · rename News _ _ _ _ => N4
            refine ksa_sub N4 (.tail _ (.head _)) hf1 (by omega) (by omega) (by omega) (fun t => ?_)
            walk_at "gw to"
            rename News _ _ _ _ => N5
            refine ksa_sub N5 (.tail _ (.head _)) hf1 (by omega) (by omega) (by omega) (fun t => ?_)
            walk_at "gw to"
            walk_at "gw call"
            walk_at "gw to"
            · rename Fr _ _ _ _ => F4
              rename News _ _ _ _ => N4
              exact ⟨rfl, i, ti, _, _, rfl, fr_if F4 rfl (by intro z hz; simp [hz]), N4, q1, q2, q3, fun _ => by assumption⟩
            · rename Fr _ _ _ _ => F4
              rename News _ _ _ _ => N4
              refine ksw_end (i + 1, _) F4 N4 (fun _ h => h) trivial (by intro p hp; rw [List.mem_singleton.mp hp]; rfl) (by ksw_same) ⟨?_, ?_, ?_⟩ ?_
              · show 1 ≤ i + 1; omega
              · show i + 1 < H.length; omega
              · intro k h1 h3
                have h3 : (k : Int) < i + 1 := h3
                rcases Int.lt_or_eq_of_le (show (k : Int) ≤ i by omega) with h4 | h4
                · exact q3 k h1 h4
                · subst h4
                  have e1 : ((k : Int) + 1).toNat = k + 1 := by omega
                  have e2 : ((k : Int) - 1).toNat = k - 1 := by omega
                  rw [← e1, ← e2]
                  omega
              · show (H.length - (i + 1)).toNat < (H.length - i).toNat; omega
          · rename Fr _ _ _ _ => F4
            rename News _ _ _ _ => N4
            exact ⟨rfl, i, ti, _, _, rfl, fr_if F4 rfl (by intro z hz; simp [hz]), N4, q1, q2, q3, fun h => by omega⟩
      · rintro f s2 ⟨rfl, i, ti, h, tk, rfl, F3, N3, q1, q2, q3, q4⟩
        clear F2
        obtain ⟨v1, t1, hv1, ht1, hti1⟩ := hf2.get (k := (i - 1).toNat) (by omega)
        obtain ⟨v2, t2, hv2, ht2, hti2⟩ := hf2.get (k := i.toNat) (by omega)
        dsimp only
        walk_at "gw to"
        refine ksa_sub N3 (.tail _ (.head _)) hf1 (by omega) (by omega) (by omega) (fun _ => ?_)
        walk_at "gw to"
        refine ksa_sub N3 (.tail _ (.head _)) hf1 (by omega) (by omega) (by omega) (fun _ => ?_)
        walk_at "gw to"
        walk_at "gw call"
        walk_at "gw to"
        rename News _ _ _ _ => N4
        refine gw_get N4 (.head _) (by omega) (by omega) hv1 ?_
        walk_at "gw to"
        refine gw_get N4 (.head _) (by omega) (by omega) hv2 ?_
        walk_at "gw to"
        rename_i tkj _ _ _ _ D1 _ m1 _ _ _
        have hs1 : hv.length ≤ sizeLine := by rw [sizeLine_eq]; omega
        have hs2 : tv.length ≤ sizeLine := by rw [sizeLine_eq]; omega
        have lh1 : (hv.eraseIdx i.toNat).length = hv.length - 1 := List.length_eraseIdx_of_lt (by omega)
        have lt1 : (tv.eraseIdx i.toNat).length = tv.length - 1 := List.length_eraseIdx_of_lt (by omega)
        walk_at "gw call"
        walk_at "gw to"
        rename Fr _ _ _ _ => F5
        rename News _ _ _ _ => N5
        refine gw_del F5 N5 (by k_upd) (by omega) (by omega) hs1 ?_
        intro hq F6 N6
        walk_at "gw to"
        walk_at "gw call"
        walk_at "gw to"
        rename Fr _ _ _ _ => F7
        rename News _ _ _ _ => N7
        refine gw_del F7 N7 (by k_upd) (by omega) (by omega) (by omega) ?_
        intro hq2 F8 N8
        walk_at "gw to"
        walk_at "gw call"
        walk_at "gw to"
        rename Fr _ _ _ _ => F9
        rename News _ _ _ _ => N9
        refine gw_del F9 N9 (by k_upd) (by omega) (by omega) hs2 ?_
        intro hq3 F10 N10
        walk_at "gw to"
        walk_at "gw call"
        walk_at "gw to"
        rename Fr _ _ _ _ => F11
        rename News _ _ _ _ => N11
        refine gw_del F11 N11 (by k_upd) (by omega) (by omega) (by omega) ?_
        intro hq4 F12 N12
        walk_at "gw to"
        rename Fr _ _ _ _ => F13
        rename News _ _ _ _ => N13
        have hf1' := ints_erase (ints_erase hf1 i.toNat) (i - 1).toNat
        have hf2' := TreesIn.erase (TreesIn.erase hf2 i.toNat) (i - 1).toNat
        have lh2 : ((hv.eraseIdx i.toNat).eraseIdx (i - 1).toNat).length = hv.length - 2 := by rw [List.length_eraseIdx_of_lt (by omega)]; omega
        have lt2 : ((tv.eraseIdx i.toNat).eraseIdx (i - 1).toNat).length = tv.length - 2 := by rw [List.length_eraseIdx_of_lt (by omega)]; omega
        have lH2 : ((H.eraseIdx i.toNat).eraseIdx (i - 1).toNat).length = H.length - 2 := by rw [← hf1'.length]; omega
        refine wpAny_mono (Q := AfterI F13 s ((D1, tupOf [v1, v2] 0) :: (ta, listOf ((tv.eraseIdx i.toNat).eraseIdx (i - 1).toNat).toArray (c2 + 1 + 1)) :: (ha, listOf ((hv.eraseIdx i.toNat).eraseIdx (i - 1).toNat).toArray (c1 + 1 + 1)) :: own) (Str.ofString "j")
          (fun j => -1 ≤ j ∧ j ≤ i - 2 ∧ (∀ k : Nat, j < k → (k : Int) ≤ i - 2 → ((H.eraseIdx i.toNat).eraseIdx (i - 1).toNat).getD k 0 < H.getD (i - 1).toNat 0 + H.getD i.toNat 0) ∧
            (0 ≤ j → H.getD (i - 1).toNat 0 + H.getD i.toNat 0 ≤ ((H.eraseIdx i.toNat).eraseIdx (i - 1).toNat).getD j.toNat 0))) ?_ ?_ (fun _ _ h => h)
        · refine ksw_while (σ := Int × Tok) (fun _ => (D1, tupOf [v1, v2] 0) :: (ta, listOf ((tv.eraseIdx i.toNat).eraseIdx (i - 1).toNat).toArray (c2 + 1 + 1)) :: (ha, listOf ((hv.eraseIdx i.toNat).eraseIdx (i - 1).toNat).toArray (c1 + 1 + 1)) :: own) (fun x => [(Str.ofString "j", Value.int x.1 x.2)])
            (fun _ => True) [Str.ofString "j"] (fun x => -1 ≤ x.1 ∧ x.1 ≤ i - 2 ∧ (∀ k : Nat, x.1 < k → (k : Int) ≤ i - 2 → ((H.eraseIdx i.toNat).eraseIdx (i - 1).toNat).getD k 0 < H.getD (i - 1).toNat 0 + H.getD i.toNat 0)) (fun x => (x.1 + 1).toNat)
            (i - 2, _) F13 N13 trivial (by intro p hp; rw [List.mem_singleton.mp hp]; rfl) ?_ ?_
          · exact ⟨by show -1 ≤ i - 2; omega, Int.le_refl _, fun k h1 h3 => by have h1 : i - 2 < k := h1; omega⟩
          · rintro ⟨j, tj⟩ u2 hh2 tk2 - ⟨r1, r2, r3⟩ Fr2 N14
            dsimp only at r1 r2 r3 N14
            simp only [kstB, List.contains_cons, List.contains_nil] at Fr2
            walk_at "gw to"
            · rename News _ _ _ _ => N15
              refine ksa_sub N15 (.tail _ (.tail _ (.head _))) hf1' (by omega) (by omega) (by omega) (fun t => ?_)
              walk_at "gw to"
              walk_at "gw call"
              walk_at "gw to"
              · rename Fr _ _ _ _ => F16
                rename News _ _ _ _ => N16
                exact ⟨rfl, j, tj, _, _, rfl, fr_if F16 rfl (by intro z hz; simp [hz]), N16, r1, r2, r3, fun _ => by assumption⟩
              · rename Fr _ _ _ _ => F16
                rename News _ _ _ _ => N16
                refine ksw_end (j - 1, _) F16 N16 (fun _ h => h) trivial (by intro p hp; rw [List.mem_singleton.mp hp]; rfl) (by ksw_same) ⟨?_, ?_, ?_⟩ ?_
                · show -1 ≤ j - 1; omega
                · show j - 1 ≤ i - 2; omega
                · intro k h1 h3
                  have h1 : j - 1 < (k : Int) := h1
                  rcases Int.lt_or_eq_of_le (show j ≤ (k : Int) by omega) with h4 | h4
                  · exact r3 k h4 h3
                  · have e1 : j.toNat = k := by omega
                    rw [← e1]
                    omega
                · show (j - 1 + 1).toNat < (j + 1).toNat; omega
            · rename Fr _ _ _ _ => F16
              rename News _ _ _ _ => N16
              exact ⟨rfl, j, tj, _, _, rfl, fr_if F16 rfl (by intro z hz; simp [hz]), N16, r1, r2, r3, fun h => by omega⟩
        · rintro f s2 ⟨rfl, j, tj, h, tk, rfl, F15, N14, r1, r2, r3, r4⟩
          clear F13
          dsimp only
          walk_at "gw to"
          refine gw_ins F15 N14 (by k_upd) (by omega) (by omega) (by omega) ?_
          intro hq5 F16 N16
          walk_at "gw to"
          refine gw_ins F16 N16 (by k_upd) (by omega) (by omega) (by omega) ?_
          intro hq6 F17 N17
          walk_at "gw to"
          rename Fr _ _ _ _ => F18
          rename News _ _ _ _ => N18
          have ei : i.toNat - 1 = (i - 1).toNat := by omega
          have g := gstep_of (H := H) (TS := TS) (i := i.toNat) (j := (j + 1).toNat) (x := H.getD (i - 1).toNat 0) (y := H.getD i.toNat 0) (tx := t1) (ty := t2) hp3 (by omega) (by omega) (by omega) (by rw [ei]) rfl (by rw [ei]; exact ht1) ht2
            (fun k h1 h3 => q3 k h1 (by omega)) (fun h => by have h5 := q4 (by omega); rw [ei, show i.toNat + 1 = (i + 1).toNat by omega]; exact h5)
            (fun k h1 h3 => by rw [ei]; exact r3 k (by omega) (by omega)) (fun h => by rw [ei, show (j + 1).toNat - 1 = j.toNat by omega]; exact r4 (by omega))
          rw [ei] at g
          have lH3 : (((H.eraseIdx i.toNat).eraseIdx (i - 1).toNat).take (j + 1).toNat ++ (H.getD (i - 1).toNat 0 + H.getD i.toNat 0) :: ((H.eraseIdx i.toNat).eraseIdx (i - 1).toNat).drop (j + 1).toNat).length = H.length - 1 := by
            have := gstep_len g
            omega
          have lT3 := gstep_lenT g hp3
          refine ksw_end (((hv.eraseIdx i.toNat).eraseIdx (i - 1).toNat).take (j + 1).toNat ++ Value.int (H.getD (i - 1).toNat 0 + H.getD i.toNat 0) tkj :: ((hv.eraseIdx i.toNat).eraseIdx (i - 1).toNat).drop (j + 1).toNat, ((H.eraseIdx i.toNat).eraseIdx (i - 1).toNat).take (j + 1).toNat ++ (H.getD (i - 1).toNat 0 + H.getD i.toNat 0) :: ((H.eraseIdx i.toNat).eraseIdx (i - 1).toNat).drop (j + 1).toNat, ((tv.eraseIdx i.toNat).eraseIdx (i - 1).toNat).take (j + 1).toNat ++ Value.ref D1 :: ((tv.eraseIdx i.toNat).eraseIdx (i - 1).toNat).drop (j + 1).toNat, ((TS.eraseIdx i.toNat).eraseIdx (i - 1).toNat).take (j + 1).toNat ++ T.node t1 t2 :: ((TS.eraseIdx i.toNat).eraseIdx (i - 1).toNat).drop (j + 1).toNat, c1 + 1 + 1 + 1, c2 + 1 + 1 + 1, (D1, tupOf [v1, v2] 0) :: own) F18 N18 (by first | kst_in | kst_inAny) ⟨ints_ins hf1' _, TreesIn.ins (.node (.head _) (hti1.mono fun _ h => .tail _ h) (hti2.mono fun _ h => .tail _ h)) (hf2'.mono fun _ h => .tail _ h) _, fun p hp => .tail _ (hf3 p hp), ownOff2_cons (Nat.ne_of_gt m1.1) (Nat.ne_of_gt m1.2.1) hf4⟩ (fun _ h => nomatch h) (by ksw_same) ⟨.tail hp1 g, ?_, ?_, ?_⟩ ?_
          · show List.length (_ ++ _) ≤ 50; rw [lH3]; omega
          · exact lT3
          · show 0 < List.length (_ ++ _); rw [lH3]; omega
          · show List.length (_ ++ _) < H.length; rw [lH3]; omega
    · obtain ⟨x, tx, rfl, rfl⟩ := ints_one hf1 (by omega)
      obtain ⟨tv0, t, rfl, rfl, hti⟩ := trees_one hf2 (by omega)
      walk_at "gw to"
      rename News _ _ _ _ => N3
      refine gw_get N3 (.tail _ (.head _)) (by decide) (by decide) rfl ?_
      walk_at "gw to"
      rename News _ _ _ _ => N4
      refine gw_get N4 (.head _) (by decide) (by decide) rfl ?_
      walk_at "gw to"
      refine kst_len N4 (.tail _ (.tail _ (hf3 _ (.head _)))) hi.length (by omega) ?_
      walk_at "gw to"
      rename Fr _ _ _ _ => F5
      have hlt := T.lt_of t 0 (joined hpos hp1).2.1
      have hsz : t.size < 300 := by
        have h8 := T.size_ld t 0
        rw [joined_len hpos hp1] at h8
        omega
      k_dflt (refine' depths_ok (w := w) (loose := loose) (mean := mean) (mg := mg) (mb := mb) _ tv0 t ws.length _ (hti.mono (news' := (ta, listOf [tv0].toArray c2) :: (ha, listOf [Value.int x tx].toArray c1) :: own) fun p hp => .tail _ (.tail _ hp)) _ _ _ _ _ _ _ _ _ _ _ _ _ _ _ _ _ B0 F5 X0 N4 T0 rfl ⟨hlt, by omega, hsz⟩ ?_ ?_ ?_)
      · ktr_room
      · ktr_units
      · rintro r h' tk' F6 ⟨da, vs', c', rfl, N6, i6, l6⟩
        walk_at "gw to"
        rename Fr _ _ _ _ => F7
        rename News _ _ _ _ => N7
        rename_i ra _ _ _ l7 _ _
        refine hret _ _ _ F7 ⟨ra, da, vs', c', 0, tx, x, t, rfl, ?_, hp1, i6, ⟨?_, ?_⟩, l7.1⟩
        · intro p hp
          rcases List.mem_cons.mp hp with rfl | hp
          · exact N7 _ (.head _)
          · rcases List.mem_cons.mp hp with rfl | hp
            · exact N7 _ (.tail _ (.head _))
            · exact N7 _ (.tail _ (.tail _ (.tail _ (.tail _ (hf3 p hp)))))
        · exact l6 (l, listOf vs.toArray c) (.tail _ (.tail _ (hf3 _ (.head _))))
        · exact allLt_of fun p hp => l6 p (.tail _ (.tail _ (hf3 p (.tail _ hp))))
end GW
namespace GW
/-- the table's rows on the ledger; ys: the outer list's items -/
inductive RowsAt : List (Addr × Obj) → List Value → List (List Int) → Prop where
  | nil : RowsAt [] [] []
  | snoc {a : Addr} {vs : List Value} {row : List Int} {c : Nat} {es : List (Addr × Obj)} {ys : List Value} {rows : List (List Int)} :
      IntsAre vs row → RowsAt es ys rows → (∀ p ∈ es, p.1 ≠ a) → RowsAt ((a, listOf vs.toArray c) :: es) (ys ++ [.ref a]) (rows ++ [row])
theorem RowsAt.length {es : List (Addr × Obj)} {ys : List Value} {rows : List (List Int)} (h : RowsAt es ys rows) : ys.length = rows.length := by
  induction h with
  | nil => rfl
  | snoc _ _ _ ih => simp [ih]

theorem RowsAt.get {es : List (Addr × Obj)} {ys : List Value} {rows : List (List Int)} (h : RowsAt es ys rows) : ∀ {i : Nat}, i < rows.length →
    ∃ a vs c, ys[i]? = some (Value.ref a) ∧ (a, listOf vs.toArray c) ∈ es ∧ IntsAre vs (rows.getD i []) ∧
      ∀ vs' row' c', IntsAre vs' row' → ∃ es', Upd a (listOf vs.toArray c) (listOf vs'.toArray c') es es' ∧ RowsAt es' ys (rows.set i row') ∧ es'.map (·.1) = es.map (·.1) := by
  induction h with
  | nil => intro i hi; exact absurd hi (Nat.not_lt_zero _)
  | @snoc a vs row c es ys rows hv hr hne ih =>
    intro i hi
    have hl := hr.length
    by_cases he : i = rows.length
    · subst he
      refine ⟨a, vs, c, by rw [← hl]; simp, .head _, by simpa [List.getD_eq_getElem?_getD] using hv, fun vs' row' c' hv' => ⟨_, Upd.head hne, ?_, rfl⟩⟩
      have e : (rows ++ [row]).set rows.length row' = rows ++ [row'] := by simp
      rw [e]
      exact .snoc hv' hr hne
    · have hi' : i < rows.length := by simp at hi; omega
      obtain ⟨b, us, d, h1, h2, h3, h4⟩ := ih hi'
      refine ⟨b, us, d, ?_, .tail _ h2, ?_, fun vs' row' c' hv' => ?_⟩
      · rw [List.getElem?_append_left (by omega)]; exact h1
      · rw [List.getD_eq_getElem?_getD, List.getElem?_append_left hi', ← List.getD_eq_getElem?_getD]; exact h3
      · obtain ⟨es', u1, u2, u3⟩ := h4 vs' row' c' hv'
        have e : (rows ++ [row]).set i row' = rows.set i row' ++ [row] := by rw [List.set_append_left i row' hi']
        refine ⟨_, Upd.tail (fun q => hne (b, _) h2 q.symm) u1, ?_, by simp [u3]⟩
        rw [e]
        refine .snoc hv u2 fun p hp => ?_
        have hp' : p.1 ∈ es'.map (·.1) := List.mem_map_of_mem hp
        rw [u3] at hp'
        obtain ⟨q, hq, e2⟩ := List.mem_map.mp hp'
        rw [← e2]
        exact hne q hq

theorem upd_app {a : Addr} {o o' : Obj} {es es' r : List (Addr × Obj)} (u : Upd a o o' es es') (hr : ∀ p ∈ r, p.1 ≠ a) : Upd a o o' (es ++ r) (es' ++ r) := by
  induction u with
  | head h => exact Upd.head fun p hp => (List.mem_append.mp hp).elim (h p) (hr p)
  | tail h _ ih => exact Upd.tail h ih
theorem upd_pre {a : Addr} {o o' : Obj} {es es' : List (Addr × Obj)} : ∀ {r : List (Addr × Obj)}, (∀ p ∈ r, p.1 ≠ a) → Upd a o o' es es' → Upd a o o' (r ++ es) (r ++ es')
  | [], _, u => u
  | q :: r, h, u => Upd.tail (h q (.head _)) (upd_pre (fun p hp => h p (.tail _ hp)) u)

section
variable {prog : Program} {w : World} {A : Around} {h₀ : Heap} {L : Addr} {m : Str → Option Value} {env : Env} {elt : Expr} {x : Str} {scope : Scope} {cl : List (Str × Addr)} {s : Shared} {S : List (Addr × Obj) → Prop} {Fin : List Value → List (Addr × Obj) → Prop}
theorem rows_rest {n len : Nat} {a0 : Int} (b0 news : List (Addr × Obj)) (lo : Addr)
    (turn : ∀ k t I oI C oC D m₂ ys es h tk (E' : Value → Shared → Prop), LCg.NsObj oC m₂ → m₂ x = some (.int k t) → Fr h₀ L h m → News h₀ L h ((I, oI) :: (C, oC) :: (D, LCg.lst ys) :: (b0 ++ (news ++ es))) → LCg.Off3 I C D (b0 ++ (news ++ es)) → ((@Ne Nat I C) ∧ (@Ne Nat I D) ∧ (@Ne Nat C D)) →
      wpAny (model prog w) A (eval elt (compEnvC scope cl C env)) (LCg.CompEnd h₀ L m { s with heap := h, toks := tk } I oI C oC D (LCg.lst ys) S
        (fun y news' => ∃ a vs c, y = Value.ref a ∧ news' = b0 ++ (news ++ ((a, listOf vs.toArray c) :: es)) ∧ IntsAre vs (List.replicate len 0) ∧ lo < a ∧ (∀ p ∈ es, p.1 ≠ a) ∧ (∀ p ∈ news, p.1 ≠ a))) E' { s with heap := h, toks := tk })
    (fin : ∀ ys es, RowsAt es ys (List.replicate n (List.replicate len 0)) → (∀ p ∈ es, lo < p.1 ∧ ∀ q ∈ news, q.1 ≠ p.1) → Fin ys (b0 ++ (news ++ es))) :
    LCg.CompRest prog w A h₀ L m env elt x scope cl s S (fun i v => ∃ t, v = .int (a0 + (i : Int)) t) Fin n 0 [] (b0 ++ (news ++ [])) := by
  have key : ∀ (j i : Nat) (ys : List Value) (es : List (Addr × Obj)), i + j = n → RowsAt es ys (List.replicate i (List.replicate len 0)) → (∀ p ∈ es, lo < p.1 ∧ ∀ q ∈ news, q.1 ≠ p.1) →
      LCg.CompRest prog w A h₀ L m env elt x scope cl s S (fun i v => ∃ t, v = .int (a0 + (i : Int)) t) Fin j i ys (b0 ++ (news ++ es)) := by
    intro j
    induction j with
    | zero =>
      intro i ys es hi hr ho
      have : i = n := by omega
      subst this
      exact LCg.CompRest.zero (fin ys es hr ho)
    | succ j ih =>
      intro i ys es hi hr ho
      refine LCg.CompRest.succ ?_
      rintro v I oI C oC D m₂ h tk E' ⟨t, rfl⟩ hC hx F N off ne
      refine wpAny_mono (turn _ t I oI C oC D m₂ ys es h tk E' hC hx F N off ne) (fun y s₂ hq => ?_) fun _ _ e => e
      obtain ⟨h', tk', nw, e, F', N', off', hS, a, vs, c, rfl, rfl, hv, hlo, h1, h2⟩ := hq
      refine ⟨h', tk', _, e, F', N', off', hS, ih (i + 1) _ _ (by omega) ?_ ?_⟩
      · rw [List.replicate_succ']
        exact .snoc hv hr h1
      · intro p hp
        rcases List.mem_cons.mp hp with rfl | hp
        · exact ⟨hlo, h2⟩
        · exact ho p hp
  exact key n 0 [] [] (by omega) .nil (fun _ h => nomatch h)
end
end GW
namespace GW
/-- a turn's end, of a loop over a range whose target may be a cell -/
structure TEnd {σ : Type} (h₀ : Heap) (L : Addr) (Led : σ → List (Addr × Obj)) (ps : σ → List (Str × Value)) (Facts : σ → Prop) (stored : List Str) (m₀ : Str → Option Value) (P : σ → Prop) (own : List (Addr × Obj)) (adr : List Addr) (s₁ : Shared) (f : Flow) (s₂ : Shared) : Prop where
  ex : f = Flow.next ∧ ∃ (c : σ) (h' : Heap) (tk : Nat) (m' : Str → Option Value) (news' : List (Addr × Obj)), s₂ = { s₁ with heap := h', toks := tk } ∧ Fr h₀ L h' m' ∧ News h₀ L h' news' ∧ (∀ p ∈ Led c, p ∈ news') ∧ (∀ p ∈ own, p ∈ news') ∧
    (Led c).map (·.1) = adr ∧ Facts c ∧ (∀ p ∈ ps c, m' p.1 = some p.2) ∧ (∀ z, (∀ p ∈ ps c, z ≠ p.1) → stored.contains z = false → m' z = m₀ z) ∧ P c

section
variable {prog : Program} {w : World} {A : Around} {E : Value → Shared → Prop} {s : Shared} {env : Env} {h₀ : Heap} {body : List Stmt} {Q : Flow → Shared → Prop}
theorem for_rangeT {σ : Type} {r : Addr} {a₀ b₀ : Int} {t₀ u₀ v₀ : Tok} {n : Nat} {m₀ : Str → Option Value} {target : Expr} (Led : σ → List (Addr × Obj)) (ps : σ → List (Str × Value)) (Facts : σ → Prop) (stored : List Str) (P : Nat → σ → Prop) (c₀ : σ)
    (hh : A.handled = none) (hr : IsRange s.heap r a₀ b₀ 1 t₀ u₀ v₀) (hsmall : Builtin.Range.small a₀ b₀ 1 = true) (hn : Builtin.Range.rangeSize a₀ b₀ 1 = (n : Int)) (F : Fr h₀ env.locals s.heap m₀) (N : News h₀ env.locals s.heap (Led c₀)) (hf : Facts c₀) (hk : ∀ p ∈ ps c₀, m₀ p.1 = some p.2) (hp : P 0 c₀)
    (hgo : ∀ I v, letOwnedTupleGo target (.ref I) v = pure ())
    (turn : ∀ (c : σ) (i : Nat) t (u : Str → Option Value) (s₁ : Shared) own, i < n → OwnOff own ((Led c₀).map (·.1)) → Facts c → P i c → (Led c).map (·.1) = (Led c₀).map (·.1) → Fr h₀ env.locals s₁.heap (kstB (fun z => if stored.contains z then u z else m₀ z) (ps c)) → News h₀ env.locals s₁.heap (Led c ++ own) →
      wpAny (model prog w) A (assign target env (.int (a₀ + (i : Int)) t)) (fun _ s₃ => wpAny (model prog w) A (execs body env) (TEnd h₀ env.locals Led ps Facts stored m₀ (P (i + 1)) own ((Led c₀).map (·.1)) s₁) E s₃) E s₁)
    (done : ∀ (c : σ) (u : Str → Option Value) h tk, Facts c → P n c → Fr h₀ env.locals h (kstB (fun z => if stored.contains z then u z else m₀ z) (ps c)) → News h₀ env.locals h (Led c) → Q .next { s with heap := h, toks := tk }) :
    wpAny (model prog w) A (pyIter (.ref r)) (fun it s₂ => LoopAtT prog w A h₀ env target body Q E it s₂) E s := by
  refine wpAny_pyIter_range hr hsmall ?_
  have W : Walks prog w A s.heap.objs.size [s.heap.objs.size] [s.heap.objs.size] n (fun i v => i < n ∧ ∃ t, v = .int (a₀ + i * 1) t)
      (fun i h => IsRangeIter h s.heap.objs.size (a₀ + (i : Nat) * 1) ((n : Int) - (i : Nat)) 1) := (Walks.range hh _ a₀ 1 n).bound
  refine ⟨s.heap.objs.size, _, _, n, _, _, m₀, Led c₀, (fun i m nx => ∃ c : σ, nx = Led c ∧ (Led c).map (·.1) = (Led c₀).map (·.1) ∧ Facts c ∧ (∀ p ∈ ps c, m p.1 = some p.2) ∧ (∀ z, (∀ p ∈ ps c, z ≠ p.1) → stored.contains z = false → m z = m₀ z) ∧ P i c), rfl, W, ?_, ?_, ?_,
    (by show IsRangeIter _ _ _ _ _; rw [hn]; simpa using Heap.get?_push_size _ rfl), F.push _, (fun p hp => ⟨Heap.get?_push_of_some _ (N p hp).1, (N p hp).2⟩), ?_, ⟨c₀, rfl, rfl, hf, hk, fun _ _ _ => rfl, hp⟩, ?_, ?_⟩
  · intro hm
    exact absurd F.ns.lt ((List.mem_singleton.mp hm) ▸ Nat.lt_irrefl _)
  · intro b hb
    rw [List.mem_singleton.mp hb]
    exact next_is_new F
  · intro p hp hI
    exact absurd (Heap.lt_size (N p hp).1) ((List.mem_singleton.mp hI) ▸ Nat.lt_irrefl _)
  · intro i s' v Q' _ hq
    rw [hgo]
    exact wpAny_pure hq
  · rintro i v m₁ news₁ s₁ own hi ⟨_, t, rfl⟩ ⟨c, rfl, hadr, hf', h1, h2, hp'⟩ hoff hown _ _ _ F₁ N₁
    have hsep : OwnOff own ((Led c₀).map (·.1)) := by
      intro p hp b hb e
      rw [← hadr] at hb
      obtain ⟨q, hq, rfl⟩ := List.mem_map.mp hb
      exact hoff q hq (e ▸ hown p hp)
    have e1 : a₀ + (i : Int) * 1 = a₀ + (i : Int) := by omega
    rw [e1]
    have N₂ : News h₀ env.locals s₁.heap (Led c ++ own) := fun p hp => N₁ p (List.mem_append.mpr ((List.mem_append.mp hp).symm))
    refine wpAny_mono (turn c i t m₁ s₁ own hi hsep hf' hp' hadr (ksw_fr h1 h2 F₁) N₂) (fun _ s₃ q => wpAny_mono q (fun f s₂ p => ?_) fun _ _ e => e) fun _ _ e => e
    obtain ⟨rfl, c', h', tk, m', news', rfl, F', N', hn', ho', ha', hf9, hk9, hr9, hp9⟩ := p
    refine ⟨rfl, h', tk, m', Led c', rfl, F', fun p hp => N' p ((List.mem_append.mp hp).elim (ho' p) (hn' p)), fun p hp hq => ?_, c', rfl, ha', hf9, hk9, hr9, hp9⟩
    have h3 : p.1 ∈ (Led c').map (·.1) := List.mem_map.mpr ⟨p, hp, rfl⟩
    rw [ha', ← hadr] at h3
    obtain ⟨q, hq1, hq2⟩ := List.mem_map.mp h3
    exact hoff q hq1 (by rw [hq2]; exact hq)
  · rintro h' tk m' news' F' N' _ ⟨c, rfl, _, hf', h1, h2, hp'⟩
    exact done c m' h' tk hf' hp' (ksw_fr h1 h2 F') N'
end
end GW

namespace GW
theorem off1_mem {D : Addr} : ∀ {l : List (Addr × Obj)}, LCg.Off1 D l → ∀ p ∈ l, p.1 ≠ D
  | [], _, _, h => nomatch h
  | _ :: _, x, p, h => by
    rcases List.mem_cons.mp h with rfl | h
    · exact x.1
    · exact off1_mem x.2 p h
theorem ownOff_addr {es es' : List (Addr × Obj)} {adr : List Addr} (e : es'.map (·.1) = es.map (·.1)) (h : OwnOff es adr) : OwnOff es' adr := by
  intro p hp b hb
  have h1 : p.1 ∈ es'.map (·.1) := List.mem_map_of_mem hp
  rw [e] at h1
  obtain ⟨q, hq, e2⟩ := List.mem_map.mp h1
  rw [← e2]
  exact h q hq b hb
theorem ownOff_app {a b : List (Addr × Obj)} {adr : List Addr} (h1 : OwnOff a adr) (h2 : OwnOff b adr) : OwnOff (a ++ b) adr := fun p hp => (List.mem_append.mp hp).elim (h1 p) (h2 p)
end GW
/-! The table of stretches. -/
namespace GW
def slc (ws : List Int) (i m : Nat) : List Int := (ws.drop i).take m
def cell (rows : List (List Int)) (i j : Nat) : Int := (rows.getD i []).getD j 0

structure TabOk (ws : List Int) (rows : List (List Int)) (len i0 : Nat) : Prop where
  n : rows.length = ws.length
  each : ∀ i, i < ws.length → (rows.getD i []).length = ws.length
  lt : ∀ i m, 1 ≤ m → m < len → i + m ≤ ws.length → IsMin (slc ws i m) (cell rows i (i + m - 1))
  eq : ∀ i, i < i0 → i + len ≤ ws.length → IsMin (slc ws i len) (cell rows i (i + len - 1))

theorem tab_init (ws : List Int) : TabOk ws (List.replicate ws.length (List.replicate ws.length 0)) 2 0 := by
  refine ⟨by simp, fun i hi => ?_, fun i m h1 h2 h3 => ?_, fun i hi => absurd hi (Nat.not_lt_zero _)⟩
  · simp [List.getD_eq_getElem?_getD, hi]
  · have : m = 1 := by omega
    subst this
    have hi : i < ws.length := by omega
    have e1 : slc ws i 1 = [ws[i]] := by
      unfold slc
      rw [List.drop_eq_getElem_cons hi]
      rfl
    have e2 : cell (List.replicate ws.length (List.replicate ws.length 0)) i (i + 1 - 1) = 0 := by
      simp [cell, List.getD_eq_getElem?_getD, hi]
    rw [e1, e2]
    exact isMin_one _

theorem tab_next {ws : List Int} {rows : List (List Int)} {len i0 : Nat} (h : TabOk ws rows len i0) (hi : ws.length < i0 + len) : TabOk ws rows (len + 1) 0 := by
  refine ⟨h.n, h.each, fun i m h1 h2 h3 => ?_, fun i hi => absurd hi (Nat.not_lt_zero _)⟩
  by_cases e : m = len
  · subst e; exact h.eq i (by omega) h3
  · exact h.lt i m h1 (by omega) h3

theorem cell_set {rows : List (List Int)} {i0 j0 : Nat} {v : Int} (hi : i0 < rows.length) (hj : j0 < (rows.getD i0 []).length) (i j : Nat) :
    cell (rows.set i0 ((rows.getD i0 []).set j0 v)) i j = if i = i0 ∧ j = j0 then v else cell rows i j := by
  unfold cell
  simp only [List.getD_eq_getElem?_getD] at hj ⊢
  rw [List.getElem?_set]
  by_cases e : i0 = i
  · subst e
    rw [if_pos rfl, if_pos hi]
    simp only [Option.getD_some]
    rw [List.getElem?_set]
    by_cases e2 : j0 = j
    · subst e2
      rw [if_pos rfl, if_pos hj]
      simp
    · rw [if_neg e2, if_neg (by rintro ⟨_, rfl⟩; exact e2 rfl)]
  · rw [if_neg e, if_neg (by rintro ⟨rfl, _⟩; exact e rfl)]

theorem tab_step {ws : List Int} {rows : List (List Int)} {len i0 : Nat} {v : Int} (h : TabOk ws rows len i0) (h2 : 1 ≤ len) (hi : i0 + len ≤ ws.length) (hv : IsMin (slc ws i0 len) v) :
    TabOk ws (rows.set i0 ((rows.getD i0 []).set (i0 + len - 1) v)) len (i0 + 1) := by
  have hi0 : i0 < rows.length := by rw [h.n]; omega
  have hj0 : i0 + len - 1 < (rows.getD i0 []).length := by rw [h.each i0 (by omega)]; omega
  refine ⟨by rw [List.length_set]; exact h.n, fun i hiw => ?_, fun i m h1 h3 h4 => ?_, fun i hii h4 => ?_⟩
  · simp only [List.getD_eq_getElem?_getD]
    rw [List.getElem?_set]
    by_cases e : i0 = i
    · subst e
      rw [if_pos rfl, if_pos hi0]
      have := h.each i0 hiw
      simpa [List.getD_eq_getElem?_getD] using this
    · rw [if_neg e]
      have := h.each i hiw
      simpa [List.getD_eq_getElem?_getD] using this
  · rw [cell_set hi0 hj0, if_neg (by rintro ⟨rfl, e⟩; omega)]
    exact h.lt i m h1 h3 h4
  · rw [cell_set hi0 hj0]
    by_cases e : i = i0
    · subst e
      rw [if_pos ⟨rfl, rfl⟩]
      exact hv
    · rw [if_neg (by rintro ⟨e2, _⟩; exact e e2)]
      exact h.eq i (by omega) h4

theorem tab_cut {ws : List Int} {rows : List (List Int)} {len i0 i : Nat} {m : Int} (h : TabOk ws rows len i0) (h2 : 2 ≤ len) (hi : i + len ≤ ws.length)
    (hm : ∃ k, k < len - 1 ∧ m = cell rows i (i + k) + cell rows (i + k + 1) (i + len - 1)) (hle : ∀ k, k < len - 1 → m ≤ cell rows i (i + k) + cell rows (i + k + 1) (i + len - 1)) :
    IsMin (slc ws i len) ((slc ws i len).sum + m) := by
  have hl : (slc ws i len).length = len := by unfold slc; simp; omega
  refine isMin_cut (l := fun k => cell rows i (i + k - 1)) (r := fun k => cell rows (i + k) (i + len - 1)) (by omega) ?_ ?_ ?_ ?_
  · intro k h0 h1
    rw [hl] at h1
    have e : (slc ws i len).take k = slc ws i k := by unfold slc; rw [List.take_take, Nat.min_eq_left (by omega)]
    rw [e]
    exact h.lt i k h0 h1 (by omega)
  · intro k h0 h1
    rw [hl] at h1
    have e : (slc ws i len).drop k = slc ws (i + k) (len - k) := by unfold slc; rw [List.drop_take, List.drop_drop]
    rw [e]
    have := h.lt (i + k) (len - k) (by omega) (by omega) (by omega)
    rwa [show i + k + (len - k) - 1 = i + len - 1 by omega] at this
  · obtain ⟨k, hk, rfl⟩ := hm
    exact ⟨k + 1, by omega, by omega, by rw [show i + (k + 1) - 1 = i + k by omega, ← Nat.add_assoc]⟩
  · intro k h0 h1
    rw [hl] at h1
    have := hle (k - 1) (by omega)
    rwa [show i + (k - 1) + 1 = i + k by omega, show i + (k - 1) = i + k - 1 by omega] at this

theorem tab_done {ws : List Int} {rows : List (List Int)} (h : TabOk ws rows (ws.length + 1) 0) (h0 : 0 < ws.length) : IsMin ws (cell rows 0 (ws.length - 1)) := by
  have := h.lt 0 ws.length (by omega) (by omega) (by omega)
  rw [show 0 + ws.length - 1 = ws.length - 1 by omega] at this
  simpa [slc] using this
end GW
namespace GW
theorem mem_4 {α : Type} {x a b c d : α} {l : List α} (h : x ∈ l) : x ∈ a :: b :: c :: d :: l := .tail _ (.tail _ (.tail _ (.tail _ h)))
theorem mem_6 {α : Type} {x a b c d e f : α} {l : List α} (h : x ∈ l) : x ∈ a :: b :: c :: d :: e :: f :: l := .tail _ (.tail _ (mem_4 h))
theorem mem_10 {α : Type} {x a b c d e f g i j k : α} {l : List α} (h : x ∈ l) : x ∈ a :: b :: c :: d :: e :: f :: g :: i :: j :: k :: l := mem_4 (mem_6 h)
set_option maxRecDepth 100000 in
set_option maxHeartbeats 8000000 in
theorem least_ok {w : World} {loose mean mg mb} (news : List (Addr × Obj)) (l : Addr) (vs : List Value) (ws : List Int) (c : Nat)
   (hi : IntsAre vs ws) :
   CallOk 1 w loose mean mg mb 63 ((l, listOf vs.toArray c) :: news) [.ref l] (0 < ws.length ∧ ws.length < 50) (fun h₀ L _ h' r => ∃ v tk, r = .int v tk ∧ News h₀ L h' ((l, listOf vs.toArray c) :: news) ∧ IsMin ws v) := by
  w_top off
  unfold CallOk
  k_fill
  intro dp un gd cn cs a ccd cl outer A₀ base h₀ L m s Q E B F X N T0 hk hpre hd hu hret
  obtain ⟨hlen0, hlen⟩ := hpre
  walk_at "gw callC"
  rename_i g0 L0 h1 tk1 FG0 FF B0 X0 T0 l1 oj ot oi on dj dt di dn NN
  have hMk9 := kstMark
  have hO : OwnOff news [L0 + 1, L0 + 1 + 1, L0 + 1 + 1 + 1, L0 + 1 + 1 + 1 + 1] := by
    intro p hp b hb
    have h1 : p.1 < L0 := allLt_mem l1.2 p hp
    simp only [List.mem_cons, List.not_mem_nil, or_false] at hb
    refine Nat.ne_of_lt (Nat.lt_of_lt_of_le h1 ?_)
    rcases hb with rfl | rfl | rfl | rfl <;> omega
  walk_at "gw to"
  rename Fr _ _ _ _ => F1
  rename News _ _ _ _ => N1
  rename IsRange _ _ _ _ _ _ _ _ => R1
  rename_i hA on2 FA NA dn2 hB tkB t1 u1 v1 keepB
  have N2 : News g0 L0 hB (([(L0 + 1 + 1 + 1 + 1, oj), (L0 + 1 + 1 + 1, ot), (L0 + 1 + 1, oi), (L0 + 1, on2), (l, listOf vs.toArray c)] : List (Addr × Obj)) ++ (news ++ [])) := by
    rw [List.append_nil]
    exact N1
  k_dflt (refine LCg.CompSrc.range (n := ws.length) (by rfl) F1 N2 R1 (small_one (by omega) (by omega) (by omega) (by omega)) (by rw [rangeSize_nat]; omega) (by rw [PySem.sizeLine_eq]; omega) ?_)
  intro gg
  refine rows_rest (len := ws.length) _ news (L0 + 1 + 1 + 1 + 1) ?_ ?_
  · intro k t I oI C oC D m₂ ys es h tk E' hC hx F3 N3 off ne
    have off2 := off
    simp only [LCg.Off3, List.cons_append, List.nil_append] at off2 N3
    walk_at "gw to"
    rename Fr _ _ _ _ => F4
    rename News _ _ _ _ => N4
    rename (IntsAre (List.flatten _) _) => iD
    rename (_ < _ ∧ _) => m1
    simp only [Int.toNat_natCast, List.flatten_replicate_singleton] at iD N4
    have hmem : ∀ p ∈ es, p.1 < _ := fun p hp => allLt_mem m1.2.2.2.2.2.2.2.2.2 p (List.mem_append_right _ hp)
    have hmemn : ∀ p ∈ news, p.1 < _ := fun p hp => allLt_mem m1.2.2.2.2.2.2.2.2.2 p (List.mem_append_left _ hp)
    refine LCg.CompEnd.intro F4 N4 ([(L0 + 1 + 1 + 1 + 1, oj), (L0 + 1 + 1 + 1, ot), (L0 + 1 + 1, oi), (L0 + 1, on2), (l, listOf vs.toArray c)] ++ (news ++ ((_, listOf (List.replicate ws.length (Value.int 0 _)).toArray 0) :: es))) ?_ ?_ trivial ⟨_, _, 0, rfl, rfl, iD, m1.2.2.2.2.1, fun p hp => Nat.ne_of_lt (hmem p hp), fun p hp => Nat.ne_of_lt (hmemn p hp)⟩
    · intro p hp
      simp only [List.mem_cons, List.mem_append, List.not_mem_nil, or_false] at hp ⊢
      rcases hp with h | h | h | (h | h | h | h | h) | h | h | h <;> simp [h]
    · refine LCg.Off3.of fun p hp => ?_
      simp only [List.mem_cons, List.mem_append, List.not_mem_nil, or_false] at hp
      have off3 := off.mem
      rcases hp with (h | h | h | h | h) | h | h | h
      · exact off3 p (by simp [h])
      · exact off3 p (by simp [h])
      · exact off3 p (by simp [h])
      · exact off3 p (by simp [h])
      · exact off3 p (by simp [h])
      · exact off3 p (by simp [h])
      · rw [h]; exact ⟨Nat.ne_of_gt m1.2.1, Nat.ne_of_gt m1.2.2.1, Nat.ne_of_gt m1.2.2.2.1⟩
      · exact off3 p (by simp [h])
  · intro ys es hR hE
    have hOe : OwnOff es [L0 + 1, L0 + 1 + 1, L0 + 1 + 1 + 1, L0 + 1 + 1 + 1 + 1] := by
      intro p hp b hb
      have h1 : L0 + 1 + 1 + 1 + 1 < p.1 := (hE p hp).1
      simp only [List.mem_cons, List.not_mem_nil, or_false] at hb
      refine Nat.ne_of_gt (Nat.lt_of_le_of_lt ?_ h1)
      rcases hb with rfl | rfl | rfl | rfl <;> omega
    unfold LCg.FinE
    intro D h tk F5 N5 o5
    simp only [List.cons_append, List.nil_append, LCg.Off1] at N5 o5
    walk_at "gw to"
    rename Fr _ _ _ _ => F6
    rename News _ _ _ _ => N6
    rename IsRange _ _ _ _ _ _ _ _ => R6
    rename (_ = Data.cell (some (Value.ref D))) => dt2
    have oD := off1_mem o5.2.2.2.2.2
    rename_i ot2 _ _ _ _ _ _ _ _
    refine kst_range (σ := List (Addr × Obj) × List (List Int) × Obj × Obj) (n := ws.length - 1)
      (fun x => (D, LCg.lst ys) :: (L0 + 1 + 1 + 1 + 1, x.2.2.2) :: (L0 + 1 + 1 + 1, ot2) :: (L0 + 1 + 1, x.2.2.1) :: (L0 + 1, on2) :: (l, listOf vs.toArray c) :: (news ++ x.1)) (fun _ => [])
      (fun x => RowsAt x.1 ys x.2.1 ∧ x.1.map (·.1) = es.map (·.1) ∧ (∃ v, x.2.2.1.data = .cell v) ∧ (∃ v, x.2.2.2.data = .cell v)) [Str.ofString "row"]
      (fun pre x => TabOk ws x.2.1 (2 + pre.length) 0) (es, List.replicate ws.length (List.replicate ws.length 0), oi, oj)
      (by rfl) R6 (small_one (by omega) (by omega) (by omega) (by omega)) (by rw [rangeSize_nat]; omega) F6 N6 ⟨hR, rfl, ⟨_, di⟩, ⟨_, dj⟩⟩ (fun _ h => nomatch h) (tab_init ws) ?_ ?_
    · rintro ⟨es1, rows1, oi1, oj1⟩ pre k tk3 u h7 tk4 own hk hlt hoff ⟨f1, f2, ⟨vi, f3⟩, ⟨vj, f4⟩⟩ hP F7 N7
      dsimp only at f1 f2 f3 f4 hP N7
      simp only [kstB, List.cons_append, List.append_assoc] at F7 N7
      have hOe1 := ownOff_addr f2 hOe
      walk_at "gw to"
      k_dflt (refine For_invT g0 ?_ (by intro _; rfl))
      walk_at "gw to"
      rename Fr _ _ _ _ => F8
      rename News _ _ _ _ => N8
      rename IsRange _ _ _ _ _ _ _ _ => R8
      have hkn : k = ((2 + pre.length : Nat) : Int) := by rw [hk]; simp
      refine for_rangeT (σ := List (Addr × Obj) × List (List Int) × Obj × Obj) (n := ws.length + 1 - (2 + pre.length))
        (fun x => (D, LCg.lst ys) :: (L0 + 1 + 1 + 1 + 1, x.2.2.2) :: (L0 + 1 + 1 + 1, ot2) :: (L0 + 1 + 1, x.2.2.1) :: (L0 + 1, on2) :: (l, listOf vs.toArray c) :: (news ++ (x.1 ++ own))) (fun _ => [])
        (fun x => RowsAt x.1 ys x.2.1 ∧ x.1.map (·.1) = es.map (·.1) ∧ (∃ v, x.2.2.1.data = .cell v) ∧ (∃ v, x.2.2.2.data = .cell v)) [Str.ofString "row"]
        (fun i x => TabOk ws x.2.1 (2 + pre.length) i) (es1, rows1, oi1, oj1)
        (by rfl) R8 (small_one (by omega) (by omega) (by omega) (by omega)) (by rw [rangeSize_nat]; omega) F8 N8 ⟨f1, f2, ⟨_, f3⟩, ⟨_, f4⟩⟩ (fun _ h => nomatch h) hP (by intro _ _; rfl) ?_ ?_
      · rintro ⟨es2, rows2, oi2, oj2⟩ i ti u2 s2 own2 hi2 hoff2 ⟨q1, q2, ⟨vi2, q3⟩, ⟨vj2, q4⟩⟩ hP2 hadr2 F9 N9
        dsimp only at q1 q2 q3 q4 hP2 N9
        simp only [kstB, List.cons_append, List.append_assoc] at F9 N9
        have hOe2 := ownOff_addr q2 hOe
        walk_at "gw to"
        rename_i _ oi3 di3 _ oj3 _ _ dj3
        obtain ⟨ra, rvs, rc, g1, g2, g3, g4⟩ := q1.get (i := i) (by rw [hP2.n]; omega)
        rename News _ _ _ _ => N10
        refine gw_get N10 (.head _) (by omega) (by omega) (by rw [show (0 + (i : Int)).toNat = i by omega]; exact g1) ?_
        walk_at "gw to"
        walk_at "gw one"
        walk_at "gw to"
        rename Fr _ _ _ _ => F11
        rename News _ _ _ _ => N11
        rename IsRange _ _ _ _ _ _ _ _ => R11
        k_dflt (refine LCg.CompSrc.range (n := 1 + pre.length) (by rfl) F11 N11 R11 (small_one (by omega) (by omega) (by omega) (by omega)) (by rw [rangeSize_nat]; omega) (by rw [PySem.sizeLine_eq]; omega) ?_)
        intro gg2
        refine kcf_range (fun k => cell rows2 i k.toNat + cell rows2 (k.toNat + 1) (i + (2 + pre.length) - 1)) ?_ ?_
        · intro k2 t2 I oI C oC Dk m2 yk h tk E' hlo hhi hC hx F12 N12 off ne mk
          walk_at "gw to"
          rename News _ _ _ _ => N14
          refine gw_get N14 (mem_4 (.head _)) (by omega) (by omega) (by rw [show (0 + (i : Int)).toNat = i by omega]; exact g1) ?_
          walk_at "gw to"
          refine ksa_sub (vs := rvs) (n := rc) N14 (mem_10 (List.mem_append_right _ (List.mem_append_left _ g2))) g3 (by omega) (by rw [hP2.each i (by omega)]; omega) (by omega) (fun t3 => ?_)
          walk_at "gw to"
          obtain ⟨rb, bvs, bc, e1, e2, e3, _⟩ := q1.get (i := k2.toNat + 1) (by rw [hP2.n]; omega)
          refine gw_get N14 (mem_4 (.head _)) (by omega) (by omega) (by rw [show (k2 + 1).toNat = k2.toNat + 1 by omega]; exact e1) ?_
          walk_at "gw to"
          refine ksa_sub (vs := bvs) (n := bc) N14 (mem_10 (List.mem_append_right _ (List.mem_append_left _ e2))) e3 (by omega) (by rw [hP2.each (k2.toNat + 1) (by omega)]; omega) (by omega) (fun t4 => ?_)
          walk_at "gw to"
          rename Fr _ _ _ _ => F15
          rename News _ _ _ _ => N15
          refine LCg.CompEnd.intro F15 N15 _ (fun _ h => h) off trivial (kcf_el ?_ rfl rfl)
          simp only [cell]
          rw [show (0 + (i : Int) + k - 1).toNat = i + (2 + pre.length) - 1 by omega]
        · unfold KPfDone
          intro yk hyk
          unfold LCg.FinE
          intro Dm h tk F13 N13 o13
          walk_at "gw to"
          rename Fr _ _ _ _ => F14
          rename News _ _ _ _ => N14
          refine kso_min F14 N14 (News.isList N14 (.head _)) hyk (by simp [rangeKs_length]; omega) rfl ?_
          intro h8 M t8 tk8 F15 N15 hM hMle
          walk_at "gw to"
          rename (_ < _ ∧ _) => m1
          have hraE : ra ∈ es.map (·.1) := by rw [← q2]; exact List.mem_map_of_mem g2
          have hraE1 : ra ∈ es1.map (·.1) := by rw [f2]; exact hraE
          obtain ⟨pe, hpe, epe⟩ := List.mem_map.mp hraE
          have hraL : L0 + 1 + 1 + 1 + 1 < ra := epe ▸ (hE pe hpe).1
          have hraN : ∀ q ∈ news, q.1 ≠ ra := epe ▸ (hE pe hpe).2
          have hraD : ra ≠ D := epe ▸ oD pe (List.mem_append_right _ hpe)
          have hraO : ∀ p ∈ own, p.1 ≠ ra := fun p hp => hoff p hp ra (by simp only [List.map_cons, List.map_append, List.mem_cons, List.mem_append]; simp [hraE])
          have hraO2 : ∀ p ∈ own2, p.1 ≠ ra := fun p hp => hoff2 p hp ra (by simp only [List.map_cons, List.map_append, List.mem_cons, List.mem_append]; simp [hraE1])
          have hraM : ra ≠ Dm := off1_mem o13 (ra, listOf rvs.toArray rc) (mem_6 (.tail _ (List.mem_append_right _ (List.mem_append_left _ g2))))
          have hraS : ra < _ := allLt_mem m1.2.2.2.2.2.2 (ra, listOf rvs.toArray rc) (List.mem_append_right _ (List.mem_append_left _ g2))
          have hrow : rvs.length = ws.length := by rw [g3.length, hP2.each i (by omega)]
          obtain ⟨es3, u1', u2', u3'⟩ := g4 (rvs.set (0 + (i : Int) + k - 1).toNat _) _ rc (ints_set g3 (0 + (i : Int) + k - 1).toNat)
          rename Fr _ _ _ _ => F16
          rename News _ _ _ _ => N16
          refine gw_set F16 N16 (upd_pre (r := [_, _, _, _, _, _, _, _]) ?_ (upd_pre hraN (upd_app u1' ?_))) (by omega) (by omega) (by omega) ?_
          · intro p hp
            simp only [List.mem_cons, List.not_mem_nil, or_false] at hp
            have hl1 : l < L0 := l1.1
            rcases hp with rfl | rfl | rfl | rfl | rfl | rfl | rfl | rfl
            · exact hraM.symm
            · exact Nat.ne_of_gt hraS
            · exact hraD.symm
            · exact Nat.ne_of_lt hraL
            · exact Nat.ne_of_lt (Nat.lt_trans (Nat.lt_succ_self _) hraL)
            · exact Nat.ne_of_lt (Nat.lt_trans (Nat.lt_succ_self _) (Nat.lt_trans (Nat.lt_succ_self _) hraL))
            · exact Nat.ne_of_lt (Nat.lt_trans (Nat.lt_succ_self _) (Nat.lt_trans (Nat.lt_succ_self _) (Nat.lt_trans (Nat.lt_succ_self _) hraL)))
            · exact Nat.ne_of_lt (Nat.lt_trans hl1 (Nat.lt_trans (Nat.lt_succ_self _) (Nat.lt_trans (Nat.lt_succ_self _) (Nat.lt_trans (Nat.lt_succ_self _) (Nat.lt_trans (Nat.lt_succ_self _) hraL)))))
          · exact fun p hp => (List.mem_append.mp hp).elim (hraO p) (hraO2 p)
          · intro h9 F17 N17
            simp only [List.cons_append, List.nil_append] at N17
            walk_at "gw to"
            rename Fr _ _ _ _ => F18
            rename News _ _ _ _ => N18
            have eS : List.take (min (0 + (i : Int) + k - 1 + 1).toNat ws.length - (0 + (i : Int)).toNat) (List.drop (0 + (i : Int)).toNat ws) = slc ws i (2 + pre.length) := by
              unfold slc
              rw [show (0 + (i : Int)).toNat = i by omega, show min (0 + (i : Int) + k - 1 + 1).toNat ws.length - i = 2 + pre.length by omega]
            refine ⟨rfl, (es3, rows2.set i ((rows2.getD i []).set (0 + (i : Int) + k - 1).toNat _), oi3, oj3), _, _, _, _, rfl, F18, N18, ?_, ?_, ?_, ⟨u2', u3'.trans q2, ⟨_, di3⟩, ⟨_, dj3⟩⟩, (fun _ h => nomatch h), ?_, ?_⟩
            · intro p hp
              simp only [List.mem_cons, List.mem_append] at hp ⊢
              rcases hp with h | h | h | h | h | h | h | h | h <;> simp [h]
            · intro p hp
              simp only [List.mem_cons, List.mem_append]
              simp [hp]
            · simp only [List.map_cons, List.map_append, u3', q2, f2]
            · ksw_same
            · show TabOk ws (rows2.set i ((rows2.getD i []).set (0 + (i : Int) + k - 1).toNat _)) (2 + pre.length) (i + 1)
              rw [eS, show (0 + (i : Int) + k - 1).toNat = i + (2 + pre.length) - 1 by omega]
              refine tab_step hP2 (by omega) (by omega) (tab_cut hP2 (by omega) (by omega) ?_ ?_)
              · obtain ⟨kk, hkk, rfl⟩ := List.mem_map.mp hM
                obtain ⟨j9, hj9, rfl⟩ := List.mem_map.mp hkk
                have hj9' := List.mem_range.mp hj9
                refine ⟨j9, by omega, ?_⟩
                rw [show (0 + (i : Int) + (j9 : Int)).toNat = i + j9 by omega]
              · intro j9 hj9
                have h10 := hMle (cell rows2 i (0 + (i : Int) + (j9 : Int)).toNat + cell rows2 ((0 + (i : Int) + (j9 : Int)).toNat + 1) (i + (2 + pre.length) - 1))
                  (List.mem_map.mpr ⟨0 + (i : Int) + (j9 : Int), List.mem_map.mpr ⟨j9, List.mem_range.mpr (by omega), rfl⟩, rfl⟩)
                rw [show (0 + (i : Int) + (j9 : Int)).toNat = i + j9 by omega] at h10
                exact h10
      · rintro ⟨es2, rows2, oi2, oj2⟩ u2 h8 tk8 ⟨q1, q2, ⟨vi2, q3⟩, ⟨vj2, q4⟩⟩ hP2 F9 N9
        dsimp only at q1 q2 q3 q4 hP2 N9
        simp only [kstB] at F9
        dsimp only
        walk_at "gw to"
        rename Fr _ _ _ _ => F10
        rename News _ _ _ _ => N10
        refine kst_end (es2, rows2, oi2, oj2) F10 N10 ?_ ?_ ?_ ⟨q1, q2, ⟨_, q3⟩, ⟨_, q4⟩⟩ (fun _ h => nomatch h) (by kst_same) ?_
        · intro p hp
          simp only [List.mem_cons, List.mem_append] at hp ⊢
          rcases hp with h | h | h | h | h | h | h | h <;> simp [h]
        · intro p hp
          simp only [List.mem_cons, List.mem_append]
          simp [hp]
        · simp only [List.map_cons, List.map_append, q2]
        · show TabOk ws rows2 (2 + (pre ++ [k]).length) 0
          have h10 := tab_next hP2 (by omega)
          rw [show 2 + (pre ++ [k]).length = 2 + pre.length + 1 by simp; omega]
          exact h10
    · rintro ⟨es2, rows2, oi2, oj2⟩ u2 h8 tk8 ⟨q1, q2, ⟨vi2, q3⟩, ⟨vj2, q4⟩⟩ hP2 F9 N9
      dsimp only at q1 q2 q3 q4 hP2 N9
      simp only [kstB] at F9
      have hOe2 := ownOff_addr q2 hOe
      have hP3 : TabOk ws rows2 (ws.length + 1) 0 := by
        rw [rangeKs_length, show 2 + (ws.length - 1) = ws.length + 1 by omega] at hP2
        exact hP2
      dsimp only
      walk_at "gw to"
      obtain ⟨ra, rvs, rc, g1, g2, g3, _⟩ := q1.get (i := 0) (by rw [hP3.n]; omega)
      refine gw_get N9 (.head _) (by omega) (by omega) g1 ?_
      walk_at "gw to"
      refine ksa_sub (vs := rvs) (n := rc) N9 (mem_6 (List.mem_append_right _ g2)) g3 (by omega) (by rw [hP3.each 0 (by omega)]; omega) (by omega) (fun t3 => ?_)
      walk_at "gw to"
      rename Fr _ _ _ _ => F11
      rename News _ _ _ _ => N11
      refine hret _ _ _ F11 ⟨_, _, rfl, ?_, ?_⟩
      · intro p hp
        refine N11 p ?_
        simp only [List.mem_cons, List.mem_append] at hp ⊢
        rcases hp with h | h <;> simp [h]
      · have h10 := tab_done hP3 hlen0
        unfold cell at h10
        rw [show ((ws.length : Int) - 1).toNat = ws.length - 1 by omega]
        exact h10
end GW
namespace GW
theorem dot_range : ∀ (ws ds : List Int), ds.length = ws.length → ((List.range ws.length).map fun k : Nat => ws.getD k 0 * ds.getD k 0).sum = dot ws ds
  | [], ds, _ => rfl
  | w :: ws, [], h => by simp at h
  | w :: ws, d :: ds, h => by
    have ih := dot_range ws ds (by simpa using h)
    rw [List.length_cons, List.range_succ_eq_map, List.map_cons, List.map_map, List.sum_cons]
    have e : ((fun k : Nat => (w :: ws).getD k 0 * (d :: ds).getD k 0) ∘ Nat.succ) = fun k : Nat => ws.getD k 0 * ds.getD k 0 := by
      funext k
      simp
    rw [e, ih]
    simp [dot]
theorem fill_bound (t : T) : ∀ (d : Nat) (ds : List Int) (B : Nat), (∀ x ∈ ds, 0 ≤ x ∧ x ≤ (B : Int)) → d + (t.ld d).length ≤ B → ∀ x ∈ t.fill d ds, 0 ≤ x ∧ x ≤ (B : Int) := by
  have hlen : ∀ (t : T) (d e : Nat), (t.ld d).length = (t.ld e).length := by
    intro t
    induction t with
    | leaf k => intro d e; rfl
    | node a b iha ihb => intro d e; simp only [T.ld, List.length_append]; rw [iha (d + 1) (e + 1), ihb (d + 1) (e + 1)]
  have hpos : ∀ (t : T) (d : Nat), 1 ≤ (t.ld d).length := by
    intro t
    induction t with
    | leaf k => intro d; exact Nat.le_refl _
    | node a b iha ihb => intro d; have := iha (d + 1); simp only [T.ld, List.length_append]; omega
  induction t with
  | leaf k =>
    intro d ds B h hd x hx
    rcases List.mem_or_eq_of_mem_set hx with h1 | rfl
    · exact h x h1
    · omega
  | node a b iha ihb =>
    intro d ds B h hd
    simp only [T.ld, List.length_append] at hd
    have h1 := hpos a (d + 1)
    have h2 := hpos b (d + 1)
    exact iha (d + 1) _ B (ihb (d + 1) ds B h (by omega)) (by omega)
end GW
namespace GW
set_option maxRecDepth 100000 in
set_option maxHeartbeats 8000000 in
theorem cost_ok {w : World} {loose mean mg mb} (news : List (Addr × Obj)) (l : Addr) (vs : List Value) (ws : List Int) (c : Nat)
   (hi : IntsAre vs ws) :
   CallOk 3 w loose mean mg mb 68 ((l, listOf vs.toArray c) :: news) [.ref l] (0 < ws.length ∧ ws.length < 50 ∧ ∀ x ∈ ws, 0 < x) (fun h₀ L _ h' r => ∃ v tk, r = .int v tk ∧ News h₀ L h' ((l, listOf vs.toArray c) :: news) ∧ IsMin ws v) := by
  w_top off
  unfold CallOk
  k_fill
  intro dp un gd cn cs a ccd cl outer A₀ base h₀ L m s Q E B F X N T0 hk hpre hd hu hret
  obtain ⟨hlen0, hlen, hpos⟩ := hpre
  walk_at "gw callC"
  rename_i g0 L0 h1 tk1 FG0 FF B0 X0 T0' l1 od ow dd dw NN
  have hMk9 := kstMark
  have hO : OwnOff news [L0 + 1, L0 + 1 + 1] := by
    intro p hp b hb
    have h1 : p.1 < L0 := allLt_mem l1.2 p hp
    simp only [List.mem_cons, List.not_mem_nil, or_false] at hb
    refine Nat.ne_of_lt (Nat.lt_of_lt_of_le h1 ?_)
    rcases hb with rfl | rfl <;> omega
  walk_at "gw to"
  rename Fr _ _ _ _ => F1
  rename News _ _ _ _ => N1
  have N2 : News g0 L0 _ ((l, listOf vs.toArray c) :: (L0 + 1 + 1, od) :: (L0 + 1, ow) :: news) := fun p hp => N1 p (by
    simp only [List.mem_cons] at hp ⊢
    rcases hp with h | h | h | h <;> simp [h])
  k_dflt (refine' join_ok (w := w) (loose := loose) (mean := mean) (mg := mg) (mb := mb) _ l vs ws c hi _ _ _ _ _ _ _ _ _ _ _ _ _ _ _ _ _ B0 F1 X0 N2 T0' rfl ⟨hlen0, hlen, hpos⟩ ?_ ?_ ?_)
  · ktr_room
  · ktr_units
  · rintro r h2 tk2 F2 ⟨ra, da, dv, dc, kq, tkx, x, t, rfl, N3, hreach, hid, ⟨m1, m2⟩, m3⟩
    simp only [AllLt] at m2
    obtain ⟨hx, hld, hfits, hmin⟩ := joined hpos hreach
    generalize hds : t.fill 0 (List.replicate ws.length 0) = ds at *
    have hlds : ds.length = ws.length := by rw [← hds, T.fill_len]; simp
    have hbnd : ∀ y ∈ ds, 0 ≤ y ∧ y ≤ ((50 : Nat) : Int) := by
      rw [← hds]
      refine fill_bound t 0 _ 50 ?_ (by rw [joined_len hpos hreach]; omega)
      intro y hy
      rw [List.eq_of_mem_replicate hy]
      omega
    walk_at "gw to"
    rename Fr _ _ _ _ => F4
    rename News _ _ _ _ => N4
    refine storeX_C F4 N4 (by rfl) (UpdF.tail (Nat.ne_of_gt (Nat.lt_trans m2.1 m3)) (UpdF.tail (Nat.ne_of_gt m2.1) (UpdF.tail (Nat.ne_of_lt (Nat.lt_trans l1.1 (Nat.lt_trans (Nat.lt_succ_self _) (Nat.lt_succ_self _)))) (UpdF.head (by k_all))))) dd ?_
    intro h5 od2 F5 N5 dd2
    walk_at "gw to"
    · exact absurd hx (by assumption)
    rename Fr _ _ _ _ => F6
    rename News _ _ _ _ => N6
    have N7 : News g0 L0 _ ((da, listOf dv.toArray dc) :: (ra, tupOf [Value.int x tkx, Value.ref da] kq) :: (l, listOf vs.toArray c) :: (L0 + 1 + 1, od2) :: (L0 + 1, ow) :: news) := fun p hp => N6 p (by
      simp only [List.mem_cons] at hp ⊢
      rcases hp with h | h | h | h | h | h <;> simp [h])
    k_dflt (refine' fits_ok (w := w) (loose := loose) (mean := mean) (mg := mg) (mb := mb) _ da dv ds dc hid _ _ _ _ _ _ _ _ _ _ _ _ _ _ _ _ _ B0 F6 X0 N7 T0' rfl (by omega) ?_ ?_ ?_)
    · ktr_room
    · ktr_units
    · rintro r h7 tk7 F8 ⟨N8, rfl⟩
      rw [hfits]
      walk_at "gw to"
      rename Fr _ _ _ _ => F9
      rename News _ _ _ _ => N9
      rename IsRange _ _ _ _ _ _ _ _ => R9
      k_dflt (refine LCg.CompSrc.range (n := ws.length) (by rfl) F9 N9 R9 (small_one (by omega) (by omega) (by omega) (by omega)) (by rw [rangeSize_nat]; omega) (by rw [PySem.sizeLine_eq]; omega) ?_)
      intro gg2
      refine kcf_range (fun k => ws.getD k.toNat 0 * ds.getD k.toNat 0) ?_ ?_
      · intro k2 t2 I oI C oC Dk m9 yk h tk E' hlo hhi hC hx' F12 N12 off ne mk
        walk_at "gw to"
        rename News _ _ _ _ => N14
        refine ksa_sub (vs := vs) (n := c) N14 (by simp) hi (by omega) (by omega) (by omega) (fun t3 => ?_)
        walk_at "gw to"
        refine ksa_sub (vs := dv) (n := dc) N14 (by simp) hid (by omega) (by omega) (by omega) (fun t4 => ?_)
        walk_at "gw to"
        have hdk : ds.getD k2.toNat 0 ∈ ds := by
          have hk9 : k2.toNat < ds.length := by omega
          have e9 : ds.getD k2.toNat 0 = ds[k2.toNat] := by simp [List.getD, List.getElem?_eq_getElem hk9]
          rw [e9]
          exact List.getElem_mem _
        have hbk := hbnd _ hdk
        refine PyProof.Rows.mul_int ?_ (IntMulOk.of_right (PySem.intBits_le_64 (by omega) (by omega)))
        walk_at "gw to"
        rename Fr _ _ _ _ => F15
        rename News _ _ _ _ => N15
        exact LCg.CompEnd.intro F15 N15 _ (fun _ h => h) off trivial (kcf_el rfl rfl rfl)
      · unfold KPfDone
        intro yk hyk
        unfold LCg.FinE
        intro Dm h tk F13 N13 o13
        walk_at "gw to"
        rename Fr _ _ _ _ => F16
        rename News _ _ _ _ => N16
        rename Fr h₀ L _ m => F17
        rename News h₀ L _ _ => N17
        refine hret _ _ _ F17 ⟨_, _, rfl, ?_, ?_⟩
        · intro p hp
          refine N17 p ?_
          simp only [List.mem_cons] at hp ⊢
          rcases hp with h | h <;> simp [h]
        · have e : (rangeKs 0 ws.length).map (fun k : Int => ws.getD k.toNat 0 * ds.getD k.toNat 0) = (List.range ws.length).map fun k : Nat => ws.getD k 0 * ds.getD k 0 := by
            unfold rangeKs
            rw [List.map_map]
            refine List.map_congr_left fun k _ => ?_
            simp
          rw [e, dot_range ws ds hlds]
          exact hmin
end GW
namespace GW
theorem cuts_pos {n : Nat} (h : n < 4) : 0 < ([2, 3, 5, 12] : List Int).getD n 0 := by
  match n, h with
  | 0, _ => decide
  | 1, _ => decide
  | 2, _ => decide
  | 3, _ => decide
section
variable {prog : Program} {w : World} {A : Around} {E : Value → Shared → Prop} {s : Shared} {h₀ : Heap} {L D : Addr} {m : Str → Option Value} {news : List (Addr × Obj)} {vs : List Value} {c : Nat}
theorem gw_app {v : Int} {t : Tok} {Q : Value → Shared → Prop} (F : Fr h₀ L s.heap m) (N : News h₀ L s.heap news) (hv : 0 < v) (hz : vs.length ≤ sizeLine)
    (h : ∀ v' t', 0 < v' → ∃ news', Upd D (listOf vs.toArray c) (listOf (vs ++ [Value.int v' t']).toArray (c + 1)) news news' ∧ ∀ h', Fr h₀ L h' m → News h₀ L h' news' → Q .none { s with heap := h' }) :
    wpAny (model prog w) A (call (.builtin "list.append") [.ref D, .int v t]) Q E s := by
  obtain ⟨news', U, H⟩ := h v t hv
  exact append_K F N (by rw [List.push_toArray]; exact U) H (by simpa using hz)
end
theorem cuts_ne {n : Nat} (h : n < 4) : ¬ ([2, 3, 5, 12] : List Int).getD n 0 = 0 := fun e => by have := cuts_pos h; omega
set_option maxRecDepth 100000 in
set_option maxHeartbeats 8000000 in
theorem law_true : PySem.Challenge.rw_ab6008_01.Holds := hd (by
  k_go0
  all_goals try k_fold
  walk_at "gw to"
  rename Fr _ _ _ _ => F1
  rename News _ _ _ _ => N1
  rename IsRange _ _ _ _ _ _ _ _ => R1
  rename Top _ _ _ _ _ _ => T1
  rename_i la hh2 ll1 hh1 FF0 NN0 hhB tkB t1 u1 v1 keepB
  rename List Int => sc
  rename ((GW.hd.heap_39 _).In _) => KX1
  rename Below _ _ _ _ => K1
  rename Heap.IsList _ _ _ => hL1
  rename IntsAre _ _ => hI1
  have hMk9 := kstMark
  have hm8 : ∃ m : Nat, 5 ≤ m ∧ m ≤ 12 ∧ 5 + sc.sum.fmod 8 = (m : Int) := by
    have h0 : 0 ≤ sc.sum.fmod 8 := Int.fmod_nonneg_of_pos _ (by decide)
    have h1 : sc.sum.fmod 8 < 8 := Int.fmod_lt_of_pos _ (by decide)
    exact ⟨(5 + sc.sum.fmod 8).toNat, by omega, by omega, by omega⟩
  obtain ⟨nn, hn1, hn2, hn3⟩ := hm8
  rw [hn3] at R1
  have hk5 : 0 ≤ (sc.sum.fdiv 8).fmod 5 ∧ (sc.sum.fdiv 8).fmod 5 < 5 := ⟨Int.fmod_nonneg_of_pos _ (by decide), Int.fmod_lt_of_pos _ (by decide)⟩
  refine kst_range (σ := List Value × List Int × Nat) (n := nn)
      (fun x => [(la, listOf x.1.toArray x.2.2)]) (fun _ => [])
      (fun x => IntsAre x.1 x.2.1) [Str.ofString "x"]
      (fun pre x => x.2.1.length = pre.length ∧ ∀ y ∈ x.2.1, 0 < y) ([], [], 0)
      (by rfl) R1 (small_one (by omega) (by omega) (by omega) (by omega)) (by rw [rangeSize_nat]; omega) F1 N1 .nil (fun _ h => nomatch h) ⟨rfl, fun _ h => nomatch h⟩ ?_ ?_
  · rintro ⟨us, xs, cc⟩ pre k tk3 u h7 tk4 own hk hlt hoff f1 hP F7 N7
    dsimp only at f1 hP N7
    simp only [kstB, List.cons_append, List.nil_append, List.append_assoc] at F7 N7
    have hla : la < h7.objs.size := Heap.lt_size (N7 _ (.head _)).1
    walk_at "gw to"
    walk_at "gw one"
    rename Fr _ _ _ _ => F8
    rename News _ _ _ _ => N8
    walk_at "gw one"
    rename Fr _ _ _ _ => F8
    rename News _ _ _ _ => N8
    refine sumK rfl F8 N8 (vs := (slicePick _ _ _ _).toList) (News.isList N8 (.head _)) (hI1.pick _ _ _) ?_
    -- N8 rfl (vs := (slicePick _ _ _ _).toList) (News.isList N8 (.head _)) (hI1.pick _ _ _) ?_
    intro h9 tk9 t9 F9 N9
    walk_at "gw to"
    walk_at "gw one"
    walk_at "gw to"
    · walk_at "gw one"
      walk_at "gw to"
      · rename (List.getD _ _ _ = 0) => hz
        exact absurd hz (cuts_ne (by omega))
      rename Fr _ _ _ _ => F10
      rename News _ _ _ _ => N10
      refine gw_app F10 N10 (by
        have hc := cuts_pos (n := ((sc.sum.fdiv 8).fmod 5 - 1).toNat) (by omega)
        exact Int.lt_of_lt_of_le (by decide) (Int.add_le_add_left (Int.fmod_nonneg_of_pos _ hc) 1)) (by rw [sizeLine_eq]; have := f1.length; omega) (fun v9 t9 hv9 => ⟨_, .tail (Nat.ne_of_gt (Nat.lt_succ_of_lt hla)) (.head fun p hp => hoff p hp la (.head _)), fun h11 F11 N11 => ?_⟩)
      walk_at "gw to"
      rename Fr _ _ _ _ => F12
      rename News _ _ _ _ => N12
      refine kst_end (us ++ [Value.int v9 t9], xs ++ [v9], cc + 1) F12 N12 ?_ ?_ ?_ (f1.append (.cons _ _ .nil)) (fun _ h => nomatch h) (by kst_same) ?_
      · intro p hp
        rw [List.mem_singleton.mp hp]
        exact .tail _ (.head _)
      · exact fun p hp => .tail _ (.tail _ hp)
      · rfl
      · refine ⟨by simp [hP.1], fun y hy => ?_⟩
        rcases List.mem_append.mp hy with hy | hy
        · exact hP.2 y hy
        · rw [List.mem_singleton.mp hy]
          exact hv9
    · rename Fr _ _ _ _ => F10
      rename News _ _ _ _ => N10
      refine gw_app F10 N10 (by split <;> omega) (by rw [sizeLine_eq]; have := f1.length; omega) (fun v9 t9 hv9 => ⟨_, .tail (Nat.ne_of_gt (Nat.lt_succ_of_lt hla)) (.head fun p hp => hoff p hp la (.head _)), fun h11 F11 N11 => ?_⟩)
      walk_at "gw to"
      rename Fr _ _ _ _ => F12
      rename News _ _ _ _ => N12
      refine kst_end (us ++ [Value.int v9 t9], xs ++ [v9], cc + 1) F12 N12 ?_ ?_ ?_ (f1.append (.cons _ _ .nil)) (fun _ h => nomatch h) (by kst_same) ?_
      · intro p hp
        rw [List.mem_singleton.mp hp]
        exact .tail _ (.head _)
      · exact fun p hp => .tail _ (.tail _ hp)
      · rfl
      · refine ⟨by simp [hP.1], fun y hy => ?_⟩
        rcases List.mem_append.mp hy with hy | hy
        · exact hP.2 y hy
        · rw [List.mem_singleton.mp hy]
          exact hv9
  · rintro ⟨us, xs, cc⟩ u2 h8 tk8 f1 hP F9 N9
    dsimp only at f1 hP N9
    simp only [kstB] at F9
    dsimp only
    walk_at "gw to"
    rename Fr _ _ _ _ => F13
    rename News _ _ _ _ => N13
    refine kst_listL (σ := Unit) (fun _ => [(la, listOf us.toArray cc)]) (fun _ => []) (fun _ => True) [] (fun _ _ => True) ()
      (by rfl) (fun _ => .head _) f1 F13 N13 trivial (fun _ h => nomatch h) trivial ?_ ?_
    · rintro _ pre post n t u h9 tk9 own9 _ hmem hoff9 _ _ F10 N10
      try dsimp only at N10
      simp only [kstB, List.cons_append, List.nil_append] at F10 N10
      walk_at "gw to"
      rename Fr _ _ _ _ => F14
      rename News _ _ _ _ => N14
      exact kst_end () F14 N14 (fun p hp => by rw [List.mem_singleton.mp hp]; exact .head _) (fun p hp => .tail _ hp) rfl trivial (fun _ h => nomatch h) (by kst_same) trivial
    · rintro _ u h9 tk9 _ _ F10 N10
      try dsimp only at N10
      simp only [kstB] at F10
      dsimp only
      walk_at "gw to"
      rename Fr _ _ _ _ => F11
      rename News _ _ _ _ => N11
      have hxl : xs.length = nn := by rw [hP.1, rangeKs_length]
      k_dflt (refine' least_ok [] la us xs cc f1 _ _ _ _ _ _ _ _ _ _ _ _ _ _ _ _ _ K1 F11 KX1 N11 T1 rfl ⟨by omega, by omega⟩ ?_ ?_ ?_)
      · ktr_room
      · ktr_units
      · rintro r h2 tk2 F12 ⟨v1, tk3, rfl, N12, hmin1⟩
        walk_at "gw to"
        rename Fr _ _ _ _ => F14
        rename News _ _ _ _ => N14
        k_dflt (refine' cost_ok [] la us xs cc f1 _ _ _ _ _ _ _ _ _ _ _ _ _ _ _ _ _ K1 F14 KX1 N14 T1 rfl ⟨by omega, by omega, hP.2⟩ ?_ ?_ ?_)
        · ktr_room
        · ktr_units
        · rintro r h4 tk4 F15 ⟨v2, tk5, rfl, N15, hmin2⟩
          obtain rfl := hmin1.unique hmin2
          walk_at "gw to"
          walk_at "gw one"
          walk_at "gw to"
          rename_i D9 us9 h10 F16 N16 hR hC l1r
          k_dflt (refine' cost_ok [(la, listOf us.toArray cc)] D9 us9 xs.reverse 0 hR _ _ _ _ _ _ _ _ _ _ _ _ _ _ _ _ _ K1 F16 KX1 N16 T1 rfl ⟨by omega, by omega, fun y hy => hP.2 y (List.mem_reverse.mp hy)⟩ ?_ ?_ ?_)
          · ktr_room
          · ktr_units
          · rintro r h5 tk6 F17 ⟨v2, tk7, rfl, N17, hmin3⟩
            obtain rfl := hmin1.mirror.unique hmin3
            walk_at "gw to")
end GW
theorem PySem.Challenge.cw_ab6008_01_holds : PySem.Challenge.rw_ab6008_01.Holds :=
  GW.law_true
