import PyProof.Rows.All
import Wide.All
import OpenK.AllK
import Wide.FinOn
import Lean
import PySem.Challenge.RW_ko0046_01
open PySem PySem.W PyProof.Rows
set_option Elab.async false
namespace Mine46
/-- what the function gives -/
def czb (n b : Int) : Int := if n = 0 then b else min b (Builtin.Int.intBits (Builtin.bitAnd (Builtin.bitNot n) (n - 1)) : Nat)

theorem bits_ones (k : Nat) : Builtin.Int.intBits ((2 : Int) ^ k - 1) = k := by
  have hc : ((2 ^ k : Nat) : Int) = (2 : Int) ^ k := kbt_cast k
  have hp : 0 < 2 ^ k := Nat.two_pow_pos k
  have e : ((2 : Int) ^ k - 1).natAbs = 2 ^ k - 1 := by omega
  unfold Builtin.Int.intBits
  cases k with
  | zero => simp
  | succ k =>
    have h2 : 2 ^ (k + 1) = 2 * 2 ^ k := by rw [Nat.pow_succ]; omega
    have hp' : 0 < 2 ^ k := Nat.two_pow_pos k
    have hne : ((2 : Int) ^ (k + 1) - 1 == 0) = false := by
      rw [beq_eq_false_iff_ne]
      omega
    rw [hne, e]
    simp only [Bool.false_eq_true, if_false]
    have h : (2 ^ (k + 1) - 1).log2 = k := by
      rw [Nat.log2_eq_iff (by omega)]
      omega
    rw [h]

/-- the low ones -/
theorem low_ones (k : Nat) (a : Int) : Builtin.bitAnd (Builtin.bitNot (2 ^ k * (2 * a + 1))) (2 ^ k * (2 * a + 1) - 1) = 2 ^ k - 1 := by
  induction k with
  | zero =>
    rw [Int.pow_zero, Int.one_mul, kbt_halves]
    have e : Builtin.bitNot (2 * a + 1) = -(2 * a + 1) - 1 := rfl
    have e' : Builtin.bitNot a = -a - 1 := rfl
    have h1 : Builtin.bitNot (2 * a + 1) / 2 = Builtin.bitNot a := by rw [e, e']; omega
    have h2 : (2 * a + 1 - 1) / 2 = a := by omega
    rw [h1, h2, bitAnd_comm, bitAnd_not, bitAnd_self, if_neg (by omega)]
    omega
  | succ k ih =>
    have e : (2 : Int) ^ (k + 1) * (2 * a + 1) = 2 * (2 ^ k * (2 * a + 1)) := by
      rw [Int.pow_succ, Int.mul_comm (2 ^ k) 2, Int.mul_assoc]
    rw [e, kbt_halves]
    generalize hx : (2 : Int) ^ k * (2 * a + 1) = x at ih ⊢
    have e1 : Builtin.bitNot (2 * x) = -(2 * x) - 1 := rfl
    have e2 : Builtin.bitNot x = -x - 1 := rfl
    have h1 : Builtin.bitNot (2 * x) / 2 = Builtin.bitNot x := by rw [e1, e2]; omega
    have h2 : (2 * x - 1) / 2 = x - 1 := by omega
    rw [h1, h2, ih, if_pos (by rw [e1]; omega), Int.pow_succ]
    omega

theorem split_two : ∀ (m : Nat) (n : Int), n.natAbs = m → n ≠ 0 → ∃ (k : Nat) (a : Int), n = 2 ^ k * (2 * a + 1) := by
  intro m
  induction m using Nat.strongRecOn with
  | _ m ih =>
    intro n hm hn
    by_cases h : n % 2 = 1
    · exact ⟨0, n / 2, by rw [Int.pow_zero, Int.one_mul]; omega⟩
    · obtain ⟨k, a, e⟩ := ih (n / 2).natAbs (by omega) (n / 2) rfl (by omega)
      refine ⟨k + 1, a, ?_⟩
      rw [Int.pow_succ, Int.mul_comm (2 ^ k) 2, Int.mul_assoc, ← e]
      omega

theorem pow_split (k j : Nat) (h : j ≤ k) : (2 : Int) ^ k = 2 ^ j * 2 ^ (k - j) := by
  rw [← Int.pow_add]
  congr 1
  omega

theorem not_dvd (k : Nat) (a : Int) : ¬ ((2 : Int) ^ (k + 1) ∣ 2 ^ k * (2 * a + 1)) := by
  rintro ⟨c, hc⟩
  rw [Int.pow_succ, Int.mul_assoc] at hc
  have hp : (2 : Int) ^ k ≠ 0 := Int.ne_of_gt (kbt_pos k)
  have h := Int.eq_of_mul_eq_mul_left hp hc
  omega

theorem czb_spec (n b : Int) (hb : 0 ≤ b) : 0 ≤ czb n b ∧ czb n b ≤ b ∧ ((2 : Int) ^ (czb n b).toNat ∣ n) ∧ (czb n b < b → ¬ ((2 : Int) ^ ((czb n b).toNat + 1) ∣ n)) := by
  unfold czb
  by_cases hn : n = 0
  · rw [if_pos hn]
    subst hn
    exact ⟨hb, Int.le_refl _, ⟨0, by simp⟩, fun h => absurd h (by omega)⟩
  · rw [if_neg hn]
    obtain ⟨k, a, rfl⟩ := split_two _ n rfl hn
    rw [low_ones, bits_ones]
    have hm : (min b (k : Int)).toNat ≤ k := by omega
    refine ⟨by omega, by omega, ?_, ?_⟩
    · rw [pow_split k _ hm, Int.mul_assoc]
      exact ⟨_, rfl⟩
    · intro h
      have e : (min b (k : Int)).toNat = k := by omega
      rw [e]
      exact not_dvd k a

/-- as the walk says it -/
theorem czb_fact (n b : Int) (hb : 0 ≤ b) : 0 ≤ czb n b ∧ czb n b ≤ b ∧ n.fmod ((2 : Int) ^ (czb n b).toNat) = 0 ∧ (czb n b < b → n.fmod ((2 : Int) ^ (czb n b + 1).toNat) ≠ 0) := by
  obtain ⟨h1, h2, h3, h4⟩ := czb_spec n b hb
  refine ⟨h1, h2, ?_, ?_⟩
  · rw [Int.fmod_eq_emod_of_nonneg _ (Int.le_of_lt (kbt_pos _))]
    exact Int.emod_eq_zero_of_dvd h3
  · intro h h0
    rw [Int.fmod_eq_emod_of_nonneg _ (Int.le_of_lt (kbt_pos _))] at h0
    have e : (czb n b + 1).toNat = (czb n b).toNat + 1 := by omega
    rw [e] at h0
    exact h4 h (Int.dvd_of_emod_eq_zero h0)

/-! the fewest blocks -/
/-- as the loop of the law counts, over natural numbers, n turns at most -/
noncomputable def fewF : Nat → Nat → Nat → Nat
  | 0, _, _ => 0
  | n + 1, a, h => if a < h then a % 2 + h % 2 + fewF n ((a + 1) / 2) (h / 2) else 0
theorem fewF_succ (n a h : Nat) : fewF (n + 1) a h = if a < h then a % 2 + h % 2 + fewF n ((a + 1) / 2) (h / 2) else 0 := rfl
theorem fewF_none {a h : Nat} (q : ¬ a < h) : ∀ n, fewF n a h = 0
  | 0 => rfl
  | n + 1 => by rw [fewF_succ, if_neg q]
theorem fewF_same : ∀ (n m a h : Nat), h - a ≤ n → h - a ≤ m → fewF n a h = fewF m a h := by
  intro n
  induction n with
  | zero =>
    intro m a h hn _
    rw [fewF_none (show ¬ a < h by omega), fewF_none (show ¬ a < h by omega)]
  | succ n ih =>
    intro m a h hn hm
    by_cases q : a < h
    · cases m with
      | zero => omega
      | succ m => rw [fewF_succ, fewF_succ, if_pos q, if_pos q, ih m ((a + 1) / 2) (h / 2) (by omega) (by omega)]
    · rw [fewF_none q, fewF_none q]
/-- the count -/
noncomputable def fewN (a h : Nat) : Nat := fewF (h - a) a h

theorem fewN_step {a h : Nat} (q : a < h) : fewN a h = a % 2 + h % 2 + fewN ((a + 1) / 2) (h / 2) := by
  unfold fewN
  obtain ⟨k, hk⟩ : ∃ k, h - a = k + 1 := ⟨h - a - 1, by omega⟩
  rw [hk, fewF_succ, if_pos q, fewF_same k (h / 2 - (a + 1) / 2) _ _ (by omega) (by omega)]
theorem fewN_stop {a h : Nat} (q : ¬ a < h) : fewN a h = 0 := fewF_none q _

theorem fewN_le : ∀ (n a h : Nat), h < 2 ^ n → fewN a h ≤ 2 * n := by
  intro n
  induction n with
  | zero =>
    intro a h hh
    rw [Nat.pow_zero] at hh
    rw [fewN_stop (by omega)]
    omega
  | succ n ih =>
    intro a h hh
    rw [Nat.pow_succ] at hh
    by_cases q : a < h
    · rw [fewN_step q]
      have := ih ((a + 1) / 2) (h / 2) (by omega)
      omega
    · rw [fewN_stop q]; omega

/-- the block of size s at a is as great as it may be, below h -/
structure Grt (a h : Nat) (s : Nat) : Prop where
  dvd : 2 ^ s ∣ a
  fits : a + 2 ^ s ≤ h
  top : ¬ (2 ^ (s + 1) ∣ a) ∨ h < a + 2 ^ (s + 1)

theorem fewN_max : ∀ (s a h : Nat), Grt a h s → fewN a h = 1 + fewN (a + 2 ^ s) h := by
  intro s
  induction s with
  | zero =>
    rintro a h ⟨-, hf, ht⟩
    simp only [Nat.pow_zero, Nat.zero_add, Nat.pow_one] at hf ht ⊢
    rw [fewN_step (show a < h by omega)]
    by_cases ha : a % 2 = 1
    · by_cases q : a + 1 < h
      · rw [fewN_step q]
        have e : (a + 1 + 1) / 2 = (a + 1) / 2 := by omega
        rw [e]
        omega
      · rw [fewN_stop q, fewN_stop (show ¬ (a + 1) / 2 < h / 2 by omega)]
        omega
    · have : h = a + 1 := by
        rcases ht with ht | ht
        · exact absurd (Nat.dvd_of_mod_eq_zero (by omega)) ht
        · omega
      subst this
      rw [fewN_stop (show ¬ a + 1 < a + 1 by omega), fewN_stop (show ¬ (a + 1) / 2 < (a + 1) / 2 by omega)]
      omega
  | succ s ih =>
    rintro a h ⟨⟨c, hc⟩, hf, ht⟩
    have hp : 2 ^ (s + 1) = 2 * 2 ^ s := by rw [Nat.pow_succ]; omega
    have hp2 : 2 ^ (s + 1 + 1) = 2 * 2 ^ (s + 1) := by rw [Nat.pow_succ]; omega
    have hpos : 0 < 2 ^ s := Nat.two_pow_pos s
    have ea : a = 2 * (2 ^ s * c) := by rw [hc, hp, Nat.mul_assoc]
    generalize hy : 2 ^ s * c = y at ea
    have hM : Grt y (h / 2) s := by
      refine ⟨⟨c, hy.symm⟩, by omega, ?_⟩
      rcases ht with ht | ht
      · left
        rintro ⟨d, hd⟩
        refine ht ⟨d, ?_⟩
        rw [ea, hd, hp2, Nat.mul_assoc]
      · right; omega
    have h1 := ih y (h / 2) hM
    rw [fewN_step (show a < h by omega)]
    have e1 : (a + 1) / 2 = y := by omega
    rw [e1, h1]
    by_cases q : a + 2 ^ (s + 1) < h
    · rw [fewN_step q]
      have e2 : (a + 2 ^ (s + 1) + 1) / 2 = y + 2 ^ s := by omega
      rw [e2]
      omega
    · rw [fewN_stop q, fewN_stop (show ¬ y + 2 ^ s < h / 2 by omega)]
      omega

/-- the stretch from a, cut below h -/
inductive Cut (h : Nat) : Nat → List (Nat × Nat) → Nat → Prop
  | nil (a : Nat) : Cut h a [] a
  | snoc {a b s : Nat} {B : List (Nat × Nat)} : Cut h a B b → Grt b h s → Cut h a (B ++ [(b, s)]) (b + 2 ^ s)

theorem Cut.few {h a b : Nat} {B : List (Nat × Nat)} (c : Cut h a B b) : fewN a h = B.length + fewN b h := by
  induction c with
  | nil => simp
  | snoc _ m ih =>
    rw [ih, fewN_max _ _ _ m, List.length_append, List.length_singleton]
    omega

theorem Cut.le {h a b : Nat} {B : List (Nat × Nat)} (c : Cut h a B b) (q : a ≤ h) : b ≤ h := by
  cases c with
  | nil => exact q
  | snoc _ m => exact m.fits

/-- what the law asks of the list -/
structure Fine (B : List (Nat × Nat)) : Prop where
  dvd : ∀ (k : Nat) (p : Nat × Nat), B[k]? = some p → 2 ^ p.2 ∣ p.1
  two : ∀ (k : Nat) (p q : Nat × Nat), B[k]? = some p → B[k + 1]? = some q → p.2 = q.2 → ¬ (2 ^ (q.2 + 1) ∣ p.1)
  fall : ∀ (j k : Nat) (p q p' q' : Nat × Nat), j < k → B[j]? = some p → B[j + 1]? = some q → q.2 < p.2 → B[k]? = some p' → B[k + 1]? = some q' → q'.2 ≤ p'.2

theorem max_dvd {a h s t : Nat} (m : Grt a h s) (ht : 2 ^ t ∣ a) (hs : s < t) : h < a + 2 ^ (s + 1) := by
  rcases m.top with q | q
  · exact absurd (Nat.dvd_trans (Nat.pow_dvd_pow 2 (by omega)) ht) q
  · exact q

/-- while it is cut: the last block, and the room behind a fall -/
structure Run (h : Nat) (B : List (Nat × Nat)) (b : Nat) : Prop where
  fine : Fine B
  last : ∀ (p : Nat × Nat), B[B.length - 1]? = some p → b = p.1 + 2 ^ p.2 ∧ 2 ^ p.2 ∣ b ∧ Grt p.1 h p.2
  fell : ∀ (j : Nat) (p q r : Nat × Nat), B[j]? = some p → B[j + 1]? = some q → q.2 < p.2 → B[B.length - 1]? = some r → h < b + 2 ^ r.2

theorem Cut.run {h a b : Nat} {B : List (Nat × Nat)} (c : Cut h a B b) : Run h B b := by
  induction c with
  | nil => exact ⟨⟨fun k p e => by simp at e, fun k p q e => by simp at e, fun j k p q _ _ _ e => by simp at e⟩, fun p e => by simp at e, fun j p q r e => by simp at e⟩
  | @snoc b s B c m ih =>
    obtain ⟨⟨f1, f2, f3⟩, hl, hfell⟩ := ih
    -- an item of the longer list
    have get : ∀ k p, (B ++ [(b, s)])[k]? = some p → (k < B.length ∧ B[k]? = some p) ∨ (k = B.length ∧ p = (b, s)) := by
      intro k p e
      rcases Nat.lt_trichotomy k B.length with q | q | q
      · left; rw [List.getElem?_append_left q] at e; exact ⟨q, e⟩
      · right; subst q; simp at e; exact ⟨rfl, e.symm⟩
      · rw [List.getElem?_eq_none (by simp; omega)] at e; cases e
    -- the block before the new one
    have prev : ∀ k p, k + 1 = B.length → B[k]? = some p → b = p.1 + 2 ^ p.2 ∧ 2 ^ p.2 ∣ b ∧ Grt p.1 h p.2 := by
      intro k p hk e
      refine hl p ?_
      have : B.length - 1 = k := by omega
      rw [this]; exact e
    have pw : ∀ i : Nat, 2 ^ (i + 1) = 2 * 2 ^ i := fun i => by rw [Nat.pow_succ]; omega
    -- a block behind a fall is smaller
    have small : ∀ j p q k p', B[j]? = some p → B[j + 1]? = some q → q.2 < p.2 → k + 1 = B.length → B[k]? = some p' → s < p'.2 := by
      intro j p q k p' e1 e2 hlt hk e3
      have e3' : B[B.length - 1]? = some p' := by
        have : B.length - 1 = k := by omega
        rw [this]; exact e3
      have h1 := hfell j p q p' e1 e2 hlt e3'
      have h2 := m.fits
      exact (Nat.pow_lt_pow_iff_right (by decide : 1 < 2)).mp (by omega)
    -- where it falls, little is left
    have left_ : ∀ k p, k + 1 = B.length → B[k]? = some p → s < p.2 → h < b + 2 ^ s + 2 ^ s := by
      intro k p hk e hlt
      obtain ⟨-, hd, -⟩ := prev k p hk e
      have := max_dvd m hd hlt
      rw [pw] at this
      omega
    refine ⟨⟨?_, ?_, ?_⟩, ?_, ?_⟩
    · intro k p e
      rcases get k p e with ⟨_, e⟩ | ⟨_, rfl⟩
      · exact f1 k p e
      · exact m.dvd
    · intro k p q e1 e2 he hd
      rcases get (k + 1) q e2 with ⟨_, e2⟩ | ⟨hk, rfl⟩
      · rcases get k p e1 with ⟨_, e1⟩ | ⟨hk', _⟩
        · exact f2 k p q e1 e2 he hd
        · omega
      · rcases get k p e1 with ⟨_, e1⟩ | ⟨hk', _⟩
        · obtain ⟨hb, -, hM⟩ := prev k p hk e1
          have he' : p.2 = s := he
          have hd' : 2 ^ (s + 1) ∣ p.1 := hd
          have hf := m.fits
          rcases hM.top with t | t
          · rw [he'] at t; exact t hd'
          · rw [he', pw] at t
            rw [he'] at hb
            omega
        · omega
    · intro j k p q p' q' hjk e1 e2 hlt e3 e4
      rcases get (k + 1) q' e4 with ⟨hk, e4⟩ | ⟨hk, rfl⟩
      · rcases get k p' e3 with ⟨_, e3⟩ | ⟨hk', _⟩
        · rcases get j p e1 with ⟨_, e1⟩ | ⟨hj, _⟩
          · rcases get (j + 1) q e2 with ⟨_, e2⟩ | ⟨hj, _⟩
            · exact f3 j k p q p' q' hjk e1 e2 hlt e3 e4
            · omega
          · omega
        · omega
      · rcases get k p' e3 with ⟨_, e3⟩ | ⟨hk', _⟩
        · rcases get j p e1 with ⟨_, e1⟩ | ⟨hj, _⟩
          · rcases get (j + 1) q e2 with ⟨_, e2⟩ | ⟨hj, _⟩
            · exact Nat.le_of_lt (small j p q k p' e1 e2 hlt hk e3)
            · omega
          · omega
        · omega
    · intro p e
      have e0 : (B ++ [(b, s)]).length - 1 = B.length := by simp
      rw [e0] at e
      rcases get _ p e with ⟨hk, _⟩ | ⟨_, rfl⟩
      · omega
      · refine ⟨rfl, ?_, m⟩
        exact (Nat.dvd_add_right m.dvd).mpr (Nat.dvd_refl _)
    · intro j p q r e1 e2 hlt e3
      have e0 : (B ++ [(b, s)]).length - 1 = B.length := by simp
      rw [e0] at e3
      rcases get _ r e3 with ⟨hk, _⟩ | ⟨_, rfl⟩
      · omega
      · show h < b + 2 ^ s + 2 ^ s
        rcases get j p e1 with ⟨hj, e1⟩ | ⟨hj, rfl⟩
        · rcases get (j + 1) q e2 with ⟨hj', e2⟩ | ⟨hj', rfl⟩
          · have ex : ∃ p', B[B.length - 1]? = some p' := ⟨_, List.getElem?_eq_getElem (by omega)⟩
            obtain ⟨p', e4⟩ := ex
            exact left_ (B.length - 1) p' (by omega) e4 (small j p q (B.length - 1) p' e1 e2 hlt (by omega) e4)
          · exact left_ j p hj' e1 hlt
        · rcases get (j + 1) q e2 with ⟨hj', _⟩ | ⟨hj', _⟩
          · omega
          · omega

end Mine46

/-! rules of the walk -/
namespace Mine46
section
open PySem.Spec PySem.Calls
theorem two_ints {ns : List Int} {vs : List Value} (hi : IntsAre vs (List.take 2 (ns ++ [0, 0]))) : ∃ a b t u, vs = [.int a t, .int b u] := by
  have key : ∀ (l : List Int), l.length = 2 → IntsAre vs l → ∃ a b t u, vs = [.int a t, .int b u] := by
    intro l hl hv
    match l, hl with
    | [x, y], _ =>
      obtain ⟨t, us, e1, h1⟩ := IntsAre.cons_inv hv
      obtain ⟨u, ws, e2, h2⟩ := IntsAre.cons_inv h1
      rw [e1, e2, IntsAre.nil_inv h2]
      exact ⟨x, y, t, u, rfl⟩
  exact key _ (by simp) hi
section
variable {prog : Program} {w : World} {A : Around} {E : Value → Shared → Prop} {s : Shared} {env : Env} {h₀ : Heap} {L l : Addr} {m : Str → Option Value} {news : List (Addr × Obj)} {elts : List Expr} {k : Nat} {pos : Pos}
theorem two_unpack {ns : List Int} {vs : List Value} {c : Nat} {Q : Unit → Shared → Prop} (F : Fr h₀ L s.heap m) (N : News h₀ L s.heap news) (hm : (l, listOf vs.toArray c) ∈ news) (hi : IntsAre vs (List.take 2 (ns ++ [0, 0]))) (hh : A.handled = none)
    (hn : (assignEach elts env).length = 2) (hstar : (assignEach elts env).findIdx? (·.1) = none)
    (h : ∀ (a b : Int) (t u : Tok) h', Fr h₀ L h' m → News h₀ L h' news → wpAny (model prog w) A (assignInOrder ((assignEach elts env).map (·.2)) [.int a t, .int b u]) Q E { s with heap := h' }) :
    wpAny (model prog w) A (assign (.Tuple elts k pos) env (.ref l)) Q E s := by
  obtain ⟨a, b, t, u, rfl⟩ := two_ints hi
  exact kun_list F N (News.isList N hm) hh (by rw [hn]; rfl) hstar fun h' F' N' => h a b t u h' F' N'
end

section
variable {prog : Program} {w : World} {A : Around} {E : Value → Shared → Prop} {s : Shared}
/-- a remainder by a positive number, its bounds alone -/
theorem mod_bounds {c : Prop} {i : Decidable c} {x y b : Int} {t u : Tok} {Q : Value → Shared → Prop} (hb : 0 < b) (h : ∀ r, 0 ≤ r → r < b → Q (.int r s.toks) { s with toks := s.toks + 1 }) :
    wpAny (model prog w) A (binaryOp .Mod (.int (@ite Int c i x y) t) (.int b u)) Q E s := by
  generalize @ite Int c i x y = a
  have e : a.fmod b = a % b := Int.fmod_eq_emod_of_nonneg _ (Int.le_of_lt hb)
  exact mod_int' (Int.ne_of_gt hb) (h _ (by rw [e]; exact Int.emod_nonneg _ (by omega)) (by rw [e]; exact Int.emod_lt_of_pos _ hb))
end

/-- a block as the law's list bears it -/
def datOf (p : Nat × Nat) : Dat := .tuple [.int p.1, .int p.2]

/-- what holds while the stretch is cut -/
def BlkWord (H a b : Int) (ds : List Dat) : Prop := 0 ≤ a ∧ a ≤ b ∧ b ≤ H ∧ H ≤ 2 ^ 128 ∧ ∃ B, ds = B.map datOf ∧ Cut H.toNat a.toNat B b.toNat

theorem BlkWord.start {H a : Int} (h0 : 0 ≤ a) (h1 : a ≤ H) (h2 : H ≤ 2 ^ 128) : BlkWord H a a [] :=
  ⟨h0, Int.le_refl _, h1, h2, [], rfl, .nil _⟩

theorem BlkWord.len {H a b : Int} {ds : List Dat} (h : BlkWord H a b ds) : ds.length ≤ 258 := by
  obtain ⟨h0, h1, h2, h3, B, rfl, c⟩ := h
  have e := c.few
  have l := fewN_le 129 a.toNat H.toNat (by
    have : (2 : Nat) ^ 129 = 2 * 2 ^ 128 := by decide
    omega)
  rw [List.length_map]
  omega

theorem BlkWord.turn {H a b sz : Int} {ds : List Dat} (h : BlkWord H a b ds) (hs : 0 ≤ sz) (m : Grt b.toNat H.toNat sz.toNat) :
    BlkWord H a (b + 2 ^ sz.toNat) (ds ++ [.tuple [.int b, .int sz]]) := by
  obtain ⟨h0, h1, h2, h3, B, rfl, c⟩ := h
  have hp := kbt_pos sz.toNat
  have hc := kbt_cast sz.toNat
  have hf := m.fits
  have e : (b + 2 ^ sz.toNat).toNat = b.toNat + 2 ^ sz.toNat := by omega
  refine ⟨h0, by omega, by omega, h3, B ++ [(b.toNat, sz.toNat)], ?_, ?_⟩
  · rw [List.map_append]
    simp only [datOf, List.map_cons, List.map_nil]
    rw [Int.toNat_of_nonneg hs, Int.toNat_of_nonneg (by omega)]
  · rw [e]
    exact .snoc c m

def BlkEnd (h₀ : Heap) (L : Addr) (s : Shared) (l : Addr) (cst : List (Addr × Obj)) (m₀ : Str → Option Value) (H a b : Int) (s₂ : Shared) : Prop :=
  ∃ (b' : Int) (t' : Tok) (vs' : List Value) (ds' : List Dat) (cn' : Nat) (tl' : List (Addr × Obj)) (h' : Heap) (tk : Nat) (m' : Str → Option Value) (news' : List (Addr × Obj)),
    s₂ = { s with heap := h', toks := tk } ∧ Fr h₀ L h' m' ∧ News h₀ L h' news' ∧ (∀ p ∈ (l, listOf vs'.toArray cn') :: (cst ++ tl'), p ∈ news') ∧ OwnOff tl' (l :: cst.map (·.1)) ∧ DatAll (cst ++ tl') vs' ds' ∧
    m' (Str.ofString "at") = some (.int b' t') ∧ (∀ z, z ≠ Str.ofString "at" → [Str.ofString "room", Str.ofString "size"].contains z = false → m' z = m₀ z) ∧ BlkWord H a b' ds' ∧ b < b'
def BlkPost (h₀ : Heap) (L : Addr) (s : Shared) (l : Addr) (cst : List (Addr × Obj)) (m₀ : Str → Option Value) (H a b : Int) (Q : Flow → Shared → Prop) (f : Flow) (s₂ : Shared) : Prop :=
  match f with
  | .ret v => Q (.ret v) s₂
  | .brk => Q .next s₂
  | _ => BlkEnd h₀ L s l cst m₀ H a b s₂

section
variable {prog : Program} {w : World} {A : Around} {E : Value → Shared → Prop} {Q : Flow → Shared → Prop} {s : Shared} {env : Env} {h₀ : Heap} {L : Addr}

theorem blk_end {l x : Addr} {cst tl : List (Addr × Obj)} {m₀ m' : Str → Option Value} {H a b sz : Int} {vs : List Value} {ds : List Dat} {cn c2 : Nat} {h' : Heap} {tk : Nat} {news' : List (Addr × Obj)} {t' t1 t2 : Tok}
    (F : Fr h₀ L h' m') (N : News h₀ L h' news') (hl : (l, listOf (vs.toArray.push (Value.ref x)) cn) ∈ news') (hx : (x, ({ cls := .type "tuple", data := .seq #[Value.int b t1, Value.int sz t2] c2 } : Obj)) ∈ news') (hs : ∀ p ∈ cst ++ tl, p ∈ news')
    (hoff : OwnOff tl (l :: cst.map (·.1))) (hxo : ∀ c ∈ l :: cst.map (·.1), c ≠ x) (hd : DatAll (cst ++ tl) vs ds) (hk : m' (Str.ofString "at") = some (.int (b + 2 ^ sz.toNat) t'))
    (hr : ∀ z, z ≠ Str.ofString "at" → [Str.ofString "room", Str.ofString "size"].contains z = false → m' z = m₀ z) (hw : BlkWord H a b ds) (h0 : 0 ≤ sz) (hm : Grt b.toNat H.toNat sz.toNat) :
    BlkEnd h₀ L s l cst m₀ H a b { s with heap := h', toks := tk } := by
  have hp := kbt_pos sz.toNat
  simp only [List.push_toArray] at hl
  refine ⟨_, t', vs ++ [Value.ref x], _, cn, (x, ({ cls := .type "tuple", data := .seq #[Value.int b t1, Value.int sz t2] c2 } : Obj)) :: tl, h', tk, m', news', rfl, F, N, ?_, ?_, ?_, hk, hr, hw.turn h0 hm, by omega⟩
  · intro p hp
    rcases List.mem_cons.mp hp with rfl | hp
    · exact hl
    · rcases List.mem_append.mp hp with hp | hp
      · exact hs p (List.mem_append.mpr (.inl hp))
      · rcases List.mem_cons.mp hp with rfl | hp
        · exact hx
        · exact hs p (List.mem_append.mpr (.inr hp))
  · intro p hp c hc
    rcases List.mem_cons.mp hp with rfl | hp
    · exact fun e => hxo c hc e.symm
    · exact hoff p hp c hc
  · refine DatAll.append (DatAll.mono ?_ hd) (DatAll.one (.tuple (List.mem_append.mpr (.inr (.head _))) (.cons (.int _ _) (.cons (.int _ _) .nil))))
    intro p hp
    rcases List.mem_append.mp hp with hp | hp
    · exact List.mem_append.mpr (.inl hp)
    · exact List.mem_append.mpr (.inr (.tail _ hp))

theorem blk_while {l : Addr} {test : Expr} {body : List Stmt} {pos : Pos} {m₀ : Str → Option Value} {y a : Int} {t₀ t₁ : Tok} {c₀ : Nat} (cst : List (Addr × Obj))
    (F : Fr h₀ L s.heap m₀) (N : News h₀ L s.heap ((l, listOf #[] c₀) :: cst)) (hat : m₀ (Str.ofString "at") = some (.int a t₀)) (hla : m₀ (Str.ofString "last") = some (.int y t₁)) (hw : BlkWord (y + 1) a a [])
    (turn : ∀ (b : Int) (t : Tok) (vs : List Value) (ds : List Dat) (cn : Nat) (tl : List (Addr × Obj)) (u : Str → Option Value) h tk,
      OwnOff tl (l :: cst.map (·.1)) → DatAll (cst ++ tl) vs ds → BlkWord (y + 1) a b ds → 0 ≤ b → b ≤ (y + 1) → ds.length ≤ 258 → vs.length ≤ 258 → vs.length = ds.length →
      Fr h₀ L h (fun y => if y = Str.ofString "at" then some (.int b t) else if [Str.ofString "room", Str.ofString "size"].contains y then u y else m₀ y) → News h₀ L h ((l, listOf vs.toArray cn) :: (cst ++ tl)) →
      wpAny (model prog w) A (isTrue test env (eval test env)) (fun bb s₂ =>
        if bb = true then wpAny (model prog w) A (execs body env) (BlkPost h₀ L s l cst m₀ (y + 1) a b Q) E s₂ else Q .next s₂) E { s with heap := h, toks := tk })
    (hE : PassesOwn (model prog w) A env E := by passes_own) :
    wpAny (model prog w) A (exec (.While test body [] pos) env) Q E s := by
  refine While_inv2 (n₀ := ((y + 1) - a).toNat) (fun n m nx => ∃ (b : Int) (t : Tok) (vs : List Value) (ds : List Dat) (cn : Nat) (tl : List (Addr × Obj)),
    nx = (l, listOf vs.toArray cn) :: (cst ++ tl) ∧ n = ((y + 1) - b).toNat ∧ OwnOff tl (l :: cst.map (·.1)) ∧ DatAll (cst ++ tl) vs ds ∧ BlkWord (y + 1) a b ds ∧ m (Str.ofString "at") = some (.int b t) ∧
    (∀ z, z ≠ Str.ofString "at" → [Str.ofString "room", Str.ofString "size"].contains z = false → m z = m₀ z)) F N
    ⟨a, t₀, [], [], c₀, [], by rw [List.append_nil], rfl, fun _ hp => (nomatch hp), .nil, hw, hat, fun _ _ _ => rfl⟩ ?_ hE
  rintro n m₁ nx h tk F₁ N₁ ⟨b, t, vs, ds, cn, tl, rfl, rfl, hoff, hd, hw', hb, hr⟩
  have em : (fun y => if y = Str.ofString "at" then some (Value.int b t) else if [Str.ofString "room", Str.ofString "size"].contains y then m₁ y else m₀ y) = m₁ := by
    funext y
    by_cases e1 : y = Str.ofString "at"
    · rw [if_pos e1, e1, hb]
    · rw [if_neg e1]
      cases e2 : [Str.ofString "room", Str.ofString "size"].contains y with
      | true => rw [if_pos rfl]
      | false => rw [if_neg (by decide)]; exact (hr y e1 e2).symm
  have hl := hd.length
  have hlen := hw'.len
  have hw9 := hw'
  obtain ⟨w0, w1, w2, w3, _⟩ := hw9
  refine wpAny_mono (turn b t vs ds cn tl m₁ h tk hoff hd hw' (by omega) w2 hlen (by omega) hl (by rw [em]; exact F₁) N₁) (fun bb s₂ p => ?_) fun _ _ x => x
  cases bb with
  | false => simpa using p
  | true =>
    simp only [if_true] at p ⊢
    refine wpAny_mono p (fun f s₃ q => ?_) fun _ _ x => x
    have up : BlkEnd h₀ L s l cst m₀ (y + 1) a b s₃ → WhileStep2 h₀ L s (fun n m nx => ∃ (b : Int) (t : Tok) (vs : List Value) (ds : List Dat) (cn : Nat) (tl : List (Addr × Obj)),
        nx = (l, listOf vs.toArray cn) :: (cst ++ tl) ∧ n = ((y + 1) - b).toNat ∧ OwnOff tl (l :: cst.map (·.1)) ∧ DatAll (cst ++ tl) vs ds ∧ BlkWord (y + 1) a b ds ∧ m (Str.ofString "at") = some (.int b t) ∧
        (∀ z, z ≠ Str.ofString "at" → [Str.ofString "room", Str.ofString "size"].contains z = false → m z = m₀ z)) Q ((y + 1) - b).toNat .next s₃ := by
      rintro ⟨b', t', vs', ds', cn', tl', h', tk', m', news', rfl, F', N', hn, hoff', hd', hb', hr', hw'', hlt⟩
      have hw9 := hw''
      obtain ⟨v0, v1, v2, v3, _⟩ := hw9
      exact ⟨h', tk', m', _, ((y + 1) - b').toNat, rfl, F', fun p hp => N' p (hn p hp), by omega, b', t', vs', ds', cn', tl', rfl, rfl, hoff', hd', hw'', hb', hr'⟩
    cases f with
    | ret v => exact q
    | brk => exact q
    | next => exact up q
    | cont => exact up q
end

/-- the size that the law takes -/
theorem size_grt {H b room sz : Int} (h0 : 0 ≤ b) (hH : H ≤ 2 ^ 128) (hr0 : 0 ≤ room) (hr : 2 ^ room.toNat ≤ H - b) (hr' : H - b < 2 ^ (room + 1).toNat) (hs : sz = if room < czb b 128 then room else czb b 128) :
    0 ≤ sz ∧ Grt b.toNat H.toNat sz.toNat := by
  obtain ⟨c1, c2, c3, c4⟩ := czb_spec b 128 (by decide)
  have hs : sz = min (czb b 128) room := by
    rw [hs]
    split <;> omega
  have cast : ∀ k : Nat, ((2 ^ k : Nat) : Int) = (2 : Int) ^ k := kbt_cast
  have hb : ((b.toNat : Nat) : Int) = b := Int.toNat_of_nonneg h0
  have dv : ∀ k : Nat, (2 ^ k ∣ b.toNat) ↔ ((2 : Int) ^ k ∣ b) := by
    intro k
    rw [← cast, ← Int.natCast_dvd_natCast, hb]
  have hs0 : 0 ≤ sz := by omega
  have hle : 2 ^ sz.toNat ≤ 2 ^ room.toNat := Nat.pow_le_pow_right (by decide) (by omega)
  have e1 := cast sz.toNat
  have e2 := cast room.toNat
  refine ⟨hs0, ?_, ?_, ?_⟩
  · rw [dv]
    exact Int.dvd_trans (by rw [← cast, ← cast]; exact Int.natCast_dvd_natCast.mpr (Nat.pow_dvd_pow 2 (by omega))) c3
  · omega
  · by_cases q : czb b 128 ≤ room
    · have es : sz = czb b 128 := by omega
      by_cases q2 : czb b 128 < 128
      · left
        rw [dv, es]
        exact c4 q2
      · right
        have e3 : sz.toNat + 1 = 129 := by omega
        rw [e3]
        have : (2 : Nat) ^ 129 = 2 * 2 ^ 128 := by decide
        omega
    · have es : sz = room := by omega
      right
      have e3 : (room + 1).toNat = sz.toNat + 1 := by omega
      rw [e3, ← cast] at hr'
      omega

/-- a turn's end, as the walk hands it on -/
theorem blk_close {h₀ : Heap} {L l x : Addr} {s : Shared} {Q : Flow → Shared → Prop} {cst tl : List (Addr × Obj)} {m₀ m' : Str → Option Value} {y a b room : Int} {vs : List Value} {ds : List Dat} {cn c2 : Nat} {h' : Heap} {tk : Nat} {news' : List (Addr × Obj)} {t' t1 t2 : Tok}
    (F : Fr h₀ L h' m') (N : News h₀ L h' news') (hl : (l, listOf (vs.toArray.push (Value.ref x)) cn) ∈ news') (hx : (x, ({ cls := .type "tuple", data := .seq #[Value.int b t1, Value.int (if room < czb b 128 then room else czb b 128) t2] c2 } : Obj)) ∈ news') (hs : ∀ p ∈ cst ++ tl, p ∈ news')
    (hoff : OwnOff tl (l :: cst.map (·.1))) (hxo : ∀ c ∈ l :: cst.map (·.1), c ≠ x) (hd : DatAll (cst ++ tl) vs ds) (hk : m' (Str.ofString "at") = some (.int (b + 2 ^ (if room < czb b 128 then room else czb b 128).toNat) t'))
    (hr : ∀ z, z ≠ Str.ofString "at" → [Str.ofString "room", Str.ofString "size"].contains z = false → m' z = m₀ z) (hw : BlkWord (y + 1) a b ds)
    (hr0 : 0 ≤ room) (hr1 : (2 : Int) ^ room.toNat ≤ y - b + 1) (hr2 : ¬ (2 : Int) ^ (room + 1).toNat ≤ y - b + 1) :
    BlkPost h₀ L s l cst m₀ (y + 1) a b Q .next { s with heap := h', toks := tk } := by
  have hw9 := hw
  obtain ⟨w0, w1, w2, w3, _⟩ := hw9
  obtain ⟨g1, g2⟩ := size_grt (H := y + 1) (b := b) (room := room) (by omega) w3 hr0 (by omega) (by omega) rfl
  exact blk_end F N hl hx hs hoff hxo hd hk hr hw g1 g2

/-- the search for the room -/
theorem room_start {x y : Int} (h : x ≤ y) : (0 : Int) ≤ 0 ∧ (0 : Int) ≤ 128 ∧ (2 : Int) ^ (0 : Int).toNat ≤ y - x + 1 := by
  refine ⟨by decide, by decide, ?_⟩
  have : (2 : Int) ^ (0 : Int).toNat = 1 := rfl
  omega
theorem room_less {r : Int} (h : r ≤ 128) : (200 - (r + 1)).toNat < (200 - r).toNat := by omega
theorem room_turn {x y r : Int} (h0 : 0 ≤ x) (hy : y + 1 ≤ 2 ^ 128) (hr : 0 ≤ r) (ht : (2 : Int) ^ (r + 1).toNat ≤ y - x + 1) : 0 ≤ r + 1 ∧ r + 1 ≤ 128 ∧ (2 : Int) ^ (r + 1).toNat ≤ y - x + 1 := by
  refine ⟨by omega, ?_, ht⟩
  by_cases q : r + 1 ≤ 128
  · exact q
  · exfalso
    have c1 := kbt_cast (r + 1).toNat
    have h1 : 2 ^ 129 ≤ 2 ^ (r + 1).toNat := Nat.pow_le_pow_right (by decide) (by omega)
    have : (2 : Nat) ^ 129 = 2 * 2 ^ 128 := by decide
    omega

/-! the count -/
noncomputable def few (l h : Int) : Int := (fewN l.toNat h.toNat : Nat)

theorem fdiv2 (x : Int) : x.fdiv 2 = x / 2 := Int.fdiv_eq_ediv_of_nonneg _ (by decide)
theorem fmod2 (x : Int) : x.fmod 2 = x % 2 := Int.fmod_eq_emod_of_nonneg _ (by decide)

theorem few_step {l h : Int} (hl : 0 ≤ l) (hlt : l < h) : few l h = l % 2 + h % 2 + few ((l + 1) / 2) (h / 2) := by
  unfold few
  rw [fewN_step (show l.toNat < h.toNat by omega)]
  have e1 : ((l + 1) / 2).toNat = (l.toNat + 1) / 2 := by omega
  have e2 : (h / 2).toNat = h.toNat / 2 := by omega
  rw [e1, e2]
  omega
theorem few_stop {l h m K : Int} (e : m + few l h = K) (h9 : ¬ l < h) : m = K := by
  unfold few at e
  rw [fewN_stop (show ¬ l.toNat < h.toNat by omega)] at e
  omega

theorem few_start {l h : Int} (q : 0 ≤ l ∧ 0 ≤ h) : 0 ≤ l ∧ 0 ≤ h ∧ 0 + few l h = few l h := ⟨q.1, q.2, Int.zero_add _⟩
section
variable {l h m K : Int} (hl : 0 ≤ l) (hh : 0 ≤ h) (hlt : l < h)
include hl hh hlt
theorem few11 (e : m + few l h = K) (p : l.fmod 2 = 1) (q : h.fmod 2 = 1) : 0 ≤ (l + 1).fdiv 2 ∧ 0 ≤ (h - 1).fdiv 2 ∧ m + 1 + 1 + few ((l + 1).fdiv 2) ((h - 1).fdiv 2) = K := by
  rw [fmod2] at p q
  rw [few_step hl hlt] at e
  rw [fdiv2, fdiv2]
  have e1 : (h - 1) / 2 = h / 2 := by omega
  rw [e1]
  omega
theorem few10 (e : m + few l h = K) (p : l.fmod 2 = 1) (q : h.fmod 2 ≠ 1) : 0 ≤ (l + 1).fdiv 2 ∧ 0 ≤ h.fdiv 2 ∧ m + 1 + few ((l + 1).fdiv 2) (h.fdiv 2) = K := by
  rw [fmod2] at p q
  rw [few_step hl hlt] at e
  rw [fdiv2, fdiv2]
  omega
theorem few01 (e : m + few l h = K) (p : l.fmod 2 ≠ 1) (q : h.fmod 2 = 1) : 0 ≤ l.fdiv 2 ∧ 0 ≤ (h - 1).fdiv 2 ∧ m + 1 + few (l.fdiv 2) ((h - 1).fdiv 2) = K := by
  rw [fmod2] at p q
  rw [few_step hl hlt] at e
  rw [fdiv2, fdiv2]
  have e1 : (h - 1) / 2 = h / 2 := by omega
  have e2 : (l + 1) / 2 = l / 2 := by omega
  rw [e2] at e
  rw [e1]
  omega
theorem few00 (e : m + few l h = K) (p : l.fmod 2 ≠ 1) (q : h.fmod 2 ≠ 1) : 0 ≤ l.fdiv 2 ∧ 0 ≤ h.fdiv 2 ∧ m + few (l.fdiv 2) (h.fdiv 2) = K := by
  rw [fmod2] at p q
  rw [few_step hl hlt] at e
  rw [fdiv2, fdiv2]
  have e2 : (l + 1) / 2 = l / 2 := by omega
  rw [e2] at e
  omega
theorem less11 (p : l.fmod 2 = 1) (q : h.fmod 2 = 1) : ((h - 1).fdiv 2 - (l + 1).fdiv 2).toNat < (h - l).toNat := by
  rw [fdiv2, fdiv2]; omega
theorem less10 (p : l.fmod 2 = 1) (q : h.fmod 2 ≠ 1) : (h.fdiv 2 - (l + 1).fdiv 2).toNat < (h - l).toNat := by
  rw [fdiv2, fdiv2]; omega
theorem less01 (p : l.fmod 2 ≠ 1) (q : h.fmod 2 = 1) : ((h - 1).fdiv 2 - l.fdiv 2).toNat < (h - l).toNat := by
  rw [fdiv2, fdiv2]; omega
theorem less00 (p : l.fmod 2 ≠ 1) (q : h.fmod 2 ≠ 1) : (h.fdiv 2 - l.fdiv 2).toNat < (h - l).toNat := by
  rw [fmod2] at p q
  rw [fdiv2, fdiv2]; omega
end

/-- the cut, counted -/
theorem BlkWord.few {H a b : Int} {ds : List Dat} (h : BlkWord H a b ds) (hb : H ≤ b) : (ds.length : Int) = few a H := by
  obtain ⟨h0, h1, h2, h3, B, rfl, c⟩ := h
  have e := c.few
  rw [fewN_stop (show ¬ b.toNat < H.toNat by omega)] at e
  unfold Mine46.few
  rw [e, List.length_map]
  omega

/-! what the last loop asks -/
def FineD (ds : List Dat) : Prop := ∃ B : List (Nat × Nat), ds = B.map datOf ∧ Fine B
def FellD (ds : List Dat) (n : Nat) : Prop := ∃ (B : List (Nat × Nat)) (j : Nat) (p q : Nat × Nat), ds = B.map datOf ∧ j + 1 < n ∧ B[j]? = some p ∧ B[j + 1]? = some q ∧ q.2 < p.2

theorem datOf_inj {p q : Nat × Nat} (h : datOf p = datOf q) : p = q := by
  simp only [datOf, Dat.tuple.injEq, List.cons.injEq, Dat.int.injEq, and_true] at h
  exact Prod.ext (by omega) (by omega)
theorem map_inj {B C : List (Nat × Nat)} (h : B.map datOf = C.map datOf) : B = C := by
  induction B generalizing C with
  | nil => cases C with
    | nil => rfl
    | cons => cases h
  | cons p B ih => cases C with
    | nil => cases h
    | cons q C =>
      simp only [List.map_cons, List.cons.injEq] at h
      rw [datOf_inj h.1, ih h.2]

theorem item_of {B : List (Nat × Nat)} {k : Nat} {x y : Int} (h : (B.map datOf)[k]? = some (.tuple [.int x, .int y])) : ∃ p, B[k]? = some p ∧ x = p.1 ∧ y = p.2 := by
  rw [List.getElem?_map] at h
  cases e : B[k]? with
  | none => rw [e] at h; cases h
  | some p =>
    rw [e] at h
    simp only [Option.map_some, datOf, Option.some.injEq, Dat.tuple.injEq, List.cons.injEq, Dat.int.injEq, and_true] at h
    exact ⟨p, rfl, h.1.symm, h.2.symm⟩

theorem Cut.small {h a b : Nat} {B : List (Nat × Nat)} (c : Cut h a B b) (hh : h ≤ 2 ^ 128) : ∀ p ∈ B, p.2 ≤ 128 := by
  induction c with
  | nil => intro p hp; cases hp
  | snoc _ m ih =>
    intro p hp
    rcases List.mem_append.mp hp with hp | hp
    · exact ih p hp
    · rw [List.mem_singleton.mp hp]
      exact (Nat.pow_le_pow_iff_right (by decide : 1 < 2)).mp (Nat.le_trans (Nat.le_trans (Nat.le_add_left _ _) m.fits) hh)

/-- behind the cut -/
theorem BlkWord.fine {H a b : Int} {ds : List Dat} (h : BlkWord H a b ds) :
    FineD ds ∧ (∀ d ∈ ds, ∃ x y : Int, d = Dat.tuple [Dat.int x, Dat.int y] ∧ 0 ≤ y ∧ y ≤ 128 ∧ x.fmod ((2 : Int) ^ y.toNat) = 0) := by
  obtain ⟨h0, h1, h2, h3, B, rfl, c⟩ := h
  refine ⟨⟨B, rfl, c.run.fine⟩, ?_⟩
  intro d hd
  obtain ⟨p, hp, rfl⟩ := List.mem_map.mp hd
  refine ⟨p.1, p.2, rfl, by omega, ?_, ?_⟩
  · have := c.small (by omega) p hp
    omega
  · obtain ⟨k, hk⟩ := List.getElem?_of_mem hp
    have hdv := c.run.fine.dvd k p hk
    rw [Int.fmod_eq_emod_of_nonneg _ (Int.le_of_lt (kbt_pos _))]
    refine Int.emod_eq_zero_of_dvd ?_
    rw [← kbt_cast, Int.toNat_natCast]
    exact Int.natCast_dvd_natCast.mpr hdv

/-- of what was cut: a fall ahead of the place n -/
abbrev fellOf {H a b : Int} {ds : List Dat} (_ : BlkWord H a b ds) (n : Nat) : Prop := FellD ds n

/-- behind a fall none is greater -/
theorem no_rise {ds : List Dat} {n : Nat} {k : Int} {x y x' y' : Int} (hf : FineD ds) (hfe : FellD ds n) (hn : (n : Int) = k) (h1 : ds[k.toNat]? = some (.tuple [.int x, .int y])) (h2 : ds[(k - 1).toNat]? = some (.tuple [.int x', .int y'])) : y ≤ y' := by
  obtain ⟨B, rfl, f⟩ := hf
  obtain ⟨C, j, p, q, e, hj, e1, e2, hlt⟩ := hfe
  have eC := map_inj e
  subst eC
  obtain ⟨p1, f1, rfl, rfl⟩ := item_of h1
  obtain ⟨p2, f2, rfl, rfl⟩ := item_of h2
  have ek : k.toNat = (k - 1).toNat + 1 := by omega
  rw [ek] at f1
  have := f.fall j (k - 1).toNat p q p2 p1 (by omega) e1 e2 hlt f2 f1
  omega

/-- no two neighbours are halves of one block -/
theorem no_halves {ds : List Dat} {k : Int} {x y x' y' x2 y2 : Int} (hf : FineD ds) (hk : 0 < k) (h1 : ds[k.toNat]? = some (.tuple [.int x, .int y])) (h2 : ds[(k - 1).toNat]? = some (.tuple [.int x', .int y'])) (h3 : ds[(k - 1).toNat]? = some (.tuple [.int x2, .int y2])) (he : y = y') :
    ¬ x2.fmod ((2 : Int) ^ (y + 1).toNat) = 0 := by
  obtain ⟨B, rfl, f⟩ := hf
  obtain ⟨p1, f1, rfl, rfl⟩ := item_of h1
  obtain ⟨p2, f2, rfl, rfl⟩ := item_of h2
  obtain ⟨p3, f3, rfl, rfl⟩ := item_of h3
  have e3 : p3 = p2 := by rw [f2] at f3; exact (Option.some.inj f3).symm
  subst e3
  have ek : k.toNat = (k - 1).toNat + 1 := by omega
  rw [ek] at f1
  have hno := f.two (k - 1).toNat p3 p1 f2 f1 (by omega)
  intro h0
  rw [Int.fmod_eq_emod_of_nonneg _ (Int.le_of_lt (kbt_pos _))] at h0
  have hd := Int.dvd_of_emod_eq_zero h0
  have ee : ((p1.2 : Int) + 1).toNat = p1.2 + 1 := by omega
  rw [ee, ← kbt_cast] at hd
  exact hno (Int.natCast_dvd_natCast.mp hd)

/-- as the walk meets them -/
theorem no_rise' {ds : List Dat} {n : Nat} {c : Bool} {k : Int} {x y x' y' : Int} (hf : FineD ds) (hk : k = 0 + (n : Int)) (hi : c = true → FellD ds n) (hc : c = true) (h1 : ds[k.toNat]? = some (.tuple [.int x, .int y])) (h2 : ds[(k - 1).toNat]? = some (.tuple [.int x', .int y'])) (hlt : y' < y) : False := by
  have := no_rise hf (hi hc) (by omega) h1 h2
  omega
theorem no_halves' {ds : List Dat} {n : Nat} {k : Int} {x y x' y' x2 y2 : Int} (hf : FineD ds) (hk : k = 0 + (n : Int)) (h0 : 0 < k) (h1 : ds[k.toNat]? = some (.tuple [.int x, .int y])) (he : y = y') (h2 : ds[(k - 1).toNat]? = some (.tuple [.int x', .int y']))
    (hm : x2.fmod ((2 : Int) ^ (y + 1).toNat) = 0) (h3 : ds[(k - 1).toNat]? = some (.tuple [.int x2, .int y2])) : False := no_halves hf h0 h1 h2 h3 he hm

/-- falling, one block on -/
theorem fell_more {ds : List Dat} {n m : Nat} (h : FellD ds n) (hm : n ≤ m) : FellD ds m := by
  obtain ⟨B, j, p, q, e, hj, r⟩ := h
  exact ⟨B, j, p, q, e, by omega, r⟩
theorem fell_new {ds : List Dat} {m : Nat} {k : Int} {x y x' y' : Int} (hf : FineD ds) (hk : 0 < k) (hm : k < (m : Int)) (h1 : ds[k.toNat]? = some (.tuple [.int x, .int y])) (h2 : ds[(k - 1).toNat]? = some (.tuple [.int x', .int y'])) (hlt : y < y') : FellD ds m := by
  obtain ⟨B, rfl, f⟩ := hf
  obtain ⟨p1, f1, rfl, rfl⟩ := item_of h1
  obtain ⟨p2, f2, rfl, rfl⟩ := item_of h2
  have ek : k.toNat = (k - 1).toNat + 1 := by omega
  rw [ek] at f1
  exact ⟨B, (k - 1).toNat, p2, p1, rfl, by omega, f2, f1, by omega⟩
theorem st_keep {c : Bool} {ds : List Dat} {l : List Int} {k : Int} (hi : c = true → FellD ds l.length) : c = true → FellD ds (l ++ [k]).length :=
  fun h => fell_more (hi h) (by rw [List.length_append]; exact Nat.le_add_right _ _)
theorem st_new {ds : List Dat} {l : List Int} {k x y x' y' : Int} (hf : FineD ds) (hk : k = 0 + (l.length : Int)) (h0 : 0 < k) (h1 : ds[k.toNat]? = some (.tuple [.int x, .int y])) (h2 : ds[(k - 1).toNat]? = some (.tuple [.int x', .int y'])) :
    decide (y < y') = true → FellD ds (l ++ [k]).length :=
  fun h => fell_new hf h0 (by rw [List.length_append, List.length_singleton]; omega) h1 h2 (of_decide_eq_true h)
end
end Mine46

open Mine46
local macro_rules | `(tactic| walk_at "exec For Name BinOp cons nil") => `(tactic| (k_here; (rename Fr _ _ _ _ => lF'); (with_unfolding_all refine' For_invVF lF' ?k1 ?k2 ?_; (case k1 => exact rfl); (case k2 => exact rfl); k_whole)))
local macro_rules | `(tactic| walk_at "assign Tuple") => `(tactic| (k_here; (with_reducible show wpAny _ _ (assign (Expr.Tuple _ _ _) _ (Value.ref _)) _ _ _); k_dflt (refine' two_unpack ?k1 ?k2 ?k3 ?k4 ?k5 ?k6 ?k7 ?_; (case k1 => k_asm); (case k2 => k_asm); (case k3 => k_memK); (case k4 => assumption); (case k5 => exact rfl); (case k6 => exact rfl); (case k7 => exact rfl); k_whole); intro a' b' t' u' h' F' N'; (try k_sweep)))
local macro_rules | `(tactic| walk_at "binaryOp Mod int int") => `(tactic| (k_here; (with_reducible refine mod_bounds ?kbm ?_); (case kbm => (simp only [Int.reduceToNat, Int.reducePow]; omega)); (intro r' hr0' hr1'); (simp only [Int.reduceToNat, Int.reducePow] at hr1')))
local macro_rules | `(tactic| walk_at "exec While Compare cons nil") => `(tactic| (k_here; rename Fr _ _ _ _ => lF'; rename News _ _ _ _ => lN'; (with_unfolding_all refine' blk_while _ lF' lN' ?ka ?kl ?kw ?_; (case ka => with_unfolding_all rfl); (case kl => with_unfolding_all rfl); (case kw => exact BlkWord.start (by omega) (by omega) (by omega))); clear lF' lN'; (intro bB tB vsB dsB cnB tlB uB hB tkB hoffB hdatB hwB hb0B hbHB hlenB hlnB hlmB FB NB); (have kMark := kstMark); (have kMarkD := kdMark); (try dsimp only at NB); (try simp only [List.nil_append, List.cons_append, List.append_nil, List.map_cons, List.map_nil] at NB hoffB hdatB); (try k_fold)))
local macro_rules | `(tactic| walk_at "BlkPost") => `(tactic| (rename News _ _ _ _ => nE'; (k_dflt (refine' blk_close (tl := ?tl) ?k1 nE' ?k2 ?k3 ?k4 ?k5 ?k6 ?k7 ?k8 ?k9 ?k10 ?k11 ?k12 ?k13; (case k1 => assumption); (case k2 => k_memK); (case k3 => k_memK); (case k5 => assumption); (case k4 => ((try simp only [List.nil_append, List.cons_append, List.append_assoc, List.append_nil]); kst_anyIn)); (case k6 => ((try simp only [List.map_cons, List.map_nil]); kd_adr)); (case k7 => assumption); (case k8 => with_unfolding_all rfl); (case k9 => ksw_same); (case k10 => assumption); (case k11 => assumption); (case k12 => assumption); (case k13 => assumption)))))
local macro_rules | `(tactic| walk_at "exec Return some") => `(tactic| ((with_reducible show wpAny _ _ (PySem.exec (Stmt.Return (some (Expr.Constant (Const.bool false) _ _)) _) _) _ _ _); rename BlkWord _ _ _ _ => hBW; exfalso; (first | exact absurd (BlkWord.few hBW (by omega)) (by assumption) | exact no_rise' (by assumption) (by assumption) (by assumption) (by assumption) (by assumption) (by assumption) (by assumption) | exact no_halves' (by assumption) (by assumption) (by assumption) (by assumption) (by assumption) (by assumption) (by assumption) (by assumption) | omega)))
local macro_rules | `(tactic| walk_at "execs cons Return nil") => `(tactic| (rename BlkWord _ _ _ _ => hBW; (with_reducible refine wpAny_execs_cons ?_); (try dsimp only); ((with_reducible show wpAny _ _ (PySem.exec (Stmt.Return (some (Expr.Constant (Const.bool false) _ _)) _) _) _ _ _)); exfalso; (first | exact absurd (BlkWord.few hBW (by omega)) (by assumption) | exact no_rise' (by assumption) (by assumption) (by assumption) (by assumption) (by assumption) (by assumption) (by assumption) | exact no_halves' (by assumption) (by assumption) (by assumption) (by assumption) (by assumption) (by assumption) (by assumption) (by assumption) | omega)))
local macro_rules | `(tactic| walk_at "eval Constant int") => `(tactic| (k_here; dsimp only; walk_at "eval Constant int"))
local macro_rules | `(tactic| walk_at "truthy bool") => `(tactic| (k_here; dsimp only; walk_at "truthy bool"))
local macro_rules | `(tactic| walk_at "storeName") => `(tactic| (k_here; dsimp only; walk_at "storeName"))
local macro_rules | `(tactic| walk_at "InvEndN") => `(tactic| (rename BlkWord _ _ _ _ => hBW; rename News _ _ _ _ => nE'; (k_dflt (refine' kst_end _ ?k1 nE' ?k2 ?k3 ?k4 ?k5 ?k6 ?k7 ?k8; (case k1 => assumption); (case k4 => rfl); (case k5 => kst_facts); (case k6 => kst_all); (case k7 => kst_same); (case k2 => kst_inAny); (case k3 => first | (intro p hp; kst_mem) | kst_anyIn); (case k8 => first | exact st_keep (by assumption) | exact st_new (by assumption) (by assumption) (by assumption) (by assumption) (by assumption))))))
set_option maxRecDepth 100000 in
set_option maxHeartbeats 40000000 in
theorem PySem.Challenge.cw_ko0046_01_holds : PySem.Challenge.rw_ko0046_01.Holds := by
  (k_with "call ref" => first | k_call_by "_count_righthand_zero_bits" czb | k_call_by "_law_fewest" few (fun (l h : Int) => 0 ≤ l ∧ 0 ≤ h))
  (k_with "tree" => first | simp only [czb] | exact few_stop (by assumption) (by assumption))
  (k_with "fact _count_righthand_zero_bits" => exact czb_fact)
  (k_with "pyIter ref" => k_search (fun _ => True))
  (k_with "pyIter ref" => (rename BlkWord _ _ _ _ => hBW; obtain ⟨hFi, hIt⟩ := BlkWord.fine hBW; k_state (fun pre falling => falling = true → fellOf hBW pre.length) "falling"))
  (k_with "exec While Compare cons nil" => k_while_given ["at", "last"] (fun x y script r => 0 ≤ r ∧ r ≤ 128 ∧ (2 : Int) ^ r.toNat ≤ y - x + 1) (fun x y script r => (200 - r).toNat) "room")
  (k_with "exec While Compare cons nil" => k_while_given ["low!", "high!"] (fun l0 h0 script l h m => 0 ≤ l ∧ 0 ≤ h ∧ m + few l h = few l0 h0) (fun l0 h0 script l h m => (h - l).toNat) "low" "high" "many")
  (k_with "state" => first | exact room_start (by assumption) | exact room_turn (by omega) (by omega) (by assumption) (by assumption) | exact few_start (by assumption) | exact few11 (by assumption) (by assumption) (by assumption) (by assumption) (by assumption) (by assumption) | exact few10 (by assumption) (by assumption) (by assumption) (by assumption) (by assumption) (by assumption) | exact few01 (by assumption) (by assumption) (by assumption) (by assumption) (by assumption) (by assumption) | exact few00 (by assumption) (by assumption) (by assumption) (by assumption) (by assumption) (by assumption) | exact (fun h => nomatch h))
  (k_with "measure" => first | exact room_less (by assumption) | exact less11 (by assumption) (by assumption) (by assumption) (by assumption) (by assumption) | exact less10 (by assumption) (by assumption) (by assumption) (by assumption) (by assumption) | exact less01 (by assumption) (by assumption) (by assumption) (by assumption) (by assumption) | exact less00 (by assumption) (by assumption) (by assumption) (by assumption) (by assumption))
  open_k
