section
/-! THE PLAIN PICTURE: what the methods compute, in Nat. No program in sight. -/
/-- GF12.gf_reduce -/
def gf_red12 (x : Nat) : Nat := ((((x &&& 4095) ^^^ (x >>> 12)) ^^^ ((x &&& 2093056) >>> 9)) ^^^ ((x &&& 14680064) >>> 18)) ^^^ (x >>> 21)
def gf_t (u : Nat) : Nat := ((u <<< 4) ^^^ (u <<< 3)) ^^^ (u <<< 1)
/-- GF13.gf_reduce -/
def gf_red13 (x : Nat) : Nat := ((((x &&& 8191) ^^^ (x >>> 13)) ^^^ (gf_t (x >>> 13) >>> 13)) ^^^ (gf_t (x >>> 13) &&& 8191)) ^^^ gf_t (gf_t (x >>> 13) >>> 13)
/-- the loop of gf_mul: x times the low n bits of y, without carry -/
noncomputable def gf_clm (x y n : Nat) : Nat := Nat.rec (motive := fun _ => Nat) 0 (fun i z => z ^^^ x * (y &&& (1 <<< i))) n
theorem gf_clm_0 (x y : Nat) : gf_clm x y 0 = 0 := rfl
theorem gf_clm_s (x y n : Nat) : gf_clm x y (n + 1) = gf_clm x y n ^^^ x * (y &&& (1 <<< n)) := rfl
def gf_ex1 (k c x : Nat) : Nat := (x ||| (x <<< k)) &&& c
/-- Interleave.expand16to32 -/
def gf_exp (x : Nat) : Nat := gf_ex1 1 1431655765 (gf_ex1 2 858993459 (gf_ex1 4 252645135 (gf_ex1 8 16711935 (x &&& 65535))))
noncomputable def gf_mul12 (x y : Nat) : Nat := gf_red12 (gf_clm x y 12)
noncomputable def gf_mul13 (x y : Nat) : Nat := gf_red13 (gf_clm x y 13)
def gf_sq12 (x : Nat) : Nat := gf_red12 (gf_exp x)
def gf_sq13 (x : Nat) : Nat := gf_red13 (gf_exp x)
noncomputable def gf_i12a (a : Nat) : Nat := gf_mul12 (gf_sq12 a) a
noncomputable def gf_i12b (t : Nat) : Nat := gf_mul12 (gf_sq12 (gf_sq12 t)) t
noncomputable def gf_i12c (f : Nat) : Nat := gf_mul12 (gf_sq12 (gf_sq12 (gf_sq12 (gf_sq12 f)))) f
noncomputable def gf_i12d (o t : Nat) : Nat := gf_mul12 (gf_sq12 (gf_sq12 o)) t
noncomputable def gf_i12e (o a : Nat) : Nat := gf_sq12 (gf_mul12 (gf_sq12 o) a)
/-- GF12.gf_inv -/
noncomputable def gf_inv12 (a : Nat) : Nat := gf_i12e (gf_i12d (gf_i12c (gf_i12b (gf_i12a a))) (gf_i12a a)) a
def gf_fold (c x : Nat) : Nat := x ^^^ (((((x &&& c) >>> 18) ^^^ ((x &&& c) >>> 20)) ^^^ ((x &&& c) >>> 24)) ^^^ ((x &&& c) >>> 26))
/-- the product in GF13.gf_sqmul, ahead of its folding -/
def gf_sqx (i m : Nat) : Nat := ((((((((m <<< 6) * (i &&& 64)) ^^^ ((m <<< 0) * ((i ^^^ (i <<< 7)) &&& 16385))) ^^^ ((m <<< 1) * ((i ^^^ (i <<< 7)) &&& 32770))) ^^^ ((m <<< 2) * ((i ^^^ (i <<< 7)) &&& 65540))) ^^^ ((m <<< 3) * ((i ^^^ (i <<< 7)) &&& 131080))) ^^^ ((m <<< 4) * ((i ^^^ (i <<< 7)) &&& 262160))) ^^^ ((m <<< 5) * ((i ^^^ (i <<< 7)) &&& 524320)))
def gf_sqmul (i m : Nat) : Nat := gf_red13 (gf_fold 137371844608 (gf_sqx i m) &&& 67108863)
def gf_sq2x (i m : Nat) : Nat := ((((((((m <<< 18) * (i &&& 64)) ^^^ ((m <<< 0) * ((i ^^^ (i <<< 21)) &&& 268435457))) ^^^ ((m <<< 3) * ((i ^^^ (i <<< 21)) &&& 536870914))) ^^^ ((m <<< 6) * ((i ^^^ (i <<< 21)) &&& 1073741828))) ^^^ ((m <<< 9) * ((i ^^^ (i <<< 21)) &&& 2147483656))) ^^^ ((m <<< 12) * ((i ^^^ (i <<< 21)) &&& 4294967312))) ^^^ ((m <<< 15) * ((i ^^^ (i <<< 21)) &&& 8589934624)))
def gf_sq2mul (i m : Nat) : Nat := gf_red13 (gf_fold 8796025913344 (gf_fold 2305834213120671744 (gf_sq2x i m)) &&& 67108863)
def gf_sq2 (x : Nat) : Nat := gf_sq13 (gf_sq13 x)
def gf_o13 (f : Nat) : Nat := gf_sq2mul (gf_sq2 (gf_sq2mul (gf_sq2 f) f)) f
def gf_f13 (a : Nat) : Nat := gf_sq2mul (gf_sqmul a a) (gf_sqmul a a)
/-- GF13.gf_frac -/
def gf_frac13 (a b : Nat) : Nat := gf_sqmul (gf_o13 (gf_f13 a)) b
/-! maps that go over exclusive or -/
def gf_Lin (f : Nat → Nat) : Prop := ∀ a b, f (a ^^^ b) = f a ^^^ f b
/-- the same, below 2 ^ N alone -/
def gf_LinN (N : Nat) (f : Nat → Nat) : Prop := ∀ a b, a < 2 ^ N → b < 2 ^ N → f (a ^^^ b) = f a ^^^ f b
theorem gf_Lin.N {f : Nat → Nat} (h : gf_Lin f) (N : Nat) : gf_LinN N f := fun a b _ _ => h a b
theorem gf_x4 (a b c d : Nat) : (a ^^^ b) ^^^ (c ^^^ d) = (a ^^^ c) ^^^ (b ^^^ d) := by
  rw [Nat.xor_assoc a b (c ^^^ d), Nat.xor_assoc a c (b ^^^ d), ← Nat.xor_assoc b c d, Nat.xor_comm b c, Nat.xor_assoc c b d]
theorem gf_lin_id : gf_Lin (fun x => x) := fun _ _ => rfl
theorem gf_lin_xor {f g : Nat → Nat} (hf : gf_Lin f) (hg : gf_Lin g) : gf_Lin (fun x => f x ^^^ g x) := by
  intro a b
  show f (a ^^^ b) ^^^ g (a ^^^ b) = (f a ^^^ g a) ^^^ (f b ^^^ g b)
  rw [hf a b, hg a b]
  exact gf_x4 _ _ _ _
theorem gf_lin_and (c : Nat) {f : Nat → Nat} (hf : gf_Lin f) : gf_Lin (fun x => f x &&& c) := by
  intro a b
  show f (a ^^^ b) &&& c = (f a &&& c) ^^^ (f b &&& c)
  rw [hf a b, Nat.and_xor_distrib_right]
theorem gf_lin_shr (k : Nat) {f : Nat → Nat} (hf : gf_Lin f) : gf_Lin (fun x => f x >>> k) := by
  intro a b
  show f (a ^^^ b) >>> k = (f a >>> k) ^^^ (f b >>> k)
  rw [hf a b, Nat.shiftRight_xor_distrib]
theorem gf_lin_shl (k : Nat) {f : Nat → Nat} (hf : gf_Lin f) : gf_Lin (fun x => f x <<< k) := by
  intro a b
  show f (a ^^^ b) <<< k = (f a <<< k) ^^^ (f b <<< k)
  rw [hf a b, Nat.shiftLeft_xor_distrib]
theorem gf_lin_comp {f g : Nat → Nat} (hf : gf_Lin f) (hg : gf_Lin g) : gf_Lin (fun x => f (g x)) := by
  intro a b
  show f (g (a ^^^ b)) = f (g a) ^^^ f (g b)
  rw [hg a b]
  exact hf (g a) (g b)
theorem gf_lin_t : gf_Lin gf_t := gf_lin_xor (f := fun x => (x <<< 4) ^^^ (x <<< 3)) (g := fun x => x <<< 1) (gf_lin_xor (f := fun x => x <<< 4) (g := fun x => x <<< 3) (gf_lin_shl 4 gf_lin_id) (gf_lin_shl 3 gf_lin_id)) (gf_lin_shl 1 gf_lin_id)
theorem gf_lin_red12 : gf_Lin gf_red12 :=
  gf_lin_xor (f := fun x => (((x &&& 4095) ^^^ (x >>> 12)) ^^^ ((x &&& 2093056) >>> 9)) ^^^ ((x &&& 14680064) >>> 18)) (g := fun x => x >>> 21)
    (gf_lin_xor (f := fun x => ((x &&& 4095) ^^^ (x >>> 12)) ^^^ ((x &&& 2093056) >>> 9)) (g := fun x => (x &&& 14680064) >>> 18)
      (gf_lin_xor (f := fun x => (x &&& 4095) ^^^ (x >>> 12)) (g := fun x => (x &&& 2093056) >>> 9)
        (gf_lin_xor (f := fun x => x &&& 4095) (g := fun x => x >>> 12) (gf_lin_and 4095 gf_lin_id) (gf_lin_shr 12 gf_lin_id))
        (gf_lin_shr 9 (gf_lin_and 2093056 gf_lin_id)))
      (gf_lin_shr 18 (gf_lin_and 14680064 gf_lin_id)))
    (gf_lin_shr 21 gf_lin_id)
theorem gf_lin_red13 : gf_Lin gf_red13 := by
  have h1 : gf_Lin (fun x => gf_t (x >>> 13)) := gf_lin_comp gf_lin_t (gf_lin_shr 13 gf_lin_id)
  exact gf_lin_xor (f := fun x => (((x &&& 8191) ^^^ (x >>> 13)) ^^^ (gf_t (x >>> 13) >>> 13)) ^^^ (gf_t (x >>> 13) &&& 8191)) (g := fun x => gf_t (gf_t (x >>> 13) >>> 13))
    (gf_lin_xor (f := fun x => ((x &&& 8191) ^^^ (x >>> 13)) ^^^ (gf_t (x >>> 13) >>> 13)) (g := fun x => gf_t (x >>> 13) &&& 8191)
      (gf_lin_xor (f := fun x => (x &&& 8191) ^^^ (x >>> 13)) (g := fun x => gf_t (x >>> 13) >>> 13)
        (gf_lin_xor (f := fun x => x &&& 8191) (g := fun x => x >>> 13) (gf_lin_and 8191 gf_lin_id) (gf_lin_shr 13 gf_lin_id))
        (gf_lin_shr 13 h1))
      (gf_lin_and 8191 h1))
    (gf_lin_comp gf_lin_t (gf_lin_shr 13 h1))
theorem gf_lin_fold (c : Nat) : gf_Lin (gf_fold c) := by
  have h1 : gf_Lin (fun x => x &&& c) := gf_lin_and c gf_lin_id
  exact gf_lin_xor (f := fun x => x) (g := fun x => ((((x &&& c) >>> 18) ^^^ ((x &&& c) >>> 20)) ^^^ ((x &&& c) >>> 24)) ^^^ ((x &&& c) >>> 26)) gf_lin_id
    (gf_lin_xor (f := fun x => (((x &&& c) >>> 18) ^^^ ((x &&& c) >>> 20)) ^^^ ((x &&& c) >>> 24)) (g := fun x => (x &&& c) >>> 26)
      (gf_lin_xor (f := fun x => ((x &&& c) >>> 18) ^^^ ((x &&& c) >>> 20)) (g := fun x => (x &&& c) >>> 24)
        (gf_lin_xor (f := fun x => (x &&& c) >>> 18) (g := fun x => (x &&& c) >>> 20) (gf_lin_shr 18 h1) (gf_lin_shr 20 h1))
        (gf_lin_shr 24 h1))
      (gf_lin_shr 26 h1))
theorem gf_and1 (y i : Nat) : y &&& (1 <<< i) = if y.testBit i then 2 ^ i else 0 := by
  rw [Nat.shiftLeft_eq, Nat.one_mul]
  apply Nat.eq_of_testBit_eq
  intro j
  rw [Nat.testBit_and, Nat.testBit_two_pow]
  by_cases h : i = j
  · subst h
    cases hb : y.testBit i <;> simp [Nat.testBit_two_pow]
  · cases hb : y.testBit i <;> simp [Nat.testBit_two_pow, h]
theorem gf_bm (x y i : Nat) : x * (y &&& (1 <<< i)) = if y.testBit i then x <<< i else 0 := by
  rw [gf_and1]
  cases y.testBit i <;> simp [Nat.shiftLeft_eq]
theorem gf_lin_bx (y i : Nat) : gf_Lin (fun x => x * (y &&& (1 <<< i))) := by
  intro a b
  show (a ^^^ b) * (y &&& (1 <<< i)) = a * (y &&& (1 <<< i)) ^^^ b * (y &&& (1 <<< i))
  rw [gf_bm, gf_bm, gf_bm]
  cases y.testBit i
  · simp
  · simp [Nat.shiftLeft_xor_distrib]
theorem gf_lin_by (x i : Nat) : gf_Lin (fun y => x * (y &&& (1 <<< i))) := by
  intro a b
  show x * ((a ^^^ b) &&& (1 <<< i)) = x * (a &&& (1 <<< i)) ^^^ x * (b &&& (1 <<< i))
  rw [gf_bm, gf_bm, gf_bm, Nat.testBit_xor]
  cases a.testBit i <;> cases b.testBit i <;> simp
theorem gf_lin_cx (y n : Nat) : gf_Lin (fun x => gf_clm x y n) := by
  induction n with
  | zero => exact fun a b => (Nat.xor_self 0).symm
  | succ n ih => exact gf_lin_xor (f := fun x => gf_clm x y n) (g := fun x => x * (y &&& (1 <<< n))) ih (gf_lin_bx y n)
theorem gf_lin_cy (x n : Nat) : gf_Lin (fun y => gf_clm x y n) := by
  induction n with
  | zero => exact fun a b => (Nat.xor_self 0).symm
  | succ n ih => exact gf_lin_xor (f := fun y => gf_clm x y n) (g := fun y => x * (y &&& (1 <<< n))) ih (gf_lin_by x n)
theorem gf_lin_m12x (y : Nat) : gf_Lin (fun x => gf_mul12 x y) := gf_lin_comp (f := gf_red12) (g := fun x => gf_clm x y 12) gf_lin_red12 (gf_lin_cx y 12)
theorem gf_lin_m12y (x : Nat) : gf_Lin (fun y => gf_mul12 x y) := gf_lin_comp (f := gf_red12) (g := fun y => gf_clm x y 12) gf_lin_red12 (gf_lin_cy x 12)
theorem gf_lin_m13x (y : Nat) : gf_Lin (fun x => gf_mul13 x y) := gf_lin_comp (f := gf_red13) (g := fun x => gf_clm x y 13) gf_lin_red13 (gf_lin_cx y 13)
theorem gf_lin_m13y (x : Nat) : gf_Lin (fun y => gf_mul13 x y) := gf_lin_comp (f := gf_red13) (g := fun y => gf_clm x y 13) gf_lin_red13 (gf_lin_cy x 13)
/-! such a map is known by its values at the powers of two -/
theorem gf_lin0 {N : Nat} {f : Nat → Nat} (h : gf_LinN N f) : f 0 = 0 := by
  have h1 := h 0 0 (Nat.two_pow_pos N) (Nat.two_pow_pos N)
  rw [Nat.xor_self, Nat.xor_self] at h1
  exact h1
theorem gf_split {k x : Nat} (h : 2 ^ k ≤ x) (h2 : x < 2 ^ (k + 1)) : ∃ r, r < 2 ^ k ∧ x = r ^^^ 2 ^ k := by
  obtain ⟨r, rfl⟩ : ∃ r, x = 2 ^ k + r := ⟨x - 2 ^ k, by omega⟩
  have hr : r < 2 ^ k := by rw [Nat.pow_succ] at h2; omega
  refine ⟨r, hr, ?_⟩
  apply Nat.eq_of_testBit_eq
  intro i
  rw [Nat.testBit_xor, Nat.testBit_two_pow]
  rcases Nat.lt_trichotomy i k with h | h | h
  · rw [Nat.testBit_two_pow_add_gt h]
    simp [show ¬ k = i by omega]
  · subst h
    rw [Nat.testBit_two_pow_add_eq]
    simp
  · have a1 : 2 ^ (k + 1) ≤ 2 ^ i := Nat.pow_le_pow_right (by decide) h
    rw [Nat.testBit_lt_two_pow (show 2 ^ k + r < 2 ^ i by omega), Nat.testBit_lt_two_pow (show r < 2 ^ i by omega)]
    simp [show ¬ k = i by omega]
theorem gf_ext {N : Nat} {f g : Nat → Nat} (hf : gf_LinN N f) (hg : gf_LinN N g) : ∀ n, n ≤ N → (∀ i, i < n → f (2 ^ i) = g (2 ^ i)) → ∀ x, x < 2 ^ n → f x = g x := by
  intro n
  induction n with
  | zero =>
    intro _ _ x hx
    have e : x = 0 := by rw [Nat.pow_zero] at hx; omega
    rw [e, gf_lin0 hf, gf_lin0 hg]
  | succ n ih =>
    intro hn h x hx
    by_cases hl : x < 2 ^ n
    · exact ih (by omega) (fun i hi => h i (by omega)) x hl
    · obtain ⟨r, hr, e⟩ := gf_split (Nat.le_of_not_lt hl) hx
      have b1 : 2 ^ n < 2 ^ N := Nat.pow_lt_pow_right (by decide) (by omega)
      rw [e, hf r (2 ^ n) (by omega) b1, hg r (2 ^ n) (by omega) b1, ih (by omega) (fun i hi => h i (by omega)) r hr, h n (by omega)]
/-! how large the numbers get -/
theorem gf_shr_lt {a : Nat} (k n N : Nat) (hN : 2 ^ k * 2 ^ n = N) (h : a < N) : a >>> k < 2 ^ n := by
  rw [Nat.shiftRight_eq_div_pow]
  exact Nat.div_lt_of_lt_mul (by rw [hN]; exact h)
theorem gf_shl_lt {a k n N : Nat} (h : a < 2 ^ n) (hN : n + k = N) : a <<< k < 2 ^ N := by
  rw [Nat.shiftLeft_eq, ← hN, Nat.pow_add]
  exact Nat.mul_lt_mul_of_pos_right h (Nat.two_pow_pos k)
theorem gf_up {a n N : Nat} (h : a < 2 ^ n) (hN : n ≤ N) : a < 2 ^ N := Nat.lt_of_lt_of_le h (Nat.pow_le_pow_right (by decide) hN)
theorem gf_red12_lt {x : Nat} (h : x < 2 ^ 24) : gf_red12 x < 2 ^ 12 := by
  have a1 : x &&& 4095 < 2 ^ 12 := Nat.and_lt_two_pow x (by decide)
  have a2 : x >>> 12 < 2 ^ 12 := gf_shr_lt 12 12 (2 ^ 24) (by decide) h
  have a3 : (x &&& 2093056) >>> 9 < 2 ^ 12 := gf_shr_lt 9 12 (2 ^ 21) (by decide) (Nat.and_lt_two_pow x (by decide))
  have a4 : (x &&& 14680064) >>> 18 < 2 ^ 12 := gf_shr_lt 18 12 (2 ^ 30) (by decide) (Nat.and_lt_two_pow x (by decide))
  have a5 : x >>> 21 < 2 ^ 12 := gf_shr_lt 21 12 (2 ^ 33) (by decide) (Nat.lt_trans h (by decide))
  exact Nat.xor_lt_two_pow (Nat.xor_lt_two_pow (Nat.xor_lt_two_pow (Nat.xor_lt_two_pow a1 a2) a3) a4) a5
theorem gf_t_lt {u n : Nat} (h : u < 2 ^ n) : gf_t u < 2 ^ (n + 4) :=
  Nat.xor_lt_two_pow (Nat.xor_lt_two_pow (gf_shl_lt h rfl) (gf_up (gf_shl_lt (k := 3) h rfl) (by omega))) (gf_up (gf_shl_lt (k := 1) h rfl) (by omega))
theorem gf_red13_lt {x : Nat} (h : x < 2 ^ 26) : gf_red13 x < 2 ^ 13 := by
  have a1 : x &&& 8191 < 2 ^ 13 := Nat.and_lt_two_pow x (by decide)
  have a2 : x >>> 13 < 2 ^ 13 := gf_shr_lt 13 13 (2 ^ 26) (by decide) h
  have t1 : gf_t (x >>> 13) < 2 ^ 17 := gf_t_lt a2
  have a3 : gf_t (x >>> 13) >>> 13 < 2 ^ 4 := gf_shr_lt 13 4 (2 ^ 17) (by decide) t1
  have a4 : gf_t (x >>> 13) &&& 8191 < 2 ^ 13 := Nat.and_lt_two_pow _ (by decide)
  have a5 : gf_t (gf_t (x >>> 13) >>> 13) < 2 ^ 8 := gf_t_lt a3
  exact Nat.xor_lt_two_pow (Nat.xor_lt_two_pow (Nat.xor_lt_two_pow (Nat.xor_lt_two_pow a1 a2) (gf_up a3 (by decide))) a4) (gf_up a5 (by decide))
theorem gf_clm_lt {x n : Nat} (y : Nat) (h : x < 2 ^ n) : ∀ i, gf_clm x y i < 2 ^ (n + i) := by
  intro i
  induction i with
  | zero => exact Nat.two_pow_pos _
  | succ i ih =>
    rw [gf_clm_s]
    refine Nat.xor_lt_two_pow (gf_up ih (by omega)) ?_
    rw [gf_bm]
    split
    · exact gf_up (gf_shl_lt h rfl) (by omega)
    · exact Nat.two_pow_pos _
theorem gf_mul12_lt {x : Nat} (y : Nat) (h : x < 2 ^ 12) : gf_mul12 x y < 2 ^ 12 := gf_red12_lt (gf_clm_lt y h 12)
theorem gf_mul13_lt {x : Nat} (y : Nat) (h : x < 2 ^ 13) : gf_mul13 x y < 2 ^ 13 := gf_red13_lt (gf_clm_lt y h 13)
theorem gf_sqmul_lt (i m : Nat) : gf_sqmul i m < 2 ^ 13 := gf_red13_lt (Nat.and_lt_two_pow _ (by decide))
theorem gf_sq2mul_lt (i m : Nat) : gf_sq2mul i m < 2 ^ 13 := gf_red13_lt (Nat.and_lt_two_pow _ (by decide))
end
section
/-! ONE VARIABLE, EVERY VALUE, BY THE KERNEL: squares are products with themselves; inverses -/
/-- f at n, with n counted out first -/
noncomputable def gz_f {β : Type} (n : Nat) (f : Nat → β) : β := Nat.rec (motive := fun _ => β) (f 0) (fun k _ => f (Nat.succ k)) n
theorem gz_f_eq {β : Type} (n : Nat) (f : Nat → β) : gz_f n f = f n := by cases n <;> rfl
noncomputable def gz_clm (x y n : Nat) : Nat := Nat.rec (motive := fun _ => Nat) 0 (fun i z => Nat.xor z (Nat.mul x (Nat.land y (Nat.shiftLeft 1 i)))) n
theorem gz_clm_eq (x y n : Nat) : gz_clm x y n = gf_clm x y n := rfl
noncomputable def gz_red12 (x : Nat) : Nat := gz_f x (fun x => Nat.xor (Nat.xor (Nat.xor (Nat.xor (Nat.land x 4095) (Nat.shiftRight x 12)) (Nat.shiftRight (Nat.land x 2093056) 9)) (Nat.shiftRight (Nat.land x 14680064) 18)) (Nat.shiftRight x 21))
theorem gz_red12_eq (x : Nat) : gz_red12 x = gf_red12 x := (gz_f_eq _ _).trans rfl
noncomputable def gz_t (u : Nat) : Nat := Nat.xor (Nat.xor (Nat.shiftLeft u 4) (Nat.shiftLeft u 3)) (Nat.shiftLeft u 1)
noncomputable def gz_red13a (x t : Nat) : Nat := Nat.xor (Nat.xor (Nat.xor (Nat.xor (Nat.land x 8191) (Nat.shiftRight x 13)) (Nat.shiftRight t 13)) (Nat.land t 8191)) (gz_t (Nat.shiftRight t 13))
noncomputable def gz_red13 (x : Nat) : Nat := gz_f x (fun x => gz_f (gz_t (Nat.shiftRight x 13)) (fun t => gz_red13a x t))
theorem gz_red13_eq (x : Nat) : gz_red13 x = gf_red13 x := by
  unfold gz_red13
  rw [gz_f_eq, gz_f_eq]
  rfl
noncomputable def gz_ex1 (k c x : Nat) : Nat := Nat.land (Nat.lor x (Nat.shiftLeft x k)) c
noncomputable def gz_exp (x : Nat) : Nat := gz_f (Nat.land x 65535) (fun a => gz_f (gz_ex1 8 16711935 a) (fun b => gz_f (gz_ex1 4 252645135 b) (fun c => gz_f (gz_ex1 2 858993459 c) (fun d => gz_ex1 1 1431655765 d))))
theorem gz_exp_eq (x : Nat) : gz_exp x = gf_exp x := by
  unfold gz_exp
  rw [gz_f_eq, gz_f_eq, gz_f_eq, gz_f_eq]
  rfl
noncomputable def gz_mul12 (x y : Nat) : Nat := gz_red12 (gz_clm x y 12)
noncomputable def gz_mul13 (x y : Nat) : Nat := gz_red13 (gz_clm x y 13)
theorem gz_mul12_eq (x y : Nat) : gz_mul12 x y = gf_mul12 x y := gz_red12_eq _
theorem gz_mul13_eq (x y : Nat) : gz_mul13 x y = gf_mul13 x y := gz_red13_eq _
noncomputable def gz_sq12 (x : Nat) : Nat := gz_red12 (gz_exp x)
noncomputable def gz_sq13 (x : Nat) : Nat := gz_red13 (gz_exp x)
theorem gz_sq12_eq (x : Nat) : gz_sq12 x = gf_sq12 x := by unfold gz_sq12; rw [gz_red12_eq, gz_exp_eq]; rfl
theorem gz_sq13_eq (x : Nat) : gz_sq13 x = gf_sq13 x := by unfold gz_sq13; rw [gz_red13_eq, gz_exp_eq]; rfl
/-- a times its inverse, each value counted out as it comes -/
noncomputable def gz_p12 (a : Nat) : Nat :=
  gz_f (gz_mul12 (gz_sq12 a) a) (fun t =>
  gz_f (gz_sq12 t) (fun u => gz_f (gz_mul12 (gz_sq12 u) t) (fun f =>
  gz_f (gz_sq12 f) (fun u => gz_f (gz_sq12 u) (fun u => gz_f (gz_sq12 u) (fun u => gz_f (gz_mul12 (gz_sq12 u) f) (fun o =>
  gz_f (gz_sq12 o) (fun u => gz_f (gz_mul12 (gz_sq12 u) t) (fun o =>
  gz_f (gz_mul12 (gz_sq12 o) a) (fun o => gz_mul12 a (gz_sq12 o)))))))))))
theorem gz_p12_eq (a : Nat) : gz_p12 a = gf_mul12 a (gf_inv12 a) := by
  unfold gz_p12
  simp only [gz_f_eq, gz_mul12_eq, gz_sq12_eq]
  rfl
noncomputable def gz_fold (c x : Nat) : Nat := gz_f (Nat.land x c) (fun t => Nat.xor x (Nat.xor (Nat.xor (Nat.xor (Nat.shiftRight t 18) (Nat.shiftRight t 20)) (Nat.shiftRight t 24)) (Nat.shiftRight t 26)))
theorem gz_fold_eq (c x : Nat) : gz_fold c x = gf_fold c x := (gz_f_eq _ _).trans rfl
noncomputable def gz_sqx (i m : Nat) : Nat := gz_f (Nat.xor i (Nat.shiftLeft i 7)) (fun t => Nat.xor (Nat.xor (Nat.xor (Nat.xor (Nat.xor (Nat.xor (Nat.mul (Nat.shiftLeft m 6) (Nat.land i 64)) (Nat.mul (Nat.shiftLeft m 0) (Nat.land t 16385))) (Nat.mul (Nat.shiftLeft m 1) (Nat.land t 32770))) (Nat.mul (Nat.shiftLeft m 2) (Nat.land t 65540))) (Nat.mul (Nat.shiftLeft m 3) (Nat.land t 131080))) (Nat.mul (Nat.shiftLeft m 4) (Nat.land t 262160))) (Nat.mul (Nat.shiftLeft m 5) (Nat.land t 524320)))
theorem gz_sqx_eq (i m : Nat) : gz_sqx i m = gf_sqx i m := (gz_f_eq _ _).trans rfl
noncomputable def gz_sq2x (i m : Nat) : Nat := gz_f (Nat.xor i (Nat.shiftLeft i 21)) (fun t => Nat.xor (Nat.xor (Nat.xor (Nat.xor (Nat.xor (Nat.xor (Nat.mul (Nat.shiftLeft m 18) (Nat.land i 64)) (Nat.mul (Nat.shiftLeft m 0) (Nat.land t 268435457))) (Nat.mul (Nat.shiftLeft m 3) (Nat.land t 536870914))) (Nat.mul (Nat.shiftLeft m 6) (Nat.land t 1073741828))) (Nat.mul (Nat.shiftLeft m 9) (Nat.land t 2147483656))) (Nat.mul (Nat.shiftLeft m 12) (Nat.land t 4294967312))) (Nat.mul (Nat.shiftLeft m 15) (Nat.land t 8589934624)))
theorem gz_sq2x_eq (i m : Nat) : gz_sq2x i m = gf_sq2x i m := (gz_f_eq _ _).trans rfl
noncomputable def gz_sqmul (i m : Nat) : Nat := gz_f (gz_sqx i m) (fun x => gz_red13 (Nat.land (gz_fold 137371844608 x) 67108863))
theorem gz_sqmul_eq (i m : Nat) : gz_sqmul i m = gf_sqmul i m := by
  unfold gz_sqmul
  rw [gz_f_eq, gz_red13_eq, gz_fold_eq, gz_sqx_eq]
  rfl
noncomputable def gz_sq2mul (i m : Nat) : Nat := gz_f (gz_sq2x i m) (fun x => gz_f (gz_fold 2305834213120671744 x) (fun x => gz_red13 (Nat.land (gz_fold 8796025913344 x) 67108863)))
theorem gz_sq2mul_eq (i m : Nat) : gz_sq2mul i m = gf_sq2mul i m := by
  unfold gz_sq2mul
  rw [gz_f_eq, gz_f_eq, gz_red13_eq, gz_fold_eq, gz_fold_eq, gz_sq2x_eq]
  rfl
noncomputable def gz_p13 (a : Nat) : Nat :=
  gz_f (gz_sqmul a a) (fun t => gz_f (gz_sq2mul t t) (fun f =>
  gz_f (gz_sq13 f) (fun u => gz_f (gz_sq13 u) (fun u => gz_f (gz_sq2mul u f) (fun o =>
  gz_f (gz_sq13 o) (fun u => gz_f (gz_sq13 u) (fun u => gz_f (gz_sq2mul u f) (fun o =>
  gz_mul13 a (gz_sqmul o 1)))))))))
theorem gz_p13_eq (a : Nat) : gz_p13 a = gf_mul13 a (gf_frac13 a 1) := by
  unfold gz_p13
  simp only [gz_f_eq, gz_mul13_eq, gz_sq13_eq, gz_sqmul_eq, gz_sq2mul_eq]
  rfl
noncomputable def gz_all (P : Nat → Bool) (s n : Nat) : Bool := Nat.rec (motive := fun _ => Bool) true (fun i r => and (P (Nat.add s i)) r) n
theorem gz_at {P : Nat → Bool} {s n a : Nat} (h : gz_all P s n = true) (h1 : s ≤ a) (h2 : a < s + n) : P a = true := by
  induction n with
  | zero => omega
  | succ n ih =>
    have e : gz_all P s (n + 1) = (P (s + n) && gz_all P s n) := rfl
    rw [e, Bool.and_eq_true] at h
    by_cases h3 : a < s + n
    · exact ih h.2 h3
    · rw [show a = s + n by omega]
      exact h.1
noncomputable def gz_Q (a : Nat) : Bool := Nat.beq (gz_exp a) (gz_clm a a 13)
noncomputable def gz_P12 (a : Nat) : Bool := or (Nat.beq a 0) (Nat.beq (gz_p12 a) 1)
noncomputable def gz_P13 (a : Nat) : Bool := or (Nat.beq a 0) (Nat.beq (gz_p13 a) 1)
theorem gz_q_0 : gz_all gz_Q 0 512 = true := by decide +kernel
theorem gz_q_1 : gz_all gz_Q 512 512 = true := by decide +kernel
theorem gz_q_2 : gz_all gz_Q 1024 512 = true := by decide +kernel
theorem gz_q_3 : gz_all gz_Q 1536 512 = true := by decide +kernel
theorem gz_q_4 : gz_all gz_Q 2048 512 = true := by decide +kernel
theorem gz_q_5 : gz_all gz_Q 2560 512 = true := by decide +kernel
theorem gz_q_6 : gz_all gz_Q 3072 512 = true := by decide +kernel
theorem gz_q_7 : gz_all gz_Q 3584 512 = true := by decide +kernel
theorem gz_q_8 : gz_all gz_Q 4096 512 = true := by decide +kernel
theorem gz_q_9 : gz_all gz_Q 4608 512 = true := by decide +kernel
theorem gz_q_10 : gz_all gz_Q 5120 512 = true := by decide +kernel
theorem gz_q_11 : gz_all gz_Q 5632 512 = true := by decide +kernel
theorem gz_q_12 : gz_all gz_Q 6144 512 = true := by decide +kernel
theorem gz_q_13 : gz_all gz_Q 6656 512 = true := by decide +kernel
theorem gz_q_14 : gz_all gz_Q 7168 512 = true := by decide +kernel
theorem gz_q_15 : gz_all gz_Q 7680 512 = true := by decide +kernel
theorem gz_q {a : Nat} (h : a < 8192) : gz_Q a = true := by
  by_cases h0 : a < 512
  · exact gz_at gz_q_0 (by omega) (by omega)
  by_cases h1 : a < 1024
  · exact gz_at gz_q_1 (by omega) (by omega)
  by_cases h2 : a < 1536
  · exact gz_at gz_q_2 (by omega) (by omega)
  by_cases h3 : a < 2048
  · exact gz_at gz_q_3 (by omega) (by omega)
  by_cases h4 : a < 2560
  · exact gz_at gz_q_4 (by omega) (by omega)
  by_cases h5 : a < 3072
  · exact gz_at gz_q_5 (by omega) (by omega)
  by_cases h6 : a < 3584
  · exact gz_at gz_q_6 (by omega) (by omega)
  by_cases h7 : a < 4096
  · exact gz_at gz_q_7 (by omega) (by omega)
  by_cases h8 : a < 4608
  · exact gz_at gz_q_8 (by omega) (by omega)
  by_cases h9 : a < 5120
  · exact gz_at gz_q_9 (by omega) (by omega)
  by_cases h10 : a < 5632
  · exact gz_at gz_q_10 (by omega) (by omega)
  by_cases h11 : a < 6144
  · exact gz_at gz_q_11 (by omega) (by omega)
  by_cases h12 : a < 6656
  · exact gz_at gz_q_12 (by omega) (by omega)
  by_cases h13 : a < 7168
  · exact gz_at gz_q_13 (by omega) (by omega)
  by_cases h14 : a < 7680
  · exact gz_at gz_q_14 (by omega) (by omega)
  by_cases h15 : a < 8192
  · exact gz_at gz_q_15 (by omega) (by omega)
  exact absurd h h15
theorem gz_i12_0 : gz_all gz_P12 0 256 = true := by decide +kernel
theorem gz_i12_1 : gz_all gz_P12 256 256 = true := by decide +kernel
theorem gz_i12_2 : gz_all gz_P12 512 256 = true := by decide +kernel
theorem gz_i12_3 : gz_all gz_P12 768 256 = true := by decide +kernel
theorem gz_i12_4 : gz_all gz_P12 1024 256 = true := by decide +kernel
theorem gz_i12_5 : gz_all gz_P12 1280 256 = true := by decide +kernel
theorem gz_i12_6 : gz_all gz_P12 1536 256 = true := by decide +kernel
theorem gz_i12_7 : gz_all gz_P12 1792 256 = true := by decide +kernel
theorem gz_i12_8 : gz_all gz_P12 2048 256 = true := by decide +kernel
theorem gz_i12_9 : gz_all gz_P12 2304 256 = true := by decide +kernel
theorem gz_i12_10 : gz_all gz_P12 2560 256 = true := by decide +kernel
theorem gz_i12_11 : gz_all gz_P12 2816 256 = true := by decide +kernel
theorem gz_i12_12 : gz_all gz_P12 3072 256 = true := by decide +kernel
theorem gz_i12_13 : gz_all gz_P12 3328 256 = true := by decide +kernel
theorem gz_i12_14 : gz_all gz_P12 3584 256 = true := by decide +kernel
theorem gz_i12_15 : gz_all gz_P12 3840 256 = true := by decide +kernel
theorem gz_i12 {a : Nat} (h : a < 4096) : gz_P12 a = true := by
  by_cases h0 : a < 256
  · exact gz_at gz_i12_0 (by omega) (by omega)
  by_cases h1 : a < 512
  · exact gz_at gz_i12_1 (by omega) (by omega)
  by_cases h2 : a < 768
  · exact gz_at gz_i12_2 (by omega) (by omega)
  by_cases h3 : a < 1024
  · exact gz_at gz_i12_3 (by omega) (by omega)
  by_cases h4 : a < 1280
  · exact gz_at gz_i12_4 (by omega) (by omega)
  by_cases h5 : a < 1536
  · exact gz_at gz_i12_5 (by omega) (by omega)
  by_cases h6 : a < 1792
  · exact gz_at gz_i12_6 (by omega) (by omega)
  by_cases h7 : a < 2048
  · exact gz_at gz_i12_7 (by omega) (by omega)
  by_cases h8 : a < 2304
  · exact gz_at gz_i12_8 (by omega) (by omega)
  by_cases h9 : a < 2560
  · exact gz_at gz_i12_9 (by omega) (by omega)
  by_cases h10 : a < 2816
  · exact gz_at gz_i12_10 (by omega) (by omega)
  by_cases h11 : a < 3072
  · exact gz_at gz_i12_11 (by omega) (by omega)
  by_cases h12 : a < 3328
  · exact gz_at gz_i12_12 (by omega) (by omega)
  by_cases h13 : a < 3584
  · exact gz_at gz_i12_13 (by omega) (by omega)
  by_cases h14 : a < 3840
  · exact gz_at gz_i12_14 (by omega) (by omega)
  by_cases h15 : a < 4096
  · exact gz_at gz_i12_15 (by omega) (by omega)
  exact absurd h h15
theorem gz_i13_0 : gz_all gz_P13 0 512 = true := by decide +kernel
theorem gz_i13_1 : gz_all gz_P13 512 512 = true := by decide +kernel
theorem gz_i13_2 : gz_all gz_P13 1024 512 = true := by decide +kernel
theorem gz_i13_3 : gz_all gz_P13 1536 512 = true := by decide +kernel
theorem gz_i13_4 : gz_all gz_P13 2048 512 = true := by decide +kernel
theorem gz_i13_5 : gz_all gz_P13 2560 512 = true := by decide +kernel
theorem gz_i13_6 : gz_all gz_P13 3072 512 = true := by decide +kernel
theorem gz_i13_7 : gz_all gz_P13 3584 512 = true := by decide +kernel
theorem gz_i13_8 : gz_all gz_P13 4096 512 = true := by decide +kernel
theorem gz_i13_9 : gz_all gz_P13 4608 512 = true := by decide +kernel
theorem gz_i13_10 : gz_all gz_P13 5120 512 = true := by decide +kernel
theorem gz_i13_11 : gz_all gz_P13 5632 512 = true := by decide +kernel
theorem gz_i13_12 : gz_all gz_P13 6144 512 = true := by decide +kernel
theorem gz_i13_13 : gz_all gz_P13 6656 512 = true := by decide +kernel
theorem gz_i13_14 : gz_all gz_P13 7168 512 = true := by decide +kernel
theorem gz_i13_15 : gz_all gz_P13 7680 512 = true := by decide +kernel
theorem gz_i13 {a : Nat} (h : a < 8192) : gz_P13 a = true := by
  by_cases h0 : a < 512
  · exact gz_at gz_i13_0 (by omega) (by omega)
  by_cases h1 : a < 1024
  · exact gz_at gz_i13_1 (by omega) (by omega)
  by_cases h2 : a < 1536
  · exact gz_at gz_i13_2 (by omega) (by omega)
  by_cases h3 : a < 2048
  · exact gz_at gz_i13_3 (by omega) (by omega)
  by_cases h4 : a < 2560
  · exact gz_at gz_i13_4 (by omega) (by omega)
  by_cases h5 : a < 3072
  · exact gz_at gz_i13_5 (by omega) (by omega)
  by_cases h6 : a < 3584
  · exact gz_at gz_i13_6 (by omega) (by omega)
  by_cases h7 : a < 4096
  · exact gz_at gz_i13_7 (by omega) (by omega)
  by_cases h8 : a < 4608
  · exact gz_at gz_i13_8 (by omega) (by omega)
  by_cases h9 : a < 5120
  · exact gz_at gz_i13_9 (by omega) (by omega)
  by_cases h10 : a < 5632
  · exact gz_at gz_i13_10 (by omega) (by omega)
  by_cases h11 : a < 6144
  · exact gz_at gz_i13_11 (by omega) (by omega)
  by_cases h12 : a < 6656
  · exact gz_at gz_i13_12 (by omega) (by omega)
  by_cases h13 : a < 7168
  · exact gz_at gz_i13_13 (by omega) (by omega)
  by_cases h14 : a < 7680
  · exact gz_at gz_i13_14 (by omega) (by omega)
  by_cases h15 : a < 8192
  · exact gz_at gz_i13_15 (by omega) (by omega)
  exact absurd h h15
theorem gf_exp_clm {a : Nat} (h : a < 2 ^ 13) : gf_exp a = gf_clm a a 13 := by
  have h1 := Nat.eq_of_beq_eq_true (gz_q (a := a) h)
  rw [gz_exp_eq, gz_clm_eq] at h1
  exact h1
theorem gf_inv12_one {a : Nat} (h : a < 2 ^ 12) (h0 : a ≠ 0) : gf_mul12 a (gf_inv12 a) = 1 := by
  have h1 : (Nat.beq a 0 || Nat.beq (gz_p12 a) 1) = true := gz_i12 (a := a) h
  rw [gz_p12_eq] at h1
  rcases (Bool.or_eq_true _ _).mp h1 with e | e
  · exact absurd (Nat.eq_of_beq_eq_true e) h0
  · exact Nat.eq_of_beq_eq_true e
theorem gf_inv13_one {a : Nat} (h : a < 2 ^ 13) (h0 : a ≠ 0) : gf_mul13 a (gf_frac13 a 1) = 1 := by
  have h1 : (Nat.beq a 0 || Nat.beq (gz_p13 a) 1) = true := gz_i13 (a := a) h
  rw [gz_p13_eq] at h1
  rcases (Bool.or_eq_true _ _).mp h1 with e | e
  · exact absurd (Nat.eq_of_beq_eq_true e) h0
  · exact Nat.eq_of_beq_eq_true e
end
section
/-! THE FIELDS' LAWS, in Nat -/
/-- products of n bits: over exclusive or in both places, of n bits again, in any order -/
def gf_Ring (n : Nat) (mul : Nat → Nat → Nat) : Prop := (∀ y, gf_Lin (fun x => mul x y)) ∧ (∀ x, gf_Lin (fun y => mul x y)) ∧ (∀ x y, x < 2 ^ n → mul x y < 2 ^ n) ∧ (∀ x y, x < 2 ^ n → y < 2 ^ n → mul x y = mul y x) ∧ (∀ x y z, x < 2 ^ n → y < 2 ^ n → z < 2 ^ n → mul (mul x y) z = mul x (mul y z))
theorem gf_ring_of {n : Nat} {mul : Nat → Nat → Nat} (hx : ∀ y, gf_Lin (fun x => mul x y)) (hy : ∀ x, gf_Lin (fun y => mul x y)) (hlt : ∀ x y, x < 2 ^ n → mul x y < 2 ^ n) (hc : ∀ i, i < n → ∀ j, j < n → mul (2 ^ i) (2 ^ j) = mul (2 ^ j) (2 ^ i)) (ha : ∀ i, i < n → ∀ j, j < n → ∀ k, k < n → mul (mul (2 ^ i) (2 ^ j)) (2 ^ k) = mul (2 ^ i) (mul (2 ^ j) (2 ^ k))) : gf_Ring n mul := by
  refine ⟨hx, hy, hlt, ?_, ?_⟩
  · intro a b h1 h2
    refine gf_ext (N := n) (f := fun x => mul x b) (g := fun x => mul b x) ((hx b).N n) ((hy b).N n) n (Nat.le_refl n) (fun i hi => ?_) a h1
    exact gf_ext (N := n) (f := fun y => mul (2 ^ i) y) (g := fun y => mul y (2 ^ i)) ((hy _).N n) ((hx _).N n) n (Nat.le_refl n) (fun j hj => hc i hi j hj) b h2
  · intro a b c h1 h2 h3
    refine gf_ext (N := n) (f := fun x => mul (mul x b) c) (g := fun x => mul x (mul b c)) ((gf_lin_comp (f := fun z => mul z c) (g := fun x => mul x b) (hx c) (hx b)).N n) ((hx _).N n) n (Nat.le_refl n) (fun i hi => ?_) a h1
    refine gf_ext (N := n) (f := fun x => mul (mul (2 ^ i) x) c) (g := fun x => mul (2 ^ i) (mul x c)) ((gf_lin_comp (f := fun z => mul z c) (g := fun x => mul (2 ^ i) x) (hx c) (hy _)).N n) ((gf_lin_comp (f := fun z => mul (2 ^ i) z) (g := fun x => mul x c) (hy _) (hx c)).N n) n (Nat.le_refl n) (fun j hj => ?_) b h2
    exact gf_ext (N := n) (f := fun x => mul (mul (2 ^ i) (2 ^ j)) x) (g := fun x => mul (2 ^ i) (mul (2 ^ j) x)) ((hy _).N n) ((gf_lin_comp (f := fun z => mul (2 ^ i) z) (g := fun x => mul (2 ^ j) x) (hy _) (hy _)).N n) n (Nat.le_refl n) (fun k hk => ha i hi j hj k hk) c h3
theorem gf_k_comm12 : ∀ i, i < 12 → ∀ j, j < 12 → gf_mul12 (2 ^ i) (2 ^ j) = gf_mul12 (2 ^ j) (2 ^ i) := by decide +kernel
theorem gf_k_comm13 : ∀ i, i < 13 → ∀ j, j < 13 → gf_mul13 (2 ^ i) (2 ^ j) = gf_mul13 (2 ^ j) (2 ^ i) := by decide +kernel
theorem gf_k_assoc12 : ∀ i, i < 12 → ∀ j, j < 12 → ∀ k, k < 12 → gf_mul12 (gf_mul12 (2 ^ i) (2 ^ j)) (2 ^ k) = gf_mul12 (2 ^ i) (gf_mul12 (2 ^ j) (2 ^ k)) := by decide +kernel
theorem gf_k_assoc13 : ∀ i, i < 13 → ∀ j, j < 13 → ∀ k, k < 13 → gf_mul13 (gf_mul13 (2 ^ i) (2 ^ j)) (2 ^ k) = gf_mul13 (2 ^ i) (gf_mul13 (2 ^ j) (2 ^ k)) := by decide +kernel
theorem gf_ring12 : gf_Ring 12 gf_mul12 := gf_ring_of gf_lin_m12x gf_lin_m12y (fun _ y h => gf_mul12_lt y h) gf_k_comm12 gf_k_assoc12
theorem gf_ring13 : gf_Ring 13 gf_mul13 := gf_ring_of gf_lin_m13x gf_lin_m13y (fun _ y h => gf_mul13_lt y h) gf_k_comm13 gf_k_assoc13
section GFR
variable {n : Nat} {mul : Nat → Nat → Nat}
theorem gf_Ring.sq (h : gf_Ring n mul) {a b : Nat} (ha : a < 2 ^ n) (hb : b < 2 ^ n) : mul (a ^^^ b) (a ^^^ b) = mul a a ^^^ mul b b := by
  obtain ⟨hx, hy, -, hc, -⟩ := h
  have e1 : mul (a ^^^ b) (a ^^^ b) = mul a (a ^^^ b) ^^^ mul b (a ^^^ b) := hx (a ^^^ b) a b
  have e2 : mul a (a ^^^ b) = mul a a ^^^ mul a b := hy a a b
  have e3 : mul b (a ^^^ b) = mul a b ^^^ mul b b := by
    have h := hy b a b
    rw [hc a b ha hb]
    exact h
  rw [e1, e2, e3, Nat.xor_assoc, ← Nat.xor_assoc (mul a b), Nat.xor_self, Nat.zero_xor]
theorem gf_Ring.sqN (h : gf_Ring n mul) : gf_LinN n (fun i => mul i i) := fun _ _ ha hb => h.sq ha hb
/-- a factor on the right with a one for it -/
theorem gf_Ring.quo (h : gf_Ring n mul) (h1 : ∀ a, a < 2 ^ n → mul a 1 = a) (hn : 0 < n) {a b v : Nat} (ha : a < 2 ^ n) (hb : b < 2 ^ n) (hv : v < 2 ^ n) (e : mul a v = 1) : mul (mul v b) a = b := by
  obtain ⟨-, -, hlt, hc, has⟩ := h
  have ho : 1 < 2 ^ n := Nat.one_lt_two_pow (by omega)
  rw [hc (mul v b) a (hlt v b hv) ha, ← has a v b ha hv hb, e, hc 1 b ho hb, h1 b hb]
end GFR
theorem gf_one12 {a : Nat} (h : a < 2 ^ 12) : gf_mul12 a 1 = a :=
  gf_ext (N := 12) (f := fun x => gf_mul12 x 1) (g := fun x => x) ((gf_lin_m12x 1).N 12) (gf_lin_id.N 12) 12 (Nat.le_refl 12) (by decide +kernel) a h
theorem gf_one13 {a : Nat} (h : a < 2 ^ 13) : gf_mul13 a 1 = a :=
  gf_ext (N := 13) (f := fun x => gf_mul13 x 1) (g := fun x => x) ((gf_lin_m13x 1).N 13) (gf_lin_id.N 13) 13 (Nat.le_refl 13) (by decide +kernel) a h
/-! squares -/
theorem gf_exp13_lt {a : Nat} (h : a < 2 ^ 13) : gf_exp a < 2 ^ 26 := by
  rw [gf_exp_clm h]
  exact gf_clm_lt a h 13
theorem gf_exp_clm12 {a : Nat} (h : a < 2 ^ 12) : gf_exp a = gf_clm a a 12 := by
  rw [gf_exp_clm (gf_up h (by decide)), gf_clm_s, gf_bm, Nat.testBit_lt_two_pow h]
  simp
theorem gf_exp12_lt {a : Nat} (h : a < 2 ^ 12) : gf_exp a < 2 ^ 24 := by
  rw [gf_exp_clm12 h]
  exact gf_clm_lt a h 12
theorem gf_sq12_mul {a : Nat} (h : a < 2 ^ 12) : gf_sq12 a = gf_mul12 a a := by
  show gf_red12 (gf_exp a) = gf_red12 (gf_clm a a 12)
  rw [gf_exp_clm12 h]
theorem gf_sq13_mul {a : Nat} (h : a < 2 ^ 13) : gf_sq13 a = gf_mul13 a a := by
  show gf_red13 (gf_exp a) = gf_red13 (gf_clm a a 13)
  rw [gf_exp_clm h]
theorem gf_sq12_lt {a : Nat} (h : a < 2 ^ 12) : gf_sq12 a < 2 ^ 12 := gf_red12_lt (gf_exp12_lt h)
theorem gf_sq13_lt {a : Nat} (h : a < 2 ^ 13) : gf_sq13 a < 2 ^ 13 := gf_red13_lt (gf_exp13_lt h)
theorem gf_sq2_lt {a : Nat} (h : a < 2 ^ 13) : gf_sq2 a < 2 ^ 13 := gf_sq13_lt (gf_sq13_lt h)
/-! GF13's products with a square, and with a fourth power -/
theorem gf_xadd {a b i : Nat} (h : b < 2 ^ i) : (2 ^ i * a) ^^^ b = 2 ^ i * a + b := by
  apply Nat.eq_of_testBit_eq
  intro j
  rw [Nat.testBit_xor, Nat.testBit_two_pow_mul_add a h, Nat.testBit_two_pow_mul]
  by_cases hj : j < i
  · simp [hj, show ¬ i ≤ j by omega]
  · rw [Nat.testBit_lt_two_pow (gf_up h (by omega))]
    simp [hj, show i ≤ j by omega]
theorem gf_two {m t i j c : Nat} (hc : (1 <<< i) ^^^ (1 <<< j) = c) (hm : m < 2 ^ 13) (hij : i + 13 ≤ j) : m * (t &&& c) = m * (t &&& (1 <<< i)) ^^^ m * (t &&& (1 <<< j)) := by
  rw [← hc, Nat.and_xor_distrib_left, gf_and1, gf_and1]
  have p1 : 2 ^ i < 2 ^ j := Nat.pow_lt_pow_right (by decide) (by omega)
  have p2 : m * 2 ^ i < 2 ^ j := by
    refine gf_up (n := 13 + i) ?_ (by omega)
    rw [Nat.pow_add]
    exact Nat.mul_lt_mul_of_pos_right hm (Nat.two_pow_pos i)
  have e1 : 2 ^ j ^^^ 2 ^ i = 2 ^ j + 2 ^ i := by
    have h := gf_xadd (a := 1) p1
    rw [Nat.mul_one] at h
    exact h
  have e2 : m * 2 ^ j ^^^ m * 2 ^ i = m * 2 ^ j + m * 2 ^ i := by
    have h := gf_xadd (a := m) p2
    rw [Nat.mul_comm (2 ^ j) m] at h
    exact h
  cases t.testBit i <;> cases t.testBit j
  · simp
  · simp
  · simp
  · show m * (2 ^ i ^^^ 2 ^ j) = m * 2 ^ i ^^^ m * 2 ^ j
    rw [Nat.xor_comm (2 ^ i), e1, Nat.xor_comm (m * 2 ^ i), e2, Nat.mul_add]
/-- two bits of t, each with m, moved by s -/
def gf_T (s i j m t : Nat) : Nat := ((m * (t &&& (1 <<< i))) <<< s) ^^^ ((m * (t &&& (1 <<< j))) <<< s)
theorem gf_T_of {s m t i j c : Nat} (hc : (1 <<< i) ^^^ (1 <<< j) = c) (hm : m < 2 ^ 13) (hij : i + 13 ≤ j) : (m <<< s) * (t &&& c) = gf_T s i j m t := by
  unfold gf_T
  rw [← Nat.shiftLeft_xor_distrib, ← gf_two hc hm hij, Nat.shiftLeft_eq, Nat.shiftLeft_eq, Nat.mul_right_comm]
theorem gf_lin_Tm (s i j t : Nat) : gf_Lin (fun m => gf_T s i j m t) := gf_lin_xor (f := fun m => (m * (t &&& (1 <<< i))) <<< s) (g := fun m => (m * (t &&& (1 <<< j))) <<< s) (gf_lin_shl s (gf_lin_bx t i)) (gf_lin_shl s (gf_lin_bx t j))
theorem gf_lin_Tt (s i j m : Nat) : gf_Lin (fun t => gf_T s i j m t) := gf_lin_xor (f := fun t => (m * (t &&& (1 <<< i))) <<< s) (g := fun t => (m * (t &&& (1 <<< j))) <<< s) (gf_lin_shl s (gf_lin_by m i)) (gf_lin_shl s (gf_lin_by m j))
theorem gf_lin_tw (k : Nat) : gf_Lin (fun i => i ^^^ (i <<< k)) := gf_lin_xor (f := fun i => i) (g := fun i => i <<< k) gf_lin_id (gf_lin_shl k gf_lin_id)
def gf_sixT (d e : Nat) (m t : Nat) : Nat := ((((gf_T 0 0 d m t ^^^ gf_T e 1 (d + 1) m t) ^^^ gf_T (2 * e) 2 (d + 2) m t) ^^^ gf_T (3 * e) 3 (d + 3) m t) ^^^ gf_T (4 * e) 4 (d + 4) m t) ^^^ gf_T (5 * e) 5 (d + 5) m t
theorem gf_lin_6m (d e t : Nat) : gf_Lin (fun m => gf_sixT d e m t) := gf_lin_xor (gf_lin_xor (gf_lin_xor (gf_lin_xor (gf_lin_xor (gf_lin_Tm 0 0 d t) (gf_lin_Tm e 1 (d + 1) t)) (gf_lin_Tm (2 * e) 2 (d + 2) t)) (gf_lin_Tm (3 * e) 3 (d + 3) t)) (gf_lin_Tm (4 * e) 4 (d + 4) t)) (gf_lin_Tm (5 * e) 5 (d + 5) t)
theorem gf_lin_6t (d e m : Nat) : gf_Lin (fun t => gf_sixT d e m t) := gf_lin_xor (gf_lin_xor (gf_lin_xor (gf_lin_xor (gf_lin_xor (gf_lin_Tt 0 0 d m) (gf_lin_Tt e 1 (d + 1) m)) (gf_lin_Tt (2 * e) 2 (d + 2) m)) (gf_lin_Tt (3 * e) 3 (d + 3) m)) (gf_lin_Tt (4 * e) 4 (d + 4) m)) (gf_lin_Tt (5 * e) 5 (d + 5) m)
/-- the products of gf_sqmul and gf_sq2mul, as maps over exclusive or: g the middle bit's way, d the far bits' place, e the step -/
def gf_L (g k d e : Nat) (i m : Nat) : Nat := ((m * (i &&& (1 <<< 6))) <<< g) ^^^ gf_sixT d e m (i ^^^ (i <<< k))
theorem gf_lin_Lm (g k d e i : Nat) : gf_Lin (fun m => gf_L g k d e i m) := gf_lin_xor (f := fun m => (m * (i &&& (1 <<< 6))) <<< g) (g := fun m => gf_sixT d e m (i ^^^ (i <<< k))) (gf_lin_shl g (gf_lin_bx i 6)) (gf_lin_6m d e _)
theorem gf_lin_Li (g k d e m : Nat) : gf_Lin (fun i => gf_L g k d e i m) := gf_lin_xor (f := fun i => (m * (i &&& (1 <<< 6))) <<< g) (g := fun i => gf_sixT d e m (i ^^^ (i <<< k))) (gf_lin_shl g (gf_lin_by m 6)) (gf_lin_comp (f := fun t => gf_sixT d e m t) (g := fun i => i ^^^ (i <<< k)) (gf_lin_6t d e m) (gf_lin_tw k))
theorem gf_x7 (z a b c d e f : Nat) : (((((z ^^^ a) ^^^ b) ^^^ c) ^^^ d) ^^^ e) ^^^ f = z ^^^ (((((a ^^^ b) ^^^ c) ^^^ d) ^^^ e) ^^^ f) := by
  rw [Nat.xor_assoc z a b, Nat.xor_assoc z (a ^^^ b) c, Nat.xor_assoc z ((a ^^^ b) ^^^ c) d, Nat.xor_assoc z (((a ^^^ b) ^^^ c) ^^^ d) e, Nat.xor_assoc z ((((a ^^^ b) ^^^ c) ^^^ d) ^^^ e) f]
theorem gf_mid (g i m : Nat) : (m <<< g) * (i &&& 64) = (m * (i &&& (1 <<< 6))) <<< g := by
  rw [Nat.shiftLeft_eq, Nat.shiftLeft_eq, Nat.mul_right_comm]
  rfl
theorem gf_sqx_L {i m : Nat} (hm : m < 2 ^ 13) : gf_sqx i m = gf_L 6 7 14 1 i m := by
  unfold gf_sqx
  rw [gf_x7, gf_mid 6 i m, gf_T_of (s := 0) (i := 0) (j := 14) (c := 16385) (by decide +kernel) hm (by decide), gf_T_of (s := 1) (i := 1) (j := 15) (c := 32770) (by decide +kernel) hm (by decide), gf_T_of (s := 2) (i := 2) (j := 16) (c := 65540) (by decide +kernel) hm (by decide), gf_T_of (s := 3) (i := 3) (j := 17) (c := 131080) (by decide +kernel) hm (by decide), gf_T_of (s := 4) (i := 4) (j := 18) (c := 262160) (by decide +kernel) hm (by decide), gf_T_of (s := 5) (i := 5) (j := 19) (c := 524320) (by decide +kernel) hm (by decide)]
  rfl
theorem gf_sq2x_L {i m : Nat} (hm : m < 2 ^ 13) : gf_sq2x i m = gf_L 18 21 28 3 i m := by
  unfold gf_sq2x
  rw [gf_x7, gf_mid 18 i m, gf_T_of (s := 0) (i := 0) (j := 28) (c := 268435457) (by decide +kernel) hm (by decide), gf_T_of (s := 3) (i := 1) (j := 29) (c := 536870914) (by decide +kernel) hm (by decide), gf_T_of (s := 6) (i := 2) (j := 30) (c := 1073741828) (by decide +kernel) hm (by decide), gf_T_of (s := 9) (i := 3) (j := 31) (c := 2147483656) (by decide +kernel) hm (by decide), gf_T_of (s := 12) (i := 4) (j := 32) (c := 4294967312) (by decide +kernel) hm (by decide), gf_T_of (s := 15) (i := 5) (j := 33) (c := 8589934624) (by decide +kernel) hm (by decide)]
  rfl
def gf_A (x : Nat) : Nat := gf_red13 (gf_fold 137371844608 x &&& 67108863)
def gf_B (x : Nat) : Nat := gf_red13 (gf_fold 8796025913344 (gf_fold 2305834213120671744 x) &&& 67108863)
theorem gf_lin_A : gf_Lin gf_A := gf_lin_comp (f := gf_red13) (g := fun x => gf_fold 137371844608 x &&& 67108863) gf_lin_red13 (gf_lin_and 67108863 (gf_lin_fold 137371844608))
theorem gf_lin_B : gf_Lin gf_B := gf_lin_comp (f := gf_red13) (g := fun x => gf_fold 8796025913344 (gf_fold 2305834213120671744 x) &&& 67108863) gf_lin_red13 (gf_lin_and 67108863 (f := fun x => gf_fold 8796025913344 (gf_fold 2305834213120671744 x)) (gf_lin_comp (gf_lin_fold 8796025913344) (gf_lin_fold 2305834213120671744)))
theorem gf_k_sqmul : ∀ i, i < 13 → ∀ j, j < 13 → gf_A (gf_L 6 7 14 1 (2 ^ i) (2 ^ j)) = gf_mul13 (gf_mul13 (2 ^ i) (2 ^ i)) (2 ^ j) := by decide +kernel
theorem gf_k_sq2mul : ∀ i, i < 13 → ∀ j, j < 13 → gf_B (gf_L 18 21 28 3 (2 ^ i) (2 ^ j)) = gf_mul13 (gf_mul13 (gf_mul13 (2 ^ i) (2 ^ i)) (gf_mul13 (2 ^ i) (2 ^ i))) (2 ^ j) := by decide +kernel
theorem gf_sqmul_mul {i m : Nat} (hi : i < 2 ^ 13) (hm : m < 2 ^ 13) : gf_sqmul i m = gf_mul13 (gf_mul13 i i) m := by
  have e : gf_sqmul i m = gf_A (gf_L 6 7 14 1 i m) := by
    rw [← gf_sqx_L hm]
    rfl
  rw [e]
  refine gf_ext (N := 13) (f := fun m => gf_A (gf_L 6 7 14 1 i m)) (g := fun m => gf_mul13 (gf_mul13 i i) m) ((gf_lin_comp gf_lin_A (gf_lin_Lm 6 7 14 1 i)).N 13) ((gf_lin_m13y _).N 13) 13 (Nat.le_refl 13) (fun j hj => ?_) m hm
  refine gf_ext (N := 13) (f := fun i => gf_A (gf_L 6 7 14 1 i (2 ^ j))) (g := fun i => gf_mul13 (gf_mul13 i i) (2 ^ j)) ((gf_lin_comp gf_lin_A (gf_lin_Li 6 7 14 1 (2 ^ j))).N 13) ?_ 13 (Nat.le_refl 13) (fun k hk => gf_k_sqmul k hk j hj) i hi
  intro a b ha hb
  show gf_mul13 (gf_mul13 (a ^^^ b) (a ^^^ b)) (2 ^ j) = _
  rw [gf_ring13.sq ha hb]
  exact gf_lin_m13x (2 ^ j) _ _
theorem gf_sq2mul_mul {i m : Nat} (hi : i < 2 ^ 13) (hm : m < 2 ^ 13) : gf_sq2mul i m = gf_mul13 (gf_mul13 (gf_mul13 i i) (gf_mul13 i i)) m := by
  have e : gf_sq2mul i m = gf_B (gf_L 18 21 28 3 i m) := by
    rw [← gf_sq2x_L hm]
    rfl
  rw [e]
  refine gf_ext (N := 13) (f := fun m => gf_B (gf_L 18 21 28 3 i m)) (g := fun m => gf_mul13 (gf_mul13 (gf_mul13 i i) (gf_mul13 i i)) m) ((gf_lin_comp gf_lin_B (gf_lin_Lm 18 21 28 3 i)).N 13) ((gf_lin_m13y _).N 13) 13 (Nat.le_refl 13) (fun j hj => ?_) m hm
  refine gf_ext (N := 13) (f := fun i => gf_B (gf_L 18 21 28 3 i (2 ^ j))) (g := fun i => gf_mul13 (gf_mul13 (gf_mul13 i i) (gf_mul13 i i)) (2 ^ j)) ((gf_lin_comp gf_lin_B (gf_lin_Li 18 21 28 3 (2 ^ j))).N 13) ?_ 13 (Nat.le_refl 13) (fun k hk => gf_k_sq2mul k hk j hj) i hi
  intro a b ha hb
  show gf_mul13 (gf_mul13 (gf_mul13 (a ^^^ b) (a ^^^ b)) (gf_mul13 (a ^^^ b) (a ^^^ b))) (2 ^ j) = _
  rw [gf_ring13.sq ha hb, gf_ring13.sq (gf_mul13_lt a ha) (gf_mul13_lt b hb)]
  exact gf_lin_m13x (2 ^ j) _ _
/-! by kind: 0 the field of 4096, 1 the field of 8192 -/
noncomputable def gf_mulK (k : Nat) : Nat → Nat → Nat := if k = 0 then gf_mul12 else gf_mul13
noncomputable def gf_sqK (k : Nat) : Nat → Nat := if k = 0 then gf_sq12 else gf_sq13
noncomputable def gf_invK (k : Nat) : Nat → Nat := if k = 0 then gf_inv12 else (fun a => gf_frac13 a 1)
noncomputable def gf_fracK (k : Nat) : Nat → Nat → Nat := if k = 0 then (fun a b => gf_mul12 (gf_inv12 a) b) else gf_frac13
theorem gf_mulK_0 : gf_mulK 0 = gf_mul12 := if_pos rfl
theorem gf_mulK_1 : gf_mulK 1 = gf_mul13 := if_neg (by decide)
theorem gf_sqK_0 : gf_sqK 0 = gf_sq12 := if_pos rfl
theorem gf_sqK_1 : gf_sqK 1 = gf_sq13 := if_neg (by decide)
theorem gf_invK_0 : gf_invK 0 = gf_inv12 := if_pos rfl
theorem gf_invK_1 : gf_invK 1 = fun a => gf_frac13 a 1 := if_neg (by decide)
theorem gf_fracK_0 : gf_fracK 0 = fun a b => gf_mul12 (gf_inv12 a) b := if_pos rfl
theorem gf_fracK_1 : gf_fracK 1 = gf_frac13 := if_neg (by decide)
theorem gf_inv12_lt {a : Nat} (h : a < 2 ^ 12) : gf_inv12 a < 2 ^ 12 := by
  refine gf_sq12_lt (gf_mul12_lt _ (gf_sq12_lt (gf_mul12_lt _ (gf_sq12_lt (gf_sq12_lt (gf_mul12_lt _ (gf_sq12_lt (gf_sq12_lt (gf_sq12_lt (gf_sq12_lt (gf_mul12_lt _ (gf_sq12_lt (gf_sq12_lt (gf_mul12_lt _ (gf_sq12_lt h)))))))))))))))
/-- all that the law asks of one field -/
def gf_Facts (k : Nat) : Prop := ∀ n, n = 12 + k → gf_Ring n (gf_mulK k) ∧ (∀ a, a < 2 ^ n → gf_mulK k a 1 = a) ∧ (∀ a, a < 2 ^ n → gf_sqK k a = gf_mulK k a a) ∧ (∀ a, a < 2 ^ n → gf_invK k a < 2 ^ n) ∧ (∀ a b, a < 2 ^ n → b < 2 ^ n → gf_fracK k a b < 2 ^ n) ∧ (∀ a, a < 2 ^ n → a ≠ 0 → gf_mulK k a (gf_invK k a) = 1) ∧ (∀ a b, a < 2 ^ n → b < 2 ^ n → a ≠ 0 → gf_mulK k (gf_fracK k a b) a = b)
theorem gf_facts12 : gf_Facts 0 := by
  intro n hn
  subst hn
  rw [gf_mulK_0, gf_sqK_0, gf_invK_0, gf_fracK_0]
  refine ⟨gf_ring12, fun a h => gf_one12 h, fun a h => gf_sq12_mul h, fun a h => gf_inv12_lt h, fun a b h _ => gf_mul12_lt b (gf_inv12_lt h), fun a h h0 => gf_inv12_one h h0, fun a b h hb h0 => ?_⟩
  exact gf_ring12.quo (fun a h => gf_one12 h) (by decide) h hb (gf_inv12_lt h) (gf_inv12_one h h0)
theorem gf_facts13 : gf_Facts 1 := by
  intro n hn
  subst hn
  rw [gf_mulK_1, gf_sqK_1, gf_invK_1, gf_fracK_1]
  refine ⟨gf_ring13, fun a h => gf_one13 h, fun a h => gf_sq13_mul h, fun a h => gf_sqmul_lt _ _, fun a b _ _ => gf_sqmul_lt _ _, fun a h h0 => gf_inv13_one h h0, fun a b h hb h0 => ?_⟩
  have ho : gf_o13 (gf_f13 a) < 2 ^ 13 := gf_sq2mul_lt _ _
  have h1 : gf_frac13 a 1 = gf_mul13 (gf_o13 (gf_f13 a)) (gf_o13 (gf_f13 a)) := (gf_sqmul_mul ho (by decide)).trans (gf_one13 (gf_mul13_lt _ ho))
  have h2 : gf_frac13 a b = gf_mul13 (gf_frac13 a 1) b := by
    rw [h1]
    exact gf_sqmul_mul ho hb
  have h3 : gf_mul13 (gf_mul13 (gf_frac13 a 1) b) a = b := gf_ring13.quo (fun a h => gf_one13 h) (by decide) h hb (gf_sqmul_lt _ _) (gf_inv13_one h h0)
  rw [← h2] at h3
  exact h3
theorem gf_facts {k : Nat} (hk : k < 2) : gf_Facts k := by
  rcases (show k = 0 ∨ k = 1 by omega) with rfl | rfl
  · exact gf_facts12
  · exact gf_facts13
end
section
-- ===== PART A: goes FIRST, ahead of the names: the tables' words, and 'selects' of the private methods out of them =====
/-- a private method of a class that the tables say can be made, by its rows of tables_1 -/
def lw_okq (q : MethodName × Nat) : Prop := (q.1.cls ≠ "java/lang/invoke/MethodHandle" ∧ q.1.cls ≠ "java/lang/invoke/VarHandle") ∧ Cond.instantiable q.1.cls q.2 ∈ tables_1 ∧ Cond.privateMethod q.1 ∈ tables_1 ∧ Cond.instanceMethod q.1 ∈ tables_1
set_option maxRecDepth 100000
theorem lw_p0 : lw_okq (⟨"GF13", "gf_sqmul", "(SS)S"⟩, 0) := ⟨⟨by decide +kernel, by decide +kernel⟩, List.mem_of_getElem? (i := 27) rfl, List.mem_of_getElem? (i := 105) rfl, List.mem_of_getElem? (i := 106) rfl⟩
theorem lw_p1 : lw_okq (⟨"GF13", "gf_sq2mul", "(SS)S"⟩, 0) := ⟨⟨by decide +kernel, by decide +kernel⟩, List.mem_of_getElem? (i := 27) rfl, List.mem_of_getElem? (i := 118) rfl, List.mem_of_getElem? (i := 119) rfl⟩
theorem lw_p2 : lw_okq (⟨"GF13", "gf_sq2", "(S)S"⟩, 0) := ⟨⟨by decide +kernel, by decide +kernel⟩, List.mem_of_getElem? (i := 27) rfl, List.mem_of_getElem? (i := 130) rfl, List.mem_of_getElem? (i := 131) rfl⟩
def lw_privs_1 : List (MethodName × Nat) := [(⟨"GF13", "gf_sqmul", "(SS)S"⟩, 0), (⟨"GF13", "gf_sq2mul", "(SS)S"⟩, 0), (⟨"GF13", "gf_sq2", "(S)S"⟩, 0)]
theorem lw_r1 : ∀ q ∈ lw_privs_1, lw_okq q := List.forall_mem_cons.mpr ⟨lw_p0, List.forall_mem_cons.mpr ⟨lw_p1, List.forall_mem_cons.mpr ⟨lw_p2, fun _ h => absurd h List.not_mem_nil⟩⟩⟩
def lw_privs : List (MethodName × Nat) := lw_privs_1
def lw_tbl : List Cond := k2_sels lw_privs ++ tables_1
theorem lw_privs_ok : ∀ q ∈ lw_privs, lw_okq q := lw_r1
-- ===== ONE list of words for every method: the tables' words that hold all through a run =====
def lw_all : List Cond := lw_tbl.filter goodWord
/-- a word of the tables by its place: claim/WORDS.tsv -/
theorem lw_w {w : Cond} (i : Nat) (h : lw_tbl[i]? = some w) (g : goodWord w = true) : w ∈ lw_all := List.mem_filter.mpr ⟨List.mem_of_getElem? h, g⟩
theorem lw_all_tbl {w : Cond} (h : w ∈ lw_all) : w ∈ lw_tbl := (List.mem_filter.mp h).1
theorem lw_self : GoodIn lw_all lw_all := fun w h => ⟨h, good_of_word (List.mem_filter.mp h).2⟩
/-- a class's field words, by their places -/
theorem lw_in (ws : List Cond) (ps : List Nat) (hp : ws = ps.filterMap (fun i => lw_tbl[i]?)) (hg : ws.all goodWord = true) : ∀ w ∈ ws, w ∈ lw_all := by
  intro w h
  have h1 := List.all_eq_true.mp hg w h
  rw [hp] at h
  obtain ⟨i, -, hi⟩ := List.mem_filterMap.mp h
  exact lw_w i hi h1
/-- the words of a contract for the method y with code b, L locals, answer r -/
abbrev ws_ (y : MethodName) (b : ByteArray) (L : Nat) (r : Option FieldType) : List Cond := Cond.code y b L r :: lw_all
theorem lw_meth {y : MethodName} {b : ByteArray} {L : Nat} {r : Option FieldType} (h : Cond.code y b L r ∈ lw_all) : GoodIn lw_all (ws_ y b L r) := by
  intro w hw
  rcases List.mem_cons.mp hw with e | e
  · rw [e]
    exact lw_self _ h
  · exact lw_self _ e
theorem lw_app {a c : List Cond} (ha : ∀ w ∈ a, w ∈ lw_all) (hc : GoodIn lw_all c) : GoodIn lw_all (a ++ c) := by
  intro w hw
  rcases List.mem_append.mp hw with e | e
  · exact lw_self w (ha w e)
  · exact hc w e
/-- what a call through an object asks: cwV n hts (lw_V ..) -/
theorem lw_V {own : String} {idx : Nat} {C : String} {y : MethodName} {b : ByteArray} {L : Nat} {r : Option FieldType} (h1 : Cond.methodLink own idx y ∈ lw_all) (h2 : Cond.instanceMethod y ∈ lw_all) (h3 : Cond.selects C y y ∈ lw_all) (h4 : Cond.initialized C ∈ lw_all) (h5 : Cond.code y b L r ∈ lw_all) : GoodIn lw_all (wsV own idx C y (ws_ y b L r)) := by
  refine lw_app ?_ (lw_meth h5)
  intro w hw
  simp only [List.mem_cons, List.not_mem_nil, or_false] at hw
  rcases hw with e | e | e | e
  · rw [e]; exact h1
  · rw [e]; exact h2
  · rw [e]; exact h3
  · rw [e]; exact h4
/-- what a static call asks: va_cwS n hts (lw_S ..) -/
theorem lw_S {own : String} {idx : Nat} {y : MethodName} {b : ByteArray} {L : Nat} {r : Option FieldType} (h1 : Cond.methodLink own idx y ∈ lw_all) (h2 : Cond.static y ∈ lw_all) (h3 : Cond.initialized y.cls ∈ lw_all) (h4 : Cond.code y b L r ∈ lw_all) : GoodIn lw_all (va_wsS own idx y (ws_ y b L r)) := by
  refine lw_app ?_ (lw_meth h4)
  intro w hw
  simp only [List.mem_cons, List.not_mem_nil, or_false] at hw
  rcases hw with e | e | e
  · rw [e]; exact h1
  · rw [e]; exact h2
  · rw [e]; exact h3
/-- the words of a contract for a method WITH HANDLERS (hh: its table) -/
abbrev wsW_ (y : MethodName) (b : ByteArray) (L : Nat) (r : Option FieldType) (hh : List (Nat × Nat × Nat × Nat)) : List Cond := Cond.codeWith y b L r hh :: lw_all
theorem lw_methW {y : MethodName} {b : ByteArray} {L : Nat} {r : Option FieldType} {hh : List (Nat × Nat × Nat × Nat)} (h : Cond.codeWith y b L r hh ∈ lw_all) : GoodIn lw_all (wsW_ y b L r hh) := by
  intro w hw
  rcases List.mem_cons.mp hw with e | e
  · rw [e]
    exact lw_self _ h
  · exact lw_self _ e
/-- any list of words by their places (lw_in), good -/
theorem lw_good {ws : List Cond} (h : ∀ w ∈ ws, w ∈ lw_all) : GoodIn lw_all ws := fun w hw => lw_self w (h w hw)
/-- what a call of a method with handlers asks: vx_cwVW n hts (lw_VW ..), vx_cwSW n hts (lw_SW ..) -/
theorem lw_VW {own : String} {idx : Nat} {C : String} {y : MethodName} {b : ByteArray} {L : Nat} {r : Option FieldType} {hh : List (Nat × Nat × Nat × Nat)} (h1 : Cond.methodLink own idx y ∈ lw_all) (h2 : Cond.instanceMethod y ∈ lw_all) (h3 : Cond.selects C y y ∈ lw_all) (h4 : Cond.initialized C ∈ lw_all) (h5 : Cond.codeWith y b L r hh ∈ lw_all) : GoodIn lw_all (wsV own idx C y (wsW_ y b L r hh)) := by
  refine lw_app ?_ (lw_methW h5)
  intro w hw
  simp only [List.mem_cons, List.not_mem_nil, or_false] at hw
  rcases hw with e | e | e | e
  · rw [e]; exact h1
  · rw [e]; exact h2
  · rw [e]; exact h3
  · rw [e]; exact h4
theorem lw_SW {own : String} {idx : Nat} {y : MethodName} {b : ByteArray} {L : Nat} {r : Option FieldType} {hh : List (Nat × Nat × Nat × Nat)} (h1 : Cond.methodLink own idx y ∈ lw_all) (h2 : Cond.static y ∈ lw_all) (h3 : Cond.initialized y.cls ∈ lw_all) (h4 : Cond.codeWith y b L r hh ∈ lw_all) : GoodIn lw_all (va_wsS own idx y (wsW_ y b L r hh)) := by
  refine lw_app ?_ (lw_methW h4)
  intro w hw
  simp only [List.mem_cons, List.not_mem_nil, or_false] at hw
  rcases hw with e | e | e
  · rw [e]; exact h1
  · rw [e]; exact h2
  · rw [e]; exact h3
/-- a word by its place in its run of the tables -/
theorem lw_at {r : List Cond} (hr : ∀ w ∈ r, w ∈ lw_tbl) {w : Cond} (i : Nat) (h : r[i]? = some w) : w ∈ lw_tbl := hr w (List.mem_of_getElem? h)
theorem lw_g {w : Cond} (h : w ∈ lw_tbl) (g : goodWord w = true) : w ∈ lw_all := List.mem_filter.mpr ⟨h, g⟩
theorem lw_ms : ∀ w ∈ k2_sels lw_privs, w ∈ lw_tbl := fun w h => show w ∈ k2_sels lw_privs ++ tables_1 from List.mem_append_left _ h
theorem lw_m0 : ∀ w ∈ tables_1, w ∈ lw_tbl := fun w h => show w ∈ k2_sels lw_privs ++ tables_1 from List.mem_append_right (k2_sels lw_privs) h
theorem qs0 : (Cond.selects "GF13" ⟨"GF13", "gf_sqmul", "(SS)S"⟩ ⟨"GF13", "gf_sqmul", "(SS)S"⟩) ∈ lw_all := lw_g (lw_at lw_ms 0 rfl) rfl
theorem qs1 : (Cond.selects "GF13" ⟨"GF13", "gf_sq2mul", "(SS)S"⟩ ⟨"GF13", "gf_sq2mul", "(SS)S"⟩) ∈ lw_all := lw_g (lw_at lw_ms 1 rfl) rfl
theorem qs2 : (Cond.selects "GF13" ⟨"GF13", "gf_sq2", "(S)S"⟩ ⟨"GF13", "gf_sq2", "(S)S"⟩) ∈ lw_all := lw_g (lw_at lw_ms 2 rfl) rfl
end
section
/-! DECODE ROWS BY BYTES: one lemma an opcode; a method's code is cut into short pieces once, and a row reads its own piece alone. -/
set_option maxRecDepth 100000
/-- the code has just these bytes from pc on -/
def DkAt (code : ByteArray) (pc : Nat) (bs : List UInt8) : Prop := ∀ (j : Nat) (b : UInt8), bs[j]? = some b → code.data.toList[pc + j]? = some b
/-- the piece W has the bytes bs from its place j on -/
def dkIn (W : List UInt8) (j : Nat) (bs : List UInt8) : Bool := decide ((W.drop j).take bs.length = bs)
theorem dk_seg {l W T : List UInt8} {o o2 : Nat} (h : l.drop o = W ++ T) (n : Nat) (hn : W.length = n) (ho : o + n = o2) : l.drop o2 = T := by
  subst ho
  rw [← List.drop_drop, h, List.drop_left' hn]
theorem dk_at {code : ByteArray} {W T bs : List UInt8} {o pc : Nat} (h : code.data.toList.drop o = W ++ T) (j : Nat) (hp : o + j = pc) (hw : dkIn W j bs = true) : DkAt code pc bs := by
  subst hp
  intro i b e
  have h1 := of_decide_eq_true hw
  have h2 : i < bs.length := (List.getElem?_eq_some_iff.mp e).1
  have h3 : W[j + i]? = some b := by
    rw [← h1, List.getElem?_take, if_pos h2, List.getElem?_drop] at e
    exact e
  have h4 : j + i < W.length := (List.getElem?_eq_some_iff.mp h3).1
  have h5 : (code.data.toList.drop o)[j + i]? = some b := by
    rw [h, List.getElem?_append_left h4]
    exact h3
  rw [List.getElem?_drop, ← Nat.add_assoc] at h5
  exact h5
theorem dk_u1 {A : ByteArray} {p : Nat} {b : UInt8} (h : A.data.toList[p]? = some b) : (Reader.u1 : Reader DecodeError Nat) A p = .ok (b.toNat, p + 1) := by
  obtain ⟨h1, h2⟩ := List.getElem?_eq_some_iff.mp h
  have h3 : p < A.size := by simpa using h1
  have h4 : A[p]'h3 = b := h2
  have e : (Reader.u1 : Reader DecodeError Nat) A p = (if h : p < A.size then .ok (A[p].toNat, p + 1) else .error (HasTruncated.truncated p)) := by
    show (do if h : p < A.size then do set (p + 1); Pure.pure A[p].toNat else MonadExcept.throw (HasTruncated.truncated p) : Reader DecodeError Nat) A p = _
    by_cases hi : p < A.size
    · rw [dif_pos hi, dif_pos hi]; rfl
    · rw [dif_neg hi, dif_neg hi]; rfl
  rw [e, dif_pos h3, h4]
theorem dk_bind {α β : Type} {r : Reader DecodeError α} {f : α → Reader DecodeError β} {A : ByteArray} {p s : Nat} {a : α} (h : r A p = .ok (a, s)) : (r >>= f) A p = f a A s := by
  show (do let (a, s) ← r A p; f a A s : Except DecodeError (β × Nat)) = _
  rw [h]
  rfl
theorem dk_map {α β : Type} {r : Reader DecodeError α} {g : α → β} {A : ByteArray} {p s : Nat} {a : α} (h : r A p = .ok (a, s)) : (g <$> r) A p = .ok (g a, s) := by
  show (do let (a, s) ← r A p; .ok (g a, s) : Except DecodeError (β × Nat)) = _
  rw [h]
  rfl
theorem dk_u2 {A : ByteArray} {p : Nat} {a b : UInt8} (h : A.data.toList[p]? = some a) (h2 : A.data.toList[p + 1]? = some b) : (Reader.u2 : Reader DecodeError Nat) A p = .ok (a.toNat * 256 + b.toNat, p + 2) := by
  show (Reader.u1 >>= fun hi => Reader.u1 >>= fun lo => Pure.pure (hi * 256 + lo) : Reader DecodeError Nat) A p = _
  rw [dk_bind (dk_u1 h), dk_bind (dk_u1 h2)]
  rfl
theorem dk_of {code : ByteArray} {pc n : Nat} {i : Instr} (h : Decoder.instr pc code pc = .ok (i, pc + n)) : decode code pc = .ok (i, n) := by
  have e : decode code pc = (match Decoder.instr pc code pc with | .error x => .error x | .ok (j, s) => .ok (j, s - pc)) := by
    show (do let (j, s) ← Decoder.instr pc code pc; Pure.pure (j, s - pc) : Except DecodeError (Instr × Nat)) = _
    cases Decoder.instr pc code pc <;> rfl
  rw [e, h]
  show Except.ok (i, pc + n - pc) = _
  rw [Nat.add_sub_cancel_left]
theorem dk_2 {code : ByteArray} {pc : Nat} (h : DkAt code pc [2]) : decode code pc = .ok (.iconst (-1), 1) := dk_of ((dk_bind (dk_u1 (h 0 _ rfl))).trans rfl)
theorem dk_3 {code : ByteArray} {pc : Nat} (h : DkAt code pc [3]) : decode code pc = .ok (.iconst 0, 1) := dk_of ((dk_bind (dk_u1 (h 0 _ rfl))).trans rfl)
theorem dk_4 {code : ByteArray} {pc : Nat} (h : DkAt code pc [4]) : decode code pc = .ok (.iconst 1, 1) := dk_of ((dk_bind (dk_u1 (h 0 _ rfl))).trans rfl)
theorem dk_5 {code : ByteArray} {pc : Nat} (h : DkAt code pc [5]) : decode code pc = .ok (.iconst 2, 1) := dk_of ((dk_bind (dk_u1 (h 0 _ rfl))).trans rfl)
theorem dk_6 {code : ByteArray} {pc : Nat} (h : DkAt code pc [6]) : decode code pc = .ok (.iconst 3, 1) := dk_of ((dk_bind (dk_u1 (h 0 _ rfl))).trans rfl)
theorem dk_7 {code : ByteArray} {pc : Nat} (h : DkAt code pc [7]) : decode code pc = .ok (.iconst 4, 1) := dk_of ((dk_bind (dk_u1 (h 0 _ rfl))).trans rfl)
theorem dk_8 {code : ByteArray} {pc : Nat} (h : DkAt code pc [8]) : decode code pc = .ok (.iconst 5, 1) := dk_of ((dk_bind (dk_u1 (h 0 _ rfl))).trans rfl)
theorem dk_16 {code : ByteArray} {pc : Nat} (a : UInt8) (h : DkAt code pc [16, a]) : decode code pc = .ok (.bipush (Reader.signed 8 a.toNat), 2) := dk_of ((dk_bind (dk_u1 (h 0 _ rfl))).trans ((dk_bind (dk_map (dk_u1 (h 1 _ rfl)))).trans rfl))
theorem dk_17 {code : ByteArray} {pc : Nat} (a b : UInt8) (h : DkAt code pc [17, a, b]) : decode code pc = .ok (.sipush (Reader.signed 16 (a.toNat * 256 + b.toNat)), 3) := dk_of ((dk_bind (dk_u1 (h 0 _ rfl))).trans ((dk_bind (dk_map (dk_u2 (h 1 _ rfl) (h 2 _ rfl)))).trans rfl))
theorem dk_18 {code : ByteArray} {pc : Nat} (a : UInt8) (h : DkAt code pc [18, a]) : decode code pc = .ok (.ldc a.toNat, 2) := dk_of ((dk_bind (dk_u1 (h 0 _ rfl))).trans ((dk_bind (dk_u1 (h 1 _ rfl))).trans rfl))
theorem dk_20 {code : ByteArray} {pc : Nat} (a b : UInt8) (h : DkAt code pc [20, a, b]) : decode code pc = .ok (.ldc2_w (a.toNat * 256 + b.toNat), 3) := dk_of ((dk_bind (dk_u1 (h 0 _ rfl))).trans ((dk_bind (dk_u2 (h 1 _ rfl) (h 2 _ rfl))).trans rfl))
theorem dk_21 {code : ByteArray} {pc : Nat} (a : UInt8) (h : DkAt code pc [21, a]) : decode code pc = .ok (.iload a.toNat, 2) := dk_of ((dk_bind (dk_u1 (h 0 _ rfl))).trans ((dk_bind (dk_u1 (h 1 _ rfl))).trans rfl))
theorem dk_22 {code : ByteArray} {pc : Nat} (a : UInt8) (h : DkAt code pc [22, a]) : decode code pc = .ok (.lload a.toNat, 2) := dk_of ((dk_bind (dk_u1 (h 0 _ rfl))).trans ((dk_bind (dk_u1 (h 1 _ rfl))).trans rfl))
theorem dk_25 {code : ByteArray} {pc : Nat} (a : UInt8) (h : DkAt code pc [25, a]) : decode code pc = .ok (.aload a.toNat, 2) := dk_of ((dk_bind (dk_u1 (h 0 _ rfl))).trans ((dk_bind (dk_u1 (h 1 _ rfl))).trans rfl))
theorem dk_26 {code : ByteArray} {pc : Nat} (h : DkAt code pc [26]) : decode code pc = .ok (.iload_n 0, 1) := dk_of ((dk_bind (dk_u1 (h 0 _ rfl))).trans rfl)
theorem dk_27 {code : ByteArray} {pc : Nat} (h : DkAt code pc [27]) : decode code pc = .ok (.iload_n 1, 1) := dk_of ((dk_bind (dk_u1 (h 0 _ rfl))).trans rfl)
theorem dk_28 {code : ByteArray} {pc : Nat} (h : DkAt code pc [28]) : decode code pc = .ok (.iload_n 2, 1) := dk_of ((dk_bind (dk_u1 (h 0 _ rfl))).trans rfl)
theorem dk_29 {code : ByteArray} {pc : Nat} (h : DkAt code pc [29]) : decode code pc = .ok (.iload_n 3, 1) := dk_of ((dk_bind (dk_u1 (h 0 _ rfl))).trans rfl)
theorem dk_33 {code : ByteArray} {pc : Nat} (h : DkAt code pc [33]) : decode code pc = .ok (.lload_n 3, 1) := dk_of ((dk_bind (dk_u1 (h 0 _ rfl))).trans rfl)
theorem dk_42 {code : ByteArray} {pc : Nat} (h : DkAt code pc [42]) : decode code pc = .ok (.aload_n 0, 1) := dk_of ((dk_bind (dk_u1 (h 0 _ rfl))).trans rfl)
theorem dk_43 {code : ByteArray} {pc : Nat} (h : DkAt code pc [43]) : decode code pc = .ok (.aload_n 1, 1) := dk_of ((dk_bind (dk_u1 (h 0 _ rfl))).trans rfl)
theorem dk_45 {code : ByteArray} {pc : Nat} (h : DkAt code pc [45]) : decode code pc = .ok (.aload_n 3, 1) := dk_of ((dk_bind (dk_u1 (h 0 _ rfl))).trans rfl)
theorem dk_46 {code : ByteArray} {pc : Nat} (h : DkAt code pc [46]) : decode code pc = .ok (.iaload, 1) := dk_of ((dk_bind (dk_u1 (h 0 _ rfl))).trans rfl)
theorem dk_50 {code : ByteArray} {pc : Nat} (h : DkAt code pc [50]) : decode code pc = .ok (.aaload, 1) := dk_of ((dk_bind (dk_u1 (h 0 _ rfl))).trans rfl)
theorem dk_54 {code : ByteArray} {pc : Nat} (a : UInt8) (h : DkAt code pc [54, a]) : decode code pc = .ok (.istore a.toNat, 2) := dk_of ((dk_bind (dk_u1 (h 0 _ rfl))).trans ((dk_bind (dk_u1 (h 1 _ rfl))).trans rfl))
theorem dk_55 {code : ByteArray} {pc : Nat} (a : UInt8) (h : DkAt code pc [55, a]) : decode code pc = .ok (.lstore a.toNat, 2) := dk_of ((dk_bind (dk_u1 (h 0 _ rfl))).trans ((dk_bind (dk_u1 (h 1 _ rfl))).trans rfl))
theorem dk_58 {code : ByteArray} {pc : Nat} (a : UInt8) (h : DkAt code pc [58, a]) : decode code pc = .ok (.astore a.toNat, 2) := dk_of ((dk_bind (dk_u1 (h 0 _ rfl))).trans ((dk_bind (dk_u1 (h 1 _ rfl))).trans rfl))
theorem dk_59 {code : ByteArray} {pc : Nat} (h : DkAt code pc [59]) : decode code pc = .ok (.istore_n 0, 1) := dk_of ((dk_bind (dk_u1 (h 0 _ rfl))).trans rfl)
theorem dk_60 {code : ByteArray} {pc : Nat} (h : DkAt code pc [60]) : decode code pc = .ok (.istore_n 1, 1) := dk_of ((dk_bind (dk_u1 (h 0 _ rfl))).trans rfl)
theorem dk_61 {code : ByteArray} {pc : Nat} (h : DkAt code pc [61]) : decode code pc = .ok (.istore_n 2, 1) := dk_of ((dk_bind (dk_u1 (h 0 _ rfl))).trans rfl)
theorem dk_62 {code : ByteArray} {pc : Nat} (h : DkAt code pc [62]) : decode code pc = .ok (.istore_n 3, 1) := dk_of ((dk_bind (dk_u1 (h 0 _ rfl))).trans rfl)
theorem dk_66 {code : ByteArray} {pc : Nat} (h : DkAt code pc [66]) : decode code pc = .ok (.lstore_n 3, 1) := dk_of ((dk_bind (dk_u1 (h 0 _ rfl))).trans rfl)
theorem dk_76 {code : ByteArray} {pc : Nat} (h : DkAt code pc [76]) : decode code pc = .ok (.astore_n 1, 1) := dk_of ((dk_bind (dk_u1 (h 0 _ rfl))).trans rfl)
theorem dk_78 {code : ByteArray} {pc : Nat} (h : DkAt code pc [78]) : decode code pc = .ok (.astore_n 3, 1) := dk_of ((dk_bind (dk_u1 (h 0 _ rfl))).trans rfl)
theorem dk_83 {code : ByteArray} {pc : Nat} (h : DkAt code pc [83]) : decode code pc = .ok (.aastore, 1) := dk_of ((dk_bind (dk_u1 (h 0 _ rfl))).trans rfl)
theorem dk_89 {code : ByteArray} {pc : Nat} (h : DkAt code pc [89]) : decode code pc = .ok (.dup, 1) := dk_of ((dk_bind (dk_u1 (h 0 _ rfl))).trans rfl)
theorem dk_100 {code : ByteArray} {pc : Nat} (h : DkAt code pc [100]) : decode code pc = .ok (.isub, 1) := dk_of ((dk_bind (dk_u1 (h 0 _ rfl))).trans rfl)
theorem dk_104 {code : ByteArray} {pc : Nat} (h : DkAt code pc [104]) : decode code pc = .ok (.imul, 1) := dk_of ((dk_bind (dk_u1 (h 0 _ rfl))).trans rfl)
theorem dk_105 {code : ByteArray} {pc : Nat} (h : DkAt code pc [105]) : decode code pc = .ok (.lmul, 1) := dk_of ((dk_bind (dk_u1 (h 0 _ rfl))).trans rfl)
theorem dk_120 {code : ByteArray} {pc : Nat} (h : DkAt code pc [120]) : decode code pc = .ok (.ishl, 1) := dk_of ((dk_bind (dk_u1 (h 0 _ rfl))).trans rfl)
theorem dk_121 {code : ByteArray} {pc : Nat} (h : DkAt code pc [121]) : decode code pc = .ok (.lshl, 1) := dk_of ((dk_bind (dk_u1 (h 0 _ rfl))).trans rfl)
theorem dk_122 {code : ByteArray} {pc : Nat} (h : DkAt code pc [122]) : decode code pc = .ok (.ishr, 1) := dk_of ((dk_bind (dk_u1 (h 0 _ rfl))).trans rfl)
theorem dk_124 {code : ByteArray} {pc : Nat} (h : DkAt code pc [124]) : decode code pc = .ok (.iushr, 1) := dk_of ((dk_bind (dk_u1 (h 0 _ rfl))).trans rfl)
theorem dk_125 {code : ByteArray} {pc : Nat} (h : DkAt code pc [125]) : decode code pc = .ok (.lushr, 1) := dk_of ((dk_bind (dk_u1 (h 0 _ rfl))).trans rfl)
theorem dk_126 {code : ByteArray} {pc : Nat} (h : DkAt code pc [126]) : decode code pc = .ok (.iand, 1) := dk_of ((dk_bind (dk_u1 (h 0 _ rfl))).trans rfl)
theorem dk_127 {code : ByteArray} {pc : Nat} (h : DkAt code pc [127]) : decode code pc = .ok (.land, 1) := dk_of ((dk_bind (dk_u1 (h 0 _ rfl))).trans rfl)
theorem dk_128 {code : ByteArray} {pc : Nat} (h : DkAt code pc [128]) : decode code pc = .ok (.ior, 1) := dk_of ((dk_bind (dk_u1 (h 0 _ rfl))).trans rfl)
theorem dk_130 {code : ByteArray} {pc : Nat} (h : DkAt code pc [130]) : decode code pc = .ok (.ixor, 1) := dk_of ((dk_bind (dk_u1 (h 0 _ rfl))).trans rfl)
theorem dk_131 {code : ByteArray} {pc : Nat} (h : DkAt code pc [131]) : decode code pc = .ok (.lxor, 1) := dk_of ((dk_bind (dk_u1 (h 0 _ rfl))).trans rfl)
theorem dk_132 {code : ByteArray} {pc : Nat} (a b : UInt8) (h : DkAt code pc [132, a, b]) : decode code pc = .ok (.iinc a.toNat (Reader.signed 8 b.toNat), 3) := dk_of ((dk_bind (dk_u1 (h 0 _ rfl))).trans ((dk_bind (dk_u1 (h 1 _ rfl))).trans ((dk_bind (dk_map (dk_u1 (h 2 _ rfl)))).trans rfl)))
theorem dk_133 {code : ByteArray} {pc : Nat} (h : DkAt code pc [133]) : decode code pc = .ok (.i2l, 1) := dk_of ((dk_bind (dk_u1 (h 0 _ rfl))).trans rfl)
theorem dk_136 {code : ByteArray} {pc : Nat} (h : DkAt code pc [136]) : decode code pc = .ok (.l2i, 1) := dk_of ((dk_bind (dk_u1 (h 0 _ rfl))).trans rfl)
theorem dk_147 {code : ByteArray} {pc : Nat} (h : DkAt code pc [147]) : decode code pc = .ok (.i2s, 1) := dk_of ((dk_bind (dk_u1 (h 0 _ rfl))).trans rfl)
theorem dk_153 {code : ByteArray} {pc : Nat} (a b : UInt8) (h : DkAt code pc [153, a, b]) : decode code pc = .ok (.ifCond .eq (Reader.signed 16 (a.toNat * 256 + b.toNat)), 3) := dk_of ((dk_bind (dk_u1 (h 0 _ rfl))).trans ((dk_bind (dk_map (dk_u2 (h 1 _ rfl) (h 2 _ rfl)))).trans rfl))
theorem dk_154 {code : ByteArray} {pc : Nat} (a b : UInt8) (h : DkAt code pc [154, a, b]) : decode code pc = .ok (.ifCond .ne (Reader.signed 16 (a.toNat * 256 + b.toNat)), 3) := dk_of ((dk_bind (dk_u1 (h 0 _ rfl))).trans ((dk_bind (dk_map (dk_u2 (h 1 _ rfl) (h 2 _ rfl)))).trans rfl))
theorem dk_155 {code : ByteArray} {pc : Nat} (a b : UInt8) (h : DkAt code pc [155, a, b]) : decode code pc = .ok (.ifCond .lt (Reader.signed 16 (a.toNat * 256 + b.toNat)), 3) := dk_of ((dk_bind (dk_u1 (h 0 _ rfl))).trans ((dk_bind (dk_map (dk_u2 (h 1 _ rfl) (h 2 _ rfl)))).trans rfl))
theorem dk_159 {code : ByteArray} {pc : Nat} (a b : UInt8) (h : DkAt code pc [159, a, b]) : decode code pc = .ok (.if_icmp .eq (Reader.signed 16 (a.toNat * 256 + b.toNat)), 3) := dk_of ((dk_bind (dk_u1 (h 0 _ rfl))).trans ((dk_bind (dk_map (dk_u2 (h 1 _ rfl) (h 2 _ rfl)))).trans rfl))
theorem dk_160 {code : ByteArray} {pc : Nat} (a b : UInt8) (h : DkAt code pc [160, a, b]) : decode code pc = .ok (.if_icmp .ne (Reader.signed 16 (a.toNat * 256 + b.toNat)), 3) := dk_of ((dk_bind (dk_u1 (h 0 _ rfl))).trans ((dk_bind (dk_map (dk_u2 (h 1 _ rfl) (h 2 _ rfl)))).trans rfl))
theorem dk_162 {code : ByteArray} {pc : Nat} (a b : UInt8) (h : DkAt code pc [162, a, b]) : decode code pc = .ok (.if_icmp .ge (Reader.signed 16 (a.toNat * 256 + b.toNat)), 3) := dk_of ((dk_bind (dk_u1 (h 0 _ rfl))).trans ((dk_bind (dk_map (dk_u2 (h 1 _ rfl) (h 2 _ rfl)))).trans rfl))
theorem dk_163 {code : ByteArray} {pc : Nat} (a b : UInt8) (h : DkAt code pc [163, a, b]) : decode code pc = .ok (.if_icmp .gt (Reader.signed 16 (a.toNat * 256 + b.toNat)), 3) := dk_of ((dk_bind (dk_u1 (h 0 _ rfl))).trans ((dk_bind (dk_map (dk_u2 (h 1 _ rfl) (h 2 _ rfl)))).trans rfl))
theorem dk_167 {code : ByteArray} {pc : Nat} (a b : UInt8) (h : DkAt code pc [167, a, b]) : decode code pc = .ok (.goto (Reader.signed 16 (a.toNat * 256 + b.toNat)), 3) := dk_of ((dk_bind (dk_u1 (h 0 _ rfl))).trans ((dk_bind (dk_map (dk_u2 (h 1 _ rfl) (h 2 _ rfl)))).trans rfl))
theorem dk_172 {code : ByteArray} {pc : Nat} (h : DkAt code pc [172]) : decode code pc = .ok (.ireturn, 1) := dk_of ((dk_bind (dk_u1 (h 0 _ rfl))).trans rfl)
theorem dk_177 {code : ByteArray} {pc : Nat} (h : DkAt code pc [177]) : decode code pc = .ok (.return_, 1) := dk_of ((dk_bind (dk_u1 (h 0 _ rfl))).trans rfl)
theorem dk_180 {code : ByteArray} {pc : Nat} (a b : UInt8) (h : DkAt code pc [180, a, b]) : decode code pc = .ok (.getfield (a.toNat * 256 + b.toNat), 3) := dk_of ((dk_bind (dk_u1 (h 0 _ rfl))).trans ((dk_bind (dk_u2 (h 1 _ rfl) (h 2 _ rfl))).trans rfl))
theorem dk_181 {code : ByteArray} {pc : Nat} (a b : UInt8) (h : DkAt code pc [181, a, b]) : decode code pc = .ok (.putfield (a.toNat * 256 + b.toNat), 3) := dk_of ((dk_bind (dk_u1 (h 0 _ rfl))).trans ((dk_bind (dk_u2 (h 1 _ rfl) (h 2 _ rfl))).trans rfl))
theorem dk_182 {code : ByteArray} {pc : Nat} (a b : UInt8) (h : DkAt code pc [182, a, b]) : decode code pc = .ok (.invokevirtual (a.toNat * 256 + b.toNat), 3) := dk_of ((dk_bind (dk_u1 (h 0 _ rfl))).trans ((dk_bind (dk_u2 (h 1 _ rfl) (h 2 _ rfl))).trans rfl))
theorem dk_183 {code : ByteArray} {pc : Nat} (a b : UInt8) (h : DkAt code pc [183, a, b]) : decode code pc = .ok (.invokespecial (a.toNat * 256 + b.toNat), 3) := dk_of ((dk_bind (dk_u1 (h 0 _ rfl))).trans ((dk_bind (dk_u2 (h 1 _ rfl) (h 2 _ rfl))).trans rfl))
theorem dk_184 {code : ByteArray} {pc : Nat} (a b : UInt8) (h : DkAt code pc [184, a, b]) : decode code pc = .ok (.invokestatic (a.toNat * 256 + b.toNat), 3) := dk_of ((dk_bind (dk_u1 (h 0 _ rfl))).trans ((dk_bind (dk_u2 (h 1 _ rfl) (h 2 _ rfl))).trans rfl))
theorem dk_187 {code : ByteArray} {pc : Nat} (a b : UInt8) (h : DkAt code pc [187, a, b]) : decode code pc = .ok (.new (a.toNat * 256 + b.toNat), 3) := dk_of ((dk_bind (dk_u1 (h 0 _ rfl))).trans ((dk_bind (dk_u2 (h 1 _ rfl) (h 2 _ rfl))).trans rfl))
theorem dk_189 {code : ByteArray} {pc : Nat} (a b : UInt8) (h : DkAt code pc [189, a, b]) : decode code pc = .ok (.anewarray (a.toNat * 256 + b.toNat), 3) := dk_of ((dk_bind (dk_u1 (h 0 _ rfl))).trans ((dk_bind (dk_u2 (h 1 _ rfl) (h 2 _ rfl))).trans rfl))
theorem dk_190 {code : ByteArray} {pc : Nat} (h : DkAt code pc [190]) : decode code pc = .ok (.arraylength, 1) := dk_of ((dk_bind (dk_u1 (h 0 _ rfl))).trans rfl)
end
section
/-! java/lang/Object -/
set_option maxRecDepth 100000
def RJ0 : String := "java/lang/Object"
abbrev cJ0_init : ByteArray := object_method_1_code
def yJ0_init : MethodName := ⟨RJ0, "<init>", "()V"⟩
theorem dJ0_init_0 : decode cJ0_init 0 = .ok (.return_, 1) := by decide +kernel
theorem q15 : (Jvm.Cond.instanceMethod ({ cls := "java/lang/Object", name := "<init>", desc := "()V" } : Jvm.MethodName)) ∈ lw_all := lw_g (lw_at lw_m0 12 rfl) rfl
theorem q16 : (Jvm.Cond.code ({ cls := "java/lang/Object", name := "<init>", desc := "()V" } : Jvm.MethodName) object_method_1_code (1 : Nat) (Option.none : Option Jvm.ClassFile.FieldType)) ∈ lw_all := lw_g (lw_at lw_m0 13 rfl) rfl
/-! SmallFieldsLaw -/
set_option maxRecDepth 100000
def RX0 : String := "SmallFieldsLaw"
abbrev cX0_cell : ByteArray := method_2_code
def yX0_cell : MethodName := ⟨RX0, "cell", "([II)I"⟩
def dkwX0_cell_0 : List UInt8 := [27, 42, 190, 162, 0, 9, 42, 27, 46, 167, 0, 4, 3, 172]
abbrev dktX0_cell_0 : List UInt8 := dkwX0_cell_0 ++ []
theorem dksX0_cell_0 : cX0_cell.data.toList.drop 0 = dktX0_cell_0 := by decide +kernel
theorem dX0_cell_0 : decode cX0_cell 0 = .ok (.iload_n 1, 1) := dk_27 (dk_at dksX0_cell_0 0 rfl rfl)
theorem dX0_cell_1 : decode cX0_cell 1 = .ok (.aload_n 0, 1) := dk_42 (dk_at dksX0_cell_0 1 rfl rfl)
theorem dX0_cell_2 : decode cX0_cell 2 = .ok (.arraylength, 1) := dk_190 (dk_at dksX0_cell_0 2 rfl rfl)
theorem dX0_cell_3 : decode cX0_cell 3 = .ok (.if_icmp .ge 9, 3) := dk_162 0 9 (dk_at dksX0_cell_0 3 rfl rfl)
theorem dX0_cell_6 : decode cX0_cell 6 = .ok (.aload_n 0, 1) := dk_42 (dk_at dksX0_cell_0 6 rfl rfl)
theorem dX0_cell_7 : decode cX0_cell 7 = .ok (.iload_n 1, 1) := dk_27 (dk_at dksX0_cell_0 7 rfl rfl)
theorem dX0_cell_8 : decode cX0_cell 8 = .ok (.iaload, 1) := dk_46 (dk_at dksX0_cell_0 8 rfl rfl)
theorem dX0_cell_9 : decode cX0_cell 9 = .ok (.goto 4, 3) := dk_167 0 4 (dk_at dksX0_cell_0 9 rfl rfl)
theorem dX0_cell_12 : decode cX0_cell 12 = .ok (.iconst 0, 1) := dk_3 (dk_at dksX0_cell_0 12 rfl rfl)
theorem dX0_cell_13 : decode cX0_cell 13 = .ok (.ireturn, 1) := dk_172 (dk_at dksX0_cell_0 13 rfl rfl)
theorem q3 : (Jvm.Cond.initialized "SmallFieldsLaw") ∈ lw_all := lw_g (lw_at lw_m0 0 rfl) rfl
theorem q9 : (Jvm.Cond.classLink "SmallFieldsLaw" (7 : Nat) "SmallFields") ∈ lw_all := lw_g (lw_at lw_m0 6 rfl) rfl
theorem q11 : (Jvm.Cond.methodLink "SmallFieldsLaw" (9 : Nat) ({ cls := "SmallFields", name := "<init>", desc := "()V" } : Jvm.MethodName)) ∈ lw_all := lw_g (lw_at lw_m0 8 rfl) rfl
theorem q40 : (Jvm.Cond.methodLink "SmallFieldsLaw" (16 : Nat) ({ cls := "SmallFields", name := "multiply", desc := "(III)I" } : Jvm.MethodName)) ∈ lw_all := lw_g (lw_at lw_m0 37 rfl) rfl
theorem q66 : (Jvm.Cond.methodLink "SmallFieldsLaw" (20 : Nat) ({ cls := "SmallFields", name := "square", desc := "(II)I" } : Jvm.MethodName)) ∈ lw_all := lw_g (lw_at lw_m0 63 rfl) rfl
theorem q88 : (Jvm.Cond.methodLink "SmallFieldsLaw" (35 : Nat) ({ cls := "SmallFields", name := "inverse", desc := "(II)I" } : Jvm.MethodName)) ∈ lw_all := lw_g (lw_at lw_m0 85 rfl) rfl
theorem q136 : (Jvm.Cond.methodLink "SmallFieldsLaw" (38 : Nat) ({ cls := "SmallFields", name := "quotient", desc := "(III)I" } : Jvm.MethodName)) ∈ lw_all := lw_g (lw_at lw_m0 133 rfl) rfl
theorem q148 : (Jvm.Cond.methodLink "SmallFieldsLaw" (27 : Nat) ({ cls := "SmallFields", name := "product", desc := "(IIIII)I" } : Jvm.MethodName)) ∈ lw_all := lw_g (lw_at lw_m0 145 rfl) rfl
theorem q166 : (Jvm.Cond.methodLink "SmallFieldsLaw" (24 : Nat) ({ cls := "SmallFields", name := "wideSquare", desc := "(II)I" } : Jvm.MethodName)) ∈ lw_all := lw_g (lw_at lw_m0 163 rfl) rfl
theorem q179 : (Jvm.Cond.methodLink "SmallFieldsLaw" (31 : Nat) ({ cls := "SmallFields", name := "nought", desc := "(II)Z" } : Jvm.MethodName)) ∈ lw_all := lw_g (lw_at lw_m0 176 rfl) rfl
theorem q189 : (Jvm.Cond.methodLink "SmallFieldsLaw" (10 : Nat) ({ cls := "SmallFieldsLaw", name := "cell", desc := "([II)I" } : Jvm.MethodName)) ∈ lw_all := lw_g (lw_at lw_m0 186 rfl) rfl
theorem q190 : (Jvm.Cond.static ({ cls := "SmallFieldsLaw", name := "cell", desc := "([II)I" } : Jvm.MethodName)) ∈ lw_all := lw_g (lw_at lw_m0 187 rfl) rfl
theorem q191 : (Jvm.Cond.code ({ cls := "SmallFieldsLaw", name := "cell", desc := "([II)I" } : Jvm.MethodName) method_2_code (2 : Nat) (Option.some Jvm.ClassFile.FieldType.int)) ∈ lw_all := lw_g (lw_at lw_m0 188 rfl) rfl
/-! SmallFields -/
set_option maxRecDepth 100000
def RX1 : String := "SmallFields"
def TX1 : u_T := fun k => match k with
  | _ => ("SmallFields", "fields", "[LGF;", true)
def tyX1 : Nat → FieldType := fun k => match k with
  | _ => .array (.object "GF")
abbrev wsX10 : List Cond := u_ws RX1 TX1 1
theorem nmX1 : ∀ a, a < 1 → ∀ b, b < 1 → a ≠ b → (TX1 a).2.1 ≠ (TX1 b).2.1 := by decide +kernel
theorem tyX1_ok : ∀ k, k < 1 → parseFieldDescriptor (TX1 k).2.2.1 = some (tyX1 k) := by decide +kernel
abbrev cX1_init : ByteArray := prog_5_method_1_code
def yX1_init : MethodName := ⟨RX1, "<init>", "()V"⟩
def dkwX1_init_1 : List UInt8 := [89, 183, 0, 14, 83, 181, 0, 15, 177]
abbrev dktX1_init_1 : List UInt8 := dkwX1_init_1 ++ []
def dkwX1_init_0 : List UInt8 := [42, 183, 0, 1, 42, 5, 189, 0, 7, 89, 3, 187, 0, 9, 89, 183, 0, 11, 83, 89, 4, 187, 0, 12]
abbrev dktX1_init_0 : List UInt8 := dkwX1_init_0 ++ dktX1_init_1
theorem dksX1_init_0 : cX1_init.data.toList.drop 0 = dktX1_init_0 := by decide +kernel
theorem dksX1_init_1 : cX1_init.data.toList.drop 24 = dktX1_init_1 := dk_seg dksX1_init_0 24 rfl rfl
theorem dX1_init_0 : decode cX1_init 0 = .ok (.aload_n 0, 1) := dk_42 (dk_at dksX1_init_0 0 rfl rfl)
theorem dX1_init_1 : decode cX1_init 1 = .ok (.invokespecial 1, 3) := dk_183 0 1 (dk_at dksX1_init_0 1 rfl rfl)
theorem dX1_init_4 : decode cX1_init 4 = .ok (.aload_n 0, 1) := dk_42 (dk_at dksX1_init_0 4 rfl rfl)
theorem dX1_init_5 : decode cX1_init 5 = .ok (.iconst 2, 1) := dk_5 (dk_at dksX1_init_0 5 rfl rfl)
theorem dX1_init_6 : decode cX1_init 6 = .ok (.anewarray 7, 3) := dk_189 0 7 (dk_at dksX1_init_0 6 rfl rfl)
theorem dX1_init_9 : decode cX1_init 9 = .ok (.dup, 1) := dk_89 (dk_at dksX1_init_0 9 rfl rfl)
theorem dX1_init_10 : decode cX1_init 10 = .ok (.iconst 0, 1) := dk_3 (dk_at dksX1_init_0 10 rfl rfl)
theorem dX1_init_11 : decode cX1_init 11 = .ok (.new 9, 3) := dk_187 0 9 (dk_at dksX1_init_0 11 rfl rfl)
theorem dX1_init_14 : decode cX1_init 14 = .ok (.dup, 1) := dk_89 (dk_at dksX1_init_0 14 rfl rfl)
theorem dX1_init_15 : decode cX1_init 15 = .ok (.invokespecial 11, 3) := dk_183 0 11 (dk_at dksX1_init_0 15 rfl rfl)
theorem dX1_init_18 : decode cX1_init 18 = .ok (.aastore, 1) := dk_83 (dk_at dksX1_init_0 18 rfl rfl)
theorem dX1_init_19 : decode cX1_init 19 = .ok (.dup, 1) := dk_89 (dk_at dksX1_init_0 19 rfl rfl)
theorem dX1_init_20 : decode cX1_init 20 = .ok (.iconst 1, 1) := dk_4 (dk_at dksX1_init_0 20 rfl rfl)
theorem dX1_init_21 : decode cX1_init 21 = .ok (.new 12, 3) := dk_187 0 12 (dk_at dksX1_init_0 21 rfl rfl)
theorem dX1_init_24 : decode cX1_init 24 = .ok (.dup, 1) := dk_89 (dk_at dksX1_init_1 0 rfl rfl)
theorem dX1_init_25 : decode cX1_init 25 = .ok (.invokespecial 14, 3) := dk_183 0 14 (dk_at dksX1_init_1 1 rfl rfl)
theorem dX1_init_28 : decode cX1_init 28 = .ok (.aastore, 1) := dk_83 (dk_at dksX1_init_1 4 rfl rfl)
theorem dX1_init_29 : decode cX1_init 29 = .ok (.putfield 15, 3) := dk_181 0 15 (dk_at dksX1_init_1 5 rfl rfl)
theorem dX1_init_32 : decode cX1_init 32 = .ok (.return_, 1) := dk_177 (dk_at dksX1_init_1 8 rfl rfl)
abbrev cX1_multiply : ByteArray := prog_5_method_3_code
def yX1_multiply : MethodName := ⟨RX1, "multiply", "(III)I"⟩
def dkwX1_multiply_0 : List UInt8 := [42, 180, 0, 15, 27, 4, 126, 50, 27, 28, 184, 0, 21, 27, 29, 184, 0, 21, 182, 0, 25, 172]
abbrev dktX1_multiply_0 : List UInt8 := dkwX1_multiply_0 ++ []
theorem dksX1_multiply_0 : cX1_multiply.data.toList.drop 0 = dktX1_multiply_0 := by decide +kernel
theorem dX1_multiply_0 : decode cX1_multiply 0 = .ok (.aload_n 0, 1) := dk_42 (dk_at dksX1_multiply_0 0 rfl rfl)
theorem dX1_multiply_1 : decode cX1_multiply 1 = .ok (.getfield 15, 3) := dk_180 0 15 (dk_at dksX1_multiply_0 1 rfl rfl)
theorem dX1_multiply_4 : decode cX1_multiply 4 = .ok (.iload_n 1, 1) := dk_27 (dk_at dksX1_multiply_0 4 rfl rfl)
theorem dX1_multiply_5 : decode cX1_multiply 5 = .ok (.iconst 1, 1) := dk_4 (dk_at dksX1_multiply_0 5 rfl rfl)
theorem dX1_multiply_6 : decode cX1_multiply 6 = .ok (.iand, 1) := dk_126 (dk_at dksX1_multiply_0 6 rfl rfl)
theorem dX1_multiply_7 : decode cX1_multiply 7 = .ok (.aaload, 1) := dk_50 (dk_at dksX1_multiply_0 7 rfl rfl)
theorem dX1_multiply_8 : decode cX1_multiply 8 = .ok (.iload_n 1, 1) := dk_27 (dk_at dksX1_multiply_0 8 rfl rfl)
theorem dX1_multiply_9 : decode cX1_multiply 9 = .ok (.iload_n 2, 1) := dk_28 (dk_at dksX1_multiply_0 9 rfl rfl)
theorem dX1_multiply_10 : decode cX1_multiply 10 = .ok (.invokestatic 21, 3) := dk_184 0 21 (dk_at dksX1_multiply_0 10 rfl rfl)
theorem dX1_multiply_13 : decode cX1_multiply 13 = .ok (.iload_n 1, 1) := dk_27 (dk_at dksX1_multiply_0 13 rfl rfl)
theorem dX1_multiply_14 : decode cX1_multiply 14 = .ok (.iload_n 3, 1) := dk_29 (dk_at dksX1_multiply_0 14 rfl rfl)
theorem dX1_multiply_15 : decode cX1_multiply 15 = .ok (.invokestatic 21, 3) := dk_184 0 21 (dk_at dksX1_multiply_0 15 rfl rfl)
theorem dX1_multiply_18 : decode cX1_multiply 18 = .ok (.invokevirtual 25, 3) := dk_182 0 25 (dk_at dksX1_multiply_0 18 rfl rfl)
theorem dX1_multiply_21 : decode cX1_multiply 21 = .ok (.ireturn, 1) := dk_172 (dk_at dksX1_multiply_0 21 rfl rfl)
abbrev cX1_fair : ByteArray := prog_5_method_2_code
def yX1_fair : MethodName := ⟨RX1, "fair", "(II)S"⟩
def dkwX1_fair_0 : List UInt8 := [27, 26, 4, 126, 154, 0, 9, 17, 15, 255, 167, 0, 6, 17, 31, 255, 126, 147, 172]
abbrev dktX1_fair_0 : List UInt8 := dkwX1_fair_0 ++ []
theorem dksX1_fair_0 : cX1_fair.data.toList.drop 0 = dktX1_fair_0 := by decide +kernel
theorem dX1_fair_0 : decode cX1_fair 0 = .ok (.iload_n 1, 1) := dk_27 (dk_at dksX1_fair_0 0 rfl rfl)
theorem dX1_fair_1 : decode cX1_fair 1 = .ok (.iload_n 0, 1) := dk_26 (dk_at dksX1_fair_0 1 rfl rfl)
theorem dX1_fair_2 : decode cX1_fair 2 = .ok (.iconst 1, 1) := dk_4 (dk_at dksX1_fair_0 2 rfl rfl)
theorem dX1_fair_3 : decode cX1_fair 3 = .ok (.iand, 1) := dk_126 (dk_at dksX1_fair_0 3 rfl rfl)
theorem dX1_fair_4 : decode cX1_fair 4 = .ok (.ifCond .ne 9, 3) := dk_154 0 9 (dk_at dksX1_fair_0 4 rfl rfl)
theorem dX1_fair_7 : decode cX1_fair 7 = .ok (.sipush 4095, 3) := dk_17 15 255 (dk_at dksX1_fair_0 7 rfl rfl)
theorem dX1_fair_10 : decode cX1_fair 10 = .ok (.goto 6, 3) := dk_167 0 6 (dk_at dksX1_fair_0 10 rfl rfl)
theorem dX1_fair_13 : decode cX1_fair 13 = .ok (.sipush 8191, 3) := dk_17 31 255 (dk_at dksX1_fair_0 13 rfl rfl)
theorem dX1_fair_16 : decode cX1_fair 16 = .ok (.iand, 1) := dk_126 (dk_at dksX1_fair_0 16 rfl rfl)
theorem dX1_fair_17 : decode cX1_fair 17 = .ok (.i2s, 1) := dk_147 (dk_at dksX1_fair_0 17 rfl rfl)
theorem dX1_fair_18 : decode cX1_fair 18 = .ok (.ireturn, 1) := dk_172 (dk_at dksX1_fair_0 18 rfl rfl)
abbrev cX1_square : ByteArray := prog_5_method_4_code
def yX1_square : MethodName := ⟨RX1, "square", "(II)I"⟩
def dkwX1_square_0 : List UInt8 := [42, 180, 0, 15, 27, 4, 126, 50, 27, 28, 184, 0, 21, 182, 0, 29, 172]
abbrev dktX1_square_0 : List UInt8 := dkwX1_square_0 ++ []
theorem dksX1_square_0 : cX1_square.data.toList.drop 0 = dktX1_square_0 := by decide +kernel
theorem dX1_square_0 : decode cX1_square 0 = .ok (.aload_n 0, 1) := dk_42 (dk_at dksX1_square_0 0 rfl rfl)
theorem dX1_square_1 : decode cX1_square 1 = .ok (.getfield 15, 3) := dk_180 0 15 (dk_at dksX1_square_0 1 rfl rfl)
theorem dX1_square_4 : decode cX1_square 4 = .ok (.iload_n 1, 1) := dk_27 (dk_at dksX1_square_0 4 rfl rfl)
theorem dX1_square_5 : decode cX1_square 5 = .ok (.iconst 1, 1) := dk_4 (dk_at dksX1_square_0 5 rfl rfl)
theorem dX1_square_6 : decode cX1_square 6 = .ok (.iand, 1) := dk_126 (dk_at dksX1_square_0 6 rfl rfl)
theorem dX1_square_7 : decode cX1_square 7 = .ok (.aaload, 1) := dk_50 (dk_at dksX1_square_0 7 rfl rfl)
theorem dX1_square_8 : decode cX1_square 8 = .ok (.iload_n 1, 1) := dk_27 (dk_at dksX1_square_0 8 rfl rfl)
theorem dX1_square_9 : decode cX1_square 9 = .ok (.iload_n 2, 1) := dk_28 (dk_at dksX1_square_0 9 rfl rfl)
theorem dX1_square_10 : decode cX1_square 10 = .ok (.invokestatic 21, 3) := dk_184 0 21 (dk_at dksX1_square_0 10 rfl rfl)
theorem dX1_square_13 : decode cX1_square 13 = .ok (.invokevirtual 29, 3) := dk_182 0 29 (dk_at dksX1_square_0 13 rfl rfl)
theorem dX1_square_16 : decode cX1_square 16 = .ok (.ireturn, 1) := dk_172 (dk_at dksX1_square_0 16 rfl rfl)
abbrev cX1_inverse : ByteArray := prog_5_method_5_code
def yX1_inverse : MethodName := ⟨RX1, "inverse", "(II)I"⟩
def dkwX1_inverse_1 : List UInt8 := [182, 0, 33, 172]
abbrev dktX1_inverse_1 : List UInt8 := dkwX1_inverse_1 ++ []
def dkwX1_inverse_0 : List UInt8 := [27, 28, 184, 0, 21, 62, 29, 154, 0, 7, 2, 167, 0, 15, 42, 180, 0, 15, 27, 4, 126, 50, 29]
abbrev dktX1_inverse_0 : List UInt8 := dkwX1_inverse_0 ++ dktX1_inverse_1
theorem dksX1_inverse_0 : cX1_inverse.data.toList.drop 0 = dktX1_inverse_0 := by decide +kernel
theorem dksX1_inverse_1 : cX1_inverse.data.toList.drop 23 = dktX1_inverse_1 := dk_seg dksX1_inverse_0 23 rfl rfl
theorem dX1_inverse_0 : decode cX1_inverse 0 = .ok (.iload_n 1, 1) := dk_27 (dk_at dksX1_inverse_0 0 rfl rfl)
theorem dX1_inverse_1 : decode cX1_inverse 1 = .ok (.iload_n 2, 1) := dk_28 (dk_at dksX1_inverse_0 1 rfl rfl)
theorem dX1_inverse_2 : decode cX1_inverse 2 = .ok (.invokestatic 21, 3) := dk_184 0 21 (dk_at dksX1_inverse_0 2 rfl rfl)
theorem dX1_inverse_5 : decode cX1_inverse 5 = .ok (.istore_n 3, 1) := dk_62 (dk_at dksX1_inverse_0 5 rfl rfl)
theorem dX1_inverse_6 : decode cX1_inverse 6 = .ok (.iload_n 3, 1) := dk_29 (dk_at dksX1_inverse_0 6 rfl rfl)
theorem dX1_inverse_7 : decode cX1_inverse 7 = .ok (.ifCond .ne 7, 3) := dk_154 0 7 (dk_at dksX1_inverse_0 7 rfl rfl)
theorem dX1_inverse_10 : decode cX1_inverse 10 = .ok (.iconst (-1), 1) := dk_2 (dk_at dksX1_inverse_0 10 rfl rfl)
theorem dX1_inverse_11 : decode cX1_inverse 11 = .ok (.goto 15, 3) := dk_167 0 15 (dk_at dksX1_inverse_0 11 rfl rfl)
theorem dX1_inverse_14 : decode cX1_inverse 14 = .ok (.aload_n 0, 1) := dk_42 (dk_at dksX1_inverse_0 14 rfl rfl)
theorem dX1_inverse_15 : decode cX1_inverse 15 = .ok (.getfield 15, 3) := dk_180 0 15 (dk_at dksX1_inverse_0 15 rfl rfl)
theorem dX1_inverse_18 : decode cX1_inverse 18 = .ok (.iload_n 1, 1) := dk_27 (dk_at dksX1_inverse_0 18 rfl rfl)
theorem dX1_inverse_19 : decode cX1_inverse 19 = .ok (.iconst 1, 1) := dk_4 (dk_at dksX1_inverse_0 19 rfl rfl)
theorem dX1_inverse_20 : decode cX1_inverse 20 = .ok (.iand, 1) := dk_126 (dk_at dksX1_inverse_0 20 rfl rfl)
theorem dX1_inverse_21 : decode cX1_inverse 21 = .ok (.aaload, 1) := dk_50 (dk_at dksX1_inverse_0 21 rfl rfl)
theorem dX1_inverse_22 : decode cX1_inverse 22 = .ok (.iload_n 3, 1) := dk_29 (dk_at dksX1_inverse_0 22 rfl rfl)
theorem dX1_inverse_23 : decode cX1_inverse 23 = .ok (.invokevirtual 33, 3) := dk_182 0 33 (dk_at dksX1_inverse_1 0 rfl rfl)
theorem dX1_inverse_26 : decode cX1_inverse 26 = .ok (.ireturn, 1) := dk_172 (dk_at dksX1_inverse_1 3 rfl rfl)
abbrev cX1_quotient : ByteArray := prog_5_method_6_code
def yX1_quotient : MethodName := ⟨RX1, "quotient", "(III)I"⟩
def dkwX1_quotient_1 : List UInt8 := [21, 4, 27, 28, 184, 0, 21, 182, 0, 36, 172]
abbrev dktX1_quotient_1 : List UInt8 := dkwX1_quotient_1 ++ []
def dkwX1_quotient_0 : List UInt8 := [27, 29, 184, 0, 21, 54, 4, 21, 4, 154, 0, 7, 2, 167, 0, 21, 42, 180, 0, 15, 27, 4, 126, 50]
abbrev dktX1_quotient_0 : List UInt8 := dkwX1_quotient_0 ++ dktX1_quotient_1
theorem dksX1_quotient_0 : cX1_quotient.data.toList.drop 0 = dktX1_quotient_0 := by decide +kernel
theorem dksX1_quotient_1 : cX1_quotient.data.toList.drop 24 = dktX1_quotient_1 := dk_seg dksX1_quotient_0 24 rfl rfl
theorem dX1_quotient_0 : decode cX1_quotient 0 = .ok (.iload_n 1, 1) := dk_27 (dk_at dksX1_quotient_0 0 rfl rfl)
theorem dX1_quotient_1 : decode cX1_quotient 1 = .ok (.iload_n 3, 1) := dk_29 (dk_at dksX1_quotient_0 1 rfl rfl)
theorem dX1_quotient_2 : decode cX1_quotient 2 = .ok (.invokestatic 21, 3) := dk_184 0 21 (dk_at dksX1_quotient_0 2 rfl rfl)
theorem dX1_quotient_5 : decode cX1_quotient 5 = .ok (.istore 4, 2) := dk_54 4 (dk_at dksX1_quotient_0 5 rfl rfl)
theorem dX1_quotient_7 : decode cX1_quotient 7 = .ok (.iload 4, 2) := dk_21 4 (dk_at dksX1_quotient_0 7 rfl rfl)
theorem dX1_quotient_9 : decode cX1_quotient 9 = .ok (.ifCond .ne 7, 3) := dk_154 0 7 (dk_at dksX1_quotient_0 9 rfl rfl)
theorem dX1_quotient_12 : decode cX1_quotient 12 = .ok (.iconst (-1), 1) := dk_2 (dk_at dksX1_quotient_0 12 rfl rfl)
theorem dX1_quotient_13 : decode cX1_quotient 13 = .ok (.goto 21, 3) := dk_167 0 21 (dk_at dksX1_quotient_0 13 rfl rfl)
theorem dX1_quotient_16 : decode cX1_quotient 16 = .ok (.aload_n 0, 1) := dk_42 (dk_at dksX1_quotient_0 16 rfl rfl)
theorem dX1_quotient_17 : decode cX1_quotient 17 = .ok (.getfield 15, 3) := dk_180 0 15 (dk_at dksX1_quotient_0 17 rfl rfl)
theorem dX1_quotient_20 : decode cX1_quotient 20 = .ok (.iload_n 1, 1) := dk_27 (dk_at dksX1_quotient_0 20 rfl rfl)
theorem dX1_quotient_21 : decode cX1_quotient 21 = .ok (.iconst 1, 1) := dk_4 (dk_at dksX1_quotient_0 21 rfl rfl)
theorem dX1_quotient_22 : decode cX1_quotient 22 = .ok (.iand, 1) := dk_126 (dk_at dksX1_quotient_0 22 rfl rfl)
theorem dX1_quotient_23 : decode cX1_quotient 23 = .ok (.aaload, 1) := dk_50 (dk_at dksX1_quotient_0 23 rfl rfl)
theorem dX1_quotient_24 : decode cX1_quotient 24 = .ok (.iload 4, 2) := dk_21 4 (dk_at dksX1_quotient_1 0 rfl rfl)
theorem dX1_quotient_26 : decode cX1_quotient 26 = .ok (.iload_n 1, 1) := dk_27 (dk_at dksX1_quotient_1 2 rfl rfl)
theorem dX1_quotient_27 : decode cX1_quotient 27 = .ok (.iload_n 2, 1) := dk_28 (dk_at dksX1_quotient_1 3 rfl rfl)
theorem dX1_quotient_28 : decode cX1_quotient 28 = .ok (.invokestatic 21, 3) := dk_184 0 21 (dk_at dksX1_quotient_1 4 rfl rfl)
theorem dX1_quotient_31 : decode cX1_quotient 31 = .ok (.invokevirtual 36, 3) := dk_182 0 36 (dk_at dksX1_quotient_1 7 rfl rfl)
theorem dX1_quotient_34 : decode cX1_quotient 34 = .ok (.ireturn, 1) := dk_172 (dk_at dksX1_quotient_1 10 rfl rfl)
abbrev cX1_product : ByteArray := prog_5_method_7_code
def yX1_product : MethodName := ⟨RX1, "product", "(IIIII)I"⟩
def dkwX1_product_2 : List UInt8 := [172]
abbrev dktX1_product_2 : List UInt8 := dkwX1_product_2 ++ []
def dkwX1_product_1 : List UInt8 := [182, 0, 39, 25, 6, 27, 21, 4, 184, 0, 21, 27, 21, 5, 184, 0, 21, 182, 0, 39, 130, 182, 0, 43]
abbrev dktX1_product_1 : List UInt8 := dkwX1_product_1 ++ dktX1_product_2
def dkwX1_product_0 : List UInt8 := [42, 180, 0, 15, 27, 4, 126, 50, 58, 6, 25, 6, 25, 6, 27, 28, 184, 0, 21, 27, 29, 184, 0, 21]
abbrev dktX1_product_0 : List UInt8 := dkwX1_product_0 ++ dktX1_product_1
theorem dksX1_product_0 : cX1_product.data.toList.drop 0 = dktX1_product_0 := by decide +kernel
theorem dksX1_product_1 : cX1_product.data.toList.drop 24 = dktX1_product_1 := dk_seg dksX1_product_0 24 rfl rfl
theorem dksX1_product_2 : cX1_product.data.toList.drop 48 = dktX1_product_2 := dk_seg dksX1_product_1 24 rfl rfl
theorem dX1_product_0 : decode cX1_product 0 = .ok (.aload_n 0, 1) := dk_42 (dk_at dksX1_product_0 0 rfl rfl)
theorem dX1_product_1 : decode cX1_product 1 = .ok (.getfield 15, 3) := dk_180 0 15 (dk_at dksX1_product_0 1 rfl rfl)
theorem dX1_product_4 : decode cX1_product 4 = .ok (.iload_n 1, 1) := dk_27 (dk_at dksX1_product_0 4 rfl rfl)
theorem dX1_product_5 : decode cX1_product 5 = .ok (.iconst 1, 1) := dk_4 (dk_at dksX1_product_0 5 rfl rfl)
theorem dX1_product_6 : decode cX1_product 6 = .ok (.iand, 1) := dk_126 (dk_at dksX1_product_0 6 rfl rfl)
theorem dX1_product_7 : decode cX1_product 7 = .ok (.aaload, 1) := dk_50 (dk_at dksX1_product_0 7 rfl rfl)
theorem dX1_product_8 : decode cX1_product 8 = .ok (.astore 6, 2) := dk_58 6 (dk_at dksX1_product_0 8 rfl rfl)
theorem dX1_product_10 : decode cX1_product 10 = .ok (.aload 6, 2) := dk_25 6 (dk_at dksX1_product_0 10 rfl rfl)
theorem dX1_product_12 : decode cX1_product 12 = .ok (.aload 6, 2) := dk_25 6 (dk_at dksX1_product_0 12 rfl rfl)
theorem dX1_product_14 : decode cX1_product 14 = .ok (.iload_n 1, 1) := dk_27 (dk_at dksX1_product_0 14 rfl rfl)
theorem dX1_product_15 : decode cX1_product 15 = .ok (.iload_n 2, 1) := dk_28 (dk_at dksX1_product_0 15 rfl rfl)
theorem dX1_product_16 : decode cX1_product 16 = .ok (.invokestatic 21, 3) := dk_184 0 21 (dk_at dksX1_product_0 16 rfl rfl)
theorem dX1_product_19 : decode cX1_product 19 = .ok (.iload_n 1, 1) := dk_27 (dk_at dksX1_product_0 19 rfl rfl)
theorem dX1_product_20 : decode cX1_product 20 = .ok (.iload_n 3, 1) := dk_29 (dk_at dksX1_product_0 20 rfl rfl)
theorem dX1_product_21 : decode cX1_product 21 = .ok (.invokestatic 21, 3) := dk_184 0 21 (dk_at dksX1_product_0 21 rfl rfl)
theorem dX1_product_24 : decode cX1_product 24 = .ok (.invokevirtual 39, 3) := dk_182 0 39 (dk_at dksX1_product_1 0 rfl rfl)
theorem dX1_product_27 : decode cX1_product 27 = .ok (.aload 6, 2) := dk_25 6 (dk_at dksX1_product_1 3 rfl rfl)
theorem dX1_product_29 : decode cX1_product 29 = .ok (.iload_n 1, 1) := dk_27 (dk_at dksX1_product_1 5 rfl rfl)
theorem dX1_product_30 : decode cX1_product 30 = .ok (.iload 4, 2) := dk_21 4 (dk_at dksX1_product_1 6 rfl rfl)
theorem dX1_product_32 : decode cX1_product 32 = .ok (.invokestatic 21, 3) := dk_184 0 21 (dk_at dksX1_product_1 8 rfl rfl)
theorem dX1_product_35 : decode cX1_product 35 = .ok (.iload_n 1, 1) := dk_27 (dk_at dksX1_product_1 11 rfl rfl)
theorem dX1_product_36 : decode cX1_product 36 = .ok (.iload 5, 2) := dk_21 5 (dk_at dksX1_product_1 12 rfl rfl)
theorem dX1_product_38 : decode cX1_product 38 = .ok (.invokestatic 21, 3) := dk_184 0 21 (dk_at dksX1_product_1 14 rfl rfl)
theorem dX1_product_41 : decode cX1_product 41 = .ok (.invokevirtual 39, 3) := dk_182 0 39 (dk_at dksX1_product_1 17 rfl rfl)
theorem dX1_product_44 : decode cX1_product 44 = .ok (.ixor, 1) := dk_130 (dk_at dksX1_product_1 20 rfl rfl)
theorem dX1_product_45 : decode cX1_product 45 = .ok (.invokevirtual 43, 3) := dk_182 0 43 (dk_at dksX1_product_1 21 rfl rfl)
theorem dX1_product_48 : decode cX1_product 48 = .ok (.ireturn, 1) := dk_172 (dk_at dksX1_product_2 0 rfl rfl)
abbrev cX1_wideSquare : ByteArray := prog_5_method_8_code
def yX1_wideSquare : MethodName := ⟨RX1, "wideSquare", "(II)I"⟩
def dkwX1_wideSquare_0 : List UInt8 := [42, 180, 0, 15, 27, 4, 126, 50, 78, 45, 45, 27, 28, 184, 0, 21, 182, 0, 47, 182, 0, 43, 172]
abbrev dktX1_wideSquare_0 : List UInt8 := dkwX1_wideSquare_0 ++ []
theorem dksX1_wideSquare_0 : cX1_wideSquare.data.toList.drop 0 = dktX1_wideSquare_0 := by decide +kernel
theorem dX1_wideSquare_0 : decode cX1_wideSquare 0 = .ok (.aload_n 0, 1) := dk_42 (dk_at dksX1_wideSquare_0 0 rfl rfl)
theorem dX1_wideSquare_1 : decode cX1_wideSquare 1 = .ok (.getfield 15, 3) := dk_180 0 15 (dk_at dksX1_wideSquare_0 1 rfl rfl)
theorem dX1_wideSquare_4 : decode cX1_wideSquare 4 = .ok (.iload_n 1, 1) := dk_27 (dk_at dksX1_wideSquare_0 4 rfl rfl)
theorem dX1_wideSquare_5 : decode cX1_wideSquare 5 = .ok (.iconst 1, 1) := dk_4 (dk_at dksX1_wideSquare_0 5 rfl rfl)
theorem dX1_wideSquare_6 : decode cX1_wideSquare 6 = .ok (.iand, 1) := dk_126 (dk_at dksX1_wideSquare_0 6 rfl rfl)
theorem dX1_wideSquare_7 : decode cX1_wideSquare 7 = .ok (.aaload, 1) := dk_50 (dk_at dksX1_wideSquare_0 7 rfl rfl)
theorem dX1_wideSquare_8 : decode cX1_wideSquare 8 = .ok (.astore_n 3, 1) := dk_78 (dk_at dksX1_wideSquare_0 8 rfl rfl)
theorem dX1_wideSquare_9 : decode cX1_wideSquare 9 = .ok (.aload_n 3, 1) := dk_45 (dk_at dksX1_wideSquare_0 9 rfl rfl)
theorem dX1_wideSquare_10 : decode cX1_wideSquare 10 = .ok (.aload_n 3, 1) := dk_45 (dk_at dksX1_wideSquare_0 10 rfl rfl)
theorem dX1_wideSquare_11 : decode cX1_wideSquare 11 = .ok (.iload_n 1, 1) := dk_27 (dk_at dksX1_wideSquare_0 11 rfl rfl)
theorem dX1_wideSquare_12 : decode cX1_wideSquare 12 = .ok (.iload_n 2, 1) := dk_28 (dk_at dksX1_wideSquare_0 12 rfl rfl)
theorem dX1_wideSquare_13 : decode cX1_wideSquare 13 = .ok (.invokestatic 21, 3) := dk_184 0 21 (dk_at dksX1_wideSquare_0 13 rfl rfl)
theorem dX1_wideSquare_16 : decode cX1_wideSquare 16 = .ok (.invokevirtual 47, 3) := dk_182 0 47 (dk_at dksX1_wideSquare_0 16 rfl rfl)
theorem dX1_wideSquare_19 : decode cX1_wideSquare 19 = .ok (.invokevirtual 43, 3) := dk_182 0 43 (dk_at dksX1_wideSquare_0 19 rfl rfl)
theorem dX1_wideSquare_22 : decode cX1_wideSquare 22 = .ok (.ireturn, 1) := dk_172 (dk_at dksX1_wideSquare_0 22 rfl rfl)
abbrev cX1_nought : ByteArray := prog_5_method_9_code
def yX1_nought : MethodName := ⟨RX1, "nought", "(II)Z"⟩
def dkwX1_nought_1 : List UInt8 := [172]
abbrev dktX1_nought_1 : List UInt8 := dkwX1_nought_1 ++ []
def dkwX1_nought_0 : List UInt8 := [42, 180, 0, 15, 27, 4, 126, 50, 27, 28, 184, 0, 21, 182, 0, 51, 153, 0, 7, 4, 167, 0, 4, 3]
abbrev dktX1_nought_0 : List UInt8 := dkwX1_nought_0 ++ dktX1_nought_1
theorem dksX1_nought_0 : cX1_nought.data.toList.drop 0 = dktX1_nought_0 := by decide +kernel
theorem dksX1_nought_1 : cX1_nought.data.toList.drop 24 = dktX1_nought_1 := dk_seg dksX1_nought_0 24 rfl rfl
theorem dX1_nought_0 : decode cX1_nought 0 = .ok (.aload_n 0, 1) := dk_42 (dk_at dksX1_nought_0 0 rfl rfl)
theorem dX1_nought_1 : decode cX1_nought 1 = .ok (.getfield 15, 3) := dk_180 0 15 (dk_at dksX1_nought_0 1 rfl rfl)
theorem dX1_nought_4 : decode cX1_nought 4 = .ok (.iload_n 1, 1) := dk_27 (dk_at dksX1_nought_0 4 rfl rfl)
theorem dX1_nought_5 : decode cX1_nought 5 = .ok (.iconst 1, 1) := dk_4 (dk_at dksX1_nought_0 5 rfl rfl)
theorem dX1_nought_6 : decode cX1_nought 6 = .ok (.iand, 1) := dk_126 (dk_at dksX1_nought_0 6 rfl rfl)
theorem dX1_nought_7 : decode cX1_nought 7 = .ok (.aaload, 1) := dk_50 (dk_at dksX1_nought_0 7 rfl rfl)
theorem dX1_nought_8 : decode cX1_nought 8 = .ok (.iload_n 1, 1) := dk_27 (dk_at dksX1_nought_0 8 rfl rfl)
theorem dX1_nought_9 : decode cX1_nought 9 = .ok (.iload_n 2, 1) := dk_28 (dk_at dksX1_nought_0 9 rfl rfl)
theorem dX1_nought_10 : decode cX1_nought 10 = .ok (.invokestatic 21, 3) := dk_184 0 21 (dk_at dksX1_nought_0 10 rfl rfl)
theorem dX1_nought_13 : decode cX1_nought 13 = .ok (.invokevirtual 51, 3) := dk_182 0 51 (dk_at dksX1_nought_0 13 rfl rfl)
theorem dX1_nought_16 : decode cX1_nought 16 = .ok (.ifCond .eq 7, 3) := dk_153 0 7 (dk_at dksX1_nought_0 16 rfl rfl)
theorem dX1_nought_19 : decode cX1_nought 19 = .ok (.iconst 1, 1) := dk_4 (dk_at dksX1_nought_0 19 rfl rfl)
theorem dX1_nought_20 : decode cX1_nought 20 = .ok (.goto 4, 3) := dk_167 0 4 (dk_at dksX1_nought_0 20 rfl rfl)
theorem dX1_nought_23 : decode cX1_nought 23 = .ok (.iconst 0, 1) := dk_3 (dk_at dksX1_nought_0 23 rfl rfl)
theorem dX1_nought_24 : decode cX1_nought 24 = .ok (.ireturn, 1) := dk_172 (dk_at dksX1_nought_1 0 rfl rfl)
theorem q4 : (Jvm.Cond.initialized "SmallFields") ∈ lw_all := lw_g (lw_at lw_m0 1 rfl) rfl
theorem q10 : (Jvm.Cond.instantiable "SmallFields" (1 : Nat)) ∈ lw_all := lw_g (lw_at lw_m0 7 rfl) rfl
theorem q12 : (Jvm.Cond.instanceMethod ({ cls := "SmallFields", name := "<init>", desc := "()V" } : Jvm.MethodName)) ∈ lw_all := lw_g (lw_at lw_m0 9 rfl) rfl
theorem q13 : (Jvm.Cond.code ({ cls := "SmallFields", name := "<init>", desc := "()V" } : Jvm.MethodName) prog_5_method_1_code (1 : Nat) (Option.none : Option Jvm.ClassFile.FieldType)) ∈ lw_all := lw_g (lw_at lw_m0 10 rfl) rfl
theorem q14 : (Jvm.Cond.methodLink "SmallFields" (1 : Nat) ({ cls := "java/lang/Object", name := "<init>", desc := "()V" } : Jvm.MethodName)) ∈ lw_all := lw_g (lw_at lw_m0 11 rfl) rfl
theorem q17 : (Jvm.Cond.classLink "SmallFields" (7 : Nat) "GF") ∈ lw_all := lw_g (lw_at lw_m0 14 rfl) rfl
theorem q19 : (Jvm.Cond.classLink "SmallFields" (9 : Nat) "GF12") ∈ lw_all := lw_g (lw_at lw_m0 16 rfl) rfl
theorem q21 : (Jvm.Cond.methodLink "SmallFields" (11 : Nat) ({ cls := "GF12", name := "<init>", desc := "()V" } : Jvm.MethodName)) ∈ lw_all := lw_g (lw_at lw_m0 18 rfl) rfl
theorem q29 : (Jvm.Cond.classLink "SmallFields" (12 : Nat) "GF13") ∈ lw_all := lw_g (lw_at lw_m0 26 rfl) rfl
theorem q31 : (Jvm.Cond.methodLink "SmallFields" (14 : Nat) ({ cls := "GF13", name := "<init>", desc := "()V" } : Jvm.MethodName)) ∈ lw_all := lw_g (lw_at lw_m0 28 rfl) rfl
theorem q36 : (Jvm.Cond.fieldLink "SmallFields" (15 : Nat) "SmallFields" "fields" "[LGF;") ∈ lw_all := lw_g (lw_at lw_m0 33 rfl) rfl
theorem q37 : (Jvm.Cond.laysFinal "SmallFields" "SmallFields" "fields" "[LGF;") ∈ lw_all := lw_g (lw_at lw_m0 34 rfl) rfl
theorem q38 : (Jvm.Cond.soleField "SmallFields" "fields") ∈ lw_all := lw_g (lw_at lw_m0 35 rfl) rfl
theorem q39 : (Jvm.Cond.superclass "SmallFields" "java/lang/Object") ∈ lw_all := lw_g (lw_at lw_m0 36 rfl) rfl
theorem q41 : (Jvm.Cond.instanceMethod ({ cls := "SmallFields", name := "multiply", desc := "(III)I" } : Jvm.MethodName)) ∈ lw_all := lw_g (lw_at lw_m0 38 rfl) rfl
theorem q42 : (Jvm.Cond.selects "SmallFields" ({ cls := "SmallFields", name := "multiply", desc := "(III)I" } : Jvm.MethodName) ({ cls := "SmallFields", name := "multiply", desc := "(III)I" } : Jvm.MethodName)) ∈ lw_all := lw_g (lw_at lw_m0 39 rfl) rfl
theorem q43 : (Jvm.Cond.code ({ cls := "SmallFields", name := "multiply", desc := "(III)I" } : Jvm.MethodName) prog_5_method_3_code (4 : Nat) (Option.some Jvm.ClassFile.FieldType.int)) ∈ lw_all := lw_g (lw_at lw_m0 40 rfl) rfl
theorem q44 : (Jvm.Cond.methodLink "SmallFields" (21 : Nat) ({ cls := "SmallFields", name := "fair", desc := "(II)S" } : Jvm.MethodName)) ∈ lw_all := lw_g (lw_at lw_m0 41 rfl) rfl
theorem q45 : (Jvm.Cond.static ({ cls := "SmallFields", name := "fair", desc := "(II)S" } : Jvm.MethodName)) ∈ lw_all := lw_g (lw_at lw_m0 42 rfl) rfl
theorem q46 : (Jvm.Cond.code ({ cls := "SmallFields", name := "fair", desc := "(II)S" } : Jvm.MethodName) prog_5_method_2_code (2 : Nat) (Option.some Jvm.ClassFile.FieldType.short)) ∈ lw_all := lw_g (lw_at lw_m0 43 rfl) rfl
theorem q47 : (Jvm.Cond.methodLink "SmallFields" (25 : Nat) ({ cls := "GF", name := "gf_mul", desc := "(SS)S" } : Jvm.MethodName)) ∈ lw_all := lw_g (lw_at lw_m0 44 rfl) rfl
theorem q67 : (Jvm.Cond.instanceMethod ({ cls := "SmallFields", name := "square", desc := "(II)I" } : Jvm.MethodName)) ∈ lw_all := lw_g (lw_at lw_m0 64 rfl) rfl
theorem q68 : (Jvm.Cond.selects "SmallFields" ({ cls := "SmallFields", name := "square", desc := "(II)I" } : Jvm.MethodName) ({ cls := "SmallFields", name := "square", desc := "(II)I" } : Jvm.MethodName)) ∈ lw_all := lw_g (lw_at lw_m0 65 rfl) rfl
theorem q69 : (Jvm.Cond.code ({ cls := "SmallFields", name := "square", desc := "(II)I" } : Jvm.MethodName) prog_5_method_4_code (3 : Nat) (Option.some Jvm.ClassFile.FieldType.int)) ∈ lw_all := lw_g (lw_at lw_m0 66 rfl) rfl
theorem q70 : (Jvm.Cond.methodLink "SmallFields" (29 : Nat) ({ cls := "GF", name := "gf_sq", desc := "(S)S" } : Jvm.MethodName)) ∈ lw_all := lw_g (lw_at lw_m0 67 rfl) rfl
theorem q89 : (Jvm.Cond.instanceMethod ({ cls := "SmallFields", name := "inverse", desc := "(II)I" } : Jvm.MethodName)) ∈ lw_all := lw_g (lw_at lw_m0 86 rfl) rfl
theorem q90 : (Jvm.Cond.selects "SmallFields" ({ cls := "SmallFields", name := "inverse", desc := "(II)I" } : Jvm.MethodName) ({ cls := "SmallFields", name := "inverse", desc := "(II)I" } : Jvm.MethodName)) ∈ lw_all := lw_g (lw_at lw_m0 87 rfl) rfl
theorem q91 : (Jvm.Cond.code ({ cls := "SmallFields", name := "inverse", desc := "(II)I" } : Jvm.MethodName) prog_5_method_5_code (4 : Nat) (Option.some Jvm.ClassFile.FieldType.int)) ∈ lw_all := lw_g (lw_at lw_m0 88 rfl) rfl
theorem q92 : (Jvm.Cond.methodLink "SmallFields" (33 : Nat) ({ cls := "GF", name := "gf_inv", desc := "(S)S" } : Jvm.MethodName)) ∈ lw_all := lw_g (lw_at lw_m0 89 rfl) rfl
theorem q137 : (Jvm.Cond.instanceMethod ({ cls := "SmallFields", name := "quotient", desc := "(III)I" } : Jvm.MethodName)) ∈ lw_all := lw_g (lw_at lw_m0 134 rfl) rfl
theorem q138 : (Jvm.Cond.selects "SmallFields" ({ cls := "SmallFields", name := "quotient", desc := "(III)I" } : Jvm.MethodName) ({ cls := "SmallFields", name := "quotient", desc := "(III)I" } : Jvm.MethodName)) ∈ lw_all := lw_g (lw_at lw_m0 135 rfl) rfl
theorem q139 : (Jvm.Cond.code ({ cls := "SmallFields", name := "quotient", desc := "(III)I" } : Jvm.MethodName) prog_5_method_6_code (5 : Nat) (Option.some Jvm.ClassFile.FieldType.int)) ∈ lw_all := lw_g (lw_at lw_m0 136 rfl) rfl
theorem q140 : (Jvm.Cond.methodLink "SmallFields" (36 : Nat) ({ cls := "GF", name := "gf_frac", desc := "(SS)S" } : Jvm.MethodName)) ∈ lw_all := lw_g (lw_at lw_m0 137 rfl) rfl
theorem q149 : (Jvm.Cond.instanceMethod ({ cls := "SmallFields", name := "product", desc := "(IIIII)I" } : Jvm.MethodName)) ∈ lw_all := lw_g (lw_at lw_m0 146 rfl) rfl
theorem q150 : (Jvm.Cond.selects "SmallFields" ({ cls := "SmallFields", name := "product", desc := "(IIIII)I" } : Jvm.MethodName) ({ cls := "SmallFields", name := "product", desc := "(IIIII)I" } : Jvm.MethodName)) ∈ lw_all := lw_g (lw_at lw_m0 147 rfl) rfl
theorem q151 : (Jvm.Cond.code ({ cls := "SmallFields", name := "product", desc := "(IIIII)I" } : Jvm.MethodName) prog_5_method_7_code (7 : Nat) (Option.some Jvm.ClassFile.FieldType.int)) ∈ lw_all := lw_g (lw_at lw_m0 148 rfl) rfl
theorem q152 : (Jvm.Cond.methodLink "SmallFields" (39 : Nat) ({ cls := "GF", name := "gf_mul_ext", desc := "(SS)I" } : Jvm.MethodName)) ∈ lw_all := lw_g (lw_at lw_m0 149 rfl) rfl
theorem q161 : (Jvm.Cond.methodLink "SmallFields" (43 : Nat) ({ cls := "GF", name := "gf_reduce", desc := "(I)S" } : Jvm.MethodName)) ∈ lw_all := lw_g (lw_at lw_m0 158 rfl) rfl
theorem q167 : (Jvm.Cond.instanceMethod ({ cls := "SmallFields", name := "wideSquare", desc := "(II)I" } : Jvm.MethodName)) ∈ lw_all := lw_g (lw_at lw_m0 164 rfl) rfl
theorem q168 : (Jvm.Cond.selects "SmallFields" ({ cls := "SmallFields", name := "wideSquare", desc := "(II)I" } : Jvm.MethodName) ({ cls := "SmallFields", name := "wideSquare", desc := "(II)I" } : Jvm.MethodName)) ∈ lw_all := lw_g (lw_at lw_m0 165 rfl) rfl
theorem q169 : (Jvm.Cond.code ({ cls := "SmallFields", name := "wideSquare", desc := "(II)I" } : Jvm.MethodName) prog_5_method_8_code (4 : Nat) (Option.some Jvm.ClassFile.FieldType.int)) ∈ lw_all := lw_g (lw_at lw_m0 166 rfl) rfl
theorem q170 : (Jvm.Cond.methodLink "SmallFields" (47 : Nat) ({ cls := "GF", name := "gf_sq_ext", desc := "(S)I" } : Jvm.MethodName)) ∈ lw_all := lw_g (lw_at lw_m0 167 rfl) rfl
theorem q180 : (Jvm.Cond.instanceMethod ({ cls := "SmallFields", name := "nought", desc := "(II)Z" } : Jvm.MethodName)) ∈ lw_all := lw_g (lw_at lw_m0 177 rfl) rfl
theorem q181 : (Jvm.Cond.selects "SmallFields" ({ cls := "SmallFields", name := "nought", desc := "(II)Z" } : Jvm.MethodName) ({ cls := "SmallFields", name := "nought", desc := "(II)Z" } : Jvm.MethodName)) ∈ lw_all := lw_g (lw_at lw_m0 178 rfl) rfl
theorem q182 : (Jvm.Cond.code ({ cls := "SmallFields", name := "nought", desc := "(II)Z" } : Jvm.MethodName) prog_5_method_9_code (3 : Nat) (Option.some Jvm.ClassFile.FieldType.boolean)) ∈ lw_all := lw_g (lw_at lw_m0 179 rfl) rfl
theorem q183 : (Jvm.Cond.methodLink "SmallFields" (51 : Nat) ({ cls := "GF", name := "gf_iszero", desc := "(S)S" } : Jvm.MethodName)) ∈ lw_all := lw_g (lw_at lw_m0 180 rfl) rfl
theorem in_X1 : ∀ w ∈ wsX10, w ∈ lw_all := lw_in wsX10 [37] (by decide +kernel) (by decide +kernel)
/-! GF -/
set_option maxRecDepth 100000
def RX2 : String := "GF"
abbrev cX2_init : ByteArray := prog_1_method_1_code
def yX2_init : MethodName := ⟨RX2, "<init>", "()V"⟩
theorem dX2_init_0 : decode cX2_init 0 = .ok (.aload_n 0, 1) := by decide +kernel
theorem dX2_init_1 : decode cX2_init 1 = .ok (.invokespecial 1, 3) := by decide +kernel
theorem dX2_init_4 : decode cX2_init 4 = .ok (.return_, 1) := by decide +kernel
abbrev cX2_gf_iszero : ByteArray := prog_1_method_2_code
def yX2_gf_iszero : MethodName := ⟨RX2, "gf_iszero", "(S)S"⟩
def dkwX2_gf_iszero_0 : List UInt8 := [27, 4, 100, 16, 31, 122, 147, 172]
abbrev dktX2_gf_iszero_0 : List UInt8 := dkwX2_gf_iszero_0 ++ []
theorem dksX2_gf_iszero_0 : cX2_gf_iszero.data.toList.drop 0 = dktX2_gf_iszero_0 := by decide +kernel
theorem dX2_gf_iszero_0 : decode cX2_gf_iszero 0 = .ok (.iload_n 1, 1) := dk_27 (dk_at dksX2_gf_iszero_0 0 rfl rfl)
theorem dX2_gf_iszero_1 : decode cX2_gf_iszero 1 = .ok (.iconst 1, 1) := dk_4 (dk_at dksX2_gf_iszero_0 1 rfl rfl)
theorem dX2_gf_iszero_2 : decode cX2_gf_iszero 2 = .ok (.isub, 1) := dk_100 (dk_at dksX2_gf_iszero_0 2 rfl rfl)
theorem dX2_gf_iszero_3 : decode cX2_gf_iszero 3 = .ok (.bipush 31, 2) := dk_16 31 (dk_at dksX2_gf_iszero_0 3 rfl rfl)
theorem dX2_gf_iszero_5 : decode cX2_gf_iszero 5 = .ok (.ishr, 1) := dk_122 (dk_at dksX2_gf_iszero_0 5 rfl rfl)
theorem dX2_gf_iszero_6 : decode cX2_gf_iszero 6 = .ok (.i2s, 1) := dk_147 (dk_at dksX2_gf_iszero_0 6 rfl rfl)
theorem dX2_gf_iszero_7 : decode cX2_gf_iszero 7 = .ok (.ireturn, 1) := dk_172 (dk_at dksX2_gf_iszero_0 7 rfl rfl)
theorem q5 : (Jvm.Cond.initialized "GF") ∈ lw_all := lw_g (lw_at lw_m0 2 rfl) rfl
theorem q25 : (Jvm.Cond.instanceMethod ({ cls := "GF", name := "<init>", desc := "()V" } : Jvm.MethodName)) ∈ lw_all := lw_g (lw_at lw_m0 22 rfl) rfl
theorem q26 : (Jvm.Cond.code ({ cls := "GF", name := "<init>", desc := "()V" } : Jvm.MethodName) prog_1_method_1_code (1 : Nat) (Option.none : Option Jvm.ClassFile.FieldType)) ∈ lw_all := lw_g (lw_at lw_m0 23 rfl) rfl
theorem q27 : (Jvm.Cond.methodLink "GF" (1 : Nat) ({ cls := "java/lang/Object", name := "<init>", desc := "()V" } : Jvm.MethodName)) ∈ lw_all := lw_g (lw_at lw_m0 24 rfl) rfl
theorem q48 : (Jvm.Cond.declares ({ cls := "GF", name := "gf_mul", desc := "(SS)S" } : Jvm.MethodName)) ∈ lw_tbl := lw_at lw_m0 45 rfl
theorem q49 : (Jvm.Cond.sameMethod "GF" "GF" "gf_mul" "(SS)S") ∈ lw_all := lw_g (lw_at lw_m0 46 rfl) rfl
theorem q71 : (Jvm.Cond.declares ({ cls := "GF", name := "gf_sq", desc := "(S)S" } : Jvm.MethodName)) ∈ lw_tbl := lw_at lw_m0 68 rfl
theorem q72 : (Jvm.Cond.sameMethod "GF" "GF" "gf_sq" "(S)S") ∈ lw_all := lw_g (lw_at lw_m0 69 rfl) rfl
theorem q93 : (Jvm.Cond.declares ({ cls := "GF", name := "gf_inv", desc := "(S)S" } : Jvm.MethodName)) ∈ lw_tbl := lw_at lw_m0 90 rfl
theorem q94 : (Jvm.Cond.sameMethod "GF" "GF" "gf_inv" "(S)S") ∈ lw_all := lw_g (lw_at lw_m0 91 rfl) rfl
theorem q141 : (Jvm.Cond.declares ({ cls := "GF", name := "gf_frac", desc := "(SS)S" } : Jvm.MethodName)) ∈ lw_tbl := lw_at lw_m0 138 rfl
theorem q142 : (Jvm.Cond.sameMethod "GF" "GF" "gf_frac" "(SS)S") ∈ lw_all := lw_g (lw_at lw_m0 139 rfl) rfl
theorem q153 : (Jvm.Cond.declares ({ cls := "GF", name := "gf_mul_ext", desc := "(SS)I" } : Jvm.MethodName)) ∈ lw_tbl := lw_at lw_m0 150 rfl
theorem q154 : (Jvm.Cond.sameMethod "GF" "GF" "gf_mul_ext" "(SS)I") ∈ lw_all := lw_g (lw_at lw_m0 151 rfl) rfl
theorem q162 : (Jvm.Cond.declares ({ cls := "GF", name := "gf_reduce", desc := "(I)S" } : Jvm.MethodName)) ∈ lw_tbl := lw_at lw_m0 159 rfl
theorem q163 : (Jvm.Cond.sameMethod "GF" "GF" "gf_reduce" "(I)S") ∈ lw_all := lw_g (lw_at lw_m0 160 rfl) rfl
theorem q171 : (Jvm.Cond.declares ({ cls := "GF", name := "gf_sq_ext", desc := "(S)I" } : Jvm.MethodName)) ∈ lw_tbl := lw_at lw_m0 168 rfl
theorem q172 : (Jvm.Cond.sameMethod "GF" "GF" "gf_sq_ext" "(S)I") ∈ lw_all := lw_g (lw_at lw_m0 169 rfl) rfl
theorem q184 : (Jvm.Cond.instanceMethod ({ cls := "GF", name := "gf_iszero", desc := "(S)S" } : Jvm.MethodName)) ∈ lw_all := lw_g (lw_at lw_m0 181 rfl) rfl
theorem q185 : (Jvm.Cond.sameMethod "GF" "GF" "gf_iszero" "(S)S") ∈ lw_all := lw_g (lw_at lw_m0 182 rfl) rfl
theorem q188 : (Jvm.Cond.code ({ cls := "GF", name := "gf_iszero", desc := "(S)S" } : Jvm.MethodName) prog_1_method_2_code (2 : Nat) (Option.some Jvm.ClassFile.FieldType.short)) ∈ lw_all := lw_g (lw_at lw_m0 185 rfl) rfl
/-! Interleave -/
set_option maxRecDepth 100000
def RX5 : String := "Interleave"
abbrev cX5_expand16to32 : ByteArray := prog_4_method_2_code
def yX5_expand16to32 : MethodName := ⟨RX5, "expand16to32", "(I)I"⟩
def dkwX5_expand16to32_1 : List UInt8 := [26, 26, 5, 120, 128, 18, 10, 126, 59, 26, 26, 4, 120, 128, 18, 11, 126, 59, 26, 172]
abbrev dktX5_expand16to32_1 : List UInt8 := dkwX5_expand16to32_1 ++ []
def dkwX5_expand16to32_0 : List UInt8 := [26, 18, 7, 126, 59, 26, 26, 16, 8, 120, 128, 18, 8, 126, 59, 26, 26, 7, 120, 128, 18, 9, 126, 59]
abbrev dktX5_expand16to32_0 : List UInt8 := dkwX5_expand16to32_0 ++ dktX5_expand16to32_1
theorem dksX5_expand16to32_0 : cX5_expand16to32.data.toList.drop 0 = dktX5_expand16to32_0 := by decide +kernel
theorem dksX5_expand16to32_1 : cX5_expand16to32.data.toList.drop 24 = dktX5_expand16to32_1 := dk_seg dksX5_expand16to32_0 24 rfl rfl
theorem dX5_expand16to32_0 : decode cX5_expand16to32 0 = .ok (.iload_n 0, 1) := dk_26 (dk_at dksX5_expand16to32_0 0 rfl rfl)
theorem dX5_expand16to32_1 : decode cX5_expand16to32 1 = .ok (.ldc 7, 2) := dk_18 7 (dk_at dksX5_expand16to32_0 1 rfl rfl)
theorem dX5_expand16to32_3 : decode cX5_expand16to32 3 = .ok (.iand, 1) := dk_126 (dk_at dksX5_expand16to32_0 3 rfl rfl)
theorem dX5_expand16to32_4 : decode cX5_expand16to32 4 = .ok (.istore_n 0, 1) := dk_59 (dk_at dksX5_expand16to32_0 4 rfl rfl)
theorem dX5_expand16to32_5 : decode cX5_expand16to32 5 = .ok (.iload_n 0, 1) := dk_26 (dk_at dksX5_expand16to32_0 5 rfl rfl)
theorem dX5_expand16to32_6 : decode cX5_expand16to32 6 = .ok (.iload_n 0, 1) := dk_26 (dk_at dksX5_expand16to32_0 6 rfl rfl)
theorem dX5_expand16to32_7 : decode cX5_expand16to32 7 = .ok (.bipush 8, 2) := dk_16 8 (dk_at dksX5_expand16to32_0 7 rfl rfl)
theorem dX5_expand16to32_9 : decode cX5_expand16to32 9 = .ok (.ishl, 1) := dk_120 (dk_at dksX5_expand16to32_0 9 rfl rfl)
theorem dX5_expand16to32_10 : decode cX5_expand16to32 10 = .ok (.ior, 1) := dk_128 (dk_at dksX5_expand16to32_0 10 rfl rfl)
theorem dX5_expand16to32_11 : decode cX5_expand16to32 11 = .ok (.ldc 8, 2) := dk_18 8 (dk_at dksX5_expand16to32_0 11 rfl rfl)
theorem dX5_expand16to32_13 : decode cX5_expand16to32 13 = .ok (.iand, 1) := dk_126 (dk_at dksX5_expand16to32_0 13 rfl rfl)
theorem dX5_expand16to32_14 : decode cX5_expand16to32 14 = .ok (.istore_n 0, 1) := dk_59 (dk_at dksX5_expand16to32_0 14 rfl rfl)
theorem dX5_expand16to32_15 : decode cX5_expand16to32 15 = .ok (.iload_n 0, 1) := dk_26 (dk_at dksX5_expand16to32_0 15 rfl rfl)
theorem dX5_expand16to32_16 : decode cX5_expand16to32 16 = .ok (.iload_n 0, 1) := dk_26 (dk_at dksX5_expand16to32_0 16 rfl rfl)
theorem dX5_expand16to32_17 : decode cX5_expand16to32 17 = .ok (.iconst 4, 1) := dk_7 (dk_at dksX5_expand16to32_0 17 rfl rfl)
theorem dX5_expand16to32_18 : decode cX5_expand16to32 18 = .ok (.ishl, 1) := dk_120 (dk_at dksX5_expand16to32_0 18 rfl rfl)
theorem dX5_expand16to32_19 : decode cX5_expand16to32 19 = .ok (.ior, 1) := dk_128 (dk_at dksX5_expand16to32_0 19 rfl rfl)
theorem dX5_expand16to32_20 : decode cX5_expand16to32 20 = .ok (.ldc 9, 2) := dk_18 9 (dk_at dksX5_expand16to32_0 20 rfl rfl)
theorem dX5_expand16to32_22 : decode cX5_expand16to32 22 = .ok (.iand, 1) := dk_126 (dk_at dksX5_expand16to32_0 22 rfl rfl)
theorem dX5_expand16to32_23 : decode cX5_expand16to32 23 = .ok (.istore_n 0, 1) := dk_59 (dk_at dksX5_expand16to32_0 23 rfl rfl)
theorem dX5_expand16to32_24 : decode cX5_expand16to32 24 = .ok (.iload_n 0, 1) := dk_26 (dk_at dksX5_expand16to32_1 0 rfl rfl)
theorem dX5_expand16to32_25 : decode cX5_expand16to32 25 = .ok (.iload_n 0, 1) := dk_26 (dk_at dksX5_expand16to32_1 1 rfl rfl)
theorem dX5_expand16to32_26 : decode cX5_expand16to32 26 = .ok (.iconst 2, 1) := dk_5 (dk_at dksX5_expand16to32_1 2 rfl rfl)
theorem dX5_expand16to32_27 : decode cX5_expand16to32 27 = .ok (.ishl, 1) := dk_120 (dk_at dksX5_expand16to32_1 3 rfl rfl)
theorem dX5_expand16to32_28 : decode cX5_expand16to32 28 = .ok (.ior, 1) := dk_128 (dk_at dksX5_expand16to32_1 4 rfl rfl)
theorem dX5_expand16to32_29 : decode cX5_expand16to32 29 = .ok (.ldc 10, 2) := dk_18 10 (dk_at dksX5_expand16to32_1 5 rfl rfl)
theorem dX5_expand16to32_31 : decode cX5_expand16to32 31 = .ok (.iand, 1) := dk_126 (dk_at dksX5_expand16to32_1 7 rfl rfl)
theorem dX5_expand16to32_32 : decode cX5_expand16to32 32 = .ok (.istore_n 0, 1) := dk_59 (dk_at dksX5_expand16to32_1 8 rfl rfl)
theorem dX5_expand16to32_33 : decode cX5_expand16to32 33 = .ok (.iload_n 0, 1) := dk_26 (dk_at dksX5_expand16to32_1 9 rfl rfl)
theorem dX5_expand16to32_34 : decode cX5_expand16to32 34 = .ok (.iload_n 0, 1) := dk_26 (dk_at dksX5_expand16to32_1 10 rfl rfl)
theorem dX5_expand16to32_35 : decode cX5_expand16to32 35 = .ok (.iconst 1, 1) := dk_4 (dk_at dksX5_expand16to32_1 11 rfl rfl)
theorem dX5_expand16to32_36 : decode cX5_expand16to32 36 = .ok (.ishl, 1) := dk_120 (dk_at dksX5_expand16to32_1 12 rfl rfl)
theorem dX5_expand16to32_37 : decode cX5_expand16to32 37 = .ok (.ior, 1) := dk_128 (dk_at dksX5_expand16to32_1 13 rfl rfl)
theorem dX5_expand16to32_38 : decode cX5_expand16to32 38 = .ok (.ldc 11, 2) := dk_18 11 (dk_at dksX5_expand16to32_1 14 rfl rfl)
theorem dX5_expand16to32_40 : decode cX5_expand16to32 40 = .ok (.iand, 1) := dk_126 (dk_at dksX5_expand16to32_1 16 rfl rfl)
theorem dX5_expand16to32_41 : decode cX5_expand16to32 41 = .ok (.istore_n 0, 1) := dk_59 (dk_at dksX5_expand16to32_1 17 rfl rfl)
theorem dX5_expand16to32_42 : decode cX5_expand16to32 42 = .ok (.iload_n 0, 1) := dk_26 (dk_at dksX5_expand16to32_1 18 rfl rfl)
theorem dX5_expand16to32_43 : decode cX5_expand16to32 43 = .ok (.ireturn, 1) := dk_172 (dk_at dksX5_expand16to32_1 19 rfl rfl)
theorem q8 : (Jvm.Cond.initialized "Interleave") ∈ lw_all := lw_g (lw_at lw_m0 5 rfl) rfl
theorem q77 : (Jvm.Cond.static ({ cls := "Interleave", name := "expand16to32", desc := "(I)I" } : Jvm.MethodName)) ∈ lw_all := lw_g (lw_at lw_m0 74 rfl) rfl
theorem q78 : (Jvm.Cond.code ({ cls := "Interleave", name := "expand16to32", desc := "(I)I" } : Jvm.MethodName) prog_4_method_2_code (1 : Nat) (Option.some Jvm.ClassFile.FieldType.int)) ∈ lw_all := lw_g (lw_at lw_m0 75 rfl) rfl
theorem q79 : (Jvm.Cond.constant "Interleave" (7 : Nat) (65535 : Int32)) ∈ lw_all := lw_g (lw_at lw_m0 76 rfl) rfl
theorem q80 : (Jvm.Cond.constant "Interleave" (8 : Nat) (16711935 : Int32)) ∈ lw_all := lw_g (lw_at lw_m0 77 rfl) rfl
theorem q81 : (Jvm.Cond.constant "Interleave" (9 : Nat) (252645135 : Int32)) ∈ lw_all := lw_g (lw_at lw_m0 78 rfl) rfl
theorem q82 : (Jvm.Cond.constant "Interleave" (10 : Nat) (858993459 : Int32)) ∈ lw_all := lw_g (lw_at lw_m0 79 rfl) rfl
theorem q83 : (Jvm.Cond.constant "Interleave" (11 : Nat) (1431655765 : Int32)) ∈ lw_all := lw_g (lw_at lw_m0 80 rfl) rfl
theorem q18 : (Jvm.Cond.arrayOver (Jvm.ClassFile.FieldType.object "GF")) ∈ lw_tbl := lw_at lw_m0 15 rfl
set_option maxRecDepth 100000
end
section
/-! GF12 -/
set_option maxRecDepth 100000
def RX3 : String := "GF12"
abbrev cX3_init : ByteArray := prog_2_method_1_code
def yX3_init : MethodName := ⟨RX3, "<init>", "()V"⟩
theorem dX3_init_0 : decode cX3_init 0 = .ok (.aload_n 0, 1) := by decide +kernel
theorem dX3_init_1 : decode cX3_init 1 = .ok (.invokespecial 1, 3) := by decide +kernel
theorem dX3_init_4 : decode cX3_init 4 = .ok (.return_, 1) := by decide +kernel
abbrev cX3_gf_mul : ByteArray := prog_2_method_4_code
def yX3_gf_mul : MethodName := ⟨RX3, "gf_mul", "(SS)S"⟩
def dkwX3_gf_mul_2 : List UInt8 := [182, 0, 20, 172]
abbrev dktX3_gf_mul_2 : List UInt8 := dkwX3_gf_mul_2 ++ []
def dkwX3_gf_mul_1 : List UInt8 := [21, 5, 29, 21, 4, 4, 21, 6, 120, 126, 104, 130, 54, 5, 132, 6, 1, 167, 255, 232, 42, 21, 5]
abbrev dktX3_gf_mul_1 : List UInt8 := dkwX3_gf_mul_1 ++ dktX3_gf_mul_2
def dkwX3_gf_mul_0 : List UInt8 := [27, 62, 28, 54, 4, 29, 21, 4, 4, 126, 104, 54, 5, 4, 54, 6, 21, 6, 16, 12, 162, 0, 23]
abbrev dktX3_gf_mul_0 : List UInt8 := dkwX3_gf_mul_0 ++ dktX3_gf_mul_1
theorem dksX3_gf_mul_0 : cX3_gf_mul.data.toList.drop 0 = dktX3_gf_mul_0 := by decide +kernel
theorem dksX3_gf_mul_1 : cX3_gf_mul.data.toList.drop 23 = dktX3_gf_mul_1 := dk_seg dksX3_gf_mul_0 23 rfl rfl
theorem dksX3_gf_mul_2 : cX3_gf_mul.data.toList.drop 46 = dktX3_gf_mul_2 := dk_seg dksX3_gf_mul_1 23 rfl rfl
theorem dX3_gf_mul_0 : decode cX3_gf_mul 0 = .ok (.iload_n 1, 1) := dk_27 (dk_at dksX3_gf_mul_0 0 rfl rfl)
theorem dX3_gf_mul_1 : decode cX3_gf_mul 1 = .ok (.istore_n 3, 1) := dk_62 (dk_at dksX3_gf_mul_0 1 rfl rfl)
theorem dX3_gf_mul_2 : decode cX3_gf_mul 2 = .ok (.iload_n 2, 1) := dk_28 (dk_at dksX3_gf_mul_0 2 rfl rfl)
theorem dX3_gf_mul_3 : decode cX3_gf_mul 3 = .ok (.istore 4, 2) := dk_54 4 (dk_at dksX3_gf_mul_0 3 rfl rfl)
theorem dX3_gf_mul_5 : decode cX3_gf_mul 5 = .ok (.iload_n 3, 1) := dk_29 (dk_at dksX3_gf_mul_0 5 rfl rfl)
theorem dX3_gf_mul_6 : decode cX3_gf_mul 6 = .ok (.iload 4, 2) := dk_21 4 (dk_at dksX3_gf_mul_0 6 rfl rfl)
theorem dX3_gf_mul_8 : decode cX3_gf_mul 8 = .ok (.iconst 1, 1) := dk_4 (dk_at dksX3_gf_mul_0 8 rfl rfl)
theorem dX3_gf_mul_9 : decode cX3_gf_mul 9 = .ok (.iand, 1) := dk_126 (dk_at dksX3_gf_mul_0 9 rfl rfl)
theorem dX3_gf_mul_10 : decode cX3_gf_mul 10 = .ok (.imul, 1) := dk_104 (dk_at dksX3_gf_mul_0 10 rfl rfl)
theorem dX3_gf_mul_11 : decode cX3_gf_mul 11 = .ok (.istore 5, 2) := dk_54 5 (dk_at dksX3_gf_mul_0 11 rfl rfl)
theorem dX3_gf_mul_13 : decode cX3_gf_mul 13 = .ok (.iconst 1, 1) := dk_4 (dk_at dksX3_gf_mul_0 13 rfl rfl)
theorem dX3_gf_mul_14 : decode cX3_gf_mul 14 = .ok (.istore 6, 2) := dk_54 6 (dk_at dksX3_gf_mul_0 14 rfl rfl)
theorem dX3_gf_mul_16 : decode cX3_gf_mul 16 = .ok (.iload 6, 2) := dk_21 6 (dk_at dksX3_gf_mul_0 16 rfl rfl)
theorem dX3_gf_mul_18 : decode cX3_gf_mul 18 = .ok (.bipush 12, 2) := dk_16 12 (dk_at dksX3_gf_mul_0 18 rfl rfl)
theorem dX3_gf_mul_20 : decode cX3_gf_mul 20 = .ok (.if_icmp .ge 23, 3) := dk_162 0 23 (dk_at dksX3_gf_mul_0 20 rfl rfl)
theorem dX3_gf_mul_23 : decode cX3_gf_mul 23 = .ok (.iload 5, 2) := dk_21 5 (dk_at dksX3_gf_mul_1 0 rfl rfl)
theorem dX3_gf_mul_25 : decode cX3_gf_mul 25 = .ok (.iload_n 3, 1) := dk_29 (dk_at dksX3_gf_mul_1 2 rfl rfl)
theorem dX3_gf_mul_26 : decode cX3_gf_mul 26 = .ok (.iload 4, 2) := dk_21 4 (dk_at dksX3_gf_mul_1 3 rfl rfl)
theorem dX3_gf_mul_28 : decode cX3_gf_mul 28 = .ok (.iconst 1, 1) := dk_4 (dk_at dksX3_gf_mul_1 5 rfl rfl)
theorem dX3_gf_mul_29 : decode cX3_gf_mul 29 = .ok (.iload 6, 2) := dk_21 6 (dk_at dksX3_gf_mul_1 6 rfl rfl)
theorem dX3_gf_mul_31 : decode cX3_gf_mul 31 = .ok (.ishl, 1) := dk_120 (dk_at dksX3_gf_mul_1 8 rfl rfl)
theorem dX3_gf_mul_32 : decode cX3_gf_mul 32 = .ok (.iand, 1) := dk_126 (dk_at dksX3_gf_mul_1 9 rfl rfl)
theorem dX3_gf_mul_33 : decode cX3_gf_mul 33 = .ok (.imul, 1) := dk_104 (dk_at dksX3_gf_mul_1 10 rfl rfl)
theorem dX3_gf_mul_34 : decode cX3_gf_mul 34 = .ok (.ixor, 1) := dk_130 (dk_at dksX3_gf_mul_1 11 rfl rfl)
theorem dX3_gf_mul_35 : decode cX3_gf_mul 35 = .ok (.istore 5, 2) := dk_54 5 (dk_at dksX3_gf_mul_1 12 rfl rfl)
theorem dX3_gf_mul_37 : decode cX3_gf_mul 37 = .ok (.iinc 6 1, 3) := dk_132 6 1 (dk_at dksX3_gf_mul_1 14 rfl rfl)
theorem dX3_gf_mul_40 : decode cX3_gf_mul 40 = .ok (.goto (-24), 3) := dk_167 255 232 (dk_at dksX3_gf_mul_1 17 rfl rfl)
theorem dX3_gf_mul_43 : decode cX3_gf_mul 43 = .ok (.aload_n 0, 1) := dk_42 (dk_at dksX3_gf_mul_1 20 rfl rfl)
theorem dX3_gf_mul_44 : decode cX3_gf_mul 44 = .ok (.iload 5, 2) := dk_21 5 (dk_at dksX3_gf_mul_1 21 rfl rfl)
theorem dX3_gf_mul_46 : decode cX3_gf_mul 46 = .ok (.invokevirtual 20, 3) := dk_182 0 20 (dk_at dksX3_gf_mul_2 0 rfl rfl)
theorem dX3_gf_mul_49 : decode cX3_gf_mul 49 = .ok (.ireturn, 1) := dk_172 (dk_at dksX3_gf_mul_2 3 rfl rfl)
abbrev cX3_gf_reduce : ByteArray := prog_2_method_6_code
def yX3_gf_reduce : MethodName := ⟨RX3, "gf_reduce", "(I)S"⟩
def dkwX3_gf_reduce_2 : List UInt8 := [172]
abbrev dktX3_gf_reduce_2 : List UInt8 := dkwX3_gf_reduce_2 ++ []
def dkwX3_gf_reduce_1 : List UInt8 := [16, 18, 124, 54, 5, 27, 16, 21, 124, 54, 6, 28, 29, 130, 21, 4, 130, 21, 5, 130, 21, 6, 130, 147]
abbrev dktX3_gf_reduce_1 : List UInt8 := dkwX3_gf_reduce_1 ++ dktX3_gf_reduce_2
def dkwX3_gf_reduce_0 : List UInt8 := [27, 17, 15, 255, 126, 61, 27, 16, 12, 124, 62, 27, 18, 24, 126, 16, 9, 124, 54, 4, 27, 18, 25, 126]
abbrev dktX3_gf_reduce_0 : List UInt8 := dkwX3_gf_reduce_0 ++ dktX3_gf_reduce_1
theorem dksX3_gf_reduce_0 : cX3_gf_reduce.data.toList.drop 0 = dktX3_gf_reduce_0 := by decide +kernel
theorem dksX3_gf_reduce_1 : cX3_gf_reduce.data.toList.drop 24 = dktX3_gf_reduce_1 := dk_seg dksX3_gf_reduce_0 24 rfl rfl
theorem dksX3_gf_reduce_2 : cX3_gf_reduce.data.toList.drop 48 = dktX3_gf_reduce_2 := dk_seg dksX3_gf_reduce_1 24 rfl rfl
theorem dX3_gf_reduce_0 : decode cX3_gf_reduce 0 = .ok (.iload_n 1, 1) := dk_27 (dk_at dksX3_gf_reduce_0 0 rfl rfl)
theorem dX3_gf_reduce_1 : decode cX3_gf_reduce 1 = .ok (.sipush 4095, 3) := dk_17 15 255 (dk_at dksX3_gf_reduce_0 1 rfl rfl)
theorem dX3_gf_reduce_4 : decode cX3_gf_reduce 4 = .ok (.iand, 1) := dk_126 (dk_at dksX3_gf_reduce_0 4 rfl rfl)
theorem dX3_gf_reduce_5 : decode cX3_gf_reduce 5 = .ok (.istore_n 2, 1) := dk_61 (dk_at dksX3_gf_reduce_0 5 rfl rfl)
theorem dX3_gf_reduce_6 : decode cX3_gf_reduce 6 = .ok (.iload_n 1, 1) := dk_27 (dk_at dksX3_gf_reduce_0 6 rfl rfl)
theorem dX3_gf_reduce_7 : decode cX3_gf_reduce 7 = .ok (.bipush 12, 2) := dk_16 12 (dk_at dksX3_gf_reduce_0 7 rfl rfl)
theorem dX3_gf_reduce_9 : decode cX3_gf_reduce 9 = .ok (.iushr, 1) := dk_124 (dk_at dksX3_gf_reduce_0 9 rfl rfl)
theorem dX3_gf_reduce_10 : decode cX3_gf_reduce 10 = .ok (.istore_n 3, 1) := dk_62 (dk_at dksX3_gf_reduce_0 10 rfl rfl)
theorem dX3_gf_reduce_11 : decode cX3_gf_reduce 11 = .ok (.iload_n 1, 1) := dk_27 (dk_at dksX3_gf_reduce_0 11 rfl rfl)
theorem dX3_gf_reduce_12 : decode cX3_gf_reduce 12 = .ok (.ldc 24, 2) := dk_18 24 (dk_at dksX3_gf_reduce_0 12 rfl rfl)
theorem dX3_gf_reduce_14 : decode cX3_gf_reduce 14 = .ok (.iand, 1) := dk_126 (dk_at dksX3_gf_reduce_0 14 rfl rfl)
theorem dX3_gf_reduce_15 : decode cX3_gf_reduce 15 = .ok (.bipush 9, 2) := dk_16 9 (dk_at dksX3_gf_reduce_0 15 rfl rfl)
theorem dX3_gf_reduce_17 : decode cX3_gf_reduce 17 = .ok (.iushr, 1) := dk_124 (dk_at dksX3_gf_reduce_0 17 rfl rfl)
theorem dX3_gf_reduce_18 : decode cX3_gf_reduce 18 = .ok (.istore 4, 2) := dk_54 4 (dk_at dksX3_gf_reduce_0 18 rfl rfl)
theorem dX3_gf_reduce_20 : decode cX3_gf_reduce 20 = .ok (.iload_n 1, 1) := dk_27 (dk_at dksX3_gf_reduce_0 20 rfl rfl)
theorem dX3_gf_reduce_21 : decode cX3_gf_reduce 21 = .ok (.ldc 25, 2) := dk_18 25 (dk_at dksX3_gf_reduce_0 21 rfl rfl)
theorem dX3_gf_reduce_23 : decode cX3_gf_reduce 23 = .ok (.iand, 1) := dk_126 (dk_at dksX3_gf_reduce_0 23 rfl rfl)
theorem dX3_gf_reduce_24 : decode cX3_gf_reduce 24 = .ok (.bipush 18, 2) := dk_16 18 (dk_at dksX3_gf_reduce_1 0 rfl rfl)
theorem dX3_gf_reduce_26 : decode cX3_gf_reduce 26 = .ok (.iushr, 1) := dk_124 (dk_at dksX3_gf_reduce_1 2 rfl rfl)
theorem dX3_gf_reduce_27 : decode cX3_gf_reduce 27 = .ok (.istore 5, 2) := dk_54 5 (dk_at dksX3_gf_reduce_1 3 rfl rfl)
theorem dX3_gf_reduce_29 : decode cX3_gf_reduce 29 = .ok (.iload_n 1, 1) := dk_27 (dk_at dksX3_gf_reduce_1 5 rfl rfl)
theorem dX3_gf_reduce_30 : decode cX3_gf_reduce 30 = .ok (.bipush 21, 2) := dk_16 21 (dk_at dksX3_gf_reduce_1 6 rfl rfl)
theorem dX3_gf_reduce_32 : decode cX3_gf_reduce 32 = .ok (.iushr, 1) := dk_124 (dk_at dksX3_gf_reduce_1 8 rfl rfl)
theorem dX3_gf_reduce_33 : decode cX3_gf_reduce 33 = .ok (.istore 6, 2) := dk_54 6 (dk_at dksX3_gf_reduce_1 9 rfl rfl)
theorem dX3_gf_reduce_35 : decode cX3_gf_reduce 35 = .ok (.iload_n 2, 1) := dk_28 (dk_at dksX3_gf_reduce_1 11 rfl rfl)
theorem dX3_gf_reduce_36 : decode cX3_gf_reduce 36 = .ok (.iload_n 3, 1) := dk_29 (dk_at dksX3_gf_reduce_1 12 rfl rfl)
theorem dX3_gf_reduce_37 : decode cX3_gf_reduce 37 = .ok (.ixor, 1) := dk_130 (dk_at dksX3_gf_reduce_1 13 rfl rfl)
theorem dX3_gf_reduce_38 : decode cX3_gf_reduce 38 = .ok (.iload 4, 2) := dk_21 4 (dk_at dksX3_gf_reduce_1 14 rfl rfl)
theorem dX3_gf_reduce_40 : decode cX3_gf_reduce 40 = .ok (.ixor, 1) := dk_130 (dk_at dksX3_gf_reduce_1 16 rfl rfl)
theorem dX3_gf_reduce_41 : decode cX3_gf_reduce 41 = .ok (.iload 5, 2) := dk_21 5 (dk_at dksX3_gf_reduce_1 17 rfl rfl)
theorem dX3_gf_reduce_43 : decode cX3_gf_reduce 43 = .ok (.ixor, 1) := dk_130 (dk_at dksX3_gf_reduce_1 19 rfl rfl)
theorem dX3_gf_reduce_44 : decode cX3_gf_reduce 44 = .ok (.iload 6, 2) := dk_21 6 (dk_at dksX3_gf_reduce_1 20 rfl rfl)
theorem dX3_gf_reduce_46 : decode cX3_gf_reduce 46 = .ok (.ixor, 1) := dk_130 (dk_at dksX3_gf_reduce_1 22 rfl rfl)
theorem dX3_gf_reduce_47 : decode cX3_gf_reduce 47 = .ok (.i2s, 1) := dk_147 (dk_at dksX3_gf_reduce_1 23 rfl rfl)
theorem dX3_gf_reduce_48 : decode cX3_gf_reduce 48 = .ok (.ireturn, 1) := dk_172 (dk_at dksX3_gf_reduce_2 0 rfl rfl)
abbrev cX3_gf_sq : ByteArray := prog_2_method_7_code
def yX3_gf_sq : MethodName := ⟨RX3, "gf_sq", "(S)S"⟩
def dkwX3_gf_sq_0 : List UInt8 := [27, 184, 0, 26, 61, 42, 28, 182, 0, 20, 172]
abbrev dktX3_gf_sq_0 : List UInt8 := dkwX3_gf_sq_0 ++ []
theorem dksX3_gf_sq_0 : cX3_gf_sq.data.toList.drop 0 = dktX3_gf_sq_0 := by decide +kernel
theorem dX3_gf_sq_0 : decode cX3_gf_sq 0 = .ok (.iload_n 1, 1) := dk_27 (dk_at dksX3_gf_sq_0 0 rfl rfl)
theorem dX3_gf_sq_1 : decode cX3_gf_sq 1 = .ok (.invokestatic 26, 3) := dk_184 0 26 (dk_at dksX3_gf_sq_0 1 rfl rfl)
theorem dX3_gf_sq_4 : decode cX3_gf_sq 4 = .ok (.istore_n 2, 1) := dk_61 (dk_at dksX3_gf_sq_0 4 rfl rfl)
theorem dX3_gf_sq_5 : decode cX3_gf_sq 5 = .ok (.aload_n 0, 1) := dk_42 (dk_at dksX3_gf_sq_0 5 rfl rfl)
theorem dX3_gf_sq_6 : decode cX3_gf_sq 6 = .ok (.iload_n 2, 1) := dk_28 (dk_at dksX3_gf_sq_0 6 rfl rfl)
theorem dX3_gf_sq_7 : decode cX3_gf_sq 7 = .ok (.invokevirtual 20, 3) := dk_182 0 20 (dk_at dksX3_gf_sq_0 7 rfl rfl)
theorem dX3_gf_sq_10 : decode cX3_gf_sq 10 = .ok (.ireturn, 1) := dk_172 (dk_at dksX3_gf_sq_0 10 rfl rfl)
abbrev cX3_gf_inv : ByteArray := prog_2_method_3_code
def yX3_gf_inv : MethodName := ⟨RX3, "gf_inv", "(S)S"⟩
def dkwX3_gf_inv_5 : List UInt8 := [21, 4, 27, 182, 0, 13, 54, 4, 42, 21, 4, 182, 0, 17, 172]
abbrev dktX3_gf_inv_5 : List UInt8 := dkwX3_gf_inv_5 ++ []
def dkwX3_gf_inv_4 : List UInt8 := [182, 0, 17, 54, 4, 42, 21, 4, 28, 182, 0, 13, 54, 4, 42, 21, 4, 182, 0, 17, 54, 4, 42]
abbrev dktX3_gf_inv_4 : List UInt8 := dkwX3_gf_inv_4 ++ dktX3_gf_inv_5
def dkwX3_gf_inv_3 : List UInt8 := [54, 4, 42, 21, 4, 29, 182, 0, 13, 54, 4, 42, 21, 4, 182, 0, 17, 54, 4, 42, 21, 4]
abbrev dktX3_gf_inv_3 : List UInt8 := dkwX3_gf_inv_3 ++ dktX3_gf_inv_4
def dkwX3_gf_inv_2 : List UInt8 := [54, 4, 42, 21, 4, 182, 0, 17, 54, 4, 42, 21, 4, 182, 0, 17, 54, 4, 42, 21, 4, 182, 0, 17]
abbrev dktX3_gf_inv_2 : List UInt8 := dkwX3_gf_inv_2 ++ dktX3_gf_inv_3
def dkwX3_gf_inv_1 : List UInt8 := [54, 4, 42, 21, 4, 182, 0, 17, 54, 4, 42, 21, 4, 28, 182, 0, 13, 62, 42, 29, 182, 0, 17]
abbrev dktX3_gf_inv_1 : List UInt8 := dkwX3_gf_inv_1 ++ dktX3_gf_inv_2
def dkwX3_gf_inv_0 : List UInt8 := [27, 54, 4, 42, 21, 4, 182, 0, 17, 54, 4, 42, 21, 4, 27, 182, 0, 13, 61, 42, 28, 182, 0, 17]
abbrev dktX3_gf_inv_0 : List UInt8 := dkwX3_gf_inv_0 ++ dktX3_gf_inv_1
theorem dksX3_gf_inv_0 : cX3_gf_inv.data.toList.drop 0 = dktX3_gf_inv_0 := by decide +kernel
theorem dksX3_gf_inv_1 : cX3_gf_inv.data.toList.drop 24 = dktX3_gf_inv_1 := dk_seg dksX3_gf_inv_0 24 rfl rfl
theorem dksX3_gf_inv_2 : cX3_gf_inv.data.toList.drop 47 = dktX3_gf_inv_2 := dk_seg dksX3_gf_inv_1 23 rfl rfl
theorem dksX3_gf_inv_3 : cX3_gf_inv.data.toList.drop 71 = dktX3_gf_inv_3 := dk_seg dksX3_gf_inv_2 24 rfl rfl
theorem dksX3_gf_inv_4 : cX3_gf_inv.data.toList.drop 93 = dktX3_gf_inv_4 := dk_seg dksX3_gf_inv_3 22 rfl rfl
theorem dksX3_gf_inv_5 : cX3_gf_inv.data.toList.drop 116 = dktX3_gf_inv_5 := dk_seg dksX3_gf_inv_4 23 rfl rfl
theorem dX3_gf_inv_0 : decode cX3_gf_inv 0 = .ok (.iload_n 1, 1) := dk_27 (dk_at dksX3_gf_inv_0 0 rfl rfl)
theorem dX3_gf_inv_1 : decode cX3_gf_inv 1 = .ok (.istore 4, 2) := dk_54 4 (dk_at dksX3_gf_inv_0 1 rfl rfl)
theorem dX3_gf_inv_3 : decode cX3_gf_inv 3 = .ok (.aload_n 0, 1) := dk_42 (dk_at dksX3_gf_inv_0 3 rfl rfl)
theorem dX3_gf_inv_4 : decode cX3_gf_inv 4 = .ok (.iload 4, 2) := dk_21 4 (dk_at dksX3_gf_inv_0 4 rfl rfl)
theorem dX3_gf_inv_6 : decode cX3_gf_inv 6 = .ok (.invokevirtual 17, 3) := dk_182 0 17 (dk_at dksX3_gf_inv_0 6 rfl rfl)
theorem dX3_gf_inv_9 : decode cX3_gf_inv 9 = .ok (.istore 4, 2) := dk_54 4 (dk_at dksX3_gf_inv_0 9 rfl rfl)
theorem dX3_gf_inv_11 : decode cX3_gf_inv 11 = .ok (.aload_n 0, 1) := dk_42 (dk_at dksX3_gf_inv_0 11 rfl rfl)
theorem dX3_gf_inv_12 : decode cX3_gf_inv 12 = .ok (.iload 4, 2) := dk_21 4 (dk_at dksX3_gf_inv_0 12 rfl rfl)
theorem dX3_gf_inv_14 : decode cX3_gf_inv 14 = .ok (.iload_n 1, 1) := dk_27 (dk_at dksX3_gf_inv_0 14 rfl rfl)
theorem dX3_gf_inv_15 : decode cX3_gf_inv 15 = .ok (.invokevirtual 13, 3) := dk_182 0 13 (dk_at dksX3_gf_inv_0 15 rfl rfl)
theorem dX3_gf_inv_18 : decode cX3_gf_inv 18 = .ok (.istore_n 2, 1) := dk_61 (dk_at dksX3_gf_inv_0 18 rfl rfl)
theorem dX3_gf_inv_19 : decode cX3_gf_inv 19 = .ok (.aload_n 0, 1) := dk_42 (dk_at dksX3_gf_inv_0 19 rfl rfl)
theorem dX3_gf_inv_20 : decode cX3_gf_inv 20 = .ok (.iload_n 2, 1) := dk_28 (dk_at dksX3_gf_inv_0 20 rfl rfl)
theorem dX3_gf_inv_21 : decode cX3_gf_inv 21 = .ok (.invokevirtual 17, 3) := dk_182 0 17 (dk_at dksX3_gf_inv_0 21 rfl rfl)
theorem dX3_gf_inv_24 : decode cX3_gf_inv 24 = .ok (.istore 4, 2) := dk_54 4 (dk_at dksX3_gf_inv_1 0 rfl rfl)
theorem dX3_gf_inv_26 : decode cX3_gf_inv 26 = .ok (.aload_n 0, 1) := dk_42 (dk_at dksX3_gf_inv_1 2 rfl rfl)
theorem dX3_gf_inv_27 : decode cX3_gf_inv 27 = .ok (.iload 4, 2) := dk_21 4 (dk_at dksX3_gf_inv_1 3 rfl rfl)
theorem dX3_gf_inv_29 : decode cX3_gf_inv 29 = .ok (.invokevirtual 17, 3) := dk_182 0 17 (dk_at dksX3_gf_inv_1 5 rfl rfl)
theorem dX3_gf_inv_32 : decode cX3_gf_inv 32 = .ok (.istore 4, 2) := dk_54 4 (dk_at dksX3_gf_inv_1 8 rfl rfl)
theorem dX3_gf_inv_34 : decode cX3_gf_inv 34 = .ok (.aload_n 0, 1) := dk_42 (dk_at dksX3_gf_inv_1 10 rfl rfl)
theorem dX3_gf_inv_35 : decode cX3_gf_inv 35 = .ok (.iload 4, 2) := dk_21 4 (dk_at dksX3_gf_inv_1 11 rfl rfl)
theorem dX3_gf_inv_37 : decode cX3_gf_inv 37 = .ok (.iload_n 2, 1) := dk_28 (dk_at dksX3_gf_inv_1 13 rfl rfl)
theorem dX3_gf_inv_38 : decode cX3_gf_inv 38 = .ok (.invokevirtual 13, 3) := dk_182 0 13 (dk_at dksX3_gf_inv_1 14 rfl rfl)
theorem dX3_gf_inv_41 : decode cX3_gf_inv 41 = .ok (.istore_n 3, 1) := dk_62 (dk_at dksX3_gf_inv_1 17 rfl rfl)
theorem dX3_gf_inv_42 : decode cX3_gf_inv 42 = .ok (.aload_n 0, 1) := dk_42 (dk_at dksX3_gf_inv_1 18 rfl rfl)
theorem dX3_gf_inv_43 : decode cX3_gf_inv 43 = .ok (.iload_n 3, 1) := dk_29 (dk_at dksX3_gf_inv_1 19 rfl rfl)
theorem dX3_gf_inv_44 : decode cX3_gf_inv 44 = .ok (.invokevirtual 17, 3) := dk_182 0 17 (dk_at dksX3_gf_inv_1 20 rfl rfl)
theorem dX3_gf_inv_47 : decode cX3_gf_inv 47 = .ok (.istore 4, 2) := dk_54 4 (dk_at dksX3_gf_inv_2 0 rfl rfl)
theorem dX3_gf_inv_49 : decode cX3_gf_inv 49 = .ok (.aload_n 0, 1) := dk_42 (dk_at dksX3_gf_inv_2 2 rfl rfl)
theorem dX3_gf_inv_50 : decode cX3_gf_inv 50 = .ok (.iload 4, 2) := dk_21 4 (dk_at dksX3_gf_inv_2 3 rfl rfl)
theorem dX3_gf_inv_52 : decode cX3_gf_inv 52 = .ok (.invokevirtual 17, 3) := dk_182 0 17 (dk_at dksX3_gf_inv_2 5 rfl rfl)
theorem dX3_gf_inv_55 : decode cX3_gf_inv 55 = .ok (.istore 4, 2) := dk_54 4 (dk_at dksX3_gf_inv_2 8 rfl rfl)
theorem dX3_gf_inv_57 : decode cX3_gf_inv 57 = .ok (.aload_n 0, 1) := dk_42 (dk_at dksX3_gf_inv_2 10 rfl rfl)
theorem dX3_gf_inv_58 : decode cX3_gf_inv 58 = .ok (.iload 4, 2) := dk_21 4 (dk_at dksX3_gf_inv_2 11 rfl rfl)
theorem dX3_gf_inv_60 : decode cX3_gf_inv 60 = .ok (.invokevirtual 17, 3) := dk_182 0 17 (dk_at dksX3_gf_inv_2 13 rfl rfl)
theorem dX3_gf_inv_63 : decode cX3_gf_inv 63 = .ok (.istore 4, 2) := dk_54 4 (dk_at dksX3_gf_inv_2 16 rfl rfl)
theorem dX3_gf_inv_65 : decode cX3_gf_inv 65 = .ok (.aload_n 0, 1) := dk_42 (dk_at dksX3_gf_inv_2 18 rfl rfl)
theorem dX3_gf_inv_66 : decode cX3_gf_inv 66 = .ok (.iload 4, 2) := dk_21 4 (dk_at dksX3_gf_inv_2 19 rfl rfl)
theorem dX3_gf_inv_68 : decode cX3_gf_inv 68 = .ok (.invokevirtual 17, 3) := dk_182 0 17 (dk_at dksX3_gf_inv_2 21 rfl rfl)
theorem dX3_gf_inv_71 : decode cX3_gf_inv 71 = .ok (.istore 4, 2) := dk_54 4 (dk_at dksX3_gf_inv_3 0 rfl rfl)
theorem dX3_gf_inv_73 : decode cX3_gf_inv 73 = .ok (.aload_n 0, 1) := dk_42 (dk_at dksX3_gf_inv_3 2 rfl rfl)
theorem dX3_gf_inv_74 : decode cX3_gf_inv 74 = .ok (.iload 4, 2) := dk_21 4 (dk_at dksX3_gf_inv_3 3 rfl rfl)
theorem dX3_gf_inv_76 : decode cX3_gf_inv 76 = .ok (.iload_n 3, 1) := dk_29 (dk_at dksX3_gf_inv_3 5 rfl rfl)
theorem dX3_gf_inv_77 : decode cX3_gf_inv 77 = .ok (.invokevirtual 13, 3) := dk_182 0 13 (dk_at dksX3_gf_inv_3 6 rfl rfl)
theorem dX3_gf_inv_80 : decode cX3_gf_inv 80 = .ok (.istore 4, 2) := dk_54 4 (dk_at dksX3_gf_inv_3 9 rfl rfl)
theorem dX3_gf_inv_82 : decode cX3_gf_inv 82 = .ok (.aload_n 0, 1) := dk_42 (dk_at dksX3_gf_inv_3 11 rfl rfl)
theorem dX3_gf_inv_83 : decode cX3_gf_inv 83 = .ok (.iload 4, 2) := dk_21 4 (dk_at dksX3_gf_inv_3 12 rfl rfl)
theorem dX3_gf_inv_85 : decode cX3_gf_inv 85 = .ok (.invokevirtual 17, 3) := dk_182 0 17 (dk_at dksX3_gf_inv_3 14 rfl rfl)
theorem dX3_gf_inv_88 : decode cX3_gf_inv 88 = .ok (.istore 4, 2) := dk_54 4 (dk_at dksX3_gf_inv_3 17 rfl rfl)
theorem dX3_gf_inv_90 : decode cX3_gf_inv 90 = .ok (.aload_n 0, 1) := dk_42 (dk_at dksX3_gf_inv_3 19 rfl rfl)
theorem dX3_gf_inv_91 : decode cX3_gf_inv 91 = .ok (.iload 4, 2) := dk_21 4 (dk_at dksX3_gf_inv_3 20 rfl rfl)
theorem dX3_gf_inv_93 : decode cX3_gf_inv 93 = .ok (.invokevirtual 17, 3) := dk_182 0 17 (dk_at dksX3_gf_inv_4 0 rfl rfl)
theorem dX3_gf_inv_96 : decode cX3_gf_inv 96 = .ok (.istore 4, 2) := dk_54 4 (dk_at dksX3_gf_inv_4 3 rfl rfl)
theorem dX3_gf_inv_98 : decode cX3_gf_inv 98 = .ok (.aload_n 0, 1) := dk_42 (dk_at dksX3_gf_inv_4 5 rfl rfl)
theorem dX3_gf_inv_99 : decode cX3_gf_inv 99 = .ok (.iload 4, 2) := dk_21 4 (dk_at dksX3_gf_inv_4 6 rfl rfl)
theorem dX3_gf_inv_101 : decode cX3_gf_inv 101 = .ok (.iload_n 2, 1) := dk_28 (dk_at dksX3_gf_inv_4 8 rfl rfl)
theorem dX3_gf_inv_102 : decode cX3_gf_inv 102 = .ok (.invokevirtual 13, 3) := dk_182 0 13 (dk_at dksX3_gf_inv_4 9 rfl rfl)
theorem dX3_gf_inv_105 : decode cX3_gf_inv 105 = .ok (.istore 4, 2) := dk_54 4 (dk_at dksX3_gf_inv_4 12 rfl rfl)
theorem dX3_gf_inv_107 : decode cX3_gf_inv 107 = .ok (.aload_n 0, 1) := dk_42 (dk_at dksX3_gf_inv_4 14 rfl rfl)
theorem dX3_gf_inv_108 : decode cX3_gf_inv 108 = .ok (.iload 4, 2) := dk_21 4 (dk_at dksX3_gf_inv_4 15 rfl rfl)
theorem dX3_gf_inv_110 : decode cX3_gf_inv 110 = .ok (.invokevirtual 17, 3) := dk_182 0 17 (dk_at dksX3_gf_inv_4 17 rfl rfl)
theorem dX3_gf_inv_113 : decode cX3_gf_inv 113 = .ok (.istore 4, 2) := dk_54 4 (dk_at dksX3_gf_inv_4 20 rfl rfl)
theorem dX3_gf_inv_115 : decode cX3_gf_inv 115 = .ok (.aload_n 0, 1) := dk_42 (dk_at dksX3_gf_inv_4 22 rfl rfl)
theorem dX3_gf_inv_116 : decode cX3_gf_inv 116 = .ok (.iload 4, 2) := dk_21 4 (dk_at dksX3_gf_inv_5 0 rfl rfl)
theorem dX3_gf_inv_118 : decode cX3_gf_inv 118 = .ok (.iload_n 1, 1) := dk_27 (dk_at dksX3_gf_inv_5 2 rfl rfl)
theorem dX3_gf_inv_119 : decode cX3_gf_inv 119 = .ok (.invokevirtual 13, 3) := dk_182 0 13 (dk_at dksX3_gf_inv_5 3 rfl rfl)
theorem dX3_gf_inv_122 : decode cX3_gf_inv 122 = .ok (.istore 4, 2) := dk_54 4 (dk_at dksX3_gf_inv_5 6 rfl rfl)
theorem dX3_gf_inv_124 : decode cX3_gf_inv 124 = .ok (.aload_n 0, 1) := dk_42 (dk_at dksX3_gf_inv_5 8 rfl rfl)
theorem dX3_gf_inv_125 : decode cX3_gf_inv 125 = .ok (.iload 4, 2) := dk_21 4 (dk_at dksX3_gf_inv_5 9 rfl rfl)
theorem dX3_gf_inv_127 : decode cX3_gf_inv 127 = .ok (.invokevirtual 17, 3) := dk_182 0 17 (dk_at dksX3_gf_inv_5 11 rfl rfl)
theorem dX3_gf_inv_130 : decode cX3_gf_inv 130 = .ok (.ireturn, 1) := dk_172 (dk_at dksX3_gf_inv_5 14 rfl rfl)
abbrev cX3_gf_frac : ByteArray := prog_2_method_2_code
def yX3_gf_frac : MethodName := ⟨RX3, "gf_frac", "(SS)S"⟩
def dkwX3_gf_frac_0 : List UInt8 := [42, 42, 27, 182, 0, 7, 28, 182, 0, 13, 172]
abbrev dktX3_gf_frac_0 : List UInt8 := dkwX3_gf_frac_0 ++ []
theorem dksX3_gf_frac_0 : cX3_gf_frac.data.toList.drop 0 = dktX3_gf_frac_0 := by decide +kernel
theorem dX3_gf_frac_0 : decode cX3_gf_frac 0 = .ok (.aload_n 0, 1) := dk_42 (dk_at dksX3_gf_frac_0 0 rfl rfl)
theorem dX3_gf_frac_1 : decode cX3_gf_frac 1 = .ok (.aload_n 0, 1) := dk_42 (dk_at dksX3_gf_frac_0 1 rfl rfl)
theorem dX3_gf_frac_2 : decode cX3_gf_frac 2 = .ok (.iload_n 1, 1) := dk_27 (dk_at dksX3_gf_frac_0 2 rfl rfl)
theorem dX3_gf_frac_3 : decode cX3_gf_frac 3 = .ok (.invokevirtual 7, 3) := dk_182 0 7 (dk_at dksX3_gf_frac_0 3 rfl rfl)
theorem dX3_gf_frac_6 : decode cX3_gf_frac 6 = .ok (.iload_n 2, 1) := dk_28 (dk_at dksX3_gf_frac_0 6 rfl rfl)
theorem dX3_gf_frac_7 : decode cX3_gf_frac 7 = .ok (.invokevirtual 13, 3) := dk_182 0 13 (dk_at dksX3_gf_frac_0 7 rfl rfl)
theorem dX3_gf_frac_10 : decode cX3_gf_frac 10 = .ok (.ireturn, 1) := dk_172 (dk_at dksX3_gf_frac_0 10 rfl rfl)
abbrev cX3_gf_mul_ext : ByteArray := prog_2_method_5_code
def yX3_gf_mul_ext : MethodName := ⟨RX3, "gf_mul_ext", "(SS)I"⟩
def dkwX3_gf_mul_ext_1 : List UInt8 := [21, 5, 29, 21, 4, 4, 21, 6, 120, 126, 104, 130, 54, 5, 132, 6, 1, 167, 255, 232, 21, 5, 172]
abbrev dktX3_gf_mul_ext_1 : List UInt8 := dkwX3_gf_mul_ext_1 ++ []
def dkwX3_gf_mul_ext_0 : List UInt8 := [27, 62, 28, 54, 4, 29, 21, 4, 4, 126, 104, 54, 5, 4, 54, 6, 21, 6, 16, 12, 162, 0, 23]
abbrev dktX3_gf_mul_ext_0 : List UInt8 := dkwX3_gf_mul_ext_0 ++ dktX3_gf_mul_ext_1
theorem dksX3_gf_mul_ext_0 : cX3_gf_mul_ext.data.toList.drop 0 = dktX3_gf_mul_ext_0 := by decide +kernel
theorem dksX3_gf_mul_ext_1 : cX3_gf_mul_ext.data.toList.drop 23 = dktX3_gf_mul_ext_1 := dk_seg dksX3_gf_mul_ext_0 23 rfl rfl
theorem dX3_gf_mul_ext_0 : decode cX3_gf_mul_ext 0 = .ok (.iload_n 1, 1) := dk_27 (dk_at dksX3_gf_mul_ext_0 0 rfl rfl)
theorem dX3_gf_mul_ext_1 : decode cX3_gf_mul_ext 1 = .ok (.istore_n 3, 1) := dk_62 (dk_at dksX3_gf_mul_ext_0 1 rfl rfl)
theorem dX3_gf_mul_ext_2 : decode cX3_gf_mul_ext 2 = .ok (.iload_n 2, 1) := dk_28 (dk_at dksX3_gf_mul_ext_0 2 rfl rfl)
theorem dX3_gf_mul_ext_3 : decode cX3_gf_mul_ext 3 = .ok (.istore 4, 2) := dk_54 4 (dk_at dksX3_gf_mul_ext_0 3 rfl rfl)
theorem dX3_gf_mul_ext_5 : decode cX3_gf_mul_ext 5 = .ok (.iload_n 3, 1) := dk_29 (dk_at dksX3_gf_mul_ext_0 5 rfl rfl)
theorem dX3_gf_mul_ext_6 : decode cX3_gf_mul_ext 6 = .ok (.iload 4, 2) := dk_21 4 (dk_at dksX3_gf_mul_ext_0 6 rfl rfl)
theorem dX3_gf_mul_ext_8 : decode cX3_gf_mul_ext 8 = .ok (.iconst 1, 1) := dk_4 (dk_at dksX3_gf_mul_ext_0 8 rfl rfl)
theorem dX3_gf_mul_ext_9 : decode cX3_gf_mul_ext 9 = .ok (.iand, 1) := dk_126 (dk_at dksX3_gf_mul_ext_0 9 rfl rfl)
theorem dX3_gf_mul_ext_10 : decode cX3_gf_mul_ext 10 = .ok (.imul, 1) := dk_104 (dk_at dksX3_gf_mul_ext_0 10 rfl rfl)
theorem dX3_gf_mul_ext_11 : decode cX3_gf_mul_ext 11 = .ok (.istore 5, 2) := dk_54 5 (dk_at dksX3_gf_mul_ext_0 11 rfl rfl)
theorem dX3_gf_mul_ext_13 : decode cX3_gf_mul_ext 13 = .ok (.iconst 1, 1) := dk_4 (dk_at dksX3_gf_mul_ext_0 13 rfl rfl)
theorem dX3_gf_mul_ext_14 : decode cX3_gf_mul_ext 14 = .ok (.istore 6, 2) := dk_54 6 (dk_at dksX3_gf_mul_ext_0 14 rfl rfl)
theorem dX3_gf_mul_ext_16 : decode cX3_gf_mul_ext 16 = .ok (.iload 6, 2) := dk_21 6 (dk_at dksX3_gf_mul_ext_0 16 rfl rfl)
theorem dX3_gf_mul_ext_18 : decode cX3_gf_mul_ext 18 = .ok (.bipush 12, 2) := dk_16 12 (dk_at dksX3_gf_mul_ext_0 18 rfl rfl)
theorem dX3_gf_mul_ext_20 : decode cX3_gf_mul_ext 20 = .ok (.if_icmp .ge 23, 3) := dk_162 0 23 (dk_at dksX3_gf_mul_ext_0 20 rfl rfl)
theorem dX3_gf_mul_ext_23 : decode cX3_gf_mul_ext 23 = .ok (.iload 5, 2) := dk_21 5 (dk_at dksX3_gf_mul_ext_1 0 rfl rfl)
theorem dX3_gf_mul_ext_25 : decode cX3_gf_mul_ext 25 = .ok (.iload_n 3, 1) := dk_29 (dk_at dksX3_gf_mul_ext_1 2 rfl rfl)
theorem dX3_gf_mul_ext_26 : decode cX3_gf_mul_ext 26 = .ok (.iload 4, 2) := dk_21 4 (dk_at dksX3_gf_mul_ext_1 3 rfl rfl)
theorem dX3_gf_mul_ext_28 : decode cX3_gf_mul_ext 28 = .ok (.iconst 1, 1) := dk_4 (dk_at dksX3_gf_mul_ext_1 5 rfl rfl)
theorem dX3_gf_mul_ext_29 : decode cX3_gf_mul_ext 29 = .ok (.iload 6, 2) := dk_21 6 (dk_at dksX3_gf_mul_ext_1 6 rfl rfl)
theorem dX3_gf_mul_ext_31 : decode cX3_gf_mul_ext 31 = .ok (.ishl, 1) := dk_120 (dk_at dksX3_gf_mul_ext_1 8 rfl rfl)
theorem dX3_gf_mul_ext_32 : decode cX3_gf_mul_ext 32 = .ok (.iand, 1) := dk_126 (dk_at dksX3_gf_mul_ext_1 9 rfl rfl)
theorem dX3_gf_mul_ext_33 : decode cX3_gf_mul_ext 33 = .ok (.imul, 1) := dk_104 (dk_at dksX3_gf_mul_ext_1 10 rfl rfl)
theorem dX3_gf_mul_ext_34 : decode cX3_gf_mul_ext 34 = .ok (.ixor, 1) := dk_130 (dk_at dksX3_gf_mul_ext_1 11 rfl rfl)
theorem dX3_gf_mul_ext_35 : decode cX3_gf_mul_ext 35 = .ok (.istore 5, 2) := dk_54 5 (dk_at dksX3_gf_mul_ext_1 12 rfl rfl)
theorem dX3_gf_mul_ext_37 : decode cX3_gf_mul_ext 37 = .ok (.iinc 6 1, 3) := dk_132 6 1 (dk_at dksX3_gf_mul_ext_1 14 rfl rfl)
theorem dX3_gf_mul_ext_40 : decode cX3_gf_mul_ext 40 = .ok (.goto (-24), 3) := dk_167 255 232 (dk_at dksX3_gf_mul_ext_1 17 rfl rfl)
theorem dX3_gf_mul_ext_43 : decode cX3_gf_mul_ext 43 = .ok (.iload 5, 2) := dk_21 5 (dk_at dksX3_gf_mul_ext_1 20 rfl rfl)
theorem dX3_gf_mul_ext_45 : decode cX3_gf_mul_ext 45 = .ok (.ireturn, 1) := dk_172 (dk_at dksX3_gf_mul_ext_1 22 rfl rfl)
abbrev cX3_gf_sq_ext : ByteArray := prog_2_method_8_code
def yX3_gf_sq_ext : MethodName := ⟨RX3, "gf_sq_ext", "(S)I"⟩
theorem dX3_gf_sq_ext_0 : decode cX3_gf_sq_ext 0 = .ok (.iload_n 1, 1) := by decide +kernel
theorem dX3_gf_sq_ext_1 : decode cX3_gf_sq_ext 1 = .ok (.invokestatic 26, 3) := by decide +kernel
theorem dX3_gf_sq_ext_4 : decode cX3_gf_sq_ext 4 = .ok (.ireturn, 1) := by decide +kernel
theorem q6 : (Jvm.Cond.initialized "GF12") ∈ lw_all := lw_g (lw_at lw_m0 3 rfl) rfl
theorem q20 : (Jvm.Cond.instantiable "GF12" (0 : Nat)) ∈ lw_all := lw_g (lw_at lw_m0 17 rfl) rfl
theorem q22 : (Jvm.Cond.instanceMethod ({ cls := "GF12", name := "<init>", desc := "()V" } : Jvm.MethodName)) ∈ lw_all := lw_g (lw_at lw_m0 19 rfl) rfl
theorem q23 : (Jvm.Cond.code ({ cls := "GF12", name := "<init>", desc := "()V" } : Jvm.MethodName) prog_2_method_1_code (1 : Nat) (Option.none : Option Jvm.ClassFile.FieldType)) ∈ lw_all := lw_g (lw_at lw_m0 20 rfl) rfl
theorem q24 : (Jvm.Cond.methodLink "GF12" (1 : Nat) ({ cls := "GF", name := "<init>", desc := "()V" } : Jvm.MethodName)) ∈ lw_all := lw_g (lw_at lw_m0 21 rfl) rfl
theorem q28 : (Jvm.Cond.superclass "GF12" "GF") ∈ lw_all := lw_g (lw_at lw_m0 25 rfl) rfl
theorem q50 : (Jvm.Cond.selects "GF12" ({ cls := "GF", name := "gf_mul", desc := "(SS)S" } : Jvm.MethodName) ({ cls := "GF12", name := "gf_mul", desc := "(SS)S" } : Jvm.MethodName)) ∈ lw_all := lw_g (lw_at lw_m0 47 rfl) rfl
theorem q51 : (Jvm.Cond.instanceMethod ({ cls := "GF12", name := "gf_mul", desc := "(SS)S" } : Jvm.MethodName)) ∈ lw_all := lw_g (lw_at lw_m0 48 rfl) rfl
theorem q52 : (Jvm.Cond.code ({ cls := "GF12", name := "gf_mul", desc := "(SS)S" } : Jvm.MethodName) prog_2_method_4_code (7 : Nat) (Option.some Jvm.ClassFile.FieldType.short)) ∈ lw_all := lw_g (lw_at lw_m0 49 rfl) rfl
theorem q53 : (Jvm.Cond.methodLink "GF12" (20 : Nat) ({ cls := "GF12", name := "gf_reduce", desc := "(I)S" } : Jvm.MethodName)) ∈ lw_all := lw_g (lw_at lw_m0 50 rfl) rfl
theorem q54 : (Jvm.Cond.instanceMethod ({ cls := "GF12", name := "gf_reduce", desc := "(I)S" } : Jvm.MethodName)) ∈ lw_all := lw_g (lw_at lw_m0 51 rfl) rfl
theorem q55 : (Jvm.Cond.selects "GF12" ({ cls := "GF12", name := "gf_reduce", desc := "(I)S" } : Jvm.MethodName) ({ cls := "GF12", name := "gf_reduce", desc := "(I)S" } : Jvm.MethodName)) ∈ lw_all := lw_g (lw_at lw_m0 52 rfl) rfl
theorem q56 : (Jvm.Cond.code ({ cls := "GF12", name := "gf_reduce", desc := "(I)S" } : Jvm.MethodName) prog_2_method_6_code (7 : Nat) (Option.some Jvm.ClassFile.FieldType.short)) ∈ lw_all := lw_g (lw_at lw_m0 53 rfl) rfl
theorem q57 : (Jvm.Cond.constant "GF12" (24 : Nat) (2093056 : Int32)) ∈ lw_all := lw_g (lw_at lw_m0 54 rfl) rfl
theorem q58 : (Jvm.Cond.constant "GF12" (25 : Nat) (14680064 : Int32)) ∈ lw_all := lw_g (lw_at lw_m0 55 rfl) rfl
theorem q73 : (Jvm.Cond.selects "GF12" ({ cls := "GF", name := "gf_sq", desc := "(S)S" } : Jvm.MethodName) ({ cls := "GF12", name := "gf_sq", desc := "(S)S" } : Jvm.MethodName)) ∈ lw_all := lw_g (lw_at lw_m0 70 rfl) rfl
theorem q74 : (Jvm.Cond.instanceMethod ({ cls := "GF12", name := "gf_sq", desc := "(S)S" } : Jvm.MethodName)) ∈ lw_all := lw_g (lw_at lw_m0 71 rfl) rfl
theorem q75 : (Jvm.Cond.code ({ cls := "GF12", name := "gf_sq", desc := "(S)S" } : Jvm.MethodName) prog_2_method_7_code (3 : Nat) (Option.some Jvm.ClassFile.FieldType.short)) ∈ lw_all := lw_g (lw_at lw_m0 72 rfl) rfl
theorem q76 : (Jvm.Cond.methodLink "GF12" (26 : Nat) ({ cls := "Interleave", name := "expand16to32", desc := "(I)I" } : Jvm.MethodName)) ∈ lw_all := lw_g (lw_at lw_m0 73 rfl) rfl
theorem q95 : (Jvm.Cond.selects "GF12" ({ cls := "GF", name := "gf_inv", desc := "(S)S" } : Jvm.MethodName) ({ cls := "GF12", name := "gf_inv", desc := "(S)S" } : Jvm.MethodName)) ∈ lw_all := lw_g (lw_at lw_m0 92 rfl) rfl
theorem q96 : (Jvm.Cond.instanceMethod ({ cls := "GF12", name := "gf_inv", desc := "(S)S" } : Jvm.MethodName)) ∈ lw_all := lw_g (lw_at lw_m0 93 rfl) rfl
theorem q97 : (Jvm.Cond.code ({ cls := "GF12", name := "gf_inv", desc := "(S)S" } : Jvm.MethodName) prog_2_method_3_code (5 : Nat) (Option.some Jvm.ClassFile.FieldType.short)) ∈ lw_all := lw_g (lw_at lw_m0 94 rfl) rfl
theorem q98 : (Jvm.Cond.methodLink "GF12" (17 : Nat) ({ cls := "GF12", name := "gf_sq", desc := "(S)S" } : Jvm.MethodName)) ∈ lw_all := lw_g (lw_at lw_m0 95 rfl) rfl
theorem q99 : (Jvm.Cond.methodLink "GF12" (13 : Nat) ({ cls := "GF12", name := "gf_mul", desc := "(SS)S" } : Jvm.MethodName)) ∈ lw_all := lw_g (lw_at lw_m0 96 rfl) rfl
theorem q143 : (Jvm.Cond.selects "GF12" ({ cls := "GF", name := "gf_frac", desc := "(SS)S" } : Jvm.MethodName) ({ cls := "GF12", name := "gf_frac", desc := "(SS)S" } : Jvm.MethodName)) ∈ lw_all := lw_g (lw_at lw_m0 140 rfl) rfl
theorem q144 : (Jvm.Cond.instanceMethod ({ cls := "GF12", name := "gf_frac", desc := "(SS)S" } : Jvm.MethodName)) ∈ lw_all := lw_g (lw_at lw_m0 141 rfl) rfl
theorem q145 : (Jvm.Cond.code ({ cls := "GF12", name := "gf_frac", desc := "(SS)S" } : Jvm.MethodName) prog_2_method_2_code (3 : Nat) (Option.some Jvm.ClassFile.FieldType.short)) ∈ lw_all := lw_g (lw_at lw_m0 142 rfl) rfl
theorem q146 : (Jvm.Cond.methodLink "GF12" (7 : Nat) ({ cls := "GF12", name := "gf_inv", desc := "(S)S" } : Jvm.MethodName)) ∈ lw_all := lw_g (lw_at lw_m0 143 rfl) rfl
theorem q155 : (Jvm.Cond.selects "GF12" ({ cls := "GF", name := "gf_mul_ext", desc := "(SS)I" } : Jvm.MethodName) ({ cls := "GF12", name := "gf_mul_ext", desc := "(SS)I" } : Jvm.MethodName)) ∈ lw_all := lw_g (lw_at lw_m0 152 rfl) rfl
theorem q156 : (Jvm.Cond.instanceMethod ({ cls := "GF12", name := "gf_mul_ext", desc := "(SS)I" } : Jvm.MethodName)) ∈ lw_all := lw_g (lw_at lw_m0 153 rfl) rfl
theorem q157 : (Jvm.Cond.code ({ cls := "GF12", name := "gf_mul_ext", desc := "(SS)I" } : Jvm.MethodName) prog_2_method_5_code (7 : Nat) (Option.some Jvm.ClassFile.FieldType.int)) ∈ lw_all := lw_g (lw_at lw_m0 154 rfl) rfl
theorem q164 : (Jvm.Cond.selects "GF12" ({ cls := "GF", name := "gf_reduce", desc := "(I)S" } : Jvm.MethodName) ({ cls := "GF12", name := "gf_reduce", desc := "(I)S" } : Jvm.MethodName)) ∈ lw_all := lw_g (lw_at lw_m0 161 rfl) rfl
theorem q173 : (Jvm.Cond.selects "GF12" ({ cls := "GF", name := "gf_sq_ext", desc := "(S)I" } : Jvm.MethodName) ({ cls := "GF12", name := "gf_sq_ext", desc := "(S)I" } : Jvm.MethodName)) ∈ lw_all := lw_g (lw_at lw_m0 170 rfl) rfl
theorem q174 : (Jvm.Cond.instanceMethod ({ cls := "GF12", name := "gf_sq_ext", desc := "(S)I" } : Jvm.MethodName)) ∈ lw_all := lw_g (lw_at lw_m0 171 rfl) rfl
theorem q175 : (Jvm.Cond.code ({ cls := "GF12", name := "gf_sq_ext", desc := "(S)I" } : Jvm.MethodName) prog_2_method_8_code (2 : Nat) (Option.some Jvm.ClassFile.FieldType.int)) ∈ lw_all := lw_g (lw_at lw_m0 172 rfl) rfl
theorem q186 : (Jvm.Cond.selects "GF12" ({ cls := "GF", name := "gf_iszero", desc := "(S)S" } : Jvm.MethodName) ({ cls := "GF", name := "gf_iszero", desc := "(S)S" } : Jvm.MethodName)) ∈ lw_all := lw_g (lw_at lw_m0 183 rfl) rfl
theorem q192 : (Jvm.Cond.selects "GF12" ({ cls := "GF12", name := "gf_sq", desc := "(S)S" } : Jvm.MethodName) ({ cls := "GF12", name := "gf_sq", desc := "(S)S" } : Jvm.MethodName)) ∈ lw_all := lw_g (lw_at lw_m0 189 rfl) rfl
theorem q193 : (Jvm.Cond.selects "GF12" ({ cls := "GF12", name := "gf_mul", desc := "(SS)S" } : Jvm.MethodName) ({ cls := "GF12", name := "gf_mul", desc := "(SS)S" } : Jvm.MethodName)) ∈ lw_all := lw_g (lw_at lw_m0 190 rfl) rfl
theorem q194 : (Jvm.Cond.selects "GF12" ({ cls := "GF12", name := "gf_inv", desc := "(S)S" } : Jvm.MethodName) ({ cls := "GF12", name := "gf_inv", desc := "(S)S" } : Jvm.MethodName)) ∈ lw_all := lw_g (lw_at lw_m0 191 rfl) rfl
theorem q195 : (Jvm.Cond.castable "GF12" "GF") ∈ lw_tbl := lw_at lw_m0 192 rfl
end
section
/-! GF13 -/
set_option maxRecDepth 100000
def RX4 : String := "GF13"
abbrev cX4_init : ByteArray := prog_3_method_1_code
def yX4_init : MethodName := ⟨RX4, "<init>", "()V"⟩
theorem dX4_init_0 : decode cX4_init 0 = .ok (.aload_n 0, 1) := by decide +kernel
theorem dX4_init_1 : decode cX4_init 1 = .ok (.invokespecial 1, 3) := by decide +kernel
theorem dX4_init_4 : decode cX4_init 4 = .ok (.return_, 1) := by decide +kernel
abbrev cX4_gf_mul : ByteArray := prog_3_method_4_code
def yX4_gf_mul : MethodName := ⟨RX4, "gf_mul", "(SS)S"⟩
def dkwX4_gf_mul_2 : List UInt8 := [182, 0, 23, 172]
abbrev dktX4_gf_mul_2 : List UInt8 := dkwX4_gf_mul_2 ++ []
def dkwX4_gf_mul_1 : List UInt8 := [21, 5, 29, 21, 4, 4, 21, 6, 120, 126, 104, 130, 54, 5, 132, 6, 1, 167, 255, 232, 42, 21, 5]
abbrev dktX4_gf_mul_1 : List UInt8 := dkwX4_gf_mul_1 ++ dktX4_gf_mul_2
def dkwX4_gf_mul_0 : List UInt8 := [27, 62, 28, 54, 4, 29, 21, 4, 4, 126, 104, 54, 5, 4, 54, 6, 21, 6, 16, 13, 162, 0, 23]
abbrev dktX4_gf_mul_0 : List UInt8 := dkwX4_gf_mul_0 ++ dktX4_gf_mul_1
theorem dksX4_gf_mul_0 : cX4_gf_mul.data.toList.drop 0 = dktX4_gf_mul_0 := by decide +kernel
theorem dksX4_gf_mul_1 : cX4_gf_mul.data.toList.drop 23 = dktX4_gf_mul_1 := dk_seg dksX4_gf_mul_0 23 rfl rfl
theorem dksX4_gf_mul_2 : cX4_gf_mul.data.toList.drop 46 = dktX4_gf_mul_2 := dk_seg dksX4_gf_mul_1 23 rfl rfl
theorem dX4_gf_mul_0 : decode cX4_gf_mul 0 = .ok (.iload_n 1, 1) := dk_27 (dk_at dksX4_gf_mul_0 0 rfl rfl)
theorem dX4_gf_mul_1 : decode cX4_gf_mul 1 = .ok (.istore_n 3, 1) := dk_62 (dk_at dksX4_gf_mul_0 1 rfl rfl)
theorem dX4_gf_mul_2 : decode cX4_gf_mul 2 = .ok (.iload_n 2, 1) := dk_28 (dk_at dksX4_gf_mul_0 2 rfl rfl)
theorem dX4_gf_mul_3 : decode cX4_gf_mul 3 = .ok (.istore 4, 2) := dk_54 4 (dk_at dksX4_gf_mul_0 3 rfl rfl)
theorem dX4_gf_mul_5 : decode cX4_gf_mul 5 = .ok (.iload_n 3, 1) := dk_29 (dk_at dksX4_gf_mul_0 5 rfl rfl)
theorem dX4_gf_mul_6 : decode cX4_gf_mul 6 = .ok (.iload 4, 2) := dk_21 4 (dk_at dksX4_gf_mul_0 6 rfl rfl)
theorem dX4_gf_mul_8 : decode cX4_gf_mul 8 = .ok (.iconst 1, 1) := dk_4 (dk_at dksX4_gf_mul_0 8 rfl rfl)
theorem dX4_gf_mul_9 : decode cX4_gf_mul 9 = .ok (.iand, 1) := dk_126 (dk_at dksX4_gf_mul_0 9 rfl rfl)
theorem dX4_gf_mul_10 : decode cX4_gf_mul 10 = .ok (.imul, 1) := dk_104 (dk_at dksX4_gf_mul_0 10 rfl rfl)
theorem dX4_gf_mul_11 : decode cX4_gf_mul 11 = .ok (.istore 5, 2) := dk_54 5 (dk_at dksX4_gf_mul_0 11 rfl rfl)
theorem dX4_gf_mul_13 : decode cX4_gf_mul 13 = .ok (.iconst 1, 1) := dk_4 (dk_at dksX4_gf_mul_0 13 rfl rfl)
theorem dX4_gf_mul_14 : decode cX4_gf_mul 14 = .ok (.istore 6, 2) := dk_54 6 (dk_at dksX4_gf_mul_0 14 rfl rfl)
theorem dX4_gf_mul_16 : decode cX4_gf_mul 16 = .ok (.iload 6, 2) := dk_21 6 (dk_at dksX4_gf_mul_0 16 rfl rfl)
theorem dX4_gf_mul_18 : decode cX4_gf_mul 18 = .ok (.bipush 13, 2) := dk_16 13 (dk_at dksX4_gf_mul_0 18 rfl rfl)
theorem dX4_gf_mul_20 : decode cX4_gf_mul 20 = .ok (.if_icmp .ge 23, 3) := dk_162 0 23 (dk_at dksX4_gf_mul_0 20 rfl rfl)
theorem dX4_gf_mul_23 : decode cX4_gf_mul 23 = .ok (.iload 5, 2) := dk_21 5 (dk_at dksX4_gf_mul_1 0 rfl rfl)
theorem dX4_gf_mul_25 : decode cX4_gf_mul 25 = .ok (.iload_n 3, 1) := dk_29 (dk_at dksX4_gf_mul_1 2 rfl rfl)
theorem dX4_gf_mul_26 : decode cX4_gf_mul 26 = .ok (.iload 4, 2) := dk_21 4 (dk_at dksX4_gf_mul_1 3 rfl rfl)
theorem dX4_gf_mul_28 : decode cX4_gf_mul 28 = .ok (.iconst 1, 1) := dk_4 (dk_at dksX4_gf_mul_1 5 rfl rfl)
theorem dX4_gf_mul_29 : decode cX4_gf_mul 29 = .ok (.iload 6, 2) := dk_21 6 (dk_at dksX4_gf_mul_1 6 rfl rfl)
theorem dX4_gf_mul_31 : decode cX4_gf_mul 31 = .ok (.ishl, 1) := dk_120 (dk_at dksX4_gf_mul_1 8 rfl rfl)
theorem dX4_gf_mul_32 : decode cX4_gf_mul 32 = .ok (.iand, 1) := dk_126 (dk_at dksX4_gf_mul_1 9 rfl rfl)
theorem dX4_gf_mul_33 : decode cX4_gf_mul 33 = .ok (.imul, 1) := dk_104 (dk_at dksX4_gf_mul_1 10 rfl rfl)
theorem dX4_gf_mul_34 : decode cX4_gf_mul 34 = .ok (.ixor, 1) := dk_130 (dk_at dksX4_gf_mul_1 11 rfl rfl)
theorem dX4_gf_mul_35 : decode cX4_gf_mul 35 = .ok (.istore 5, 2) := dk_54 5 (dk_at dksX4_gf_mul_1 12 rfl rfl)
theorem dX4_gf_mul_37 : decode cX4_gf_mul 37 = .ok (.iinc 6 1, 3) := dk_132 6 1 (dk_at dksX4_gf_mul_1 14 rfl rfl)
theorem dX4_gf_mul_40 : decode cX4_gf_mul 40 = .ok (.goto (-24), 3) := dk_167 255 232 (dk_at dksX4_gf_mul_1 17 rfl rfl)
theorem dX4_gf_mul_43 : decode cX4_gf_mul 43 = .ok (.aload_n 0, 1) := dk_42 (dk_at dksX4_gf_mul_1 20 rfl rfl)
theorem dX4_gf_mul_44 : decode cX4_gf_mul 44 = .ok (.iload 5, 2) := dk_21 5 (dk_at dksX4_gf_mul_1 21 rfl rfl)
theorem dX4_gf_mul_46 : decode cX4_gf_mul 46 = .ok (.invokevirtual 23, 3) := dk_182 0 23 (dk_at dksX4_gf_mul_2 0 rfl rfl)
theorem dX4_gf_mul_49 : decode cX4_gf_mul 49 = .ok (.ireturn, 1) := dk_172 (dk_at dksX4_gf_mul_2 3 rfl rfl)
abbrev cX4_gf_reduce : ByteArray := prog_3_method_6_code
def yX4_gf_reduce : MethodName := ⟨RX4, "gf_reduce", "(I)S"⟩
def dkwX4_gf_reduce_2 : List UInt8 := [21, 5, 4, 120, 130, 54, 7, 28, 29, 130, 21, 5, 130, 21, 6, 130, 21, 7, 130, 147, 172]
abbrev dktX4_gf_reduce_2 : List UInt8 := dkwX4_gf_reduce_2 ++ []
def dkwX4_gf_reduce_1 : List UInt8 := [21, 4, 16, 13, 124, 54, 5, 21, 4, 17, 31, 255, 126, 54, 6, 21, 5, 7, 120, 21, 5, 6, 120, 130]
abbrev dktX4_gf_reduce_1 : List UInt8 := dkwX4_gf_reduce_1 ++ dktX4_gf_reduce_2
def dkwX4_gf_reduce_0 : List UInt8 := [27, 17, 31, 255, 126, 61, 27, 16, 13, 124, 62, 29, 7, 120, 29, 6, 120, 130, 29, 4, 120, 130, 54, 4]
abbrev dktX4_gf_reduce_0 : List UInt8 := dkwX4_gf_reduce_0 ++ dktX4_gf_reduce_1
theorem dksX4_gf_reduce_0 : cX4_gf_reduce.data.toList.drop 0 = dktX4_gf_reduce_0 := by decide +kernel
theorem dksX4_gf_reduce_1 : cX4_gf_reduce.data.toList.drop 24 = dktX4_gf_reduce_1 := dk_seg dksX4_gf_reduce_0 24 rfl rfl
theorem dksX4_gf_reduce_2 : cX4_gf_reduce.data.toList.drop 48 = dktX4_gf_reduce_2 := dk_seg dksX4_gf_reduce_1 24 rfl rfl
theorem dX4_gf_reduce_0 : decode cX4_gf_reduce 0 = .ok (.iload_n 1, 1) := dk_27 (dk_at dksX4_gf_reduce_0 0 rfl rfl)
theorem dX4_gf_reduce_1 : decode cX4_gf_reduce 1 = .ok (.sipush 8191, 3) := dk_17 31 255 (dk_at dksX4_gf_reduce_0 1 rfl rfl)
theorem dX4_gf_reduce_4 : decode cX4_gf_reduce 4 = .ok (.iand, 1) := dk_126 (dk_at dksX4_gf_reduce_0 4 rfl rfl)
theorem dX4_gf_reduce_5 : decode cX4_gf_reduce 5 = .ok (.istore_n 2, 1) := dk_61 (dk_at dksX4_gf_reduce_0 5 rfl rfl)
theorem dX4_gf_reduce_6 : decode cX4_gf_reduce 6 = .ok (.iload_n 1, 1) := dk_27 (dk_at dksX4_gf_reduce_0 6 rfl rfl)
theorem dX4_gf_reduce_7 : decode cX4_gf_reduce 7 = .ok (.bipush 13, 2) := dk_16 13 (dk_at dksX4_gf_reduce_0 7 rfl rfl)
theorem dX4_gf_reduce_9 : decode cX4_gf_reduce 9 = .ok (.iushr, 1) := dk_124 (dk_at dksX4_gf_reduce_0 9 rfl rfl)
theorem dX4_gf_reduce_10 : decode cX4_gf_reduce 10 = .ok (.istore_n 3, 1) := dk_62 (dk_at dksX4_gf_reduce_0 10 rfl rfl)
theorem dX4_gf_reduce_11 : decode cX4_gf_reduce 11 = .ok (.iload_n 3, 1) := dk_29 (dk_at dksX4_gf_reduce_0 11 rfl rfl)
theorem dX4_gf_reduce_12 : decode cX4_gf_reduce 12 = .ok (.iconst 4, 1) := dk_7 (dk_at dksX4_gf_reduce_0 12 rfl rfl)
theorem dX4_gf_reduce_13 : decode cX4_gf_reduce 13 = .ok (.ishl, 1) := dk_120 (dk_at dksX4_gf_reduce_0 13 rfl rfl)
theorem dX4_gf_reduce_14 : decode cX4_gf_reduce 14 = .ok (.iload_n 3, 1) := dk_29 (dk_at dksX4_gf_reduce_0 14 rfl rfl)
theorem dX4_gf_reduce_15 : decode cX4_gf_reduce 15 = .ok (.iconst 3, 1) := dk_6 (dk_at dksX4_gf_reduce_0 15 rfl rfl)
theorem dX4_gf_reduce_16 : decode cX4_gf_reduce 16 = .ok (.ishl, 1) := dk_120 (dk_at dksX4_gf_reduce_0 16 rfl rfl)
theorem dX4_gf_reduce_17 : decode cX4_gf_reduce 17 = .ok (.ixor, 1) := dk_130 (dk_at dksX4_gf_reduce_0 17 rfl rfl)
theorem dX4_gf_reduce_18 : decode cX4_gf_reduce 18 = .ok (.iload_n 3, 1) := dk_29 (dk_at dksX4_gf_reduce_0 18 rfl rfl)
theorem dX4_gf_reduce_19 : decode cX4_gf_reduce 19 = .ok (.iconst 1, 1) := dk_4 (dk_at dksX4_gf_reduce_0 19 rfl rfl)
theorem dX4_gf_reduce_20 : decode cX4_gf_reduce 20 = .ok (.ishl, 1) := dk_120 (dk_at dksX4_gf_reduce_0 20 rfl rfl)
theorem dX4_gf_reduce_21 : decode cX4_gf_reduce 21 = .ok (.ixor, 1) := dk_130 (dk_at dksX4_gf_reduce_0 21 rfl rfl)
theorem dX4_gf_reduce_22 : decode cX4_gf_reduce 22 = .ok (.istore 4, 2) := dk_54 4 (dk_at dksX4_gf_reduce_0 22 rfl rfl)
theorem dX4_gf_reduce_24 : decode cX4_gf_reduce 24 = .ok (.iload 4, 2) := dk_21 4 (dk_at dksX4_gf_reduce_1 0 rfl rfl)
theorem dX4_gf_reduce_26 : decode cX4_gf_reduce 26 = .ok (.bipush 13, 2) := dk_16 13 (dk_at dksX4_gf_reduce_1 2 rfl rfl)
theorem dX4_gf_reduce_28 : decode cX4_gf_reduce 28 = .ok (.iushr, 1) := dk_124 (dk_at dksX4_gf_reduce_1 4 rfl rfl)
theorem dX4_gf_reduce_29 : decode cX4_gf_reduce 29 = .ok (.istore 5, 2) := dk_54 5 (dk_at dksX4_gf_reduce_1 5 rfl rfl)
theorem dX4_gf_reduce_31 : decode cX4_gf_reduce 31 = .ok (.iload 4, 2) := dk_21 4 (dk_at dksX4_gf_reduce_1 7 rfl rfl)
theorem dX4_gf_reduce_33 : decode cX4_gf_reduce 33 = .ok (.sipush 8191, 3) := dk_17 31 255 (dk_at dksX4_gf_reduce_1 9 rfl rfl)
theorem dX4_gf_reduce_36 : decode cX4_gf_reduce 36 = .ok (.iand, 1) := dk_126 (dk_at dksX4_gf_reduce_1 12 rfl rfl)
theorem dX4_gf_reduce_37 : decode cX4_gf_reduce 37 = .ok (.istore 6, 2) := dk_54 6 (dk_at dksX4_gf_reduce_1 13 rfl rfl)
theorem dX4_gf_reduce_39 : decode cX4_gf_reduce 39 = .ok (.iload 5, 2) := dk_21 5 (dk_at dksX4_gf_reduce_1 15 rfl rfl)
theorem dX4_gf_reduce_41 : decode cX4_gf_reduce 41 = .ok (.iconst 4, 1) := dk_7 (dk_at dksX4_gf_reduce_1 17 rfl rfl)
theorem dX4_gf_reduce_42 : decode cX4_gf_reduce 42 = .ok (.ishl, 1) := dk_120 (dk_at dksX4_gf_reduce_1 18 rfl rfl)
theorem dX4_gf_reduce_43 : decode cX4_gf_reduce 43 = .ok (.iload 5, 2) := dk_21 5 (dk_at dksX4_gf_reduce_1 19 rfl rfl)
theorem dX4_gf_reduce_45 : decode cX4_gf_reduce 45 = .ok (.iconst 3, 1) := dk_6 (dk_at dksX4_gf_reduce_1 21 rfl rfl)
theorem dX4_gf_reduce_46 : decode cX4_gf_reduce 46 = .ok (.ishl, 1) := dk_120 (dk_at dksX4_gf_reduce_1 22 rfl rfl)
theorem dX4_gf_reduce_47 : decode cX4_gf_reduce 47 = .ok (.ixor, 1) := dk_130 (dk_at dksX4_gf_reduce_1 23 rfl rfl)
theorem dX4_gf_reduce_48 : decode cX4_gf_reduce 48 = .ok (.iload 5, 2) := dk_21 5 (dk_at dksX4_gf_reduce_2 0 rfl rfl)
theorem dX4_gf_reduce_50 : decode cX4_gf_reduce 50 = .ok (.iconst 1, 1) := dk_4 (dk_at dksX4_gf_reduce_2 2 rfl rfl)
theorem dX4_gf_reduce_51 : decode cX4_gf_reduce 51 = .ok (.ishl, 1) := dk_120 (dk_at dksX4_gf_reduce_2 3 rfl rfl)
theorem dX4_gf_reduce_52 : decode cX4_gf_reduce 52 = .ok (.ixor, 1) := dk_130 (dk_at dksX4_gf_reduce_2 4 rfl rfl)
theorem dX4_gf_reduce_53 : decode cX4_gf_reduce 53 = .ok (.istore 7, 2) := dk_54 7 (dk_at dksX4_gf_reduce_2 5 rfl rfl)
theorem dX4_gf_reduce_55 : decode cX4_gf_reduce 55 = .ok (.iload_n 2, 1) := dk_28 (dk_at dksX4_gf_reduce_2 7 rfl rfl)
theorem dX4_gf_reduce_56 : decode cX4_gf_reduce 56 = .ok (.iload_n 3, 1) := dk_29 (dk_at dksX4_gf_reduce_2 8 rfl rfl)
theorem dX4_gf_reduce_57 : decode cX4_gf_reduce 57 = .ok (.ixor, 1) := dk_130 (dk_at dksX4_gf_reduce_2 9 rfl rfl)
theorem dX4_gf_reduce_58 : decode cX4_gf_reduce 58 = .ok (.iload 5, 2) := dk_21 5 (dk_at dksX4_gf_reduce_2 10 rfl rfl)
theorem dX4_gf_reduce_60 : decode cX4_gf_reduce 60 = .ok (.ixor, 1) := dk_130 (dk_at dksX4_gf_reduce_2 12 rfl rfl)
theorem dX4_gf_reduce_61 : decode cX4_gf_reduce 61 = .ok (.iload 6, 2) := dk_21 6 (dk_at dksX4_gf_reduce_2 13 rfl rfl)
theorem dX4_gf_reduce_63 : decode cX4_gf_reduce 63 = .ok (.ixor, 1) := dk_130 (dk_at dksX4_gf_reduce_2 15 rfl rfl)
theorem dX4_gf_reduce_64 : decode cX4_gf_reduce 64 = .ok (.iload 7, 2) := dk_21 7 (dk_at dksX4_gf_reduce_2 16 rfl rfl)
theorem dX4_gf_reduce_66 : decode cX4_gf_reduce 66 = .ok (.ixor, 1) := dk_130 (dk_at dksX4_gf_reduce_2 18 rfl rfl)
theorem dX4_gf_reduce_67 : decode cX4_gf_reduce 67 = .ok (.i2s, 1) := dk_147 (dk_at dksX4_gf_reduce_2 19 rfl rfl)
theorem dX4_gf_reduce_68 : decode cX4_gf_reduce 68 = .ok (.ireturn, 1) := dk_172 (dk_at dksX4_gf_reduce_2 20 rfl rfl)
abbrev cX4_gf_sq : ByteArray := prog_3_method_7_code
def yX4_gf_sq : MethodName := ⟨RX4, "gf_sq", "(S)S"⟩
def dkwX4_gf_sq_0 : List UInt8 := [27, 184, 0, 27, 61, 42, 28, 182, 0, 23, 172]
abbrev dktX4_gf_sq_0 : List UInt8 := dkwX4_gf_sq_0 ++ []
theorem dksX4_gf_sq_0 : cX4_gf_sq.data.toList.drop 0 = dktX4_gf_sq_0 := by decide +kernel
theorem dX4_gf_sq_0 : decode cX4_gf_sq 0 = .ok (.iload_n 1, 1) := dk_27 (dk_at dksX4_gf_sq_0 0 rfl rfl)
theorem dX4_gf_sq_1 : decode cX4_gf_sq 1 = .ok (.invokestatic 27, 3) := dk_184 0 27 (dk_at dksX4_gf_sq_0 1 rfl rfl)
theorem dX4_gf_sq_4 : decode cX4_gf_sq 4 = .ok (.istore_n 2, 1) := dk_61 (dk_at dksX4_gf_sq_0 4 rfl rfl)
theorem dX4_gf_sq_5 : decode cX4_gf_sq 5 = .ok (.aload_n 0, 1) := dk_42 (dk_at dksX4_gf_sq_0 5 rfl rfl)
theorem dX4_gf_sq_6 : decode cX4_gf_sq 6 = .ok (.iload_n 2, 1) := dk_28 (dk_at dksX4_gf_sq_0 6 rfl rfl)
theorem dX4_gf_sq_7 : decode cX4_gf_sq 7 = .ok (.invokevirtual 23, 3) := dk_182 0 23 (dk_at dksX4_gf_sq_0 7 rfl rfl)
theorem dX4_gf_sq_10 : decode cX4_gf_sq 10 = .ok (.ireturn, 1) := dk_172 (dk_at dksX4_gf_sq_0 10 rfl rfl)
abbrev cX4_gf_inv : ByteArray := prog_3_method_3_code
def yX4_gf_inv : MethodName := ⟨RX4, "gf_inv", "(S)S"⟩
def dkwX4_gf_inv_0 : List UInt8 := [42, 27, 4, 182, 0, 20, 172]
abbrev dktX4_gf_inv_0 : List UInt8 := dkwX4_gf_inv_0 ++ []
theorem dksX4_gf_inv_0 : cX4_gf_inv.data.toList.drop 0 = dktX4_gf_inv_0 := by decide +kernel
theorem dX4_gf_inv_0 : decode cX4_gf_inv 0 = .ok (.aload_n 0, 1) := dk_42 (dk_at dksX4_gf_inv_0 0 rfl rfl)
theorem dX4_gf_inv_1 : decode cX4_gf_inv 1 = .ok (.iload_n 1, 1) := dk_27 (dk_at dksX4_gf_inv_0 1 rfl rfl)
theorem dX4_gf_inv_2 : decode cX4_gf_inv 2 = .ok (.iconst 1, 1) := dk_4 (dk_at dksX4_gf_inv_0 2 rfl rfl)
theorem dX4_gf_inv_3 : decode cX4_gf_inv 3 = .ok (.invokevirtual 20, 3) := dk_182 0 20 (dk_at dksX4_gf_inv_0 3 rfl rfl)
theorem dX4_gf_inv_6 : decode cX4_gf_inv 6 = .ok (.ireturn, 1) := dk_172 (dk_at dksX4_gf_inv_0 6 rfl rfl)
abbrev cX4_gf_frac : ByteArray := prog_3_method_2_code
def yX4_gf_frac : MethodName := ⟨RX4, "gf_frac", "(SS)S"⟩
def dkwX4_gf_frac_2 : List UInt8 := [182, 0, 13, 54, 5, 42, 21, 5, 28, 182, 0, 7, 172]
abbrev dktX4_gf_frac_2 : List UInt8 := dkwX4_gf_frac_2 ++ []
def dkwX4_gf_frac_1 : List UInt8 := [21, 5, 21, 4, 182, 0, 13, 54, 5, 42, 21, 5, 182, 0, 16, 54, 5, 42, 21, 5, 21, 4]
abbrev dktX4_gf_frac_1 : List UInt8 := dkwX4_gf_frac_1 ++ dktX4_gf_frac_2
def dkwX4_gf_frac_0 : List UInt8 := [42, 27, 27, 182, 0, 7, 62, 42, 29, 29, 182, 0, 13, 54, 4, 42, 21, 4, 182, 0, 16, 54, 5, 42]
abbrev dktX4_gf_frac_0 : List UInt8 := dkwX4_gf_frac_0 ++ dktX4_gf_frac_1
theorem dksX4_gf_frac_0 : cX4_gf_frac.data.toList.drop 0 = dktX4_gf_frac_0 := by decide +kernel
theorem dksX4_gf_frac_1 : cX4_gf_frac.data.toList.drop 24 = dktX4_gf_frac_1 := dk_seg dksX4_gf_frac_0 24 rfl rfl
theorem dksX4_gf_frac_2 : cX4_gf_frac.data.toList.drop 46 = dktX4_gf_frac_2 := dk_seg dksX4_gf_frac_1 22 rfl rfl
theorem dX4_gf_frac_0 : decode cX4_gf_frac 0 = .ok (.aload_n 0, 1) := dk_42 (dk_at dksX4_gf_frac_0 0 rfl rfl)
theorem dX4_gf_frac_1 : decode cX4_gf_frac 1 = .ok (.iload_n 1, 1) := dk_27 (dk_at dksX4_gf_frac_0 1 rfl rfl)
theorem dX4_gf_frac_2 : decode cX4_gf_frac 2 = .ok (.iload_n 1, 1) := dk_27 (dk_at dksX4_gf_frac_0 2 rfl rfl)
theorem dX4_gf_frac_3 : decode cX4_gf_frac 3 = .ok (.invokevirtual 7, 3) := dk_182 0 7 (dk_at dksX4_gf_frac_0 3 rfl rfl)
theorem dX4_gf_frac_6 : decode cX4_gf_frac 6 = .ok (.istore_n 3, 1) := dk_62 (dk_at dksX4_gf_frac_0 6 rfl rfl)
theorem dX4_gf_frac_7 : decode cX4_gf_frac 7 = .ok (.aload_n 0, 1) := dk_42 (dk_at dksX4_gf_frac_0 7 rfl rfl)
theorem dX4_gf_frac_8 : decode cX4_gf_frac 8 = .ok (.iload_n 3, 1) := dk_29 (dk_at dksX4_gf_frac_0 8 rfl rfl)
theorem dX4_gf_frac_9 : decode cX4_gf_frac 9 = .ok (.iload_n 3, 1) := dk_29 (dk_at dksX4_gf_frac_0 9 rfl rfl)
theorem dX4_gf_frac_10 : decode cX4_gf_frac 10 = .ok (.invokevirtual 13, 3) := dk_182 0 13 (dk_at dksX4_gf_frac_0 10 rfl rfl)
theorem dX4_gf_frac_13 : decode cX4_gf_frac 13 = .ok (.istore 4, 2) := dk_54 4 (dk_at dksX4_gf_frac_0 13 rfl rfl)
theorem dX4_gf_frac_15 : decode cX4_gf_frac 15 = .ok (.aload_n 0, 1) := dk_42 (dk_at dksX4_gf_frac_0 15 rfl rfl)
theorem dX4_gf_frac_16 : decode cX4_gf_frac 16 = .ok (.iload 4, 2) := dk_21 4 (dk_at dksX4_gf_frac_0 16 rfl rfl)
theorem dX4_gf_frac_18 : decode cX4_gf_frac 18 = .ok (.invokevirtual 16, 3) := dk_182 0 16 (dk_at dksX4_gf_frac_0 18 rfl rfl)
theorem dX4_gf_frac_21 : decode cX4_gf_frac 21 = .ok (.istore 5, 2) := dk_54 5 (dk_at dksX4_gf_frac_0 21 rfl rfl)
theorem dX4_gf_frac_23 : decode cX4_gf_frac 23 = .ok (.aload_n 0, 1) := dk_42 (dk_at dksX4_gf_frac_0 23 rfl rfl)
theorem dX4_gf_frac_24 : decode cX4_gf_frac 24 = .ok (.iload 5, 2) := dk_21 5 (dk_at dksX4_gf_frac_1 0 rfl rfl)
theorem dX4_gf_frac_26 : decode cX4_gf_frac 26 = .ok (.iload 4, 2) := dk_21 4 (dk_at dksX4_gf_frac_1 2 rfl rfl)
theorem dX4_gf_frac_28 : decode cX4_gf_frac 28 = .ok (.invokevirtual 13, 3) := dk_182 0 13 (dk_at dksX4_gf_frac_1 4 rfl rfl)
theorem dX4_gf_frac_31 : decode cX4_gf_frac 31 = .ok (.istore 5, 2) := dk_54 5 (dk_at dksX4_gf_frac_1 7 rfl rfl)
theorem dX4_gf_frac_33 : decode cX4_gf_frac 33 = .ok (.aload_n 0, 1) := dk_42 (dk_at dksX4_gf_frac_1 9 rfl rfl)
theorem dX4_gf_frac_34 : decode cX4_gf_frac 34 = .ok (.iload 5, 2) := dk_21 5 (dk_at dksX4_gf_frac_1 10 rfl rfl)
theorem dX4_gf_frac_36 : decode cX4_gf_frac 36 = .ok (.invokevirtual 16, 3) := dk_182 0 16 (dk_at dksX4_gf_frac_1 12 rfl rfl)
theorem dX4_gf_frac_39 : decode cX4_gf_frac 39 = .ok (.istore 5, 2) := dk_54 5 (dk_at dksX4_gf_frac_1 15 rfl rfl)
theorem dX4_gf_frac_41 : decode cX4_gf_frac 41 = .ok (.aload_n 0, 1) := dk_42 (dk_at dksX4_gf_frac_1 17 rfl rfl)
theorem dX4_gf_frac_42 : decode cX4_gf_frac 42 = .ok (.iload 5, 2) := dk_21 5 (dk_at dksX4_gf_frac_1 18 rfl rfl)
theorem dX4_gf_frac_44 : decode cX4_gf_frac 44 = .ok (.iload 4, 2) := dk_21 4 (dk_at dksX4_gf_frac_1 20 rfl rfl)
theorem dX4_gf_frac_46 : decode cX4_gf_frac 46 = .ok (.invokevirtual 13, 3) := dk_182 0 13 (dk_at dksX4_gf_frac_2 0 rfl rfl)
theorem dX4_gf_frac_49 : decode cX4_gf_frac 49 = .ok (.istore 5, 2) := dk_54 5 (dk_at dksX4_gf_frac_2 3 rfl rfl)
theorem dX4_gf_frac_51 : decode cX4_gf_frac 51 = .ok (.aload_n 0, 1) := dk_42 (dk_at dksX4_gf_frac_2 5 rfl rfl)
theorem dX4_gf_frac_52 : decode cX4_gf_frac 52 = .ok (.iload 5, 2) := dk_21 5 (dk_at dksX4_gf_frac_2 6 rfl rfl)
theorem dX4_gf_frac_54 : decode cX4_gf_frac 54 = .ok (.iload_n 2, 1) := dk_28 (dk_at dksX4_gf_frac_2 8 rfl rfl)
theorem dX4_gf_frac_55 : decode cX4_gf_frac 55 = .ok (.invokevirtual 7, 3) := dk_182 0 7 (dk_at dksX4_gf_frac_2 9 rfl rfl)
theorem dX4_gf_frac_58 : decode cX4_gf_frac 58 = .ok (.ireturn, 1) := dk_172 (dk_at dksX4_gf_frac_2 12 rfl rfl)
abbrev cX4_gf_sqmul : ByteArray := prog_3_method_10_code
def yX4_gf_sqmul : MethodName := ⟨RX4, "gf_sqmul", "(SS)S"⟩
def dkwX4_gf_sqmul_6 : List UInt8 := [16, 24, 125, 131, 22, 9, 16, 26, 125, 131, 131, 55, 7, 42, 22, 7, 136, 18, 49, 126, 182, 0, 23, 172]
abbrev dktX4_gf_sqmul_6 : List UInt8 := dkwX4_gf_sqmul_6 ++ []
def dkwX4_gf_sqmul_5 : List UInt8 := [22, 7, 20, 0, 47, 127, 55, 9, 22, 7, 22, 9, 16, 18, 125, 22, 9, 16, 20, 125, 131, 22, 9]
abbrev dktX4_gf_sqmul_5 : List UInt8 := dkwX4_gf_sqmul_5 ++ dktX4_gf_sqmul_6
def dkwX4_gf_sqmul_4 : List UInt8 := [20, 0, 43, 127, 105, 131, 55, 7, 22, 7, 22, 5, 8, 121, 33, 20, 0, 45, 127, 105, 131, 55, 7]
abbrev dktX4_gf_sqmul_4 : List UInt8 := dkwX4_gf_sqmul_4 ++ dktX4_gf_sqmul_5
def dkwX4_gf_sqmul_3 : List UInt8 := [22, 7, 22, 5, 6, 121, 33, 20, 0, 41, 127, 105, 131, 55, 7, 22, 7, 22, 5, 7, 121, 33]
abbrev dktX4_gf_sqmul_3 : List UInt8 := dkwX4_gf_sqmul_3 ++ dktX4_gf_sqmul_4
def dkwX4_gf_sqmul_2 : List UInt8 := [33, 20, 0, 37, 127, 105, 131, 55, 7, 22, 7, 22, 5, 5, 121, 33, 20, 0, 39, 127, 105, 131, 55, 7]
abbrev dktX4_gf_sqmul_2 : List UInt8 := dkwX4_gf_sqmul_2 ++ dktX4_gf_sqmul_3
def dkwX4_gf_sqmul_1 : List UInt8 := [121, 131, 66, 22, 7, 22, 5, 3, 121, 33, 20, 0, 35, 127, 105, 131, 55, 7, 22, 7, 22, 5, 4, 121]
abbrev dktX4_gf_sqmul_1 : List UInt8 := dkwX4_gf_sqmul_1 ++ dktX4_gf_sqmul_2
def dkwX4_gf_sqmul_0 : List UInt8 := [27, 133, 66, 28, 133, 55, 5, 22, 5, 16, 6, 121, 33, 20, 0, 33, 127, 105, 55, 7, 33, 33, 16, 7]
abbrev dktX4_gf_sqmul_0 : List UInt8 := dkwX4_gf_sqmul_0 ++ dktX4_gf_sqmul_1
theorem dksX4_gf_sqmul_0 : cX4_gf_sqmul.data.toList.drop 0 = dktX4_gf_sqmul_0 := by decide +kernel
theorem dksX4_gf_sqmul_1 : cX4_gf_sqmul.data.toList.drop 24 = dktX4_gf_sqmul_1 := dk_seg dksX4_gf_sqmul_0 24 rfl rfl
theorem dksX4_gf_sqmul_2 : cX4_gf_sqmul.data.toList.drop 48 = dktX4_gf_sqmul_2 := dk_seg dksX4_gf_sqmul_1 24 rfl rfl
theorem dksX4_gf_sqmul_3 : cX4_gf_sqmul.data.toList.drop 72 = dktX4_gf_sqmul_3 := dk_seg dksX4_gf_sqmul_2 24 rfl rfl
theorem dksX4_gf_sqmul_4 : cX4_gf_sqmul.data.toList.drop 94 = dktX4_gf_sqmul_4 := dk_seg dksX4_gf_sqmul_3 22 rfl rfl
theorem dksX4_gf_sqmul_5 : cX4_gf_sqmul.data.toList.drop 117 = dktX4_gf_sqmul_5 := dk_seg dksX4_gf_sqmul_4 23 rfl rfl
theorem dksX4_gf_sqmul_6 : cX4_gf_sqmul.data.toList.drop 140 = dktX4_gf_sqmul_6 := dk_seg dksX4_gf_sqmul_5 23 rfl rfl
theorem dX4_gf_sqmul_0 : decode cX4_gf_sqmul 0 = .ok (.iload_n 1, 1) := dk_27 (dk_at dksX4_gf_sqmul_0 0 rfl rfl)
theorem dX4_gf_sqmul_1 : decode cX4_gf_sqmul 1 = .ok (.i2l, 1) := dk_133 (dk_at dksX4_gf_sqmul_0 1 rfl rfl)
theorem dX4_gf_sqmul_2 : decode cX4_gf_sqmul 2 = .ok (.lstore_n 3, 1) := dk_66 (dk_at dksX4_gf_sqmul_0 2 rfl rfl)
theorem dX4_gf_sqmul_3 : decode cX4_gf_sqmul 3 = .ok (.iload_n 2, 1) := dk_28 (dk_at dksX4_gf_sqmul_0 3 rfl rfl)
theorem dX4_gf_sqmul_4 : decode cX4_gf_sqmul 4 = .ok (.i2l, 1) := dk_133 (dk_at dksX4_gf_sqmul_0 4 rfl rfl)
theorem dX4_gf_sqmul_5 : decode cX4_gf_sqmul 5 = .ok (.lstore 5, 2) := dk_55 5 (dk_at dksX4_gf_sqmul_0 5 rfl rfl)
theorem dX4_gf_sqmul_7 : decode cX4_gf_sqmul 7 = .ok (.lload 5, 2) := dk_22 5 (dk_at dksX4_gf_sqmul_0 7 rfl rfl)
theorem dX4_gf_sqmul_9 : decode cX4_gf_sqmul 9 = .ok (.bipush 6, 2) := dk_16 6 (dk_at dksX4_gf_sqmul_0 9 rfl rfl)
theorem dX4_gf_sqmul_11 : decode cX4_gf_sqmul 11 = .ok (.lshl, 1) := dk_121 (dk_at dksX4_gf_sqmul_0 11 rfl rfl)
theorem dX4_gf_sqmul_12 : decode cX4_gf_sqmul 12 = .ok (.lload_n 3, 1) := dk_33 (dk_at dksX4_gf_sqmul_0 12 rfl rfl)
theorem dX4_gf_sqmul_13 : decode cX4_gf_sqmul 13 = .ok (.ldc2_w 33, 3) := dk_20 0 33 (dk_at dksX4_gf_sqmul_0 13 rfl rfl)
theorem dX4_gf_sqmul_16 : decode cX4_gf_sqmul 16 = .ok (.land, 1) := dk_127 (dk_at dksX4_gf_sqmul_0 16 rfl rfl)
theorem dX4_gf_sqmul_17 : decode cX4_gf_sqmul 17 = .ok (.lmul, 1) := dk_105 (dk_at dksX4_gf_sqmul_0 17 rfl rfl)
theorem dX4_gf_sqmul_18 : decode cX4_gf_sqmul 18 = .ok (.lstore 7, 2) := dk_55 7 (dk_at dksX4_gf_sqmul_0 18 rfl rfl)
theorem dX4_gf_sqmul_20 : decode cX4_gf_sqmul 20 = .ok (.lload_n 3, 1) := dk_33 (dk_at dksX4_gf_sqmul_0 20 rfl rfl)
theorem dX4_gf_sqmul_21 : decode cX4_gf_sqmul 21 = .ok (.lload_n 3, 1) := dk_33 (dk_at dksX4_gf_sqmul_0 21 rfl rfl)
theorem dX4_gf_sqmul_22 : decode cX4_gf_sqmul 22 = .ok (.bipush 7, 2) := dk_16 7 (dk_at dksX4_gf_sqmul_0 22 rfl rfl)
theorem dX4_gf_sqmul_24 : decode cX4_gf_sqmul 24 = .ok (.lshl, 1) := dk_121 (dk_at dksX4_gf_sqmul_1 0 rfl rfl)
theorem dX4_gf_sqmul_25 : decode cX4_gf_sqmul 25 = .ok (.lxor, 1) := dk_131 (dk_at dksX4_gf_sqmul_1 1 rfl rfl)
theorem dX4_gf_sqmul_26 : decode cX4_gf_sqmul 26 = .ok (.lstore_n 3, 1) := dk_66 (dk_at dksX4_gf_sqmul_1 2 rfl rfl)
theorem dX4_gf_sqmul_27 : decode cX4_gf_sqmul 27 = .ok (.lload 7, 2) := dk_22 7 (dk_at dksX4_gf_sqmul_1 3 rfl rfl)
theorem dX4_gf_sqmul_29 : decode cX4_gf_sqmul 29 = .ok (.lload 5, 2) := dk_22 5 (dk_at dksX4_gf_sqmul_1 5 rfl rfl)
theorem dX4_gf_sqmul_31 : decode cX4_gf_sqmul 31 = .ok (.iconst 0, 1) := dk_3 (dk_at dksX4_gf_sqmul_1 7 rfl rfl)
theorem dX4_gf_sqmul_32 : decode cX4_gf_sqmul 32 = .ok (.lshl, 1) := dk_121 (dk_at dksX4_gf_sqmul_1 8 rfl rfl)
theorem dX4_gf_sqmul_33 : decode cX4_gf_sqmul 33 = .ok (.lload_n 3, 1) := dk_33 (dk_at dksX4_gf_sqmul_1 9 rfl rfl)
theorem dX4_gf_sqmul_34 : decode cX4_gf_sqmul 34 = .ok (.ldc2_w 35, 3) := dk_20 0 35 (dk_at dksX4_gf_sqmul_1 10 rfl rfl)
theorem dX4_gf_sqmul_37 : decode cX4_gf_sqmul 37 = .ok (.land, 1) := dk_127 (dk_at dksX4_gf_sqmul_1 13 rfl rfl)
theorem dX4_gf_sqmul_38 : decode cX4_gf_sqmul 38 = .ok (.lmul, 1) := dk_105 (dk_at dksX4_gf_sqmul_1 14 rfl rfl)
theorem dX4_gf_sqmul_39 : decode cX4_gf_sqmul 39 = .ok (.lxor, 1) := dk_131 (dk_at dksX4_gf_sqmul_1 15 rfl rfl)
theorem dX4_gf_sqmul_40 : decode cX4_gf_sqmul 40 = .ok (.lstore 7, 2) := dk_55 7 (dk_at dksX4_gf_sqmul_1 16 rfl rfl)
theorem dX4_gf_sqmul_42 : decode cX4_gf_sqmul 42 = .ok (.lload 7, 2) := dk_22 7 (dk_at dksX4_gf_sqmul_1 18 rfl rfl)
theorem dX4_gf_sqmul_44 : decode cX4_gf_sqmul 44 = .ok (.lload 5, 2) := dk_22 5 (dk_at dksX4_gf_sqmul_1 20 rfl rfl)
theorem dX4_gf_sqmul_46 : decode cX4_gf_sqmul 46 = .ok (.iconst 1, 1) := dk_4 (dk_at dksX4_gf_sqmul_1 22 rfl rfl)
theorem dX4_gf_sqmul_47 : decode cX4_gf_sqmul 47 = .ok (.lshl, 1) := dk_121 (dk_at dksX4_gf_sqmul_1 23 rfl rfl)
theorem dX4_gf_sqmul_48 : decode cX4_gf_sqmul 48 = .ok (.lload_n 3, 1) := dk_33 (dk_at dksX4_gf_sqmul_2 0 rfl rfl)
theorem dX4_gf_sqmul_49 : decode cX4_gf_sqmul 49 = .ok (.ldc2_w 37, 3) := dk_20 0 37 (dk_at dksX4_gf_sqmul_2 1 rfl rfl)
theorem dX4_gf_sqmul_52 : decode cX4_gf_sqmul 52 = .ok (.land, 1) := dk_127 (dk_at dksX4_gf_sqmul_2 4 rfl rfl)
theorem dX4_gf_sqmul_53 : decode cX4_gf_sqmul 53 = .ok (.lmul, 1) := dk_105 (dk_at dksX4_gf_sqmul_2 5 rfl rfl)
theorem dX4_gf_sqmul_54 : decode cX4_gf_sqmul 54 = .ok (.lxor, 1) := dk_131 (dk_at dksX4_gf_sqmul_2 6 rfl rfl)
theorem dX4_gf_sqmul_55 : decode cX4_gf_sqmul 55 = .ok (.lstore 7, 2) := dk_55 7 (dk_at dksX4_gf_sqmul_2 7 rfl rfl)
theorem dX4_gf_sqmul_57 : decode cX4_gf_sqmul 57 = .ok (.lload 7, 2) := dk_22 7 (dk_at dksX4_gf_sqmul_2 9 rfl rfl)
theorem dX4_gf_sqmul_59 : decode cX4_gf_sqmul 59 = .ok (.lload 5, 2) := dk_22 5 (dk_at dksX4_gf_sqmul_2 11 rfl rfl)
theorem dX4_gf_sqmul_61 : decode cX4_gf_sqmul 61 = .ok (.iconst 2, 1) := dk_5 (dk_at dksX4_gf_sqmul_2 13 rfl rfl)
theorem dX4_gf_sqmul_62 : decode cX4_gf_sqmul 62 = .ok (.lshl, 1) := dk_121 (dk_at dksX4_gf_sqmul_2 14 rfl rfl)
theorem dX4_gf_sqmul_63 : decode cX4_gf_sqmul 63 = .ok (.lload_n 3, 1) := dk_33 (dk_at dksX4_gf_sqmul_2 15 rfl rfl)
theorem dX4_gf_sqmul_64 : decode cX4_gf_sqmul 64 = .ok (.ldc2_w 39, 3) := dk_20 0 39 (dk_at dksX4_gf_sqmul_2 16 rfl rfl)
theorem dX4_gf_sqmul_67 : decode cX4_gf_sqmul 67 = .ok (.land, 1) := dk_127 (dk_at dksX4_gf_sqmul_2 19 rfl rfl)
theorem dX4_gf_sqmul_68 : decode cX4_gf_sqmul 68 = .ok (.lmul, 1) := dk_105 (dk_at dksX4_gf_sqmul_2 20 rfl rfl)
theorem dX4_gf_sqmul_69 : decode cX4_gf_sqmul 69 = .ok (.lxor, 1) := dk_131 (dk_at dksX4_gf_sqmul_2 21 rfl rfl)
theorem dX4_gf_sqmul_70 : decode cX4_gf_sqmul 70 = .ok (.lstore 7, 2) := dk_55 7 (dk_at dksX4_gf_sqmul_2 22 rfl rfl)
theorem dX4_gf_sqmul_72 : decode cX4_gf_sqmul 72 = .ok (.lload 7, 2) := dk_22 7 (dk_at dksX4_gf_sqmul_3 0 rfl rfl)
theorem dX4_gf_sqmul_74 : decode cX4_gf_sqmul 74 = .ok (.lload 5, 2) := dk_22 5 (dk_at dksX4_gf_sqmul_3 2 rfl rfl)
theorem dX4_gf_sqmul_76 : decode cX4_gf_sqmul 76 = .ok (.iconst 3, 1) := dk_6 (dk_at dksX4_gf_sqmul_3 4 rfl rfl)
theorem dX4_gf_sqmul_77 : decode cX4_gf_sqmul 77 = .ok (.lshl, 1) := dk_121 (dk_at dksX4_gf_sqmul_3 5 rfl rfl)
theorem dX4_gf_sqmul_78 : decode cX4_gf_sqmul 78 = .ok (.lload_n 3, 1) := dk_33 (dk_at dksX4_gf_sqmul_3 6 rfl rfl)
theorem dX4_gf_sqmul_79 : decode cX4_gf_sqmul 79 = .ok (.ldc2_w 41, 3) := dk_20 0 41 (dk_at dksX4_gf_sqmul_3 7 rfl rfl)
theorem dX4_gf_sqmul_82 : decode cX4_gf_sqmul 82 = .ok (.land, 1) := dk_127 (dk_at dksX4_gf_sqmul_3 10 rfl rfl)
theorem dX4_gf_sqmul_83 : decode cX4_gf_sqmul 83 = .ok (.lmul, 1) := dk_105 (dk_at dksX4_gf_sqmul_3 11 rfl rfl)
theorem dX4_gf_sqmul_84 : decode cX4_gf_sqmul 84 = .ok (.lxor, 1) := dk_131 (dk_at dksX4_gf_sqmul_3 12 rfl rfl)
theorem dX4_gf_sqmul_85 : decode cX4_gf_sqmul 85 = .ok (.lstore 7, 2) := dk_55 7 (dk_at dksX4_gf_sqmul_3 13 rfl rfl)
theorem dX4_gf_sqmul_87 : decode cX4_gf_sqmul 87 = .ok (.lload 7, 2) := dk_22 7 (dk_at dksX4_gf_sqmul_3 15 rfl rfl)
theorem dX4_gf_sqmul_89 : decode cX4_gf_sqmul 89 = .ok (.lload 5, 2) := dk_22 5 (dk_at dksX4_gf_sqmul_3 17 rfl rfl)
theorem dX4_gf_sqmul_91 : decode cX4_gf_sqmul 91 = .ok (.iconst 4, 1) := dk_7 (dk_at dksX4_gf_sqmul_3 19 rfl rfl)
theorem dX4_gf_sqmul_92 : decode cX4_gf_sqmul 92 = .ok (.lshl, 1) := dk_121 (dk_at dksX4_gf_sqmul_3 20 rfl rfl)
theorem dX4_gf_sqmul_93 : decode cX4_gf_sqmul 93 = .ok (.lload_n 3, 1) := dk_33 (dk_at dksX4_gf_sqmul_3 21 rfl rfl)
theorem dX4_gf_sqmul_94 : decode cX4_gf_sqmul 94 = .ok (.ldc2_w 43, 3) := dk_20 0 43 (dk_at dksX4_gf_sqmul_4 0 rfl rfl)
theorem dX4_gf_sqmul_97 : decode cX4_gf_sqmul 97 = .ok (.land, 1) := dk_127 (dk_at dksX4_gf_sqmul_4 3 rfl rfl)
theorem dX4_gf_sqmul_98 : decode cX4_gf_sqmul 98 = .ok (.lmul, 1) := dk_105 (dk_at dksX4_gf_sqmul_4 4 rfl rfl)
theorem dX4_gf_sqmul_99 : decode cX4_gf_sqmul 99 = .ok (.lxor, 1) := dk_131 (dk_at dksX4_gf_sqmul_4 5 rfl rfl)
theorem dX4_gf_sqmul_100 : decode cX4_gf_sqmul 100 = .ok (.lstore 7, 2) := dk_55 7 (dk_at dksX4_gf_sqmul_4 6 rfl rfl)
theorem dX4_gf_sqmul_102 : decode cX4_gf_sqmul 102 = .ok (.lload 7, 2) := dk_22 7 (dk_at dksX4_gf_sqmul_4 8 rfl rfl)
theorem dX4_gf_sqmul_104 : decode cX4_gf_sqmul 104 = .ok (.lload 5, 2) := dk_22 5 (dk_at dksX4_gf_sqmul_4 10 rfl rfl)
theorem dX4_gf_sqmul_106 : decode cX4_gf_sqmul 106 = .ok (.iconst 5, 1) := dk_8 (dk_at dksX4_gf_sqmul_4 12 rfl rfl)
theorem dX4_gf_sqmul_107 : decode cX4_gf_sqmul 107 = .ok (.lshl, 1) := dk_121 (dk_at dksX4_gf_sqmul_4 13 rfl rfl)
theorem dX4_gf_sqmul_108 : decode cX4_gf_sqmul 108 = .ok (.lload_n 3, 1) := dk_33 (dk_at dksX4_gf_sqmul_4 14 rfl rfl)
theorem dX4_gf_sqmul_109 : decode cX4_gf_sqmul 109 = .ok (.ldc2_w 45, 3) := dk_20 0 45 (dk_at dksX4_gf_sqmul_4 15 rfl rfl)
theorem dX4_gf_sqmul_112 : decode cX4_gf_sqmul 112 = .ok (.land, 1) := dk_127 (dk_at dksX4_gf_sqmul_4 18 rfl rfl)
theorem dX4_gf_sqmul_113 : decode cX4_gf_sqmul 113 = .ok (.lmul, 1) := dk_105 (dk_at dksX4_gf_sqmul_4 19 rfl rfl)
theorem dX4_gf_sqmul_114 : decode cX4_gf_sqmul 114 = .ok (.lxor, 1) := dk_131 (dk_at dksX4_gf_sqmul_4 20 rfl rfl)
theorem dX4_gf_sqmul_115 : decode cX4_gf_sqmul 115 = .ok (.lstore 7, 2) := dk_55 7 (dk_at dksX4_gf_sqmul_4 21 rfl rfl)
theorem dX4_gf_sqmul_117 : decode cX4_gf_sqmul 117 = .ok (.lload 7, 2) := dk_22 7 (dk_at dksX4_gf_sqmul_5 0 rfl rfl)
theorem dX4_gf_sqmul_119 : decode cX4_gf_sqmul 119 = .ok (.ldc2_w 47, 3) := dk_20 0 47 (dk_at dksX4_gf_sqmul_5 2 rfl rfl)
theorem dX4_gf_sqmul_122 : decode cX4_gf_sqmul 122 = .ok (.land, 1) := dk_127 (dk_at dksX4_gf_sqmul_5 5 rfl rfl)
theorem dX4_gf_sqmul_123 : decode cX4_gf_sqmul 123 = .ok (.lstore 9, 2) := dk_55 9 (dk_at dksX4_gf_sqmul_5 6 rfl rfl)
theorem dX4_gf_sqmul_125 : decode cX4_gf_sqmul 125 = .ok (.lload 7, 2) := dk_22 7 (dk_at dksX4_gf_sqmul_5 8 rfl rfl)
theorem dX4_gf_sqmul_127 : decode cX4_gf_sqmul 127 = .ok (.lload 9, 2) := dk_22 9 (dk_at dksX4_gf_sqmul_5 10 rfl rfl)
theorem dX4_gf_sqmul_129 : decode cX4_gf_sqmul 129 = .ok (.bipush 18, 2) := dk_16 18 (dk_at dksX4_gf_sqmul_5 12 rfl rfl)
theorem dX4_gf_sqmul_131 : decode cX4_gf_sqmul 131 = .ok (.lushr, 1) := dk_125 (dk_at dksX4_gf_sqmul_5 14 rfl rfl)
theorem dX4_gf_sqmul_132 : decode cX4_gf_sqmul 132 = .ok (.lload 9, 2) := dk_22 9 (dk_at dksX4_gf_sqmul_5 15 rfl rfl)
theorem dX4_gf_sqmul_134 : decode cX4_gf_sqmul 134 = .ok (.bipush 20, 2) := dk_16 20 (dk_at dksX4_gf_sqmul_5 17 rfl rfl)
theorem dX4_gf_sqmul_136 : decode cX4_gf_sqmul 136 = .ok (.lushr, 1) := dk_125 (dk_at dksX4_gf_sqmul_5 19 rfl rfl)
theorem dX4_gf_sqmul_137 : decode cX4_gf_sqmul 137 = .ok (.lxor, 1) := dk_131 (dk_at dksX4_gf_sqmul_5 20 rfl rfl)
theorem dX4_gf_sqmul_138 : decode cX4_gf_sqmul 138 = .ok (.lload 9, 2) := dk_22 9 (dk_at dksX4_gf_sqmul_5 21 rfl rfl)
theorem dX4_gf_sqmul_140 : decode cX4_gf_sqmul 140 = .ok (.bipush 24, 2) := dk_16 24 (dk_at dksX4_gf_sqmul_6 0 rfl rfl)
theorem dX4_gf_sqmul_142 : decode cX4_gf_sqmul 142 = .ok (.lushr, 1) := dk_125 (dk_at dksX4_gf_sqmul_6 2 rfl rfl)
theorem dX4_gf_sqmul_143 : decode cX4_gf_sqmul 143 = .ok (.lxor, 1) := dk_131 (dk_at dksX4_gf_sqmul_6 3 rfl rfl)
theorem dX4_gf_sqmul_144 : decode cX4_gf_sqmul 144 = .ok (.lload 9, 2) := dk_22 9 (dk_at dksX4_gf_sqmul_6 4 rfl rfl)
theorem dX4_gf_sqmul_146 : decode cX4_gf_sqmul 146 = .ok (.bipush 26, 2) := dk_16 26 (dk_at dksX4_gf_sqmul_6 6 rfl rfl)
theorem dX4_gf_sqmul_148 : decode cX4_gf_sqmul 148 = .ok (.lushr, 1) := dk_125 (dk_at dksX4_gf_sqmul_6 8 rfl rfl)
theorem dX4_gf_sqmul_149 : decode cX4_gf_sqmul 149 = .ok (.lxor, 1) := dk_131 (dk_at dksX4_gf_sqmul_6 9 rfl rfl)
theorem dX4_gf_sqmul_150 : decode cX4_gf_sqmul 150 = .ok (.lxor, 1) := dk_131 (dk_at dksX4_gf_sqmul_6 10 rfl rfl)
theorem dX4_gf_sqmul_151 : decode cX4_gf_sqmul 151 = .ok (.lstore 7, 2) := dk_55 7 (dk_at dksX4_gf_sqmul_6 11 rfl rfl)
theorem dX4_gf_sqmul_153 : decode cX4_gf_sqmul 153 = .ok (.aload_n 0, 1) := dk_42 (dk_at dksX4_gf_sqmul_6 13 rfl rfl)
theorem dX4_gf_sqmul_154 : decode cX4_gf_sqmul 154 = .ok (.lload 7, 2) := dk_22 7 (dk_at dksX4_gf_sqmul_6 14 rfl rfl)
theorem dX4_gf_sqmul_156 : decode cX4_gf_sqmul 156 = .ok (.l2i, 1) := dk_136 (dk_at dksX4_gf_sqmul_6 16 rfl rfl)
theorem dX4_gf_sqmul_157 : decode cX4_gf_sqmul 157 = .ok (.ldc 49, 2) := dk_18 49 (dk_at dksX4_gf_sqmul_6 17 rfl rfl)
theorem dX4_gf_sqmul_159 : decode cX4_gf_sqmul 159 = .ok (.iand, 1) := dk_126 (dk_at dksX4_gf_sqmul_6 19 rfl rfl)
theorem dX4_gf_sqmul_160 : decode cX4_gf_sqmul 160 = .ok (.invokevirtual 23, 3) := dk_182 0 23 (dk_at dksX4_gf_sqmul_6 20 rfl rfl)
theorem dX4_gf_sqmul_163 : decode cX4_gf_sqmul 163 = .ok (.ireturn, 1) := dk_172 (dk_at dksX4_gf_sqmul_6 23 rfl rfl)
abbrev cX4_gf_sq2mul : ByteArray := prog_3_method_11_code
def yX4_gf_sq2mul : MethodName := ⟨RX4, "gf_sq2mul", "(SS)S"⟩
def dkwX4_gf_sq2mul_8 : List UInt8 := [131, 131, 55, 7, 42, 22, 7, 136, 18, 49, 126, 182, 0, 23, 172]
abbrev dktX4_gf_sq2mul_8 : List UInt8 := dkwX4_gf_sq2mul_8 ++ []
def dkwX4_gf_sq2mul_7 : List UInt8 := [22, 7, 22, 9, 16, 18, 125, 22, 9, 16, 20, 125, 131, 22, 9, 16, 24, 125, 131, 22, 9, 16, 26, 125]
abbrev dktX4_gf_sq2mul_7 : List UInt8 := dkwX4_gf_sq2mul_7 ++ dktX4_gf_sq2mul_8
def dkwX4_gf_sq2mul_6 : List UInt8 := [22, 9, 16, 24, 125, 131, 22, 9, 16, 26, 125, 131, 131, 55, 7, 22, 7, 20, 0, 64, 127, 55, 9]
abbrev dktX4_gf_sq2mul_6 : List UInt8 := dkwX4_gf_sq2mul_6 ++ dktX4_gf_sq2mul_7
def dkwX4_gf_sq2mul_5 : List UInt8 := [55, 7, 22, 7, 20, 0, 62, 127, 55, 9, 22, 7, 22, 9, 16, 18, 125, 22, 9, 16, 20, 125, 131]
abbrev dktX4_gf_sq2mul_5 : List UInt8 := dkwX4_gf_sq2mul_5 ++ dktX4_gf_sq2mul_6
def dkwX4_gf_sq2mul_4 : List UInt8 := [121, 33, 20, 0, 58, 127, 105, 131, 55, 7, 22, 7, 22, 5, 16, 15, 121, 33, 20, 0, 60, 127, 105, 131]
abbrev dktX4_gf_sq2mul_4 : List UInt8 := dkwX4_gf_sq2mul_4 ++ dktX4_gf_sq2mul_5
def dkwX4_gf_sq2mul_3 : List UInt8 := [55, 7, 22, 7, 22, 5, 16, 9, 121, 33, 20, 0, 56, 127, 105, 131, 55, 7, 22, 7, 22, 5, 16, 12]
abbrev dktX4_gf_sq2mul_3 : List UInt8 := dkwX4_gf_sq2mul_3 ++ dktX4_gf_sq2mul_4
def dkwX4_gf_sq2mul_2 : List UInt8 := [33, 20, 0, 52, 127, 105, 131, 55, 7, 22, 7, 22, 5, 16, 6, 121, 33, 20, 0, 54, 127, 105, 131]
abbrev dktX4_gf_sq2mul_2 : List UInt8 := dkwX4_gf_sq2mul_2 ++ dktX4_gf_sq2mul_3
def dkwX4_gf_sq2mul_1 : List UInt8 := [121, 131, 66, 22, 7, 22, 5, 3, 121, 33, 20, 0, 50, 127, 105, 131, 55, 7, 22, 7, 22, 5, 6, 121]
abbrev dktX4_gf_sq2mul_1 : List UInt8 := dkwX4_gf_sq2mul_1 ++ dktX4_gf_sq2mul_2
def dkwX4_gf_sq2mul_0 : List UInt8 := [27, 133, 66, 28, 133, 55, 5, 22, 5, 16, 18, 121, 33, 20, 0, 33, 127, 105, 55, 7, 33, 33, 16, 21]
abbrev dktX4_gf_sq2mul_0 : List UInt8 := dkwX4_gf_sq2mul_0 ++ dktX4_gf_sq2mul_1
theorem dksX4_gf_sq2mul_0 : cX4_gf_sq2mul.data.toList.drop 0 = dktX4_gf_sq2mul_0 := by decide +kernel
theorem dksX4_gf_sq2mul_1 : cX4_gf_sq2mul.data.toList.drop 24 = dktX4_gf_sq2mul_1 := dk_seg dksX4_gf_sq2mul_0 24 rfl rfl
theorem dksX4_gf_sq2mul_2 : cX4_gf_sq2mul.data.toList.drop 48 = dktX4_gf_sq2mul_2 := dk_seg dksX4_gf_sq2mul_1 24 rfl rfl
theorem dksX4_gf_sq2mul_3 : cX4_gf_sq2mul.data.toList.drop 71 = dktX4_gf_sq2mul_3 := dk_seg dksX4_gf_sq2mul_2 23 rfl rfl
theorem dksX4_gf_sq2mul_4 : cX4_gf_sq2mul.data.toList.drop 95 = dktX4_gf_sq2mul_4 := dk_seg dksX4_gf_sq2mul_3 24 rfl rfl
theorem dksX4_gf_sq2mul_5 : cX4_gf_sq2mul.data.toList.drop 119 = dktX4_gf_sq2mul_5 := dk_seg dksX4_gf_sq2mul_4 24 rfl rfl
theorem dksX4_gf_sq2mul_6 : cX4_gf_sq2mul.data.toList.drop 142 = dktX4_gf_sq2mul_6 := dk_seg dksX4_gf_sq2mul_5 23 rfl rfl
theorem dksX4_gf_sq2mul_7 : cX4_gf_sq2mul.data.toList.drop 165 = dktX4_gf_sq2mul_7 := dk_seg dksX4_gf_sq2mul_6 23 rfl rfl
theorem dksX4_gf_sq2mul_8 : cX4_gf_sq2mul.data.toList.drop 189 = dktX4_gf_sq2mul_8 := dk_seg dksX4_gf_sq2mul_7 24 rfl rfl
theorem dX4_gf_sq2mul_0 : decode cX4_gf_sq2mul 0 = .ok (.iload_n 1, 1) := dk_27 (dk_at dksX4_gf_sq2mul_0 0 rfl rfl)
theorem dX4_gf_sq2mul_1 : decode cX4_gf_sq2mul 1 = .ok (.i2l, 1) := dk_133 (dk_at dksX4_gf_sq2mul_0 1 rfl rfl)
theorem dX4_gf_sq2mul_2 : decode cX4_gf_sq2mul 2 = .ok (.lstore_n 3, 1) := dk_66 (dk_at dksX4_gf_sq2mul_0 2 rfl rfl)
theorem dX4_gf_sq2mul_3 : decode cX4_gf_sq2mul 3 = .ok (.iload_n 2, 1) := dk_28 (dk_at dksX4_gf_sq2mul_0 3 rfl rfl)
theorem dX4_gf_sq2mul_4 : decode cX4_gf_sq2mul 4 = .ok (.i2l, 1) := dk_133 (dk_at dksX4_gf_sq2mul_0 4 rfl rfl)
theorem dX4_gf_sq2mul_5 : decode cX4_gf_sq2mul 5 = .ok (.lstore 5, 2) := dk_55 5 (dk_at dksX4_gf_sq2mul_0 5 rfl rfl)
theorem dX4_gf_sq2mul_7 : decode cX4_gf_sq2mul 7 = .ok (.lload 5, 2) := dk_22 5 (dk_at dksX4_gf_sq2mul_0 7 rfl rfl)
theorem dX4_gf_sq2mul_9 : decode cX4_gf_sq2mul 9 = .ok (.bipush 18, 2) := dk_16 18 (dk_at dksX4_gf_sq2mul_0 9 rfl rfl)
theorem dX4_gf_sq2mul_11 : decode cX4_gf_sq2mul 11 = .ok (.lshl, 1) := dk_121 (dk_at dksX4_gf_sq2mul_0 11 rfl rfl)
theorem dX4_gf_sq2mul_12 : decode cX4_gf_sq2mul 12 = .ok (.lload_n 3, 1) := dk_33 (dk_at dksX4_gf_sq2mul_0 12 rfl rfl)
theorem dX4_gf_sq2mul_13 : decode cX4_gf_sq2mul 13 = .ok (.ldc2_w 33, 3) := dk_20 0 33 (dk_at dksX4_gf_sq2mul_0 13 rfl rfl)
theorem dX4_gf_sq2mul_16 : decode cX4_gf_sq2mul 16 = .ok (.land, 1) := dk_127 (dk_at dksX4_gf_sq2mul_0 16 rfl rfl)
theorem dX4_gf_sq2mul_17 : decode cX4_gf_sq2mul 17 = .ok (.lmul, 1) := dk_105 (dk_at dksX4_gf_sq2mul_0 17 rfl rfl)
theorem dX4_gf_sq2mul_18 : decode cX4_gf_sq2mul 18 = .ok (.lstore 7, 2) := dk_55 7 (dk_at dksX4_gf_sq2mul_0 18 rfl rfl)
theorem dX4_gf_sq2mul_20 : decode cX4_gf_sq2mul 20 = .ok (.lload_n 3, 1) := dk_33 (dk_at dksX4_gf_sq2mul_0 20 rfl rfl)
theorem dX4_gf_sq2mul_21 : decode cX4_gf_sq2mul 21 = .ok (.lload_n 3, 1) := dk_33 (dk_at dksX4_gf_sq2mul_0 21 rfl rfl)
theorem dX4_gf_sq2mul_22 : decode cX4_gf_sq2mul 22 = .ok (.bipush 21, 2) := dk_16 21 (dk_at dksX4_gf_sq2mul_0 22 rfl rfl)
theorem dX4_gf_sq2mul_24 : decode cX4_gf_sq2mul 24 = .ok (.lshl, 1) := dk_121 (dk_at dksX4_gf_sq2mul_1 0 rfl rfl)
theorem dX4_gf_sq2mul_25 : decode cX4_gf_sq2mul 25 = .ok (.lxor, 1) := dk_131 (dk_at dksX4_gf_sq2mul_1 1 rfl rfl)
theorem dX4_gf_sq2mul_26 : decode cX4_gf_sq2mul 26 = .ok (.lstore_n 3, 1) := dk_66 (dk_at dksX4_gf_sq2mul_1 2 rfl rfl)
theorem dX4_gf_sq2mul_27 : decode cX4_gf_sq2mul 27 = .ok (.lload 7, 2) := dk_22 7 (dk_at dksX4_gf_sq2mul_1 3 rfl rfl)
theorem dX4_gf_sq2mul_29 : decode cX4_gf_sq2mul 29 = .ok (.lload 5, 2) := dk_22 5 (dk_at dksX4_gf_sq2mul_1 5 rfl rfl)
theorem dX4_gf_sq2mul_31 : decode cX4_gf_sq2mul 31 = .ok (.iconst 0, 1) := dk_3 (dk_at dksX4_gf_sq2mul_1 7 rfl rfl)
theorem dX4_gf_sq2mul_32 : decode cX4_gf_sq2mul 32 = .ok (.lshl, 1) := dk_121 (dk_at dksX4_gf_sq2mul_1 8 rfl rfl)
theorem dX4_gf_sq2mul_33 : decode cX4_gf_sq2mul 33 = .ok (.lload_n 3, 1) := dk_33 (dk_at dksX4_gf_sq2mul_1 9 rfl rfl)
theorem dX4_gf_sq2mul_34 : decode cX4_gf_sq2mul 34 = .ok (.ldc2_w 50, 3) := dk_20 0 50 (dk_at dksX4_gf_sq2mul_1 10 rfl rfl)
theorem dX4_gf_sq2mul_37 : decode cX4_gf_sq2mul 37 = .ok (.land, 1) := dk_127 (dk_at dksX4_gf_sq2mul_1 13 rfl rfl)
theorem dX4_gf_sq2mul_38 : decode cX4_gf_sq2mul 38 = .ok (.lmul, 1) := dk_105 (dk_at dksX4_gf_sq2mul_1 14 rfl rfl)
theorem dX4_gf_sq2mul_39 : decode cX4_gf_sq2mul 39 = .ok (.lxor, 1) := dk_131 (dk_at dksX4_gf_sq2mul_1 15 rfl rfl)
theorem dX4_gf_sq2mul_40 : decode cX4_gf_sq2mul 40 = .ok (.lstore 7, 2) := dk_55 7 (dk_at dksX4_gf_sq2mul_1 16 rfl rfl)
theorem dX4_gf_sq2mul_42 : decode cX4_gf_sq2mul 42 = .ok (.lload 7, 2) := dk_22 7 (dk_at dksX4_gf_sq2mul_1 18 rfl rfl)
theorem dX4_gf_sq2mul_44 : decode cX4_gf_sq2mul 44 = .ok (.lload 5, 2) := dk_22 5 (dk_at dksX4_gf_sq2mul_1 20 rfl rfl)
theorem dX4_gf_sq2mul_46 : decode cX4_gf_sq2mul 46 = .ok (.iconst 3, 1) := dk_6 (dk_at dksX4_gf_sq2mul_1 22 rfl rfl)
theorem dX4_gf_sq2mul_47 : decode cX4_gf_sq2mul 47 = .ok (.lshl, 1) := dk_121 (dk_at dksX4_gf_sq2mul_1 23 rfl rfl)
theorem dX4_gf_sq2mul_48 : decode cX4_gf_sq2mul 48 = .ok (.lload_n 3, 1) := dk_33 (dk_at dksX4_gf_sq2mul_2 0 rfl rfl)
theorem dX4_gf_sq2mul_49 : decode cX4_gf_sq2mul 49 = .ok (.ldc2_w 52, 3) := dk_20 0 52 (dk_at dksX4_gf_sq2mul_2 1 rfl rfl)
theorem dX4_gf_sq2mul_52 : decode cX4_gf_sq2mul 52 = .ok (.land, 1) := dk_127 (dk_at dksX4_gf_sq2mul_2 4 rfl rfl)
theorem dX4_gf_sq2mul_53 : decode cX4_gf_sq2mul 53 = .ok (.lmul, 1) := dk_105 (dk_at dksX4_gf_sq2mul_2 5 rfl rfl)
theorem dX4_gf_sq2mul_54 : decode cX4_gf_sq2mul 54 = .ok (.lxor, 1) := dk_131 (dk_at dksX4_gf_sq2mul_2 6 rfl rfl)
theorem dX4_gf_sq2mul_55 : decode cX4_gf_sq2mul 55 = .ok (.lstore 7, 2) := dk_55 7 (dk_at dksX4_gf_sq2mul_2 7 rfl rfl)
theorem dX4_gf_sq2mul_57 : decode cX4_gf_sq2mul 57 = .ok (.lload 7, 2) := dk_22 7 (dk_at dksX4_gf_sq2mul_2 9 rfl rfl)
theorem dX4_gf_sq2mul_59 : decode cX4_gf_sq2mul 59 = .ok (.lload 5, 2) := dk_22 5 (dk_at dksX4_gf_sq2mul_2 11 rfl rfl)
theorem dX4_gf_sq2mul_61 : decode cX4_gf_sq2mul 61 = .ok (.bipush 6, 2) := dk_16 6 (dk_at dksX4_gf_sq2mul_2 13 rfl rfl)
theorem dX4_gf_sq2mul_63 : decode cX4_gf_sq2mul 63 = .ok (.lshl, 1) := dk_121 (dk_at dksX4_gf_sq2mul_2 15 rfl rfl)
theorem dX4_gf_sq2mul_64 : decode cX4_gf_sq2mul 64 = .ok (.lload_n 3, 1) := dk_33 (dk_at dksX4_gf_sq2mul_2 16 rfl rfl)
theorem dX4_gf_sq2mul_65 : decode cX4_gf_sq2mul 65 = .ok (.ldc2_w 54, 3) := dk_20 0 54 (dk_at dksX4_gf_sq2mul_2 17 rfl rfl)
theorem dX4_gf_sq2mul_68 : decode cX4_gf_sq2mul 68 = .ok (.land, 1) := dk_127 (dk_at dksX4_gf_sq2mul_2 20 rfl rfl)
theorem dX4_gf_sq2mul_69 : decode cX4_gf_sq2mul 69 = .ok (.lmul, 1) := dk_105 (dk_at dksX4_gf_sq2mul_2 21 rfl rfl)
theorem dX4_gf_sq2mul_70 : decode cX4_gf_sq2mul 70 = .ok (.lxor, 1) := dk_131 (dk_at dksX4_gf_sq2mul_2 22 rfl rfl)
theorem dX4_gf_sq2mul_71 : decode cX4_gf_sq2mul 71 = .ok (.lstore 7, 2) := dk_55 7 (dk_at dksX4_gf_sq2mul_3 0 rfl rfl)
theorem dX4_gf_sq2mul_73 : decode cX4_gf_sq2mul 73 = .ok (.lload 7, 2) := dk_22 7 (dk_at dksX4_gf_sq2mul_3 2 rfl rfl)
theorem dX4_gf_sq2mul_75 : decode cX4_gf_sq2mul 75 = .ok (.lload 5, 2) := dk_22 5 (dk_at dksX4_gf_sq2mul_3 4 rfl rfl)
theorem dX4_gf_sq2mul_77 : decode cX4_gf_sq2mul 77 = .ok (.bipush 9, 2) := dk_16 9 (dk_at dksX4_gf_sq2mul_3 6 rfl rfl)
theorem dX4_gf_sq2mul_79 : decode cX4_gf_sq2mul 79 = .ok (.lshl, 1) := dk_121 (dk_at dksX4_gf_sq2mul_3 8 rfl rfl)
theorem dX4_gf_sq2mul_80 : decode cX4_gf_sq2mul 80 = .ok (.lload_n 3, 1) := dk_33 (dk_at dksX4_gf_sq2mul_3 9 rfl rfl)
theorem dX4_gf_sq2mul_81 : decode cX4_gf_sq2mul 81 = .ok (.ldc2_w 56, 3) := dk_20 0 56 (dk_at dksX4_gf_sq2mul_3 10 rfl rfl)
theorem dX4_gf_sq2mul_84 : decode cX4_gf_sq2mul 84 = .ok (.land, 1) := dk_127 (dk_at dksX4_gf_sq2mul_3 13 rfl rfl)
theorem dX4_gf_sq2mul_85 : decode cX4_gf_sq2mul 85 = .ok (.lmul, 1) := dk_105 (dk_at dksX4_gf_sq2mul_3 14 rfl rfl)
theorem dX4_gf_sq2mul_86 : decode cX4_gf_sq2mul 86 = .ok (.lxor, 1) := dk_131 (dk_at dksX4_gf_sq2mul_3 15 rfl rfl)
theorem dX4_gf_sq2mul_87 : decode cX4_gf_sq2mul 87 = .ok (.lstore 7, 2) := dk_55 7 (dk_at dksX4_gf_sq2mul_3 16 rfl rfl)
theorem dX4_gf_sq2mul_89 : decode cX4_gf_sq2mul 89 = .ok (.lload 7, 2) := dk_22 7 (dk_at dksX4_gf_sq2mul_3 18 rfl rfl)
theorem dX4_gf_sq2mul_91 : decode cX4_gf_sq2mul 91 = .ok (.lload 5, 2) := dk_22 5 (dk_at dksX4_gf_sq2mul_3 20 rfl rfl)
theorem dX4_gf_sq2mul_93 : decode cX4_gf_sq2mul 93 = .ok (.bipush 12, 2) := dk_16 12 (dk_at dksX4_gf_sq2mul_3 22 rfl rfl)
theorem dX4_gf_sq2mul_95 : decode cX4_gf_sq2mul 95 = .ok (.lshl, 1) := dk_121 (dk_at dksX4_gf_sq2mul_4 0 rfl rfl)
theorem dX4_gf_sq2mul_96 : decode cX4_gf_sq2mul 96 = .ok (.lload_n 3, 1) := dk_33 (dk_at dksX4_gf_sq2mul_4 1 rfl rfl)
theorem dX4_gf_sq2mul_97 : decode cX4_gf_sq2mul 97 = .ok (.ldc2_w 58, 3) := dk_20 0 58 (dk_at dksX4_gf_sq2mul_4 2 rfl rfl)
theorem dX4_gf_sq2mul_100 : decode cX4_gf_sq2mul 100 = .ok (.land, 1) := dk_127 (dk_at dksX4_gf_sq2mul_4 5 rfl rfl)
theorem dX4_gf_sq2mul_101 : decode cX4_gf_sq2mul 101 = .ok (.lmul, 1) := dk_105 (dk_at dksX4_gf_sq2mul_4 6 rfl rfl)
theorem dX4_gf_sq2mul_102 : decode cX4_gf_sq2mul 102 = .ok (.lxor, 1) := dk_131 (dk_at dksX4_gf_sq2mul_4 7 rfl rfl)
theorem dX4_gf_sq2mul_103 : decode cX4_gf_sq2mul 103 = .ok (.lstore 7, 2) := dk_55 7 (dk_at dksX4_gf_sq2mul_4 8 rfl rfl)
theorem dX4_gf_sq2mul_105 : decode cX4_gf_sq2mul 105 = .ok (.lload 7, 2) := dk_22 7 (dk_at dksX4_gf_sq2mul_4 10 rfl rfl)
theorem dX4_gf_sq2mul_107 : decode cX4_gf_sq2mul 107 = .ok (.lload 5, 2) := dk_22 5 (dk_at dksX4_gf_sq2mul_4 12 rfl rfl)
theorem dX4_gf_sq2mul_109 : decode cX4_gf_sq2mul 109 = .ok (.bipush 15, 2) := dk_16 15 (dk_at dksX4_gf_sq2mul_4 14 rfl rfl)
theorem dX4_gf_sq2mul_111 : decode cX4_gf_sq2mul 111 = .ok (.lshl, 1) := dk_121 (dk_at dksX4_gf_sq2mul_4 16 rfl rfl)
theorem dX4_gf_sq2mul_112 : decode cX4_gf_sq2mul 112 = .ok (.lload_n 3, 1) := dk_33 (dk_at dksX4_gf_sq2mul_4 17 rfl rfl)
theorem dX4_gf_sq2mul_113 : decode cX4_gf_sq2mul 113 = .ok (.ldc2_w 60, 3) := dk_20 0 60 (dk_at dksX4_gf_sq2mul_4 18 rfl rfl)
theorem dX4_gf_sq2mul_116 : decode cX4_gf_sq2mul 116 = .ok (.land, 1) := dk_127 (dk_at dksX4_gf_sq2mul_4 21 rfl rfl)
theorem dX4_gf_sq2mul_117 : decode cX4_gf_sq2mul 117 = .ok (.lmul, 1) := dk_105 (dk_at dksX4_gf_sq2mul_4 22 rfl rfl)
theorem dX4_gf_sq2mul_118 : decode cX4_gf_sq2mul 118 = .ok (.lxor, 1) := dk_131 (dk_at dksX4_gf_sq2mul_4 23 rfl rfl)
theorem dX4_gf_sq2mul_119 : decode cX4_gf_sq2mul 119 = .ok (.lstore 7, 2) := dk_55 7 (dk_at dksX4_gf_sq2mul_5 0 rfl rfl)
theorem dX4_gf_sq2mul_121 : decode cX4_gf_sq2mul 121 = .ok (.lload 7, 2) := dk_22 7 (dk_at dksX4_gf_sq2mul_5 2 rfl rfl)
theorem dX4_gf_sq2mul_123 : decode cX4_gf_sq2mul 123 = .ok (.ldc2_w 62, 3) := dk_20 0 62 (dk_at dksX4_gf_sq2mul_5 4 rfl rfl)
theorem dX4_gf_sq2mul_126 : decode cX4_gf_sq2mul 126 = .ok (.land, 1) := dk_127 (dk_at dksX4_gf_sq2mul_5 7 rfl rfl)
theorem dX4_gf_sq2mul_127 : decode cX4_gf_sq2mul 127 = .ok (.lstore 9, 2) := dk_55 9 (dk_at dksX4_gf_sq2mul_5 8 rfl rfl)
theorem dX4_gf_sq2mul_129 : decode cX4_gf_sq2mul 129 = .ok (.lload 7, 2) := dk_22 7 (dk_at dksX4_gf_sq2mul_5 10 rfl rfl)
theorem dX4_gf_sq2mul_131 : decode cX4_gf_sq2mul 131 = .ok (.lload 9, 2) := dk_22 9 (dk_at dksX4_gf_sq2mul_5 12 rfl rfl)
theorem dX4_gf_sq2mul_133 : decode cX4_gf_sq2mul 133 = .ok (.bipush 18, 2) := dk_16 18 (dk_at dksX4_gf_sq2mul_5 14 rfl rfl)
theorem dX4_gf_sq2mul_135 : decode cX4_gf_sq2mul 135 = .ok (.lushr, 1) := dk_125 (dk_at dksX4_gf_sq2mul_5 16 rfl rfl)
theorem dX4_gf_sq2mul_136 : decode cX4_gf_sq2mul 136 = .ok (.lload 9, 2) := dk_22 9 (dk_at dksX4_gf_sq2mul_5 17 rfl rfl)
theorem dX4_gf_sq2mul_138 : decode cX4_gf_sq2mul 138 = .ok (.bipush 20, 2) := dk_16 20 (dk_at dksX4_gf_sq2mul_5 19 rfl rfl)
theorem dX4_gf_sq2mul_140 : decode cX4_gf_sq2mul 140 = .ok (.lushr, 1) := dk_125 (dk_at dksX4_gf_sq2mul_5 21 rfl rfl)
theorem dX4_gf_sq2mul_141 : decode cX4_gf_sq2mul 141 = .ok (.lxor, 1) := dk_131 (dk_at dksX4_gf_sq2mul_5 22 rfl rfl)
theorem dX4_gf_sq2mul_142 : decode cX4_gf_sq2mul 142 = .ok (.lload 9, 2) := dk_22 9 (dk_at dksX4_gf_sq2mul_6 0 rfl rfl)
theorem dX4_gf_sq2mul_144 : decode cX4_gf_sq2mul 144 = .ok (.bipush 24, 2) := dk_16 24 (dk_at dksX4_gf_sq2mul_6 2 rfl rfl)
theorem dX4_gf_sq2mul_146 : decode cX4_gf_sq2mul 146 = .ok (.lushr, 1) := dk_125 (dk_at dksX4_gf_sq2mul_6 4 rfl rfl)
theorem dX4_gf_sq2mul_147 : decode cX4_gf_sq2mul 147 = .ok (.lxor, 1) := dk_131 (dk_at dksX4_gf_sq2mul_6 5 rfl rfl)
theorem dX4_gf_sq2mul_148 : decode cX4_gf_sq2mul 148 = .ok (.lload 9, 2) := dk_22 9 (dk_at dksX4_gf_sq2mul_6 6 rfl rfl)
theorem dX4_gf_sq2mul_150 : decode cX4_gf_sq2mul 150 = .ok (.bipush 26, 2) := dk_16 26 (dk_at dksX4_gf_sq2mul_6 8 rfl rfl)
theorem dX4_gf_sq2mul_152 : decode cX4_gf_sq2mul 152 = .ok (.lushr, 1) := dk_125 (dk_at dksX4_gf_sq2mul_6 10 rfl rfl)
theorem dX4_gf_sq2mul_153 : decode cX4_gf_sq2mul 153 = .ok (.lxor, 1) := dk_131 (dk_at dksX4_gf_sq2mul_6 11 rfl rfl)
theorem dX4_gf_sq2mul_154 : decode cX4_gf_sq2mul 154 = .ok (.lxor, 1) := dk_131 (dk_at dksX4_gf_sq2mul_6 12 rfl rfl)
theorem dX4_gf_sq2mul_155 : decode cX4_gf_sq2mul 155 = .ok (.lstore 7, 2) := dk_55 7 (dk_at dksX4_gf_sq2mul_6 13 rfl rfl)
theorem dX4_gf_sq2mul_157 : decode cX4_gf_sq2mul 157 = .ok (.lload 7, 2) := dk_22 7 (dk_at dksX4_gf_sq2mul_6 15 rfl rfl)
theorem dX4_gf_sq2mul_159 : decode cX4_gf_sq2mul 159 = .ok (.ldc2_w 64, 3) := dk_20 0 64 (dk_at dksX4_gf_sq2mul_6 17 rfl rfl)
theorem dX4_gf_sq2mul_162 : decode cX4_gf_sq2mul 162 = .ok (.land, 1) := dk_127 (dk_at dksX4_gf_sq2mul_6 20 rfl rfl)
theorem dX4_gf_sq2mul_163 : decode cX4_gf_sq2mul 163 = .ok (.lstore 9, 2) := dk_55 9 (dk_at dksX4_gf_sq2mul_6 21 rfl rfl)
theorem dX4_gf_sq2mul_165 : decode cX4_gf_sq2mul 165 = .ok (.lload 7, 2) := dk_22 7 (dk_at dksX4_gf_sq2mul_7 0 rfl rfl)
theorem dX4_gf_sq2mul_167 : decode cX4_gf_sq2mul 167 = .ok (.lload 9, 2) := dk_22 9 (dk_at dksX4_gf_sq2mul_7 2 rfl rfl)
theorem dX4_gf_sq2mul_169 : decode cX4_gf_sq2mul 169 = .ok (.bipush 18, 2) := dk_16 18 (dk_at dksX4_gf_sq2mul_7 4 rfl rfl)
theorem dX4_gf_sq2mul_171 : decode cX4_gf_sq2mul 171 = .ok (.lushr, 1) := dk_125 (dk_at dksX4_gf_sq2mul_7 6 rfl rfl)
theorem dX4_gf_sq2mul_172 : decode cX4_gf_sq2mul 172 = .ok (.lload 9, 2) := dk_22 9 (dk_at dksX4_gf_sq2mul_7 7 rfl rfl)
theorem dX4_gf_sq2mul_174 : decode cX4_gf_sq2mul 174 = .ok (.bipush 20, 2) := dk_16 20 (dk_at dksX4_gf_sq2mul_7 9 rfl rfl)
theorem dX4_gf_sq2mul_176 : decode cX4_gf_sq2mul 176 = .ok (.lushr, 1) := dk_125 (dk_at dksX4_gf_sq2mul_7 11 rfl rfl)
theorem dX4_gf_sq2mul_177 : decode cX4_gf_sq2mul 177 = .ok (.lxor, 1) := dk_131 (dk_at dksX4_gf_sq2mul_7 12 rfl rfl)
theorem dX4_gf_sq2mul_178 : decode cX4_gf_sq2mul 178 = .ok (.lload 9, 2) := dk_22 9 (dk_at dksX4_gf_sq2mul_7 13 rfl rfl)
theorem dX4_gf_sq2mul_180 : decode cX4_gf_sq2mul 180 = .ok (.bipush 24, 2) := dk_16 24 (dk_at dksX4_gf_sq2mul_7 15 rfl rfl)
theorem dX4_gf_sq2mul_182 : decode cX4_gf_sq2mul 182 = .ok (.lushr, 1) := dk_125 (dk_at dksX4_gf_sq2mul_7 17 rfl rfl)
theorem dX4_gf_sq2mul_183 : decode cX4_gf_sq2mul 183 = .ok (.lxor, 1) := dk_131 (dk_at dksX4_gf_sq2mul_7 18 rfl rfl)
theorem dX4_gf_sq2mul_184 : decode cX4_gf_sq2mul 184 = .ok (.lload 9, 2) := dk_22 9 (dk_at dksX4_gf_sq2mul_7 19 rfl rfl)
theorem dX4_gf_sq2mul_186 : decode cX4_gf_sq2mul 186 = .ok (.bipush 26, 2) := dk_16 26 (dk_at dksX4_gf_sq2mul_7 21 rfl rfl)
theorem dX4_gf_sq2mul_188 : decode cX4_gf_sq2mul 188 = .ok (.lushr, 1) := dk_125 (dk_at dksX4_gf_sq2mul_7 23 rfl rfl)
theorem dX4_gf_sq2mul_189 : decode cX4_gf_sq2mul 189 = .ok (.lxor, 1) := dk_131 (dk_at dksX4_gf_sq2mul_8 0 rfl rfl)
theorem dX4_gf_sq2mul_190 : decode cX4_gf_sq2mul 190 = .ok (.lxor, 1) := dk_131 (dk_at dksX4_gf_sq2mul_8 1 rfl rfl)
theorem dX4_gf_sq2mul_191 : decode cX4_gf_sq2mul 191 = .ok (.lstore 7, 2) := dk_55 7 (dk_at dksX4_gf_sq2mul_8 2 rfl rfl)
theorem dX4_gf_sq2mul_193 : decode cX4_gf_sq2mul 193 = .ok (.aload_n 0, 1) := dk_42 (dk_at dksX4_gf_sq2mul_8 4 rfl rfl)
theorem dX4_gf_sq2mul_194 : decode cX4_gf_sq2mul 194 = .ok (.lload 7, 2) := dk_22 7 (dk_at dksX4_gf_sq2mul_8 5 rfl rfl)
theorem dX4_gf_sq2mul_196 : decode cX4_gf_sq2mul 196 = .ok (.l2i, 1) := dk_136 (dk_at dksX4_gf_sq2mul_8 7 rfl rfl)
theorem dX4_gf_sq2mul_197 : decode cX4_gf_sq2mul 197 = .ok (.ldc 49, 2) := dk_18 49 (dk_at dksX4_gf_sq2mul_8 8 rfl rfl)
theorem dX4_gf_sq2mul_199 : decode cX4_gf_sq2mul 199 = .ok (.iand, 1) := dk_126 (dk_at dksX4_gf_sq2mul_8 10 rfl rfl)
theorem dX4_gf_sq2mul_200 : decode cX4_gf_sq2mul 200 = .ok (.invokevirtual 23, 3) := dk_182 0 23 (dk_at dksX4_gf_sq2mul_8 11 rfl rfl)
theorem dX4_gf_sq2mul_203 : decode cX4_gf_sq2mul 203 = .ok (.ireturn, 1) := dk_172 (dk_at dksX4_gf_sq2mul_8 14 rfl rfl)
abbrev cX4_gf_sq2 : ByteArray := prog_3_method_9_code
def yX4_gf_sq2 : MethodName := ⟨RX4, "gf_sq2", "(S)S"⟩
def dkwX4_gf_sq2_0 : List UInt8 := [27, 184, 0, 27, 61, 42, 28, 182, 0, 23, 60, 27, 184, 0, 27, 62, 42, 29, 182, 0, 23, 172]
abbrev dktX4_gf_sq2_0 : List UInt8 := dkwX4_gf_sq2_0 ++ []
theorem dksX4_gf_sq2_0 : cX4_gf_sq2.data.toList.drop 0 = dktX4_gf_sq2_0 := by decide +kernel
theorem dX4_gf_sq2_0 : decode cX4_gf_sq2 0 = .ok (.iload_n 1, 1) := dk_27 (dk_at dksX4_gf_sq2_0 0 rfl rfl)
theorem dX4_gf_sq2_1 : decode cX4_gf_sq2 1 = .ok (.invokestatic 27, 3) := dk_184 0 27 (dk_at dksX4_gf_sq2_0 1 rfl rfl)
theorem dX4_gf_sq2_4 : decode cX4_gf_sq2 4 = .ok (.istore_n 2, 1) := dk_61 (dk_at dksX4_gf_sq2_0 4 rfl rfl)
theorem dX4_gf_sq2_5 : decode cX4_gf_sq2 5 = .ok (.aload_n 0, 1) := dk_42 (dk_at dksX4_gf_sq2_0 5 rfl rfl)
theorem dX4_gf_sq2_6 : decode cX4_gf_sq2 6 = .ok (.iload_n 2, 1) := dk_28 (dk_at dksX4_gf_sq2_0 6 rfl rfl)
theorem dX4_gf_sq2_7 : decode cX4_gf_sq2 7 = .ok (.invokevirtual 23, 3) := dk_182 0 23 (dk_at dksX4_gf_sq2_0 7 rfl rfl)
theorem dX4_gf_sq2_10 : decode cX4_gf_sq2 10 = .ok (.istore_n 1, 1) := dk_60 (dk_at dksX4_gf_sq2_0 10 rfl rfl)
theorem dX4_gf_sq2_11 : decode cX4_gf_sq2 11 = .ok (.iload_n 1, 1) := dk_27 (dk_at dksX4_gf_sq2_0 11 rfl rfl)
theorem dX4_gf_sq2_12 : decode cX4_gf_sq2 12 = .ok (.invokestatic 27, 3) := dk_184 0 27 (dk_at dksX4_gf_sq2_0 12 rfl rfl)
theorem dX4_gf_sq2_15 : decode cX4_gf_sq2 15 = .ok (.istore_n 3, 1) := dk_62 (dk_at dksX4_gf_sq2_0 15 rfl rfl)
theorem dX4_gf_sq2_16 : decode cX4_gf_sq2 16 = .ok (.aload_n 0, 1) := dk_42 (dk_at dksX4_gf_sq2_0 16 rfl rfl)
theorem dX4_gf_sq2_17 : decode cX4_gf_sq2 17 = .ok (.iload_n 3, 1) := dk_29 (dk_at dksX4_gf_sq2_0 17 rfl rfl)
theorem dX4_gf_sq2_18 : decode cX4_gf_sq2 18 = .ok (.invokevirtual 23, 3) := dk_182 0 23 (dk_at dksX4_gf_sq2_0 18 rfl rfl)
theorem dX4_gf_sq2_21 : decode cX4_gf_sq2 21 = .ok (.ireturn, 1) := dk_172 (dk_at dksX4_gf_sq2_0 21 rfl rfl)
abbrev cX4_gf_mul_ext : ByteArray := prog_3_method_5_code
def yX4_gf_mul_ext : MethodName := ⟨RX4, "gf_mul_ext", "(SS)I"⟩
def dkwX4_gf_mul_ext_1 : List UInt8 := [21, 5, 29, 21, 4, 4, 21, 6, 120, 126, 104, 130, 54, 5, 132, 6, 1, 167, 255, 232, 21, 5, 172]
abbrev dktX4_gf_mul_ext_1 : List UInt8 := dkwX4_gf_mul_ext_1 ++ []
def dkwX4_gf_mul_ext_0 : List UInt8 := [27, 62, 28, 54, 4, 29, 21, 4, 4, 126, 104, 54, 5, 4, 54, 6, 21, 6, 16, 13, 162, 0, 23]
abbrev dktX4_gf_mul_ext_0 : List UInt8 := dkwX4_gf_mul_ext_0 ++ dktX4_gf_mul_ext_1
theorem dksX4_gf_mul_ext_0 : cX4_gf_mul_ext.data.toList.drop 0 = dktX4_gf_mul_ext_0 := by decide +kernel
theorem dksX4_gf_mul_ext_1 : cX4_gf_mul_ext.data.toList.drop 23 = dktX4_gf_mul_ext_1 := dk_seg dksX4_gf_mul_ext_0 23 rfl rfl
theorem dX4_gf_mul_ext_0 : decode cX4_gf_mul_ext 0 = .ok (.iload_n 1, 1) := dk_27 (dk_at dksX4_gf_mul_ext_0 0 rfl rfl)
theorem dX4_gf_mul_ext_1 : decode cX4_gf_mul_ext 1 = .ok (.istore_n 3, 1) := dk_62 (dk_at dksX4_gf_mul_ext_0 1 rfl rfl)
theorem dX4_gf_mul_ext_2 : decode cX4_gf_mul_ext 2 = .ok (.iload_n 2, 1) := dk_28 (dk_at dksX4_gf_mul_ext_0 2 rfl rfl)
theorem dX4_gf_mul_ext_3 : decode cX4_gf_mul_ext 3 = .ok (.istore 4, 2) := dk_54 4 (dk_at dksX4_gf_mul_ext_0 3 rfl rfl)
theorem dX4_gf_mul_ext_5 : decode cX4_gf_mul_ext 5 = .ok (.iload_n 3, 1) := dk_29 (dk_at dksX4_gf_mul_ext_0 5 rfl rfl)
theorem dX4_gf_mul_ext_6 : decode cX4_gf_mul_ext 6 = .ok (.iload 4, 2) := dk_21 4 (dk_at dksX4_gf_mul_ext_0 6 rfl rfl)
theorem dX4_gf_mul_ext_8 : decode cX4_gf_mul_ext 8 = .ok (.iconst 1, 1) := dk_4 (dk_at dksX4_gf_mul_ext_0 8 rfl rfl)
theorem dX4_gf_mul_ext_9 : decode cX4_gf_mul_ext 9 = .ok (.iand, 1) := dk_126 (dk_at dksX4_gf_mul_ext_0 9 rfl rfl)
theorem dX4_gf_mul_ext_10 : decode cX4_gf_mul_ext 10 = .ok (.imul, 1) := dk_104 (dk_at dksX4_gf_mul_ext_0 10 rfl rfl)
theorem dX4_gf_mul_ext_11 : decode cX4_gf_mul_ext 11 = .ok (.istore 5, 2) := dk_54 5 (dk_at dksX4_gf_mul_ext_0 11 rfl rfl)
theorem dX4_gf_mul_ext_13 : decode cX4_gf_mul_ext 13 = .ok (.iconst 1, 1) := dk_4 (dk_at dksX4_gf_mul_ext_0 13 rfl rfl)
theorem dX4_gf_mul_ext_14 : decode cX4_gf_mul_ext 14 = .ok (.istore 6, 2) := dk_54 6 (dk_at dksX4_gf_mul_ext_0 14 rfl rfl)
theorem dX4_gf_mul_ext_16 : decode cX4_gf_mul_ext 16 = .ok (.iload 6, 2) := dk_21 6 (dk_at dksX4_gf_mul_ext_0 16 rfl rfl)
theorem dX4_gf_mul_ext_18 : decode cX4_gf_mul_ext 18 = .ok (.bipush 13, 2) := dk_16 13 (dk_at dksX4_gf_mul_ext_0 18 rfl rfl)
theorem dX4_gf_mul_ext_20 : decode cX4_gf_mul_ext 20 = .ok (.if_icmp .ge 23, 3) := dk_162 0 23 (dk_at dksX4_gf_mul_ext_0 20 rfl rfl)
theorem dX4_gf_mul_ext_23 : decode cX4_gf_mul_ext 23 = .ok (.iload 5, 2) := dk_21 5 (dk_at dksX4_gf_mul_ext_1 0 rfl rfl)
theorem dX4_gf_mul_ext_25 : decode cX4_gf_mul_ext 25 = .ok (.iload_n 3, 1) := dk_29 (dk_at dksX4_gf_mul_ext_1 2 rfl rfl)
theorem dX4_gf_mul_ext_26 : decode cX4_gf_mul_ext 26 = .ok (.iload 4, 2) := dk_21 4 (dk_at dksX4_gf_mul_ext_1 3 rfl rfl)
theorem dX4_gf_mul_ext_28 : decode cX4_gf_mul_ext 28 = .ok (.iconst 1, 1) := dk_4 (dk_at dksX4_gf_mul_ext_1 5 rfl rfl)
theorem dX4_gf_mul_ext_29 : decode cX4_gf_mul_ext 29 = .ok (.iload 6, 2) := dk_21 6 (dk_at dksX4_gf_mul_ext_1 6 rfl rfl)
theorem dX4_gf_mul_ext_31 : decode cX4_gf_mul_ext 31 = .ok (.ishl, 1) := dk_120 (dk_at dksX4_gf_mul_ext_1 8 rfl rfl)
theorem dX4_gf_mul_ext_32 : decode cX4_gf_mul_ext 32 = .ok (.iand, 1) := dk_126 (dk_at dksX4_gf_mul_ext_1 9 rfl rfl)
theorem dX4_gf_mul_ext_33 : decode cX4_gf_mul_ext 33 = .ok (.imul, 1) := dk_104 (dk_at dksX4_gf_mul_ext_1 10 rfl rfl)
theorem dX4_gf_mul_ext_34 : decode cX4_gf_mul_ext 34 = .ok (.ixor, 1) := dk_130 (dk_at dksX4_gf_mul_ext_1 11 rfl rfl)
theorem dX4_gf_mul_ext_35 : decode cX4_gf_mul_ext 35 = .ok (.istore 5, 2) := dk_54 5 (dk_at dksX4_gf_mul_ext_1 12 rfl rfl)
theorem dX4_gf_mul_ext_37 : decode cX4_gf_mul_ext 37 = .ok (.iinc 6 1, 3) := dk_132 6 1 (dk_at dksX4_gf_mul_ext_1 14 rfl rfl)
theorem dX4_gf_mul_ext_40 : decode cX4_gf_mul_ext 40 = .ok (.goto (-24), 3) := dk_167 255 232 (dk_at dksX4_gf_mul_ext_1 17 rfl rfl)
theorem dX4_gf_mul_ext_43 : decode cX4_gf_mul_ext 43 = .ok (.iload 5, 2) := dk_21 5 (dk_at dksX4_gf_mul_ext_1 20 rfl rfl)
theorem dX4_gf_mul_ext_45 : decode cX4_gf_mul_ext 45 = .ok (.ireturn, 1) := dk_172 (dk_at dksX4_gf_mul_ext_1 22 rfl rfl)
abbrev cX4_gf_sq_ext : ByteArray := prog_3_method_8_code
def yX4_gf_sq_ext : MethodName := ⟨RX4, "gf_sq_ext", "(S)I"⟩
theorem dX4_gf_sq_ext_0 : decode cX4_gf_sq_ext 0 = .ok (.iload_n 1, 1) := by decide +kernel
theorem dX4_gf_sq_ext_1 : decode cX4_gf_sq_ext 1 = .ok (.invokestatic 27, 3) := by decide +kernel
theorem dX4_gf_sq_ext_4 : decode cX4_gf_sq_ext 4 = .ok (.ireturn, 1) := by decide +kernel
theorem q7 : (Jvm.Cond.initialized "GF13") ∈ lw_all := lw_g (lw_at lw_m0 4 rfl) rfl
theorem q30 : (Jvm.Cond.instantiable "GF13" (0 : Nat)) ∈ lw_all := lw_g (lw_at lw_m0 27 rfl) rfl
theorem q32 : (Jvm.Cond.instanceMethod ({ cls := "GF13", name := "<init>", desc := "()V" } : Jvm.MethodName)) ∈ lw_all := lw_g (lw_at lw_m0 29 rfl) rfl
theorem q33 : (Jvm.Cond.code ({ cls := "GF13", name := "<init>", desc := "()V" } : Jvm.MethodName) prog_3_method_1_code (1 : Nat) (Option.none : Option Jvm.ClassFile.FieldType)) ∈ lw_all := lw_g (lw_at lw_m0 30 rfl) rfl
theorem q34 : (Jvm.Cond.methodLink "GF13" (1 : Nat) ({ cls := "GF", name := "<init>", desc := "()V" } : Jvm.MethodName)) ∈ lw_all := lw_g (lw_at lw_m0 31 rfl) rfl
theorem q35 : (Jvm.Cond.superclass "GF13" "GF") ∈ lw_all := lw_g (lw_at lw_m0 32 rfl) rfl
theorem q59 : (Jvm.Cond.selects "GF13" ({ cls := "GF", name := "gf_mul", desc := "(SS)S" } : Jvm.MethodName) ({ cls := "GF13", name := "gf_mul", desc := "(SS)S" } : Jvm.MethodName)) ∈ lw_all := lw_g (lw_at lw_m0 56 rfl) rfl
theorem q60 : (Jvm.Cond.instanceMethod ({ cls := "GF13", name := "gf_mul", desc := "(SS)S" } : Jvm.MethodName)) ∈ lw_all := lw_g (lw_at lw_m0 57 rfl) rfl
theorem q61 : (Jvm.Cond.code ({ cls := "GF13", name := "gf_mul", desc := "(SS)S" } : Jvm.MethodName) prog_3_method_4_code (7 : Nat) (Option.some Jvm.ClassFile.FieldType.short)) ∈ lw_all := lw_g (lw_at lw_m0 58 rfl) rfl
theorem q62 : (Jvm.Cond.methodLink "GF13" (23 : Nat) ({ cls := "GF13", name := "gf_reduce", desc := "(I)S" } : Jvm.MethodName)) ∈ lw_all := lw_g (lw_at lw_m0 59 rfl) rfl
theorem q63 : (Jvm.Cond.instanceMethod ({ cls := "GF13", name := "gf_reduce", desc := "(I)S" } : Jvm.MethodName)) ∈ lw_all := lw_g (lw_at lw_m0 60 rfl) rfl
theorem q64 : (Jvm.Cond.selects "GF13" ({ cls := "GF13", name := "gf_reduce", desc := "(I)S" } : Jvm.MethodName) ({ cls := "GF13", name := "gf_reduce", desc := "(I)S" } : Jvm.MethodName)) ∈ lw_all := lw_g (lw_at lw_m0 61 rfl) rfl
theorem q65 : (Jvm.Cond.code ({ cls := "GF13", name := "gf_reduce", desc := "(I)S" } : Jvm.MethodName) prog_3_method_6_code (8 : Nat) (Option.some Jvm.ClassFile.FieldType.short)) ∈ lw_all := lw_g (lw_at lw_m0 62 rfl) rfl
theorem q84 : (Jvm.Cond.selects "GF13" ({ cls := "GF", name := "gf_sq", desc := "(S)S" } : Jvm.MethodName) ({ cls := "GF13", name := "gf_sq", desc := "(S)S" } : Jvm.MethodName)) ∈ lw_all := lw_g (lw_at lw_m0 81 rfl) rfl
theorem q85 : (Jvm.Cond.instanceMethod ({ cls := "GF13", name := "gf_sq", desc := "(S)S" } : Jvm.MethodName)) ∈ lw_all := lw_g (lw_at lw_m0 82 rfl) rfl
theorem q86 : (Jvm.Cond.code ({ cls := "GF13", name := "gf_sq", desc := "(S)S" } : Jvm.MethodName) prog_3_method_7_code (3 : Nat) (Option.some Jvm.ClassFile.FieldType.short)) ∈ lw_all := lw_g (lw_at lw_m0 83 rfl) rfl
theorem q87 : (Jvm.Cond.methodLink "GF13" (27 : Nat) ({ cls := "Interleave", name := "expand16to32", desc := "(I)I" } : Jvm.MethodName)) ∈ lw_all := lw_g (lw_at lw_m0 84 rfl) rfl
theorem q100 : (Jvm.Cond.selects "GF13" ({ cls := "GF", name := "gf_inv", desc := "(S)S" } : Jvm.MethodName) ({ cls := "GF13", name := "gf_inv", desc := "(S)S" } : Jvm.MethodName)) ∈ lw_all := lw_g (lw_at lw_m0 97 rfl) rfl
theorem q101 : (Jvm.Cond.instanceMethod ({ cls := "GF13", name := "gf_inv", desc := "(S)S" } : Jvm.MethodName)) ∈ lw_all := lw_g (lw_at lw_m0 98 rfl) rfl
theorem q102 : (Jvm.Cond.code ({ cls := "GF13", name := "gf_inv", desc := "(S)S" } : Jvm.MethodName) prog_3_method_3_code (2 : Nat) (Option.some Jvm.ClassFile.FieldType.short)) ∈ lw_all := lw_g (lw_at lw_m0 99 rfl) rfl
theorem q103 : (Jvm.Cond.methodLink "GF13" (20 : Nat) ({ cls := "GF13", name := "gf_frac", desc := "(SS)S" } : Jvm.MethodName)) ∈ lw_all := lw_g (lw_at lw_m0 100 rfl) rfl
theorem q104 : (Jvm.Cond.instanceMethod ({ cls := "GF13", name := "gf_frac", desc := "(SS)S" } : Jvm.MethodName)) ∈ lw_all := lw_g (lw_at lw_m0 101 rfl) rfl
theorem q105 : (Jvm.Cond.selects "GF13" ({ cls := "GF13", name := "gf_frac", desc := "(SS)S" } : Jvm.MethodName) ({ cls := "GF13", name := "gf_frac", desc := "(SS)S" } : Jvm.MethodName)) ∈ lw_all := lw_g (lw_at lw_m0 102 rfl) rfl
theorem q106 : (Jvm.Cond.code ({ cls := "GF13", name := "gf_frac", desc := "(SS)S" } : Jvm.MethodName) prog_3_method_2_code (6 : Nat) (Option.some Jvm.ClassFile.FieldType.short)) ∈ lw_all := lw_g (lw_at lw_m0 103 rfl) rfl
theorem q107 : (Jvm.Cond.methodLink "GF13" (7 : Nat) ({ cls := "GF13", name := "gf_sqmul", desc := "(SS)S" } : Jvm.MethodName)) ∈ lw_all := lw_g (lw_at lw_m0 104 rfl) rfl
theorem q108 : (Jvm.Cond.privateMethod ({ cls := "GF13", name := "gf_sqmul", desc := "(SS)S" } : Jvm.MethodName)) ∈ lw_tbl := lw_at lw_m0 105 rfl
theorem q109 : (Jvm.Cond.instanceMethod ({ cls := "GF13", name := "gf_sqmul", desc := "(SS)S" } : Jvm.MethodName)) ∈ lw_all := lw_g (lw_at lw_m0 106 rfl) rfl
theorem q110 : (Jvm.Cond.code ({ cls := "GF13", name := "gf_sqmul", desc := "(SS)S" } : Jvm.MethodName) prog_3_method_10_code (11 : Nat) (Option.some Jvm.ClassFile.FieldType.short)) ∈ lw_all := lw_g (lw_at lw_m0 107 rfl) rfl
theorem q111 : (Jvm.Cond.constantLong "GF13" (33 : Nat) (64 : Int64)) ∈ lw_all := lw_g (lw_at lw_m0 108 rfl) rfl
theorem q112 : (Jvm.Cond.constantLong "GF13" (35 : Nat) (16385 : Int64)) ∈ lw_all := lw_g (lw_at lw_m0 109 rfl) rfl
theorem q113 : (Jvm.Cond.constantLong "GF13" (37 : Nat) (32770 : Int64)) ∈ lw_all := lw_g (lw_at lw_m0 110 rfl) rfl
theorem q114 : (Jvm.Cond.constantLong "GF13" (39 : Nat) (65540 : Int64)) ∈ lw_all := lw_g (lw_at lw_m0 111 rfl) rfl
theorem q115 : (Jvm.Cond.constantLong "GF13" (41 : Nat) (131080 : Int64)) ∈ lw_all := lw_g (lw_at lw_m0 112 rfl) rfl
theorem q116 : (Jvm.Cond.constantLong "GF13" (43 : Nat) (262160 : Int64)) ∈ lw_all := lw_g (lw_at lw_m0 113 rfl) rfl
theorem q117 : (Jvm.Cond.constantLong "GF13" (45 : Nat) (524320 : Int64)) ∈ lw_all := lw_g (lw_at lw_m0 114 rfl) rfl
theorem q118 : (Jvm.Cond.constantLong "GF13" (47 : Nat) (137371844608 : Int64)) ∈ lw_all := lw_g (lw_at lw_m0 115 rfl) rfl
theorem q119 : (Jvm.Cond.constant "GF13" (49 : Nat) (67108863 : Int32)) ∈ lw_all := lw_g (lw_at lw_m0 116 rfl) rfl
theorem q120 : (Jvm.Cond.methodLink "GF13" (13 : Nat) ({ cls := "GF13", name := "gf_sq2mul", desc := "(SS)S" } : Jvm.MethodName)) ∈ lw_all := lw_g (lw_at lw_m0 117 rfl) rfl
theorem q121 : (Jvm.Cond.privateMethod ({ cls := "GF13", name := "gf_sq2mul", desc := "(SS)S" } : Jvm.MethodName)) ∈ lw_tbl := lw_at lw_m0 118 rfl
theorem q122 : (Jvm.Cond.instanceMethod ({ cls := "GF13", name := "gf_sq2mul", desc := "(SS)S" } : Jvm.MethodName)) ∈ lw_all := lw_g (lw_at lw_m0 119 rfl) rfl
theorem q123 : (Jvm.Cond.code ({ cls := "GF13", name := "gf_sq2mul", desc := "(SS)S" } : Jvm.MethodName) prog_3_method_11_code (11 : Nat) (Option.some Jvm.ClassFile.FieldType.short)) ∈ lw_all := lw_g (lw_at lw_m0 120 rfl) rfl
theorem q124 : (Jvm.Cond.constantLong "GF13" (50 : Nat) (268435457 : Int64)) ∈ lw_all := lw_g (lw_at lw_m0 121 rfl) rfl
theorem q125 : (Jvm.Cond.constantLong "GF13" (52 : Nat) (536870914 : Int64)) ∈ lw_all := lw_g (lw_at lw_m0 122 rfl) rfl
theorem q126 : (Jvm.Cond.constantLong "GF13" (54 : Nat) (1073741828 : Int64)) ∈ lw_all := lw_g (lw_at lw_m0 123 rfl) rfl
theorem q127 : (Jvm.Cond.constantLong "GF13" (56 : Nat) (2147483656 : Int64)) ∈ lw_all := lw_g (lw_at lw_m0 124 rfl) rfl
theorem q128 : (Jvm.Cond.constantLong "GF13" (58 : Nat) (4294967312 : Int64)) ∈ lw_all := lw_g (lw_at lw_m0 125 rfl) rfl
theorem q129 : (Jvm.Cond.constantLong "GF13" (60 : Nat) (8589934624 : Int64)) ∈ lw_all := lw_g (lw_at lw_m0 126 rfl) rfl
theorem q130 : (Jvm.Cond.constantLong "GF13" (62 : Nat) (2305834213120671744 : Int64)) ∈ lw_all := lw_g (lw_at lw_m0 127 rfl) rfl
theorem q131 : (Jvm.Cond.constantLong "GF13" (64 : Nat) (8796025913344 : Int64)) ∈ lw_all := lw_g (lw_at lw_m0 128 rfl) rfl
theorem q132 : (Jvm.Cond.methodLink "GF13" (16 : Nat) ({ cls := "GF13", name := "gf_sq2", desc := "(S)S" } : Jvm.MethodName)) ∈ lw_all := lw_g (lw_at lw_m0 129 rfl) rfl
theorem q133 : (Jvm.Cond.privateMethod ({ cls := "GF13", name := "gf_sq2", desc := "(S)S" } : Jvm.MethodName)) ∈ lw_tbl := lw_at lw_m0 130 rfl
theorem q134 : (Jvm.Cond.instanceMethod ({ cls := "GF13", name := "gf_sq2", desc := "(S)S" } : Jvm.MethodName)) ∈ lw_all := lw_g (lw_at lw_m0 131 rfl) rfl
theorem q135 : (Jvm.Cond.code ({ cls := "GF13", name := "gf_sq2", desc := "(S)S" } : Jvm.MethodName) prog_3_method_9_code (4 : Nat) (Option.some Jvm.ClassFile.FieldType.short)) ∈ lw_all := lw_g (lw_at lw_m0 132 rfl) rfl
theorem q147 : (Jvm.Cond.selects "GF13" ({ cls := "GF", name := "gf_frac", desc := "(SS)S" } : Jvm.MethodName) ({ cls := "GF13", name := "gf_frac", desc := "(SS)S" } : Jvm.MethodName)) ∈ lw_all := lw_g (lw_at lw_m0 144 rfl) rfl
theorem q158 : (Jvm.Cond.selects "GF13" ({ cls := "GF", name := "gf_mul_ext", desc := "(SS)I" } : Jvm.MethodName) ({ cls := "GF13", name := "gf_mul_ext", desc := "(SS)I" } : Jvm.MethodName)) ∈ lw_all := lw_g (lw_at lw_m0 155 rfl) rfl
theorem q159 : (Jvm.Cond.instanceMethod ({ cls := "GF13", name := "gf_mul_ext", desc := "(SS)I" } : Jvm.MethodName)) ∈ lw_all := lw_g (lw_at lw_m0 156 rfl) rfl
theorem q160 : (Jvm.Cond.code ({ cls := "GF13", name := "gf_mul_ext", desc := "(SS)I" } : Jvm.MethodName) prog_3_method_5_code (7 : Nat) (Option.some Jvm.ClassFile.FieldType.int)) ∈ lw_all := lw_g (lw_at lw_m0 157 rfl) rfl
theorem q165 : (Jvm.Cond.selects "GF13" ({ cls := "GF", name := "gf_reduce", desc := "(I)S" } : Jvm.MethodName) ({ cls := "GF13", name := "gf_reduce", desc := "(I)S" } : Jvm.MethodName)) ∈ lw_all := lw_g (lw_at lw_m0 162 rfl) rfl
theorem q176 : (Jvm.Cond.selects "GF13" ({ cls := "GF", name := "gf_sq_ext", desc := "(S)I" } : Jvm.MethodName) ({ cls := "GF13", name := "gf_sq_ext", desc := "(S)I" } : Jvm.MethodName)) ∈ lw_all := lw_g (lw_at lw_m0 173 rfl) rfl
theorem q177 : (Jvm.Cond.instanceMethod ({ cls := "GF13", name := "gf_sq_ext", desc := "(S)I" } : Jvm.MethodName)) ∈ lw_all := lw_g (lw_at lw_m0 174 rfl) rfl
theorem q178 : (Jvm.Cond.code ({ cls := "GF13", name := "gf_sq_ext", desc := "(S)I" } : Jvm.MethodName) prog_3_method_8_code (2 : Nat) (Option.some Jvm.ClassFile.FieldType.int)) ∈ lw_all := lw_g (lw_at lw_m0 175 rfl) rfl
theorem q187 : (Jvm.Cond.selects "GF13" ({ cls := "GF", name := "gf_iszero", desc := "(S)S" } : Jvm.MethodName) ({ cls := "GF", name := "gf_iszero", desc := "(S)S" } : Jvm.MethodName)) ∈ lw_all := lw_g (lw_at lw_m0 184 rfl) rfl
theorem q196 : (Jvm.Cond.castable "GF13" "GF") ∈ lw_tbl := lw_at lw_m0 193 rfl
end
section
/-! the law's own entry -/
set_option maxRecDepth 100000
abbrev cL_law : ByteArray := code
def dkwL_law_15 : List UInt8 := [182, 0, 38, 21, 4, 182, 0, 16, 21, 5, 160, 0, 7, 4, 167, 0, 4, 3, 172]
abbrev dktL_law_15 : List UInt8 := dkwL_law_15 ++ []
def dkwL_law_14 : List UInt8 := [21, 4, 43, 28, 21, 4, 182, 0, 35, 182, 0, 16, 4, 160, 0, 28, 43, 28, 43, 28, 21, 5, 21, 4]
abbrev dktL_law_14 : List UInt8 := dkwL_law_14 ++ dktL_law_15
def dkwL_law_13 : List UInt8 := [160, 0, 20, 43, 28, 21, 5, 21, 4, 182, 0, 38, 2, 160, 0, 7, 4, 167, 0, 4, 3, 172, 43, 28]
abbrev dktL_law_13 : List UInt8 := dkwL_law_13 ++ dktL_law_14
def dkwL_law_12 : List UInt8 := [167, 0, 4, 3, 159, 0, 5, 3, 172, 21, 4, 154, 0, 33, 43, 28, 21, 4, 182, 0, 35, 2]
abbrev dktL_law_12 : List UInt8 := dkwL_law_12 ++ dktL_law_13
def dkwL_law_11 : List UInt8 := [21, 4, 4, 182, 0, 16, 21, 4, 160, 0, 23, 43, 28, 21, 4, 182, 0, 31, 21, 4, 154, 0, 7, 4]
abbrev dktL_law_11 : List UInt8 := dkwL_law_11 ++ dktL_law_12
def dkwL_law_10 : List UInt8 := [21, 6, 182, 0, 27, 43, 28, 21, 4, 21, 5, 21, 6, 130, 182, 0, 16, 159, 0, 5, 3, 172, 43, 28]
abbrev dktL_law_10 : List UInt8 := dkwL_law_10 ++ dktL_law_11
def dkwL_law_9 : List UInt8 := [182, 0, 20, 43, 28, 21, 5, 182, 0, 20, 130, 159, 0, 5, 3, 172, 43, 28, 21, 4, 21, 5, 21, 4]
abbrev dktL_law_9 : List UInt8 := dkwL_law_9 ++ dktL_law_10
def dkwL_law_8 : List UInt8 := [21, 4, 182, 0, 20, 159, 0, 5, 3, 172, 43, 28, 21, 4, 21, 5, 130, 182, 0, 20, 43, 28, 21, 4]
abbrev dktL_law_8 : List UInt8 := dkwL_law_8 ++ dktL_law_9
def dkwL_law_7 : List UInt8 := [182, 0, 20, 43, 28, 21, 4, 21, 4, 182, 0, 16, 160, 0, 20, 43, 28, 21, 4, 182, 0, 24, 43, 28]
abbrev dktL_law_7 : List UInt8 := dkwL_law_7 ++ dktL_law_8
def dkwL_law_6 : List UInt8 := [21, 6, 182, 0, 16, 43, 28, 21, 5, 21, 6, 182, 0, 16, 130, 159, 0, 5, 3, 172, 43, 28, 21, 4]
abbrev dktL_law_6 : List UInt8 := dkwL_law_6 ++ dktL_law_7
def dkwL_law_5 : List UInt8 := [182, 0, 16, 159, 0, 5, 3, 172, 43, 28, 21, 4, 21, 5, 130, 21, 6, 182, 0, 16, 43, 28, 21, 4]
abbrev dktL_law_5 : List UInt8 := dkwL_law_5 ++ dktL_law_6
def dkwL_law_4 : List UInt8 := [172, 43, 28, 21, 7, 21, 6, 182, 0, 16, 43, 28, 21, 4, 43, 28, 21, 5, 21, 6, 182, 0, 16]
abbrev dktL_law_4 : List UInt8 := dkwL_law_4 ++ dktL_law_5
def dkwL_law_3 : List UInt8 := [155, 0, 23, 21, 7, 29, 163, 0, 17, 21, 7, 43, 28, 21, 5, 21, 4, 182, 0, 16, 159, 0, 5, 3]
abbrev dktL_law_3 : List UInt8 := dkwL_law_3 ++ dktL_law_4
def dkwL_law_2 : List UInt8 := [54, 5, 42, 6, 184, 0, 10, 29, 126, 54, 6, 43, 28, 21, 4, 21, 5, 182, 0, 16, 54, 7, 21, 7]
abbrev dktL_law_2 : List UInt8 := dkwL_law_2 ++ dktL_law_3
def dkwL_law_1 : List UInt8 := [167, 0, 6, 17, 31, 255, 62, 42, 4, 184, 0, 10, 29, 126, 54, 4, 42, 5, 184, 0, 10, 29, 126]
abbrev dktL_law_1 : List UInt8 := dkwL_law_1 ++ dktL_law_2
def dkwL_law_0 : List UInt8 := [187, 0, 7, 89, 183, 0, 9, 76, 42, 3, 184, 0, 10, 4, 126, 61, 28, 154, 0, 9, 17, 15, 255]
abbrev dktL_law_0 : List UInt8 := dkwL_law_0 ++ dktL_law_1
theorem dksL_law_0 : cL_law.data.toList.drop 0 = dktL_law_0 := by decide +kernel
theorem dksL_law_1 : cL_law.data.toList.drop 23 = dktL_law_1 := dk_seg dksL_law_0 23 rfl rfl
theorem dksL_law_2 : cL_law.data.toList.drop 46 = dktL_law_2 := dk_seg dksL_law_1 23 rfl rfl
theorem dksL_law_3 : cL_law.data.toList.drop 70 = dktL_law_3 := dk_seg dksL_law_2 24 rfl rfl
theorem dksL_law_4 : cL_law.data.toList.drop 94 = dktL_law_4 := dk_seg dksL_law_3 24 rfl rfl
theorem dksL_law_5 : cL_law.data.toList.drop 117 = dktL_law_5 := dk_seg dksL_law_4 23 rfl rfl
theorem dksL_law_6 : cL_law.data.toList.drop 141 = dktL_law_6 := dk_seg dksL_law_5 24 rfl rfl
theorem dksL_law_7 : cL_law.data.toList.drop 165 = dktL_law_7 := dk_seg dksL_law_6 24 rfl rfl
theorem dksL_law_8 : cL_law.data.toList.drop 189 = dktL_law_8 := dk_seg dksL_law_7 24 rfl rfl
theorem dksL_law_9 : cL_law.data.toList.drop 213 = dktL_law_9 := dk_seg dksL_law_8 24 rfl rfl
theorem dksL_law_10 : cL_law.data.toList.drop 237 = dktL_law_10 := dk_seg dksL_law_9 24 rfl rfl
theorem dksL_law_11 : cL_law.data.toList.drop 261 = dktL_law_11 := dk_seg dksL_law_10 24 rfl rfl
theorem dksL_law_12 : cL_law.data.toList.drop 285 = dktL_law_12 := dk_seg dksL_law_11 24 rfl rfl
theorem dksL_law_13 : cL_law.data.toList.drop 307 = dktL_law_13 := dk_seg dksL_law_12 22 rfl rfl
theorem dksL_law_14 : cL_law.data.toList.drop 331 = dktL_law_14 := dk_seg dksL_law_13 24 rfl rfl
theorem dksL_law_15 : cL_law.data.toList.drop 355 = dktL_law_15 := dk_seg dksL_law_14 24 rfl rfl
theorem dL_law_0 : decode cL_law 0 = .ok (.new 7, 3) := dk_187 0 7 (dk_at dksL_law_0 0 rfl rfl)
theorem dL_law_3 : decode cL_law 3 = .ok (.dup, 1) := dk_89 (dk_at dksL_law_0 3 rfl rfl)
theorem dL_law_4 : decode cL_law 4 = .ok (.invokespecial 9, 3) := dk_183 0 9 (dk_at dksL_law_0 4 rfl rfl)
theorem dL_law_7 : decode cL_law 7 = .ok (.astore_n 1, 1) := dk_76 (dk_at dksL_law_0 7 rfl rfl)
theorem dL_law_8 : decode cL_law 8 = .ok (.aload_n 0, 1) := dk_42 (dk_at dksL_law_0 8 rfl rfl)
theorem dL_law_9 : decode cL_law 9 = .ok (.iconst 0, 1) := dk_3 (dk_at dksL_law_0 9 rfl rfl)
theorem dL_law_10 : decode cL_law 10 = .ok (.invokestatic 10, 3) := dk_184 0 10 (dk_at dksL_law_0 10 rfl rfl)
theorem dL_law_13 : decode cL_law 13 = .ok (.iconst 1, 1) := dk_4 (dk_at dksL_law_0 13 rfl rfl)
theorem dL_law_14 : decode cL_law 14 = .ok (.iand, 1) := dk_126 (dk_at dksL_law_0 14 rfl rfl)
theorem dL_law_15 : decode cL_law 15 = .ok (.istore_n 2, 1) := dk_61 (dk_at dksL_law_0 15 rfl rfl)
theorem dL_law_16 : decode cL_law 16 = .ok (.iload_n 2, 1) := dk_28 (dk_at dksL_law_0 16 rfl rfl)
theorem dL_law_17 : decode cL_law 17 = .ok (.ifCond .ne 9, 3) := dk_154 0 9 (dk_at dksL_law_0 17 rfl rfl)
theorem dL_law_20 : decode cL_law 20 = .ok (.sipush 4095, 3) := dk_17 15 255 (dk_at dksL_law_0 20 rfl rfl)
theorem dL_law_23 : decode cL_law 23 = .ok (.goto 6, 3) := dk_167 0 6 (dk_at dksL_law_1 0 rfl rfl)
theorem dL_law_26 : decode cL_law 26 = .ok (.sipush 8191, 3) := dk_17 31 255 (dk_at dksL_law_1 3 rfl rfl)
theorem dL_law_29 : decode cL_law 29 = .ok (.istore_n 3, 1) := dk_62 (dk_at dksL_law_1 6 rfl rfl)
theorem dL_law_30 : decode cL_law 30 = .ok (.aload_n 0, 1) := dk_42 (dk_at dksL_law_1 7 rfl rfl)
theorem dL_law_31 : decode cL_law 31 = .ok (.iconst 1, 1) := dk_4 (dk_at dksL_law_1 8 rfl rfl)
theorem dL_law_32 : decode cL_law 32 = .ok (.invokestatic 10, 3) := dk_184 0 10 (dk_at dksL_law_1 9 rfl rfl)
theorem dL_law_35 : decode cL_law 35 = .ok (.iload_n 3, 1) := dk_29 (dk_at dksL_law_1 12 rfl rfl)
theorem dL_law_36 : decode cL_law 36 = .ok (.iand, 1) := dk_126 (dk_at dksL_law_1 13 rfl rfl)
theorem dL_law_37 : decode cL_law 37 = .ok (.istore 4, 2) := dk_54 4 (dk_at dksL_law_1 14 rfl rfl)
theorem dL_law_39 : decode cL_law 39 = .ok (.aload_n 0, 1) := dk_42 (dk_at dksL_law_1 16 rfl rfl)
theorem dL_law_40 : decode cL_law 40 = .ok (.iconst 2, 1) := dk_5 (dk_at dksL_law_1 17 rfl rfl)
theorem dL_law_41 : decode cL_law 41 = .ok (.invokestatic 10, 3) := dk_184 0 10 (dk_at dksL_law_1 18 rfl rfl)
theorem dL_law_44 : decode cL_law 44 = .ok (.iload_n 3, 1) := dk_29 (dk_at dksL_law_1 21 rfl rfl)
theorem dL_law_45 : decode cL_law 45 = .ok (.iand, 1) := dk_126 (dk_at dksL_law_1 22 rfl rfl)
theorem dL_law_46 : decode cL_law 46 = .ok (.istore 5, 2) := dk_54 5 (dk_at dksL_law_2 0 rfl rfl)
theorem dL_law_48 : decode cL_law 48 = .ok (.aload_n 0, 1) := dk_42 (dk_at dksL_law_2 2 rfl rfl)
theorem dL_law_49 : decode cL_law 49 = .ok (.iconst 3, 1) := dk_6 (dk_at dksL_law_2 3 rfl rfl)
theorem dL_law_50 : decode cL_law 50 = .ok (.invokestatic 10, 3) := dk_184 0 10 (dk_at dksL_law_2 4 rfl rfl)
theorem dL_law_53 : decode cL_law 53 = .ok (.iload_n 3, 1) := dk_29 (dk_at dksL_law_2 7 rfl rfl)
theorem dL_law_54 : decode cL_law 54 = .ok (.iand, 1) := dk_126 (dk_at dksL_law_2 8 rfl rfl)
theorem dL_law_55 : decode cL_law 55 = .ok (.istore 6, 2) := dk_54 6 (dk_at dksL_law_2 9 rfl rfl)
theorem dL_law_57 : decode cL_law 57 = .ok (.aload_n 1, 1) := dk_43 (dk_at dksL_law_2 11 rfl rfl)
theorem dL_law_58 : decode cL_law 58 = .ok (.iload_n 2, 1) := dk_28 (dk_at dksL_law_2 12 rfl rfl)
theorem dL_law_59 : decode cL_law 59 = .ok (.iload 4, 2) := dk_21 4 (dk_at dksL_law_2 13 rfl rfl)
theorem dL_law_61 : decode cL_law 61 = .ok (.iload 5, 2) := dk_21 5 (dk_at dksL_law_2 15 rfl rfl)
theorem dL_law_63 : decode cL_law 63 = .ok (.invokevirtual 16, 3) := dk_182 0 16 (dk_at dksL_law_2 17 rfl rfl)
theorem dL_law_66 : decode cL_law 66 = .ok (.istore 7, 2) := dk_54 7 (dk_at dksL_law_2 20 rfl rfl)
theorem dL_law_68 : decode cL_law 68 = .ok (.iload 7, 2) := dk_21 7 (dk_at dksL_law_2 22 rfl rfl)
theorem dL_law_70 : decode cL_law 70 = .ok (.ifCond .lt 23, 3) := dk_155 0 23 (dk_at dksL_law_3 0 rfl rfl)
theorem dL_law_73 : decode cL_law 73 = .ok (.iload 7, 2) := dk_21 7 (dk_at dksL_law_3 3 rfl rfl)
theorem dL_law_75 : decode cL_law 75 = .ok (.iload_n 3, 1) := dk_29 (dk_at dksL_law_3 5 rfl rfl)
theorem dL_law_76 : decode cL_law 76 = .ok (.if_icmp .gt 17, 3) := dk_163 0 17 (dk_at dksL_law_3 6 rfl rfl)
theorem dL_law_79 : decode cL_law 79 = .ok (.iload 7, 2) := dk_21 7 (dk_at dksL_law_3 9 rfl rfl)
theorem dL_law_81 : decode cL_law 81 = .ok (.aload_n 1, 1) := dk_43 (dk_at dksL_law_3 11 rfl rfl)
theorem dL_law_82 : decode cL_law 82 = .ok (.iload_n 2, 1) := dk_28 (dk_at dksL_law_3 12 rfl rfl)
theorem dL_law_83 : decode cL_law 83 = .ok (.iload 5, 2) := dk_21 5 (dk_at dksL_law_3 13 rfl rfl)
theorem dL_law_85 : decode cL_law 85 = .ok (.iload 4, 2) := dk_21 4 (dk_at dksL_law_3 15 rfl rfl)
theorem dL_law_87 : decode cL_law 87 = .ok (.invokevirtual 16, 3) := dk_182 0 16 (dk_at dksL_law_3 17 rfl rfl)
theorem dL_law_90 : decode cL_law 90 = .ok (.if_icmp .eq 5, 3) := dk_159 0 5 (dk_at dksL_law_3 20 rfl rfl)
theorem dL_law_93 : decode cL_law 93 = .ok (.iconst 0, 1) := dk_3 (dk_at dksL_law_3 23 rfl rfl)
theorem dL_law_94 : decode cL_law 94 = .ok (.ireturn, 1) := dk_172 (dk_at dksL_law_4 0 rfl rfl)
theorem dL_law_95 : decode cL_law 95 = .ok (.aload_n 1, 1) := dk_43 (dk_at dksL_law_4 1 rfl rfl)
theorem dL_law_96 : decode cL_law 96 = .ok (.iload_n 2, 1) := dk_28 (dk_at dksL_law_4 2 rfl rfl)
theorem dL_law_97 : decode cL_law 97 = .ok (.iload 7, 2) := dk_21 7 (dk_at dksL_law_4 3 rfl rfl)
theorem dL_law_99 : decode cL_law 99 = .ok (.iload 6, 2) := dk_21 6 (dk_at dksL_law_4 5 rfl rfl)
theorem dL_law_101 : decode cL_law 101 = .ok (.invokevirtual 16, 3) := dk_182 0 16 (dk_at dksL_law_4 7 rfl rfl)
theorem dL_law_104 : decode cL_law 104 = .ok (.aload_n 1, 1) := dk_43 (dk_at dksL_law_4 10 rfl rfl)
theorem dL_law_105 : decode cL_law 105 = .ok (.iload_n 2, 1) := dk_28 (dk_at dksL_law_4 11 rfl rfl)
theorem dL_law_106 : decode cL_law 106 = .ok (.iload 4, 2) := dk_21 4 (dk_at dksL_law_4 12 rfl rfl)
theorem dL_law_108 : decode cL_law 108 = .ok (.aload_n 1, 1) := dk_43 (dk_at dksL_law_4 14 rfl rfl)
theorem dL_law_109 : decode cL_law 109 = .ok (.iload_n 2, 1) := dk_28 (dk_at dksL_law_4 15 rfl rfl)
theorem dL_law_110 : decode cL_law 110 = .ok (.iload 5, 2) := dk_21 5 (dk_at dksL_law_4 16 rfl rfl)
theorem dL_law_112 : decode cL_law 112 = .ok (.iload 6, 2) := dk_21 6 (dk_at dksL_law_4 18 rfl rfl)
theorem dL_law_114 : decode cL_law 114 = .ok (.invokevirtual 16, 3) := dk_182 0 16 (dk_at dksL_law_4 20 rfl rfl)
theorem dL_law_117 : decode cL_law 117 = .ok (.invokevirtual 16, 3) := dk_182 0 16 (dk_at dksL_law_5 0 rfl rfl)
theorem dL_law_120 : decode cL_law 120 = .ok (.if_icmp .eq 5, 3) := dk_159 0 5 (dk_at dksL_law_5 3 rfl rfl)
theorem dL_law_123 : decode cL_law 123 = .ok (.iconst 0, 1) := dk_3 (dk_at dksL_law_5 6 rfl rfl)
theorem dL_law_124 : decode cL_law 124 = .ok (.ireturn, 1) := dk_172 (dk_at dksL_law_5 7 rfl rfl)
theorem dL_law_125 : decode cL_law 125 = .ok (.aload_n 1, 1) := dk_43 (dk_at dksL_law_5 8 rfl rfl)
theorem dL_law_126 : decode cL_law 126 = .ok (.iload_n 2, 1) := dk_28 (dk_at dksL_law_5 9 rfl rfl)
theorem dL_law_127 : decode cL_law 127 = .ok (.iload 4, 2) := dk_21 4 (dk_at dksL_law_5 10 rfl rfl)
theorem dL_law_129 : decode cL_law 129 = .ok (.iload 5, 2) := dk_21 5 (dk_at dksL_law_5 12 rfl rfl)
theorem dL_law_131 : decode cL_law 131 = .ok (.ixor, 1) := dk_130 (dk_at dksL_law_5 14 rfl rfl)
theorem dL_law_132 : decode cL_law 132 = .ok (.iload 6, 2) := dk_21 6 (dk_at dksL_law_5 15 rfl rfl)
theorem dL_law_134 : decode cL_law 134 = .ok (.invokevirtual 16, 3) := dk_182 0 16 (dk_at dksL_law_5 17 rfl rfl)
theorem dL_law_137 : decode cL_law 137 = .ok (.aload_n 1, 1) := dk_43 (dk_at dksL_law_5 20 rfl rfl)
theorem dL_law_138 : decode cL_law 138 = .ok (.iload_n 2, 1) := dk_28 (dk_at dksL_law_5 21 rfl rfl)
theorem dL_law_139 : decode cL_law 139 = .ok (.iload 4, 2) := dk_21 4 (dk_at dksL_law_5 22 rfl rfl)
theorem dL_law_141 : decode cL_law 141 = .ok (.iload 6, 2) := dk_21 6 (dk_at dksL_law_6 0 rfl rfl)
theorem dL_law_143 : decode cL_law 143 = .ok (.invokevirtual 16, 3) := dk_182 0 16 (dk_at dksL_law_6 2 rfl rfl)
theorem dL_law_146 : decode cL_law 146 = .ok (.aload_n 1, 1) := dk_43 (dk_at dksL_law_6 5 rfl rfl)
theorem dL_law_147 : decode cL_law 147 = .ok (.iload_n 2, 1) := dk_28 (dk_at dksL_law_6 6 rfl rfl)
theorem dL_law_148 : decode cL_law 148 = .ok (.iload 5, 2) := dk_21 5 (dk_at dksL_law_6 7 rfl rfl)
theorem dL_law_150 : decode cL_law 150 = .ok (.iload 6, 2) := dk_21 6 (dk_at dksL_law_6 9 rfl rfl)
theorem dL_law_152 : decode cL_law 152 = .ok (.invokevirtual 16, 3) := dk_182 0 16 (dk_at dksL_law_6 11 rfl rfl)
theorem dL_law_155 : decode cL_law 155 = .ok (.ixor, 1) := dk_130 (dk_at dksL_law_6 14 rfl rfl)
theorem dL_law_156 : decode cL_law 156 = .ok (.if_icmp .eq 5, 3) := dk_159 0 5 (dk_at dksL_law_6 15 rfl rfl)
theorem dL_law_159 : decode cL_law 159 = .ok (.iconst 0, 1) := dk_3 (dk_at dksL_law_6 18 rfl rfl)
theorem dL_law_160 : decode cL_law 160 = .ok (.ireturn, 1) := dk_172 (dk_at dksL_law_6 19 rfl rfl)
theorem dL_law_161 : decode cL_law 161 = .ok (.aload_n 1, 1) := dk_43 (dk_at dksL_law_6 20 rfl rfl)
theorem dL_law_162 : decode cL_law 162 = .ok (.iload_n 2, 1) := dk_28 (dk_at dksL_law_6 21 rfl rfl)
theorem dL_law_163 : decode cL_law 163 = .ok (.iload 4, 2) := dk_21 4 (dk_at dksL_law_6 22 rfl rfl)
theorem dL_law_165 : decode cL_law 165 = .ok (.invokevirtual 20, 3) := dk_182 0 20 (dk_at dksL_law_7 0 rfl rfl)
theorem dL_law_168 : decode cL_law 168 = .ok (.aload_n 1, 1) := dk_43 (dk_at dksL_law_7 3 rfl rfl)
theorem dL_law_169 : decode cL_law 169 = .ok (.iload_n 2, 1) := dk_28 (dk_at dksL_law_7 4 rfl rfl)
theorem dL_law_170 : decode cL_law 170 = .ok (.iload 4, 2) := dk_21 4 (dk_at dksL_law_7 5 rfl rfl)
theorem dL_law_172 : decode cL_law 172 = .ok (.iload 4, 2) := dk_21 4 (dk_at dksL_law_7 7 rfl rfl)
theorem dL_law_174 : decode cL_law 174 = .ok (.invokevirtual 16, 3) := dk_182 0 16 (dk_at dksL_law_7 9 rfl rfl)
theorem dL_law_177 : decode cL_law 177 = .ok (.if_icmp .ne 20, 3) := dk_160 0 20 (dk_at dksL_law_7 12 rfl rfl)
theorem dL_law_180 : decode cL_law 180 = .ok (.aload_n 1, 1) := dk_43 (dk_at dksL_law_7 15 rfl rfl)
theorem dL_law_181 : decode cL_law 181 = .ok (.iload_n 2, 1) := dk_28 (dk_at dksL_law_7 16 rfl rfl)
theorem dL_law_182 : decode cL_law 182 = .ok (.iload 4, 2) := dk_21 4 (dk_at dksL_law_7 17 rfl rfl)
theorem dL_law_184 : decode cL_law 184 = .ok (.invokevirtual 24, 3) := dk_182 0 24 (dk_at dksL_law_7 19 rfl rfl)
theorem dL_law_187 : decode cL_law 187 = .ok (.aload_n 1, 1) := dk_43 (dk_at dksL_law_7 22 rfl rfl)
theorem dL_law_188 : decode cL_law 188 = .ok (.iload_n 2, 1) := dk_28 (dk_at dksL_law_7 23 rfl rfl)
theorem dL_law_189 : decode cL_law 189 = .ok (.iload 4, 2) := dk_21 4 (dk_at dksL_law_8 0 rfl rfl)
theorem dL_law_191 : decode cL_law 191 = .ok (.invokevirtual 20, 3) := dk_182 0 20 (dk_at dksL_law_8 2 rfl rfl)
theorem dL_law_194 : decode cL_law 194 = .ok (.if_icmp .eq 5, 3) := dk_159 0 5 (dk_at dksL_law_8 5 rfl rfl)
theorem dL_law_197 : decode cL_law 197 = .ok (.iconst 0, 1) := dk_3 (dk_at dksL_law_8 8 rfl rfl)
theorem dL_law_198 : decode cL_law 198 = .ok (.ireturn, 1) := dk_172 (dk_at dksL_law_8 9 rfl rfl)
theorem dL_law_199 : decode cL_law 199 = .ok (.aload_n 1, 1) := dk_43 (dk_at dksL_law_8 10 rfl rfl)
theorem dL_law_200 : decode cL_law 200 = .ok (.iload_n 2, 1) := dk_28 (dk_at dksL_law_8 11 rfl rfl)
theorem dL_law_201 : decode cL_law 201 = .ok (.iload 4, 2) := dk_21 4 (dk_at dksL_law_8 12 rfl rfl)
theorem dL_law_203 : decode cL_law 203 = .ok (.iload 5, 2) := dk_21 5 (dk_at dksL_law_8 14 rfl rfl)
theorem dL_law_205 : decode cL_law 205 = .ok (.ixor, 1) := dk_130 (dk_at dksL_law_8 16 rfl rfl)
theorem dL_law_206 : decode cL_law 206 = .ok (.invokevirtual 20, 3) := dk_182 0 20 (dk_at dksL_law_8 17 rfl rfl)
theorem dL_law_209 : decode cL_law 209 = .ok (.aload_n 1, 1) := dk_43 (dk_at dksL_law_8 20 rfl rfl)
theorem dL_law_210 : decode cL_law 210 = .ok (.iload_n 2, 1) := dk_28 (dk_at dksL_law_8 21 rfl rfl)
theorem dL_law_211 : decode cL_law 211 = .ok (.iload 4, 2) := dk_21 4 (dk_at dksL_law_8 22 rfl rfl)
theorem dL_law_213 : decode cL_law 213 = .ok (.invokevirtual 20, 3) := dk_182 0 20 (dk_at dksL_law_9 0 rfl rfl)
theorem dL_law_216 : decode cL_law 216 = .ok (.aload_n 1, 1) := dk_43 (dk_at dksL_law_9 3 rfl rfl)
theorem dL_law_217 : decode cL_law 217 = .ok (.iload_n 2, 1) := dk_28 (dk_at dksL_law_9 4 rfl rfl)
theorem dL_law_218 : decode cL_law 218 = .ok (.iload 5, 2) := dk_21 5 (dk_at dksL_law_9 5 rfl rfl)
theorem dL_law_220 : decode cL_law 220 = .ok (.invokevirtual 20, 3) := dk_182 0 20 (dk_at dksL_law_9 7 rfl rfl)
theorem dL_law_223 : decode cL_law 223 = .ok (.ixor, 1) := dk_130 (dk_at dksL_law_9 10 rfl rfl)
theorem dL_law_224 : decode cL_law 224 = .ok (.if_icmp .eq 5, 3) := dk_159 0 5 (dk_at dksL_law_9 11 rfl rfl)
theorem dL_law_227 : decode cL_law 227 = .ok (.iconst 0, 1) := dk_3 (dk_at dksL_law_9 14 rfl rfl)
theorem dL_law_228 : decode cL_law 228 = .ok (.ireturn, 1) := dk_172 (dk_at dksL_law_9 15 rfl rfl)
theorem dL_law_229 : decode cL_law 229 = .ok (.aload_n 1, 1) := dk_43 (dk_at dksL_law_9 16 rfl rfl)
theorem dL_law_230 : decode cL_law 230 = .ok (.iload_n 2, 1) := dk_28 (dk_at dksL_law_9 17 rfl rfl)
theorem dL_law_231 : decode cL_law 231 = .ok (.iload 4, 2) := dk_21 4 (dk_at dksL_law_9 18 rfl rfl)
theorem dL_law_233 : decode cL_law 233 = .ok (.iload 5, 2) := dk_21 5 (dk_at dksL_law_9 20 rfl rfl)
theorem dL_law_235 : decode cL_law 235 = .ok (.iload 4, 2) := dk_21 4 (dk_at dksL_law_9 22 rfl rfl)
theorem dL_law_237 : decode cL_law 237 = .ok (.iload 6, 2) := dk_21 6 (dk_at dksL_law_10 0 rfl rfl)
theorem dL_law_239 : decode cL_law 239 = .ok (.invokevirtual 27, 3) := dk_182 0 27 (dk_at dksL_law_10 2 rfl rfl)
theorem dL_law_242 : decode cL_law 242 = .ok (.aload_n 1, 1) := dk_43 (dk_at dksL_law_10 5 rfl rfl)
theorem dL_law_243 : decode cL_law 243 = .ok (.iload_n 2, 1) := dk_28 (dk_at dksL_law_10 6 rfl rfl)
theorem dL_law_244 : decode cL_law 244 = .ok (.iload 4, 2) := dk_21 4 (dk_at dksL_law_10 7 rfl rfl)
theorem dL_law_246 : decode cL_law 246 = .ok (.iload 5, 2) := dk_21 5 (dk_at dksL_law_10 9 rfl rfl)
theorem dL_law_248 : decode cL_law 248 = .ok (.iload 6, 2) := dk_21 6 (dk_at dksL_law_10 11 rfl rfl)
theorem dL_law_250 : decode cL_law 250 = .ok (.ixor, 1) := dk_130 (dk_at dksL_law_10 13 rfl rfl)
theorem dL_law_251 : decode cL_law 251 = .ok (.invokevirtual 16, 3) := dk_182 0 16 (dk_at dksL_law_10 14 rfl rfl)
theorem dL_law_254 : decode cL_law 254 = .ok (.if_icmp .eq 5, 3) := dk_159 0 5 (dk_at dksL_law_10 17 rfl rfl)
theorem dL_law_257 : decode cL_law 257 = .ok (.iconst 0, 1) := dk_3 (dk_at dksL_law_10 20 rfl rfl)
theorem dL_law_258 : decode cL_law 258 = .ok (.ireturn, 1) := dk_172 (dk_at dksL_law_10 21 rfl rfl)
theorem dL_law_259 : decode cL_law 259 = .ok (.aload_n 1, 1) := dk_43 (dk_at dksL_law_10 22 rfl rfl)
theorem dL_law_260 : decode cL_law 260 = .ok (.iload_n 2, 1) := dk_28 (dk_at dksL_law_10 23 rfl rfl)
theorem dL_law_261 : decode cL_law 261 = .ok (.iload 4, 2) := dk_21 4 (dk_at dksL_law_11 0 rfl rfl)
theorem dL_law_263 : decode cL_law 263 = .ok (.iconst 1, 1) := dk_4 (dk_at dksL_law_11 2 rfl rfl)
theorem dL_law_264 : decode cL_law 264 = .ok (.invokevirtual 16, 3) := dk_182 0 16 (dk_at dksL_law_11 3 rfl rfl)
theorem dL_law_267 : decode cL_law 267 = .ok (.iload 4, 2) := dk_21 4 (dk_at dksL_law_11 6 rfl rfl)
theorem dL_law_269 : decode cL_law 269 = .ok (.if_icmp .ne 23, 3) := dk_160 0 23 (dk_at dksL_law_11 8 rfl rfl)
theorem dL_law_272 : decode cL_law 272 = .ok (.aload_n 1, 1) := dk_43 (dk_at dksL_law_11 11 rfl rfl)
theorem dL_law_273 : decode cL_law 273 = .ok (.iload_n 2, 1) := dk_28 (dk_at dksL_law_11 12 rfl rfl)
theorem dL_law_274 : decode cL_law 274 = .ok (.iload 4, 2) := dk_21 4 (dk_at dksL_law_11 13 rfl rfl)
theorem dL_law_276 : decode cL_law 276 = .ok (.invokevirtual 31, 3) := dk_182 0 31 (dk_at dksL_law_11 15 rfl rfl)
theorem dL_law_279 : decode cL_law 279 = .ok (.iload 4, 2) := dk_21 4 (dk_at dksL_law_11 18 rfl rfl)
theorem dL_law_281 : decode cL_law 281 = .ok (.ifCond .ne 7, 3) := dk_154 0 7 (dk_at dksL_law_11 20 rfl rfl)
theorem dL_law_284 : decode cL_law 284 = .ok (.iconst 1, 1) := dk_4 (dk_at dksL_law_11 23 rfl rfl)
theorem dL_law_285 : decode cL_law 285 = .ok (.goto 4, 3) := dk_167 0 4 (dk_at dksL_law_12 0 rfl rfl)
theorem dL_law_288 : decode cL_law 288 = .ok (.iconst 0, 1) := dk_3 (dk_at dksL_law_12 3 rfl rfl)
theorem dL_law_289 : decode cL_law 289 = .ok (.if_icmp .eq 5, 3) := dk_159 0 5 (dk_at dksL_law_12 4 rfl rfl)
theorem dL_law_292 : decode cL_law 292 = .ok (.iconst 0, 1) := dk_3 (dk_at dksL_law_12 7 rfl rfl)
theorem dL_law_293 : decode cL_law 293 = .ok (.ireturn, 1) := dk_172 (dk_at dksL_law_12 8 rfl rfl)
theorem dL_law_294 : decode cL_law 294 = .ok (.iload 4, 2) := dk_21 4 (dk_at dksL_law_12 9 rfl rfl)
theorem dL_law_296 : decode cL_law 296 = .ok (.ifCond .ne 33, 3) := dk_154 0 33 (dk_at dksL_law_12 11 rfl rfl)
theorem dL_law_299 : decode cL_law 299 = .ok (.aload_n 1, 1) := dk_43 (dk_at dksL_law_12 14 rfl rfl)
theorem dL_law_300 : decode cL_law 300 = .ok (.iload_n 2, 1) := dk_28 (dk_at dksL_law_12 15 rfl rfl)
theorem dL_law_301 : decode cL_law 301 = .ok (.iload 4, 2) := dk_21 4 (dk_at dksL_law_12 16 rfl rfl)
theorem dL_law_303 : decode cL_law 303 = .ok (.invokevirtual 35, 3) := dk_182 0 35 (dk_at dksL_law_12 18 rfl rfl)
theorem dL_law_306 : decode cL_law 306 = .ok (.iconst (-1), 1) := dk_2 (dk_at dksL_law_12 21 rfl rfl)
theorem dL_law_307 : decode cL_law 307 = .ok (.if_icmp .ne 20, 3) := dk_160 0 20 (dk_at dksL_law_13 0 rfl rfl)
theorem dL_law_310 : decode cL_law 310 = .ok (.aload_n 1, 1) := dk_43 (dk_at dksL_law_13 3 rfl rfl)
theorem dL_law_311 : decode cL_law 311 = .ok (.iload_n 2, 1) := dk_28 (dk_at dksL_law_13 4 rfl rfl)
theorem dL_law_312 : decode cL_law 312 = .ok (.iload 5, 2) := dk_21 5 (dk_at dksL_law_13 5 rfl rfl)
theorem dL_law_314 : decode cL_law 314 = .ok (.iload 4, 2) := dk_21 4 (dk_at dksL_law_13 7 rfl rfl)
theorem dL_law_316 : decode cL_law 316 = .ok (.invokevirtual 38, 3) := dk_182 0 38 (dk_at dksL_law_13 9 rfl rfl)
theorem dL_law_319 : decode cL_law 319 = .ok (.iconst (-1), 1) := dk_2 (dk_at dksL_law_13 12 rfl rfl)
theorem dL_law_320 : decode cL_law 320 = .ok (.if_icmp .ne 7, 3) := dk_160 0 7 (dk_at dksL_law_13 13 rfl rfl)
theorem dL_law_323 : decode cL_law 323 = .ok (.iconst 1, 1) := dk_4 (dk_at dksL_law_13 16 rfl rfl)
theorem dL_law_324 : decode cL_law 324 = .ok (.goto 4, 3) := dk_167 0 4 (dk_at dksL_law_13 17 rfl rfl)
theorem dL_law_327 : decode cL_law 327 = .ok (.iconst 0, 1) := dk_3 (dk_at dksL_law_13 20 rfl rfl)
theorem dL_law_328 : decode cL_law 328 = .ok (.ireturn, 1) := dk_172 (dk_at dksL_law_13 21 rfl rfl)
theorem dL_law_329 : decode cL_law 329 = .ok (.aload_n 1, 1) := dk_43 (dk_at dksL_law_13 22 rfl rfl)
theorem dL_law_330 : decode cL_law 330 = .ok (.iload_n 2, 1) := dk_28 (dk_at dksL_law_13 23 rfl rfl)
theorem dL_law_331 : decode cL_law 331 = .ok (.iload 4, 2) := dk_21 4 (dk_at dksL_law_14 0 rfl rfl)
theorem dL_law_333 : decode cL_law 333 = .ok (.aload_n 1, 1) := dk_43 (dk_at dksL_law_14 2 rfl rfl)
theorem dL_law_334 : decode cL_law 334 = .ok (.iload_n 2, 1) := dk_28 (dk_at dksL_law_14 3 rfl rfl)
theorem dL_law_335 : decode cL_law 335 = .ok (.iload 4, 2) := dk_21 4 (dk_at dksL_law_14 4 rfl rfl)
theorem dL_law_337 : decode cL_law 337 = .ok (.invokevirtual 35, 3) := dk_182 0 35 (dk_at dksL_law_14 6 rfl rfl)
theorem dL_law_340 : decode cL_law 340 = .ok (.invokevirtual 16, 3) := dk_182 0 16 (dk_at dksL_law_14 9 rfl rfl)
theorem dL_law_343 : decode cL_law 343 = .ok (.iconst 1, 1) := dk_4 (dk_at dksL_law_14 12 rfl rfl)
theorem dL_law_344 : decode cL_law 344 = .ok (.if_icmp .ne 28, 3) := dk_160 0 28 (dk_at dksL_law_14 13 rfl rfl)
theorem dL_law_347 : decode cL_law 347 = .ok (.aload_n 1, 1) := dk_43 (dk_at dksL_law_14 16 rfl rfl)
theorem dL_law_348 : decode cL_law 348 = .ok (.iload_n 2, 1) := dk_28 (dk_at dksL_law_14 17 rfl rfl)
theorem dL_law_349 : decode cL_law 349 = .ok (.aload_n 1, 1) := dk_43 (dk_at dksL_law_14 18 rfl rfl)
theorem dL_law_350 : decode cL_law 350 = .ok (.iload_n 2, 1) := dk_28 (dk_at dksL_law_14 19 rfl rfl)
theorem dL_law_351 : decode cL_law 351 = .ok (.iload 5, 2) := dk_21 5 (dk_at dksL_law_14 20 rfl rfl)
theorem dL_law_353 : decode cL_law 353 = .ok (.iload 4, 2) := dk_21 4 (dk_at dksL_law_14 22 rfl rfl)
theorem dL_law_355 : decode cL_law 355 = .ok (.invokevirtual 38, 3) := dk_182 0 38 (dk_at dksL_law_15 0 rfl rfl)
theorem dL_law_358 : decode cL_law 358 = .ok (.iload 4, 2) := dk_21 4 (dk_at dksL_law_15 3 rfl rfl)
theorem dL_law_360 : decode cL_law 360 = .ok (.invokevirtual 16, 3) := dk_182 0 16 (dk_at dksL_law_15 5 rfl rfl)
theorem dL_law_363 : decode cL_law 363 = .ok (.iload 5, 2) := dk_21 5 (dk_at dksL_law_15 8 rfl rfl)
theorem dL_law_365 : decode cL_law 365 = .ok (.if_icmp .ne 7, 3) := dk_160 0 7 (dk_at dksL_law_15 10 rfl rfl)
theorem dL_law_368 : decode cL_law 368 = .ok (.iconst 1, 1) := dk_4 (dk_at dksL_law_15 13 rfl rfl)
theorem dL_law_369 : decode cL_law 369 = .ok (.goto 4, 3) := dk_167 0 4 (dk_at dksL_law_15 14 rfl rfl)
theorem dL_law_372 : decode cL_law 372 = .ok (.iconst 0, 1) := dk_3 (dk_at dksL_law_15 17 rfl rfl)
theorem dL_law_373 : decode cL_law 373 = .ok (.ireturn, 1) := dk_172 (dk_at dksL_law_15 18 rfl rfl)
end
section
/-! ROWS IN NAT: ints that are nI n, longs that are lN n -/
theorem nw_and (a b : Nat) : nI a &&& nI b = nI (a &&& b) := by
  apply Int32.toBitVec_inj.1
  show BitVec.ofNat 32 a &&& BitVec.ofNat 32 b = BitVec.ofNat 32 (a &&& b)
  apply BitVec.eq_of_getLsbD_eq
  intro i hi
  simp [hi]
theorem nw_xor (a b : Nat) : nI a ^^^ nI b = nI (a ^^^ b) := by
  apply Int32.toBitVec_inj.1
  show BitVec.ofNat 32 a ^^^ BitVec.ofNat 32 b = BitVec.ofNat 32 (a ^^^ b)
  apply BitVec.eq_of_getLsbD_eq
  intro i hi
  simp [hi]
theorem nw_or (a b : Nat) : nI a ||| nI b = nI (a ||| b) := by
  apply Int32.toBitVec_inj.1
  show BitVec.ofNat 32 a ||| BitVec.ofNat 32 b = BitVec.ofNat 32 (a ||| b)
  apply BitVec.eq_of_getLsbD_eq
  intro i hi
  simp [hi]
theorem nw_sl : ∀ k, k < 32 → ((nI k &&& 31).toBitVec.smod 32).toNat = k := by decide +kernel
theorem nw_su : ∀ k, k < 32 → (((nI k).toUInt32 &&& Int32.toUInt32 31).toBitVec % 32).toNat = k := by decide +kernel
theorem nw_shl (a : Nat) {k : Nat} (hk : k < 32) : nI a <<< (nI k &&& 31) = nI (a <<< k) := by
  apply Int32.toBitVec_inj.mp
  apply BitVec.eq_of_toNat_eq
  rw [pk_shl _ _ k (nw_sl k hk)]
  show (BitVec.ofNat 32 a).toNat * 2 ^ k % 2 ^ 32 = (BitVec.ofNat 32 (a <<< k)).toNat
  rw [BitVec.toNat_ofNat, BitVec.toNat_ofNat, Nat.shiftLeft_eq, Nat.mul_mod, Nat.mod_mod, ← Nat.mul_mod]
theorem nw_ushr {a k : Nat} (ha : a < 2 ^ 32) (hk : k < 32) : ((nI a).toUInt32 >>> ((nI k).toUInt32 &&& Int32.toUInt32 31)).toInt32 = nI (a >>> k) := by
  rw [pk_ushrN ha (nI k) k (nw_su k hk), Nat.shiftRight_eq_div_pow]
theorem nw_i2s {a : Nat} (h : a < 32768) : (nI a).toInt16.toInt32 = nI a := by
  show (Int32.ofNat a).toInt16.toInt32 = Int32.ofNat a
  have e : Int16.maxValue.toInt = 32767 := by decide
  rw [Int32.toInt16_ofNat', Int16.toInt32_ofNat' (by rw [e]; omega)]
theorem nw_short {a : Nat} (h : a < 32768) : narrow .short (.int (nI a)) = .int (nI a) := by
  have h1 := pk_ns (nI a)
  rw [nw_i2s h] at h1
  exact h1
theorem nw_inc (i : Nat) : nI i + Int32.ofInt 1 = nI (i + 1) := nI_1 i
theorem nw_lxor (a b : Nat) : lN a ^^^ lN b = lN (a ^^^ b) := by
  apply Int64.toBitVec_inj.1
  show BitVec.ofNat 64 a ^^^ BitVec.ofNat 64 b = BitVec.ofNat 64 (a ^^^ b)
  apply BitVec.eq_of_getLsbD_eq
  intro i hi
  simp [hi]
theorem nw_land (a b : Nat) : lN a &&& lN b = lN (a &&& b) := by
  apply Int64.toBitVec_inj.1
  show BitVec.ofNat 64 a &&& BitVec.ofNat 64 b = BitVec.ofNat 64 (a &&& b)
  apply BitVec.eq_of_getLsbD_eq
  intro i hi
  simp [hi]
theorem nw_lc : ∀ k, k < 64 → ((nI k).toInt64 &&& 63) = lN k := by decide +kernel
theorem nw_lcu : ∀ k, k < 64 → ((nI k).toInt64.toUInt64 &&& Int64.toUInt64 63) = UInt64.ofNat k := by decide +kernel
theorem nw_lsm : ∀ k, k < 64 → (BitVec.ofNat 64 k).smod 64 = BitVec.ofNat 64 k := by decide +kernel
theorem nw_ltb (n : Nat) : (lN n).toBitVec = BitVec.ofNat 64 n := rfl
theorem nw_lshl (a : Nat) {k : Nat} (hk : k < 64) : lN a <<< ((nI k).toInt64 &&& 63) = lN (a <<< k) := by
  rw [nw_lc k hk]
  apply Int64.toBitVec_inj.mp
  rw [Int64.toBitVec_shiftLeft, nw_ltb, nw_ltb, nw_ltb, nw_lsm k hk]
  apply BitVec.eq_of_toNat_eq
  rw [BitVec.shiftLeft_eq', BitVec.toNat_shiftLeft, BitVec.toNat_ofNat, BitVec.toNat_ofNat, BitVec.toNat_ofNat, Nat.mod_eq_of_lt (show k < 2 ^ 64 by omega), Nat.shiftLeft_eq, Nat.shiftLeft_eq, Nat.mul_mod, Nat.mod_mod, ← Nat.mul_mod]
theorem nw_lushr {a k : Nat} (ha : a < 2 ^ 64) (hk : k < 64) : ((lN a).toUInt64 >>> ((nI k).toInt64.toUInt64 &&& Int64.toUInt64 63)).toInt64 = lN (a >>> k) := by
  rw [nw_lcu k hk]
  apply Int64.toBitVec_inj.mp
  apply BitVec.eq_of_toNat_eq
  show ((lN a).toUInt64 >>> UInt64.ofNat k).toNat = (BitVec.ofNat 64 _).toNat
  have h1 : (UInt64.ofNat k).toNat = k := by
    show (BitVec.ofNat 64 k).toNat = k
    rw [BitVec.toNat_ofNat, Nat.mod_eq_of_lt (by omega)]
  have h2 : (lN a).toUInt64.toNat = a := by
    show (BitVec.ofNat 64 a).toNat = a
    rw [BitVec.toNat_ofNat, Nat.mod_eq_of_lt ha]
  have h3 : a >>> k ≤ a := Nat.shiftRight_le a k
  rw [UInt64.toNat_shiftRight, h1, h2, Nat.mod_eq_of_lt hk, BitVec.toNat_ofNat, Nat.mod_eq_of_lt (Nat.lt_of_le_of_lt h3 ha)]
section NW
variable {p : Program} {l : Launch} {e : Env} {R : Room} {s : State} {m : MethodId} {args : Array Value} {below : List Frame} {meth : Method} {c : Code} {H : Heap} {locs : List Loc} {cells slots : Nat} {Q : State → Prop}
variable {cc : ByteArray} {pc : Nat} {ls : Array Slot} {rest : List Value}
theorem nw_wand (hexec : p.tables.exec = Jvm.exec) (hb : c.code = cc) {a b : Nat} (hdg : decode cc pc = .ok (.iand, 1)) (k : W p l e R s m args below meth c H locs cells slots Q (F0 m (pc + 1) ls (.int (nI (a &&& b)) :: rest))) : W p l e R s m args below meth c H locs cells slots Q (F0 m pc ls (.int (nI b) :: .int (nI a) :: rest)) :=
  lv_iand hexec hb hdg (by rw [nw_and]; exact k)
theorem nw_wxor (hexec : p.tables.exec = Jvm.exec) (hb : c.code = cc) {a b : Nat} (hdg : decode cc pc = .ok (.ixor, 1)) (k : W p l e R s m args below meth c H locs cells slots Q (F0 m (pc + 1) ls (.int (nI (a ^^^ b)) :: rest))) : W p l e R s m args below meth c H locs cells slots Q (F0 m pc ls (.int (nI b) :: .int (nI a) :: rest)) :=
  lv_ixor hexec hb hdg (by rw [nw_xor]; exact k)
theorem nw_wor (hexec : p.tables.exec = Jvm.exec) (hb : c.code = cc) {a b : Nat} (hdg : decode cc pc = .ok (.ior, 1)) (k : W p l e R s m args below meth c H locs cells slots Q (F0 m (pc + 1) ls (.int (nI (a ||| b)) :: rest))) : W p l e R s m args below meth c H locs cells slots Q (F0 m pc ls (.int (nI b) :: .int (nI a) :: rest)) :=
  lv_ior hexec hb hdg (by rw [nw_or]; exact k)
theorem nw_wmul (hexec : p.tables.exec = Jvm.exec) (hb : c.code = cc) {a b : Nat} (hdg : decode cc pc = .ok (.imul, 1)) (k : W p l e R s m args below meth c H locs cells slots Q (F0 m (pc + 1) ls (.int (nI (a * b)) :: rest))) : W p l e R s m args below meth c H locs cells slots Q (F0 m pc ls (.int (nI b) :: .int (nI a) :: rest)) :=
  lv_imul hexec hb hdg (by rw [pk_mul]; exact k)
theorem nw_wshl (hexec : p.tables.exec = Jvm.exec) (hb : c.code = cc) {a b : Nat} (h : b < 32) (hdg : decode cc pc = .ok (.ishl, 1)) (k : W p l e R s m args below meth c H locs cells slots Q (F0 m (pc + 1) ls (.int (nI (a <<< b)) :: rest))) : W p l e R s m args below meth c H locs cells slots Q (F0 m pc ls (.int (nI b) :: .int (nI a) :: rest)) :=
  lv_ishl hexec hb hdg (by rw [nw_shl a h]; exact k)
theorem nw_wushr (hexec : p.tables.exec = Jvm.exec) (hb : c.code = cc) {a b : Nat} (h : b < 32) (ha : a < 2 ^ 32) (hdg : decode cc pc = .ok (.iushr, 1)) (k : W p l e R s m args below meth c H locs cells slots Q (F0 m (pc + 1) ls (.int (nI (a >>> b)) :: rest))) : W p l e R s m args below meth c H locs cells slots Q (F0 m pc ls (.int (nI b) :: .int (nI a) :: rest)) :=
  lv_iushr hexec hb hdg (nw_ushr ha h) k
theorem nw_wi2s (hexec : p.tables.exec = Jvm.exec) (hb : c.code = cc) {a : Nat} (h : a < 32768) (hdg : decode cc pc = .ok (.i2s, 1)) (k : W p l e R s m args below meth c H locs cells slots Q (F0 m (pc + 1) ls (.int (nI a) :: rest))) : W p l e R s m args below meth c H locs cells slots Q (F0 m pc ls (.int (nI a) :: rest)) :=
  lv_i2s hexec hb hdg (nw_i2s h) k
theorem nw_wi2l (hexec : p.tables.exec = Jvm.exec) (hb : c.code = cc) {a : Nat} (h : a < 2 ^ 31) (hdg : decode cc pc = .ok (.i2l, 1)) (k : W p l e R s m args below meth c H locs cells slots Q (F0 m (pc + 1) ls (.long (lN a) :: rest))) : W p l e R s m args below meth c H locs cells slots Q (F0 m pc ls (.int (nI a) :: rest)) :=
  lv_i2l hexec hb hdg (nI_l h) k
theorem nw_wl2i (hexec : p.tables.exec = Jvm.exec) (hb : c.code = cc) {a : Nat} (hdg : decode cc pc = .ok (.l2i, 1)) (k : W p l e R s m args below meth c H locs cells slots Q (F0 m (pc + 1) ls (.int (nI a) :: rest))) : W p l e R s m args below meth c H locs cells slots Q (F0 m pc ls (.long (lN a) :: rest)) :=
  lv_l2i hexec hb hdg (lN_i a) k
theorem nw_wland (hexec : p.tables.exec = Jvm.exec) (hb : c.code = cc) {a b : Nat} (hdg : decode cc pc = .ok (.land, 1)) (k : W p l e R s m args below meth c H locs cells slots Q (F0 m (pc + 1) ls (.long (lN (a &&& b)) :: rest))) : W p l e R s m args below meth c H locs cells slots Q (F0 m pc ls (.long (lN b) :: .long (lN a) :: rest)) :=
  lv_land hexec hb hdg (by rw [nw_land]; exact k)
theorem nw_wlxor (hexec : p.tables.exec = Jvm.exec) (hb : c.code = cc) {a b : Nat} (hdg : decode cc pc = .ok (.lxor, 1)) (k : W p l e R s m args below meth c H locs cells slots Q (F0 m (pc + 1) ls (.long (lN (a ^^^ b)) :: rest))) : W p l e R s m args below meth c H locs cells slots Q (F0 m pc ls (.long (lN b) :: .long (lN a) :: rest)) :=
  lv_lxor hexec hb hdg (by rw [nw_lxor]; exact k)
theorem nw_wlmul (hexec : p.tables.exec = Jvm.exec) (hb : c.code = cc) {a b : Nat} (hdg : decode cc pc = .ok (.lmul, 1)) (k : W p l e R s m args below meth c H locs cells slots Q (F0 m (pc + 1) ls (.long (lN (a * b)) :: rest))) : W p l e R s m args below meth c H locs cells slots Q (F0 m pc ls (.long (lN b) :: .long (lN a) :: rest)) :=
  lv_lmul hexec hb hdg (by rw [lN_mul]; exact k)
theorem nw_wlshl (hexec : p.tables.exec = Jvm.exec) (hb : c.code = cc) {a b : Nat} (h : b < 64) (hdg : decode cc pc = .ok (.lshl, 1)) (k : W p l e R s m args below meth c H locs cells slots Q (F0 m (pc + 1) ls (.long (lN (a <<< b)) :: rest))) : W p l e R s m args below meth c H locs cells slots Q (F0 m pc ls (.int (nI b) :: .long (lN a) :: rest)) :=
  lv_lshl hexec hb hdg (nw_lshl a h) k
theorem nw_wlushr (hexec : p.tables.exec = Jvm.exec) (hb : c.code = cc) {a b : Nat} (h : b < 64) (ha : a < 2 ^ 64) (hdg : decode cc pc = .ok (.lushr, 1)) (k : W p l e R s m args below meth c H locs cells slots Q (F0 m (pc + 1) ls (.long (lN (a >>> b)) :: rest))) : W p l e R s m args below meth c H locs cells slots Q (F0 m pc ls (.int (nI b) :: .long (lN a) :: rest)) :=
  lv_lushr hexec hb hdg (nw_lushr ha h) k
theorem nw_topi {a : Nat} (k : ∀ y : Nat, y = a → W p l e R s m args below meth c H locs cells slots Q (F0 m pc ls (.int (nI y) :: rest))) : W p l e R s m args below meth c H locs cells slots Q (F0 m pc ls (.int (nI a) :: rest)) := k a rfl
theorem nw_topl {a : Nat} (k : ∀ y : Nat, y = a → W p l e R s m args below meth c H locs cells slots Q (F0 m pc ls (.long (lN y) :: rest))) : W p l e R s m args below meth c H locs cells slots Q (F0 m pc ls (.long (lN a) :: rest)) := k a rfl
/-- a value that is known to be another -/
theorem nw_swap {a b : Nat} (h : a = b) (k : W p l e R s m args below meth c H locs cells slots Q (F0 m pc ls (.int (nI b) :: rest))) : W p l e R s m args below meth c H locs cells slots Q (F0 m pc ls (.int (nI a) :: rest)) := by
  rw [h]
  exact k
/-- the end of a method that only reads -/
theorem nw_ret {v r : Int32} {ty : FieldType} (hexec : p.tables.exec = Jvm.exec) (hb : c.code = cc) (hr : meth.sig.returnType = some ty) (hlocks : meth.locks = false) (hn : narrow ty (.int v) = .int v) (hv : v = r) (hdg : decode cc pc = .ok (.ireturn, 1)) : W p l e R s m args below meth c s.heap [] 0 0 (MQ below (QcRead r) args s 0 0 (fun _ => False)) (F0 m pc ls [.int v]) :=
  W.zret hexec hb hr hn (fun t ht _ => ⟨by rw [hv], ht⟩) (fun q h => by cases h) hdg hlocks
/-- the end of a method that answers nothing and changes nothing -/
def nw_QcV : Array Value → State → Outcome → State → Prop := fun _ st o t => o = .returned none ∧ t.heap = st.heap
theorem nw_vret (hexec : p.tables.exec = Jvm.exec) (hb : c.code = cc) (hr : meth.sig.returnType = none) (hlocks : meth.locks = false) (hdg : decode cc pc = .ok (.return_, 1)) : W p l e R s m args below meth c s.heap [] 0 0 (MQ below nw_QcV args s 0 0 (fun _ => False)) (F0 m pc ls []) :=
  W.vret hexec hb hr (fun t ht _ => ⟨rfl, ht⟩) (fun q h => by cases h) hdg hlocks
/-- a call of a method that only reads -/
theorem nw_calli {st0 : List Value} {a : Array Value} {r : Int32} (hr : CallRun p l e R s m args below meth c H locs cells slots 0 0 (F0 m pc ls st0) rest (QcRead r a) (fun _ => False)) (kk : W p l e R s m args below meth c H locs cells slots Q (F0 m (pc + 3) ls (.int r :: rest))) : W p l e R s m args below meth c H locs cells slots Q (F0 m pc ls st0) := W.callR hr kk
theorem nw_callv {st0 : List Value} {a : Array Value} (hr : CallRun p l e R s m args below meth c H locs cells slots 0 0 (F0 m pc ls st0) rest (nw_QcV a) (fun _ => False)) (kk : W p l e R s m args below meth c H locs cells slots Q (F0 m (pc + 3) ls rest)) : W p l e R s m args below meth c H locs cells slots Q (F0 m pc ls st0) := by
  intro T hT X
  obtain ⟨v, st₀, t, T', L, h0, X', hL, e1, ⟨hv, hh⟩, st⟩ := hr T hT X
  cases hv
  obtain ⟨t2, a1, b1⟩ := kk T' (by rw [e1, hh, h0]) (Stand.forget X' (fun q h => (hL q h).elim))
  exact ⟨t2, st t2 a1, b1⟩
end NW
/-- at g there stands an object made of C -/
def nw_Rc (C : String) (g : Nat) (s : State) (H : Heap) : Prop := ∃ cell : Cell, H[g]? = some cell ∧ cell.vm.isStatics = false ∧ s.vm.findClass C = some cell.cls
theorem nw_Rc.at {C : String} {g : Nat} {s U : State} {H : Heap} (h : nw_Rc C g s H) (hU : U.heap = H) (hW : s.WarmedH U.vm) : nw_Rc C g U U.heap := by
  obtain ⟨cell, h1, h2, h3⟩ := h
  exact ⟨cell, by rw [hU]; exact h1, h2, by rw [hW.alike.findClass]; exact h3⟩
/-- what a call asks whose named method is abstract or inherited: va_cwA, va_cwU n hts (nw_U ..) -/
theorem nw_U {own : String} {idx : Nat} {C owner : String} {x y : MethodName} {b : ByteArray} {L : Nat} {r : Option FieldType} (h1 : Cond.methodLink own idx x ∈ lw_all) (h2 : Cond.sameMethod x.cls owner x.name x.desc ∈ lw_all) (h3 : Cond.selects C x y ∈ lw_all) (h4 : Cond.instanceMethod y ∈ lw_all) (h5 : Cond.initialized y.cls ∈ lw_all) (h6 : Cond.code y b L r ∈ lw_all) : GoodIn lw_all (va_wsU own idx C owner x y (ws_ y b L r)) := by
  refine lw_app ?_ (lw_meth h6)
  intro w hw
  simp only [List.mem_cons, List.not_mem_nil, or_false] at hw
  rcases hw with e | e | e | e | e
  · rw [e]; exact h1
  · rw [e]; exact h2
  · rw [e]; exact h3
  · rw [e]; exact h4
  · rw [e]; exact h5
abbrev nw_rm0 : Room := { frames := 0, cells := 0, slots := 0, locals := 0 }
abbrev nw_rm1 : Room := { frames := 1, cells := 0, slots := 0, locals := 27 }
abbrev nw_rm2 : Room := { frames := 2, cells := 0, slots := 0, locals := 57 }
abbrev nw_rm3 : Room := { frames := 3, cells := 0, slots := 0, locals := 82 }
abbrev nw_rm4 : Room := { frames := 4, cells := 0, slots := 0, locals := 104 }
end
section
/-! Interleave and GF: contracts of methods that only read -/
set_option maxHeartbeats 4000000 in
set_option maxRecDepth 100000 in
/-- expand16to32(x) -/
theorem m5_expand (l : Launch) (x : Nat) : Met l yX5_expand16to32 (ws_ yX5_expand16to32 cX5_expand16to32 1 (some .int)) nw_rm0 (va_Pc [.int (nI x)] (fun U => True)) (QcRead (nI (gf_exp x))) 0 0 (fun _ => False) := by
  refine Met.ofW (cc := cX5_expand16to32) (maxL := 1) (ret := some .int) (by decide) rfl ?_
  intro p e s m args below meth c s₁ B hml hv
  obtain ⟨rfl, hS⟩ := hv
  have hx := B.exec
  have hb := B.bytes
  have hr := B.returns
  have hts := atoms_spec (ws := ws_ yX5_expand16to32 cX5_expand16to32 1 (some .int)) B.pre
  have hts : ∀ w ∈ lw_all, w.before _ s = true := fun w h => hts w (List.mem_cons_of_mem _ h)
  have hown : s.vm.findClass RX5 = some m.cls := findClass_of_methodNamed B.named
  have hlocks := B.notSynchronized
  have hl := lv_entry ([.int (nI x)]) (n := 1) (Nat.le_of_ble_eq_true rfl)
  rw [lg_entry_eq]
  generalize (lg_sl ([.int (nI x)]) ++ List.replicate (1 - (lg_sl ([.int (nI x)])).length) Slot.unset).toArray = ls at hl ⊢
  have hl : lv_has ls 1 [(0, .int (nI x))] := hl
  refine lv_iload_n hx hb dX5_expand16to32_0 rfl (lv_at hl 0 rfl) ?_
  refine lv_ldc (v := nI 65535) hx hb hown (hts _ q79) dX5_expand16to32_1 ?_
  refine nw_wand hx hb dX5_expand16to32_3 ?_
  refine nw_topi (fun v1 ev1 => ?_)
  refine lv_istore_n (lv' := [(0, .int (nI v1))]) hx hb dX5_expand16to32_4 rfl hl (by decide) rfl (fun ls hl => ?_)
  refine lv_iload_n hx hb dX5_expand16to32_5 rfl (lv_at hl 0 rfl) ?_
  refine lv_iload_n hx hb dX5_expand16to32_6 rfl (lv_at hl 0 rfl) ?_
  refine lv_bipush (v := nI 8) hx hb dX5_expand16to32_7 (by decide +kernel) ?_
  refine nw_wshl hx hb (by decide) dX5_expand16to32_9 ?_
  refine nw_wor hx hb dX5_expand16to32_10 ?_
  refine lv_ldc (v := nI 16711935) hx hb hown (hts _ q80) dX5_expand16to32_11 ?_
  refine nw_wand hx hb dX5_expand16to32_13 ?_
  refine nw_topi (fun v2 ev2 => ?_)
  refine lv_istore_n (lv' := [(0, .int (nI v2))]) hx hb dX5_expand16to32_14 rfl hl (by decide) rfl (fun ls hl => ?_)
  refine lv_iload_n hx hb dX5_expand16to32_15 rfl (lv_at hl 0 rfl) ?_
  refine lv_iload_n hx hb dX5_expand16to32_16 rfl (lv_at hl 0 rfl) ?_
  refine lv_iconst (v := nI 4) hx hb dX5_expand16to32_17 (by decide +kernel) ?_
  refine nw_wshl hx hb (by decide) dX5_expand16to32_18 ?_
  refine nw_wor hx hb dX5_expand16to32_19 ?_
  refine lv_ldc (v := nI 252645135) hx hb hown (hts _ q81) dX5_expand16to32_20 ?_
  refine nw_wand hx hb dX5_expand16to32_22 ?_
  refine nw_topi (fun v3 ev3 => ?_)
  refine lv_istore_n (lv' := [(0, .int (nI v3))]) hx hb dX5_expand16to32_23 rfl hl (by decide) rfl (fun ls hl => ?_)
  refine lv_iload_n hx hb dX5_expand16to32_24 rfl (lv_at hl 0 rfl) ?_
  refine lv_iload_n hx hb dX5_expand16to32_25 rfl (lv_at hl 0 rfl) ?_
  refine lv_iconst (v := nI 2) hx hb dX5_expand16to32_26 (by decide +kernel) ?_
  refine nw_wshl hx hb (by decide) dX5_expand16to32_27 ?_
  refine nw_wor hx hb dX5_expand16to32_28 ?_
  refine lv_ldc (v := nI 858993459) hx hb hown (hts _ q82) dX5_expand16to32_29 ?_
  refine nw_wand hx hb dX5_expand16to32_31 ?_
  refine nw_topi (fun v4 ev4 => ?_)
  refine lv_istore_n (lv' := [(0, .int (nI v4))]) hx hb dX5_expand16to32_32 rfl hl (by decide) rfl (fun ls hl => ?_)
  refine lv_iload_n hx hb dX5_expand16to32_33 rfl (lv_at hl 0 rfl) ?_
  refine lv_iload_n hx hb dX5_expand16to32_34 rfl (lv_at hl 0 rfl) ?_
  refine lv_iconst (v := nI 1) hx hb dX5_expand16to32_35 (by decide +kernel) ?_
  refine nw_wshl hx hb (by decide) dX5_expand16to32_36 ?_
  refine nw_wor hx hb dX5_expand16to32_37 ?_
  refine lv_ldc (v := nI 1431655765) hx hb hown (hts _ q83) dX5_expand16to32_38 ?_
  refine nw_wand hx hb dX5_expand16to32_40 ?_
  refine nw_topi (fun v5 ev5 => ?_)
  refine lv_istore_n (lv' := [(0, .int (nI v5))]) hx hb dX5_expand16to32_41 rfl hl (by decide) rfl (fun ls hl => ?_)
  refine lv_iload_n hx hb dX5_expand16to32_42 rfl (lv_at hl 0 rfl) ?_
  subst ev1 ev2 ev3 ev4 ev5
  exact nw_ret hx hb hr hlocks (vp_nar_int _) (rfl) dX5_expand16to32_43
set_option maxHeartbeats 4000000 in
set_option maxRecDepth 100000 in
/-- gf_iszero(0): -1 -/
theorem m2_iszero_z (l : Launch) (h0 : Nat) : Met l yX2_gf_iszero (ws_ yX2_gf_iszero cX2_gf_iszero 2 (some .short)) nw_rm0 (va_Pc [.ref h0, .int (nI 0)] (fun U => True)) (QcRead (-1)) 0 0 (fun _ => False) := by
  refine Met.ofW (cc := cX2_gf_iszero) (maxL := 2) (ret := some .short) (by decide) rfl ?_
  intro p e s m args below meth c s₁ B hml hv
  obtain ⟨rfl, hS⟩ := hv
  have hx := B.exec
  have hb := B.bytes
  have hr := B.returns
  have hts := atoms_spec (ws := ws_ yX2_gf_iszero cX2_gf_iszero 2 (some .short)) B.pre
  have hts : ∀ w ∈ lw_all, w.before _ s = true := fun w h => hts w (List.mem_cons_of_mem _ h)
  have hown : s.vm.findClass RX2 = some m.cls := findClass_of_methodNamed B.named
  have hlocks := B.notSynchronized
  have hl := lv_entry ([.ref h0, .int (nI 0)]) (n := 2) (Nat.le_of_ble_eq_true rfl)
  rw [lg_entry_eq]
  generalize (lg_sl ([.ref h0, .int (nI 0)]) ++ List.replicate (2 - (lg_sl ([.ref h0, .int (nI 0)])).length) Slot.unset).toArray = ls at hl ⊢
  have hl : lv_has ls 2 [(0, .ref h0), (1, .int (nI 0))] := hl
  refine lv_iload_n hx hb dX2_gf_iszero_0 rfl (lv_at hl 1 rfl) ?_
  refine lv_iconst (v := nI 1) hx hb dX2_gf_iszero_1 (by decide +kernel) ?_
  refine lv_isub hx hb dX2_gf_iszero_2 ?_
  refine lv_bipush (v := nI 31) hx hb dX2_gf_iszero_3 (by decide +kernel) ?_
  refine lv_ishr hx hb dX2_gf_iszero_5 ?_
  refine lv_i2s (v := -1) hx hb dX2_gf_iszero_6 (by decide +kernel) ?_
  exact nw_ret hx hb hr hlocks (by decide +kernel) rfl dX2_gf_iszero_7
set_option maxHeartbeats 4000000 in
set_option maxRecDepth 100000 in
/-- gf_iszero(a) of another a: 0 -/
theorem m2_iszero (l : Launch) (h0 a : Nat) (ha : a < 2 ^ 13) (hz : a ≠ 0) : Met l yX2_gf_iszero (ws_ yX2_gf_iszero cX2_gf_iszero 2 (some .short)) nw_rm0 (va_Pc [.ref h0, .int (nI a)] (fun U => True)) (QcRead (nI 0)) 0 0 (fun _ => False) := by
  refine Met.ofW (cc := cX2_gf_iszero) (maxL := 2) (ret := some .short) (by decide) rfl ?_
  intro p e s m args below meth c s₁ B hml hv
  obtain ⟨rfl, hS⟩ := hv
  have hx := B.exec
  have hb := B.bytes
  have hr := B.returns
  have hts := atoms_spec (ws := ws_ yX2_gf_iszero cX2_gf_iszero 2 (some .short)) B.pre
  have hts : ∀ w ∈ lw_all, w.before _ s = true := fun w h => hts w (List.mem_cons_of_mem _ h)
  have hown : s.vm.findClass RX2 = some m.cls := findClass_of_methodNamed B.named
  have hlocks := B.notSynchronized
  have hl := lv_entry ([.ref h0, .int (nI a)]) (n := 2) (Nat.le_of_ble_eq_true rfl)
  rw [lg_entry_eq]
  generalize (lg_sl ([.ref h0, .int (nI a)]) ++ List.replicate (2 - (lg_sl ([.ref h0, .int (nI a)])).length) Slot.unset).toArray = ls at hl ⊢
  have hl : lv_has ls 2 [(0, .ref h0), (1, .int (nI a))] := hl
  refine lv_iload_n hx hb dX2_gf_iszero_0 rfl (lv_at hl 1 rfl) ?_
  refine lv_iconst (v := nI 1) hx hb dX2_gf_iszero_1 (by decide +kernel) ?_
  refine lv_isub hx hb dX2_gf_iszero_2 ?_
  refine lv_bipush (v := nI 31) hx hb dX2_gf_iszero_3 (by decide +kernel) ?_
  refine lv_ishr hx hb dX2_gf_iszero_5 ?_
  have h1 : a - 1 < 2 ^ 31 := by omega
  have e1 : (nI a - nI 1) >>> (nI 31 &&& 31) = nI 0 := by
    rw [pk_sub (show 1 ≤ a by omega), pk_shrN h1 _ 31 (by decide +kernel), Nat.div_eq_of_lt h1]
  refine lv_i2s (v := nI 0) hx hb dX2_gf_iszero_6 (by rw [e1]; exact nw_i2s (by decide)) ?_
  exact nw_ret hx hb hr hlocks (nw_short (by decide)) rfl dX2_gf_iszero_7
end
section
/-! GF12: contracts of methods that only read -/
theorem gf_clm_1 (x y : Nat) : x * (y &&& 1) = gf_clm x y 1 := (Nat.zero_xor _).symm
set_option maxHeartbeats 4000000 in
set_option maxRecDepth 100000 in
/-- GF12.gf_reduce(x) -/
theorem m3_reduce (l : Launch) (h0 x : Nat) (hx24 : x < 2 ^ 24) : Met l yX3_gf_reduce (ws_ yX3_gf_reduce cX3_gf_reduce 7 (some .short)) nw_rm0 (va_Pc [.ref h0, .int (nI x)] (fun U => True)) (QcRead (nI (gf_red12 x))) 0 0 (fun _ => False) := by
  refine Met.ofW (cc := cX3_gf_reduce) (maxL := 7) (ret := some .short) (by decide) rfl ?_
  intro p e s m args below meth c s₁ B hml hv
  obtain ⟨rfl, hS⟩ := hv
  have hx := B.exec
  have hb := B.bytes
  have hr := B.returns
  have hts := atoms_spec (ws := ws_ yX3_gf_reduce cX3_gf_reduce 7 (some .short)) B.pre
  have hts : ∀ w ∈ lw_all, w.before _ s = true := fun w h => hts w (List.mem_cons_of_mem _ h)
  have hown : s.vm.findClass RX3 = some m.cls := findClass_of_methodNamed B.named
  have hlocks := B.notSynchronized
  have hl := lv_entry ([.ref h0, .int (nI x)]) (n := 7) (Nat.le_of_ble_eq_true rfl)
  rw [lg_entry_eq]
  generalize (lg_sl ([.ref h0, .int (nI x)]) ++ List.replicate (7 - (lg_sl ([.ref h0, .int (nI x)])).length) Slot.unset).toArray = ls at hl ⊢
  have hl : lv_has ls 7 [(0, .ref h0), (1, .int (nI x))] := hl
  refine lv_iload_n hx hb dX3_gf_reduce_0 rfl (lv_at hl 1 rfl) ?_
  refine lv_sipush (v := nI 4095) hx hb dX3_gf_reduce_1 (by decide +kernel) ?_
  refine nw_wand hx hb dX3_gf_reduce_4 ?_
  refine nw_topi (fun v1 ev1 => ?_)
  refine lv_istore_n (lv' := [(2, .int (nI v1)), (0, .ref h0), (1, .int (nI x))]) hx hb dX3_gf_reduce_5 rfl hl (by decide) rfl (fun ls hl => ?_)
  refine lv_iload_n hx hb dX3_gf_reduce_6 rfl (lv_at hl 2 rfl) ?_
  refine lv_bipush (v := nI 12) hx hb dX3_gf_reduce_7 (by decide +kernel) ?_
  refine nw_wushr hx hb (by decide) (Nat.lt_trans hx24 (by decide)) dX3_gf_reduce_9 ?_
  refine nw_topi (fun v2 ev2 => ?_)
  refine lv_istore_n (lv' := [(3, .int (nI v2)), (2, .int (nI v1)), (0, .ref h0), (1, .int (nI x))]) hx hb dX3_gf_reduce_10 rfl hl (by decide) rfl (fun ls hl => ?_)
  refine lv_iload_n hx hb dX3_gf_reduce_11 rfl (lv_at hl 3 rfl) ?_
  refine lv_ldc (v := nI 2093056) hx hb hown (hts _ q57) dX3_gf_reduce_12 ?_
  refine nw_wand hx hb dX3_gf_reduce_14 ?_
  refine lv_bipush (v := nI 9) hx hb dX3_gf_reduce_15 (by decide +kernel) ?_
  refine nw_wushr hx hb (by decide) (Nat.lt_trans (Nat.and_lt_two_pow (n := 24) x (by decide)) (by decide)) dX3_gf_reduce_17 ?_
  refine nw_topi (fun v3 ev3 => ?_)
  refine lv_istore (lv' := [(4, .int (nI v3)), (3, .int (nI v2)), (2, .int (nI v1)), (0, .ref h0), (1, .int (nI x))]) hx hb dX3_gf_reduce_18 hl (by decide) rfl (fun ls hl => ?_)
  refine lv_iload_n hx hb dX3_gf_reduce_20 rfl (lv_at hl 4 rfl) ?_
  refine lv_ldc (v := nI 14680064) hx hb hown (hts _ q58) dX3_gf_reduce_21 ?_
  refine nw_wand hx hb dX3_gf_reduce_23 ?_
  refine lv_bipush (v := nI 18) hx hb dX3_gf_reduce_24 (by decide +kernel) ?_
  refine nw_wushr hx hb (by decide) (Nat.lt_trans (Nat.and_lt_two_pow (n := 24) x (by decide)) (by decide)) dX3_gf_reduce_26 ?_
  refine nw_topi (fun v4 ev4 => ?_)
  refine lv_istore (lv' := [(5, .int (nI v4)), (4, .int (nI v3)), (3, .int (nI v2)), (2, .int (nI v1)), (0, .ref h0), (1, .int (nI x))]) hx hb dX3_gf_reduce_27 hl (by decide) rfl (fun ls hl => ?_)
  refine lv_iload_n hx hb dX3_gf_reduce_29 rfl (lv_at hl 5 rfl) ?_
  refine lv_bipush (v := nI 21) hx hb dX3_gf_reduce_30 (by decide +kernel) ?_
  refine nw_wushr hx hb (by decide) (Nat.lt_trans hx24 (by decide)) dX3_gf_reduce_32 ?_
  refine nw_topi (fun v5 ev5 => ?_)
  refine lv_istore (lv' := [(6, .int (nI v5)), (5, .int (nI v4)), (4, .int (nI v3)), (3, .int (nI v2)), (2, .int (nI v1)), (0, .ref h0), (1, .int (nI x))]) hx hb dX3_gf_reduce_33 hl (by decide) rfl (fun ls hl => ?_)
  refine lv_iload_n hx hb dX3_gf_reduce_35 rfl (lv_at hl 4 rfl) ?_
  refine lv_iload_n hx hb dX3_gf_reduce_36 rfl (lv_at hl 3 rfl) ?_
  refine nw_wxor hx hb dX3_gf_reduce_37 ?_
  refine lv_iload hx hb dX3_gf_reduce_38 (lv_at hl 2 rfl) ?_
  refine nw_wxor hx hb dX3_gf_reduce_40 ?_
  refine lv_iload hx hb dX3_gf_reduce_41 (lv_at hl 1 rfl) ?_
  refine nw_wxor hx hb dX3_gf_reduce_43 ?_
  refine lv_iload hx hb dX3_gf_reduce_44 (lv_at hl 0 rfl) ?_
  refine nw_wxor hx hb dX3_gf_reduce_46 ?_
  subst ev1 ev2 ev3 ev4 ev5
  refine nw_swap (b := (gf_red12 x)) (rfl) ?_
  refine nw_wi2s hx hb (Nat.lt_trans (gf_red12_lt hx24) (by decide)) dX3_gf_reduce_47 ?_
  exact nw_ret hx hb hr hlocks (nw_short (Nat.lt_trans (gf_red12_lt hx24) (by decide))) (rfl) dX3_gf_reduce_48
set_option maxHeartbeats 4000000 in
set_option maxRecDepth 100000 in
/-- the loop of GF12.gf_mul_ext at its head -/
theorem lpX3_gf_mul_ext {p : Program} {l : Launch} {e : Env} {R : Room} {s : State} {m : MethodId} {args : Array Value} {below : List Frame} {meth : Method} {c : Code} {H : Heap} {locs : List Loc} {cells slots : Nat} {Q : State → Prop} (hx : p.tables.exec = Jvm.exec) (hb : c.code = cX3_gf_mul_ext) (h0 x y : Nat) (kk : ∀ ls : Array Slot, lv_has ls 7 [(0, .ref h0), (5, .int (nI (gf_clm x y 12)))] → W p l e R s m args below meth c H locs cells slots Q (F0 m 43 ls [])) : ∀ (n i : Nat), i + n = 12 → ∀ ls : Array Slot, lv_has ls 7 [(0, .ref h0), (3, .int (nI x)), (4, .int (nI y)), (5, .int (nI (gf_clm x y i))), (6, .int (nI i))] → W p l e R s m args below meth c H locs cells slots Q (F0 m 16 ls []) := by
  intro n
  induction n with
  | zero =>
    intro i hi ls hl
    have e0 : i = 12 := by omega
    subst e0
    refine lv_iload hx hb dX3_gf_mul_ext_16 (lv_at hl 4 rfl) ?_
    refine lv_bipush (v := nI 12) hx hb dX3_gf_mul_ext_18 (by decide +kernel) ?_
    refine lv_icmp_ge (tgt := 43) hx hb dX3_gf_mul_ext_20 (by decide) (fun c_1 => ?_) (fun c_1 => absurd (nI_le (Nat.le_refl 12) (by decide)) c_1)
    exact kk ls (lv_sub hl [0, 3] rfl)
  | succ n ih =>
    intro i hi ls hl
    refine lv_iload hx hb dX3_gf_mul_ext_16 (lv_at hl 4 rfl) ?_
    refine lv_bipush (v := nI 12) hx hb dX3_gf_mul_ext_18 (by decide +kernel) ?_
    refine lv_icmp_ge (tgt := 43) hx hb dX3_gf_mul_ext_20 (by decide) (fun c_1 => absurd c_1 (nI_ge (show i < 12 by omega) (by decide))) (fun c_1 => ?_)
    refine lv_iload hx hb dX3_gf_mul_ext_23 (lv_at hl 3 rfl) ?_
    refine lv_iload_n hx hb dX3_gf_mul_ext_25 rfl (lv_at hl 1 rfl) ?_
    refine lv_iload hx hb dX3_gf_mul_ext_26 (lv_at hl 2 rfl) ?_
    refine lv_iconst (v := nI 1) hx hb dX3_gf_mul_ext_28 (by decide +kernel) ?_
    refine lv_iload hx hb dX3_gf_mul_ext_29 (lv_at hl 4 rfl) ?_
    refine nw_wshl hx hb (show i < 32 by omega) dX3_gf_mul_ext_31 ?_
    refine nw_wand hx hb dX3_gf_mul_ext_32 ?_
    refine nw_wmul hx hb dX3_gf_mul_ext_33 ?_
    refine nw_wxor hx hb dX3_gf_mul_ext_34 ?_
    refine nw_swap (b := (gf_clm x y (i + 1))) (rfl) ?_
    refine lv_istore (lv' := [(5, .int (nI (gf_clm x y (i + 1)))), (0, .ref h0), (3, .int (nI x)), (4, .int (nI y)), (6, .int (nI i))]) hx hb dX3_gf_mul_ext_35 hl (by decide) rfl (fun ls hl => ?_)
    refine lv_iinc (v := nI (i + 1)) (lv' := [(6, .int (nI (i + 1))), (5, .int (nI (gf_clm x y (i + 1)))), (0, .ref h0), (3, .int (nI x)), (4, .int (nI y))]) hx hb dX3_gf_mul_ext_37 hl (k := 4) rfl (nw_inc i) (by decide) rfl (fun ls hl => ?_)
    refine lv_goto (tgt := 16) hx hb dX3_gf_mul_ext_40 (by decide) ?_
    exact ih (i + 1) (by omega) ls (lv_sub hl [2, 3, 4, 1, 0] rfl)
set_option maxHeartbeats 4000000 in
set_option maxRecDepth 100000 in
/-- GF12.gf_mul_ext(a, b) -/
theorem m3_mul_ext (l : Launch) (h0 a b : Nat) : Met l yX3_gf_mul_ext (ws_ yX3_gf_mul_ext cX3_gf_mul_ext 7 (some .int)) nw_rm0 (va_Pc [.ref h0, .int (nI a), .int (nI b)] (fun U => True)) (QcRead (nI (gf_clm a b 12))) 0 0 (fun _ => False) := by
  refine Met.ofW (cc := cX3_gf_mul_ext) (maxL := 7) (ret := some .int) (by decide) rfl ?_
  intro p e s m args below meth c s₁ B hml hv
  obtain ⟨rfl, hS⟩ := hv
  have hx := B.exec
  have hb := B.bytes
  have hr := B.returns
  have hts := atoms_spec (ws := ws_ yX3_gf_mul_ext cX3_gf_mul_ext 7 (some .int)) B.pre
  have hts : ∀ w ∈ lw_all, w.before _ s = true := fun w h => hts w (List.mem_cons_of_mem _ h)
  have hown : s.vm.findClass RX3 = some m.cls := findClass_of_methodNamed B.named
  have hlocks := B.notSynchronized
  have hl := lv_entry ([.ref h0, .int (nI a), .int (nI b)]) (n := 7) (Nat.le_of_ble_eq_true rfl)
  rw [lg_entry_eq]
  generalize (lg_sl ([.ref h0, .int (nI a), .int (nI b)]) ++ List.replicate (7 - (lg_sl ([.ref h0, .int (nI a), .int (nI b)])).length) Slot.unset).toArray = ls at hl ⊢
  have hl : lv_has ls 7 [(0, .ref h0), (1, .int (nI a)), (2, .int (nI b))] := hl
  refine lv_iload_n hx hb dX3_gf_mul_ext_0 rfl (lv_at hl 1 rfl) ?_
  refine lv_istore_n (lv' := [(3, .int (nI a)), (0, .ref h0), (1, .int (nI a)), (2, .int (nI b))]) hx hb dX3_gf_mul_ext_1 rfl hl (by decide) rfl (fun ls hl => ?_)
  refine lv_iload_n hx hb dX3_gf_mul_ext_2 rfl (lv_at hl 3 rfl) ?_
  refine lv_istore (lv' := [(4, .int (nI b)), (3, .int (nI a)), (0, .ref h0), (1, .int (nI a)), (2, .int (nI b))]) hx hb dX3_gf_mul_ext_3 hl (by decide) rfl (fun ls hl => ?_)
  refine lv_iload_n hx hb dX3_gf_mul_ext_5 rfl (lv_at hl 1 rfl) ?_
  refine lv_iload hx hb dX3_gf_mul_ext_6 (lv_at hl 0 rfl) ?_
  refine lv_iconst (v := nI 1) hx hb dX3_gf_mul_ext_8 (by decide +kernel) ?_
  refine nw_wand hx hb dX3_gf_mul_ext_9 ?_
  refine nw_wmul hx hb dX3_gf_mul_ext_10 ?_
  refine nw_swap (b := (gf_clm a b 1)) (gf_clm_1 a b) ?_
  refine lv_istore (lv' := [(5, .int (nI (gf_clm a b 1))), (4, .int (nI b)), (3, .int (nI a)), (0, .ref h0), (1, .int (nI a)), (2, .int (nI b))]) hx hb dX3_gf_mul_ext_11 hl (by decide) rfl (fun ls hl => ?_)
  refine lv_iconst (v := nI 1) hx hb dX3_gf_mul_ext_13 (by decide +kernel) ?_
  refine lv_istore (lv' := [(6, .int (nI 1)), (5, .int (nI (gf_clm a b 1))), (4, .int (nI b)), (3, .int (nI a)), (0, .ref h0), (1, .int (nI a)), (2, .int (nI b))]) hx hb dX3_gf_mul_ext_14 hl (by decide) rfl (fun ls hl => ?_)
  refine lpX3_gf_mul_ext hx hb h0 a b (fun ls hl => ?_) 11 1 rfl ls (lv_sub hl [4, 3, 2, 1, 0] rfl)
  refine lv_iload hx hb dX3_gf_mul_ext_43 (lv_at hl 1 rfl) ?_
  exact nw_ret hx hb hr hlocks (vp_nar_int _) (rfl) dX3_gf_mul_ext_45
set_option maxHeartbeats 4000000 in
set_option maxRecDepth 100000 in
/-- the loop of GF12.gf_mul at its head -/
theorem lpX3_gf_mul {p : Program} {l : Launch} {e : Env} {R : Room} {s : State} {m : MethodId} {args : Array Value} {below : List Frame} {meth : Method} {c : Code} {H : Heap} {locs : List Loc} {cells slots : Nat} {Q : State → Prop} (hx : p.tables.exec = Jvm.exec) (hb : c.code = cX3_gf_mul) (h0 x y : Nat) (kk : ∀ ls : Array Slot, lv_has ls 7 [(0, .ref h0), (5, .int (nI (gf_clm x y 12)))] → W p l e R s m args below meth c H locs cells slots Q (F0 m 43 ls [])) : ∀ (n i : Nat), i + n = 12 → ∀ ls : Array Slot, lv_has ls 7 [(0, .ref h0), (3, .int (nI x)), (4, .int (nI y)), (5, .int (nI (gf_clm x y i))), (6, .int (nI i))] → W p l e R s m args below meth c H locs cells slots Q (F0 m 16 ls []) := by
  intro n
  induction n with
  | zero =>
    intro i hi ls hl
    have e0 : i = 12 := by omega
    subst e0
    refine lv_iload hx hb dX3_gf_mul_16 (lv_at hl 4 rfl) ?_
    refine lv_bipush (v := nI 12) hx hb dX3_gf_mul_18 (by decide +kernel) ?_
    refine lv_icmp_ge (tgt := 43) hx hb dX3_gf_mul_20 (by decide) (fun c_1 => ?_) (fun c_1 => absurd (nI_le (Nat.le_refl 12) (by decide)) c_1)
    exact kk ls (lv_sub hl [0, 3] rfl)
  | succ n ih =>
    intro i hi ls hl
    refine lv_iload hx hb dX3_gf_mul_16 (lv_at hl 4 rfl) ?_
    refine lv_bipush (v := nI 12) hx hb dX3_gf_mul_18 (by decide +kernel) ?_
    refine lv_icmp_ge (tgt := 43) hx hb dX3_gf_mul_20 (by decide) (fun c_1 => absurd c_1 (nI_ge (show i < 12 by omega) (by decide))) (fun c_1 => ?_)
    refine lv_iload hx hb dX3_gf_mul_23 (lv_at hl 3 rfl) ?_
    refine lv_iload_n hx hb dX3_gf_mul_25 rfl (lv_at hl 1 rfl) ?_
    refine lv_iload hx hb dX3_gf_mul_26 (lv_at hl 2 rfl) ?_
    refine lv_iconst (v := nI 1) hx hb dX3_gf_mul_28 (by decide +kernel) ?_
    refine lv_iload hx hb dX3_gf_mul_29 (lv_at hl 4 rfl) ?_
    refine nw_wshl hx hb (show i < 32 by omega) dX3_gf_mul_31 ?_
    refine nw_wand hx hb dX3_gf_mul_32 ?_
    refine nw_wmul hx hb dX3_gf_mul_33 ?_
    refine nw_wxor hx hb dX3_gf_mul_34 ?_
    refine nw_swap (b := (gf_clm x y (i + 1))) (rfl) ?_
    refine lv_istore (lv' := [(5, .int (nI (gf_clm x y (i + 1)))), (0, .ref h0), (3, .int (nI x)), (4, .int (nI y)), (6, .int (nI i))]) hx hb dX3_gf_mul_35 hl (by decide) rfl (fun ls hl => ?_)
    refine lv_iinc (v := nI (i + 1)) (lv' := [(6, .int (nI (i + 1))), (5, .int (nI (gf_clm x y (i + 1)))), (0, .ref h0), (3, .int (nI x)), (4, .int (nI y))]) hx hb dX3_gf_mul_37 hl (k := 4) rfl (nw_inc i) (by decide) rfl (fun ls hl => ?_)
    refine lv_goto (tgt := 16) hx hb dX3_gf_mul_40 (by decide) ?_
    exact ih (i + 1) (by omega) ls (lv_sub hl [2, 3, 4, 1, 0] rfl)
set_option maxHeartbeats 4000000 in
set_option maxRecDepth 100000 in
/-- GF12.gf_mul(a, b) -/
theorem m3_mul (l : Launch) (h0 a b : Nat) (ha : a < 2 ^ 12) : Met l yX3_gf_mul (ws_ yX3_gf_mul cX3_gf_mul 7 (some .short)) nw_rm1 (va_Pc [.ref h0, .int (nI a), .int (nI b)] (fun U => nw_Rc "GF12" h0 U U.heap)) (QcRead (nI (gf_mul12 a b))) 0 0 (fun _ => False) := by
  refine Met.ofW (cc := cX3_gf_mul) (maxL := 7) (ret := some .short) (by decide) rfl ?_
  intro p e s m args below meth c s₁ B hml hv
  obtain ⟨rfl, hS⟩ := hv
  have hx := B.exec
  have hb := B.bytes
  have hr := B.returns
  have hts := atoms_spec (ws := ws_ yX3_gf_mul cX3_gf_mul 7 (some .short)) B.pre
  have hts : ∀ w ∈ lw_all, w.before _ s = true := fun w h => hts w (List.mem_cons_of_mem _ h)
  have hown : s.vm.findClass RX3 = some m.cls := findClass_of_methodNamed B.named
  have hlocks := B.notSynchronized
  have hl := lv_entry ([.ref h0, .int (nI a), .int (nI b)]) (n := 7) (Nat.le_of_ble_eq_true rfl)
  rw [lg_entry_eq]
  generalize (lg_sl ([.ref h0, .int (nI a), .int (nI b)]) ++ List.replicate (7 - (lg_sl ([.ref h0, .int (nI a), .int (nI b)])).length) Slot.unset).toArray = ls at hl ⊢
  have hl : lv_has ls 7 [(0, .ref h0), (1, .int (nI a)), (2, .int (nI b))] := hl
  refine lv_iload_n hx hb dX3_gf_mul_0 rfl (lv_at hl 1 rfl) ?_
  refine lv_istore_n (lv' := [(3, .int (nI a)), (0, .ref h0), (1, .int (nI a)), (2, .int (nI b))]) hx hb dX3_gf_mul_1 rfl hl (by decide) rfl (fun ls hl => ?_)
  refine lv_iload_n hx hb dX3_gf_mul_2 rfl (lv_at hl 3 rfl) ?_
  refine lv_istore (lv' := [(4, .int (nI b)), (3, .int (nI a)), (0, .ref h0), (1, .int (nI a)), (2, .int (nI b))]) hx hb dX3_gf_mul_3 hl (by decide) rfl (fun ls hl => ?_)
  refine lv_iload_n hx hb dX3_gf_mul_5 rfl (lv_at hl 1 rfl) ?_
  refine lv_iload hx hb dX3_gf_mul_6 (lv_at hl 0 rfl) ?_
  refine lv_iconst (v := nI 1) hx hb dX3_gf_mul_8 (by decide +kernel) ?_
  refine nw_wand hx hb dX3_gf_mul_9 ?_
  refine nw_wmul hx hb dX3_gf_mul_10 ?_
  refine nw_swap (b := (gf_clm a b 1)) (gf_clm_1 a b) ?_
  refine lv_istore (lv' := [(5, .int (nI (gf_clm a b 1))), (4, .int (nI b)), (3, .int (nI a)), (0, .ref h0), (1, .int (nI a)), (2, .int (nI b))]) hx hb dX3_gf_mul_11 hl (by decide) rfl (fun ls hl => ?_)
  refine lv_iconst (v := nI 1) hx hb dX3_gf_mul_13 (by decide +kernel) ?_
  refine lv_istore (lv' := [(6, .int (nI 1)), (5, .int (nI (gf_clm a b 1))), (4, .int (nI b)), (3, .int (nI a)), (0, .ref h0), (1, .int (nI a)), (2, .int (nI b))]) hx hb dX3_gf_mul_14 hl (by decide) rfl (fun ls hl => ?_)
  refine lpX3_gf_mul hx hb h0 a b (fun ls hl => ?_) 11 1 rfl ls (lv_sub hl [4, 3, 2, 1, 0] rfl)
  refine lv_aload_n hx hb dX3_gf_mul_43 rfl (lv_at hl 0 rfl) ?_
  refine lv_iload hx hb dX3_gf_mul_44 (lv_at hl 1 rfl) ?_
  refine nw_calli (W.runV (As := [.int (nI (gf_clm a b 12))]) (rest := []) ⟨hx, hb, hml, hown, hts⟩ (m3_reduce l h0 (gf_clm a b 12) (gf_clm_lt b ha 12)) (cwV 1 hts (lw_V q53 q54 q55 q6 q56) rfl rfl rfl (by decide +kernel) ⟨Nat.le_of_ble_eq_true rfl, Nat.le_of_ble_eq_true rfl⟩) ⟨fun _ _ _ _ q => q, hS, fun U hU hW => ⟨rfl, trivial⟩⟩ rfl rfl hl.1 rfl (lv_room (Nat.le_of_ble_eq_true rfl)) dX3_gf_mul_46 ⟨Nat.le_of_ble_eq_true rfl, Nat.le_of_ble_eq_true rfl⟩) ?_
  exact nw_ret hx hb hr hlocks (nw_short (Nat.lt_trans (gf_mul12_lt b ha) (by decide))) (rfl) dX3_gf_mul_49
set_option maxHeartbeats 4000000 in
set_option maxRecDepth 100000 in
/-- GF12.gf_sq_ext(a) -/
theorem m3_sq_ext (l : Launch) (h0 a : Nat) : Met l yX3_gf_sq_ext (ws_ yX3_gf_sq_ext cX3_gf_sq_ext 2 (some .int)) nw_rm1 (va_Pc [.ref h0, .int (nI a)] (fun U => True)) (QcRead (nI (gf_exp a))) 0 0 (fun _ => False) := by
  refine Met.ofW (cc := cX3_gf_sq_ext) (maxL := 2) (ret := some .int) (by decide) rfl ?_
  intro p e s m args below meth c s₁ B hml hv
  obtain ⟨rfl, hS⟩ := hv
  have hx := B.exec
  have hb := B.bytes
  have hr := B.returns
  have hts := atoms_spec (ws := ws_ yX3_gf_sq_ext cX3_gf_sq_ext 2 (some .int)) B.pre
  have hts : ∀ w ∈ lw_all, w.before _ s = true := fun w h => hts w (List.mem_cons_of_mem _ h)
  have hown : s.vm.findClass RX3 = some m.cls := findClass_of_methodNamed B.named
  have hlocks := B.notSynchronized
  have hl := lv_entry ([.ref h0, .int (nI a)]) (n := 2) (Nat.le_of_ble_eq_true rfl)
  rw [lg_entry_eq]
  generalize (lg_sl ([.ref h0, .int (nI a)]) ++ List.replicate (2 - (lg_sl ([.ref h0, .int (nI a)])).length) Slot.unset).toArray = ls at hl ⊢
  have hl : lv_has ls 2 [(0, .ref h0), (1, .int (nI a))] := hl
  refine lv_iload_n hx hb dX3_gf_sq_ext_0 rfl (lv_at hl 1 rfl) ?_
  refine nw_calli (W.runS (As := [.int (nI a)]) (rest := []) ⟨hx, hb, hml, hown, hts⟩ (m5_expand l a) (va_cwS 1 hts (lw_S q76 q77 q8 q78) rfl rfl rfl (by decide +kernel) ⟨Nat.le_of_ble_eq_true rfl, Nat.le_of_ble_eq_true rfl⟩) ⟨fun _ _ _ _ q => q, fun U hU hW => ⟨rfl, trivial⟩⟩ rfl rfl hl.1 rfl (lv_room (Nat.le_of_ble_eq_true rfl)) dX3_gf_sq_ext_1 ⟨Nat.le_of_ble_eq_true rfl, Nat.le_of_ble_eq_true rfl⟩) ?_
  exact nw_ret hx hb hr hlocks (vp_nar_int _) (rfl) dX3_gf_sq_ext_4
set_option maxHeartbeats 4000000 in
set_option maxRecDepth 100000 in
/-- GF12.gf_sq(a) -/
theorem m3_sq (l : Launch) (h0 a : Nat) (ha : a < 2 ^ 12) : Met l yX3_gf_sq (ws_ yX3_gf_sq cX3_gf_sq 3 (some .short)) nw_rm1 (va_Pc [.ref h0, .int (nI a)] (fun U => nw_Rc "GF12" h0 U U.heap)) (QcRead (nI (gf_sq12 a))) 0 0 (fun _ => False) := by
  refine Met.ofW (cc := cX3_gf_sq) (maxL := 3) (ret := some .short) (by decide) rfl ?_
  intro p e s m args below meth c s₁ B hml hv
  obtain ⟨rfl, hS⟩ := hv
  have hx := B.exec
  have hb := B.bytes
  have hr := B.returns
  have hts := atoms_spec (ws := ws_ yX3_gf_sq cX3_gf_sq 3 (some .short)) B.pre
  have hts : ∀ w ∈ lw_all, w.before _ s = true := fun w h => hts w (List.mem_cons_of_mem _ h)
  have hown : s.vm.findClass RX3 = some m.cls := findClass_of_methodNamed B.named
  have hlocks := B.notSynchronized
  have hl := lv_entry ([.ref h0, .int (nI a)]) (n := 3) (Nat.le_of_ble_eq_true rfl)
  rw [lg_entry_eq]
  generalize (lg_sl ([.ref h0, .int (nI a)]) ++ List.replicate (3 - (lg_sl ([.ref h0, .int (nI a)])).length) Slot.unset).toArray = ls at hl ⊢
  have hl : lv_has ls 3 [(0, .ref h0), (1, .int (nI a))] := hl
  refine lv_iload_n hx hb dX3_gf_sq_0 rfl (lv_at hl 1 rfl) ?_
  refine nw_calli (W.runS (As := [.int (nI a)]) (rest := []) ⟨hx, hb, hml, hown, hts⟩ (m5_expand l a) (va_cwS 1 hts (lw_S q76 q77 q8 q78) rfl rfl rfl (by decide +kernel) ⟨Nat.le_of_ble_eq_true rfl, Nat.le_of_ble_eq_true rfl⟩) ⟨fun _ _ _ _ q => q, fun U hU hW => ⟨rfl, trivial⟩⟩ rfl rfl hl.1 rfl (lv_room (Nat.le_of_ble_eq_true rfl)) dX3_gf_sq_1 ⟨Nat.le_of_ble_eq_true rfl, Nat.le_of_ble_eq_true rfl⟩) ?_
  refine nw_topi (fun v1 ev1 => ?_)
  refine lv_istore_n (lv' := [(2, .int (nI v1)), (0, .ref h0), (1, .int (nI a))]) hx hb dX3_gf_sq_4 rfl hl (by decide) rfl (fun ls hl => ?_)
  refine lv_aload_n hx hb dX3_gf_sq_5 rfl (lv_at hl 1 rfl) ?_
  refine lv_iload_n hx hb dX3_gf_sq_6 rfl (lv_at hl 0 rfl) ?_
  subst ev1
  refine nw_calli (W.runV (As := [.int (nI (gf_exp a))]) (rest := []) ⟨hx, hb, hml, hown, hts⟩ (m3_reduce l h0 (gf_exp a) (gf_exp12_lt ha)) (cwV 1 hts (lw_V q53 q54 q55 q6 q56) rfl rfl rfl (by decide +kernel) ⟨Nat.le_of_ble_eq_true rfl, Nat.le_of_ble_eq_true rfl⟩) ⟨fun _ _ _ _ q => q, hS, fun U hU hW => ⟨rfl, trivial⟩⟩ rfl rfl hl.1 rfl (lv_room (Nat.le_of_ble_eq_true rfl)) dX3_gf_sq_7 ⟨Nat.le_of_ble_eq_true rfl, Nat.le_of_ble_eq_true rfl⟩) ?_
  exact nw_ret hx hb hr hlocks (nw_short (Nat.lt_trans (gf_sq12_lt ha) (by decide))) (rfl) dX3_gf_sq_10
set_option maxHeartbeats 4000000 in
set_option maxRecDepth 100000 in
/-- GF12.gf_inv(a) -/
theorem m3_inv (l : Launch) (h0 a : Nat) (ha : a < 2 ^ 12) : Met l yX3_gf_inv (ws_ yX3_gf_inv cX3_gf_inv 5 (some .short)) nw_rm2 (va_Pc [.ref h0, .int (nI a)] (fun U => nw_Rc "GF12" h0 U U.heap)) (QcRead (nI (gf_inv12 a))) 0 0 (fun _ => False) := by
  refine Met.ofW (cc := cX3_gf_inv) (maxL := 5) (ret := some .short) (by decide) rfl ?_
  intro p e s m args below meth c s₁ B hml hv
  obtain ⟨rfl, hS⟩ := hv
  have hx := B.exec
  have hb := B.bytes
  have hr := B.returns
  have hts := atoms_spec (ws := ws_ yX3_gf_inv cX3_gf_inv 5 (some .short)) B.pre
  have hts : ∀ w ∈ lw_all, w.before _ s = true := fun w h => hts w (List.mem_cons_of_mem _ h)
  have hown : s.vm.findClass RX3 = some m.cls := findClass_of_methodNamed B.named
  have hlocks := B.notSynchronized
  have hl := lv_entry ([.ref h0, .int (nI a)]) (n := 5) (Nat.le_of_ble_eq_true rfl)
  rw [lg_entry_eq]
  generalize (lg_sl ([.ref h0, .int (nI a)]) ++ List.replicate (5 - (lg_sl ([.ref h0, .int (nI a)])).length) Slot.unset).toArray = ls at hl ⊢
  have hl : lv_has ls 5 [(0, .ref h0), (1, .int (nI a))] := hl
  refine lv_iload_n hx hb dX3_gf_inv_0 rfl (lv_at hl 1 rfl) ?_
  refine lv_istore (lv' := [(4, .int (nI a)), (0, .ref h0), (1, .int (nI a))]) hx hb dX3_gf_inv_1 hl (by decide) rfl (fun ls hl => ?_)
  refine lv_aload_n hx hb dX3_gf_inv_3 rfl (lv_at hl 1 rfl) ?_
  refine lv_iload hx hb dX3_gf_inv_4 (lv_at hl 0 rfl) ?_
  refine nw_calli (W.runV (As := [.int (nI a)]) (rest := []) ⟨hx, hb, hml, hown, hts⟩ (m3_sq l h0 a ha) (cwV 1 hts (lw_V q98 q74 q192 q6 q75) rfl rfl rfl (by decide +kernel) ⟨Nat.le_of_ble_eq_true rfl, Nat.le_of_ble_eq_true rfl⟩) ⟨fun _ _ _ _ q => q, hS, fun U hU hW => ⟨rfl, hS.at hU hW⟩⟩ rfl rfl hl.1 rfl (lv_room (Nat.le_of_ble_eq_true rfl)) dX3_gf_inv_6 ⟨Nat.le_of_ble_eq_true rfl, Nat.le_of_ble_eq_true rfl⟩) ?_
  refine nw_topi (fun v1 ev1 => ?_)
  have hv1 : v1 < 2 ^ 12 := by rw [ev1]; exact gf_sq12_lt ha
  refine lv_istore (lv' := [(4, .int (nI v1)), (0, .ref h0), (1, .int (nI a))]) hx hb dX3_gf_inv_9 hl (by decide) rfl (fun ls hl => ?_)
  refine lv_aload_n hx hb dX3_gf_inv_11 rfl (lv_at hl 1 rfl) ?_
  refine lv_iload hx hb dX3_gf_inv_12 (lv_at hl 0 rfl) ?_
  refine lv_iload_n hx hb dX3_gf_inv_14 rfl (lv_at hl 2 rfl) ?_
  refine nw_calli (W.runV (As := [.int (nI v1), .int (nI a)]) (rest := []) ⟨hx, hb, hml, hown, hts⟩ (m3_mul l h0 v1 a hv1) (cwV 2 hts (lw_V q99 q51 q193 q6 q52) rfl rfl rfl (by decide +kernel) ⟨Nat.le_of_ble_eq_true rfl, Nat.le_of_ble_eq_true rfl⟩) ⟨fun _ _ _ _ q => q, hS, fun U hU hW => ⟨rfl, hS.at hU hW⟩⟩ rfl rfl hl.1 rfl (lv_room (Nat.le_of_ble_eq_true rfl)) dX3_gf_inv_15 ⟨Nat.le_of_ble_eq_true rfl, Nat.le_of_ble_eq_true rfl⟩) ?_
  refine nw_topi (fun v2 ev2 => ?_)
  have hv2 : v2 < 2 ^ 12 := by rw [ev2]; exact gf_mul12_lt _ hv1
  refine lv_istore_n (lv' := [(2, .int (nI v2)), (4, .int (nI v1)), (0, .ref h0), (1, .int (nI a))]) hx hb dX3_gf_inv_18 rfl hl (by decide) rfl (fun ls hl => ?_)
  refine lv_aload_n hx hb dX3_gf_inv_19 rfl (lv_at hl 2 rfl) ?_
  refine lv_iload_n hx hb dX3_gf_inv_20 rfl (lv_at hl 0 rfl) ?_
  refine nw_calli (W.runV (As := [.int (nI v2)]) (rest := []) ⟨hx, hb, hml, hown, hts⟩ (m3_sq l h0 v2 hv2) (cwV 1 hts (lw_V q98 q74 q192 q6 q75) rfl rfl rfl (by decide +kernel) ⟨Nat.le_of_ble_eq_true rfl, Nat.le_of_ble_eq_true rfl⟩) ⟨fun _ _ _ _ q => q, hS, fun U hU hW => ⟨rfl, hS.at hU hW⟩⟩ rfl rfl hl.1 rfl (lv_room (Nat.le_of_ble_eq_true rfl)) dX3_gf_inv_21 ⟨Nat.le_of_ble_eq_true rfl, Nat.le_of_ble_eq_true rfl⟩) ?_
  refine nw_topi (fun v3 ev3 => ?_)
  have hv3 : v3 < 2 ^ 12 := by rw [ev3]; exact gf_sq12_lt hv2
  refine lv_istore (lv' := [(4, .int (nI v3)), (2, .int (nI v2)), (0, .ref h0), (1, .int (nI a))]) hx hb dX3_gf_inv_24 hl (by decide) rfl (fun ls hl => ?_)
  refine lv_aload_n hx hb dX3_gf_inv_26 rfl (lv_at hl 2 rfl) ?_
  refine lv_iload hx hb dX3_gf_inv_27 (lv_at hl 0 rfl) ?_
  refine nw_calli (W.runV (As := [.int (nI v3)]) (rest := []) ⟨hx, hb, hml, hown, hts⟩ (m3_sq l h0 v3 hv3) (cwV 1 hts (lw_V q98 q74 q192 q6 q75) rfl rfl rfl (by decide +kernel) ⟨Nat.le_of_ble_eq_true rfl, Nat.le_of_ble_eq_true rfl⟩) ⟨fun _ _ _ _ q => q, hS, fun U hU hW => ⟨rfl, hS.at hU hW⟩⟩ rfl rfl hl.1 rfl (lv_room (Nat.le_of_ble_eq_true rfl)) dX3_gf_inv_29 ⟨Nat.le_of_ble_eq_true rfl, Nat.le_of_ble_eq_true rfl⟩) ?_
  refine nw_topi (fun v4 ev4 => ?_)
  have hv4 : v4 < 2 ^ 12 := by rw [ev4]; exact gf_sq12_lt hv3
  refine lv_istore (lv' := [(4, .int (nI v4)), (2, .int (nI v2)), (0, .ref h0), (1, .int (nI a))]) hx hb dX3_gf_inv_32 hl (by decide) rfl (fun ls hl => ?_)
  refine lv_aload_n hx hb dX3_gf_inv_34 rfl (lv_at hl 2 rfl) ?_
  refine lv_iload hx hb dX3_gf_inv_35 (lv_at hl 0 rfl) ?_
  refine lv_iload_n hx hb dX3_gf_inv_37 rfl (lv_at hl 1 rfl) ?_
  refine nw_calli (W.runV (As := [.int (nI v4), .int (nI v2)]) (rest := []) ⟨hx, hb, hml, hown, hts⟩ (m3_mul l h0 v4 v2 hv4) (cwV 2 hts (lw_V q99 q51 q193 q6 q52) rfl rfl rfl (by decide +kernel) ⟨Nat.le_of_ble_eq_true rfl, Nat.le_of_ble_eq_true rfl⟩) ⟨fun _ _ _ _ q => q, hS, fun U hU hW => ⟨rfl, hS.at hU hW⟩⟩ rfl rfl hl.1 rfl (lv_room (Nat.le_of_ble_eq_true rfl)) dX3_gf_inv_38 ⟨Nat.le_of_ble_eq_true rfl, Nat.le_of_ble_eq_true rfl⟩) ?_
  refine nw_topi (fun v5 ev5 => ?_)
  have hv5 : v5 < 2 ^ 12 := by rw [ev5]; exact gf_mul12_lt _ hv4
  refine lv_istore_n (lv' := [(3, .int (nI v5)), (4, .int (nI v4)), (2, .int (nI v2)), (0, .ref h0), (1, .int (nI a))]) hx hb dX3_gf_inv_41 rfl hl (by decide) rfl (fun ls hl => ?_)
  refine lv_aload_n hx hb dX3_gf_inv_42 rfl (lv_at hl 3 rfl) ?_
  refine lv_iload_n hx hb dX3_gf_inv_43 rfl (lv_at hl 0 rfl) ?_
  refine nw_calli (W.runV (As := [.int (nI v5)]) (rest := []) ⟨hx, hb, hml, hown, hts⟩ (m3_sq l h0 v5 hv5) (cwV 1 hts (lw_V q98 q74 q192 q6 q75) rfl rfl rfl (by decide +kernel) ⟨Nat.le_of_ble_eq_true rfl, Nat.le_of_ble_eq_true rfl⟩) ⟨fun _ _ _ _ q => q, hS, fun U hU hW => ⟨rfl, hS.at hU hW⟩⟩ rfl rfl hl.1 rfl (lv_room (Nat.le_of_ble_eq_true rfl)) dX3_gf_inv_44 ⟨Nat.le_of_ble_eq_true rfl, Nat.le_of_ble_eq_true rfl⟩) ?_
  refine nw_topi (fun v6 ev6 => ?_)
  have hv6 : v6 < 2 ^ 12 := by rw [ev6]; exact gf_sq12_lt hv5
  refine lv_istore (lv' := [(4, .int (nI v6)), (3, .int (nI v5)), (2, .int (nI v2)), (0, .ref h0), (1, .int (nI a))]) hx hb dX3_gf_inv_47 hl (by decide) rfl (fun ls hl => ?_)
  refine lv_aload_n hx hb dX3_gf_inv_49 rfl (lv_at hl 3 rfl) ?_
  refine lv_iload hx hb dX3_gf_inv_50 (lv_at hl 0 rfl) ?_
  refine nw_calli (W.runV (As := [.int (nI v6)]) (rest := []) ⟨hx, hb, hml, hown, hts⟩ (m3_sq l h0 v6 hv6) (cwV 1 hts (lw_V q98 q74 q192 q6 q75) rfl rfl rfl (by decide +kernel) ⟨Nat.le_of_ble_eq_true rfl, Nat.le_of_ble_eq_true rfl⟩) ⟨fun _ _ _ _ q => q, hS, fun U hU hW => ⟨rfl, hS.at hU hW⟩⟩ rfl rfl hl.1 rfl (lv_room (Nat.le_of_ble_eq_true rfl)) dX3_gf_inv_52 ⟨Nat.le_of_ble_eq_true rfl, Nat.le_of_ble_eq_true rfl⟩) ?_
  refine nw_topi (fun v7 ev7 => ?_)
  have hv7 : v7 < 2 ^ 12 := by rw [ev7]; exact gf_sq12_lt hv6
  refine lv_istore (lv' := [(4, .int (nI v7)), (3, .int (nI v5)), (2, .int (nI v2)), (0, .ref h0), (1, .int (nI a))]) hx hb dX3_gf_inv_55 hl (by decide) rfl (fun ls hl => ?_)
  refine lv_aload_n hx hb dX3_gf_inv_57 rfl (lv_at hl 3 rfl) ?_
  refine lv_iload hx hb dX3_gf_inv_58 (lv_at hl 0 rfl) ?_
  refine nw_calli (W.runV (As := [.int (nI v7)]) (rest := []) ⟨hx, hb, hml, hown, hts⟩ (m3_sq l h0 v7 hv7) (cwV 1 hts (lw_V q98 q74 q192 q6 q75) rfl rfl rfl (by decide +kernel) ⟨Nat.le_of_ble_eq_true rfl, Nat.le_of_ble_eq_true rfl⟩) ⟨fun _ _ _ _ q => q, hS, fun U hU hW => ⟨rfl, hS.at hU hW⟩⟩ rfl rfl hl.1 rfl (lv_room (Nat.le_of_ble_eq_true rfl)) dX3_gf_inv_60 ⟨Nat.le_of_ble_eq_true rfl, Nat.le_of_ble_eq_true rfl⟩) ?_
  refine nw_topi (fun v8 ev8 => ?_)
  have hv8 : v8 < 2 ^ 12 := by rw [ev8]; exact gf_sq12_lt hv7
  refine lv_istore (lv' := [(4, .int (nI v8)), (3, .int (nI v5)), (2, .int (nI v2)), (0, .ref h0), (1, .int (nI a))]) hx hb dX3_gf_inv_63 hl (by decide) rfl (fun ls hl => ?_)
  refine lv_aload_n hx hb dX3_gf_inv_65 rfl (lv_at hl 3 rfl) ?_
  refine lv_iload hx hb dX3_gf_inv_66 (lv_at hl 0 rfl) ?_
  refine nw_calli (W.runV (As := [.int (nI v8)]) (rest := []) ⟨hx, hb, hml, hown, hts⟩ (m3_sq l h0 v8 hv8) (cwV 1 hts (lw_V q98 q74 q192 q6 q75) rfl rfl rfl (by decide +kernel) ⟨Nat.le_of_ble_eq_true rfl, Nat.le_of_ble_eq_true rfl⟩) ⟨fun _ _ _ _ q => q, hS, fun U hU hW => ⟨rfl, hS.at hU hW⟩⟩ rfl rfl hl.1 rfl (lv_room (Nat.le_of_ble_eq_true rfl)) dX3_gf_inv_68 ⟨Nat.le_of_ble_eq_true rfl, Nat.le_of_ble_eq_true rfl⟩) ?_
  refine nw_topi (fun v9 ev9 => ?_)
  have hv9 : v9 < 2 ^ 12 := by rw [ev9]; exact gf_sq12_lt hv8
  refine lv_istore (lv' := [(4, .int (nI v9)), (3, .int (nI v5)), (2, .int (nI v2)), (0, .ref h0), (1, .int (nI a))]) hx hb dX3_gf_inv_71 hl (by decide) rfl (fun ls hl => ?_)
  refine lv_aload_n hx hb dX3_gf_inv_73 rfl (lv_at hl 3 rfl) ?_
  refine lv_iload hx hb dX3_gf_inv_74 (lv_at hl 0 rfl) ?_
  refine lv_iload_n hx hb dX3_gf_inv_76 rfl (lv_at hl 1 rfl) ?_
  refine nw_calli (W.runV (As := [.int (nI v9), .int (nI v5)]) (rest := []) ⟨hx, hb, hml, hown, hts⟩ (m3_mul l h0 v9 v5 hv9) (cwV 2 hts (lw_V q99 q51 q193 q6 q52) rfl rfl rfl (by decide +kernel) ⟨Nat.le_of_ble_eq_true rfl, Nat.le_of_ble_eq_true rfl⟩) ⟨fun _ _ _ _ q => q, hS, fun U hU hW => ⟨rfl, hS.at hU hW⟩⟩ rfl rfl hl.1 rfl (lv_room (Nat.le_of_ble_eq_true rfl)) dX3_gf_inv_77 ⟨Nat.le_of_ble_eq_true rfl, Nat.le_of_ble_eq_true rfl⟩) ?_
  refine nw_topi (fun v10 ev10 => ?_)
  have hv10 : v10 < 2 ^ 12 := by rw [ev10]; exact gf_mul12_lt _ hv9
  refine lv_istore (lv' := [(4, .int (nI v10)), (3, .int (nI v5)), (2, .int (nI v2)), (0, .ref h0), (1, .int (nI a))]) hx hb dX3_gf_inv_80 hl (by decide) rfl (fun ls hl => ?_)
  refine lv_aload_n hx hb dX3_gf_inv_82 rfl (lv_at hl 3 rfl) ?_
  refine lv_iload hx hb dX3_gf_inv_83 (lv_at hl 0 rfl) ?_
  refine nw_calli (W.runV (As := [.int (nI v10)]) (rest := []) ⟨hx, hb, hml, hown, hts⟩ (m3_sq l h0 v10 hv10) (cwV 1 hts (lw_V q98 q74 q192 q6 q75) rfl rfl rfl (by decide +kernel) ⟨Nat.le_of_ble_eq_true rfl, Nat.le_of_ble_eq_true rfl⟩) ⟨fun _ _ _ _ q => q, hS, fun U hU hW => ⟨rfl, hS.at hU hW⟩⟩ rfl rfl hl.1 rfl (lv_room (Nat.le_of_ble_eq_true rfl)) dX3_gf_inv_85 ⟨Nat.le_of_ble_eq_true rfl, Nat.le_of_ble_eq_true rfl⟩) ?_
  refine nw_topi (fun v11 ev11 => ?_)
  have hv11 : v11 < 2 ^ 12 := by rw [ev11]; exact gf_sq12_lt hv10
  refine lv_istore (lv' := [(4, .int (nI v11)), (3, .int (nI v5)), (2, .int (nI v2)), (0, .ref h0), (1, .int (nI a))]) hx hb dX3_gf_inv_88 hl (by decide) rfl (fun ls hl => ?_)
  refine lv_aload_n hx hb dX3_gf_inv_90 rfl (lv_at hl 3 rfl) ?_
  refine lv_iload hx hb dX3_gf_inv_91 (lv_at hl 0 rfl) ?_
  refine nw_calli (W.runV (As := [.int (nI v11)]) (rest := []) ⟨hx, hb, hml, hown, hts⟩ (m3_sq l h0 v11 hv11) (cwV 1 hts (lw_V q98 q74 q192 q6 q75) rfl rfl rfl (by decide +kernel) ⟨Nat.le_of_ble_eq_true rfl, Nat.le_of_ble_eq_true rfl⟩) ⟨fun _ _ _ _ q => q, hS, fun U hU hW => ⟨rfl, hS.at hU hW⟩⟩ rfl rfl hl.1 rfl (lv_room (Nat.le_of_ble_eq_true rfl)) dX3_gf_inv_93 ⟨Nat.le_of_ble_eq_true rfl, Nat.le_of_ble_eq_true rfl⟩) ?_
  refine nw_topi (fun v12 ev12 => ?_)
  have hv12 : v12 < 2 ^ 12 := by rw [ev12]; exact gf_sq12_lt hv11
  refine lv_istore (lv' := [(4, .int (nI v12)), (3, .int (nI v5)), (2, .int (nI v2)), (0, .ref h0), (1, .int (nI a))]) hx hb dX3_gf_inv_96 hl (by decide) rfl (fun ls hl => ?_)
  refine lv_aload_n hx hb dX3_gf_inv_98 rfl (lv_at hl 3 rfl) ?_
  refine lv_iload hx hb dX3_gf_inv_99 (lv_at hl 0 rfl) ?_
  refine lv_iload_n hx hb dX3_gf_inv_101 rfl (lv_at hl 2 rfl) ?_
  refine nw_calli (W.runV (As := [.int (nI v12), .int (nI v2)]) (rest := []) ⟨hx, hb, hml, hown, hts⟩ (m3_mul l h0 v12 v2 hv12) (cwV 2 hts (lw_V q99 q51 q193 q6 q52) rfl rfl rfl (by decide +kernel) ⟨Nat.le_of_ble_eq_true rfl, Nat.le_of_ble_eq_true rfl⟩) ⟨fun _ _ _ _ q => q, hS, fun U hU hW => ⟨rfl, hS.at hU hW⟩⟩ rfl rfl hl.1 rfl (lv_room (Nat.le_of_ble_eq_true rfl)) dX3_gf_inv_102 ⟨Nat.le_of_ble_eq_true rfl, Nat.le_of_ble_eq_true rfl⟩) ?_
  refine nw_topi (fun v13 ev13 => ?_)
  have hv13 : v13 < 2 ^ 12 := by rw [ev13]; exact gf_mul12_lt _ hv12
  refine lv_istore (lv' := [(4, .int (nI v13)), (3, .int (nI v5)), (2, .int (nI v2)), (0, .ref h0), (1, .int (nI a))]) hx hb dX3_gf_inv_105 hl (by decide) rfl (fun ls hl => ?_)
  refine lv_aload_n hx hb dX3_gf_inv_107 rfl (lv_at hl 3 rfl) ?_
  refine lv_iload hx hb dX3_gf_inv_108 (lv_at hl 0 rfl) ?_
  refine nw_calli (W.runV (As := [.int (nI v13)]) (rest := []) ⟨hx, hb, hml, hown, hts⟩ (m3_sq l h0 v13 hv13) (cwV 1 hts (lw_V q98 q74 q192 q6 q75) rfl rfl rfl (by decide +kernel) ⟨Nat.le_of_ble_eq_true rfl, Nat.le_of_ble_eq_true rfl⟩) ⟨fun _ _ _ _ q => q, hS, fun U hU hW => ⟨rfl, hS.at hU hW⟩⟩ rfl rfl hl.1 rfl (lv_room (Nat.le_of_ble_eq_true rfl)) dX3_gf_inv_110 ⟨Nat.le_of_ble_eq_true rfl, Nat.le_of_ble_eq_true rfl⟩) ?_
  refine nw_topi (fun v14 ev14 => ?_)
  have hv14 : v14 < 2 ^ 12 := by rw [ev14]; exact gf_sq12_lt hv13
  refine lv_istore (lv' := [(4, .int (nI v14)), (3, .int (nI v5)), (2, .int (nI v2)), (0, .ref h0), (1, .int (nI a))]) hx hb dX3_gf_inv_113 hl (by decide) rfl (fun ls hl => ?_)
  refine lv_aload_n hx hb dX3_gf_inv_115 rfl (lv_at hl 3 rfl) ?_
  refine lv_iload hx hb dX3_gf_inv_116 (lv_at hl 0 rfl) ?_
  refine lv_iload_n hx hb dX3_gf_inv_118 rfl (lv_at hl 4 rfl) ?_
  refine nw_calli (W.runV (As := [.int (nI v14), .int (nI a)]) (rest := []) ⟨hx, hb, hml, hown, hts⟩ (m3_mul l h0 v14 a hv14) (cwV 2 hts (lw_V q99 q51 q193 q6 q52) rfl rfl rfl (by decide +kernel) ⟨Nat.le_of_ble_eq_true rfl, Nat.le_of_ble_eq_true rfl⟩) ⟨fun _ _ _ _ q => q, hS, fun U hU hW => ⟨rfl, hS.at hU hW⟩⟩ rfl rfl hl.1 rfl (lv_room (Nat.le_of_ble_eq_true rfl)) dX3_gf_inv_119 ⟨Nat.le_of_ble_eq_true rfl, Nat.le_of_ble_eq_true rfl⟩) ?_
  refine nw_topi (fun v15 ev15 => ?_)
  have hv15 : v15 < 2 ^ 12 := by rw [ev15]; exact gf_mul12_lt _ hv14
  refine lv_istore (lv' := [(4, .int (nI v15)), (3, .int (nI v5)), (2, .int (nI v2)), (0, .ref h0), (1, .int (nI a))]) hx hb dX3_gf_inv_122 hl (by decide) rfl (fun ls hl => ?_)
  refine lv_aload_n hx hb dX3_gf_inv_124 rfl (lv_at hl 3 rfl) ?_
  refine lv_iload hx hb dX3_gf_inv_125 (lv_at hl 0 rfl) ?_
  refine nw_calli (W.runV (As := [.int (nI v15)]) (rest := []) ⟨hx, hb, hml, hown, hts⟩ (m3_sq l h0 v15 hv15) (cwV 1 hts (lw_V q98 q74 q192 q6 q75) rfl rfl rfl (by decide +kernel) ⟨Nat.le_of_ble_eq_true rfl, Nat.le_of_ble_eq_true rfl⟩) ⟨fun _ _ _ _ q => q, hS, fun U hU hW => ⟨rfl, hS.at hU hW⟩⟩ rfl rfl hl.1 rfl (lv_room (Nat.le_of_ble_eq_true rfl)) dX3_gf_inv_127 ⟨Nat.le_of_ble_eq_true rfl, Nat.le_of_ble_eq_true rfl⟩) ?_
  have hz : gf_sq12 v15 < 2 ^ 12 := gf_sq12_lt hv15
  subst ev1 ev2 ev3 ev4 ev5 ev6 ev7 ev8 ev9 ev10 ev11 ev12 ev13 ev14 ev15
  exact nw_ret hx hb hr hlocks (nw_short (Nat.lt_trans hz (by decide))) (rfl) dX3_gf_inv_130
set_option maxHeartbeats 4000000 in
set_option maxRecDepth 100000 in
/-- GF12.gf_frac(a, b) -/
theorem m3_frac (l : Launch) (h0 a b : Nat) (ha : a < 2 ^ 12) : Met l yX3_gf_frac (ws_ yX3_gf_frac cX3_gf_frac 3 (some .short)) nw_rm3 (va_Pc [.ref h0, .int (nI a), .int (nI b)] (fun U => nw_Rc "GF12" h0 U U.heap)) (QcRead (nI (gf_mul12 (gf_inv12 a) b))) 0 0 (fun _ => False) := by
  refine Met.ofW (cc := cX3_gf_frac) (maxL := 3) (ret := some .short) (by decide) rfl ?_
  intro p e s m args below meth c s₁ B hml hv
  obtain ⟨rfl, hS⟩ := hv
  have hx := B.exec
  have hb := B.bytes
  have hr := B.returns
  have hts := atoms_spec (ws := ws_ yX3_gf_frac cX3_gf_frac 3 (some .short)) B.pre
  have hts : ∀ w ∈ lw_all, w.before _ s = true := fun w h => hts w (List.mem_cons_of_mem _ h)
  have hown : s.vm.findClass RX3 = some m.cls := findClass_of_methodNamed B.named
  have hlocks := B.notSynchronized
  have hl := lv_entry ([.ref h0, .int (nI a), .int (nI b)]) (n := 3) (Nat.le_of_ble_eq_true rfl)
  rw [lg_entry_eq]
  generalize (lg_sl ([.ref h0, .int (nI a), .int (nI b)]) ++ List.replicate (3 - (lg_sl ([.ref h0, .int (nI a), .int (nI b)])).length) Slot.unset).toArray = ls at hl ⊢
  have hl : lv_has ls 3 [(0, .ref h0), (1, .int (nI a)), (2, .int (nI b))] := hl
  refine lv_aload_n hx hb dX3_gf_frac_0 rfl (lv_at hl 0 rfl) ?_
  refine lv_aload_n hx hb dX3_gf_frac_1 rfl (lv_at hl 0 rfl) ?_
  refine lv_iload_n hx hb dX3_gf_frac_2 rfl (lv_at hl 1 rfl) ?_
  refine nw_calli (W.runV (As := [.int (nI a)]) (rest := [.ref h0]) ⟨hx, hb, hml, hown, hts⟩ (m3_inv l h0 a ha) (cwV 1 hts (lw_V q146 q96 q194 q6 q97) rfl rfl rfl (by decide +kernel) ⟨Nat.le_of_ble_eq_true rfl, Nat.le_of_ble_eq_true rfl⟩) ⟨fun _ _ _ _ q => q, hS, fun U hU hW => ⟨rfl, hS.at hU hW⟩⟩ rfl rfl hl.1 rfl (lv_room (Nat.le_of_ble_eq_true rfl)) dX3_gf_frac_3 ⟨Nat.le_of_ble_eq_true rfl, Nat.le_of_ble_eq_true rfl⟩) ?_
  refine lv_iload_n hx hb dX3_gf_frac_6 rfl (lv_at hl 2 rfl) ?_
  refine nw_calli (W.runV (As := [.int (nI (gf_inv12 a)), .int (nI b)]) (rest := []) ⟨hx, hb, hml, hown, hts⟩ (m3_mul l h0 (gf_inv12 a) b (gf_inv12_lt ha)) (cwV 2 hts (lw_V q99 q51 q193 q6 q52) rfl rfl rfl (by decide +kernel) ⟨Nat.le_of_ble_eq_true rfl, Nat.le_of_ble_eq_true rfl⟩) ⟨fun _ _ _ _ q => q, hS, fun U hU hW => ⟨rfl, hS.at hU hW⟩⟩ rfl rfl hl.1 rfl (lv_room (Nat.le_of_ble_eq_true rfl)) dX3_gf_frac_7 ⟨Nat.le_of_ble_eq_true rfl, Nat.le_of_ble_eq_true rfl⟩) ?_
  exact nw_ret hx hb hr hlocks (nw_short (Nat.lt_trans (gf_mul12_lt b (gf_inv12_lt ha)) (by decide))) (rfl) dX3_gf_frac_10
end
section
/-! GF13: contracts of methods that only read -/
set_option maxHeartbeats 4000000 in
set_option maxRecDepth 100000 in
/-- GF13.gf_reduce(x) -/
theorem m4_reduce (l : Launch) (h0 x : Nat) (hx26 : x < 2 ^ 26) : Met l yX4_gf_reduce (ws_ yX4_gf_reduce cX4_gf_reduce 8 (some .short)) nw_rm0 (va_Pc [.ref h0, .int (nI x)] (fun U => True)) (QcRead (nI (gf_red13 x))) 0 0 (fun _ => False) := by
  refine Met.ofW (cc := cX4_gf_reduce) (maxL := 8) (ret := some .short) (by decide) rfl ?_
  intro p e s m args below meth c s₁ B hml hv
  obtain ⟨rfl, hS⟩ := hv
  have hx := B.exec
  have hb := B.bytes
  have hr := B.returns
  have hts := atoms_spec (ws := ws_ yX4_gf_reduce cX4_gf_reduce 8 (some .short)) B.pre
  have hts : ∀ w ∈ lw_all, w.before _ s = true := fun w h => hts w (List.mem_cons_of_mem _ h)
  have hown : s.vm.findClass RX4 = some m.cls := findClass_of_methodNamed B.named
  have hlocks := B.notSynchronized
  have hl := lv_entry ([.ref h0, .int (nI x)]) (n := 8) (Nat.le_of_ble_eq_true rfl)
  rw [lg_entry_eq]
  generalize (lg_sl ([.ref h0, .int (nI x)]) ++ List.replicate (8 - (lg_sl ([.ref h0, .int (nI x)])).length) Slot.unset).toArray = ls at hl ⊢
  have hl : lv_has ls 8 [(0, .ref h0), (1, .int (nI x))] := hl
  refine lv_iload_n hx hb dX4_gf_reduce_0 rfl (lv_at hl 1 rfl) ?_
  refine lv_sipush (v := nI 8191) hx hb dX4_gf_reduce_1 (by decide +kernel) ?_
  refine nw_wand hx hb dX4_gf_reduce_4 ?_
  refine nw_topi (fun v1 ev1 => ?_)
  refine lv_istore_n (lv' := [(2, .int (nI v1)), (0, .ref h0), (1, .int (nI x))]) hx hb dX4_gf_reduce_5 rfl hl (by decide) rfl (fun ls hl => ?_)
  refine lv_iload_n hx hb dX4_gf_reduce_6 rfl (lv_at hl 2 rfl) ?_
  refine lv_bipush (v := nI 13) hx hb dX4_gf_reduce_7 (by decide +kernel) ?_
  refine nw_wushr hx hb (by decide) (Nat.lt_trans hx26 (by decide)) dX4_gf_reduce_9 ?_
  refine nw_topi (fun v2 ev2 => ?_)
  refine lv_istore_n (lv' := [(3, .int (nI v2)), (2, .int (nI v1)), (0, .ref h0), (1, .int (nI x))]) hx hb dX4_gf_reduce_10 rfl hl (by decide) rfl (fun ls hl => ?_)
  refine lv_iload_n hx hb dX4_gf_reduce_11 rfl (lv_at hl 0 rfl) ?_
  refine lv_iconst (v := nI 4) hx hb dX4_gf_reduce_12 (by decide +kernel) ?_
  refine nw_wshl hx hb (by decide) dX4_gf_reduce_13 ?_
  refine lv_iload_n hx hb dX4_gf_reduce_14 rfl (lv_at hl 0 rfl) ?_
  refine lv_iconst (v := nI 3) hx hb dX4_gf_reduce_15 (by decide +kernel) ?_
  refine nw_wshl hx hb (by decide) dX4_gf_reduce_16 ?_
  refine nw_wxor hx hb dX4_gf_reduce_17 ?_
  refine lv_iload_n hx hb dX4_gf_reduce_18 rfl (lv_at hl 0 rfl) ?_
  refine lv_iconst (v := nI 1) hx hb dX4_gf_reduce_19 (by decide +kernel) ?_
  refine nw_wshl hx hb (by decide) dX4_gf_reduce_20 ?_
  refine nw_wxor hx hb dX4_gf_reduce_21 ?_
  refine nw_topi (fun v3 ev3 => ?_)
  have hv3 : v3 < 2 ^ 17 := by subst ev3; subst ev2; exact gf_t_lt (gf_shr_lt 13 13 (2 ^ 26) (by decide) hx26)
  refine lv_istore (lv' := [(4, .int (nI v3)), (3, .int (nI v2)), (2, .int (nI v1)), (0, .ref h0), (1, .int (nI x))]) hx hb dX4_gf_reduce_22 hl (by decide) rfl (fun ls hl => ?_)
  refine lv_iload hx hb dX4_gf_reduce_24 (lv_at hl 0 rfl) ?_
  refine lv_bipush (v := nI 13) hx hb dX4_gf_reduce_26 (by decide +kernel) ?_
  refine nw_wushr hx hb (by decide) (Nat.lt_trans hv3 (by decide)) dX4_gf_reduce_28 ?_
  refine nw_topi (fun v4 ev4 => ?_)
  refine lv_istore (lv' := [(5, .int (nI v4)), (4, .int (nI v3)), (3, .int (nI v2)), (2, .int (nI v1)), (0, .ref h0), (1, .int (nI x))]) hx hb dX4_gf_reduce_29 hl (by decide) rfl (fun ls hl => ?_)
  refine lv_iload hx hb dX4_gf_reduce_31 (lv_at hl 1 rfl) ?_
  refine lv_sipush (v := nI 8191) hx hb dX4_gf_reduce_33 (by decide +kernel) ?_
  refine nw_wand hx hb dX4_gf_reduce_36 ?_
  refine nw_topi (fun v5 ev5 => ?_)
  refine lv_istore (lv' := [(6, .int (nI v5)), (5, .int (nI v4)), (4, .int (nI v3)), (3, .int (nI v2)), (2, .int (nI v1)), (0, .ref h0), (1, .int (nI x))]) hx hb dX4_gf_reduce_37 hl (by decide) rfl (fun ls hl => ?_)
  refine lv_iload hx hb dX4_gf_reduce_39 (lv_at hl 1 rfl) ?_
  refine lv_iconst (v := nI 4) hx hb dX4_gf_reduce_41 (by decide +kernel) ?_
  refine nw_wshl hx hb (by decide) dX4_gf_reduce_42 ?_
  refine lv_iload hx hb dX4_gf_reduce_43 (lv_at hl 1 rfl) ?_
  refine lv_iconst (v := nI 3) hx hb dX4_gf_reduce_45 (by decide +kernel) ?_
  refine nw_wshl hx hb (by decide) dX4_gf_reduce_46 ?_
  refine nw_wxor hx hb dX4_gf_reduce_47 ?_
  refine lv_iload hx hb dX4_gf_reduce_48 (lv_at hl 1 rfl) ?_
  refine lv_iconst (v := nI 1) hx hb dX4_gf_reduce_50 (by decide +kernel) ?_
  refine nw_wshl hx hb (by decide) dX4_gf_reduce_51 ?_
  refine nw_wxor hx hb dX4_gf_reduce_52 ?_
  refine nw_topi (fun v6 ev6 => ?_)
  refine lv_istore (lv' := [(7, .int (nI v6)), (6, .int (nI v5)), (5, .int (nI v4)), (4, .int (nI v3)), (3, .int (nI v2)), (2, .int (nI v1)), (0, .ref h0), (1, .int (nI x))]) hx hb dX4_gf_reduce_53 hl (by decide) rfl (fun ls hl => ?_)
  refine lv_iload_n hx hb dX4_gf_reduce_55 rfl (lv_at hl 5 rfl) ?_
  refine lv_iload_n hx hb dX4_gf_reduce_56 rfl (lv_at hl 4 rfl) ?_
  refine nw_wxor hx hb dX4_gf_reduce_57 ?_
  refine lv_iload hx hb dX4_gf_reduce_58 (lv_at hl 2 rfl) ?_
  refine nw_wxor hx hb dX4_gf_reduce_60 ?_
  refine lv_iload hx hb dX4_gf_reduce_61 (lv_at hl 1 rfl) ?_
  refine nw_wxor hx hb dX4_gf_reduce_63 ?_
  refine lv_iload hx hb dX4_gf_reduce_64 (lv_at hl 0 rfl) ?_
  refine nw_wxor hx hb dX4_gf_reduce_66 ?_
  subst ev1 ev2 ev3 ev4 ev5 ev6
  refine nw_swap (b := (gf_red13 x)) (rfl) ?_
  refine nw_wi2s hx hb (Nat.lt_trans (gf_red13_lt hx26) (by decide)) dX4_gf_reduce_67 ?_
  exact nw_ret hx hb hr hlocks (nw_short (Nat.lt_trans (gf_red13_lt hx26) (by decide))) (rfl) dX4_gf_reduce_68
set_option maxHeartbeats 4000000 in
set_option maxRecDepth 100000 in
/-- the loop of GF13.gf_mul_ext at its head -/
theorem lpX4_gf_mul_ext {p : Program} {l : Launch} {e : Env} {R : Room} {s : State} {m : MethodId} {args : Array Value} {below : List Frame} {meth : Method} {c : Code} {H : Heap} {locs : List Loc} {cells slots : Nat} {Q : State → Prop} (hx : p.tables.exec = Jvm.exec) (hb : c.code = cX4_gf_mul_ext) (h0 x y : Nat) (kk : ∀ ls : Array Slot, lv_has ls 7 [(0, .ref h0), (5, .int (nI (gf_clm x y 13)))] → W p l e R s m args below meth c H locs cells slots Q (F0 m 43 ls [])) : ∀ (n i : Nat), i + n = 13 → ∀ ls : Array Slot, lv_has ls 7 [(0, .ref h0), (3, .int (nI x)), (4, .int (nI y)), (5, .int (nI (gf_clm x y i))), (6, .int (nI i))] → W p l e R s m args below meth c H locs cells slots Q (F0 m 16 ls []) := by
  intro n
  induction n with
  | zero =>
    intro i hi ls hl
    have e0 : i = 13 := by omega
    subst e0
    refine lv_iload hx hb dX4_gf_mul_ext_16 (lv_at hl 4 rfl) ?_
    refine lv_bipush (v := nI 13) hx hb dX4_gf_mul_ext_18 (by decide +kernel) ?_
    refine lv_icmp_ge (tgt := 43) hx hb dX4_gf_mul_ext_20 (by decide) (fun c_1 => ?_) (fun c_1 => absurd (nI_le (Nat.le_refl 13) (by decide)) c_1)
    exact kk ls (lv_sub hl [0, 3] rfl)
  | succ n ih =>
    intro i hi ls hl
    refine lv_iload hx hb dX4_gf_mul_ext_16 (lv_at hl 4 rfl) ?_
    refine lv_bipush (v := nI 13) hx hb dX4_gf_mul_ext_18 (by decide +kernel) ?_
    refine lv_icmp_ge (tgt := 43) hx hb dX4_gf_mul_ext_20 (by decide) (fun c_1 => absurd c_1 (nI_ge (show i < 13 by omega) (by decide))) (fun c_1 => ?_)
    refine lv_iload hx hb dX4_gf_mul_ext_23 (lv_at hl 3 rfl) ?_
    refine lv_iload_n hx hb dX4_gf_mul_ext_25 rfl (lv_at hl 1 rfl) ?_
    refine lv_iload hx hb dX4_gf_mul_ext_26 (lv_at hl 2 rfl) ?_
    refine lv_iconst (v := nI 1) hx hb dX4_gf_mul_ext_28 (by decide +kernel) ?_
    refine lv_iload hx hb dX4_gf_mul_ext_29 (lv_at hl 4 rfl) ?_
    refine nw_wshl hx hb (show i < 32 by omega) dX4_gf_mul_ext_31 ?_
    refine nw_wand hx hb dX4_gf_mul_ext_32 ?_
    refine nw_wmul hx hb dX4_gf_mul_ext_33 ?_
    refine nw_wxor hx hb dX4_gf_mul_ext_34 ?_
    refine nw_swap (b := (gf_clm x y (i + 1))) (rfl) ?_
    refine lv_istore (lv' := [(5, .int (nI (gf_clm x y (i + 1)))), (0, .ref h0), (3, .int (nI x)), (4, .int (nI y)), (6, .int (nI i))]) hx hb dX4_gf_mul_ext_35 hl (by decide) rfl (fun ls hl => ?_)
    refine lv_iinc (v := nI (i + 1)) (lv' := [(6, .int (nI (i + 1))), (5, .int (nI (gf_clm x y (i + 1)))), (0, .ref h0), (3, .int (nI x)), (4, .int (nI y))]) hx hb dX4_gf_mul_ext_37 hl (k := 4) rfl (nw_inc i) (by decide) rfl (fun ls hl => ?_)
    refine lv_goto (tgt := 16) hx hb dX4_gf_mul_ext_40 (by decide) ?_
    exact ih (i + 1) (by omega) ls (lv_sub hl [2, 3, 4, 1, 0] rfl)
set_option maxHeartbeats 4000000 in
set_option maxRecDepth 100000 in
/-- GF13.gf_mul_ext(a, b) -/
theorem m4_mul_ext (l : Launch) (h0 a b : Nat) : Met l yX4_gf_mul_ext (ws_ yX4_gf_mul_ext cX4_gf_mul_ext 7 (some .int)) nw_rm0 (va_Pc [.ref h0, .int (nI a), .int (nI b)] (fun U => True)) (QcRead (nI (gf_clm a b 13))) 0 0 (fun _ => False) := by
  refine Met.ofW (cc := cX4_gf_mul_ext) (maxL := 7) (ret := some .int) (by decide) rfl ?_
  intro p e s m args below meth c s₁ B hml hv
  obtain ⟨rfl, hS⟩ := hv
  have hx := B.exec
  have hb := B.bytes
  have hr := B.returns
  have hts := atoms_spec (ws := ws_ yX4_gf_mul_ext cX4_gf_mul_ext 7 (some .int)) B.pre
  have hts : ∀ w ∈ lw_all, w.before _ s = true := fun w h => hts w (List.mem_cons_of_mem _ h)
  have hown : s.vm.findClass RX4 = some m.cls := findClass_of_methodNamed B.named
  have hlocks := B.notSynchronized
  have hl := lv_entry ([.ref h0, .int (nI a), .int (nI b)]) (n := 7) (Nat.le_of_ble_eq_true rfl)
  rw [lg_entry_eq]
  generalize (lg_sl ([.ref h0, .int (nI a), .int (nI b)]) ++ List.replicate (7 - (lg_sl ([.ref h0, .int (nI a), .int (nI b)])).length) Slot.unset).toArray = ls at hl ⊢
  have hl : lv_has ls 7 [(0, .ref h0), (1, .int (nI a)), (2, .int (nI b))] := hl
  refine lv_iload_n hx hb dX4_gf_mul_ext_0 rfl (lv_at hl 1 rfl) ?_
  refine lv_istore_n (lv' := [(3, .int (nI a)), (0, .ref h0), (1, .int (nI a)), (2, .int (nI b))]) hx hb dX4_gf_mul_ext_1 rfl hl (by decide) rfl (fun ls hl => ?_)
  refine lv_iload_n hx hb dX4_gf_mul_ext_2 rfl (lv_at hl 3 rfl) ?_
  refine lv_istore (lv' := [(4, .int (nI b)), (3, .int (nI a)), (0, .ref h0), (1, .int (nI a)), (2, .int (nI b))]) hx hb dX4_gf_mul_ext_3 hl (by decide) rfl (fun ls hl => ?_)
  refine lv_iload_n hx hb dX4_gf_mul_ext_5 rfl (lv_at hl 1 rfl) ?_
  refine lv_iload hx hb dX4_gf_mul_ext_6 (lv_at hl 0 rfl) ?_
  refine lv_iconst (v := nI 1) hx hb dX4_gf_mul_ext_8 (by decide +kernel) ?_
  refine nw_wand hx hb dX4_gf_mul_ext_9 ?_
  refine nw_wmul hx hb dX4_gf_mul_ext_10 ?_
  refine nw_swap (b := (gf_clm a b 1)) (gf_clm_1 a b) ?_
  refine lv_istore (lv' := [(5, .int (nI (gf_clm a b 1))), (4, .int (nI b)), (3, .int (nI a)), (0, .ref h0), (1, .int (nI a)), (2, .int (nI b))]) hx hb dX4_gf_mul_ext_11 hl (by decide) rfl (fun ls hl => ?_)
  refine lv_iconst (v := nI 1) hx hb dX4_gf_mul_ext_13 (by decide +kernel) ?_
  refine lv_istore (lv' := [(6, .int (nI 1)), (5, .int (nI (gf_clm a b 1))), (4, .int (nI b)), (3, .int (nI a)), (0, .ref h0), (1, .int (nI a)), (2, .int (nI b))]) hx hb dX4_gf_mul_ext_14 hl (by decide) rfl (fun ls hl => ?_)
  refine lpX4_gf_mul_ext hx hb h0 a b (fun ls hl => ?_) 12 1 rfl ls (lv_sub hl [4, 3, 2, 1, 0] rfl)
  refine lv_iload hx hb dX4_gf_mul_ext_43 (lv_at hl 1 rfl) ?_
  exact nw_ret hx hb hr hlocks (vp_nar_int _) (rfl) dX4_gf_mul_ext_45
set_option maxHeartbeats 4000000 in
set_option maxRecDepth 100000 in
/-- the loop of GF13.gf_mul at its head -/
theorem lpX4_gf_mul {p : Program} {l : Launch} {e : Env} {R : Room} {s : State} {m : MethodId} {args : Array Value} {below : List Frame} {meth : Method} {c : Code} {H : Heap} {locs : List Loc} {cells slots : Nat} {Q : State → Prop} (hx : p.tables.exec = Jvm.exec) (hb : c.code = cX4_gf_mul) (h0 x y : Nat) (kk : ∀ ls : Array Slot, lv_has ls 7 [(0, .ref h0), (5, .int (nI (gf_clm x y 13)))] → W p l e R s m args below meth c H locs cells slots Q (F0 m 43 ls [])) : ∀ (n i : Nat), i + n = 13 → ∀ ls : Array Slot, lv_has ls 7 [(0, .ref h0), (3, .int (nI x)), (4, .int (nI y)), (5, .int (nI (gf_clm x y i))), (6, .int (nI i))] → W p l e R s m args below meth c H locs cells slots Q (F0 m 16 ls []) := by
  intro n
  induction n with
  | zero =>
    intro i hi ls hl
    have e0 : i = 13 := by omega
    subst e0
    refine lv_iload hx hb dX4_gf_mul_16 (lv_at hl 4 rfl) ?_
    refine lv_bipush (v := nI 13) hx hb dX4_gf_mul_18 (by decide +kernel) ?_
    refine lv_icmp_ge (tgt := 43) hx hb dX4_gf_mul_20 (by decide) (fun c_1 => ?_) (fun c_1 => absurd (nI_le (Nat.le_refl 13) (by decide)) c_1)
    exact kk ls (lv_sub hl [0, 3] rfl)
  | succ n ih =>
    intro i hi ls hl
    refine lv_iload hx hb dX4_gf_mul_16 (lv_at hl 4 rfl) ?_
    refine lv_bipush (v := nI 13) hx hb dX4_gf_mul_18 (by decide +kernel) ?_
    refine lv_icmp_ge (tgt := 43) hx hb dX4_gf_mul_20 (by decide) (fun c_1 => absurd c_1 (nI_ge (show i < 13 by omega) (by decide))) (fun c_1 => ?_)
    refine lv_iload hx hb dX4_gf_mul_23 (lv_at hl 3 rfl) ?_
    refine lv_iload_n hx hb dX4_gf_mul_25 rfl (lv_at hl 1 rfl) ?_
    refine lv_iload hx hb dX4_gf_mul_26 (lv_at hl 2 rfl) ?_
    refine lv_iconst (v := nI 1) hx hb dX4_gf_mul_28 (by decide +kernel) ?_
    refine lv_iload hx hb dX4_gf_mul_29 (lv_at hl 4 rfl) ?_
    refine nw_wshl hx hb (show i < 32 by omega) dX4_gf_mul_31 ?_
    refine nw_wand hx hb dX4_gf_mul_32 ?_
    refine nw_wmul hx hb dX4_gf_mul_33 ?_
    refine nw_wxor hx hb dX4_gf_mul_34 ?_
    refine nw_swap (b := (gf_clm x y (i + 1))) (rfl) ?_
    refine lv_istore (lv' := [(5, .int (nI (gf_clm x y (i + 1)))), (0, .ref h0), (3, .int (nI x)), (4, .int (nI y)), (6, .int (nI i))]) hx hb dX4_gf_mul_35 hl (by decide) rfl (fun ls hl => ?_)
    refine lv_iinc (v := nI (i + 1)) (lv' := [(6, .int (nI (i + 1))), (5, .int (nI (gf_clm x y (i + 1)))), (0, .ref h0), (3, .int (nI x)), (4, .int (nI y))]) hx hb dX4_gf_mul_37 hl (k := 4) rfl (nw_inc i) (by decide) rfl (fun ls hl => ?_)
    refine lv_goto (tgt := 16) hx hb dX4_gf_mul_40 (by decide) ?_
    exact ih (i + 1) (by omega) ls (lv_sub hl [2, 3, 4, 1, 0] rfl)
set_option maxHeartbeats 4000000 in
set_option maxRecDepth 100000 in
/-- GF13.gf_mul(a, b) -/
theorem m4_mul (l : Launch) (h0 a b : Nat) (ha : a < 2 ^ 13) : Met l yX4_gf_mul (ws_ yX4_gf_mul cX4_gf_mul 7 (some .short)) nw_rm1 (va_Pc [.ref h0, .int (nI a), .int (nI b)] (fun U => nw_Rc "GF13" h0 U U.heap)) (QcRead (nI (gf_mul13 a b))) 0 0 (fun _ => False) := by
  refine Met.ofW (cc := cX4_gf_mul) (maxL := 7) (ret := some .short) (by decide) rfl ?_
  intro p e s m args below meth c s₁ B hml hv
  obtain ⟨rfl, hS⟩ := hv
  have hx := B.exec
  have hb := B.bytes
  have hr := B.returns
  have hts := atoms_spec (ws := ws_ yX4_gf_mul cX4_gf_mul 7 (some .short)) B.pre
  have hts : ∀ w ∈ lw_all, w.before _ s = true := fun w h => hts w (List.mem_cons_of_mem _ h)
  have hown : s.vm.findClass RX4 = some m.cls := findClass_of_methodNamed B.named
  have hlocks := B.notSynchronized
  have hl := lv_entry ([.ref h0, .int (nI a), .int (nI b)]) (n := 7) (Nat.le_of_ble_eq_true rfl)
  rw [lg_entry_eq]
  generalize (lg_sl ([.ref h0, .int (nI a), .int (nI b)]) ++ List.replicate (7 - (lg_sl ([.ref h0, .int (nI a), .int (nI b)])).length) Slot.unset).toArray = ls at hl ⊢
  have hl : lv_has ls 7 [(0, .ref h0), (1, .int (nI a)), (2, .int (nI b))] := hl
  refine lv_iload_n hx hb dX4_gf_mul_0 rfl (lv_at hl 1 rfl) ?_
  refine lv_istore_n (lv' := [(3, .int (nI a)), (0, .ref h0), (1, .int (nI a)), (2, .int (nI b))]) hx hb dX4_gf_mul_1 rfl hl (by decide) rfl (fun ls hl => ?_)
  refine lv_iload_n hx hb dX4_gf_mul_2 rfl (lv_at hl 3 rfl) ?_
  refine lv_istore (lv' := [(4, .int (nI b)), (3, .int (nI a)), (0, .ref h0), (1, .int (nI a)), (2, .int (nI b))]) hx hb dX4_gf_mul_3 hl (by decide) rfl (fun ls hl => ?_)
  refine lv_iload_n hx hb dX4_gf_mul_5 rfl (lv_at hl 1 rfl) ?_
  refine lv_iload hx hb dX4_gf_mul_6 (lv_at hl 0 rfl) ?_
  refine lv_iconst (v := nI 1) hx hb dX4_gf_mul_8 (by decide +kernel) ?_
  refine nw_wand hx hb dX4_gf_mul_9 ?_
  refine nw_wmul hx hb dX4_gf_mul_10 ?_
  refine nw_swap (b := (gf_clm a b 1)) (gf_clm_1 a b) ?_
  refine lv_istore (lv' := [(5, .int (nI (gf_clm a b 1))), (4, .int (nI b)), (3, .int (nI a)), (0, .ref h0), (1, .int (nI a)), (2, .int (nI b))]) hx hb dX4_gf_mul_11 hl (by decide) rfl (fun ls hl => ?_)
  refine lv_iconst (v := nI 1) hx hb dX4_gf_mul_13 (by decide +kernel) ?_
  refine lv_istore (lv' := [(6, .int (nI 1)), (5, .int (nI (gf_clm a b 1))), (4, .int (nI b)), (3, .int (nI a)), (0, .ref h0), (1, .int (nI a)), (2, .int (nI b))]) hx hb dX4_gf_mul_14 hl (by decide) rfl (fun ls hl => ?_)
  refine lpX4_gf_mul hx hb h0 a b (fun ls hl => ?_) 12 1 rfl ls (lv_sub hl [4, 3, 2, 1, 0] rfl)
  refine lv_aload_n hx hb dX4_gf_mul_43 rfl (lv_at hl 0 rfl) ?_
  refine lv_iload hx hb dX4_gf_mul_44 (lv_at hl 1 rfl) ?_
  refine nw_calli (W.runV (As := [.int (nI (gf_clm a b 13))]) (rest := []) ⟨hx, hb, hml, hown, hts⟩ (m4_reduce l h0 (gf_clm a b 13) (gf_clm_lt b ha 13)) (cwV 1 hts (lw_V q62 q63 q64 q7 q65) rfl rfl rfl (by decide +kernel) ⟨Nat.le_of_ble_eq_true rfl, Nat.le_of_ble_eq_true rfl⟩) ⟨fun _ _ _ _ q => q, hS, fun U hU hW => ⟨rfl, trivial⟩⟩ rfl rfl hl.1 rfl (lv_room (Nat.le_of_ble_eq_true rfl)) dX4_gf_mul_46 ⟨Nat.le_of_ble_eq_true rfl, Nat.le_of_ble_eq_true rfl⟩) ?_
  exact nw_ret hx hb hr hlocks (nw_short (Nat.lt_trans (gf_mul13_lt b ha) (by decide))) (rfl) dX4_gf_mul_49
set_option maxHeartbeats 4000000 in
set_option maxRecDepth 100000 in
/-- GF13.gf_sq_ext(a) -/
theorem m4_sq_ext (l : Launch) (h0 a : Nat) : Met l yX4_gf_sq_ext (ws_ yX4_gf_sq_ext cX4_gf_sq_ext 2 (some .int)) nw_rm1 (va_Pc [.ref h0, .int (nI a)] (fun U => True)) (QcRead (nI (gf_exp a))) 0 0 (fun _ => False) := by
  refine Met.ofW (cc := cX4_gf_sq_ext) (maxL := 2) (ret := some .int) (by decide) rfl ?_
  intro p e s m args below meth c s₁ B hml hv
  obtain ⟨rfl, hS⟩ := hv
  have hx := B.exec
  have hb := B.bytes
  have hr := B.returns
  have hts := atoms_spec (ws := ws_ yX4_gf_sq_ext cX4_gf_sq_ext 2 (some .int)) B.pre
  have hts : ∀ w ∈ lw_all, w.before _ s = true := fun w h => hts w (List.mem_cons_of_mem _ h)
  have hown : s.vm.findClass RX4 = some m.cls := findClass_of_methodNamed B.named
  have hlocks := B.notSynchronized
  have hl := lv_entry ([.ref h0, .int (nI a)]) (n := 2) (Nat.le_of_ble_eq_true rfl)
  rw [lg_entry_eq]
  generalize (lg_sl ([.ref h0, .int (nI a)]) ++ List.replicate (2 - (lg_sl ([.ref h0, .int (nI a)])).length) Slot.unset).toArray = ls at hl ⊢
  have hl : lv_has ls 2 [(0, .ref h0), (1, .int (nI a))] := hl
  refine lv_iload_n hx hb dX4_gf_sq_ext_0 rfl (lv_at hl 1 rfl) ?_
  refine nw_calli (W.runS (As := [.int (nI a)]) (rest := []) ⟨hx, hb, hml, hown, hts⟩ (m5_expand l a) (va_cwS 1 hts (lw_S q87 q77 q8 q78) rfl rfl rfl (by decide +kernel) ⟨Nat.le_of_ble_eq_true rfl, Nat.le_of_ble_eq_true rfl⟩) ⟨fun _ _ _ _ q => q, fun U hU hW => ⟨rfl, trivial⟩⟩ rfl rfl hl.1 rfl (lv_room (Nat.le_of_ble_eq_true rfl)) dX4_gf_sq_ext_1 ⟨Nat.le_of_ble_eq_true rfl, Nat.le_of_ble_eq_true rfl⟩) ?_
  exact nw_ret hx hb hr hlocks (vp_nar_int _) (rfl) dX4_gf_sq_ext_4
set_option maxHeartbeats 4000000 in
set_option maxRecDepth 100000 in
/-- GF13.gf_sq(a) -/
theorem m4_sq (l : Launch) (h0 a : Nat) (ha : a < 2 ^ 13) : Met l yX4_gf_sq (ws_ yX4_gf_sq cX4_gf_sq 3 (some .short)) nw_rm1 (va_Pc [.ref h0, .int (nI a)] (fun U => nw_Rc "GF13" h0 U U.heap)) (QcRead (nI (gf_sq13 a))) 0 0 (fun _ => False) := by
  refine Met.ofW (cc := cX4_gf_sq) (maxL := 3) (ret := some .short) (by decide) rfl ?_
  intro p e s m args below meth c s₁ B hml hv
  obtain ⟨rfl, hS⟩ := hv
  have hx := B.exec
  have hb := B.bytes
  have hr := B.returns
  have hts := atoms_spec (ws := ws_ yX4_gf_sq cX4_gf_sq 3 (some .short)) B.pre
  have hts : ∀ w ∈ lw_all, w.before _ s = true := fun w h => hts w (List.mem_cons_of_mem _ h)
  have hown : s.vm.findClass RX4 = some m.cls := findClass_of_methodNamed B.named
  have hlocks := B.notSynchronized
  have hl := lv_entry ([.ref h0, .int (nI a)]) (n := 3) (Nat.le_of_ble_eq_true rfl)
  rw [lg_entry_eq]
  generalize (lg_sl ([.ref h0, .int (nI a)]) ++ List.replicate (3 - (lg_sl ([.ref h0, .int (nI a)])).length) Slot.unset).toArray = ls at hl ⊢
  have hl : lv_has ls 3 [(0, .ref h0), (1, .int (nI a))] := hl
  refine lv_iload_n hx hb dX4_gf_sq_0 rfl (lv_at hl 1 rfl) ?_
  refine nw_calli (W.runS (As := [.int (nI a)]) (rest := []) ⟨hx, hb, hml, hown, hts⟩ (m5_expand l a) (va_cwS 1 hts (lw_S q87 q77 q8 q78) rfl rfl rfl (by decide +kernel) ⟨Nat.le_of_ble_eq_true rfl, Nat.le_of_ble_eq_true rfl⟩) ⟨fun _ _ _ _ q => q, fun U hU hW => ⟨rfl, trivial⟩⟩ rfl rfl hl.1 rfl (lv_room (Nat.le_of_ble_eq_true rfl)) dX4_gf_sq_1 ⟨Nat.le_of_ble_eq_true rfl, Nat.le_of_ble_eq_true rfl⟩) ?_
  refine nw_topi (fun v1 ev1 => ?_)
  refine lv_istore_n (lv' := [(2, .int (nI v1)), (0, .ref h0), (1, .int (nI a))]) hx hb dX4_gf_sq_4 rfl hl (by decide) rfl (fun ls hl => ?_)
  refine lv_aload_n hx hb dX4_gf_sq_5 rfl (lv_at hl 1 rfl) ?_
  refine lv_iload_n hx hb dX4_gf_sq_6 rfl (lv_at hl 0 rfl) ?_
  subst ev1
  refine nw_calli (W.runV (As := [.int (nI (gf_exp a))]) (rest := []) ⟨hx, hb, hml, hown, hts⟩ (m4_reduce l h0 (gf_exp a) (gf_exp13_lt ha)) (cwV 1 hts (lw_V q62 q63 q64 q7 q65) rfl rfl rfl (by decide +kernel) ⟨Nat.le_of_ble_eq_true rfl, Nat.le_of_ble_eq_true rfl⟩) ⟨fun _ _ _ _ q => q, hS, fun U hU hW => ⟨rfl, trivial⟩⟩ rfl rfl hl.1 rfl (lv_room (Nat.le_of_ble_eq_true rfl)) dX4_gf_sq_7 ⟨Nat.le_of_ble_eq_true rfl, Nat.le_of_ble_eq_true rfl⟩) ?_
  exact nw_ret hx hb hr hlocks (nw_short (Nat.lt_trans (gf_sq13_lt ha) (by decide))) (rfl) dX4_gf_sq_10
set_option maxHeartbeats 4000000 in
set_option maxRecDepth 100000 in
/-- GF13.gf_sq2(a) -/
theorem m4_sq2 (l : Launch) (h0 a : Nat) (ha : a < 2 ^ 13) : Met l yX4_gf_sq2 (ws_ yX4_gf_sq2 cX4_gf_sq2 4 (some .short)) nw_rm1 (va_Pc [.ref h0, .int (nI a)] (fun U => nw_Rc "GF13" h0 U U.heap)) (QcRead (nI (gf_sq2 a))) 0 0 (fun _ => False) := by
  refine Met.ofW (cc := cX4_gf_sq2) (maxL := 4) (ret := some .short) (by decide) rfl ?_
  intro p e s m args below meth c s₁ B hml hv
  obtain ⟨rfl, hS⟩ := hv
  have hx := B.exec
  have hb := B.bytes
  have hr := B.returns
  have hts := atoms_spec (ws := ws_ yX4_gf_sq2 cX4_gf_sq2 4 (some .short)) B.pre
  have hts : ∀ w ∈ lw_all, w.before _ s = true := fun w h => hts w (List.mem_cons_of_mem _ h)
  have hown : s.vm.findClass RX4 = some m.cls := findClass_of_methodNamed B.named
  have hlocks := B.notSynchronized
  have hl := lv_entry ([.ref h0, .int (nI a)]) (n := 4) (Nat.le_of_ble_eq_true rfl)
  rw [lg_entry_eq]
  generalize (lg_sl ([.ref h0, .int (nI a)]) ++ List.replicate (4 - (lg_sl ([.ref h0, .int (nI a)])).length) Slot.unset).toArray = ls at hl ⊢
  have hl : lv_has ls 4 [(0, .ref h0), (1, .int (nI a))] := hl
  refine lv_iload_n hx hb dX4_gf_sq2_0 rfl (lv_at hl 1 rfl) ?_
  refine nw_calli (W.runS (As := [.int (nI a)]) (rest := []) ⟨hx, hb, hml, hown, hts⟩ (m5_expand l a) (va_cwS 1 hts (lw_S q87 q77 q8 q78) rfl rfl rfl (by decide +kernel) ⟨Nat.le_of_ble_eq_true rfl, Nat.le_of_ble_eq_true rfl⟩) ⟨fun _ _ _ _ q => q, fun U hU hW => ⟨rfl, trivial⟩⟩ rfl rfl hl.1 rfl (lv_room (Nat.le_of_ble_eq_true rfl)) dX4_gf_sq2_1 ⟨Nat.le_of_ble_eq_true rfl, Nat.le_of_ble_eq_true rfl⟩) ?_
  refine nw_topi (fun v1 ev1 => ?_)
  refine lv_istore_n (lv' := [(2, .int (nI v1)), (0, .ref h0), (1, .int (nI a))]) hx hb dX4_gf_sq2_4 rfl hl (by decide) rfl (fun ls hl => ?_)
  refine lv_aload_n hx hb dX4_gf_sq2_5 rfl (lv_at hl 1 rfl) ?_
  refine lv_iload_n hx hb dX4_gf_sq2_6 rfl (lv_at hl 0 rfl) ?_
  subst ev1
  refine nw_calli (W.runV (As := [.int (nI (gf_exp a))]) (rest := []) ⟨hx, hb, hml, hown, hts⟩ (m4_reduce l h0 (gf_exp a) (gf_exp13_lt ha)) (cwV 1 hts (lw_V q62 q63 q64 q7 q65) rfl rfl rfl (by decide +kernel) ⟨Nat.le_of_ble_eq_true rfl, Nat.le_of_ble_eq_true rfl⟩) ⟨fun _ _ _ _ q => q, hS, fun U hU hW => ⟨rfl, trivial⟩⟩ rfl rfl hl.1 rfl (lv_room (Nat.le_of_ble_eq_true rfl)) dX4_gf_sq2_7 ⟨Nat.le_of_ble_eq_true rfl, Nat.le_of_ble_eq_true rfl⟩) ?_
  refine nw_topi (fun v2 ev2 => ?_)
  have hv2 : v2 < 2 ^ 13 := by rw [ev2]; exact gf_sq13_lt ha
  refine lv_istore_n (lv' := [(1, .int (nI v2)), (2, .int (nI (gf_exp a))), (0, .ref h0)]) hx hb dX4_gf_sq2_10 rfl hl (by decide) rfl (fun ls hl => ?_)
  refine lv_iload_n hx hb dX4_gf_sq2_11 rfl (lv_at hl 0 rfl) ?_
  refine nw_calli (W.runS (As := [.int (nI v2)]) (rest := []) ⟨hx, hb, hml, hown, hts⟩ (m5_expand l v2) (va_cwS 1 hts (lw_S q87 q77 q8 q78) rfl rfl rfl (by decide +kernel) ⟨Nat.le_of_ble_eq_true rfl, Nat.le_of_ble_eq_true rfl⟩) ⟨fun _ _ _ _ q => q, fun U hU hW => ⟨rfl, trivial⟩⟩ rfl rfl hl.1 rfl (lv_room (Nat.le_of_ble_eq_true rfl)) dX4_gf_sq2_12 ⟨Nat.le_of_ble_eq_true rfl, Nat.le_of_ble_eq_true rfl⟩) ?_
  refine nw_topi (fun v3 ev3 => ?_)
  refine lv_istore_n (lv' := [(3, .int (nI v3)), (1, .int (nI v2)), (2, .int (nI (gf_exp a))), (0, .ref h0)]) hx hb dX4_gf_sq2_15 rfl hl (by decide) rfl (fun ls hl => ?_)
  refine lv_aload_n hx hb dX4_gf_sq2_16 rfl (lv_at hl 3 rfl) ?_
  refine lv_iload_n hx hb dX4_gf_sq2_17 rfl (lv_at hl 0 rfl) ?_
  refine nw_calli (W.runV (As := [.int (nI v3)]) (rest := []) ⟨hx, hb, hml, hown, hts⟩ (m4_reduce l h0 v3 (by rw [ev3]; exact gf_exp13_lt hv2)) (cwV 1 hts (lw_V q62 q63 q64 q7 q65) rfl rfl rfl (by decide +kernel) ⟨Nat.le_of_ble_eq_true rfl, Nat.le_of_ble_eq_true rfl⟩) ⟨fun _ _ _ _ q => q, hS, fun U hU hW => ⟨rfl, trivial⟩⟩ rfl rfl hl.1 rfl (lv_room (Nat.le_of_ble_eq_true rfl)) dX4_gf_sq2_18 ⟨Nat.le_of_ble_eq_true rfl, Nat.le_of_ble_eq_true rfl⟩) ?_
  subst ev2 ev3
  exact nw_ret hx hb hr hlocks (nw_short (Nat.lt_trans (gf_sq2_lt ha) (by decide))) (rfl) dX4_gf_sq2_21
set_option maxHeartbeats 4000000 in
set_option maxRecDepth 100000 in
/-- GF13.gf_sqmul(a, b) -/
theorem m4_sqmul (l : Launch) (h0 a b : Nat) (ha : a < 2 ^ 13) (hbb : b < 2 ^ 13) : Met l yX4_gf_sqmul (ws_ yX4_gf_sqmul cX4_gf_sqmul 11 (some .short)) nw_rm1 (va_Pc [.ref h0, .int (nI a), .int (nI b)] (fun U => nw_Rc "GF13" h0 U U.heap)) (QcRead (nI (gf_sqmul a b))) 0 0 (fun _ => False) := by
  refine Met.ofW (cc := cX4_gf_sqmul) (maxL := 11) (ret := some .short) (by decide) rfl ?_
  intro p e s m args below meth c s₁ B hml hv
  obtain ⟨rfl, hS⟩ := hv
  have hx := B.exec
  have hb := B.bytes
  have hr := B.returns
  have hts := atoms_spec (ws := ws_ yX4_gf_sqmul cX4_gf_sqmul 11 (some .short)) B.pre
  have hts : ∀ w ∈ lw_all, w.before _ s = true := fun w h => hts w (List.mem_cons_of_mem _ h)
  have hown : s.vm.findClass RX4 = some m.cls := findClass_of_methodNamed B.named
  have hlocks := B.notSynchronized
  have hl := lv_entry ([.ref h0, .int (nI a), .int (nI b)]) (n := 11) (Nat.le_of_ble_eq_true rfl)
  rw [lg_entry_eq]
  generalize (lg_sl ([.ref h0, .int (nI a), .int (nI b)]) ++ List.replicate (11 - (lg_sl ([.ref h0, .int (nI a), .int (nI b)])).length) Slot.unset).toArray = ls at hl ⊢
  have hl : lv_has ls 11 [(0, .ref h0), (1, .int (nI a)), (2, .int (nI b))] := hl
  refine lv_iload_n hx hb dX4_gf_sqmul_0 rfl (lv_at hl 1 rfl) ?_
  refine nw_wi2l hx hb (Nat.lt_trans ha (by decide)) dX4_gf_sqmul_1 ?_
  refine lv_lstore_n (lv' := [(3, .long (lN a)), (0, .ref h0), (1, .int (nI a)), (2, .int (nI b))]) hx hb dX4_gf_sqmul_2 rfl hl (by decide) rfl (fun ls hl => ?_)
  refine lv_iload_n hx hb dX4_gf_sqmul_3 rfl (lv_at hl 3 rfl) ?_
  refine nw_wi2l hx hb (Nat.lt_trans hbb (by decide)) dX4_gf_sqmul_4 ?_
  refine lv_lstore (lv' := [(5, .long (lN b)), (3, .long (lN a)), (0, .ref h0), (1, .int (nI a)), (2, .int (nI b))]) hx hb dX4_gf_sqmul_5 hl (by decide) rfl (fun ls hl => ?_)
  refine lv_lload hx hb dX4_gf_sqmul_7 (lv_at hl 0 rfl) ?_
  refine lv_bipush (v := nI 6) hx hb dX4_gf_sqmul_9 (by decide +kernel) ?_
  refine nw_wlshl hx hb (by decide) dX4_gf_sqmul_11 ?_
  refine lv_lload_n hx hb dX4_gf_sqmul_12 rfl (lv_at hl 1 rfl) ?_
  refine lv_ldc2 (v := lN 64) hx hb hown (hts _ q111) dX4_gf_sqmul_13 ?_
  refine nw_wland hx hb dX4_gf_sqmul_16 ?_
  refine nw_wlmul hx hb dX4_gf_sqmul_17 ?_
  refine nw_topl (fun v1 ev1 => ?_)
  refine lv_lstore (lv' := [(7, .long (lN v1)), (5, .long (lN b)), (3, .long (lN a)), (0, .ref h0), (1, .int (nI a)), (2, .int (nI b))]) hx hb dX4_gf_sqmul_18 hl (by decide) rfl (fun ls hl => ?_)
  refine lv_lload_n hx hb dX4_gf_sqmul_20 rfl (lv_at hl 2 rfl) ?_
  refine lv_lload_n hx hb dX4_gf_sqmul_21 rfl (lv_at hl 2 rfl) ?_
  refine lv_bipush (v := nI 7) hx hb dX4_gf_sqmul_22 (by decide +kernel) ?_
  refine nw_wlshl hx hb (by decide) dX4_gf_sqmul_24 ?_
  refine nw_wlxor hx hb dX4_gf_sqmul_25 ?_
  refine nw_topl (fun v2 ev2 => ?_)
  refine lv_lstore_n (lv' := [(3, .long (lN v2)), (7, .long (lN v1)), (5, .long (lN b)), (0, .ref h0), (1, .int (nI a)), (2, .int (nI b))]) hx hb dX4_gf_sqmul_26 rfl hl (by decide) rfl (fun ls hl => ?_)
  refine lv_lload hx hb dX4_gf_sqmul_27 (lv_at hl 1 rfl) ?_
  refine lv_lload hx hb dX4_gf_sqmul_29 (lv_at hl 2 rfl) ?_
  refine lv_iconst (v := nI 0) hx hb dX4_gf_sqmul_31 (by decide +kernel) ?_
  refine nw_wlshl hx hb (by decide) dX4_gf_sqmul_32 ?_
  refine lv_lload_n hx hb dX4_gf_sqmul_33 rfl (lv_at hl 0 rfl) ?_
  refine lv_ldc2 (v := lN 16385) hx hb hown (hts _ q112) dX4_gf_sqmul_34 ?_
  refine nw_wland hx hb dX4_gf_sqmul_37 ?_
  refine nw_wlmul hx hb dX4_gf_sqmul_38 ?_
  refine nw_wlxor hx hb dX4_gf_sqmul_39 ?_
  refine nw_topl (fun v3 ev3 => ?_)
  refine lv_lstore (lv' := [(7, .long (lN v3)), (3, .long (lN v2)), (5, .long (lN b)), (0, .ref h0), (1, .int (nI a)), (2, .int (nI b))]) hx hb dX4_gf_sqmul_40 hl (by decide) rfl (fun ls hl => ?_)
  refine lv_lload hx hb dX4_gf_sqmul_42 (lv_at hl 0 rfl) ?_
  refine lv_lload hx hb dX4_gf_sqmul_44 (lv_at hl 2 rfl) ?_
  refine lv_iconst (v := nI 1) hx hb dX4_gf_sqmul_46 (by decide +kernel) ?_
  refine nw_wlshl hx hb (by decide) dX4_gf_sqmul_47 ?_
  refine lv_lload_n hx hb dX4_gf_sqmul_48 rfl (lv_at hl 1 rfl) ?_
  refine lv_ldc2 (v := lN 32770) hx hb hown (hts _ q113) dX4_gf_sqmul_49 ?_
  refine nw_wland hx hb dX4_gf_sqmul_52 ?_
  refine nw_wlmul hx hb dX4_gf_sqmul_53 ?_
  refine nw_wlxor hx hb dX4_gf_sqmul_54 ?_
  refine nw_topl (fun v4 ev4 => ?_)
  refine lv_lstore (lv' := [(7, .long (lN v4)), (3, .long (lN v2)), (5, .long (lN b)), (0, .ref h0), (1, .int (nI a)), (2, .int (nI b))]) hx hb dX4_gf_sqmul_55 hl (by decide) rfl (fun ls hl => ?_)
  refine lv_lload hx hb dX4_gf_sqmul_57 (lv_at hl 0 rfl) ?_
  refine lv_lload hx hb dX4_gf_sqmul_59 (lv_at hl 2 rfl) ?_
  refine lv_iconst (v := nI 2) hx hb dX4_gf_sqmul_61 (by decide +kernel) ?_
  refine nw_wlshl hx hb (by decide) dX4_gf_sqmul_62 ?_
  refine lv_lload_n hx hb dX4_gf_sqmul_63 rfl (lv_at hl 1 rfl) ?_
  refine lv_ldc2 (v := lN 65540) hx hb hown (hts _ q114) dX4_gf_sqmul_64 ?_
  refine nw_wland hx hb dX4_gf_sqmul_67 ?_
  refine nw_wlmul hx hb dX4_gf_sqmul_68 ?_
  refine nw_wlxor hx hb dX4_gf_sqmul_69 ?_
  refine nw_topl (fun v5 ev5 => ?_)
  refine lv_lstore (lv' := [(7, .long (lN v5)), (3, .long (lN v2)), (5, .long (lN b)), (0, .ref h0), (1, .int (nI a)), (2, .int (nI b))]) hx hb dX4_gf_sqmul_70 hl (by decide) rfl (fun ls hl => ?_)
  refine lv_lload hx hb dX4_gf_sqmul_72 (lv_at hl 0 rfl) ?_
  refine lv_lload hx hb dX4_gf_sqmul_74 (lv_at hl 2 rfl) ?_
  refine lv_iconst (v := nI 3) hx hb dX4_gf_sqmul_76 (by decide +kernel) ?_
  refine nw_wlshl hx hb (by decide) dX4_gf_sqmul_77 ?_
  refine lv_lload_n hx hb dX4_gf_sqmul_78 rfl (lv_at hl 1 rfl) ?_
  refine lv_ldc2 (v := lN 131080) hx hb hown (hts _ q115) dX4_gf_sqmul_79 ?_
  refine nw_wland hx hb dX4_gf_sqmul_82 ?_
  refine nw_wlmul hx hb dX4_gf_sqmul_83 ?_
  refine nw_wlxor hx hb dX4_gf_sqmul_84 ?_
  refine nw_topl (fun v6 ev6 => ?_)
  refine lv_lstore (lv' := [(7, .long (lN v6)), (3, .long (lN v2)), (5, .long (lN b)), (0, .ref h0), (1, .int (nI a)), (2, .int (nI b))]) hx hb dX4_gf_sqmul_85 hl (by decide) rfl (fun ls hl => ?_)
  refine lv_lload hx hb dX4_gf_sqmul_87 (lv_at hl 0 rfl) ?_
  refine lv_lload hx hb dX4_gf_sqmul_89 (lv_at hl 2 rfl) ?_
  refine lv_iconst (v := nI 4) hx hb dX4_gf_sqmul_91 (by decide +kernel) ?_
  refine nw_wlshl hx hb (by decide) dX4_gf_sqmul_92 ?_
  refine lv_lload_n hx hb dX4_gf_sqmul_93 rfl (lv_at hl 1 rfl) ?_
  refine lv_ldc2 (v := lN 262160) hx hb hown (hts _ q116) dX4_gf_sqmul_94 ?_
  refine nw_wland hx hb dX4_gf_sqmul_97 ?_
  refine nw_wlmul hx hb dX4_gf_sqmul_98 ?_
  refine nw_wlxor hx hb dX4_gf_sqmul_99 ?_
  refine nw_topl (fun v7 ev7 => ?_)
  refine lv_lstore (lv' := [(7, .long (lN v7)), (3, .long (lN v2)), (5, .long (lN b)), (0, .ref h0), (1, .int (nI a)), (2, .int (nI b))]) hx hb dX4_gf_sqmul_100 hl (by decide) rfl (fun ls hl => ?_)
  refine lv_lload hx hb dX4_gf_sqmul_102 (lv_at hl 0 rfl) ?_
  refine lv_lload hx hb dX4_gf_sqmul_104 (lv_at hl 2 rfl) ?_
  refine lv_iconst (v := nI 5) hx hb dX4_gf_sqmul_106 (by decide +kernel) ?_
  refine nw_wlshl hx hb (by decide) dX4_gf_sqmul_107 ?_
  refine lv_lload_n hx hb dX4_gf_sqmul_108 rfl (lv_at hl 1 rfl) ?_
  refine lv_ldc2 (v := lN 524320) hx hb hown (hts _ q117) dX4_gf_sqmul_109 ?_
  refine nw_wland hx hb dX4_gf_sqmul_112 ?_
  refine nw_wlmul hx hb dX4_gf_sqmul_113 ?_
  refine nw_wlxor hx hb dX4_gf_sqmul_114 ?_
  refine nw_topl (fun v8 ev8 => ?_)
  refine lv_lstore (lv' := [(7, .long (lN v8)), (3, .long (lN v2)), (5, .long (lN b)), (0, .ref h0), (1, .int (nI a)), (2, .int (nI b))]) hx hb dX4_gf_sqmul_115 hl (by decide) rfl (fun ls hl => ?_)
  refine lv_lload hx hb dX4_gf_sqmul_117 (lv_at hl 0 rfl) ?_
  refine lv_ldc2 (v := lN 137371844608) hx hb hown (hts _ q118) dX4_gf_sqmul_119 ?_
  refine nw_wland hx hb dX4_gf_sqmul_122 ?_
  refine nw_topl (fun v9 ev9 => ?_)
  refine lv_lstore (lv' := [(9, .long (lN v9)), (7, .long (lN v8)), (3, .long (lN v2)), (5, .long (lN b)), (0, .ref h0), (1, .int (nI a)), (2, .int (nI b))]) hx hb dX4_gf_sqmul_123 hl (by decide) rfl (fun ls hl => ?_)
  refine lv_lload hx hb dX4_gf_sqmul_125 (lv_at hl 1 rfl) ?_
  refine lv_lload hx hb dX4_gf_sqmul_127 (lv_at hl 0 rfl) ?_
  refine lv_bipush (v := nI 18) hx hb dX4_gf_sqmul_129 (by decide +kernel) ?_
  refine nw_wlushr hx hb (by decide) (by rw [ev9]; exact Nat.and_lt_two_pow _ (by decide)) dX4_gf_sqmul_131 ?_
  refine lv_lload hx hb dX4_gf_sqmul_132 (lv_at hl 0 rfl) ?_
  refine lv_bipush (v := nI 20) hx hb dX4_gf_sqmul_134 (by decide +kernel) ?_
  refine nw_wlushr hx hb (by decide) (by rw [ev9]; exact Nat.and_lt_two_pow _ (by decide)) dX4_gf_sqmul_136 ?_
  refine nw_wlxor hx hb dX4_gf_sqmul_137 ?_
  refine lv_lload hx hb dX4_gf_sqmul_138 (lv_at hl 0 rfl) ?_
  refine lv_bipush (v := nI 24) hx hb dX4_gf_sqmul_140 (by decide +kernel) ?_
  refine nw_wlushr hx hb (by decide) (by rw [ev9]; exact Nat.and_lt_two_pow _ (by decide)) dX4_gf_sqmul_142 ?_
  refine nw_wlxor hx hb dX4_gf_sqmul_143 ?_
  refine lv_lload hx hb dX4_gf_sqmul_144 (lv_at hl 0 rfl) ?_
  refine lv_bipush (v := nI 26) hx hb dX4_gf_sqmul_146 (by decide +kernel) ?_
  refine nw_wlushr hx hb (by decide) (by rw [ev9]; exact Nat.and_lt_two_pow _ (by decide)) dX4_gf_sqmul_148 ?_
  refine nw_wlxor hx hb dX4_gf_sqmul_149 ?_
  refine nw_wlxor hx hb dX4_gf_sqmul_150 ?_
  refine nw_topl (fun v10 ev10 => ?_)
  refine lv_lstore (lv' := [(7, .long (lN v10)), (9, .long (lN v9)), (3, .long (lN v2)), (5, .long (lN b)), (0, .ref h0), (1, .int (nI a)), (2, .int (nI b))]) hx hb dX4_gf_sqmul_151 hl (by decide) rfl (fun ls hl => ?_)
  refine lv_aload_n hx hb dX4_gf_sqmul_153 rfl (lv_at hl 4 rfl) ?_
  refine lv_lload hx hb dX4_gf_sqmul_154 (lv_at hl 0 rfl) ?_
  refine nw_wl2i hx hb dX4_gf_sqmul_156 ?_
  refine lv_ldc (v := nI 67108863) hx hb hown (hts _ q119) dX4_gf_sqmul_157 ?_
  refine nw_wand hx hb dX4_gf_sqmul_159 ?_
  refine nw_calli (W.runV (As := [.int (nI (v10 &&& 67108863))]) (rest := []) ⟨hx, hb, hml, hown, hts⟩ (m4_reduce l h0 (v10 &&& 67108863) (Nat.and_lt_two_pow _ (by decide))) (cwV 1 hts (lw_V q62 q63 q64 q7 q65) rfl rfl rfl (by decide +kernel) ⟨Nat.le_of_ble_eq_true rfl, Nat.le_of_ble_eq_true rfl⟩) ⟨fun _ _ _ _ q => q, hS, fun U hU hW => ⟨rfl, trivial⟩⟩ rfl rfl hl.1 rfl (lv_room (Nat.le_of_ble_eq_true rfl)) dX4_gf_sqmul_160 ⟨Nat.le_of_ble_eq_true rfl, Nat.le_of_ble_eq_true rfl⟩) ?_
  have hz : gf_red13 (v10 &&& 67108863) < 2 ^ 13 := gf_red13_lt (Nat.and_lt_two_pow _ (by decide))
  subst ev1 ev2 ev3 ev4 ev5 ev6 ev7 ev8 ev9 ev10
  exact nw_ret hx hb hr hlocks (nw_short (Nat.lt_trans hz (by decide))) (rfl) dX4_gf_sqmul_163
set_option maxHeartbeats 4000000 in
set_option maxRecDepth 100000 in
/-- GF13.gf_sq2mul(a, b) -/
theorem m4_sq2mul (l : Launch) (h0 a b : Nat) (ha : a < 2 ^ 13) (hbb : b < 2 ^ 13) : Met l yX4_gf_sq2mul (ws_ yX4_gf_sq2mul cX4_gf_sq2mul 11 (some .short)) nw_rm1 (va_Pc [.ref h0, .int (nI a), .int (nI b)] (fun U => nw_Rc "GF13" h0 U U.heap)) (QcRead (nI (gf_sq2mul a b))) 0 0 (fun _ => False) := by
  refine Met.ofW (cc := cX4_gf_sq2mul) (maxL := 11) (ret := some .short) (by decide) rfl ?_
  intro p e s m args below meth c s₁ B hml hv
  obtain ⟨rfl, hS⟩ := hv
  have hx := B.exec
  have hb := B.bytes
  have hr := B.returns
  have hts := atoms_spec (ws := ws_ yX4_gf_sq2mul cX4_gf_sq2mul 11 (some .short)) B.pre
  have hts : ∀ w ∈ lw_all, w.before _ s = true := fun w h => hts w (List.mem_cons_of_mem _ h)
  have hown : s.vm.findClass RX4 = some m.cls := findClass_of_methodNamed B.named
  have hlocks := B.notSynchronized
  have hl := lv_entry ([.ref h0, .int (nI a), .int (nI b)]) (n := 11) (Nat.le_of_ble_eq_true rfl)
  rw [lg_entry_eq]
  generalize (lg_sl ([.ref h0, .int (nI a), .int (nI b)]) ++ List.replicate (11 - (lg_sl ([.ref h0, .int (nI a), .int (nI b)])).length) Slot.unset).toArray = ls at hl ⊢
  have hl : lv_has ls 11 [(0, .ref h0), (1, .int (nI a)), (2, .int (nI b))] := hl
  refine lv_iload_n hx hb dX4_gf_sq2mul_0 rfl (lv_at hl 1 rfl) ?_
  refine nw_wi2l hx hb (Nat.lt_trans ha (by decide)) dX4_gf_sq2mul_1 ?_
  refine lv_lstore_n (lv' := [(3, .long (lN a)), (0, .ref h0), (1, .int (nI a)), (2, .int (nI b))]) hx hb dX4_gf_sq2mul_2 rfl hl (by decide) rfl (fun ls hl => ?_)
  refine lv_iload_n hx hb dX4_gf_sq2mul_3 rfl (lv_at hl 3 rfl) ?_
  refine nw_wi2l hx hb (Nat.lt_trans hbb (by decide)) dX4_gf_sq2mul_4 ?_
  refine lv_lstore (lv' := [(5, .long (lN b)), (3, .long (lN a)), (0, .ref h0), (1, .int (nI a)), (2, .int (nI b))]) hx hb dX4_gf_sq2mul_5 hl (by decide) rfl (fun ls hl => ?_)
  refine lv_lload hx hb dX4_gf_sq2mul_7 (lv_at hl 0 rfl) ?_
  refine lv_bipush (v := nI 18) hx hb dX4_gf_sq2mul_9 (by decide +kernel) ?_
  refine nw_wlshl hx hb (by decide) dX4_gf_sq2mul_11 ?_
  refine lv_lload_n hx hb dX4_gf_sq2mul_12 rfl (lv_at hl 1 rfl) ?_
  refine lv_ldc2 (v := lN 64) hx hb hown (hts _ q111) dX4_gf_sq2mul_13 ?_
  refine nw_wland hx hb dX4_gf_sq2mul_16 ?_
  refine nw_wlmul hx hb dX4_gf_sq2mul_17 ?_
  refine nw_topl (fun v1 ev1 => ?_)
  refine lv_lstore (lv' := [(7, .long (lN v1)), (5, .long (lN b)), (3, .long (lN a)), (0, .ref h0), (1, .int (nI a)), (2, .int (nI b))]) hx hb dX4_gf_sq2mul_18 hl (by decide) rfl (fun ls hl => ?_)
  refine lv_lload_n hx hb dX4_gf_sq2mul_20 rfl (lv_at hl 2 rfl) ?_
  refine lv_lload_n hx hb dX4_gf_sq2mul_21 rfl (lv_at hl 2 rfl) ?_
  refine lv_bipush (v := nI 21) hx hb dX4_gf_sq2mul_22 (by decide +kernel) ?_
  refine nw_wlshl hx hb (by decide) dX4_gf_sq2mul_24 ?_
  refine nw_wlxor hx hb dX4_gf_sq2mul_25 ?_
  refine nw_topl (fun v2 ev2 => ?_)
  refine lv_lstore_n (lv' := [(3, .long (lN v2)), (7, .long (lN v1)), (5, .long (lN b)), (0, .ref h0), (1, .int (nI a)), (2, .int (nI b))]) hx hb dX4_gf_sq2mul_26 rfl hl (by decide) rfl (fun ls hl => ?_)
  refine lv_lload hx hb dX4_gf_sq2mul_27 (lv_at hl 1 rfl) ?_
  refine lv_lload hx hb dX4_gf_sq2mul_29 (lv_at hl 2 rfl) ?_
  refine lv_iconst (v := nI 0) hx hb dX4_gf_sq2mul_31 (by decide +kernel) ?_
  refine nw_wlshl hx hb (by decide) dX4_gf_sq2mul_32 ?_
  refine lv_lload_n hx hb dX4_gf_sq2mul_33 rfl (lv_at hl 0 rfl) ?_
  refine lv_ldc2 (v := lN 268435457) hx hb hown (hts _ q124) dX4_gf_sq2mul_34 ?_
  refine nw_wland hx hb dX4_gf_sq2mul_37 ?_
  refine nw_wlmul hx hb dX4_gf_sq2mul_38 ?_
  refine nw_wlxor hx hb dX4_gf_sq2mul_39 ?_
  refine nw_topl (fun v3 ev3 => ?_)
  refine lv_lstore (lv' := [(7, .long (lN v3)), (3, .long (lN v2)), (5, .long (lN b)), (0, .ref h0), (1, .int (nI a)), (2, .int (nI b))]) hx hb dX4_gf_sq2mul_40 hl (by decide) rfl (fun ls hl => ?_)
  refine lv_lload hx hb dX4_gf_sq2mul_42 (lv_at hl 0 rfl) ?_
  refine lv_lload hx hb dX4_gf_sq2mul_44 (lv_at hl 2 rfl) ?_
  refine lv_iconst (v := nI 3) hx hb dX4_gf_sq2mul_46 (by decide +kernel) ?_
  refine nw_wlshl hx hb (by decide) dX4_gf_sq2mul_47 ?_
  refine lv_lload_n hx hb dX4_gf_sq2mul_48 rfl (lv_at hl 1 rfl) ?_
  refine lv_ldc2 (v := lN 536870914) hx hb hown (hts _ q125) dX4_gf_sq2mul_49 ?_
  refine nw_wland hx hb dX4_gf_sq2mul_52 ?_
  refine nw_wlmul hx hb dX4_gf_sq2mul_53 ?_
  refine nw_wlxor hx hb dX4_gf_sq2mul_54 ?_
  refine nw_topl (fun v4 ev4 => ?_)
  refine lv_lstore (lv' := [(7, .long (lN v4)), (3, .long (lN v2)), (5, .long (lN b)), (0, .ref h0), (1, .int (nI a)), (2, .int (nI b))]) hx hb dX4_gf_sq2mul_55 hl (by decide) rfl (fun ls hl => ?_)
  refine lv_lload hx hb dX4_gf_sq2mul_57 (lv_at hl 0 rfl) ?_
  refine lv_lload hx hb dX4_gf_sq2mul_59 (lv_at hl 2 rfl) ?_
  refine lv_bipush (v := nI 6) hx hb dX4_gf_sq2mul_61 (by decide +kernel) ?_
  refine nw_wlshl hx hb (by decide) dX4_gf_sq2mul_63 ?_
  refine lv_lload_n hx hb dX4_gf_sq2mul_64 rfl (lv_at hl 1 rfl) ?_
  refine lv_ldc2 (v := lN 1073741828) hx hb hown (hts _ q126) dX4_gf_sq2mul_65 ?_
  refine nw_wland hx hb dX4_gf_sq2mul_68 ?_
  refine nw_wlmul hx hb dX4_gf_sq2mul_69 ?_
  refine nw_wlxor hx hb dX4_gf_sq2mul_70 ?_
  refine nw_topl (fun v5 ev5 => ?_)
  refine lv_lstore (lv' := [(7, .long (lN v5)), (3, .long (lN v2)), (5, .long (lN b)), (0, .ref h0), (1, .int (nI a)), (2, .int (nI b))]) hx hb dX4_gf_sq2mul_71 hl (by decide) rfl (fun ls hl => ?_)
  refine lv_lload hx hb dX4_gf_sq2mul_73 (lv_at hl 0 rfl) ?_
  refine lv_lload hx hb dX4_gf_sq2mul_75 (lv_at hl 2 rfl) ?_
  refine lv_bipush (v := nI 9) hx hb dX4_gf_sq2mul_77 (by decide +kernel) ?_
  refine nw_wlshl hx hb (by decide) dX4_gf_sq2mul_79 ?_
  refine lv_lload_n hx hb dX4_gf_sq2mul_80 rfl (lv_at hl 1 rfl) ?_
  refine lv_ldc2 (v := lN 2147483656) hx hb hown (hts _ q127) dX4_gf_sq2mul_81 ?_
  refine nw_wland hx hb dX4_gf_sq2mul_84 ?_
  refine nw_wlmul hx hb dX4_gf_sq2mul_85 ?_
  refine nw_wlxor hx hb dX4_gf_sq2mul_86 ?_
  refine nw_topl (fun v6 ev6 => ?_)
  refine lv_lstore (lv' := [(7, .long (lN v6)), (3, .long (lN v2)), (5, .long (lN b)), (0, .ref h0), (1, .int (nI a)), (2, .int (nI b))]) hx hb dX4_gf_sq2mul_87 hl (by decide) rfl (fun ls hl => ?_)
  refine lv_lload hx hb dX4_gf_sq2mul_89 (lv_at hl 0 rfl) ?_
  refine lv_lload hx hb dX4_gf_sq2mul_91 (lv_at hl 2 rfl) ?_
  refine lv_bipush (v := nI 12) hx hb dX4_gf_sq2mul_93 (by decide +kernel) ?_
  refine nw_wlshl hx hb (by decide) dX4_gf_sq2mul_95 ?_
  refine lv_lload_n hx hb dX4_gf_sq2mul_96 rfl (lv_at hl 1 rfl) ?_
  refine lv_ldc2 (v := lN 4294967312) hx hb hown (hts _ q128) dX4_gf_sq2mul_97 ?_
  refine nw_wland hx hb dX4_gf_sq2mul_100 ?_
  refine nw_wlmul hx hb dX4_gf_sq2mul_101 ?_
  refine nw_wlxor hx hb dX4_gf_sq2mul_102 ?_
  refine nw_topl (fun v7 ev7 => ?_)
  refine lv_lstore (lv' := [(7, .long (lN v7)), (3, .long (lN v2)), (5, .long (lN b)), (0, .ref h0), (1, .int (nI a)), (2, .int (nI b))]) hx hb dX4_gf_sq2mul_103 hl (by decide) rfl (fun ls hl => ?_)
  refine lv_lload hx hb dX4_gf_sq2mul_105 (lv_at hl 0 rfl) ?_
  refine lv_lload hx hb dX4_gf_sq2mul_107 (lv_at hl 2 rfl) ?_
  refine lv_bipush (v := nI 15) hx hb dX4_gf_sq2mul_109 (by decide +kernel) ?_
  refine nw_wlshl hx hb (by decide) dX4_gf_sq2mul_111 ?_
  refine lv_lload_n hx hb dX4_gf_sq2mul_112 rfl (lv_at hl 1 rfl) ?_
  refine lv_ldc2 (v := lN 8589934624) hx hb hown (hts _ q129) dX4_gf_sq2mul_113 ?_
  refine nw_wland hx hb dX4_gf_sq2mul_116 ?_
  refine nw_wlmul hx hb dX4_gf_sq2mul_117 ?_
  refine nw_wlxor hx hb dX4_gf_sq2mul_118 ?_
  refine nw_topl (fun v8 ev8 => ?_)
  refine lv_lstore (lv' := [(7, .long (lN v8)), (3, .long (lN v2)), (5, .long (lN b)), (0, .ref h0), (1, .int (nI a)), (2, .int (nI b))]) hx hb dX4_gf_sq2mul_119 hl (by decide) rfl (fun ls hl => ?_)
  refine lv_lload hx hb dX4_gf_sq2mul_121 (lv_at hl 0 rfl) ?_
  refine lv_ldc2 (v := lN 2305834213120671744) hx hb hown (hts _ q130) dX4_gf_sq2mul_123 ?_
  refine nw_wland hx hb dX4_gf_sq2mul_126 ?_
  refine nw_topl (fun v9 ev9 => ?_)
  refine lv_lstore (lv' := [(9, .long (lN v9)), (7, .long (lN v8)), (3, .long (lN v2)), (5, .long (lN b)), (0, .ref h0), (1, .int (nI a)), (2, .int (nI b))]) hx hb dX4_gf_sq2mul_127 hl (by decide) rfl (fun ls hl => ?_)
  refine lv_lload hx hb dX4_gf_sq2mul_129 (lv_at hl 1 rfl) ?_
  refine lv_lload hx hb dX4_gf_sq2mul_131 (lv_at hl 0 rfl) ?_
  refine lv_bipush (v := nI 18) hx hb dX4_gf_sq2mul_133 (by decide +kernel) ?_
  refine nw_wlushr hx hb (by decide) (by rw [ev9]; exact Nat.and_lt_two_pow _ (by decide)) dX4_gf_sq2mul_135 ?_
  refine lv_lload hx hb dX4_gf_sq2mul_136 (lv_at hl 0 rfl) ?_
  refine lv_bipush (v := nI 20) hx hb dX4_gf_sq2mul_138 (by decide +kernel) ?_
  refine nw_wlushr hx hb (by decide) (by rw [ev9]; exact Nat.and_lt_two_pow _ (by decide)) dX4_gf_sq2mul_140 ?_
  refine nw_wlxor hx hb dX4_gf_sq2mul_141 ?_
  refine lv_lload hx hb dX4_gf_sq2mul_142 (lv_at hl 0 rfl) ?_
  refine lv_bipush (v := nI 24) hx hb dX4_gf_sq2mul_144 (by decide +kernel) ?_
  refine nw_wlushr hx hb (by decide) (by rw [ev9]; exact Nat.and_lt_two_pow _ (by decide)) dX4_gf_sq2mul_146 ?_
  refine nw_wlxor hx hb dX4_gf_sq2mul_147 ?_
  refine lv_lload hx hb dX4_gf_sq2mul_148 (lv_at hl 0 rfl) ?_
  refine lv_bipush (v := nI 26) hx hb dX4_gf_sq2mul_150 (by decide +kernel) ?_
  refine nw_wlushr hx hb (by decide) (by rw [ev9]; exact Nat.and_lt_two_pow _ (by decide)) dX4_gf_sq2mul_152 ?_
  refine nw_wlxor hx hb dX4_gf_sq2mul_153 ?_
  refine nw_wlxor hx hb dX4_gf_sq2mul_154 ?_
  refine nw_topl (fun v10 ev10 => ?_)
  refine lv_lstore (lv' := [(7, .long (lN v10)), (9, .long (lN v9)), (3, .long (lN v2)), (5, .long (lN b)), (0, .ref h0), (1, .int (nI a)), (2, .int (nI b))]) hx hb dX4_gf_sq2mul_155 hl (by decide) rfl (fun ls hl => ?_)
  refine lv_lload hx hb dX4_gf_sq2mul_157 (lv_at hl 0 rfl) ?_
  refine lv_ldc2 (v := lN 8796025913344) hx hb hown (hts _ q131) dX4_gf_sq2mul_159 ?_
  refine nw_wland hx hb dX4_gf_sq2mul_162 ?_
  refine nw_topl (fun v11 ev11 => ?_)
  refine lv_lstore (lv' := [(9, .long (lN v11)), (7, .long (lN v10)), (3, .long (lN v2)), (5, .long (lN b)), (0, .ref h0), (1, .int (nI a)), (2, .int (nI b))]) hx hb dX4_gf_sq2mul_163 hl (by decide) rfl (fun ls hl => ?_)
  refine lv_lload hx hb dX4_gf_sq2mul_165 (lv_at hl 1 rfl) ?_
  refine lv_lload hx hb dX4_gf_sq2mul_167 (lv_at hl 0 rfl) ?_
  refine lv_bipush (v := nI 18) hx hb dX4_gf_sq2mul_169 (by decide +kernel) ?_
  refine nw_wlushr hx hb (by decide) (by rw [ev11]; exact Nat.and_lt_two_pow _ (by decide)) dX4_gf_sq2mul_171 ?_
  refine lv_lload hx hb dX4_gf_sq2mul_172 (lv_at hl 0 rfl) ?_
  refine lv_bipush (v := nI 20) hx hb dX4_gf_sq2mul_174 (by decide +kernel) ?_
  refine nw_wlushr hx hb (by decide) (by rw [ev11]; exact Nat.and_lt_two_pow _ (by decide)) dX4_gf_sq2mul_176 ?_
  refine nw_wlxor hx hb dX4_gf_sq2mul_177 ?_
  refine lv_lload hx hb dX4_gf_sq2mul_178 (lv_at hl 0 rfl) ?_
  refine lv_bipush (v := nI 24) hx hb dX4_gf_sq2mul_180 (by decide +kernel) ?_
  refine nw_wlushr hx hb (by decide) (by rw [ev11]; exact Nat.and_lt_two_pow _ (by decide)) dX4_gf_sq2mul_182 ?_
  refine nw_wlxor hx hb dX4_gf_sq2mul_183 ?_
  refine lv_lload hx hb dX4_gf_sq2mul_184 (lv_at hl 0 rfl) ?_
  refine lv_bipush (v := nI 26) hx hb dX4_gf_sq2mul_186 (by decide +kernel) ?_
  refine nw_wlushr hx hb (by decide) (by rw [ev11]; exact Nat.and_lt_two_pow _ (by decide)) dX4_gf_sq2mul_188 ?_
  refine nw_wlxor hx hb dX4_gf_sq2mul_189 ?_
  refine nw_wlxor hx hb dX4_gf_sq2mul_190 ?_
  refine nw_topl (fun v12 ev12 => ?_)
  refine lv_lstore (lv' := [(7, .long (lN v12)), (9, .long (lN v11)), (3, .long (lN v2)), (5, .long (lN b)), (0, .ref h0), (1, .int (nI a)), (2, .int (nI b))]) hx hb dX4_gf_sq2mul_191 hl (by decide) rfl (fun ls hl => ?_)
  refine lv_aload_n hx hb dX4_gf_sq2mul_193 rfl (lv_at hl 4 rfl) ?_
  refine lv_lload hx hb dX4_gf_sq2mul_194 (lv_at hl 0 rfl) ?_
  refine nw_wl2i hx hb dX4_gf_sq2mul_196 ?_
  refine lv_ldc (v := nI 67108863) hx hb hown (hts _ q119) dX4_gf_sq2mul_197 ?_
  refine nw_wand hx hb dX4_gf_sq2mul_199 ?_
  refine nw_calli (W.runV (As := [.int (nI (v12 &&& 67108863))]) (rest := []) ⟨hx, hb, hml, hown, hts⟩ (m4_reduce l h0 (v12 &&& 67108863) (Nat.and_lt_two_pow _ (by decide))) (cwV 1 hts (lw_V q62 q63 q64 q7 q65) rfl rfl rfl (by decide +kernel) ⟨Nat.le_of_ble_eq_true rfl, Nat.le_of_ble_eq_true rfl⟩) ⟨fun _ _ _ _ q => q, hS, fun U hU hW => ⟨rfl, trivial⟩⟩ rfl rfl hl.1 rfl (lv_room (Nat.le_of_ble_eq_true rfl)) dX4_gf_sq2mul_200 ⟨Nat.le_of_ble_eq_true rfl, Nat.le_of_ble_eq_true rfl⟩) ?_
  have hz : gf_red13 (v12 &&& 67108863) < 2 ^ 13 := gf_red13_lt (Nat.and_lt_two_pow _ (by decide))
  subst ev1 ev2 ev3 ev4 ev5 ev6 ev7 ev8 ev9 ev10 ev11 ev12
  exact nw_ret hx hb hr hlocks (nw_short (Nat.lt_trans hz (by decide))) (rfl) dX4_gf_sq2mul_203
set_option maxHeartbeats 4000000 in
set_option maxRecDepth 100000 in
/-- GF13.gf_frac(a, b) -/
theorem m4_frac (l : Launch) (h0 a b : Nat) (ha : a < 2 ^ 13) (hbb : b < 2 ^ 13) : Met l yX4_gf_frac (ws_ yX4_gf_frac cX4_gf_frac 6 (some .short)) nw_rm2 (va_Pc [.ref h0, .int (nI a), .int (nI b)] (fun U => nw_Rc "GF13" h0 U U.heap)) (QcRead (nI (gf_frac13 a b))) 0 0 (fun _ => False) := by
  refine Met.ofW (cc := cX4_gf_frac) (maxL := 6) (ret := some .short) (by decide) rfl ?_
  intro p e s m args below meth c s₁ B hml hv
  obtain ⟨rfl, hS⟩ := hv
  have hx := B.exec
  have hb := B.bytes
  have hr := B.returns
  have hts := atoms_spec (ws := ws_ yX4_gf_frac cX4_gf_frac 6 (some .short)) B.pre
  have hts : ∀ w ∈ lw_all, w.before _ s = true := fun w h => hts w (List.mem_cons_of_mem _ h)
  have hown : s.vm.findClass RX4 = some m.cls := findClass_of_methodNamed B.named
  have hlocks := B.notSynchronized
  have hl := lv_entry ([.ref h0, .int (nI a), .int (nI b)]) (n := 6) (Nat.le_of_ble_eq_true rfl)
  rw [lg_entry_eq]
  generalize (lg_sl ([.ref h0, .int (nI a), .int (nI b)]) ++ List.replicate (6 - (lg_sl ([.ref h0, .int (nI a), .int (nI b)])).length) Slot.unset).toArray = ls at hl ⊢
  have hl : lv_has ls 6 [(0, .ref h0), (1, .int (nI a)), (2, .int (nI b))] := hl
  refine lv_aload_n hx hb dX4_gf_frac_0 rfl (lv_at hl 0 rfl) ?_
  refine lv_iload_n hx hb dX4_gf_frac_1 rfl (lv_at hl 1 rfl) ?_
  refine lv_iload_n hx hb dX4_gf_frac_2 rfl (lv_at hl 1 rfl) ?_
  refine nw_calli (W.runV (As := [.int (nI a), .int (nI a)]) (rest := []) ⟨hx, hb, hml, hown, hts⟩ (m4_sqmul l h0 a a ha ha) (cwV 2 hts (lw_V q107 q109 qs0 q7 q110) rfl rfl rfl (by decide +kernel) ⟨Nat.le_of_ble_eq_true rfl, Nat.le_of_ble_eq_true rfl⟩) ⟨fun _ _ _ _ q => q, hS, fun U hU hW => ⟨rfl, hS.at hU hW⟩⟩ rfl rfl hl.1 rfl (lv_room (Nat.le_of_ble_eq_true rfl)) dX4_gf_frac_3 ⟨Nat.le_of_ble_eq_true rfl, Nat.le_of_ble_eq_true rfl⟩) ?_
  refine nw_topi (fun v1 ev1 => ?_)
  have hv1 : v1 < 2 ^ 13 := by rw [ev1]; exact gf_sqmul_lt _ _
  refine lv_istore_n (lv' := [(3, .int (nI v1)), (0, .ref h0), (1, .int (nI a)), (2, .int (nI b))]) hx hb dX4_gf_frac_6 rfl hl (by decide) rfl (fun ls hl => ?_)
  refine lv_aload_n hx hb dX4_gf_frac_7 rfl (lv_at hl 1 rfl) ?_
  refine lv_iload_n hx hb dX4_gf_frac_8 rfl (lv_at hl 0 rfl) ?_
  refine lv_iload_n hx hb dX4_gf_frac_9 rfl (lv_at hl 0 rfl) ?_
  refine nw_calli (W.runV (As := [.int (nI v1), .int (nI v1)]) (rest := []) ⟨hx, hb, hml, hown, hts⟩ (m4_sq2mul l h0 v1 v1 hv1 hv1) (cwV 2 hts (lw_V q120 q122 qs1 q7 q123) rfl rfl rfl (by decide +kernel) ⟨Nat.le_of_ble_eq_true rfl, Nat.le_of_ble_eq_true rfl⟩) ⟨fun _ _ _ _ q => q, hS, fun U hU hW => ⟨rfl, hS.at hU hW⟩⟩ rfl rfl hl.1 rfl (lv_room (Nat.le_of_ble_eq_true rfl)) dX4_gf_frac_10 ⟨Nat.le_of_ble_eq_true rfl, Nat.le_of_ble_eq_true rfl⟩) ?_
  refine nw_topi (fun v2 ev2 => ?_)
  have hv2 : v2 < 2 ^ 13 := by rw [ev2]; exact gf_sq2mul_lt _ _
  refine lv_istore (lv' := [(4, .int (nI v2)), (3, .int (nI v1)), (0, .ref h0), (1, .int (nI a)), (2, .int (nI b))]) hx hb dX4_gf_frac_13 hl (by decide) rfl (fun ls hl => ?_)
  refine lv_aload_n hx hb dX4_gf_frac_15 rfl (lv_at hl 2 rfl) ?_
  refine lv_iload hx hb dX4_gf_frac_16 (lv_at hl 0 rfl) ?_
  refine nw_calli (W.runV (As := [.int (nI v2)]) (rest := []) ⟨hx, hb, hml, hown, hts⟩ (m4_sq2 l h0 v2 hv2) (cwV 1 hts (lw_V q132 q134 qs2 q7 q135) rfl rfl rfl (by decide +kernel) ⟨Nat.le_of_ble_eq_true rfl, Nat.le_of_ble_eq_true rfl⟩) ⟨fun _ _ _ _ q => q, hS, fun U hU hW => ⟨rfl, hS.at hU hW⟩⟩ rfl rfl hl.1 rfl (lv_room (Nat.le_of_ble_eq_true rfl)) dX4_gf_frac_18 ⟨Nat.le_of_ble_eq_true rfl, Nat.le_of_ble_eq_true rfl⟩) ?_
  refine nw_topi (fun v3 ev3 => ?_)
  have hv3 : v3 < 2 ^ 13 := by rw [ev3]; exact gf_sq2_lt hv2
  refine lv_istore (lv' := [(5, .int (nI v3)), (4, .int (nI v2)), (3, .int (nI v1)), (0, .ref h0), (1, .int (nI a)), (2, .int (nI b))]) hx hb dX4_gf_frac_21 hl (by decide) rfl (fun ls hl => ?_)
  refine lv_aload_n hx hb dX4_gf_frac_23 rfl (lv_at hl 3 rfl) ?_
  refine lv_iload hx hb dX4_gf_frac_24 (lv_at hl 0 rfl) ?_
  refine lv_iload hx hb dX4_gf_frac_26 (lv_at hl 1 rfl) ?_
  refine nw_calli (W.runV (As := [.int (nI v3), .int (nI v2)]) (rest := []) ⟨hx, hb, hml, hown, hts⟩ (m4_sq2mul l h0 v3 v2 hv3 hv2) (cwV 2 hts (lw_V q120 q122 qs1 q7 q123) rfl rfl rfl (by decide +kernel) ⟨Nat.le_of_ble_eq_true rfl, Nat.le_of_ble_eq_true rfl⟩) ⟨fun _ _ _ _ q => q, hS, fun U hU hW => ⟨rfl, hS.at hU hW⟩⟩ rfl rfl hl.1 rfl (lv_room (Nat.le_of_ble_eq_true rfl)) dX4_gf_frac_28 ⟨Nat.le_of_ble_eq_true rfl, Nat.le_of_ble_eq_true rfl⟩) ?_
  refine nw_topi (fun v4 ev4 => ?_)
  have hv4 : v4 < 2 ^ 13 := by rw [ev4]; exact gf_sq2mul_lt _ _
  refine lv_istore (lv' := [(5, .int (nI v4)), (4, .int (nI v2)), (3, .int (nI v1)), (0, .ref h0), (1, .int (nI a)), (2, .int (nI b))]) hx hb dX4_gf_frac_31 hl (by decide) rfl (fun ls hl => ?_)
  refine lv_aload_n hx hb dX4_gf_frac_33 rfl (lv_at hl 3 rfl) ?_
  refine lv_iload hx hb dX4_gf_frac_34 (lv_at hl 0 rfl) ?_
  refine nw_calli (W.runV (As := [.int (nI v4)]) (rest := []) ⟨hx, hb, hml, hown, hts⟩ (m4_sq2 l h0 v4 hv4) (cwV 1 hts (lw_V q132 q134 qs2 q7 q135) rfl rfl rfl (by decide +kernel) ⟨Nat.le_of_ble_eq_true rfl, Nat.le_of_ble_eq_true rfl⟩) ⟨fun _ _ _ _ q => q, hS, fun U hU hW => ⟨rfl, hS.at hU hW⟩⟩ rfl rfl hl.1 rfl (lv_room (Nat.le_of_ble_eq_true rfl)) dX4_gf_frac_36 ⟨Nat.le_of_ble_eq_true rfl, Nat.le_of_ble_eq_true rfl⟩) ?_
  refine nw_topi (fun v5 ev5 => ?_)
  have hv5 : v5 < 2 ^ 13 := by rw [ev5]; exact gf_sq2_lt hv4
  refine lv_istore (lv' := [(5, .int (nI v5)), (4, .int (nI v2)), (3, .int (nI v1)), (0, .ref h0), (1, .int (nI a)), (2, .int (nI b))]) hx hb dX4_gf_frac_39 hl (by decide) rfl (fun ls hl => ?_)
  refine lv_aload_n hx hb dX4_gf_frac_41 rfl (lv_at hl 3 rfl) ?_
  refine lv_iload hx hb dX4_gf_frac_42 (lv_at hl 0 rfl) ?_
  refine lv_iload hx hb dX4_gf_frac_44 (lv_at hl 1 rfl) ?_
  refine nw_calli (W.runV (As := [.int (nI v5), .int (nI v2)]) (rest := []) ⟨hx, hb, hml, hown, hts⟩ (m4_sq2mul l h0 v5 v2 hv5 hv2) (cwV 2 hts (lw_V q120 q122 qs1 q7 q123) rfl rfl rfl (by decide +kernel) ⟨Nat.le_of_ble_eq_true rfl, Nat.le_of_ble_eq_true rfl⟩) ⟨fun _ _ _ _ q => q, hS, fun U hU hW => ⟨rfl, hS.at hU hW⟩⟩ rfl rfl hl.1 rfl (lv_room (Nat.le_of_ble_eq_true rfl)) dX4_gf_frac_46 ⟨Nat.le_of_ble_eq_true rfl, Nat.le_of_ble_eq_true rfl⟩) ?_
  refine nw_topi (fun v6 ev6 => ?_)
  have hv6 : v6 < 2 ^ 13 := by rw [ev6]; exact gf_sq2mul_lt _ _
  refine lv_istore (lv' := [(5, .int (nI v6)), (4, .int (nI v2)), (3, .int (nI v1)), (0, .ref h0), (1, .int (nI a)), (2, .int (nI b))]) hx hb dX4_gf_frac_49 hl (by decide) rfl (fun ls hl => ?_)
  refine lv_aload_n hx hb dX4_gf_frac_51 rfl (lv_at hl 3 rfl) ?_
  refine lv_iload hx hb dX4_gf_frac_52 (lv_at hl 0 rfl) ?_
  refine lv_iload_n hx hb dX4_gf_frac_54 rfl (lv_at hl 5 rfl) ?_
  refine nw_calli (W.runV (As := [.int (nI v6), .int (nI b)]) (rest := []) ⟨hx, hb, hml, hown, hts⟩ (m4_sqmul l h0 v6 b hv6 hbb) (cwV 2 hts (lw_V q107 q109 qs0 q7 q110) rfl rfl rfl (by decide +kernel) ⟨Nat.le_of_ble_eq_true rfl, Nat.le_of_ble_eq_true rfl⟩) ⟨fun _ _ _ _ q => q, hS, fun U hU hW => ⟨rfl, hS.at hU hW⟩⟩ rfl rfl hl.1 rfl (lv_room (Nat.le_of_ble_eq_true rfl)) dX4_gf_frac_55 ⟨Nat.le_of_ble_eq_true rfl, Nat.le_of_ble_eq_true rfl⟩) ?_
  have hz : gf_sqmul v6 b < 2 ^ 13 := gf_sqmul_lt _ _
  subst ev1 ev2 ev3 ev4 ev5 ev6
  exact nw_ret hx hb hr hlocks (nw_short (Nat.lt_trans hz (by decide))) (rfl) dX4_gf_frac_58
set_option maxHeartbeats 4000000 in
set_option maxRecDepth 100000 in
/-- GF13.gf_inv(a) -/
theorem m4_inv (l : Launch) (h0 a : Nat) (ha : a < 2 ^ 13) : Met l yX4_gf_inv (ws_ yX4_gf_inv cX4_gf_inv 2 (some .short)) nw_rm3 (va_Pc [.ref h0, .int (nI a)] (fun U => nw_Rc "GF13" h0 U U.heap)) (QcRead (nI (gf_frac13 a 1))) 0 0 (fun _ => False) := by
  refine Met.ofW (cc := cX4_gf_inv) (maxL := 2) (ret := some .short) (by decide) rfl ?_
  intro p e s m args below meth c s₁ B hml hv
  obtain ⟨rfl, hS⟩ := hv
  have hx := B.exec
  have hb := B.bytes
  have hr := B.returns
  have hts := atoms_spec (ws := ws_ yX4_gf_inv cX4_gf_inv 2 (some .short)) B.pre
  have hts : ∀ w ∈ lw_all, w.before _ s = true := fun w h => hts w (List.mem_cons_of_mem _ h)
  have hown : s.vm.findClass RX4 = some m.cls := findClass_of_methodNamed B.named
  have hlocks := B.notSynchronized
  have hl := lv_entry ([.ref h0, .int (nI a)]) (n := 2) (Nat.le_of_ble_eq_true rfl)
  rw [lg_entry_eq]
  generalize (lg_sl ([.ref h0, .int (nI a)]) ++ List.replicate (2 - (lg_sl ([.ref h0, .int (nI a)])).length) Slot.unset).toArray = ls at hl ⊢
  have hl : lv_has ls 2 [(0, .ref h0), (1, .int (nI a))] := hl
  refine lv_aload_n hx hb dX4_gf_inv_0 rfl (lv_at hl 0 rfl) ?_
  refine lv_iload_n hx hb dX4_gf_inv_1 rfl (lv_at hl 1 rfl) ?_
  refine lv_iconst (v := nI 1) hx hb dX4_gf_inv_2 (by decide +kernel) ?_
  refine nw_calli (W.runV (As := [.int (nI a), .int (nI 1)]) (rest := []) ⟨hx, hb, hml, hown, hts⟩ (m4_frac l h0 a 1 ha (by decide)) (cwV 2 hts (lw_V q103 q104 q105 q7 q106) rfl rfl rfl (by decide +kernel) ⟨Nat.le_of_ble_eq_true rfl, Nat.le_of_ble_eq_true rfl⟩) ⟨fun _ _ _ _ q => q, hS, fun U hU hW => ⟨rfl, hS.at hU hW⟩⟩ rfl rfl hl.1 rfl (lv_room (Nat.le_of_ble_eq_true rfl)) dX4_gf_inv_3 ⟨Nat.le_of_ble_eq_true rfl, Nat.le_of_ble_eq_true rfl⟩) ?_
  exact nw_ret hx hb hr hlocks (nw_short (Nat.lt_trans (gf_sqmul_lt _ _) (by decide))) (rfl) dX4_gf_inv_6
end
section
/-! SmallFields: its cells, its constructors, its methods by kind -/
def TX3 : u_T := fun _ => ("", "", "", false)
def tyX3 : Nat → FieldType := fun _ => .int
theorem tyX3_ok : ∀ k, k < 0 → parseFieldDescriptor (TX3 k).2.2.1 = some (tyX3 k) := fun k h => absurd h (Nat.not_lt_zero k)
theorem in_X3 : ∀ w ∈ u_ws RX3 TX3 0, w ∈ lw_all := fun w h => by simp [u_ws] at h
theorem in_X4 : ∀ w ∈ u_ws RX4 TX3 0, w ∈ lw_all := fun w h => by simp [u_ws] at h
abbrev nwCl : List vw_C := [(RX1, TX1, 1), (RX3, TX3, 0), (RX4, TX3, 0)]
/-- the two places of the array of fields -/
abbrev nw_f (g0 g1 : Nat) : Nat → Option Nat := va_up (va_up (fun _ => none) 0 (some g0)) 1 (some g1)
/-- the cells of a SmallFields -/
abbrev nw_Wd (cA : ClassId) (h0 fa g0 g1 : Nat) : va_W := [(h0, .inr (0, [.ref fa])), (fa, .inl (cA, 2, .inr (.inr (.inr (.inr (nw_f g0 g1)))))), (g0, .inr (1, [])), (g1, .inr (2, []))]
/-- the abstract methods of GF -/
def nw_decls : List MethodName := [⟨"GF", "gf_mul", "(SS)S"⟩, ⟨"GF", "gf_sq", "(S)S"⟩, ⟨"GF", "gf_inv", "(S)S"⟩, ⟨"GF", "gf_frac", "(SS)S"⟩, ⟨"GF", "gf_mul_ext", "(SS)I"⟩, ⟨"GF", "gf_reduce", "(I)S"⟩, ⟨"GF", "gf_sq_ext", "(S)I"⟩]
/-- a SmallFields stands at h0 in the heap H -/
def nw_S (D : va_G) (cA : ClassId) (h0 fa g0 g1 : Nat) (s : State) (H : Heap) : Prop := va_P D nwCl (nw_Wd cA h0 fa g0 g1) H ∧ va_K D nwCl [(cA, .object "GF")] s ∧ ∀ x ∈ nw_decls, va_Nw (.declares x) s
section NWS
variable {D : va_G} {cA : ClassId} {h0 fa g0 g1 : Nat} {s U : State} {H : Heap}
theorem nw_S.at (h : nw_S D cA h0 fa g0 g1 s H) (hU : U.heap = H) (hW : s.WarmedH U.vm) : nw_S D cA h0 fa g0 g1 U U.heap := ⟨by rw [hU]; exact h.1, va_K.moved hW.alike h.2.1, fun x hx => va_Nw.warmD hW (h.2.2 x hx)⟩
theorem nw_blind {av : List Value} : FrameBlind (va_Pc av (fun U => nw_S D cA h0 fa g0 g1 U U.heap)) := fun a U g mk q => ⟨q.1, q.2.1, va_K.moved (u := U) (U := U.calling g mk a) (Vm.Alike.refl U.vm) q.2.2.1, fun x hx => va_Nw.same rfl rfl (q.2.2.2 x hx)⟩
theorem nw_S.rcS (h : nw_S D cA h0 fa g0 g1 s H) : nw_Rc "SmallFields" h0 s H := va_recv h.2.1 h.1 (ci := 0) (q0 := 0) rfl rfl
theorem nw_S.rc0 (h : nw_S D cA h0 fa g0 g1 s H) : nw_Rc "GF12" g0 s H := va_recv h.2.1 h.1 (ci := 1) (q0 := 2) rfl rfl
theorem nw_S.rc1 (h : nw_S D cA h0 fa g0 g1 s H) : nw_Rc "GF13" g1 s H := va_recv h.2.1 h.1 (ci := 2) (q0 := 3) rfl rfl
variable {p : Program} {l : Launch} {e : Env} {R : Room} {m : MethodId} {args : Array Value} {below : List Frame} {meth : Method} {c : Code} {locs : List Loc} {cells slots : Nat} {Q : State → Prop}
variable {cc : ByteArray} {pc : Nat} {ls : Array Slot} {rest : List Value}
theorem nw_getf (hexec : p.tables.exec = Jvm.exec) (hb : c.code = cc) (hts : ∀ w ∈ lw_all, w.before args s = true) (hown : s.vm.findClass RX1 = some m.cls) (hS : nw_S D cA h0 fa g0 g1 s H) (hdg : decode cc pc = .ok (.getfield 15, 3)) (kk : W p l e R s m args below meth c H locs cells slots Q (F0 m (pc + 3) ls (.ref fa :: rest))) : W p l e R s m args below meth c H locs cells slots Q (F0 m pc ls (.ref h0 :: rest)) :=
  va_get (D := D) (ci := 0) (v := .ref fa) (C := RX1) (T := TX1) (N := 1) hexec hb hts in_X1 hown hS.2.1 hS.1 0 rfl rfl 0 (by decide) (hts _ q36) (fun _ h9 => h9) rfl hdg kk
theorem nw_ald0 (hexec : p.tables.exec = Jvm.exec) (hb : c.code = cc) (hS : nw_S D cA h0 fa g0 g1 s H) (hdg : decode cc pc = .ok (.aaload, 1)) (kk : W p l e R s m args below meth c H locs cells slots Q (F0 m (pc + 1) ls (.ref g0 :: rest))) : W p l e R s m args below meth c H locs cells slots Q (F0 m pc ls (.int (nI (0 &&& 1)) :: .ref fa :: rest)) := by
  refine va_aldq hexec hb hS.2.1 hS.1 1 0 rfl rfl (vp_in_nI (n := 0 &&& 1) (by decide) (by decide)) hdg ?_
  rw [show (nI (0 &&& 1)).toNatClampNeg = 0 by decide +kernel]
  exact kk
theorem nw_ald1 (hexec : p.tables.exec = Jvm.exec) (hb : c.code = cc) (hS : nw_S D cA h0 fa g0 g1 s H) (hdg : decode cc pc = .ok (.aaload, 1)) (kk : W p l e R s m args below meth c H locs cells slots Q (F0 m (pc + 1) ls (.ref g1 :: rest))) : W p l e R s m args below meth c H locs cells slots Q (F0 m pc ls (.int (nI (1 &&& 1)) :: .ref fa :: rest)) := by
  refine va_aldq hexec hb hS.2.1 hS.1 1 0 rfl rfl (vp_in_nI (n := 1 &&& 1) (by decide) (by decide)) hdg ?_
  rw [show (nI (1 &&& 1)).toNatClampNeg = 1 by decide +kernel]
  exact kk
end NWS
abbrev nw_rmA : Room := { frames := 1, cells := 0, slots := 0, locals := 12 }
abbrev nw_rmB : Room := { frames := 2, cells := 0, slots := 0, locals := 32 }
abbrev nw_rmC : Room := { frames := 3, cells := 3, slots := 2, locals := 52 }
set_option maxHeartbeats 4000000 in
set_option maxRecDepth 100000 in
/-- GF() -/
theorem m2_init (l : Launch) (h0 : Nat) : Met l yX2_init (ws_ yX2_init cX2_init 1 none) nw_rmA (va_Pc [.ref h0] (fun U => True)) (nw_QcV) 0 0 (fun _ => False) := by
  refine Met.ofW (cc := cX2_init) (maxL := 1) (ret := none) (by decide) rfl ?_
  intro p e s m args below meth c s₁ B hml hv
  obtain ⟨rfl, hS⟩ := hv
  have hx := B.exec
  have hb := B.bytes
  have hr := B.returns
  have hts := atoms_spec (ws := ws_ yX2_init cX2_init 1 none) B.pre
  have hts : ∀ w ∈ lw_all, w.before _ s = true := fun w h => hts w (List.mem_cons_of_mem _ h)
  have hown : s.vm.findClass RX2 = some m.cls := findClass_of_methodNamed B.named
  have hlocks := B.notSynchronized
  have hl := lv_entry ([.ref h0]) (n := 1) (Nat.le_of_ble_eq_true rfl)
  rw [lg_entry_eq]
  generalize (lg_sl ([.ref h0]) ++ List.replicate (1 - (lg_sl ([.ref h0])).length) Slot.unset).toArray = ls at hl ⊢
  have hl : lv_has ls 1 [(0, .ref h0)] := hl
  refine lv_aload_n hx hb dX2_init_0 rfl (lv_at hl 0 rfl) ?_
  refine W.objInit hx hb hown (hts _ q27) (hts _ q15) (hts _ q16) rfl (by rw [hml]; exact hl.1) rfl dX2_init_1 (Nat.le_of_ble_eq_true rfl) (Nat.le_of_ble_eq_true rfl) ?_
  refine W.eq (g2 := F0 m 4 ls []) rfl ?_
  exact nw_vret hx hb hr hlocks dX2_init_4
set_option maxHeartbeats 4000000 in
set_option maxRecDepth 100000 in
/-- GF12() -/
theorem m3_init (l : Launch) (h0 : Nat) : Met l yX3_init (ws_ yX3_init cX3_init 1 none) nw_rmB (va_Pc [.ref h0] (fun U => True)) (nw_QcV) 0 0 (fun _ => False) := by
  refine Met.ofW (cc := cX3_init) (maxL := 1) (ret := none) (by decide) rfl ?_
  intro p e s m args below meth c s₁ B hml hv
  obtain ⟨rfl, hS⟩ := hv
  have hx := B.exec
  have hb := B.bytes
  have hr := B.returns
  have hts := atoms_spec (ws := ws_ yX3_init cX3_init 1 none) B.pre
  have hts : ∀ w ∈ lw_all, w.before _ s = true := fun w h => hts w (List.mem_cons_of_mem _ h)
  have hown : s.vm.findClass RX3 = some m.cls := findClass_of_methodNamed B.named
  have hlocks := B.notSynchronized
  have hl := lv_entry ([.ref h0]) (n := 1) (Nat.le_of_ble_eq_true rfl)
  rw [lg_entry_eq]
  generalize (lg_sl ([.ref h0]) ++ List.replicate (1 - (lg_sl ([.ref h0])).length) Slot.unset).toArray = ls at hl ⊢
  have hl : lv_has ls 1 [(0, .ref h0)] := hl
  refine lv_aload_n hx hb dX3_init_0 rfl (lv_at hl 0 rfl) ?_
  refine nw_callv (W.runI (As := []) (rest := []) ⟨hx, hb, hml, hown, hts⟩ (m2_init l h0) (cwI 0 hts (lw_meth q26) rfl rfl rfl (hts _ q5) (hts _ q24) (hts _ q25) rfl (by decide +kernel) ⟨Nat.le_of_ble_eq_true rfl, Nat.le_of_ble_eq_true rfl⟩) ⟨fun _ _ _ _ q => q, fun U hU hW => ⟨rfl, trivial⟩⟩ rfl rfl hl.1 rfl (lv_room (Nat.le_of_ble_eq_true rfl)) dX3_init_1 ⟨Nat.le_of_ble_eq_true rfl, Nat.le_of_ble_eq_true rfl⟩) ?_
  exact nw_vret hx hb hr hlocks dX3_init_4
set_option maxHeartbeats 4000000 in
set_option maxRecDepth 100000 in
/-- GF13() -/
theorem m4_init (l : Launch) (h0 : Nat) : Met l yX4_init (ws_ yX4_init cX4_init 1 none) nw_rmB (va_Pc [.ref h0] (fun U => True)) (nw_QcV) 0 0 (fun _ => False) := by
  refine Met.ofW (cc := cX4_init) (maxL := 1) (ret := none) (by decide) rfl ?_
  intro p e s m args below meth c s₁ B hml hv
  obtain ⟨rfl, hS⟩ := hv
  have hx := B.exec
  have hb := B.bytes
  have hr := B.returns
  have hts := atoms_spec (ws := ws_ yX4_init cX4_init 1 none) B.pre
  have hts : ∀ w ∈ lw_all, w.before _ s = true := fun w h => hts w (List.mem_cons_of_mem _ h)
  have hown : s.vm.findClass RX4 = some m.cls := findClass_of_methodNamed B.named
  have hlocks := B.notSynchronized
  have hl := lv_entry ([.ref h0]) (n := 1) (Nat.le_of_ble_eq_true rfl)
  rw [lg_entry_eq]
  generalize (lg_sl ([.ref h0]) ++ List.replicate (1 - (lg_sl ([.ref h0])).length) Slot.unset).toArray = ls at hl ⊢
  have hl : lv_has ls 1 [(0, .ref h0)] := hl
  refine lv_aload_n hx hb dX4_init_0 rfl (lv_at hl 0 rfl) ?_
  refine nw_callv (W.runI (As := []) (rest := []) ⟨hx, hb, hml, hown, hts⟩ (m2_init l h0) (cwI 0 hts (lw_meth q26) rfl rfl rfl (hts _ q5) (hts _ q34) (hts _ q25) rfl (by decide +kernel) ⟨Nat.le_of_ble_eq_true rfl, Nat.le_of_ble_eq_true rfl⟩) ⟨fun _ _ _ _ q => q, fun U hU hW => ⟨rfl, trivial⟩⟩ rfl rfl hl.1 rfl (lv_room (Nat.le_of_ble_eq_true rfl)) dX4_init_1 ⟨Nat.le_of_ble_eq_true rfl, Nat.le_of_ble_eq_true rfl⟩) ?_
  exact nw_vret hx hb hr hlocks dX4_init_4
abbrev nw_BI (dC : Nat → ClassId) (dI : Nat → Nat → Nat) (A : Nat → Prop) (h0 : Nat) (u : ClassId × Nat × Nat × Nat) (t : State) : Prop := va_P (dC, dI) nwCl (nw_Wd u.1 h0 u.2.1 u.2.2.1 u.2.2.2) t.heap ∧ va_K (dC, dI) nwCl [(u.1, .object "GF")] t ∧ va_D A (nw_Wd u.1 h0 u.2.1 u.2.2.1 u.2.2.2)
set_option maxHeartbeats 4000000 in
set_option maxRecDepth 100000 in
/-- SmallFields(): an array of a GF12 and a GF13 -/
theorem m1_init (l : Launch) (dC : Nat → ClassId) (dI : Nat → Nat → Nat) (h0 sz : Nat) : Met l yX1_init (ws_ yX1_init cX1_init 1 none) nw_rmC (va_Pc [.ref h0] (fun U => U.heap.size = sz ∧ va_P (dC, dI) nwCl [(h0, .inr (0, [.null]))] U.heap ∧ va_K (dC, dI) nwCl [] U ∧ va_D (fun _ => True) [(h0, .inr (0, [.null]))] ∧ va_AO "GF" U ∧ va_Nw (.castable "GF12" "GF") U ∧ va_Nw (.castable "GF13" "GF") U)) (va_Qv (fun _ : ClassId × Nat × Nat × Nat => True) (nw_BI dC dI (va_A [(h0, .inr (0, [.null]))] sz) h0) (va_A [(h0, .inr (0, [.null]))] sz)) 3 2 (va_A [(h0, .inr (0, [.null]))] sz) := by
  refine Met.ofW (cc := cX1_init) (maxL := 1) (ret := none) (by decide) rfl ?_
  intro p e s m args below meth c s₁ B hml hv
  obtain ⟨rfl, hsz, hP, hK, hD0, hAO, hc12, hc13⟩ := hv
  have hx := B.exec
  have hb := B.bytes
  have hr := B.returns
  have hts := atoms_spec (ws := ws_ yX1_init cX1_init 1 none) B.pre
  have hts : ∀ w ∈ lw_all, w.before _ s = true := fun w h => hts w (List.mem_cons_of_mem _ h)
  have hown : s.vm.findClass RX1 = some m.cls := findClass_of_methodNamed B.named
  have hlocks := B.notSynchronized
  have hin : meth.name = "<init>" := (name_of_methodNamed B.named B.method).1
  subst hsz
  have hD := hD0.self (sz := s.heap.size)
  generalize hAe : va_A [(h0, .inr (0, [.null]))] s.heap.size = A at hD ⊢
  have hA : ∀ q : Nat, s.heap.size ≤ q → A q := fun q h => by rw [← hAe]; exact Or.inr h
  have hS : va_S A s.heap s.heap [] := va_S.rf
  have hP : va_P (dC, dI) nwCl [(h0, .inr (0, [.null]))] s.heap := hP
  have hl := lv_entry ([.ref h0]) (n := 1) (Nat.le_of_ble_eq_true rfl)
  rw [lg_entry_eq]
  generalize (lg_sl ([.ref h0]) ++ List.replicate (1 - (lg_sl ([.ref h0])).length) Slot.unset).toArray = ls at hl ⊢
  have hl : lv_has ls 1 [(0, .ref h0)] := hl
  have z0 : (0 : Int32).toNatClampNeg = 0 := by decide +kernel
  have z1 : (1 : Int32).toNatClampNeg = 1 := by decide +kernel
  refine lv_aload_n hx hb dX1_init_0 rfl (lv_at hl 0 rfl) ?_
  refine W.objInit hx hb hown (hts _ q14) (hts _ q15) (hts _ q16) rfl (by rw [hml]; exact hl.1) rfl dX1_init_1 (Nat.le_of_ble_eq_true rfl) (Nat.le_of_ble_eq_true rfl) ?_
  refine W.eq (g2 := F0 m 4 ls []) rfl ?_
  refine lv_aload_n hx hb dX1_init_4 rfl (lv_at hl 0 rfl) ?_
  refine lv_iconst (v := 2) hx hb dX1_init_5 (by decide +kernel) ?_
  refine va_newq (N' := 2) hx hb hown (hts _ q17) hAO hK hP hD hS hA (by decide +kernel) (by decide +kernel) (Nat.le_of_ble_eq_true rfl) (Nat.le_of_ble_eq_true rfl) (Nat.le_of_ble_eq_true rfl) dX1_init_6 (fun fa cA H hK hP hD hS => ?_)
  have hK : va_K (dC, dI) nwCl [(cA, .object "GF")] s := hK
  have hP : va_P (dC, dI) nwCl [(h0, .inr (0, [.null])), (fa, .inl (cA, 2, .inr (.inr (.inr (.inr (fun _ => none))))))] H := hP
  have hD : va_D A [(h0, .inr (0, [.null])), (fa, .inl (cA, 2, .inr (.inr (.inr (.inr (fun _ => none))))))] := hD
  refine W.widen (k := 1) (n := 2) (by omega) (by omega) ?_
  refine lv_dup hx hb dX1_init_9 rfl ?_
  refine lv_iconst (v := 0) hx hb dX1_init_10 (by decide +kernel) ?_
  refine va_new (ci := 1) (fs := []) (C := RX3) (T := TX3) (N := 0) hx hb hts in_X3 tyX3 tyX3_ok hown (hts _ q19) (hts _ q20) (hts _ q6) hK hP hD hS hA rfl (fun j hj => absurd hj (Nat.not_lt_zero j)) (Nat.le_of_ble_eq_true rfl) (Nat.le_of_ble_eq_true rfl) dX1_init_11 (fun g0 H hP hD hS => ?_)
  have hP : va_P (dC, dI) nwCl [(h0, .inr (0, [.null])), (fa, .inl (cA, 2, .inr (.inr (.inr (.inr (fun _ => none)))))), (g0, .inr (1, []))] H := hP
  have hD : va_D A [(h0, .inr (0, [.null])), (fa, .inl (cA, 2, .inr (.inr (.inr (.inr (fun _ => none)))))), (g0, .inr (1, []))] := hD
  refine W.widen (k := 2) (n := 2) (by omega) (by omega) ?_
  refine lv_dup hx hb dX1_init_14 rfl ?_
  refine nw_callv (W.runI (As := []) (rest := [.ref g0, .int 0, .ref fa, .ref fa, .ref h0]) ⟨hx, hb, hml, hown, hts⟩ (m3_init l g0) (cwI 0 hts (lw_meth q23) rfl rfl rfl (hts _ q6) (hts _ q21) (hts _ q22) rfl (by decide +kernel) ⟨Nat.le_of_ble_eq_true rfl, Nat.le_of_ble_eq_true rfl⟩) ⟨fun _ _ _ _ q => q, fun U hU hW => ⟨rfl, trivial⟩⟩ rfl rfl hl.1 rfl (lv_room (Nat.le_of_ble_eq_true rfl)) dX1_init_15 ⟨Nat.le_of_ble_eq_true rfl, Nat.le_of_ble_eq_true rfl⟩) ?_
  refine va_astqO (E := "GF") hx hb hK hP hD hS 1 0 2 1 rfl rfl hc12 rfl rfl (by unfold vp_in; decide +kernel) dX1_init_18 (fun H locs hP hD hS => ?_)
  rw [z0] at hP hD
  have hP : va_P (dC, dI) nwCl [(h0, .inr (0, [.null])), (fa, .inl (cA, 2, .inr (.inr (.inr (.inr (va_up (fun _ => none) 0 (some g0))))))), (g0, .inr (1, []))] H := hP
  have hD : va_D A [(h0, .inr (0, [.null])), (fa, .inl (cA, 2, .inr (.inr (.inr (.inr (va_up (fun _ => none) 0 (some g0))))))), (g0, .inr (1, []))] := hD
  refine lv_dup hx hb dX1_init_19 rfl ?_
  refine lv_iconst (v := 1) hx hb dX1_init_20 (by decide +kernel) ?_
  refine va_new (ci := 2) (fs := []) (C := RX4) (T := TX3) (N := 0) hx hb hts in_X4 tyX3 tyX3_ok hown (hts _ q29) (hts _ q30) (hts _ q7) hK hP hD hS hA rfl (fun j hj => absurd hj (Nat.not_lt_zero j)) (Nat.le_of_ble_eq_true rfl) (Nat.le_of_ble_eq_true rfl) dX1_init_21 (fun g1 H hP hD hS => ?_)
  have hP : va_P (dC, dI) nwCl [(h0, .inr (0, [.null])), (fa, .inl (cA, 2, .inr (.inr (.inr (.inr (va_up (fun _ => none) 0 (some g0))))))), (g0, .inr (1, [])), (g1, .inr (2, []))] H := hP
  have hD : va_D A [(h0, .inr (0, [.null])), (fa, .inl (cA, 2, .inr (.inr (.inr (.inr (va_up (fun _ => none) 0 (some g0))))))), (g0, .inr (1, [])), (g1, .inr (2, []))] := hD
  refine W.widen (k := 3) (n := 2) (by omega) (by omega) ?_
  refine lv_dup hx hb dX1_init_24 rfl ?_
  refine nw_callv (W.runI (As := []) (rest := [.ref g1, .int 1, .ref fa, .ref fa, .ref h0]) ⟨hx, hb, hml, hown, hts⟩ (m4_init l g1) (cwI 0 hts (lw_meth q33) rfl rfl rfl (hts _ q7) (hts _ q31) (hts _ q32) rfl (by decide +kernel) ⟨Nat.le_of_ble_eq_true rfl, Nat.le_of_ble_eq_true rfl⟩) ⟨fun _ _ _ _ q => q, fun U hU hW => ⟨rfl, trivial⟩⟩ rfl rfl hl.1 rfl (lv_room (Nat.le_of_ble_eq_true rfl)) dX1_init_25 ⟨Nat.le_of_ble_eq_true rfl, Nat.le_of_ble_eq_true rfl⟩) ?_
  refine va_astqO (E := "GF") hx hb hK hP hD hS 1 0 3 2 rfl rfl hc13 rfl rfl (by unfold vp_in; decide +kernel) dX1_init_28 (fun H locs hP hD hS => ?_)
  rw [z1] at hP hD
  have hP : va_P (dC, dI) nwCl [(h0, .inr (0, [.null])), (fa, .inl (cA, 2, .inr (.inr (.inr (.inr (nw_f g0 g1)))))), (g0, .inr (1, [])), (g1, .inr (2, []))] H := hP
  have hD : va_D A [(h0, .inr (0, [.null])), (fa, .inl (cA, 2, .inr (.inr (.inr (.inr (nw_f g0 g1)))))), (g0, .inr (1, [])), (g1, .inr (2, []))] := hD
  refine va_putF (D := (dC, dI)) (ci := 0) (v := .ref fa) (ty := .array (.object "GF")) (C := RX1) (T := TX1) (N := 1) hx hb hts in_X1 tyX1 tyX1_ok nmX1 hown hK hP hD hS 0 rfl rfl 0 (by decide) (hts _ q36) (fun _ h9 => h9) rfl hin rfl (by decide +kernel) rfl rfl (Nat.le_of_ble_eq_true rfl) dX1_init_29 (fun H locs hP hD hS => ?_)
  have hP : va_P (dC, dI) nwCl (nw_Wd cA h0 fa g0 g1) H := hP
  have hD : va_D A (nw_Wd cA h0 fa g0 g1) := hD
  exact W.vret hx hb hr (fun t ht hW => ⟨⟨(cA, fa, g0, g1), rfl, trivial, by rw [ht]; exact hP, va_K.moved hW.alike hK, hD⟩, hS.F ht⟩) hS.2.2 dX1_init_32
set_option maxHeartbeats 4000000 in
set_option maxRecDepth 100000 in
/-- fair(0, a) of an a below 2 ^ 12 -/
theorem m1_fair_0 (l : Launch) (a : Nat) (ha : a < 2 ^ 12) : Met l yX1_fair (ws_ yX1_fair cX1_fair 2 (some .short)) nw_rm0 (va_Pc [.int (nI 0), .int (nI a)] (fun U => True)) (QcRead (nI a)) 0 0 (fun _ => False) := by
  refine Met.ofW (cc := cX1_fair) (maxL := 2) (ret := some .short) (by decide) rfl ?_
  intro p e s m args below meth c s₁ B hml hv
  obtain ⟨rfl, hS⟩ := hv
  have hx := B.exec
  have hb := B.bytes
  have hr := B.returns
  have hts := atoms_spec (ws := ws_ yX1_fair cX1_fair 2 (some .short)) B.pre
  have hts : ∀ w ∈ lw_all, w.before _ s = true := fun w h => hts w (List.mem_cons_of_mem _ h)
  have hown : s.vm.findClass RX1 = some m.cls := findClass_of_methodNamed B.named
  have hlocks := B.notSynchronized
  have hl := lv_entry ([.int (nI 0), .int (nI a)]) (n := 2) (Nat.le_of_ble_eq_true rfl)
  rw [lg_entry_eq]
  generalize (lg_sl ([.int (nI 0), .int (nI a)]) ++ List.replicate (2 - (lg_sl ([.int (nI 0), .int (nI a)])).length) Slot.unset).toArray = ls at hl ⊢
  have hl : lv_has ls 2 [(0, .int (nI 0)), (1, .int (nI a))] := hl
  refine lv_iload_n hx hb dX1_fair_0 rfl (lv_at hl 1 rfl) ?_
  refine lv_iload_n hx hb dX1_fair_1 rfl (lv_at hl 0 rfl) ?_
  refine lv_iconst (v := nI 1) hx hb dX1_fair_2 (by decide +kernel) ?_
  refine nw_wand hx hb dX1_fair_3 ?_
  refine lv_if_ne (tgt := 13) hx hb dX1_fair_4 (by decide) (fun c_1 => absurd (by decide +kernel) c_1) (fun c_1 => ?_)
  refine lv_sipush (v := nI 4095) hx hb dX1_fair_7 (by decide +kernel) ?_
  refine lv_goto (tgt := 16) hx hb dX1_fair_10 (by decide) ?_
  refine nw_wand hx hb dX1_fair_16 ?_
  refine nw_swap (b := a) (Nat.and_two_pow_sub_one_of_lt_two_pow (n := 12) ha) ?_
  refine nw_wi2s hx hb (Nat.lt_trans ha (by decide)) dX1_fair_17 ?_
  exact nw_ret hx hb hr hlocks (nw_short (Nat.lt_trans ha (by decide))) (rfl) dX1_fair_18
set_option maxHeartbeats 4000000 in
set_option maxRecDepth 100000 in
/-- fair(1, a) of an a below 2 ^ 13 -/
theorem m1_fair_1 (l : Launch) (a : Nat) (ha : a < 2 ^ 13) : Met l yX1_fair (ws_ yX1_fair cX1_fair 2 (some .short)) nw_rm0 (va_Pc [.int (nI 1), .int (nI a)] (fun U => True)) (QcRead (nI a)) 0 0 (fun _ => False) := by
  refine Met.ofW (cc := cX1_fair) (maxL := 2) (ret := some .short) (by decide) rfl ?_
  intro p e s m args below meth c s₁ B hml hv
  obtain ⟨rfl, hS⟩ := hv
  have hx := B.exec
  have hb := B.bytes
  have hr := B.returns
  have hts := atoms_spec (ws := ws_ yX1_fair cX1_fair 2 (some .short)) B.pre
  have hts : ∀ w ∈ lw_all, w.before _ s = true := fun w h => hts w (List.mem_cons_of_mem _ h)
  have hown : s.vm.findClass RX1 = some m.cls := findClass_of_methodNamed B.named
  have hlocks := B.notSynchronized
  have hl := lv_entry ([.int (nI 1), .int (nI a)]) (n := 2) (Nat.le_of_ble_eq_true rfl)
  rw [lg_entry_eq]
  generalize (lg_sl ([.int (nI 1), .int (nI a)]) ++ List.replicate (2 - (lg_sl ([.int (nI 1), .int (nI a)])).length) Slot.unset).toArray = ls at hl ⊢
  have hl : lv_has ls 2 [(0, .int (nI 1)), (1, .int (nI a))] := hl
  refine lv_iload_n hx hb dX1_fair_0 rfl (lv_at hl 1 rfl) ?_
  refine lv_iload_n hx hb dX1_fair_1 rfl (lv_at hl 0 rfl) ?_
  refine lv_iconst (v := nI 1) hx hb dX1_fair_2 (by decide +kernel) ?_
  refine nw_wand hx hb dX1_fair_3 ?_
  refine lv_if_ne (tgt := 13) hx hb dX1_fair_4 (by decide) (fun c_1 => ?_) (fun c_1 => absurd c_1 (by decide +kernel))
  refine lv_sipush (v := nI 8191) hx hb dX1_fair_13 (by decide +kernel) ?_
  refine nw_wand hx hb dX1_fair_16 ?_
  refine nw_swap (b := a) (Nat.and_two_pow_sub_one_of_lt_two_pow (n := 13) ha) ?_
  refine nw_wi2s hx hb (Nat.lt_trans ha (by decide)) dX1_fair_17 ?_
  exact nw_ret hx hb hr hlocks (nw_short (Nat.lt_trans ha (by decide))) (rfl) dX1_fair_18
set_option maxHeartbeats 4000000 in
set_option maxRecDepth 100000 in
/-- multiply(0, a, b) -/
theorem m1_multiply_0 (l : Launch) (D : va_G) (cA : ClassId) (h0 fa g0 g1 : Nat) (a b : Nat) (ha : a < 2 ^ 12) (hbb : b < 2 ^ 12) : Met l yX1_multiply (ws_ yX1_multiply cX1_multiply 4 (some .int)) nw_rm4 (va_Pc [.ref h0, .int (nI 0), .int (nI a), .int (nI b)] (fun U => nw_S D cA h0 fa g0 g1 U U.heap)) (QcRead (nI (gf_mul12 a b))) 0 0 (fun _ => False) := by
  refine Met.ofW (cc := cX1_multiply) (maxL := 4) (ret := some .int) (by decide) rfl ?_
  intro p e s m args below meth c s₁ B hml hv
  obtain ⟨rfl, hS⟩ := hv
  have hx := B.exec
  have hb := B.bytes
  have hr := B.returns
  have hts := atoms_spec (ws := ws_ yX1_multiply cX1_multiply 4 (some .int)) B.pre
  have hts : ∀ w ∈ lw_all, w.before _ s = true := fun w h => hts w (List.mem_cons_of_mem _ h)
  have hown : s.vm.findClass RX1 = some m.cls := findClass_of_methodNamed B.named
  have hlocks := B.notSynchronized
  have hl := lv_entry ([.ref h0, .int (nI 0), .int (nI a), .int (nI b)]) (n := 4) (Nat.le_of_ble_eq_true rfl)
  rw [lg_entry_eq]
  generalize (lg_sl ([.ref h0, .int (nI 0), .int (nI a), .int (nI b)]) ++ List.replicate (4 - (lg_sl ([.ref h0, .int (nI 0), .int (nI a), .int (nI b)])).length) Slot.unset).toArray = ls at hl ⊢
  have hl : lv_has ls 4 [(0, .ref h0), (1, .int (nI 0)), (2, .int (nI a)), (3, .int (nI b))] := hl
  refine lv_aload_n hx hb dX1_multiply_0 rfl (lv_at hl 0 rfl) ?_
  refine nw_getf hx hb hts hown hS dX1_multiply_1 ?_
  refine lv_iload_n hx hb dX1_multiply_4 rfl (lv_at hl 1 rfl) ?_
  refine lv_iconst (v := nI 1) hx hb dX1_multiply_5 (by decide +kernel) ?_
  refine nw_wand hx hb dX1_multiply_6 ?_
  refine nw_ald0 hx hb hS dX1_multiply_7 ?_
  refine lv_iload_n hx hb dX1_multiply_8 rfl (lv_at hl 1 rfl) ?_
  refine lv_iload_n hx hb dX1_multiply_9 rfl (lv_at hl 2 rfl) ?_
  refine nw_calli (W.runS (As := [.int (nI 0), .int (nI a)]) (rest := [.ref g0]) ⟨hx, hb, hml, hown, hts⟩ (m1_fair_0 l a ha) (va_cwS 2 hts (lw_S q44 q45 q4 q46) rfl rfl rfl (by decide +kernel) ⟨Nat.le_of_ble_eq_true rfl, Nat.le_of_ble_eq_true rfl⟩) ⟨fun _ _ _ _ q => q, fun U hU hW => ⟨rfl, trivial⟩⟩ rfl rfl hl.1 rfl (lv_room (Nat.le_of_ble_eq_true rfl)) dX1_multiply_10 ⟨Nat.le_of_ble_eq_true rfl, Nat.le_of_ble_eq_true rfl⟩) ?_
  refine lv_iload_n hx hb dX1_multiply_13 rfl (lv_at hl 1 rfl) ?_
  refine lv_iload_n hx hb dX1_multiply_14 rfl (lv_at hl 3 rfl) ?_
  refine nw_calli (W.runS (As := [.int (nI 0), .int (nI b)]) (rest := [.int (nI a), .ref g0]) ⟨hx, hb, hml, hown, hts⟩ (m1_fair_0 l b hbb) (va_cwS 2 hts (lw_S q44 q45 q4 q46) rfl rfl rfl (by decide +kernel) ⟨Nat.le_of_ble_eq_true rfl, Nat.le_of_ble_eq_true rfl⟩) ⟨fun _ _ _ _ q => q, fun U hU hW => ⟨rfl, trivial⟩⟩ rfl rfl hl.1 rfl (lv_room (Nat.le_of_ble_eq_true rfl)) dX1_multiply_15 ⟨Nat.le_of_ble_eq_true rfl, Nat.le_of_ble_eq_true rfl⟩) ?_
  refine nw_calli (va_runU (As := [.int (nI a), .int (nI b)]) (rest := []) ⟨hx, hb, hml, hown, hts⟩ (m3_mul l g0 a b ha) (va_cwA 2 hts (nw_U q47 q49 q50 q51 q6 q52) rfl rfl rfl (hS.2.2 _ (List.mem_of_getElem? (i := 0) rfl)) (by decide +kernel) ⟨Nat.le_of_ble_eq_true rfl, Nat.le_of_ble_eq_true rfl⟩) ⟨fun _ _ _ _ q => q, hS.rc0, fun U hU hW => ⟨rfl, hS.rc0.at hU hW⟩⟩ rfl rfl hl.1 rfl (lv_room (Nat.le_of_ble_eq_true rfl)) dX1_multiply_18 ⟨Nat.le_of_ble_eq_true rfl, Nat.le_of_ble_eq_true rfl⟩).run ?_
  exact nw_ret hx hb hr hlocks (vp_nar_int _) (rfl) dX1_multiply_21
set_option maxHeartbeats 4000000 in
set_option maxRecDepth 100000 in
/-- square(0, a) -/
theorem m1_square_0 (l : Launch) (D : va_G) (cA : ClassId) (h0 fa g0 g1 : Nat) (a : Nat) (ha : a < 2 ^ 12) : Met l yX1_square (ws_ yX1_square cX1_square 3 (some .int)) nw_rm4 (va_Pc [.ref h0, .int (nI 0), .int (nI a)] (fun U => nw_S D cA h0 fa g0 g1 U U.heap)) (QcRead (nI (gf_sq12 a))) 0 0 (fun _ => False) := by
  refine Met.ofW (cc := cX1_square) (maxL := 3) (ret := some .int) (by decide) rfl ?_
  intro p e s m args below meth c s₁ B hml hv
  obtain ⟨rfl, hS⟩ := hv
  have hx := B.exec
  have hb := B.bytes
  have hr := B.returns
  have hts := atoms_spec (ws := ws_ yX1_square cX1_square 3 (some .int)) B.pre
  have hts : ∀ w ∈ lw_all, w.before _ s = true := fun w h => hts w (List.mem_cons_of_mem _ h)
  have hown : s.vm.findClass RX1 = some m.cls := findClass_of_methodNamed B.named
  have hlocks := B.notSynchronized
  have hl := lv_entry ([.ref h0, .int (nI 0), .int (nI a)]) (n := 3) (Nat.le_of_ble_eq_true rfl)
  rw [lg_entry_eq]
  generalize (lg_sl ([.ref h0, .int (nI 0), .int (nI a)]) ++ List.replicate (3 - (lg_sl ([.ref h0, .int (nI 0), .int (nI a)])).length) Slot.unset).toArray = ls at hl ⊢
  have hl : lv_has ls 3 [(0, .ref h0), (1, .int (nI 0)), (2, .int (nI a))] := hl
  refine lv_aload_n hx hb dX1_square_0 rfl (lv_at hl 0 rfl) ?_
  refine nw_getf hx hb hts hown hS dX1_square_1 ?_
  refine lv_iload_n hx hb dX1_square_4 rfl (lv_at hl 1 rfl) ?_
  refine lv_iconst (v := nI 1) hx hb dX1_square_5 (by decide +kernel) ?_
  refine nw_wand hx hb dX1_square_6 ?_
  refine nw_ald0 hx hb hS dX1_square_7 ?_
  refine lv_iload_n hx hb dX1_square_8 rfl (lv_at hl 1 rfl) ?_
  refine lv_iload_n hx hb dX1_square_9 rfl (lv_at hl 2 rfl) ?_
  refine nw_calli (W.runS (As := [.int (nI 0), .int (nI a)]) (rest := [.ref g0]) ⟨hx, hb, hml, hown, hts⟩ (m1_fair_0 l a ha) (va_cwS 2 hts (lw_S q44 q45 q4 q46) rfl rfl rfl (by decide +kernel) ⟨Nat.le_of_ble_eq_true rfl, Nat.le_of_ble_eq_true rfl⟩) ⟨fun _ _ _ _ q => q, fun U hU hW => ⟨rfl, trivial⟩⟩ rfl rfl hl.1 rfl (lv_room (Nat.le_of_ble_eq_true rfl)) dX1_square_10 ⟨Nat.le_of_ble_eq_true rfl, Nat.le_of_ble_eq_true rfl⟩) ?_
  refine nw_calli (va_runU (As := [.int (nI a)]) (rest := []) ⟨hx, hb, hml, hown, hts⟩ (m3_sq l g0 a ha) (va_cwA 1 hts (nw_U q70 q72 q73 q74 q6 q75) rfl rfl rfl (hS.2.2 _ (List.mem_of_getElem? (i := 1) rfl)) (by decide +kernel) ⟨Nat.le_of_ble_eq_true rfl, Nat.le_of_ble_eq_true rfl⟩) ⟨fun _ _ _ _ q => q, hS.rc0, fun U hU hW => ⟨rfl, hS.rc0.at hU hW⟩⟩ rfl rfl hl.1 rfl (lv_room (Nat.le_of_ble_eq_true rfl)) dX1_square_13 ⟨Nat.le_of_ble_eq_true rfl, Nat.le_of_ble_eq_true rfl⟩).run ?_
  exact nw_ret hx hb hr hlocks (vp_nar_int _) (rfl) dX1_square_16
set_option maxHeartbeats 4000000 in
set_option maxRecDepth 100000 in
/-- inverse(0, 0): -1 -/
theorem m1_inverse_0_z (l : Launch) (D : va_G) (cA : ClassId) (h0 fa g0 g1 : Nat) : Met l yX1_inverse (ws_ yX1_inverse cX1_inverse 4 (some .int)) nw_rm4 (va_Pc [.ref h0, .int (nI 0), .int (nI 0)] (fun U => nw_S D cA h0 fa g0 g1 U U.heap)) (QcRead (-1)) 0 0 (fun _ => False) := by
  refine Met.ofW (cc := cX1_inverse) (maxL := 4) (ret := some .int) (by decide) rfl ?_
  intro p e s m args below meth c s₁ B hml hv
  obtain ⟨rfl, hS⟩ := hv
  have hx := B.exec
  have hb := B.bytes
  have hr := B.returns
  have hts := atoms_spec (ws := ws_ yX1_inverse cX1_inverse 4 (some .int)) B.pre
  have hts : ∀ w ∈ lw_all, w.before _ s = true := fun w h => hts w (List.mem_cons_of_mem _ h)
  have hown : s.vm.findClass RX1 = some m.cls := findClass_of_methodNamed B.named
  have hlocks := B.notSynchronized
  have hl := lv_entry ([.ref h0, .int (nI 0), .int (nI 0)]) (n := 4) (Nat.le_of_ble_eq_true rfl)
  rw [lg_entry_eq]
  generalize (lg_sl ([.ref h0, .int (nI 0), .int (nI 0)]) ++ List.replicate (4 - (lg_sl ([.ref h0, .int (nI 0), .int (nI 0)])).length) Slot.unset).toArray = ls at hl ⊢
  have hl : lv_has ls 4 [(0, .ref h0), (1, .int (nI 0)), (2, .int (nI 0))] := hl
  refine lv_iload_n hx hb dX1_inverse_0 rfl (lv_at hl 1 rfl) ?_
  refine lv_iload_n hx hb dX1_inverse_1 rfl (lv_at hl 2 rfl) ?_
  refine nw_calli (W.runS (As := [.int (nI 0), .int (nI 0)]) (rest := []) ⟨hx, hb, hml, hown, hts⟩ (m1_fair_0 l 0 (by decide)) (va_cwS 2 hts (lw_S q44 q45 q4 q46) rfl rfl rfl (by decide +kernel) ⟨Nat.le_of_ble_eq_true rfl, Nat.le_of_ble_eq_true rfl⟩) ⟨fun _ _ _ _ q => q, fun U hU hW => ⟨rfl, trivial⟩⟩ rfl rfl hl.1 rfl (lv_room (Nat.le_of_ble_eq_true rfl)) dX1_inverse_2 ⟨Nat.le_of_ble_eq_true rfl, Nat.le_of_ble_eq_true rfl⟩) ?_
  refine lv_istore_n (lv' := [(3, .int (nI 0)), (0, .ref h0), (1, .int (nI 0)), (2, .int (nI 0))]) hx hb dX1_inverse_5 rfl hl (by decide) rfl (fun ls hl => ?_)
  refine lv_iload_n hx hb dX1_inverse_6 rfl (lv_at hl 0 rfl) ?_
  refine lv_if_ne (tgt := 14) hx hb dX1_inverse_7 (by decide) (fun c_1 => absurd nI_0 c_1) (fun c_1 => ?_)
  refine lv_iconst (v := -1) hx hb dX1_inverse_10 (by decide +kernel) ?_
  refine lv_goto (tgt := 26) hx hb dX1_inverse_11 (by decide) ?_
  exact nw_ret hx hb hr hlocks (vp_nar_int _) (rfl) dX1_inverse_26
set_option maxHeartbeats 4000000 in
set_option maxRecDepth 100000 in
/-- inverse(0, a) of another a -/
theorem m1_inverse_0 (l : Launch) (D : va_G) (cA : ClassId) (h0 fa g0 g1 : Nat) (a : Nat) (ha : a < 2 ^ 12) (hz : a ≠ 0) : Met l yX1_inverse (ws_ yX1_inverse cX1_inverse 4 (some .int)) nw_rm4 (va_Pc [.ref h0, .int (nI 0), .int (nI a)] (fun U => nw_S D cA h0 fa g0 g1 U U.heap)) (QcRead (nI (gf_inv12 a))) 0 0 (fun _ => False) := by
  refine Met.ofW (cc := cX1_inverse) (maxL := 4) (ret := some .int) (by decide) rfl ?_
  intro p e s m args below meth c s₁ B hml hv
  obtain ⟨rfl, hS⟩ := hv
  have hx := B.exec
  have hb := B.bytes
  have hr := B.returns
  have hts := atoms_spec (ws := ws_ yX1_inverse cX1_inverse 4 (some .int)) B.pre
  have hts : ∀ w ∈ lw_all, w.before _ s = true := fun w h => hts w (List.mem_cons_of_mem _ h)
  have hown : s.vm.findClass RX1 = some m.cls := findClass_of_methodNamed B.named
  have hlocks := B.notSynchronized
  have hl := lv_entry ([.ref h0, .int (nI 0), .int (nI a)]) (n := 4) (Nat.le_of_ble_eq_true rfl)
  rw [lg_entry_eq]
  generalize (lg_sl ([.ref h0, .int (nI 0), .int (nI a)]) ++ List.replicate (4 - (lg_sl ([.ref h0, .int (nI 0), .int (nI a)])).length) Slot.unset).toArray = ls at hl ⊢
  have hl : lv_has ls 4 [(0, .ref h0), (1, .int (nI 0)), (2, .int (nI a))] := hl
  refine lv_iload_n hx hb dX1_inverse_0 rfl (lv_at hl 1 rfl) ?_
  refine lv_iload_n hx hb dX1_inverse_1 rfl (lv_at hl 2 rfl) ?_
  refine nw_calli (W.runS (As := [.int (nI 0), .int (nI a)]) (rest := []) ⟨hx, hb, hml, hown, hts⟩ (m1_fair_0 l a ha) (va_cwS 2 hts (lw_S q44 q45 q4 q46) rfl rfl rfl (by decide +kernel) ⟨Nat.le_of_ble_eq_true rfl, Nat.le_of_ble_eq_true rfl⟩) ⟨fun _ _ _ _ q => q, fun U hU hW => ⟨rfl, trivial⟩⟩ rfl rfl hl.1 rfl (lv_room (Nat.le_of_ble_eq_true rfl)) dX1_inverse_2 ⟨Nat.le_of_ble_eq_true rfl, Nat.le_of_ble_eq_true rfl⟩) ?_
  refine lv_istore_n (lv' := [(3, .int (nI a)), (0, .ref h0), (1, .int (nI 0)), (2, .int (nI a))]) hx hb dX1_inverse_5 rfl hl (by decide) rfl (fun ls hl => ?_)
  refine lv_iload_n hx hb dX1_inverse_6 rfl (lv_at hl 0 rfl) ?_
  refine lv_if_ne (tgt := 14) hx hb dX1_inverse_7 (by decide) (fun c_1 => ?_) (fun c_1 => absurd c_1 (nI_ne0 (Nat.pos_of_ne_zero hz) (Nat.lt_trans ha (by decide))))
  refine lv_aload_n hx hb dX1_inverse_14 rfl (lv_at hl 1 rfl) ?_
  refine nw_getf hx hb hts hown hS dX1_inverse_15 ?_
  refine lv_iload_n hx hb dX1_inverse_18 rfl (lv_at hl 2 rfl) ?_
  refine lv_iconst (v := nI 1) hx hb dX1_inverse_19 (by decide +kernel) ?_
  refine nw_wand hx hb dX1_inverse_20 ?_
  refine nw_ald0 hx hb hS dX1_inverse_21 ?_
  refine lv_iload_n hx hb dX1_inverse_22 rfl (lv_at hl 0 rfl) ?_
  refine nw_calli (va_runU (As := [.int (nI a)]) (rest := []) ⟨hx, hb, hml, hown, hts⟩ (m3_inv l g0 a ha) (va_cwA 1 hts (nw_U q92 q94 q95 q96 q6 q97) rfl rfl rfl (hS.2.2 _ (List.mem_of_getElem? (i := 2) rfl)) (by decide +kernel) ⟨Nat.le_of_ble_eq_true rfl, Nat.le_of_ble_eq_true rfl⟩) ⟨fun _ _ _ _ q => q, hS.rc0, fun U hU hW => ⟨rfl, hS.rc0.at hU hW⟩⟩ rfl rfl hl.1 rfl (lv_room (Nat.le_of_ble_eq_true rfl)) dX1_inverse_23 ⟨Nat.le_of_ble_eq_true rfl, Nat.le_of_ble_eq_true rfl⟩).run ?_
  exact nw_ret hx hb hr hlocks (vp_nar_int _) (rfl) dX1_inverse_26
set_option maxHeartbeats 4000000 in
set_option maxRecDepth 100000 in
/-- quotient(0, b, 0): -1 -/
theorem m1_quotient_0_z (l : Launch) (D : va_G) (cA : ClassId) (h0 fa g0 g1 : Nat) (b : Nat) : Met l yX1_quotient (ws_ yX1_quotient cX1_quotient 5 (some .int)) nw_rm4 (va_Pc [.ref h0, .int (nI 0), .int (nI b), .int (nI 0)] (fun U => nw_S D cA h0 fa g0 g1 U U.heap)) (QcRead (-1)) 0 0 (fun _ => False) := by
  refine Met.ofW (cc := cX1_quotient) (maxL := 5) (ret := some .int) (by decide) rfl ?_
  intro p e s m args below meth c s₁ B hml hv
  obtain ⟨rfl, hS⟩ := hv
  have hx := B.exec
  have hb := B.bytes
  have hr := B.returns
  have hts := atoms_spec (ws := ws_ yX1_quotient cX1_quotient 5 (some .int)) B.pre
  have hts : ∀ w ∈ lw_all, w.before _ s = true := fun w h => hts w (List.mem_cons_of_mem _ h)
  have hown : s.vm.findClass RX1 = some m.cls := findClass_of_methodNamed B.named
  have hlocks := B.notSynchronized
  have hl := lv_entry ([.ref h0, .int (nI 0), .int (nI b), .int (nI 0)]) (n := 5) (Nat.le_of_ble_eq_true rfl)
  rw [lg_entry_eq]
  generalize (lg_sl ([.ref h0, .int (nI 0), .int (nI b), .int (nI 0)]) ++ List.replicate (5 - (lg_sl ([.ref h0, .int (nI 0), .int (nI b), .int (nI 0)])).length) Slot.unset).toArray = ls at hl ⊢
  have hl : lv_has ls 5 [(0, .ref h0), (1, .int (nI 0)), (2, .int (nI b)), (3, .int (nI 0))] := hl
  refine lv_iload_n hx hb dX1_quotient_0 rfl (lv_at hl 1 rfl) ?_
  refine lv_iload_n hx hb dX1_quotient_1 rfl (lv_at hl 3 rfl) ?_
  refine nw_calli (W.runS (As := [.int (nI 0), .int (nI 0)]) (rest := []) ⟨hx, hb, hml, hown, hts⟩ (m1_fair_0 l 0 (by decide)) (va_cwS 2 hts (lw_S q44 q45 q4 q46) rfl rfl rfl (by decide +kernel) ⟨Nat.le_of_ble_eq_true rfl, Nat.le_of_ble_eq_true rfl⟩) ⟨fun _ _ _ _ q => q, fun U hU hW => ⟨rfl, trivial⟩⟩ rfl rfl hl.1 rfl (lv_room (Nat.le_of_ble_eq_true rfl)) dX1_quotient_2 ⟨Nat.le_of_ble_eq_true rfl, Nat.le_of_ble_eq_true rfl⟩) ?_
  refine lv_istore (lv' := [(4, .int (nI 0)), (0, .ref h0), (1, .int (nI 0)), (2, .int (nI b)), (3, .int (nI 0))]) hx hb dX1_quotient_5 hl (by decide) rfl (fun ls hl => ?_)
  refine lv_iload hx hb dX1_quotient_7 (lv_at hl 0 rfl) ?_
  refine lv_if_ne (tgt := 16) hx hb dX1_quotient_9 (by decide) (fun c_1 => absurd nI_0 c_1) (fun c_1 => ?_)
  refine lv_iconst (v := -1) hx hb dX1_quotient_12 (by decide +kernel) ?_
  refine lv_goto (tgt := 34) hx hb dX1_quotient_13 (by decide) ?_
  exact nw_ret hx hb hr hlocks (vp_nar_int _) (rfl) dX1_quotient_34
set_option maxHeartbeats 4000000 in
set_option maxRecDepth 100000 in
/-- quotient(0, b, a) of another a -/
theorem m1_quotient_0 (l : Launch) (D : va_G) (cA : ClassId) (h0 fa g0 g1 : Nat) (a b : Nat) (ha : a < 2 ^ 12) (hbb : b < 2 ^ 12) (hz : a ≠ 0) : Met l yX1_quotient (ws_ yX1_quotient cX1_quotient 5 (some .int)) nw_rm4 (va_Pc [.ref h0, .int (nI 0), .int (nI b), .int (nI a)] (fun U => nw_S D cA h0 fa g0 g1 U U.heap)) (QcRead (nI (gf_mul12 (gf_inv12 a) b))) 0 0 (fun _ => False) := by
  refine Met.ofW (cc := cX1_quotient) (maxL := 5) (ret := some .int) (by decide) rfl ?_
  intro p e s m args below meth c s₁ B hml hv
  obtain ⟨rfl, hS⟩ := hv
  have hx := B.exec
  have hb := B.bytes
  have hr := B.returns
  have hts := atoms_spec (ws := ws_ yX1_quotient cX1_quotient 5 (some .int)) B.pre
  have hts : ∀ w ∈ lw_all, w.before _ s = true := fun w h => hts w (List.mem_cons_of_mem _ h)
  have hown : s.vm.findClass RX1 = some m.cls := findClass_of_methodNamed B.named
  have hlocks := B.notSynchronized
  have hl := lv_entry ([.ref h0, .int (nI 0), .int (nI b), .int (nI a)]) (n := 5) (Nat.le_of_ble_eq_true rfl)
  rw [lg_entry_eq]
  generalize (lg_sl ([.ref h0, .int (nI 0), .int (nI b), .int (nI a)]) ++ List.replicate (5 - (lg_sl ([.ref h0, .int (nI 0), .int (nI b), .int (nI a)])).length) Slot.unset).toArray = ls at hl ⊢
  have hl : lv_has ls 5 [(0, .ref h0), (1, .int (nI 0)), (2, .int (nI b)), (3, .int (nI a))] := hl
  refine lv_iload_n hx hb dX1_quotient_0 rfl (lv_at hl 1 rfl) ?_
  refine lv_iload_n hx hb dX1_quotient_1 rfl (lv_at hl 3 rfl) ?_
  refine nw_calli (W.runS (As := [.int (nI 0), .int (nI a)]) (rest := []) ⟨hx, hb, hml, hown, hts⟩ (m1_fair_0 l a ha) (va_cwS 2 hts (lw_S q44 q45 q4 q46) rfl rfl rfl (by decide +kernel) ⟨Nat.le_of_ble_eq_true rfl, Nat.le_of_ble_eq_true rfl⟩) ⟨fun _ _ _ _ q => q, fun U hU hW => ⟨rfl, trivial⟩⟩ rfl rfl hl.1 rfl (lv_room (Nat.le_of_ble_eq_true rfl)) dX1_quotient_2 ⟨Nat.le_of_ble_eq_true rfl, Nat.le_of_ble_eq_true rfl⟩) ?_
  refine lv_istore (lv' := [(4, .int (nI a)), (0, .ref h0), (1, .int (nI 0)), (2, .int (nI b)), (3, .int (nI a))]) hx hb dX1_quotient_5 hl (by decide) rfl (fun ls hl => ?_)
  refine lv_iload hx hb dX1_quotient_7 (lv_at hl 0 rfl) ?_
  refine lv_if_ne (tgt := 16) hx hb dX1_quotient_9 (by decide) (fun c_1 => ?_) (fun c_1 => absurd c_1 (nI_ne0 (Nat.pos_of_ne_zero hz) (Nat.lt_trans ha (by decide))))
  refine lv_aload_n hx hb dX1_quotient_16 rfl (lv_at hl 1 rfl) ?_
  refine nw_getf hx hb hts hown hS dX1_quotient_17 ?_
  refine lv_iload_n hx hb dX1_quotient_20 rfl (lv_at hl 2 rfl) ?_
  refine lv_iconst (v := nI 1) hx hb dX1_quotient_21 (by decide +kernel) ?_
  refine nw_wand hx hb dX1_quotient_22 ?_
  refine nw_ald0 hx hb hS dX1_quotient_23 ?_
  refine lv_iload hx hb dX1_quotient_24 (lv_at hl 0 rfl) ?_
  refine lv_iload_n hx hb dX1_quotient_26 rfl (lv_at hl 2 rfl) ?_
  refine lv_iload_n hx hb dX1_quotient_27 rfl (lv_at hl 3 rfl) ?_
  refine nw_calli (W.runS (As := [.int (nI 0), .int (nI b)]) (rest := [.int (nI a), .ref g0]) ⟨hx, hb, hml, hown, hts⟩ (m1_fair_0 l b hbb) (va_cwS 2 hts (lw_S q44 q45 q4 q46) rfl rfl rfl (by decide +kernel) ⟨Nat.le_of_ble_eq_true rfl, Nat.le_of_ble_eq_true rfl⟩) ⟨fun _ _ _ _ q => q, fun U hU hW => ⟨rfl, trivial⟩⟩ rfl rfl hl.1 rfl (lv_room (Nat.le_of_ble_eq_true rfl)) dX1_quotient_28 ⟨Nat.le_of_ble_eq_true rfl, Nat.le_of_ble_eq_true rfl⟩) ?_
  refine nw_calli (va_runU (As := [.int (nI a), .int (nI b)]) (rest := []) ⟨hx, hb, hml, hown, hts⟩ (m3_frac l g0 a b ha) (va_cwA 2 hts (nw_U q140 q142 q143 q144 q6 q145) rfl rfl rfl (hS.2.2 _ (List.mem_of_getElem? (i := 3) rfl)) (by decide +kernel) ⟨Nat.le_of_ble_eq_true rfl, Nat.le_of_ble_eq_true rfl⟩) ⟨fun _ _ _ _ q => q, hS.rc0, fun U hU hW => ⟨rfl, hS.rc0.at hU hW⟩⟩ rfl rfl hl.1 rfl (lv_room (Nat.le_of_ble_eq_true rfl)) dX1_quotient_31 ⟨Nat.le_of_ble_eq_true rfl, Nat.le_of_ble_eq_true rfl⟩).run ?_
  exact nw_ret hx hb hr hlocks (vp_nar_int _) (rfl) dX1_quotient_34
set_option maxHeartbeats 4000000 in
set_option maxRecDepth 100000 in
/-- product(0, a, b, c, d) -/
theorem m1_product_0 (l : Launch) (D : va_G) (cA : ClassId) (h0 fa g0 g1 : Nat) (a b u w : Nat) (ha : a < 2 ^ 12) (hbb : b < 2 ^ 12) (hcc : u < 2 ^ 12) (hdd : w < 2 ^ 12) : Met l yX1_product (ws_ yX1_product cX1_product 7 (some .int)) nw_rm4 (va_Pc [.ref h0, .int (nI 0), .int (nI a), .int (nI b), .int (nI u), .int (nI w)] (fun U => nw_S D cA h0 fa g0 g1 U U.heap)) (QcRead (nI (gf_mul12 a b ^^^ gf_mul12 u w))) 0 0 (fun _ => False) := by
  refine Met.ofW (cc := cX1_product) (maxL := 7) (ret := some .int) (by decide) rfl ?_
  intro p e s m args below meth c s₁ B hml hv
  obtain ⟨rfl, hS⟩ := hv
  have hx := B.exec
  have hb := B.bytes
  have hr := B.returns
  have hts := atoms_spec (ws := ws_ yX1_product cX1_product 7 (some .int)) B.pre
  have hts : ∀ w ∈ lw_all, w.before _ s = true := fun w h => hts w (List.mem_cons_of_mem _ h)
  have hown : s.vm.findClass RX1 = some m.cls := findClass_of_methodNamed B.named
  have hlocks := B.notSynchronized
  have hl := lv_entry ([.ref h0, .int (nI 0), .int (nI a), .int (nI b), .int (nI u), .int (nI w)]) (n := 7) (Nat.le_of_ble_eq_true rfl)
  rw [lg_entry_eq]
  generalize (lg_sl ([.ref h0, .int (nI 0), .int (nI a), .int (nI b), .int (nI u), .int (nI w)]) ++ List.replicate (7 - (lg_sl ([.ref h0, .int (nI 0), .int (nI a), .int (nI b), .int (nI u), .int (nI w)])).length) Slot.unset).toArray = ls at hl ⊢
  have hl : lv_has ls 7 [(0, .ref h0), (1, .int (nI 0)), (2, .int (nI a)), (3, .int (nI b)), (4, .int (nI u)), (5, .int (nI w))] := hl
  refine lv_aload_n hx hb dX1_product_0 rfl (lv_at hl 0 rfl) ?_
  refine nw_getf hx hb hts hown hS dX1_product_1 ?_
  refine lv_iload_n hx hb dX1_product_4 rfl (lv_at hl 1 rfl) ?_
  refine lv_iconst (v := nI 1) hx hb dX1_product_5 (by decide +kernel) ?_
  refine nw_wand hx hb dX1_product_6 ?_
  refine nw_ald0 hx hb hS dX1_product_7 ?_
  refine lv_astore (lv' := [(6, .ref g0), (0, .ref h0), (1, .int (nI 0)), (2, .int (nI a)), (3, .int (nI b)), (4, .int (nI u)), (5, .int (nI w))]) hx hb dX1_product_8 hl (by decide) rfl (fun ls hl => ?_)
  refine lv_aload hx hb dX1_product_10 (lv_at hl 0 rfl) ?_
  refine lv_aload hx hb dX1_product_12 (lv_at hl 0 rfl) ?_
  refine lv_iload_n hx hb dX1_product_14 rfl (lv_at hl 2 rfl) ?_
  refine lv_iload_n hx hb dX1_product_15 rfl (lv_at hl 3 rfl) ?_
  refine nw_calli (W.runS (As := [.int (nI 0), .int (nI a)]) (rest := [.ref g0, .ref g0]) ⟨hx, hb, hml, hown, hts⟩ (m1_fair_0 l a ha) (va_cwS 2 hts (lw_S q44 q45 q4 q46) rfl rfl rfl (by decide +kernel) ⟨Nat.le_of_ble_eq_true rfl, Nat.le_of_ble_eq_true rfl⟩) ⟨fun _ _ _ _ q => q, fun U hU hW => ⟨rfl, trivial⟩⟩ rfl rfl hl.1 rfl (lv_room (Nat.le_of_ble_eq_true rfl)) dX1_product_16 ⟨Nat.le_of_ble_eq_true rfl, Nat.le_of_ble_eq_true rfl⟩) ?_
  refine lv_iload_n hx hb dX1_product_19 rfl (lv_at hl 2 rfl) ?_
  refine lv_iload_n hx hb dX1_product_20 rfl (lv_at hl 4 rfl) ?_
  refine nw_calli (W.runS (As := [.int (nI 0), .int (nI b)]) (rest := [.int (nI a), .ref g0, .ref g0]) ⟨hx, hb, hml, hown, hts⟩ (m1_fair_0 l b hbb) (va_cwS 2 hts (lw_S q44 q45 q4 q46) rfl rfl rfl (by decide +kernel) ⟨Nat.le_of_ble_eq_true rfl, Nat.le_of_ble_eq_true rfl⟩) ⟨fun _ _ _ _ q => q, fun U hU hW => ⟨rfl, trivial⟩⟩ rfl rfl hl.1 rfl (lv_room (Nat.le_of_ble_eq_true rfl)) dX1_product_21 ⟨Nat.le_of_ble_eq_true rfl, Nat.le_of_ble_eq_true rfl⟩) ?_
  refine nw_calli (va_runU (As := [.int (nI a), .int (nI b)]) (rest := [.ref g0]) ⟨hx, hb, hml, hown, hts⟩ (m3_mul_ext l g0 a b) (va_cwA 2 hts (nw_U q152 q154 q155 q156 q6 q157) rfl rfl rfl (hS.2.2 _ (List.mem_of_getElem? (i := 4) rfl)) (by decide +kernel) ⟨Nat.le_of_ble_eq_true rfl, Nat.le_of_ble_eq_true rfl⟩) ⟨fun _ _ _ _ q => q, hS.rc0, fun U hU hW => ⟨rfl, trivial⟩⟩ rfl rfl hl.1 rfl (lv_room (Nat.le_of_ble_eq_true rfl)) dX1_product_24 ⟨Nat.le_of_ble_eq_true rfl, Nat.le_of_ble_eq_true rfl⟩).run ?_
  refine lv_aload hx hb dX1_product_27 (lv_at hl 0 rfl) ?_
  refine lv_iload_n hx hb dX1_product_29 rfl (lv_at hl 2 rfl) ?_
  refine lv_iload hx hb dX1_product_30 (lv_at hl 5 rfl) ?_
  refine nw_calli (W.runS (As := [.int (nI 0), .int (nI u)]) (rest := [.ref g0, .int (nI (gf_clm a b 12)), .ref g0]) ⟨hx, hb, hml, hown, hts⟩ (m1_fair_0 l u hcc) (va_cwS 2 hts (lw_S q44 q45 q4 q46) rfl rfl rfl (by decide +kernel) ⟨Nat.le_of_ble_eq_true rfl, Nat.le_of_ble_eq_true rfl⟩) ⟨fun _ _ _ _ q => q, fun U hU hW => ⟨rfl, trivial⟩⟩ rfl rfl hl.1 rfl (lv_room (Nat.le_of_ble_eq_true rfl)) dX1_product_32 ⟨Nat.le_of_ble_eq_true rfl, Nat.le_of_ble_eq_true rfl⟩) ?_
  refine lv_iload_n hx hb dX1_product_35 rfl (lv_at hl 2 rfl) ?_
  refine lv_iload hx hb dX1_product_36 (lv_at hl 6 rfl) ?_
  refine nw_calli (W.runS (As := [.int (nI 0), .int (nI w)]) (rest := [.int (nI u), .ref g0, .int (nI (gf_clm a b 12)), .ref g0]) ⟨hx, hb, hml, hown, hts⟩ (m1_fair_0 l w hdd) (va_cwS 2 hts (lw_S q44 q45 q4 q46) rfl rfl rfl (by decide +kernel) ⟨Nat.le_of_ble_eq_true rfl, Nat.le_of_ble_eq_true rfl⟩) ⟨fun _ _ _ _ q => q, fun U hU hW => ⟨rfl, trivial⟩⟩ rfl rfl hl.1 rfl (lv_room (Nat.le_of_ble_eq_true rfl)) dX1_product_38 ⟨Nat.le_of_ble_eq_true rfl, Nat.le_of_ble_eq_true rfl⟩) ?_
  refine nw_calli (va_runU (As := [.int (nI u), .int (nI w)]) (rest := [.int (nI (gf_clm a b 12)), .ref g0]) ⟨hx, hb, hml, hown, hts⟩ (m3_mul_ext l g0 u w) (va_cwA 2 hts (nw_U q152 q154 q155 q156 q6 q157) rfl rfl rfl (hS.2.2 _ (List.mem_of_getElem? (i := 4) rfl)) (by decide +kernel) ⟨Nat.le_of_ble_eq_true rfl, Nat.le_of_ble_eq_true rfl⟩) ⟨fun _ _ _ _ q => q, hS.rc0, fun U hU hW => ⟨rfl, trivial⟩⟩ rfl rfl hl.1 rfl (lv_room (Nat.le_of_ble_eq_true rfl)) dX1_product_41 ⟨Nat.le_of_ble_eq_true rfl, Nat.le_of_ble_eq_true rfl⟩).run ?_
  refine nw_wxor hx hb dX1_product_44 ?_
  refine nw_calli (va_runU (As := [.int (nI ((gf_clm a b 12) ^^^ (gf_clm u w 12)))]) (rest := []) ⟨hx, hb, hml, hown, hts⟩ (m3_reduce l g0 (gf_clm a b 12 ^^^ gf_clm u w 12) (Nat.xor_lt_two_pow (gf_clm_lt b ha 12) (gf_clm_lt w hcc 12))) (va_cwA 1 hts (nw_U q161 q163 q164 q54 q6 q56) rfl rfl rfl (hS.2.2 _ (List.mem_of_getElem? (i := 5) rfl)) (by decide +kernel) ⟨Nat.le_of_ble_eq_true rfl, Nat.le_of_ble_eq_true rfl⟩) ⟨fun _ _ _ _ q => q, hS.rc0, fun U hU hW => ⟨rfl, trivial⟩⟩ rfl rfl hl.1 rfl (lv_room (Nat.le_of_ble_eq_true rfl)) dX1_product_45 ⟨Nat.le_of_ble_eq_true rfl, Nat.le_of_ble_eq_true rfl⟩).run ?_
  exact nw_ret hx hb hr hlocks (vp_nar_int _) (congrArg nI (gf_lin_red12 (gf_clm a b 12) (gf_clm u w 12))) dX1_product_48
set_option maxHeartbeats 4000000 in
set_option maxRecDepth 100000 in
/-- wideSquare(0, a) -/
theorem m1_wide_0 (l : Launch) (D : va_G) (cA : ClassId) (h0 fa g0 g1 : Nat) (a : Nat) (ha : a < 2 ^ 12) : Met l yX1_wideSquare (ws_ yX1_wideSquare cX1_wideSquare 4 (some .int)) nw_rm4 (va_Pc [.ref h0, .int (nI 0), .int (nI a)] (fun U => nw_S D cA h0 fa g0 g1 U U.heap)) (QcRead (nI (gf_sq12 a))) 0 0 (fun _ => False) := by
  refine Met.ofW (cc := cX1_wideSquare) (maxL := 4) (ret := some .int) (by decide) rfl ?_
  intro p e s m args below meth c s₁ B hml hv
  obtain ⟨rfl, hS⟩ := hv
  have hx := B.exec
  have hb := B.bytes
  have hr := B.returns
  have hts := atoms_spec (ws := ws_ yX1_wideSquare cX1_wideSquare 4 (some .int)) B.pre
  have hts : ∀ w ∈ lw_all, w.before _ s = true := fun w h => hts w (List.mem_cons_of_mem _ h)
  have hown : s.vm.findClass RX1 = some m.cls := findClass_of_methodNamed B.named
  have hlocks := B.notSynchronized
  have hl := lv_entry ([.ref h0, .int (nI 0), .int (nI a)]) (n := 4) (Nat.le_of_ble_eq_true rfl)
  rw [lg_entry_eq]
  generalize (lg_sl ([.ref h0, .int (nI 0), .int (nI a)]) ++ List.replicate (4 - (lg_sl ([.ref h0, .int (nI 0), .int (nI a)])).length) Slot.unset).toArray = ls at hl ⊢
  have hl : lv_has ls 4 [(0, .ref h0), (1, .int (nI 0)), (2, .int (nI a))] := hl
  refine lv_aload_n hx hb dX1_wideSquare_0 rfl (lv_at hl 0 rfl) ?_
  refine nw_getf hx hb hts hown hS dX1_wideSquare_1 ?_
  refine lv_iload_n hx hb dX1_wideSquare_4 rfl (lv_at hl 1 rfl) ?_
  refine lv_iconst (v := nI 1) hx hb dX1_wideSquare_5 (by decide +kernel) ?_
  refine nw_wand hx hb dX1_wideSquare_6 ?_
  refine nw_ald0 hx hb hS dX1_wideSquare_7 ?_
  refine lv_astore_n (lv' := [(3, .ref g0), (0, .ref h0), (1, .int (nI 0)), (2, .int (nI a))]) hx hb dX1_wideSquare_8 rfl hl (by decide) rfl (fun ls hl => ?_)
  refine lv_aload_n hx hb dX1_wideSquare_9 rfl (lv_at hl 0 rfl) ?_
  refine lv_aload_n hx hb dX1_wideSquare_10 rfl (lv_at hl 0 rfl) ?_
  refine lv_iload_n hx hb dX1_wideSquare_11 rfl (lv_at hl 2 rfl) ?_
  refine lv_iload_n hx hb dX1_wideSquare_12 rfl (lv_at hl 3 rfl) ?_
  refine nw_calli (W.runS (As := [.int (nI 0), .int (nI a)]) (rest := [.ref g0, .ref g0]) ⟨hx, hb, hml, hown, hts⟩ (m1_fair_0 l a ha) (va_cwS 2 hts (lw_S q44 q45 q4 q46) rfl rfl rfl (by decide +kernel) ⟨Nat.le_of_ble_eq_true rfl, Nat.le_of_ble_eq_true rfl⟩) ⟨fun _ _ _ _ q => q, fun U hU hW => ⟨rfl, trivial⟩⟩ rfl rfl hl.1 rfl (lv_room (Nat.le_of_ble_eq_true rfl)) dX1_wideSquare_13 ⟨Nat.le_of_ble_eq_true rfl, Nat.le_of_ble_eq_true rfl⟩) ?_
  refine nw_calli (va_runU (As := [.int (nI a)]) (rest := [.ref g0]) ⟨hx, hb, hml, hown, hts⟩ (m3_sq_ext l g0 a) (va_cwA 1 hts (nw_U q170 q172 q173 q174 q6 q175) rfl rfl rfl (hS.2.2 _ (List.mem_of_getElem? (i := 6) rfl)) (by decide +kernel) ⟨Nat.le_of_ble_eq_true rfl, Nat.le_of_ble_eq_true rfl⟩) ⟨fun _ _ _ _ q => q, hS.rc0, fun U hU hW => ⟨rfl, trivial⟩⟩ rfl rfl hl.1 rfl (lv_room (Nat.le_of_ble_eq_true rfl)) dX1_wideSquare_16 ⟨Nat.le_of_ble_eq_true rfl, Nat.le_of_ble_eq_true rfl⟩).run ?_
  refine nw_calli (va_runU (As := [.int (nI (gf_exp a))]) (rest := []) ⟨hx, hb, hml, hown, hts⟩ (m3_reduce l g0 (gf_exp a) (gf_exp12_lt ha)) (va_cwA 1 hts (nw_U q161 q163 q164 q54 q6 q56) rfl rfl rfl (hS.2.2 _ (List.mem_of_getElem? (i := 5) rfl)) (by decide +kernel) ⟨Nat.le_of_ble_eq_true rfl, Nat.le_of_ble_eq_true rfl⟩) ⟨fun _ _ _ _ q => q, hS.rc0, fun U hU hW => ⟨rfl, trivial⟩⟩ rfl rfl hl.1 rfl (lv_room (Nat.le_of_ble_eq_true rfl)) dX1_wideSquare_19 ⟨Nat.le_of_ble_eq_true rfl, Nat.le_of_ble_eq_true rfl⟩).run ?_
  exact nw_ret hx hb hr hlocks (vp_nar_int _) (rfl) dX1_wideSquare_22
set_option maxHeartbeats 4000000 in
set_option maxRecDepth 100000 in
/-- nought(0, 0) -/
theorem m1_nought_0_z (l : Launch) (D : va_G) (cA : ClassId) (h0 fa g0 g1 : Nat) : Met l yX1_nought (ws_ yX1_nought cX1_nought 3 (some .boolean)) nw_rm4 (va_Pc [.ref h0, .int (nI 0), .int (nI 0)] (fun U => nw_S D cA h0 fa g0 g1 U U.heap)) (QcRead (nI 1)) 0 0 (fun _ => False) := by
  refine Met.ofW (cc := cX1_nought) (maxL := 3) (ret := some .boolean) (by decide) rfl ?_
  intro p e s m args below meth c s₁ B hml hv
  obtain ⟨rfl, hS⟩ := hv
  have hx := B.exec
  have hb := B.bytes
  have hr := B.returns
  have hts := atoms_spec (ws := ws_ yX1_nought cX1_nought 3 (some .boolean)) B.pre
  have hts : ∀ w ∈ lw_all, w.before _ s = true := fun w h => hts w (List.mem_cons_of_mem _ h)
  have hown : s.vm.findClass RX1 = some m.cls := findClass_of_methodNamed B.named
  have hlocks := B.notSynchronized
  have hl := lv_entry ([.ref h0, .int (nI 0), .int (nI 0)]) (n := 3) (Nat.le_of_ble_eq_true rfl)
  rw [lg_entry_eq]
  generalize (lg_sl ([.ref h0, .int (nI 0), .int (nI 0)]) ++ List.replicate (3 - (lg_sl ([.ref h0, .int (nI 0), .int (nI 0)])).length) Slot.unset).toArray = ls at hl ⊢
  have hl : lv_has ls 3 [(0, .ref h0), (1, .int (nI 0)), (2, .int (nI 0))] := hl
  refine lv_aload_n hx hb dX1_nought_0 rfl (lv_at hl 0 rfl) ?_
  refine nw_getf hx hb hts hown hS dX1_nought_1 ?_
  refine lv_iload_n hx hb dX1_nought_4 rfl (lv_at hl 1 rfl) ?_
  refine lv_iconst (v := nI 1) hx hb dX1_nought_5 (by decide +kernel) ?_
  refine nw_wand hx hb dX1_nought_6 ?_
  refine nw_ald0 hx hb hS dX1_nought_7 ?_
  refine lv_iload_n hx hb dX1_nought_8 rfl (lv_at hl 1 rfl) ?_
  refine lv_iload_n hx hb dX1_nought_9 rfl (lv_at hl 2 rfl) ?_
  refine nw_calli (W.runS (As := [.int (nI 0), .int (nI 0)]) (rest := [.ref g0]) ⟨hx, hb, hml, hown, hts⟩ (m1_fair_0 l 0 (by decide)) (va_cwS 2 hts (lw_S q44 q45 q4 q46) rfl rfl rfl (by decide +kernel) ⟨Nat.le_of_ble_eq_true rfl, Nat.le_of_ble_eq_true rfl⟩) ⟨fun _ _ _ _ q => q, fun U hU hW => ⟨rfl, trivial⟩⟩ rfl rfl hl.1 rfl (lv_room (Nat.le_of_ble_eq_true rfl)) dX1_nought_10 ⟨Nat.le_of_ble_eq_true rfl, Nat.le_of_ble_eq_true rfl⟩) ?_
  refine nw_calli (va_runU (As := [.int (nI 0)]) (rest := []) ⟨hx, hb, hml, hown, hts⟩ (m2_iszero_z l g0) (va_cwU 1 hts (nw_U q183 q185 q186 q184 q5 q188) rfl rfl rfl rfl (by decide +kernel) ⟨Nat.le_of_ble_eq_true rfl, Nat.le_of_ble_eq_true rfl⟩) ⟨fun _ _ _ _ q => q, hS.rc0, fun U hU hW => ⟨rfl, trivial⟩⟩ rfl rfl hl.1 rfl (lv_room (Nat.le_of_ble_eq_true rfl)) dX1_nought_13 ⟨Nat.le_of_ble_eq_true rfl, Nat.le_of_ble_eq_true rfl⟩).run ?_
  refine lv_if_eq (tgt := 23) hx hb dX1_nought_16 (by decide) (fun c_1 => absurd c_1 (by decide +kernel)) (fun c_1 => ?_)
  refine lv_iconst (v := nI 1) hx hb dX1_nought_19 (by decide +kernel) ?_
  refine lv_goto (tgt := 24) hx hb dX1_nought_20 (by decide) ?_
  exact nw_ret hx hb hr hlocks (by decide +kernel) (rfl) dX1_nought_24
set_option maxHeartbeats 4000000 in
set_option maxRecDepth 100000 in
/-- nought(0, a) -/
theorem m1_nought_0 (l : Launch) (D : va_G) (cA : ClassId) (h0 fa g0 g1 : Nat) (a : Nat) (ha : a < 2 ^ 12) (hz : a ≠ 0) : Met l yX1_nought (ws_ yX1_nought cX1_nought 3 (some .boolean)) nw_rm4 (va_Pc [.ref h0, .int (nI 0), .int (nI a)] (fun U => nw_S D cA h0 fa g0 g1 U U.heap)) (QcRead (nI 0)) 0 0 (fun _ => False) := by
  refine Met.ofW (cc := cX1_nought) (maxL := 3) (ret := some .boolean) (by decide) rfl ?_
  intro p e s m args below meth c s₁ B hml hv
  obtain ⟨rfl, hS⟩ := hv
  have hx := B.exec
  have hb := B.bytes
  have hr := B.returns
  have hts := atoms_spec (ws := ws_ yX1_nought cX1_nought 3 (some .boolean)) B.pre
  have hts : ∀ w ∈ lw_all, w.before _ s = true := fun w h => hts w (List.mem_cons_of_mem _ h)
  have hown : s.vm.findClass RX1 = some m.cls := findClass_of_methodNamed B.named
  have hlocks := B.notSynchronized
  have hl := lv_entry ([.ref h0, .int (nI 0), .int (nI a)]) (n := 3) (Nat.le_of_ble_eq_true rfl)
  rw [lg_entry_eq]
  generalize (lg_sl ([.ref h0, .int (nI 0), .int (nI a)]) ++ List.replicate (3 - (lg_sl ([.ref h0, .int (nI 0), .int (nI a)])).length) Slot.unset).toArray = ls at hl ⊢
  have hl : lv_has ls 3 [(0, .ref h0), (1, .int (nI 0)), (2, .int (nI a))] := hl
  refine lv_aload_n hx hb dX1_nought_0 rfl (lv_at hl 0 rfl) ?_
  refine nw_getf hx hb hts hown hS dX1_nought_1 ?_
  refine lv_iload_n hx hb dX1_nought_4 rfl (lv_at hl 1 rfl) ?_
  refine lv_iconst (v := nI 1) hx hb dX1_nought_5 (by decide +kernel) ?_
  refine nw_wand hx hb dX1_nought_6 ?_
  refine nw_ald0 hx hb hS dX1_nought_7 ?_
  refine lv_iload_n hx hb dX1_nought_8 rfl (lv_at hl 1 rfl) ?_
  refine lv_iload_n hx hb dX1_nought_9 rfl (lv_at hl 2 rfl) ?_
  refine nw_calli (W.runS (As := [.int (nI 0), .int (nI a)]) (rest := [.ref g0]) ⟨hx, hb, hml, hown, hts⟩ (m1_fair_0 l a ha) (va_cwS 2 hts (lw_S q44 q45 q4 q46) rfl rfl rfl (by decide +kernel) ⟨Nat.le_of_ble_eq_true rfl, Nat.le_of_ble_eq_true rfl⟩) ⟨fun _ _ _ _ q => q, fun U hU hW => ⟨rfl, trivial⟩⟩ rfl rfl hl.1 rfl (lv_room (Nat.le_of_ble_eq_true rfl)) dX1_nought_10 ⟨Nat.le_of_ble_eq_true rfl, Nat.le_of_ble_eq_true rfl⟩) ?_
  refine nw_calli (va_runU (As := [.int (nI a)]) (rest := []) ⟨hx, hb, hml, hown, hts⟩ (m2_iszero l g0 a (Nat.lt_trans ha (by decide)) hz) (va_cwU 1 hts (nw_U q183 q185 q186 q184 q5 q188) rfl rfl rfl rfl (by decide +kernel) ⟨Nat.le_of_ble_eq_true rfl, Nat.le_of_ble_eq_true rfl⟩) ⟨fun _ _ _ _ q => q, hS.rc0, fun U hU hW => ⟨rfl, trivial⟩⟩ rfl rfl hl.1 rfl (lv_room (Nat.le_of_ble_eq_true rfl)) dX1_nought_13 ⟨Nat.le_of_ble_eq_true rfl, Nat.le_of_ble_eq_true rfl⟩).run ?_
  refine lv_if_eq (tgt := 23) hx hb dX1_nought_16 (by decide) (fun c_1 => ?_) (fun c_1 => absurd nI_0 c_1)
  refine lv_iconst (v := nI 0) hx hb dX1_nought_23 (by decide +kernel) ?_
  exact nw_ret hx hb hr hlocks (by decide +kernel) (rfl) dX1_nought_24
set_option maxHeartbeats 4000000 in
set_option maxRecDepth 100000 in
/-- multiply(1, a, b) -/
theorem m1_multiply_1 (l : Launch) (D : va_G) (cA : ClassId) (h0 fa g0 g1 : Nat) (a b : Nat) (ha : a < 2 ^ 13) (hbb : b < 2 ^ 13) : Met l yX1_multiply (ws_ yX1_multiply cX1_multiply 4 (some .int)) nw_rm4 (va_Pc [.ref h0, .int (nI 1), .int (nI a), .int (nI b)] (fun U => nw_S D cA h0 fa g0 g1 U U.heap)) (QcRead (nI (gf_mul13 a b))) 0 0 (fun _ => False) := by
  refine Met.ofW (cc := cX1_multiply) (maxL := 4) (ret := some .int) (by decide) rfl ?_
  intro p e s m args below meth c s₁ B hml hv
  obtain ⟨rfl, hS⟩ := hv
  have hx := B.exec
  have hb := B.bytes
  have hr := B.returns
  have hts := atoms_spec (ws := ws_ yX1_multiply cX1_multiply 4 (some .int)) B.pre
  have hts : ∀ w ∈ lw_all, w.before _ s = true := fun w h => hts w (List.mem_cons_of_mem _ h)
  have hown : s.vm.findClass RX1 = some m.cls := findClass_of_methodNamed B.named
  have hlocks := B.notSynchronized
  have hl := lv_entry ([.ref h0, .int (nI 1), .int (nI a), .int (nI b)]) (n := 4) (Nat.le_of_ble_eq_true rfl)
  rw [lg_entry_eq]
  generalize (lg_sl ([.ref h0, .int (nI 1), .int (nI a), .int (nI b)]) ++ List.replicate (4 - (lg_sl ([.ref h0, .int (nI 1), .int (nI a), .int (nI b)])).length) Slot.unset).toArray = ls at hl ⊢
  have hl : lv_has ls 4 [(0, .ref h0), (1, .int (nI 1)), (2, .int (nI a)), (3, .int (nI b))] := hl
  refine lv_aload_n hx hb dX1_multiply_0 rfl (lv_at hl 0 rfl) ?_
  refine nw_getf hx hb hts hown hS dX1_multiply_1 ?_
  refine lv_iload_n hx hb dX1_multiply_4 rfl (lv_at hl 1 rfl) ?_
  refine lv_iconst (v := nI 1) hx hb dX1_multiply_5 (by decide +kernel) ?_
  refine nw_wand hx hb dX1_multiply_6 ?_
  refine nw_ald1 hx hb hS dX1_multiply_7 ?_
  refine lv_iload_n hx hb dX1_multiply_8 rfl (lv_at hl 1 rfl) ?_
  refine lv_iload_n hx hb dX1_multiply_9 rfl (lv_at hl 2 rfl) ?_
  refine nw_calli (W.runS (As := [.int (nI 1), .int (nI a)]) (rest := [.ref g1]) ⟨hx, hb, hml, hown, hts⟩ (m1_fair_1 l a ha) (va_cwS 2 hts (lw_S q44 q45 q4 q46) rfl rfl rfl (by decide +kernel) ⟨Nat.le_of_ble_eq_true rfl, Nat.le_of_ble_eq_true rfl⟩) ⟨fun _ _ _ _ q => q, fun U hU hW => ⟨rfl, trivial⟩⟩ rfl rfl hl.1 rfl (lv_room (Nat.le_of_ble_eq_true rfl)) dX1_multiply_10 ⟨Nat.le_of_ble_eq_true rfl, Nat.le_of_ble_eq_true rfl⟩) ?_
  refine lv_iload_n hx hb dX1_multiply_13 rfl (lv_at hl 1 rfl) ?_
  refine lv_iload_n hx hb dX1_multiply_14 rfl (lv_at hl 3 rfl) ?_
  refine nw_calli (W.runS (As := [.int (nI 1), .int (nI b)]) (rest := [.int (nI a), .ref g1]) ⟨hx, hb, hml, hown, hts⟩ (m1_fair_1 l b hbb) (va_cwS 2 hts (lw_S q44 q45 q4 q46) rfl rfl rfl (by decide +kernel) ⟨Nat.le_of_ble_eq_true rfl, Nat.le_of_ble_eq_true rfl⟩) ⟨fun _ _ _ _ q => q, fun U hU hW => ⟨rfl, trivial⟩⟩ rfl rfl hl.1 rfl (lv_room (Nat.le_of_ble_eq_true rfl)) dX1_multiply_15 ⟨Nat.le_of_ble_eq_true rfl, Nat.le_of_ble_eq_true rfl⟩) ?_
  refine nw_calli (va_runU (As := [.int (nI a), .int (nI b)]) (rest := []) ⟨hx, hb, hml, hown, hts⟩ (m4_mul l g1 a b ha) (va_cwA 2 hts (nw_U q47 q49 q59 q60 q7 q61) rfl rfl rfl (hS.2.2 _ (List.mem_of_getElem? (i := 0) rfl)) (by decide +kernel) ⟨Nat.le_of_ble_eq_true rfl, Nat.le_of_ble_eq_true rfl⟩) ⟨fun _ _ _ _ q => q, hS.rc1, fun U hU hW => ⟨rfl, hS.rc1.at hU hW⟩⟩ rfl rfl hl.1 rfl (lv_room (Nat.le_of_ble_eq_true rfl)) dX1_multiply_18 ⟨Nat.le_of_ble_eq_true rfl, Nat.le_of_ble_eq_true rfl⟩).run ?_
  exact nw_ret hx hb hr hlocks (vp_nar_int _) (rfl) dX1_multiply_21
set_option maxHeartbeats 4000000 in
set_option maxRecDepth 100000 in
/-- square(1, a) -/
theorem m1_square_1 (l : Launch) (D : va_G) (cA : ClassId) (h0 fa g0 g1 : Nat) (a : Nat) (ha : a < 2 ^ 13) : Met l yX1_square (ws_ yX1_square cX1_square 3 (some .int)) nw_rm4 (va_Pc [.ref h0, .int (nI 1), .int (nI a)] (fun U => nw_S D cA h0 fa g0 g1 U U.heap)) (QcRead (nI (gf_sq13 a))) 0 0 (fun _ => False) := by
  refine Met.ofW (cc := cX1_square) (maxL := 3) (ret := some .int) (by decide) rfl ?_
  intro p e s m args below meth c s₁ B hml hv
  obtain ⟨rfl, hS⟩ := hv
  have hx := B.exec
  have hb := B.bytes
  have hr := B.returns
  have hts := atoms_spec (ws := ws_ yX1_square cX1_square 3 (some .int)) B.pre
  have hts : ∀ w ∈ lw_all, w.before _ s = true := fun w h => hts w (List.mem_cons_of_mem _ h)
  have hown : s.vm.findClass RX1 = some m.cls := findClass_of_methodNamed B.named
  have hlocks := B.notSynchronized
  have hl := lv_entry ([.ref h0, .int (nI 1), .int (nI a)]) (n := 3) (Nat.le_of_ble_eq_true rfl)
  rw [lg_entry_eq]
  generalize (lg_sl ([.ref h0, .int (nI 1), .int (nI a)]) ++ List.replicate (3 - (lg_sl ([.ref h0, .int (nI 1), .int (nI a)])).length) Slot.unset).toArray = ls at hl ⊢
  have hl : lv_has ls 3 [(0, .ref h0), (1, .int (nI 1)), (2, .int (nI a))] := hl
  refine lv_aload_n hx hb dX1_square_0 rfl (lv_at hl 0 rfl) ?_
  refine nw_getf hx hb hts hown hS dX1_square_1 ?_
  refine lv_iload_n hx hb dX1_square_4 rfl (lv_at hl 1 rfl) ?_
  refine lv_iconst (v := nI 1) hx hb dX1_square_5 (by decide +kernel) ?_
  refine nw_wand hx hb dX1_square_6 ?_
  refine nw_ald1 hx hb hS dX1_square_7 ?_
  refine lv_iload_n hx hb dX1_square_8 rfl (lv_at hl 1 rfl) ?_
  refine lv_iload_n hx hb dX1_square_9 rfl (lv_at hl 2 rfl) ?_
  refine nw_calli (W.runS (As := [.int (nI 1), .int (nI a)]) (rest := [.ref g1]) ⟨hx, hb, hml, hown, hts⟩ (m1_fair_1 l a ha) (va_cwS 2 hts (lw_S q44 q45 q4 q46) rfl rfl rfl (by decide +kernel) ⟨Nat.le_of_ble_eq_true rfl, Nat.le_of_ble_eq_true rfl⟩) ⟨fun _ _ _ _ q => q, fun U hU hW => ⟨rfl, trivial⟩⟩ rfl rfl hl.1 rfl (lv_room (Nat.le_of_ble_eq_true rfl)) dX1_square_10 ⟨Nat.le_of_ble_eq_true rfl, Nat.le_of_ble_eq_true rfl⟩) ?_
  refine nw_calli (va_runU (As := [.int (nI a)]) (rest := []) ⟨hx, hb, hml, hown, hts⟩ (m4_sq l g1 a ha) (va_cwA 1 hts (nw_U q70 q72 q84 q85 q7 q86) rfl rfl rfl (hS.2.2 _ (List.mem_of_getElem? (i := 1) rfl)) (by decide +kernel) ⟨Nat.le_of_ble_eq_true rfl, Nat.le_of_ble_eq_true rfl⟩) ⟨fun _ _ _ _ q => q, hS.rc1, fun U hU hW => ⟨rfl, hS.rc1.at hU hW⟩⟩ rfl rfl hl.1 rfl (lv_room (Nat.le_of_ble_eq_true rfl)) dX1_square_13 ⟨Nat.le_of_ble_eq_true rfl, Nat.le_of_ble_eq_true rfl⟩).run ?_
  exact nw_ret hx hb hr hlocks (vp_nar_int _) (rfl) dX1_square_16
set_option maxHeartbeats 4000000 in
set_option maxRecDepth 100000 in
/-- inverse(1, 0): -1 -/
theorem m1_inverse_1_z (l : Launch) (D : va_G) (cA : ClassId) (h0 fa g0 g1 : Nat) : Met l yX1_inverse (ws_ yX1_inverse cX1_inverse 4 (some .int)) nw_rm4 (va_Pc [.ref h0, .int (nI 1), .int (nI 0)] (fun U => nw_S D cA h0 fa g0 g1 U U.heap)) (QcRead (-1)) 0 0 (fun _ => False) := by
  refine Met.ofW (cc := cX1_inverse) (maxL := 4) (ret := some .int) (by decide) rfl ?_
  intro p e s m args below meth c s₁ B hml hv
  obtain ⟨rfl, hS⟩ := hv
  have hx := B.exec
  have hb := B.bytes
  have hr := B.returns
  have hts := atoms_spec (ws := ws_ yX1_inverse cX1_inverse 4 (some .int)) B.pre
  have hts : ∀ w ∈ lw_all, w.before _ s = true := fun w h => hts w (List.mem_cons_of_mem _ h)
  have hown : s.vm.findClass RX1 = some m.cls := findClass_of_methodNamed B.named
  have hlocks := B.notSynchronized
  have hl := lv_entry ([.ref h0, .int (nI 1), .int (nI 0)]) (n := 4) (Nat.le_of_ble_eq_true rfl)
  rw [lg_entry_eq]
  generalize (lg_sl ([.ref h0, .int (nI 1), .int (nI 0)]) ++ List.replicate (4 - (lg_sl ([.ref h0, .int (nI 1), .int (nI 0)])).length) Slot.unset).toArray = ls at hl ⊢
  have hl : lv_has ls 4 [(0, .ref h0), (1, .int (nI 1)), (2, .int (nI 0))] := hl
  refine lv_iload_n hx hb dX1_inverse_0 rfl (lv_at hl 1 rfl) ?_
  refine lv_iload_n hx hb dX1_inverse_1 rfl (lv_at hl 2 rfl) ?_
  refine nw_calli (W.runS (As := [.int (nI 1), .int (nI 0)]) (rest := []) ⟨hx, hb, hml, hown, hts⟩ (m1_fair_1 l 0 (by decide)) (va_cwS 2 hts (lw_S q44 q45 q4 q46) rfl rfl rfl (by decide +kernel) ⟨Nat.le_of_ble_eq_true rfl, Nat.le_of_ble_eq_true rfl⟩) ⟨fun _ _ _ _ q => q, fun U hU hW => ⟨rfl, trivial⟩⟩ rfl rfl hl.1 rfl (lv_room (Nat.le_of_ble_eq_true rfl)) dX1_inverse_2 ⟨Nat.le_of_ble_eq_true rfl, Nat.le_of_ble_eq_true rfl⟩) ?_
  refine lv_istore_n (lv' := [(3, .int (nI 0)), (0, .ref h0), (1, .int (nI 1)), (2, .int (nI 0))]) hx hb dX1_inverse_5 rfl hl (by decide) rfl (fun ls hl => ?_)
  refine lv_iload_n hx hb dX1_inverse_6 rfl (lv_at hl 0 rfl) ?_
  refine lv_if_ne (tgt := 14) hx hb dX1_inverse_7 (by decide) (fun c_1 => absurd nI_0 c_1) (fun c_1 => ?_)
  refine lv_iconst (v := -1) hx hb dX1_inverse_10 (by decide +kernel) ?_
  refine lv_goto (tgt := 26) hx hb dX1_inverse_11 (by decide) ?_
  exact nw_ret hx hb hr hlocks (vp_nar_int _) (rfl) dX1_inverse_26
set_option maxHeartbeats 4000000 in
set_option maxRecDepth 100000 in
/-- inverse(1, a) of another a -/
theorem m1_inverse_1 (l : Launch) (D : va_G) (cA : ClassId) (h0 fa g0 g1 : Nat) (a : Nat) (ha : a < 2 ^ 13) (hz : a ≠ 0) : Met l yX1_inverse (ws_ yX1_inverse cX1_inverse 4 (some .int)) nw_rm4 (va_Pc [.ref h0, .int (nI 1), .int (nI a)] (fun U => nw_S D cA h0 fa g0 g1 U U.heap)) (QcRead (nI (gf_frac13 a 1))) 0 0 (fun _ => False) := by
  refine Met.ofW (cc := cX1_inverse) (maxL := 4) (ret := some .int) (by decide) rfl ?_
  intro p e s m args below meth c s₁ B hml hv
  obtain ⟨rfl, hS⟩ := hv
  have hx := B.exec
  have hb := B.bytes
  have hr := B.returns
  have hts := atoms_spec (ws := ws_ yX1_inverse cX1_inverse 4 (some .int)) B.pre
  have hts : ∀ w ∈ lw_all, w.before _ s = true := fun w h => hts w (List.mem_cons_of_mem _ h)
  have hown : s.vm.findClass RX1 = some m.cls := findClass_of_methodNamed B.named
  have hlocks := B.notSynchronized
  have hl := lv_entry ([.ref h0, .int (nI 1), .int (nI a)]) (n := 4) (Nat.le_of_ble_eq_true rfl)
  rw [lg_entry_eq]
  generalize (lg_sl ([.ref h0, .int (nI 1), .int (nI a)]) ++ List.replicate (4 - (lg_sl ([.ref h0, .int (nI 1), .int (nI a)])).length) Slot.unset).toArray = ls at hl ⊢
  have hl : lv_has ls 4 [(0, .ref h0), (1, .int (nI 1)), (2, .int (nI a))] := hl
  refine lv_iload_n hx hb dX1_inverse_0 rfl (lv_at hl 1 rfl) ?_
  refine lv_iload_n hx hb dX1_inverse_1 rfl (lv_at hl 2 rfl) ?_
  refine nw_calli (W.runS (As := [.int (nI 1), .int (nI a)]) (rest := []) ⟨hx, hb, hml, hown, hts⟩ (m1_fair_1 l a ha) (va_cwS 2 hts (lw_S q44 q45 q4 q46) rfl rfl rfl (by decide +kernel) ⟨Nat.le_of_ble_eq_true rfl, Nat.le_of_ble_eq_true rfl⟩) ⟨fun _ _ _ _ q => q, fun U hU hW => ⟨rfl, trivial⟩⟩ rfl rfl hl.1 rfl (lv_room (Nat.le_of_ble_eq_true rfl)) dX1_inverse_2 ⟨Nat.le_of_ble_eq_true rfl, Nat.le_of_ble_eq_true rfl⟩) ?_
  refine lv_istore_n (lv' := [(3, .int (nI a)), (0, .ref h0), (1, .int (nI 1)), (2, .int (nI a))]) hx hb dX1_inverse_5 rfl hl (by decide) rfl (fun ls hl => ?_)
  refine lv_iload_n hx hb dX1_inverse_6 rfl (lv_at hl 0 rfl) ?_
  refine lv_if_ne (tgt := 14) hx hb dX1_inverse_7 (by decide) (fun c_1 => ?_) (fun c_1 => absurd c_1 (nI_ne0 (Nat.pos_of_ne_zero hz) (Nat.lt_trans ha (by decide))))
  refine lv_aload_n hx hb dX1_inverse_14 rfl (lv_at hl 1 rfl) ?_
  refine nw_getf hx hb hts hown hS dX1_inverse_15 ?_
  refine lv_iload_n hx hb dX1_inverse_18 rfl (lv_at hl 2 rfl) ?_
  refine lv_iconst (v := nI 1) hx hb dX1_inverse_19 (by decide +kernel) ?_
  refine nw_wand hx hb dX1_inverse_20 ?_
  refine nw_ald1 hx hb hS dX1_inverse_21 ?_
  refine lv_iload_n hx hb dX1_inverse_22 rfl (lv_at hl 0 rfl) ?_
  refine nw_calli (va_runU (As := [.int (nI a)]) (rest := []) ⟨hx, hb, hml, hown, hts⟩ (m4_inv l g1 a ha) (va_cwA 1 hts (nw_U q92 q94 q100 q101 q7 q102) rfl rfl rfl (hS.2.2 _ (List.mem_of_getElem? (i := 2) rfl)) (by decide +kernel) ⟨Nat.le_of_ble_eq_true rfl, Nat.le_of_ble_eq_true rfl⟩) ⟨fun _ _ _ _ q => q, hS.rc1, fun U hU hW => ⟨rfl, hS.rc1.at hU hW⟩⟩ rfl rfl hl.1 rfl (lv_room (Nat.le_of_ble_eq_true rfl)) dX1_inverse_23 ⟨Nat.le_of_ble_eq_true rfl, Nat.le_of_ble_eq_true rfl⟩).run ?_
  exact nw_ret hx hb hr hlocks (vp_nar_int _) (rfl) dX1_inverse_26
set_option maxHeartbeats 4000000 in
set_option maxRecDepth 100000 in
/-- quotient(1, b, 0): -1 -/
theorem m1_quotient_1_z (l : Launch) (D : va_G) (cA : ClassId) (h0 fa g0 g1 : Nat) (b : Nat) : Met l yX1_quotient (ws_ yX1_quotient cX1_quotient 5 (some .int)) nw_rm4 (va_Pc [.ref h0, .int (nI 1), .int (nI b), .int (nI 0)] (fun U => nw_S D cA h0 fa g0 g1 U U.heap)) (QcRead (-1)) 0 0 (fun _ => False) := by
  refine Met.ofW (cc := cX1_quotient) (maxL := 5) (ret := some .int) (by decide) rfl ?_
  intro p e s m args below meth c s₁ B hml hv
  obtain ⟨rfl, hS⟩ := hv
  have hx := B.exec
  have hb := B.bytes
  have hr := B.returns
  have hts := atoms_spec (ws := ws_ yX1_quotient cX1_quotient 5 (some .int)) B.pre
  have hts : ∀ w ∈ lw_all, w.before _ s = true := fun w h => hts w (List.mem_cons_of_mem _ h)
  have hown : s.vm.findClass RX1 = some m.cls := findClass_of_methodNamed B.named
  have hlocks := B.notSynchronized
  have hl := lv_entry ([.ref h0, .int (nI 1), .int (nI b), .int (nI 0)]) (n := 5) (Nat.le_of_ble_eq_true rfl)
  rw [lg_entry_eq]
  generalize (lg_sl ([.ref h0, .int (nI 1), .int (nI b), .int (nI 0)]) ++ List.replicate (5 - (lg_sl ([.ref h0, .int (nI 1), .int (nI b), .int (nI 0)])).length) Slot.unset).toArray = ls at hl ⊢
  have hl : lv_has ls 5 [(0, .ref h0), (1, .int (nI 1)), (2, .int (nI b)), (3, .int (nI 0))] := hl
  refine lv_iload_n hx hb dX1_quotient_0 rfl (lv_at hl 1 rfl) ?_
  refine lv_iload_n hx hb dX1_quotient_1 rfl (lv_at hl 3 rfl) ?_
  refine nw_calli (W.runS (As := [.int (nI 1), .int (nI 0)]) (rest := []) ⟨hx, hb, hml, hown, hts⟩ (m1_fair_1 l 0 (by decide)) (va_cwS 2 hts (lw_S q44 q45 q4 q46) rfl rfl rfl (by decide +kernel) ⟨Nat.le_of_ble_eq_true rfl, Nat.le_of_ble_eq_true rfl⟩) ⟨fun _ _ _ _ q => q, fun U hU hW => ⟨rfl, trivial⟩⟩ rfl rfl hl.1 rfl (lv_room (Nat.le_of_ble_eq_true rfl)) dX1_quotient_2 ⟨Nat.le_of_ble_eq_true rfl, Nat.le_of_ble_eq_true rfl⟩) ?_
  refine lv_istore (lv' := [(4, .int (nI 0)), (0, .ref h0), (1, .int (nI 1)), (2, .int (nI b)), (3, .int (nI 0))]) hx hb dX1_quotient_5 hl (by decide) rfl (fun ls hl => ?_)
  refine lv_iload hx hb dX1_quotient_7 (lv_at hl 0 rfl) ?_
  refine lv_if_ne (tgt := 16) hx hb dX1_quotient_9 (by decide) (fun c_1 => absurd nI_0 c_1) (fun c_1 => ?_)
  refine lv_iconst (v := -1) hx hb dX1_quotient_12 (by decide +kernel) ?_
  refine lv_goto (tgt := 34) hx hb dX1_quotient_13 (by decide) ?_
  exact nw_ret hx hb hr hlocks (vp_nar_int _) (rfl) dX1_quotient_34
set_option maxHeartbeats 4000000 in
set_option maxRecDepth 100000 in
/-- quotient(1, b, a) of another a -/
theorem m1_quotient_1 (l : Launch) (D : va_G) (cA : ClassId) (h0 fa g0 g1 : Nat) (a b : Nat) (ha : a < 2 ^ 13) (hbb : b < 2 ^ 13) (hz : a ≠ 0) : Met l yX1_quotient (ws_ yX1_quotient cX1_quotient 5 (some .int)) nw_rm4 (va_Pc [.ref h0, .int (nI 1), .int (nI b), .int (nI a)] (fun U => nw_S D cA h0 fa g0 g1 U U.heap)) (QcRead (nI (gf_frac13 a b))) 0 0 (fun _ => False) := by
  refine Met.ofW (cc := cX1_quotient) (maxL := 5) (ret := some .int) (by decide) rfl ?_
  intro p e s m args below meth c s₁ B hml hv
  obtain ⟨rfl, hS⟩ := hv
  have hx := B.exec
  have hb := B.bytes
  have hr := B.returns
  have hts := atoms_spec (ws := ws_ yX1_quotient cX1_quotient 5 (some .int)) B.pre
  have hts : ∀ w ∈ lw_all, w.before _ s = true := fun w h => hts w (List.mem_cons_of_mem _ h)
  have hown : s.vm.findClass RX1 = some m.cls := findClass_of_methodNamed B.named
  have hlocks := B.notSynchronized
  have hl := lv_entry ([.ref h0, .int (nI 1), .int (nI b), .int (nI a)]) (n := 5) (Nat.le_of_ble_eq_true rfl)
  rw [lg_entry_eq]
  generalize (lg_sl ([.ref h0, .int (nI 1), .int (nI b), .int (nI a)]) ++ List.replicate (5 - (lg_sl ([.ref h0, .int (nI 1), .int (nI b), .int (nI a)])).length) Slot.unset).toArray = ls at hl ⊢
  have hl : lv_has ls 5 [(0, .ref h0), (1, .int (nI 1)), (2, .int (nI b)), (3, .int (nI a))] := hl
  refine lv_iload_n hx hb dX1_quotient_0 rfl (lv_at hl 1 rfl) ?_
  refine lv_iload_n hx hb dX1_quotient_1 rfl (lv_at hl 3 rfl) ?_
  refine nw_calli (W.runS (As := [.int (nI 1), .int (nI a)]) (rest := []) ⟨hx, hb, hml, hown, hts⟩ (m1_fair_1 l a ha) (va_cwS 2 hts (lw_S q44 q45 q4 q46) rfl rfl rfl (by decide +kernel) ⟨Nat.le_of_ble_eq_true rfl, Nat.le_of_ble_eq_true rfl⟩) ⟨fun _ _ _ _ q => q, fun U hU hW => ⟨rfl, trivial⟩⟩ rfl rfl hl.1 rfl (lv_room (Nat.le_of_ble_eq_true rfl)) dX1_quotient_2 ⟨Nat.le_of_ble_eq_true rfl, Nat.le_of_ble_eq_true rfl⟩) ?_
  refine lv_istore (lv' := [(4, .int (nI a)), (0, .ref h0), (1, .int (nI 1)), (2, .int (nI b)), (3, .int (nI a))]) hx hb dX1_quotient_5 hl (by decide) rfl (fun ls hl => ?_)
  refine lv_iload hx hb dX1_quotient_7 (lv_at hl 0 rfl) ?_
  refine lv_if_ne (tgt := 16) hx hb dX1_quotient_9 (by decide) (fun c_1 => ?_) (fun c_1 => absurd c_1 (nI_ne0 (Nat.pos_of_ne_zero hz) (Nat.lt_trans ha (by decide))))
  refine lv_aload_n hx hb dX1_quotient_16 rfl (lv_at hl 1 rfl) ?_
  refine nw_getf hx hb hts hown hS dX1_quotient_17 ?_
  refine lv_iload_n hx hb dX1_quotient_20 rfl (lv_at hl 2 rfl) ?_
  refine lv_iconst (v := nI 1) hx hb dX1_quotient_21 (by decide +kernel) ?_
  refine nw_wand hx hb dX1_quotient_22 ?_
  refine nw_ald1 hx hb hS dX1_quotient_23 ?_
  refine lv_iload hx hb dX1_quotient_24 (lv_at hl 0 rfl) ?_
  refine lv_iload_n hx hb dX1_quotient_26 rfl (lv_at hl 2 rfl) ?_
  refine lv_iload_n hx hb dX1_quotient_27 rfl (lv_at hl 3 rfl) ?_
  refine nw_calli (W.runS (As := [.int (nI 1), .int (nI b)]) (rest := [.int (nI a), .ref g1]) ⟨hx, hb, hml, hown, hts⟩ (m1_fair_1 l b hbb) (va_cwS 2 hts (lw_S q44 q45 q4 q46) rfl rfl rfl (by decide +kernel) ⟨Nat.le_of_ble_eq_true rfl, Nat.le_of_ble_eq_true rfl⟩) ⟨fun _ _ _ _ q => q, fun U hU hW => ⟨rfl, trivial⟩⟩ rfl rfl hl.1 rfl (lv_room (Nat.le_of_ble_eq_true rfl)) dX1_quotient_28 ⟨Nat.le_of_ble_eq_true rfl, Nat.le_of_ble_eq_true rfl⟩) ?_
  refine nw_calli (va_runU (As := [.int (nI a), .int (nI b)]) (rest := []) ⟨hx, hb, hml, hown, hts⟩ (m4_frac l g1 a b ha hbb) (va_cwA 2 hts (nw_U q140 q142 q147 q104 q7 q106) rfl rfl rfl (hS.2.2 _ (List.mem_of_getElem? (i := 3) rfl)) (by decide +kernel) ⟨Nat.le_of_ble_eq_true rfl, Nat.le_of_ble_eq_true rfl⟩) ⟨fun _ _ _ _ q => q, hS.rc1, fun U hU hW => ⟨rfl, hS.rc1.at hU hW⟩⟩ rfl rfl hl.1 rfl (lv_room (Nat.le_of_ble_eq_true rfl)) dX1_quotient_31 ⟨Nat.le_of_ble_eq_true rfl, Nat.le_of_ble_eq_true rfl⟩).run ?_
  exact nw_ret hx hb hr hlocks (vp_nar_int _) (rfl) dX1_quotient_34
set_option maxHeartbeats 4000000 in
set_option maxRecDepth 100000 in
/-- product(1, a, b, c, d) -/
theorem m1_product_1 (l : Launch) (D : va_G) (cA : ClassId) (h0 fa g0 g1 : Nat) (a b u w : Nat) (ha : a < 2 ^ 13) (hbb : b < 2 ^ 13) (hcc : u < 2 ^ 13) (hdd : w < 2 ^ 13) : Met l yX1_product (ws_ yX1_product cX1_product 7 (some .int)) nw_rm4 (va_Pc [.ref h0, .int (nI 1), .int (nI a), .int (nI b), .int (nI u), .int (nI w)] (fun U => nw_S D cA h0 fa g0 g1 U U.heap)) (QcRead (nI (gf_mul13 a b ^^^ gf_mul13 u w))) 0 0 (fun _ => False) := by
  refine Met.ofW (cc := cX1_product) (maxL := 7) (ret := some .int) (by decide) rfl ?_
  intro p e s m args below meth c s₁ B hml hv
  obtain ⟨rfl, hS⟩ := hv
  have hx := B.exec
  have hb := B.bytes
  have hr := B.returns
  have hts := atoms_spec (ws := ws_ yX1_product cX1_product 7 (some .int)) B.pre
  have hts : ∀ w ∈ lw_all, w.before _ s = true := fun w h => hts w (List.mem_cons_of_mem _ h)
  have hown : s.vm.findClass RX1 = some m.cls := findClass_of_methodNamed B.named
  have hlocks := B.notSynchronized
  have hl := lv_entry ([.ref h0, .int (nI 1), .int (nI a), .int (nI b), .int (nI u), .int (nI w)]) (n := 7) (Nat.le_of_ble_eq_true rfl)
  rw [lg_entry_eq]
  generalize (lg_sl ([.ref h0, .int (nI 1), .int (nI a), .int (nI b), .int (nI u), .int (nI w)]) ++ List.replicate (7 - (lg_sl ([.ref h0, .int (nI 1), .int (nI a), .int (nI b), .int (nI u), .int (nI w)])).length) Slot.unset).toArray = ls at hl ⊢
  have hl : lv_has ls 7 [(0, .ref h0), (1, .int (nI 1)), (2, .int (nI a)), (3, .int (nI b)), (4, .int (nI u)), (5, .int (nI w))] := hl
  refine lv_aload_n hx hb dX1_product_0 rfl (lv_at hl 0 rfl) ?_
  refine nw_getf hx hb hts hown hS dX1_product_1 ?_
  refine lv_iload_n hx hb dX1_product_4 rfl (lv_at hl 1 rfl) ?_
  refine lv_iconst (v := nI 1) hx hb dX1_product_5 (by decide +kernel) ?_
  refine nw_wand hx hb dX1_product_6 ?_
  refine nw_ald1 hx hb hS dX1_product_7 ?_
  refine lv_astore (lv' := [(6, .ref g1), (0, .ref h0), (1, .int (nI 1)), (2, .int (nI a)), (3, .int (nI b)), (4, .int (nI u)), (5, .int (nI w))]) hx hb dX1_product_8 hl (by decide) rfl (fun ls hl => ?_)
  refine lv_aload hx hb dX1_product_10 (lv_at hl 0 rfl) ?_
  refine lv_aload hx hb dX1_product_12 (lv_at hl 0 rfl) ?_
  refine lv_iload_n hx hb dX1_product_14 rfl (lv_at hl 2 rfl) ?_
  refine lv_iload_n hx hb dX1_product_15 rfl (lv_at hl 3 rfl) ?_
  refine nw_calli (W.runS (As := [.int (nI 1), .int (nI a)]) (rest := [.ref g1, .ref g1]) ⟨hx, hb, hml, hown, hts⟩ (m1_fair_1 l a ha) (va_cwS 2 hts (lw_S q44 q45 q4 q46) rfl rfl rfl (by decide +kernel) ⟨Nat.le_of_ble_eq_true rfl, Nat.le_of_ble_eq_true rfl⟩) ⟨fun _ _ _ _ q => q, fun U hU hW => ⟨rfl, trivial⟩⟩ rfl rfl hl.1 rfl (lv_room (Nat.le_of_ble_eq_true rfl)) dX1_product_16 ⟨Nat.le_of_ble_eq_true rfl, Nat.le_of_ble_eq_true rfl⟩) ?_
  refine lv_iload_n hx hb dX1_product_19 rfl (lv_at hl 2 rfl) ?_
  refine lv_iload_n hx hb dX1_product_20 rfl (lv_at hl 4 rfl) ?_
  refine nw_calli (W.runS (As := [.int (nI 1), .int (nI b)]) (rest := [.int (nI a), .ref g1, .ref g1]) ⟨hx, hb, hml, hown, hts⟩ (m1_fair_1 l b hbb) (va_cwS 2 hts (lw_S q44 q45 q4 q46) rfl rfl rfl (by decide +kernel) ⟨Nat.le_of_ble_eq_true rfl, Nat.le_of_ble_eq_true rfl⟩) ⟨fun _ _ _ _ q => q, fun U hU hW => ⟨rfl, trivial⟩⟩ rfl rfl hl.1 rfl (lv_room (Nat.le_of_ble_eq_true rfl)) dX1_product_21 ⟨Nat.le_of_ble_eq_true rfl, Nat.le_of_ble_eq_true rfl⟩) ?_
  refine nw_calli (va_runU (As := [.int (nI a), .int (nI b)]) (rest := [.ref g1]) ⟨hx, hb, hml, hown, hts⟩ (m4_mul_ext l g1 a b) (va_cwA 2 hts (nw_U q152 q154 q158 q159 q7 q160) rfl rfl rfl (hS.2.2 _ (List.mem_of_getElem? (i := 4) rfl)) (by decide +kernel) ⟨Nat.le_of_ble_eq_true rfl, Nat.le_of_ble_eq_true rfl⟩) ⟨fun _ _ _ _ q => q, hS.rc1, fun U hU hW => ⟨rfl, trivial⟩⟩ rfl rfl hl.1 rfl (lv_room (Nat.le_of_ble_eq_true rfl)) dX1_product_24 ⟨Nat.le_of_ble_eq_true rfl, Nat.le_of_ble_eq_true rfl⟩).run ?_
  refine lv_aload hx hb dX1_product_27 (lv_at hl 0 rfl) ?_
  refine lv_iload_n hx hb dX1_product_29 rfl (lv_at hl 2 rfl) ?_
  refine lv_iload hx hb dX1_product_30 (lv_at hl 5 rfl) ?_
  refine nw_calli (W.runS (As := [.int (nI 1), .int (nI u)]) (rest := [.ref g1, .int (nI (gf_clm a b 13)), .ref g1]) ⟨hx, hb, hml, hown, hts⟩ (m1_fair_1 l u hcc) (va_cwS 2 hts (lw_S q44 q45 q4 q46) rfl rfl rfl (by decide +kernel) ⟨Nat.le_of_ble_eq_true rfl, Nat.le_of_ble_eq_true rfl⟩) ⟨fun _ _ _ _ q => q, fun U hU hW => ⟨rfl, trivial⟩⟩ rfl rfl hl.1 rfl (lv_room (Nat.le_of_ble_eq_true rfl)) dX1_product_32 ⟨Nat.le_of_ble_eq_true rfl, Nat.le_of_ble_eq_true rfl⟩) ?_
  refine lv_iload_n hx hb dX1_product_35 rfl (lv_at hl 2 rfl) ?_
  refine lv_iload hx hb dX1_product_36 (lv_at hl 6 rfl) ?_
  refine nw_calli (W.runS (As := [.int (nI 1), .int (nI w)]) (rest := [.int (nI u), .ref g1, .int (nI (gf_clm a b 13)), .ref g1]) ⟨hx, hb, hml, hown, hts⟩ (m1_fair_1 l w hdd) (va_cwS 2 hts (lw_S q44 q45 q4 q46) rfl rfl rfl (by decide +kernel) ⟨Nat.le_of_ble_eq_true rfl, Nat.le_of_ble_eq_true rfl⟩) ⟨fun _ _ _ _ q => q, fun U hU hW => ⟨rfl, trivial⟩⟩ rfl rfl hl.1 rfl (lv_room (Nat.le_of_ble_eq_true rfl)) dX1_product_38 ⟨Nat.le_of_ble_eq_true rfl, Nat.le_of_ble_eq_true rfl⟩) ?_
  refine nw_calli (va_runU (As := [.int (nI u), .int (nI w)]) (rest := [.int (nI (gf_clm a b 13)), .ref g1]) ⟨hx, hb, hml, hown, hts⟩ (m4_mul_ext l g1 u w) (va_cwA 2 hts (nw_U q152 q154 q158 q159 q7 q160) rfl rfl rfl (hS.2.2 _ (List.mem_of_getElem? (i := 4) rfl)) (by decide +kernel) ⟨Nat.le_of_ble_eq_true rfl, Nat.le_of_ble_eq_true rfl⟩) ⟨fun _ _ _ _ q => q, hS.rc1, fun U hU hW => ⟨rfl, trivial⟩⟩ rfl rfl hl.1 rfl (lv_room (Nat.le_of_ble_eq_true rfl)) dX1_product_41 ⟨Nat.le_of_ble_eq_true rfl, Nat.le_of_ble_eq_true rfl⟩).run ?_
  refine nw_wxor hx hb dX1_product_44 ?_
  refine nw_calli (va_runU (As := [.int (nI ((gf_clm a b 13) ^^^ (gf_clm u w 13)))]) (rest := []) ⟨hx, hb, hml, hown, hts⟩ (m4_reduce l g1 (gf_clm a b 13 ^^^ gf_clm u w 13) (Nat.xor_lt_two_pow (gf_clm_lt b ha 13) (gf_clm_lt w hcc 13))) (va_cwA 1 hts (nw_U q161 q163 q165 q63 q7 q65) rfl rfl rfl (hS.2.2 _ (List.mem_of_getElem? (i := 5) rfl)) (by decide +kernel) ⟨Nat.le_of_ble_eq_true rfl, Nat.le_of_ble_eq_true rfl⟩) ⟨fun _ _ _ _ q => q, hS.rc1, fun U hU hW => ⟨rfl, trivial⟩⟩ rfl rfl hl.1 rfl (lv_room (Nat.le_of_ble_eq_true rfl)) dX1_product_45 ⟨Nat.le_of_ble_eq_true rfl, Nat.le_of_ble_eq_true rfl⟩).run ?_
  exact nw_ret hx hb hr hlocks (vp_nar_int _) (congrArg nI (gf_lin_red13 (gf_clm a b 13) (gf_clm u w 13))) dX1_product_48
set_option maxHeartbeats 4000000 in
set_option maxRecDepth 100000 in
/-- wideSquare(1, a) -/
theorem m1_wide_1 (l : Launch) (D : va_G) (cA : ClassId) (h0 fa g0 g1 : Nat) (a : Nat) (ha : a < 2 ^ 13) : Met l yX1_wideSquare (ws_ yX1_wideSquare cX1_wideSquare 4 (some .int)) nw_rm4 (va_Pc [.ref h0, .int (nI 1), .int (nI a)] (fun U => nw_S D cA h0 fa g0 g1 U U.heap)) (QcRead (nI (gf_sq13 a))) 0 0 (fun _ => False) := by
  refine Met.ofW (cc := cX1_wideSquare) (maxL := 4) (ret := some .int) (by decide) rfl ?_
  intro p e s m args below meth c s₁ B hml hv
  obtain ⟨rfl, hS⟩ := hv
  have hx := B.exec
  have hb := B.bytes
  have hr := B.returns
  have hts := atoms_spec (ws := ws_ yX1_wideSquare cX1_wideSquare 4 (some .int)) B.pre
  have hts : ∀ w ∈ lw_all, w.before _ s = true := fun w h => hts w (List.mem_cons_of_mem _ h)
  have hown : s.vm.findClass RX1 = some m.cls := findClass_of_methodNamed B.named
  have hlocks := B.notSynchronized
  have hl := lv_entry ([.ref h0, .int (nI 1), .int (nI a)]) (n := 4) (Nat.le_of_ble_eq_true rfl)
  rw [lg_entry_eq]
  generalize (lg_sl ([.ref h0, .int (nI 1), .int (nI a)]) ++ List.replicate (4 - (lg_sl ([.ref h0, .int (nI 1), .int (nI a)])).length) Slot.unset).toArray = ls at hl ⊢
  have hl : lv_has ls 4 [(0, .ref h0), (1, .int (nI 1)), (2, .int (nI a))] := hl
  refine lv_aload_n hx hb dX1_wideSquare_0 rfl (lv_at hl 0 rfl) ?_
  refine nw_getf hx hb hts hown hS dX1_wideSquare_1 ?_
  refine lv_iload_n hx hb dX1_wideSquare_4 rfl (lv_at hl 1 rfl) ?_
  refine lv_iconst (v := nI 1) hx hb dX1_wideSquare_5 (by decide +kernel) ?_
  refine nw_wand hx hb dX1_wideSquare_6 ?_
  refine nw_ald1 hx hb hS dX1_wideSquare_7 ?_
  refine lv_astore_n (lv' := [(3, .ref g1), (0, .ref h0), (1, .int (nI 1)), (2, .int (nI a))]) hx hb dX1_wideSquare_8 rfl hl (by decide) rfl (fun ls hl => ?_)
  refine lv_aload_n hx hb dX1_wideSquare_9 rfl (lv_at hl 0 rfl) ?_
  refine lv_aload_n hx hb dX1_wideSquare_10 rfl (lv_at hl 0 rfl) ?_
  refine lv_iload_n hx hb dX1_wideSquare_11 rfl (lv_at hl 2 rfl) ?_
  refine lv_iload_n hx hb dX1_wideSquare_12 rfl (lv_at hl 3 rfl) ?_
  refine nw_calli (W.runS (As := [.int (nI 1), .int (nI a)]) (rest := [.ref g1, .ref g1]) ⟨hx, hb, hml, hown, hts⟩ (m1_fair_1 l a ha) (va_cwS 2 hts (lw_S q44 q45 q4 q46) rfl rfl rfl (by decide +kernel) ⟨Nat.le_of_ble_eq_true rfl, Nat.le_of_ble_eq_true rfl⟩) ⟨fun _ _ _ _ q => q, fun U hU hW => ⟨rfl, trivial⟩⟩ rfl rfl hl.1 rfl (lv_room (Nat.le_of_ble_eq_true rfl)) dX1_wideSquare_13 ⟨Nat.le_of_ble_eq_true rfl, Nat.le_of_ble_eq_true rfl⟩) ?_
  refine nw_calli (va_runU (As := [.int (nI a)]) (rest := [.ref g1]) ⟨hx, hb, hml, hown, hts⟩ (m4_sq_ext l g1 a) (va_cwA 1 hts (nw_U q170 q172 q176 q177 q7 q178) rfl rfl rfl (hS.2.2 _ (List.mem_of_getElem? (i := 6) rfl)) (by decide +kernel) ⟨Nat.le_of_ble_eq_true rfl, Nat.le_of_ble_eq_true rfl⟩) ⟨fun _ _ _ _ q => q, hS.rc1, fun U hU hW => ⟨rfl, trivial⟩⟩ rfl rfl hl.1 rfl (lv_room (Nat.le_of_ble_eq_true rfl)) dX1_wideSquare_16 ⟨Nat.le_of_ble_eq_true rfl, Nat.le_of_ble_eq_true rfl⟩).run ?_
  refine nw_calli (va_runU (As := [.int (nI (gf_exp a))]) (rest := []) ⟨hx, hb, hml, hown, hts⟩ (m4_reduce l g1 (gf_exp a) (gf_exp13_lt ha)) (va_cwA 1 hts (nw_U q161 q163 q165 q63 q7 q65) rfl rfl rfl (hS.2.2 _ (List.mem_of_getElem? (i := 5) rfl)) (by decide +kernel) ⟨Nat.le_of_ble_eq_true rfl, Nat.le_of_ble_eq_true rfl⟩) ⟨fun _ _ _ _ q => q, hS.rc1, fun U hU hW => ⟨rfl, trivial⟩⟩ rfl rfl hl.1 rfl (lv_room (Nat.le_of_ble_eq_true rfl)) dX1_wideSquare_19 ⟨Nat.le_of_ble_eq_true rfl, Nat.le_of_ble_eq_true rfl⟩).run ?_
  exact nw_ret hx hb hr hlocks (vp_nar_int _) (rfl) dX1_wideSquare_22
set_option maxHeartbeats 4000000 in
set_option maxRecDepth 100000 in
/-- nought(1, 0) -/
theorem m1_nought_1_z (l : Launch) (D : va_G) (cA : ClassId) (h0 fa g0 g1 : Nat) : Met l yX1_nought (ws_ yX1_nought cX1_nought 3 (some .boolean)) nw_rm4 (va_Pc [.ref h0, .int (nI 1), .int (nI 0)] (fun U => nw_S D cA h0 fa g0 g1 U U.heap)) (QcRead (nI 1)) 0 0 (fun _ => False) := by
  refine Met.ofW (cc := cX1_nought) (maxL := 3) (ret := some .boolean) (by decide) rfl ?_
  intro p e s m args below meth c s₁ B hml hv
  obtain ⟨rfl, hS⟩ := hv
  have hx := B.exec
  have hb := B.bytes
  have hr := B.returns
  have hts := atoms_spec (ws := ws_ yX1_nought cX1_nought 3 (some .boolean)) B.pre
  have hts : ∀ w ∈ lw_all, w.before _ s = true := fun w h => hts w (List.mem_cons_of_mem _ h)
  have hown : s.vm.findClass RX1 = some m.cls := findClass_of_methodNamed B.named
  have hlocks := B.notSynchronized
  have hl := lv_entry ([.ref h0, .int (nI 1), .int (nI 0)]) (n := 3) (Nat.le_of_ble_eq_true rfl)
  rw [lg_entry_eq]
  generalize (lg_sl ([.ref h0, .int (nI 1), .int (nI 0)]) ++ List.replicate (3 - (lg_sl ([.ref h0, .int (nI 1), .int (nI 0)])).length) Slot.unset).toArray = ls at hl ⊢
  have hl : lv_has ls 3 [(0, .ref h0), (1, .int (nI 1)), (2, .int (nI 0))] := hl
  refine lv_aload_n hx hb dX1_nought_0 rfl (lv_at hl 0 rfl) ?_
  refine nw_getf hx hb hts hown hS dX1_nought_1 ?_
  refine lv_iload_n hx hb dX1_nought_4 rfl (lv_at hl 1 rfl) ?_
  refine lv_iconst (v := nI 1) hx hb dX1_nought_5 (by decide +kernel) ?_
  refine nw_wand hx hb dX1_nought_6 ?_
  refine nw_ald1 hx hb hS dX1_nought_7 ?_
  refine lv_iload_n hx hb dX1_nought_8 rfl (lv_at hl 1 rfl) ?_
  refine lv_iload_n hx hb dX1_nought_9 rfl (lv_at hl 2 rfl) ?_
  refine nw_calli (W.runS (As := [.int (nI 1), .int (nI 0)]) (rest := [.ref g1]) ⟨hx, hb, hml, hown, hts⟩ (m1_fair_1 l 0 (by decide)) (va_cwS 2 hts (lw_S q44 q45 q4 q46) rfl rfl rfl (by decide +kernel) ⟨Nat.le_of_ble_eq_true rfl, Nat.le_of_ble_eq_true rfl⟩) ⟨fun _ _ _ _ q => q, fun U hU hW => ⟨rfl, trivial⟩⟩ rfl rfl hl.1 rfl (lv_room (Nat.le_of_ble_eq_true rfl)) dX1_nought_10 ⟨Nat.le_of_ble_eq_true rfl, Nat.le_of_ble_eq_true rfl⟩) ?_
  refine nw_calli (va_runU (As := [.int (nI 0)]) (rest := []) ⟨hx, hb, hml, hown, hts⟩ (m2_iszero_z l g1) (va_cwU 1 hts (nw_U q183 q185 q187 q184 q5 q188) rfl rfl rfl rfl (by decide +kernel) ⟨Nat.le_of_ble_eq_true rfl, Nat.le_of_ble_eq_true rfl⟩) ⟨fun _ _ _ _ q => q, hS.rc1, fun U hU hW => ⟨rfl, trivial⟩⟩ rfl rfl hl.1 rfl (lv_room (Nat.le_of_ble_eq_true rfl)) dX1_nought_13 ⟨Nat.le_of_ble_eq_true rfl, Nat.le_of_ble_eq_true rfl⟩).run ?_
  refine lv_if_eq (tgt := 23) hx hb dX1_nought_16 (by decide) (fun c_1 => absurd c_1 (by decide +kernel)) (fun c_1 => ?_)
  refine lv_iconst (v := nI 1) hx hb dX1_nought_19 (by decide +kernel) ?_
  refine lv_goto (tgt := 24) hx hb dX1_nought_20 (by decide) ?_
  exact nw_ret hx hb hr hlocks (by decide +kernel) (rfl) dX1_nought_24
set_option maxHeartbeats 4000000 in
set_option maxRecDepth 100000 in
/-- nought(1, a) -/
theorem m1_nought_1 (l : Launch) (D : va_G) (cA : ClassId) (h0 fa g0 g1 : Nat) (a : Nat) (ha : a < 2 ^ 13) (hz : a ≠ 0) : Met l yX1_nought (ws_ yX1_nought cX1_nought 3 (some .boolean)) nw_rm4 (va_Pc [.ref h0, .int (nI 1), .int (nI a)] (fun U => nw_S D cA h0 fa g0 g1 U U.heap)) (QcRead (nI 0)) 0 0 (fun _ => False) := by
  refine Met.ofW (cc := cX1_nought) (maxL := 3) (ret := some .boolean) (by decide) rfl ?_
  intro p e s m args below meth c s₁ B hml hv
  obtain ⟨rfl, hS⟩ := hv
  have hx := B.exec
  have hb := B.bytes
  have hr := B.returns
  have hts := atoms_spec (ws := ws_ yX1_nought cX1_nought 3 (some .boolean)) B.pre
  have hts : ∀ w ∈ lw_all, w.before _ s = true := fun w h => hts w (List.mem_cons_of_mem _ h)
  have hown : s.vm.findClass RX1 = some m.cls := findClass_of_methodNamed B.named
  have hlocks := B.notSynchronized
  have hl := lv_entry ([.ref h0, .int (nI 1), .int (nI a)]) (n := 3) (Nat.le_of_ble_eq_true rfl)
  rw [lg_entry_eq]
  generalize (lg_sl ([.ref h0, .int (nI 1), .int (nI a)]) ++ List.replicate (3 - (lg_sl ([.ref h0, .int (nI 1), .int (nI a)])).length) Slot.unset).toArray = ls at hl ⊢
  have hl : lv_has ls 3 [(0, .ref h0), (1, .int (nI 1)), (2, .int (nI a))] := hl
  refine lv_aload_n hx hb dX1_nought_0 rfl (lv_at hl 0 rfl) ?_
  refine nw_getf hx hb hts hown hS dX1_nought_1 ?_
  refine lv_iload_n hx hb dX1_nought_4 rfl (lv_at hl 1 rfl) ?_
  refine lv_iconst (v := nI 1) hx hb dX1_nought_5 (by decide +kernel) ?_
  refine nw_wand hx hb dX1_nought_6 ?_
  refine nw_ald1 hx hb hS dX1_nought_7 ?_
  refine lv_iload_n hx hb dX1_nought_8 rfl (lv_at hl 1 rfl) ?_
  refine lv_iload_n hx hb dX1_nought_9 rfl (lv_at hl 2 rfl) ?_
  refine nw_calli (W.runS (As := [.int (nI 1), .int (nI a)]) (rest := [.ref g1]) ⟨hx, hb, hml, hown, hts⟩ (m1_fair_1 l a ha) (va_cwS 2 hts (lw_S q44 q45 q4 q46) rfl rfl rfl (by decide +kernel) ⟨Nat.le_of_ble_eq_true rfl, Nat.le_of_ble_eq_true rfl⟩) ⟨fun _ _ _ _ q => q, fun U hU hW => ⟨rfl, trivial⟩⟩ rfl rfl hl.1 rfl (lv_room (Nat.le_of_ble_eq_true rfl)) dX1_nought_10 ⟨Nat.le_of_ble_eq_true rfl, Nat.le_of_ble_eq_true rfl⟩) ?_
  refine nw_calli (va_runU (As := [.int (nI a)]) (rest := []) ⟨hx, hb, hml, hown, hts⟩ (m2_iszero l g1 a (ha) hz) (va_cwU 1 hts (nw_U q183 q185 q187 q184 q5 q188) rfl rfl rfl rfl (by decide +kernel) ⟨Nat.le_of_ble_eq_true rfl, Nat.le_of_ble_eq_true rfl⟩) ⟨fun _ _ _ _ q => q, hS.rc1, fun U hU hW => ⟨rfl, trivial⟩⟩ rfl rfl hl.1 rfl (lv_room (Nat.le_of_ble_eq_true rfl)) dX1_nought_13 ⟨Nat.le_of_ble_eq_true rfl, Nat.le_of_ble_eq_true rfl⟩).run ?_
  refine lv_if_eq (tgt := 23) hx hb dX1_nought_16 (by decide) (fun c_1 => ?_) (fun c_1 => absurd nI_0 c_1)
  refine lv_iconst (v := nI 0) hx hb dX1_nought_23 (by decide +kernel) ?_
  exact nw_ret hx hb hr hlocks (by decide +kernel) (rfl) dX1_nought_24
/-- multiply, for both kinds -/
theorem m1_multiply (l : Launch) (D : va_G) (cA : ClassId) (h0 fa g0 g1 : Nat) (k : Nat) (hk : k < 2) (a b : Nat) (ha : a < 2 ^ (12 + k)) (hbb : b < 2 ^ (12 + k)) : Met l yX1_multiply (ws_ yX1_multiply cX1_multiply 4 (some .int)) nw_rm4 (va_Pc [.ref h0, .int (nI k), .int (nI a), .int (nI b)] (fun U => nw_S D cA h0 fa g0 g1 U U.heap)) (QcRead (nI (gf_mulK k a b))) 0 0 (fun _ => False) := by
  rcases (show k = 0 ∨ k = 1 by omega) with rfl | rfl
  · rw [gf_mulK_0]
    exact m1_multiply_0 l D cA h0 fa g0 g1 a b ha hbb
  · rw [gf_mulK_1]
    exact m1_multiply_1 l D cA h0 fa g0 g1 a b ha hbb
/-- square, for both kinds -/
theorem m1_square (l : Launch) (D : va_G) (cA : ClassId) (h0 fa g0 g1 : Nat) (k : Nat) (hk : k < 2) (a : Nat) (ha : a < 2 ^ (12 + k)) : Met l yX1_square (ws_ yX1_square cX1_square 3 (some .int)) nw_rm4 (va_Pc [.ref h0, .int (nI k), .int (nI a)] (fun U => nw_S D cA h0 fa g0 g1 U U.heap)) (QcRead (nI (gf_sqK k a))) 0 0 (fun _ => False) := by
  rcases (show k = 0 ∨ k = 1 by omega) with rfl | rfl
  · rw [gf_sqK_0]
    exact m1_square_0 l D cA h0 fa g0 g1 a ha
  · rw [gf_sqK_1]
    exact m1_square_1 l D cA h0 fa g0 g1 a ha
/-- wideSquare, for both kinds -/
theorem m1_wide (l : Launch) (D : va_G) (cA : ClassId) (h0 fa g0 g1 : Nat) (k : Nat) (hk : k < 2) (a : Nat) (ha : a < 2 ^ (12 + k)) : Met l yX1_wideSquare (ws_ yX1_wideSquare cX1_wideSquare 4 (some .int)) nw_rm4 (va_Pc [.ref h0, .int (nI k), .int (nI a)] (fun U => nw_S D cA h0 fa g0 g1 U U.heap)) (QcRead (nI (gf_sqK k a))) 0 0 (fun _ => False) := by
  rcases (show k = 0 ∨ k = 1 by omega) with rfl | rfl
  · rw [gf_sqK_0]
    exact m1_wide_0 l D cA h0 fa g0 g1 a ha
  · rw [gf_sqK_1]
    exact m1_wide_1 l D cA h0 fa g0 g1 a ha
/-- inverse, for both kinds -/
theorem m1_inverse (l : Launch) (D : va_G) (cA : ClassId) (h0 fa g0 g1 : Nat) (k : Nat) (hk : k < 2) (a : Nat) (ha : a < 2 ^ (12 + k)) (hz : a ≠ 0) : Met l yX1_inverse (ws_ yX1_inverse cX1_inverse 4 (some .int)) nw_rm4 (va_Pc [.ref h0, .int (nI k), .int (nI a)] (fun U => nw_S D cA h0 fa g0 g1 U U.heap)) (QcRead (nI (gf_invK k a))) 0 0 (fun _ => False) := by
  rcases (show k = 0 ∨ k = 1 by omega) with rfl | rfl
  · rw [gf_invK_0]
    exact m1_inverse_0 l D cA h0 fa g0 g1 a ha hz
  · rw [gf_invK_1]
    exact m1_inverse_1 l D cA h0 fa g0 g1 a ha hz
/-- inverse, for both kinds -/
theorem m1_inverse_z (l : Launch) (D : va_G) (cA : ClassId) (h0 fa g0 g1 : Nat) (k : Nat) (hk : k < 2) : Met l yX1_inverse (ws_ yX1_inverse cX1_inverse 4 (some .int)) nw_rm4 (va_Pc [.ref h0, .int (nI k), .int (nI 0)] (fun U => nw_S D cA h0 fa g0 g1 U U.heap)) (QcRead (-1)) 0 0 (fun _ => False) := by
  rcases (show k = 0 ∨ k = 1 by omega) with rfl | rfl
  · exact m1_inverse_0_z l D cA h0 fa g0 g1  
  · exact m1_inverse_1_z l D cA h0 fa g0 g1  
/-- quotient, for both kinds -/
theorem m1_quotient (l : Launch) (D : va_G) (cA : ClassId) (h0 fa g0 g1 : Nat) (k : Nat) (hk : k < 2) (a b : Nat) (ha : a < 2 ^ (12 + k)) (hbb : b < 2 ^ (12 + k)) (hz : a ≠ 0) : Met l yX1_quotient (ws_ yX1_quotient cX1_quotient 5 (some .int)) nw_rm4 (va_Pc [.ref h0, .int (nI k), .int (nI b), .int (nI a)] (fun U => nw_S D cA h0 fa g0 g1 U U.heap)) (QcRead (nI (gf_fracK k a b))) 0 0 (fun _ => False) := by
  rcases (show k = 0 ∨ k = 1 by omega) with rfl | rfl
  · rw [gf_fracK_0]
    exact m1_quotient_0 l D cA h0 fa g0 g1 a b ha hbb hz
  · rw [gf_fracK_1]
    exact m1_quotient_1 l D cA h0 fa g0 g1 a b ha hbb hz
/-- quotient, for both kinds -/
theorem m1_quotient_z (l : Launch) (D : va_G) (cA : ClassId) (h0 fa g0 g1 : Nat) (k : Nat) (hk : k < 2) (b : Nat) : Met l yX1_quotient (ws_ yX1_quotient cX1_quotient 5 (some .int)) nw_rm4 (va_Pc [.ref h0, .int (nI k), .int (nI b), .int (nI 0)] (fun U => nw_S D cA h0 fa g0 g1 U U.heap)) (QcRead (-1)) 0 0 (fun _ => False) := by
  rcases (show k = 0 ∨ k = 1 by omega) with rfl | rfl
  · exact m1_quotient_0_z l D cA h0 fa g0 g1 b 
  · exact m1_quotient_1_z l D cA h0 fa g0 g1 b 
/-- product, for both kinds -/
theorem m1_product (l : Launch) (D : va_G) (cA : ClassId) (h0 fa g0 g1 : Nat) (k : Nat) (hk : k < 2) (a b c d : Nat) (ha : a < 2 ^ (12 + k)) (hbb : b < 2 ^ (12 + k)) (hcc : c < 2 ^ (12 + k)) (hdd : d < 2 ^ (12 + k)) : Met l yX1_product (ws_ yX1_product cX1_product 7 (some .int)) nw_rm4 (va_Pc [.ref h0, .int (nI k), .int (nI a), .int (nI b), .int (nI c), .int (nI d)] (fun U => nw_S D cA h0 fa g0 g1 U U.heap)) (QcRead (nI (gf_mulK k a b ^^^ gf_mulK k c d))) 0 0 (fun _ => False) := by
  rcases (show k = 0 ∨ k = 1 by omega) with rfl | rfl
  · rw [gf_mulK_0]
    exact m1_product_0 l D cA h0 fa g0 g1 a b c d ha hbb hcc hdd
  · rw [gf_mulK_1]
    exact m1_product_1 l D cA h0 fa g0 g1 a b c d ha hbb hcc hdd
/-- nought, for both kinds -/
theorem m1_nought (l : Launch) (D : va_G) (cA : ClassId) (h0 fa g0 g1 : Nat) (k : Nat) (hk : k < 2) (a : Nat) (ha : a < 2 ^ (12 + k)) (hz : a ≠ 0) : Met l yX1_nought (ws_ yX1_nought cX1_nought 3 (some .boolean)) nw_rm4 (va_Pc [.ref h0, .int (nI k), .int (nI a)] (fun U => nw_S D cA h0 fa g0 g1 U U.heap)) (QcRead (nI 0)) 0 0 (fun _ => False) := by
  rcases (show k = 0 ∨ k = 1 by omega) with rfl | rfl
  · exact m1_nought_0 l D cA h0 fa g0 g1 a ha hz
  · exact m1_nought_1 l D cA h0 fa g0 g1 a ha hz
/-- nought, for both kinds -/
theorem m1_nought_z (l : Launch) (D : va_G) (cA : ClassId) (h0 fa g0 g1 : Nat) (k : Nat) (hk : k < 2) : Met l yX1_nought (ws_ yX1_nought cX1_nought 3 (some .boolean)) nw_rm4 (va_Pc [.ref h0, .int (nI k), .int (nI 0)] (fun U => nw_S D cA h0 fa g0 g1 U U.heap)) (QcRead (nI 1)) 0 0 (fun _ => False) := by
  rcases (show k = 0 ∨ k = 1 by omega) with rfl | rfl
  · exact m1_nought_0_z l D cA h0 fa g0 g1  
  · exact m1_nought_1_z l D cA h0 fa g0 g1  
end
section
/-! THE CLAIM OUT OF ONE WALK OF THE LAW'S BODY. Your part is whole_start (and what it stands on); all else here is the same for every law, but numbers. -/
def R_law : String := "SmallFieldsLaw"
def lw_P (b : Addr) (xs : List Int32) (args : Array Value) (s : State) : Prop := args = #[.ref b] ∧ s.IntsAt b xs ∧ xs.length ≤ 4 ∧ (Jvm.Cond.and given_1 narrow_1).before args s = true
def lw_Q (_ : Array Value) (s : State) (o : Outcome) (t : State) : Prop := o = .returned (some (.int 1)) ∧ Framed s o t [] 600000 7290000
def lw_Z (below : List Frame) (a : Array Value) (s : State) : State → Prop := fun t => ∃ o, t.status = .running ∧ Ended t below o ∧ lw_Q a s o t
/-- the law's own end, with 1 on the stack, nothing written that was there before, its room as the claim has it -/
theorem lw_ret {p : Program} {l : Launch} {e : Env} {s : State} {m : MethodId} {below : List Frame} {meth : Method} {c : Code} {b : Nat} (hx : p.tables.exec = Jvm.exec) (hb : c.code = code) (hr : meth.sig.returnType = ret) (hlocks : meth.locks = false) {pc : Nat} {H : Heap} {ls : Array Slot} (hdg : decode code pc = .ok (.ireturn, 1)) : W p l e room_1 s m #[Value.ref b] below meth c H [] 600000 7290000 (lw_Z below #[Value.ref b] s) (F0 m pc ls [.int 1]) := by
  intro T hT X
  obtain ⟨fs, hret, hrun, hended, hW, hframe⟩ := X.leave (v := some (.int 1)) (hlocks := hlocks) (fun h => by rw [hr] at h; cases h)
  have hmeth' : T.vm.method? m = some meth := X.method'
  refine ⟨T.setFrames fs, ?_, .returned (some (.int 1)), hrun, hended, rfl, ⟨_, rfl⟩, hW, hframe⟩
  jvm_step X.here [X.here.top, hx, hb, hdg, hmeth', hr, ret, narrow_b1]
  (try refine ⟨rfl, ?_⟩); (try refine ⟨rfl, ?_⟩)
  first | (intro acts; rw [hret _ acts rfl rfl rfl]) | rw [hret _ _ rfl rfl rfl]
  exact Steps.refl _
/-- what holds at the law's entry: the machine, the code, the tables' words (any of lw_tbl by 'hts w (by decide +kernel)'), the script of L ints xs at the cell b, what the Statement gives of the start (any of its parts by flat_of_before) -/
def lw_At (p : Program) (s : State) (m : MethodId) (meth : Method) (c : Code) (b L : Nat) (xs : Nat → Int32) : Prop :=
  p.tables.exec = Jvm.exec ∧ c.code = code ∧ meth.sig.returnType = ret ∧ c.maxLocals = 8 ∧ s.vm.findClass R_law = some m.cls ∧ (∀ w ∈ lw_tbl, w.before #[Value.ref b] s = true) ∧ va_X b L xs s s.heap ∧ b < s.heap.size ∧ meth.locks = false ∧ (Jvm.Cond.and given_1 narrow_1).before #[Value.ref b] s = true
end
section
/-! THE LAW -/
def nw_cl (L : Nat) (xs : Nat → Int32) (k : Nat) : Int32 := if k < L then xs k else 0
section NWL
variable {p : Program} {l : Launch} {e : Env} {R : Room} {s : State} {m : MethodId} {args : Array Value} {below : List Frame} {meth : Method} {c : Code} {H : Heap} {locs : List Loc} {cells slots : Nat} {Q : State → Prop} {pc : Nat} {ls : Array Slot} {rest : List Value}
theorem nw_raw {x y : Int32} (h : x = y) (k : W p l e R s m args below meth c H locs cells slots Q (F0 m pc ls (.int y :: rest))) : W p l e R s m args below meth c H locs cells slots Q (F0 m pc ls (.int x :: rest)) := by
  rw [h]
  exact k
end NWL
set_option maxHeartbeats 4000000 in
set_option maxRecDepth 100000 in
/-- cell(s, k) -/
theorem m0_cell (l : Launch) (b L : Nat) (xs : Nat → Int32) (k : Nat) (hL : L ≤ 4) (hk : k < 4) : Met l yX0_cell (ws_ yX0_cell cX0_cell 2 (some .int)) nw_rm0 (va_Pc [.ref b, .int (nI k)] (fun U => va_X b L xs U U.heap)) (QcRead (nw_cl L xs k)) 0 0 (fun _ => False) := by
  refine Met.ofW (cc := cX0_cell) (maxL := 2) (ret := some .int) (by decide) rfl ?_
  intro p e s m args below meth c s₁ B hml hv
  obtain ⟨rfl, hS⟩ := hv
  have hx := B.exec
  have hb := B.bytes
  have hr := B.returns
  have hts := atoms_spec (ws := ws_ yX0_cell cX0_cell 2 (some .int)) B.pre
  have hts : ∀ w ∈ lw_all, w.before _ s = true := fun w h => hts w (List.mem_cons_of_mem _ h)
  have hown : s.vm.findClass RX0 = some m.cls := findClass_of_methodNamed B.named
  have hlocks := B.notSynchronized
  have hl := lv_entry ([.ref b, .int (nI k)]) (n := 2) (Nat.le_of_ble_eq_true rfl)
  rw [lg_entry_eq]
  generalize (lg_sl ([.ref b, .int (nI k)]) ++ List.replicate (2 - (lg_sl ([.ref b, .int (nI k)])).length) Slot.unset).toArray = ls at hl ⊢
  have hl : lv_has ls 2 [(0, .ref b), (1, .int (nI k))] := hl
  have hbl : b < s.heap.size := by
    obtain ⟨scr, h1, -⟩ := hS
    exact (Array.getElem?_eq_some_iff.mp h1).1
  have hV : va_S (fun _ : Nat => False) s.heap s.heap [] := va_S.rf
  refine lv_iload_n hx hb dX0_cell_0 rfl (lv_at hl 1 rfl) ?_
  refine lv_aload_n hx hb dX0_cell_1 rfl (lv_at hl 0 rfl) ?_
  refine va_slen hx hb hS hbl (fun h => h) hV dX0_cell_2 ?_
  have hle : Int32.ofNat L ≤ nI k ↔ L ≤ k := nI_leI (a := L) (b := k) (by omega) (by omega)
  refine lv_icmp_ge (tgt := 12) hx hb dX0_cell_3 (by decide) (fun c_1 => ?_) (fun c_1 => ?_)
  · have h1 := hle.mp c_1
    refine lv_iconst (v := 0) hx hb dX0_cell_12 (by decide +kernel) ?_
    exact nw_ret hx hb hr hlocks (vp_nar_int _) (if_neg (by omega)).symm dX0_cell_13
  · have h1 : k < L := Nat.lt_of_not_le (fun h => c_1 (hle.mpr h))
    refine lv_aload_n hx hb dX0_cell_6 rfl (lv_at hl 0 rfl) ?_
    refine lv_iload_n hx hb dX0_cell_7 rfl (lv_at hl 1 rfl) ?_
    refine va_sld hx hb hS hbl (fun h => h) hV (vp_in_nI h1 (by omega)) dX0_cell_8 ?_
    refine lv_goto (tgt := 13) hx hb dX0_cell_9 (by decide) ?_
    refine nw_ret hx hb hr hlocks (vp_nar_int _) ?_ dX0_cell_13
    rw [nI_clamp (show k < 2 ^ 31 by omega)]
    exact (if_pos h1).symm
set_option maxHeartbeats 4000000 in
set_option maxRecDepth 100000 in
/-- from 272, a nought -/
theorem law_d0 {p : Program} {l : Launch} {e : Env} {s : State} {m : MethodId} {below : List Frame} {meth : Method} {c : Code} {H : Heap} {bs : Nat} {D : va_G} {cA : ClassId} {h0 fa g0 g1 : Nat} (hx : p.tables.exec = Jvm.exec) (hb : c.code = cL_law) (hr : meth.sig.returnType = ret) (hlocks : meth.locks = false) (hml : c.maxLocals = 8) (hown : s.vm.findClass R_law = some m.cls) (hts : ∀ w ∈ lw_all, w.before #[Value.ref bs] s = true) (hS : nw_S D cA h0 fa g0 g1 s H) {k : Nat} (hk : k < 2) {x2 x3 : Nat} (h2 : x2 < 2 ^ (12 + k)) (h3 : x3 < 2 ^ (12 + k)) (ls : Array Slot) (hl : lv_has ls 8 [(0, .ref bs), (1, .ref h0), (2, .int (nI k)), (3, .int (nI (2 ^ (12 + k) - 1))), (4, .int (nI 0)), (5, .int (nI x2)), (6, .int (nI x3))]) : W p l e room_1 s m #[Value.ref bs] below meth c H [] 600000 7290000 (lw_Z below #[Value.ref bs] s) (F0 m 272 ls []) := by
  refine lv_aload_n hx hb dL_law_272 rfl (lv_at hl 1 rfl) ?_
  refine lv_iload_n hx hb dL_law_273 rfl (lv_at hl 2 rfl) ?_
  refine lv_iload hx hb dL_law_274 (lv_at hl 4 rfl) ?_
  refine nw_calli (W.runV (As := [.int (nI k), .int (nI 0)]) (rest := []) ⟨hx, hb, hml, hown, hts⟩ (m1_nought_z l D cA h0 fa g0 g1 k hk) (cwV 2 hts (lw_V q179 q180 q181 q4 q182) rfl rfl rfl (by decide +kernel) ⟨Nat.le_of_ble_eq_true rfl, Nat.le_of_ble_eq_true rfl⟩) ⟨nw_blind, hS.rcS, fun U hU hW => ⟨rfl, hS.at hU hW⟩⟩ rfl rfl hl.1 rfl (lv_room (Nat.le_of_ble_eq_true rfl)) dL_law_276 ⟨Nat.le_of_ble_eq_true rfl, Nat.le_of_ble_eq_true rfl⟩) ?_
  refine lv_iload hx hb dL_law_279 (lv_at hl 4 rfl) ?_
  refine lv_if_ne (tgt := 288) hx hb dL_law_281 (by decide) (fun c_1 => absurd nI_0 c_1) (fun c_1 => ?_)
  refine lv_iconst (v := nI 1) hx hb dL_law_284 (by decide +kernel) ?_
  refine lv_goto (tgt := 289) hx hb dL_law_285 (by decide) ?_
  refine lv_icmp_eq (tgt := 294) hx hb dL_law_289 (by decide) (fun c_1 => ?_) (fun c_1 => absurd rfl c_1)
  refine lv_iload hx hb dL_law_294 (lv_at hl 4 rfl) ?_
  refine lv_if_ne (tgt := 329) hx hb dL_law_296 (by decide) (fun c_1 => absurd nI_0 c_1) (fun c_1 => ?_)
  refine lv_aload_n hx hb dL_law_299 rfl (lv_at hl 1 rfl) ?_
  refine lv_iload_n hx hb dL_law_300 rfl (lv_at hl 2 rfl) ?_
  refine lv_iload hx hb dL_law_301 (lv_at hl 4 rfl) ?_
  refine nw_calli (W.runV (As := [.int (nI k), .int (nI 0)]) (rest := []) ⟨hx, hb, hml, hown, hts⟩ (m1_inverse_z l D cA h0 fa g0 g1 k hk) (cwV 2 hts (lw_V q88 q89 q90 q4 q91) rfl rfl rfl (by decide +kernel) ⟨Nat.le_of_ble_eq_true rfl, Nat.le_of_ble_eq_true rfl⟩) ⟨nw_blind, hS.rcS, fun U hU hW => ⟨rfl, hS.at hU hW⟩⟩ rfl rfl hl.1 rfl (lv_room (Nat.le_of_ble_eq_true rfl)) dL_law_303 ⟨Nat.le_of_ble_eq_true rfl, Nat.le_of_ble_eq_true rfl⟩) ?_
  refine lv_iconst (v := -1) hx hb dL_law_306 (by decide +kernel) ?_
  refine lv_icmp_ne (tgt := 327) hx hb dL_law_307 (by decide) (fun c_1 => absurd rfl c_1) (fun c_1 => ?_)
  refine lv_aload_n hx hb dL_law_310 rfl (lv_at hl 1 rfl) ?_
  refine lv_iload_n hx hb dL_law_311 rfl (lv_at hl 2 rfl) ?_
  refine lv_iload hx hb dL_law_312 (lv_at hl 5 rfl) ?_
  refine lv_iload hx hb dL_law_314 (lv_at hl 4 rfl) ?_
  refine nw_calli (W.runV (As := [.int (nI k), .int (nI x2), .int (nI 0)]) (rest := []) ⟨hx, hb, hml, hown, hts⟩ (m1_quotient_z l D cA h0 fa g0 g1 k hk x2) (cwV 3 hts (lw_V q136 q137 q138 q4 q139) rfl rfl rfl (by decide +kernel) ⟨Nat.le_of_ble_eq_true rfl, Nat.le_of_ble_eq_true rfl⟩) ⟨nw_blind, hS.rcS, fun U hU hW => ⟨rfl, hS.at hU hW⟩⟩ rfl rfl hl.1 rfl (lv_room (Nat.le_of_ble_eq_true rfl)) dL_law_316 ⟨Nat.le_of_ble_eq_true rfl, Nat.le_of_ble_eq_true rfl⟩) ?_
  refine lv_iconst (v := -1) hx hb dL_law_319 (by decide +kernel) ?_
  refine lv_icmp_ne (tgt := 327) hx hb dL_law_320 (by decide) (fun c_1 => absurd rfl c_1) (fun c_1 => ?_)
  refine lv_iconst (v := nI 1) hx hb dL_law_323 (by decide +kernel) ?_
  refine lv_goto (tgt := 328) hx hb dL_law_324 (by decide) ?_
  exact lw_ret hx hb hr hlocks dL_law_328
set_option maxHeartbeats 4000000 in
set_option maxRecDepth 100000 in
/-- from 272, a another -/
theorem law_d1 {p : Program} {l : Launch} {e : Env} {s : State} {m : MethodId} {below : List Frame} {meth : Method} {c : Code} {H : Heap} {bs : Nat} {D : va_G} {cA : ClassId} {h0 fa g0 g1 : Nat} (hx : p.tables.exec = Jvm.exec) (hb : c.code = cL_law) (hr : meth.sig.returnType = ret) (hlocks : meth.locks = false) (hml : c.maxLocals = 8) (hown : s.vm.findClass R_law = some m.cls) (hts : ∀ w ∈ lw_all, w.before #[Value.ref bs] s = true) (hS : nw_S D cA h0 fa g0 g1 s H) {k : Nat} (hk : k < 2) {x1 x2 x3 : Nat} (h1 : x1 < 2 ^ (12 + k)) (h2 : x2 < 2 ^ (12 + k)) (h3 : x3 < 2 ^ (12 + k)) (hz : x1 ≠ 0) (ls : Array Slot) (hl : lv_has ls 8 [(0, .ref bs), (1, .ref h0), (2, .int (nI k)), (3, .int (nI (2 ^ (12 + k) - 1))), (4, .int (nI x1)), (5, .int (nI x2)), (6, .int (nI x3))]) : W p l e room_1 s m #[Value.ref bs] below meth c H [] 600000 7290000 (lw_Z below #[Value.ref bs] s) (F0 m 272 ls []) := by
  obtain ⟨hR, hone, hsq, hinv, hfr, hio, hqo⟩ := gf_facts hk (12 + k) rfl
  have hR0 := hR
  obtain ⟨hlx, hly, hlt, hcm, has⟩ := hR0
  have h31 : ∀ z, z < 2 ^ (12 + k) → z < 2 ^ 31 := fun z h => gf_up h (by omega)
  refine lv_aload_n hx hb dL_law_272 rfl (lv_at hl 1 rfl) ?_
  refine lv_iload_n hx hb dL_law_273 rfl (lv_at hl 2 rfl) ?_
  refine lv_iload hx hb dL_law_274 (lv_at hl 4 rfl) ?_
  refine nw_calli (W.runV (As := [.int (nI k), .int (nI x1)]) (rest := []) ⟨hx, hb, hml, hown, hts⟩ (m1_nought l D cA h0 fa g0 g1 k hk x1 h1 hz) (cwV 2 hts (lw_V q179 q180 q181 q4 q182) rfl rfl rfl (by decide +kernel) ⟨Nat.le_of_ble_eq_true rfl, Nat.le_of_ble_eq_true rfl⟩) ⟨nw_blind, hS.rcS, fun U hU hW => ⟨rfl, hS.at hU hW⟩⟩ rfl rfl hl.1 rfl (lv_room (Nat.le_of_ble_eq_true rfl)) dL_law_276 ⟨Nat.le_of_ble_eq_true rfl, Nat.le_of_ble_eq_true rfl⟩) ?_
  refine lv_iload hx hb dL_law_279 (lv_at hl 4 rfl) ?_
  refine lv_if_ne (tgt := 288) hx hb dL_law_281 (by decide) (fun c_1 => ?_) (fun c_1 => absurd c_1 (nI_ne0 (Nat.pos_of_ne_zero hz) (h31 x1 h1)))
  refine lv_iconst (v := nI 0) hx hb dL_law_288 (by decide +kernel) ?_
  refine lv_icmp_eq (tgt := 294) hx hb dL_law_289 (by decide) (fun c_1 => ?_) (fun c_1 => absurd rfl c_1)
  refine lv_iload hx hb dL_law_294 (lv_at hl 4 rfl) ?_
  refine lv_if_ne (tgt := 329) hx hb dL_law_296 (by decide) (fun c_1 => ?_) (fun c_1 => absurd c_1 (nI_ne0 (Nat.pos_of_ne_zero hz) (h31 x1 h1)))
  refine lv_aload_n hx hb dL_law_329 rfl (lv_at hl 1 rfl) ?_
  refine lv_iload_n hx hb dL_law_330 rfl (lv_at hl 2 rfl) ?_
  refine lv_iload hx hb dL_law_331 (lv_at hl 4 rfl) ?_
  refine lv_aload_n hx hb dL_law_333 rfl (lv_at hl 1 rfl) ?_
  refine lv_iload_n hx hb dL_law_334 rfl (lv_at hl 2 rfl) ?_
  refine lv_iload hx hb dL_law_335 (lv_at hl 4 rfl) ?_
  refine nw_calli (W.runV (As := [.int (nI k), .int (nI x1)]) (rest := [.int (nI x1), .int (nI k), .ref h0]) ⟨hx, hb, hml, hown, hts⟩ (m1_inverse l D cA h0 fa g0 g1 k hk x1 h1 hz) (cwV 2 hts (lw_V q88 q89 q90 q4 q91) rfl rfl rfl (by decide +kernel) ⟨Nat.le_of_ble_eq_true rfl, Nat.le_of_ble_eq_true rfl⟩) ⟨nw_blind, hS.rcS, fun U hU hW => ⟨rfl, hS.at hU hW⟩⟩ rfl rfl hl.1 rfl (lv_room (Nat.le_of_ble_eq_true rfl)) dL_law_337 ⟨Nat.le_of_ble_eq_true rfl, Nat.le_of_ble_eq_true rfl⟩) ?_
  refine nw_calli (W.runV (As := [.int (nI k), .int (nI x1), .int (nI (gf_invK k x1))]) (rest := []) ⟨hx, hb, hml, hown, hts⟩ (m1_multiply l D cA h0 fa g0 g1 k hk x1 (gf_invK k x1) h1 (hinv x1 h1)) (cwV 3 hts (lw_V q40 q41 q42 q4 q43) rfl rfl rfl (by decide +kernel) ⟨Nat.le_of_ble_eq_true rfl, Nat.le_of_ble_eq_true rfl⟩) ⟨nw_blind, hS.rcS, fun U hU hW => ⟨rfl, hS.at hU hW⟩⟩ rfl rfl hl.1 rfl (lv_room (Nat.le_of_ble_eq_true rfl)) dL_law_340 ⟨Nat.le_of_ble_eq_true rfl, Nat.le_of_ble_eq_true rfl⟩) ?_
  refine lv_iconst (v := nI 1) hx hb dL_law_343 (by decide +kernel) ?_
  refine lv_icmp_ne (tgt := 372) hx hb dL_law_344 (by decide) (fun c_1 => absurd (show (nI (gf_mulK k x1 (gf_invK k x1))) = (nI 1) from congrArg nI (hio x1 h1 hz)) c_1) (fun c_1 => ?_)
  refine lv_aload_n hx hb dL_law_347 rfl (lv_at hl 1 rfl) ?_
  refine lv_iload_n hx hb dL_law_348 rfl (lv_at hl 2 rfl) ?_
  refine lv_aload_n hx hb dL_law_349 rfl (lv_at hl 1 rfl) ?_
  refine lv_iload_n hx hb dL_law_350 rfl (lv_at hl 2 rfl) ?_
  refine lv_iload hx hb dL_law_351 (lv_at hl 5 rfl) ?_
  refine lv_iload hx hb dL_law_353 (lv_at hl 4 rfl) ?_
  refine nw_calli (W.runV (As := [.int (nI k), .int (nI x2), .int (nI x1)]) (rest := [.int (nI k), .ref h0]) ⟨hx, hb, hml, hown, hts⟩ (m1_quotient l D cA h0 fa g0 g1 k hk x1 x2 h1 h2 hz) (cwV 3 hts (lw_V q136 q137 q138 q4 q139) rfl rfl rfl (by decide +kernel) ⟨Nat.le_of_ble_eq_true rfl, Nat.le_of_ble_eq_true rfl⟩) ⟨nw_blind, hS.rcS, fun U hU hW => ⟨rfl, hS.at hU hW⟩⟩ rfl rfl hl.1 rfl (lv_room (Nat.le_of_ble_eq_true rfl)) dL_law_355 ⟨Nat.le_of_ble_eq_true rfl, Nat.le_of_ble_eq_true rfl⟩) ?_
  refine lv_iload hx hb dL_law_358 (lv_at hl 4 rfl) ?_
  refine nw_calli (W.runV (As := [.int (nI k), .int (nI (gf_fracK k x1 x2)), .int (nI x1)]) (rest := []) ⟨hx, hb, hml, hown, hts⟩ (m1_multiply l D cA h0 fa g0 g1 k hk (gf_fracK k x1 x2) x1 (hfr x1 x2 h1 h2) h1) (cwV 3 hts (lw_V q40 q41 q42 q4 q43) rfl rfl rfl (by decide +kernel) ⟨Nat.le_of_ble_eq_true rfl, Nat.le_of_ble_eq_true rfl⟩) ⟨nw_blind, hS.rcS, fun U hU hW => ⟨rfl, hS.at hU hW⟩⟩ rfl rfl hl.1 rfl (lv_room (Nat.le_of_ble_eq_true rfl)) dL_law_360 ⟨Nat.le_of_ble_eq_true rfl, Nat.le_of_ble_eq_true rfl⟩) ?_
  refine lv_iload hx hb dL_law_363 (lv_at hl 5 rfl) ?_
  refine lv_icmp_ne (tgt := 372) hx hb dL_law_365 (by decide) (fun c_1 => absurd (show (nI (gf_mulK k (gf_fracK k x1 x2) x1)) = (nI x2) from congrArg nI (hqo x1 x2 h1 h2 hz)) c_1) (fun c_1 => ?_)
  refine lv_iconst (v := nI 1) hx hb dL_law_368 (by decide +kernel) ?_
  refine lv_goto (tgt := 373) hx hb dL_law_369 (by decide) ?_
  exact lw_ret hx hb hr hlocks dL_law_373
set_option maxHeartbeats 4000000 in
set_option maxRecDepth 100000 in
/-- from 161 -/
theorem law_c {p : Program} {l : Launch} {e : Env} {s : State} {m : MethodId} {below : List Frame} {meth : Method} {c : Code} {H : Heap} {bs : Nat} {D : va_G} {cA : ClassId} {h0 fa g0 g1 : Nat} (hx : p.tables.exec = Jvm.exec) (hb : c.code = cL_law) (hr : meth.sig.returnType = ret) (hlocks : meth.locks = false) (hml : c.maxLocals = 8) (hown : s.vm.findClass R_law = some m.cls) (hts : ∀ w ∈ lw_all, w.before #[Value.ref bs] s = true) (hS : nw_S D cA h0 fa g0 g1 s H) {k : Nat} (hk : k < 2) {x1 x2 x3 : Nat} (h1 : x1 < 2 ^ (12 + k)) (h2 : x2 < 2 ^ (12 + k)) (h3 : x3 < 2 ^ (12 + k)) (ls : Array Slot) (hl : lv_has ls 8 [(0, .ref bs), (1, .ref h0), (2, .int (nI k)), (3, .int (nI (2 ^ (12 + k) - 1))), (4, .int (nI x1)), (5, .int (nI x2)), (6, .int (nI x3))]) : W p l e room_1 s m #[Value.ref bs] below meth c H [] 600000 7290000 (lw_Z below #[Value.ref bs] s) (F0 m 161 ls []) := by
  obtain ⟨hR, hone, hsq, hinv, hfr, hio, hqo⟩ := gf_facts hk (12 + k) rfl
  have hR0 := hR
  obtain ⟨hlx, hly, hlt, hcm, has⟩ := hR0
  have h31 : ∀ z, z < 2 ^ (12 + k) → z < 2 ^ 31 := fun z h => gf_up h (by omega)
  refine lv_aload_n hx hb dL_law_161 rfl (lv_at hl 1 rfl) ?_
  refine lv_iload_n hx hb dL_law_162 rfl (lv_at hl 2 rfl) ?_
  refine lv_iload hx hb dL_law_163 (lv_at hl 4 rfl) ?_
  refine nw_calli (W.runV (As := [.int (nI k), .int (nI x1)]) (rest := []) ⟨hx, hb, hml, hown, hts⟩ (m1_square l D cA h0 fa g0 g1 k hk x1 h1) (cwV 2 hts (lw_V q66 q67 q68 q4 q69) rfl rfl rfl (by decide +kernel) ⟨Nat.le_of_ble_eq_true rfl, Nat.le_of_ble_eq_true rfl⟩) ⟨nw_blind, hS.rcS, fun U hU hW => ⟨rfl, hS.at hU hW⟩⟩ rfl rfl hl.1 rfl (lv_room (Nat.le_of_ble_eq_true rfl)) dL_law_165 ⟨Nat.le_of_ble_eq_true rfl, Nat.le_of_ble_eq_true rfl⟩) ?_
  refine lv_aload_n hx hb dL_law_168 rfl (lv_at hl 1 rfl) ?_
  refine lv_iload_n hx hb dL_law_169 rfl (lv_at hl 2 rfl) ?_
  refine lv_iload hx hb dL_law_170 (lv_at hl 4 rfl) ?_
  refine lv_iload hx hb dL_law_172 (lv_at hl 4 rfl) ?_
  refine nw_calli (W.runV (As := [.int (nI k), .int (nI x1), .int (nI x1)]) (rest := [.int (nI (gf_sqK k x1))]) ⟨hx, hb, hml, hown, hts⟩ (m1_multiply l D cA h0 fa g0 g1 k hk x1 x1 h1 h1) (cwV 3 hts (lw_V q40 q41 q42 q4 q43) rfl rfl rfl (by decide +kernel) ⟨Nat.le_of_ble_eq_true rfl, Nat.le_of_ble_eq_true rfl⟩) ⟨nw_blind, hS.rcS, fun U hU hW => ⟨rfl, hS.at hU hW⟩⟩ rfl rfl hl.1 rfl (lv_room (Nat.le_of_ble_eq_true rfl)) dL_law_174 ⟨Nat.le_of_ble_eq_true rfl, Nat.le_of_ble_eq_true rfl⟩) ?_
  refine lv_icmp_ne (tgt := 197) hx hb dL_law_177 (by decide) (fun c_1 => absurd (show (nI (gf_sqK k x1)) = (nI (gf_mulK k x1 x1)) from congrArg nI (hsq x1 h1)) c_1) (fun c_1 => ?_)
  refine lv_aload_n hx hb dL_law_180 rfl (lv_at hl 1 rfl) ?_
  refine lv_iload_n hx hb dL_law_181 rfl (lv_at hl 2 rfl) ?_
  refine lv_iload hx hb dL_law_182 (lv_at hl 4 rfl) ?_
  refine nw_calli (W.runV (As := [.int (nI k), .int (nI x1)]) (rest := []) ⟨hx, hb, hml, hown, hts⟩ (m1_wide l D cA h0 fa g0 g1 k hk x1 h1) (cwV 2 hts (lw_V q166 q167 q168 q4 q169) rfl rfl rfl (by decide +kernel) ⟨Nat.le_of_ble_eq_true rfl, Nat.le_of_ble_eq_true rfl⟩) ⟨nw_blind, hS.rcS, fun U hU hW => ⟨rfl, hS.at hU hW⟩⟩ rfl rfl hl.1 rfl (lv_room (Nat.le_of_ble_eq_true rfl)) dL_law_184 ⟨Nat.le_of_ble_eq_true rfl, Nat.le_of_ble_eq_true rfl⟩) ?_
  refine lv_aload_n hx hb dL_law_187 rfl (lv_at hl 1 rfl) ?_
  refine lv_iload_n hx hb dL_law_188 rfl (lv_at hl 2 rfl) ?_
  refine lv_iload hx hb dL_law_189 (lv_at hl 4 rfl) ?_
  refine nw_calli (W.runV (As := [.int (nI k), .int (nI x1)]) (rest := [.int (nI (gf_sqK k x1))]) ⟨hx, hb, hml, hown, hts⟩ (m1_square l D cA h0 fa g0 g1 k hk x1 h1) (cwV 2 hts (lw_V q66 q67 q68 q4 q69) rfl rfl rfl (by decide +kernel) ⟨Nat.le_of_ble_eq_true rfl, Nat.le_of_ble_eq_true rfl⟩) ⟨nw_blind, hS.rcS, fun U hU hW => ⟨rfl, hS.at hU hW⟩⟩ rfl rfl hl.1 rfl (lv_room (Nat.le_of_ble_eq_true rfl)) dL_law_191 ⟨Nat.le_of_ble_eq_true rfl, Nat.le_of_ble_eq_true rfl⟩) ?_
  refine lv_icmp_eq (tgt := 199) hx hb dL_law_194 (by decide) (fun c_1 => ?_) (fun c_1 => absurd rfl c_1)
  refine lv_aload_n hx hb dL_law_199 rfl (lv_at hl 1 rfl) ?_
  refine lv_iload_n hx hb dL_law_200 rfl (lv_at hl 2 rfl) ?_
  refine lv_iload hx hb dL_law_201 (lv_at hl 4 rfl) ?_
  refine lv_iload hx hb dL_law_203 (lv_at hl 5 rfl) ?_
  refine nw_wxor hx hb dL_law_205 ?_
  refine nw_calli (W.runV (As := [.int (nI k), .int (nI (x1 ^^^ x2))]) (rest := []) ⟨hx, hb, hml, hown, hts⟩ (m1_square l D cA h0 fa g0 g1 k hk (x1 ^^^ x2) (Nat.xor_lt_two_pow h1 h2)) (cwV 2 hts (lw_V q66 q67 q68 q4 q69) rfl rfl rfl (by decide +kernel) ⟨Nat.le_of_ble_eq_true rfl, Nat.le_of_ble_eq_true rfl⟩) ⟨nw_blind, hS.rcS, fun U hU hW => ⟨rfl, hS.at hU hW⟩⟩ rfl rfl hl.1 rfl (lv_room (Nat.le_of_ble_eq_true rfl)) dL_law_206 ⟨Nat.le_of_ble_eq_true rfl, Nat.le_of_ble_eq_true rfl⟩) ?_
  refine lv_aload_n hx hb dL_law_209 rfl (lv_at hl 1 rfl) ?_
  refine lv_iload_n hx hb dL_law_210 rfl (lv_at hl 2 rfl) ?_
  refine lv_iload hx hb dL_law_211 (lv_at hl 4 rfl) ?_
  refine nw_calli (W.runV (As := [.int (nI k), .int (nI x1)]) (rest := [.int (nI (gf_sqK k (x1 ^^^ x2)))]) ⟨hx, hb, hml, hown, hts⟩ (m1_square l D cA h0 fa g0 g1 k hk x1 h1) (cwV 2 hts (lw_V q66 q67 q68 q4 q69) rfl rfl rfl (by decide +kernel) ⟨Nat.le_of_ble_eq_true rfl, Nat.le_of_ble_eq_true rfl⟩) ⟨nw_blind, hS.rcS, fun U hU hW => ⟨rfl, hS.at hU hW⟩⟩ rfl rfl hl.1 rfl (lv_room (Nat.le_of_ble_eq_true rfl)) dL_law_213 ⟨Nat.le_of_ble_eq_true rfl, Nat.le_of_ble_eq_true rfl⟩) ?_
  refine lv_aload_n hx hb dL_law_216 rfl (lv_at hl 1 rfl) ?_
  refine lv_iload_n hx hb dL_law_217 rfl (lv_at hl 2 rfl) ?_
  refine lv_iload hx hb dL_law_218 (lv_at hl 5 rfl) ?_
  refine nw_calli (W.runV (As := [.int (nI k), .int (nI x2)]) (rest := [.int (nI (gf_sqK k x1)), .int (nI (gf_sqK k (x1 ^^^ x2)))]) ⟨hx, hb, hml, hown, hts⟩ (m1_square l D cA h0 fa g0 g1 k hk x2 h2) (cwV 2 hts (lw_V q66 q67 q68 q4 q69) rfl rfl rfl (by decide +kernel) ⟨Nat.le_of_ble_eq_true rfl, Nat.le_of_ble_eq_true rfl⟩) ⟨nw_blind, hS.rcS, fun U hU hW => ⟨rfl, hS.at hU hW⟩⟩ rfl rfl hl.1 rfl (lv_room (Nat.le_of_ble_eq_true rfl)) dL_law_220 ⟨Nat.le_of_ble_eq_true rfl, Nat.le_of_ble_eq_true rfl⟩) ?_
  refine nw_wxor hx hb dL_law_223 ?_
  refine lv_icmp_eq (tgt := 229) hx hb dL_law_224 (by decide) (fun c_1 => ?_) (fun c_1 => absurd (show (nI (gf_sqK k (x1 ^^^ x2))) = (nI ((gf_sqK k x1) ^^^ (gf_sqK k x2))) from congrArg nI (by rw [hsq _ (Nat.xor_lt_two_pow h1 h2), hsq x1 h1, hsq x2 h2]; exact hR.sq h1 h2)) c_1)
  refine lv_aload_n hx hb dL_law_229 rfl (lv_at hl 1 rfl) ?_
  refine lv_iload_n hx hb dL_law_230 rfl (lv_at hl 2 rfl) ?_
  refine lv_iload hx hb dL_law_231 (lv_at hl 4 rfl) ?_
  refine lv_iload hx hb dL_law_233 (lv_at hl 5 rfl) ?_
  refine lv_iload hx hb dL_law_235 (lv_at hl 4 rfl) ?_
  refine lv_iload hx hb dL_law_237 (lv_at hl 6 rfl) ?_
  refine nw_calli (W.runV (As := [.int (nI k), .int (nI x1), .int (nI x2), .int (nI x1), .int (nI x3)]) (rest := []) ⟨hx, hb, hml, hown, hts⟩ (m1_product l D cA h0 fa g0 g1 k hk x1 x2 x1 x3 h1 h2 h1 h3) (cwV 5 hts (lw_V q148 q149 q150 q4 q151) rfl rfl rfl (by decide +kernel) ⟨Nat.le_of_ble_eq_true rfl, Nat.le_of_ble_eq_true rfl⟩) ⟨nw_blind, hS.rcS, fun U hU hW => ⟨rfl, hS.at hU hW⟩⟩ rfl rfl hl.1 rfl (lv_room (Nat.le_of_ble_eq_true rfl)) dL_law_239 ⟨Nat.le_of_ble_eq_true rfl, Nat.le_of_ble_eq_true rfl⟩) ?_
  refine lv_aload_n hx hb dL_law_242 rfl (lv_at hl 1 rfl) ?_
  refine lv_iload_n hx hb dL_law_243 rfl (lv_at hl 2 rfl) ?_
  refine lv_iload hx hb dL_law_244 (lv_at hl 4 rfl) ?_
  refine lv_iload hx hb dL_law_246 (lv_at hl 5 rfl) ?_
  refine lv_iload hx hb dL_law_248 (lv_at hl 6 rfl) ?_
  refine nw_wxor hx hb dL_law_250 ?_
  refine nw_calli (W.runV (As := [.int (nI k), .int (nI x1), .int (nI (x2 ^^^ x3))]) (rest := [.int (nI (gf_mulK k x1 x2 ^^^ gf_mulK k x1 x3))]) ⟨hx, hb, hml, hown, hts⟩ (m1_multiply l D cA h0 fa g0 g1 k hk x1 (x2 ^^^ x3) h1 (Nat.xor_lt_two_pow h2 h3)) (cwV 3 hts (lw_V q40 q41 q42 q4 q43) rfl rfl rfl (by decide +kernel) ⟨Nat.le_of_ble_eq_true rfl, Nat.le_of_ble_eq_true rfl⟩) ⟨nw_blind, hS.rcS, fun U hU hW => ⟨rfl, hS.at hU hW⟩⟩ rfl rfl hl.1 rfl (lv_room (Nat.le_of_ble_eq_true rfl)) dL_law_251 ⟨Nat.le_of_ble_eq_true rfl, Nat.le_of_ble_eq_true rfl⟩) ?_
  refine lv_icmp_eq (tgt := 259) hx hb dL_law_254 (by decide) (fun c_1 => ?_) (fun c_1 => absurd (show (nI (gf_mulK k x1 x2 ^^^ gf_mulK k x1 x3)) = (nI (gf_mulK k x1 (x2 ^^^ x3))) from congrArg nI (hly x1 x2 x3).symm) c_1)
  refine lv_aload_n hx hb dL_law_259 rfl (lv_at hl 1 rfl) ?_
  refine lv_iload_n hx hb dL_law_260 rfl (lv_at hl 2 rfl) ?_
  refine lv_iload hx hb dL_law_261 (lv_at hl 4 rfl) ?_
  refine lv_iconst (v := nI 1) hx hb dL_law_263 (by decide +kernel) ?_
  refine nw_calli (W.runV (As := [.int (nI k), .int (nI x1), .int (nI 1)]) (rest := []) ⟨hx, hb, hml, hown, hts⟩ (m1_multiply l D cA h0 fa g0 g1 k hk x1 1 h1 (Nat.one_lt_two_pow (by omega))) (cwV 3 hts (lw_V q40 q41 q42 q4 q43) rfl rfl rfl (by decide +kernel) ⟨Nat.le_of_ble_eq_true rfl, Nat.le_of_ble_eq_true rfl⟩) ⟨nw_blind, hS.rcS, fun U hU hW => ⟨rfl, hS.at hU hW⟩⟩ rfl rfl hl.1 rfl (lv_room (Nat.le_of_ble_eq_true rfl)) dL_law_264 ⟨Nat.le_of_ble_eq_true rfl, Nat.le_of_ble_eq_true rfl⟩) ?_
  refine lv_iload hx hb dL_law_267 (lv_at hl 4 rfl) ?_
  refine lv_icmp_ne (tgt := 292) hx hb dL_law_269 (by decide) (fun c_1 => absurd (show (nI (gf_mulK k x1 1)) = (nI x1) from congrArg nI (hone x1 h1)) c_1) (fun c_1 => ?_)
  by_cases hz : x1 = 0
  · subst hz
    exact law_d0 hx hb hr hlocks hml hown hts hS hk h2 h3 ls (lv_sub hl [0, 1, 2, 3, 4, 5, 6] rfl)
  · exact law_d1 hx hb hr hlocks hml hown hts hS hk h1 h2 h3 hz ls (lv_sub hl [0, 1, 2, 3, 4, 5, 6] rfl)
set_option maxHeartbeats 4000000 in
set_option maxRecDepth 100000 in
/-- from 57 -/
theorem law_b {p : Program} {l : Launch} {e : Env} {s : State} {m : MethodId} {below : List Frame} {meth : Method} {c : Code} {H : Heap} {bs : Nat} {D : va_G} {cA : ClassId} {h0 fa g0 g1 : Nat} (hx : p.tables.exec = Jvm.exec) (hb : c.code = cL_law) (hr : meth.sig.returnType = ret) (hlocks : meth.locks = false) (hml : c.maxLocals = 8) (hown : s.vm.findClass R_law = some m.cls) (hts : ∀ w ∈ lw_all, w.before #[Value.ref bs] s = true) (hS : nw_S D cA h0 fa g0 g1 s H) {k : Nat} (hk : k < 2) {x1 x2 x3 : Nat} (h1 : x1 < 2 ^ (12 + k)) (h2 : x2 < 2 ^ (12 + k)) (h3 : x3 < 2 ^ (12 + k)) (ls : Array Slot) (hl : lv_has ls 8 [(0, .ref bs), (1, .ref h0), (2, .int (nI k)), (3, .int (nI (2 ^ (12 + k) - 1))), (4, .int (nI x1)), (5, .int (nI x2)), (6, .int (nI x3))]) : W p l e room_1 s m #[Value.ref bs] below meth c H [] 600000 7290000 (lw_Z below #[Value.ref bs] s) (F0 m 57 ls []) := by
  obtain ⟨hR, hone, hsq, hinv, hfr, hio, hqo⟩ := gf_facts hk (12 + k) rfl
  have hR0 := hR
  obtain ⟨hlx, hly, hlt, hcm, has⟩ := hR0
  have h31 : ∀ z, z < 2 ^ (12 + k) → z < 2 ^ 31 := fun z h => gf_up h (by omega)
  refine lv_aload_n hx hb dL_law_57 rfl (lv_at hl 1 rfl) ?_
  refine lv_iload_n hx hb dL_law_58 rfl (lv_at hl 2 rfl) ?_
  refine lv_iload hx hb dL_law_59 (lv_at hl 4 rfl) ?_
  refine lv_iload hx hb dL_law_61 (lv_at hl 5 rfl) ?_
  refine nw_calli (W.runV (As := [.int (nI k), .int (nI x1), .int (nI x2)]) (rest := []) ⟨hx, hb, hml, hown, hts⟩ (m1_multiply l D cA h0 fa g0 g1 k hk x1 x2 h1 h2) (cwV 3 hts (lw_V q40 q41 q42 q4 q43) rfl rfl rfl (by decide +kernel) ⟨Nat.le_of_ble_eq_true rfl, Nat.le_of_ble_eq_true rfl⟩) ⟨nw_blind, hS.rcS, fun U hU hW => ⟨rfl, hS.at hU hW⟩⟩ rfl rfl hl.1 rfl (lv_room (Nat.le_of_ble_eq_true rfl)) dL_law_63 ⟨Nat.le_of_ble_eq_true rfl, Nat.le_of_ble_eq_true rfl⟩) ?_
  refine nw_topi (fun v1 ev1 => ?_)
  have hv1 : v1 < 2 ^ (12 + k) := by rw [ev1]; exact hlt x1 x2 h1
  refine lv_istore (lv' := [(7, .int (nI v1)), (0, .ref bs), (1, .ref h0), (2, .int (nI k)), (3, .int (nI (2 ^ (12 + k) - 1))), (4, .int (nI x1)), (5, .int (nI x2)), (6, .int (nI x3))]) hx hb dL_law_66 hl (by decide) rfl (fun ls hl => ?_)
  refine lv_iload hx hb dL_law_68 (lv_at hl 0 rfl) ?_
  refine lv_if_lt (tgt := 93) hx hb dL_law_70 (by decide) (fun c_1 => absurd c_1 (nI_pos (h31 v1 hv1))) (fun c_1 => ?_)
  refine lv_iload hx hb dL_law_73 (lv_at hl 0 rfl) ?_
  refine lv_iload_n hx hb dL_law_75 rfl (lv_at hl 4 rfl) ?_
  have hM : 2 ^ (12 + k) - 1 < 2 ^ 31 := h31 _ (Nat.sub_lt (Nat.two_pow_pos _) (by decide))
  refine lv_icmp_gt (tgt := 93) hx hb dL_law_76 (by decide) (fun c_1 => absurd c_1 (nI_nlt (Nat.le_sub_one_of_lt hv1) hM)) (fun c_1 => ?_)
  refine lv_iload hx hb dL_law_79 (lv_at hl 0 rfl) ?_
  refine lv_aload_n hx hb dL_law_81 rfl (lv_at hl 2 rfl) ?_
  refine lv_iload_n hx hb dL_law_82 rfl (lv_at hl 3 rfl) ?_
  refine lv_iload hx hb dL_law_83 (lv_at hl 6 rfl) ?_
  refine lv_iload hx hb dL_law_85 (lv_at hl 5 rfl) ?_
  refine nw_calli (W.runV (As := [.int (nI k), .int (nI x2), .int (nI x1)]) (rest := [.int (nI v1)]) ⟨hx, hb, hml, hown, hts⟩ (m1_multiply l D cA h0 fa g0 g1 k hk x2 x1 h2 h1) (cwV 3 hts (lw_V q40 q41 q42 q4 q43) rfl rfl rfl (by decide +kernel) ⟨Nat.le_of_ble_eq_true rfl, Nat.le_of_ble_eq_true rfl⟩) ⟨nw_blind, hS.rcS, fun U hU hW => ⟨rfl, hS.at hU hW⟩⟩ rfl rfl hl.1 rfl (lv_room (Nat.le_of_ble_eq_true rfl)) dL_law_87 ⟨Nat.le_of_ble_eq_true rfl, Nat.le_of_ble_eq_true rfl⟩) ?_
  refine lv_icmp_eq (tgt := 95) hx hb dL_law_90 (by decide) (fun c_1 => ?_) (fun c_1 => absurd (show (nI v1) = (nI (gf_mulK k x2 x1)) from congrArg nI (ev1.trans (hcm x1 x2 h1 h2))) c_1)
  refine lv_aload_n hx hb dL_law_95 rfl (lv_at hl 2 rfl) ?_
  refine lv_iload_n hx hb dL_law_96 rfl (lv_at hl 3 rfl) ?_
  refine lv_iload hx hb dL_law_97 (lv_at hl 0 rfl) ?_
  refine lv_iload hx hb dL_law_99 (lv_at hl 7 rfl) ?_
  refine nw_calli (W.runV (As := [.int (nI k), .int (nI v1), .int (nI x3)]) (rest := []) ⟨hx, hb, hml, hown, hts⟩ (m1_multiply l D cA h0 fa g0 g1 k hk v1 x3 hv1 h3) (cwV 3 hts (lw_V q40 q41 q42 q4 q43) rfl rfl rfl (by decide +kernel) ⟨Nat.le_of_ble_eq_true rfl, Nat.le_of_ble_eq_true rfl⟩) ⟨nw_blind, hS.rcS, fun U hU hW => ⟨rfl, hS.at hU hW⟩⟩ rfl rfl hl.1 rfl (lv_room (Nat.le_of_ble_eq_true rfl)) dL_law_101 ⟨Nat.le_of_ble_eq_true rfl, Nat.le_of_ble_eq_true rfl⟩) ?_
  refine lv_aload_n hx hb dL_law_104 rfl (lv_at hl 2 rfl) ?_
  refine lv_iload_n hx hb dL_law_105 rfl (lv_at hl 3 rfl) ?_
  refine lv_iload hx hb dL_law_106 (lv_at hl 5 rfl) ?_
  refine lv_aload_n hx hb dL_law_108 rfl (lv_at hl 2 rfl) ?_
  refine lv_iload_n hx hb dL_law_109 rfl (lv_at hl 3 rfl) ?_
  refine lv_iload hx hb dL_law_110 (lv_at hl 6 rfl) ?_
  refine lv_iload hx hb dL_law_112 (lv_at hl 7 rfl) ?_
  refine nw_calli (W.runV (As := [.int (nI k), .int (nI x2), .int (nI x3)]) (rest := [.int (nI x1), .int (nI k), .ref h0, .int (nI (gf_mulK k v1 x3))]) ⟨hx, hb, hml, hown, hts⟩ (m1_multiply l D cA h0 fa g0 g1 k hk x2 x3 h2 h3) (cwV 3 hts (lw_V q40 q41 q42 q4 q43) rfl rfl rfl (by decide +kernel) ⟨Nat.le_of_ble_eq_true rfl, Nat.le_of_ble_eq_true rfl⟩) ⟨nw_blind, hS.rcS, fun U hU hW => ⟨rfl, hS.at hU hW⟩⟩ rfl rfl hl.1 rfl (lv_room (Nat.le_of_ble_eq_true rfl)) dL_law_114 ⟨Nat.le_of_ble_eq_true rfl, Nat.le_of_ble_eq_true rfl⟩) ?_
  refine nw_calli (W.runV (As := [.int (nI k), .int (nI x1), .int (nI (gf_mulK k x2 x3))]) (rest := [.int (nI (gf_mulK k v1 x3))]) ⟨hx, hb, hml, hown, hts⟩ (m1_multiply l D cA h0 fa g0 g1 k hk x1 (gf_mulK k x2 x3) h1 (hlt x2 x3 h2)) (cwV 3 hts (lw_V q40 q41 q42 q4 q43) rfl rfl rfl (by decide +kernel) ⟨Nat.le_of_ble_eq_true rfl, Nat.le_of_ble_eq_true rfl⟩) ⟨nw_blind, hS.rcS, fun U hU hW => ⟨rfl, hS.at hU hW⟩⟩ rfl rfl hl.1 rfl (lv_room (Nat.le_of_ble_eq_true rfl)) dL_law_117 ⟨Nat.le_of_ble_eq_true rfl, Nat.le_of_ble_eq_true rfl⟩) ?_
  refine lv_icmp_eq (tgt := 125) hx hb dL_law_120 (by decide) (fun c_1 => ?_) (fun c_1 => absurd (show (nI (gf_mulK k v1 x3)) = (nI (gf_mulK k x1 (gf_mulK k x2 x3))) from congrArg nI (by rw [ev1]; exact has x1 x2 x3 h1 h2 h3)) c_1)
  refine lv_aload_n hx hb dL_law_125 rfl (lv_at hl 2 rfl) ?_
  refine lv_iload_n hx hb dL_law_126 rfl (lv_at hl 3 rfl) ?_
  refine lv_iload hx hb dL_law_127 (lv_at hl 5 rfl) ?_
  refine lv_iload hx hb dL_law_129 (lv_at hl 6 rfl) ?_
  refine nw_wxor hx hb dL_law_131 ?_
  refine lv_iload hx hb dL_law_132 (lv_at hl 7 rfl) ?_
  refine nw_calli (W.runV (As := [.int (nI k), .int (nI (x1 ^^^ x2)), .int (nI x3)]) (rest := []) ⟨hx, hb, hml, hown, hts⟩ (m1_multiply l D cA h0 fa g0 g1 k hk (x1 ^^^ x2) x3 (Nat.xor_lt_two_pow h1 h2) h3) (cwV 3 hts (lw_V q40 q41 q42 q4 q43) rfl rfl rfl (by decide +kernel) ⟨Nat.le_of_ble_eq_true rfl, Nat.le_of_ble_eq_true rfl⟩) ⟨nw_blind, hS.rcS, fun U hU hW => ⟨rfl, hS.at hU hW⟩⟩ rfl rfl hl.1 rfl (lv_room (Nat.le_of_ble_eq_true rfl)) dL_law_134 ⟨Nat.le_of_ble_eq_true rfl, Nat.le_of_ble_eq_true rfl⟩) ?_
  refine lv_aload_n hx hb dL_law_137 rfl (lv_at hl 2 rfl) ?_
  refine lv_iload_n hx hb dL_law_138 rfl (lv_at hl 3 rfl) ?_
  refine lv_iload hx hb dL_law_139 (lv_at hl 5 rfl) ?_
  refine lv_iload hx hb dL_law_141 (lv_at hl 7 rfl) ?_
  refine nw_calli (W.runV (As := [.int (nI k), .int (nI x1), .int (nI x3)]) (rest := [.int (nI (gf_mulK k (x1 ^^^ x2) x3))]) ⟨hx, hb, hml, hown, hts⟩ (m1_multiply l D cA h0 fa g0 g1 k hk x1 x3 h1 h3) (cwV 3 hts (lw_V q40 q41 q42 q4 q43) rfl rfl rfl (by decide +kernel) ⟨Nat.le_of_ble_eq_true rfl, Nat.le_of_ble_eq_true rfl⟩) ⟨nw_blind, hS.rcS, fun U hU hW => ⟨rfl, hS.at hU hW⟩⟩ rfl rfl hl.1 rfl (lv_room (Nat.le_of_ble_eq_true rfl)) dL_law_143 ⟨Nat.le_of_ble_eq_true rfl, Nat.le_of_ble_eq_true rfl⟩) ?_
  refine lv_aload_n hx hb dL_law_146 rfl (lv_at hl 2 rfl) ?_
  refine lv_iload_n hx hb dL_law_147 rfl (lv_at hl 3 rfl) ?_
  refine lv_iload hx hb dL_law_148 (lv_at hl 6 rfl) ?_
  refine lv_iload hx hb dL_law_150 (lv_at hl 7 rfl) ?_
  refine nw_calli (W.runV (As := [.int (nI k), .int (nI x2), .int (nI x3)]) (rest := [.int (nI (gf_mulK k x1 x3)), .int (nI (gf_mulK k (x1 ^^^ x2) x3))]) ⟨hx, hb, hml, hown, hts⟩ (m1_multiply l D cA h0 fa g0 g1 k hk x2 x3 h2 h3) (cwV 3 hts (lw_V q40 q41 q42 q4 q43) rfl rfl rfl (by decide +kernel) ⟨Nat.le_of_ble_eq_true rfl, Nat.le_of_ble_eq_true rfl⟩) ⟨nw_blind, hS.rcS, fun U hU hW => ⟨rfl, hS.at hU hW⟩⟩ rfl rfl hl.1 rfl (lv_room (Nat.le_of_ble_eq_true rfl)) dL_law_152 ⟨Nat.le_of_ble_eq_true rfl, Nat.le_of_ble_eq_true rfl⟩) ?_
  refine nw_wxor hx hb dL_law_155 ?_
  refine lv_icmp_eq (tgt := 161) hx hb dL_law_156 (by decide) (fun c_1 => ?_) (fun c_1 => absurd (show (nI (gf_mulK k (x1 ^^^ x2) x3)) = (nI ((gf_mulK k x1 x3) ^^^ (gf_mulK k x2 x3))) from congrArg nI (hlx x3 x1 x2)) c_1)
  exact law_c hx hb hr hlocks hml hown hts hS hk h1 h2 h3 ls (lv_sub hl [1, 2, 3, 4, 5, 6, 7] rfl)
set_option maxHeartbeats 4000000 in
set_option maxRecDepth 100000 in
/-- from 30 -/
theorem law_a {p : Program} {l : Launch} {e : Env} {s : State} {m : MethodId} {below : List Frame} {meth : Method} {c : Code} {H : Heap} {bs : Nat} {D : va_G} {cA : ClassId} {h0 fa g0 g1 : Nat} (hx : p.tables.exec = Jvm.exec) (hb : c.code = cL_law) (hr : meth.sig.returnType = ret) (hlocks : meth.locks = false) (hml : c.maxLocals = 8) (hown : s.vm.findClass R_law = some m.cls) (hts : ∀ w ∈ lw_all, w.before #[Value.ref bs] s = true) (hS : nw_S D cA h0 fa g0 g1 s H) {k : Nat} (hk : k < 2) {L : Nat} {xs : Nat → Int32} (hL : L ≤ 4) (hX : va_X bs L xs s H) (ls : Array Slot) (hl : lv_has ls 8 [(0, .ref bs), (1, .ref h0), (2, .int (nI k)), (3, .int (nI (2 ^ (12 + k) - 1)))]) : W p l e room_1 s m #[Value.ref bs] below meth c H [] 600000 7290000 (lw_Z below #[Value.ref bs] s) (F0 m 30 ls []) := by
  have hM : (nI (2 ^ (12 + k) - 1)).toBitVec.toNat = 2 ^ (12 + k) - 1 := pk_tn (gf_up (n := 12 + k) (Nat.sub_lt (Nat.two_pow_pos _) (by decide)) (by omega))
  obtain ⟨x1, h1, e1⟩ := pk_andE (nw_cl L xs 1) (12 + k) hM
  obtain ⟨x2, h2, e2⟩ := pk_andE (nw_cl L xs 2) (12 + k) hM
  obtain ⟨x3, h3, e3⟩ := pk_andE (nw_cl L xs 3) (12 + k) hM
  refine lv_aload_n hx hb dL_law_30 rfl (lv_at hl 0 rfl) ?_
  refine lv_iconst (v := nI 1) hx hb dL_law_31 (by decide +kernel) ?_
  refine nw_calli (W.runS (As := [.ref bs, .int (nI 1)]) (rest := []) ⟨hx, hb, hml, hown, hts⟩ (m0_cell l bs L xs 1 hL (by decide)) (va_cwS 2 hts (lw_S q189 q190 q3 q191) rfl rfl rfl (by decide +kernel) ⟨Nat.le_of_ble_eq_true rfl, Nat.le_of_ble_eq_true rfl⟩) ⟨fun a U g mk q => ⟨q.1, va_X.moved (u := U) (U := U.calling g mk a) (Vm.Alike.refl U.vm) q.2⟩, fun U hU hW => ⟨rfl, va_X.moved hW.alike (by rw [hU]; exact hX)⟩⟩ rfl rfl hl.1 rfl (lv_room (Nat.le_of_ble_eq_true rfl)) dL_law_32 ⟨Nat.le_of_ble_eq_true rfl, Nat.le_of_ble_eq_true rfl⟩) ?_
  refine lv_iload_n hx hb dL_law_35 rfl (lv_at hl 3 rfl) ?_
  refine lv_iand hx hb dL_law_36 ?_
  refine nw_raw e1 ?_
  refine lv_istore (lv' := [(4, .int (nI x1)), (0, .ref bs), (1, .ref h0), (2, .int (nI k)), (3, .int (nI (2 ^ (12 + k) - 1)))]) hx hb dL_law_37 hl (by decide) rfl (fun ls hl => ?_)
  refine lv_aload_n hx hb dL_law_39 rfl (lv_at hl 1 rfl) ?_
  refine lv_iconst (v := nI 2) hx hb dL_law_40 (by decide +kernel) ?_
  refine nw_calli (W.runS (As := [.ref bs, .int (nI 2)]) (rest := []) ⟨hx, hb, hml, hown, hts⟩ (m0_cell l bs L xs 2 hL (by decide)) (va_cwS 2 hts (lw_S q189 q190 q3 q191) rfl rfl rfl (by decide +kernel) ⟨Nat.le_of_ble_eq_true rfl, Nat.le_of_ble_eq_true rfl⟩) ⟨fun a U g mk q => ⟨q.1, va_X.moved (u := U) (U := U.calling g mk a) (Vm.Alike.refl U.vm) q.2⟩, fun U hU hW => ⟨rfl, va_X.moved hW.alike (by rw [hU]; exact hX)⟩⟩ rfl rfl hl.1 rfl (lv_room (Nat.le_of_ble_eq_true rfl)) dL_law_41 ⟨Nat.le_of_ble_eq_true rfl, Nat.le_of_ble_eq_true rfl⟩) ?_
  refine lv_iload_n hx hb dL_law_44 rfl (lv_at hl 4 rfl) ?_
  refine lv_iand hx hb dL_law_45 ?_
  refine nw_raw e2 ?_
  refine lv_istore (lv' := [(5, .int (nI x2)), (4, .int (nI x1)), (0, .ref bs), (1, .ref h0), (2, .int (nI k)), (3, .int (nI (2 ^ (12 + k) - 1)))]) hx hb dL_law_46 hl (by decide) rfl (fun ls hl => ?_)
  refine lv_aload_n hx hb dL_law_48 rfl (lv_at hl 2 rfl) ?_
  refine lv_iconst (v := nI 3) hx hb dL_law_49 (by decide +kernel) ?_
  refine nw_calli (W.runS (As := [.ref bs, .int (nI 3)]) (rest := []) ⟨hx, hb, hml, hown, hts⟩ (m0_cell l bs L xs 3 hL (by decide)) (va_cwS 2 hts (lw_S q189 q190 q3 q191) rfl rfl rfl (by decide +kernel) ⟨Nat.le_of_ble_eq_true rfl, Nat.le_of_ble_eq_true rfl⟩) ⟨fun a U g mk q => ⟨q.1, va_X.moved (u := U) (U := U.calling g mk a) (Vm.Alike.refl U.vm) q.2⟩, fun U hU hW => ⟨rfl, va_X.moved hW.alike (by rw [hU]; exact hX)⟩⟩ rfl rfl hl.1 rfl (lv_room (Nat.le_of_ble_eq_true rfl)) dL_law_50 ⟨Nat.le_of_ble_eq_true rfl, Nat.le_of_ble_eq_true rfl⟩) ?_
  refine lv_iload_n hx hb dL_law_53 rfl (lv_at hl 5 rfl) ?_
  refine lv_iand hx hb dL_law_54 ?_
  refine nw_raw e3 ?_
  refine lv_istore (lv' := [(6, .int (nI x3)), (5, .int (nI x2)), (4, .int (nI x1)), (0, .ref bs), (1, .ref h0), (2, .int (nI k)), (3, .int (nI (2 ^ (12 + k) - 1)))]) hx hb dL_law_55 hl (by decide) rfl (fun ls hl => ?_)
  exact law_b hx hb hr hlocks hml hown hts hS hk h1 h2 h3 ls (lv_sub hl [3, 4, 5, 6, 2, 1, 0] rfl)
set_option maxHeartbeats 4000000 in
set_option maxRecDepth 100000 in
/-- the whole of it -/
theorem whole_start {p : Program} {e : Env} {s : State} {m : MethodId} {below : List Frame} {meth : Method} {c : Code} (l : Launch) (hflags : l.flags = flags0) {b L : Nat} {xs : Nat → Int32} (hL : L ≤ 4) (C0 : lw_At p s m meth c b L xs) : W p l e room_1 s m #[Value.ref b] below meth c s.heap [] 0 0 (lw_Z below #[Value.ref b] s) (entryFrame m ([Value.ref b] : List Value).toArray 8) := by
  obtain ⟨hx, hb, hr, hml, hown, hts0, hX, hbl, hlocks, hgv⟩ := C0
  have hts : ∀ w ∈ lw_all, w.before #[Value.ref b] s = true := fun w h => hts0 w (lw_all_tbl h)
  have hA : ∀ q : Nat, s.heap.size ≤ q → (fun q : Nat => s.heap.size ≤ q) q := fun _ h => h
  have hbA : ¬ (fun q : Nat => s.heap.size ≤ q) b := Nat.not_le.mpr hbl
  obtain ⟨c0, iS0, hKn0⟩ := u_known (C := RX1) (T := TX1) (N := 1) (n := 1) hts in_X1 (hts _ q10)
  obtain ⟨c1, iS1, hKn1⟩ := u_known (C := RX3) (T := TX3) (N := 0) (n := 0) hts in_X3 (hts _ q20)
  obtain ⟨c2, iS2, hKn2⟩ := u_known (C := RX4) (T := TX3) (N := 0) (n := 0) hts in_X4 (hts _ q30)
  obtain ⟨dC, dI, hKc⟩ : ∃ (dC : Nat → ClassId) (dI : Nat → Nat → Nat), ∀ (k : Nat) (q : vw_C), nwCl[k]? = some q → u_Kn s q.1 q.2.1 q.2.2 (dC k) (dI k) := by
    refine ⟨fun k => if k = 0 then c0 else if k = 1 then c1 else c2, fun k => if k = 0 then iS0 else if k = 1 then iS1 else iS2, ?_⟩
    intro k q hq
    match k, hq with
    | 0, hq => cases hq; exact hKn0
    | 1, hq => cases hq; exact hKn1
    | 2, hq => cases hq; exact hKn2
    | k + 3, hq => simp [nwCl] at hq
  have hS : va_S (fun q : Nat => s.heap.size ≤ q) s.heap s.heap [] := va_S.rf
  have hK : va_K (dC, dI) nwCl [] s := ⟨hKc, fun k q h => by simp at h⟩
  have hP : va_P (dC, dI) nwCl [] s.heap := fun k q h => by simp at h
  have hD : va_D (fun q : Nat => s.heap.size ≤ q) [] := ⟨fun i j p q h => by simp at h, fun k q h => by simp at h⟩
  have hAO : va_AO "GF" s := va_AO.of (hts0 _ q18)
  have hc12 : va_Nw (.castable "GF12" "GF") s := va_Nw.of rfl (hts0 _ q195)
  have hc13 : va_Nw (.castable "GF13" "GF") s := va_Nw.of rfl (hts0 _ q196)
  have hdc : ∀ x ∈ nw_decls, va_Nw (.declares x) s := by
    intro x hx
    simp only [nw_decls, List.mem_cons, List.not_mem_nil, or_false] at hx
    rcases hx with e | e | e | e | e | e | e
    · rw [e]; exact va_Nw.of rfl (hts0 _ q48)
    · rw [e]; exact va_Nw.of rfl (hts0 _ q71)
    · rw [e]; exact va_Nw.of rfl (hts0 _ q93)
    · rw [e]; exact va_Nw.of rfl (hts0 _ q141)
    · rw [e]; exact va_Nw.of rfl (hts0 _ q153)
    · rw [e]; exact va_Nw.of rfl (hts0 _ q162)
    · rw [e]; exact va_Nw.of rfl (hts0 _ q171)
  have hl := lv_entry ([.ref b]) (n := 8) (Nat.le_of_ble_eq_true rfl)
  rw [lg_entry_eq]
  generalize (lg_sl ([.ref b]) ++ List.replicate (8 - (lg_sl ([.ref b])).length) Slot.unset).toArray = ls at hl ⊢
  have hl : lv_has ls 8 [(0, .ref b)] := hl
  refine va_new (ci := 0) (fs := [.null]) (C := RX1) (T := TX1) (N := 1) hx hb hts in_X1 tyX1 tyX1_ok hown (hts _ q9) (hts _ q10) (hts _ q4) hK hP hD hS hA rfl (fun j hj => by rcases (show j = 0 by omega) with rfl; rfl) (Nat.le_of_ble_eq_true rfl) (Nat.le_of_ble_eq_true rfl) dL_law_0 (fun h0 H hP hD hS => ?_)
  have hP : va_P (dC, dI) nwCl [(h0, .inr (0, [.null]))] H := hP
  have hD : va_D (fun q : Nat => s.heap.size ≤ q) [(h0, .inr (0, [.null]))] := hD
  refine W.widen (k := 1) (n := 1) (by omega) (by omega) ?_
  refine lv_dup hx hb dL_law_3 rfl ?_
  have hPc := hP.sub (ws' := [(h0, .inr (0, [.null]))]) [0] rfl
  have hDc := hD.sub (ws' := [(h0, .inr (0, [.null]))]) [0] (by decide) rfl
  have hKc := hK.sub (tys' := []) [] rfl
  have hFc := va_free (wc := [(h0, .inr (0, [.null]))]) hD hS hA [0] rfl
  refine va_callv (va_runI (As := []) (rest := [.ref h0]) ⟨hx, hb, hml, hown, hts⟩ (m1_init l dC dI h0 H.size) (cwI 0 hts (lw_meth q13) rfl rfl rfl (hts _ q4) (hts _ q11) (hts _ q12) rfl (by decide +kernel) ⟨Nat.le_of_ble_eq_true rfl, Nat.le_of_ble_eq_true rfl⟩) ⟨fun a U g mk q => by obtain ⟨q0, q1, qP, qK, qD, qa, qb, qc⟩ := q; exact ⟨q0, q1, qP, va_K.moved (u := U) (U := U.calling g mk a) (Vm.Alike.refl U.vm) qK, qD, va_AO.moved (u := U) (U := U.calling g mk a) (Vm.Alike.refl U.vm) qa, va_Nw.same rfl rfl qb, va_Nw.same rfl rfl qc⟩, fun U hU hW => ⟨rfl, by rw [hU], by rw [hU]; exact hPc, va_K.moved hW.alike hKc, hDc.weaken (fun _ _ _ _ => trivial), va_AO.moved hW.alike hAO, va_Nw.warmC hW hc12, va_Nw.warmC hW hc13⟩⟩ rfl rfl hl.1 rfl (lv_room (Nat.le_of_ble_eq_true rfl)) dL_law_4 ⟨Nat.le_of_ble_eq_true rfl, Nat.le_of_ble_eq_true rfl⟩) hS (fun q _ h => hFc q h) hFc (fun u t H1 locs ht hvm hw1 hB hz1 hk1 hS => ?_)
  obtain ⟨cA, fa, g0, g1⟩ := u
  obtain ⟨hP1, hK1, hD1⟩ := hB
  rw [ht] at hP1
  have hK1 := va_K.moved hvm.symm hK1
  have hSS : nw_S (dC, dI) cA h0 fa g0 g1 s H1 := ⟨hP1, hK1, hdc⟩
  have hX1 : va_X b L xs s H1 := hX.kept (hS.2.1 b hbl hbA)
  refine va_forget (fun q hq => hS.2.2 q hq) ?_
  refine W.widen (k := 600000) (n := 7290000) (Nat.le_of_ble_eq_true rfl) (Nat.le_of_ble_eq_true rfl) ?_
  refine lv_astore_n (lv' := [(1, .ref h0), (0, .ref b)]) hx hb dL_law_7 rfl hl (by decide) rfl (fun ls hl => ?_)
  obtain ⟨k, hk, ek⟩ := pk_andE (nw_cl L xs 0) (m := nI 1) 1 (by decide +kernel)
  refine lv_aload_n hx hb dL_law_8 rfl (lv_at hl 1 rfl) ?_
  refine lv_iconst (v := nI 0) hx hb dL_law_9 (by decide +kernel) ?_
  refine nw_calli (W.runS (As := [.ref b, .int (nI 0)]) (rest := []) ⟨hx, hb, hml, hown, hts⟩ (m0_cell l b L xs 0 hL (by decide)) (va_cwS 2 hts (lw_S q189 q190 q3 q191) rfl rfl rfl (by decide +kernel) ⟨Nat.le_of_ble_eq_true rfl, Nat.le_of_ble_eq_true rfl⟩) ⟨fun a U g mk q => ⟨q.1, va_X.moved (u := U) (U := U.calling g mk a) (Vm.Alike.refl U.vm) q.2⟩, fun U hU hW => ⟨rfl, va_X.moved hW.alike (by rw [hU]; exact hX1)⟩⟩ rfl rfl hl.1 rfl (lv_room (Nat.le_of_ble_eq_true rfl)) dL_law_10 ⟨Nat.le_of_ble_eq_true rfl, Nat.le_of_ble_eq_true rfl⟩) ?_
  refine lv_iconst (v := nI 1) hx hb dL_law_13 (by decide +kernel) ?_
  refine lv_iand hx hb dL_law_14 ?_
  refine nw_raw ek ?_
  refine lv_istore_n (lv' := [(2, .int (nI k)), (1, .ref h0), (0, .ref b)]) hx hb dL_law_15 rfl hl (by decide) rfl (fun ls hl => ?_)
  refine lv_iload_n hx hb dL_law_16 rfl (lv_at hl 0 rfl) ?_
  rcases (show k = 0 ∨ k = 1 by omega) with rfl | rfl
  · refine lv_if_ne (tgt := 26) hx hb dL_law_17 (by decide) (fun c_1 => absurd nI_0 c_1) (fun c_1 => ?_)
    refine lv_sipush (v := nI 4095) hx hb dL_law_20 (by decide +kernel) ?_
    refine lv_goto (tgt := 29) hx hb dL_law_23 (by decide) ?_
    refine lv_istore_n (lv' := [(3, .int (nI 4095)), (2, .int (nI 0)), (1, .ref h0), (0, .ref b)]) hx hb dL_law_29 rfl hl (by decide) rfl (fun ls hl => ?_)
    exact law_a hx hb hr hlocks hml hown hts hSS (k := 0) (by decide) hL hX1 ls (lv_sub hl [3, 2, 1, 0] rfl)
  · refine lv_if_ne (tgt := 26) hx hb dL_law_17 (by decide) (fun c_1 => ?_) (fun c_1 => absurd c_1 (by decide +kernel))
    refine lv_sipush (v := nI 8191) hx hb dL_law_26 (by decide +kernel) ?_
    refine lv_istore_n (lv' := [(3, .int (nI 8191)), (2, .int (nI 1)), (1, .ref h0), (0, .ref b)]) hx hb dL_law_29 rfl hl (by decide) rfl (fun ls hl => ?_)
    exact law_a hx hb hr hlocks hml hown hts hSS (k := 1) (by decide) hL hX1 ls (lv_sub hl [3, 2, 1, 0] rfl)
end
section
set_option maxHeartbeats 4000000 in
theorem lw_walk (l : Launch) (hflags : l.flags = flags0) (b : Addr) (xs : List Int32) : MetFree l x (headSpec (Jvm.Cond.code x code maxLocals ret :: tables_1) room_1) (lw_P b xs) (fun _ _ _ _ _ => True) lw_Q := by
  refine MetFree.of_bodyS (code := code) (maxLocals := maxLocals) (ret := ret) (by decide) ?_ ?_
  · intro args s m h hn
    obtain ⟨meth, c, h1, h2, h3, h4, h5, h6, -, -⟩ := Cond.code_spec hn (atoms_spec (ws := Jvm.Cond.code x code maxLocals ret :: tables_1) h _ List.mem_cons_self)
    exact ⟨meth, c, h1, h2, h3, h4, h5, h6⟩
  · intro p e s m args below meth c s₁ B hml0 hP _
    obtain ⟨rfl, hx, hbd, hgv⟩ := hP
    obtain ⟨scr, harrAt, hlist, hof, hsmall⟩ := hx
    obtain ⟨hcb, hkn, -, -⟩ := State.arrayAt?_spec harrAt
    have hown : s.vm.findClass R_law = some m.cls := findClass_of_methodNamed B.named
    have hts0 : ∀ c ∈ (Jvm.Cond.code x code maxLocals ret :: tables_1), c.before #[Value.ref b] s = true := atoms_spec (ws := Jvm.Cond.code x code maxLocals ret :: tables_1) B.pre
    have hts : ∀ w ∈ lw_tbl, w.before #[Value.ref b] s = true := k2_hts_sels lw_privs (fun w hw => hts0 w (List.mem_cons_of_mem _ hw)) lw_privs_ok
    have hml : c.maxLocals = 8 := B.maxLocals_eq (hts0 _ List.mem_cons_self)
    have X₀ : Stand p l e room_1 s m #[Value.ref b] below meth c s₁ [] 0 0 := Stand.of_body B
    have hh0 : s₁.heap = s.heap := by rw [B.state]; rfl
    have hsz : scr.slots.size = xs.length := by rw [← Array.length_toList, hlist, List.length_map]
    have hval : ∀ j : Nat, j < xs.length → scr.slots[j]? = some (.int (xs.getD j 0)) := fun j hj => by
      rw [← Array.getElem?_toList, hlist]
      simp [hj]
    have hbl : b < s.heap.size := (Array.getElem?_eq_some_iff.mp hcb).1
    have hX : va_X b xs.length (fun j => xs.getD j 0) s s.heap := ⟨scr, hcb, hof, hkn, hsz, hval⟩
    have K : W p l e room_1 s m #[Value.ref b] below meth c s₁.heap [] 0 0 (lw_Z below #[Value.ref b] s) (entryFrame m ([Value.ref b] : List Value).toArray 8) := by
      rw [hh0]
      exact whole_start l hflags hbd ⟨B.exec, B.bytes, B.returns, hml, hown, hts, hX, hbl, B.notSynchronized, hgv⟩
    obtain ⟨t, a1, o, b1, b2, b3⟩ := K s₁ rfl X₀
    exact ⟨t, o, a1, b1, b2, b3⟩
theorem lw_pre_spec {args : Array Value} {s : State} (h : (Jvm.Cond.and given_1 narrow_1).before args s = true) (hr : rest_1_c.before args s = true) : ∃ (b : Addr) (xs : List Int32), lw_P b xs args s := by
  have hs := flat_of_before _ h
  have hq := flat_of_before _ hr
  have hc : (Cond.count 1).before args s = true := hs _ (by decide +kernel)
  have harr : (Cond.arrayOf (.arg 0) .int).before args s = true := hs _ (by decide +kernel)
  have hle : (Cond.le (.length (.arg 0)) (.int 4)).before args s = true := hs _ (by decide +kernel)
  have hlen : (Cond.isInt (.length (.arg 0))).before args s = true := hq _ (by decide +kernel)
  have hall : (Cond.all (.arg 0) (.isInt (.elem (.arg 0) (.index 0)))).before args s = true := hq _ (by decide +kernel)
  obtain ⟨b, xs, hb, hx⟩ := State.ints_of_pre rfl harr hlen hall
  have hsm : xs.length < 2 ^ 31 := hx.choose_spec.2.2.2
  have hev : (Term.length (.arg 0)).eval args s none [] s = some (.int xs.length.toInt32) := hx.length_eval hb
  have hv := Cond.le_ints hev (show (Term.int 4).eval args s none [] s = some (.int 4) from rfl)
  have hd : xs.length.toInt32 ≤ 4 := by
    simpa [Cond.before, Cond.holds, hv] using hle
  have hN : xs.length ≤ 4 := (Int32.ofNat_le_ofNat hsm (by decide)).mp (show Int32.ofNat xs.length ≤ Int32.ofNat 4 from hd)
  exact ⟨b, xs, Cond.one_arg hc (show args[0]? = some (.ref b) from hb), hx, hN, h⟩
theorem lw_comes (l : Launch) (hflags : l.flags = flags0) : Comes l x (Jvm.Cond.code x code maxLocals ret :: tables_1) room_1 (fun tb e args s => Calls_1 tb e args s ∧ rest_1 tb e args s ∧ Pre_1 tb e args s)
    (fun _ _ args s o t => lw_Q args s o t) := by
  intro p e ha hc hk s m args below hf hfit hheap happ hpre
  obtain ⟨b, xs, hP⟩ := lw_pre_spec hpre.2.2 hpre.2.1
  obtain ⟨k, o, h1, h2, h3, hQ⟩ := lw_walk l hflags b xs p e ha hc hk s m args below hf ((Spec.applies_iff_loose hf).mp happ).1 hP trivial
  exact ⟨k, o, h1, h2, h3, hQ⟩
theorem lw_frame {s t : State} {o : Outcome} {args : Array Value} (h : Framed s o t [] 600000 7290000) :
    Framed s o t (fieldLocs frame_1_writes args s ++ arrayLocs frame_1_arrays args s ++ staticLocs frame_1_statics s) 600000 7290000 := h
theorem lw_limb (L : Cond) (hL : ∀ (args : Array Value) (s t : State), L.after args s (.returned (some (.int 1))) t = true) :
    ArmFor flags0 classFile x code maxLocals ret World_1 tables_1 room_1 Calls_1 rest_1 Pre_1
      (fun tb e a s o t => postC L tb e a s o t ∧ Framed s o t (fieldLocs frame_1_writes a s ++ arrayLocs frame_1_arrays a s ++ staticLocs frame_1_statics s) 600000 7290000) := by
  intro l hflags _ _ p e ha hc hk s m args below hf hfit hheap happ hpre
  obtain ⟨k, o, h1, h2, h3, rfl, hF⟩ := lw_comes l hflags p e ha hc hk s m args below hf hfit hheap happ hpre
  exact ⟨k, _, h1, h2, h3, hL args s _, lw_frame hF⟩
theorem i_vc : Claimed_1_1 ∧ Claimed_1_2 := ⟨lw_limb limb_1_1 (fun args s t => by simp [limb_1_1, Cond.after, Cond.holds, Cond.value]), lw_limb limb_1_2 (fun args s t => Cond.after_iff.mpr (by
  first | (rw [show limb_1_2 = Cond.eq .result (.int 1) from rfl, Cond.eq_ints (x := 1) (y := 1) rfl rfl]; simp; done) | (simp [limb_1_2, Cond.value, Term.eval]; done)))⟩
end
