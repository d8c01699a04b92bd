import PyProof.Rows.All
import Wide.All
import OpenK.AllK
import Wide.FinOn
import PySem.Challenge.RW_fv0018_01
open PySem PySem.W PyProof.Rows
set_option Elab.async false

/- The plain law of the doubles: a finite double that stands for an int, to the bit. -/
namespace Mine
open PySem.Float64

/-- the double x is finite and stands for the int v, to the bit -/
def IsI (x : UInt64) (v : Int) : Prop := ∃ a m e, decode x = .fin a m e ∧ val x = v * 2 ^ 1074

theorem V_inj {t t' : Nat} (h : V t = V t') : t = t' := by
  rcases Nat.lt_trichotomy t t' with h1 | h1 | h1
  · have := V_lt h1; omega
  · exact h1
  · have := V_lt h1; omega

/-- an int below 2^53 has a place among the doubles -/
theorem V_int (n : Nat) (hn : n < 2 ^ 53) : ∃ t, t < infMag ∧ V t = n * 2 ^ 1074 := by
  by_cases h0 : n = 0
  · exact ⟨0, by decide, by rw [V_zero, h0, Nat.zero_mul]⟩
  · have hL : n.log2 ≤ 52 := by
      have := (Nat.log2_lt h0 (k := 53)).mpr hn
      omega
    have h1 : 2 ^ n.log2 ≤ n := Nat.log2_self_le h0
    have h2 : n < 2 ^ (n.log2 + 1) := Nat.lt_log2_self
    have hq1 : 2 ^ 52 ≤ n * 2 ^ (52 - n.log2) := by
      have e : (2 : Nat) ^ 52 = 2 ^ n.log2 * 2 ^ (52 - n.log2) := by rw [← Nat.pow_add]; congr 1; omega
      rw [e]; exact Nat.mul_le_mul_right _ h1
    have hq2 : n * 2 ^ (52 - n.log2) < 2 ^ 53 := by
      have e : (2 : Nat) ^ 53 = 2 ^ (n.log2 + 1) * 2 ^ (52 - n.log2) := by rw [← Nat.pow_add]; congr 1; omega
      rw [e]; exact Nat.mul_lt_mul_of_pos_right h2 (Nat.two_pow_pos _)
    refine ⟨(1022 + n.log2) * 2 ^ 52 + n * 2 ^ (52 - n.log2), ?_, ?_⟩
    · have hi : infMag = 2047 * 2 ^ 52 := rfl
      rw [hi]
      have : (1022 + n.log2) * 2 ^ 52 ≤ 1074 * 2 ^ 52 := Nat.mul_le_mul_right _ (by omega)
      omega
    · rw [V_at (Nat.le_of_lt hq2) (Or.inl hq1), Nat.mul_assoc, ← Nat.pow_add]
      congr 2
      omega

theorem isI_of_right {r : UInt64} {neg : Bool} {W D : Nat} {v : Int} (h : Right r neg W D) (hD : 0 < D) (hW : W = D * (v.natAbs * 2 ^ 1074)) (hb : v.natAbs < 2 ^ 53) (hs : v ≠ 0 → neg = decide (v < 0)) : IsI r v := by
  obtain ⟨t0, ht0, hV0⟩ := V_int v.natAbs hb
  obtain ⟨t, rfl, hle, hinf, hnear⟩ := h
  have hlt : t < infMag := by
    refine Nat.lt_of_le_of_ne hle fun e => ?_
    have h1 := hinf.mp e
    rw [hW, Nat.mul_left_comm 2 D] at h1
    have h2 := Nat.le_of_mul_le_mul_left h1 hD
    have h3 : 2 * (v.natAbs * 2 ^ 1074) < 2 * (2 ^ 53 * 2 ^ 1074) := Nat.mul_lt_mul_of_pos_left (Nat.mul_lt_mul_of_pos_right hb (Nat.two_pow_pos _)) (by decide)
    have h4 : 2 * (2 ^ 53 * 2 ^ 1074) ≤ (2 ^ 54 - 1) * 2 ^ 2045 := by decide +kernel
    omega
  have hd := (hnear hlt t0).1
  rw [hW, ← hV0] at hd
  have hz : dist (D * V t0) (D * V t0) = 0 := by unfold dist; omega
  rw [hz] at hd
  have he : D * V t0 = D * V t := by unfold dist at hd; omega
  have hVt : V t = v.natAbs * 2 ^ 1074 := by rw [← hV0]; exact (Nat.eq_of_mul_eq_mul_left hD he).symm
  obtain ⟨m, e, hdec, hmv⟩ := decode_pack neg hlt
  refine ⟨neg, m, e, hdec, ?_⟩
  rw [val_pack neg hlt, hVt, sgn_mul]
  have hp : (((2 : Nat) ^ 1074 : Nat) : Int) = 2 ^ 1074 := by simp
  rw [hp]
  congr 1
  by_cases h0 : v = 0
  · rw [h0]; unfold sgn; cases neg <;> rfl
  · rw [hs h0]
    unfold sgn
    by_cases hn : v < 0
    · simp only [hn, decide_true, if_true]; omega
    · simp only [hn, decide_false, Bool.false_eq_true, if_false]; omega

theorem isI_frac {neg : Bool} {n d : Nat} {v : Int} (hd : 0 < d) (hn : n = v.natAbs * d) (hb : v.natAbs < 2 ^ 53) (hs : v ≠ 0 → neg = decide (v < 0)) : IsI (ofFrac neg n d) v :=
  isI_of_right (ofFrac_right (W := v.natAbs * 2 ^ 1074) (D := 1) hd (by rw [hn, Nat.mul_one, Nat.mul_assoc, Nat.mul_assoc, Nat.mul_comm d]) (by decide)) (by decide) (by rw [Nat.one_mul]) hb hs

theorem isI_ofInt {v : Int} (hb : v.natAbs < 2 ^ 53) : IsI (ofInt v) v :=
  isI_of_right (ofInt_right v) (by decide) (by rw [Nat.one_mul]) hb (fun _ => rfl)

theorem sign_of {x : UInt64} {a : Bool} {m : Nat} {e : Int} {v : Int} (h : decode x = .fin a m e) (hv : val x = v * 2 ^ 1074) (h0 : v ≠ 0) : a = decide (v < 0) := by
  have hp : (0 : Int) < 2 ^ 1074 := by decide +kernel
  rw [val_eq h] at hv
  generalize (2 : Int) ^ 1074 = K at *
  unfold sgn at hv
  cases a with
  | true =>
    simp only [if_true] at hv
    by_cases hn : v < 0
    · simp [hn]
    · exfalso
      have := Int.mul_pos (show 0 < v by omega) hp
      omega
  | false =>
    simp only [Bool.false_eq_true, if_false] at hv
    by_cases hn : v < 0
    · exfalso
      have := Int.mul_neg_of_neg_of_pos hn hp
      omega
    · simp [hn]

theorem isI_mul {x y : UInt64} {u v : Int} (hx : IsI x u) (hy : IsI y v) (hb : (u * v).natAbs < 2 ^ 53) : IsI (mul x y) (u * v) := by
  obtain ⟨a, m, e, hdx, hvx⟩ := hx
  obtain ⟨b, k, f, hdy, hvy⟩ := hy
  have hp : ((2 : Int) ^ 1074).natAbs = 2 ^ 1074 := by decide +kernel
  refine isI_of_right (mul_right hdx hdy) (Nat.two_pow_pos _) ?_ hb ?_
  · rw [hvx, hvy, Int.natAbs_mul, Int.natAbs_mul, Int.natAbs_mul, hp]
    generalize (2 : Nat) ^ 1074 = K
    ac_rfl
  · intro h0
    have hu : u ≠ 0 := fun h => h0 (by rw [h, Int.zero_mul])
    have hv : v ≠ 0 := fun h => h0 (by rw [h, Int.mul_zero])
    rw [sign_of hdx hvx hu, sign_of hdy hvy hv]
    by_cases h1 : u < 0 <;> by_cases h2 : v < 0
    · have := Int.mul_pos_of_neg_of_neg h1 h2
      have h3 : ¬ u * v < 0 := by omega
      simp [h1, h2, h3]
    · have := Int.mul_neg_of_neg_of_pos h1 (show 0 < v by omega)
      simp [h1, h2, this]
    · have := Int.mul_neg_of_pos_of_neg (show 0 < u by omega) h2
      simp [h1, h2, this]
    · have := Int.mul_pos (show 0 < u by omega) (show 0 < v by omega)
      have h3 : ¬ u * v < 0 := by omega
      simp [h1, h2, h3]

theorem isI_add {x y : UInt64} {u v : Int} (hx : IsI x u) (hy : IsI y v) (hb : (u + v).natAbs < 2 ^ 53) : IsI (add x y) (u + v) := by
  obtain ⟨a, m, e, hdx, hvx⟩ := hx
  obtain ⟨b, k, f, hdy, hvy⟩ := hy
  have hp : ((2 : Int) ^ 1074).natAbs = 2 ^ 1074 := by decide +kernel
  have hpos : (0 : Int) < 2 ^ 1074 := by decide +kernel
  have hsum : val x + val y = (u + v) * 2 ^ 1074 := by rw [hvx, hvy, Int.add_mul]
  obtain ⟨hz, hnz⟩ := add_right hdx hdy
  by_cases h0 : u + v = 0
  · have hs0 : val x + val y = 0 := by rw [hsum, h0, Int.zero_mul]
    rw [hz hs0, h0]
    obtain ⟨m', e', hdec, _⟩ := decode_pack (a && b) (t := 0) (by decide)
    have hzp : zero (a && b) = pack (a && b) 0 := by unfold zero; rfl
    refine ⟨a && b, m', e', by rw [hzp]; exact hdec, ?_⟩
    rw [hzp, val_pack _ (by decide), V_zero, Int.zero_mul]
    cases (a && b) <;> rfl
  · have hs0 : val x + val y ≠ 0 := by
      rw [hsum]
      intro h
      rcases Int.mul_eq_zero.mp h with h | h
      · exact h0 h
      · rw [h] at hpos; exact absurd hpos (by decide)
    refine isI_of_right (hnz hs0) (by decide) ?_ hb ?_
    · rw [hsum, Int.natAbs_mul, hp, Nat.one_mul]
    · intro _
      rw [hsum]
      apply decide_eq_decide.mpr
      generalize (2 : Int) ^ 1074 = K at *
      constructor
      · intro h
        by_cases h1 : u + v < 0
        · exact h1
        · have := Int.mul_nonneg (show 0 ≤ u + v by omega) (Int.le_of_lt hpos)
          omega
      · intro h
        exact Int.mul_neg_of_neg_of_pos h hpos

theorem isI_cmpInt {x : UInt64} {v : Int} (hx : IsI x v) : (cmpInt x v == some .eq) = true := by
  obtain ⟨a, m, e, hd, hv⟩ := hx
  rw [cmpInt_right hd, hv]
  simp

end Mine

/- The rules of the walk's own steps. -/
section
open PySem.Spec PySem.Flt
namespace Mine
/-- a scale: not nought, of three digits -/
def Lo (b : Int) : Prop := b ≠ 0 ∧ -1000 ≤ b ∧ b ≤ 1000
/-- a value or an offset -/
def Va (v : Int) : Prop := -10000 ≤ v ∧ v ≤ 10000
theorem prod_small {v b : Int} (hv : Va v) (hb : Lo b) : (v * b).natAbs ≤ 10000000 := by
  rw [Int.natAbs_mul]
  have h1 : v.natAbs ≤ 10000 := by have := hv.1; have := hv.2; omega
  have h2 : b.natAbs ≤ 1000 := by have := hb.2.1; have := hb.2.2; omega
  calc v.natAbs * b.natAbs ≤ 10000 * 1000 := Nat.mul_le_mul h1 h2
    _ = 10000000 := rfl
theorem Lo.mulL {a b : Int} (h : Lo b) : IntMulOk a b := IntMulOk.of_right (intBits_le_64 (by have := h.2.1; omega) (by have := h.2.2; omega))
theorem Lo.mulR {a b : Int} (h : Lo a) : IntMulOk a b := IntMulOk.of_left (intBits_le_64 (by have := h.2.1; omega) (by have := h.2.2; omega))
theorem quot {v b : Int} (hv : Va v) (hb : Lo b) : IsI (Float64.ofFrac (decide (v * b < 0) != decide (b < 0)) (v * b).natAbs b.natAbs) v := by
  refine isI_frac (Int.natAbs_pos.mpr hb.1) (Int.natAbs_mul v b) (by have := hv.1; have := hv.2; omega) fun h0 => ?_
  have hb0 := hb.1
  by_cases h1 : v < 0 <;> by_cases h2 : b < 0
  · have := Int.mul_pos_of_neg_of_neg h1 h2
    have h3 : ¬ v * b < 0 := by omega
    simp [h1, h2, h3]
  · have := Int.mul_neg_of_neg_of_pos h1 (show 0 < b by omega)
    simp [h1, h2, this]
  · have := Int.mul_neg_of_pos_of_neg (show 0 < v by omega) h2
    simp [h1, h2, this]
  · have := Int.mul_pos (show 0 < v by omega) (show 0 < b by omega)
    have h3 : ¬ v * b < 0 := by omega
    simp [h1, h2, h3]
theorem fits {n : Int} (h : n.natAbs ≤ 10000000) : n.natAbs < 2 ^ 1023 := Nat.lt_of_le_of_lt h (by decide +kernel)
theorem fits2 {n : Int} (h : n.natAbs ≤ 10000000) : ¬ 2 ^ 1024 - 2 ^ 970 ≤ n.natAbs := by
  have h2 : 10000000 < 2 ^ 1024 - 2 ^ 970 := by decide +kernel
  omega
theorem Lo.abs {b : Int} (h : Lo b) : b.natAbs ≤ 10000000 := by have := h.2.1; have := h.2.2; omega
theorem Va.abs {b : Int} (h : Va b) : b.natAbs ≤ 10000000 := by have := h.1; have := h.2; omega

section
variable {prog : Program} {w : World} {A : Around} {E : Value → Shared → Prop} {s : Shared} {t u : Tok} {Q : Value → Shared → Prop}
/-- an item of a written list of ints at a place inside it: what holds of all its items -/
theorem menu {value slice : PySem.Expr} {l : Addr} {vs : List Value} {ns : List Int} {k : Int} (hl : s.heap.IsList l vs.toArray) (hi : IntsAre vs ns)
    (h0 : 0 ≤ k) (h1 : k < ns.length) (hfit : k < 2 ^ 63) (hP : ∀ v ∈ ns, v ≠ 0 ∧ -1000 ≤ v ∧ v ≤ 1000) (h : ∀ v t, Lo v → Q (.int v t) s)
    (hs : subscripted slice false (.ref l) (.int k u) = operate [.ref l, .int k u] (getItem (.ref l) (.int k u)) := by with_unfolding_all rfl) :
    wpAny (model prog w) A (subscriptTail value slice (.ref l) (.int k u)) Q E s := by
  have hlt : k.toNat < ns.length := by omega
  have hm : ns.getD k.toNat 0 ∈ ns := by
    have e : ns.getD k.toNat 0 = ns[k.toNat] := by simp [List.getD, hlt]
    rw [e]; exact List.getElem_mem hlt
  exact item_anyK hl hi h0 h1 hfit (fun t => h _ t (hP _ hm)) hs
/-- a remainder moved down: a letter between its bounds -/
theorem sub_mod {m k c : Int} (hk : 0 < k) (h1 : c ≤ 10000) (h2 : k - 1 - c ≤ 10000) (h : ∀ r, Va r → Q (.int r s.toks) { s with toks := s.toks + 1 }) :
    wpAny (model prog w) A (binaryOp .Sub (.int (Int.fmod m k) t) (.int c u)) Q E s := by
  refine sub_int (h _ ⟨?_, ?_⟩)
  · have := fmod_lo m hk; omega
  · have := fmod_hi m hk; omega
theorem mul_l {a b : Int} (hb : Lo b) (h : Q (.int (a * b) s.toks) { s with toks := s.toks + 1 }) : wpAny (model prog w) A (binaryOp .Mult (.int a t) (.int b u)) Q E s := mul_int h hb.mulL
theorem mul_r {a b : Int} (ha : Lo a) (h : Q (.int (a * b) s.toks) { s with toks := s.toks + 1 }) : wpAny (model prog w) A (binaryOp .Mult (.int a t) (.int b u)) Q E s := mul_int h ha.mulR
theorem imul_l {a b : Int} (hb : Lo b) (h : Q (.int (a * b) s.toks) { s with toks := s.toks + 1 }) : wpAny (model prog w) A (inplaceOp .Mult (.int a t) (.int b u)) Q E s := imul_int h hb.mulL
theorem eq_same {a b : Int} (he : a = b) (h : Q (.bool true) s) : wpAny (model prog w) A (compareOp .Eq (.int a t) (.int b u)) Q E s := eq_int (by rw [he, beq_self_eq_true]; exact h)
theorem eq_add0 {a o : Int} (ho : o = 0) (h : Q (.bool true) s) : wpAny (model prog w) A (compareOp .Eq (.int a t) (.int (a + o) u)) Q E s := eq_same (by rw [ho, Int.add_zero]) h
theorem eqb_same {a b : Bool} (he : a = b) (h : Q (.bool true) s) : wpAny (model prog w) A (compareOp .Eq (.bool a) (.bool b)) Q E s := eq_bool (by rw [he, beq_self_eq_true]; exact h)
theorem eqf_same {x : UInt64} {v i : Int} (hx : IsI x v) (he : v = i) (h : Q (.bool true) s) : wpAny (model prog w) A (compareOp .Eq (.float x t) (.int i u)) Q E s := eq_fi (by rw [← he, isI_cmpInt hx]; exact h)
theorem eqf_add0 {x : UInt64} {v o : Int} (hx : IsI x v) (ho : o = 0) (h : Q (.bool true) s) : wpAny (model prog w) A (compareOp .Eq (.float x t) (.int (v + o) u)) Q E s := eqf_same hx (by rw [ho, Int.add_zero]) h
theorem div_gen {a v b : Int} (hv : Va v) (hb : Lo b) (he : a = v * b) (hA : A.handled = none) (h : ∀ x, IsI x v → Q (.float x s.toks) { s with toks := s.toks + 1 }) : wpAny (model prog w) A (binaryOp .Div (.int a t) (.int b u)) Q E s := by
  subst he
  exact div_ii_fits hA (fits (prod_small hv hb)) (fun h0 => absurd h0 hb.1) (fun _ _ => h _ (quot hv hb))
theorem idiv_gen {a v b : Int} (hv : Va v) (hb : Lo b) (he : a = v * b) (hA : A.handled = none) (h : ∀ x, IsI x v → Q (.float x s.toks) { s with toks := s.toks + 1 }) : wpAny (model prog w) A (inplaceOp .Div (.int a t) (.int b u)) Q E s := by
  subst he
  exact idiv_ii_fits hA (fits (prod_small hv hb)) (fun h0 => absurd h0 hb.1) (fun _ _ => h _ (quot hv hb))
theorem div_l {v b : Int} (hv : Va v) (hb : Lo b) (hA : A.handled = none) (h : ∀ x, IsI x v → Q (.float x s.toks) { s with toks := s.toks + 1 }) : wpAny (model prog w) A (binaryOp .Div (.int (v * b) t) (.int b u)) Q E s := div_gen hv hb rfl hA h
theorem div_r {v b : Int} (hv : Va v) (hb : Lo b) (hA : A.handled = none) (h : ∀ x, IsI x v → Q (.float x s.toks) { s with toks := s.toks + 1 }) : wpAny (model prog w) A (binaryOp .Div (.int (b * v) t) (.int b u)) Q E s := div_gen hv hb (Int.mul_comm b v) hA h
theorem div_o {v b o : Int} (hv : Va v) (hb : Lo b) (ho : o = 0) (hA : A.handled = none) (h : ∀ x, IsI x v → Q (.float x s.toks) { s with toks := s.toks + 1 }) : wpAny (model prog w) A (binaryOp .Div (.int (v * b + o) t) (.int b u)) Q E s := div_gen hv hb (by rw [ho, Int.add_zero]) hA h
theorem div_oo {v b o : Int} (hv : Va v) (hb : Lo b) (hA : A.handled = none) (h : ∀ x, IsI x v → Q (.float x s.toks) { s with toks := s.toks + 1 }) : wpAny (model prog w) A (binaryOp .Div (.int (v * b + o - o) t) (.int b u)) Q E s := div_gen hv hb (by omega) hA h
theorem idiv_l {v b : Int} (hv : Va v) (hb : Lo b) (hA : A.handled = none) (h : ∀ x, IsI x v → Q (.float x s.toks) { s with toks := s.toks + 1 }) : wpAny (model prog w) A (inplaceOp .Div (.int (v * b) t) (.int b u)) Q E s := idiv_gen hv hb rfl hA h
theorem idiv_o {v b o : Int} (hv : Va v) (hb : Lo b) (ho : o = 0) (hA : A.handled = none) (h : ∀ x, IsI x v → Q (.float x s.toks) { s with toks := s.toks + 1 }) : wpAny (model prog w) A (inplaceOp .Div (.int (v * b + o) t) (.int b u)) Q E s := idiv_gen hv hb (by rw [ho, Int.add_zero]) hA h
theorem idiv_oo {v b o : Int} (hv : Va v) (hb : Lo b) (hA : A.handled = none) (h : ∀ x, IsI x v → Q (.float x s.toks) { s with toks := s.toks + 1 }) : wpAny (model prog w) A (inplaceOp .Div (.int (v * b + o - o) t) (.int b u)) Q E s := idiv_gen hv hb (by omega) hA h
theorem fmul {x : UInt64} {v b : Int} (hx : IsI x v) (hv : Va v) (hb : Lo b) (hA : A.handled = none) (h : ∀ y, IsI y (v * b) → Q (.float y s.toks) { s with toks := s.toks + 1 }) : wpAny (model prog w) A (binaryOp .Mult (.float x t) (.int b u)) Q E s :=
  mul_fi_sharp hA (fun h0 => absurd h0 (fits2 hb.abs)) (fun _ => h _ (isI_mul hx (isI_ofInt (by have := hb.abs; omega)) (by have := prod_small hv hb; omega)))
theorem fadd {x : UInt64} {v b o : Int} (hx : IsI x (v * b)) (hv : Va v) (hb : Lo b) (ho : Va o) (hA : A.handled = none) (h : ∀ y, IsI y (v * b + o) → Q (.float y s.toks) { s with toks := s.toks + 1 }) : wpAny (model prog w) A (binaryOp .Add (.float x t) (.int o u)) Q E s :=
  add_fi_sharp hA (fun h0 => absurd h0 (fits2 ho.abs)) (fun _ => h _ (isI_add hx (isI_ofInt (by have := ho.abs; omega)) (by have := prod_small hv hb; have := ho.1; have := ho.2; omega)))
theorem beq0 {o : Int} (ho : o = 0) : true = (o == 0) := by rw [ho]; rfl
theorem bne0 {o : Int} (ho : o = 0) : false = (o != 0) := by rw [ho]; rfl
theorem beq1 {o : Int} (ho : ¬ o = 0) : false = (o == 0) := (beq_false_of_ne ho).symm
theorem bne1 {o : Int} (ho : ¬ o = 0) : true = (o != 0) := by simp [bne, beq_false_of_ne ho]
end
end Mine
end

/- The walk's own lines. -/
local macro_rules | `(tactic| k_in) => `(tactic| first | k_in_fast | with_reducible assumption | exact Frag.In.keeps (by with_reducible assumption) (Fr.keep (by with_reducible assumption)))
local macro_rules | `(tactic| walk_at "subscriptTail List") => `(tactic| (k_here; (with_unfolding_all refine' Mine.menu ?k1 ?k2 ?k3 ?k4 ?k5 ?kp ?_ ?k6; (case k1 => is_list); (case k2 => l_ints); (case k3 => l_idx); (case k4 => l_idx); (case k5 => l_idx); (case kp => decide); (case k6 => with_unfolding_all rfl); k_whole); intro _ _ hm0))
local macro_rules | `(tactic| walk_at "binaryOp Sub int int") => `(tactic| ((with_reducible refine Mine.sub_mod (by decide) (by decide) (by decide) ?_); intro _ hv0))
local macro_rules | `(tactic| walk_at "binaryOp Mult int int") => `(tactic| first | (with_reducible refine Mine.mul_l (by with_reducible assumption) ?_) | (with_reducible refine Mine.mul_r (by with_reducible assumption) ?_))
local macro_rules | `(tactic| walk_at "inplaceOp Mult int int") => `(tactic| (with_reducible refine Mine.imul_l (by with_reducible assumption) ?_))
local macro_rules | `(tactic| walk_at "compareOp Eq int int") => `(tactic| first | (with_reducible refine Mine.eq_same (by with_reducible rfl) ?_) | (with_reducible refine Mine.eq_add0 (by with_reducible assumption) ?_))
local macro_rules | `(tactic| walk_at "compareOp Eq float int") => `(tactic| first | (with_reducible refine Mine.eqf_same (by with_reducible assumption) (by with_reducible rfl) ?_) | (with_reducible refine Mine.eqf_add0 (by with_reducible assumption) (by with_reducible assumption) ?_))
local macro_rules | `(tactic| walk_at "compareOp Eq bool bool") => `(tactic| first | (with_reducible refine Mine.eqb_same (by with_reducible rfl) ?_) | (with_reducible refine Mine.eqb_same (Mine.beq0 (by with_reducible assumption)) ?_) | (with_reducible refine Mine.eqb_same (Mine.bne0 (by with_reducible assumption)) ?_) | (with_reducible refine Mine.eqb_same (Mine.beq1 (by with_reducible assumption)) ?_) | (with_reducible refine Mine.eqb_same (Mine.bne1 (by with_reducible assumption)) ?_))
local macro_rules | `(tactic| walk_at "binaryOp Div int int") => `(tactic| ((first | (with_reducible refine Mine.div_oo (by with_reducible assumption) (by with_reducible assumption) (by k_dflt rfl) ?_) | (with_reducible refine Mine.div_o (by with_reducible assumption) (by with_reducible assumption) (by with_reducible assumption) (by k_dflt rfl) ?_) | (with_reducible refine Mine.div_l (by with_reducible assumption) (by with_reducible assumption) (by k_dflt rfl) ?_) | (with_reducible refine Mine.div_r (by with_reducible assumption) (by with_reducible assumption) (by k_dflt rfl) ?_)); intro _ hf0))
local macro_rules | `(tactic| walk_at "inplaceOp Div int int") => `(tactic| ((first | (with_reducible refine Mine.idiv_oo (by with_reducible assumption) (by with_reducible assumption) (by k_dflt rfl) ?_) | (with_reducible refine Mine.idiv_o (by with_reducible assumption) (by with_reducible assumption) (by with_reducible assumption) (by k_dflt rfl) ?_) | (with_reducible refine Mine.idiv_l (by with_reducible assumption) (by with_reducible assumption) (by k_dflt rfl) ?_)); intro _ hf0))
local macro_rules | `(tactic| walk_at "binaryOp Mult float int") => `(tactic| ((with_reducible refine Mine.fmul (by with_reducible assumption) (by with_reducible assumption) (by with_reducible assumption) (by k_dflt rfl) ?_); intro _ hf0))
local macro_rules | `(tactic| walk_at "binaryOp Add float int") => `(tactic| ((with_reducible refine Mine.fadd (by with_reducible assumption) (by with_reducible assumption) (by with_reducible assumption) (by with_reducible assumption) (by k_dflt rfl) ?_); intro _ hf0))
local macro_rules | `(tactic| walk_at "InvEndN") => `(tactic| kst_close)

set_option maxRecDepth 100000 in
set_option maxHeartbeats 8000000 in
theorem PySem.Challenge.cw_fv0018_01_holds : PySem.Challenge.rw_fv0018_01.Holds := by
  k_with "exec While Compare cons nil" => k_while (fun _ nums => 0 ≤ nums.length ∧ nums.length ≤ 15) (fun _ nums => 3 - nums.length) "numbers"
  k_with "pyIter ref" => k_state (fun _ r => r = true) "right"
  open_k
