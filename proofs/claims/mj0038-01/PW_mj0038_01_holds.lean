import PyProof.Rows.All
import Wide.All
import OpenK.AllK
import Wide.FinOn
import PySem.Challenge.RW_mj0038_01
set_option Elab.async false

namespace Mine
open PySem PySem.W PyProof.Rows
set_option maxRecDepth 100000 in
set_option maxHeartbeats 8000000 in
open_top hd for PySem.Challenge.rw_mj0038_01
end Mine

namespace Mine
open PySem PySem.W PyProof.Rows
open PySem.Float64
/-- x is the float n / 4096, exactly, and it bears no minus sign -/
def IsF (x : UInt64) (n : Nat) : Prop := ∃ t, x = pack false t ∧ t < infMag ∧ V t = n * 2 ^ 1062

theorem exists_t {n : Nat} (h : n < 2 ^ 53) : ∃ t, t < infMag ∧ V t = n * 2 ^ 1062 := by
  by_cases h0 : n = 0
  · subst h0
    exact ⟨0, by decide, by rw [V_zero]; simp⟩
  · have hl : n.log2 < 53 := (Nat.log2_lt h0).mpr h
    have h1 : 2 ^ n.log2 ≤ n := Nat.log2_self_le h0
    have h2 : n < 2 ^ (n.log2 + 1) := Nat.lt_log2_self
    have e1 : n.log2 + (52 - n.log2) = 52 := by omega
    have e2 : n.log2 + 1 + (52 - n.log2) = 53 := by omega
    have hq1 : 2 ^ 52 ≤ n * 2 ^ (52 - n.log2) := by
      calc 2 ^ 52 = 2 ^ n.log2 * 2 ^ (52 - n.log2) := by rw [← Nat.pow_add, e1]
        _ ≤ _ := Nat.mul_le_mul_right _ h1
    have hq2 : n * 2 ^ (52 - n.log2) < 2 ^ 53 := by
      calc n * 2 ^ (52 - n.log2) < 2 ^ (n.log2 + 1) * 2 ^ (52 - n.log2) := Nat.mul_lt_mul_of_pos_right h2 (Nat.two_pow_pos _)
        _ = 2 ^ 53 := by rw [← Nat.pow_add, e2]
    refine ⟨(1062 - (52 - n.log2)) * 2 ^ 52 + n * 2 ^ (52 - n.log2), ?_, ?_⟩
    · have : infMag = 2047 * 2 ^ 52 := rfl
      rw [this]
      generalize n * 2 ^ (52 - n.log2) = q at *
      omega
    · rw [V_at (Nat.le_of_lt hq2) (.inl hq1), Nat.mul_assoc, ← Nat.pow_add]
      congr 2
      omega
theorem V_inj {t t' : Nat} (h : V t = V t') : t = t' := by
  rcases Nat.lt_trichotomy t t' with q | q | q
  · have := V_lt q; omega
  · exact q
  · have := V_lt q; omega
theorem IsF.eq {x y : UInt64} {n : Nat} (hx : IsF x n) (hy : IsF y n) : x = y := by
  obtain ⟨t, rfl, _, e⟩ := hx
  obtain ⟨t', rfl, _, e'⟩ := hy
  rw [V_inj (e.trans e'.symm)]
theorem dist_self (a : Nat) : Float64.dist a a = 0 := by unfold Float64.dist; omega
theorem of_dist {a b : Nat} (h : Float64.dist a b ≤ 0) : a = b := by unfold Float64.dist at h; omega
theorem IsF.of_right {x : UInt64} {n W D : Nat} (hD : 0 < D) (hn : n < 2 ^ 53) (hW : W = D * (n * 2 ^ 1062)) (h : Right x false W D) : IsF x n := by
  obtain ⟨t, hx, hle, hov, hr⟩ := h
  obtain ⟨t', ht', hV'⟩ := exists_t hn
  have hlt : t < infMag := by
    refine Nat.lt_of_le_of_ne hle fun e => absurd (hov.mp e) (Nat.not_le.mpr ?_)
    rw [hW]
    have e1 : (2 : Nat) ^ 2045 = 2 ^ 983 * 2 ^ 1062 := by rw [← Nat.pow_add]
    have e2 : 2 * (D * (n * 2 ^ 1062)) = D * (2 * n * 2 ^ 1062) := by generalize (2 : Nat) ^ 1062 = K; ac_rfl
    have e3 : (2 ^ 54 - 1) * 2 ^ 2045 = ((2 ^ 54 - 1) * 2 ^ 983) * 2 ^ 1062 := by rw [e1, Nat.mul_assoc]
    rw [e2, e3]
    refine Nat.mul_lt_mul_of_pos_left (Nat.mul_lt_mul_of_pos_right ?_ (Nat.two_pow_pos _)) hD
    have h1 : 1 ≤ (2 : Nat) ^ 983 := Nat.one_le_two_pow
    generalize (2 : Nat) ^ 983 = J at *
    omega
  refine ⟨t, hx, hlt, ?_⟩
  have := (hr hlt t').1
  rw [hV', ← hW, dist_self] at this
  have := of_dist this
  rw [hW] at this
  exact (Nat.eq_of_mul_eq_mul_left hD this).symm
def F (n : Nat) : UInt64 := ofFrac false n 4096
theorem isF_F {n : Nat} (h : n < 2 ^ 53) : IsF (F n) n := by
  refine IsF.of_right (D := 1) (W := n * 2 ^ 1062) (by decide) h (by omega) (ofFrac_right (by decide) ?_ (by decide))
  have e1 : (2 : Nat) ^ 1074 = 2 ^ 1062 * 4096 := by rw [show (4096 : Nat) = 2 ^ 12 from rfl, ← Nat.pow_add]
  rw [Nat.mul_one, Nat.mul_assoc, e1]
theorem IsF.decode {x : UInt64} {n : Nat} (h : IsF x n) : ∃ m e, decode x = .fin false m e ∧ m * 2 ^ (e + 1074).toNat = n * 2 ^ 1062 := by
  obtain ⟨t, rfl, ht, e⟩ := h
  obtain ⟨m, k, h1, h2⟩ := decode_pack false ht
  exact ⟨m, k, h1, h2.trans e⟩
theorem IsF.val {x : UInt64} {n : Nat} (h : IsF x n) : Float64.val x = ((n * 2 ^ 1062 : Nat) : Int) := by
  obtain ⟨t, rfl, ht, e⟩ := h
  rw [val_pack false ht, e]
  rfl
theorem IsF.mul {x y : UInt64} {a b c : Nat} (hx : IsF x a) (hy : IsF y b) (h : a * b = 4096 * c) (hc : c < 2 ^ 53) : IsF (Float64.mul x y) c := by
  obtain ⟨m, e, d1, _⟩ := hx.decode
  obtain ⟨k, f, d2, _⟩ := hy.decode
  have r := mul_right d1 d2
  rw [hx.val, hy.val, Int.natAbs_natCast, Int.natAbs_natCast] at r
  refine IsF.of_right (Nat.two_pow_pos _) hc ?_ r
  have e1 : (2 : Nat) ^ 1074 = 4096 * 2 ^ 1062 := by rw [show (4096 : Nat) = 2 ^ 12 from rfl, ← Nat.pow_add]
  rw [e1]
  generalize (2 : Nat) ^ 1062 = K at *
  calc a * K * (b * K) = a * b * (K * K) := by ac_rfl
    _ = 4096 * c * (K * K) := by rw [h]
    _ = _ := by ac_rfl
theorem IsF.sub {x y : UInt64} {a b c : Nat} (hx : IsF x a) (hy : IsF y b) (h : a = b + c) (ha : a < 2 ^ 53) : IsF (Float64.sub x y) c := by
  obtain ⟨m, e, d1, _⟩ := hx.decode
  obtain ⟨k, f, d2, _⟩ := hy.decode
  have r := sub_right d1 d2
  have hv : Float64.val x - Float64.val y = ((c * 2 ^ 1062 : Nat) : Int) := by
    rw [hx.val, hy.val, h, Nat.add_mul]
    omega
  rw [hv] at r
  by_cases h0 : c = 0
  · subst h0
    refine ⟨0, ?_, by decide, by rw [V_zero]; simp⟩
    rw [r.1 (by simp)]
    rfl
  · have hne : ((c * 2 ^ 1062 : Nat) : Int) ≠ 0 := by
      have : 0 < c * 2 ^ 1062 := Nat.mul_pos (by omega) (Nat.two_pow_pos _)
      omega
    have r2 := r.2 hne
    rw [Int.natAbs_natCast, decide_eq_false (by omega)] at r2
    exact IsF.of_right (by decide) (by omega) (by omega) r2
theorem IsF.ofInt {i : Int} (h : 0 ≤ i) (hi : i < 2 ^ 40) : IsF (ofInt i) (4096 * i.toNat) := by
  have r := ofInt_right i
  rw [decide_eq_false (by omega)] at r
  refine IsF.of_right (by decide) (by omega) ?_ r
  have e1 : (2 : Nat) ^ 1074 = 4096 * 2 ^ 1062 := by rw [show (4096 : Nat) = 2 ^ 12 from rfl, ← Nat.pow_add]
  rw [e1, show i.natAbs = i.toNat by omega]
  generalize (2 : Nat) ^ 1062 = K at *
  rw [Nat.one_mul]
  ac_rfl
theorem cmp_scale (p q K : Int) (hK : 0 < K) : compare (p * K) (q * K) = compare p q := by
  rcases Int.lt_trichotomy p q with h | h | h
  · rw [Int.compare_eq_lt.mpr h, Int.compare_eq_lt.mpr (Int.mul_lt_mul_of_pos_right h hK)]
  · subst h; simp
  · rw [Int.compare_eq_gt.mpr h, Int.compare_eq_gt.mpr (Int.mul_lt_mul_of_pos_right h hK)]
theorem K_pos : (0 : Int) < ((2 ^ 1062 : Nat) : Int) := Int.ofNat_lt.mpr (Nat.two_pow_pos _)
theorem IsF.cmp {x y : UInt64} {a b : Nat} (hx : IsF x a) (hy : IsF y b) : Float64.cmp x y = some (compare (a : Int) b) := by
  obtain ⟨m, e, d1, _⟩ := hx.decode
  obtain ⟨k, f, d2, _⟩ := hy.decode
  rw [cmp_right d1 d2, hx.val, hy.val, Int.natCast_mul, Int.natCast_mul, cmp_scale _ _ _ K_pos]
theorem IsF.cmpInt {x : UInt64} {a : Nat} (hx : IsF x a) (i : Int) : Float64.cmpInt x i = some (compare (a : Int) (4096 * i)) := by
  obtain ⟨m, e, d1, _⟩ := hx.decode
  have e1 : i * 2 ^ 1074 = 4096 * i * ((2 ^ 1062 : Nat) : Int) := by
    rw [Int.natCast_pow]
    have : (2 : Int) ^ 1074 = 4096 * 2 ^ 1062 := by rw [show (4096 : Int) = 2 ^ 12 from rfl, ← Int.pow_add]
    rw [this]
    generalize (2 : Int) ^ 1062 = K
    show i * (4096 * K) = 4096 * i * K
    rw [← Int.mul_assoc, Int.mul_comm i]
  rw [cmpInt_right d1, hx.val, Int.natCast_mul, e1, cmp_scale _ _ _ K_pos]
theorem IsF.trunc {x : UInt64} {a : Nat} (hx : IsF x a) : Flt.toInt Float64.truncOf x = ((a / 4096 : Nat) : Int) := by
  obtain ⟨m, e, d1, hv⟩ := hx.decode
  have he := decode_ge d1
  have e1 : (2 : Nat) ^ 1074 = 2 ^ 1062 * 4096 := by rw [show (4096 : Nat) = 2 ^ 12 from rfl, ← Nat.pow_add]
  have hK : 0 < (2 : Nat) ^ 1062 := Nat.two_pow_pos _
  unfold Flt.toInt
  rw [d1]
  show (if e ≥ 0 then sgn false m * 2 ^ e.toNat else (sgn false m).fdiv (2 ^ (-e).toNat)) = _
  split
  · have e2 : (e + 1074).toNat = e.toNat + 1074 := by omega
    rw [e2, Nat.pow_add, e1] at hv
    have : a = m * 2 ^ e.toNat * 4096 := by
      refine Nat.eq_of_mul_eq_mul_right hK ?_
      rw [← hv]
      generalize (2 : Nat) ^ 1062 = K
      ac_rfl
    rw [this, Nat.mul_div_cancel _ (by decide)]
    show (m : Int) * 2 ^ e.toNat = _
    rw [Int.natCast_mul, Int.natCast_pow]
    rfl
  · have e2 : (-e).toNat + (e + 1074).toNat = 1074 := by omega
    have : a / 4096 = m / 2 ^ (-e).toNat := by
      rw [← Nat.mul_div_mul_right m (2 ^ (-e).toNat) (Nat.two_pow_pos (e + 1074).toNat), ← Nat.pow_add, e2, hv, e1, Nat.mul_comm (2 ^ 1062) 4096, Nat.mul_div_mul_right _ _ hK]
    rw [this]
    show (m : Int).fdiv (2 ^ (-e).toNat) = _
    rw [Int.fdiv_eq_ediv_of_nonneg _ (Int.le_of_lt (Int.pow_pos (by decide))), Int.natCast_ediv, Int.natCast_pow]
    rfl
theorem F_0 : F 0 = 0 := by decide +kernel
theorem F_1 : F 4096 = 4607182418800017408 := by decide +kernel
theorem F_6 : F 24576 = 4618441417868443648 := by decide +kernel
theorem isF0 : IsF 0 0 := by rw [← F_0]; exact isF_F (by decide)
theorem isF1 : IsF 4607182418800017408 4096 := by rw [← F_1]; exact isF_F (by decide)
theorem isF6 : IsF 4618441417868443648 24576 := by rw [← F_6]; exact isF_F (by decide)
theorem IsF.fin {x : UInt64} {a : Nat} (hx : IsF x a) : Float64.isFinite x = true ∧ Float64.isNaN x = false ∧ Float64.isInf x = false := by
  obtain ⟨m, e, d1, _⟩ := hx.decode
  unfold Float64.isFinite Float64.isNaN Float64.isInf
  rw [d1]
  exact ⟨rfl, rfl, rfl⟩
end Mine

namespace Mine
open PySem PySem.W PyProof.Rows
/-- the setting in which a def of the text is called; R: what it hands back -/
abbrev Claim (w : World) (mg mb : Str → Option Value) (mean : ExcName → Option Value) (r : Nat) (f : Addr) (vs : List Value) (news : List (Addr × Obj)) (R : Heap → Addr → (Str → Option Value) → Shared → (Value → Shared → Prop) → Prop) : Prop :=
  ∀ (dp un : Nat) (gd : Option (List Code)) (cn : Str) (cs : Scope) (a : Addr) (ccd : Value) (cl : List (Str × Addr)) (outer : List Env) (A₀ : Around) (base h₀ : Heap) (L : Addr) (m : Str → Option Value) (s : Shared) (Q E : Value → Shared → Prop),
    Below A₀ base outer h₀ → Fr h₀ L s.heap m → (hd.heap_39 w.params).In h₀ → News h₀ L s.heap news → Top hd.view_39 (looseW hd.view_39 []) mean mg mb h₀ → cs.kind = .function →
    dp + r < recursionLimit → un + 100 * r < cLine → R h₀ L m s Q →
      wpAny (model (OpenLaw.prog Challenge.rw_mj0038_01) w) (ktrTop dp un gd cn cs L a ccd cl outer) (call (.ref f) vs) Q E s
theorem Claim.go {w : World} {mg mb : Str → Option Value} {mean : ExcName → Option Value} {r : Nat} {f : Addr} {vs : List Value} {news : List (Addr × Obj)} {R : Heap → Addr → (Str → Option Value) → Shared → (Value → Shared → Prop) → Prop} (C : Claim w mg mb mean r f vs news R)
    {dp un : Nat} {gd : Option (List Code)} {cn : Str} {cs : Scope} {a : Addr} {ccd : Value} {cl : List (Str × Addr)} {outer : List Env} {A₀ : Around} {base h₀ : Heap} {L : Addr} {m : Str → Option Value} {s : Shared} {Q E : Value → Shared → Prop}
    (hB : Below A₀ base outer h₀) (hF : Fr h₀ L s.heap m) (hK : (hd.heap_39 w.params).In h₀) (hN : News h₀ L s.heap news) (hT : Top hd.view_39 (looseW hd.view_39 []) mean mg mb h₀) (hk : cs.kind = .function)
    (hd : dp + r < recursionLimit) (hu : un + 100 * r < cLine) (h : R h₀ L m s Q) : wpAny (model (OpenLaw.prog Challenge.rw_mj0038_01) w) (ktrTop dp un gd cn cs L a ccd cl outer) (call (.ref f) vs) Q E s :=
  C dp un gd cn cs a ccd cl outer A₀ base h₀ L m s Q E hB hF hK hN hT hk hd hu h
/-- where the walk is to halt -/
def Stop (p : Prop) : Prop := p
theorem Stop.of {p : Prop} (h : Stop p) : p := h
theorem Stop.to {p : Prop} (h : p) : Stop p := h
/-- the middle component, in parts of 4096 -/
def mid (k : Nat) : Nat := if 6 * k / 4096 % 2 = 0 then 6 * k % 4096 else 4096 - 6 * k % 4096
/-- a, b, c are 0, n, 4096, in some order -/
def Three (a b c : UInt64) (n : Nat) : Prop :=
  (IsF a 4096 ∧ IsF b n ∧ IsF c 0) ∨ (IsF a n ∧ IsF b 4096 ∧ IsF c 0) ∨ (IsF a 0 ∧ IsF b 4096 ∧ IsF c n) ∨
  (IsF a 0 ∧ IsF b n ∧ IsF c 4096) ∨ (IsF a n ∧ IsF b 0 ∧ IsF c 4096) ∨ (IsF a 4096 ∧ IsF b 0 ∧ IsF c n)
/-- what hsv_to_rgb reckons, in exact floats -/
structure HsvF (x : UInt64) (k : Nat) : Prop where
  six : IsF (Float64.mul x 4618441417868443648) (6 * k)
  tr : Flt.toInt Float64.truncOf (Float64.mul x 4618441417868443648) = ((6 * k / 4096 : Nat) : Int)
  p : IsF (Float64.mul 4607182418800017408 (Float64.sub 4607182418800017408 4607182418800017408)) 0
  q : IsF (Float64.mul 4607182418800017408 (Float64.sub 4607182418800017408 (Float64.mul 4607182418800017408 (Float64.sub (Float64.mul x 4618441417868443648) (Float64.ofInt (Flt.toInt Float64.truncOf (Float64.mul x 4618441417868443648))))))) (4096 - 6 * k % 4096)
  t : IsF (Float64.mul 4607182418800017408 (Float64.sub 4607182418800017408 (Float64.mul 4607182418800017408 (Float64.sub 4607182418800017408 (Float64.sub (Float64.mul x 4618441417868443648) (Float64.ofInt (Flt.toInt Float64.truncOf (Float64.mul x 4618441417868443648)))))))) (6 * k % 4096)
theorem IsF.one_mul {x : UInt64} {a : Nat} (h : IsF x a) (ha : a < 2 ^ 53) : IsF (Float64.mul 4607182418800017408 x) a := isF1.mul h rfl ha
theorem IsF.one_sub {x : UInt64} {a : Nat} (h : IsF x a) (ha : a ≤ 4096) : IsF (Float64.sub 4607182418800017408 x) (4096 - a) := isF1.sub h (by omega) (by decide)
theorem hsvF {x : UInt64} {k : Nat} (hx : IsF x k) (hk : k ≤ 4096) : HsvF x k := by
  have six : IsF (Float64.mul x 4618441417868443648) (6 * k) := hx.mul isF6 (by omega) (by omega)
  have tr := six.trunc
  have hi : IsF (Float64.ofInt (Flt.toInt Float64.truncOf (Float64.mul x 4618441417868443648))) (4096 * (6 * k / 4096)) := by
    rw [tr]
    have := IsF.ofInt (i := ((6 * k / 4096 : Nat) : Int)) (by omega) (by omega)
    rwa [Int.toNat_natCast] at this
  have f : IsF (Float64.sub (Float64.mul x 4618441417868443648) (Float64.ofInt (Flt.toInt Float64.truncOf (Float64.mul x 4618441417868443648)))) (6 * k % 4096) := six.sub hi (by omega) (by omega)
  have hm : 6 * k % 4096 ≤ 4096 := by omega
  refine ⟨six, tr, ?_, ?_, ?_⟩
  · exact IsF.one_mul (isF1.one_sub (by omega)) (by omega)
  · exact IsF.one_mul (IsF.one_sub (IsF.one_mul f (by omega)) hm) (by omega)
  · have h1 := IsF.one_sub (IsF.one_mul (IsF.one_sub f hm) (by omega)) (by omega)
    have e : 4096 - (4096 - 6 * k % 4096) = 6 * k % 4096 := by omega
    rw [e] at h1
    exact IsF.one_mul h1 (by omega)

theorem HsvF.fm {x : UInt64} {k : Nat} (H : HsvF x k) : (Flt.toInt Float64.truncOf (Float64.mul x 4618441417868443648)).fmod 6 = ((6 * k / 4096 % 6 : Nat) : Int) := by
  rw [H.tr, Int.fmod_eq_emod_of_nonneg _ (by decide)]
  omega
theorem HsvF.even {x : UInt64} {k : Nat} (H : HsvF x k) {i : Int} (e : (Flt.toInt Float64.truncOf (Float64.mul x 4618441417868443648)).fmod 6 = i) (hi : i % 2 = 0) : mid k = 6 * k % 4096 := by
  rw [H.fm] at e
  unfold mid
  rw [if_pos (by omega)]
theorem HsvF.odd {x : UInt64} {k : Nat} (H : HsvF x k) {i : Int} (e : (Flt.toInt Float64.truncOf (Float64.mul x 4618441417868443648)).fmod 6 = i) (hi : i % 2 = 1) : mid k = 4096 - 6 * k % 4096 := by
  rw [H.fm] at e
  unfold mid
  rw [if_neg (by omega)]
theorem HsvF.t' {x : UInt64} {k : Nat} (H : HsvF x k) {i : Int} (e : (Flt.toInt Float64.truncOf (Float64.mul x 4618441417868443648)).fmod 6 = i) (hi : i % 2 = 0) : IsF (Float64.mul 4607182418800017408 (Float64.sub 4607182418800017408 (Float64.mul 4607182418800017408 (Float64.sub 4607182418800017408 (Float64.sub (Float64.mul x 4618441417868443648) (Float64.ofInt (Flt.toInt Float64.truncOf (Float64.mul x 4618441417868443648)))))))) (mid k) := by
  rw [H.even e hi]; exact H.t
theorem HsvF.q' {x : UInt64} {k : Nat} (H : HsvF x k) {i : Int} (e : (Flt.toInt Float64.truncOf (Float64.mul x 4618441417868443648)).fmod 6 = i) (hi : i % 2 = 1) : IsF (Float64.mul 4607182418800017408 (Float64.sub 4607182418800017408 (Float64.mul 4607182418800017408 (Float64.sub (Float64.mul x 4618441417868443648) (Float64.ofInt (Flt.toInt Float64.truncOf (Float64.mul x 4618441417868443648))))))) (mid k) := by
  rw [H.odd e hi]; exact H.q
theorem one_not_zero : ¬ (Float64.cmp 4607182418800017408 0 == some Ordering.eq) = true := by decide +kernel
theorem HsvF.no_over {x : UInt64} {k : Nat} (H : HsvF x k) (hk : k ≤ 4096) : ¬ 2 ^ 1024 - 2 ^ 970 ≤ (Flt.toInt Float64.truncOf (Float64.mul x 4618441417868443648)).natAbs := by
  rw [H.tr]
  have h1 : (2 : Nat) ^ 1024 - 2 ^ 970 ≥ 2 ^ 100 := by decide +kernel
  generalize (2 : Nat) ^ 1024 - 2 ^ 970 = K at *
  omega
theorem HsvF.six_of {x : UInt64} {k : Nat} (H : HsvF x k) (h0 : (Flt.toInt Float64.truncOf (Float64.mul x 4618441417868443648)).fmod 6 ≠ 0) (h1 : (Flt.toInt Float64.truncOf (Float64.mul x 4618441417868443648)).fmod 6 ≠ 1) (h2 : (Flt.toInt Float64.truncOf (Float64.mul x 4618441417868443648)).fmod 6 ≠ 2) (h3 : (Flt.toInt Float64.truncOf (Float64.mul x 4618441417868443648)).fmod 6 ≠ 3) (h4 : (Flt.toInt Float64.truncOf (Float64.mul x 4618441417868443648)).fmod 6 ≠ 4) (h5 : (Flt.toInt Float64.truncOf (Float64.mul x 4618441417868443648)).fmod 6 ≠ 5) : False := by
  rw [H.fm] at *
  omega

set_option maxRecDepth 100000 in
set_option maxHeartbeats 8000000 in
theorem hsv (w : World) (mg mb : Str → Option Value) (mean : ExcName → Option Value) (news : List (Addr × Obj)) (x : UInt64) (k : Nat) (t1 t2 t3 : Tok) (hx : IsF x k) (hk : k ≤ 4096) :
   Claim w mg mb mean 1 21 [.float x t1, .float 4607182418800017408 t2, .float 4607182418800017408 t3] news (fun h₀ L m s Q => 
     ∀ (h' : Heap) (tk' : Nat) (D : Addr) (a b c : UInt64) (ta tb tc : Tok), Fr h₀ L h' m → News h₀ L h' ((D, ({ cls := .type "tuple", data := .seq #[.float a ta, .float b tb, .float c tc] } : Obj)) :: news) → (∀ p ∈ news, p.1 < D) → Three a b c (mid k) → Q (.ref D) { s with heap := h', toks := tk' }) := by
  unfold Claim
  have H := hsvF hx hk
  w_on
  w_top on
  k_fill
  intro dp un gd cn cs a ccd cl outer A₀ base h₀ L m s Q E hB hF hK hN hT hkk hdp hun hret
  refine wpAny_call ?_
  k_dflt cell_enter
  k_steps
  · exact absurd (by assumption) one_not_zero
  · exact absurd ((by assumption : Float64.isNaN (Float64.mul x 4618441417868443648) = true).symm.trans H.six.fin.2.1) (by decide)
  · exact absurd ((by assumption : Float64.isInf (Float64.mul x 4618441417868443648) = true).symm.trans H.six.fin.2.2) (by decide)
  · exact absurd (by assumption) (H.no_over hk)
  · exact hret _ _ _ _ _ _ _ _ _ (by assumption) (by assumption) (by assumption) (.inl ⟨isF1, H.t' (by assumption) (by decide), H.p⟩)
  · exact hret _ _ _ _ _ _ _ _ _ (by assumption) (by assumption) (by assumption) (.inr (.inl ⟨H.q' (by assumption) (by decide), isF1, H.p⟩))
  · exact hret _ _ _ _ _ _ _ _ _ (by assumption) (by assumption) (by assumption) (.inr (.inr (.inl ⟨H.p, isF1, H.t' (by assumption) (by decide)⟩)))
  · exact hret _ _ _ _ _ _ _ _ _ (by assumption) (by assumption) (by assumption) (.inr (.inr (.inr (.inl ⟨H.p, H.q' (by assumption) (by decide), isF1⟩))))
  · exact hret _ _ _ _ _ _ _ _ _ (by assumption) (by assumption) (by assumption) (.inr (.inr (.inr (.inr (.inl ⟨H.t' (by assumption) (by decide), H.p, isF1⟩)))))
  · exact hret _ _ _ _ _ _ _ _ _ (by assumption) (by assumption) (by assumption) (.inr (.inr (.inr (.inr (.inr ⟨isF1, H.p, H.q' (by assumption) (by decide)⟩)))))
  · exact (H.six_of (by assumption) (by assumption) (by assumption) (by assumption) (by assumption) (by assumption)).elim
end Mine

namespace Mine
open PySem PySem.W PyProof.Rows PySem.Calls
section
variable {prog : Program} {w : World} {A : Around} {E : Value → Shared → Prop} {s : Shared} {h₀ : Heap} {L : Addr} {m : Str → Option Value} {news : List (Addr × Obj)}
/-- one question of the sort, of two floats -/
theorem lt_float {a b : UInt64} {t u : Tok} {Q : Bool → Shared → Prop} (h : Q (Float64.cmp a b == some .lt) s) : wpAny (model prog w) A (keyLt' oneType' (.float a t) (.float b u)) Q E s := by
  rw [keyLt'_oneType, oneLt'_eq]
  simp only [if_true]
  refine wpAny_bind (wpAny_cRoomFor_byValue rfl ?_)
  refine wpAny_bind (wpAny_callSpecialIfBound?_slot (AutoFloatOps.typeIs_float s a t) PySem.F.slot_float_lt ?_)
  refine call_gives PySem.F.slot_float_lt (AutoFloatOps.typeIs_float s a t) PySem.F.entry_float_lt (PySem.F.args_float_lt_2 _ _) (AutoFloatG5.float___lt___float_float_0 a t b u) ?_
  exact wpAny_truthy_bool h
/-- what `list += t` adds to a fresh list: the items of a tuple t -/
theorem extend_tup {l S : Addr} {vs : List Value} {Q : PySem.Fin → Shared → Prop} (hl : s.heap.IsTuple l vs.toArray) (hS : s.heap.get? S = some (seqObj "list" #[] 0)) (hsz : vs.length ≤ sizeLine)
    (h : Q (.done (.ret (.ref S))) { s with heap := s.heap.update S (Obj.mapSeq (· ++ vs.toArray)) }) : wpAny (model prog w) A (Builtin.List.listExtendWith (.ref S) (.ref l) (.ref S)) Q E s := by
  obtain ⟨o, ho, hc, n, hd⟩ := hl
  have hq : (Builtin.List.listSameRef (.ref S) (.ref l) || Value.type "tuple" == Value.type "list" || Value.type "tuple" == Value.type "tuple") = true := by
    rw [show (Value.type "tuple" == Value.type "tuple") = true from rfl, Bool.or_true]
  have hz : (#[] ++ vs.toArray).size ≤ sizeLine + 1 := by
    rw [Array.size_append, List.size_toArray]
    exact Nat.le_succ_of_le (Nat.le_trans (Nat.le_of_eq (Nat.zero_add _)) hsz)
  show wpAny (model prog w) A (typeOf (.ref l) >>= fun t => _) Q E s
  refine wpAny_bind (wpAny_typeOf (T := "tuple") ⟨o, ho, hc⟩ ?_)
  rw [if_pos hq]
  exact wpAny_bind (listItems_at ho hd (wpAny_bind (listItems_at hS rfl (wpAny_bind (listUpdate_at hS rfl (wpAny_pure h) (Nat.zero_le _) hz)))))
/-- a tuple's items, collected; the frame and the ledger stand -/
theorem collect_tup {l : Addr} {vs : List Value} {Q : List Value → Shared → Prop} (F : Fr h₀ L s.heap m) (N : News h₀ L s.heap news) (hl : s.heap.IsTuple l vs.toArray) (hsz : vs.length ≤ sizeLine)
    (h : ∀ h', Fr h₀ L h' m → News h₀ L h' news → Q vs { s with heap := h' }) : wpAny (model prog w) A (collect (.ref l)) Q E s := by
  let S := s.heap.objs.size
  let g := s.heap.push (seqObj "list" #[] 0)
  have hS : g.get? S = some (seqObj "list" #[] 0) := Heap.get?_push_size _ rfl
  have up := Heap.SameBut.update g S (Obj.mapSeq (· ++ vs.toArray))
  have hl' : g.IsTuple l vs.toArray := by
    obtain ⟨o, ho, r⟩ := hl
    exact ⟨o, Heap.get?_push_of_some _ ho, r⟩
  have F' := kas_fr (F.push (seqObj "list" #[] 0)) up (Nat.ne_of_gt F.ns.lt) (next_is_new F)
  have N' := kas_news (N.pushKeep (seqObj "list" #[] 0)) up fun p hp => Nat.ne_of_lt (Heap.lt_size (N p hp).1)
  have hend := h _ F' N'
  unfold collect
  refine wpAny_bind (wpAny_runValue (codeAny_builtin entry_proto_collect' ?_))
  refine wpAny_bind (m := newList []) (wpAny_newList (wpAny_pure ⟨Code.quiet_builtin _ (by decide +kernel), codeAny_builtin entry_list_iadd' (extend_tup (s := { s with heap := g }) hl' hS hsz ?_)⟩) (Nat.zero_le _))
  refine wpAny_bind (wpAny_load (get?_update_seq hS _) ?_)
  have e : ((#[] : Array Value) ++ vs.toArray).toList = vs := by simp
  show wpAny _ _ (pure ((#[] : Array Value) ++ vs.toArray).toList) Q E _
  rw [e]
  exact wpAny_pure hend
/-- sorted(t), t a tuple of things of one kind: the items collected, a new list, list.sort -/
theorem sorted_tup {l : Addr} {vs : List Value} {T : Value} {Q : Value → Shared → Prop} (F : Fr h₀ L s.heap m) (N : News h₀ L s.heap news) (hl : s.heap.IsTuple l vs.toArray) (h2 : 2 ≤ vs.length) (h64 : vs.length < 64)
    (hT : ∀ h, ∀ v ∈ vs, Looks (model prog w) h (typeOf v) T) (hT1 : (T != Value.type "tuple" && (T != Value.type "int" && T == T)) = true)
    (h : ∀ D e1 h', Fr h₀ L h' m → News h₀ L h' ((D, seqObj "list" #[] e1) :: news) → (∀ q ∈ news, q.1 < D) →
      (kas_sort vs.length).kasWp (kas_ask prog w A.in1.in1 oneType' vs) (fun p s' => KasFin h₀ L m D e1 (p.toList.map fun i => vs.getD i Value.none) (fun s'' => Q (.ref D) s'') s') { s with heap := h' }) :
    wpAny (model prog w) A (call (.builtin "sorted") [.ref l]) Q E s := by
  have hfit : vs.length ≤ sizeLine := by rw [sizeLine_eq]; omega
  refine Calls.call_function_entry kind_sorted plain_sorted entry_sorted (args_sorted1 _) ?_
  refine wpAny_bind (m := checkCount "sorted" 1 1 _) (wpAny_pure ?_)
  refine wpAny_bind (collect_tup F N hl hfit fun h1 F1 N1 => ?_)
  refine wpAny_bind (newList_K F1 N1 (fun D h3 F3 N3 hD => ?_) hfit)
  refine wpAny_bind (wpAny_holding (kas_lsort F3 N3 (UpdF.head fun q hq => Nat.ne_of_lt (hD q hq)) rfl h2 h64 (fun e1 g _ _ => hT g) hT1 fun e1 g F4 N4 => ?_))
  rw [kas_ask_eq]
  have ask := h D e1 g F4 N4 hD
  rw [kas_ask_eq] at ask
  exact kas_wp_mono ask fun p s' hk => hk.mono fun s'' hq => wpAny_pure ⟨_, rfl, hq⟩
/-- a tree of questions about three items, answered by ranks -/
def run3 {α : Type} (r : Nat → Nat) : KasT α → Option α
  | .ret a => some a
  | .ask i j k => if i < 3 ∧ j < 3 then run3 r (k (decide (r i < r j))) else none
theorem run3_wp {α : Type} {r : Nat → Nat} {cmp : Nat → Nat → (Bool → Shared → Prop) → Shared → Prop} (hc : ∀ i j C s, i < 3 → j < 3 → C (decide (r i < r j)) s → cmp i j C s) {Q : α → Shared → Prop} {a : α} (s : Shared) (hq : Q a s) :
    ∀ t : KasT α, run3 r t = some a → t.kasWp cmp Q s
  | .ret b, e => by cases e; exact hq
  | .ask i j k, e => by
    unfold run3 at e
    split at e
    · rename_i hij
      exact hc i j _ s hij.1 hij.2 (run3_wp hc s hq _ e)
    · cases e
/-- ranks of three places -/
def rk (a b c : Nat) (i : Nat) : Nat := if i = 0 then a else if i = 1 then b else c
theorem rk_0 (a b c : Nat) : rk a b c 0 = a := rfl
theorem rk_1 (a b c : Nat) : rk a b c 1 = b := rfl
theorem rk_2 (a b c : Nat) : rk a b c 2 = c := rfl
theorem run3_abc {a b c : Nat} (h : a < 3 ∧ b < 3 ∧ c < 3) : ∃ i j k, run3 (rk a b c) (kas_sort 3) = some #[i, j, k] ∧ i < 3 ∧ j < 3 ∧ k < 3 ∧ i ≠ j ∧ i ≠ k ∧ j ≠ k ∧ rk a b c i ≤ rk a b c j ∧ rk a b c j ≤ rk a b c k := by
  obtain ⟨h1, h2, h3⟩ := h
  have e : ∀ a < 3, ∀ b < 3, ∀ c < 3, (match (run3 (rk a b c) (kas_sort 3)).map Array.toList with
      | some [i, j, k] => decide (i < 3 ∧ j < 3 ∧ k < 3 ∧ i ≠ j ∧ i ≠ k ∧ j ≠ k ∧ rk a b c i ≤ rk a b c j ∧ rk a b c j ≤ rk a b c k)
      | _ => false) = true := by decide +kernel
  have e := e a h1 b h2 c h3
  split at e
  · rename_i i j k hr
    refine ⟨i, j, k, ?_, of_decide_eq_true e⟩
    obtain ⟨p, hp, hp'⟩ := Option.map_eq_some_iff.mp hr
    rw [hp]
    exact congrArg some (Array.toList_inj.mp hp')
  · cases e
/-- sorted(t), t a tuple of three floats, whose ranks are known -/
theorem sorted3 {l : Addr} {x y z : UInt64} {tx ty tz : Tok} {a b c : Nat} {Q : Value → Shared → Prop} (F : Fr h₀ L s.heap m) (N : News h₀ L s.heap news) (hl : (l, ({ cls := .type "tuple", data := .seq #[.float x tx, .float y ty, .float z tz] } : Obj)) ∈ news)
    (hx : IsF x a) (hy : IsF y b) (hz : IsF z c)
    (h : ∀ (D : Addr) (e : Nat) (h' : Heap) (x' y' z' : UInt64) (tx' ty' tz' : Tok), Fr h₀ L h' m → News h₀ L h' ((D, W.listOf #[.float x' tx', .float y' ty', .float z' tz'] e) :: news) → (∀ q ∈ news, q.1 < D) →
      (∃ a' b' c', IsF x' a' ∧ IsF y' b' ∧ IsF z' c' ∧ a' + b' + c' = a + b + c ∧ (a' = a ∨ a' = b ∨ a' = c) ∧ (c' = a ∨ c' = b ∨ c' = c) ∧ a' ≤ a ∧ a' ≤ b ∧ a' ≤ c ∧ a ≤ c' ∧ b ≤ c' ∧ c ≤ c') → Q (.ref D) { s with heap := h' }) :
    wpAny (model prog w) A (call (.builtin "sorted") [.ref l]) Q E s := by
  -- the ranks
  obtain ⟨ra, rb, rc, hr, hab, hac, hbc⟩ : ∃ ra rb rc, (ra < 3 ∧ rb < 3 ∧ rc < 3) ∧ ((ra < rb ↔ a < b) ∧ (rb < ra ↔ b < a)) ∧ ((ra < rc ↔ a < c) ∧ (rc < ra ↔ c < a)) ∧ ((rb < rc ↔ b < c) ∧ (rc < rb ↔ c < b)) :=
    ⟨(if b < a then 1 else 0) + (if c < a then 1 else 0), (if a < b then 1 else 0) + (if c < b then 1 else 0), (if a < c then 1 else 0) + (if b < c then 1 else 0), by
      (repeat' split) <;> omega⟩
  obtain ⟨i, j, k, hrun, hi, hj, hk, hij, hik, hjk, hle1, hle2⟩ := run3_abc hr
  have hg : s.heap.IsTuple l [Value.float x tx, .float y ty, .float z tz].toArray := ⟨_, (N _ hl).1, rfl, _, rfl⟩
  refine sorted_tup F N hg (Nat.le_of_ble_eq_true rfl) (Nat.le_of_ble_eq_true rfl) (T := .type "float") (fun h v hv => ?_) (by decide +kernel) (fun D e1 h' F' N' hlt => ?_)
  · rcases List.mem_cons.mp hv with rfl | hv
    · exact Looks.of_pure rfl
    rcases List.mem_cons.mp hv with rfl | hv
    · exact Looks.of_pure rfl
    rcases List.mem_cons.mp hv with rfl | hv
    · exact Looks.of_pure rfl
    · cases hv
  have ask : ∀ p q C s, p < 3 → q < 3 → C (decide (rk ra rb rc p < rk ra rb rc q)) s → kas_ask prog w A.in1.in1 oneType' [Value.float x tx, .float y ty, .float z tz] p q C s := by
    intro p q C s hp hq hC
    unfold kas_ask
    have go : ∀ {u v : UInt64} {tu tv : Tok} {n n' : Nat}, IsF u n → IsF v n' → decide (rk ra rb rc p < rk ra rb rc q) = decide (n < n') → wpAny (model prog w) A.in1.in1 (keyLt' oneType' (.float u tu) (.float v tv)) C (fun _ _ => False) s := by
      intro u v tu tv n n' hu hv e
      refine lt_float ?_
      rw [hu.cmp hv]
      have : (some (compare (n : Int) (n' : Int)) == some Ordering.lt) = decide (n < n') := by
        by_cases hh : n < n'
        · rw [Int.compare_eq_lt.mpr (by omega), decide_eq_true hh]; rfl
        · rw [decide_eq_false hh]
          rcases Nat.lt_or_eq_of_le (Nat.le_of_not_lt hh) with q | q
          · rw [Int.compare_eq_gt.mpr (by omega)]; rfl
          · rw [Int.compare_eq_eq.mpr (by omega)]; rfl
      rw [this, ← e]
      exact hC
    match p, q, hp, hq with
    | 0, 0, _, _ => exact go hx hx (decide_eq_decide.mpr (by simp [rk]))
    | 0, 1, _, _ => exact go hx hy (decide_eq_decide.mpr hab.1)
    | 0, 2, _, _ => exact go hx hz (decide_eq_decide.mpr hac.1)
    | 1, 0, _, _ => exact go hy hx (decide_eq_decide.mpr hab.2)
    | 1, 1, _, _ => exact go hy hy (decide_eq_decide.mpr (by simp [rk]))
    | 1, 2, _, _ => exact go hy hz (decide_eq_decide.mpr hbc.1)
    | 2, 0, _, _ => exact go hz hx (decide_eq_decide.mpr hac.2)
    | 2, 1, _, _ => exact go hz hy (decide_eq_decide.mpr hbc.2)
    | 2, 2, _, _ => exact go hz hz (decide_eq_decide.mpr (by simp [rk]))
  refine run3_wp ask _ ?_ (kas_sort 3) hrun
  refine KasFin.intro F' N' (UpdF.head fun q hq => Nat.ne_of_lt (hlt q hq)) (fun h'' e F'' N'' => ?_)
  have hi : i = 0 ∨ i = 1 ∨ i = 2 := by omega
  have hj : j = 0 ∨ j = 1 ∨ j = 2 := by omega
  have hk : k = 0 ∨ k = 1 ∨ k = 2 := by omega
  rcases hi with rfl | rfl | rfl <;> rcases hj with rfl | rfl | rfl <;> rcases hk with rfl | rfl | rfl <;>
    first
    | exact absurd rfl hij
    | exact absurd rfl hik
    | exact absurd rfl hjk
    | (simp only [rk_0, rk_1, rk_2] at hle1 hle2
       refine h D e h'' _ _ _ _ _ _ F'' N'' hlt ⟨_, _, _, by assumption, by assumption, by assumption, ?_⟩
       omega)
/-- sorted(hsv_to_rgb(..)) -/
theorem sorted_three {l : Addr} {x y z : UInt64} {tx ty tz : Tok} {n : Nat} {Q : Value → Shared → Prop} (F : Fr h₀ L s.heap m) (N : News h₀ L s.heap news) (hl : (l, ({ cls := .type "tuple", data := .seq #[.float x tx, .float y ty, .float z tz] } : Obj)) ∈ news)
    (hT : Three x y z n) (hn : n ≤ 4096)
    (h : ∀ (D : Addr) (e : Nat) (h' : Heap) (x' y' z' : UInt64) (tx' ty' tz' : Tok), Fr h₀ L h' m → News h₀ L h' ((D, W.listOf #[.float x' tx', .float y' ty', .float z' tz'] e) :: news) → (∀ q ∈ news, q.1 < D) →
      IsF x' 0 → IsF y' n → IsF z' 4096 → Q (.ref D) { s with heap := h' }) :
    wpAny (model prog w) A (call (.builtin "sorted") [.ref l]) Q E s := by
  have go : ∀ {a b c : Nat}, IsF x a → IsF y b → IsF z c → a + b + c = n + 4096 → (a = 0 ∨ b = 0 ∨ c = 0) → (a = 4096 ∨ b = 4096 ∨ c = 4096) → a ≤ 4096 → b ≤ 4096 → c ≤ 4096 → wpAny (model prog w) A (call (.builtin "sorted") [.ref l]) Q E s := by
    intro a b c hx hy hz h1 h2 h3 h4 h5 h6
    refine sorted3 F N hl hx hy hz ?_
    rintro D e h' x' y' z' tx' ty' tz' F' N' hlt ⟨a', b', c', ha, hb, hc, g⟩
    have e1 : a' = 0 := by omega
    have e2 : c' = 4096 := by omega
    have e3 : b' = n := by omega
    subst e1 e2 e3
    exact h D e h' x' y' z' tx' ty' tz' F' N' hlt ha hb hc
  rcases hT with ⟨a, b, c⟩ | ⟨a, b, c⟩ | ⟨a, b, c⟩ | ⟨a, b, c⟩ | ⟨a, b, c⟩ | ⟨a, b, c⟩ <;> exact go a b c (by omega) (by omega) (by omega) (by omega) (by omega) (by omega)
end
end Mine

namespace Mine
open PySem PySem.W PyProof.Rows PySem.Calls
section
variable {prog : Program} {w : World} {A : Around} {E : Value → Shared → Prop} {s : Shared} {h₀ : Heap} {L : Addr} {m : Str → Option Value} {news : List (Addr × Obj)}
theorem eqBool_fi {a : UInt64} {n : Int} {t u : Tok} {Q : Bool → Shared → Prop} (h : Q (Float64.cmpInt a n == some .eq) s) : wpAny (model prog w) A (eqBool (.float a t) (.int n u)) Q E s := by
  unfold eqBool
  refine wpAny_holding ?_
  rw [if_neg (by intro e; have := eq_of_beq e; cases this)]
  exact wpAny_bind (eq_fi (wpAny_truthy_bool h))
/-- [x, y, z] != [a, b, c] is False: floats against the same ints -/
theorem ne3 {D1 D2 : Addr} {o1 o2 : Obj} {x y z : UInt64} {a b c : Int} {tx ty tz ta tb tc : Tok} {n1 n2 : Nat} {Q : Value → Shared → Prop} (N : News h₀ L s.heap news)
    (m1 : (D1, o1) ∈ news) (c1 : o1.cls = .type "list") (d1 : o1.data = .seq #[.float x tx, .float y ty, .float z tz] n1) (m2 : (D2, o2) ∈ news) (c2 : o2.cls = .type "list") (d2 : o2.data = .seq #[.int a ta, .int b tb, .int c tc] n2)
    (hx : Float64.cmpInt x a = some .eq) (hy : Float64.cmpInt y b = some .eq) (hz : Float64.cmpInt z c = some .eq) (hu : A.units < cLine) (h : Q (.bool false) s) :
    wpAny (model prog w) A (compareOp .NotEq (.ref D1) (.ref D2)) Q E s := by
  show wpAny _ A (richCompare .NotEq _ _) Q E s
  refine SeqAt.RcNeAt.lists (items := #[.float x tx, .float y ty, .float z tz]) (items2 := #[.int a ta, .int b tb, .int c tc]) (e := fun _ => true) ⟨o1, (N _ m1).1, c1, n1, d1⟩ ⟨o2, (N _ m2).1, c2, n2, d2⟩ rfl hu ?_ prog w E Q h
  intro j h1 h2 prog w E Q q
  have h1 : j < 3 := h1
  match j, h1 with
  | 0, _ => exact eqBool_fi (by rw [hx]; exact q)
  | 1, _ => exact eqBool_fi (by rw [hy]; exact q)
  | 2, _ => exact eqBool_fi (by rw [hz]; exact q)
/-- [] != [] is False -/
theorem ne0 {D1 D2 : Addr} {o1 o2 : Obj} {n1 n2 : Nat} {Q : Value → Shared → Prop} (N : News h₀ L s.heap news) (m1 : (D1, o1) ∈ news) (c1 : o1.cls = .type "list") (d1 : o1.data = .seq #[] n1) (m2 : (D2, o2) ∈ news) (c2 : o2.cls = .type "list") (d2 : o2.data = .seq #[] n2)
    (hu : A.units < cLine) (h : Q (.bool false) s) : wpAny (model prog w) A (compareOp .NotEq (.ref D1) (.ref D2)) Q E s := by
  show wpAny _ A (richCompare .NotEq _ _) Q E s
  refine SeqAt.RcNeAt.lists (items := #[]) (items2 := #[]) (e := fun _ => true) ⟨o1, (N _ m1).1, c1, n1, d1⟩ ⟨o2, (N _ m2).1, c2, n2, d2⟩ rfl hu ?_ prog w E Q h
  intro j h1
  exact absurd h1 (by simp)
end
/-- 4096 * x, x = n / 4096, is the int n -/
theorem IsF.times {x : UInt64} {n : Nat} (h : IsF x n) (hn : n ≤ 4096) {i : Int} (hi : i = (n : Int)) : Float64.cmpInt (Float64.mul (Float64.ofInt 4096) x) i = some .eq := by
  have h1 : IsF (Float64.ofInt 4096) (4096 * 4096) := IsF.ofInt (i := 4096) (by decide) (by decide)
  have h2 : IsF (Float64.mul (Float64.ofInt 4096) x) (4096 * n) := h1.mul h (by omega) (by omega)
  rw [h2.cmpInt, hi]
  rw [Int.compare_eq_eq.mpr (by omega)]
end Mine

namespace Mine
open PySem PySem.W PyProof.Rows PySem.Calls
/-- how far x lies from the nearest even number, in parts of 4096 -/
def tri (x : Int) : Int := if 8192 - x.fmod 8192 < x.fmod 8192 then 8192 - x.fmod 8192 else x.fmod 8192
theorem fmod_8192 (x : Int) : x.fmod 8192 = x % 8192 := Int.fmod_eq_emod_of_nonneg _ (by decide)
theorem tri_bounds (x : Int) : 0 ≤ tri x ∧ tri x ≤ 4096 := by
  unfold tri
  rw [fmod_8192]
  split <;> omega
theorem mid_le (n : Nat) : mid n ≤ 4096 := by unfold mid; split <;> omega
theorem mid_eq (n : Nat) : mid n = if 6 * n % 8192 < 4096 then 6 * n % 8192 else 8192 - 6 * n % 8192 := by
  have e : 6 * n % 8192 = 6 * n % 4096 + 4096 * (6 * n / 4096 % 2) := Nat.mod_mul (a := 4096) (b := 2)
  unfold mid
  (repeat' split) <;> omega
theorem mid_tri (x : Int) : (mid (tri x).toNat : Int) = tri (6 * x) := by
  rw [mid_eq]
  unfold tri
  rw [fmod_8192, fmod_8192]
  by_cases h : 8192 - x % 8192 < x % 8192
  · rw [if_pos h]
    have e1 : ((6 * (8192 - x % 8192).toNat % 8192 : Nat) : Int) = (6 * (8192 - x % 8192)) % 8192 := by omega
    have e2 : (6 * (8192 - x % 8192)) % 8192 = (-(6 * x)) % 8192 := by omega
    have e3 := e1.trans e2
    clear e1 e2
    generalize 6 * (8192 - x % 8192).toNat % 8192 = s at *
    generalize 6 * x = z at *
    have e4 : (-z) % 8192 + z % 8192 = 0 ∨ (-z) % 8192 + z % 8192 = 8192 := by omega
    have e5 : 0 ≤ z % 8192 ∧ z % 8192 < 8192 := by omega
    have e6 : 0 ≤ (-z) % 8192 ∧ (-z) % 8192 < 8192 := by omega
    generalize z % 8192 = u at *
    generalize (-z) % 8192 = v at *
    clear h
    (repeat' split) <;> omega
  · rw [if_neg h]
    have e1 : ((6 * (x % 8192).toNat % 8192 : Nat) : Int) = (6 * x) % 8192 := by omega
    generalize 6 * (x % 8192).toNat % 8192 = s at *
    generalize 6 * x = z at *
    (repeat' split) <;> omega
theorem tri_self {k : Int} (h0 : 0 ≤ k) (h : k ≤ 4096) : tri k = k := by
  unfold tri
  rw [fmod_8192]
  split <;> omega
/-- n turns lead from k to the place p by the sixths ts -/
inductive WalkTo (k : Int) : Nat → Int → List Int → Prop where
  | nil : WalkTo k 0 k []
  | cons {n : Nat} {p : Int} {ts : List Int} : WalkTo k n p ts → WalkTo k (n + 1) (mid p.toNat : Nat) (ts ++ [(6 * p).fdiv 4096])
theorem WalkTo.tri {k : Int} (h0 : 0 ≤ k) (hk : k ≤ 4096) {n : Nat} {p : Int} {ts : List Int} (h : WalkTo k n p ts) : p = Mine.tri (6 ^ n * k) ∧ ts.length = n := by
  induction h with
  | nil => exact ⟨by rw [Int.pow_zero, Int.one_mul, tri_self h0 hk], rfl⟩
  | cons _ ih =>
    refine ⟨?_, by rw [List.length_append, ih.2]; rfl⟩
    rw [ih.1, mid_tri, ← Int.mul_assoc, ← Int.pow_succ']
theorem WalkTo.bounds {k : Int} (h0 : 0 ≤ k) (hk : k ≤ 4096) {n : Nat} {p : Int} {ts : List Int} (h : WalkTo k n p ts) : 0 ≤ p ∧ p ≤ 4096 := by
  rw [(h.tri h0 hk).1]
  exact tri_bounds _
/-- a turn's next place, as the program reckons it -/
theorem WalkTo.next {k : Int} (h0 : 0 ≤ k) (hk : k ≤ 4096) {n : Nat} {p : Int} {ts : List Int} (h : WalkTo k n p ts) :
    (if 8192 - (6 ^ (1 + (n : Int)).toNat * k).fmod 8192 < (6 ^ (1 + (n : Int)).toNat * k).fmod 8192 then 8192 - (6 ^ (1 + (n : Int)).toNat * k).fmod 8192 else (6 ^ (1 + (n : Int)).toNat * k).fmod 8192) = ((mid p.toNat : Nat) : Int) := by
  have e : (1 + (n : Int)).toNat = n + 1 := by omega
  rw [e, (h.tri h0 hk).1, mid_tri, ← Int.mul_assoc, ← Int.pow_succ']
  rfl
/-- the sixths lie in 0 .. 6 -/
theorem WalkTo.small {k : Int} (h0 : 0 ≤ k) (hk : k ≤ 4096) {n : Nat} {p : Int} {ts : List Int} (h : WalkTo k n p ts) : ∀ t ∈ ts, 0 ≤ t ∧ t ≤ 6 := by
  induction h with
  | nil => intro t ht; cases ht
  | cons hw ih =>
    intro t ht
    rcases List.mem_append.mp ht with q | q
    · exact ih t q
    · rw [List.mem_singleton.mp q]
      have := hw.bounds h0 hk
      rw [Int.fdiv_eq_ediv_of_nonneg _ (by decide)]
      omega
/-- one step back -/
theorem back_mid {p : Int} (h0 : 0 ≤ p) (h : p ≤ 4096) : (4096 * (6 * p).fdiv 4096 + (if ((6 * p).fdiv 4096).fmod 2 = 0 then ((mid p.toNat : Nat) : Int) else 4096 - ((mid p.toNat : Nat) : Int))) = 6 * p := by
  have e1 : (6 * p).fdiv 4096 = 6 * p / 4096 := Int.fdiv_eq_ediv_of_nonneg _ (by decide)
  have e2 : (6 * p / 4096).fmod 2 = (6 * p / 4096) % 2 := Int.fmod_eq_emod_of_nonneg _ (by decide)
  rw [e1, e2]
  obtain ⟨n, rfl⟩ := Int.eq_ofNat_of_zero_le h0
  rw [Int.toNat_natCast]
  unfold mid
  have e3 : 6 * (n : Int) / 4096 = ((6 * n / 4096 : Nat) : Int) := by omega
  rw [e3]
  have e4 : 6 * n = 4096 * (6 * n / 4096) + 6 * n % 4096 := by omega
  generalize 6 * n / 4096 = q at *
  generalize 6 * n % 4096 = r at *
  (repeat' split) <;> omega
end Mine

namespace Mine
open PySem PySem.W PyProof.Rows PySem.Calls
set_option maxRecDepth 100000 in
set_option maxHeartbeats 8000000 in
theorem sepS (w : World) (mg mb : Str → Option Value) (mean : ExcName → Option Value) (news : List (Addr × Obj)) (x : Str) (t1 : Tok) :
   Claim w mg mb mean 1 28 [.str x t1] news (fun h₀ L m s Q => 
     ∀ (h' : Heap) (tk' : Nat) (t : Tok), Fr h₀ L h' m → News h₀ L h' news → Q (.str (Str.ofString "/") t) { s with heap := h', toks := tk' }) := by
  unfold Claim
  w_on
  w_top on
  k_fill
  intro dp un gd cn cs a ccd cl outer A₀ base h₀ L m s Q E hB hF hK hN hT hkk hdp hun hret
  refine wpAny_call ?_
  k_dflt cell_enter
  k_steps
  exact hret _ _ _ (by assumption) (by assumption)
set_option maxRecDepth 100000 in
set_option maxHeartbeats 8000000 in
theorem sepB (w : World) (mg mb : Str → Option Value) (mean : ExcName → Option Value) (news : List (Addr × Obj)) (x : Array UInt8) (t1 : Tok) :
   Claim w mg mb mean 1 28 [.bytes x t1] news (fun h₀ L m s Q => 
     ∀ (h' : Heap) (tk' : Nat) (t : Tok), Fr h₀ L h' m → News h₀ L h' news → Q (.bytes #[47] t) { s with heap := h', toks := tk' }) := by
  unfold Claim
  w_on
  w_top on
  k_fill
  intro dp un gd cn cs a ccd cl outer A₀ base h₀ L m s Q E hB hF hK hN hT hkk hdp hun hret
  refine wpAny_call ?_
  k_dflt cell_enter
  k_steps
  exact hret _ _ _ (by assumption) (by assumption)
end Mine

namespace Mine
open PySem PySem.W PyProof.Rows PySem.Calls
set_option maxRecDepth 100000
/-- the text of a digit, and its octet -/
def dg (c : Nat) : Str := ⟨#[48 + c]⟩
def db (c : Nat) : Array UInt8 := [UInt8.ofNat (48 + c)].toArray
theorem text_dg {t : Int} (h0 : 0 ≤ t) (h : t ≤ 6) : Str.ofString (toString t) = dg t.toNat := by
  have : t = 0 ∨ t = 1 ∨ t = 2 ∨ t = 3 ∨ t = 4 ∨ t = 5 ∨ t = 6 := by omega
  rcases this with rfl | rfl | rfl | rfl | rfl | rfl | rfl <;> decide +kernel
section
variable {prog : Program} {w : World} {A : Around} {E : Value → Shared → Prop} {s : Shared}
open Builtin in
theorem enc_tree {t u : Tok} : ∀ c < 7, «str.encode» ⟨[.str (dg c) t, .str (PySem.Str.ofString "ascii") u], []⟩ = (mkBytes (db c) >>= fun v => ret v)
  | 0, _ => by kernel_rfl
  | 1, _ => by kernel_rfl
  | 2, _ => by kernel_rfl
  | 3, _ => by kernel_rfl
  | 4, _ => by kernel_rfl
  | 5, _ => by kernel_rfl
  | 6, _ => by kernel_rfl
theorem db_size (c : Nat) : (db c).size ≤ sizeLine := by rw [sizeLine_eq]; show 1 ≤ _; decide
theorem enc {c : Nat} {t u : Tok} {Q : Value → Shared → Prop} (hc : c < 7) (h : ∀ t', Q (.bytes (db c) t') { s with toks := s.toks + 1 }) :
    wpAny (model prog w) A (call (.builtin "str.encode") [.str (dg c) t, .str (PySem.Str.ofString "ascii") u]) Q E s := by
  refine call_meets (S := fun _ R s => ∀ t', R (.ok (.ret (.bytes (db c) t'))) { s with toks := s.toks + 1 }) PySem.F.slot_str_encode (typeIs_str _ _ _) PySem.F.entry_str_encode (PySem.F.args_str_encode_2 _ _) ?_ h
  refine .of_wp fun prog w A R s hS => ?_
  rw [enc_tree c hc]
  exact wpAny_bind (wpAny_mkBytes (wpAny_pure ⟨_, rfl, hS _⟩) (db_size c))
open Builtin in
theorem dec_road {id : String} : ∀ c < 7, _codecs.decodeRoad id (db c) (PySem.Str.ofString "ascii") none [] = mkStr (dg c)
  | 0, _ => by kernel_rfl
  | 1, _ => by kernel_rfl
  | 2, _ => by kernel_rfl
  | 3, _ => by kernel_rfl
  | 4, _ => by kernel_rfl
  | 5, _ => by kernel_rfl
  | 6, _ => by kernel_rfl
theorem dg_len (c : Nat) : (dg c).length ≤ sizeLine := by rw [sizeLine_eq]; show 1 ≤ _; decide
open Builtin in
theorem dec_text {c : Nat} {t t1 t2 : Tok} {d : PySem.Str} (hc : c < 7) :
    Meets («_codecs.decode.text» ⟨[.bytes (db c) t, .str (PySem.Str.ofString "ascii") t1, .none, .str d t2], []⟩) (fun _ R s => R (.ok (.ret (.str (dg c) s.toks))) { s with toks := s.toks + 1 }) := by
  refine .of_wp fun prog w A R s h => ?_
  show wpAny _ _ (Bytes.bytesLike _ (.bytes (db c) t) >>= fun r => _) _ _ s
  refine wpAny_bind (wpAny_of_eq KBd.like_eq ?_)
  refine wpAny_bind (wpAny_of_eq KBd.held_eq ?_)
  show wpAny _ _ (_codecs.decodeRoad _ (db c) (PySem.Str.ofString "ascii") none [] >>= fun v => _) _ _ s
  rw [dec_road c hc]
  exact wpAny_bind (wpAny_mkStr (wpAny_pure ⟨_, rfl, h⟩) (dg_len c))
open Builtin in
theorem dec_tree {c : Nat} {t u : Tok} : «bytes.decode» ⟨[.bytes (db c) t, .str (PySem.Str.ofString "ascii") u], []⟩ = (mkStr (PySem.Str.ofString "utf-8") >>= fun _ => mkStr (PySem.Str.ofString "ascii") >>= fun e => mkStr (PySem.Str.ofString "bytes.decode") >>= fun d =>
    call (.builtin "_codecs.decode.text") [.bytes (db c) t, e, .none, d] >>= fun v => ret v) := by kernel_rfl
theorem args_decode_2 (a b : Value) : argsOk "bytes.decode" ⟨[a, b], []⟩ := by
  unfold argsOk; rw [signature?_of (id := "bytes.decode") (n := ['e', 'd', 'o', 'c', 'e', 'd']) (o := ['s', 'e', 't', 'y', 'b']) (by kernel_rfl) FB.owner_bytes]; kernel_rfl
theorem dec {c : Nat} {t u : Tok} {Q : Value → Shared → Prop} (hc : c < 7) (h : ∀ t' k, Q (.str (dg c) t') { s with toks := k }) :
    wpAny (model prog w) A (call (.builtin "bytes.decode") [.bytes (db c) t, .str (PySem.Str.ofString "ascii") u]) Q E s := by
  refine call_meets (S := fun _ R s => ∀ t' k, R (.ok (.ret (.str (dg c) t'))) { s with toks := k }) FB.slot_bytes_decode (typeIs_bytes _ _ _) FB.entry_bytes_decode (args_decode_2 _ _) ?_ h
  refine .of_wp fun prog w A R s hS => ?_
  rw [dec_tree]
  refine wpAny_bind (wpAny_mkStr ?_ (by decide))
  refine wpAny_bind (wpAny_mkStr ?_ (by decide))
  refine wpAny_bind (wpAny_mkStr ?_ (by decide))
  exact wpAny_bind (call_function_meets KBd.kind_text KBd.plain_text KBd.entry_text (KBd.args_text _ _ _ _) (dec_text hc) (wpAny_pure ⟨_, rfl, hS _ _⟩))
theorem getM_encode {x : PySem.Str} {t : Tok} {M : Model} {pl : Sem Bool} {Q : Value × List Value → Shared → Prop} (h : Q (.builtin "str.encode", [.str x t]) s) : wpAny M A (getMethod (.str x t) "encode" pl) Q E s :=
  getMethod_builtin (typeIs_str _ _ _) PySem.F.plainAttrs_str PySem.F.slot_str_encode PySem.F.type_str_encode (fun _ e => nomatch e) h
end
end Mine

namespace Mine
open PySem PySem.W PyProof.Rows PySem.Calls
set_option maxRecDepth 100000
/-- six digits, cut by slashes -/
def path6 (a b c d e f : Nat) : Str := ⟨#[48 + a, 47, 48 + b, 47, 48 + c, 47, 48 + d, 47, 48 + e, 47, 48 + f]⟩
theorem slash : Str.ofString "/" = ⟨#[47]⟩ := by decide +kernel
theorem join6 (a b c d e f : Nat) : Txt.join (Str.ofString "/") [dg a, dg b, dg c, dg d, dg e, dg f] = path6 a b c d e f := by
  rw [slash]
  rfl
open Builtin.Str in
theorem at6 (a b c d e f i : Nat) : subAt (path6 a b c d e f) ⟨#[47]⟩ i = subAt (path6 1 1 1 1 1 1) ⟨#[47]⟩ i := by
  rw [StrLaws.subAt_eq, StrLaws.subAt_eq]
  have one : ∀ n : Nat, ([48 + n] == [47]) = false := fun n => by
    rw [beq_eq_false_iff_ne]
    intro e
    have := List.head_eq_of_cons_eq e
    omega
  match i with
  | 0 => show ([48 + a] == [47]) = ([48 + 1] == [47]); rw [one, one]
  | 1 => rfl
  | 2 => show ([48 + b] == [47]) = ([48 + 1] == [47]); rw [one, one]
  | 3 => rfl
  | 4 => show ([48 + c] == [47]) = ([48 + 1] == [47]); rw [one, one]
  | 5 => rfl
  | 6 => show ([48 + d] == [47]) = ([48 + 1] == [47]); rw [one, one]
  | 7 => rfl
  | 8 => show ([48 + e] == [47]) = ([48 + 1] == [47]); rw [one, one]
  | 9 => rfl
  | 10 => show ([48 + f] == [47]) = ([48 + 1] == [47]); rw [one, one]
  | n + 11 => rfl
open Builtin.Str in
theorem occ6 (a b c d e f : Nat) : occurrences (path6 a b c d e f) ⟨#[47]⟩ 0 11 12 = [1, 3, 5, 7, 9] := by
  have h : occurrences (path6 a b c d e f) ⟨#[47]⟩ 0 11 12 = occurrences (path6 1 1 1 1 1 1) ⟨#[47]⟩ 0 11 12 := by
    unfold occurrences
    simp only [at6 a b c d e f]
  rw [h]
  decide +kernel
theorem split6 {a b c d e f : Nat} (ha : a < 7) (hb : b < 7) (hc : c < 7) (hd : d < 7) (he : e < 7) (hf : f < 7) : Txt.split (path6 a b c d e f) (Str.ofString "/") = [dg a, dg b, dg c, dg d, dg e, dg f] := by
  rw [slash]
  unfold Txt.split
  have hl : (path6 a b c d e f).length = 11 := rfl
  have hk : Builtin.Str.strKind (path6 a b c d e f) = 1 := by
    unfold Builtin.Str.strKind
    rw [if_pos]
    simp [path6]
    omega
  have hk2 : Builtin.Str.strKind ⟨#[47]⟩ = 1 := by decide +kernel
  rw [hl, hk, hk2, occ6]
  rfl
end Mine

namespace Mine
open PySem PySem.W PyProof.Rows PySem.Calls
set_option maxRecDepth 100000
/-- the octet of a digit -/
def oc (c : Nat) : UInt8 := UInt8.ofNat (48 + c)
theorem oc_ne {c : Nat} (h : c < 7) : oc c ≠ 47 := by
  have : c = 0 ∨ c = 1 ∨ c = 2 ∨ c = 3 ∨ c = 4 ∨ c = 5 ∨ c = 6 := by omega
  rcases this with rfl | rfl | rfl | rfl | rfl | rfl | rfl <;> decide
/-- six digits, cut by slashes, as octets -/
def bpath (a b c d e f : Nat) : Array UInt8 := #[oc a, 47, oc b, 47, oc c, 47, oc d, 47, oc e, 47, oc f]
theorem bjoin6 (a b c d e f : Nat) : Builtin.Bytes.joined #[47] [db a, db b, db c, db d, db e, db f] = bpath a b c d e f := rfl
theorem bat6 {a b c d e f : Nat} (ha : a < 7) (hb : b < 7) (hc : c < 7) (hd : d < 7) (he : e < 7) (hf : f < 7) (i : Nat) : ((bpath a b c d e f).extract i (i + 1) == #[47]) = ((bpath 1 1 1 1 1 1).extract i (i + 1) == #[47]) := by
  have one : ∀ n < 7, ((#[oc n] : Array UInt8) == #[47]) = false := fun n hn => by
    rw [beq_eq_false_iff_ne]
    intro e
    have := congrArg Array.toList e
    exact oc_ne hn (List.head_eq_of_cons_eq this)
  match i with
  | 0 => show ((#[oc a] : Array UInt8) == #[47]) = ((#[oc 1] : Array UInt8) == #[47]); rw [one _ ha, one _ (by decide)]
  | 1 => rfl
  | 2 => show ((#[oc b] : Array UInt8) == #[47]) = ((#[oc 1] : Array UInt8) == #[47]); rw [one _ hb, one _ (by decide)]
  | 3 => rfl
  | 4 => show ((#[oc c] : Array UInt8) == #[47]) = ((#[oc 1] : Array UInt8) == #[47]); rw [one _ hc, one _ (by decide)]
  | 5 => rfl
  | 6 => show ((#[oc d] : Array UInt8) == #[47]) = ((#[oc 1] : Array UInt8) == #[47]); rw [one _ hd, one _ (by decide)]
  | 7 => rfl
  | 8 => show ((#[oc e] : Array UInt8) == #[47]) = ((#[oc 1] : Array UInt8) == #[47]); rw [one _ he, one _ (by decide)]
  | 9 => rfl
  | 10 => show ((#[oc f] : Array UInt8) == #[47]) = ((#[oc 1] : Array UInt8) == #[47]); rw [one _ hf, one _ (by decide)]
  | n + 11 =>
    have h : ∀ x : Array UInt8, x.size = 11 → x.extract (n + 11) (n + 11 + 1) = #[] := fun x hx => by
      apply Array.eq_empty_of_size_eq_zero
      rw [Array.size_extract, hx]
      omega
    rw [h _ rfl, h _ rfl]
theorem bocc6 {a b c d e f : Nat} (ha : a < 7) (hb : b < 7) (hc : c < 7) (hd : d < 7) (he : e < 7) (hf : f < 7) : Builtin.Bytes.occurrences (bpath a b c d e f) #[47] 0 11 = [1, 3, 5, 7, 9] := by
  have h : Builtin.Bytes.occurrences (bpath a b c d e f) #[47] 0 11 = Builtin.Bytes.occurrences (bpath 1 1 1 1 1 1) #[47] 0 11 := by
    unfold Builtin.Bytes.occurrences
    show (List.foldl (fun acc i => if (decide (i ≥ acc.2) && (bpath a b c d e f).extract i (i + 1) == #[47]) = true then (i :: acc.1, i + 1) else acc) ([], 0) _).1.reverse = (List.foldl (fun acc i => if (decide (i ≥ acc.2) && (bpath 1 1 1 1 1 1).extract i (i + 1) == #[47]) = true then (i :: acc.1, i + 1) else acc) ([], 0) _).1.reverse
    simp only [bat6 ha hb hc hd he hf]
  rw [h]
  decide +kernel
theorem slot_bytes_split : Slot "bytes" "split" "bytes.split" :=
  .of (owner := "bytes") (n := "split") (by rw [typeLookup_type, builtinLookup_eq_fast]; kernel_rfl) (by decide +kernel) (by decide +kernel) (by decide +kernel)
    (by first | exact .inl (by decide +kernel) | exact .inr (by decide +kernel)) (by rw [isSubtype_type]; kernel_rfl)
theorem type_bytes_split : typeOf (.builtin "bytes.split") = pure (.type "method_descriptor") := by show builtinType _ = _; rw [builtinType_eq_fast]; kernel_rfl
theorem entry_bytes_split : entryFor table "bytes.split" = some Builtin.«bytes.split» := entryFor_of_tree (by kernel_rfl)
theorem args_bytes_split (a b : Value) : argsOk "bytes.split" ⟨[a, b], []⟩ := by
  unfold argsOk; rw [signature?_of (id := "bytes.split") (n := ['t', 'i', 'l', 'p', 's']) (o := ['s', 'e', 't', 'y', 'b']) (by kernel_rfl) FB.owner_bytes]; kernel_rfl
theorem slot_bytes_join : Slot "bytes" "join" "bytes.join" :=
  .of (owner := "bytes") (n := "join") (by rw [typeLookup_type, builtinLookup_eq_fast]; kernel_rfl) (by decide +kernel) (by decide +kernel) (by decide +kernel)
    (by first | exact .inl (by decide +kernel) | exact .inr (by decide +kernel)) (by rw [isSubtype_type]; kernel_rfl)
theorem type_bytes_join : typeOf (.builtin "bytes.join") = pure (.type "method_descriptor") := by show builtinType _ = _; rw [builtinType_eq_fast]; kernel_rfl
theorem entry_bytes_join : entryFor table "bytes.join" = some Builtin.«bytes.join» := entryFor_of_tree (by kernel_rfl)
theorem args_bytes_join (a b : Value) : argsOk "bytes.join" ⟨[a, b], []⟩ := by
  unfold argsOk; rw [signature?_of (id := "bytes.join") (n := ['n', 'i', 'o', 'j']) (o := ['s', 'e', 't', 'y', 'b']) (by kernel_rfl) FB.owner_bytes]; kernel_rfl
section
variable {prog : Program} {w : World} {A : Around} {E : Value → Shared → Prop} {s : Shared} {h₀ : Heap} {L : Addr} {m : Str → Option Value} {news : List (Addr × Obj)}
theorem getM_split {b : Array UInt8} {t : Tok} {M : Model} {pl : Sem Bool} {Q : Value × List Value → Shared → Prop} (h : Q (.builtin "bytes.split", [.bytes b t]) s) : wpAny M A (getMethod (.bytes b t) "split" pl) Q E s :=
  KBd.method_of (.bytes b t) (typeIs_bytes _ _ _) slot_bytes_split type_bytes_split KBd.noRef h
theorem getM_join {b : Array UInt8} {t : Tok} {M : Model} {pl : Sem Bool} {Q : Value × List Value → Shared → Prop} (h : Q (.builtin "bytes.join", [.bytes b t]) s) : wpAny M A (getMethod (.bytes b t) "join" pl) Q E s :=
  KBd.method_of (.bytes b t) (typeIs_bytes _ _ _) slot_bytes_join type_bytes_join KBd.noRef h
open Builtin in
theorem bsplit_tree {b : Array UInt8} {t u : Tok} : «bytes.split» ⟨[.bytes b t, .bytes #[47] u], []⟩ = (Bytes.bytesLike "bytes.split" (.bytes #[47] u) >>= fun sep => do
    if sep.isEmpty then rule "bytes.split.empty-separator"; raiseError "ValueError" "empty separator"
    let places := (Bytes.occurrences b sep 0 b.size).take (b.size + 1)
    if places.isEmpty then rule "bytes.split.no-separator"; return ← ret (← newList [← Bytes.Kind.same .bytes (.bytes b t)])
    ret (← newList (← (Bytes.between b sep.size places).mapM Bytes.Kind.bytes.new))) := by kernel_rfl
/-- the digits' octets, each its own object -/
abbrev six (a b c d e f : Nat) (t0 t1 t2 t3 t4 t5 : Tok) : List Value := [.bytes (db a) t0, .bytes (db b) t1, .bytes (db c) t2, .bytes (db d) t3, .bytes (db e) t4, .bytes (db f) t5]
open Builtin in
theorem bsplit_meets {a b c d e f : Nat} {t u : Tok} (ha : a < 7) (hb : b < 7) (hc : c < 7) (hd : d < 7) (he : e < 7) (hf : f < 7) :
    Meets («bytes.split» ⟨[.bytes (bpath a b c d e f) t, .bytes #[47] u], []⟩) (fun _ R s => R (.ok (.ret (.ref s.heap.objs.size))) { s with heap := s.heap.push (W.listOf (six a b c d e f s.toks (s.toks + 1) (s.toks + 1 + 1) (s.toks + 1 + 1 + 1) (s.toks + 1 + 1 + 1 + 1) (s.toks + 1 + 1 + 1 + 1 + 1)).toArray 0), toks := s.toks + 1 + 1 + 1 + 1 + 1 + 1 }) := by
  refine .of_wp fun prog w A R s hS => ?_
  rw [bsplit_tree]
  refine wpAny_bind (wpAny_of_eq KBd.like_eq ?_)
  have hp : (Bytes.occurrences (bpath a b c d e f) #[47] 0 (bpath a b c d e f).size).take ((bpath a b c d e f).size + 1) = [1, 3, 5, 7, 9] := by
    rw [show (bpath a b c d e f).size = 11 from rfl, bocc6 ha hb hc hd he hf]
    rfl
  have hw : Bytes.between (bpath a b c d e f) (#[47] : Array UInt8).size [1, 3, 5, 7, 9] = [db a, db b, db c, db d, db e, db f] := rfl
  rw [hp]
  show wpAny _ _ (do ret (← newList (← (Bytes.between (bpath a b c d e f) (#[47] : Array UInt8).size [1, 3, 5, 7, 9]).mapM Bytes.Kind.bytes.new))) _ _ s
  rw [hw]
  simp only [List.mapM_cons, List.mapM_nil]
  refine wpAny_bind (wpAny_bind (wpAny_mkBytes (wpAny_bind (wpAny_bind (wpAny_mkBytes (wpAny_bind (wpAny_bind (wpAny_mkBytes (wpAny_bind (wpAny_bind (wpAny_mkBytes (wpAny_bind (wpAny_bind (wpAny_mkBytes (wpAny_bind (wpAny_bind (wpAny_mkBytes (wpAny_bind (wpAny_pure (wpAny_pure ?_))) (db_size f))) ) (db_size e))) ) (db_size d))) ) (db_size c))) ) (db_size b))) ) (db_size a)))
  repeat with_reducible refine wpAny_pure ?_
  refine wpAny_bind (wpAny_newList (wpAny_pure ⟨_, rfl, hS⟩) (by rw [sizeLine_eq]; exact Nat.le_of_ble_eq_true rfl))
theorem bsplit {a b c d e f : Nat} {t u : Tok} {Q : Value → Shared → Prop} (ha : a < 7) (hb : b < 7) (hc : c < 7) (hd : d < 7) (he : e < 7) (hf : f < 7) (F : Fr h₀ L s.heap m) (N : News h₀ L s.heap news)
    (h : ∀ (D : Addr) (h' : Heap) (k : Nat) (t0 t1 t2 t3 t4 t5 : Tok), Fr h₀ L h' m → News h₀ L h' ((D, W.listOf (six a b c d e f t0 t1 t2 t3 t4 t5).toArray 0) :: news) → (∀ p ∈ news, p.1 < D) → Q (.ref D) { s with heap := h', toks := k }) :
    wpAny (model prog w) A (call (.builtin "bytes.split") [.bytes (bpath a b c d e f) t, .bytes #[47] u]) Q E s := by
  refine call_meets slot_bytes_split (typeIs_bytes _ _ _) entry_bytes_split (args_bytes_split _ _) (bsplit_meets ha hb hc hd he hf) ?_
  exact h _ _ _ _ _ _ _ _ _ (F.push _) (News.push F N _) fun p hp => Heap.lt_size (N p hp).1
end
end Mine

namespace Mine
open PySem PySem.W PyProof.Rows PySem.Calls
set_option maxRecDepth 100000
section
variable {prog : Program} {w : World} {A : Around} {E : Value → Shared → Prop} {s : Shared} {h₀ : Heap} {L : Addr} {m : Str → Option Value} {news : List (Addr × Obj)}
open Builtin in
theorem take_eq {id : String} {b : Array UInt8} {t : Tok} : Bytes.takeBufferQuiet? id (.bytes b t) 0 = pure (some (b, none)) := by
  have e : Bytes.takeBuffer? id (.bytes b t) 0 = pure (some (b, none)) := by
    unfold Bytes.takeBuffer?
    rw [KBy.special_eq KBy.look_buffer, KBy.own_buffer]
    show (Bytes.buffer? id (.bytes b t) >>= fun r => pure (r.map (·, none))) = _
    rw [KBy.buffer_eq]
    rfl
  unfold Bytes.takeBufferQuiet?
  rw [e]
  rfl
theorem forIn6 {β : Type} {M : Model} {f : Nat → β → Sem (ForInStep β)} (st : Nat → β) {n : Nat} (hstep : ∀ i < n, ∀ Q : ForInStep β → Shared → Prop, Q (.yield (st (i + 1))) s → wpAny M A (f i (st i)) Q E s) {Q : β → Shared → Prop} (h : Q (st n) s) :
    wpAny M A (forIn [0:n] (st 0) f) Q E s := by
  rw [Std.Legacy.Range.forIn_eq_forIn_range']
  have hsz : ([0:n] : Std.Legacy.Range).size = n := by simp [Std.Legacy.Range.size]
  show wpAny M A (forIn (List.range' 0 ([0:n] : Std.Legacy.Range).size 1) (st 0) f) Q E s
  rw [hsz]
  have go : ∀ k i, i + k = n → wpAny M A (forIn (List.range' i k 1) (st i) f) Q E s := by
    intro k
    induction k with
    | zero =>
      intro i hi
      have e : i = n := hi
      subst e
      exact wpAny_pure h
    | succ k ih =>
      intro i hi
      rw [List.range'_succ, List.forIn_cons]
      exact wpAny_bind (hstep i (by omega) _ (ih (i + 1) (by omega)))
  exact go n 0 (Nat.zero_add n)
open Builtin in
/-- the loop of bytes.join behind i items -/
def joinSt (ps : List (Array UInt8)) (vs : List Value) (i : Nat) : Array (Array UInt8) × List (Value × Option Value) := ((ps.take i).toArray, (vs.take i).map fun v => (v, none))
theorem letGo6 {M : Model} {keep : List Value} {Q : Unit → Shared → Prop} (h : Q () s) : ∀ vs : List Value, wpAny M A (Builtin.Bytes.joinLetGo (vs.map fun v => (v, none)) keep) Q E s
  | [] => wpAny_pure h
  | v :: r => wpAny_bind (wpAny_letGo (letGo6 h r))
set_option maxHeartbeats 4000000 in
open Builtin in
theorem bjoin_meets {a b c d e f : Nat} {t t0 t1 t2 t3 t4 t5 : Tok} {l : Addr} {n : Nat} :
    Meets («bytes.join» ⟨[.bytes #[47] t, .ref l], []⟩) (fun _ R s => (∃ o, s.heap.get? l = some o ∧ o.cls = .type "list" ∧ o.data = .seq (six a b c d e f t0 t1 t2 t3 t4 t5).toArray n) ∧ R (.ok (.ret (.bytes (bpath a b c d e f) s.toks))) { s with toks := s.toks + 1 }) := by
  refine .of_wp fun prog w A R s hS => ?_
  obtain ⟨⟨o, ho, hc, hd⟩, h⟩ := hS
  have hload : ∀ {Q : Option (Array Value) → Shared → Prop}, Q (some (six a b c d e f t0 t1 t2 t3 t4 t5).toArray) s → wpAny (model prog w) A.in1 (seqItems? (.ref l)) Q (fun e s' => R (.error e) s') s := by
    intro Q q
    unfold seqItems?
    refine wpAny_bind (wpAny_load ho ?_)
    rw [hd]
    exact wpAny_pure q
  unfold «bytes.join» Bytes.joinM
  show wpAny _ _ (Bytes.joinItems (.ref l) >>= fun seq => _) _ _ s
  have hji : ∀ {Q : Value → Shared → Prop}, Q (.ref l) s → wpAny (model prog w) A.in1 (Bytes.joinItems (.ref l)) Q (fun e s' => R (.error e) s') s := by
    intro Q q
    unfold Bytes.joinItems
    refine wpAny_bind (wpAny_typeOf (T := "list") ⟨o, ho, hc⟩ ?_)
    exact wpAny_pure q
  refine wpAny_bind (hji ?_)
  refine wpAny_bind (hload ?_)
  show wpAny _ _ (forIn [0:6] (joinSt [db a, db b, db c, db d, db e, db f] (six a b c d e f t0 t1 t2 t3 t4 t5) 0) _ >>= fun r => _) _ _ s
  refine wpAny_bind (forIn6 (joinSt [db a, db b, db c, db d, db e, db f] (six a b c d e f t0 t1 t2 t3 t4 t5)) ?_ ?_)
  · intro i hi Q q
    refine wpAny_bind (hload ?_)
    match i, hi with
    | 0, _ => exact wpAny_bind (wpAny_holding (wpAny_of_eq take_eq (wpAny_bind (hload (wpAny_pure q)))))
    | 1, _ => exact wpAny_bind (wpAny_holding (wpAny_of_eq take_eq (wpAny_bind (hload (wpAny_pure q)))))
    | 2, _ => exact wpAny_bind (wpAny_holding (wpAny_of_eq take_eq (wpAny_bind (hload (wpAny_pure q)))))
    | 3, _ => exact wpAny_bind (wpAny_holding (wpAny_of_eq take_eq (wpAny_bind (hload (wpAny_pure q)))))
    | 4, _ => exact wpAny_bind (wpAny_holding (wpAny_of_eq take_eq (wpAny_bind (hload (wpAny_pure q)))))
    | 5, _ => exact wpAny_bind (wpAny_holding (wpAny_of_eq take_eq (wpAny_bind (hload (wpAny_pure q)))))
  · refine wpAny_bind (show wpAny _ _ (pure #[47]) _ _ s from wpAny_pure ?_)
    show wpAny _ _ (mkBytes (bpath a b c d e f) >>= fun r => _) _ _ s
    refine wpAny_bind (wpAny_mkBytes ?_ (by rw [sizeLine_eq]; show 11 ≤ _; decide))
    refine wpAny_bind (wpAny_holding (wpAny_point ?_))
    exact wpAny_bind (letGo6 (wpAny_pure ⟨_, rfl, h⟩) (six a b c d e f t0 t1 t2 t3 t4 t5))
theorem bjoin {a b c d e f : Nat} {t t0 t1 t2 t3 t4 t5 : Tok} {l : Addr} {o : Obj} {n : Nat} {Q : Value → Shared → Prop} (N : News h₀ L s.heap news) (hm : (l, o) ∈ news) (hc : o.cls = .type "list") (hd : o.data = .seq (six a b c d e f t0 t1 t2 t3 t4 t5).toArray n)
    (h : ∀ t', Q (.bytes (bpath a b c d e f) t') { s with toks := s.toks + 1 }) :
    wpAny (model prog w) A (call (.builtin "bytes.join") [.bytes #[47] t, .ref l]) Q E s :=
  call_meets slot_bytes_join (typeIs_bytes _ _ _) entry_bytes_join (args_bytes_join _ _) bjoin_meets ⟨⟨o, (N _ hm).1, hc, hd⟩, h _⟩
end
end Mine

namespace Mine
open PySem PySem.W PyProof.Rows PySem.Calls
/-- the last turn of a walk, undone -/
theorem WalkTo.last {k : Int} {n : Nat} {p : Int} {ts : List Int} (h : WalkTo k (n + 1) p ts) : ∃ q ts', WalkTo k n q ts' ∧ p = ((mid q.toNat : Nat) : Int) ∧ ts = ts' ++ [(6 * q).fdiv 4096] := by
  cases h with
  | cons h => exact ⟨_, _, h, rfl, rfl⟩
/-- between the turns of the way back: i sixths are undone -/
def BackJ (k : Int) (ts : List Int) (n i : Nat) (m : Str → Option Value) : Prop :=
  ∃ (p : Int) (tp : Tok), m (Str.ofString "place") = some (.int p tp) ∧ WalkTo k (n - i) p (ts.take (n - i))
/-- one turn of the way back, in numbers -/
theorem back_turn {k : Int} (h0 : 0 ≤ k) (hk : k ≤ 4096) {n : Nat} {p c : Int} {ts : List Int} (h : WalkTo k (n + 1) p (ts ++ [c])) :
    ∃ q, WalkTo k n q ts ∧ 0 ≤ q ∧ q ≤ 4096 ∧ (c.fmod 2 = 0 → 4096 * c + p = 6 * q) ∧ (c.fmod 2 ≠ 0 → 4096 * c + (4096 - p) = 6 * q) := by
  obtain ⟨q, ts', hq, hp, hts⟩ := h.last
  have hb := hq.bounds h0 hk
  obtain ⟨e1, e2⟩ := List.append_inj' hts rfl
  have e3 : c = (6 * q).fdiv 4096 := List.head_eq_of_cons_eq e2
  subst e1 e3
  have hm := back_mid hb.1 hb.2
  refine ⟨q, hq, hb.1, hb.2, fun he => ?_, fun he => ?_⟩
  · rw [if_pos he] at hm; rw [hp]; exact hm
  · rw [if_neg he] at hm; rw [hp]; exact hm
theorem item_str {a b c d e f i : Nat} {u0 u1 u2 u3 u4 u5 : Tok} {v : Value} (ha : a < 7) (hb : b < 7) (hc : c < 7) (hd : d < 7) (he : e < 7) (hf : f < 7) (h : [Value.str (dg f) u5, Value.str (dg e) u4, Value.str (dg d) u3, Value.str (dg c) u2, Value.str (dg b) u1, Value.str (dg a) u0][i]? = some v) :
    ∃ x u, v = Value.str (dg x) u ∧ x < 7 ∧ 6 - i = 6 - (i + 1) + 1 ∧ [(a : Int), b, c, d, e, f].take (6 - i) = [(a : Int), b, c, d, e, f].take (6 - (i + 1)) ++ [(x : Int)] := by
  match i with
  | 0 => cases h; exact ⟨f, u5, rfl, hf, rfl, rfl⟩
  | 1 => cases h; exact ⟨e, u4, rfl, he, rfl, rfl⟩
  | 2 => cases h; exact ⟨d, u3, rfl, hd, rfl, rfl⟩
  | 3 => cases h; exact ⟨c, u2, rfl, hc, rfl, rfl⟩
  | 4 => cases h; exact ⟨b, u1, rfl, hb, rfl, rfl⟩
  | 5 => cases h; exact ⟨a, u0, rfl, ha, rfl, rfl⟩
  | n + 6 => cases h
theorem item_byt {a b c d e f i : Nat} {u0 u1 u2 u3 u4 u5 : Tok} {v : Value} (ha : a < 7) (hb : b < 7) (hc : c < 7) (hd : d < 7) (he : e < 7) (hf : f < 7) (h : [Value.bytes (db f) u5, Value.bytes (db e) u4, Value.bytes (db d) u3, Value.bytes (db c) u2, Value.bytes (db b) u1, Value.bytes (db a) u0][i]? = some v) :
    ∃ x u, v = Value.bytes (db x) u ∧ x < 7 ∧ 6 - i = 6 - (i + 1) + 1 ∧ [(a : Int), b, c, d, e, f].take (6 - i) = [(a : Int), b, c, d, e, f].take (6 - (i + 1)) ++ [(x : Int)] := by
  match i with
  | 0 => cases h; exact ⟨f, u5, rfl, hf, rfl, rfl⟩
  | 1 => cases h; exact ⟨e, u4, rfl, he, rfl, rfl⟩
  | 2 => cases h; exact ⟨d, u3, rfl, hd, rfl, rfl⟩
  | 3 => cases h; exact ⟨c, u2, rfl, hc, rfl, rfl⟩
  | 4 => cases h; exact ⟨b, u1, rfl, hb, rfl, rfl⟩
  | 5 => cases h; exact ⟨a, u0, rfl, ha, rfl, rfl⟩
  | n + 6 => cases h
theorem map1 {m : Str → Option Value} {a : Str} {x : Value} (h1 : m a = some x) : m = fun q => if q = a then some x else m q := by
  funext q
  split
  · rename_i e; rw [e, h1]
  · rfl
theorem fmod6 {z q : Int} (h : z = 6 * q) : z.fmod 6 = 0 := by
  rw [h, Int.fmod_eq_emod_of_nonneg _ (by decide)]
  omega
theorem fdiv6 {k z q : Int} {n : Nat} {ts : List Int} (h : z = 6 * q) (hq : WalkTo k n q ts) : WalkTo k n (z.fdiv 6) ts := by
  have e : z.fdiv 6 = q := by
    rw [h, Int.fdiv_eq_ediv_of_nonneg _ (by decide)]
    omega
  rw [e]
  exact hq
section
variable {prog : Program} {w : World} {A : Around} {E : Value → Shared → Prop} {s : Shared} {env : Env} {h₀ : Heap} {x : Str} {body : List Stmt} {Q : Flow → Shared → Prop}
/-- a loop over a list that the call made, whose turns keep J -/
theorem loopB {l : Addr} {vs : List Value} {nn : Nat} {news : List (Addr × Obj)} {m₀ : Str → Option Value} (J : Nat → (Str → Option Value) → Prop) (F : Fr h₀ env.locals s.heap m₀) (N : News h₀ env.locals s.heap ((l, W.listOf vs.toArray nn) :: news)) (hlt : ∀ q ∈ news, q.1 < l) (hh : A.handled = none) (hj : J 0 m₀)
    (turn : ∀ (i : Nat) (v : Value) (m₁ : Str → Option Value) (h : Heap) (tk : Nat) (own nw : List (Addr × Obj)), vs[i]? = some v → J i m₁ → (∀ q ∈ news, q ∈ nw) → (∀ q ∈ own, q ∈ nw) →
      Fr h₀ env.locals h (fun y => if y = x then some v else m₁ y) → News h₀ env.locals h nw →
      wpAny (model prog w) A (execs body env) (InvPostN h₀ env.locals (fun m' nx => nx = news ∧ J (i + 1) m') own (news.map (·.1)) { s with heap := h, toks := tk } Q) E { s with heap := h, toks := tk })
    (done : ∀ (m₁ : Str → Option Value) (h : Heap) (tk : Nat), J vs.length m₁ → Fr h₀ env.locals h m₁ → News h₀ env.locals h news → Q .next { s with heap := h, toks := tk }) :
    wpAny (model prog w) A (pyIter (.ref l)) (fun it s₂ => LoopAtV prog w A h₀ env x body Q E it s₂) E s := by
  have hol := N _ (List.mem_cons_self ..)
  have hls : s.heap.IsList l vs.toArray := ⟨_, hol.1, rfl, nn, rfl⟩
  have hlz : l < s.heap.objs.size := Heap.lt_size hol.1
  have hne : l ≠ s.heap.objs.size := Nat.ne_of_lt hlz
  have N' : News h₀ env.locals s.heap news := fun p hp => N p (List.mem_cons_of_mem _ hp)
  refine wpAny_pyIter_list hls ?_
  have W := Walks.list (prog := prog) (w := w) hh s.heap.objs.size l hne vs.toArray
  rw [List.size_toArray] at W
  refine loop_invN (fun i m nx => nx = news ∧ J i m) W ?_ ?_ ?_ ?_ ⟨⟨_, Heap.get?_push_size _ rfl, rfl, rfl⟩, hls.at fun o e => Heap.get?_push_of_some _ e⟩ (F.push _) (fun p hp => ⟨Heap.get?_push_of_some _ (N' p hp).1, (N' p hp).2⟩) ⟨rfl, hj⟩ ?_ ?_
  · intro hm
    rcases List.mem_cons.mp hm with e | hm
    · exact absurd F.ns.lt (e ▸ Nat.lt_irrefl _)
    · exact hol.2.1 (List.mem_singleton.mp hm).symm
  · intro b hb
    rw [List.mem_singleton.mp hb]
    exact next_is_new F
  · intro p hp hI
    exact absurd (Heap.lt_size (N' p hp).1) ((List.mem_singleton.mp hI) ▸ Nat.lt_irrefl _)
  · intro p hp hI
    rcases List.mem_cons.mp hI with e | hI
    · exact absurd (Heap.lt_size (N' p hp).1) (e ▸ Nat.lt_irrefl _)
    · exact absurd (hlt p hp) ((List.mem_singleton.mp hI) ▸ Nat.lt_irrefl _)
  · rintro i v m₁ nx h tk own hi hP _ hoff ⟨rfl, hJ⟩ F₁ N₁
    refine turn i v m₁ h tk own (nx ++ own) (by simpa using hP) hJ (fun q hq => List.mem_append.mpr (.inl hq)) (fun q hq => List.mem_append.mpr (.inr hq)) F₁ N₁
  · rintro m₁ nx h tk ⟨rfl, hJ⟩ F₁ N₁
    exact done m₁ h tk hJ F₁ N₁
theorem backJ_end {L : Addr} {news news' own : List (Addr × Obj)} {J : (Str → Option Value) → Prop} {m' : Str → Option Value} {h' : Heap} {tk : Nat} {s₁ : Shared} (F : Fr h₀ L h' m') (N : News h₀ L h' news') (h1 : ∀ q ∈ news, q ∈ news') (h2 : ∀ q ∈ own, q ∈ news') (hJ : J m') :
    InvEndN h₀ L (fun m' nx => nx = news ∧ J m') own (news.map (·.1)) s₁ { s₁ with heap := h', toks := tk } := ⟨h', tk, m', news', news, rfl, F, N, h1, h2, rfl, rfl, hJ⟩
theorem int_dg {c : Nat} {t : Tok} {Q : Value → Shared → Prop} (hc : c < 7) (h : Q (.int c s.toks) { s with toks := s.toks + 1 }) : wpAny (model prog w) A (call (.type "int") [.str (dg c) t]) Q E s := by
  have e := text_dg (t := (c : Int)) (by omega) (by omega)
  rw [Int.toNat_natCast] at e
  rw [← e]
  exact KIN.call_num (by omega) (by omega) h
end
end Mine

namespace Mine
open PySem PySem.W PyProof.Rows PySem.Calls
local macro_rules | `(tactic| walk_at "call builtin:str.split") => `(tactic| refine Stop.of ?_)
local macro_rules | `(tactic| walk_at "call builtin:bytes.split") => `(tactic| refine Stop.of ?_)
local macro_rules | `(tactic| walk_at "getMethod bytes") => `(tactic| (k_here; first | (refine getM_split ?_) | (refine getM_join ?_)))
local macro_rules | `(tactic| walk_at "exec For Name Subscript cons nil") => `(tactic| (k_here; (rename Fr _ _ _ _ => lF'); (with_unfolding_all refine' For_invVF lF' ?k1 ?k2 ?_; (case k1 => exact rfl); (case k2 => exact rfl); k_whole)))
local macro_rules | `(tactic| walk_at "pyIter ref") => `(tactic| refine Stop.of ?_)
set_option maxRecDepth 100000 in
set_option maxHeartbeats 8000000 in
theorem backStr (w : World) (mg mb : Str → Option Value) (mean : ExcName → Option Value) (news : List (Addr × Obj)) (k p : Int) (a b c d e f : Nat) (t1 t2 : Tok) (hk0 : 0 ≤ k) (hk : k ≤ 4096) (ha : a < 7) (hb : b < 7) (hc : c < 7) (hd : d < 7) (he : e < 7) (hf : f < 7) (hw : WalkTo k 6 p [(a : Int), b, c, d, e, f]) :
   Claim w mg mb mean 2 35 [.str (path6 a b c d e f) t1, .int p t2] news (fun h₀ L m s Q => 
     ∀ (h' : Heap) (tk' : Nat) (t : Tok), Fr h₀ L h' m → News h₀ L h' news → Q (.int k t) { s with heap := h', toks := tk' }) := by
  unfold Claim
  w_on
  w_top on
  k_fill
  intro dp un gd cn cs a0 ccd cl outer A₀ base h₀ L m s Q E hB hF hK hN hT hkk hdp hun hret
  have hdp' : dp + 2 < 1000 := hdp
  have hun' : un + 200 < 9900 := hun
  refine wpAny_call ?_
  k_dflt cell_enter
  k_with "call ref" => (refine Stop.of ?_)
  k_steps
  refine Stop.to ?_
  refine' Claim.go (sepS _ _ _ _ _ _ _) ?b1 ?b2 ?b3 ?b4 ?b5 ?b6 ?b7 ?b8 ?b9
  case b1 => k_asm
  case b2 => k_asm
  case b3 => k_asm
  case b4 => k_asm
  case b5 => k_asm
  case b6 => rfl
  case b7 => show dp + 1 + 1 < 1000; omega
  case b8 => show un + 3 + 100 * 1 < 9900; omega
  intro h2 tk2 t3 F2 N2
  k_steps
  refine Stop.to ?_
  refine' KSpl.split1 ?c1 ?c2 ?c3 ?c4 ?c5
  case c1 => k_asm
  case c2 => k_asm
  case c3 => decide
  case c5 => rw [sizeLine_eq]; show 11 + 2 ≤ _; decide
  intro D l h3 k3 hl hs F3 N3 hD
  rw [split6 ha hb hc hd he hf] at hl
  obtain ⟨u0, l0, e0, q0⟩ := KSpl.cons_of hl
  obtain ⟨u1, l1, e1, q1⟩ := KSpl.cons_of q0
  obtain ⟨u2, l2, e2, q2⟩ := KSpl.cons_of q1
  obtain ⟨u3, l3, e3, q3⟩ := KSpl.cons_of q2
  obtain ⟨u4, l4, e4, q4⟩ := KSpl.cons_of q3
  obtain ⟨u5, l5, e5, q5⟩ := KSpl.cons_of q4
  have e6 := KSpl.nil_of q5
  subst e6 e5 e4 e3 e2 e1 e0
  clear q0 q1 q2 q3 q4 q5 hl
  clear hs
  replace N3 : News _ _ h3 ((D, W.listOf [Value.str (dg a) u0, .str (dg b) u1, .str (dg c) u2, .str (dg d) u3, .str (dg e) u4, .str (dg f) u5].toArray 0) :: news) := N3
  k_steps
  refine Stop.to ?_
  rename Fr _ _ _ _ => lF
  rename News _ _ _ ((_, W.listOf #[_, _, _, _, _, _] 0) :: _) => lN
  replace lN : News _ _ _ ((_, W.listOf [Value.str (dg f) u5, Value.str (dg e) u4, Value.str (dg d) u3, Value.str (dg c) u2, Value.str (dg b) u1, Value.str (dg a) u0].toArray 0) :: (D, _) :: news) := lN
  refine loopB (BackJ k [(a : Int), b, c, d, e, f] 6) lF lN ?lt rfl ?j0 ?turn ?done
  case lt =>
    rename _ ∧ AllLt _ _ => l1
    intro q hq
    rcases List.mem_cons.mp hq with rfl | hq
    · exact l1.1
    · exact kst_ltOf l1.2 q hq
  case j0 => exact ⟨p, _, rfl, hw⟩
  case done =>
    clear lF lN
    intro m₁ h4 tk4 hJ F4 N4
    obtain ⟨p4, tp4, hm4, hw4⟩ := hJ
    cases hw4
    rw [map1 hm4] at F4
    k_steps
    rename News _ _ _ _ => kN
    exact hret _ _ _ (by assumption) (fun q hq => kN q (List.mem_cons_of_mem _ hq))
  clear lF lN
  intro i v m₁ h4 tk4 own nw hv hJ hs1 hs2 F4 N4
  obtain ⟨p4, tp4, hm4, hw4⟩ := hJ
  obtain ⟨x, ux, rfl, hx, e6, e7⟩ := item_str ha hb hc hd he hf hv
  rw [e7, e6] at hw4
  obtain ⟨y, hy, hy0, hy1, hev, hod⟩ := back_turn hk0 hk hw4
  rw [map1 hm4] at F4
  have hp4 := (hw4.bounds hk0 hk)
  k_steps
  refine int_dg hx ?_
  k_steps
  · exact absurd (by assumption) (not_not_intro (fmod6 (hev (by assumption))))
  · refine' backJ_end ?wF ?wN ?wa ?wb ?wJ
    case wF => k_asm
    case wN => k_asm
    case wJ => exact ⟨_, _, rfl, fdiv6 (hev (by assumption)) hy⟩
    case wa => intro q hq; repeat (first | exact hs1 q hq | refine List.Mem.tail _ ?_)
    case wb => intro q hq; repeat (first | exact hs2 q hq | refine List.Mem.tail _ ?_)
  · exact absurd (by assumption) (not_not_intro (fmod6 (hod (by assumption))))
  · refine' backJ_end ?wF ?wN ?wa ?wb ?wJ
    case wF => k_asm
    case wN => k_asm
    case wJ => exact ⟨_, _, rfl, fdiv6 (hod (by assumption)) hy⟩
    case wa => intro q hq; repeat (first | exact hs1 q hq | refine List.Mem.tail _ ?_)
    case wb => intro q hq; repeat (first | exact hs2 q hq | refine List.Mem.tail _ ?_)

end Mine

namespace Mine
open PySem PySem.W PyProof.Rows PySem.Calls
local macro_rules | `(tactic| walk_at "call builtin:str.split") => `(tactic| refine Stop.of ?_)
local macro_rules | `(tactic| walk_at "call builtin:bytes.split") => `(tactic| refine Stop.of ?_)
local macro_rules | `(tactic| walk_at "getMethod bytes") => `(tactic| (k_here; first | (refine getM_split ?_) | (refine getM_join ?_)))
local macro_rules | `(tactic| walk_at "exec For Name Subscript cons nil") => `(tactic| (k_here; (rename Fr _ _ _ _ => lF'); (with_unfolding_all refine' For_invVF lF' ?k1 ?k2 ?_; (case k1 => exact rfl); (case k2 => exact rfl); k_whole)))
local macro_rules | `(tactic| walk_at "pyIter ref") => `(tactic| refine Stop.of ?_)
set_option maxRecDepth 100000 in
set_option maxHeartbeats 8000000 in
theorem backByt (w : World) (mg mb : Str → Option Value) (mean : ExcName → Option Value) (news : List (Addr × Obj)) (k p : Int) (a b c d e f : Nat) (t1 t2 : Tok) (hk0 : 0 ≤ k) (hk : k ≤ 4096) (ha : a < 7) (hb : b < 7) (hc : c < 7) (hd : d < 7) (he : e < 7) (hf : f < 7) (hw : WalkTo k 6 p [(a : Int), b, c, d, e, f]) :
   Claim w mg mb mean 2 35 [.bytes (bpath a b c d e f) t1, .int p t2] news (fun h₀ L m s Q => 
     ∀ (h' : Heap) (tk' : Nat) (t : Tok), Fr h₀ L h' m → News h₀ L h' news → Q (.int k t) { s with heap := h', toks := tk' }) := by
  unfold Claim
  w_on
  w_top on
  k_fill
  intro dp un gd cn cs a0 ccd cl outer A₀ base h₀ L m s Q E hB hF hK hN hT hkk hdp hun hret
  have hdp' : dp + 2 < 1000 := hdp
  have hun' : un + 200 < 9900 := hun
  refine wpAny_call ?_
  k_dflt cell_enter
  k_with "call ref" => (refine Stop.of ?_)
  k_steps
  refine Stop.to ?_
  refine' Claim.go (sepB _ _ _ _ _ _ _) ?b1 ?b2 ?b3 ?b4 ?b5 ?b6 ?b7 ?b8 ?b9
  case b1 => k_asm
  case b2 => k_asm
  case b3 => k_asm
  case b4 => k_asm
  case b5 => k_asm
  case b6 => rfl
  case b7 => show dp + 1 + 1 < 1000; omega
  case b8 => show un + 3 + 100 * 1 < 9900; omega
  intro h2 tk2 t3 F2 N2
  k_steps
  refine Stop.to ?_
  refine' bsplit ha hb hc hd he hf ?c1 ?c2 ?c4
  case c1 => k_asm
  case c2 => k_asm
  intro D h3 k3 u0 u1 u2 u3 u4 u5 F3 N3 hD
  k_steps
  refine Stop.to ?_
  rename Fr _ _ _ _ => lF
  rename News _ _ _ ((_, W.listOf #[_, _, _, _, _, _] 0) :: _) => lN
  replace lN : News _ _ _ ((_, W.listOf [Value.bytes (db f) u5, Value.bytes (db e) u4, Value.bytes (db d) u3, Value.bytes (db c) u2, Value.bytes (db b) u1, Value.bytes (db a) u0].toArray 0) :: (D, _) :: news) := lN
  refine loopB (BackJ k [(a : Int), b, c, d, e, f] 6) lF lN ?lt rfl ?j0 ?turn ?done
  case lt =>
    rename _ ∧ AllLt _ _ => l1
    intro q hq
    rcases List.mem_cons.mp hq with rfl | hq
    · exact l1.1
    · exact kst_ltOf l1.2 q hq
  case j0 => exact ⟨p, _, rfl, hw⟩
  case done =>
    clear lF lN
    intro m₁ h4 tk4 hJ F4 N4
    obtain ⟨p4, tp4, hm4, hw4⟩ := hJ
    cases hw4
    rw [map1 hm4] at F4
    k_steps
    rename News _ _ _ _ => kN
    exact hret _ _ _ (by assumption) (fun q hq => kN q (List.mem_cons_of_mem _ hq))
  clear lF lN
  intro i v m₁ h4 tk4 own nw hv hJ hs1 hs2 F4 N4
  obtain ⟨p4, tp4, hm4, hw4⟩ := hJ
  obtain ⟨x, ux, rfl, hx, e6, e7⟩ := item_byt ha hb hc hd he hf hv
  rw [e7, e6] at hw4
  obtain ⟨y, hy, hy0, hy1, hev, hod⟩ := back_turn hk0 hk hw4
  rw [map1 hm4] at F4
  have hp4 := (hw4.bounds hk0 hk)
  k_steps
  refine dec hx ?_
  intro td kd
  k_steps
  refine int_dg hx ?_
  k_steps
  · exact absurd (by assumption) (not_not_intro (fmod6 (hev (by assumption))))
  · refine' backJ_end ?wF ?wN ?wa ?wb ?wJ
    case wF => k_asm
    case wN => k_asm
    case wJ => exact ⟨_, _, rfl, fdiv6 (hev (by assumption)) hy⟩
    case wa => intro q hq; repeat (first | exact hs1 q hq | refine List.Mem.tail _ ?_)
    case wb => intro q hq; repeat (first | exact hs2 q hq | refine List.Mem.tail _ ?_)
  · exact absurd (by assumption) (not_not_intro (fmod6 (hod (by assumption))))
  · refine' backJ_end ?wF ?wN ?wa ?wb ?wJ
    case wF => k_asm
    case wN => k_asm
    case wJ => exact ⟨_, _, rfl, fdiv6 (hod (by assumption)) hy⟩
    case wa => intro q hq; repeat (first | exact hs1 q hq | refine List.Mem.tail _ ?_)
    case wb => intro q hq; repeat (first | exact hs2 q hq | refine List.Mem.tail _ ?_)

end Mine

namespace Mine
open PySem PySem.W PyProof.Rows
/-- the values are the texts of the ints -/
inductive TextsAre : List Value → List Int → Prop where
  | nil : TextsAre [] []
  | cons {t : Int} {u : Tok} {vs : List Value} {ts : List Int} : TextsAre vs ts → TextsAre (.str (Str.ofString (toString t)) u :: vs) (t :: ts)
theorem TextsAre.len {vs : List Value} {ts : List Int} (h : TextsAre vs ts) : vs.length = ts.length := by
  induction h with
  | nil => rfl
  | cons _ ih => rw [List.length_cons, ih, List.length_cons]
theorem TextsAre.snoc {vs : List Value} {ts : List Int} {t : Int} {u : Tok} (h : TextsAre vs ts) : TextsAre (vs ++ [.str (Str.ofString (toString t)) u]) (ts ++ [t]) := by
  induction h with
  | nil => exact .cons .nil
  | cons _ ih => exact .cons ih
theorem TextsAre.cons_of {vs : List Value} {t : Int} {ts : List Int} (h : TextsAre vs (t :: ts)) : ∃ u vs', vs = .str (Str.ofString (toString t)) u :: vs' ∧ TextsAre vs' ts := by
  cases h with
  | cons h => exact ⟨_, _, rfl, h⟩
theorem digit_of {t : Int} (h : 0 ≤ t ∧ t ≤ 6) : ∃ a : Nat, a < 7 ∧ t = (a : Int) ∧ Str.ofString (toString t) = dg a := ⟨t.toNat, by omega, by omega, text_dg h.1 h.2⟩
theorem six_of {va : Array Value} {ts : List Int} (h : TextsAre va.toList ts) (hl : ts.length = 6) (hs : ∀ t ∈ ts, 0 ≤ t ∧ t ≤ 6) : ∃ (a b c d e f : Nat) (u0 u1 u2 u3 u4 u5 : Tok), a < 7 ∧ b < 7 ∧ c < 7 ∧ d < 7 ∧ e < 7 ∧ f < 7 ∧ ts = [(a : Int), (b : Int), (c : Int), (d : Int), (e : Int), (f : Int)] ∧
    va = #[.str (dg a) u0, .str (dg b) u1, .str (dg c) u2, .str (dg d) u3, .str (dg e) u4, .str (dg f) u5] := by
  match ts, hl with
  | [t0, t1, t2, t3, t4, t5], _ =>
    obtain ⟨u0, v0, e0, q0⟩ := h.cons_of
    obtain ⟨u1, v1, e1, q1⟩ := q0.cons_of
    obtain ⟨u2, v2, e2, q2⟩ := q1.cons_of
    obtain ⟨u3, v3, e3, q3⟩ := q2.cons_of
    obtain ⟨u4, v4, e4, q4⟩ := q3.cons_of
    obtain ⟨u5, v5, e5, q5⟩ := q4.cons_of
    cases q5
    rw [e1, e2, e3, e4, e5] at e0
    obtain ⟨a, ha, a1, a2⟩ := digit_of (hs t0 (by simp))
    obtain ⟨b, hb, b1, b2⟩ := digit_of (hs t1 (by simp))
    obtain ⟨c, hc, c1, c2⟩ := digit_of (hs t2 (by simp))
    obtain ⟨d, hd, d1, d2⟩ := digit_of (hs t3 (by simp))
    obtain ⟨e, he, f1, f2⟩ := digit_of (hs t4 (by simp))
    obtain ⟨f, hf, g1, g2⟩ := digit_of (hs t5 (by simp))
    rw [a2, b2, c2, d2, f2, g2] at e0
    exact ⟨a, b, c, d, e, f, u0, u1, u2, u3, u4, u5, ha, hb, hc, hd, he, hf, by rw [a1, b1, c1, d1, f1, g1], Array.toList_inj.mp e0⟩
theorem strs6 {a b c d e f : Nat} {u0 u1 u2 u3 u4 u5 : Tok} : StrsAre (#[Value.str (dg a) u0, .str (dg b) u1, .str (dg c) u2, .str (dg d) u3, .str (dg e) u4, .str (dg f) u5] : Array Value).toList [dg a, dg b, dg c, dg d, dg e, dg f] :=
  strsAre_of_values [(dg a, u0), (dg b, u1), (dg c, u2), (dg d, u3), (dg e, u4), (dg f, u5)]
/-- between the turns of the walk's loop -/
def WalkJ (S : Addr) (news : List (Addr × Obj)) (k : Int) (t1 : Tok) (i : Nat) (m : Str → Option Value) (nx : List (Addr × Obj)) : Prop :=
  ∃ (p : Int) (tp : Tok) (ts : List Int) (va : Array Value) (n : Nat), nx = (S, W.listOf va n) :: news ∧ m (Str.ofString "place") = some (.int p tp) ∧ m (Str.ofString "first") = some (.int k t1) ∧ m (Str.ofString "sixths") = some (.ref S) ∧
    WalkTo k i p ts ∧ TextsAre va.toList ts
theorem map3 {m : Str → Option Value} {a b c : Str} {x y z : Value} (h1 : m a = some x) (h2 : m b = some y) (h3 : m c = some z) : m = fun q => if q = a then some x else if q = b then some y else if q = c then some z else m q := by
  funext q
  split
  · rename_i e; rw [e, h1]
  · split
    · rename_i e; rw [e, h2]
    · split
      · rename_i e; rw [e, h3]
      · rfl
section
variable {prog : Program} {w : World} {A : Around} {E : Value → Shared → Prop} {s : Shared} {env : Env} {h₀ : Heap} {x : Str} {body : List Stmt} {Q : Flow → Shared → Prop}
theorem loop6 {S r : Addr} {news : List (Addr × Obj)} {m₀ : Str → Option Value} {k : Int} {t1 tp t₀ u₀ v₀ : Tok} (F : Fr h₀ env.locals s.heap m₀) (N : News h₀ env.locals s.heap ((S, W.listOf #[] 0) :: news)) (hr : IsRange s.heap r 1 7 1 t₀ u₀ v₀) (hS : ∀ q ∈ news, q.1 < S)
    (hm : m₀ (Str.ofString "place") = some (.int k tp)) (hf : m₀ (Str.ofString "first") = some (.int k t1)) (hs : m₀ (Str.ofString "sixths") = some (.ref S)) (hh : A.handled = none)
    (turn : ∀ (i : Nat) (p : Int) (tp : Tok) (ts : List Int) (va : Array Value) (n : Nat) (t : Tok) (u : Str → Option Value) (h : Heap) (tk : Nat) (own nw : List (Addr × Obj)), i < 6 → (∀ q ∈ nw, q.1 ≠ S) → (∀ q ∈ news, q ∈ nw) → (∀ q ∈ own, q ∈ nw) → WalkTo k i p ts → TextsAre va.toList ts →
      Fr h₀ env.locals h (fun y => if y = x then some (.int (1 + (i : Int)) t) else if y = Str.ofString "place" then some (.int p tp) else if y = Str.ofString "first" then some (.int k t1) else if y = Str.ofString "sixths" then some (.ref S) else u y) → News h₀ env.locals h ((S, W.listOf va n) :: nw) →
      wpAny (model prog w) A (execs body env) (InvPostN h₀ env.locals (WalkJ S news k t1 (i + 1)) own (S :: news.map (·.1)) { s with heap := h, toks := tk } Q) E { s with heap := h, toks := tk })
    (done : ∀ (p : Int) (tp : Tok) (ts : List Int) (va : Array Value) (n : Nat) (u : Str → Option Value) (h : Heap) (tk : Nat), WalkTo k 6 p ts → TextsAre va.toList ts →
      Fr h₀ env.locals h (fun y => if y = Str.ofString "place" then some (.int p tp) else if y = Str.ofString "first" then some (.int k t1) else if y = Str.ofString "sixths" then some (.ref S) else u y) → News h₀ env.locals h ((S, W.listOf va n) :: news) → Q .next { s with heap := h, toks := tk }) :
    wpAny (model prog w) A (pyIter (.ref r)) (fun it s₂ => LoopAtV prog w A h₀ env x body Q E it s₂) E s := by
  refine wpAny_pyIter_range hr (by decide) ?_
  have W : Walks prog w A s.heap.objs.size [s.heap.objs.size] [s.heap.objs.size] 6 (fun i v => i < 6 ∧ ∃ t, v = .int (1 + i * 1) t)
      (fun i h => IsRangeIter h s.heap.objs.size (1 + (i : Nat) * 1) (((6 : Nat) : Int) - (i : Nat)) 1) := (Walks.range hh _ 1 1 6).bound
  refine loop_invN (WalkJ S news k t1) W ?_ ?_ ?_ ?_ (by show IsRangeIter _ _ _ _ _; rw [show (6 : Nat) = Builtin.Range.rangeSize 1 7 1 from rfl]; simpa using Heap.get?_push_size _ rfl) (F.push _) (fun p hp => ⟨Heap.get?_push_of_some _ (N p hp).1, (N p hp).2⟩) ⟨k, tp, [], #[], 0, rfl, hm, hf, hs, .nil, .nil⟩ ?_ ?_
  · intro hm
    exact absurd F.ns.lt ((List.mem_singleton.mp hm) ▸ Nat.lt_irrefl _)
  · intro b hb
    rw [List.mem_singleton.mp hb]
    exact next_is_new F
  · intro p hp hI
    exact absurd (Heap.lt_size (N p hp).1) ((List.mem_singleton.mp hI) ▸ Nat.lt_irrefl _)
  · intro p hp hI
    exact absurd (Heap.lt_size (N p hp).1) ((List.mem_singleton.mp hI) ▸ Nat.lt_irrefl _)
  · rintro i v m₁ nx h tk own hi ⟨_, t, rfl⟩ _ hoff ⟨p, tp, ts, va, n, rfl, g1, g2, g3, g4, g5⟩ F₁ N₁
    have e1 : 1 + (i : Int) * 1 = 1 + (i : Int) := by omega
    rw [e1] at F₁
    rw [map3 g1 g2 g3] at F₁
    refine turn i p tp ts va n t m₁ h tk own (news ++ own) hi ?_ (fun q hq => List.mem_append.mpr (.inl hq)) (fun q hq => List.mem_append.mpr (.inr hq)) g4 g5 F₁ N₁
    intro q hq
    rcases List.mem_append.mp hq with h1 | h1
    · exact Nat.ne_of_lt (hS q h1)
    · exact hoff q h1 S (List.mem_cons_self ..)
  · rintro m₁ nx h tk ⟨p, tp, ts, va, n, rfl, g1, g2, g3, g4, g5⟩ F₁ N₁
    rw [map3 g1 g2 g3] at F₁
    exact done p tp ts va n m₁ h tk g4 g5 F₁ N₁
end
local macro_rules | `(tactic| k_all) => `(tactic| assumption)
local macro_rules | `(tactic| walk_at "getMethod bytes") => `(tactic| (k_here; refine getM_join ?_))
local macro_rules | `(tactic| walk_at "getMethod str") => `(tactic| (k_here; refine getM_encode ?_))
local macro_rules | `(tactic| walk_at "call builtin:str.encode") => `(tactic| (k_here; refine enc (by assumption) ?_; intro tE'))
local macro_rules | `(tactic| walk_at "call builtin:bytes.join") => `(tactic| refine Stop.of ?_)
local macro_rules | `(tactic| walk_at "compareOp NotEq ref ref") => `(tactic| refine Stop.of ?_)
local macro_rules | `(tactic| walk_at "CompEnd") => `(tactic| ((rename Fr _ _ _ _ => fX); (rename News _ _ _ _ => nX); refine LCg.CompEnd.intro fX nX _ (fun p hp => hp) (by assumption) (Or.inr ⟨_, by k_mem, rfl, _, rfl⟩) ?_))
local macro_rules | `(tactic| walk_at "call builtin:list.append") => `(tactic| (k_here; (show wpAny _ _ (call (Value.builtin _) [Value.ref _, _]) _ _ _); k_dflt (refine' append_K ?k1 ?k2 ?k3 ?_ ?z; (case k1 => k_asm); (case k2 => k_asm); (case k3 => k_upd); (case z => size_fits); k_whole); intro h' F' N'; (try k_sweep)))
theorem isF_div {p : Int} (h0 : 0 ≤ p) (h : p ≤ 4096) : IsF (Float64.ofFrac (decide (p < 0) != decide ((4096 : Int) < 0)) p.natAbs (Int.natAbs 4096)) p.toNat := by
  have e1 : (decide (p < 0) != decide ((4096 : Int) < 0)) = false := by
    rw [decide_eq_false (by omega)]; rfl
  have e2 : p.natAbs = p.toNat := by omega
  rw [e1, e2]
  exact isF_F (by omega)
theorem walk_end {h₀ h' : Heap} {L S : Addr} {news news' own : List (Addr × Obj)} {k p p' : Int} {t1 tp tu : Tok} {i n' tk : Nat} {m' : Str → Option Value} {ts : List Int} {va : Array Value} {s₁ : Shared} (F : Fr h₀ L h' m') (N : News h₀ L h' news')
    (hm : m' (Str.ofString "place") = some (.int p' tp)) (e : p' = ((mid p.toNat : Nat) : Int)) (hf : m' (Str.ofString "first") = some (.int k t1)) (hs : m' (Str.ofString "sixths") = some (.ref S)) (hw : WalkTo k i p ts) (hts : TextsAre va.toList ts)
    (hS : (S, W.listOf (va.push (.str (Str.ofString (toString ((6 * p).fdiv 4096))) tu)) n') ∈ news') (h1 : ∀ q ∈ news, q ∈ news') (h2 : ∀ q ∈ own, q ∈ news') : InvEndN h₀ L (WalkJ S news k t1 (i + 1)) own (S :: news.map (·.1)) s₁ { s₁ with heap := h', toks := tk } := by
  refine ⟨h', tk, m', news', (S, W.listOf (va.push (.str (Str.ofString (toString ((6 * p).fdiv 4096))) tu)) n') :: news, rfl, F, N, ?_, h2, rfl, p', tp, ts ++ [(6 * p).fdiv 4096], _, n', rfl, hm, hf, hs, ?_, ?_⟩
  · intro q hq
    rcases List.mem_cons.mp hq with rfl | hq
    · exact hS
    · exact h1 q hq
  · rw [e]; exact hw.cons
  · rw [Array.toList_push]; exact hts.snoc
set_option maxRecDepth 100000 in
set_option maxHeartbeats 8000000 in
theorem walk (w : World) (mg mb : Str → Option Value) (mean : ExcName → Option Value) (news : List (Addr × Obj)) (k : Int) (t1 : Tok) (hk0 : 0 ≤ k) (hk : k ≤ 4096) :
   Claim w mg mb mean 4 40 [.int k t1] news (fun h₀ L m s Q => 
     ∀ (h' : Heap) (tk' : Nat), Fr h₀ L h' m → News h₀ L h' news → Q (.bool true) { s with heap := h', toks := tk' }) := by
  unfold Claim
  w_on
  w_top on
  k_fill
  intro dp un gd cn cs a ccd cl outer A₀ base h₀ L m s Q E hB hF hK hN hT hkk hdp hun hret
  refine wpAny_call ?_
  k_dflt cell_enter
  k_with "pyIter ref" => (refine Stop.of ?_)
  k_steps
  refine Stop.to ?_
  rename Fr _ _ _ _ => lF
  rename News _ _ _ ((_, W.listOf #[] 0) :: news) => lN
  rename IsRange _ _ _ _ _ _ _ _ => rgX
  refine loop6 lF lN rgX (by assumption) rfl rfl rfl rfl ?turn ?done
  case done =>
    clear lF lN rgX hN hF
    intro p tp ts va n u h tk hw hts F₁ N₁
    obtain ⟨a', b', c', d', e', f', u0, u1, u2, u3, u4, u5, ha, hb, hc, hd, he, hf, e1, e2⟩ := six_of hts (hw.tri hk0 hk).2 (hw.small hk0 hk)
    subst e1 e2
    clear hts
    have hMk := kstMark
    have hdp' : dp + 4 < 1000 := hdp
    have hun' : un + 400 < 9900 := hun
    k_with "call ref" => (refine Stop.of ?_)
    k_steps
    refine Stop.to ?_
    refine' Claim.go (sepS _ _ _ _ _ _ _) ?b1 ?b2 ?b3 ?b4 ?b5 ?b6 ?b7 ?b8 ?b9
    case b1 => k_asm
    case b2 => k_asm
    case b3 => k_asm
    case b4 => k_asm
    case b5 => k_asm
    case b6 => rfl
    case b7 => show dp + 1 + 1 < 1000; omega
    case b8 => show un + 3 + 100 * 1 < 9900; omega
    intro h2 tk2 t2 F2 N2
    k_steps
    refine' join_list ?c1 strs6 ?c2 ?c3
    case c1 => exact ⟨_, (N2 _ (List.mem_cons_self ..)).1, rfl, _, rfl⟩
    case c2 => show 1 + (1 + (1 + (1 + (1 + (1 + 0))))) + 6 * 1 ≤ 16777216; decide
    rw [join6]
    intro t3 k3
    k_steps
    refine Stop.to ?_
    refine' Claim.go (sepB _ _ _ _ _ _ _) ?sb1 ?sb2 ?sb3 ?sb4 ?sb5 ?sb6 ?sb7 ?sb8 ?_
    case sb1 => k_asm
    case sb2 => k_asm
    case sb3 => k_asm
    case sb4 => k_asm
    case sb5 => k_asm
    case sb6 => rfl
    case sb7 => show dp + 1 + 1 < 1000; omega
    case sb8 => show un + 3 + 100 * 1 < 9900; omega
    intro h4 tk4 t4 F4 N4
    k_steps
    refine Stop.to ?_
    refine' bjoin (a := a') (b := b') (c := c') (d := d') (e := e') (f := f') ?j1 ?j2 ?j3 ?j4 ?_
    case j1 => k_asm
    case j2 => k_mem
    case j3 => rfl
    case j4 => rfl
    intro t5
    k_steps
    refine Stop.to ?_
    refine' Claim.go (backStr _ _ _ _ _ k p a' b' c' d' e' f' _ _ hk0 hk ha hb hc hd he hf hw) ?bs1 ?bs2 ?bs3 ?bs4 ?bs5 ?bs6 ?bs7 ?bs8 ?_
    case bs1 => k_asm
    case bs2 => k_asm
    case bs3 => k_asm
    case bs4 => k_asm
    case bs5 => k_asm
    case bs6 => rfl
    case bs7 => show dp + 1 + 2 < 1000; omega
    case bs8 => show un + 3 + 100 * 2 < 9900; omega
    intro h6 tk6 t6 F6 N6
    k_steps
    rotate_left
    · exact absurd rfl (by assumption)
    refine Stop.to ?_
    refine' Claim.go (backByt _ _ _ _ _ k p a' b' c' d' e' f' _ _ hk0 hk ha hb hc hd he hf hw) ?bb1 ?bb2 ?bb3 ?bb4 ?bb5 ?bb6 ?bb7 ?bb8 ?_
    case bb1 => k_asm
    case bb2 => k_asm
    case bb3 => k_asm
    case bb4 => k_asm
    case bb5 => k_asm
    case bb6 => rfl
    case bb7 => show dp + 1 + 2 < 1000; omega
    case bb8 => show un + 3 + 100 * 2 < 9900; omega
    intro h7 tk7 t7 F7 N7
    k_steps
    rename News _ _ _ _ => kN
    have e9 : (k == k) = true := beq_self_eq_true k
    rw [e9]
    exact hret _ _ (by assumption) (fun q hq => kN q (List.Mem.tail _ (List.Mem.tail _ hq)))
  case turn =>
    clear lF lN rgX hN hF
    intro i p tp ts va n t u h tk own nw hi hne hsub1 hsub2 hw hts F₁ N₁
    have hp0 := (hw.bounds hk0 hk).1
    have hp1 := (hw.bounds hk0 hk).2
    have hvl : va.size = i := by rw [← Array.length_toList, hts.len, (hw.tri hk0 hk).2]
    have hMk := kstMark
    k_with "call ref" => (refine Stop.of ?_)
    k_with "call builtin:sorted" => (refine Stop.of ?_)
    k_steps
    refine Stop.to ?_
    have hdp' : dp + 4 < 1000 := hdp
    have hun' : un + 400 < 9900 := hun
    refine' Claim.go (hsv _ _ _ _ _ _ _ _ _ _ (isF_div hp0 hp1) (by omega)) ?h1 ?h2 ?h3 ?h4 ?h5 ?h6 ?h7 ?h8 ?_
    case h1 => k_asm
    case h2 => k_asm
    case h3 => k_asm
    case h4 => k_asm
    case h5 => k_asm
    case h6 => rfl
    case h7 => show dp + 1 + 1 < 1000; omega
    case h8 => show un + 3 + 100 * 1 < 9900; omega
    intro h2 tk2 D a1 b1 c1 ta tb tc F2 N2 hD hT3
    k_steps
    refine Stop.to ?_
    have hmid : mid p.toNat ≤ 4096 := mid_le _
    refine' sorted_three ?s1 ?s2 ?s3 hT3 hmid ?_
    case s1 => k_asm
    case s2 => k_asm
    case s3 => exact List.mem_cons_self ..
    clear hT3
    intro D2 e2 h3 x1 y1 z1 tx ty tz F3 N3 hD2 hx1 hy1 hz1
    k_steps
    refine Stop.to ?_
    refine' ne0 ?d1 ?d2 ?r1 ?r2 ?d3 ?r3 ?r4 ?d4 ?_
    case d1 => k_asm
    case d2 => k_mem
    case d3 => k_mem
    case r1 => rfl
    case r2 => rfl
    case r3 => rfl
    case r4 => rfl
    case d4 => show un + 3 < 9900; omega
    k_steps
    refine Stop.to ?_
    refine' ne3 ?xd1 ?xd2 ?xr1 ?xr2 ?xd3 ?xr3 ?xr4 (IsF.times hx1 (by omega) rfl) (IsF.times hy1 hmid (hw.next hk0 hk)) (IsF.times hz1 (by omega) rfl) ?xd4 ?_
    case xd1 => k_asm
    case xd2 => k_mem
    case xd3 => k_mem
    case xr1 => rfl
    case xr2 => rfl
    case xr3 => rfl
    case xr4 => rfl
    case xd4 => show un + 3 < 9900; omega
    k_steps
    refine' walk_end ?wF ?wN ?w1 (hw.next hk0 hk) ?w2 ?w3 hw hts ?wS ?wa ?wb
    case wF => k_asm
    case wN => k_asm
    case w1 => rfl
    case w2 => rfl
    case w3 => rfl
    case wS => k_mem
    case wa => intro q hq; repeat (first | exact hsub1 q hq | refine List.Mem.tail _ ?_)
    case wb => intro q hq; repeat (first | exact hsub2 q hq | refine List.Mem.tail _ ?_)
end Mine

namespace Mine
open PySem PySem.W PyProof.Rows PySem.Calls
/-- i ints, each in 0 .. 4096 -/
def Firsts (i : Nat) (ys : List Value) : Prop := ys.length = i ∧ ∃ ns, IntsAre ys ns ∧ ∀ n ∈ ns, 0 ≤ n ∧ n ≤ 4096
theorem Firsts.nil : Firsts 0 [] := ⟨rfl, [], .nil, fun _ h => nomatch h⟩
theorem ints_snoc {ys : List Value} {ns : List Int} {n : Int} {t : Tok} (h : IntsAre ys ns) : IntsAre (ys ++ [.int n t]) (ns ++ [n]) := by
  induction h with
  | nil => exact .cons _ _ .nil
  | cons _ _ _ ih => exact .cons _ _ ih
theorem Firsts.snoc {i : Nat} {ys : List Value} (h : Firsts i ys) {n : Int} {t : Tok} : Firsts (i + 1) (ys ++ [.int (n.fmod 4097) t]) := by
  obtain ⟨hl, ns, hi, hn⟩ := h
  refine ⟨by rw [List.length_append, hl]; rfl, _, ints_snoc hi, fun q hq => ?_⟩
  rcases List.mem_append.mp hq with h | h
  · exact hn q h
  · rw [List.mem_singleton.mp h, Int.fmod_eq_emod_of_nonneg _ (by decide)]
    omega
theorem Firsts.item {n : Nat} {zs : List Value} (h : Firsts n zs) {t u : Tok} {i : Nat} {v : Value} (hv : ([Value.int 1234 t, Value.int 4096 u] ++ zs)[i]? = some v) : ∃ q r, v = .int q r ∧ 0 ≤ q ∧ q ≤ 4096 := by
  match i with
  | 0 => cases hv; exact ⟨_, _, rfl, by decide, by decide⟩
  | 1 => cases hv; exact ⟨_, _, rfl, by decide, by decide⟩
  | i + 2 =>
    have hv : zs[i]? = some v := hv
    obtain ⟨_, ns, hi, hn⟩ := h
    have hlt : i < ns.length := by
      have := (List.getElem?_eq_some_iff.mp hv).1
      rw [hi.length] at this
      exact this
    obtain ⟨r, hr⟩ := hi.get i ns[i] (by simp [hlt])
    rw [hr] at hv
    cases hv
    exact ⟨_, _, rfl, hn _ (List.getElem_mem hlt)⟩
section
variable {prog : Program} {w : World} {A : Around} {E : Value → Shared → Prop} {s : Shared} {h₀ : Heap} {L : Addr} {m : Str → Option Value} {env : Env}
/-- a comprehension, by what holds of the items made so far -/
theorem comp_ind {elt : Expr} {x : Str} {scope : Scope} {cl : List (Str × Addr)} {S : List (Addr × Obj) → Prop} {P : Nat → Value → Prop} {Fin : List Value → List (Addr × Obj) → Prop} {news : List (Addr × Obj)} {n : Nat} (Inv : Nat → List Value → Prop)
    (turn : ∀ (i : Nat) (ys : List Value) (v : Value) (I : Addr) (oI : Obj) (C : Addr) (oC : Obj) (D : Addr) (m₂ : Str → Option Value) (h : Heap) (tk : Nat) (E' : Value → Shared → Prop) (rest : Value → List (Addr × Obj) → Prop), i < n → Inv i ys → (∀ y, Inv (i + 1) (ys ++ [y]) → rest y news) → P i v →
      LCg.NsObj oC m₂ → m₂ x = some v → Fr h₀ L h m → News h₀ L h ((I, oI) :: (C, oC) :: (D, LCg.lst ys) :: news) → LCg.Off3 I C D news → ((@Ne Nat I C) ∧ (@Ne Nat I D) ∧ (@Ne Nat C D)) →
      wpAny (model prog w) A (eval elt (compEnvC scope cl C env)) (LCg.CompEnd h₀ L m { s with heap := h, toks := tk } I oI C oC D (LCg.lst ys) S rest) E' { s with heap := h, toks := tk })
    (fin : ∀ ys, Inv n ys → Fin ys news) : ∀ (k i : Nat) (ys : List Value), i + k = n → Inv i ys → LCg.CompRest prog w A h₀ L m env elt x scope cl s S P Fin k i ys news
  | 0, i, ys, e, hI => LCg.CompRest.zero (fin ys (by have : i = n := e; rw [← this]; exact hI))
  | k + 1, i, ys, e, hI => LCg.CompRest.succ fun v I oI C oC D m₂ h tk E' hP hC hx F N off ne =>
      turn i ys v I oI C oC D m₂ h tk E' _ (by omega) hI (fun y hy => comp_ind Inv turn fin k (i + 1) (ys ++ [y]) (by omega) hy) hP hC hx F N off ne
end
end Mine

namespace Mine
open PySem PySem.W PyProof.Rows PySem.Calls
local macro_rules | `(tactic| walk_at "exec For Name BinOp cons nil") => `(tactic| refine Stop.of ?_)
local macro_rules | `(tactic| walk_at "eval ListComp") => `(tactic| ((show wpAny _ _ (eval (Expr.ListComp _ [⟨_, Expr.Call _ _ _ _, _, _⟩] _ _) _) _ _ _); refine Stop.of ?_))
local macro_rules | `(tactic| walk_at "CompEnd") => `(tactic| ((rename Firsts _ _ => fZ); refine Stop.of ?_))
local macro_rules | `(tactic| walk_at "call type:range") => `(tactic| refine Stop.of ?_)
set_option maxRecDepth 100000 in
set_option maxHeartbeats 8000000 in
theorem final : PySem.Challenge.rw_mj0038_01.Holds := hd (by
  w_on
  w_strict (k_go0; (all_goals try k_fold); (k_with "call ref" => (refine Stop.of ?_)); k_steps)
  refine Stop.to ?_
  rename Fr _ _ _ _ => lF
  rename News _ _ _ _ => lN
  obtain ⟨m9, F9⟩ : ∃ m9, Fr _ _ _ m9 := ⟨_, lF⟩
  clear lF
  refine' For_invVF F9 ?f1 ?f2 ?_
  case f1 => rfl
  case f2 => rfl
  k_steps
  refine Stop.to ?_
  refine LCg.ListComp_U (F₀ := by k_asm) (by with_unfolding_all rfl) (by decide) (by rfl) (by decide) (by rfl) ?_
  k_with "call builtin:len" => (refine' kst_len ?l1 ?l2 ?l3 ?l4 ?_; (case l1 => k_asm); (case l2 => k_mem); (case l3 => rfl); (case l4 => (simp only [List.length_map] at *; omega)))
  k_steps
  refine Stop.to ?_
  refine' range1_rows ?r1 ?r2 ?_
  case r1 => k_asm
  case r2 => k_asm
  intro h5 tk5 tr1 tr2 tr3 hr5 F5 N5 _
  refine LCg.CompSrc.range rfl F5 N5 hr5 (small_one (by decide) (by decide) (by split <;> omega) (by split <;> omega)) (rangeSize_nat _ _) (by rw [sizeLine_eq]; split <;> omega) ?_
  intro g5
  refine comp_ind Firsts ?turn ?fin _ 0 [] (Nat.zero_add _) .nil
  case fin =>
    intro zs hz
    unfold LCg.FinE
    intro D6 h6 tk6 F6 N6 off6
    refine' add_lists (ws := zs) F6 N6 ?a1 ?a2 ?_ ?a3
    case a1 => exact ⟨_, (N6 _ (List.Mem.tail _ (List.Mem.head _))).1, rfl, _, rfl⟩
    case a2 => exact ⟨_, (N6 _ (List.Mem.head _)).1, rfl, _, rfl⟩
    case a3 => rw [hz.1, sizeLine_eq, show List.length [_, _] = 2 from rfl]; split <;> omega
    intro h7 F7 N7
    refine loopB (fun _ _ => True) F7 N7 (fun q hq => Heap.lt_size (N6 q hq).1) rfl trivial ?lturn ?ldone
    case ldone =>
      intro m₁ h8 tk8 _ F8 N8
      k_steps
    intro i v m₁ h8 tk8 own nw hv _ hs1 hs2 F8 N8
    obtain ⟨q, r, rfl, hq0, hq1⟩ := hz.item hv
    k_steps
    refine Stop.to ?_
    refine' Claim.go (walk _ _ _ _ _ q _ hq0 hq1) ?w1 ?w2 ?w3 ?w4 ?w5 ?w6 ?w7 ?w8 ?_
    case w1 => k_asm
    case w2 => k_asm
    case w3 => k_asm
    case w4 => k_asm
    case w5 => k_asm
    case w6 => rfl
    case w7 => decide
    case w8 => decide
    intro h9 tk9 F9' N9'
    k_steps
    exact backJ_end F9' N9' hs1 hs2 trivial
  intro i zs v I oI C oC D5 m₂ h6 tk6 E6 rest hi hz hrest hv hns hmx F6 N6 off6 ne6
  obtain ⟨tv, rfl⟩ := hv
  have hz' := hz
  k_steps
  rename IntsAre ys _ => hI8
  rename News _ _ _ _ => N7
  refine' sumK (vs := (slicePick ys.toArray (some (0 + (i : Int))) none (some 4)).toList) rfl ?s1 ?s2 ?s3 (hI8.pick _ _ _) ?_
  case s1 => k_asm
  case s2 => k_asm
  case s3 => exact ⟨_, (N7 _ (List.Mem.head _)).1, rfl, _, rfl⟩
  intro h8 tk8 t8 F8 N8
  k_steps
  refine Stop.to ?_
  exact LCg.CompEnd.intro F8 N8 _ (fun q hq => List.Mem.tail _ hq) off6 trivial (hrest _ hz.snoc))
end Mine

theorem PySem.Challenge.cw_mj0038_01_holds : PySem.Challenge.rw_mj0038_01.Holds := by
  exact Mine.final
