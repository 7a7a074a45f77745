import PyProof.Rows.All
import Wide.All
import OpenK.AllK
import Wide.FinOn
import Flt.RightMore
import Lean
import PySem.Challenge.RW_oc0151_02
set_option Elab.async false
set_option maxRecDepth 100000
set_option maxHeartbeats 8000000
set_option linter.unusedSimpArgs false
set_option linter.unusedVariables false
namespace Mine
local macro_rules | `(tactic| walk_at $s:str) => `(tactic| k_extra $s)
section

open PySem
/-- n / d, rounded -/
noncomputable def FR (n d : Nat) : UInt64 := Float64.ofFrac false n d
noncomputable def mx2 (x y : UInt64) : UInt64 := if (Float64.cmp x y == some .lt) = true then y else x
noncomputable def mn2 (x y : UInt64) : UInt64 := if (Float64.cmp y x == some .lt) = true then y else x
noncomputable def mx3 (x y z : UInt64) : UInt64 := mx2 (mx2 x y) z
noncomputable def mn3 (x y z : UInt64) : UInt64 := mn2 (mn2 x y) z
noncomputable def clLt (r c : UInt64) : UInt64 := if (Float64.cmp r c == some .lt) = true then c else r
noncomputable def clGt (r c : UInt64) : UInt64 := if (Float64.cmp r c == some .gt) = true then c else r
noncomputable abbrev c1 : UInt64 := 4607182418800017408
noncomputable abbrev c2 : UInt64 := 4611686018427387904
noncomputable abbrev c4 : UInt64 := 4616189618054758400
noncomputable abbrev c6 : UInt64 := 4618441417868443648
noncomputable abbrev cH : UInt64 := 4602678819172646912
noncomputable abbrev cT3 : UInt64 := 4599676419421066581
noncomputable abbrev cS6 : UInt64 := 4595172819793696085
noncomputable abbrev cTT : UInt64 := 4604180019048437077
noncomputable def hueF (x : UInt64) : UInt64 := (Float64.divmod x c1).2
noncomputable def hueH (maxc r g b rangec : UInt64) : UInt64 :=
  hueF (Float64.div (if (Float64.cmp r maxc == some .eq) = true then Float64.sub (Float64.div (Float64.sub maxc b) rangec) (Float64.div (Float64.sub maxc g) rangec)
    else if (Float64.cmp g maxc == some .eq) = true then Float64.sub (Float64.add c2 (Float64.div (Float64.sub maxc r) rangec)) (Float64.div (Float64.sub maxc b) rangec)
    else Float64.sub (Float64.add c4 (Float64.div (Float64.sub maxc g) rangec)) (Float64.div (Float64.sub maxc r) rangec)) c6)
noncomputable def vF (m1 m2 hue : UInt64) : UInt64 :=
  if (Float64.cmp (hueF hue) cS6 == some .lt) = true then Float64.add m1 (Float64.mul (Float64.mul (Float64.sub m2 m1) (hueF hue)) c6)
  else if (Float64.cmp (hueF hue) cH == some .lt) = true then m2
  else if (Float64.cmp (hueF hue) cTT == some .lt) = true then Float64.add m1 (Float64.mul (Float64.mul (Float64.sub m2 m1) (Float64.sub cTT (hueF hue))) c6)
  else m1
noncomputable def yY (r g b : UInt64) : UInt64 := Float64.add (Float64.add (Float64.mul 4599075939470750515 r) (Float64.mul 4603489467105573601 g)) (Float64.mul 4592590756007337001 b)
noncomputable def yI (r g b : UInt64) : UInt64 := Float64.sub (Float64.mul 4604840546993784750 (Float64.sub r (yY r g b))) (Float64.mul 4598535507515466056 (Float64.sub b (yY r g b)))
noncomputable def yQ (r g b : UInt64) : UInt64 := Float64.add (Float64.mul 4602318531202457272 (Float64.sub r (yY r g b))) (Float64.mul 4601057523306793533 (Float64.sub b (yY r g b)))
noncomputable def cl01 (x : UInt64) : UInt64 := clGt (clLt x 0) c1
noncomputable def oR (y i q : UInt64) : UInt64 := Float64.add (Float64.add y (Float64.mul 4606703976345377586 i)) (Float64.mul 4603791717925830846 q)
noncomputable def oG (y i q : UInt64) : UInt64 := Float64.sub (Float64.sub y (Float64.mul 4598621754083818298 i)) (Float64.mul 4603901015759978483 q)
noncomputable def oB (y i q : UInt64) : UInt64 := Float64.add (Float64.sub y (Float64.mul 4607671262177584182 i)) (Float64.mul 4610375502138591871 q)
noncomputable def rR (y i q : UInt64) : UInt64 := cl01 (oR y i q)
noncomputable def rG (y i q : UInt64) : UInt64 := cl01 (oG y i q)
noncomputable def rB (y i q : UInt64) : UInt64 := cl01 (oB y i q)
noncomputable def leH (l : UInt64) : Bool := Float64.cmp l cH == some .lt || Float64.cmp l cH == some .eq
noncomputable def m2F (l sx : UInt64) : UInt64 := if leH l = true then Float64.mul l (Float64.add c1 sx) else Float64.sub (Float64.add l sx) (Float64.mul l sx)
noncomputable def hlsS (maxc minc : UInt64) : UInt64 := if leH (Float64.div (Float64.add maxc minc) c2) = true then Float64.div (Float64.sub maxc minc) (Float64.add maxc minc) else Float64.div (Float64.sub maxc minc) (Float64.sub (Float64.sub c2 maxc) minc)
noncomputable def sel (j : Int) (a0 a1 a2 a3 a4 a5 : UInt64) : UInt64 := if j = 0 then a0 else if j = 1 then a1 else if j = 2 then a2 else if j = 3 then a3 else if j = 4 then a4 else a5
noncomputable def pF (sx v : UInt64) : UInt64 := Float64.mul v (Float64.sub c1 sx)
noncomputable def qF (sx v f : UInt64) : UInt64 := Float64.mul v (Float64.sub c1 (Float64.mul sx f))
noncomputable def tF (sx v f : UInt64) : UInt64 := Float64.mul v (Float64.sub c1 (Float64.mul sx (Float64.sub c1 f)))
end
section

open PySem PySem.Float64
/-- the nearest is one -/
theorem near_unique {W D W' D' t t' : Nat} (hD : 0 < D) (hD' : 0 < D') (e : W * D' = W' * D)
    (h : ∀ x, dist W (D * V t) ≤ dist W (D * V x) ∧ (V x ≠ V t → dist W (D * V t) = dist W (D * V x) → t % 2 = 0))
    (h' : ∀ x, dist W' (D' * V t') ≤ dist W' (D' * V x) ∧ (V x ≠ V t' → dist W' (D' * V t') = dist W' (D' * V x) → t' % 2 = 0)) (hlt : t < t') : False := by
  have key : ∀ x, D' * dist W (D * V x) = D * dist W' (D' * V x) := by
    intro x
    rw [← dist_mul, ← dist_mul]
    congr 1
    · rw [Nat.mul_comm, e, Nat.mul_comm]
    · rw [Nat.mul_left_comm]
  have a1 := h t'
  have a2 := h' t
  have v := V_lt hlt
  have e1 : dist W (D * V t) = dist W (D * V t') := by
    refine Nat.le_antisymm a1.1 ?_
    have b1 := Nat.mul_le_mul_left D a2.1
    rw [← key, ← key] at b1
    exact Nat.le_of_mul_le_mul_left b1 hD'
  have p1 := a1.2 (Nat.ne_of_gt v) e1
  have e2 : dist W' (D' * V t') = dist W' (D' * V t) := by
    have b1 := key t
    have b2 := key t'
    rw [e1] at b1
    exact (Nat.eq_of_mul_eq_mul_left hD (b1.symm.trans b2)).symm
  have p2 := a2.2 (Nat.ne_of_lt v) e2
  have b := (h (t + 1)).1
  have v1 := V_succ t
  have v2 := V_lt (show t + 1 < t' by omega)
  have c1 : D * V t < D * V (t + 1) := Nat.mul_lt_mul_of_pos_left v1 hD
  have c2 : D * V (t + 1) < D * V t' := Nat.mul_lt_mul_of_pos_left v2 hD
  unfold dist at *
  omega
theorem Right.unique {r r' : UInt64} {neg : Bool} {W D W' D' : Nat} (h : Right r neg W D) (h' : Right r' neg W' D') (hD : 0 < D) (hD' : 0 < D') (e : W * D' = W' * D) : r = r' := by
  obtain ⟨t, rfl, l, o, n⟩ := h
  obtain ⟨t', rfl, l', o', n'⟩ := h'
  have oo : t = infMag ↔ t' = infMag := by
    rw [o, o']
    generalize ((2 : Nat) ^ 54 - 1) * 2 ^ 2045 = C
    constructor
    · intro q
      have q' := Nat.mul_le_mul_right D' q
      refine Nat.le_of_mul_le_mul_right (c := D) ?_ hD
      calc D' * C * D = D * C * D' := by ac_rfl
        _ ≤ 2 * W * D' := q'
        _ = 2 * W' * D := by rw [Nat.mul_assoc, e, Nat.mul_assoc]
    · intro q
      have q' := Nat.mul_le_mul_right D q
      refine Nat.le_of_mul_le_mul_right (c := D') ?_ hD'
      calc D * C * D' = D' * C * D := by ac_rfl
        _ ≤ 2 * W' * D := q'
        _ = 2 * W * D' := by rw [Nat.mul_assoc, ← e, Nat.mul_assoc]
  by_cases hi : t = infMag
  · rw [hi, oo.mp hi]
  · have hi' : t' ≠ infMag := fun q => hi (oo.mpr q)
    have n1 := n (by omega)
    have n2 := n' (by omega)
    rcases Nat.lt_trichotomy t t' with q | q | q
    · exact (near_unique hD hD' e n1 n2 q).elim
    · rw [q]
    · exact (near_unique hD' hD e.symm n2 n1 q).elim
theorem FR_right (n d : Nat) (hd : 0 < d) : Right (FR n d) false (n * 2 ^ 1074) d := ofFrac_right hd rfl hd
/-- two fractions that are one number -/
theorem FR_eq {n d n' d' : Nat} (hd : 0 < d) (hd' : 0 < d') (e : n * d' = n' * d) : FR n d = FR n' d' :=
  Right.unique (FR_right n d hd) (FR_right n' d' hd') hd hd' (by rw [Nat.mul_right_comm, e, Nat.mul_right_comm])
/-- a number n * 2 ^ j with n < 2 ^ 53 is a float's -/
theorem V_has {n j : Nat} (hn : n < 2 ^ 53) (hj : 52 ≤ j) (hj2 : j ≤ 1500) : ∃ t, V t = n * 2 ^ j ∧ t < infMag := by
  by_cases h0 : n = 0
  · exact ⟨0, by rw [h0, V_zero, Nat.zero_mul], by decide⟩
  have l1 := Nat.log2_self_le h0
  have l2 : n < 2 ^ (n.log2 + 1) := Nat.lt_log2_self
  have l3 : n.log2 ≤ 52 := by
    refine Nat.lt_succ_iff.mp ?_
    exact (Nat.log2_lt h0).mpr hn
  have e1 : (2 : Nat) ^ 52 = 2 ^ n.log2 * 2 ^ (52 - n.log2) := by rw [← Nat.pow_add]; congr 1; omega
  have e2 : (2 : Nat) ^ 53 = 2 ^ (n.log2 + 1) * 2 ^ (52 - n.log2) := by rw [← Nat.pow_add]; congr 1; omega
  have p := Nat.two_pow_pos (52 - n.log2)
  have q1 : 2 ^ 52 ≤ n * 2 ^ (52 - n.log2) := by rw [e1]; exact Nat.mul_le_mul_right _ l1
  have q2 : n * 2 ^ (52 - n.log2) < 2 ^ 53 := by rw [e2]; exact Nat.mul_lt_mul_of_pos_right l2 p
  refine ⟨(j - (52 - n.log2)) * 2 ^ 52 + n * 2 ^ (52 - n.log2), ?_, ?_⟩
  · rw [V_at (Nat.le_of_lt q2) (.inl q1), Nat.mul_assoc, ← Nat.pow_add]
    congr 2
    omega
  · have hi : infMag = 2047 * 2 ^ 52 := rfl
    have : (j - (52 - n.log2)) * 2 ^ 52 ≤ 1500 * 2 ^ 52 := Nat.mul_le_mul_right _ (by omega)
    omega
theorem dist_zero {a b : Nat} (h : dist a b ≤ 0) : a = b := by unfold dist at h; omega
/-- a right float whose number is a float's -/
theorem Right.exact {r : UInt64} {neg : Bool} {W D t₀ : Nat} (h : Right r neg W D) (hD : 0 < D) (ht : t₀ < infMag) (e : W = D * V t₀) : r = pack neg t₀ := by
  obtain ⟨t, rfl, l, o, n⟩ := h
  have hov : t ≠ infMag := by
    intro q
    have q' := o.mp q
    rw [e] at q'
    have h2 : V t₀ ≤ V (infMag - 1) := V_mono (by omega)
    have h3 : V (infMag - 1) = (2 ^ 53 - 1) * 2 ^ 2045 := by
      have := V_at (k := 2045) (q := 2 ^ 53 - 1) (by decide) (.inl (by decide))
      rw [← this]; rfl
    rw [h3] at h2
    have p : 0 < (2 : Nat) ^ 2045 := Nat.two_pow_pos _
    generalize (2 : Nat) ^ 2045 = K at *
    rw [Nat.mul_left_comm 2 D] at q'
    have h1 := Nat.le_of_mul_le_mul_left q' hD
    omega
  have n1 := (n (by omega) t₀).1
  rw [e] at n1
  have z : dist (D * V t₀) (D * V t₀) = 0 := by unfold dist; omega
  rw [z] at n1
  have q := Nat.eq_of_mul_eq_mul_left hD (dist_zero n1)
  rcases Nat.lt_trichotomy t t₀ with h | h | h
  · have := V_lt h; omega
  · rw [h]
  · have := V_lt h; omega
theorem FR_pack {n k : Nat} (hn : n < 2 ^ 53) (hk : k ≤ 1000) : ∃ t, FR n (2 ^ k) = pack false t ∧ V t = n * 2 ^ (1074 - k) ∧ t < infMag := by
  obtain ⟨t, e, l⟩ := V_has (n := n) (j := 1074 - k) hn (by omega) (by omega)
  refine ⟨t, Right.exact (FR_right n _ (Nat.two_pow_pos _)) (Nat.two_pow_pos _) l ?_, e, l⟩
  have : (2 : Nat) ^ 1074 = 2 ^ k * 2 ^ (1074 - k) := by rw [← Nat.pow_add]; congr 1; omega
  rw [e, this]; ac_rfl
theorem FR_val {n k : Nat} (hn : n < 2 ^ 53) (hk : k ≤ 1000) : ∃ m e, decode (FR n (2 ^ k)) = .fin false m e ∧ val (FR n (2 ^ k)) = ((n * 2 ^ (1074 - k) : Nat) : Int) ∧ m * 2 ^ (e + 1074).toNat = n * 2 ^ (1074 - k) := by
  obtain ⟨t, e, v, l⟩ := FR_pack hn hk
  obtain ⟨m, x, hd, hv⟩ := decode_pack false l
  rw [e]
  refine ⟨m, x, hd, ?_, by rw [hv, v]⟩
  rw [val_eq hd, hv, v]; rfl
end
section

open PySem PySem.Float64
theorem pow_split {k : Nat} (hk : k ≤ 1000) : (2 : Nat) ^ k * 2 ^ (1074 - k) = 2 ^ 1074 := by rw [← Nat.pow_add]; congr 1; omega
theorem mulX {a i b j : Nat} (ha : a < 2 ^ 53) (hb : b < 2 ^ 53) (hi : i ≤ 1000) (hj : j ≤ 1000) : mul (FR a (2 ^ i)) (FR b (2 ^ j)) = FR (a * b) (2 ^ (i + j)) := by
  obtain ⟨m, e, hd, hv, _⟩ := FR_val ha hi
  obtain ⟨m', e', hd', hv', _⟩ := FR_val hb hj
  have R := mul_right hd hd'
  rw [hv, hv', Int.natAbs_natCast, Int.natAbs_natCast] at R
  refine Right.unique R (FR_right (a * b) _ (Nat.two_pow_pos _)) (Nat.two_pow_pos _) (Nat.two_pow_pos _) ?_
  have h1 := pow_split hi
  have h2 := pow_split hj
  rw [Nat.pow_add]
  generalize (2 : Nat) ^ 1074 = T at *
  generalize (2 : Nat) ^ (1074 - i) = X at *
  generalize (2 : Nat) ^ (1074 - j) = Y at *
  generalize (2 : Nat) ^ i = I at *
  generalize (2 : Nat) ^ j = J at *
  calc a * X * (b * Y) * (I * J) = a * b * (I * X) * (J * Y) := by ac_rfl
    _ = a * b * T * T := by rw [h1, h2]
theorem FR_zero (d : Nat) : FR 0 d = zero false := by unfold FR ofFrac roundMag zero; rfl
theorem addX {a b k : Nat} (ha : a < 2 ^ 53) (hb : b < 2 ^ 53) (hk : k ≤ 1000) : add (FR a (2 ^ k)) (FR b (2 ^ k)) = FR (a + b) (2 ^ k) := by
  obtain ⟨m, e, hd, hv, _⟩ := FR_val ha hk
  obtain ⟨m', e', hd', hv', _⟩ := FR_val hb hk
  have R := add_right hd hd'
  have hs : val (FR a (2 ^ k)) + val (FR b (2 ^ k)) = (((a + b) * 2 ^ (1074 - k) : Nat) : Int) := by rw [hv, hv', ← Int.natCast_add, Nat.add_mul]
  rw [hs] at R
  by_cases h0 : a + b = 0
  · rw [R.1 (by rw [h0]; simp), h0, FR_zero]; rfl
  · have hne : (((a + b) * 2 ^ (1074 - k) : Nat) : Int) ≠ 0 := by
      have := Nat.mul_pos (show 0 < a + b by omega) (Nat.two_pow_pos (1074 - k))
      omega
    have R2 := R.2 hne
    rw [show decide ((((a + b) * 2 ^ (1074 - k) : Nat) : Int) < 0) = false from decide_eq_false (by omega), Int.natAbs_natCast] at R2
    refine Right.unique R2 (FR_right (a + b) _ (Nat.two_pow_pos _)) (by decide) (Nat.two_pow_pos _) ?_
    have h1 := pow_split hk
    generalize (2 : Nat) ^ 1074 = T at *
    generalize (2 : Nat) ^ (1074 - k) = X at *
    rw [Nat.mul_one, ← h1]; ac_rfl
theorem subX {a b k : Nat} (ha : a < 2 ^ 53) (hb : b < 2 ^ 53) (hk : k ≤ 1000) (hle : b ≤ a) : sub (FR a (2 ^ k)) (FR b (2 ^ k)) = FR (a - b) (2 ^ k) := by
  obtain ⟨m, e, hd, hv, _⟩ := FR_val ha hk
  obtain ⟨m', e', hd', hv', _⟩ := FR_val hb hk
  have R := sub_right hd hd'
  have hs : val (FR a (2 ^ k)) - val (FR b (2 ^ k)) = (((a - b) * 2 ^ (1074 - k) : Nat) : Int) := by
    have := Nat.mul_le_mul_right (2 ^ (1074 - k)) hle
    rw [hv, hv', Nat.sub_mul, Int.ofNat_sub this]
  rw [hs] at R
  by_cases h0 : a - b = 0
  · rw [R.1 (by rw [h0]; simp), h0, FR_zero]; rfl
  · have hne : (((a - b) * 2 ^ (1074 - k) : Nat) : Int) ≠ 0 := by
      have := Nat.mul_pos (show 0 < a - b by omega) (Nat.two_pow_pos (1074 - k))
      omega
    have R2 := R.2 hne
    rw [show decide ((((a - b) * 2 ^ (1074 - k) : Nat) : Int) < 0) = false from decide_eq_false (by omega), Int.natAbs_natCast] at R2
    refine Right.unique R2 (FR_right (a - b) _ (Nat.two_pow_pos _)) (by decide) (Nat.two_pow_pos _) ?_
    have h1 := pow_split hk
    generalize (2 : Nat) ^ 1074 = T at *
    generalize (2 : Nat) ^ (1074 - k) = X at *
    rw [Nat.mul_one, ← h1]; ac_rfl
theorem divX {a i b j n d : Nat} (ha : a < 2 ^ 53) (hb : b < 2 ^ 53) (hi : i ≤ 1000) (hj : j ≤ 1000) (h0 : 0 < b) (hd0 : 0 < d) (e : a * 2 ^ j * d = n * b * 2 ^ i) : div (FR a (2 ^ i)) (FR b (2 ^ j)) = FR n d := by
  obtain ⟨m, x, hd, hv, _⟩ := FR_val ha hi
  obtain ⟨m', x', hd', hv', hm'⟩ := FR_val hb hj
  have hp : 0 < b * 2 ^ (1074 - j) := Nat.mul_pos h0 (Nat.two_pow_pos _)
  have hm0 : m' ≠ 0 := by intro q; rw [q, Nat.zero_mul] at hm'; omega
  have R := div_right hd hd' hm0
  rw [hv, hv', Int.natAbs_natCast, Int.natAbs_natCast] at R
  refine Right.unique R (FR_right n d hd0) hp hd0 ?_
  have h1 := pow_split hi
  have h2 := pow_split hj
  generalize (2 : Nat) ^ 1074 = T at *
  generalize (2 : Nat) ^ (1074 - i) = X at *
  generalize (2 : Nat) ^ (1074 - j) = Y at *
  generalize (2 : Nat) ^ i = I at *
  generalize (2 : Nat) ^ j = J at *
  calc a * X * T * d = a * X * (J * Y) * d := by rw [h2]
    _ = (a * J * d) * X * Y := by ac_rfl
    _ = (n * b * I) * X * Y := by rw [e]
    _ = n * (I * X) * (b * Y) := by ac_rfl
    _ = n * T * (b * Y) := by rw [h1]
theorem cmpX {a b k : Nat} (ha : a < 2 ^ 53) (hb : b < 2 ^ 53) (hk : k ≤ 1000) : cmp (FR a (2 ^ k)) (FR b (2 ^ k)) = some (compare a b) := by
  obtain ⟨m, e, hd, hv, _⟩ := FR_val ha hk
  obtain ⟨m', e', hd', hv', _⟩ := FR_val hb hk
  rw [cmp_right hd hd', hv, hv']
  congr 1
  have p := Nat.two_pow_pos (1074 - k)
  generalize 2 ^ (1074 - k) = X at *
  rcases Nat.lt_trichotomy a b with h | h | h
  · rw [Int.compare_eq_lt.mpr (by exact_mod_cast Nat.mul_lt_mul_of_pos_right h p), Nat.compare_eq_lt.mpr h]
  · subst h; simp
  · rw [Int.compare_eq_gt.mpr (by exact_mod_cast Nat.mul_lt_mul_of_pos_right h p), Nat.compare_eq_gt.mpr h]
theorem zeroX {a k : Nat} (ha : a < 2 ^ 53) (hk : k ≤ 1000) (h0 : 0 < a) : isZero (FR a (2 ^ k)) = false := by
  obtain ⟨m, e, hd, _, hm⟩ := FR_val ha hk
  have hp : 0 < a * 2 ^ (1074 - k) := Nat.mul_pos h0 (Nat.two_pow_pos _)
  have hm0 : m ≠ 0 := by intro q; rw [q, Nat.zero_mul] at hm; omega
  unfold isZero
  rw [hd]
  cases m with
  | zero => exact absurd rfl hm0
  | succ m => rfl
end
section

open PySem PySem.Float64
theorem V_has' {n j : Nat} (hn : n ≤ 2 ^ 53) (hj : 52 ≤ j) (hj2 : j ≤ 1400) : ∃ t, V t = n * 2 ^ j ∧ t < infMag := by
  by_cases h : n < 2 ^ 53
  · exact V_has h hj (by omega)
  · have e : n = 2 ^ 52 * 2 := by omega
    obtain ⟨t, ht, l⟩ := V_has (n := 2 ^ 52) (j := j + 1) (by decide) (by omega) (by omega)
    refine ⟨t, ?_, l⟩
    rw [ht, e, Nat.pow_succ 2 j]
    generalize (2 : Nat) ^ j = J
    omega
theorem aux3 (D q A : Nat) : D * (q * A) = D * A * q := by rw [Nat.mul_comm q A, Nat.mul_assoc]
theorem aux2 (D K : Nat) : D * (K * 2) = 2 * (D * K) := by rw [Nat.mul_comm K 2, Nat.mul_left_comm]
/-- a right float of a number of at most 2 ^ (3 + p): within 2 ^ (p - 51) -/
theorem Right.errP {r : UInt64} {neg : Bool} {W D p : Nat} (hp : p ≤ 100) (h : Right r neg W D) (hD : 0 < D) (hW : W ≤ D * 2 ^ (1077 + p)) : ∃ t, r = pack neg t ∧ t < infMag ∧ dist W (D * V t) ≤ D * 2 ^ (1023 + p) := by
  obtain ⟨t, rfl, l, o, n⟩ := h
  have e77 : (2 : Nat) ^ (1077 + p) = 2 ^ (1023 + p) * 2 ^ 54 := by rw [← Nat.pow_add]; congr 1; omega
  have e24 : (2 : Nat) ^ (1024 + p) = 2 ^ (1023 + p) * 2 := by rw [← Nat.pow_succ]; congr 1; omega
  have e45 : (2 : Nat) ^ 2045 = 2 ^ (1023 + p) * 2 ^ (1022 - p) := by rw [← Nat.pow_add]; congr 1; omega
  have hov : t ≠ infMag := by
    intro q
    have q' := o.mp q
    have p22 : 2 ^ 3 ≤ (2 : Nat) ^ (1022 - p) := Nat.pow_le_pow_right (by decide) (by omega)
    rw [e45] at q'
    rw [e77] at hW
    have p23 : 0 < (2 : Nat) ^ (1023 + p) := Nat.two_pow_pos _
    generalize (2 : Nat) ^ (1022 - p) = B at *
    generalize (2 : Nat) ^ (1023 + p) = K at *
    have h1 : D * ((2 ^ 54 - 1) * (K * B)) ≤ D * (K * 2 ^ 55) := by
      refine Nat.le_trans q' ?_
      have := Nat.mul_le_mul_left 2 hW
      calc 2 * W ≤ 2 * (D * (K * 2 ^ 54)) := this
        _ = D * (K * 2 ^ 55) := by rw [show (2 : Nat) ^ 55 = 2 * 2 ^ 54 by decide]; ac_rfl
    have h2 := Nat.le_of_mul_le_mul_left h1 hD
    have h3 : K * ((2 ^ 54 - 1) * B) ≤ K * 2 ^ 55 := by rw [Nat.mul_left_comm]; exact h2
    have h4 := Nat.le_of_mul_le_mul_left h3 p23
    omega
  refine ⟨t, rfl, by omega, ?_⟩
  have n1 := fun x => (n (by omega) x).1
  have hg : 0 < D * 2 ^ (1024 + p) := Nat.mul_pos hD (Nat.two_pow_pos _)
  have d1 := Nat.div_add_mod (W + D * 2 ^ (1023 + p)) (D * 2 ^ (1024 + p))
  have d2 := Nat.mod_lt (W + D * 2 ^ (1023 + p)) hg
  have hq : (W + D * 2 ^ (1023 + p)) / (D * 2 ^ (1024 + p)) ≤ 2 ^ 53 := by
    have p23 : 0 < (2 : Nat) ^ (1023 + p) := Nat.two_pow_pos _
    rw [e77] at hW
    rw [e24] at *
    have hx : 0 < D * 2 ^ (1023 + p) := Nat.mul_pos hD p23
    refine Nat.lt_succ_iff.mp (Nat.div_lt_of_lt_mul ?_)
    generalize (2 : Nat) ^ (1023 + p) = K at *
    have a1 : D * (K * 2 ^ 54) = (D * K) * 2 ^ 54 := by ac_rfl
    have a2 : D * (K * 2) * (2 ^ 53 + 1) = (D * K) * (2 * (2 ^ 53 + 1)) := by ac_rfl
    rw [a1] at hW
    show W + D * K < D * (K * 2) * (2 ^ 53 + 1)
    rw [a2]
    generalize D * K = X at *
    omega
  obtain ⟨t', ht', _⟩ := V_has' (j := 1024 + p) hq (by omega) (by omega)
  refine Nat.le_trans (n1 t') ?_
  rw [ht']
  have e2 : D * ((W + D * 2 ^ (1023 + p)) / (D * 2 ^ (1024 + p)) * 2 ^ (1024 + p)) = D * 2 ^ (1024 + p) * ((W + D * 2 ^ (1023 + p)) / (D * 2 ^ (1024 + p))) := aux3 _ _ _
  rw [e2]
  generalize (W + D * 2 ^ (1023 + p)) / (D * 2 ^ (1024 + p)) = q at *
  generalize (W + D * 2 ^ (1023 + p)) % (D * 2 ^ (1024 + p)) = z at *
  have e3 : D * 2 ^ (1024 + p) = 2 * (D * 2 ^ (1023 + p)) := by rw [e24]; exact aux2 _ _
  rw [e3] at d1 d2 ⊢
  generalize D * 2 ^ (1023 + p) = X at *
  generalize 2 * X * q = Y at *
  unfold dist
  omega
theorem Right.err {r : UInt64} {neg : Bool} {W D : Nat} (h : Right r neg W D) (hD : 0 < D) (hW : W ≤ D * 2 ^ 1077) : ∃ t, r = pack neg t ∧ t < infMag ∧ dist W (D * V t) ≤ D * 2 ^ 1023 := Right.errP (p := 0) (by decide) h hD hW
noncomputable def Fn (x : UInt64) : Prop := ∃ a m e, decode x = .fin a m e
theorem Fn.pack (neg : Bool) {t : Nat} (h : t < infMag) : Fn (Float64.pack neg t) := by obtain ⟨m, e, hd, _⟩ := decode_pack neg h; exact ⟨_, _, _, hd⟩
theorem sgn_val (neg : Bool) (n : Nat) : sgn neg n = if neg then -(n : Int) else n := rfl
theorem addI {x y : UInt64} (hx : Fn x) (hy : Fn y) (h : (val x + val y).natAbs ≤ 2 ^ 1077) : Fn (add x y) ∧ (val (add x y) - (val x + val y)).natAbs ≤ 2 ^ 1023 := by
  obtain ⟨a, m, e, hd⟩ := hx
  obtain ⟨b, k, f, hd'⟩ := hy
  have R := add_right hd hd'
  by_cases h0 : val x + val y = 0
  · rw [R.1 h0]
    have z : val (zero (a && b)) = 0 := by
      unfold zero
      rw [val_pack _ (by decide), V_zero]
      cases (a && b) <;> rfl
    exact ⟨Fn.pack _ (by decide), by rw [z, h0]; simp⟩
  · obtain ⟨t, e1, l, hdist⟩ := Right.err (R.2 h0) (by decide) (by rw [Nat.one_mul]; exact h)
    rw [e1]
    refine ⟨Fn.pack _ l, ?_⟩
    rw [val_pack _ l, sgn_val]
    rw [Nat.one_mul, Nat.one_mul] at hdist
    generalize (2 : Nat) ^ 1023 = K at *
    generalize val x + val y = s at *
    unfold dist at hdist
    by_cases hs : s < 0 <;> simp only [hs, decide_true, decide_false, if_true, Bool.false_eq_true, if_false] <;> omega
theorem subI {x y : UInt64} (hx : Fn x) (hy : Fn y) (h : (val x - val y).natAbs ≤ 2 ^ 1077) : Fn (sub x y) ∧ (val (sub x y) - (val x - val y)).natAbs ≤ 2 ^ 1023 := by
  obtain ⟨b, k, f, hd'⟩ := id hy
  have hn : Fn (neg y) := ⟨_, _, _, neg_decode hd'⟩
  have := addI hx hn (by rw [neg_val hd', ← Int.sub_eq_add_neg]; exact h)
  rw [neg_val hd', ← Int.sub_eq_add_neg] at this
  rw [show sub x y = add x (neg y) by with_unfolding_all rfl]
  exact this
theorem mulIP {x y : UInt64} {p : Nat} (hp0 : p ≤ 100) (hx : Fn x) (hy : Fn y) (h : (val x).natAbs * (val y).natAbs ≤ 2 ^ 1074 * 2 ^ (1077 + p)) : Fn (mul x y) ∧ (2 ^ 1074 * val (mul x y) - val x * val y).natAbs ≤ 2 ^ 1074 * 2 ^ (1023 + p) := by
  obtain ⟨a, m, e, hd⟩ := hx
  obtain ⟨b, k, f, hd'⟩ := hy
  obtain ⟨t, e1, l, hdist⟩ := Right.errP hp0 (mul_right hd hd') (Nat.two_pow_pos _) h
  rw [e1]
  refine ⟨Fn.pack _ l, ?_⟩
  rw [val_pack _ l, sgn_val]
  have hxa : val x = if a then -((val x).natAbs : Int) else (val x).natAbs := by rw [val_eq hd, sgn_natAbs]; rfl
  have hya : val y = if b then -((val y).natAbs : Int) else (val y).natAbs := by rw [val_eq hd', sgn_natAbs]; rfl
  have hp : val x * val y = if (a != b) then -(((val x).natAbs * (val y).natAbs : Nat) : Int) else (((val x).natAbs * (val y).natAbs : Nat) : Int) := by
    rw [hxa, hya, Int.natCast_mul]
    cases a <;> cases b <;> simp [Int.neg_mul, Int.mul_neg]
  rw [hp]
  have hK : (2 : Int) ^ 1074 = ((2 ^ 1074 : Nat) : Int) := by simp
  rw [hK]
  generalize (2 : Nat) ^ 1074 = T at *
  generalize (2 : Nat) ^ (1023 + p) = K at *
  generalize (val x).natAbs * (val y).natAbs = W at *
  unfold dist at hdist
  have hc : ((T * V t : Nat) : Int) = (T : Int) * (V t : Int) := Int.natCast_mul _ _
  generalize hZ : T * V t = Z at *
  generalize T * K = X at *
  cases (a != b)
  · simp only [Bool.false_eq_true, if_false]; rw [← hc]; omega
  · simp only [if_true]; rw [Int.mul_neg, ← hc]; omega
theorem mulI {x y : UInt64} (hx : Fn x) (hy : Fn y) (h : (val x).natAbs * (val y).natAbs ≤ 2 ^ 1074 * 2 ^ 1077) : Fn (mul x y) ∧ (2 ^ 1074 * val (mul x y) - val x * val y).natAbs ≤ 2 ^ 1074 * 2 ^ 1023 := mulIP (p := 0) (by decide) hx hy h
end
section

open PySem PySem.Float64
/-- the unit of a float's number, as a rational -/
noncomputable def uT : Rat := ((2 ^ 1074 : Nat) : Rat)
noncomputable def rv (x : UInt64) : Rat := (val x : Rat) * uT⁻¹
noncomputable abbrev u51 : Rat := 1 / 2251799813685248
noncomputable abbrev Near (a b e : Rat) : Prop := b - e ≤ a ∧ a ≤ b + e
theorem natCast_pos' {n : Nat} (h : 0 < n) : (0 : Rat) < (n : Rat) := by
  have : ((0 : Nat) : Rat) < (n : Rat) := Rat.natCast_lt_natCast.mpr h
  simpa using this
theorem uT_pos : 0 < uT := natCast_pos' (Nat.two_pow_pos _)
theorem uT_ne : uT ≠ 0 := fun e => by have := uT_pos; rw [e] at this; exact absurd this (by decide)
theorem iT_pos : 0 < uT⁻¹ := Rat.inv_pos.mpr uT_pos
theorem T_iT : uT * uT⁻¹ = 1 := Rat.mul_inv_cancel _ uT_ne
noncomputable def uK : Rat := ((2 ^ 1023 : Nat) : Rat)
theorem uT_eq : uT = uK * 2251799813685248 := by
  unfold uT uK
  have e : (2 : Nat) ^ 1074 = 2 ^ 1023 * 2251799813685248 := by rw [show (2251799813685248 : Nat) = 2 ^ 51 by decide, ← Nat.pow_add]
  rw [e, Rat.natCast_mul]; rfl
theorem K_iT : uK * uT⁻¹ = u51 := by
  have h1 := T_iT
  have h2 := uT_eq
  have : uT * uT⁻¹ = (uK * uT⁻¹) * 2251799813685248 := by
    conv => lhs; lhs; rw [h2]
    grind
  grind
theorem le_of_int {a b : Int} (h : a ≤ b) : (a : Rat) ≤ (b : Rat) := Rat.intCast_le_intCast.mpr h
theorem mulT_le {a b : Rat} (h : a ≤ b) : a * uT⁻¹ ≤ b * uT⁻¹ := Rat.mul_le_mul_of_nonneg_right h (Rat.le_of_lt iT_pos)
theorem of_mulT_le {a b : Rat} (h : a * uT⁻¹ ≤ b * uT⁻¹) : a ≤ b := by
  have h1 := Rat.mul_le_mul_of_nonneg_right h (Rat.le_of_lt uT_pos)
  have e : ∀ c : Rat, c * uT⁻¹ * uT = c := fun c => by have := T_iT; grind
  rwa [e, e] at h1
theorem cast1077 : ((2 ^ 1077 : Nat) : Rat) = 8 * uT := by
  unfold uT
  have e : (2 : Nat) ^ 1077 = 8 * 2 ^ 1074 := by rw [show (8 : Nat) = 2 ^ 3 by decide, ← Nat.pow_add]
  rw [e, Rat.natCast_mul]; rfl
theorem castK : (((2 ^ 1023 : Nat) : Int) : Rat) = uK := by unfold uK; exact Rat.intCast_natCast _
/-- an int that is at most 8 by rv -/
theorem bound8 {s : Int} (h1 : (-8 : Rat) ≤ (s : Rat) * uT⁻¹) (h2 : (s : Rat) * uT⁻¹ ≤ 8) : s.natAbs ≤ 2 ^ 1077 := by
  have e8 : (8 : Rat) = ((2 ^ 1077 : Nat) : Rat) * uT⁻¹ := by rw [cast1077]; have := T_iT; grind
  have a1 : (s : Rat) ≤ ((2 ^ 1077 : Nat) : Rat) := of_mulT_le (by rw [← e8]; exact h2)
  have a2 : -((2 ^ 1077 : Nat) : Rat) ≤ (s : Rat) := of_mulT_le (by
    have q : -((2 ^ 1077 : Nat) : Rat) * uT⁻¹ = -8 := by rw [Rat.neg_mul, ← e8]
    rw [q]; exact h1)
  have b1 : s ≤ ((2 ^ 1077 : Nat) : Int) := Rat.intCast_le_intCast.mp (by rw [Rat.intCast_natCast]; exact a1)
  have b2 : -((2 ^ 1077 : Nat) : Int) ≤ s := Rat.intCast_le_intCast.mp (by rw [Rat.intCast_neg, Rat.intCast_natCast]; exact a2)
  generalize (2 : Nat) ^ 1077 = X at *
  omega
theorem near_int {a b : Int} (h : (a - b).natAbs ≤ 2 ^ 1023) : Near ((a : Rat) * uT⁻¹) ((b : Rat) * uT⁻¹) u51 := by
  have h1 : a ≤ b + ((2 ^ 1023 : Nat) : Int) := by generalize (2 : Nat) ^ 1023 = K at *; omega
  have h2 : b ≤ a + ((2 ^ 1023 : Nat) : Int) := by generalize (2 : Nat) ^ 1023 = K at *; omega
  have g1 := mulT_le (le_of_int h1)
  have g2 := mulT_le (le_of_int h2)
  rw [Rat.intCast_add, castK, Rat.add_mul, K_iT] at g1 g2
  generalize (a : Rat) * uT⁻¹ = α at *
  generalize (b : Rat) * uT⁻¹ = β at *
  clear h h1 h2
  constructor <;> grind
theorem addR {x y : UInt64} (hx : Fn x) (hy : Fn y) (h1 : -8 ≤ rv x + rv y) (h2 : rv x + rv y ≤ 8) : Fn (add x y) ∧ Near (rv (add x y)) (rv x + rv y) u51 := by
  have e : rv x + rv y = ((val x + val y : Int) : Rat) * uT⁻¹ := by unfold rv; rw [Rat.intCast_add]; grind
  rw [e] at h1 h2 ⊢
  obtain ⟨f, n⟩ := addI hx hy (bound8 h1 h2)
  exact ⟨f, near_int n⟩
theorem subR {x y : UInt64} (hx : Fn x) (hy : Fn y) (h1 : -8 ≤ rv x - rv y) (h2 : rv x - rv y ≤ 8) : Fn (sub x y) ∧ Near (rv (sub x y)) (rv x - rv y) u51 := by
  have e : rv x - rv y = ((val x - val y : Int) : Rat) * uT⁻¹ := by unfold rv; rw [Rat.intCast_sub]; grind
  rw [e] at h1 h2 ⊢
  obtain ⟨f, n⟩ := subI hx hy (bound8 h1 h2)
  exact ⟨f, near_int n⟩
theorem castT : (((2 : Int) ^ 1074 : Int) : Rat) = uT := by
  have : ((2 : Int) ^ 1074) = ((2 ^ 1074 : Nat) : Int) := by simp
  rw [this, Rat.intCast_natCast]; rfl
theorem mulR {x y : UInt64} (hx : Fn x) (hy : Fn y) (h1 : -8 ≤ rv x * rv y) (h2 : rv x * rv y ≤ 8) : Fn (mul x y) ∧ Near (rv (mul x y)) (rv x * rv y) u51 := by
  have hT := T_iT
  have e : rv x * rv y = ((val x * val y : Int) : Rat) * uT⁻¹ * uT⁻¹ := by unfold rv; rw [Rat.intCast_mul]; grind
  have hb : (val x * val y).natAbs ≤ 2 ^ 1074 * 2 ^ 1077 := by
    rw [e] at h1 h2
    have e8 : (8 : Rat) = ((2 ^ 1074 * 2 ^ 1077 : Nat) : Rat) * uT⁻¹ * uT⁻¹ := by
      rw [Rat.natCast_mul, cast1077, show ((2 ^ 1074 : Nat) : Rat) = uT from rfl]
      grind
    have a1 : ((val x * val y : Int) : Rat) ≤ ((2 ^ 1074 * 2 ^ 1077 : Nat) : Rat) := of_mulT_le (of_mulT_le (by rw [← e8]; exact h2))
    have a2 : -((2 ^ 1074 * 2 ^ 1077 : Nat) : Rat) ≤ ((val x * val y : Int) : Rat) := of_mulT_le (of_mulT_le (by
      have q : -((2 ^ 1074 * 2 ^ 1077 : Nat) : Rat) * uT⁻¹ * uT⁻¹ = -8 := by rw [Rat.neg_mul, Rat.neg_mul, ← e8]
      rw [q]; exact h1))
    have b1 : val x * val y ≤ ((2 ^ 1074 * 2 ^ 1077 : Nat) : Int) := Rat.intCast_le_intCast.mp (by rw [Rat.intCast_natCast]; exact a1)
    have b2 : -((2 ^ 1074 * 2 ^ 1077 : Nat) : Int) ≤ val x * val y := Rat.intCast_le_intCast.mp (by rw [Rat.intCast_neg, Rat.intCast_natCast]; exact a2)
    generalize (2 : Nat) ^ 1074 * 2 ^ 1077 = X at *
    omega
  obtain ⟨f, n⟩ := mulI hx hy (by rw [← Int.natAbs_mul]; exact hb)
  refine ⟨f, ?_⟩
  rw [e]
  have i1 : (2 : Int) ^ 1074 * val (mul x y) ≤ val x * val y + ((2 ^ 1074 * 2 ^ 1023 : Nat) : Int) := by generalize (2 : Nat) ^ 1074 * 2 ^ 1023 = K at *; omega
  have i2 : val x * val y ≤ (2 : Int) ^ 1074 * val (mul x y) + ((2 ^ 1074 * 2 ^ 1023 : Nat) : Int) := by generalize (2 : Nat) ^ 1074 * 2 ^ 1023 = K at *; omega
  have g1 := mulT_le (mulT_le (le_of_int i1))
  have g2 := mulT_le (mulT_le (le_of_int i2))
  have cA : (((2 : Int) ^ 1074 * val (mul x y) : Int) : Rat) = uT * (val (mul x y) : Rat) := by rw [Rat.intCast_mul, castT]
  have cB : (((2 ^ 1074 * 2 ^ 1023 : Nat) : Int) : Rat) = uT * uK := by rw [Rat.intCast_natCast, Rat.natCast_mul]; rfl
  rw [Rat.intCast_add, cA, cB] at g1 g2
  have k := K_iT
  have z1 : uT * (val (mul x y) : Rat) * uT⁻¹ * uT⁻¹ = rv (mul x y) := by unfold rv; grind
  have z2 : uT * uK * uT⁻¹ * uT⁻¹ = u51 := by grind
  rw [Rat.add_mul, Rat.add_mul, z1, z2] at g1
  rw [Rat.add_mul, Rat.add_mul, z1, z2] at g2
  generalize ((val x * val y : Int) : Rat) * uT⁻¹ * uT⁻¹ = β at *
  generalize rv (mul x y) = α at *
  clear z1 z2 i1 i2 n hb
  constructor <;> grind
theorem rv_FR {n k : Nat} (hn : n < 2 ^ 53) (hk : k ≤ 1000) : Fn (FR n (2 ^ k)) ∧ rv (FR n (2 ^ k)) = (n : Rat) / ((2 ^ k : Nat) : Rat) := by
  obtain ⟨m, e, hd, hv, _⟩ := FR_val hn hk
  refine ⟨⟨_, _, _, hd⟩, ?_⟩
  unfold rv
  rw [hv, Rat.intCast_natCast, Rat.natCast_mul]
  have h1 : uT = ((2 ^ k : Nat) : Rat) * ((2 ^ (1074 - k) : Nat) : Rat) := by unfold uT; rw [← Rat.natCast_mul, pow_split hk]
  have h2 : ((2 ^ k : Nat) : Rat) ≠ 0 := fun q => by have := natCast_pos' (Nat.two_pow_pos k); rw [q] at this; exact absurd this (by decide)
  have h3 := T_iT
  rw [Rat.div_def]
  have h4 : ((2 ^ k : Nat) : Rat) * ((2 ^ k : Nat) : Rat)⁻¹ = 1 := Rat.mul_inv_cancel _ h2
  generalize ((2 ^ k : Nat) : Rat) = a at *
  generalize ((2 ^ (1074 - k) : Nat) : Rat) = b at *
  generalize uT⁻¹ = i at *
  generalize a⁻¹ = j at *
  rw [h1] at h3
  grind
end
section

open PySem PySem.Float64
theorem constR {x : UInt64} (n k : Nat) (h : x = FR n (2 ^ k)) (hn : n < 2 ^ 53) (hk : k ≤ 1000) : Fn x ∧ rv x = (n : Rat) / ((2 ^ k : Nat) : Rat) := by subst h; exact rv_FR hn hk
theorem k30 : Fn 4599075939470750515 ∧ rv 4599075939470750515 = 5404319552844595 / 18014398509481984 := constR 5404319552844595 54 (by decide +kernel) (by decide) (by decide)
theorem k59 : Fn 4603489467105573601 ∧ rv 4603489467105573601 = 5314247560297185 / 9007199254740992 := constR 5314247560297185 53 (by decide +kernel) (by decide) (by decide)
theorem k11 : Fn 4592590756007337001 ∧ rv 4592590756007337001 = 7926335344172073 / 72057594037927936 := constR 7926335344172073 56 (by decide +kernel) (by decide) (by decide)
theorem k74 : Fn 4604840546993784750 ∧ rv 4604840546993784750 = 6665327448508334 / 9007199254740992 := constR 6665327448508334 53 (by decide +kernel) (by decide) (by decide)
theorem k27 : Fn 4598535507515466056 ∧ rv 4598535507515466056 = 4863887597560136 / 18014398509481984 := constR 4863887597560136 54 (by decide +kernel) (by decide) (by decide)
theorem k48 : Fn 4602318531202457272 ∧ rv 4602318531202457272 = 8646911284551352 / 18014398509481984 := constR 8646911284551352 54 (by decide +kernel) (by decide) (by decide)
theorem k41 : Fn 4601057523306793533 ∧ rv 4601057523306793533 = 7385903388887613 / 18014398509481984 := constR 7385903388887613 54 (by decide +kernel) (by decide) (by decide)
theorem mulC {c x : UInt64} {q : Rat} (hc : Fn c ∧ rv c = q) (hx : Fn x) (h1 : -8 ≤ q * rv x) (h2 : q * rv x ≤ 8) : Fn (mul c x) ∧ Near (rv (mul c x)) (q * rv x) u51 := by
  have := mulR hc.1 hx (by rw [hc.2]; exact h1) (by rw [hc.2]; exact h2)
  rwa [hc.2] at this
/-- x stands for v, e at most off; v is at most m -/
structure Bd (x : UInt64) (v e m : Rat) : Prop where
  f : Fn x
  near : Near (rv x) v e
  bd : -m ≤ v ∧ v ≤ m
theorem Bd.base {x : UInt64} (f : Fn x) (h0 : 0 ≤ rv x) (h1 : rv x ≤ 1) : Bd x (rv x) 0 1 := ⟨f, ⟨by grind, by grind⟩, ⟨by grind, h1⟩⟩
theorem Bd.add {x y : UInt64} {v v' e e' m m' : Rat} (a : Bd x v e m) (b : Bd y v' e' m') (h : m + m' + e + e' ≤ 8) : Bd (add x y) (v + v') (e + e' + u51) (m + m') := by
  obtain ⟨fa, ⟨n1, n2⟩, ⟨b1, b2⟩⟩ := a
  obtain ⟨fb, ⟨n3, n4⟩, ⟨b3, b4⟩⟩ := b
  obtain ⟨f, ⟨n5, n6⟩⟩ := addR fa fb (by grind) (by grind)
  exact ⟨f, ⟨by grind, by grind⟩, ⟨by grind, by grind⟩⟩
theorem Bd.sub {x y : UInt64} {v v' e e' m m' : Rat} (a : Bd x v e m) (b : Bd y v' e' m') (h : m + m' + e + e' ≤ 8) : Bd (sub x y) (v - v') (e + e' + u51) (m + m') := by
  obtain ⟨fa, ⟨n1, n2⟩, ⟨b1, b2⟩⟩ := a
  obtain ⟨fb, ⟨n3, n4⟩, ⟨b3, b4⟩⟩ := b
  obtain ⟨f, ⟨n5, n6⟩⟩ := subR fa fb (by grind) (by grind)
  exact ⟨f, ⟨by grind, by grind⟩, ⟨by grind, by grind⟩⟩
theorem mulLe {q a b : Rat} (h0 : 0 ≤ q) (h : a ≤ b) : q * a ≤ q * b := by
  have := Rat.mul_nonneg h0 (show 0 ≤ b - a by grind)
  grind
theorem Bd.mulC {c x : UInt64} {q v e m : Rat} (k : Fn c ∧ rv c = q) (b : Bd x v e m) (h0 : 0 ≤ q) (h : q * (m + e) ≤ 8) : Bd (mul c x) (q * v) (q * e + u51) (q * m) := by
  obtain ⟨fb, ⟨n3, n4⟩, ⟨b3, b4⟩⟩ := b
  have p1 := mulLe h0 n3
  have p2 := mulLe h0 n4
  have p3 := mulLe h0 b3
  have p4 := mulLe h0 b4
  obtain ⟨f, ⟨n5, n6⟩⟩ := Mine.mulC k fb (by grind) (by grind)
  exact ⟨f, ⟨by grind, by grind⟩, ⟨by grind, by grind⟩⟩
theorem Bd.wide {x : UInt64} {v e m e' : Rat} (b : Bd x v e m) (h : e ≤ e') : Bd x v e' m := ⟨b.f, ⟨by have := b.near.1; grind, by have := b.near.2; grind⟩, b.bd⟩
theorem yY_near {r g b : UInt64} (hr : Fn r) (hg : Fn g) (hb : Fn b) (r0 : 0 ≤ rv r) (r1 : rv r ≤ 1) (g0 : 0 ≤ rv g) (g1 : rv g ≤ 1) (b0 : 0 ≤ rv b) (b1 : rv b ≤ 1) :
    Fn (yY r g b) ∧ Near (rv (yY r g b)) (3 / 10 * rv r + 59 / 100 * rv g + 11 / 100 * rv b) (6 * u51) := by
  have H := ((((Bd.base hr r0 r1).mulC k30 (by decide +kernel) (by decide +kernel)).add ((Bd.base hg g0 g1).mulC k59 (by decide +kernel) (by decide +kernel)) (by decide +kernel)).add ((Bd.base hb b0 b1).mulC k11 (by decide +kernel) (by decide +kernel)) (by decide +kernel)).wide (e' := 5 * u51) (by decide +kernel)
  refine ⟨H.f, ?_⟩
  have n := H.near
  unfold yY
  clear H hr hg hb
  generalize rv (add _ _) = Y at *
  generalize rv r = R at *
  generalize rv g = G at *
  generalize rv b = B at *
  obtain ⟨n1, n2⟩ := n
  exact ⟨by clear n2; grind, by clear n1; grind⟩

theorem kA : Fn 4606703976345377586 ∧ rv 4606703976345377586 = 4264378400050585 / 4503599627370496 := constR 4264378400050585 52 (by decide +kernel) (by decide) (by decide)
theorem kB : Fn 4603791717925830846 ∧ rv 4603791717925830846 = 2808249190277215 / 4503599627370496 := constR 2808249190277215 52 (by decide +kernel) (by decide) (by decide)
theorem kC : Fn 4598621754083818298 ∧ rv 4598621754083818298 = 2475067082956189 / 9007199254740992 := constR 2475067082956189 53 (by decide +kernel) (by decide) (by decide)
theorem kD : Fn 4603901015759978483 ∧ rv 4603901015759978483 = 5725796214702067 / 9007199254740992 := constR 5725796214702067 53 (by decide +kernel) (by decide) (by decide)
theorem kE : Fn 4607671262177584182 ∧ rv 4607671262177584182 = 2496221502468635 / 2251799813685248 := constR 2496221502468635 51 (by decide +kernel) (by decide) (by decide)
theorem kF : Fn 4610375502138591871 ∧ rv 4610375502138591871 = 7696682965944959 / 4503599627370496 := constR 7696682965944959 52 (by decide +kernel) (by decide) (by decide)
theorem k0 : Fn 0 ∧ rv 0 = 0 := by
  have := constR (x := 0) 0 0 (by decide +kernel) (by decide) (by decide)
  exact ⟨this.1, this.2.trans (by decide +kernel)⟩
theorem k1 : Fn 4607182418800017408 ∧ rv 4607182418800017408 = 1 := by
  have := constR (x := 4607182418800017408) 1 0 (by decide +kernel) (by decide) (by decide)
  exact ⟨this.1, this.2.trans (by decide +kernel)⟩
theorem k2 : Fn (ofInt 2) ∧ rv (ofInt 2) = 2 := by
  have := constR (x := ofInt 2) 2 0 (by decide +kernel) (by decide) (by decide)
  exact ⟨this.1, this.2.trans (by decide +kernel)⟩
theorem yIQ_near {r g b : UInt64} (hr : Fn r) (hg : Fn g) (hb : Fn b) (r0 : 0 ≤ rv r) (r1 : rv r ≤ 1) (g0 : 0 ≤ rv g) (g1 : rv g ≤ 1) (b0 : 0 ≤ rv b) (b1 : rv b ≤ 1) :
    (Fn (yI r g b) ∧ Near (rv (yI r g b)) (74 / 100 * (rv r - (3 / 10 * rv r + 59 / 100 * rv g + 11 / 100 * rv b)) - 27 / 100 * (rv b - (3 / 10 * rv r + 59 / 100 * rv g + 11 / 100 * rv b))) (12 * u51)) ∧
    (Fn (yQ r g b) ∧ Near (rv (yQ r g b)) (48 / 100 * (rv r - (3 / 10 * rv r + 59 / 100 * rv g + 11 / 100 * rv b)) + 41 / 100 * (rv b - (3 / 10 * rv r + 59 / 100 * rv g + 11 / 100 * rv b))) (12 * u51)) := by
  obtain ⟨fy, ny⟩ := yY_near hr hg hb r0 r1 g0 g1 b0 b1
  unfold yI yQ
  have hv : 0 ≤ 3 / 10 * rv r + 59 / 100 * rv g + 11 / 100 * rv b ∧ 3 / 10 * rv r + 59 / 100 * rv g + 11 / 100 * rv b ≤ 1 := by
    clear ny
    generalize rv r = R at *
    generalize rv g = G at *
    generalize rv b = B at *
    constructor <;> grind
  have By : Bd (yY r g b) (3 / 10 * rv r + 59 / 100 * rv g + 11 / 100 * rv b) (6 * u51) 1 := ⟨fy, ny, ⟨by have := hv.1; grind, hv.2⟩⟩
  have H1 := (Bd.base hr r0 r1).sub By (by decide +kernel)
  have H2 := (Bd.base hb b0 b1).sub By (by decide +kernel)
  have HI := ((H1.mulC k74 (by decide +kernel) (by decide +kernel)).sub (H2.mulC k27 (by decide +kernel) (by decide +kernel)) (by decide +kernel)).wide (e' := 11 * u51) (by decide +kernel)
  have HQ := ((H1.mulC k48 (by decide +kernel) (by decide +kernel)).add (H2.mulC k41 (by decide +kernel) (by decide +kernel)) (by decide +kernel)).wide (e' := 11 * u51) (by decide +kernel)
  have b1' := H1.bd
  have b2' := H2.bd
  have nI := HI.near
  have nQ := HQ.near
  refine ⟨⟨HI.f, ?_⟩, ⟨HQ.f, ?_⟩⟩
  · clear H1 H2 HI HQ By hv nQ ny fy
    generalize rv (Float64.sub (Float64.mul _ _) _) = Y at *
    generalize rv r - (3 / 10 * rv r + 59 / 100 * rv g + 11 / 100 * rv b) = U at *
    generalize rv b - (3 / 10 * rv r + 59 / 100 * rv g + 11 / 100 * rv b) = V at *
    clear r0 r1 g0 g1 b0 b1 hr hg hb
    constructor <;> grind
  · clear H1 H2 HI HQ By hv nI ny fy
    generalize rv (Float64.add (Float64.mul _ _) _) = Y at *
    generalize rv r - (3 / 10 * rv r + 59 / 100 * rv g + 11 / 100 * rv b) = U at *
    generalize rv b - (3 / 10 * rv r + 59 / 100 * rv g + 11 / 100 * rv b) = V at *
    clear r0 r1 g0 g1 b0 b1 hr hg hb
    constructor <;> grind
/-- the three sums ahead of the clamps, from a luma that may be 2 more or less -/
theorem out_near {y i q : UInt64} {R G B z : Rat} (fy : Fn y) (fi : Fn i) (fq : Fn q) (r0 : 0 ≤ R) (r1 : R ≤ 1) (g0 : 0 ≤ G) (g1 : G ≤ 1) (b0 : 0 ≤ B) (b1 : B ≤ 1) (z0 : -2 ≤ z) (z1 : z ≤ 2)
    (ny : Near (rv y) (3 / 10 * R + 59 / 100 * G + 11 / 100 * B + z) (8 * u51))
    (ni : Near (rv i) (74 / 100 * (R - (3 / 10 * R + 59 / 100 * G + 11 / 100 * B)) - 27 / 100 * (B - (3 / 10 * R + 59 / 100 * G + 11 / 100 * B))) (12 * u51))
    (nq : Near (rv q) (48 / 100 * (R - (3 / 10 * R + 59 / 100 * G + 11 / 100 * B)) + 41 / 100 * (B - (3 / 10 * R + 59 / 100 * G + 11 / 100 * B))) (12 * u51)) :
    (Fn (oR y i q) ∧ Near (rv (oR y i q)) (R + z) (60 * u51)) ∧ (Fn (oG y i q) ∧ Near (rv (oG y i q)) (G + z) (60 * u51)) ∧ (Fn (oB y i q) ∧ Near (rv (oB y i q)) (B + z) (60 * u51)) := by
  unfold oR oG oB
  have hY : Bd y (3 / 10 * R + 59 / 100 * G + 11 / 100 * B + z) (8 * u51) 3 := ⟨fy, ny, by clear ni nq ny; constructor <;> grind⟩
  have hI : Bd i (74 / 100 * (R - (3 / 10 * R + 59 / 100 * G + 11 / 100 * B)) - 27 / 100 * (B - (3 / 10 * R + 59 / 100 * G + 11 / 100 * B))) (12 * u51) 1 := ⟨fi, ni, by clear ni nq ny; constructor <;> grind⟩
  have hQ : Bd q (48 / 100 * (R - (3 / 10 * R + 59 / 100 * G + 11 / 100 * B)) + 41 / 100 * (B - (3 / 10 * R + 59 / 100 * G + 11 / 100 * B))) (12 * u51) 1 := ⟨fq, nq, by clear ni nq ny; constructor <;> grind⟩
  have H1 := ((hY.add (hI.mulC kA (by decide +kernel) (by decide +kernel)) (by decide +kernel)).add (hQ.mulC kB (by decide +kernel) (by decide +kernel)) (by decide +kernel)).wide (e' := 50 * u51) (by decide +kernel)
  have H2 := ((hY.sub (hI.mulC kC (by decide +kernel) (by decide +kernel)) (by decide +kernel)).sub (hQ.mulC kD (by decide +kernel) (by decide +kernel)) (by decide +kernel)).wide (e' := 50 * u51) (by decide +kernel)
  have H3 := ((hY.sub (hI.mulC kE (by decide +kernel) (by decide +kernel)) (by decide +kernel)).add (hQ.mulC kF (by decide +kernel) (by decide +kernel)) (by decide +kernel)).wide (e' := 50 * u51) (by decide +kernel)
  have n1 := H1.near
  have n2 := H2.near
  have n3 := H3.near
  refine ⟨⟨H1.f, ?_⟩, ⟨H2.f, ?_⟩, ⟨H3.f, ?_⟩⟩
  · clear H1 H2 H3 hY hI hQ n2 n3 ny ni nq z0 z1
    generalize rv (Float64.add _ _) = Z at *
    obtain ⟨m1, m2⟩ := n1
    exact ⟨by clear m2; grind, by clear m1; grind⟩
  · clear H1 H2 H3 hY hI hQ n1 n3 ny ni nq z0 z1
    generalize rv (Float64.sub _ _) = Z at *
    obtain ⟨m1, m2⟩ := n2
    exact ⟨by clear m2; grind, by clear m1; grind⟩
  · clear H1 H2 H3 hY hI hQ n1 n2 ny ni nq z0 z1
    generalize rv (Float64.add _ _) = Z at *
    obtain ⟨m1, m2⟩ := n3
    exact ⟨by clear m2; grind, by clear m1; grind⟩
end
section

open PySem PySem.Float64
theorem rv_lt {x y : UInt64} : rv x < rv y ↔ val x < val y := by
  unfold rv
  constructor
  · intro h
    rcases Int.lt_or_le (val x) (val y) with c | c
    · exact c
    · exact absurd h (Rat.not_lt.mpr (mulT_le (le_of_int c)))
  · intro h
    refine Rat.not_le.mp fun c => ?_
    have := of_mulT_le c
    have := Rat.intCast_le_intCast.mp this
    omega
theorem cmp_lt {x y : UInt64} (hx : Fn x) (hy : Fn y) : ((cmp x y == some .lt) = true) ↔ rv x < rv y := by
  obtain ⟨a, m, e, hd⟩ := hx
  obtain ⟨b, k, f, hd'⟩ := hy
  rw [cmp_right hd hd', rv_lt, beq_iff_eq, Option.some.injEq, Int.compare_eq_lt]
theorem cmp_gt {x y : UInt64} (hx : Fn x) (hy : Fn y) : ((cmp x y == some .gt) = true) ↔ rv y < rv x := by
  obtain ⟨a, m, e, hd⟩ := hx
  obtain ⟨b, k, f, hd'⟩ := hy
  rw [cmp_right hd hd', rv_lt, beq_iff_eq, Option.some.injEq, Int.compare_eq_gt]
theorem cl_one {x : UInt64} (hx : Fn x) (h : 1 < rv x) : cl01 x = 4607182418800017408 := by
  unfold cl01 clGt clLt
  have h1 : ¬ ((Float64.cmp x 0 == some .lt) = true) := by rw [cmp_lt hx k0.1, k0.2]; grind
  rw [if_neg h1, if_pos ((cmp_gt hx k1.1).mpr (by rw [k1.2]; exact h))]
theorem cl_zero {x : UInt64} (hx : Fn x) (h : rv x < 0) : cl01 x = 0 := by
  unfold cl01 clGt clLt
  rw [if_pos ((cmp_lt hx k0.1).mpr (by rw [k0.2]; exact h))]
  rw [if_neg (by decide +kernel)]
theorem cl_near {x : UInt64} {q e : Rat} (hx : Fn x) (h : Near (rv x) q e) (q0 : 0 ≤ q) (q1 : q ≤ 1) : Fn (cl01 x) ∧ Near (rv (cl01 x)) q e := by
  by_cases c0 : rv x < 0
  · rw [cl_zero hx c0]
    refine ⟨k0.1, ?_⟩
    rw [k0.2]
    constructor <;> grind
  · by_cases c1 : 1 < rv x
    · rw [cl_one hx c1]
      refine ⟨k1.1, ?_⟩
      rw [k1.2]
      constructor <;> grind
    · have : cl01 x = x := by
        unfold cl01 clGt clLt
        have h1 : ¬ ((Float64.cmp x 0 == some .lt) = true) := by rw [cmp_lt hx k0.1, k0.2]; exact c0
        rw [if_neg h1, if_neg (by rw [cmp_gt hx k1.1, k1.2]; exact c1)]
      rw [this]; exact ⟨hx, h⟩
/-- times 2 ^ 38 -/
theorem scale38 {x : UInt64} (hx : Fn x) (h1 : -8 ≤ rv x) (h2 : rv x ≤ 8) : Fn (mul x (ofInt 274877906944)) ∧ Near (rv (mul x (ofInt 274877906944))) (rv x * 274877906944) (1 / 8192) := by
  have hb := bound8 (s := val x) h1 h2
  have ec : ofInt 274877906944 = FR 274877906944 (2 ^ 0) := by decide +kernel
  obtain ⟨m', e', hd', hv', _⟩ := FR_val (n := 274877906944) (k := 0) (by decide) (by decide)
  rw [ec]
  have hy : val (FR 274877906944 (2 ^ 0)) = 274877906944 * 2 ^ 1074 := by
    rw [hv', Int.natCast_mul]
    have : ((2 ^ (1074 - 0) : Nat) : Int) = 2 ^ 1074 := by rw [Nat.sub_zero]; simp
    rw [this]; rfl
  have hya : (val (FR 274877906944 (2 ^ 0))).natAbs = 2 ^ 1074 * 2 ^ 38 := by
    rw [hv', Int.natAbs_natCast, Nat.sub_zero, Nat.mul_comm]
  obtain ⟨f, n⟩ := mulIP (p := 38) (x := x) (y := FR 274877906944 (2 ^ 0)) (by decide) hx ⟨_, _, _, hd'⟩ (by
    rw [hya, Nat.mul_left_comm]
    refine Nat.mul_le_mul_left _ ?_
    rw [show (1077 + 38 : Nat) = 38 + 1077 by decide, Nat.pow_add 2 38 1077, Nat.mul_comm]
    exact Nat.mul_le_mul_left _ hb)
  refine ⟨f, ?_⟩
  rw [hy] at n
  have hp : (0 : Int) < 2 ^ 1074 := by
    have : (2 : Int) ^ 1074 = ((2 ^ 1074 : Nat) : Int) := by simp
    rw [this]; exact Int.ofNat_lt.mpr (Nat.two_pow_pos _)
  have n2 : (val (mul x (FR 274877906944 (2 ^ 0))) - val x * 274877906944).natAbs ≤ 2 ^ (1023 + 38) := by
    have e1 : 2 ^ 1074 * val (mul x (FR 274877906944 (2 ^ 0))) - val x * (274877906944 * 2 ^ 1074) = 2 ^ 1074 * (val (mul x (FR 274877906944 (2 ^ 0))) - val x * 274877906944) := by
      rw [Int.mul_sub]
      congr 1
      ac_rfl
    rw [e1, Int.natAbs_mul] at n
    have e2 : ((2 : Int) ^ 1074).natAbs = 2 ^ 1074 := by rw [Int.natAbs_pow]; rfl
    rw [e2] at n
    exact Nat.le_of_mul_le_mul_left n (Nat.two_pow_pos _)
  generalize mul x (FR 274877906944 (2 ^ 0)) = z at *
  have i1 : val z ≤ val x * 274877906944 + ((2 ^ (1023 + 38) : Nat) : Int) := by generalize (2 : Nat) ^ (1023 + 38) = K at *; omega
  have i2 : val x * 274877906944 ≤ val z + ((2 ^ (1023 + 38) : Nat) : Int) := by generalize (2 : Nat) ^ (1023 + 38) = K at *; omega
  have g1 := mulT_le (le_of_int i1)
  have g2 := mulT_le (le_of_int i2)
  have cK : (((2 ^ (1023 + 38) : Nat) : Int) : Rat) * uT⁻¹ = 1 / 8192 := by
    rw [Rat.intCast_natCast, Nat.pow_add, Rat.natCast_mul, show ((2 ^ 1023 : Nat) : Rat) = uK from rfl, show ((2 ^ 38 : Nat) : Rat) = 274877906944 from rfl]
    have := K_iT
    generalize uT⁻¹ = i at *
    generalize uK = k at *
    have : k * 274877906944 * i = (k * i) * 274877906944 := by grind
    rw [this]
    have h3 : k * i = 1 / 2251799813685248 := by assumption
    rw [h3]; decide +kernel
  have cX : ((val x * 274877906944 : Int) : Rat) * uT⁻¹ = rv x * 274877906944 := by
    rw [Rat.intCast_mul]
    unfold rv
    have : ((274877906944 : Int) : Rat) = 274877906944 := rfl
    rw [this]
    generalize (val x : Rat) = a
    generalize uT⁻¹ = i
    grind
  rw [Rat.intCast_add, Rat.add_mul, cK, cX] at g1 g2
  unfold rv at *
  generalize (val z : Rat) * uT⁻¹ = α at *
  generalize (val x : Rat) * uT⁻¹ * 274877906944 = β at *
  clear i1 i2 n n2 hb
  constructor <;> grind
theorem halfEven_is {n d j : Nat} (hd : 0 < d) (h : 2 * dist n (d * j) < d) : halfEven n d = j := by
  have h1 := halfEven_nearest n d hd j
  generalize halfEven n d = k at *
  rcases Nat.lt_trichotomy k j with c | c | c
  · have := Nat.mul_le_mul_left d (show k + 1 ≤ j from c)
    rw [Nat.mul_add, Nat.mul_one] at this
    unfold dist at *; omega
  · exact c
  · have := Nat.mul_le_mul_left d (show j + 1 ≤ k from c)
    rw [Nat.mul_add, Nat.mul_one] at this
    unfold dist at *; omega
theorem nearest_is {x : UInt64} {a : Bool} {m : Nat} {e : Int} {N : Int} (hd : decode x = .fin a m e) (h1 : (N : Rat) - 1 / 2 < rv x) (h2 : rv x < (N : Rat) + 1 / 2) : nearestOf a m e = N := by
  have i1 : (2 * N - 1) * 2 ^ 1074 < 2 * val x := by
    refine Int.not_le.mp fun c => ?_
    have c1 := le_of_int c
    rw [Rat.intCast_mul, Rat.intCast_mul, castT, Rat.intCast_sub, Rat.intCast_mul] at c1
    have c2 := mulT_le c1
    have t := T_iT
    have z1 : ((2 : Int) : Rat) * (val x : Rat) * uT⁻¹ = 2 * rv x := by unfold rv; rw [Rat.mul_assoc]; rfl
    have z2 : (((2 : Int) : Rat) * (N : Rat) - ((1 : Int) : Rat)) * uT * uT⁻¹ = 2 * (N : Rat) - 1 := by
      rw [Rat.mul_assoc, t, Rat.mul_one]; rfl
    rw [z1, z2] at c2
    generalize rv x = X at *
    generalize (N : Rat) = n at *
    clear c c1 z1 z2 t
    grind
  have i2 : 2 * val x < (2 * N + 1) * 2 ^ 1074 := by
    refine Int.not_le.mp fun c => ?_
    have c1 := le_of_int c
    rw [Rat.intCast_mul, Rat.intCast_mul, castT, Rat.intCast_add, Rat.intCast_mul] at c1
    have c2 := mulT_le c1
    have t := T_iT
    have z1 : ((2 : Int) : Rat) * (val x : Rat) * uT⁻¹ = 2 * rv x := by unfold rv; rw [Rat.mul_assoc]; rfl
    have z2 : (((2 : Int) : Rat) * (N : Rat) + ((1 : Int) : Rat)) * uT * uT⁻¹ = 2 * (N : Rat) + 1 := by
      rw [Rat.mul_assoc, t, Rat.mul_one]; rfl
    rw [z1, z2] at c2
    generalize rv x = X at *
    generalize (N : Rat) = n at *
    clear c c1 z1 z2 t
    grind
  have he := decode_ge hd
  have hs := shift_one m e 1074 (by omega)
  have hp := shift_pos m 1 e (by decide)
  have hv := val_eq hd
  unfold nearestOf
  simp only
  have e1 : (e + ((1074 : Nat) : Int)).toNat = (e + 1074).toNat := rfl
  rw [e1] at hs
  have eT : (2 : Int) ^ 1074 = ((2 ^ 1074 : Nat) : Int) := by simp
  rw [eT] at i1 i2
  have pT : 0 < (2 : Nat) ^ 1074 := Nat.two_pow_pos _
  generalize (shift m 1 e).1 = n at *
  generalize (shift m 1 e).2 = d at *
  generalize m * 2 ^ (e + 1074).toNat = V at *
  generalize (2 : Nat) ^ 1074 = T at *
  have key : halfEven n d = N.natAbs := by
    refine halfEven_is hp ?_
    have q : 2 * dist V (T * N.natAbs) < T := by
      rw [hv] at i1 i2
      have hN : ((T * N.natAbs : Nat) : Int) = (T : Int) * (N.natAbs : Int) := Int.natCast_mul _ _
      have f1 : (2 * N - 1) * (T : Int) = 2 * (N * T) - T := by rw [Int.sub_mul, Int.mul_assoc, Int.one_mul]
      have f2 : (2 * N + 1) * (T : Int) = 2 * (N * T) + T := by rw [Int.add_mul, Int.mul_assoc, Int.one_mul]
      rw [f1] at i1
      rw [f2] at i2
      rcases Int.le_total 0 N with c | c
      · have g : (N.natAbs : Int) = N := by omega
        rw [g, Int.mul_comm] at hN
        generalize T * N.natAbs = Z at *
        rw [← hN] at i1 i2
        cases a <;> simp only [sgn, Bool.false_eq_true, if_true, if_false] at i1 i2 <;> unfold dist <;> omega
      · have g : (N.natAbs : Int) = -N := by omega
        rw [g, Int.mul_neg, Int.mul_comm] at hN
        generalize T * N.natAbs = Z at *
        have hN' : N * (T : Int) = -(Z : Int) := by omega
        rw [hN'] at i1 i2
        cases a <;> simp only [sgn, Bool.false_eq_true, if_true, if_false] at i1 i2 <;> unfold dist <;> omega
    have q2 : T * (2 * dist n (d * N.natAbs)) < T * d := by
      have z : T * dist n (d * N.natAbs) = d * dist V (T * N.natAbs) := by
        rw [← dist_mul, ← dist_mul]
        congr 1
        · rw [Nat.mul_comm, hs, Nat.mul_comm]
        · rw [Nat.mul_left_comm]
      have := Nat.mul_lt_mul_of_pos_left q hp
      calc T * (2 * dist n (d * N.natAbs)) = 2 * (T * dist n (d * N.natAbs)) := by rw [Nat.mul_left_comm]
        _ = 2 * (d * dist V (T * N.natAbs)) := by rw [z]
        _ = d * (2 * dist V (T * N.natAbs)) := by rw [Nat.mul_left_comm]
        _ < d * T := this
        _ = T * d := Nat.mul_comm _ _
    exact Nat.lt_of_mul_lt_mul_left q2
  rw [key]
  rw [hv] at i1 i2
  have f1 : (2 * N - 1) * (T : Int) = 2 * (N * T) - T := by rw [Int.sub_mul, Int.mul_assoc, Int.one_mul]
  have f2 : (2 * N + 1) * (T : Int) = 2 * (N * T) + T := by rw [Int.add_mul, Int.mul_assoc, Int.one_mul]
  rw [f1] at i1
  rw [f2] at i2
  rcases Int.lt_trichotomy N 0 with c | c | c
  · have : N * (T : Int) ≤ -1 * (T : Int) := Int.mul_le_mul_of_nonneg_right (by omega) (by omega)
    cases a
    · simp only [sgn, Bool.false_eq_true, if_false] at i1 i2; generalize N * (T : Int) = Z at *; omega
    · simp only [sgn, if_true]; omega
  · subst c; cases a <;> rfl
  · have : 1 * (T : Int) ≤ N * (T : Int) := Int.mul_le_mul_of_nonneg_right (by omega) (by omega)
    cases a
    · simp only [sgn, Bool.false_eq_true, if_false]; omega
    · simp only [sgn, if_true] at i1 i2; generalize N * (T : Int) = Z at *; omega
end
section

open PySem PySem.Float64
noncomputable def aOf (d c : Nat) : Nat := min 256 ((if 768 ≤ (3 * d + 2304 - c) % 1536 then (3 * d + 2304 - c) % 1536 - 768 else 768 - (3 * d + 2304 - c) % 1536) - 256)
noncomputable def closeK (K : UInt64) (n : Nat) : Bool := isFinite K && decide ((1536 * val K - (n : Int) * 2 ^ 1074).natAbs ≤ 2 ^ 1036)
noncomputable def okV (A : UInt64) (a : Nat) : Bool :=
  if (cmp (hueF A) cS6 == some .lt) = true then closeK (hueF A) (256 - a)
  else if (cmp (hueF A) cH == some .lt) = true then a == 0
  else if (cmp (hueF A) cTT == some .lt) = true then closeK (sub cTT (hueF A)) (256 - a)
  else a == 256
noncomputable def okD (d : Nat) : Bool := okV (add (FR d 512) cT3) (aOf d 0) && okV (FR d 512) (aOf d 512) && okV (sub (FR d 512) cT3) (aOf d 1024)
theorem okD_0 : ((List.range 64).all fun d => okD (d + 0)) = true := by decide +kernel
theorem okD_1 : ((List.range 64).all fun d => okD (d + 64)) = true := by decide +kernel
theorem okD_2 : ((List.range 64).all fun d => okD (d + 128)) = true := by decide +kernel
theorem okD_3 : ((List.range 64).all fun d => okD (d + 192)) = true := by decide +kernel
theorem okD_4 : ((List.range 64).all fun d => okD (d + 256)) = true := by decide +kernel
theorem okD_5 : ((List.range 64).all fun d => okD (d + 320)) = true := by decide +kernel
theorem okD_6 : ((List.range 64).all fun d => okD (d + 384)) = true := by decide +kernel
theorem okD_7 : ((List.range 64).all fun d => okD (d + 448)) = true := by decide +kernel
theorem okD_all {d : Nat} (h : d < 512) : okD d = true := by
  have key : ∀ k, ((List.range 64).all fun d => okD (d + 64 * k)) = true → d / 64 = k → okD d = true := by
    intro k hk e
    have := List.all_eq_true.mp hk (d % 64) (List.mem_range.mpr (Nat.mod_lt _ (by decide)))
    have e2 : d % 64 + 64 * k = d := by omega
    rw [e2] at this; exact this
  have h8 : d / 64 < 8 := by omega
  rcases (show d / 64 = 0 ∨ d / 64 = 1 ∨ d / 64 = 2 ∨ d / 64 = 3 ∨ d / 64 = 4 ∨ d / 64 = 5 ∨ d / 64 = 6 ∨ d / 64 = 7 by omega) with e | e | e | e | e | e | e | e
  · exact key 0 okD_0 e
  · exact key 1 okD_1 e
  · exact key 2 okD_2 e
  · exact key 3 okD_3 e
  · exact key 4 okD_4 e
  · exact key 5 okD_5 e
  · exact key 6 okD_6 e
  · exact key 7 okD_7 e
theorem fn_of_finite {x : UInt64} (h : isFinite x = true) : Fn x := by
  unfold isFinite at h
  cases hd : decode x with
  | nan => rw [hd] at h; cases h
  | inf s => rw [hd] at h; cases h
  | fin a m e => exact ⟨a, m, e, hd⟩
theorem close_near {K : UInt64} {n : Nat} (h : closeK K n = true) : Fn K ∧ Near (6 * rv K) ((n : Rat) / 256) (1 / 35184372088832) := by
  unfold closeK at h
  obtain ⟨h1, h2⟩ := Bool.and_eq_true_iff.mp h
  have h3 := of_decide_eq_true h2
  refine ⟨fn_of_finite h1, ?_⟩
  have e : (2 : Nat) ^ 1036 = 2 ^ 1023 * 8192 := by rw [show (8192 : Nat) = 2 ^ 13 by decide, ← Nat.pow_add]
  have i1 : 1536 * val K ≤ (n : Int) * 2 ^ 1074 + ((2 ^ 1036 : Nat) : Int) := by generalize (2 : Nat) ^ 1036 = Z at *; omega
  have i2 : (n : Int) * 2 ^ 1074 ≤ 1536 * val K + ((2 ^ 1036 : Nat) : Int) := by generalize (2 : Nat) ^ 1036 = Z at *; omega
  have g1 := mulT_le (le_of_int i1)
  have g2 := mulT_le (le_of_int i2)
  have cK : (((2 ^ 1036 : Nat) : Int) : Rat) * uT⁻¹ = 8192 / 2251799813685248 := by
    rw [Rat.intCast_natCast, e, Rat.natCast_mul, show ((2 ^ 1023 : Nat) : Rat) = uK from rfl, show ((8192 : Nat) : Rat) = 8192 from rfl]
    have h4 : uK * uT⁻¹ = 1 / 2251799813685248 := K_iT
    generalize uT⁻¹ = i at *
    generalize uK = k at *
    have : k * 8192 * i = (k * i) * 8192 := by grind
    rw [this, h4]; decide +kernel
  have cN : (((n : Int) * 2 ^ 1074 : Int) : Rat) * uT⁻¹ = (n : Rat) := by
    rw [Rat.intCast_mul, castT, Rat.mul_assoc, T_iT, Rat.mul_one, Rat.intCast_natCast]
  have cV : ((1536 * val K : Int) : Rat) * uT⁻¹ = 1536 * rv K := by
    rw [Rat.intCast_mul]; unfold rv; rw [Rat.mul_assoc]; rfl
  rw [Rat.intCast_add, Rat.add_mul, cK, cN, cV] at g1
  rw [Rat.intCast_add, Rat.add_mul, cK, cN, cV] at g2
  generalize rv K = κ at *
  generalize (n : Rat) = N at *
  clear i1 i2 h3 h2 h1 h cK cN cV
  constructor <;> grind
/-- n / d, any d: within 2 ^ -51 -/
theorem FR_near {n d : Nat} (hd : 0 < d) (h : n ≤ 8 * d) : Fn (FR n d) ∧ Near (rv (FR n d)) ((n : Rat) / (d : Rat)) u51 := by
  have e77 : (2 : Nat) ^ 1077 = 8 * 2 ^ 1074 := by rw [show (8 : Nat) = 2 ^ 3 by decide, ← Nat.pow_add]
  obtain ⟨t, e, l, hdist⟩ := Right.err (FR_right n d hd) hd (by
    rw [e77, ← Nat.mul_assoc, Nat.mul_comm d 8]; exact Nat.mul_le_mul_right _ h)
  rw [e]
  refine ⟨Fn.pack _ l, ?_⟩
  unfold rv
  rw [val_pack _ l]
  have hs : sgn false (V t) = ((V t : Nat) : Int) := rfl
  rw [hs, Rat.intCast_natCast]
  have i1 : d * V t ≤ n * 2 ^ 1074 + d * 2 ^ 1023 := by unfold dist at hdist; omega
  have i2 : n * 2 ^ 1074 ≤ d * V t + d * 2 ^ 1023 := by unfold dist at hdist; omega
  have j1 : ((d * V t : Nat) : Rat) ≤ ((n * 2 ^ 1074 + d * 2 ^ 1023 : Nat) : Rat) := Rat.natCast_le_natCast.mpr i1
  have j2 : ((n * 2 ^ 1074 : Nat) : Rat) ≤ ((d * V t + d * 2 ^ 1023 : Nat) : Rat) := Rat.natCast_le_natCast.mpr i2
  rw [Rat.natCast_add, Rat.natCast_mul, Rat.natCast_mul, Rat.natCast_mul, show ((2 ^ 1074 : Nat) : Rat) = uT from rfl, show ((2 ^ 1023 : Nat) : Rat) = uK from rfl] at j1 j2
  have dp : (0 : Rat) < (d : Rat) := natCast_pos' hd
  have dn : (d : Rat) ≠ 0 := fun q => by rw [q] at dp; exact absurd dp (by decide)
  have dd : (d : Rat) * (d : Rat)⁻¹ = 1 := Rat.mul_inv_cancel _ dn
  have di : 0 ≤ (d : Rat)⁻¹ := Rat.le_of_lt (Rat.inv_pos.mpr dp)
  have g1 := mulT_le (Rat.mul_le_mul_of_nonneg_right j1 di)
  have g2 := mulT_le (Rat.mul_le_mul_of_nonneg_right j2 di)
  have hT := T_iT
  have hK : uK * uT⁻¹ = 1 / 2251799813685248 := K_iT
  rw [Rat.div_def]
  generalize ((V t : Nat) : Rat) = v at *
  generalize (n : Rat) = N at *
  generalize (d : Rat)⁻¹ = j at *
  generalize (d : Rat) = D at *
  generalize uT⁻¹ = i at *
  generalize uT = T at *
  generalize uK = k at *
  have z1 : D * v * j * i = v * i := by grind
  have z2 : (N * T + D * k) * j * i = N * j + 1 / 2251799813685248 := by grind
  have z3 : N * T * j * i = N * j := by grind
  have z4 : (D * v + D * k) * j * i = v * i + 1 / 2251799813685248 := by grind
  rw [z1, z2] at g1
  rw [z3, z4] at g2
  generalize v * i = α at *
  generalize N * j = β at *
  clear z1 z2 z3 z4 j1 j2 i1 i2 hdist hT hK dd di
  constructor <;> grind
end
section

open PySem PySem.Float64
theorem prod_near {a A b B e f : Rat} (h1 : Near a A e) (h2 : Near b B f) (hA0 : 0 ≤ A) (hA1 : A ≤ 1) (hb0 : -3 ≤ b) (hb1 : b ≤ 3) (he : 0 ≤ e) (hf : 0 ≤ f) : Near (a * b) (A * B) (3 * e + f) := by
  have p1 : a * b - A * B = (a - A) * b + A * (b - B) := by grind
  -- |(a - A) b| ≤ 2 e
  have q1 : (a - A) * b ≤ 3 * e := by
    rcases (Rat.le_total : (0 : Rat) ≤ b ∨ b ≤ 0) with c | c
    · have := Rat.mul_le_mul_of_nonneg_right (show a - A ≤ e by grind) c
      have := Rat.mul_le_mul_of_nonneg_left hb1 he
      grind
    · have := Rat.mul_le_mul_of_nonneg_right (show -e ≤ a - A by grind) (show 0 ≤ -b by grind)
      have := Rat.mul_le_mul_of_nonneg_left (show -b ≤ 3 by grind) he
      grind
  have q2 : -(3 * e) ≤ (a - A) * b := by
    rcases (Rat.le_total : (0 : Rat) ≤ b ∨ b ≤ 0) with c | c
    · have := Rat.mul_le_mul_of_nonneg_right (show -e ≤ a - A by grind) c
      have := Rat.mul_le_mul_of_nonneg_left hb1 he
      grind
    · have := Rat.mul_le_mul_of_nonneg_right (show a - A ≤ e by grind) (show 0 ≤ -b by grind)
      have := Rat.mul_le_mul_of_nonneg_left (show -b ≤ 3 by grind) he
      grind
  have q3 : A * (b - B) ≤ f := by
    have := Rat.mul_le_mul_of_nonneg_left (show b - B ≤ f by grind) hA0
    have := Rat.mul_le_mul_of_nonneg_right hA1 hf
    grind
  have q4 : -f ≤ A * (b - B) := by
    have := Rat.mul_le_mul_of_nonneg_left (show -f ≤ b - B by grind) hA0
    have := Rat.mul_le_mul_of_nonneg_right hA1 hf
    grind
  generalize (a - A) * b = x at *
  generalize A * (b - B) = y at *
  generalize a * b = z at *
  generalize A * B = t at *
  clear h1 h2
  constructor <;> grind
theorem k2' : Fn c2 ∧ rv c2 = 2 := by
  have := constR (x := c2) 2 0 (by decide +kernel) (by decide) (by decide)
  exact ⟨this.1, this.2.trans (by decide +kernel)⟩
theorem k6 : Fn c6 ∧ rv c6 = 6 := by
  have := constR (x := c6) 6 0 (by decide +kernel) (by decide) (by decide)
  exact ⟨this.1, this.2.trans (by decide +kernel)⟩
/-- one of _v's three ways to a number between p and v -/
theorem lerp {m1 m2 K : UInt64} {p v W e : Rat} {n : Nat} (f1 : Fn m1) (f2 : Fn m2) (n1 : Near (rv m1) p e) (n2 : Near (rv m2) v e) (he0 : 0 ≤ e) (he : e ≤ 1 / 1000) (p0 : 0 ≤ p) (pv : p ≤ v) (v1 : v ≤ 1)
    (hn : n ≤ 256) (hK : closeK K n = true) (hW : W = (n : Rat) / 256) :
    Fn (add m1 (mul (mul (sub m2 m1) K) c6)) ∧ Near (rv (add m1 (mul (mul (sub m2 m1) K) c6))) (p + (v - p) * W) (20 * e + 1 / 17592186044416) := by
  obtain ⟨fK, nK⟩ := close_near hK
  rw [← hW] at nK
  have W0 : 0 ≤ W := by
    rw [hW, Rat.div_def]
    exact Rat.mul_nonneg (by have := Rat.natCast_le_natCast.mpr (Nat.zero_le n); simpa using this) (by decide +kernel)
  have W1 : W ≤ 1 := by
    have h1 : ((n : Nat) : Rat) ≤ 256 := by have := Rat.natCast_le_natCast.mpr hn; simpa using this
    rw [hW]; grind
  obtain ⟨g1, o1⟩ := subR f2 f1 (by grind) (by grind)
  generalize sub m2 m1 = x1 at *
  have b1 : Near (rv x1) (v - p) (2 * e + u51) := by clear nK hK; constructor <;> grind
  have b2 : Near (rv x1 * (6 * rv K)) ((v - p) * W) (3 * (2 * e + u51) + 1 / 35184372088832) :=
    prod_near b1 nK (by grind) (by grind) (by grind) (by grind) (by grind) (by decide +kernel)
  have v0 : 0 ≤ (v - p) * W := Rat.mul_nonneg (by grind) W0
  have v2 : (v - p) * W ≤ 1 := by
    have := Rat.mul_le_mul_of_nonneg_left W1 (show 0 ≤ v - p by grind)
    grind
  generalize (v - p) * W = Z at *
  have e1 : rv x1 * (6 * rv K) = 6 * (rv x1 * rv K) := by grind
  rw [e1] at b2
  obtain ⟨g2, o2⟩ := mulR g1 fK (by grind) (by grind)
  generalize mul x1 K = x2 at *
  generalize rv x1 * rv K = Y at *
  obtain ⟨g3, o3⟩ := mulR g2 k6.1 (by rw [k6.2]; grind) (by rw [k6.2]; grind)
  rw [k6.2] at o3
  generalize mul x2 c6 = x3 at *
  generalize rv x2 = X2 at *
  obtain ⟨g4, o4⟩ := addR f1 g3 (by grind) (by grind)
  refine ⟨g4, ?_⟩
  generalize rv (add m1 x3) = R at *
  generalize rv x3 = X3 at *
  generalize rv m1 = M1 at *
  clear nK hK b1 o1 n2 hW W0 W1 e1 g1 g2 g3 g4 f1 f2 fK
  constructor <;> grind
theorem vF_near {m1 m2 A : UInt64} {p v e : Rat} {a : Nat} (f1 : Fn m1) (f2 : Fn m2) (n1 : Near (rv m1) p e) (n2 : Near (rv m2) v e) (he0 : 0 ≤ e) (he : e ≤ 1 / 1000) (p0 : 0 ≤ p) (pv : p ≤ v) (v1 : v ≤ 1)
    (ha : a ≤ 256) (h : okV A a = true) : Fn (vF m1 m2 A) ∧ Near (rv (vF m1 m2 A)) (p + (v - p) * (((256 - a : Nat) : Rat) / 256)) (20 * e + 1 / 17592186044416) := by
  unfold okV at h
  unfold vF
  by_cases c1' : (cmp (hueF A) cS6 == some .lt) = true
  · rw [if_pos c1'] at h ⊢
    exact lerp f1 f2 n1 n2 he0 he p0 pv v1 (by omega) h rfl
  · rw [if_neg c1'] at h ⊢
    by_cases c2' : (cmp (hueF A) cH == some .lt) = true
    · rw [if_pos c2'] at h ⊢
      have : a = 0 := by simpa using h
      subst this
      refine ⟨f2, ?_⟩
      have z : ((256 - 0 : Nat) : Rat) / 256 = 1 := by decide +kernel
      rw [z]
      constructor <;> grind
    · rw [if_neg c2'] at h ⊢
      by_cases c3' : (cmp (hueF A) cTT == some .lt) = true
      · rw [if_pos c3'] at h ⊢
        exact lerp f1 f2 n1 n2 he0 he p0 pv v1 (by omega) h rfl
      · rw [if_neg c3'] at h ⊢
        have : a = 256 := by simpa using h
        subst this
        refine ⟨f1, ?_⟩
        have z : ((256 - 256 : Nat) : Rat) / 256 = 0 := by decide +kernel
        rw [z]
        constructor <;> grind
end
section

open PySem PySem.Float64
theorem rat_div_mul {a b : Rat} (hb : b ≠ 0) : a / b * b = a := by rw [Rat.div_def, Rat.mul_assoc, Rat.inv_mul_cancel _ hb, Rat.mul_one]
theorem natR_ne {n : Nat} (h : 0 < n) : (n : Rat) ≠ 0 := fun q => by have := natCast_pos' h; rw [q] at this; exact absurd this (by decide)
/-- the numbers of a colour -/
structure Nums (P B : Nat) : Prop where
  p1 : 1 ≤ P
  p2 : P ≤ 1024
  b1 : 1 ≤ B
  b2 : B ≤ 1048576
theorem Nums.bo {P B : Nat} (h : Nums P B) : 0 < B * (2048 - P) ∧ B * (2048 - P) < 2147483648 := by
  have h1 := h.p1; have h2 := h.p2; have h3 := h.b1; have h4 := h.b2
  refine ⟨Nat.mul_pos (by omega) (by omega), ?_⟩
  exact Nat.lt_of_le_of_lt (Nat.mul_le_mul h4 (show 2048 - P ≤ 2047 by omega)) (by decide)
theorem Nums.bp {P B : Nat} (h : Nums P B) : 0 < B * P ∧ B * P ≤ 1073741824 := by
  have h1 := h.p1; have h2 := h.p2; have h3 := h.b1; have h4 := h.b2
  refine ⟨Nat.mul_pos (by omega) (by omega), ?_⟩
  exact Nat.le_trans (Nat.mul_le_mul h4 h2) (by decide)
theorem Nums.both {P B : Nat} (h : Nums P B) : B * (2048 - P) + B * P = 2048 * B := by
  have h2 := h.p2
  rw [← Nat.mul_add, Nat.sub_add_cancel (by omega), Nat.mul_comm]
/-- the share, in its two ways, and what is l * (1 + s), l + s - l * s -/
noncomputable def shF (P B : Nat) : UInt64 := if B * (2048 - P) ≤ 1073741824 then FR P (2048 - P) else FR (B * P) (2147483648 - B * (2048 - P))
theorem leH_is {n : Nat} (h : n < 2147483648) : leH (FR n (2 ^ 31)) = decide (n ≤ 1073741824) := by
  have e : cH = FR 1073741824 (2 ^ 31) := by decide +kernel
  unfold leH
  rw [e, cmpX (by omega) (by decide) (by decide)]
  rcases Nat.lt_trichotomy n 1073741824 with c | c | c
  · rw [Nat.compare_eq_lt.mpr c, decide_eq_true (by omega)]; rfl
  · subst c; simp
  · rw [Nat.compare_eq_gt.mpr c, decide_eq_false (by omega)]; rfl
theorem m2_near {P B : Nat} (h : Nums P B) :
    Fn (m2F (FR (B * (2048 - P)) (2 ^ 31)) (shF P B)) ∧ Near (rv (m2F (FR (B * (2048 - P)) (2 ^ 31)) (shF P B))) ((B : Rat) / 1048576) (6 * u51) := by
  have hb := h.bo
  have hp := h.bp
  have hs := h.both
  have h1 := h.p1; have h2 := h.p2; have h3 := h.b1; have h4 := h.b2
  obtain ⟨fl, el⟩ := rv_FR (n := B * (2048 - P)) (k := 31) (by omega) (by decide)
  have e31 : ((2 ^ 31 : Nat) : Rat) = 2147483648 := rfl
  rw [e31] at el
  have hB : (B : Rat) = (((B * (2048 - P) : Nat) : Rat) + ((B * P : Nat) : Rat)) / 2048 := by
    have : ((B * (2048 - P) : Nat) : Rat) + ((B * P : Nat) : Rat) = 2048 * (B : Rat) := by rw [← Rat.natCast_add, hs, Rat.natCast_mul]; rfl
    rw [this]; grind
  have l0 : (0 : Rat) < ((B * (2048 - P) : Nat) : Rat) := natCast_pos' hb.1
  have l1 : ((B * (2048 - P) : Nat) : Rat) ≤ 2147483647 := by have := Rat.natCast_le_natCast.mpr (show B * (2048 - P) ≤ 2147483647 by omega); simpa using this
  unfold m2F
  rw [leH_is hb.2]
  by_cases c : B * (2048 - P) ≤ 1073741824
  · rw [if_pos (by simpa using c)]
    unfold shF
    rw [if_pos c]
    obtain ⟨fs, ns⟩ := FR_near (n := P) (d := 2048 - P) (by omega) (by omega)
    have c' : ((B * (2048 - P) : Nat) : Rat) ≤ 1073741824 := by have := Rat.natCast_le_natCast.mpr c; simpa using this
    have hd0 : (0 : Rat) < ((2048 - P : Nat) : Rat) := natCast_pos' (by omega)
    -- s = P / (2048 - P), l (1 + s) = B / 2 ^ 20
    have hs1 : (P : Rat) / ((2048 - P : Nat) : Rat) ≤ 1 := by
      have hle : ((P : Nat) : Rat) ≤ ((2048 - P : Nat) : Rat) := Rat.natCast_le_natCast.mpr (by omega)
      have := Rat.mul_le_mul_of_nonneg_right hle (Rat.le_of_lt (Rat.inv_pos.mpr hd0))
      rw [Rat.mul_inv_cancel _ (natR_ne (by omega))] at this
      rw [Rat.div_def]; exact this
    have hs0 : 0 ≤ (P : Rat) / ((2048 - P : Nat) : Rat) := by
      rw [Rat.div_def]
      exact Rat.mul_nonneg (Rat.le_of_lt (natCast_pos' (by omega))) (Rat.le_of_lt (Rat.inv_pos.mpr hd0))
    have key : ((B * (2048 - P) : Nat) : Rat) * ((P : Rat) / ((2048 - P : Nat) : Rat)) = ((B * P : Nat) : Rat) := by
      rw [Rat.natCast_mul, Rat.natCast_mul, Rat.mul_assoc, Rat.mul_comm ((2048 - P : Nat) : Rat), rat_div_mul (natR_ne (by omega))]
    generalize FR (B * (2048 - P)) (2 ^ 31) = l at *
    generalize FR P (2048 - P) = sx at *
    generalize (P : Rat) / ((2048 - P : Nat) : Rat) = S at *
    obtain ⟨f1, n1⟩ := addR k1.1 fs (by rw [k1.2]; grind) (by rw [k1.2]; grind)
    rw [k1.2] at n1
    have b1 : Near (rv (add c1 sx)) (1 + S) (2 * u51) := by constructor <;> grind
    generalize add c1 sx = x at *
    have L0 : 0 ≤ rv l := by rw [el]; grind
    have L1 : rv l ≤ 1 / 2 := by rw [el]; grind
    have hv : rv l * (1 + S) = (B : Rat) / 1048576 := by
      rw [el, hB]
      generalize ((B * (2048 - P) : Nat) : Rat) = u at *
      generalize ((B * P : Nat) : Rat) = w at *
      grind
    have nl : Near (rv l) (rv l) 0 := by constructor <;> grind
    have b2 := prod_near nl b1 L0 (by grind) (by grind) (by grind) (by grind) (by grind)
    rw [hv] at b2
    have hBv : (B : Rat) / 1048576 ≤ 1 := by have := Rat.natCast_le_natCast.mpr h4; have t : ((1048576 : Nat) : Rat) = 1048576 := rfl; rw [t] at this; grind
    have hBv0 : 0 ≤ (B : Rat) / 1048576 := by have := natCast_pos' h3; grind
    generalize (B : Rat) / 1048576 = v at *
    obtain ⟨f2, n2⟩ := mulR fl f1 (by grind) (by grind)
    refine ⟨f2, ?_⟩
    generalize rv (mul l x) = R at *
    generalize rv l * rv x = Z at *
    clear key hv nl el hB
    constructor <;> grind
  · rw [if_neg (by simpa using c)]
    unfold shF
    rw [if_neg c]
    have hd : 0 < 2147483648 - B * (2048 - P) := by omega
    obtain ⟨fs, ns⟩ := FR_near (n := B * P) (d := 2147483648 - B * (2048 - P)) hd (by omega)
    have hd0 : (0 : Rat) < ((2147483648 - B * (2048 - P) : Nat) : Rat) := natCast_pos' hd
    have eD : ((2147483648 - B * (2048 - P) : Nat) : Rat) = 2147483648 - ((B * (2048 - P) : Nat) : Rat) := by
      have : ((2147483648 - B * (2048 - P) : Nat) : Rat) + ((B * (2048 - P) : Nat) : Rat) = 2147483648 := by
        rw [← Rat.natCast_add, Nat.sub_add_cancel (by omega)]; rfl
      grind
    have key : ((B * P : Nat) : Rat) / ((2147483648 - B * (2048 - P) : Nat) : Rat) * ((2147483648 - B * (2048 - P) : Nat) : Rat) = ((B * P : Nat) : Rat) := rat_div_mul (natR_ne hd)
    have hle : ((B * P : Nat) : Rat) ≤ ((2147483648 - B * (2048 - P) : Nat) : Rat) := Rat.natCast_le_natCast.mpr (by omega)
    have hs1 : ((B * P : Nat) : Rat) / ((2147483648 - B * (2048 - P) : Nat) : Rat) ≤ 1 := by
      have := Rat.mul_le_mul_of_nonneg_right hle (Rat.le_of_lt (Rat.inv_pos.mpr hd0))
      rw [Rat.mul_inv_cancel _ (natR_ne hd)] at this
      rw [Rat.div_def]; exact this
    have hs0 : 0 ≤ ((B * P : Nat) : Rat) / ((2147483648 - B * (2048 - P) : Nat) : Rat) := by
      rw [Rat.div_def]
      exact Rat.mul_nonneg (Rat.le_of_lt (natCast_pos' hp.1)) (Rat.le_of_lt (Rat.inv_pos.mpr hd0))
    generalize FR (B * (2048 - P)) (2 ^ 31) = l at *
    generalize FR (B * P) (2147483648 - B * (2048 - P)) = sx at *
    generalize ((B * P : Nat) : Rat) / ((2147483648 - B * (2048 - P) : Nat) : Rat) = S at *
    have L0 : 0 ≤ rv l := by rw [el]; grind
    have L1 : rv l ≤ 1 := by rw [el]; grind
    obtain ⟨f1, n1⟩ := addR fl fs (by grind) (by grind)
    have nl : Near (rv l) (rv l) 0 := by constructor <;> grind
    have b2 := prod_near nl ns L0 (by grind) (by grind) (by grind) (by grind) (by decide +kernel)
    have hv : rv l + S - rv l * S = (B : Rat) / 1048576 := by
      rw [el, hB]
      rw [eD] at key
      generalize ((B * (2048 - P) : Nat) : Rat) = u at *
      generalize ((B * P : Nat) : Rat) = w at *
      grind
    have p0 : 0 ≤ rv l * S := Rat.mul_nonneg L0 hs0
    have p1 : rv l * S ≤ 1 := by have := Rat.mul_le_mul_of_nonneg_left hs1 L0; grind
    obtain ⟨f2, n2⟩ := mulR fl fs (by grind) (by grind)
    generalize add l sx = x at *
    generalize mul l sx = y at *
    generalize rv l * S = Z at *
    generalize rv l * rv sx = Z' at *
    obtain ⟨f3, n3⟩ := subR f1 f2 (by grind) (by grind)
    refine ⟨f3, ?_⟩
    generalize rv (sub x y) = R at *
    generalize (B : Rat) / 1048576 = v at *
    clear key el hB eD
    constructor <;> grind
end
section

open PySem PySem.Float64
theorem mx2X {a b k : Nat} (ha : a < 2 ^ 53) (hb : b < 2 ^ 53) (hk : k ≤ 1000) : mx2 (FR a (2 ^ k)) (FR b (2 ^ k)) = FR (max a b) (2 ^ k) := by
  unfold mx2
  rw [cmpX ha hb hk]
  by_cases c : a < b
  · rw [Nat.compare_eq_lt.mpr c, if_pos (by rfl), Nat.max_eq_right (by omega)]
  · have : compare a b ≠ .lt := fun q => c (Nat.compare_eq_lt.mp q)
    rw [if_neg (by simpa using this), Nat.max_eq_left (by omega)]
theorem mn2X {a b k : Nat} (ha : a < 2 ^ 53) (hb : b < 2 ^ 53) (hk : k ≤ 1000) : mn2 (FR a (2 ^ k)) (FR b (2 ^ k)) = FR (min a b) (2 ^ k) := by
  unfold mn2
  rw [cmpX hb ha hk]
  by_cases c : b < a
  · rw [Nat.compare_eq_lt.mpr c, if_pos (by rfl), Nat.min_eq_right (by omega)]
  · have : compare b a ≠ .lt := fun q => c (Nat.compare_eq_lt.mp q)
    rw [if_neg (by simpa using this), Nat.min_eq_left (by omega)]
/-- the part of a corner -/
noncomputable def partN (P B a : Nat) : Nat := B * (262144 - P * a)
theorem partN_le {P B a : Nat} (h : Nums P B) : partN P B a ≤ 274877906944 := by
  unfold partN
  have := h.b2
  exact Nat.le_trans (Nat.mul_le_mul this (Nat.sub_le _ _)) (by decide)
theorem partN_anti {P B a b : Nat} (h : a ≤ b) : partN P B b ≤ partN P B a := by
  unfold partN
  exact Nat.mul_le_mul_left _ (Nat.sub_le_sub_left (Nat.mul_le_mul_left _ h) _)
theorem Pa {P B a : Nat} (h : Nums P B) (ha : a ≤ 256) : P * a ≤ 262144 := Nat.le_trans (Nat.mul_le_mul h.p2 ha) (by decide)
theorem partN_sub {P B a : Nat} (h : Nums P B) (ha : a ≤ 256) : B * 262144 - partN P B a = B * P * a := by
  unfold partN
  rw [← Nat.mul_sub, Nat.sub_sub_self (Pa h ha), Nat.mul_assoc]
/-- what a hue's three corners lack -/
noncomputable def okT (d : Nat) : Bool :=
  (aOf d 0 == 0 || aOf d 512 == 0 || aOf d 1024 == 0) && (aOf d 0 == 256 || aOf d 512 == 256 || aOf d 1024 == 256) &&
  (hueF (div (if aOf d 0 = 0 then sub (FR (aOf d 1024) 256) (FR (aOf d 512) 256) else if aOf d 512 = 0 then sub (add c2 (FR (aOf d 0) 256)) (FR (aOf d 1024) 256) else sub (add c4 (FR (aOf d 512) 256)) (FR (aOf d 0) 256)) c6) == FR d 512)
theorem okT_0 : ((List.range 128).all fun d => okT d) = true := by decide +kernel
theorem okT_1 : ((List.range 128).all fun d => okT (d + 128)) = true := by decide +kernel
theorem okT_2 : ((List.range 128).all fun d => okT (d + 256)) = true := by decide +kernel
theorem okT_3 : ((List.range 128).all fun d => okT (d + 384)) = true := by decide +kernel
theorem okT_all {d : Nat} (h : d < 512) : okT d = true := by
  have key : ∀ k, ((List.range 128).all fun d => okT (d + 128 * k)) = true → d / 128 = k → okT d = true := by
    intro k hk e
    have := List.all_eq_true.mp hk (d % 128) (List.mem_range.mpr (Nat.mod_lt _ (by decide)))
    have e2 : d % 128 + 128 * k = d := by omega
    rw [e2] at this; exact this
  rcases (show d / 128 = 0 ∨ d / 128 = 1 ∨ d / 128 = 2 ∨ d / 128 = 3 by omega) with e | e | e | e
  · exact key 0 okT_0 e
  · exact key 1 okT_1 e
  · exact key 2 okT_2 e
  · exact key 3 okT_3 e
theorem okT_zero {d : Nat} (h : d < 512) : (aOf d 0 = 0 ∨ aOf d 512 = 0) ∨ aOf d 1024 = 0 := by
  have t := okT_all h
  unfold okT at t
  rw [Bool.and_eq_true, Bool.and_eq_true] at t
  simpa using t.1.1
theorem okT_full {d : Nat} (h : d < 512) : (aOf d 0 = 256 ∨ aOf d 512 = 256) ∨ aOf d 1024 = 256 := by
  have t := okT_all h
  unfold okT at t
  rw [Bool.and_eq_true, Bool.and_eq_true] at t
  simpa using t.1.2
theorem okT_hue {d : Nat} (h : d < 512) : hueF (div (if aOf d 0 = 0 then sub (FR (aOf d 1024) 256) (FR (aOf d 512) 256) else if aOf d 512 = 0 then sub (add c2 (FR (aOf d 0) 256)) (FR (aOf d 1024) 256) else sub (add c4 (FR (aOf d 512) 256)) (FR (aOf d 0) 256)) c6) = FR d 512 := by
  have t := okT_all h
  unfold okT at t
  rw [Bool.and_eq_true] at t
  exact eq_of_beq t.2
theorem aOf_le (d c : Nat) : aOf d c ≤ 256 := by unfold aOf; exact Nat.min_le_left _ _
section
variable {P B d : Nat}
/-- a corner's float -/
noncomputable abbrev colF (P B d c : Nat) : UInt64 := FR (partN P B (aOf d c)) (2 ^ 38)
theorem mxC (h : Nums P B) (hd : d < 512) : mx3 (colF P B d 0) (colF P B d 512) (colF P B d 1024) = FR (B * 262144) (2 ^ 38) := by
  have l0 := partN_le (a := aOf d 0) h
  have l1 := partN_le (a := aOf d 512) h
  have l2 := partN_le (a := aOf d 1024) h
  unfold mx3 colF
  rw [mx2X (by omega) (by omega) (by decide), mx2X (by omega) (by omega) (by decide)]
  refine congrArg (fun n => FR n (2 ^ 38)) ?_
  have z : partN P B 0 = B * 262144 := by unfold partN; simp
  have t := okT_zero hd
  have m0 := partN_anti (P := P) (B := B) (Nat.zero_le (aOf d 0))
  have m1 := partN_anti (P := P) (B := B) (Nat.zero_le (aOf d 512))
  have m2 := partN_anti (P := P) (B := B) (Nat.zero_le (aOf d 1024))
  rw [z] at m0 m1 m2
  generalize aOf d 0 = a0 at *
  generalize aOf d 512 = a1 at *
  generalize aOf d 1024 = a2 at *
  rcases t with (q | q) | q <;> subst q <;> rw [z] at * <;> omega
theorem mnC (h : Nums P B) (hd : d < 512) : mn3 (colF P B d 0) (colF P B d 512) (colF P B d 1024) = FR (partN P B 256) (2 ^ 38) := by
  have l0 := partN_le (a := aOf d 0) h
  have l1 := partN_le (a := aOf d 512) h
  have l2 := partN_le (a := aOf d 1024) h
  unfold mn3 colF
  rw [mn2X (by omega) (by omega) (by decide), mn2X (by omega) (by omega) (by decide)]
  refine congrArg (fun n => FR n (2 ^ 38)) ?_
  have t := okT_full hd
  have m0 := partN_anti (P := P) (B := B) (aOf_le d 0)
  have m1 := partN_anti (P := P) (B := B) (aOf_le d 512)
  have m2 := partN_anti (P := P) (B := B) (aOf_le d 1024)
  generalize aOf d 0 = a0 at *
  generalize aOf d 512 = a1 at *
  generalize aOf d 1024 = a2 at *
  rcases t with (q | q) | q <;> subst q <;> omega
theorem p256 (h : Nums P B) : partN P B 256 = B * 256 * (1024 - P) := by
  unfold partN
  rw [Nat.mul_assoc]
  congr 1
  have := h.p2
  omega
theorem rangeC (h : Nums P B) : sub (FR (B * 262144) (2 ^ 38)) (FR (partN P B 256) (2 ^ 38)) = FR (B * P * 256) (2 ^ 38) := by
  have h4 := h.b2
  have l := partN_le (a := 256) h
  have z := partN_anti (P := P) (B := B) (Nat.zero_le 256)
  have z0 : partN P B 0 = B * 262144 := by unfold partN; simp
  rw [z0] at z
  rw [subX (by omega) (by omega) (by decide) z, partN_sub h (by decide)]
theorem lackC (h : Nums P B) {a : Nat} (ha : a ≤ 256) : div (sub (FR (B * 262144) (2 ^ 38)) (FR (partN P B a) (2 ^ 38))) (FR (B * P * 256) (2 ^ 38)) = FR a 256 := by
  have h4 := h.b2
  have hb := h.bp
  have l := partN_le (a := a) h
  have z := partN_anti (P := P) (B := B) (Nat.zero_le a)
  have z0 : partN P B 0 = B * 262144 := by unfold partN; simp
  rw [z0] at z
  rw [subX (by omega) (by omega) (by decide) z, partN_sub h ha]
  have q : B * P * a ≤ B * P * 256 := Nat.mul_le_mul_left _ ha
  refine divX (by omega) (by omega) (by decide) (by decide) (by omega) (by decide) ?_
  generalize B * P = X
  ac_rfl
theorem eqC (h : Nums P B) {a : Nat} (ha : a ≤ 256) : (cmp (FR (partN P B a) (2 ^ 38)) (FR (B * 262144) (2 ^ 38)) == some .eq) = decide (a = 0) := by
  have h4 := h.b2
  have hb := h.bp
  have l := partN_le (a := a) h
  rw [cmpX (by omega) (by omega) (by decide)]
  have s := partN_sub h ha
  have z := partN_anti (P := P) (B := B) (Nat.zero_le a)
  have z0 : partN P B 0 = B * 262144 := by unfold partN; simp
  rw [z0] at z
  by_cases c : a = 0
  · subst c; rw [z0]; simp
  · have : 0 < B * P * a := Nat.mul_pos hb.1 (by omega)
    have lt : partN P B a < B * 262144 := by omega
    rw [Nat.compare_eq_lt.mpr lt, decide_eq_false c]; rfl
theorem hueC (h : Nums P B) (hd : d < 512) : hueH (FR (B * 262144) (2 ^ 38)) (colF P B d 0) (colF P B d 512) (colF P B d 1024) (FR (B * P * 256) (2 ^ 38)) = FR d 512 := by
  unfold hueH colF
  rw [lackC h (aOf_le d 0), lackC h (aOf_le d 512), lackC h (aOf_le d 1024), eqC h (aOf_le d 0), eqC h (aOf_le d 512)]
  simp only [decide_eq_true_eq]
  exact okT_hue hd
end
end
section

open PySem PySem.W PySem.Calls PyProof.Rows
noncomputable abbrev fnAt (k : Nat) : Option (Arguments × List Stmt × Scope) := match PySem.Challenge.pw_oc0151_02.main.body[k]? with
  | some (.FunctionDef _ a b _ _ _ sc _ _ _) => some (a, b, sc)
  | _ => none
noncomputable abbrev fob (k : Nat) (name mod : Str) (t : Nat) (cd : Addr) (a : Arguments) (b : List Stmt) (sc : Scope) (_ : fnAt k = some (a, b, sc)) : Obj :=
  Obj.mk (Value.type "function") none (Data.func (FuncData.mk name name a (FuncBody.stmts b) sc 3 [] Value.none Value.none Value.none (Value.str mod t) none (Value.ref cd) Value.none 0)) #[]
noncomputable def heapK : Params → Frag := fun P =>
  (nat_lit 2, Obj.mk Value.none none (Data.dict #[]) #[]) ::
  (nat_lit 3, Obj.mk (Value.type "dict") none (Data.dict #[DictEntry.mk (PyData.keyHash P (Str.ofString "__name__")) (Value.str (Str.ofString "__name__") 165) (Value.str (Str.ofString "law_oc0151_02") 516), DictEntry.mk (PyData.keyHash P (Str.ofString "__doc__")) (Value.str (Str.ofString "__doc__") 166) Value.none, DictEntry.mk (PyData.keyHash P (Str.ofString "__package__")) (Value.str (Str.ofString "__package__") 167) Value.none, DictEntry.mk (PyData.keyHash P (Str.ofString "__loader__")) (Value.str (Str.ofString "__loader__") 168) (Value.builtin "__main__.__loader__#opaque"), DictEntry.mk (PyData.keyHash P (Str.ofString "__spec__")) (Value.str (Str.ofString "__spec__") 169) Value.none, DictEntry.mk (PyData.keyHash P (Str.ofString "__annotations__")) (Value.str (Str.ofString "__annotations__") 170) (Value.ref 6), DictEntry.mk (PyData.keyHash P (Str.ofString "__builtins__")) (Value.str (Str.ofString "__builtins__") 171) (Value.ref 4), DictEntry.mk (PyData.keyHash P (Str.ofString "__file__")) (Value.str (Str.ofString "__file__") 173) (Value.str (Str.ofString "/claim/cut.py") 172), DictEntry.mk (PyData.keyHash P (Str.ofString "__cached__")) (Value.str (Str.ofString "__cached__") 174) Value.none, DictEntry.mk (PyData.keyHash P (Str.ofString "ONE_THIRD")) (Value.str (Str.ofString "ONE_THIRD") 192) (Value.float 4599676419421066581 191), DictEntry.mk (PyData.keyHash P (Str.ofString "ONE_SIXTH")) (Value.str (Str.ofString "ONE_SIXTH") 196) (Value.float 4595172819793696085 195), DictEntry.mk (PyData.keyHash P (Str.ofString "TWO_THIRD")) (Value.str (Str.ofString "TWO_THIRD") 200) (Value.float 4604180019048437077 199), DictEntry.mk (PyData.keyHash P (Str.ofString "rgb_to_yiq")) (Value.str (Str.ofString "rgb_to_yiq") 212) (Value.ref 21), DictEntry.mk (PyData.keyHash P (Str.ofString "yiq_to_rgb")) (Value.str (Str.ofString "yiq_to_rgb") 224) (Value.ref 28), DictEntry.mk (PyData.keyHash P (Str.ofString "rgb_to_hls")) (Value.str (Str.ofString "rgb_to_hls") 243) (Value.ref 35), DictEntry.mk (PyData.keyHash P (Str.ofString "hls_to_rgb")) (Value.str (Str.ofString "hls_to_rgb") 254) (Value.ref 42), DictEntry.mk (PyData.keyHash P (Str.ofString "_v")) (Value.str (Str.ofString "_v") 263) (Value.ref 49), DictEntry.mk (PyData.keyHash P (Str.ofString "rgb_to_hsv")) (Value.str (Str.ofString "rgb_to_hsv") 281) (Value.ref 56), DictEntry.mk (PyData.keyHash P (Str.ofString "hsv_to_rgb")) (Value.str (Str.ofString "hsv_to_rgb") 295) (Value.ref 63), DictEntry.mk (PyData.keyHash P (Str.ofString "ENDMARKER")) (Value.str (Str.ofString "ENDMARKER") 299) (Value.int 0 298), DictEntry.mk (PyData.keyHash P (Str.ofString "LPAR")) (Value.str (Str.ofString "LPAR") 301) (Value.int 7 300), DictEntry.mk (PyData.keyHash P (Str.ofString "RPAR")) (Value.str (Str.ofString "RPAR") 303) (Value.int 8 302), DictEntry.mk (PyData.keyHash P (Str.ofString "LSQB")) (Value.str (Str.ofString "LSQB") 305) (Value.int 9 304), DictEntry.mk (PyData.keyHash P (Str.ofString "RSQB")) (Value.str (Str.ofString "RSQB") 307) (Value.int 10 306), DictEntry.mk (PyData.keyHash P (Str.ofString "COLON")) (Value.str (Str.ofString "COLON") 309) (Value.int 11 308), DictEntry.mk (PyData.keyHash P (Str.ofString "COMMA")) (Value.str (Str.ofString "COMMA") 311) (Value.int 12 310), DictEntry.mk (PyData.keyHash P (Str.ofString "SEMI")) (Value.str (Str.ofString "SEMI") 313) (Value.int 13 312), DictEntry.mk (PyData.keyHash P (Str.ofString "PLUS")) (Value.str (Str.ofString "PLUS") 315) (Value.int 14 314), DictEntry.mk (PyData.keyHash P (Str.ofString "MINUS")) (Value.str (Str.ofString "MINUS") 317) (Value.int 15 316), DictEntry.mk (PyData.keyHash P (Str.ofString "STAR")) (Value.str (Str.ofString "STAR") 319) (Value.int 16 318), DictEntry.mk (PyData.keyHash P (Str.ofString "SLASH")) (Value.str (Str.ofString "SLASH") 321) (Value.int 17 320), DictEntry.mk (PyData.keyHash P (Str.ofString "VBAR")) (Value.str (Str.ofString "VBAR") 323) (Value.int 18 322), DictEntry.mk (PyData.keyHash P (Str.ofString "AMPER")) (Value.str (Str.ofString "AMPER") 325) (Value.int 19 324), DictEntry.mk (PyData.keyHash P (Str.ofString "LESS")) (Value.str (Str.ofString "LESS") 327) (Value.int 20 326), DictEntry.mk (PyData.keyHash P (Str.ofString "GREATER")) (Value.str (Str.ofString "GREATER") 329) (Value.int 21 328), DictEntry.mk (PyData.keyHash P (Str.ofString "EQUAL")) (Value.str (Str.ofString "EQUAL") 331) (Value.int 22 330), DictEntry.mk (PyData.keyHash P (Str.ofString "DOT")) (Value.str (Str.ofString "DOT") 333) (Value.int 23 332), DictEntry.mk (PyData.keyHash P (Str.ofString "PERCENT")) (Value.str (Str.ofString "PERCENT") 335) (Value.int 24 334), DictEntry.mk (PyData.keyHash P (Str.ofString "LBRACE")) (Value.str (Str.ofString "LBRACE") 337) (Value.int 25 336), DictEntry.mk (PyData.keyHash P (Str.ofString "RBRACE")) (Value.str (Str.ofString "RBRACE") 339) (Value.int 26 338), DictEntry.mk (PyData.keyHash P (Str.ofString "EQEQUAL")) (Value.str (Str.ofString "EQEQUAL") 341) (Value.int 27 340), DictEntry.mk (PyData.keyHash P (Str.ofString "NOTEQUAL")) (Value.str (Str.ofString "NOTEQUAL") 343) (Value.int 28 342), DictEntry.mk (PyData.keyHash P (Str.ofString "LESSEQUAL")) (Value.str (Str.ofString "LESSEQUAL") 345) (Value.int 29 344), DictEntry.mk (PyData.keyHash P (Str.ofString "GREATEREQUAL")) (Value.str (Str.ofString "GREATEREQUAL") 347) (Value.int 30 346), DictEntry.mk (PyData.keyHash P (Str.ofString "TILDE")) (Value.str (Str.ofString "TILDE") 349) (Value.int 31 348), DictEntry.mk (PyData.keyHash P (Str.ofString "CIRCUMFLEX")) (Value.str (Str.ofString "CIRCUMFLEX") 351) (Value.int 32 350), DictEntry.mk (PyData.keyHash P (Str.ofString "LEFTSHIFT")) (Value.str (Str.ofString "LEFTSHIFT") 353) (Value.int 33 352), DictEntry.mk (PyData.keyHash P (Str.ofString "RIGHTSHIFT")) (Value.str (Str.ofString "RIGHTSHIFT") 355) (Value.int 34 354), DictEntry.mk (PyData.keyHash P (Str.ofString "DOUBLESTAR")) (Value.str (Str.ofString "DOUBLESTAR") 357) (Value.int 35 356), DictEntry.mk (PyData.keyHash P (Str.ofString "PLUSEQUAL")) (Value.str (Str.ofString "PLUSEQUAL") 359) (Value.int 36 358), DictEntry.mk (PyData.keyHash P (Str.ofString "MINEQUAL")) (Value.str (Str.ofString "MINEQUAL") 361) (Value.int 37 360), DictEntry.mk (PyData.keyHash P (Str.ofString "STAREQUAL")) (Value.str (Str.ofString "STAREQUAL") 363) (Value.int 38 362), DictEntry.mk (PyData.keyHash P (Str.ofString "SLASHEQUAL")) (Value.str (Str.ofString "SLASHEQUAL") 365) (Value.int 39 364), DictEntry.mk (PyData.keyHash P (Str.ofString "PERCENTEQUAL")) (Value.str (Str.ofString "PERCENTEQUAL") 367) (Value.int 40 366), DictEntry.mk (PyData.keyHash P (Str.ofString "AMPEREQUAL")) (Value.str (Str.ofString "AMPEREQUAL") 369) (Value.int 41 368), DictEntry.mk (PyData.keyHash P (Str.ofString "VBAREQUAL")) (Value.str (Str.ofString "VBAREQUAL") 371) (Value.int 42 370), DictEntry.mk (PyData.keyHash P (Str.ofString "CIRCUMFLEXEQUAL")) (Value.str (Str.ofString "CIRCUMFLEXEQUAL") 373) (Value.int 43 372), DictEntry.mk (PyData.keyHash P (Str.ofString "LEFTSHIFTEQUAL")) (Value.str (Str.ofString "LEFTSHIFTEQUAL") 375) (Value.int 44 374), DictEntry.mk (PyData.keyHash P (Str.ofString "RIGHTSHIFTEQUAL")) (Value.str (Str.ofString "RIGHTSHIFTEQUAL") 377) (Value.int 45 376), DictEntry.mk (PyData.keyHash P (Str.ofString "DOUBLESTAREQUAL")) (Value.str (Str.ofString "DOUBLESTAREQUAL") 379) (Value.int 46 378), DictEntry.mk (PyData.keyHash P (Str.ofString "DOUBLESLASH")) (Value.str (Str.ofString "DOUBLESLASH") 381) (Value.int 47 380), DictEntry.mk (PyData.keyHash P (Str.ofString "DOUBLESLASHEQUAL")) (Value.str (Str.ofString "DOUBLESLASHEQUAL") 383) (Value.int 48 382), DictEntry.mk (PyData.keyHash P (Str.ofString "AT")) (Value.str (Str.ofString "AT") 385) (Value.int 49 384), DictEntry.mk (PyData.keyHash P (Str.ofString "ATEQUAL")) (Value.str (Str.ofString "ATEQUAL") 387) (Value.int 50 386), DictEntry.mk (PyData.keyHash P (Str.ofString "RARROW")) (Value.str (Str.ofString "RARROW") 389) (Value.int 51 388), DictEntry.mk (PyData.keyHash P (Str.ofString "ELLIPSIS")) (Value.str (Str.ofString "ELLIPSIS") 391) (Value.int 52 390), DictEntry.mk (PyData.keyHash P (Str.ofString "COLONEQUAL")) (Value.str (Str.ofString "COLONEQUAL") 393) (Value.int 53 392), DictEntry.mk (PyData.keyHash P (Str.ofString "EXCLAMATION")) (Value.str (Str.ofString "EXCLAMATION") 395) (Value.int 54 394), DictEntry.mk (PyData.keyHash P (Str.ofString "NT_OFFSET")) (Value.str (Str.ofString "NT_OFFSET") 397) (Value.int 256 396), DictEntry.mk (PyData.keyHash P (Str.ofString "EXACT_TOKEN_TYPES")) (Value.str (Str.ofString "EXACT_TOKEN_TYPES") 494) (Value.ref 64), DictEntry.mk (PyData.keyHash P (Str.ofString "ISTERMINAL")) (Value.str (Str.ofString "ISTERMINAL") 501) (Value.ref 73), DictEntry.mk (PyData.keyHash P (Str.ofString "ISNONTERMINAL")) (Value.str (Str.ofString "ISNONTERMINAL") 508) (Value.ref 80), DictEntry.mk (PyData.keyHash P (Str.ofString "ISEOF")) (Value.str (Str.ofString "ISEOF") 515) (Value.ref 87), DictEntry.mk (PyData.keyHash P (Str.ofString "_law_operators")) (Value.str (Str.ofString "_law_operators") 524) (Value.ref 94), DictEntry.mk (PyData.keyHash P (Str.ofString "_law_forest")) (Value.str (Str.ofString "_law_forest") 535) (Value.ref 101), DictEntry.mk (PyData.keyHash P (Str.ofString "_law_row")) (Value.str (Str.ofString "_law_row") 541) (Value.ref 106), DictEntry.mk (PyData.keyHash P (Str.ofString "_law_painted")) (Value.str (Str.ofString "_law_painted") 549) (Value.ref 113), DictEntry.mk (PyData.keyHash P (Str.ofString "_law_right")) (Value.str (Str.ofString "_law_right") 555) (Value.ref 118), DictEntry.mk (PyData.keyHash P (Str.ofString "_law_read")) (Value.str (Str.ofString "_law_read") 561) (Value.ref 123), DictEntry.mk (PyData.keyHash P (Str.ofString "law")) (Value.str (Str.ofString "law") 567) (Value.ref 128)] 80) #[]) ::
  (nat_lit 6, Obj.mk (Value.type "dict") none (Data.dict #[]) #[]) ::
  (nat_lit 15, Obj.mk (Value.type "tuple") none (Data.seq #[]) #[]) ::
  (nat_lit 17, Obj.mk (Value.type "tuple") none (Data.seq #[Value.str (Str.ofString "r") 204, Value.str (Str.ofString "g") 205, Value.str (Str.ofString "b") 206, Value.str (Str.ofString "y") 207, Value.str (Str.ofString "i") 208, Value.str (Str.ofString "q") 209]) #[]) ::
  (nat_lit 18, Obj.mk (Value.type "tuple") none (Data.seq #[]) #[]) ::
  (nat_lit 20, Obj.mk (Value.type "code") none (Data.fields #[Value.str (Str.ofString "rgb_to_yiq") 201, Value.str (Str.ofString "rgb_to_yiq") 202, Value.str (Str.ofString "/claim/cut.py") 203, Value.int 5 0, Value.int 3 0, Value.int 0 0, Value.int 0 0, Value.int 3 0, Value.ref 15, Value.bool true, Value.int 181 0, Value.ref 16, Value.none, Value.ref 17, Value.ref 18, Value.ref 19, Value.int 210 0, Value.int 5 0, Value.str (Str.ofString "/claim/cut.py") 211]) #[]) ::
  (nat_lit 21, fob 4 (Str.ofString "rgb_to_yiq") (Str.ofString "cpy313.colorsys") 187 20 _ (_ :: _) _ rfl) ::
  (nat_lit 22, Obj.mk (Value.type "tuple") none (Data.seq #[]) #[]) ::
  (nat_lit 24, Obj.mk (Value.type "tuple") none (Data.seq #[Value.str (Str.ofString "y") 216, Value.str (Str.ofString "i") 217, Value.str (Str.ofString "q") 218, Value.str (Str.ofString "r") 219, Value.str (Str.ofString "g") 220, Value.str (Str.ofString "b") 221]) #[]) ::
  (nat_lit 25, Obj.mk (Value.type "tuple") none (Data.seq #[]) #[]) ::
  (nat_lit 27, Obj.mk (Value.type "code") none (Data.fields #[Value.str (Str.ofString "yiq_to_rgb") 213, Value.str (Str.ofString "yiq_to_rgb") 214, Value.str (Str.ofString "/claim/cut.py") 215, Value.int 10 0, Value.int 3 0, Value.int 0 0, Value.int 0 0, Value.int 3 0, Value.ref 22, Value.bool true, Value.int 181 0, Value.ref 23, Value.none, Value.ref 24, Value.ref 25, Value.ref 26, Value.int 222 0, Value.int 10 0, Value.str (Str.ofString "/claim/cut.py") 223]) #[]) ::
  (nat_lit 28, fob 5 (Str.ofString "yiq_to_rgb") (Str.ofString "cpy313.colorsys") 187 27 _ (_ :: _) _ rfl) ::
  (nat_lit 29, Obj.mk (Value.type "tuple") none (Data.seq #[]) #[]) ::
  (nat_lit 31, Obj.mk (Value.type "tuple") none (Data.seq #[Value.str (Str.ofString "r") 228, Value.str (Str.ofString "g") 229, Value.str (Str.ofString "b") 230, Value.str (Str.ofString "maxc") 231, Value.str (Str.ofString "minc") 232, Value.str (Str.ofString "sumc") 233, Value.str (Str.ofString "rangec") 234, Value.str (Str.ofString "l") 235, Value.str (Str.ofString "s") 236, Value.str (Str.ofString "rc") 237, Value.str (Str.ofString "gc") 238, Value.str (Str.ofString "bc") 239, Value.str (Str.ofString "h") 240]) #[]) ::
  (nat_lit 32, Obj.mk (Value.type "tuple") none (Data.seq #[]) #[]) ::
  (nat_lit 34, Obj.mk (Value.type "code") none (Data.fields #[Value.str (Str.ofString "rgb_to_hls") 225, Value.str (Str.ofString "rgb_to_hls") 226, Value.str (Str.ofString "/claim/cut.py") 227, Value.int 27 0, Value.int 3 0, Value.int 0 0, Value.int 0 0, Value.int 3 0, Value.ref 29, Value.bool true, Value.int 181 0, Value.ref 30, Value.none, Value.ref 31, Value.ref 32, Value.ref 33, Value.int 241 0, Value.int 27 0, Value.str (Str.ofString "/claim/cut.py") 242]) #[]) ::
  (nat_lit 35, fob 6 (Str.ofString "rgb_to_hls") (Str.ofString "cpy313.colorsys") 187 34 _ (_ :: _) _ rfl) ::
  (nat_lit 36, Obj.mk (Value.type "tuple") none (Data.seq #[]) #[]) ::
  (nat_lit 38, Obj.mk (Value.type "tuple") none (Data.seq #[Value.str (Str.ofString "h") 247, Value.str (Str.ofString "l") 248, Value.str (Str.ofString "s") 249, Value.str (Str.ofString "m2") 250, Value.str (Str.ofString "m1") 251]) #[]) ::
  (nat_lit 39, Obj.mk (Value.type "tuple") none (Data.seq #[]) #[]) ::
  (nat_lit 41, Obj.mk (Value.type "code") none (Data.fields #[Value.str (Str.ofString "hls_to_rgb") 244, Value.str (Str.ofString "hls_to_rgb") 245, Value.str (Str.ofString "/claim/cut.py") 246, Value.int 50 0, Value.int 3 0, Value.int 0 0, Value.int 0 0, Value.int 3 0, Value.ref 36, Value.bool true, Value.int 181 0, Value.ref 37, Value.none, Value.ref 38, Value.ref 39, Value.ref 40, Value.int 252 0, Value.int 50 0, Value.str (Str.ofString "/claim/cut.py") 253]) #[]) ::
  (nat_lit 42, fob 7 (Str.ofString "hls_to_rgb") (Str.ofString "cpy313.colorsys") 187 41 _ (_ :: _) _ rfl) ::
  (nat_lit 43, Obj.mk (Value.type "tuple") none (Data.seq #[]) #[]) ::
  (nat_lit 45, Obj.mk (Value.type "tuple") none (Data.seq #[Value.str (Str.ofString "m1") 258, Value.str (Str.ofString "m2") 259, Value.str (Str.ofString "hue") 260]) #[]) ::
  (nat_lit 46, Obj.mk (Value.type "tuple") none (Data.seq #[]) #[]) ::
  (nat_lit 48, Obj.mk (Value.type "code") none (Data.fields #[Value.str (Str.ofString "_v") 255, Value.str (Str.ofString "_v") 256, Value.str (Str.ofString "/claim/cut.py") 257, Value.int 59 0, Value.int 3 0, Value.int 0 0, Value.int 0 0, Value.int 3 0, Value.ref 43, Value.bool true, Value.int 181 0, Value.ref 44, Value.none, Value.ref 45, Value.ref 46, Value.ref 47, Value.int 261 0, Value.int 59 0, Value.str (Str.ofString "/claim/cut.py") 262]) #[]) ::
  (nat_lit 49, fob 8 (Str.ofString "_v") (Str.ofString "cpy313.colorsys") 187 48 _ (_ :: _) _ rfl) ::
  (nat_lit 50, Obj.mk (Value.type "tuple") none (Data.seq #[]) #[]) ::
  (nat_lit 52, Obj.mk (Value.type "tuple") none (Data.seq #[Value.str (Str.ofString "r") 267, Value.str (Str.ofString "g") 268, Value.str (Str.ofString "b") 269, Value.str (Str.ofString "maxc") 270, Value.str (Str.ofString "minc") 271, Value.str (Str.ofString "rangec") 272, Value.str (Str.ofString "v") 273, Value.str (Str.ofString "s") 274, Value.str (Str.ofString "rc") 275, Value.str (Str.ofString "gc") 276, Value.str (Str.ofString "bc") 277, Value.str (Str.ofString "h") 278]) #[]) ::
  (nat_lit 53, Obj.mk (Value.type "tuple") none (Data.seq #[]) #[]) ::
  (nat_lit 55, Obj.mk (Value.type "code") none (Data.fields #[Value.str (Str.ofString "rgb_to_hsv") 264, Value.str (Str.ofString "rgb_to_hsv") 265, Value.str (Str.ofString "/claim/cut.py") 266, Value.int 68 0, Value.int 3 0, Value.int 0 0, Value.int 0 0, Value.int 3 0, Value.ref 50, Value.bool true, Value.int 181 0, Value.ref 51, Value.none, Value.ref 52, Value.ref 53, Value.ref 54, Value.int 279 0, Value.int 68 0, Value.str (Str.ofString "/claim/cut.py") 280]) #[]) ::
  (nat_lit 56, fob 9 (Str.ofString "rgb_to_hsv") (Str.ofString "cpy313.colorsys") 187 55 _ (_ :: _) _ rfl) ::
  (nat_lit 57, Obj.mk (Value.type "tuple") none (Data.seq #[]) #[]) ::
  (nat_lit 59, Obj.mk (Value.type "tuple") none (Data.seq #[Value.str (Str.ofString "h") 285, Value.str (Str.ofString "s") 286, Value.str (Str.ofString "v") 287, Value.str (Str.ofString "i") 288, Value.str (Str.ofString "f") 289, Value.str (Str.ofString "p") 290, Value.str (Str.ofString "q") 291, Value.str (Str.ofString "t") 292]) #[]) ::
  (nat_lit 60, Obj.mk (Value.type "tuple") none (Data.seq #[]) #[]) ::
  (nat_lit 62, Obj.mk (Value.type "code") none (Data.fields #[Value.str (Str.ofString "hsv_to_rgb") 282, Value.str (Str.ofString "hsv_to_rgb") 283, Value.str (Str.ofString "/claim/cut.py") 284, Value.int 87 0, Value.int 3 0, Value.int 0 0, Value.int 0 0, Value.int 3 0, Value.ref 57, Value.bool true, Value.int 181 0, Value.ref 58, Value.none, Value.ref 59, Value.ref 60, Value.ref 61, Value.int 293 0, Value.int 87 0, Value.str (Str.ofString "/claim/cut.py") 294]) #[]) ::
  (nat_lit 63, fob 10 (Str.ofString "hsv_to_rgb") (Str.ofString "cpy313.colorsys") 187 62 _ (_ :: _) _ rfl) ::
  (nat_lit 64, Obj.mk (Value.type "dict") none (Data.dict #[DictEntry.mk (PyData.keyHash P (Str.ofString "!")) (Value.str (Str.ofString "!") 398) (Value.int 54 394), DictEntry.mk (PyData.keyHash P (Str.ofString "!=")) (Value.str (Str.ofString "!=") 400) (Value.int 28 342), DictEntry.mk (PyData.keyHash P (Str.ofString "%")) (Value.str (Str.ofString "%") 402) (Value.int 24 334), DictEntry.mk (PyData.keyHash P (Str.ofString "%=")) (Value.str (Str.ofString "%=") 404) (Value.int 40 366), DictEntry.mk (PyData.keyHash P (Str.ofString "&")) (Value.str (Str.ofString "&") 406) (Value.int 19 324), DictEntry.mk (PyData.keyHash P (Str.ofString "&=")) (Value.str (Str.ofString "&=") 408) (Value.int 41 368), DictEntry.mk (PyData.keyHash P (Str.ofString "(")) (Value.str (Str.ofString "(") 410) (Value.int 7 300), DictEntry.mk (PyData.keyHash P (Str.ofString ")")) (Value.str (Str.ofString ")") 412) (Value.int 8 302), DictEntry.mk (PyData.keyHash P (Str.ofString "*")) (Value.str (Str.ofString "*") 414) (Value.int 16 318), DictEntry.mk (PyData.keyHash P (Str.ofString "**")) (Value.str (Str.ofString "**") 416) (Value.int 35 356), DictEntry.mk (PyData.keyHash P (Str.ofString "**=")) (Value.str (Str.ofString "**=") 418) (Value.int 46 378), DictEntry.mk (PyData.keyHash P (Str.ofString "*=")) (Value.str (Str.ofString "*=") 420) (Value.int 38 362), DictEntry.mk (PyData.keyHash P (Str.ofString "+")) (Value.str (Str.ofString "+") 422) (Value.int 14 314), DictEntry.mk (PyData.keyHash P (Str.ofString "+=")) (Value.str (Str.ofString "+=") 424) (Value.int 36 358), DictEntry.mk (PyData.keyHash P (Str.ofString ",")) (Value.str (Str.ofString ",") 426) (Value.int 12 310), DictEntry.mk (PyData.keyHash P (Str.ofString "-")) (Value.str (Str.ofString "-") 428) (Value.int 15 316), DictEntry.mk (PyData.keyHash P (Str.ofString "-=")) (Value.str (Str.ofString "-=") 430) (Value.int 37 360), DictEntry.mk (PyData.keyHash P (Str.ofString "->")) (Value.str (Str.ofString "->") 432) (Value.int 51 388), DictEntry.mk (PyData.keyHash P (Str.ofString ".")) (Value.str (Str.ofString ".") 434) (Value.int 23 332), DictEntry.mk (PyData.keyHash P (Str.ofString "...")) (Value.str (Str.ofString "...") 436) (Value.int 52 390), DictEntry.mk (PyData.keyHash P (Str.ofString "/")) (Value.str (Str.ofString "/") 438) (Value.int 17 320), DictEntry.mk (PyData.keyHash P (Str.ofString "//")) (Value.str (Str.ofString "//") 440) (Value.int 47 380), DictEntry.mk (PyData.keyHash P (Str.ofString "//=")) (Value.str (Str.ofString "//=") 442) (Value.int 48 382), DictEntry.mk (PyData.keyHash P (Str.ofString "/=")) (Value.str (Str.ofString "/=") 444) (Value.int 39 364), DictEntry.mk (PyData.keyHash P (Str.ofString ":")) (Value.str (Str.ofString ":") 446) (Value.int 11 308), DictEntry.mk (PyData.keyHash P (Str.ofString ":=")) (Value.str (Str.ofString ":=") 448) (Value.int 53 392), DictEntry.mk (PyData.keyHash P (Str.ofString ";")) (Value.str (Str.ofString ";") 450) (Value.int 13 312), DictEntry.mk (PyData.keyHash P (Str.ofString "<")) (Value.str (Str.ofString "<") 452) (Value.int 20 326), DictEntry.mk (PyData.keyHash P (Str.ofString "<<")) (Value.str (Str.ofString "<<") 454) (Value.int 33 352), DictEntry.mk (PyData.keyHash P (Str.ofString "<<=")) (Value.str (Str.ofString "<<=") 456) (Value.int 44 374), DictEntry.mk (PyData.keyHash P (Str.ofString "<=")) (Value.str (Str.ofString "<=") 458) (Value.int 29 344), DictEntry.mk (PyData.keyHash P (Str.ofString "=")) (Value.str (Str.ofString "=") 460) (Value.int 22 330), DictEntry.mk (PyData.keyHash P (Str.ofString "==")) (Value.str (Str.ofString "==") 462) (Value.int 27 340), DictEntry.mk (PyData.keyHash P (Str.ofString ">")) (Value.str (Str.ofString ">") 464) (Value.int 21 328), DictEntry.mk (PyData.keyHash P (Str.ofString ">=")) (Value.str (Str.ofString ">=") 466) (Value.int 30 346), DictEntry.mk (PyData.keyHash P (Str.ofString ">>")) (Value.str (Str.ofString ">>") 467) (Value.int 34 354), DictEntry.mk (PyData.keyHash P (Str.ofString ">>=")) (Value.str (Str.ofString ">>=") 468) (Value.int 45 376), DictEntry.mk (PyData.keyHash P (Str.ofString "@")) (Value.str (Str.ofString "@") 469) (Value.int 49 384), DictEntry.mk (PyData.keyHash P (Str.ofString "@=")) (Value.str (Str.ofString "@=") 470) (Value.int 50 386), DictEntry.mk (PyData.keyHash P (Str.ofString "[")) (Value.str (Str.ofString "[") 471) (Value.int 9 304), DictEntry.mk (PyData.keyHash P (Str.ofString "]")) (Value.str (Str.ofString "]") 472) (Value.int 10 306), DictEntry.mk (PyData.keyHash P (Str.ofString "^")) (Value.str (Str.ofString "^") 473) (Value.int 32 350), DictEntry.mk (PyData.keyHash P (Str.ofString "^=")) (Value.str (Str.ofString "^=") 474) (Value.int 43 372), DictEntry.mk (PyData.keyHash P (Str.ofString "{")) (Value.str (Str.ofString "{") 475) (Value.int 25 336), DictEntry.mk (PyData.keyHash P (Str.ofString "|")) (Value.str (Str.ofString "|") 476) (Value.int 18 322), DictEntry.mk (PyData.keyHash P (Str.ofString "|=")) (Value.str (Str.ofString "|=") 477) (Value.int 42 370), DictEntry.mk (PyData.keyHash P (Str.ofString "}")) (Value.str (Str.ofString "}") 478) (Value.int 26 338), DictEntry.mk (PyData.keyHash P (Str.ofString "~")) (Value.str (Str.ofString "~") 479) (Value.int 31 348)] 48) #[]) ::
  (nat_lit 67, Obj.mk (Value.type "tuple") none (Data.seq #[]) #[]) ::
  (nat_lit 69, Obj.mk (Value.type "tuple") none (Data.seq #[Value.str (Str.ofString "x") 498]) #[]) ::
  (nat_lit 70, Obj.mk (Value.type "tuple") none (Data.seq #[]) #[]) ::
  (nat_lit 72, Obj.mk (Value.type "code") none (Data.fields #[Value.str (Str.ofString "ISTERMINAL") 495, Value.str (Str.ofString "ISTERMINAL") 496, Value.str (Str.ofString "/claim/cut.py") 497, Value.int 160 0, Value.int 1 0, Value.int 0 0, Value.int 0 0, Value.int 3 0, Value.ref 67, Value.bool true, Value.int 181 0, Value.ref 68, Value.none, Value.ref 69, Value.ref 70, Value.ref 71, Value.int 499 0, Value.int 160 0, Value.str (Str.ofString "/claim/cut.py") 500]) #[]) ::
  (nat_lit 73, fob 63 (Str.ofString "ISTERMINAL") (Str.ofString "cpy313.token") 296 72 _ (_ :: _) _ rfl) ::
  (nat_lit 74, Obj.mk (Value.type "tuple") none (Data.seq #[]) #[]) ::
  (nat_lit 76, Obj.mk (Value.type "tuple") none (Data.seq #[Value.str (Str.ofString "x") 505]) #[]) ::
  (nat_lit 77, Obj.mk (Value.type "tuple") none (Data.seq #[]) #[]) ::
  (nat_lit 79, Obj.mk (Value.type "code") none (Data.fields #[Value.str (Str.ofString "ISNONTERMINAL") 502, Value.str (Str.ofString "ISNONTERMINAL") 503, Value.str (Str.ofString "/claim/cut.py") 504, Value.int 162 0, Value.int 1 0, Value.int 0 0, Value.int 0 0, Value.int 3 0, Value.ref 74, Value.bool true, Value.int 181 0, Value.ref 75, Value.none, Value.ref 76, Value.ref 77, Value.ref 78, Value.int 506 0, Value.int 162 0, Value.str (Str.ofString "/claim/cut.py") 507]) #[]) ::
  (nat_lit 80, fob 64 (Str.ofString "ISNONTERMINAL") (Str.ofString "cpy313.token") 296 79 _ (_ :: _) _ rfl) ::
  (nat_lit 81, Obj.mk (Value.type "tuple") none (Data.seq #[]) #[]) ::
  (nat_lit 83, Obj.mk (Value.type "tuple") none (Data.seq #[Value.str (Str.ofString "x") 512]) #[]) ::
  (nat_lit 84, Obj.mk (Value.type "tuple") none (Data.seq #[]) #[]) ::
  (nat_lit 86, Obj.mk (Value.type "code") none (Data.fields #[Value.str (Str.ofString "ISEOF") 509, Value.str (Str.ofString "ISEOF") 510, Value.str (Str.ofString "/claim/cut.py") 511, Value.int 164 0, Value.int 1 0, Value.int 0 0, Value.int 0 0, Value.int 3 0, Value.ref 81, Value.bool true, Value.int 181 0, Value.ref 82, Value.none, Value.ref 83, Value.ref 84, Value.ref 85, Value.int 513 0, Value.int 164 0, Value.str (Str.ofString "/claim/cut.py") 514]) #[]) ::
  (nat_lit 87, fob 65 (Str.ofString "ISEOF") (Str.ofString "cpy313.token") 296 86 _ (_ :: _) _ rfl) ::
  (nat_lit 88, Obj.mk (Value.type "tuple") none (Data.seq #[]) #[]) ::
  (nat_lit 90, Obj.mk (Value.type "tuple") none (Data.seq #[Value.str (Str.ofString "row") 521]) #[]) ::
  (nat_lit 91, Obj.mk (Value.type "tuple") none (Data.seq #[]) #[]) ::
  (nat_lit 93, Obj.mk (Value.type "code") none (Data.fields #[Value.str (Str.ofString "_law_operators") 518, Value.str (Str.ofString "_law_operators") 519, Value.str (Str.ofString "/claim/cut.py") 520, Value.int 167 0, Value.int 0 0, Value.int 0 0, Value.int 0 0, Value.int 3 0, Value.ref 88, Value.bool true, Value.int 181 0, Value.ref 89, Value.none, Value.ref 90, Value.ref 91, Value.ref 92, Value.int 522 0, Value.int 167 0, Value.str (Str.ofString "/claim/cut.py") 523]) #[]) ::
  (nat_lit 94, fob 67 (Str.ofString "_law_operators") (Str.ofString "law_oc0151_02") 516 93 _ (_ :: _) _ rfl) ::
  (nat_lit 95, Obj.mk (Value.type "tuple") none (Data.seq #[]) #[]) ::
  (nat_lit 97, Obj.mk (Value.type "tuple") none (Data.seq #[Value.str (Str.ofString "numbers") 528, Value.str (Str.ofString "forest") 529, Value.str (Str.ofString "names") 530, Value.str (Str.ofString "x") 531, Value.str (Str.ofString "cut") 532]) #[]) ::
  (nat_lit 98, Obj.mk (Value.type "tuple") none (Data.seq #[]) #[]) ::
  (nat_lit 100, Obj.mk (Value.type "code") none (Data.fields #[Value.str (Str.ofString "_law_forest") 525, Value.str (Str.ofString "_law_forest") 526, Value.str (Str.ofString "/claim/cut.py") 527, Value.int 170 0, Value.int 1 0, Value.int 0 0, Value.int 0 0, Value.int 3 0, Value.ref 95, Value.bool true, Value.int 181 0, Value.ref 96, Value.none, Value.ref 97, Value.ref 98, Value.ref 99, Value.int 533 0, Value.int 170 0, Value.str (Str.ofString "/claim/cut.py") 534]) #[]) ::
  (nat_lit 101, fob 68 (Str.ofString "_law_forest") (Str.ofString "law_oc0151_02") 516 100 _ (_ :: _) _ rfl) ::
  (nat_lit 102, Obj.mk (Value.type "tuple") none (Data.seq #[]) #[]) ::
  (nat_lit 105, Obj.mk (Value.type "code") none (Data.fields #[Value.str (Str.ofString "_law_row") 536, Value.str (Str.ofString "_law_row") 537, Value.str (Str.ofString "/claim/cut.py") 538, Value.int 179 0, Value.int 3 0, Value.int 0 0, Value.int 0 0, Value.int 3 0, Value.ref 102, Value.bool true, Value.int 181 0, Value.ref 103, Value.none, Value.none, Value.none, Value.ref 104, Value.int 539 0, Value.int 179 0, Value.str (Str.ofString "/claim/cut.py") 540]) #[]) ::
  (nat_lit 106, fob 69 (Str.ofString "_law_row") (Str.ofString "law_oc0151_02") 516 105 _ (_ :: _) _ rfl) ::
  (nat_lit 107, Obj.mk (Value.type "tuple") none (Data.seq #[]) #[]) ::
  (nat_lit 109, Obj.mk (Value.type "tuple") none (Data.seq #[Value.str (Str.ofString "symbol") 545, Value.str (Str.ofString "paint") 546]) #[]) ::
  (nat_lit 110, Obj.mk (Value.type "tuple") none (Data.seq #[]) #[]) ::
  (nat_lit 112, Obj.mk (Value.type "code") none (Data.fields #[Value.str (Str.ofString "_law_painted") 542, Value.str (Str.ofString "_law_painted") 543, Value.str (Str.ofString "/claim/cut.py") 544, Value.int 183 0, Value.int 2 0, Value.int 0 0, Value.int 0 0, Value.int 3 0, Value.ref 107, Value.bool true, Value.int 181 0, Value.ref 108, Value.none, Value.ref 109, Value.ref 110, Value.ref 111, Value.int 547 0, Value.int 183 0, Value.str (Str.ofString "/claim/cut.py") 548]) #[]) ::
  (nat_lit 113, fob 70 (Str.ofString "_law_painted") (Str.ofString "law_oc0151_02") 516 112 _ (_ :: _) _ rfl) ::
  (nat_lit 114, Obj.mk (Value.type "tuple") none (Data.seq #[]) #[]) ::
  (nat_lit 117, Obj.mk (Value.type "code") none (Data.fields #[Value.str (Str.ofString "_law_right") 550, Value.str (Str.ofString "_law_right") 551, Value.str (Str.ofString "/claim/cut.py") 552, Value.int 185 0, Value.int 3 0, Value.int 0 0, Value.int 0 0, Value.int 3 0, Value.ref 114, Value.bool true, Value.int 181 0, Value.ref 115, Value.none, Value.none, Value.none, Value.ref 116, Value.int 553 0, Value.int 185 0, Value.str (Str.ofString "/claim/cut.py") 554]) #[]) ::
  (nat_lit 118, fob 71 (Str.ofString "_law_right") (Str.ofString "law_oc0151_02") 516 117 _ (_ :: _) _ rfl) ::
  (nat_lit 119, Obj.mk (Value.type "tuple") none (Data.seq #[]) #[]) ::
  (nat_lit 122, Obj.mk (Value.type "code") none (Data.fields #[Value.str (Str.ofString "_law_read") 556, Value.str (Str.ofString "_law_read") 557, Value.str (Str.ofString "/claim/cut.py") 558, Value.int 200 0, Value.int 1 0, Value.int 0 0, Value.int 0 0, Value.int 3 0, Value.ref 119, Value.bool true, Value.int 181 0, Value.ref 120, Value.none, Value.none, Value.none, Value.ref 121, Value.int 559 0, Value.int 200 0, Value.str (Str.ofString "/claim/cut.py") 560]) #[]) ::
  (nat_lit 123, fob 72 (Str.ofString "_law_read") (Str.ofString "law_oc0151_02") 516 122 _ (_ :: _) _ rfl) ::
  (nat_lit 124, Obj.mk (Value.type "tuple") none (Data.seq #[]) #[]) ::
  (nat_lit 127, Obj.mk (Value.type "code") none (Data.fields #[Value.str (Str.ofString "law") 562, Value.str (Str.ofString "law") 563, Value.str (Str.ofString "/claim/cut.py") 564, Value.int 215 0, Value.int 1 0, Value.int 0 0, Value.int 0 0, Value.int 3 0, Value.ref 124, Value.bool true, Value.int 181 0, Value.ref 125, Value.none, Value.none, Value.none, Value.ref 126, Value.int 565 0, Value.int 215 0, Value.str (Str.ofString "/claim/cut.py") 566]) #[]) ::
  (nat_lit 128, fob 73 (Str.ofString "law") (Str.ofString "law_oc0151_02") 516 127 _ (_ :: _) _ rfl) :: []
noncomputable def heapAs : List Addr := nat_lit 2 :: nat_lit 3 :: nat_lit 6 :: nat_lit 15 :: nat_lit 17 :: nat_lit 18 :: nat_lit 20 :: nat_lit 21 :: nat_lit 22 :: nat_lit 24 :: nat_lit 25 :: nat_lit 27 :: nat_lit 28 :: nat_lit 29 :: nat_lit 31 :: nat_lit 32 :: nat_lit 34 :: nat_lit 35 :: nat_lit 36 :: nat_lit 38 :: nat_lit 39 :: nat_lit 41 :: nat_lit 42 :: nat_lit 43 :: nat_lit 45 :: nat_lit 46 :: nat_lit 48 :: nat_lit 49 :: nat_lit 50 :: nat_lit 52 :: nat_lit 53 :: nat_lit 55 :: nat_lit 56 :: nat_lit 57 :: nat_lit 59 :: nat_lit 60 :: nat_lit 62 :: nat_lit 63 :: nat_lit 64 :: nat_lit 67 :: nat_lit 69 :: nat_lit 70 :: nat_lit 72 :: nat_lit 73 :: nat_lit 74 :: nat_lit 76 :: nat_lit 77 :: nat_lit 79 :: nat_lit 80 :: nat_lit 81 :: nat_lit 83 :: nat_lit 84 :: nat_lit 86 :: nat_lit 87 :: nat_lit 88 :: nat_lit 90 :: nat_lit 91 :: nat_lit 93 :: nat_lit 94 :: nat_lit 95 :: nat_lit 97 :: nat_lit 98 :: nat_lit 100 :: nat_lit 101 :: nat_lit 102 :: nat_lit 105 :: nat_lit 106 :: nat_lit 107 :: nat_lit 109 :: nat_lit 110 :: nat_lit 112 :: nat_lit 113 :: nat_lit 114 :: nat_lit 117 :: nat_lit 118 :: nat_lit 119 :: nat_lit 122 :: nat_lit 123 :: nat_lit 124 :: nat_lit 127 :: nat_lit 128 :: []
noncomputable def pickS : List Nat → List Stmt → List Stmt
  | [], _ => []
  | k :: r, b => match b[k]? with
    | some s => s :: pickS r b
    | none => []
noncomputable def viewQ : Program := { PySem.Challenge.pw_oc0151_02 with main := { PySem.Challenge.pw_oc0151_02.main with body := pickS (1 :: 2 :: 3 :: 4 :: 5 :: 6 :: 7 :: 8 :: 9 :: 10 :: 12 :: 13 :: 14 :: 15 :: 16 :: 17 :: 18 :: 19 :: 20 :: 21 :: 22 :: 23 :: 24 :: 25 :: 26 :: 27 :: 28 :: 29 :: 30 :: 31 :: 32 :: 33 :: 34 :: 35 :: 36 :: 37 :: 38 :: 39 :: 40 :: 41 :: 42 :: 43 :: 44 :: 45 :: 46 :: 47 :: 48 :: 49 :: 50 :: 51 :: 52 :: 53 :: 54 :: 55 :: 56 :: 57 :: 58 :: 59 :: 60 :: 61 :: 62 :: 63 :: 64 :: 65 :: 67 :: 68 :: 69 :: 70 :: 71 :: 72 :: 73 :: []) PySem.Challenge.pw_oc0151_02.main.body } }
end
section
open PySem PySem.W PySem.Calls PyProof.Rows
noncomputable abbrev Keeps (h h' : Heap) : Prop := ∀ b o, h.get? b = some o → h'.get? b = some o
theorem Fr.mk' {h₀ h h' : Heap} {L : Addr} {m : Str → Option Value} (F : Fr h₀ L h m) (k : Keeps h h') : Fr h₀ L h' m :=
  ⟨F.ns.keeps k, fun b o e => k _ _ (F.keep b o e), F.above⟩
theorem News.mk' {h₀ h h' : Heap} {L : Addr} {news : List (Addr × Obj)} (N : News h₀ L h news) (k : Keeps h h') : News h₀ L h' news :=
  fun p hp => ⟨k _ _ (N p hp).1, (N p hp).2⟩
/-- an object that a callee made goes onto the ledger -/
theorem News.add {h₀ h h' : Heap} {L a : Addr} {o : Obj} {m : Str → Option Value} {news : List (Addr × Obj)} (F : Fr h₀ L h m) (N : News h₀ L h news) (k : Keeps h h') (e : h'.get? a = some o) (n : h.get? a = none) : News h₀ L h' ((a, o) :: news) := by
  intro p hp
  rcases List.mem_cons.mp hp with rfl | hp
  · refine ⟨e, fun q => ?_, ?_⟩
    · obtain ⟨oL, _, _, hL, _⟩ := F.ns
      rw [← (q : a = L), n] at hL; cases hL
    · cases q : h₀.get? a with
      | none => rfl
      | some o' => rw [F.keep _ _ q] at n; cases n
  · exact News.mk' N k p hp
noncomputable abbrev LO : List Str := [Str.ofString "ONE_THIRD", Str.ofString "ONE_SIXTH", Str.ofString "TWO_THIRD", Str.ofString "EXACT_TOKEN_TYPES"]
noncomputable abbrev KK (w : World) : Frag := heapK w.params
noncomputable abbrev TT (mean : ExcName → Option Value) (mg mb : Str → Option Value) (h : Heap) : Prop := Top viewQ (looseW viewQ LO) mean mg mb h
noncomputable abbrev PP : Program := PySem.Challenge.rw_oc0151_02.row.prog

section
variable {w : World} {A : Around} {s : Shared} {K : Frag} {f : Addr} {mean : ExcName → Option Value} {mg mb : Str → Option Value}
  {Q E : Value → Shared → Prop} {name qual : Str} {params : Arguments} {body : List Stmt} {scope : Scope} {dV kV doc pm cdv ct oc : Value} {an od : Option Addr} {osl : Array (Option Value)} {args : List Value} {binds : List (Str × Value)}
theorem enter0 (X : K.In s.heap) (T : TT mean mg mb s.heap) (ho : K.lookup f = some ⟨oc, od, .func (fnOf name qual params body scope dV kV doc pm an cdv ct), osl⟩) (hcd : codeIn K cdv qual = true)
    (hroom : A.depth < recursionLimit) (hbind : BindsTo s (fnOf name qual params body scope dV kV doc pm an cdv ct) ⟨args, []⟩ binds) (hloc : ∀ y ∈ binds, scope.names.lookup y.1 = some .local)
    (h : ∀ L' h₁, Fr s.heap L' h₁ (fun y => binds.reverse.lookup y) → News s.heap L' h₁ [] →
      wpAny (model PP w) (A.deeper (envOf qual scope L' f cdv)) (execs body (envOf qual scope L' f cdv))
        (fun fl s' => Q (match fl with | .ret v => v | _ => .none) s') (fun _ _ => False)
        { s with heap := h₁, toks := s.toks + binds.length })
    (hco : scope.isCoroutine = false) (hgen : scope.isGenerator = false) (hk : scope.kind = .function)
    (hcell : ∀ x ∈ scope.names, x.2 ≠ .cell) : wpAny (model PP w) A (call (.ref f) args) Q E s := by
  refine wpAny_call ?_
  refine codeAny_call_def (fd := fnOf name qual params body scope dV kV doc pm an cdv ct) (body := body) (binds := binds) hroom (X _ _ ho) rfl T.nolimit (codeRec_of X hcd) rfl hbind hcell hloc (fun h₁ hns hk₁ => ?_) hco hgen hk
  exact wpAny_mono (h _ h₁ ⟨hns, hk₁, Nat.le_refl _⟩ News.nil) (fun _ _ x => x) (fun _ _ x => x.elim)
theorem enterC (X : K.In s.heap) (T : TT mean mg mb s.heap) (ho : K.lookup f = some ⟨oc, od, .func (fnOf name qual params body scope dV kV doc pm an cdv ct), osl⟩) (hcd : codeIn K cdv qual = true)
    (hroom : A.depth < recursionLimit) (hbind : BindsTo s (fnOf name qual params body scope dV kV doc pm an cdv ct) ⟨args, []⟩ binds)
    (hkind : (binds.all fun y => scope.names.lookup y.1 == some .local || scope.names.lookup y.1 == some .cell) = true)
    (hnd : ((cellsFrom 0 scope.names []).map (·.1)).Nodup)
    (h : ∀ L' h₁ tk cells, Fr s.heap L' h₁ (bindL (envOfC qual scope L' f cdv).kindOf binds fun _ => none) → News s.heap L' h₁ cells →
      CellsAre (bindC (envOfC qual scope L' f cdv).kindOf binds fun _ => none) (cellsFrom (L' + 1) scope.names []) cells →
      wpAny (model PP w) (A.deeper (envOfC qual scope L' f cdv)) (execs body (envOfC qual scope L' f cdv))
        (fun fl s' => Q (match fl with | .ret v => v | _ => .none) s') (fun _ _ => False)
        { s with heap := h₁, toks := tk })
    (hco : scope.isCoroutine = false) (hgen : scope.isGenerator = false) (hk : scope.kind = .function) : wpAny (model PP w) A (call (.ref f) args) Q E s := by
  refine wpAny_call ?_
  refine codeAny_call_function (fd := fnOf name qual params body scope dV kV doc pm an cdv ct) hroom (X _ _ ho) rfl hco hgen rfl (codeRec_of X hcd) (hbind _ _ _ _ ?_)
  refine wpAny_newFunctionEnv_cells hk (kindsX hkind _) fun env' he s' x => ?_
  subst he
  refine ⟨T.nolimit.keeps x.toInCall.keep, codeAny_func ?_⟩
  obtain ⟨h₁, tk, rfl, _⟩ := x.done
  have hk₁ := x.toInCall.keep
  obtain ⟨cells, NC, Y⟩ := Cl.news (h₀ := s.heap) (Nat.le_refl _) fun n c hm => ⟨x.cell n c (lookup_of_mem_nodup (cellsFrom_names scope.names 0 (s.heap.objs.size + 1) [] [] rfl ▸ hnd) hm), x.above n c hm⟩
  exact wpAny_mono (h _ h₁ tk cells ⟨x.toInCall.ns, hk₁, Nat.le_refl _⟩ NC Y) (fun _ _ x => x) (fun _ _ x => x.elim)
end
end
section
open PySem PySem.W PySem.Calls PyProof.Rows
/-- a tuple of three floats -/
noncomputable def FTup (h : Heap) (x : Addr) (a b c : UInt64) : Prop := ∃ u1 u2 u3, (@LT.lt Nat _ 0 u1 ∧ @LT.lt Nat _ 0 u2 ∧ @LT.lt Nat _ 0 u3) ∧ h.get? x = some { cls := .type "tuple", data := .seq #[.float a u1, .float b u2, .float c u3] }
section
variable {prog : Program} {w : World} {A : Around} {E : Value → Shared → Prop} {s : Shared} {Q : Value → Shared → Prop}
open PySem.Flt in
theorem max_three_ff {x y z : UInt64} {t u v : Tok} (hh : A.handled = none) (hp : @LT.lt Nat _ 0 t ∧ @LT.lt Nat _ 0 u ∧ @LT.lt Nat _ 0 v) (h1t : @LT.lt Nat _ 0 s.toks)
    (h : ∀ h' tk tt, @LT.lt Nat _ 0 tk → @LT.lt Nat _ 0 tt → Keeps s.heap h' → Q (.float (mx3 x y z) tt) { s with heap := h', toks := tk }) :
    wpAny (model prog w) A (call (.builtin "max") [.float x t, .float y u, .float z v]) Q E s := by
  have hT : (s.heap.push { cls := .type "tuple", data := .seq #[.float x t, .float y u, .float z v] }).IsTuple s.heap.objs.size #[.float x t, .float y u, .float z v] := ⟨_, Heap.get?_push_size _ rfl, rfl, 0, rfl⟩
  refine wpAny_with_toks (n := 1) h1t ?_
  refine call_max_three (wpAny_pyIter_tuple hT ?_)
  have hsz : (s.heap.push { cls := .type "tuple", data := .seq #[.float x t, .float y u, .float z v] }).objs.size = s.heap.objs.size + 1 := Heap.size_push ..
  refine ⟨_, [_, s.heap.objs.size], [_], _, _, _, _, rfl, Walks.tuple (A := A.in1) hh _ s.heap.objs.size (by rw [hsz]; exact Nat.ne_of_lt (Nat.lt_succ_self _)) #[.float x t, .float y u, .float z v],
    ⟨⟨_, Heap.get?_push_size _ rfl, rfl, rfl⟩, hT.push _⟩, fun c hc => ?_, by simp, cmpOf_gt #[.float x t, .float y u, .float z v] (by simp; exact ⟨.float _ _, .float _ _, .float _ _⟩), fun v' h' tk hP hk => ?_⟩
  · show c < ((s.heap.push _).push _).objs.size
    rw [Heap.size_push, hsz]
    rcases List.mem_cons.mp hc with rfl | hc
    · rw [hsz]; exact Nat.lt_succ_self _
    · rcases List.mem_cons.mp hc with rfl | hc
      · exact Nat.lt_succ_of_lt (Nat.lt_succ_self _)
      · cases hc
  · have hold : Keeps s.heap h' := fun c o e => by
      refine hk c o (fun hm => ?_) (Heap.get?_push_of_some _ (Heap.get?_push_of_some _ e))
      rcases List.mem_cons.mp hm with e1 | hm
      · have := Heap.lt_size e; rw [e1, hsz] at this; exact Nat.lt_irrefl _ (Nat.lt_of_succ_lt this)
      · cases hm
    have hv : ∃ tt, @LT.lt Nat _ 0 tt ∧ v' = .float (mx3 x y z) tt := by
      unfold mx3 mx2
      cases h1 : (Float64.cmp x y == some .lt) <;> cases h2 : (Float64.cmp x z == some .lt) <;> cases h3 : (Float64.cmp y z == some .lt) <;> simp [argBest, ltV, h1, h2, h3] at hP <;> subst hP <;> simp [h2, h3, hp]
    obtain ⟨tt, h0t, rfl⟩ := hv
    exact fun h0k => h h' tk tt h0k h0t hold
open PySem.Flt in
theorem min_three_ff {x y z : UInt64} {t u v : Tok} (hh : A.handled = none) (hp : @LT.lt Nat _ 0 t ∧ @LT.lt Nat _ 0 u ∧ @LT.lt Nat _ 0 v) (h1t : @LT.lt Nat _ 0 s.toks)
    (h : ∀ h' tk tt, @LT.lt Nat _ 0 tk → @LT.lt Nat _ 0 tt → Keeps s.heap h' → Q (.float (mn3 x y z) tt) { s with heap := h', toks := tk }) :
    wpAny (model prog w) A (call (.builtin "min") [.float x t, .float y u, .float z v]) Q E s := by
  have hT : (s.heap.push { cls := .type "tuple", data := .seq #[.float x t, .float y u, .float z v] }).IsTuple s.heap.objs.size #[.float x t, .float y u, .float z v] := ⟨_, Heap.get?_push_size _ rfl, rfl, 0, rfl⟩
  refine wpAny_with_toks (n := 1) h1t ?_
  refine call_min_three (wpAny_pyIter_tuple hT ?_)
  have hsz : (s.heap.push { cls := .type "tuple", data := .seq #[.float x t, .float y u, .float z v] }).objs.size = s.heap.objs.size + 1 := Heap.size_push ..
  refine ⟨_, [_, s.heap.objs.size], [_], _, _, _, _, rfl, Walks.tuple (A := A.in1) hh _ s.heap.objs.size (by rw [hsz]; exact Nat.ne_of_lt (Nat.lt_succ_self _)) #[.float x t, .float y u, .float z v],
    ⟨⟨_, Heap.get?_push_size _ rfl, rfl, rfl⟩, hT.push _⟩, fun c hc => ?_, by simp, cmpOf_lt #[.float x t, .float y u, .float z v] (by simp; exact ⟨.float _ _, .float _ _, .float _ _⟩), fun v' h' tk hP hk => ?_⟩
  · show c < ((s.heap.push _).push _).objs.size
    rw [Heap.size_push, hsz]
    rcases List.mem_cons.mp hc with rfl | hc
    · rw [hsz]; exact Nat.lt_succ_self _
    · rcases List.mem_cons.mp hc with rfl | hc
      · exact Nat.lt_succ_of_lt (Nat.lt_succ_self _)
      · cases hc
  · have hold : Keeps s.heap h' := fun c o e => by
      refine hk c o (fun hm => ?_) (Heap.get?_push_of_some _ (Heap.get?_push_of_some _ e))
      rcases List.mem_cons.mp hm with e1 | hm
      · have := Heap.lt_size e; rw [e1, hsz] at this; exact Nat.lt_irrefl _ (Nat.lt_of_succ_lt this)
      · cases hm
    have hv : ∃ tt, @LT.lt Nat _ 0 tt ∧ v' = .float (mn3 x y z) tt := by
      unfold mn3 mn2
      cases h1 : (Float64.cmp y x == some .lt) <;> cases h2 : (Float64.cmp z x == some .lt) <;> cases h3 : (Float64.cmp z y == some .lt) <;> simp [argBest, ltV, h1, h2, h3] at hP <;> subst hP <;> simp [h2, h3, hp]
    obtain ⟨tt, h0t, rfl⟩ := hv
    exact fun h0k => h h' tk tt h0k h0t hold
variable {h₀ : Heap} {L : Addr} {m : Str → Option Value} {news : List (Addr × Obj)}
theorem max3L {x y z : UInt64} {t u v : Tok} (hh : A.handled = none) (hp : @LT.lt Nat _ 0 t ∧ @LT.lt Nat _ 0 u ∧ @LT.lt Nat _ 0 v) (h1t : @LT.lt Nat _ 0 s.toks) (F : Fr h₀ L s.heap m) (N : News h₀ L s.heap news)
    (h : ∀ h' tk tt, @LT.lt Nat _ 0 tk → @LT.lt Nat _ 0 tt → Fr h₀ L h' m → News h₀ L h' news → Q (.float (mx3 x y z) tt) { s with heap := h', toks := tk }) :
    wpAny (model prog w) A (call (.builtin "max") [.float x t, .float y u, .float z v]) Q E s :=
  max_three_ff hh hp h1t fun h' tk tt k1 k2 k => h h' tk tt k1 k2 (Fr.mk' F k) (News.mk' N k)
theorem min3L {x y z : UInt64} {t u v : Tok} (hh : A.handled = none) (hp : @LT.lt Nat _ 0 t ∧ @LT.lt Nat _ 0 u ∧ @LT.lt Nat _ 0 v) (h1t : @LT.lt Nat _ 0 s.toks) (F : Fr h₀ L s.heap m) (N : News h₀ L s.heap news)
    (h : ∀ h' tk tt, @LT.lt Nat _ 0 tk → @LT.lt Nat _ 0 tt → Fr h₀ L h' m → News h₀ L h' news → Q (.float (mn3 x y z) tt) { s with heap := h', toks := tk }) :
    wpAny (model prog w) A (call (.builtin "min") [.float x t, .float y u, .float z v]) Q E s :=
  min_three_ff hh hp h1t fun h' tk tt k1 k2 k => h h' tk tt k1 k2 (Fr.mk' F k) (News.mk' N k)
theorem divL {a b : UInt64} {t u : Tok} (hz : Float64.isZero b = false) (h : Q (.float (Float64.div a b) s.toks) { s with toks := s.toks + 1 }) : wpAny (model prog w) A (binaryOp .Div (.float a t) (.float b u)) Q E s :=
  AutoFloatOps.truediv_1 (by simp [hz]) h
theorem modL {a b : UInt64} {t u : Tok} (hz : Float64.isZero b = false) (h : Q (.float (Float64.divmod a b).2 s.toks) { s with toks := s.toks + 1 }) : wpAny (model prog w) A (binaryOp .Mod (.float a t) (.float b u)) Q E s :=
  AutoFloatOps.mod_1 (by simp [hz]) h
end
end
section
open PySem PySem.W PySem.Calls PyProof.Rows
noncomputable def TokPos (tk : Nat) (P : Prop) : Prop := @LT.lt Nat _ 0 tk → P
theorem execs_toks {M : Model} {A : Around} {E : Value → Shared → Prop} {s : Shared} {env : Env} {st : Stmt} {rest : List Stmt} {Q : Flow → Shared → Prop} (h0 : @LT.lt Nat _ 0 s.toks)
    (h : ∀ t', @LT.lt Nat _ 0 t' → wpAny M A (exec st env) (fun f s' => TokPos s'.toks (match f with | .next => wpAny M A (execs rest env) Q E s' | f => Q f s')) E { s with toks := t' }) : wpAny M A (execs (st :: rest) env) Q E s :=
  wpAny_execs_cons (wpAny_with_toks (n := 1) h0 (wpAny_mono (h s.toks h0) (fun _ _ x => x) fun _ _ x _ => x))
section
variable {prog : Program} {w : World} {A : Around} {E : Value → Shared → Prop} {s : Shared} {h₀ : Heap} {L a : Addr} {m : Str → Option Value} {news : List (Addr × Obj)} {name : Str} {scope : Scope} {cd : Value}
theorem same_map {x : Str} {v : Value} (hm : m x = some v) : (fun y => if y = x then some v else m y) = m := by
  funext y
  by_cases hy : y = x
  · rw [if_pos hy, hy, hm]
  · rw [if_neg hy]
theorem clampLt {Q : Flow → Shared → Prop} {x : Str} {c r : UInt64} {t : Tok} {p1 p2 p3 p4 p5 p6 p7 : Pos} {k1 k2} (F : Fr h₀ L s.heap m) (N : News h₀ L s.heap news) (hm : m x = some (.float r t)) (h0t : @LT.lt Nat _ 0 t)
    (h : ∀ h' tk u, @LT.lt Nat _ 0 tk → @LT.lt Nat _ 0 u → Fr h₀ L h' (fun y => if y = x then some (.float (clLt r c) u) else m y) → News h₀ L h' news → Q .next { s with heap := h', toks := tk })
    (hk : scope.kind = .function := by rfl) (hl : (envOf name scope L a cd).kindOf x = some .local := by rfl) (hd : (x == ("__debug__" : Str)) = false := by decide) :
    wpAny (model prog w) A (exec (.If (.Compare (.Name x p1) [.Lt] [.Constant (.float c) k1 p2] p3) [.Assign [.Name x p4] (.Constant (.float c) k2 p5) p6] [] p7) (envOf name scope L a cd)) Q E s := by
  refine wpAny_If (wpAny_isTrue_Compare1 (ld F hm (AutoFloatOps.wpAny_Constant_float (cmp_ofLt (AutoFloatOps.lt_0 (wpAny_truthy_bool ?_)))) hk hl hd))
  unfold clLt at h
  cases e : (Float64.cmp r c == some .lt) with
  | true =>
    rw [if_pos rfl]
    refine wpAny_execs_cons (wpAny_Assign_Name (AutoFloatOps.wpAny_Constant_float (stN (s := { s with toks := s.toks + 1 + 1 }) F N (fun h' F' N' => wpAny_execs_nil ?_) hk hl)))
    simp only [e, if_true] at h
    exact h h' _ _ (Nat.succ_pos _) (Nat.succ_pos _) F' N'
  | false =>
    rw [if_neg (by simp)]
    refine wpAny_execs_nil ?_
    simp only [e, Bool.false_eq_true, if_false] at h
    exact h s.heap _ t (Nat.succ_pos _) h0t (by rw [same_map hm]; exact F) N
theorem clampGt {Q : Flow → Shared → Prop} {x : Str} {c r : UInt64} {t : Tok} {p1 p2 p3 p4 p5 p6 p7 : Pos} {k1 k2} (F : Fr h₀ L s.heap m) (N : News h₀ L s.heap news) (hm : m x = some (.float r t)) (h0t : @LT.lt Nat _ 0 t)
    (h : ∀ h' tk u, @LT.lt Nat _ 0 tk → @LT.lt Nat _ 0 u → Fr h₀ L h' (fun y => if y = x then some (.float (clGt r c) u) else m y) → News h₀ L h' news → Q .next { s with heap := h', toks := tk })
    (hk : scope.kind = .function := by rfl) (hl : (envOf name scope L a cd).kindOf x = some .local := by rfl) (hd : (x == ("__debug__" : Str)) = false := by decide) :
    wpAny (model prog w) A (exec (.If (.Compare (.Name x p1) [.Gt] [.Constant (.float c) k1 p2] p3) [.Assign [.Name x p4] (.Constant (.float c) k2 p5) p6] [] p7) (envOf name scope L a cd)) Q E s := by
  refine wpAny_If (wpAny_isTrue_Compare1 (ld F hm (AutoFloatOps.wpAny_Constant_float (cmp_ofGt (AutoFloatOps.gt_0 (wpAny_truthy_bool ?_)))) hk hl hd))
  unfold clGt at h
  cases e : (Float64.cmp r c == some .gt) with
  | true =>
    rw [if_pos rfl]
    refine wpAny_execs_cons (wpAny_Assign_Name (AutoFloatOps.wpAny_Constant_float (stN (s := { s with toks := s.toks + 1 + 1 }) F N (fun h' F' N' => wpAny_execs_nil ?_) hk hl)))
    simp only [e, if_true] at h
    exact h h' _ _ (Nat.succ_pos _) (Nat.succ_pos _) F' N'
  | false =>
    rw [if_neg (by simp)]
    refine wpAny_execs_nil ?_
    simp only [e, Bool.false_eq_true, if_false] at h
    exact h s.heap _ t (Nat.succ_pos _) h0t (by rw [same_map hm]; exact F) N
end
end
section
open PySem PySem.W PySem.Calls PyProof.Rows
section
variable {prog : Program} {w : World} {A : Around} {E : Value → Shared → Prop} {s : Shared} {Q : Value → Shared → Prop}
theorem intL {x : UInt64} {k : Int} {t : Tok} (hA : A.handled = none) (hf : Float64.isFinite x = true) (hk : PySem.Flt.toInt Float64.truncOf x = k) (h : Q (.int k s.toks) { s with toks := s.toks + 1 }) : wpAny (model prog w) A (call (.type "int") [.float x t]) Q E s := by
  subst hk
  refine PySem.Flt.call_int_float3 hA (fun c => ?_) (fun c => ?_) (fun _ => h)
  · rw [PySem.Flt.not_nan_of_finite hf] at c; cases c
  · unfold Float64.isFinite at hf; unfold Float64.isInf at c; cases hd : Float64.decode x <;> rw [hd] at hf c <;> simp at hf c
theorem roundL {x : UInt64} {k : Int} {t : Tok} (hA : A.handled = none) (hf : Float64.isFinite x = true) (hk : PySem.Flt.toInt Float64.nearestOf x = k) (h : Q (.int k s.toks) { s with toks := s.toks + 1 }) : wpAny (model prog w) A (call (.builtin "round") [.float x t]) Q E s := by
  subst hk
  refine PySem.Flt.call_round_float hA (fun c => ?_) (fun c => ?_) (fun _ => h)
  · rw [PySem.Flt.not_nan_of_finite hf] at c; cases c
  · unfold Float64.isFinite at hf; unfold Float64.isInf at c; cases hd : Float64.decode x <;> rw [hd] at hf c <;> simp at hf c
theorem subfiL {a : UInt64} {k : Int} {t u : Tok} (hc : ¬ Float64.isInf (Float64.ofInt k) = true) (h : Q (.float (Float64.sub a (Float64.ofInt k)) s.toks) { s with toks := s.toks + 1 }) : wpAny (model prog w) A (binaryOp .Sub (.float a t) (.int k u)) Q E s :=
  AutoFloatOps.sub_fi_1 hc h
theorem mulfiL {a : UInt64} {k : Int} {t u : Tok} (hc : ¬ Float64.isInf (Float64.ofInt k) = true) (h : Q (.float (Float64.mul a (Float64.ofInt k)) s.toks) { s with toks := s.toks + 1 }) : wpAny (model prog w) A (binaryOp .Mult (.float a t) (.int k u)) Q E s :=
  AutoFloatOps.mul_fi_1 hc h
end
end
section
open PySem PySem.W PySem.Calls PyProof.Rows
theorem rules_z0 : True := by
  k_with_none
  k_with "call builtin:max" => ((with_reducible show wpAny _ _ (call _ [Value.float _ _, Value.float _ _, Value.float _ _]) _ _ _); (rename News _ _ _ _ => N'); (rename Fr _ _ _ _ => F'); refine max3L (by assumption) (by first | exact Nat.succ_pos _ | with_reducible assumption | omega | (dsimp only; first | exact Nat.succ_pos _ | with_reducible assumption | omega)) (by first | exact Nat.succ_pos _ | with_reducible assumption | omega | (dsimp only; first | exact Nat.succ_pos _ | with_reducible assumption | omega)) F' N' ?_; clear F' N'; intro h' tk' tt' htk' htt' F' N')
  k_with "call builtin:min" => ((with_reducible show wpAny _ _ (call _ [Value.float _ _, Value.float _ _, Value.float _ _]) _ _ _); (rename News _ _ _ _ => N'); (rename Fr _ _ _ _ => F'); refine min3L (by assumption) (by first | exact Nat.succ_pos _ | with_reducible assumption | omega | (dsimp only; first | exact Nat.succ_pos _ | with_reducible assumption | omega)) (by first | exact Nat.succ_pos _ | with_reducible assumption | omega | (dsimp only; first | exact Nat.succ_pos _ | with_reducible assumption | omega)) F' N' ?_; clear F' N'; intro h' tk' tt' htk' htt' F' N')
  k_with "binaryOp Div float float" => (refine divL (by first | assumption | decide +kernel) ?_)
  k_with "binaryOp Mod float float" => (refine modL (by first | assumption | decide +kernel) ?_)
  k_with "exec If" => ((with_reducible show wpAny _ _ (exec (Stmt.If (Expr.Compare (Expr.Name _ _) [_] [Expr.Constant _ _ _] _) [Stmt.Assign _ _ _] [] _) _) _ _ _); (rename News _ _ _ _ => N'); (rename Fr _ _ _ _ => F'); (with_reducible (first | refine' clampLt F' N' ?k1 ?k5 ?_ ?k2 ?k3 ?k4 | refine' clampGt F' N' ?k1 ?k5 ?_ ?k2 ?k3 ?k4)); (case k1 => k_dflt exact rfl); (case k5 => first | exact Nat.succ_pos _ | with_reducible assumption | omega | (dsimp only; first | exact Nat.succ_pos _ | with_reducible assumption | omega)); (case k2 => k_dflt exact rfl); (case k3 => k_dflt exact rfl); (case k4 => k_dflt decide); clear F' N'; intro h' tk' tt' htk' htt' F' N')
  k_with "execs cons" => (refine execs_toks (by first | exact Nat.succ_pos _ | with_reducible assumption | omega | (dsimp only; first | exact Nat.succ_pos _ | with_reducible assumption | omega)) ?_; intro tk' htk'; try dsimp only)
  k_with "TokPos" => (unfold TokPos; intro htk'; try dsimp only)
  k_with "mine_enter" => (k_dflt (refine' enter0 ?kX ?kT ?k6 ?k7 ?kr ?k9 ?kB ?_ ?c2 ?c3 ?c4 ?c5; (case kX => assumption); (case kT => assumption); (case kr => (first | assumption | decide | (k_dflt omega))); (case k6 => k_is); (case k7 => k_is); (case k9 => exact BindsTo.of_eq rfl); (case c5 => decide); (case kB => exact locs rfl); (case c2 => exact rfl); (case c3 => exact rfl); (case c4 => exact rfl); k_whole); intro L' h' F' N'; (try dsimp only); (try k_fold))
  k_with "mine_end3" => ((rename Fr _ _ _ _ => F9); (rename News _ _ _ _ => N9); (rename (∀ (_ : Addr), _) => ret9); refine ret9 _ _ _ (by first | exact Nat.succ_pos _ | with_reducible assumption | omega | (dsimp only; first | exact Nat.succ_pos _ | with_reducible assumption | omega)) (Fr.keep F9) (N9 _ (List.Mem.head _)).2.2 ?_; have q9 := (N9 _ (List.Mem.head _)).1; clear F9 N9 ret9; (first | (refine ⟨_, _, _, ?_, q9⟩; exact ⟨(by first | exact Nat.succ_pos _ | with_reducible assumption | omega | (dsimp only; first | exact Nat.succ_pos _ | with_reducible assumption | omega)), (by first | exact Nat.succ_pos _ | with_reducible assumption | omega | (dsimp only; first | exact Nat.succ_pos _ | with_reducible assumption | omega)), (by first | exact Nat.succ_pos _ | with_reducible assumption | omega | (dsimp only; first | exact Nat.succ_pos _ | with_reducible assumption | omega))⟩) | (simp only [hueH, if_true, if_false, Bool.false_eq_true, *]; (refine ⟨_, _, _, ?_, q9⟩; exact ⟨(by first | exact Nat.succ_pos _ | with_reducible assumption | omega | (dsimp only; first | exact Nat.succ_pos _ | with_reducible assumption | omega)), (by first | exact Nat.succ_pos _ | with_reducible assumption | omega | (dsimp only; first | exact Nat.succ_pos _ | with_reducible assumption | omega)), (by first | exact Nat.succ_pos _ | with_reducible assumption | omega | (dsimp only; first | exact Nat.succ_pos _ | with_reducible assumption | omega))⟩))))
  k_with "mine_end1" => ((rename Fr _ _ _ _ => F9); (rename News _ _ _ _ => N9); (rename (∀ (_ : Heap), _) => ret9); refine ret9 _ _ _ _ (by first | exact Nat.succ_pos _ | with_reducible assumption | omega | (dsimp only; first | exact Nat.succ_pos _ | with_reducible assumption | omega)) (by first | exact Nat.succ_pos _ | with_reducible assumption | omega | (dsimp only; first | exact Nat.succ_pos _ | with_reducible assumption | omega)) (Fr.keep F9) ?_; clear F9 N9 ret9; (first | rfl | (simp only [vF, hueF, if_true, if_false, Bool.false_eq_true, *]; done)))
  trivial
theorem yiq_call : ∀ {w : World} {A : Around} {s : Shared} {mean : ExcName → Option Value} {mg mb : Str → Option Value} {Q E : Value → Shared → Prop} {r g b : UInt64} {t0 t1 t2 : Tok},
    (KK w).In s.heap → TT mean mg mb s.heap → A.depth < recursionLimit → A.handled = none → @LT.lt Nat _ 0 s.toks → @LT.lt Nat _ 0 t0 → @LT.lt Nat _ 0 t1 → @LT.lt Nat _ 0 t2 → 
    (∀ x h' tk', @LT.lt Nat _ 0 tk' → Keeps s.heap h' → s.heap.get? x = none → FTup h' x (yY r g b) (yI r g b) (yQ r g b) → Q (.ref x) { s with heap := h', toks := tk' }) →
    wpAny (model PP w) A (call (.ref 21) [.float r t0, .float g t1, .float b t2]) Q E s := by
  unfold KK TT PP
  k_fill
  intro w A s mean mg mb Q E r g b t0 t1 t2 X T hroom hh h0k h0t0 h0t1 h0t2  ret
  walk_at "mine_enter"
  k_steps
  all_goals walk_at "mine_end3"
theorem yiqr_call : ∀ {w : World} {A : Around} {s : Shared} {mean : ExcName → Option Value} {mg mb : Str → Option Value} {Q E : Value → Shared → Prop} {y i q : UInt64} {t0 t1 t2 : Tok},
    (KK w).In s.heap → TT mean mg mb s.heap → A.depth < recursionLimit → A.handled = none → @LT.lt Nat _ 0 s.toks → @LT.lt Nat _ 0 t0 → @LT.lt Nat _ 0 t1 → @LT.lt Nat _ 0 t2 → 
    (∀ x h' tk', @LT.lt Nat _ 0 tk' → Keeps s.heap h' → s.heap.get? x = none → FTup h' x (rR y i q) (rG y i q) (rB y i q) → Q (.ref x) { s with heap := h', toks := tk' }) →
    wpAny (model PP w) A (call (.ref 28) [.float y t0, .float i t1, .float q t2]) Q E s := by
  unfold KK TT PP
  k_fill
  intro w A s mean mg mb Q E y i q t0 t1 t2 X T hroom hh h0k h0t0 h0t1 h0t2  ret
  walk_at "mine_enter"
  k_steps
  all_goals walk_at "mine_end3"
theorem v_call : ∀ {w : World} {A : Around} {s : Shared} {mean : ExcName → Option Value} {mg mb : Str → Option Value} {Q E : Value → Shared → Prop} {m1 m2 hue : UInt64} {t0 t1 t2 : Tok},
    (KK w).In s.heap → TT mean mg mb s.heap → A.depth < recursionLimit → A.handled = none → @LT.lt Nat _ 0 s.toks → @LT.lt Nat _ 0 t0 → @LT.lt Nat _ 0 t1 → @LT.lt Nat _ 0 t2 → 
    (∀ h' tk' u v, @LT.lt Nat _ 0 tk' → @LT.lt Nat _ 0 u → Keeps s.heap h' → v = vF m1 m2 hue → Q (.float v u) { s with heap := h', toks := tk' }) →
    wpAny (model PP w) A (call (.ref 49) [.float m1 t0, .float m2 t1, .float hue t2]) Q E s := by
  unfold KK TT PP
  k_fill
  intro w A s mean mg mb Q E m1 m2 hue t0 t1 t2 X T hroom hh h0k h0t0 h0t1 h0t2  ret
  walk_at "mine_enter"
  k_steps
  all_goals walk_at "mine_end1"
theorem hsv_call : ∀ {w : World} {A : Around} {s : Shared} {mean : ExcName → Option Value} {mg mb : Str → Option Value} {Q E : Value → Shared → Prop} {r g b : UInt64} {t0 t1 t2 : Tok},
    (KK w).In s.heap → TT mean mg mb s.heap → A.depth < recursionLimit → A.handled = none → @LT.lt Nat _ 0 s.toks → @LT.lt Nat _ 0 t0 → @LT.lt Nat _ 0 t1 → @LT.lt Nat _ 0 t2 → Float64.isZero (mx3 r g b) = false → Float64.isZero (Float64.sub (mx3 r g b) (mn3 r g b)) = false → (Float64.cmp (mn3 r g b) (mx3 r g b) == some .eq) = false →
    (∀ x h' tk', @LT.lt Nat _ 0 tk' → Keeps s.heap h' → s.heap.get? x = none → FTup h' x (hueH (mx3 r g b) r g b (Float64.sub (mx3 r g b) (mn3 r g b))) (Float64.div (Float64.sub (mx3 r g b) (mn3 r g b)) (mx3 r g b)) ((mx3 r g b)) → Q (.ref x) { s with heap := h', toks := tk' }) →
    wpAny (model PP w) A (call (.ref 56) [.float r t0, .float g t1, .float b t2]) Q E s := by
  unfold KK TT PP
  k_fill
  intro w A s mean mg mb Q E r g b t0 t1 t2 X T hroom hh h0k h0t0 h0t1 h0t2 hz1 hz2 hne ret
  walk_at "mine_enter"
  k_steps
  all_goals walk_at "mine_end3"
end
section
open PySem PySem.W PySem.Calls PyProof.Rows
theorem rules_z1 : True := by
  k_with_none
  k_with "call builtin:max" => ((with_reducible show wpAny _ _ (call _ [Value.float _ _, Value.float _ _, Value.float _ _]) _ _ _); (rename News _ _ _ _ => N'); (rename Fr _ _ _ _ => F'); refine max3L (by assumption) (by first | exact Nat.succ_pos _ | with_reducible assumption | omega | (dsimp only; first | exact Nat.succ_pos _ | with_reducible assumption | omega)) (by first | exact Nat.succ_pos _ | with_reducible assumption | omega | (dsimp only; first | exact Nat.succ_pos _ | with_reducible assumption | omega)) F' N' ?_; clear F' N'; intro h' tk' tt' htk' htt' F' N')
  k_with "call builtin:min" => ((with_reducible show wpAny _ _ (call _ [Value.float _ _, Value.float _ _, Value.float _ _]) _ _ _); (rename News _ _ _ _ => N'); (rename Fr _ _ _ _ => F'); refine min3L (by assumption) (by first | exact Nat.succ_pos _ | with_reducible assumption | omega | (dsimp only; first | exact Nat.succ_pos _ | with_reducible assumption | omega)) (by first | exact Nat.succ_pos _ | with_reducible assumption | omega | (dsimp only; first | exact Nat.succ_pos _ | with_reducible assumption | omega)) F' N' ?_; clear F' N'; intro h' tk' tt' htk' htt' F' N')
  k_with "binaryOp Div float float" => (refine divL (by first | assumption | decide +kernel) ?_)
  k_with "binaryOp Mod float float" => (refine modL (by first | assumption | decide +kernel) ?_)
  k_with "exec If" => ((with_reducible show wpAny _ _ (exec (Stmt.If (Expr.Compare (Expr.Name _ _) [_] [Expr.Constant _ _ _] _) [Stmt.Assign _ _ _] [] _) _) _ _ _); (rename News _ _ _ _ => N'); (rename Fr _ _ _ _ => F'); (with_reducible (first | refine' clampLt F' N' ?k1 ?k5 ?_ ?k2 ?k3 ?k4 | refine' clampGt F' N' ?k1 ?k5 ?_ ?k2 ?k3 ?k4)); (case k1 => k_dflt exact rfl); (case k5 => first | exact Nat.succ_pos _ | with_reducible assumption | omega | (dsimp only; first | exact Nat.succ_pos _ | with_reducible assumption | omega)); (case k2 => k_dflt exact rfl); (case k3 => k_dflt exact rfl); (case k4 => k_dflt decide); clear F' N'; intro h' tk' tt' htk' htt' F' N')
  k_with "execs cons" => (refine execs_toks (by first | exact Nat.succ_pos _ | with_reducible assumption | omega | (dsimp only; first | exact Nat.succ_pos _ | with_reducible assumption | omega)) ?_; intro tk' htk'; try dsimp only)
  k_with "TokPos" => (unfold TokPos; intro htk'; try dsimp only)
  k_with "mine_enter" => (k_dflt (refine' enter0 ?kX ?kT ?k6 ?k7 ?kr ?k9 ?kB ?_ ?c2 ?c3 ?c4 ?c5; (case kX => assumption); (case kT => assumption); (case kr => (first | assumption | decide | (k_dflt omega))); (case k6 => k_is); (case k7 => k_is); (case k9 => exact BindsTo.of_eq rfl); (case c5 => decide); (case kB => exact locs rfl); (case c2 => exact rfl); (case c3 => exact rfl); (case c4 => exact rfl); k_whole); intro L' h' F' N'; (try dsimp only); (try k_fold))
  k_with "mine_end3" => ((rename Fr _ _ _ _ => F9); (rename News _ _ _ _ => N9); (rename (∀ (_ : Addr), _) => ret9); refine ret9 _ _ _ (by first | exact Nat.succ_pos _ | with_reducible assumption | omega | (dsimp only; first | exact Nat.succ_pos _ | with_reducible assumption | omega)) (Fr.keep F9) (N9 _ (List.Mem.head _)).2.2 ?_; have q9 := (N9 _ (List.Mem.head _)).1; clear F9 N9 ret9; (first | (refine ⟨_, _, _, ?_, q9⟩; exact ⟨(by first | exact Nat.succ_pos _ | with_reducible assumption | omega | (dsimp only; first | exact Nat.succ_pos _ | with_reducible assumption | omega)), (by first | exact Nat.succ_pos _ | with_reducible assumption | omega | (dsimp only; first | exact Nat.succ_pos _ | with_reducible assumption | omega)), (by first | exact Nat.succ_pos _ | with_reducible assumption | omega | (dsimp only; first | exact Nat.succ_pos _ | with_reducible assumption | omega))⟩) | (simp only [hueH, m2F, hlsS, leH, if_true, if_false, Bool.false_eq_true, *]; (refine ⟨_, _, _, ?_, q9⟩; exact ⟨(by first | exact Nat.succ_pos _ | with_reducible assumption | omega | (dsimp only; first | exact Nat.succ_pos _ | with_reducible assumption | omega)), (by first | exact Nat.succ_pos _ | with_reducible assumption | omega | (dsimp only; first | exact Nat.succ_pos _ | with_reducible assumption | omega)), (by first | exact Nat.succ_pos _ | with_reducible assumption | omega | (dsimp only; first | exact Nat.succ_pos _ | with_reducible assumption | omega))⟩))))
  k_with "mine_end1" => ((rename Fr _ _ _ _ => F9); (rename News _ _ _ _ => N9); (rename (∀ (_ : Heap), _) => ret9); refine ret9 _ _ _ _ (by first | exact Nat.succ_pos _ | with_reducible assumption | omega | (dsimp only; first | exact Nat.succ_pos _ | with_reducible assumption | omega)) (by first | exact Nat.succ_pos _ | with_reducible assumption | omega | (dsimp only; first | exact Nat.succ_pos _ | with_reducible assumption | omega)) (Fr.keep F9) ?_; clear F9 N9 ret9; (first | rfl | (simp only [vF, hueF, if_true, if_false, Bool.false_eq_true, *]; done)))
  k_with "call ref" => ((with_reducible show wpAny _ _ (call (Value.ref 49) [Value.float _ _, Value.float _ _, Value.float _ _]) _ _ _); (rename News _ _ _ _ => N'); (rename Fr _ _ _ _ => F'); (k_dflt (refine v_call (Frag.In.keeps (by assumption) (Fr.keep F')) (Top.keeps (by assumption) (Fr.keep F')) (by walk_at "mine_room") (by assumption) (by first | exact Nat.succ_pos _ | with_reducible assumption | omega | (dsimp only; first | exact Nat.succ_pos _ | with_reducible assumption | omega)) (by first | exact Nat.succ_pos _ | with_reducible assumption | omega | (dsimp only; first | exact Nat.succ_pos _ | with_reducible assumption | omega)) (by first | exact Nat.succ_pos _ | with_reducible assumption | omega | (dsimp only; first | exact Nat.succ_pos _ | with_reducible assumption | omega)) (by first | exact Nat.succ_pos _ | with_reducible assumption | omega | (dsimp only; first | exact Nat.succ_pos _ | with_reducible assumption | omega)) ?_)); intro h' tk' u' v' htk' hu' k' e'; subst e'; replace F' := Fr.mk' F' k'; replace N' := News.mk' N' k'; clear k')
  k_with "mine_room" => (simp only [Around.deeper, Around.in1] at *; omega)
  trivial
theorem hlsr_call : ∀ {w : World} {A : Around} {s : Shared} {mean : ExcName → Option Value} {mg mb : Str → Option Value} {Q E : Value → Shared → Prop} {h l sx : UInt64} {t0 t1 t2 : Tok},
    (KK w).In s.heap → TT mean mg mb s.heap → A.depth < recursionLimit → A.handled = none → @LT.lt Nat _ 0 s.toks → @LT.lt Nat _ 0 t0 → @LT.lt Nat _ 0 t1 → @LT.lt Nat _ 0 t2 → A.depth + 1 < recursionLimit → (Float64.cmp sx 0 == some .eq) = false →
    (∀ x h' tk', @LT.lt Nat _ 0 tk' → Keeps s.heap h' → s.heap.get? x = none → FTup h' x (vF (Float64.sub (Float64.mul c2 l) (m2F l sx)) (m2F l sx) (Float64.add h cT3)) (vF (Float64.sub (Float64.mul c2 l) (m2F l sx)) (m2F l sx) h) (vF (Float64.sub (Float64.mul c2 l) (m2F l sx)) (m2F l sx) (Float64.sub h cT3)) → Q (.ref x) { s with heap := h', toks := tk' }) →
    wpAny (model PP w) A (call (.ref 42) [.float h t0, .float l t1, .float sx t2]) Q E s := by
  unfold KK TT PP
  k_fill
  intro w A s mean mg mb Q E h l sx t0 t1 t2 X T hroom hh h0k h0t0 h0t1 h0t2 hroom2 hne ret
  walk_at "mine_enter"
  k_steps
  all_goals walk_at "mine_end3"
theorem hls_call : ∀ {w : World} {A : Around} {s : Shared} {mean : ExcName → Option Value} {mg mb : Str → Option Value} {Q E : Value → Shared → Prop} {r g b : UInt64} {t0 t1 t2 : Tok},
    (KK w).In s.heap → TT mean mg mb s.heap → A.depth < recursionLimit → A.handled = none → @LT.lt Nat _ 0 s.toks → @LT.lt Nat _ 0 t0 → @LT.lt Nat _ 0 t1 → @LT.lt Nat _ 0 t2 → Float64.isZero (Float64.add (mx3 r g b) (mn3 r g b)) = false → Float64.isZero (Float64.sub (Float64.sub c2 (mx3 r g b)) (mn3 r g b)) = false → Float64.isZero (Float64.sub (mx3 r g b) (mn3 r g b)) = false → (Float64.cmp (mn3 r g b) (mx3 r g b) == some .eq) = false →
    (∀ x h' tk', @LT.lt Nat _ 0 tk' → Keeps s.heap h' → s.heap.get? x = none → FTup h' x (hueH (mx3 r g b) r g b (Float64.sub (mx3 r g b) (mn3 r g b))) (Float64.div (Float64.add (mx3 r g b) (mn3 r g b)) c2) (hlsS (mx3 r g b) (mn3 r g b)) → Q (.ref x) { s with heap := h', toks := tk' }) →
    wpAny (model PP w) A (call (.ref 35) [.float r t0, .float g t1, .float b t2]) Q E s := by
  unfold KK TT PP
  k_fill
  intro w A s mean mg mb Q E r g b t0 t1 t2 X T hroom hh h0k h0t0 h0t1 h0t2 hz0 hz1 hz2 hne ret
  walk_at "mine_enter"
  k_steps
  all_goals walk_at "mine_end3"
end
section
open PySem PySem.W PySem.Calls PyProof.Rows
theorem rules_z2 : True := by
  k_with_none
  k_with "call builtin:max" => ((with_reducible show wpAny _ _ (call _ [Value.float _ _, Value.float _ _, Value.float _ _]) _ _ _); (rename News _ _ _ _ => N'); (rename Fr _ _ _ _ => F'); refine max3L (by assumption) (by first | exact Nat.succ_pos _ | with_reducible assumption | omega | (dsimp only; first | exact Nat.succ_pos _ | with_reducible assumption | omega)) (by first | exact Nat.succ_pos _ | with_reducible assumption | omega | (dsimp only; first | exact Nat.succ_pos _ | with_reducible assumption | omega)) F' N' ?_; clear F' N'; intro h' tk' tt' htk' htt' F' N')
  k_with "call builtin:min" => ((with_reducible show wpAny _ _ (call _ [Value.float _ _, Value.float _ _, Value.float _ _]) _ _ _); (rename News _ _ _ _ => N'); (rename Fr _ _ _ _ => F'); refine min3L (by assumption) (by first | exact Nat.succ_pos _ | with_reducible assumption | omega | (dsimp only; first | exact Nat.succ_pos _ | with_reducible assumption | omega)) (by first | exact Nat.succ_pos _ | with_reducible assumption | omega | (dsimp only; first | exact Nat.succ_pos _ | with_reducible assumption | omega)) F' N' ?_; clear F' N'; intro h' tk' tt' htk' htt' F' N')
  k_with "binaryOp Div float float" => (refine divL (by first | assumption | decide +kernel) ?_)
  k_with "binaryOp Mod float float" => (refine modL (by first | assumption | decide +kernel) ?_)
  k_with "exec If" => ((with_reducible show wpAny _ _ (exec (Stmt.If (Expr.Compare (Expr.Name _ _) [_] [Expr.Constant _ _ _] _) [Stmt.Assign _ _ _] [] _) _) _ _ _); (rename News _ _ _ _ => N'); (rename Fr _ _ _ _ => F'); (with_reducible (first | refine' clampLt F' N' ?k1 ?k5 ?_ ?k2 ?k3 ?k4 | refine' clampGt F' N' ?k1 ?k5 ?_ ?k2 ?k3 ?k4)); (case k1 => k_dflt exact rfl); (case k5 => first | exact Nat.succ_pos _ | with_reducible assumption | omega | (dsimp only; first | exact Nat.succ_pos _ | with_reducible assumption | omega)); (case k2 => k_dflt exact rfl); (case k3 => k_dflt exact rfl); (case k4 => k_dflt decide); clear F' N'; intro h' tk' tt' htk' htt' F' N')
  k_with "execs cons" => (refine execs_toks (by first | exact Nat.succ_pos _ | with_reducible assumption | omega | (dsimp only; first | exact Nat.succ_pos _ | with_reducible assumption | omega)) ?_; intro tk' htk'; try dsimp only)
  k_with "TokPos" => (unfold TokPos; intro htk'; try dsimp only)
  k_with "mine_enter" => (k_dflt (refine' enter0 ?kX ?kT ?k6 ?k7 ?kr ?k9 ?kB ?_ ?c2 ?c3 ?c4 ?c5; (case kX => assumption); (case kT => assumption); (case kr => (first | assumption | decide | (k_dflt omega))); (case k6 => k_is); (case k7 => k_is); (case k9 => exact BindsTo.of_eq rfl); (case c5 => decide); (case kB => exact locs rfl); (case c2 => exact rfl); (case c3 => exact rfl); (case c4 => exact rfl); k_whole); intro L' h' F' N'; (try dsimp only); (try k_fold))
  k_with "mine_end3" => ((rename Fr _ _ _ _ => F9); (rename News _ _ _ _ => N9); (rename (∀ (_ : Addr), _) => ret9); refine ret9 _ _ _ (by first | exact Nat.succ_pos _ | with_reducible assumption | omega | (dsimp only; first | exact Nat.succ_pos _ | with_reducible assumption | omega)) (Fr.keep F9) (N9 _ (List.Mem.head _)).2.2 ?_; have q9 := (N9 _ (List.Mem.head _)).1; clear F9 N9 ret9; (first | (refine ⟨_, _, _, ?_, q9⟩; exact ⟨(by first | exact Nat.succ_pos _ | with_reducible assumption | omega | (dsimp only; first | exact Nat.succ_pos _ | with_reducible assumption | omega)), (by first | exact Nat.succ_pos _ | with_reducible assumption | omega | (dsimp only; first | exact Nat.succ_pos _ | with_reducible assumption | omega)), (by first | exact Nat.succ_pos _ | with_reducible assumption | omega | (dsimp only; first | exact Nat.succ_pos _ | with_reducible assumption | omega))⟩) | (simp only [hueH, sel, pF, qF, tF, if_true, if_false, Bool.false_eq_true, *]; (refine ⟨_, _, _, ?_, q9⟩; exact ⟨(by first | exact Nat.succ_pos _ | with_reducible assumption | omega | (dsimp only; first | exact Nat.succ_pos _ | with_reducible assumption | omega)), (by first | exact Nat.succ_pos _ | with_reducible assumption | omega | (dsimp only; first | exact Nat.succ_pos _ | with_reducible assumption | omega)), (by first | exact Nat.succ_pos _ | with_reducible assumption | omega | (dsimp only; first | exact Nat.succ_pos _ | with_reducible assumption | omega))⟩))))
  k_with "mine_end1" => ((rename Fr _ _ _ _ => F9); (rename News _ _ _ _ => N9); (rename (∀ (_ : Heap), _) => ret9); refine ret9 _ _ _ _ (by first | exact Nat.succ_pos _ | with_reducible assumption | omega | (dsimp only; first | exact Nat.succ_pos _ | with_reducible assumption | omega)) (by first | exact Nat.succ_pos _ | with_reducible assumption | omega | (dsimp only; first | exact Nat.succ_pos _ | with_reducible assumption | omega)) (Fr.keep F9) ?_; clear F9 N9 ret9; (first | rfl | (simp only [vF, hueF, if_true, if_false, Bool.false_eq_true, *]; done)))
  k_with "call type:int" => ((with_reducible show wpAny _ _ (call _ [Value.float _ _]) _ _ _); (k_dflt (refine intL (by assumption) (by assumption) (by assumption) ?_)))
  k_with "binaryOp Sub float int" => (refine subfiL (by assumption) ?_)
  trivial
theorem hsvr_call : ∀ {w : World} {A : Around} {s : Shared} {mean : ExcName → Option Value} {mg mb : Str → Option Value} {Q E : Value → Shared → Prop} {h sx v : UInt64} {k : Int} {t0 t1 t2 : Tok},
    (KK w).In s.heap → TT mean mg mb s.heap → A.depth < recursionLimit → A.handled = none → @LT.lt Nat _ 0 s.toks → @LT.lt Nat _ 0 t0 → @LT.lt Nat _ 0 t1 → @LT.lt Nat _ 0 t2 → (Float64.cmp sx 0 == some .eq) = false → Float64.isFinite (Float64.mul h c6) = true → PySem.Flt.toInt Float64.truncOf (Float64.mul h c6) = k → ¬ Float64.isInf (Float64.ofInt k) = true →
    (∀ x h' tk', @LT.lt Nat _ 0 tk' → Keeps s.heap h' → s.heap.get? x = none → FTup h' x (sel (k.fmod 6) v (qF sx v (Float64.sub (Float64.mul h c6) (Float64.ofInt k))) (pF sx v) (pF sx v) (tF sx v (Float64.sub (Float64.mul h c6) (Float64.ofInt k))) v) (sel (k.fmod 6) (tF sx v (Float64.sub (Float64.mul h c6) (Float64.ofInt k))) v v (qF sx v (Float64.sub (Float64.mul h c6) (Float64.ofInt k))) (pF sx v) (pF sx v)) (sel (k.fmod 6) (pF sx v) (pF sx v) (tF sx v (Float64.sub (Float64.mul h c6) (Float64.ofInt k))) v v (qF sx v (Float64.sub (Float64.mul h c6) (Float64.ofInt k)))) → Q (.ref x) { s with heap := h', toks := tk' }) →
    wpAny (model PP w) A (call (.ref 63) [.float h t0, .float sx t1, .float v t2]) Q E s := by
  unfold KK TT PP
  k_fill
  intro w A s mean mg mb Q E h sx v k t0 t1 t2 X T hroom hh h0k h0t0 h0t1 h0t2 hne hf hk hk2 ret
  walk_at "mine_enter"
  k_steps
  all_goals (first | (exfalso; have b9 := Int.fmod_eq_emod_of_nonneg k (b := 6) (by decide); omega) | walk_at "mine_end3")
end
section
open PySem PySem.W PySem.Calls PyProof.Rows
section
variable {prog : Program} {w : World} {A : Around} {E : Value → Shared → Prop} {s : Shared} {Q : Value → Shared → Prop}
theorem diviiL {a b : Int} {t u : Tok} (hA : A.handled = none) (h0 : 0 ≤ a ∧ a < 1152921504606846976) (hb : 0 < b) (h : Q (.float (FR a.toNat b.toNat) s.toks) { s with toks := s.toks + 1 }) : wpAny (model prog w) A (binaryOp .Div (.int a t) (.int b u)) Q E s := by
  have hf : a.natAbs < 2 ^ 1023 := Nat.lt_of_lt_of_le (m := 2 ^ 60) (by omega) (Nat.pow_le_pow_right (by decide) (by decide))
  refine PySem.Flt.div_ii_fits hA hf (fun c => by omega) (fun _ _ => ?_)
  have e1 : (decide (a < 0) != decide (b < 0)) = false := by
    have : ¬ a < 0 := by omega
    have : ¬ b < 0 := by omega
    simp [*]
  have e2 : a.natAbs = a.toNat := by omega
  have e3 : b.natAbs = b.toNat := by omega
  rw [e1, e2, e3]
  exact h
theorem powL {a b c : Int} {t u : Tok} (hb : b ≥ 0) (h1 : ¬(b == 0) = true) (h2 : ¬(a == 0 || a == 1) = true) (h3 : ¬(a == -1) = true) (h4 : ¬Builtin.Int.intTooBig (((Builtin.Int.intBits a : Nat) : Int) * b) = true) (hc : a ^ b.toNat = c)
    (h : Q (.int c s.toks) { s with toks := s.toks + 1 }) : wpAny (model prog w) A (binaryOp .Pow (.int a t) (.int b u)) Q E s :=
  AutoIntOps.pow_4 hb h1 h2 h3 h4 (hc ▸ h)
theorem pow18 {t u : Tok} (h : Q (.int 262144 s.toks) { s with toks := s.toks + 1 }) : wpAny (model prog w) A (binaryOp .Pow (.int 2 t) (.int 18 u)) Q E s := powL (by decide) (by decide) (by decide) (by decide) (by decide +kernel) (by decide +kernel) h
theorem pow20 {t u : Tok} (h : Q (.int 1048576 s.toks) { s with toks := s.toks + 1 }) : wpAny (model prog w) A (binaryOp .Pow (.int 2 t) (.int 20 u)) Q E s := powL (by decide) (by decide) (by decide) (by decide) (by decide +kernel) (by decide +kernel) h
theorem pow30 {t u : Tok} (h : Q (.int 1073741824 s.toks) { s with toks := s.toks + 1 }) : wpAny (model prog w) A (binaryOp .Pow (.int 2 t) (.int 30 u)) Q E s := powL (by decide) (by decide) (by decide) (by decide) (by decide +kernel) (by decide +kernel) h
theorem pow31 {t u : Tok} (h : Q (.int 2147483648 s.toks) { s with toks := s.toks + 1 }) : wpAny (model prog w) A (binaryOp .Pow (.int 2 t) (.int 31 u)) Q E s := powL (by decide) (by decide) (by decide) (by decide) (by decide +kernel) (by decide +kernel) h
theorem pow38 {t u : Tok} (h : Q (.int 274877906944 s.toks) { s with toks := s.toks + 1 }) : wpAny (model prog w) A (binaryOp .Pow (.int 2 t) (.int 38 u)) Q E s := powL (by decide) (by decide) (by decide) (by decide) (by decide +kernel) (by decide +kernel) h
theorem fmod_range (a : Int) {b : Int} (hb : 0 < b) : 0 ≤ a.fmod b ∧ a.fmod b < b := by
  rw [Int.fmod_eq_emod_of_nonneg a (by omega)]
  exact ⟨Int.emod_nonneg _ (by omega), Int.emod_lt_of_pos _ hb⟩
end
end
section
open PySem PySem.W PySem.Calls PyProof.Rows
theorem wpAny_around {α : Type} {M : Model} {A A' : Around} {t : Sem α} {Q : α → Shared → Prop} {E : Value → Shared → Prop} {s : Shared} (h : wpAny M A t Q E s)
    (h1 : A'.handled = A.handled) (h2 : A'.depth ≤ A.depth) (h3 : A.frames = none ∨ A'.frames = A.frames) (h4 : A.guards = none ∨ A'.guards = A.guards) (h5 : A'.units ≤ A.units) : wpAny M A' t Q E s :=
  fun Γ p hΓ => h Γ p ⟨hΓ.1.trans h1, Nat.le_trans hΓ.2.1 h2, fun l hl => (h3.elim (fun e => by rw [e] at hl; cases hl) fun e => hΓ.2.2.1 l (e.trans hl)),
    fun g hg => (h4.elim (fun e => by rw [e] at hg; cases hg) fun e => hΓ.2.2.2.1 g (e.trans hg)), Nat.le_trans hΓ.2.2.2.2 h5⟩
/-- a written ground: 900 frames deep, 5000 units -/
noncomputable abbrev AR : Around := { handled := none, depth := 900, frames := none, guards := some [], units := 5000 }
theorem wpAny_AR {α : Type} {M : Model} {A' : Around} {t : Sem α} {Q : α → Shared → Prop} {E : Value → Shared → Prop} {s : Shared} (h : wpAny M AR t Q E s)
    (h1 : A'.handled = none) (h2 : A'.depth ≤ 900) (h4 : A'.guards = some []) (h5 : A'.units ≤ 5000) : wpAny M A' t Q E s :=
  wpAny_around h h1 h2 (.inl rfl) (.inr h4) h5
end
section
open PySem PySem.W PySem.Calls PyProof.Rows
structure HsvF (r g b H sx v : UInt64) : Prop where
  z1 : Float64.isZero (mx3 r g b) = false
  z2 : Float64.isZero (Float64.sub (mx3 r g b) (mn3 r g b)) = false
  ne : (Float64.cmp (mn3 r g b) (mx3 r g b) == some .eq) = false
  h : hueH (mx3 r g b) r g b (Float64.sub (mx3 r g b) (mn3 r g b)) = H
  s : Float64.div (Float64.sub (mx3 r g b) (mn3 r g b)) (mx3 r g b) = sx
  v : mx3 r g b = v
structure HlsF (r g b H l sx : UInt64) : Prop where
  z0 : Float64.isZero (Float64.add (mx3 r g b) (mn3 r g b)) = false
  z1 : Float64.isZero (Float64.sub (Float64.sub c2 (mx3 r g b)) (mn3 r g b)) = false
  z2 : Float64.isZero (Float64.sub (mx3 r g b) (mn3 r g b)) = false
  ne : (Float64.cmp (mn3 r g b) (mx3 r g b) == some .eq) = false
  h : hueH (mx3 r g b) r g b (Float64.sub (mx3 r g b) (mn3 r g b)) = H
  l : Float64.div (Float64.add (mx3 r g b) (mn3 r g b)) c2 = l
  s : hlsS (mx3 r g b) (mn3 r g b) = sx
structure YiqF (r g b y i q : UInt64) : Prop where
  y : yY r g b = y
  i : yI r g b = i
  q : yQ r g b = q
structure YiqrF (y i q r g b : UInt64) : Prop where
  r : rR y i q = r
  g : rG y i q = g
  b : rB y i q = b
structure HlsrF (h l sx r g b : UInt64) : Prop where
  ne : (Float64.cmp sx 0 == some .eq) = false
  r : vF (Float64.sub (Float64.mul c2 l) (m2F l sx)) (m2F l sx) (Float64.add h cT3) = r
  g : vF (Float64.sub (Float64.mul c2 l) (m2F l sx)) (m2F l sx) h = g
  b : vF (Float64.sub (Float64.mul c2 l) (m2F l sx)) (m2F l sx) (Float64.sub h cT3) = b
structure Rnd (x : UInt64) (n : Int) : Prop where
  f : Float64.isFinite (Float64.mul x (Float64.ofInt 274877906944)) = true
  n : PySem.Flt.toInt Float64.nearestOf (Float64.mul x (Float64.ofInt 274877906944)) = n
noncomputable abbrev FT3 (a b c : Value) : Obj := { cls := .type "tuple", data := .seq #[a, b, c] }
section
variable {w : World} {A : Around} {s : Shared} {mean : ExcName → Option Value} {mg mb : Str → Option Value} {Q E : Value → Shared → Prop} {t1 t2 t3 : Tok} {h₀ : Heap} {L : Addr} {m : Str → Option Value} {news : List (Addr × Obj)}
theorem callL {f : Addr} {args : List Value} {a b c : UInt64} (F : Fr h₀ L s.heap m) (N : News h₀ L s.heap news)
    (h : (∀ x h' tk', @LT.lt Nat _ 0 tk' → Keeps s.heap h' → s.heap.get? x = none → FTup h' x a b c → Q (.ref x) { s with heap := h', toks := tk' }) → wpAny (model PP w) A (call (.ref f) args) Q E s)
    (ret : ∀ x h' tk' u1 u2 u3, @LT.lt Nat _ 0 tk' → (@LT.lt Nat _ 0 u1 ∧ @LT.lt Nat _ 0 u2 ∧ @LT.lt Nat _ 0 u3) → Fr h₀ L h' m → News h₀ L h' ((x, FT3 (.float a u1) (.float b u2) (.float c u3)) :: news) → (∀ p ∈ news, p.1 ≠ x) → Q (.ref x) { s with heap := h', toks := tk' }) :
    wpAny (model PP w) A (call (.ref f) args) Q E s := by
  refine h fun x h' tk' k0 k n ft => ?_
  obtain ⟨u1, u2, u3, k1, e⟩ := ft
  exact ret x h' tk' u1 u2 u3 k0 k1 (Fr.mk' F k) (News.add F N k e n) fun p hp q => by have := (N p hp).1; rw [q, n] at this; cases this
theorem hsvP {r g b H sx v : UInt64} (hf : HsvF r g b H sx v) (F : Fr h₀ L s.heap m) (N : News h₀ L s.heap news) (X : (KK w).In h₀) (T : TT mean mg mb h₀) (hr : A.depth < recursionLimit) (hh : A.handled = none) (h0k : @LT.lt Nat _ 0 s.toks) (h0t : @LT.lt Nat _ 0 t1 ∧ @LT.lt Nat _ 0 t2 ∧ @LT.lt Nat _ 0 t3)
    (ret : ∀ x h' tk' u1 u2 u3, @LT.lt Nat _ 0 tk' → (@LT.lt Nat _ 0 u1 ∧ @LT.lt Nat _ 0 u2 ∧ @LT.lt Nat _ 0 u3) → Fr h₀ L h' m → News h₀ L h' ((x, FT3 (.float H u1) (.float sx u2) (.float v u3)) :: news) → (∀ p ∈ news, p.1 ≠ x) → Q (.ref x) { s with heap := h', toks := tk' }) :
    wpAny (model PP w) A (call (.ref 56) [.float r t1, .float g t2, .float b t3]) Q E s :=
  callL F N (fun k => hsv_call (X.keeps F.keep) (T.keeps F.keep) hr hh h0k h0t.1 h0t.2.1 h0t.2.2 hf.z1 hf.z2 hf.ne (by rw [hf.h, hf.s, hf.v]; exact k)) ret
theorem hlsP {r g b H l sx : UInt64} (hf : HlsF r g b H l sx) (F : Fr h₀ L s.heap m) (N : News h₀ L s.heap news) (X : (KK w).In h₀) (T : TT mean mg mb h₀) (hr : A.depth < recursionLimit) (hh : A.handled = none) (h0k : @LT.lt Nat _ 0 s.toks) (h0t : @LT.lt Nat _ 0 t1 ∧ @LT.lt Nat _ 0 t2 ∧ @LT.lt Nat _ 0 t3)
    (ret : ∀ x h' tk' u1 u2 u3, @LT.lt Nat _ 0 tk' → (@LT.lt Nat _ 0 u1 ∧ @LT.lt Nat _ 0 u2 ∧ @LT.lt Nat _ 0 u3) → Fr h₀ L h' m → News h₀ L h' ((x, FT3 (.float H u1) (.float l u2) (.float sx u3)) :: news) → (∀ p ∈ news, p.1 ≠ x) → Q (.ref x) { s with heap := h', toks := tk' }) :
    wpAny (model PP w) A (call (.ref 35) [.float r t1, .float g t2, .float b t3]) Q E s :=
  callL F N (fun k => hls_call (X.keeps F.keep) (T.keeps F.keep) hr hh h0k h0t.1 h0t.2.1 h0t.2.2 hf.z0 hf.z1 hf.z2 hf.ne (by rw [hf.h, hf.l, hf.s]; exact k)) ret
theorem yiqP {r g b y i q : UInt64} (hf : YiqF r g b y i q) (F : Fr h₀ L s.heap m) (N : News h₀ L s.heap news) (X : (KK w).In h₀) (T : TT mean mg mb h₀) (hr : A.depth < recursionLimit) (hh : A.handled = none) (h0k : @LT.lt Nat _ 0 s.toks) (h0t : @LT.lt Nat _ 0 t1 ∧ @LT.lt Nat _ 0 t2 ∧ @LT.lt Nat _ 0 t3)
    (ret : ∀ x h' tk' u1 u2 u3, @LT.lt Nat _ 0 tk' → (@LT.lt Nat _ 0 u1 ∧ @LT.lt Nat _ 0 u2 ∧ @LT.lt Nat _ 0 u3) → Fr h₀ L h' m → News h₀ L h' ((x, FT3 (.float y u1) (.float i u2) (.float q u3)) :: news) → (∀ p ∈ news, p.1 ≠ x) → Q (.ref x) { s with heap := h', toks := tk' }) :
    wpAny (model PP w) A (call (.ref 21) [.float r t1, .float g t2, .float b t3]) Q E s :=
  callL F N (fun k => yiq_call (X.keeps F.keep) (T.keeps F.keep) hr hh h0k h0t.1 h0t.2.1 h0t.2.2 (by rw [hf.y, hf.i, hf.q]; exact k)) ret
theorem yiqrP {y i q r g b : UInt64} (hf : YiqrF y i q r g b) (F : Fr h₀ L s.heap m) (N : News h₀ L s.heap news) (X : (KK w).In h₀) (T : TT mean mg mb h₀) (hr : A.depth < recursionLimit) (hh : A.handled = none) (h0k : @LT.lt Nat _ 0 s.toks) (h0t : @LT.lt Nat _ 0 t1 ∧ @LT.lt Nat _ 0 t2 ∧ @LT.lt Nat _ 0 t3)
    (ret : ∀ x h' tk' u1 u2 u3, @LT.lt Nat _ 0 tk' → (@LT.lt Nat _ 0 u1 ∧ @LT.lt Nat _ 0 u2 ∧ @LT.lt Nat _ 0 u3) → Fr h₀ L h' m → News h₀ L h' ((x, FT3 (.float r u1) (.float g u2) (.float b u3)) :: news) → (∀ p ∈ news, p.1 ≠ x) → Q (.ref x) { s with heap := h', toks := tk' }) :
    wpAny (model PP w) A (call (.ref 28) [.float y t1, .float i t2, .float q t3]) Q E s :=
  callL F N (fun k => yiqr_call (X.keeps F.keep) (T.keeps F.keep) hr hh h0k h0t.1 h0t.2.1 h0t.2.2 (by rw [hf.r, hf.g, hf.b]; exact k)) ret
theorem hlsrP {h l sx r g b : UInt64} (hf : HlsrF h l sx r g b) (F : Fr h₀ L s.heap m) (N : News h₀ L s.heap news) (X : (KK w).In h₀) (T : TT mean mg mb h₀) (hr : A.depth + 1 < recursionLimit) (hh : A.handled = none) (h0k : @LT.lt Nat _ 0 s.toks) (h0t : @LT.lt Nat _ 0 t1 ∧ @LT.lt Nat _ 0 t2 ∧ @LT.lt Nat _ 0 t3)
    (ret : ∀ x h' tk' u1 u2 u3, @LT.lt Nat _ 0 tk' → (@LT.lt Nat _ 0 u1 ∧ @LT.lt Nat _ 0 u2 ∧ @LT.lt Nat _ 0 u3) → Fr h₀ L h' m → News h₀ L h' ((x, FT3 (.float r u1) (.float g u2) (.float b u3)) :: news) → (∀ p ∈ news, p.1 ≠ x) → Q (.ref x) { s with heap := h', toks := tk' }) :
    wpAny (model PP w) A (call (.ref 42) [.float h t1, .float l t2, .float sx t3]) Q E s :=
  callL F N (fun k => hlsr_call (X.keeps F.keep) (T.keeps F.keep) (by omega) hh h0k h0t.1 h0t.2.1 h0t.2.2 hr hf.ne (by rw [hf.r, hf.g, hf.b]; exact k)) ret
end
section
variable {prog : Program} {w : World} {A : Around} {E : Value → Shared → Prop} {s : Shared} {Q : Value → Shared → Prop}
structure EqI (a b : Int) : Prop where
  e : a = b
theorem mulEqL {a b c : Int} {t u : Tok} (e : EqI (a * b) c) (hm : Builtin.Int.intBits a ≤ 64) (h : Q (.int c s.toks) { s with toks := s.toks + 1 }) : wpAny (model prog w) A (binaryOp .Mult (.int a t) (.int b u)) Q E s :=
  AutoIntOps.mul_0 (e.e ▸ h) (IntMulOk.of_left hm)
structure EqF (a b : UInt64) : Prop where
  e : a = b
theorem divEqL {a b : Int} {x : UInt64} {t u : Tok} (hA : A.handled = none) (e : EqF (FR a.toNat b.toNat) x) (h0 : 0 ≤ a ∧ a < 1152921504606846976) (hb : 0 < b) (h : Q (.float x s.toks) { s with toks := s.toks + 1 }) : wpAny (model prog w) A (binaryOp .Div (.int a t) (.int b u)) Q E s :=
  diviiL hA h0 hb (e.e ▸ h)
theorem mulOkL {a b : Int} {t u : Tok} (hm : Builtin.Int.intBits a ≤ 64) (h : Q (.int (a * b) s.toks) { s with toks := s.toks + 1 }) : wpAny (model prog w) A (binaryOp .Mult (.int a t) (.int b u)) Q E s :=
  AutoIntOps.mul_0 h (IntMulOk.of_left hm)
theorem addEqL {a b c : Int} {t u : Tok} (e : EqI (a + b) c) (h : Q (.int c s.toks) { s with toks := s.toks + 1 }) : wpAny (model prog w) A (binaryOp .Add (.int a t) (.int b u)) Q E s :=
  AutoIntOps.add_0 (e.e ▸ h)
theorem modEqL {a b c : Int} {t u : Tok} (e : EqI (a.fmod b) c) (hb : ¬ (b == 0) = true) (h : Q (.int c s.toks) { s with toks := s.toks + 1 }) : wpAny (model prog w) A (binaryOp .Mod (.int a t) (.int b u)) Q E s :=
  AutoIntOps.mod_1 hb (e.e ▸ h)
structure ShIs (bo P bp : Int) (sh : UInt64) : Prop where
  le : bo ≤ 1073741824 → FR P.toNat (2048 - P).toNat = sh
  gt : ¬ bo ≤ 1073741824 → FR bp.toNat (2147483648 - bo).toNat = sh
theorem floatJoin {e : Expr} {env : Env} {M : Model} {bo P bp : Int} {sh : UInt64} (_hs : ShIs bo P bp sh) (h : wpAny M A (eval e env) (fun v s' => ∃ u tk, (@LT.lt Nat _ 0 u ∧ @LT.lt Nat _ 0 tk) ∧ v = .float sh u ∧ s' = { s with toks := tk }) E s) (k : ∀ u tk, @LT.lt Nat _ 0 u → @LT.lt Nat _ 0 tk → Q (.float sh u) { s with toks := tk }) : wpAny M A (eval e env) Q E s :=
  wpAny_mono h (fun v s' ⟨u, tk, e0, e1, e2⟩ => by subst e1; subst e2; exact k u tk e0.1 e0.2) fun _ _ x => x
theorem join_le {bo P bp : Int} {sh : UInt64} {u₀ : Tok} {tk₀ : Nat} (hs : ShIs bo P bp sh) (h : bo ≤ 1073741824) (h0 : @LT.lt Nat _ 0 u₀ ∧ @LT.lt Nat _ 0 tk₀) : ∃ u tk, (@LT.lt Nat _ 0 u ∧ @LT.lt Nat _ 0 tk) ∧ Value.float (FR P.toNat (2048 - P).toNat) u₀ = .float sh u ∧ { s with toks := tk₀ } = { s with toks := tk } := ⟨u₀, tk₀, h0, by rw [hs.le h], rfl⟩
theorem join_gt {bo P bp : Int} {sh : UInt64} {u₀ : Tok} {tk₀ : Nat} (hs : ShIs bo P bp sh) (h : ¬ bo ≤ 1073741824) (h0 : @LT.lt Nat _ 0 u₀ ∧ @LT.lt Nat _ 0 tk₀) : ∃ u tk, (@LT.lt Nat _ 0 u ∧ @LT.lt Nat _ 0 tk) ∧ Value.float (FR bp.toNat (2147483648 - bo).toNat) u₀ = .float sh u ∧ { s with toks := tk₀ } = { s with toks := tk } := ⟨u₀, tk₀, h0, by rw [hs.gt h], rfl⟩
end
section
variable {prog : Program} {w : World} {A : Around} {E : Value → Shared → Prop} {s : Shared} {Q : Value → Shared → Prop} {h₀ : Heap} {L : Addr} {m : Str → Option Value} {news : List (Addr × Obj)}
/-- [x] * 3, the list being the newest of the ledger -/
theorem mul3L {l : Addr} {x : Value} {n : Nat} {u : Tok} (F : Fr h₀ L s.heap m) (N : News h₀ L s.heap ((l, listOf #[x] n) :: news))
    (h : ∀ D h', Fr h₀ L h' m → News h₀ L h' ((D, listOf #[x, x, x] 0) :: (l, listOf #[x] n) :: news) → (∀ p ∈ (l, listOf #[x] n) :: news, p.1 < D) → Q (.ref D) { s with heap := h' }) : wpAny (model prog w) A (binaryOp .Mult (.ref l) (.int 3 u)) Q E s :=
  KMa.mul (vs := [x]) F N (News.isList N (List.Mem.head _)) (by decide) (by decide) (by decide : 1 * 3 ≤ 256) rfl h
end
end
section
open PySem PySem.W PySem.Calls PyProof.Rows PySem.SeqAt
inductive FlIs : List Value → List UInt64 → Prop
  | nil : FlIs [] []
  | cons {f : UInt64} {t : Tok} {vs : List Value} {fs : List UInt64} : @LT.lt Nat _ 0 t → FlIs vs fs → FlIs (.float f t :: vs) (f :: fs)
theorem FlIs.length {vs fs} (h : FlIs vs fs) : vs.length = fs.length := by induction h <;> simp_all
theorem FlIs.get {vs : List Value} {fs : List UInt64} (h : FlIs vs fs) : ∀ {j : Nat} (h1 : j < vs.length), ∃ f t, f ∈ fs ∧ @LT.lt Nat _ 0 t ∧ vs[j] = .float f t ∧ fs[j]? = some f := by
  induction h with
  | nil => intro j h1; exact absurd h1 (Nat.not_lt_zero _)
  | @cons f t vs fs h0 _ ih =>
    intro j h1
    cases j with
    | zero => exact ⟨f, t, List.mem_cons_self, h0, rfl, rfl⟩
    | succ j => obtain ⟨f', t', hm, h0', e, e'⟩ := ih (j := j) (by simpa using h1); exact ⟨f', t', List.mem_cons_of_mem _ hm, h0', by simpa using e, by simpa using e'⟩
theorem none_booked {K : Frag} {h : Heap} {o : Obj} {n : Nat} (X : K.In h) (l : K.lookup cStatics = some o) (e : o.data = .dict #[] n) : NoneBooked h :=
  ⟨fun _ => none, ⟨o, #[], n, X _ _ l, e, by intro x hx; simp at hx, fun _ => rfl⟩, rfl⟩
theorem nb_keeps {h h' : Heap} (x : NoneBooked h) (k : Keeps h h') : NoneBooked h' := let ⟨mc, a, b⟩ := x; ⟨mc, a.keeps k, b⟩
section
variable {prog : Program} {w : World} {A : Around} {E : Value → Shared → Prop} {s : Shared} {Q : Value → Shared → Prop}
theorem sameFloat {M : Model} {a b : UInt64} {t u : Tok} {R : Bool → Shared → Prop} (ht : @LT.lt Nat _ 0 t) (hu : @LT.lt Nat _ 0 u) (hb : NoneBooked s.heap) (hq : ∀ b, R b s) : wpAny M A (isSame (.float a t) (.float b u)) R E s := by
  have h0 : (t == 0 || u == 0) = false := by
    have h1 : t ≠ 0 := by intro e; subst e; exact absurd ht (by decide)
    have h2 : u ≠ 0 := by intro e; subst e; exact absurd hu (by decide)
    simp [h1, h2]
  show wpAny M A (isSame.created (a == b && !Float64.isNaN a) t u) R E s
  unfold isSame.created
  refine wpAny_ite ?_
  split
  · rename_i h; rw [h0] at h; exact absurd h Bool.false_ne_true
  refine wpAny_ite ?_
  split
  · exact wpAny_pure (hq _)
  refine wpAny_ite ?_
  split
  · exact wpAny_pure (hq _)
  refine wpAny_bind (wpAny_sharingNotTold_none hb ?_)
  first | rw [if_neg Bool.false_ne_true] | simp only [Bool.false_eq_true, if_false]
  refine wpAny_bind (wpAny_sharingNotTold_none hb ?_)
  first | rw [if_neg Bool.false_ne_true] | simp only [Bool.false_eq_true, if_false]
  exact wpAny_bind (wpAny_rule (wpAny_bind (wpAny_askSetting (wpAny_pure (hq _)))))
theorem eqFloat {a : UInt64} {t u : Tok} (ht : @LT.lt Nat _ 0 t) (hu : @LT.lt Nat _ 0 u) (hb : NoneBooked s.heap) (h : (Float64.cmp a a == some .eq) = true) : EqAt A s (.float a t) (.float a u) true := fun prog w E Q hq => by
  unfold eqBool
  refine wpAny_holding ?_
  refine wpAny_ite_split (fun _ => wpAny_bind (wpAny_rule (wpAny_pure hq))) (fun _ => ?_)
  refine wpAny_bind (sameFloat ht hu hb fun b => ?_)
  refine wpAny_ite_split (fun _ => wpAny_pure hq) (fun _ => ?_)
  refine wpAny_bind ?_
  show wpAny (model prog w) A (compareOp .Eq (.float a t) (.float a u)) _ _ _
  refine AutoFloatOps.eq_0 ?_
  rw [h]
  exact wpAny_truthy_bool hq
theorem ne_floats {a b : Addr} {xs ys : List Value} {fs : List UInt64} (ha : s.heap.IsList a xs.toArray) (hb : s.heap.IsList b ys.toArray) (hx : FlIs xs fs) (hy : FlIs ys fs) (hc : ∀ f ∈ fs, (Float64.cmp f f == some .eq) = true)
    (hn : NoneBooked s.heap) (hu : A.units < cLine) (h : Q (.bool false) s) : wpAny (model prog w) A (compareOp .NotEq (.ref a) (.ref b)) Q E s := by
  have hl : xs.toArray.size = ys.toArray.size := by simp [hx.length, hy.length]
  refine RcNeAt.lists (e := fun _ => true) ha hb hl hu (fun j h1 h2 => ?_) prog w E Q ?_
  · obtain ⟨f, t, hm, h0, e1, e1'⟩ := hx.get (j := j) (by simpa using h1)
    obtain ⟨f', t', _, h0', e2, e2'⟩ := hy.get (j := j) (by simpa using h2)
    rw [e1'] at e2'
    obtain rfl := Option.some.inj e2'
    simp only [List.getElem_toArray, e1, e2]
    exact eqFloat h0 h0' hn (hc f hm)
  · have : (!(List.range xs.toArray.size).all fun _ => true) = false := by simp
    rw [this]; exact h
noncomputable def flOf : List Value → List UInt64
  | [] => []
  | .float f _ :: r => f :: flOf r
  | _ :: r => flOf r
noncomputable def AllFl : List Value → Prop
  | [] => True
  | .float _ t :: r => @LT.lt Nat _ 0 t ∧ AllFl r
  | _ :: _ => False
theorem FlIs.of : ∀ {vs : List Value}, AllFl vs → FlIs vs (flOf vs)
  | [], _ => .nil
  | .float _ _ :: _, h => .cons h.1 (FlIs.of h.2)
theorem ne_fl {a b : Addr} {xs ys : List Value} {fs : List UInt64} (ha : s.heap.IsList a xs.toArray) (hb : s.heap.IsList b ys.toArray) (hx : AllFl xs) (hy : AllFl ys) (ex : flOf xs = fs) (ey : flOf ys = fs) (hc : ∀ f ∈ fs, (Float64.cmp f f == some .eq) = true)
    (hn : NoneBooked s.heap) (hu : A.units < cLine) (h : Q (.bool false) s) : wpAny (model prog w) A (compareOp .NotEq (.ref a) (.ref b)) Q E s :=
  ne_floats ha hb (ex ▸ FlIs.of hx) (ey ▸ FlIs.of hy) hc hn hu h
end
section
open LCg
variable {prog : Program} {w : World} {A : Around} {s : Shared} {h₀ : Heap} {L : Addr} {m : Str → Option Value} {env : Env} {ct elt : Expr} {x : Str} {scope : Scope} {cl : List (Str × Addr)} {S : List (Addr × Obj) → Prop} {P : Nat → Value → Prop}
  {Fin : List Value → List (Addr × Obj) → Prop} {news : List (Addr × Obj)}
/-- a list comprehension whose test drops every float -/
theorem allDropT (htest : ∀ f t I oI C oC D m₂ h tk (E' : Value → Shared → Prop), NsObj oC m₂ → m₂ x = some (.float f t) → Fr h₀ L h m → News h₀ L h ((I, oI) :: (C, oC) :: (D, lst []) :: news) →
      wpAny (model prog w) A (isTrue ct (compEnvC scope cl C env) (eval ct (compEnvC scope cl C env))) (fun ok s' => ok = false ∧ ∃ tk', s' = { s with heap := h, toks := tk' }) E' { s with heap := h, toks := tk })
    (hP : ∀ i v, P i v → ∃ f t, v = .float f t) (hS : S news) (hF : Fin [] news) : ∀ k i, LCt.CompRestT prog w A h₀ L m env ct elt x scope cl s S P Fin k i [] news
  | 0, _ => hF
  | k + 1, i => by
    intro v I oI C oC D m₂ h tk E' hPv hC hx F N off ne
    obtain ⟨f, t, rfl⟩ := hP _ _ hPv
    refine wpAny_mono (htest f t I oI C oC D m₂ h tk E' hC hx F N) (fun ok s' he => ?_) fun _ _ e => e
    obtain ⟨rfl, tk', rfl⟩ := he
    rw [if_neg (by simp)]
    exact ⟨h, tk', news, rfl, F, N, off, hS, allDropT htest hP hS hF k (i + 1)⟩
end
end
section
open PySem PySem.W PySem.Calls PyProof.Rows PySem.SeqAt
theorem allFl_get : ∀ {vs : List Value}, AllFl vs → ∀ (i : Nat) (v : Value), vs.toArray[i]? = some v → ∃ f t, v = Value.float f t := by
  intro vs h i v e
  have e' : vs[i]? = some v := by simpa using e
  obtain ⟨hlt, he⟩ := List.getElem?_eq_some_iff.mp e'
  obtain ⟨f, t, _, _, q, _⟩ := (FlIs.of h).get (j := i) hlt
  exact ⟨f, t, by rw [← he, q]⟩
noncomputable def inOf : List Value → List Int
  | [] => []
  | .int n _ :: r => n :: inOf r
  | _ :: r => inOf r
noncomputable def AllIn : List Value → Prop
  | [] => True
  | .int _ _ :: r => AllIn r
  | _ :: _ => False
theorem ints_of : ∀ {vs : List Value}, AllIn vs → IntsAre vs (inOf vs)
  | [], _ => .nil
  | .int _ t :: _, h => .cons _ t (ints_of h)
section
variable {prog : Program} {w : World} {A : Around} {E : Value → Shared → Prop} {s : Shared} {Q : Value → Shared → Prop}
theorem eq_in {a b : Addr} {xs ys : List Value} (ha : s.heap.IsList a xs.toArray) (hb : s.heap.IsList b ys.toArray) (hx : AllIn xs) (hy : AllIn ys) (e : inOf xs = inOf ys)
    (hu : A.units + 64 < cLine) (h : Q (.bool true) s) : wpAny (model prog w) A (compareOp .Eq (.ref a) (.ref b)) Q E s :=
  ke_eq_ints ha hb (ints_of hx) (ints_of hy) hu (by rw [decide_eq_true e]; exact h)
theorem roundRnd {x : UInt64} {n : Int} {t : Tok} (hA : A.handled = none) (hr : Rnd x n) (h : Q (.int n s.toks) { s with toks := s.toks + 1 }) : wpAny (model prog w) A (call (.builtin "round") [.float (Float64.mul x (Float64.ofInt 274877906944)) t]) Q E s :=
  roundL hA hr.f hr.n h
theorem mul38 {x : UInt64} {t u : Tok} (h : Q (.float (Float64.mul x (Float64.ofInt 274877906944)) s.toks) { s with toks := s.toks + 1 }) : wpAny (model prog w) A (binaryOp .Mult (.float x t) (.int 274877906944 u)) Q E s :=
  mulfiL (by decide +kernel) h
end
end
section

open PySem PySem.Float64
section
variable {P B d : Nat}
theorem c2_is : c2 = FR 549755813888 (2 ^ 38) := by decide +kernel
theorem c2_is' : c2 = FR 2 (2 ^ 0) := by decide +kernel
theorem addC (h : Nums P B) : add (FR (B * 262144) (2 ^ 38)) (FR (partN P B 256) (2 ^ 38)) = FR (B * (2048 - P) * 256) (2 ^ 38) := by
  have h4 := h.b2
  have l := partN_le (a := 256) h
  have hb := h.bo
  rw [addX (by omega) (by omega) (by decide)]
  refine congrArg (fun n => FR n (2 ^ 38)) ?_
  have s := partN_sub h (a := 256) (by decide)
  have z := partN_anti (P := P) (B := B) (Nat.zero_le 256)
  have z0 : partN P B 0 = B * 262144 := by unfold partN; simp
  rw [z0] at z
  have hs := h.both
  omega
theorem restC (h : Nums P B) : sub (sub c2 (FR (B * 262144) (2 ^ 38))) (FR (partN P B 256) (2 ^ 38)) = FR ((2147483648 - B * (2048 - P)) * 256) (2 ^ 38) := by
  have h4 := h.b2
  have l := partN_le (a := 256) h
  have hb := h.bo
  have s := partN_sub h (a := 256) (by decide)
  have z := partN_anti (P := P) (B := B) (Nat.zero_le 256)
  have z0 : partN P B 0 = B * 262144 := by unfold partN; simp
  rw [z0] at z
  have hs := h.both
  rw [c2_is, subX (by decide) (by omega) (by decide) (by omega), subX (by omega) (by omega) (by decide) (by omega)]
  refine congrArg (fun n => FR n (2 ^ 38)) ?_
  omega
theorem hsvC (h : Nums P B) (hd : d < 512) : HsvF (colF P B d 0) (colF P B d 512) (colF P B d 1024) (FR d 512) (FR P 1024) (FR B 1048576) := by
  have h1 := h.p1; have h2 := h.p2; have h3 := h.b1; have h4 := h.b2
  have hp := h.bp
  have mx := mxC h hd
  have mn := mnC h hd
  have rg := rangeC h
  refine ⟨?_, ?_, ?_, ?_, ?_, ?_⟩
  · rw [mx]; exact zeroX (by omega) (by decide) (by omega)
  · rw [mx, mn, rg]; exact zeroX (by omega) (by decide) (by omega)
  · rw [mx, mn, eqC h (by decide)]; rfl
  · rw [mx, mn, rg]; exact hueC h hd
  · rw [mx, mn, rg]
    refine divX (by omega) (by omega) (by decide) (by decide) (by omega) (by decide) ?_
    have q : P * (B * 262144) = B * P * 262144 := by rw [← Nat.mul_assoc, Nat.mul_comm P B]
    rw [q]
    omega
  · rw [mx]
    exact FR_eq (Nat.two_pow_pos _) (by decide) (by omega)
theorem hlsC (h : Nums P B) (hd : d < 512) : HlsF (colF P B d 0) (colF P B d 512) (colF P B d 1024) (FR d 512) (FR (B * (2048 - P)) (2 ^ 31)) (shF P B) := by
  have h1 := h.p1; have h2 := h.p2; have h3 := h.b1; have h4 := h.b2
  have hp := h.bp
  have hb := h.bo
  have mx := mxC h hd
  have mn := mnC h hd
  have rg := rangeC h
  have ad := addC h
  have rs := restC h
  have hl : div (FR (B * (2048 - P) * 256) (2 ^ 38)) c2 = FR (B * (2048 - P)) (2 ^ 31) := by
    rw [c2_is']
    refine divX (by omega) (by decide) (by decide) (by decide) (by decide) (Nat.two_pow_pos _) ?_
    omega
  refine ⟨?_, ?_, ?_, ?_, ?_, ?_, ?_⟩
  · rw [mx, mn, ad]; exact zeroX (by omega) (by decide) (by omega)
  · rw [mx, mn, rs]; exact zeroX (by omega) (by decide) (by omega)
  · rw [mx, mn, rg]; exact zeroX (by omega) (by decide) (by omega)
  · rw [mx, mn, eqC h (by decide)]; rfl
  · rw [mx, mn, rg]; exact hueC h hd
  · rw [mx, mn, ad]; exact hl
  · rw [mx, mn]
    unfold hlsS shF
    rw [ad, hl, leH_is hb.2, rg, rs]
    by_cases c : B * (2048 - P) ≤ 1073741824
    · rw [if_pos (by simpa using c), if_pos c]
      refine divX (by omega) (by omega) (by decide) (by decide) (by omega) (by omega) ?_
      generalize (2 : Nat) ^ 38 = T
      calc B * P * 256 * T * (2048 - P) = P * (B * (2048 - P) * 256) * T := by ac_rfl
        _ = P * (B * (2048 - P) * 256) * T := rfl
    · rw [if_neg (by simpa using c), if_neg c]
      refine divX (by omega) (by omega) (by decide) (by decide) (by omega) (by omega) ?_
      generalize (2 : Nat) ^ 38 = T
      generalize 2147483648 - B * (2048 - P) = X
      ac_rfl
theorem colFn (h : Nums P B) (c : Nat) : Fn (colF P B d c) ∧ rv (colF P B d c) = (partN P B (aOf d c) : Rat) / 274877906944 := by
  have l := partN_le (a := aOf d c) h
  exact rv_FR (by omega) (by decide)
theorem col01 (h : Nums P B) (c : Nat) : 0 ≤ rv (colF P B d c) ∧ rv (colF P B d c) ≤ 1 := by
  rw [(colFn h c).2]
  have l := Rat.natCast_le_natCast.mpr (partN_le (a := aOf d c) h)
  have l0 := Rat.natCast_le_natCast.mpr (Nat.zero_le (partN P B (aOf d c)))
  have e : ((274877906944 : Nat) : Rat) = 274877906944 := rfl
  have e0 : ((0 : Nat) : Rat) = 0 := rfl
  rw [e] at l
  rw [e0] at l0
  generalize ((partN P B (aOf d c) : Nat) : Rat) = n at *
  constructor <;> grind
theorem cmp_self {x : UInt64} (h : Fn x) : (cmp x x == some .eq) = true := by
  obtain ⟨a, m, e, hd⟩ := h
  rw [cmp_right hd hd]; simp
theorem finite_of_fn {x : UInt64} (h : Fn x) : isFinite x = true := by
  obtain ⟨a, m, e, hd⟩ := h
  unfold isFinite; rw [hd]
/-- rounded in parts of 2 ^ 38 -/
theorem rnd_of {x : UInt64} {n : Nat} {e : Rat} (hx : Fn x) (hn : n ≤ 274877906944) (h : Near (rv x) ((n : Rat) / 274877906944) e) (he0 : 0 ≤ e) (he : e ≤ 1 / 1099511627776) : Rnd x (n : Int) := by
  have n0 : (0 : Rat) ≤ (n : Rat) := by have := Rat.natCast_le_natCast.mpr (Nat.zero_le n); simpa using this
  have n1 : (n : Rat) ≤ 274877906944 := by have := Rat.natCast_le_natCast.mpr hn; simpa using this
  obtain ⟨f, s⟩ := scale38 hx (by grind) (by grind)
  refine ⟨finite_of_fn f, ?_⟩
  obtain ⟨a, m, e', hd⟩ := id f
  rw [PySem.Flt.toInt_fin hd]
  have e1 : ((n : Int) : Rat) = (n : Rat) := Rat.intCast_natCast n
  refine nearest_is hd ?_ ?_
  · rw [e1]
    generalize rv (mul x (ofInt 274877906944)) = y at *
    generalize rv x = X at *
    generalize (n : Rat) = N at *
    grind
  · rw [e1]
    generalize rv (mul x (ofInt 274877906944)) = y at *
    generalize rv x = X at *
    generalize (n : Rat) = N at *
    grind
end
end
section

open PySem PySem.Float64
section
variable {P B d : Nat}
theorem yiqC (h : Nums P B) {y i q : UInt64} (hy : yY (colF P B d 0) (colF P B d 512) (colF P B d 1024) = y) (hi : yI (colF P B d 0) (colF P B d 512) (colF P B d 1024) = i) (hq : yQ (colF P B d 0) (colF P B d 512) (colF P B d 1024) = q) :
    (Rnd (rR y i q) (partN P B (aOf d 0) : Nat) ∧ Rnd (rG y i q) (partN P B (aOf d 512) : Nat) ∧ Rnd (rB y i q) (partN P B (aOf d 1024) : Nat)) ∧
    YiqrF (add y (ofInt 2)) i q c1 c1 c1 ∧ YiqrF (sub y (ofInt 2)) i q 0 0 0 := by
  obtain ⟨fr, er⟩ := colFn (d := d) h 0
  obtain ⟨fg, eg⟩ := colFn (d := d) h 512
  obtain ⟨fb, eb⟩ := colFn (d := d) h 1024
  have r01 := col01 (d := d) h 0
  have g01 := col01 (d := d) h 512
  have b01 := col01 (d := d) h 1024
  obtain ⟨fy, ny⟩ := yY_near fr fg fb r01.1 r01.2 g01.1 g01.2 b01.1 b01.2
  obtain ⟨⟨fi, ni⟩, ⟨fq, nq⟩⟩ := yIQ_near fr fg fb r01.1 r01.2 g01.1 g01.2 b01.1 b01.2
  rw [hy] at fy ny
  rw [hi] at fi ni
  rw [hq] at fq nq
  have p0 := partN_le (a := aOf d 0) h
  have p1 := partN_le (a := aOf d 512) h
  have p2 := partN_le (a := aOf d 1024) h
  obtain ⟨fp, np⟩ := addR fy k2.1 (by rw [k2.2]; grind) (by rw [k2.2]; grind)
  obtain ⟨fm, nm⟩ := subR fy k2.1 (by rw [k2.2]; grind) (by rw [k2.2]; grind)
  rw [k2.2] at np nm
  rw [er] at r01
  rw [eg] at g01
  rw [eb] at b01
  rw [er, eg, eb] at ny ni nq
  clear er eg eb hy hi hq
  generalize hR : (partN P B (aOf d 0) : Rat) / 274877906944 = R at *
  generalize hG : (partN P B (aOf d 512) : Rat) / 274877906944 = G at *
  generalize hB : (partN P B (aOf d 1024) : Rat) / 274877906944 = Bl at *
  obtain ⟨⟨a1, a2⟩, ⟨a3, a4⟩, ⟨a5, a6⟩⟩ := out_near (z := 0) fy fi fq r01.1 r01.2 g01.1 g01.2 b01.1 b01.2 (by grind) (by grind) (by constructor <;> grind) ni nq
  obtain ⟨⟨s1, s2⟩, ⟨s3, s4⟩, ⟨s5, s6⟩⟩ := out_near (z := 2) fp fi fq r01.1 r01.2 g01.1 g01.2 b01.1 b01.2 (by grind) (by grind) (by constructor <;> grind) ni nq
  obtain ⟨⟨t1, t2⟩, ⟨t3, t4⟩, ⟨t5, t6⟩⟩ := out_near (z := -2) fm fi fq r01.1 r01.2 g01.1 g01.2 b01.1 b01.2 (by grind) (by grind) (by constructor <;> grind) ni nq
  rw [Rat.add_zero] at a2 a4 a6
  have x1 := cl_near a1 a2 r01.1 r01.2
  have x2 := cl_near a3 a4 g01.1 g01.2
  have x3 := cl_near a5 a6 b01.1 b01.2
  refine ⟨⟨?_, ?_, ?_⟩, ⟨?_, ?_, ?_⟩, ⟨?_, ?_, ?_⟩⟩
  · exact rnd_of (e := 60 * u51) x1.1 p0 (by rw [hR]; exact x1.2) (by decide +kernel) (by decide +kernel)
  · exact rnd_of (e := 60 * u51) x2.1 p1 (by rw [hG]; exact x2.2) (by decide +kernel) (by decide +kernel)
  · exact rnd_of (e := 60 * u51) x3.1 p2 (by rw [hB]; exact x3.2) (by decide +kernel) (by decide +kernel)
  · exact cl_one s1 (by grind)
  · exact cl_one s3 (by grind)
  · exact cl_one s5 (by grind)
  · exact cl_zero t1 (by grind)
  · exact cl_zero t3 (by grind)
  · exact cl_zero t5 (by grind)
theorem part_rat (h : Nums P B) {a : Nat} (ha : a ≤ 256) : (B : Rat) * (1024 - (P : Rat)) / 1073741824 + ((B : Rat) / 1048576 - (B : Rat) * (1024 - (P : Rat)) / 1073741824) * (((256 - a : Nat) : Rat) / 256) = (partN P B a : Rat) / 274877906944 := by
  have e1 : ((256 - a : Nat) : Rat) = 256 - (a : Rat) := by
    have : ((256 - a : Nat) : Rat) + (a : Rat) = 256 := by rw [← Rat.natCast_add, Nat.sub_add_cancel ha]; rfl
    grind
  have e2 : (partN P B a : Rat) = (B : Rat) * (262144 - (P : Rat) * (a : Rat)) := by
    unfold partN
    rw [Rat.natCast_mul]
    have : ((262144 - P * a : Nat) : Rat) + (P : Rat) * (a : Rat) = 262144 := by rw [← Rat.natCast_mul, ← Rat.natCast_add, Nat.sub_add_cancel (Pa h ha)]; rfl
    have q : ((262144 - P * a : Nat) : Rat) = 262144 - (P : Rat) * (a : Rat) := by grind
    rw [q]
  rw [e1, e2]
  generalize (B : Rat) = b
  generalize (P : Rat) = p
  generalize (a : Rat) = x
  grind
theorem hlsrC (h : Nums P B) (hd : d < 512) {b0 b1 b2 : UInt64}
    (h0 : vF (sub (mul c2 (FR (B * (2048 - P)) (2 ^ 31))) (m2F (FR (B * (2048 - P)) (2 ^ 31)) (shF P B))) (m2F (FR (B * (2048 - P)) (2 ^ 31)) (shF P B)) (add (FR d 512) cT3) = b0)
    (h1 : vF (sub (mul c2 (FR (B * (2048 - P)) (2 ^ 31))) (m2F (FR (B * (2048 - P)) (2 ^ 31)) (shF P B))) (m2F (FR (B * (2048 - P)) (2 ^ 31)) (shF P B)) (FR d 512) = b1)
    (h2 : vF (sub (mul c2 (FR (B * (2048 - P)) (2 ^ 31))) (m2F (FR (B * (2048 - P)) (2 ^ 31)) (shF P B))) (m2F (FR (B * (2048 - P)) (2 ^ 31)) (shF P B)) (sub (FR d 512) cT3) = b2) :
    Rnd b0 (partN P B (aOf d 0) : Nat) ∧ Rnd b1 (partN P B (aOf d 512) : Nat) ∧ Rnd b2 (partN P B (aOf d 1024) : Nat) := by
  obtain ⟨fm, nm⟩ := m2_near h
  have hb := h.bo
  have hs := h.both
  have g1 := h.p1; have g2 := h.p2; have g3 := h.b1; have g4 := h.b2
  obtain ⟨fl, el⟩ := rv_FR (n := B * (2048 - P)) (k := 31) (by omega) (by decide)
  have e31 : ((2 ^ 31 : Nat) : Rat) = 2147483648 := rfl
  rw [e31] at el
  have eb : ((B * (2048 - P) : Nat) : Rat) = (B : Rat) * (2048 - (P : Rat)) := by
    rw [Rat.natCast_mul]
    have : ((2048 - P : Nat) : Rat) + (P : Rat) = 2048 := by rw [← Rat.natCast_add, Nat.sub_add_cancel (by omega)]; rfl
    have q : ((2048 - P : Nat) : Rat) = 2048 - (P : Rat) := by grind
    rw [q]
  rw [eb] at el
  have ep0 : (B : Rat) * (P : Rat) ≤ (B : Rat) * 1024 := Rat.mul_le_mul_of_nonneg_left (by have := Rat.natCast_le_natCast.mpr g2; simpa using this) (Rat.le_of_lt (natCast_pos' g3))
  have ep1 : (0 : Rat) ≤ (B : Rat) * (P : Rat) := Rat.mul_nonneg (Rat.le_of_lt (natCast_pos' g3)) (Rat.le_of_lt (natCast_pos' g1))
  have eB : (B : Rat) ≤ 1048576 := by have := Rat.natCast_le_natCast.mpr g4; simpa using this
  have eB0 : (0 : Rat) < (B : Rat) := natCast_pos' g3
  generalize FR (B * (2048 - P)) (2 ^ 31) = l at *
  generalize m2F l (shF P B) = m2 at *
  have L0 : 0 ≤ 2 * rv l := by rw [el]; generalize (B : Rat) = b at *; generalize (P : Rat) = p at *; grind
  have L1 : 2 * rv l ≤ 2 := by rw [el]; generalize (B : Rat) = b at *; generalize (P : Rat) = p at *; grind
  obtain ⟨f1, n1⟩ := mulR k2'.1 fl (by rw [k2'.2]; grind) (by rw [k2'.2]; grind)
  rw [k2'.2] at n1
  generalize mul c2 l = x at *
  have V0 : 0 ≤ (B : Rat) / 1048576 := by generalize (B : Rat) = b at *; grind
  have V1 : (B : Rat) / 1048576 ≤ 1 := by generalize (B : Rat) = b at *; grind
  obtain ⟨f2, n2⟩ := subR f1 fm (by grind) (by grind)
  generalize sub x m2 = m1 at *
  have nm1 : Near (rv m1) ((B : Rat) * (1024 - (P : Rat)) / 1073741824) (10 * u51) := by
    generalize (B : Rat) = b at *
    generalize (P : Rat) = p at *
    clear h0 h1 h2 L0 L1
    constructor <;> grind
  have nm2 : Near (rv m2) ((B : Rat) / 1048576) (10 * u51) := by clear h0 h1 h2; constructor <;> grind
  have P0 : 0 ≤ (B : Rat) * (1024 - (P : Rat)) / 1073741824 := by generalize (B : Rat) = b at *; generalize (P : Rat) = p at *; grind
  have PV : (B : Rat) * (1024 - (P : Rat)) / 1073741824 ≤ (B : Rat) / 1048576 := by generalize (B : Rat) = b at *; generalize (P : Rat) = p at *; grind
  have ok := okD_all hd
  unfold okD at ok
  obtain ⟨ok', ok2⟩ := Bool.and_eq_true_iff.mp ok
  obtain ⟨ok0, ok1⟩ := Bool.and_eq_true_iff.mp ok'
  have w0 := vF_near f2 fm nm1 nm2 (by decide +kernel) (by decide +kernel) P0 PV V1 (aOf_le d 0) ok0
  have w1 := vF_near f2 fm nm1 nm2 (by decide +kernel) (by decide +kernel) P0 PV V1 (aOf_le d 512) ok1
  have w2 := vF_near f2 fm nm1 nm2 (by decide +kernel) (by decide +kernel) P0 PV V1 (aOf_le d 1024) ok2
  rw [part_rat h (aOf_le d 0), h0] at w0
  rw [part_rat h (aOf_le d 512), h1] at w1
  rw [part_rat h (aOf_le d 1024), h2] at w2
  refine ⟨rnd_of w0.1 (partN_le h) w0.2 (by decide +kernel) (by decide +kernel), rnd_of w1.1 (partN_le h) w1.2 (by decide +kernel) (by decide +kernel), rnd_of w2.1 (partN_le h) w2.2 (by decide +kernel) (by decide +kernel)⟩
theorem shFn (h : Nums P B) : Fn (shF P B) ∧ 0 < rv (shF P B) := by
  have hb := h.bo
  have hp := h.bp
  have g1 := h.p1; have g2 := h.p2; have g4 := h.b2
  have hs := h.both
  unfold shF
  have gen : ∀ n D : Nat, 0 < n → n ≤ 8 * D → D ≤ 2147483648 → 0 < D → Fn (FR n D) ∧ 0 < rv (FR n D) := by
    intro n D hn hnD hD hD0
    obtain ⟨f, nn⟩ := FR_near hD0 hnD
    refine ⟨f, ?_⟩
    have n1 : (1 : Rat) ≤ (n : Rat) := by have := Rat.natCast_le_natCast.mpr (show 1 ≤ n from hn); simpa using this
    have d1 : (D : Rat) ≤ 2147483648 := by have := Rat.natCast_le_natCast.mpr hD; simpa using this
    have d0 : (0 : Rat) < (D : Rat) := natCast_pos' hD0
    have key : (n : Rat) / (D : Rat) * (D : Rat) = (n : Rat) := rat_div_mul (natR_ne hD0)
    have low : 1 / 2147483648 ≤ (n : Rat) / (D : Rat) := by
      refine Rat.le_of_mul_le_mul_right ?_ d0
      rw [key]; grind
    grind
  by_cases c : B * (2048 - P) ≤ 1073741824
  · rw [if_pos c]; exact gen _ _ (by omega) (by omega) (by omega) (by omega)
  · rw [if_neg c]; exact gen _ _ hp.1 (by omega) (by omega) (by omega)
theorem sh_ne (h : Nums P B) : (cmp (shF P B) 0 == some .eq) = false := by
  obtain ⟨f, q⟩ := shFn h
  have g := (cmp_gt f k0.1).mpr (by rw [k0.2]; exact q)
  have e : cmp (shF P B) 0 = some .gt := by simpa using g
  rw [e]; rfl
end
end
section

open PySem PySem.Float64
noncomputable def selN (j a0 a1 a2 a3 a4 a5 : Nat) : Nat := if j = 0 then a0 else if j = 1 then a1 else if j = 2 then a2 else if j = 3 then a3 else if j = 4 then a4 else a5
noncomputable def okS (S : Nat) : Bool :=
  isFinite (mul (FR (11 * S) 512) c6) && (PySem.Flt.toInt truncOf (mul (FR (11 * S) 512) c6) == ((33 * S / 256 : Nat) : Int)) && !isInf (ofInt ((33 * S / 256 : Nat) : Int)) &&
  (sub (mul (FR (11 * S) 512) c6) (ofInt ((33 * S / 256 : Nat) : Int)) == FR (33 * S % 256) 256) &&
  (selN (33 * S / 256 % 6) 0 (33 * S % 256) 256 256 (256 - 33 * S % 256) 0 == aOf (11 * S % 512) 0) &&
  (selN (33 * S / 256 % 6) (256 - 33 * S % 256) 0 0 (33 * S % 256) 256 256 == aOf (11 * S % 512) 512) &&
  (selN (33 * S / 256 % 6) 256 256 (256 - 33 * S % 256) 0 0 (33 * S % 256) == aOf (11 * S % 512) 1024)
theorem okS_0 : ((List.range 128).all fun d => okS d) = true := by decide +kernel
theorem okS_1 : ((List.range 128).all fun d => okS (d + 128)) = true := by decide +kernel
theorem okS_2 : ((List.range 128).all fun d => okS (d + 256)) = true := by decide +kernel
theorem okS_3 : ((List.range 128).all fun d => okS (d + 384)) = true := by decide +kernel
theorem okS_all {d : Nat} (h : d < 512) : okS d = true := by
  have key : ∀ k, ((List.range 128).all fun d => okS (d + 128 * k)) = true → d / 128 = k → okS d = true := by
    intro k hk e
    have := List.all_eq_true.mp hk (d % 128) (List.mem_range.mpr (Nat.mod_lt _ (by decide)))
    have e2 : d % 128 + 128 * k = d := by omega
    rw [e2] at this; exact this
  rcases (show d / 128 = 0 ∨ d / 128 = 1 ∨ d / 128 = 2 ∨ d / 128 = 3 by omega) with e | e | e | e
  · exact key 0 okS_0 e
  · exact key 1 okS_1 e
  · exact key 2 okS_2 e
  · exact key 3 okS_3 e
section
variable {P B : Nat}
theorem c1_10 : c1 = FR 1024 (2 ^ 10) := by decide +kernel
theorem c1_18 : c1 = FR 262144 (2 ^ 18) := by decide +kernel
theorem c1_8 : c1 = FR 256 (2 ^ 8) := by decide +kernel
theorem pX (h : Nums P B) : pF (FR P (2 ^ 10)) (FR B (2 ^ 20)) = FR (partN P B 256) (2 ^ 38) := by
  have g1 := h.p1; have g2 := h.p2; have g3 := h.b1; have g4 := h.b2
  unfold pF
  have e : sub c1 (FR P (2 ^ 10)) = FR (1024 - P) (2 ^ 10) := by rw [c1_10]; exact subX (by decide) (by omega) (by decide) (by omega)
  rw [e, mulX (by omega) (by omega) (by decide) (by decide), p256 h]
  refine FR_eq (Nat.two_pow_pos _) (Nat.two_pow_pos _) ?_
  have : B * 256 * (1024 - P) = B * (1024 - P) * 256 := by ac_rfl
  rw [this]; generalize B * (1024 - P) = X; omega
theorem qX (h : Nums P B) {f : Nat} (hf : f ≤ 256) : qF (FR P (2 ^ 10)) (FR B (2 ^ 20)) (FR f (2 ^ 8)) = FR (partN P B f) (2 ^ 38) := by
  have g1 := h.p1; have g2 := h.p2; have g3 := h.b1; have g4 := h.b2
  have hp := Pa h hf
  unfold qF
  have e0 : mul (FR P (2 ^ 10)) (FR f (2 ^ 8)) = FR (P * f) (2 ^ 18) := mulX (by omega) (by omega) (by decide) (by decide)
  have e : sub c1 (FR (P * f) (2 ^ 18)) = FR (262144 - P * f) (2 ^ 18) := by rw [c1_18]; exact subX (by decide) (by omega) (by decide) hp
  rw [e0, e, mulX (by omega) (by omega) (by decide) (by decide)]
  rfl
theorem tX (h : Nums P B) {f : Nat} (hf : f ≤ 256) : tF (FR P (2 ^ 10)) (FR B (2 ^ 20)) (FR f (2 ^ 8)) = FR (partN P B (256 - f)) (2 ^ 38) := by
  have e : sub c1 (FR f (2 ^ 8)) = FR (256 - f) (2 ^ 8) := by rw [c1_8]; exact subX (by decide) (by omega) (by decide) hf
  have q := qX h (f := 256 - f) (by omega)
  unfold tF
  rw [e]
  exact q
theorem vX (h : Nums P B) : FR B (2 ^ 20) = FR (partN P B 0) (2 ^ 38) := by
  unfold partN
  refine FR_eq (Nat.two_pow_pos _) (Nat.two_pow_pos _) ?_
  rw [Nat.mul_zero, Nat.sub_zero]; omega
theorem sel_FR {j : Nat} (hj : j < 6) {x0 x1 x2 x3 x4 x5 : UInt64} {a0 a1 a2 a3 a4 a5 : Nat} (h0 : x0 = FR (partN P B a0) (2 ^ 38)) (h1 : x1 = FR (partN P B a1) (2 ^ 38)) (h2 : x2 = FR (partN P B a2) (2 ^ 38)) (h3 : x3 = FR (partN P B a3) (2 ^ 38)) (h4 : x4 = FR (partN P B a4) (2 ^ 38)) (h5 : x5 = FR (partN P B a5) (2 ^ 38)) :
    sel ((j : Nat) : Int) x0 x1 x2 x3 x4 x5 = FR (partN P B (selN j a0 a1 a2 a3 a4 a5)) (2 ^ 38) := by
  subst h0 h1 h2 h3 h4 h5
  unfold sel selN
  rcases (show j = 0 ∨ j = 1 ∨ j = 2 ∨ j = 3 ∨ j = 4 ∨ j = 5 by omega) with rfl | rfl | rfl | rfl | rfl | rfl <;> simp
theorem paintC (h : Nums P B) {S : Nat} (hS : S < 512) :
    isFinite (mul (FR (11 * S) 512) c6) = true ∧ PySem.Flt.toInt truncOf (mul (FR (11 * S) 512) c6) = ((33 * S / 256 : Nat) : Int) ∧ ¬ isInf (ofInt ((33 * S / 256 : Nat) : Int)) = true ∧ (cmp (FR P 1024) 0 == some .eq) = false ∧
    (∀ F, F = sub (mul (FR (11 * S) 512) c6) (ofInt ((33 * S / 256 : Nat) : Int)) →
      sel (((33 * S / 256 : Nat) : Int).fmod 6) (FR B 1048576) (qF (FR P 1024) (FR B 1048576) F) (pF (FR P 1024) (FR B 1048576)) (pF (FR P 1024) (FR B 1048576)) (tF (FR P 1024) (FR B 1048576) F) (FR B 1048576) = colF P B (11 * S % 512) 0 ∧
      sel (((33 * S / 256 : Nat) : Int).fmod 6) (tF (FR P 1024) (FR B 1048576) F) (FR B 1048576) (FR B 1048576) (qF (FR P 1024) (FR B 1048576) F) (pF (FR P 1024) (FR B 1048576)) (pF (FR P 1024) (FR B 1048576)) = colF P B (11 * S % 512) 512 ∧
      sel (((33 * S / 256 : Nat) : Int).fmod 6) (pF (FR P 1024) (FR B 1048576)) (pF (FR P 1024) (FR B 1048576)) (tF (FR P 1024) (FR B 1048576) F) (FR B 1048576) (FR B 1048576) (qF (FR P 1024) (FR B 1048576) F) = colF P B (11 * S % 512) 1024) := by
  have ok := okS_all hS
  unfold okS at ok
  simp only [Bool.and_eq_true] at ok
  obtain ⟨⟨⟨⟨⟨⟨o1, o2⟩, o3⟩, o4⟩, o5⟩, o6⟩, o7⟩ := ok
  have g1 := h.p1; have g2 := h.p2
  refine ⟨o1, eq_of_beq o2, by simpa using o3, ?_, ?_⟩
  · have f := rv_FR (n := P) (k := 10) (by omega) (by decide)
    have z : (0 : UInt64) = FR 0 (2 ^ 10) := by decide +kernel
    have e := cmpX (a := P) (b := 0) (k := 10) (by omega) (by decide) (by decide)
    rw [← z, Nat.compare_eq_gt.mpr (show 0 < P by omega)] at e
    show (cmp (FR P (2 ^ 10)) 0 == some .eq) = false
    rw [e]; rfl
  · intro F hF
    rw [eq_of_beq o4] at hF
    subst hF
    have hf : 33 * S % 256 ≤ 256 := by omega
    have hj : (((33 * S / 256 : Nat) : Int).fmod 6) = ((33 * S / 256 % 6 : Nat) : Int) := by rw [Int.fmod_eq_emod_of_nonneg _ (by decide)]; rfl
    have j6 : 33 * S / 256 % 6 < 6 := Nat.mod_lt _ (by decide)
    rw [hj]
    have v := vX h
    have p := pX h
    have q := qX h hf
    have t := tX h hf
    refine ⟨?_, ?_, ?_⟩
    · unfold colF
      rw [← eq_of_beq o5]
      exact sel_FR j6 v q p p t v
    · unfold colF
      rw [← eq_of_beq o6]
      exact sel_FR j6 t v v q p p
    · unfold colF
      rw [← eq_of_beq o7]
      exact sel_FR j6 p p t v v q
end
end
section

open PySem PySem.Float64
noncomputable abbrev wayT (S c : Int) : Int := if (33 * S - c + 768).fmod 1536 - 768 < 0 then -((33 * S - c + 768).fmod 1536 - 768) else (33 * S - c + 768).fmod 1536 - 768
noncomputable abbrev mxT (x : Int) : Int := if x > 0 then x else 0
noncomputable abbrev mnT (y : Int) : Int := if y < 256 then y else 256
noncomputable abbrev partT (S P B c : Int) : Int := B * (262144 - P * mnT (mxT (wayT S c - 256)))
theorem way_aOf {S c : Nat} (hS : S < 512) (hc : c ≤ 1536) : mnT (mxT (wayT (S : Int) (c : Int) - 256)) = ((aOf (11 * S % 512) c : Nat) : Int) := by
  unfold wayT mxT mnT aOf
  have e : ((33 * (S : Int) - (c : Int) + 768).fmod 1536) = (((3 * (11 * S % 512) + 2304 - c) % 1536 : Nat) : Int) := by
    rw [Int.fmod_eq_emod_of_nonneg _ (by decide)]
    omega
  rw [e]
  generalize (3 * (11 * S % 512) + 2304 - c) % 1536 = x
  rw [Nat.min_def]
  repeat' split
  all_goals omega
theorem part_eq {P B S c : Nat} (h : Nums P B) (hS : S < 512) (hc : c ≤ 1536) : partT (S : Int) (P : Int) (B : Int) (c : Int) = ((partN P B (aOf (11 * S % 512) c) : Nat) : Int) := by
  unfold partT
  rw [way_aOf hS hc]
  unfold partN
  have := Pa h (aOf_le (11 * S % 512) c)
  generalize aOf (11 * S % 512) c = a at *
  rw [Int.natCast_mul, Int.ofNat_sub this, Int.natCast_mul]
  rfl
end
section
open PySem PySem.W PySem.Calls PyProof.Rows
theorem rules_z3 : True := by
  k_with_none
  k_with "call builtin:max" => ((with_reducible show wpAny _ _ (call _ [Value.float _ _, Value.float _ _, Value.float _ _]) _ _ _); (rename News _ _ _ _ => N'); (rename Fr _ _ _ _ => F'); refine max3L (by assumption) (by first | exact Nat.succ_pos _ | with_reducible assumption | omega | (dsimp only; first | exact Nat.succ_pos _ | with_reducible assumption | omega)) (by first | exact Nat.succ_pos _ | with_reducible assumption | omega | (dsimp only; first | exact Nat.succ_pos _ | with_reducible assumption | omega)) F' N' ?_; clear F' N'; intro h' tk' tt' htk' htt' F' N')
  k_with "call builtin:min" => ((with_reducible show wpAny _ _ (call _ [Value.float _ _, Value.float _ _, Value.float _ _]) _ _ _); (rename News _ _ _ _ => N'); (rename Fr _ _ _ _ => F'); refine min3L (by assumption) (by first | exact Nat.succ_pos _ | with_reducible assumption | omega | (dsimp only; first | exact Nat.succ_pos _ | with_reducible assumption | omega)) (by first | exact Nat.succ_pos _ | with_reducible assumption | omega | (dsimp only; first | exact Nat.succ_pos _ | with_reducible assumption | omega)) F' N' ?_; clear F' N'; intro h' tk' tt' htk' htt' F' N')
  k_with "binaryOp Div float float" => (refine divL (by first | assumption | decide +kernel) ?_)
  k_with "binaryOp Mod float float" => (refine modL (by first | assumption | decide +kernel) ?_)
  k_with "exec If" => ((with_reducible show wpAny _ _ (exec (Stmt.If (Expr.Compare (Expr.Name _ _) [_] [Expr.Constant _ _ _] _) [Stmt.Assign _ _ _] [] _) _) _ _ _); (rename News _ _ _ _ => N'); (rename Fr _ _ _ _ => F'); (with_reducible (first | refine' clampLt F' N' ?k1 ?k5 ?_ ?k2 ?k3 ?k4 | refine' clampGt F' N' ?k1 ?k5 ?_ ?k2 ?k3 ?k4)); (case k1 => k_dflt exact rfl); (case k5 => first | exact Nat.succ_pos _ | with_reducible assumption | omega | (dsimp only; first | exact Nat.succ_pos _ | with_reducible assumption | omega)); (case k2 => k_dflt exact rfl); (case k3 => k_dflt exact rfl); (case k4 => k_dflt decide); clear F' N'; intro h' tk' tt' htk' htt' F' N')
  k_with "execs cons" => (refine execs_toks (by first | exact Nat.succ_pos _ | with_reducible assumption | omega | (dsimp only; first | exact Nat.succ_pos _ | with_reducible assumption | omega)) ?_; intro tk' htk'; try dsimp only)
  k_with "TokPos" => (unfold TokPos; intro htk'; try dsimp only)
  k_with "mine_enter" => (k_dflt (refine' enter0 ?kX ?kT ?k6 ?k7 ?kr ?k9 ?kB ?_ ?c2 ?c3 ?c4 ?c5; (case kX => assumption); (case kT => assumption); (case kr => (first | assumption | decide | (k_dflt omega))); (case k6 => k_is); (case k7 => k_is); (case k9 => exact BindsTo.of_eq rfl); (case c5 => decide); (case kB => exact locs rfl); (case c2 => exact rfl); (case c3 => exact rfl); (case c4 => exact rfl); k_whole); intro L' h' F' N'; (try dsimp only); (try k_fold))
  k_with "mine_end3" => ((rename Fr _ _ _ _ => F9); (rename News _ _ _ _ => N9); (rename (∀ (_ : Addr), _) => ret9); refine ret9 _ _ _ (by first | exact Nat.succ_pos _ | with_reducible assumption | omega | (dsimp only; first | exact Nat.succ_pos _ | with_reducible assumption | omega)) (Fr.keep F9) (N9 _ (List.Mem.head _)).2.2 ?_; have q9 := (N9 _ (List.Mem.head _)).1; clear F9 N9 ret9; (first | (refine ⟨_, _, _, ?_, q9⟩; exact ⟨(by first | exact Nat.succ_pos _ | with_reducible assumption | omega | (dsimp only; first | exact Nat.succ_pos _ | with_reducible assumption | omega)), (by first | exact Nat.succ_pos _ | with_reducible assumption | omega | (dsimp only; first | exact Nat.succ_pos _ | with_reducible assumption | omega)), (by first | exact Nat.succ_pos _ | with_reducible assumption | omega | (dsimp only; first | exact Nat.succ_pos _ | with_reducible assumption | omega))⟩) | (simp only [hueH, if_true, if_false, Bool.false_eq_true, *]; (refine ⟨_, _, _, ?_, q9⟩; exact ⟨(by first | exact Nat.succ_pos _ | with_reducible assumption | omega | (dsimp only; first | exact Nat.succ_pos _ | with_reducible assumption | omega)), (by first | exact Nat.succ_pos _ | with_reducible assumption | omega | (dsimp only; first | exact Nat.succ_pos _ | with_reducible assumption | omega)), (by first | exact Nat.succ_pos _ | with_reducible assumption | omega | (dsimp only; first | exact Nat.succ_pos _ | with_reducible assumption | omega))⟩))))
  k_with "mine_end1" => ((rename Fr _ _ _ _ => F9); (rename News _ _ _ _ => N9); (rename (∀ (_ : Heap), _) => ret9); refine ret9 _ _ _ _ (by first | exact Nat.succ_pos _ | with_reducible assumption | omega | (dsimp only; first | exact Nat.succ_pos _ | with_reducible assumption | omega)) (by first | exact Nat.succ_pos _ | with_reducible assumption | omega | (dsimp only; first | exact Nat.succ_pos _ | with_reducible assumption | omega)) (Fr.keep F9) ?_; clear F9 N9 ret9; (first | rfl | (simp only [vF, hueF, if_true, if_false, Bool.false_eq_true, *]; done)))
  k_with "binaryOp Div int int" => (refine diviiL (by assumption) (by omega) (by omega) ?_)
  k_with "binaryOp Pow int int" => (with_reducible (first | refine pow38 ?_ | refine pow20 ?_ | refine pow18 ?_ | refine pow30 ?_ | refine pow31 ?_))
  trivial
theorem nums_of (paint : Int) : Nums (1 + paint.fmod 1024).toNat (1 + (paint.fdiv 1024).fmod 1048576).toNat := by
  have hp1 := fmod_range paint (b := 1024) (by decide)
  have hp2 := fmod_range (paint.fdiv 1024) (b := 1048576) (by decide)
  refine ⟨?_, ?_, ?_, ?_⟩ <;> omega
theorem painted_call : ∀ {w : World} {A : Around} {s : Shared} {mean : ExcName → Option Value} {mg mb : Str → Option Value} {Q E : Value → Shared → Prop} {n : Nat} {paint : Int} {t0 t1 : Tok},
    (KK w).In s.heap → TT mean mg mb s.heap → A.depth < recursionLimit → A.handled = none → @LT.lt Nat _ 0 s.toks → A.depth + 1 < recursionLimit → n < 512 →
    (∀ x h' tk', @LT.lt Nat _ 0 tk' → Keeps s.heap h' → s.heap.get? x = none → FTup h' x (colF (1 + paint.fmod 1024).toNat (1 + (paint.fdiv 1024).fmod 1048576).toNat (11 * n % 512) 0) (colF (1 + paint.fmod 1024).toNat (1 + (paint.fdiv 1024).fmod 1048576).toNat (11 * n % 512) 512) (colF (1 + paint.fmod 1024).toNat (1 + (paint.fdiv 1024).fmod 1048576).toNat (11 * n % 512) 1024) → Q (.ref x) { s with heap := h', toks := tk' }) →
    wpAny (model PP w) A (call (.ref 113) [.int (n : Int) t0, .int paint t1]) Q E s := by
  unfold KK TT PP
  k_fill
  intro w A s mean mg mb Q E n paint t0 t1 X T hroom hh h0k hroom2 h1 ret
  have hp1 := fmod_range paint (b := 1024) (by decide)
  have hp2 := fmod_range (paint.fdiv 1024) (b := 1048576) (by decide)
  obtain ⟨q1, q2, q3, q4, q5⟩ := paintC (nums_of paint) h1
  obtain ⟨z1, z2, z3⟩ := q5 _ rfl
  have e1 : (11 * (n : Int)).toNat = 11 * n := by omega
  clear q5
  walk_at "mine_enter"
  k_steps
  (rename News _ _ _ _ => N9); (rename Fr _ _ _ _ => F9)
  rw [e1]
  refine hsvr_call (k := ((33 * n / 256 : Nat) : Int)) (X.keeps (Fr.keep F9)) (Top.keeps T (Fr.keep F9)) (by simp only [Around.deeper]; omega) hh (by first | exact Nat.succ_pos _ | with_reducible assumption | omega | (dsimp only; first | exact Nat.succ_pos _ | with_reducible assumption | omega)) (Nat.succ_pos _) (Nat.succ_pos _) (Nat.succ_pos _) q4 q1 q2 q3 ?_
  intro x h' tk' k0 kk fr ft
  unfold TokPos
  intro _
  refine ret x h' tk' k0 (fun b o e => kk b o (Fr.keep F9 b o e)) ?_ ?_
  · cases e : s.heap.get? x with
    | none => rfl
    | some o => have := Fr.keep F9 x o e; rw [fr] at this; cases this
  · rw [← z1, ← z2, ← z3]; exact ft
end
section
open PySem PySem.W PySem.Calls PyProof.Rows
theorem rules_z4 : True := by
  k_with_none
  k_with "call builtin:max" => ((with_reducible show wpAny _ _ (call _ [Value.float _ _, Value.float _ _, Value.float _ _]) _ _ _); (rename News _ _ _ _ => N'); (rename Fr _ _ _ _ => F'); refine max3L (by assumption) (by first | exact Nat.succ_pos _ | with_reducible assumption | omega | (dsimp only; first | exact Nat.succ_pos _ | with_reducible assumption | omega)) (by first | exact Nat.succ_pos _ | with_reducible assumption | omega | (dsimp only; first | exact Nat.succ_pos _ | with_reducible assumption | omega)) F' N' ?_; clear F' N'; intro h' tk' tt' htk' htt' F' N')
  k_with "call builtin:min" => ((with_reducible show wpAny _ _ (call _ [Value.float _ _, Value.float _ _, Value.float _ _]) _ _ _); (rename News _ _ _ _ => N'); (rename Fr _ _ _ _ => F'); refine min3L (by assumption) (by first | exact Nat.succ_pos _ | with_reducible assumption | omega | (dsimp only; first | exact Nat.succ_pos _ | with_reducible assumption | omega)) (by first | exact Nat.succ_pos _ | with_reducible assumption | omega | (dsimp only; first | exact Nat.succ_pos _ | with_reducible assumption | omega)) F' N' ?_; clear F' N'; intro h' tk' tt' htk' htt' F' N')
  k_with "binaryOp Div float float" => (refine divL (by first | assumption | decide +kernel) ?_)
  k_with "binaryOp Mod float float" => (refine modL (by first | assumption | decide +kernel) ?_)
  k_with "exec If" => ((with_reducible show wpAny _ _ (exec (Stmt.If (Expr.Compare (Expr.Name _ _) [_] [Expr.Constant _ _ _] _) [Stmt.Assign _ _ _] [] _) _) _ _ _); (rename News _ _ _ _ => N'); (rename Fr _ _ _ _ => F'); (with_reducible (first | refine' clampLt F' N' ?k1 ?k5 ?_ ?k2 ?k3 ?k4 | refine' clampGt F' N' ?k1 ?k5 ?_ ?k2 ?k3 ?k4)); (case k1 => k_dflt exact rfl); (case k5 => first | exact Nat.succ_pos _ | with_reducible assumption | omega | (dsimp only; first | exact Nat.succ_pos _ | with_reducible assumption | omega)); (case k2 => k_dflt exact rfl); (case k3 => k_dflt exact rfl); (case k4 => k_dflt decide); clear F' N'; intro h' tk' tt' htk' htt' F' N')
  k_with "execs cons" => (refine execs_toks (by first | exact Nat.succ_pos _ | with_reducible assumption | omega | (dsimp only; first | exact Nat.succ_pos _ | with_reducible assumption | omega)) ?_; intro tk' htk'; try dsimp only)
  k_with "TokPos" => (unfold TokPos; intro htk'; try dsimp only)
  k_with "mine_enter" => (k_dflt (refine' enter0 ?kX ?kT ?k6 ?k7 ?kr ?k9 ?kB ?_ ?c2 ?c3 ?c4 ?c5; (case kX => assumption); (case kT => assumption); (case kr => (first | assumption | decide | (k_dflt omega))); (case k6 => k_is); (case k7 => k_is); (case k9 => exact BindsTo.of_eq rfl); (case c5 => decide); (case kB => exact locs rfl); (case c2 => exact rfl); (case c3 => exact rfl); (case c4 => exact rfl); k_whole); intro L' h' F' N'; (try dsimp only); (try k_fold))
  k_with "mine_end3" => ((rename Fr _ _ _ _ => F9); (rename News _ _ _ _ => N9); (rename (∀ (_ : Addr), _) => ret9); refine ret9 _ _ _ (by first | exact Nat.succ_pos _ | with_reducible assumption | omega | (dsimp only; first | exact Nat.succ_pos _ | with_reducible assumption | omega)) (Fr.keep F9) (N9 _ (List.Mem.head _)).2.2 ?_; have q9 := (N9 _ (List.Mem.head _)).1; clear F9 N9 ret9; (first | (refine ⟨_, _, _, ?_, q9⟩; exact ⟨(by first | exact Nat.succ_pos _ | with_reducible assumption | omega | (dsimp only; first | exact Nat.succ_pos _ | with_reducible assumption | omega)), (by first | exact Nat.succ_pos _ | with_reducible assumption | omega | (dsimp only; first | exact Nat.succ_pos _ | with_reducible assumption | omega)), (by first | exact Nat.succ_pos _ | with_reducible assumption | omega | (dsimp only; first | exact Nat.succ_pos _ | with_reducible assumption | omega))⟩) | (simp only [hueH, if_true, if_false, Bool.false_eq_true, *]; (refine ⟨_, _, _, ?_, q9⟩; exact ⟨(by first | exact Nat.succ_pos _ | with_reducible assumption | omega | (dsimp only; first | exact Nat.succ_pos _ | with_reducible assumption | omega)), (by first | exact Nat.succ_pos _ | with_reducible assumption | omega | (dsimp only; first | exact Nat.succ_pos _ | with_reducible assumption | omega)), (by first | exact Nat.succ_pos _ | with_reducible assumption | omega | (dsimp only; first | exact Nat.succ_pos _ | with_reducible assumption | omega))⟩))))
  k_with "mine_end1" => ((rename Fr _ _ _ _ => F9); (rename News _ _ _ _ => N9); (rename (∀ (_ : Heap), _) => ret9); refine ret9 _ _ _ _ (by first | exact Nat.succ_pos _ | with_reducible assumption | omega | (dsimp only; first | exact Nat.succ_pos _ | with_reducible assumption | omega)) (by first | exact Nat.succ_pos _ | with_reducible assumption | omega | (dsimp only; first | exact Nat.succ_pos _ | with_reducible assumption | omega)) (Fr.keep F9) ?_; clear F9 N9 ret9; (first | rfl | (simp only [vF, hueF, if_true, if_false, Bool.false_eq_true, *]; done)))
  trivial
theorem ist_call : ∀ {w : World} {A : Around} {s : Shared} {mean : ExcName → Option Value} {mg mb : Str → Option Value} {Q E : Value → Shared → Prop} {x : Int} {t0 : Tok},
    (KK w).In s.heap → TT mean mg mb s.heap → A.depth < recursionLimit → A.handled = none → @LT.lt Nat _ 0 s.toks →
    (∀ h' tk' v, @LT.lt Nat _ 0 tk' → Keeps s.heap h' → v = decide (x < 256) → Q (.bool v) { s with heap := h', toks := tk' }) →
    wpAny (model PP w) A (call (.ref 73) [.int x t0]) Q E s := by
  unfold KK TT PP
  k_fill
  intro w A s mean mg mb Q E x t0 X T hroom hh h0k ret
  walk_at "mine_enter"
  k_steps
  all_goals ((rename Fr _ _ _ _ => F9); exact ret _ _ _ (by first | exact Nat.succ_pos _ | with_reducible assumption | omega | (dsimp only; first | exact Nat.succ_pos _ | with_reducible assumption | omega)) (Fr.keep F9) rfl)
theorem isn_call : ∀ {w : World} {A : Around} {s : Shared} {mean : ExcName → Option Value} {mg mb : Str → Option Value} {Q E : Value → Shared → Prop} {x : Int} {t0 : Tok},
    (KK w).In s.heap → TT mean mg mb s.heap → A.depth < recursionLimit → A.handled = none → @LT.lt Nat _ 0 s.toks →
    (∀ h' tk' v, @LT.lt Nat _ 0 tk' → Keeps s.heap h' → v = decide (x ≥ 256) → Q (.bool v) { s with heap := h', toks := tk' }) →
    wpAny (model PP w) A (call (.ref 80) [.int x t0]) Q E s := by
  unfold KK TT PP
  k_fill
  intro w A s mean mg mb Q E x t0 X T hroom hh h0k ret
  walk_at "mine_enter"
  k_steps
  all_goals ((rename Fr _ _ _ _ => F9); exact ret _ _ _ (by first | exact Nat.succ_pos _ | with_reducible assumption | omega | (dsimp only; first | exact Nat.succ_pos _ | with_reducible assumption | omega)) (Fr.keep F9) rfl)
theorem iseof_call : ∀ {w : World} {A : Around} {s : Shared} {mean : ExcName → Option Value} {mg mb : Str → Option Value} {Q E : Value → Shared → Prop} {x : Int} {t0 : Tok},
    (KK w).In s.heap → TT mean mg mb s.heap → A.depth < recursionLimit → A.handled = none → @LT.lt Nat _ 0 s.toks →
    (∀ h' tk' v, @LT.lt Nat _ 0 tk' → Keeps s.heap h' → v = (x == 0) → Q (.bool v) { s with heap := h', toks := tk' }) →
    wpAny (model PP w) A (call (.ref 87) [.int x t0]) Q E s := by
  unfold KK TT PP
  k_fill
  intro w A s mean mg mb Q E x t0 X T hroom hh h0k ret
  walk_at "mine_enter"
  k_steps
  all_goals ((rename Fr _ _ _ _ => F9); exact ret _ _ _ (by first | exact Nat.succ_pos _ | with_reducible assumption | omega | (dsimp only; first | exact Nat.succ_pos _ | with_reducible assumption | omega)) (Fr.keep F9) rfl)
end
section
open PySem PySem.W PySem.Calls PyProof.Rows
noncomputable abbrev P38 : Nat := Int.toNat 274877906944
noncomputable def keepM {α : Type} : List Bool → List α → List α
  | _, [] => []
  | [], _ :: _ => []
  | true :: m, x :: l => x :: keepM m l
  | false :: m, _ :: l => keepM m l
theorem keepM_sub {α : Type} {x : α} : ∀ {l : List α} {m : List Bool}, x ∈ keepM m l → x ∈ l
  | [], m, h => by cases m <;> exact absurd h List.not_mem_nil
  | _ :: _, [], h => absurd h List.not_mem_nil
  | _ :: _, true :: _, h => by
    rcases List.mem_cons.mp h with rfl | h
    · exact List.mem_cons_self
    · exact List.mem_cons_of_mem _ (keepM_sub h)
  | _ :: _, false :: _, h => List.mem_cons_of_mem _ (keepM_sub h)
theorem Fr.absI {h₀ h : Heap} {L : Addr} {m : Str → Option Value} {G : Prop} (F : Fr h₀ L h m) (k : ∀ m', Fr h₀ L h m' → m' = m → G) : G := k m F rfl
theorem map_at {m' m : Str → Option Value} {x : Str} {v : Value} (e : m' = m) (h : m x = some v) : m' x = some v := by rw [e, h]
theorem News.keepM {h₀ h : Heap} {L : Addr} {news : List (Addr × Obj)} (m : List Bool) (N : News h₀ L h news) : News h₀ L h (Mine.keepM m news) := fun p hp => N p (keepM_sub hp)
theorem rules_z5 : True := by
  k_with_none
  k_with "call builtin:max" => ((with_reducible show wpAny _ _ (call _ [Value.float _ _, Value.float _ _, Value.float _ _]) _ _ _); (rename News _ _ _ _ => N'); (rename Fr _ _ _ _ => F'); refine max3L (by assumption) (by first | exact Nat.succ_pos _ | with_reducible assumption | omega | (dsimp only; first | exact Nat.succ_pos _ | with_reducible assumption | omega)) (by first | exact Nat.succ_pos _ | with_reducible assumption | omega | (dsimp only; first | exact Nat.succ_pos _ | with_reducible assumption | omega)) F' N' ?_; clear F' N'; intro h' tk' tt' htk' htt' F' N')
  k_with "call builtin:min" => ((with_reducible show wpAny _ _ (call _ [Value.float _ _, Value.float _ _, Value.float _ _]) _ _ _); (rename News _ _ _ _ => N'); (rename Fr _ _ _ _ => F'); refine min3L (by assumption) (by first | exact Nat.succ_pos _ | with_reducible assumption | omega | (dsimp only; first | exact Nat.succ_pos _ | with_reducible assumption | omega)) (by first | exact Nat.succ_pos _ | with_reducible assumption | omega | (dsimp only; first | exact Nat.succ_pos _ | with_reducible assumption | omega)) F' N' ?_; clear F' N'; intro h' tk' tt' htk' htt' F' N')
  k_with "binaryOp Div float float" => (refine divL (by first | assumption | decide +kernel) ?_)
  k_with "binaryOp Mod float float" => (refine modL (by first | assumption | decide +kernel) ?_)
  k_with "zexec If" => ((with_reducible show wpAny _ _ (exec (Stmt.If (Expr.Compare (Expr.Name _ _) [_] [Expr.Constant _ _ _] _) [Stmt.Assign _ _ _] [] _) _) _ _ _); (rename News _ _ _ _ => N'); (rename Fr _ _ _ _ => F'); (with_reducible (first | refine' clampLt F' N' ?k1 ?k5 ?_ ?k2 ?k3 ?k4 | refine' clampGt F' N' ?k1 ?k5 ?_ ?k2 ?k3 ?k4)); (case k1 => k_dflt exact rfl); (case k5 => first | exact Nat.succ_pos _ | with_reducible assumption | omega | (dsimp only; first | exact Nat.succ_pos _ | with_reducible assumption | omega)); (case k2 => k_dflt exact rfl); (case k3 => k_dflt exact rfl); (case k4 => k_dflt decide); clear F' N'; intro h' tk' tt' htk' htt' F' N')
  k_with "execs cons" => (refine execs_toks (by first | exact Nat.succ_pos _ | with_reducible assumption | omega | (dsimp only; first | exact Nat.succ_pos _ | with_reducible assumption | omega)) ?_; intro tk' htk'; try dsimp only)
  k_with "TokPos" => (unfold TokPos; intro htk'; try dsimp only)
  k_with "mine_enter" => (k_dflt (refine' enter0 ?kX ?kT ?k6 ?k7 ?kr ?k9 ?kB ?_ ?c2 ?c3 ?c4 ?c5; (case kX => assumption); (case kT => assumption); (case kr => (first | assumption | decide | (k_dflt omega))); (case k6 => k_is); (case k7 => k_is); (case k9 => exact BindsTo.of_eq rfl); (case c5 => decide); (case kB => exact locs rfl); (case c2 => exact rfl); (case c3 => exact rfl); (case c4 => exact rfl); k_whole); intro L' h' F' N'; (try dsimp only); (try k_fold))
  k_with "mine_end3" => ((rename Fr _ _ _ _ => F9); (rename News _ _ _ _ => N9); (rename (∀ (_ : Addr), _) => ret9); refine ret9 _ _ _ (by first | exact Nat.succ_pos _ | with_reducible assumption | omega | (dsimp only; first | exact Nat.succ_pos _ | with_reducible assumption | omega)) (Fr.keep F9) (N9 _ (List.Mem.head _)).2.2 ?_; have q9 := (N9 _ (List.Mem.head _)).1; clear F9 N9 ret9; (first | (refine ⟨_, _, _, ?_, q9⟩; exact ⟨(by first | exact Nat.succ_pos _ | with_reducible assumption | omega | (dsimp only; first | exact Nat.succ_pos _ | with_reducible assumption | omega)), (by first | exact Nat.succ_pos _ | with_reducible assumption | omega | (dsimp only; first | exact Nat.succ_pos _ | with_reducible assumption | omega)), (by first | exact Nat.succ_pos _ | with_reducible assumption | omega | (dsimp only; first | exact Nat.succ_pos _ | with_reducible assumption | omega))⟩) | (simp only [hueH, if_true, if_false, Bool.false_eq_true, *]; (refine ⟨_, _, _, ?_, q9⟩; exact ⟨(by first | exact Nat.succ_pos _ | with_reducible assumption | omega | (dsimp only; first | exact Nat.succ_pos _ | with_reducible assumption | omega)), (by first | exact Nat.succ_pos _ | with_reducible assumption | omega | (dsimp only; first | exact Nat.succ_pos _ | with_reducible assumption | omega)), (by first | exact Nat.succ_pos _ | with_reducible assumption | omega | (dsimp only; first | exact Nat.succ_pos _ | with_reducible assumption | omega))⟩))))
  k_with "mine_end1" => ((rename Fr _ _ _ _ => F9); (rename News _ _ _ _ => N9); (rename (∀ (_ : Heap), _) => ret9); refine ret9 _ _ _ _ (by first | exact Nat.succ_pos _ | with_reducible assumption | omega | (dsimp only; first | exact Nat.succ_pos _ | with_reducible assumption | omega)) (by first | exact Nat.succ_pos _ | with_reducible assumption | omega | (dsimp only; first | exact Nat.succ_pos _ | with_reducible assumption | omega)) (Fr.keep F9) ?_; clear F9 N9 ret9; (first | rfl | (simp only [vF, hueF, if_true, if_false, Bool.false_eq_true, *]; done)))
  k_with "binaryOp Div int int" => (refine diviiL (by assumption) (by omega) (by omega) ?_)
  k_with "binaryOp Pow int int" => (with_reducible (first | refine pow38 ?_ | refine pow20 ?_ | refine pow18 ?_ | refine pow30 ?_ | refine pow31 ?_))
  k_with "mine_enterC" => (k_dflt (refine' enterC ?kX ?kT ?k6 ?k7 ?kr ?k9 ?kB ?kD ?_ ?c2 ?c3 ?c4; (case kX => assumption); (case kT => assumption); (case kr => first | assumption | decide); (case k6 => k_is); (case k7 => k_is); (case k9 => exact BindsTo.of_eq rfl); (case kB => exact rfl); (case kD => decide +kernel); (case c2 => exact rfl); (case c3 => exact rfl); (case c4 => exact rfl); k_whole); intro L' h' tk' cells' F' N' Y'; k_cells Y'; (try simp only [List.cons_append, List.nil_append] at N'); (try dsimp only); (try k_fold))
  k_with "CompSrc" => (k_here; k_dflt (refine LCg.CompSrc.ledger (by rfl) (by k_asm) (by k_asm) (by k_mem) (by first | size_fits | exact Nat.le_of_ble_eq_true rfl) ?_; intro g'; lcg_lit))
  k_with "CompEnd" => (k_dflt (refine LCg.CompEnd.intro (by k_asm) (by k_asm) _ (fun _ hp9 => hp9) (by assumption) (by lcg_src) ?_))
  k_with "CompRest" => (with_unfolding_all (refine LCg.CompRest.succ ?_; intro v' I' oI' C' oC' D' m' h' tk' E' hv' hC' hx' F' N' off' ne'; lcg_open hv'))
  k_with "binaryOp Div int int" => (refine diviiL (by k_dflt exact rfl) (by first | with_reducible assumption | omega) (by first | decide | omega) ?_)
  k_with "binaryOp Mult int int" => (with_reducible (first | refine mulEqL (by assumption) (by assumption) ?_ | refine mulOkL (by assumption) ?_))
  k_with "binaryOp Add int int" => (with_reducible (refine addEqL (by assumption) ?_))
  k_with "binaryOp Mod int int" => (with_reducible (refine modEqL (by assumption) (by decide) ?_))
  k_with "assign Tuple" => ((with_reducible show wpAny _ _ (assign (Expr.Tuple _ _ _) _ (Value.ref _)) _ _ _); (rename News _ _ _ _ => N'); (rename Fr _ _ _ _ => F'); (k_dflt (refine unpackN_ F' N' (Fr.tup F' (by with_reducible assumption)) rfl rfl rfl ?_)); clear F' N'; intro h' F' N')
  k_with "binaryOp Div int int" => (refine divEqL (by k_dflt exact rfl) (by with_reducible assumption) (by first | with_reducible assumption | omega) (by first | decide | omega) ?_)
  k_with "binaryOp Mult ref int" => ((rename News _ _ _ _ => N'); (rename Fr _ _ _ _ => F'); (k_dflt (refine mul3L F' N' ?_)); clear F' N'; intro D' h' F' N' l1; clear l1)
  k_with "eval IfExp" => (refine floatJoin (by assumption) (by (refine wpAny_IfExp ?_; k_steps; all_goals (k_dflt (first | exact join_le (by assumption) (by assumption) (by first | exact Nat.succ_pos _ | with_reducible assumption | omega | (dsimp only; first | exact Nat.succ_pos _ | with_reducible assumption | omega)) | exact join_gt (by assumption) (by assumption) (by first | exact Nat.succ_pos _ | with_reducible assumption | omega | (dsimp only; first | exact Nat.succ_pos _ | with_reducible assumption | omega)) | exact join_gt (by assumption) (by omega) (by first | exact Nat.succ_pos _ | with_reducible assumption | omega | (dsimp only; first | exact Nat.succ_pos _ | with_reducible assumption | omega)) | exact join_le (by assumption) (by omega) (by first | exact Nat.succ_pos _ | with_reducible assumption | omega | (dsimp only; first | exact Nat.succ_pos _ | with_reducible assumption | omega)))))) ?_; intro u' tk' hu' htk')
  k_with "flis" => first | exact True.intro | (refine And.intro (by first | exact Nat.succ_pos _ | assumption | omega | (dsimp only; omega)) ?_; walk_at "flis")
  k_with "compareOp NotEq ref ref" => ((rename News _ _ _ _ => N'); (rename Fr _ _ _ _ => F'); (k_dflt (refine ne_fl (News.isList N' (by k_mem)) (News.isList N' (by k_mem)) (by walk_at "flis") (by walk_at "flis") (by exact rfl) (by exact rfl) (by first | assumption | (dsimp only [flOf]; decide +kernel)) (nb_keeps (by assumption) (Fr.keep F')) (Nat.le_of_ble_eq_true rfl) ?_)))
  k_with "call ref" => ((with_reducible show wpAny _ _ (call (Value.ref 56) _) _ _ _); (rename News _ _ _ _ => N'); (rename Fr _ _ _ _ => F'); (k_dflt (refine hsvP (by with_reducible assumption) F' N' (by assumption) (by assumption) (Nat.le_of_ble_eq_true rfl) rfl (by first | exact Nat.succ_pos _ | with_reducible assumption | omega | (dsimp only; first | exact Nat.succ_pos _ | with_reducible assumption | omega)) (by first | exact Nat.succ_pos _ | with_reducible assumption | omega | (dsimp only; first | exact Nat.succ_pos _ | with_reducible assumption | omega)) ?_)); clear F' N'; intro x' h' tk' u1' u2' u3' htk' hu' F' N' l1'; clear l1'; obtain ⟨hu1', hu2', hu3'⟩ := hu')
  k_with "call ref" => ((with_reducible show wpAny _ _ (call (Value.ref 35) _) _ _ _); (rename News _ _ _ _ => N'); (rename Fr _ _ _ _ => F'); (k_dflt (refine hlsP (by with_reducible assumption) F' N' (by assumption) (by assumption) (Nat.le_of_ble_eq_true rfl) rfl (by first | exact Nat.succ_pos _ | with_reducible assumption | omega | (dsimp only; first | exact Nat.succ_pos _ | with_reducible assumption | omega)) (by first | exact Nat.succ_pos _ | with_reducible assumption | omega | (dsimp only; first | exact Nat.succ_pos _ | with_reducible assumption | omega)) ?_)); clear F' N'; intro x' h' tk' u1' u2' u3' htk' hu' F' N' l1'; clear l1'; obtain ⟨hu1', hu2', hu3'⟩ := hu')
  k_with "call ref" => ((with_reducible show wpAny _ _ (call (Value.ref 21) _) _ _ _); (rename News _ _ _ _ => N'); (rename Fr _ _ _ _ => F'); (k_dflt (refine yiqP (by with_reducible assumption) F' N' (by assumption) (by assumption) (Nat.le_of_ble_eq_true rfl) rfl (by first | exact Nat.succ_pos _ | with_reducible assumption | omega | (dsimp only; first | exact Nat.succ_pos _ | with_reducible assumption | omega)) (by first | exact Nat.succ_pos _ | with_reducible assumption | omega | (dsimp only; first | exact Nat.succ_pos _ | with_reducible assumption | omega)) ?_)); clear F' N'; intro x' h' tk' u1' u2' u3' htk' hu' F' N' l1'; clear l1'; obtain ⟨hu1', hu2', hu3'⟩ := hu')
  k_with "call ref" => ((with_reducible show wpAny _ _ (call (Value.ref 28) _) _ _ _); (rename News _ _ _ _ => N'); (rename Fr _ _ _ _ => F'); (k_dflt (refine yiqrP (by with_reducible assumption) F' N' (by assumption) (by assumption) (Nat.le_of_ble_eq_true rfl) rfl (by first | exact Nat.succ_pos _ | with_reducible assumption | omega | (dsimp only; first | exact Nat.succ_pos _ | with_reducible assumption | omega)) (by first | exact Nat.succ_pos _ | with_reducible assumption | omega | (dsimp only; first | exact Nat.succ_pos _ | with_reducible assumption | omega)) ?_)); clear F' N'; intro x' h' tk' u1' u2' u3' htk' hu' F' N' l1'; clear l1'; obtain ⟨hu1', hu2', hu3'⟩ := hu')
  k_with "call ref" => ((with_reducible show wpAny _ _ (call (Value.ref 42) _) _ _ _); (rename News _ _ _ _ => N'); (rename Fr _ _ _ _ => F'); (k_dflt (refine hlsrP (by with_reducible assumption) F' N' (by assumption) (by assumption) (Nat.le_of_ble_eq_true rfl) rfl (by first | exact Nat.succ_pos _ | with_reducible assumption | omega | (dsimp only; first | exact Nat.succ_pos _ | with_reducible assumption | omega)) (by first | exact Nat.succ_pos _ | with_reducible assumption | omega | (dsimp only; first | exact Nat.succ_pos _ | with_reducible assumption | omega)) ?_)); clear F' N'; intro x' h' tk' u1' u2' u3' htk' hu' F' N' l1'; clear l1'; obtain ⟨hu1', hu2', hu3'⟩ := hu')
  k_with "TokPos" => (unfold TokPos; intro htk'; (try dsimp only); (repeat (rename (@LT.lt Nat _ _ _ ∧ _) => zz; clear zz)))
  k_with "binaryOp Add ref ref" => ((rename News _ _ _ _ => N'); (rename Fr _ _ _ _ => F'); (k_dflt (refine' kmk_add_lit F' N' (News.isList N' (by k_mem)) (News.isList N' (by k_mem)) ?e ?_ ?z; (case e => kl_lit); (case z => kl_room))); clear F' N'; intro D' h' F' N' l1; clear l1)
  k_with "call type:list" => ((rename News _ _ _ _ => N'); (rename Fr _ _ _ _ => F'); (k_dflt (refine' kup_listOfT F' N' (by k_mem) (by rfl) ?_ (Nat.le_of_ble_eq_true rfl))); clear F' N'; intro D' c' h' F' N' l1; clear l1)
  k_with "eval ListComp" => (k_here; lct_look; k_dflt (refine LCt.ListComp_T (F₀ := by k_asm) (by with_unfolding_all rfl) (by decide) (by rfl) (by decide) (by rfl) ?_); k_dflt lct_toSrc)
  k_with "CompSrcT" => (k_here; k_dflt (refine LCt.CompSrcT.ledger (by rfl) (by k_asm) (by k_asm) (by k_mem) (by first | size_fits | exact Nat.le_of_ble_eq_true rfl) ?_; intro g'; refine allDropT ?ht ?hp ?hs ?_ _ _; (case ht => (intro f' t' I' oI' C' oC' D' m' h' tk' E' hC' hx' F' N'; k_steps; all_goals exact ⟨rfl, _, rfl⟩)); (case hp => exact allFl_get (by walk_at "flis")); (case hs => lcg_src)))
  k_with "compareOp Eq ref ref" => ((rename News _ _ _ _ => N'); (rename Fr _ _ _ _ => F'); (k_dflt (refine eq_in (News.isList N' (by k_mem)) (News.isList N' (by k_mem)) (by exact True.intro) (by exact True.intro) (by exact rfl) (Nat.le_of_ble_eq_true rfl) ?_)))
  k_with "binaryOp Mult float int" => (refine mul38 ?_)
  k_with "call builtin:round" => (refine roundRnd (by k_dflt exact rfl) (by assumption) ?_)
  k_with "newList" => (k_here; k_dflt (refine' newList_K ?k1 ?k2 ?_; (case k1 => k_asm); (case k2 => k_asm); k_whole); intro l' h' F' N' l1; clear l1; (try k_sweep))
  k_with "eval Name" => (k_dflt (refine' nameX_L ?zzF ?zzv ?_ ?zza ?zzb; (case zzF => with_reducible assumption); (case zza => rfl); (case zzb => rfl); (case zzv => first | with_reducible assumption | assumption); k_whole))
  k_with "execs cons" => ((with_reducible show wpAny _ _ (execs (Stmt.Assign [Expr.Name (Str.ofString "ways") _] _ _ :: _) _) _ _ _); (rename News _ _ _ _ => N'); (replace N' := News.keepM [false, true, true, true] N'); (dsimp only [keepM] at N'); (rename Fr _ _ _ _ => F'); (refine Fr.absI F' ?_); clear F'; intro m' F' hm'; (have hx' := map_at (x := Str.ofString "colour") hm' (by k_dflt (first | exact rfl | assumption))); clear hm'; (refine execs_toks (by first | exact Nat.succ_pos _ | with_reducible assumption | omega | (dsimp only; first | exact Nat.succ_pos _ | with_reducible assumption | omega)) ?_; intro tk' htk'; try dsimp only))
  k_with "execs cons" => ((with_reducible show wpAny _ _ (execs (Stmt.Assign [Expr.Name (Str.ofString "parts") _] _ _ :: _) _) _ _ _); (rename News _ _ _ _ => N'); (replace N' := News.keepM [true, false, true, true, true] N'); (dsimp only [keepM] at N'); (rename Fr _ _ _ _ => F'); (refine Fr.absI F' ?_); clear F'; intro m' F' hm'; (have hx' := map_at (x := Str.ofString "ways") hm' (by k_dflt (first | exact rfl | assumption))); (have hx' := map_at (x := Str.ofString "colour") hm' (by k_dflt (first | exact rfl | assumption))); clear hm'; (refine execs_toks (by first | exact Nat.succ_pos _ | with_reducible assumption | omega | (dsimp only; first | exact Nat.succ_pos _ | with_reducible assumption | omega)) ?_; intro tk' htk'; try dsimp only))
  k_with "execs cons" => ((with_reducible show wpAny _ _ (execs (Stmt.Assign [Expr.Tuple (Expr.Name (Str.ofString "turn") _ :: _) _ _] _ _ :: _) _) _ _ _); (rename News _ _ _ _ => N'); (replace N' := News.keepM [true, false, true, true, true] N'); (dsimp only [keepM] at N'); (rename Fr _ _ _ _ => F'); (refine Fr.absI F' ?_); clear F'; intro m' F' hm'; (have hx' := map_at (x := Str.ofString "parts") hm' (by k_dflt (first | exact rfl | assumption))); (have hx' := map_at (x := Str.ofString "colour") hm' (by k_dflt (first | exact rfl | assumption))); clear hm'; (refine execs_toks (by first | exact Nat.succ_pos _ | with_reducible assumption | omega | (dsimp only; first | exact Nat.succ_pos _ | with_reducible assumption | omega)) ?_; intro tk' htk'; try dsimp only))
  k_with "execs cons" => ((with_reducible show wpAny _ _ (execs (Stmt.Assign [Expr.Name (Str.ofString "share") _] _ _ :: _) _) _ _ _); (rename News _ _ _ _ => N'); (replace N' := News.keepM [false, true, true, true, true] N'); (dsimp only [keepM] at N'); (rename Fr _ _ _ _ => F'); (refine Fr.absI F' ?_); clear F'; intro m' F' hm'; (have hx' := map_at (x := Str.ofString "parts") hm' (by k_dflt (first | exact rfl | assumption))); (have hx' := map_at (x := Str.ofString "colour") hm' (by k_dflt (first | exact rfl | assumption))); (have hx' := map_at (x := Str.ofString "turn") hm' (by k_dflt (first | exact rfl | assumption))); (have hx' := map_at (x := Str.ofString "both") hm' (by k_dflt (first | exact rfl | assumption))); clear hm'; (refine execs_toks (by first | exact Nat.succ_pos _ | with_reducible assumption | omega | (dsimp only; first | exact Nat.succ_pos _ | with_reducible assumption | omega)) ?_; intro tk' htk'; try dsimp only))
  k_with "execs cons" => ((with_reducible show wpAny _ _ (execs (Stmt.Assign [Expr.Name (Str.ofString "due") _] _ _ :: _) _) _ _ _); (rename Fr _ _ _ _ => F'); (refine Fr.absI F' ?_); clear F'; intro m' F' hm'; (have hx' := map_at (x := Str.ofString "parts") hm' (by k_dflt (first | exact rfl | assumption))); (have hx' := map_at (x := Str.ofString "colour") hm' (by k_dflt (first | exact rfl | assumption))); (have hx' := map_at (x := Str.ofString "turn") hm' (by k_dflt (first | exact rfl | assumption))); (have hx' := map_at (x := Str.ofString "both") hm' (by k_dflt (first | exact rfl | assumption))); (have hx' := map_at (x := Str.ofString "share") hm' (by k_dflt (first | exact rfl | assumption))); clear hm'; (refine execs_toks (by first | exact Nat.succ_pos _ | with_reducible assumption | omega | (dsimp only; first | exact Nat.succ_pos _ | with_reducible assumption | omega)) ?_; intro tk' htk'; try dsimp only))
  k_with "execs cons" => ((with_reducible show wpAny _ _ (execs (Stmt.Assign [Expr.Tuple (Expr.Name (Str.ofString "r") _ :: _) _ _] _ _ :: _) _) _ _ _); (rename News _ _ _ _ => N'); (replace N' := News.keepM [true, false, false, true, false, false, false] N'); (dsimp only [keepM] at N'); (rename Fr _ _ _ _ => F'); (refine Fr.absI F' ?_); clear F'; intro m' F' hm'; (have hx' := map_at (x := Str.ofString "parts") hm' (by k_dflt (first | exact rfl | assumption))); (have hx' := map_at (x := Str.ofString "due") hm' (by k_dflt (first | exact rfl | assumption))); (have hx' := map_at (x := Str.ofString "colour") hm' (by k_dflt (first | exact rfl | assumption))); clear hm'; (refine execs_toks (by first | exact Nat.succ_pos _ | with_reducible assumption | omega | (dsimp only; first | exact Nat.succ_pos _ | with_reducible assumption | omega)) ?_; intro tk' htk'; try dsimp only))
  k_with "execs cons" => ((with_reducible show wpAny _ _ (execs (Stmt.Assign [Expr.Tuple (Expr.Name (Str.ofString "h") _ :: _) _ _] _ _ :: _) _) _ _ _); (rename News _ _ _ _ => N'); (replace N' := News.keepM [true, true] N'); (dsimp only [keepM] at N'); (rename Fr _ _ _ _ => F'); (refine Fr.absI F' ?_); clear F'; intro m' F' hm'; (have hx' := map_at (x := Str.ofString "parts") hm' (by k_dflt (first | exact rfl | assumption))); (have hx' := map_at (x := Str.ofString "due") hm' (by k_dflt (first | exact rfl | assumption))); (have hx' := map_at (x := Str.ofString "r") hm' (by k_dflt (first | exact rfl | assumption))); (have hx' := map_at (x := Str.ofString "g") hm' (by k_dflt (first | exact rfl | assumption))); (have hx' := map_at (x := Str.ofString "b") hm' (by k_dflt (first | exact rfl | assumption))); clear hm'; (refine execs_toks (by first | exact Nat.succ_pos _ | with_reducible assumption | omega | (dsimp only; first | exact Nat.succ_pos _ | with_reducible assumption | omega)) ?_; intro tk' htk'; try dsimp only))
  k_with "execs cons" => ((with_reducible show wpAny _ _ (execs (Stmt.Assign [Expr.Tuple (Expr.Name (Str.ofString "y") _ :: _) _ _] _ _ :: _) _) _ _ _); (rename News _ _ _ _ => N'); (replace N' := News.keepM [false, true, true] N'); (dsimp only [keepM] at N'); (rename Fr _ _ _ _ => F'); (refine Fr.absI F' ?_); clear F'; intro m' F' hm'; (have hx' := map_at (x := Str.ofString "parts") hm' (by k_dflt (first | exact rfl | assumption))); (have hx' := map_at (x := Str.ofString "due") hm' (by k_dflt (first | exact rfl | assumption))); (have hx' := map_at (x := Str.ofString "r") hm' (by k_dflt (first | exact rfl | assumption))); (have hx' := map_at (x := Str.ofString "g") hm' (by k_dflt (first | exact rfl | assumption))); (have hx' := map_at (x := Str.ofString "b") hm' (by k_dflt (first | exact rfl | assumption))); (have hx' := map_at (x := Str.ofString "h") hm' (by k_dflt (first | exact rfl | assumption))); (have hx' := map_at (x := Str.ofString "l") hm' (by k_dflt (first | exact rfl | assumption))); (have hx' := map_at (x := Str.ofString "s") hm' (by k_dflt (first | exact rfl | assumption))); clear hm'; (refine execs_toks (by first | exact Nat.succ_pos _ | with_reducible assumption | omega | (dsimp only; first | exact Nat.succ_pos _ | with_reducible assumption | omega)) ?_; intro tk' htk'; try dsimp only))
  k_with "execs cons" => ((with_reducible show wpAny _ _ (execs (Stmt.Assign [Expr.Name (Str.ofString "told") _] _ _ :: _) _) _ _ _); (rename News _ _ _ _ => N'); (replace N' := News.keepM [false, true, true] N'); (dsimp only [keepM] at N'); (rename Fr _ _ _ _ => F'); (refine Fr.absI F' ?_); clear F'; intro m' F' hm'; (have hx' := map_at (x := Str.ofString "parts") hm' (by k_dflt (first | exact rfl | assumption))); (have hx' := map_at (x := Str.ofString "due") hm' (by k_dflt (first | exact rfl | assumption))); (have hx' := map_at (x := Str.ofString "r") hm' (by k_dflt (first | exact rfl | assumption))); (have hx' := map_at (x := Str.ofString "g") hm' (by k_dflt (first | exact rfl | assumption))); (have hx' := map_at (x := Str.ofString "b") hm' (by k_dflt (first | exact rfl | assumption))); (have hx' := map_at (x := Str.ofString "h") hm' (by k_dflt (first | exact rfl | assumption))); (have hx' := map_at (x := Str.ofString "l") hm' (by k_dflt (first | exact rfl | assumption))); (have hx' := map_at (x := Str.ofString "s") hm' (by k_dflt (first | exact rfl | assumption))); (have hx' := map_at (x := Str.ofString "y") hm' (by k_dflt (first | exact rfl | assumption))); (have hx' := map_at (x := Str.ofString "i") hm' (by k_dflt (first | exact rfl | assumption))); (have hx' := map_at (x := Str.ofString "q") hm' (by k_dflt (first | exact rfl | assumption))); clear hm'; (refine execs_toks (by first | exact Nat.succ_pos _ | with_reducible assumption | omega | (dsimp only; first | exact Nat.succ_pos _ | with_reducible assumption | omega)) ?_; intro tk' htk'; try dsimp only))
  k_with "execs cons" => ((with_reducible show wpAny _ _ (execs (Stmt.Assign [Expr.Name (Str.ofString "back") _] _ _ :: _) _) _ _ _); (rename News _ _ _ _ => N'); (replace N' := News.keepM [true, false, false, false, false, false, true, true] N'); (dsimp only [keepM] at N'); (rename Fr _ _ _ _ => F'); (refine Fr.absI F' ?_); clear F'; intro m' F' hm'; (have hx' := map_at (x := Str.ofString "parts") hm' (by k_dflt (first | exact rfl | assumption))); (have hx' := map_at (x := Str.ofString "due") hm' (by k_dflt (first | exact rfl | assumption))); (have hx' := map_at (x := Str.ofString "told") hm' (by k_dflt (first | exact rfl | assumption))); (have hx' := map_at (x := Str.ofString "h") hm' (by k_dflt (first | exact rfl | assumption))); (have hx' := map_at (x := Str.ofString "l") hm' (by k_dflt (first | exact rfl | assumption))); (have hx' := map_at (x := Str.ofString "s") hm' (by k_dflt (first | exact rfl | assumption))); (have hx' := map_at (x := Str.ofString "y") hm' (by k_dflt (first | exact rfl | assumption))); (have hx' := map_at (x := Str.ofString "i") hm' (by k_dflt (first | exact rfl | assumption))); (have hx' := map_at (x := Str.ofString "q") hm' (by k_dflt (first | exact rfl | assumption))); clear hm'; (refine execs_toks (by first | exact Nat.succ_pos _ | with_reducible assumption | omega | (dsimp only; first | exact Nat.succ_pos _ | with_reducible assumption | omega)) ?_; intro tk' htk'; try dsimp only))
  k_with "execs cons" => ((with_reducible show wpAny _ _ (execs (Stmt.If _ _ _ _ :: _) _) _ _ _); (rename News _ _ _ _ => N'); (replace N' := News.keepM [true, false, false, false, false, true, true, true] N'); (dsimp only [keepM] at N'); (rename Fr _ _ _ _ => F'); (refine Fr.absI F' ?_); clear F'; intro m' F' hm'; (have hx' := map_at (x := Str.ofString "parts") hm' (by k_dflt (first | exact rfl | assumption))); (have hx' := map_at (x := Str.ofString "due") hm' (by k_dflt (first | exact rfl | assumption))); (have hx' := map_at (x := Str.ofString "told") hm' (by k_dflt (first | exact rfl | assumption))); (have hx' := map_at (x := Str.ofString "back") hm' (by k_dflt (first | exact rfl | assumption))); (have hx' := map_at (x := Str.ofString "y") hm' (by k_dflt (first | exact rfl | assumption))); (have hx' := map_at (x := Str.ofString "i") hm' (by k_dflt (first | exact rfl | assumption))); (have hx' := map_at (x := Str.ofString "q") hm' (by k_dflt (first | exact rfl | assumption))); clear hm'; (refine execs_toks (by first | exact Nat.succ_pos _ | with_reducible assumption | omega | (dsimp only; first | exact Nat.succ_pos _ | with_reducible assumption | omega)) ?_; intro tk' htk'; try dsimp only))
  k_with "execs cons" => ((with_reducible show wpAny _ _ (execs (Stmt.Return _ _ :: _) _) _ _ _); (rename News _ _ _ _ => N'); (replace N' := News.keepM [false, false, false, false, false, false, false, false, false, false, false, false, true, false, false, true] N'); (dsimp only [keepM] at N'); (rename Fr _ _ _ _ => F'); (refine Fr.absI F' ?_); clear F'; intro m' F' hm'; (have hx' := map_at (x := Str.ofString "parts") hm' (by k_dflt (first | exact rfl | assumption))); (have hx' := map_at (x := Str.ofString "back") hm' (by k_dflt (first | exact rfl | assumption))); clear hm'; (refine execs_toks (by first | exact Nat.succ_pos _ | with_reducible assumption | omega | (dsimp only; first | exact Nat.succ_pos _ | with_reducible assumption | omega)) ?_; intro tk' htk'; try dsimp only))
  trivial
theorem right_call : ∀ {w : World} {s : Shared} {mean : ExcName → Option Value} {mg mb : Str → Option Value} {Q E : Value → Shared → Prop} {S paint P B p0 p1 p2 d bo bp : Int} {t0 t1 : Tok} {cx : Addr} {r g b hu lt sx v sh y i q a0 a1 a2 b0 b1 b2 : UInt64} {u1 u2 u3 : Tok},
    (KK w).In s.heap → TT mean mg mb s.heap → @LT.lt Nat _ 0 s.toks → (@LT.lt Nat _ 0 u1 ∧ @LT.lt Nat _ 0 u2 ∧ @LT.lt Nat _ 0 u3) → (∀ f ∈ [r, g, b, hu, sx, v, hu, lt, sh], (Float64.cmp f f == some .eq) = true) → EqI (1 + paint.fmod 1024) P → EqI (1 + (paint.fdiv 1024).fmod 1048576) B → EqI (partT S P B 0) p0 → EqI (partT S P B 512) p1 → EqI (partT S P B 1024) p2 →
    (0 ≤ p0 ∧ p0 < 1152921504606846976) → (0 ≤ p1 ∧ p1 < 1152921504606846976) → (0 ≤ p2 ∧ p2 < 1152921504606846976) → EqI ((11 * S).fmod 512) d → (0 ≤ d ∧ d < 512) → EqI (B * (2048 - P)) bo → (0 ≤ bo ∧ bo < 2147483648) → EqI (B * P) bp → (0 ≤ bp ∧ bp < 2147483648) →
    (1 ≤ P ∧ P ≤ 1024) → (1 ≤ B ∧ B ≤ 1048576) → Builtin.Int.intBits B ≤ 64 → Builtin.Int.intBits P ≤ 64 →
    EqF (FR p0.toNat P38) r → EqF (FR p1.toNat P38) g → EqF (FR p2.toNat P38) b → EqF (FR d.toNat (Int.toNat 512)) hu → EqF (FR bo.toNat (Int.toNat 2147483648)) lt → EqF (FR P.toNat (Int.toNat 1024)) sx → EqF (FR B.toNat (Int.toNat 1048576)) v →
    ShIs bo P bp sh →
    IsTup s.heap cx #[.float r u1, .float g u2, .float b u3] →
    HlsF r g b hu lt sh →
    HsvF r g b hu sx v →
    YiqF r g b y i q → YiqrF y i q a0 a1 a2 → YiqrF (Float64.add y (Float64.ofInt 2)) i q c1 c1 c1 → YiqrF (Float64.sub y (Float64.ofInt 2)) i q 0 0 0 →
    HlsrF hu lt sh b0 b1 b2 →
    Rnd a0 p0 → Rnd a1 p1 → Rnd a2 p2 → Rnd b0 p0 → Rnd b1 p1 → Rnd b2 p2 →
    (∀ h' tk', @LT.lt Nat _ 0 tk' → Keeps s.heap h' → Q (.bool true) { s with heap := h', toks := tk' }) →
    wpAny (model PP w) AR (call (.ref 118) [.int S t0, .int paint t1, .ref cx]) Q E s := by
  unfold KK TT PP
  k_fill
  intro w s mean mg mb Q E S paint P B p0 p1 p2 d bo bp t0 t1 cx r g b hu lt sx v sh y i q a0 a1 a2 b0 b1 b2 u1 u2 u3 X T h0k h0u hcmp eP eB e0 e1 e2 l0 l1 l2 eD lD eBo lBo eBP lBP lP lB fB fP f0 f1 f2 f3 f4 f5 f6 hsh hcol hHls hHsv hYiq hY0 hYp hYm hHr r1 r2 r3 r4 r5 r6 ret
  obtain ⟨h0u1, h0u2, h0u3⟩ := h0u
  have hnb : NoneBooked s.heap := none_booked X (by k_dflt k_is) rfl
  walk_at "mine_enterC"
  k_steps
  (rename Fr _ _ _ _ => F9)
  exact ret _ _ (by first | exact Nat.succ_pos _ | with_reducible assumption | omega | (dsimp only; first | exact Nat.succ_pos _ | with_reducible assumption | omega)) (Fr.keep F9)
end
section
open PySem PySem.W PySem.Calls PyProof.Rows
theorem bits64 {n : Int} (h0 : 0 ≤ n) (h : n < 18446744073709551616) : Builtin.Int.intBits n ≤ 64 := by
  unfold Builtin.Int.intBits
  split
  · omega
  · rename_i hn
    have : n.natAbs ≠ 0 := by simpa using hn
    have := (Nat.log2_lt this (k := 64)).mpr (by omega)
    omega
theorem right_ok {w : World} {s : Shared} {mean : ExcName → Option Value} {mg mb : Str → Option Value} {Q E : Value → Shared → Prop} {n : Nat} {paint : Int} {t0 t1 : Tok} {cx : Addr}
    (X : (KK w).In s.heap) (T : TT mean mg mb s.heap) (h0 : @LT.lt Nat _ 0 s.toks) (hn : n < 512)
    (hc : FTup s.heap cx (colF (1 + paint.fmod 1024).toNat (1 + (paint.fdiv 1024).fmod 1048576).toNat (11 * n % 512) 0) (colF (1 + paint.fmod 1024).toNat (1 + (paint.fdiv 1024).fmod 1048576).toNat (11 * n % 512) 512) (colF (1 + paint.fmod 1024).toNat (1 + (paint.fdiv 1024).fmod 1048576).toNat (11 * n % 512) 1024))
    (ret : ∀ h' tk', @LT.lt Nat _ 0 tk' → Keeps s.heap h' → Q (.bool true) { s with heap := h', toks := tk' }) :
    wpAny (model PP w) AR (call (.ref 118) [.int (n : Int) t0, .int paint t1, .ref cx]) Q E s := by
  have hp1 := fmod_range paint (b := 1024) (by decide)
  have hp2 := fmod_range (paint.fdiv 1024) (b := 1048576) (by decide)
  have N := nums_of paint
  obtain ⟨P, eP⟩ : ∃ P : Nat, (1 + paint.fmod 1024).toNat = P := ⟨_, rfl⟩
  obtain ⟨B, eB⟩ : ∃ B : Nat, (1 + (paint.fdiv 1024).fmod 1048576).toNat = B := ⟨_, rfl⟩
  rw [eP, eB] at hc N
  have eP' : 1 + paint.fmod 1024 = (P : Int) := by omega
  have eB' : 1 + (paint.fdiv 1024).fmod 1048576 = (B : Int) := by omega
  obtain ⟨u1, u2, u3, hu, hx⟩ := hc
  have hd : 11 * n % 512 < 512 := Nat.mod_lt _ (by decide)
  have g1 := N.p1; have g2 := N.p2; have g3 := N.b1; have g4 := N.b2
  have hb := N.bo
  have hp := N.bp
  have l0 := partN_le (a := aOf (11 * n % 512) 0) N
  have l1 := partN_le (a := aOf (11 * n % 512) 512) N
  have l2 := partN_le (a := aOf (11 * n % 512) 1024) N
  obtain ⟨⟨y1, y2, y3⟩, y4, y5⟩ := yiqC (d := 11 * n % 512) N rfl rfl rfl
  obtain ⟨z1, z2, z3⟩ := hlsrC N hd rfl rfl rfl
  have hs := hsvC N hd
  have hl := hlsC N hd
  have sh := shFn N
  have cbo : (B : Int) * (2048 - (P : Int)) = ((B * (2048 - P) : Nat) : Int) := by rw [Int.natCast_mul, Int.ofNat_sub (by omega)]; rfl
  have cbp : (B : Int) * (P : Int) = ((B * P : Nat) : Int) := (Int.natCast_mul _ _).symm
  have fb := rv_FR (n := B) (k := 20) (by omega) (by decide)
  have fp := rv_FR (n := P) (k := 10) (by omega) (by decide)
  have fd := rv_FR (n := 11 * n % 512) (k := 9) (by omega) (by decide)
  have fl := rv_FR (n := B * (2048 - P)) (k := 31) (by omega) (by decide)
  refine right_call (P := (P : Int)) (B := (B : Int)) (p0 := ((partN P B (aOf (11 * n % 512) 0) : Nat) : Int)) (p1 := ((partN P B (aOf (11 * n % 512) 512) : Nat) : Int)) (p2 := ((partN P B (aOf (11 * n % 512) 1024) : Nat) : Int))
    (d := ((11 * n % 512 : Nat) : Int)) (bo := ((B * (2048 - P) : Nat) : Int)) (bp := ((B * P : Nat) : Int)) (u1 := u1) (u2 := u2) (u3 := u3)
    X T h0 hu ?hcmp ⟨eP'⟩ ⟨eB'⟩ ⟨part_eq (c := 0) N hn (by decide)⟩ ⟨part_eq (c := 512) N hn (by decide)⟩ ⟨part_eq (c := 1024) N hn (by decide)⟩ (by omega) (by omega) (by omega) ⟨?ed⟩ (by omega) ⟨cbo⟩ (by omega) ⟨cbp⟩ (by omega) (by omega) (by omega)
    (bits64 (by omega) (by omega)) (bits64 (by omega) (by omega)) ⟨rfl⟩ ⟨rfl⟩ ⟨rfl⟩ ⟨rfl⟩ ⟨rfl⟩ ⟨rfl⟩ ⟨rfl⟩ ⟨?sle, ?sgt⟩ ⟨_, hx, rfl, _, rfl⟩ (sh := shF P B) hl hs ⟨rfl, rfl, rfl⟩ ⟨rfl, rfl, rfl⟩ y4 y5 ⟨sh_ne N, rfl, rfl, rfl⟩ y1 y2 y3 z1 z2 z3 ret
  case hcmp =>
    intro f hf
    refine cmp_self ?_
    simp only [List.mem_cons, List.not_mem_nil, or_false] at hf
    rcases hf with rfl | rfl | rfl | rfl | rfl | rfl | rfl | rfl | rfl
    · exact (colFn N 0).1
    · exact (colFn N 512).1
    · exact (colFn N 1024).1
    · exact fd.1
    · exact fp.1
    · exact fb.1
    · exact fd.1
    · exact fl.1
    · exact sh.1
  case ed => rw [Int.fmod_eq_emod_of_nonneg _ (by decide)]; omega
  case sle =>
    intro c
    unfold shF
    rw [if_pos (by omega)]
    have e : ((2048 : Int) - (P : Int)).toNat = 2048 - P := by omega
    rw [e]; rfl
  case sgt =>
    intro c
    unfold shF
    rw [if_neg (by omega)]
    have e : ((2147483648 : Int) - ((B * (2048 - P) : Nat) : Int)).toNat = 2147483648 - B * (2048 - P) := by omega
    rw [e]; rfl
end
section
open PySem PySem.W PySem.Calls PyProof.Rows
/-- no list's iterator stands in the ledger -/
noncomputable def NoIt (news : List (Addr × Obj)) : Prop := ∀ p ∈ news, p.2.cls ≠ .type "list_iterator"
theorem NoIt.off {h₀ h : Heap} {L I ax : Addr} {i : Nat} {news : List (Addr × Obj)} (x : NoIt news) (N : News h₀ L h news) (hit : h.IsListIter I ax i) : ∀ p ∈ news, p.1 ≠ I := by
  intro p hp e
  obtain ⟨o, ho, hc, _⟩ := hit
  have := (N p hp).1
  rw [e, ho] at this
  obtain rfl := Option.some.inj this
  exact x p hp hc
theorem NoIt.nil : NoIt [] := fun _ h => nomatch h
theorem NoIt.cons {a : Addr} {o : Obj} {news : List (Addr × Obj)} (x : NoIt news) (h : o.cls ≠ .type "list_iterator") : NoIt ((a, o) :: news) := fun p hp => by
  rcases List.mem_cons.mp hp with rfl | hp
  · exact h
  · exact x p hp
theorem srcMono {h₀ : Heap} {ax : Addr} {its : Array Value} {news news' : List (Addr × Obj)} (x : LCg.SrcAt h₀ ax its news) (s : ∀ p ∈ news, p ∈ news') : LCg.SrcAt h₀ ax its news' :=
  x.imp id fun ⟨o, h, r⟩ => ⟨o, s _ h, r⟩
section
variable {prog : Program} {w : World} {A : Around} {s : Shared} {env : Env} {h₀ : Heap} {target : Expr} {body : List Stmt} {Q : Flow → Shared → Prop}
/-- what a turn leaves -/
noncomputable def TurnEnd (h₀ : Heap) (L I : Addr) (oI : Obj) (news₁ : List (Addr × Obj)) (J : (Str → Option Value) → List (Addr × Obj) → Prop) (s : Shared) (f : Flow) (s₂ : Shared) : Prop :=
  f = .next ∧ ∃ h' tk' m₂ news₂, s₂ = { s with heap := h', toks := tk' } ∧ @LT.lt Nat _ 0 tk' ∧ Fr h₀ L h' m₂ ∧ News h₀ L h' ((I, oI) :: news₂) ∧ NoIt news₂ ∧ (∀ p ∈ news₁, p ∈ news₂) ∧ J m₂ news₂
theorem loop_grow {R : Result → Shared → Prop} {I ax : Addr} {items : Array Value} {m : Str → Option Value} {news : List (Addr × Obj)}
    (hh : A.handled = none)
    (F : Fr h₀ env.locals s.heap m) (N : News h₀ env.locals s.heap news) (h0k : @LT.lt Nat _ 0 s.toks) (hit : s.heap.IsListIter I ax 0) (hIL : I ≠ env.locals) (hI₀ : h₀.get? I = none)
    (hsrc : LCg.SrcAt h₀ ax items news) (hno : NoIt news)
    (hgo : ∀ i v (s' : Shared) (Q' : Unit → Shared → Prop) (E' : Value → Shared → Prop), items[i]? = some v → s'.heap.IsListIter I ax (i + 1) → Q' () s' → wpAny (model prog w) A (letOwnedTupleGo target (.ref I) v) Q' E' s')
    (J : Nat → (Str → Option Value) → List (Addr × Obj) → Prop) (h0 : J 0 m news)
    (step : ∀ i v m₁ news₁ h tk oI, items[i]? = some v → J i m₁ news₁ → (∀ p ∈ news, p ∈ news₁) → NoIt news₁ → @LT.lt Nat _ 0 tk → Fr h₀ env.locals h m₁ → News h₀ env.locals h ((I, oI) :: news₁) →
      wpAny (model prog w) A (assign target env v) (fun _ s₂ => wpAny (model prog w) A (execs body env) (TurnEnd h₀ env.locals I oI news₁ (J (i + 1)) s) (fun _ _ => False) s₂) (fun _ _ => False) { s with heap := h, toks := tk })
    (hR : ∀ h' tk m' news', @LT.lt Nat _ 0 tk → Fr h₀ env.locals h' m' → News h₀ env.locals h' news' → NoIt news' → (∀ p ∈ news, p ∈ news') → J items.size m' news' → R (.ok .next) { s with heap := h', toks := tk }) :
    codeAny (model prog w) A (.forLoop target (.ref I) body [] env) R s := by
  refine codeAny_forLoop_any
    (fun n s' => ∃ h' tk m' news' i, s' = { s with heap := h', toks := tk } ∧ @LT.lt Nat _ 0 tk ∧ h'.IsListIter I ax i ∧ Fr h₀ env.locals h' m' ∧ News h₀ env.locals h' news' ∧ NoIt news' ∧ (∀ p ∈ news, p ∈ news') ∧ J i m' news' ∧ i ≤ items.size ∧ n = items.size + 1 - i)
    ?_ (items.size + 1) ⟨s.heap, s.toks, m, news, 0, rfl, h0k, hit, F, N, hno, fun _ h => h, h0, Nat.zero_le _, rfl⟩
  rintro n s' ⟨h', tk, m', news', i, rfl, hk, hit', F', N', hno', hsub, hJ, hi, rfl⟩
  have hl' : h'.IsList ax items := (srcMono hsrc hsub).list F'.keep N'
  have off := hno'.off N' hit'
  cases hv : items[i]? with
  | none =>
    have hsz : i = items.size := Nat.le_antisymm hi (by simpa using hv)
    refine wpAny_pyNext_list_end hh hit' hl' hv fun h₁ he₁ => wpAny_execs_nil ?_
    refine hR h₁ tk m' news' hk ?_ (fun p hp => ⟨he₁ _ _ (off p hp) (N' p hp).1, (N' p hp).2⟩) hno' hsub (hsz ▸ hJ)
    exact ⟨F'.ns.extBut he₁ (Ne.symm hIL), fun b o e => he₁ b o (fun q => by rw [q, hI₀] at e; cases e) (F'.keep b o e), F'.above⟩
  | some v =>
    have hlt : i < items.size := (Array.getElem?_eq_some_iff.mp hv).1
    refine wpAny_pyNext_list_item hit' hl' hv fun h₁ hit₁ hs₁ => ?_
    have F₁ : Fr h₀ env.locals h₁ m' := F'.change hs₁ hIL hI₀
    have N₁ : News h₀ env.locals h₁ news' := fun p hp => ⟨hs₁.extBut _ _ (off p hp) (N' p hp).1, (N' p hp).2⟩
    obtain ⟨oI, hoI, hcI, hdI⟩ := id hit₁
    refine hgo i v _ _ _ hv hit₁ (wpAny_mono (step i v m' news' h₁ tk oI hv hJ hsub hno' hk F₁ (fun p hp => ?_)) (fun _ s₂ h₂ => wpAny_mono h₂ (fun f s₃ h₃ => ?_) fun _ _ e => e.elim) fun _ _ e => e.elim)
    · rcases List.mem_cons.mp hp with rfl | hp
      · exact ⟨hoI, hIL, hI₀⟩
      · exact N₁ p hp
    · obtain ⟨rfl, h₃', tk₃, m₂, news₂, rfl, hk₃, F₃, N₃, hno₃, hsub₃, hJ₃⟩ := h₃
      refine ⟨items.size + 1 - (i + 1), by omega, h₃', tk₃, m₂, news₂, i + 1, rfl, hk₃, ⟨oI, (N₃ _ List.mem_cons_self).1, hcI, hdI⟩, F₃, fun p hp => N₃ p (List.mem_cons_of_mem _ hp), hno₃, fun p hp => hsub₃ p (hsub p hp), hJ₃, hlt, rfl⟩
/-- a for over a list; the ledger grows from turn to turn -/
theorem for_grow {E : Value → Shared → Prop} {pos : Pos} {iter : Expr} {ax : Addr} {items : Array Value} {m : Str → Option Value} {news : List (Addr × Obj)}
    (hh : A.handled = none)
    (F : Fr h₀ env.locals s.heap m) (N : News h₀ env.locals s.heap news) (h0k : @LT.lt Nat _ 0 s.toks)
    (hsrc : LCg.SrcAt h₀ ax items news) (hno : NoIt news)
    (hiter : ∀ Q', Q' (.ref ax) s → wpAny (model prog w) A (eval iter env) Q' E s)
    (hgo : ∀ I i v (s' : Shared) (Q' : Unit → Shared → Prop) (E' : Value → Shared → Prop), items[i]? = some v → s'.heap.IsListIter I ax (i + 1) → Q' () s' → wpAny (model prog w) A (letOwnedTupleGo target (.ref I) v) Q' E' s')
    (J : Nat → (Str → Option Value) → List (Addr × Obj) → Prop) (h0 : J 0 m news)
    (step : ∀ I i v m₁ news₁ h tk oI, items[i]? = some v → J i m₁ news₁ → (∀ p ∈ news, p ∈ news₁) → NoIt news₁ → @LT.lt Nat _ 0 tk → Fr h₀ env.locals h m₁ → News h₀ env.locals h ((I, oI) :: news₁) →
      wpAny (model prog w) A (assign target env v) (fun _ s₂ => wpAny (model prog w) A (execs body env) (TurnEnd h₀ env.locals I oI news₁ (J (i + 1)) s) (fun _ _ => False) s₂) (fun _ _ => False) { s with heap := h, toks := tk })
    (hQ : ∀ h' tk m' news', @LT.lt Nat _ 0 tk → Fr h₀ env.locals h' m' → News h₀ env.locals h' news' → NoIt news' → (∀ p ∈ news, p ∈ news') → J items.size m' news' → Q .next { s with heap := h', toks := tk })
    (hs : ∀ x, foldedSetIterable iter env x = pure x := by intro _; rfl) :
    wpAny (model prog w) A (exec (.For target iter body [] pos) env) Q E s := by
  have hl : s.heap.IsList ax items := hsrc.list F.keep N
  refine wpAny_For (hiter _ (wpAny_pyIter_list hl ?_)) hs
  have up : ∀ b o, s.heap.get? b = some o → (s.heap.push { cls := .type "list_iterator", data := .fields #[.ref ax, .int 0 0] }).get? b = some o := fun b o e => Heap.get?_push_of_some _ e
  refine loop_grow (s := { s with heap := _ }) (I := s.heap.objs.size) (ax := ax) (R := fun r s' => match r with | .ok f => Q f s' | .error e => cameBackBy (model prog w) A env E e s') hh (Fr.mk' F up) (News.mk' N up) h0k ⟨_, Heap.get?_push_size _ rfl, rfl, rfl⟩ (Ne.symm (Nat.ne_of_lt F.ns.lt)) (next_is_new F) hsrc hno (hgo _) J h0 ?_ ?_
  · intro i v m₁ news₁ h tk oI h1 h2 h3 h4 h5 h6 h7
    exact step _ i v m₁ news₁ h tk oI h1 h2 h3 h4 h5 h6 h7
  · intro h' tk m' news' a b c d e f
    exact hQ h' tk m' news' a b c d e f
end
end
section
open PySem PySem.W PySem.Calls PyProof.Rows
noncomputable def opsL : List Str := ["(", ")", "[", "]", ":", ",", ";", "+", "-", "*", "/", "|", "&", "<", ">", "=", ".", "%", "{", "}", "==", "!=", "<=", ">=", "~", "^", "<<", ">>", "**", "+=", "-=", "*=", "/=", "%=", "&=", "|=", "^=", "<<=", ">>=", "**=", "//", "//=", "@", "@=", "->", "...", ":=", "!"].map Str.ofString
theorem opsL_len : opsL.length = 48 := rfl
/-- what the law's lists hold: ints, the operators by their places, lists -/
inductive D where
  | int (i : Int)
  | str (i : Nat)
  | list (ds : List D)
noncomputable abbrev Good := Addr → Obj → Prop
mutual
inductive DG (G : Good) : Value → D → Prop
  | int (i : Int) (t : Tok) : DG G (.int i t) (.int i)
  | str {i : Nat} {x : Str} (t : Tok) : opsL[i]? = some x → DG G (.str x t) (.str i)
  | list {a : Addr} {vs : List Value} {n : Nat} {ds : List D} : G a (listOf vs.toArray n) → DGs G vs ds → DG G (.ref a) (.list ds)
inductive DGs (G : Good) : List Value → List D → Prop
  | nil : DGs G [] []
  | cons {v : Value} {vs : List Value} {d : D} {ds : List D} : DG G v d → DGs G vs ds → DGs G (v :: vs) (d :: ds)
end
mutual
theorem DG.mono {G G' : Good} (hs : ∀ a o, G a o → G' a o) : ∀ {v : Value} {d : D}, DG G v d → DG G' v d
  | _, _, .int i t => .int i t
  | _, _, .str t h => .str t h
  | _, _, .list h r => .list (hs _ _ h) (DGs.mono hs r)
theorem DGs.mono {G G' : Good} (hs : ∀ a o, G a o → G' a o) : ∀ {vs : List Value} {ds : List D}, DGs G vs ds → DGs G' vs ds
  | _, _, .nil => .nil
  | _, _, .cons h r => .cons (DG.mono hs h) (DGs.mono hs r)
end
section
variable {G : Good} {v : Value} {d : D} {vs ws : List Value} {ds es : List D}
theorem DGs.length (h : DGs G vs ds) : vs.length = ds.length := by
  induction vs generalizing ds with
  | nil => cases h; rfl
  | cons v vs ih => cases h with | cons _ r => rw [List.length_cons, List.length_cons, ih r]
theorem DGs.append (h : DGs G vs ds) (k : DGs G ws es) : DGs G (vs ++ ws) (ds ++ es) := by
  induction vs generalizing ds with
  | nil => cases h; exact k
  | cons v vs ih => cases h with | cons h r => exact .cons h (ih r)
theorem DGs.one (h : DG G v d) : DGs G [v] [d] := .cons h .nil
theorem DGs.take (h : DGs G vs ds) (n : Nat) : DGs G (vs.take n) (ds.take n) := by
  induction vs generalizing ds n with
  | nil => cases h; rw [List.take_nil, List.take_nil]; exact .nil
  | cons v vs ih => cases h with | cons h r => cases n with | zero => exact .nil | succ n => exact .cons h (ih r n)
theorem DGs.drop (h : DGs G vs ds) (n : Nat) : DGs G (vs.drop n) (ds.drop n) := by
  induction vs generalizing ds n with
  | nil => cases h; rw [List.drop_nil, List.drop_nil]; exact .nil
  | cons v vs ih => cases h with | cons h r => cases n with | zero => exact .cons h r | succ n => exact ih r n
theorem DGs.get (h : DGs G vs ds) {k : Nat} {d : D} (hk : ds[k]? = some d) : ∃ v, vs[k]? = some v ∧ DG G v d := by
  induction vs generalizing ds k with
  | nil => cases h; simp at hk
  | cons v vs ih =>
    cases h with
    | cons h r =>
      cases k with
      | zero => simp at hk; subst hk; exact ⟨v, rfl, h⟩
      | succ k => exact ih r (by simpa using hk)
end
/-- the trees that the numbers make -/
noncomputable def forestStep (f : List D) (x : Int) : List D :=
  if x.fmod 4 < 3 then f ++ [.str ((x.fdiv 4).fmod 48).toNat]
  else f.take (f.length - ((x.fdiv 4).fmod 4).toNat) ++ [.list (.int (256 + (x.fdiv 16).fmod 256) :: f.drop (f.length - ((x.fdiv 4).fmod 4).toNat))]
noncomputable def forestF (ns : List Int) : List D := ns.foldl forestStep []
theorem forestStep_len (f : List D) (x : Int) : (forestStep f x).length ≤ f.length + 1 := by
  unfold forestStep
  split
  · simp
  · simp
theorem opsSplit : Txt.split (Str.ofString "( ) [ ] : , ; + - * / | & < > = . % { } == != <= >= ~ ^ << >> ** " ++ Str.ofString "+= -= *= /= %= &= |= ^= <<= >>= **= // //= @ @= -> ... := !") (Str.ofString " ") = opsL := by decide +kernel
noncomputable def Stop (P : Prop) : Prop := P
theorem stop_i {P : Prop} (h : Stop P) : P := h
end
section
open PySem PySem.W PySem.Calls PyProof.Rows
theorem rules_z6 : True := by
  k_with_none
  k_with "call builtin:max" => ((with_reducible show wpAny _ _ (call _ [Value.float _ _, Value.float _ _, Value.float _ _]) _ _ _); (rename News _ _ _ _ => N'); (rename Fr _ _ _ _ => F'); refine max3L (by assumption) (by first | exact Nat.succ_pos _ | with_reducible assumption | omega | (dsimp only; first | exact Nat.succ_pos _ | with_reducible assumption | omega)) (by first | exact Nat.succ_pos _ | with_reducible assumption | omega | (dsimp only; first | exact Nat.succ_pos _ | with_reducible assumption | omega)) F' N' ?_; clear F' N'; intro h' tk' tt' htk' htt' F' N')
  k_with "call builtin:min" => ((with_reducible show wpAny _ _ (call _ [Value.float _ _, Value.float _ _, Value.float _ _]) _ _ _); (rename News _ _ _ _ => N'); (rename Fr _ _ _ _ => F'); refine min3L (by assumption) (by first | exact Nat.succ_pos _ | with_reducible assumption | omega | (dsimp only; first | exact Nat.succ_pos _ | with_reducible assumption | omega)) (by first | exact Nat.succ_pos _ | with_reducible assumption | omega | (dsimp only; first | exact Nat.succ_pos _ | with_reducible assumption | omega)) F' N' ?_; clear F' N'; intro h' tk' tt' htk' htt' F' N')
  k_with "binaryOp Div float float" => (refine divL (by first | assumption | decide +kernel) ?_)
  k_with "binaryOp Mod float float" => (refine modL (by first | assumption | decide +kernel) ?_)
  k_with "exec If" => ((with_reducible show wpAny _ _ (exec (Stmt.If (Expr.Compare (Expr.Name _ _) [_] [Expr.Constant _ _ _] _) [Stmt.Assign _ _ _] [] _) _) _ _ _); (rename News _ _ _ _ => N'); (rename Fr _ _ _ _ => F'); (with_reducible (first | refine' clampLt F' N' ?k1 ?k5 ?_ ?k2 ?k3 ?k4 | refine' clampGt F' N' ?k1 ?k5 ?_ ?k2 ?k3 ?k4)); (case k1 => k_dflt exact rfl); (case k5 => first | exact Nat.succ_pos _ | with_reducible assumption | omega | (dsimp only; first | exact Nat.succ_pos _ | with_reducible assumption | omega)); (case k2 => k_dflt exact rfl); (case k3 => k_dflt exact rfl); (case k4 => k_dflt decide); clear F' N'; intro h' tk' tt' htk' htt' F' N')
  k_with "execs cons" => (refine execs_toks (by first | exact Nat.succ_pos _ | with_reducible assumption | omega | (dsimp only; first | exact Nat.succ_pos _ | with_reducible assumption | omega)) ?_; intro tk' htk'; try dsimp only)
  k_with "TokPos" => (unfold TokPos; intro htk'; try dsimp only)
  k_with "mine_enter" => (k_dflt (refine' enter0 ?kX ?kT ?k6 ?k7 ?kr ?k9 ?kB ?_ ?c2 ?c3 ?c4 ?c5; (case kX => assumption); (case kT => assumption); (case kr => (first | assumption | decide | (k_dflt omega))); (case k6 => k_is); (case k7 => k_is); (case k9 => exact BindsTo.of_eq rfl); (case c5 => decide); (case kB => exact locs rfl); (case c2 => exact rfl); (case c3 => exact rfl); (case c4 => exact rfl); k_whole); intro L' h' F' N'; (try dsimp only); (try k_fold))
  k_with "mine_end3" => ((rename Fr _ _ _ _ => F9); (rename News _ _ _ _ => N9); (rename (∀ (_ : Addr), _) => ret9); refine ret9 _ _ _ (by first | exact Nat.succ_pos _ | with_reducible assumption | omega | (dsimp only; first | exact Nat.succ_pos _ | with_reducible assumption | omega)) (Fr.keep F9) (N9 _ (List.Mem.head _)).2.2 ?_; have q9 := (N9 _ (List.Mem.head _)).1; clear F9 N9 ret9; (first | (refine ⟨_, _, _, ?_, q9⟩; exact ⟨(by first | exact Nat.succ_pos _ | with_reducible assumption | omega | (dsimp only; first | exact Nat.succ_pos _ | with_reducible assumption | omega)), (by first | exact Nat.succ_pos _ | with_reducible assumption | omega | (dsimp only; first | exact Nat.succ_pos _ | with_reducible assumption | omega)), (by first | exact Nat.succ_pos _ | with_reducible assumption | omega | (dsimp only; first | exact Nat.succ_pos _ | with_reducible assumption | omega))⟩) | (simp only [hueH, if_true, if_false, Bool.false_eq_true, *]; (refine ⟨_, _, _, ?_, q9⟩; exact ⟨(by first | exact Nat.succ_pos _ | with_reducible assumption | omega | (dsimp only; first | exact Nat.succ_pos _ | with_reducible assumption | omega)), (by first | exact Nat.succ_pos _ | with_reducible assumption | omega | (dsimp only; first | exact Nat.succ_pos _ | with_reducible assumption | omega)), (by first | exact Nat.succ_pos _ | with_reducible assumption | omega | (dsimp only; first | exact Nat.succ_pos _ | with_reducible assumption | omega))⟩))))
  k_with "mine_end1" => ((rename Fr _ _ _ _ => F9); (rename News _ _ _ _ => N9); (rename (∀ (_ : Heap), _) => ret9); refine ret9 _ _ _ _ (by first | exact Nat.succ_pos _ | with_reducible assumption | omega | (dsimp only; first | exact Nat.succ_pos _ | with_reducible assumption | omega)) (by first | exact Nat.succ_pos _ | with_reducible assumption | omega | (dsimp only; first | exact Nat.succ_pos _ | with_reducible assumption | omega)) (Fr.keep F9) ?_; clear F9 N9 ret9; (first | rfl | (simp only [vF, hueF, if_true, if_false, Bool.false_eq_true, *]; done)))
  trivial
theorem ops_call : ∀ {w : World} {A : Around} {s : Shared} {mean : ExcName → Option Value} {mg mb : Str → Option Value} {Q E : Value → Shared → Prop},
    (KK w).In s.heap → TT mean mg mb s.heap → A.depth < recursionLimit → A.handled = none → @LT.lt Nat _ 0 s.toks →
    (∀ x h' tk' vs, @LT.lt Nat _ 0 tk' → Keeps s.heap h' → s.heap.get? x = none → h'.get? x = some (listOf (strValues vs).toArray 0) → vs.map (fun x => x.fst) = opsL → Q (.ref x) { s with heap := h', toks := tk' }) →
    wpAny (model PP w) A (call (.ref 94) []) Q E s := by
  unfold KK TT PP
  k_fill
  intro w A s mean mg mb Q E X T hroom hh h0k ret
  walk_at "mine_enter"
  k_steps
  (rename News _ _ _ _ => N9); (rename Fr _ _ _ _ => F9); (rename (List.map _ _ = _) => e9)
  rw [opsSplit] at e9
  exact ret _ _ _ _ (by first | exact Nat.succ_pos _ | with_reducible assumption | omega | (dsimp only; first | exact Nat.succ_pos _ | with_reducible assumption | omega)) (Fr.keep F9) (N9 _ (List.Mem.head _)).2.2 (N9 _ (List.Mem.head _)).1 e9
theorem opsP {w : World} {A : Around} {s : Shared} {Q E : Value → Shared → Prop} {mean : ExcName → Option Value} {mg mb : Str → Option Value} {h₀ : Heap} {L : Addr} {m : Str → Option Value} {news : List (Addr × Obj)}
    (F : Fr h₀ L s.heap m) (N : News h₀ L s.heap news) (X : (KK w).In h₀) (T : TT mean mg mb h₀) (hr : A.depth < recursionLimit) (hh : A.handled = none) (h0k : @LT.lt Nat _ 0 s.toks)
    (h : ∀ x h' tk' vs, @LT.lt Nat _ 0 tk' → Fr h₀ L h' m → News h₀ L h' ((x, listOf (strValues vs).toArray 0) :: news) → vs.map (fun x => x.fst) = opsL → Q (.ref x) { s with heap := h', toks := tk' }) :
    wpAny (model PP w) A (call (.ref 94) []) Q E s :=
  ops_call (X.keeps F.keep) (Top.keeps T F.keep) hr hh h0k fun x h' tk' vs k0 kk fr e he => h x h' tk' vs k0 (Fr.mk' F kk) (News.add F N kk e fr) he
end
section
open PySem PySem.W PySem.Calls PyProof.Rows
section
variable {prog : Program} {w : World} {A : Around} {E : Value → Shared → Prop} {s : Shared} {h₀ : Heap} {L a b l : Addr} {m : Str → Option Value} {news : List (Addr × Obj)} {vs ws zs : List Value} {Q : Value → Shared → Prop} {n k : Nat} {value slice : Expr} {vl vu : Value} {lo hi : Option Int}
theorem addL (F : Fr h₀ L s.heap m) (N : News h₀ L s.heap news) (ha : s.heap.IsList a vs.toArray) (hb : s.heap.IsList b ws.toArray) (hz : vs.length + ws.length ≤ 1000000)
    (h : ∀ D h', Fr h₀ L h' m → News h₀ L h' ((D, listOf (vs ++ ws).toArray 0) :: news) → Q (.ref D) { s with heap := h' }) : wpAny (model prog w) A (binaryOp .Add (.ref a) (.ref b)) Q E s :=
  add_lists F N ha hb (fun h' F' N' => h _ h' F' N') (by rw [sizeLine_eq]; omega)
theorem sliceL (F : Fr h₀ L s.heap m) (N : News h₀ L s.heap news) (hl : s.heap.IsList l vs.toArray) (pl : IsPart vl lo) (pu : IsPart vu hi) (e : kms_pick vs lo hi = zs) (hz : vs.length ≤ 1000000)
    (h : ∀ D h', Fr h₀ L h' m → News h₀ L h' ((D, listOf zs.toArray 0) :: news) → Q (.ref D) { s with heap := h' })
    (hs : subscripted slice false (.ref l) (.ref s.heap.objs.size) = operate [.ref s.heap.objs.size, .ref l] (getItem (.ref l) (.ref s.heap.objs.size))) (ht : ∀ r, letTemporaryGo value (.ref l) r = pure ()) :
    wpAny (model prog w) A (subscriptTail value slice (.ref l) (.ref s.heap.objs.size)) Q E { s with heap := s.heap.push { cls := .type "slice", data := .fields #[vl, vu, .none] } } :=
  kms_slice_lit F N hl pl pu e (fun D h' F' N' _ => h D h' F' N') hs ht (by rw [List.size_toArray, sizeLine_eq]; omega)
theorem pickTo {y : Int} (h : 0 ≤ y) : kms_pick vs none (some y) = vs.take y.toNat := by
  unfold kms_pick kms_lo kms_hi
  simp only [if_neg (Int.not_lt.mpr h), List.drop_zero, Nat.sub_zero]
  exact kmk_take_min vs _
theorem pickFrom {x : Int} (h : 0 ≤ x) : kms_pick vs (some x) none = vs.drop x.toNat := by
  unfold kms_pick kms_lo kms_hi
  simp only [if_neg (Int.not_lt.mpr h)]
  rw [kmk_drop_min]
  exact List.take_of_length_le (by rw [List.length_drop]; omega)
theorem pickToNeg {y : Int} (h : y < 0) : kms_pick vs none (some y) = vs.take (vs.length - (-y).toNat) := by
  unfold kms_pick kms_lo kms_hi
  simp only [if_pos h, List.drop_zero, Nat.sub_zero]
theorem lenL (hl : s.heap.IsList l vs.toArray) (hz : vs.length ≤ 1000000) (h : Q (.int (vs.length : Int) (s.toks + 1)) { s with toks := s.toks + 1 + 1 }) : wpAny (model prog w) A (call (.builtin "len") [.ref l]) Q E s :=
  len_list hl (by rw [List.size_toArray]; omega) (by rw [List.size_toArray]; exact h)
theorem maxL {c d : Int} {t u : Tok} (hh : A.handled = none) (F : Fr h₀ L s.heap m) (N : News h₀ L s.heap news)
    (h0k : @LT.lt Nat _ 0 s.toks) (h : ∀ h' tk tt, @LT.lt Nat _ 0 tk → Fr h₀ L h' m → News h₀ L h' news → Q (.int (max c d) tt) { s with heap := h', toks := tk }) :
    wpAny (model prog w) A (call (.builtin "max") [.int c t, .int d u]) Q E s := by
  refine wpAny_with_toks (n := 1) h0k (max_two_N hh F N fun h' tk F' N' hk => ?_)
  have e : (if d > c then d else c) = max c d := by split <;> omega
  rw [e]
  exact h h' tk _ hk F' N'
theorem opItem {vs : List (Str × Tok)} (e : vs.map (fun x => x.fst) = opsL) {i : Nat} (hi : i < 48) : ∃ x t, (strValues vs)[i]? = some (.str x t) ∧ opsL[i]? = some x := by
  have hl : i < vs.length := by have := congrArg List.length e; rw [List.length_map, opsL_len] at this; omega
  refine ⟨vs[i].1, vs[i].2, ?_, ?_⟩
  · unfold strValues; rw [List.getElem?_map, List.getElem?_eq_getElem hl]; rfl
  · rw [← e, List.getElem?_map, List.getElem?_eq_getElem hl]; rfl
theorem opsAt {value slice : Expr} {a : Addr} {l : List (Str × Tok)} {k : Int} {u : Tok} (e : l.map (fun x => x.fst) = opsL) (hl : s.heap.IsList a (strValues l).toArray)
    (h0 : 0 ≤ k ∧ k < 48) (h : ∀ x t, opsL[k.toNat]? = some x → Q (.str x t) s)
    (hs : subscripted slice false (.ref a) (.int k u) = operate [.ref a, .int k u] (getItem (.ref a) (.int k u))) (hg : ∀ r, letTemporaryGo value (.ref a) r = pure ()) :
    wpAny (model prog w) A (subscriptTail value slice (.ref a) (.int k u)) Q E s := by
  obtain ⟨x, t, h1, h2⟩ := opItem e (i := k.toNat) (by omega)
  exact item_listL hl h0.1 (by omega) h1 (h x t h2) hs hg
end
theorem same_map2 {m : Str → Option Value} {x y : Str} {u v : Value} (hx : m x = some u) (hy : m y = some v) : ∃ m9 : Str → Option Value, m = fun z => if z = x then some u else if z = y then some v else m9 z :=
  ⟨m, by funext z; by_cases h1 : z = x; (· rw [if_pos h1, h1, hx]); (· rw [if_neg h1]; by_cases h2 : z = y; (· rw [if_pos h2, h2, hy]); (· rw [if_neg h2]))⟩
theorem NoIt.list {a : Addr} {vs : Array Value} {n : Nat} {news : List (Addr × Obj)} (x : NoIt news) : NoIt ((a, listOf vs n) :: news) := x.cons (by simp [W.listOf])
theorem NoIt.tup {a : Addr} {d : Data} {news : List (Addr × Obj)} (x : NoIt news) : NoIt ((a, { cls := .type "tuple", data := d }) :: news) := x.cons (by simp)
theorem turn_end {h₀ h' : Heap} {L I : Addr} {oI : Obj} {new news₁ : List (Addr × Obj)} {J : (Str → Option Value) → List (Addr × Obj) → Prop} {s : Shared} {m₂ : Str → Option Value} {tk' : Nat} (F : Fr h₀ L h' m₂) (N : News h₀ L h' (new ++ (I, oI) :: news₁)) (h0 : @LT.lt Nat _ 0 tk') (x : NoIt new) (y : NoIt news₁) (hJ : J m₂ (new ++ news₁)) :
    TurnEnd h₀ L I oI news₁ J s .next { s with heap := h', toks := tk' } := by
  refine ⟨rfl, h', tk', m₂, new ++ news₁, rfl, h0, F, fun p hp => N p ?_, fun p hp => ?_, fun p hp => List.mem_append.mpr (.inr hp), hJ⟩
  · rcases List.mem_cons.mp hp with rfl | hp
    · exact List.mem_append.mpr (.inr List.mem_cons_self)
    · rcases List.mem_append.mp hp with hp | hp
      · exact List.mem_append.mpr (.inl hp)
      · exact List.mem_append.mpr (.inr (List.mem_cons_of_mem _ hp))
  · exact (List.mem_append.mp hp).elim (x p) (y p)
theorem forestF_succ {ns : List Int} {i : Nat} {n : Int} (h : ns[i]? = some n) : forestF (ns.take (i + 1)) = forestStep (forestF (ns.take i)) n := by
  unfold forestF
  rw [List.take_add_one, h, List.foldl_append]
  rfl
theorem forestF_len (ns : List Int) : (forestF ns).length ≤ ns.length := by
  have : ∀ (ns : List Int) (f : List D), (ns.foldl forestStep f).length ≤ f.length + ns.length := by
    intro ns
    induction ns with
    | nil => intro f; simp
    | cons n ns ih => intro f; have := ih (forestStep f n); have := forestStep_len f n; simp only [List.foldl_cons, List.length_cons]; omega
  have := this ns []
  rw [List.length_nil, Nat.zero_add] at this
  exact this
theorem forest_leaf {G G' : Good} {vs : List Value} {f : List D} {x : Int} {op : Str} {t : Tok} (h : DGs G vs f) (hs : ∀ a o, G a o → G' a o) (hop : opsL[((x.fdiv 4).fmod 48).toNat]? = some op) (hx : x.fmod 4 < 3) : DGs G' (vs ++ [.str op t]) (forestStep f x) := by
  unfold forestStep
  rw [if_pos hx]
  exact (h.mono hs).append (.one (.str t hop))
theorem forest_node {G G' : Good} {vs zs : List Value} {f : List D} {x : Int} {c : Nat} {a : Addr} {n : Nat} {t : Tok} (h : DGs G vs f) (hs : ∀ a o, G a o → G' a o) (ha : G' a (listOf (.int (256 + (x.fdiv 16).fmod 256) t :: vs.drop c).toArray n)) (hx : ¬ x.fmod 4 < 3)
    (hc : c = f.length - ((x.fdiv 4).fmod 4).toNat) (e : zs = vs.take c ++ [.ref a]) : DGs G' zs (forestStep f x) := by
  unfold forestStep
  rw [if_neg hx, ← hc, e]
  have h' := h.mono hs
  exact (h'.take c).append (.one (.list ha (.cons (.int _ t) (h'.drop c))))
end
section
open PySem PySem.W PySem.Calls PyProof.Rows
theorem rules_b : True := by
  k_with_none
  k_with "call builtin:max" => ((with_reducible show wpAny _ _ (call _ [Value.float _ _, Value.float _ _, Value.float _ _]) _ _ _); (rename News _ _ _ _ => N'); (rename Fr _ _ _ _ => F'); refine max3L (by assumption) (by first | exact Nat.succ_pos _ | with_reducible assumption | omega | (dsimp only; first | exact Nat.succ_pos _ | with_reducible assumption | omega)) (by first | exact Nat.succ_pos _ | with_reducible assumption | omega | (dsimp only; first | exact Nat.succ_pos _ | with_reducible assumption | omega)) F' N' ?_; clear F' N'; intro h' tk' tt' htk' htt' F' N')
  k_with "call builtin:min" => ((with_reducible show wpAny _ _ (call _ [Value.float _ _, Value.float _ _, Value.float _ _]) _ _ _); (rename News _ _ _ _ => N'); (rename Fr _ _ _ _ => F'); refine min3L (by assumption) (by first | exact Nat.succ_pos _ | with_reducible assumption | omega | (dsimp only; first | exact Nat.succ_pos _ | with_reducible assumption | omega)) (by first | exact Nat.succ_pos _ | with_reducible assumption | omega | (dsimp only; first | exact Nat.succ_pos _ | with_reducible assumption | omega)) F' N' ?_; clear F' N'; intro h' tk' tt' htk' htt' F' N')
  k_with "binaryOp Div float float" => (refine divL (by first | assumption | decide +kernel) ?_)
  k_with "binaryOp Mod float float" => (refine modL (by first | assumption | decide +kernel) ?_)
  k_with "exec If" => ((with_reducible show wpAny _ _ (exec (Stmt.If (Expr.Compare (Expr.Name _ _) [_] [Expr.Constant _ _ _] _) [Stmt.Assign _ _ _] [] _) _) _ _ _); (rename News _ _ _ _ => N'); (rename Fr _ _ _ _ => F'); (with_reducible (first | refine' clampLt F' N' ?k1 ?k5 ?_ ?k2 ?k3 ?k4 | refine' clampGt F' N' ?k1 ?k5 ?_ ?k2 ?k3 ?k4)); (case k1 => k_dflt exact rfl); (case k5 => first | exact Nat.succ_pos _ | with_reducible assumption | omega | (dsimp only; first | exact Nat.succ_pos _ | with_reducible assumption | omega)); (case k2 => k_dflt exact rfl); (case k3 => k_dflt exact rfl); (case k4 => k_dflt decide); clear F' N'; intro h' tk' tt' htk' htt' F' N')
  k_with "execs cons" => (refine execs_toks (by first | exact Nat.succ_pos _ | with_reducible assumption | omega | (dsimp only; first | exact Nat.succ_pos _ | with_reducible assumption | omega)) ?_; intro tk' htk'; try dsimp only)
  k_with "TokPos" => (unfold TokPos; intro htk'; try dsimp only)
  k_with "mine_enter" => (k_dflt (refine' enter0 ?kX ?kT ?k6 ?k7 ?kr ?k9 ?kB ?_ ?c2 ?c3 ?c4 ?c5; (case kX => assumption); (case kT => assumption); (case kr => (first | assumption | decide | (k_dflt omega))); (case k6 => k_is); (case k7 => k_is); (case k9 => exact BindsTo.of_eq rfl); (case c5 => decide); (case kB => exact locs rfl); (case c2 => exact rfl); (case c3 => exact rfl); (case c4 => exact rfl); k_whole); intro L' h' F' N'; (try dsimp only); (try k_fold))
  k_with "mine_end3" => ((rename Fr _ _ _ _ => F9); (rename News _ _ _ _ => N9); (rename (∀ (_ : Addr), _) => ret9); refine ret9 _ _ _ (by first | exact Nat.succ_pos _ | with_reducible assumption | omega | (dsimp only; first | exact Nat.succ_pos _ | with_reducible assumption | omega)) (Fr.keep F9) (N9 _ (List.Mem.head _)).2.2 ?_; have q9 := (N9 _ (List.Mem.head _)).1; clear F9 N9 ret9; (first | (refine ⟨_, _, _, ?_, q9⟩; exact ⟨(by first | exact Nat.succ_pos _ | with_reducible assumption | omega | (dsimp only; first | exact Nat.succ_pos _ | with_reducible assumption | omega)), (by first | exact Nat.succ_pos _ | with_reducible assumption | omega | (dsimp only; first | exact Nat.succ_pos _ | with_reducible assumption | omega)), (by first | exact Nat.succ_pos _ | with_reducible assumption | omega | (dsimp only; first | exact Nat.succ_pos _ | with_reducible assumption | omega))⟩) | (simp only [hueH, if_true, if_false, Bool.false_eq_true, *]; (refine ⟨_, _, _, ?_, q9⟩; exact ⟨(by first | exact Nat.succ_pos _ | with_reducible assumption | omega | (dsimp only; first | exact Nat.succ_pos _ | with_reducible assumption | omega)), (by first | exact Nat.succ_pos _ | with_reducible assumption | omega | (dsimp only; first | exact Nat.succ_pos _ | with_reducible assumption | omega)), (by first | exact Nat.succ_pos _ | with_reducible assumption | omega | (dsimp only; first | exact Nat.succ_pos _ | with_reducible assumption | omega))⟩))))
  k_with "mine_end1" => ((rename Fr _ _ _ _ => F9); (rename News _ _ _ _ => N9); (rename (∀ (_ : Heap), _) => ret9); refine ret9 _ _ _ _ (by first | exact Nat.succ_pos _ | with_reducible assumption | omega | (dsimp only; first | exact Nat.succ_pos _ | with_reducible assumption | omega)) (by first | exact Nat.succ_pos _ | with_reducible assumption | omega | (dsimp only; first | exact Nat.succ_pos _ | with_reducible assumption | omega)) (Fr.keep F9) ?_; clear F9 N9 ret9; (first | rfl | (simp only [vF, hueF, if_true, if_false, Bool.false_eq_true, *]; done)))
  k_with "execs cons" => first | ((with_reducible show wpAny _ _ (execs (Stmt.For _ _ _ _ _ :: _) _) _ _ _); refine stop_i ?_) | (refine execs_toks (by first | exact Nat.succ_pos _ | with_reducible assumption | omega | (dsimp only; first | exact Nat.succ_pos _ | with_reducible assumption | omega)) ?_; intro tk' htk'; try dsimp only)
  k_with "my mem" => (first | exact List.mem_cons_self | assumption | (refine List.mem_cons_of_mem _ ?_; walk_at "my mem"))
  k_with "my list" => (first | exact News.isList (by with_reducible assumption) (by walk_at "my mem") | exact Fr.lst (by with_reducible assumption) (by assumption))
  k_with "my len" => (first | (simp only [List.length_append, List.length_cons, List.length_nil, List.length_take, List.length_drop]; omega) | omega)
  k_with "binaryOp Add ref ref" => ((rename News _ _ _ _ => N'); (rename Fr _ _ _ _ => F'); (refine addL F' N' (by walk_at "my list") (by walk_at "my list") (by walk_at "my len") ?_); clear F' N'; intro D' h' F' N'; (try dsimp only))
  k_with "subscriptTail Name Slice ref ref" => ((rename News _ _ _ _ => N'); (rename Fr _ _ _ _ => F'); (k_dflt (refine' sliceL F' N' ?zl ?zp ?zq ?ze ?zz ?_ ?zs ?zt; (case zl => walk_at "my list"); (case zp => kmk_part); (case zq => kmk_part); (case ze => first | exact pickTo (by omega) | exact pickFrom (by omega) | exact pickToNeg (by omega)); (case zz => walk_at "my len"); (case zs => with_unfolding_all rfl); (case zt => kmk_pure))); clear F' N'; intro D' h' F' N'; (try dsimp only))
  k_with "call builtin:len" => ((rename News _ _ _ _ => N'); (rename Fr _ _ _ _ => F'); refine lenL (by walk_at "my list") (by walk_at "my len") ?_)
  k_with "newList" => ((rename News _ _ _ _ => N'); (rename Fr _ _ _ _ => F'); refine newList_K F' N' ?_; clear F' N'; intro D' h' F' N' l1; clear l1; (try dsimp only))
  k_with "call builtin:max" => ((with_reducible show wpAny _ _ (call _ [Value.int _ _, Value.int _ _]) _ _ _); (rename News _ _ _ _ => N'); (rename Fr _ _ _ _ => F'); refine maxL (by k_dflt exact rfl) F' N' (by first | exact Nat.succ_pos _ | with_reducible assumption | omega | (dsimp only; first | exact Nat.succ_pos _ | with_reducible assumption | omega)) ?_; clear F' N'; intro h' tk' tt' htk' F' N')
  k_with "call ref" => ((with_reducible show wpAny _ _ (call (Value.ref 94) _) _ _ _); (rename News _ _ _ _ => N'); (rename Fr _ _ _ _ => F'); (k_dflt (refine opsP F' N' (by assumption) (by assumption) (Nat.le_of_ble_eq_true rfl) rfl (by first | exact Nat.succ_pos _ | with_reducible assumption | omega | (dsimp only; first | exact Nat.succ_pos _ | with_reducible assumption | omega)) ?_)); clear F' N'; intro x' h' tk' vs' htk' F' N' hops')
  k_with "mine_room" => (simp only [Around.deeper, Around.in1] at *; omega)
  k_with "subscriptTail Name BinOp ref int" => ((rename News _ _ _ _ => N'); (rename Fr _ _ _ _ => F'); (k_dflt (refine' opsAt (by assumption) ?zl ?zi ?_ ?zs ?zt; (case zl => walk_at "my list"); (case zi => exact fmod_range _ (by decide)); (case zs => with_unfolding_all rfl); (case zt => kmk_pure))); intro op' ot' hop')
  trivial
theorem forest_call : ∀ {w : World} {s : Shared} {mean : ExcName → Option Value} {mg mb : Str → Option Value} {Q E : Value → Shared → Prop} {ax : Addr} {vs : List Value} {ns : List Int},
    (KK w).In s.heap → TT mean mg mb s.heap → @LT.lt Nat _ 0 s.toks → s.heap.IsList ax vs.toArray → IntsAre vs ns → ns.length ≤ 100 →
    (∀ x h' tk' ws n made, @LT.lt Nat _ 0 tk' → Keeps s.heap h' → (∀ p ∈ made, h'.get? p.1 = some p.2 ∧ s.heap.get? p.1 = none) → NoIt made → (x, listOf ws.toArray n) ∈ made → DGs (fun a o => (a, o) ∈ made) ws (forestF ns) → Q (.ref x) { s with heap := h', toks := tk' }) →
    wpAny (model PP w) AR (call (.ref 101) [.ref ax]) Q E s := by
  unfold KK TT PP
  k_fill
  intro w s mean mg mb Q E ax vs ns X T h0k hl hi hlen ret
  walk_at "mine_enter"
  k_steps
  (rename News _ _ _ _ => N9); (rename Fr _ _ _ _ => F9)
  unfold Stop
  refine wpAny_execs_cons ?_
  refine for_grow (ax := ax) (items := vs.toArray) rfl F9 N9 (by first | exact Nat.succ_pos _ | with_reducible assumption | omega | (dsimp only; first | exact Nat.succ_pos _ | with_reducible assumption | omega)) (.inl hl) (NoIt.tup (NoIt.list (NoIt.list NoIt.nil))) (fun Q' hq => ld F9 rfl hq rfl rfl (by decide)) (fun _ _ _ _ _ _ _ _ hq => wpAny_pure hq)
    (fun i m nw => ∃ fa fvs fn, m (Str.ofString "forest") = some (.ref fa) ∧ m (Str.ofString "names") = some (.ref x') ∧ (fa, listOf fvs.toArray fn) ∈ nw ∧ DGs (fun a o => (a, o) ∈ nw) fvs (forestF (ns.take i)))
    ⟨_, [], 0, rfl, rfl, by walk_at "my mem", .nil⟩ ?step ?hQ
  case step =>
    intro I i v m₁ news₁ h tk oI hv hJ hsub hno1 htk F1 N1
    obtain ⟨fa, fvs, fn, hm1, hm2, hfa, hD⟩ := hJ
    obtain ⟨n, t, rfl, hn⟩ := hi.at i v (by simpa using hv)
    obtain ⟨m9, rfl⟩ := same_map2 hm1 hm2
    have hna := hsub _ (by walk_at "my mem" : (x', listOf (strValues vs').toArray 0) ∈ _)
    have hl1 := hD.length
    have hl2 := forestF_len (ns.take i)
    have hl3 : (ns.take i).length ≤ ns.length := by rw [List.length_take]; omega
    clear hm1 hm2 F9 N9 hsub
    k_steps
    · (rename News _ _ _ _ => N9); (rename Fr _ _ _ _ => F9)
      refine turn_end (new := [_, _]) F9 N9 (by first | exact Nat.succ_pos _ | with_reducible assumption | omega | (dsimp only; first | exact Nat.succ_pos _ | with_reducible assumption | omega)) (NoIt.list (NoIt.list NoIt.nil)) hno1 ⟨_, _, _, rfl, rfl, List.mem_cons_self, ?_⟩
      rw [forestF_succ hn]
      exact forest_leaf hD (fun _ _ hp => List.mem_append.mpr (.inr hp)) (by assumption) (by first | assumption | omega)
    · (rename News _ _ _ _ => N9); (rename Fr _ _ _ _ => F9)
      refine turn_end (new := [_, _, _, _, _, _]) F9 N9 (by first | exact Nat.succ_pos _ | with_reducible assumption | omega | (dsimp only; first | exact Nat.succ_pos _ | with_reducible assumption | omega)) (NoIt.list (NoIt.list (NoIt.list (NoIt.list (NoIt.list (NoIt.list NoIt.nil)))))) hno1 ⟨_, _, _, rfl, rfl, List.mem_cons_self, ?_⟩
      rw [forestF_succ hn]
      have hr := fmod_range (n.fdiv 4) (b := 4) (by decide)
      exact forest_node hD (fun _ _ hp => List.mem_append.mpr (.inr hp)) (List.mem_cons_of_mem _ (List.mem_cons_of_mem _ List.mem_cons_self)) (by first | assumption | omega) (by omega) rfl
  case hQ =>
    intro h' tk m' news' htk F1 N1 hno1 hsub hJ
    obtain ⟨fa, fvs, fn, hm1, hm2, hfa, hD⟩ := hJ
    obtain ⟨m9, rfl⟩ := same_map2 hm1 hm2
    rw [List.size_toArray, hi.length, List.take_length] at hD
    clear hm1 hm2 F9 N9
    k_steps
    (rename News _ _ _ _ => N9); (rename Fr _ _ _ _ => F9)
    exact ret _ _ _ fvs fn news' (by first | exact Nat.succ_pos _ | with_reducible assumption | omega | (dsimp only; first | exact Nat.succ_pos _ | with_reducible assumption | omega)) (Fr.keep F9) (fun p hp => ⟨(N9 p hp).1, (N9 p hp).2.2⟩) hno1 hfa hD
end
section
open PySem PySem.W PySem.Calls PyProof.Rows
/-- an iterator, told by what a turn hands on -/
structure Wk (prog : Program) (w : World) (A : Around) (target : Expr) (I : Addr) (fp wr : List Addr) (n : Nat) (P : Nat → Value → Heap → Prop) (St : Nat → Heap → Prop) (Mid : Nat → Value → Heap → Prop) : Prop where
  sub : ∀ b ∈ wr, b ∈ fp
  frame : ∀ i h h', St i h → (∀ b ∈ fp, ∀ o, h.get? b = some o → h'.get? b = some o) → St i h'
  item : ∀ i (s : Shared) (Q : Option Value → Shared → Prop) (E : Value → Shared → Prop), i < n → St i s.heap →
    (∀ v h' tk, Mid i v h' → (∀ b o, b ∉ wr → s.heap.get? b = some o → h'.get? b = some o) → Q (some v) { s with heap := h', toks := tk }) → wpAny (model prog w) A (pyNext (.ref I)) Q E s
  go : ∀ i v (s : Shared) (Q : Unit → Shared → Prop) (E : Value → Shared → Prop), Mid i v s.heap →
    (∀ h', P i v h' → St (i + 1) h' → (∀ b o, b ∉ wr → s.heap.get? b = some o → h'.get? b = some o) → Q () { s with heap := h' }) → wpAny (model prog w) A (letOwnedTupleGo target (.ref I) v) Q E s
  done : ∀ (s : Shared) (Q : Option Value → Shared → Prop) (E : Value → Shared → Prop), St n s.heap →
    (∀ h' tk, (∀ b o, b ∉ wr → s.heap.get? b = some o → h'.get? b = some o) → Q none { s with heap := h', toks := tk }) → wpAny (model prog w) A (pyNext (.ref I)) Q E s
  self : ∀ i (s : Shared) (Q : Value → Shared → Prop) (E : Value → Shared → Prop), St i s.heap → Q (.ref I) s → wpAny (model prog w) A (pyIter (.ref I)) Q E s
section
variable {prog : Program} {w : World} {A : Around}
theorem Wk.name {I : Addr} {fp wr : List Addr} {n : Nat} {P : Nat → Value → Prop} {St : Nat → Heap → Prop} {x : Str} {px : Pos} (W : Walks prog w A I fp wr n P St) :
    Wk prog w A (.Name x px) I fp wr n (fun i v _ => P i v) St (fun i v h => P i v ∧ St (i + 1) h) where
  sub := W.sub
  frame := W.frame
  item := fun i s Q E hi st hQ => W.item i s Q E hi st fun v h' tk hP hst hk => hQ v h' tk ⟨hP, hst⟩ hk
  go := fun i v s Q E hm hQ => wpAny_pure (hQ s.heap hm.1 hm.2 fun _ _ _ e => e)
  done := W.done
  self := W.self
theorem Wk.tup {I : Addr} {fp wr : List Addr} {n : Nat} {Pt : Nat → Array Value → Prop} {St : Nat → Heap → Prop} {Mid : Nat → Addr → Heap → Prop} {elts : List Expr} {k : Nat} {pos : Pos} (W : WalksU prog w A I fp wr n Pt St Mid) :
    Wk prog w A (.Tuple elts k pos) I fp wr n (fun i v h => ∃ T vals, v = .ref T ∧ Pt i vals ∧ h.IsTuple T vals) St (fun i v h => ∃ T vals, v = .ref T ∧ Pt i vals ∧ h.IsTuple T vals ∧ Mid i T h) where
  sub := W.sub
  frame := W.frame
  item := fun i s Q E hi st hQ => W.item i s Q E hi st fun T vals h' tk hP hT hm hk => hQ _ h' tk ⟨T, vals, rfl, hP, hT, hm⟩ hk
  go := fun i v s Q E hm hQ => by
    obtain ⟨T, vals, rfl, hP, hT, hm⟩ := hm
    refine W.go elts k pos i T s Q E hm fun h' hst hk => hQ h' ⟨T, vals, rfl, hP, ?_⟩ hst hk
    obtain ⟨o, ho, r⟩ := hT
    exact ⟨o, hk T o (W.apart _ _ _ hm) ho, r⟩
  done := W.done
  self := W.self
/-- one clause's loop, its body a tree -/
noncomputable def LoopOk (prog : Program) (w : World) (A : Around) (e target : Expr) (body : Env → Value → Sem Unit) : Prop :=
  ∀ (it acc : Value) (env : Env) (R : Result → Shared → Prop) (I : Nat → Shared → Prop),
    (∀ n s, I n s → wpAny (model prog w) A (pyNext it) (fun r s₁ => match r with
      | none => R (.ok .next) s₁
      | some v => wpAny (model prog w) A (letOwnedTupleGo target it v) (fun _ s₀ => wpAny (model prog w) A (assign target env v) (fun _ s₂ =>
          wpAny (model prog w) A (body env acc) (fun _ s₅ => ∃ m, m < n ∧ I m s₅) (fun _ _ => False) s₂) (fun _ _ => False) s₀) (fun _ _ => False) s₁) (fun _ _ => False) s) →
    ∀ n s, I n s → codeAny (model prog w) A (.compLoop e 0 it acc env) R s
noncomputable def StartOk (prog : Program) (w : World) (A : Around) (e : Expr) : Prop :=
  ∀ (it acc : Value) (env : Env) (R : Result → Shared → Prop) (s : Shared), codeAny (model prog w) A (.compLoop e 0 it acc env) R s →
    (wpAny (model prog w) A (pyIter it) (fun it' s' => codeAny (model prog w) A (.compLoop e 0 it' acc env) R s') (fun _ _ => False) s) → codeAny (model prog w) A (.compStart e 0 it acc env) R s
/-- what a turn leaves -/
noncomputable def CEnd {σ : Type} (h₀ : Heap) (L : Addr) (m : Str → Option Value) (C D : Addr) (oD : σ → Obj) (rest made : List (Addr × Obj)) (J : σ → List (Addr × Obj) → Prop) (s : Shared) (_ : Unit) (s₂ : Shared) : Prop :=
  ∃ h' tk new c oC m', s₂ = { s with heap := h', toks := tk } ∧ @LT.lt Nat _ 0 tk ∧ Fr h₀ L h' m ∧ LCg.NsObj oC m' ∧ News h₀ L h' (new ++ (C, oC) :: (D, oD c) :: rest) ∧ (∀ p ∈ new, ∀ q ∈ (C, oC) :: (D, oD c) :: rest, p.1 ≠ q.1) ∧ J c (new ++ made)
variable {σ : Type} {h₀ : Heap} {L : Addr} {m : Str → Option Value} {env : Env} {scope : Scope} {cl : List (Str × Addr)} {e target : Expr} {body : Env → Value → Sem Unit} {oD : σ → Obj} {c₀ : σ} {V : Nat → (Str → Option Value) → Prop}
/-- a comprehension's turns -/
structure Turns (prog : Program) (w : World) (A : Around) (h₀ : Heap) (L : Addr) (m : Str → Option Value) (env : Env) (scope : Scope) (cl : List (Str × Addr)) (target : Expr) (body : Env → Value → Sem Unit) (oD : σ → Obj) (n : Nat) (P : Nat → Value → Heap → Prop) (V : Nat → (Str → Option Value) → Prop) (J : Nat → σ → List (Addr × Obj) → Prop) (s : Shared) : Prop where
  asg : ∀ i v (s : Shared) (C : Addr) m' (Q : Unit → Shared → Prop) (E : Value → Shared → Prop), P i v s.heap → s.heap.Ns C m' →
    (∀ h' tk m'', h'.Ns C m'' → V i m'' → (∀ b o, b ≠ C → s.heap.get? b = some o → h'.get? b = some o) → Q () { s with heap := h', toks := tk }) → wpAny (model prog w) A (assign target (compEnvC scope cl C env) v) Q E s
  step : ∀ i c made rest C oC D m₂ h tk, i < n → V i m₂ → J i c made → (∀ p ∈ made, p ∈ rest) → LCg.NsObj oC m₂ → @LT.lt Nat _ 0 tk → Fr h₀ L h m → News h₀ L h ((C, oC) :: (D, oD c) :: rest) → C ≠ D → (∀ p ∈ rest, p.1 ≠ C ∧ p.1 ≠ D) →
    wpAny (model prog w) A (body (compEnvC scope cl C env) (.ref D)) (CEnd h₀ L m C D oD rest made (J (i + 1)) s) (fun _ _ => False) { s with heap := h, toks := tk }
theorem comp_block {s₂ : Shared} {I : Addr} {fp wr : List Addr} {n : Nat} {P : Nat → Value → Heap → Prop} {St : Nat → Heap → Prop} {Mid : Nat → Value → Heap → Prop} {made : List (Addr × Obj)} {J : Nat → σ → List (Addr × Obj) → Prop}
    {RR : Value → Addr → Result → Shared → Prop} {E : Value → Shared → Prop} {newAcc : Sem Value}
    (hL : LoopOk prog w A e target body) (hS : StartOk prog w A e) (W : Wk prog w A target I fp wr n P St Mid)
    (hnew : ∀ (Q' : Value → Shared → Prop) (E' : Value → Shared → Prop) (s : Shared), Q' (.ref s.heap.objs.size) { s with heap := s.heap.push (oD c₀) } → wpAny (model prog w) A newAcc Q' E' s)
    (hfree : ∀ c, (oD c).isFreed = false)
    (hcell : ∀ y ∈ scope.names, y.2 ≠ .cell) (hkind : scope.kind = .function) (h0k : @LT.lt Nat _ 0 s₂.toks) (hst : St 0 s₂.heap) (hfp : ∀ b ∈ fp, b < s₂.heap.objs.size)
    (F : Fr h₀ L s₂.heap m) (N : News h₀ L s₂.heap made) (hob : ∀ i h, St i h → ∀ b ∈ wr, ∃ o, h.get? b = some o) (hLw : L ∉ fp) (hw₀ : ∀ b ∈ wr, h₀.get? b = none) (off : ∀ p ∈ made, p.1 ∉ wr)
    (hJ : J 0 c₀ made) (T : Turns prog w A h₀ L m env scope cl target body oD n P V J s₂)
    (hRR : ∀ D C h tk m' c made', @LT.lt Nat _ 0 tk → Fr h₀ L h m → News h₀ L h ((D, oD c) :: made') → h.Ns C m' → h₀.get? C = none → C ≠ L → C ≠ D → (∀ p ∈ made', p.1 ≠ C) → (∀ p ∈ made', p.1 ≠ D) → J n c made' → RR (.ref D) C (.ok .next) { s₂ with heap := h, toks := tk }) :
    wpAny (model prog w) A newAcc (fun acc s₃ => wpAny (model prog w) A (newFunctionEnv scope env.globals cl [] env.qual none .none (some env)) (fun cenv s₄ =>
      codeAny (model prog w) A (.compStart e 0 (.ref I) acc { cenv with scope := relabel scope env }) (RR acc cenv.locals) s₄) E s₃) E s₂ := by
  refine hnew _ _ _ (wpAny_newFunctionEnv hcell (by intro y hy; simp at hy) (fun h₁ hns₁ hsb₁ => ?_) hkind)
  dsimp only at hns₁ hsb₁ ⊢
  generalize hH2 : s₂.heap.push (oD c₀) = H2 at hns₁ hsb₁ ⊢
  have hC : H2.objs.size = s₂.heap.objs.size + 1 := by rw [← hH2, Heap.size_push]
  have hDC : s₂.heap.objs.size ≠ H2.objs.size := by rw [hC]; exact Nat.ne_of_lt (Nat.lt_succ_self _)
  have below : ∀ b, b < s₂.heap.objs.size → b ≠ H2.objs.size ∧ b ≠ s₂.heap.objs.size := fun b hb => ⟨by rw [hC]; exact Nat.ne_of_lt (Nat.lt_succ_of_lt hb), Nat.ne_of_lt hb⟩
  have hDf : s₂.heap.objs.size ∉ fp := fun hm => Nat.lt_irrefl _ (hfp _ hm)
  have hCf : H2.objs.size ∉ fp := fun hm => by have := hfp _ hm; rw [hC] at this; exact Nat.lt_irrefl _ (Nat.lt_of_succ_lt this)
  have old : ∀ b o, s₂.heap.get? b = some o → h₁.get? b = some o := fun b o e => hsb₁.extBut b o (below b (Heap.lt_size e)).1 (Heap.get?_push_of_some _ (hH2 ▸ Heap.get?_push_of_some _ e))
  have hacc : h₁.get? s₂.heap.objs.size = some (oD c₀) := hsb₁.extBut _ _ hDC (Heap.get?_push_of_some _ (hH2 ▸ Heap.get?_push_size _ (hfree c₀)))
  have hst₁ : St 0 h₁ := W.frame _ _ _ hst fun b _ o e => old b o e
  have fresh₀ : ∀ a, s₂.heap.objs.size ≤ a → h₀.get? a = none := fun a ha => by
    cases e : h₀.get? a with
    | none => rfl
    | some o' => exact absurd (Heap.lt_size (F.keep a o' e)) (Nat.not_lt.mpr ha)
  have hD₀ : h₀.get? s₂.heap.objs.size = none := fresh₀ _ (Nat.le_refl _)
  have hC₀ : h₀.get? H2.objs.size = none := fresh₀ _ (by rw [hC]; exact Nat.le_succ _)
  have hLlt : L < s₂.heap.objs.size := F.ns.lt
  have hDL : s₂.heap.objs.size ≠ L := Ne.symm (below L hLlt).2
  have hCL : H2.objs.size ≠ L := Ne.symm (below L hLlt).1
  have hwf : ∀ b ∈ wr, b < s₂.heap.objs.size := fun b hb => hfp b (W.sub b hb)
  have hLwr : L ∉ wr := fun h => hLw (W.sub _ h)
  have frOff : ∀ {h h' : Heap}, Fr h₀ L h m → (∀ b o, b ∉ wr → h.get? b = some o → h'.get? b = some o) → Fr h₀ L h' m := fun F' hk =>
    ⟨F'.ns.at' fun o e => hk L o hLwr e, fun b o e => hk b o (fun hm => by rw [hw₀ b hm] at e; cases e) (F'.keep b o e), F'.above⟩
  have frC : ∀ {h h' : Heap} {a : Addr}, Fr h₀ L h m → a ≠ L → h₀.get? a = none → (∀ b o, b ≠ a → h.get? b = some o → h'.get? b = some o) → Fr h₀ L h' m := fun F' h1 h2 hk =>
    ⟨F'.ns.at' fun o e => hk L o (Ne.symm h1) e, fun b o e => hk b o (fun hm => by rw [hm, h2] at e; cases e) (F'.keep b o e), F'.above⟩
  have loop : ∀ s₃ : Shared, s₃ = { s₂ with heap := h₁, toks := s₂.toks + ([] : List (Str × Value)).length } →
      codeAny (model prog w) A (.compLoop e 0 (.ref I) (.ref s₂.heap.objs.size) (compEnvC scope cl H2.objs.size env)) (RR (.ref s₂.heap.objs.size) H2.objs.size) s₃ := by
    rintro s₃ rfl
    refine hL _ _ _ _
      (fun k s' => ∃ h' tk i c m' made', s' = { s₂ with heap := h', toks := tk } ∧ @LT.lt Nat _ 0 tk ∧ i ≤ n ∧ k = n + 1 - i ∧ St i h' ∧ Fr h₀ L h' m ∧ h'.Ns H2.objs.size m' ∧ News h₀ L h' ((s₂.heap.objs.size, oD c) :: made') ∧
        (∀ p ∈ made', p.1 ∉ wr ∧ p.1 ≠ H2.objs.size ∧ p.1 ≠ s₂.heap.objs.size) ∧ J i c made') ?_ (n + 1) _
      ⟨h₁, _, 0, c₀, _, made, rfl, h0k, Nat.zero_le _, rfl, hst₁, F.keeps old, hns₁, fun p hp => ?_, fun p hp => ⟨off p hp, below _ (Heap.lt_size (N p hp).1)⟩, hJ⟩
    · rintro k s' ⟨h', tk, i, c, m', made', rfl, hk0, hi, rfl, hst', F', hn', N', off', hJ'⟩
      by_cases hlt : i < n
      · refine wpAny_with_toks (n := 1) hk0 (W.item i _ _ _ hlt hst' fun v h₂ tk₂ hmid hk₂ => fun hk1 => ?_)
        refine W.go i v _ _ _ hmid fun h₃ hP hst₃ hk₃ => ?_
        have hk23 : ∀ b o, b ∉ wr → h'.get? b = some o → h₃.get? b = some o := fun b o hb e => hk₃ b o hb (hk₂ b o hb e)
        have hCw : H2.objs.size ∉ wr := fun hm => (below _ (hwf _ hm)).1 rfl
        have hDw : s₂.heap.objs.size ∉ wr := fun hm => Nat.lt_irrefl _ (hwf _ hm)
        refine wpAny_with_toks (s := { s₂ with heap := h₃, toks := tk₂ }) (n := 1) hk1 (T.asg i v _ H2.objs.size m' _ _ hP (hn'.at' fun o e => hk23 _ o hCw e) fun h₄ tk₄ m₄ hn₄ hV hk₄ => fun hk2 => ?_)
        have hst₄ : St (i + 1) h₄ := W.frame _ _ _ hst₃ fun b hb o e => hk₄ b o (fun q => hCf (q ▸ hb)) e
        obtain ⟨oC, heC, hoC⟩ := LCg.ns_obj hn₄
        have F₄ : Fr h₀ L h₄ m := frC (frOff F' hk23) hCL hC₀ hk₄
        have N₄ : News h₀ L h₄ ((s₂.heap.objs.size, oD c) :: made') := fun p hp => by
          have z := N' p hp
          rcases List.mem_cons.mp hp with rfl | hp
          · exact ⟨hk₄ _ _ hDC (hk23 _ _ hDw z.1), z.2⟩
          · exact ⟨hk₄ _ _ (off' p hp).2.1 (hk23 _ _ (off' p hp).1 z.1), z.2⟩
        have Nown : News h₀ L h₄ (ownOf h₀ fp h₄) := news_ownOf hLw
        have Nall : News h₀ L h₄ ((H2.objs.size, oC) :: (s₂.heap.objs.size, oD c) :: (made' ++ ownOf h₀ fp h₄)) := fun p hp => by
          rcases List.mem_cons.mp hp with rfl | hp
          · exact ⟨heC, hCL, hC₀⟩
          · rcases List.mem_cons.mp hp with rfl | hp
            · exact N₄ _ List.mem_cons_self
            · rcases List.mem_append.mp hp with hp | hp
              · exact N₄ p (List.mem_cons_of_mem _ hp)
              · exact Nown p hp
        refine wpAny_mono (T.step i c made' (made' ++ ownOf h₀ fp h₄) H2.objs.size oC s₂.heap.objs.size m₄ h₄ tk₄ hlt hV hJ' (fun p hp => List.mem_append.mpr (.inl hp)) hoC hk2 F₄ Nall (Ne.symm hDC) (fun p hp => (List.mem_append.mp hp).elim (fun hp => (off' p hp).2) fun hp => ⟨fun q => hCf (q ▸ ownOf_sub p hp), fun q => hDf (q ▸ ownOf_sub p hp)⟩)) (fun _ s₅ h₅ => ?_) fun _ _ x => x
        obtain ⟨h₅, tk₅, new, c₅, oC₅, m₅, rfl, hk5, F₅, hoC₅, N₅, off₅, hJ₅⟩ := h₅
        have get5 : ∀ p ∈ made' ++ ownOf h₀ fp h₄, h₅.get? p.1 = some p.2 := fun p hp => (N₅ p (List.mem_append.mpr (.inr (List.mem_cons_of_mem _ (List.mem_cons_of_mem _ hp))))).1
        refine ⟨n + 1 - (i + 1), by omega, h₅, tk₅, i + 1, c₅, m₅, new ++ made', rfl, hk5, hlt, rfl, ?_, F₅, hoC₅.ns (N₅ _ (List.mem_append.mpr (.inr List.mem_cons_self))).1, ?_, ?_, hJ₅⟩
        · refine W.frame _ _ _ hst₄ fun b hb o e => ?_
          cases hn : h₀.get? b with
          | some o₀ =>
            have : o₀ = o := by have := F₄.keep b o₀ hn; rw [e] at this; exact (Option.some.inj this).symm
            exact this ▸ F₅.keep b o₀ hn
          | none => exact get5 (b, o) (List.mem_append.mpr (.inr (mem_ownOf hb hn e)))
        · intro p hp
          rcases List.mem_cons.mp hp with rfl | hp
          · exact N₅ _ (List.mem_append.mpr (.inr (List.mem_cons_of_mem _ List.mem_cons_self)))
          · rcases List.mem_append.mp hp with hp | hp
            · exact N₅ p (List.mem_append.mpr (.inl hp))
            · exact N₅ p (List.mem_append.mpr (.inr (List.mem_cons_of_mem _ (List.mem_cons_of_mem _ (List.mem_append.mpr (.inl hp))))))
        · intro p hp
          rcases List.mem_append.mp hp with hp | hp
          · refine ⟨fun hw => ?_, off₅ p hp _ List.mem_cons_self, off₅ p hp _ (List.mem_cons_of_mem _ List.mem_cons_self)⟩
            obtain ⟨o, ho⟩ := hob _ _ hst₄ _ hw
            exact off₅ p hp (p.1, o) (List.mem_cons_of_mem _ (List.mem_cons_of_mem _ (List.mem_append.mpr (.inr (mem_ownOf (W.sub _ hw) (hw₀ _ hw) ho))))) rfl
          · exact off' p hp
      · obtain rfl : i = n := Nat.le_antisymm hi (Nat.not_lt.mp hlt)
        refine wpAny_with_toks (n := 1) hk0 (W.done _ _ _ hst' fun h₂ tk₂ hk₂ => fun hk1 => ?_)
        have hCw : H2.objs.size ∉ wr := fun hm => (below _ (hwf _ hm)).1 rfl
        have hDw : s₂.heap.objs.size ∉ wr := fun hm => Nat.lt_irrefl _ (hwf _ hm)
        refine hRR _ _ h₂ tk₂ m' c made' hk1 (frOff F' hk₂) (fun p hp => ?_) (hn'.at' fun o e => hk₂ _ o hCw e) hC₀ hCL (Ne.symm hDC) (fun p hp => (off' p hp).2.1) (fun p hp => (off' p hp).2.2) hJ'
        have z := N' p hp
        rcases List.mem_cons.mp hp with rfl | hp
        · exact ⟨hk₂ _ _ hDw z.1, z.2⟩
        · exact ⟨hk₂ _ _ (off' p hp).1 z.1, z.2⟩
    · rcases List.mem_cons.mp hp with rfl | hp
      · exact ⟨hacc, hDL, hD₀⟩
      · exact ⟨old _ _ (N p hp).1, (N p hp).2⟩
  exact hS _ _ _ _ _ (loop _ rfl) (W.self 0 _ _ _ hst₁ (loop _ rfl))
end
end
section
open PySem PySem.W PySem.Calls PyProof.Rows
section
variable {prog : Program} {w : World} {A : Around} {E : Value → Shared → Prop} {s : Shared}
noncomputable abbrev turnT (e target : Expr) (p : Pos) (body : Sem Unit) (it acc : Value) (env : Env) : Sem Fin :=
  standAt p >>= fun _ => pyNext it >>= fun r => match r with
    | none => pure (.done .next)
    | some v => letOwnedTupleGo target it v >>= fun _ => assign target env v >>= fun _ => body >>= fun _ => again (.compLoop e 0 it acc env)
theorem turn_wp {e target : Expr} {p : Pos} {body : Sem Unit} {it acc : Value} {env : Env} {R : Result → Shared → Prop} {X : Nat → Shared → Prop} {n : Nat} {E : Value → Shared → Prop}
    (h : wpAny (model prog w) A (pyNext it) (fun r s₁ => match r with
      | none => R (.ok .next) s₁
      | some v => wpAny (model prog w) A (letOwnedTupleGo target it v) (fun _ s₀ => wpAny (model prog w) A (assign target env v) (fun _ s₂ =>
          wpAny (model prog w) A body (fun _ s₅ => ∃ m, m < n ∧ X m s₅) (fun _ _ => False) s₂) (fun _ _ => False) s₀) (fun _ _ => False) s₁) (fun _ _ => False) s) :
    wpAny (model prog w) A (turnT e target p body it acc env) (fun fin s' => match fin with | .done f => R (.ok f) s' | .again c' => c' = .compLoop e 0 it acc env ∧ ∃ m, m < n ∧ X m s') E s := by
  refine wpAny_bind (wpAny_standAt (wpAny_bind (wpAny_mono h (fun r s₁ h₁ => ?_) fun _ _ h' => h'.elim)))
  cases r with
  | none => exact wpAny_pure h₁
  | some v => exact wpAny_bind (wpAny_mono h₁ (fun _ s₀ h₀ => wpAny_bind (wpAny_mono h₀ (fun _ s₂ h₂ => wpAny_bind (wpAny_mono h₂ (fun _ s₅ h₅ => wpAny_pure ⟨rfl, h₅⟩) fun _ _ h' => h'.elim)) fun _ _ h' => h'.elim)) fun _ _ h' => h'.elim)
theorem loop_list {elt target : Expr} {gens : List Comprehension} {scope : Scope} {pos p : Pos} {body : Env → Value → Sem Unit}
    (heq : ∀ it acc env, compTurn (.ListComp elt gens scope pos) 0 it acc env = turnT (.ListComp elt gens scope pos) target p (body env acc) it acc env) : LoopOk prog w A (.ListComp elt gens scope pos) target body := by
  intro it acc env R I turn n s h
  refine codeAny_loop rfl I (fun n s hI => ?_) n h
  show wpAny _ A ((compTurn (.ListComp elt gens scope pos) 0 it acc env).onRaise (fun x => do noteFrame x env; theTreesLotGoes x)) _ _ s
  refine wpAny_noted ?_
  rw [heq]
  exact turn_wp (turn n s hI)
theorem loop_dict {kx vx target : Expr} {gens : List Comprehension} {scope : Scope} {pos p : Pos} {body : Env → Value → Sem Unit}
    (heq : ∀ it acc env, compTurn (.DictComp kx vx gens scope pos) 0 it acc env = turnT (.DictComp kx vx gens scope pos) target p (body env acc) it acc env) : LoopOk prog w A (.DictComp kx vx gens scope pos) target body := by
  intro it acc env R I turn n s h
  refine codeAny_loop rfl I (fun n s hI => ?_) n h
  show wpAny _ A ((compTurn (.DictComp kx vx gens scope pos) 0 it acc env).onRaise (fun x => do noteFrame x env; theTreesLotGoes x)) _ _ s
  refine wpAny_noted ?_
  rw [heq]
  exact turn_wp (turn n s hI)
theorem start_list {elt target iter ifs rest scope pos} : StartOk prog w A (.ListComp elt (⟨target, iter, ifs, 0⟩ :: rest) scope pos) :=
  fun _ _ _ _ _ h0 h => codeAny_compStart_list h0 (wpAny_mono h (fun _ _ x => x) fun _ _ x => x.elim)
theorem start_dict {kx vx target iter ifs rest scope pos} : StartOk prog w A (.DictComp kx vx (⟨target, iter, ifs, 0⟩ :: rest) scope pos) :=
  fun _ _ _ _ _ h0 h => codeAny_compStart_dict h0 (wpAny_mono h (fun _ _ x => x) fun _ _ x => x.elim)
/-- the bodies -/
noncomputable def bodyL (elt : Expr) (env : Env) (acc : Value) : Sem Unit := eval elt env >>= fun x => call (.builtin "list.append") [acc, x] >>= fun _ => pure ()
theorem eq_list (elt target iter : Expr) (scope : Scope) (pos : Pos) (it acc : Value) (env : Env) :
    compTurn (.ListComp elt [⟨target, iter, [], 0⟩] scope pos) 0 it acc env = turnT (.ListComp elt [⟨target, iter, [], 0⟩] scope pos) target iter.pos (bodyL elt env acc) it acc env := by rfl
noncomputable def bodyT (c elt : Expr) (env : Env) (acc : Value) : Sem Unit := isTrue c env (eval c env) >>= fun ok => if ok = true then bodyL elt env acc else pure ()
noncomputable def bodyN (e elt iter2 : Expr) (env : Env) (acc : Value) : Sem Unit :=
  eval iter2 env >>= fun x => standAt iter2.pos >>= fun _ => foldedSetIterable iter2 env x >>= fun x => holding [x] (pyIter x) >>= fun it => runOwn (.compStart e 1 it acc env) env >>= fun _ => pure ()
theorem eq_nest (elt target iter target2 iter2 : Expr) (scope : Scope) (pos : Pos) (it acc : Value) (env : Env) :
    compTurn (.ListComp elt [⟨target, iter, [], 0⟩, ⟨target2, iter2, [], 0⟩] scope pos) 0 it acc env =
      turnT (.ListComp elt [⟨target, iter, [], 0⟩, ⟨target2, iter2, [], 0⟩] scope pos) target iter.pos (bodyN (.ListComp elt [⟨target, iter, [], 0⟩, ⟨target2, iter2, [], 0⟩] scope pos) elt iter2 env acc) it acc env := by
  unfold turnT bodyN
  simp only [bind_assoc, pure_bind]
  rfl
theorem eq_test (c elt target iter : Expr) (scope : Scope) (pos : Pos) (it acc : Value) (env : Env) :
    compTurn (.ListComp elt [⟨target, iter, [c], 0⟩] scope pos) 0 it acc env = turnT (.ListComp elt [⟨target, iter, [c], 0⟩] scope pos) target iter.pos (bodyT c elt env acc) it acc env := by
  rw [compTurn_list]
  unfold turnT bodyT bodyL
  simp only [List.forIn_cons, List.forIn_nil, bind_assoc, pure_bind, if_true]
  congr 1; funext _; congr 1; funext r; cases r with
  | none => rfl
  | some v => dsimp only; congr 1; funext _; congr 1; funext _; congr 1; funext ok; cases ok <;> simp
noncomputable def bodyD (kx vx : Expr) (env : Env) (acc : Value) : Sem Unit :=
  eval kx env >>= fun kv => holding [kv] (eval vx env) >>= fun vv => match acc with
    | .ref d => standAt { kx.pos with endLine := vx.pos.endLine, endCol := vx.pos.endCol } >>= fun _ => holding [kv, vv] (dictSet d kv vv)
    | _ => unsupported "internal:dictcomp"
theorem eq_dict (kx vx target iter : Expr) (scope : Scope) (pos : Pos) (it acc : Value) (env : Env) :
    compTurn (.DictComp kx vx [⟨target, iter, [], 0⟩] scope pos) 0 it acc env = turnT (.DictComp kx vx [⟨target, iter, [], 0⟩] scope pos) target iter.pos (bodyD kx vx env acc) it acc env := by rfl
variable {h₀ : Heap} {L C D : Addr} {oC : Obj} {m m₂ : Str → Option Value} {ys : List Value} {new rest made : List (Addr × Obj)} {J : List Value → List (Addr × Obj) → Prop} {s₀ : Shared}
theorem append_led {y : Value} {Q : Value → Shared → Prop} (F : Fr h₀ L s.heap m) (N : News h₀ L s.heap (new ++ (C, oC) :: (D, LCg.lst ys) :: rest)) (hCD : C ≠ D) (ho : ∀ p ∈ rest, p.1 ≠ D) (hn : ∀ p ∈ new, p.1 ≠ D) (hsz : ys.length ≤ sizeLine)
    (h : ∀ h', Fr h₀ L h' m → News h₀ L h' (new ++ (C, oC) :: (D, LCg.lst (ys ++ [y])) :: rest) → Q .none { s with heap := h' }) : wpAny (model prog w) A (call (.builtin "list.append") [.ref D, y]) Q E s := by
  have zD := N (D, LCg.lst ys) (List.mem_append.mpr (.inr (List.mem_cons_of_mem _ List.mem_cons_self)))
  refine append_at (hsz := by show ys.toArray.size ≤ sizeLine; rw [List.size_toArray]; exact hsz) zD.1 fun h₅ hs₅ hD₅ => h h₅ (F.change hs₅ zD.2.1 zD.2.2) fun p hp => ?_
  have keep : ∀ p ∈ new ++ (C, oC) :: (D, LCg.lst ys) :: rest, p.1 ≠ D → h₅.get? p.1 = some p.2 ∧ p.1 ≠ L ∧ h₀.get? p.1 = none := fun p hp hne => ⟨hs₅.extBut _ _ hne (N p hp).1, (N p hp).2⟩
  rcases List.mem_append.mp hp with hp | hp
  · exact keep p (List.mem_append.mpr (.inl hp)) (hn p hp)
  · rcases List.mem_cons.mp hp with rfl | hp
    · exact keep _ (List.mem_append.mpr (.inr List.mem_cons_self)) hCD
    · rcases List.mem_cons.mp hp with rfl | hp
      · exact ⟨hD₅.trans (congrArg some (LCg.lst_snoc ys y)), zD.2⟩
      · exact keep p (List.mem_append.mpr (.inr (List.mem_cons_of_mem _ (List.mem_cons_of_mem _ hp)))) (ho p hp)
/-- what an element's run leaves -/
noncomputable def EltEnd (h₀ : Heap) (L : Addr) (m : Str → Option Value) (C : Addr) (oC : Obj) (D : Addr) (ys : List Value) (rest made : List (Addr × Obj)) (J : List Value → List (Addr × Obj) → Prop) (s₀ : Shared) (y : Value) (s₂ : Shared) : Prop :=
  ∃ h' tk new, s₂ = { s₀ with heap := h', toks := tk } ∧ @LT.lt Nat _ 0 tk ∧ Fr h₀ L h' m ∧ News h₀ L h' (new ++ (C, oC) :: (D, LCg.lst ys) :: rest) ∧ (∀ p ∈ new, ∀ q ∈ (C, oC) :: (D, LCg.lst ys) :: rest, p.1 ≠ q.1) ∧ J (ys ++ [y]) (new ++ made)
theorem body_list {elt : Expr} {cenv : Env} (hsz : ys.length ≤ sizeLine) (hCD : C ≠ D) (ho : ∀ p ∈ rest, p.1 ≠ C ∧ p.1 ≠ D) (hoC : LCg.NsObj oC m₂)
    (h : wpAny (model prog w) A (eval elt cenv) (EltEnd h₀ L m C oC D ys rest made J s₀) (fun _ _ => False) s) : wpAny (model prog w) A (bodyL elt cenv (.ref D)) (CEnd h₀ L m C D LCg.lst rest made J s₀) (fun _ _ => False) s := by
  refine wpAny_bind (wpAny_mono h (fun y s₂ h₂ => ?_) fun _ _ x => x)
  obtain ⟨h', tk, new, rfl, hk, F, N, off, hJ⟩ := h₂
  refine wpAny_bind (append_led F N hCD (fun p hp => (ho p hp).2) (fun p hp => off p hp _ (List.mem_cons_of_mem _ List.mem_cons_self)) hsz fun h₅ F₅ N₅ => wpAny_pure ?_)
  refine ⟨h₅, tk, new, ys ++ [y], oC, m₂, rfl, hk, F₅, hoC, N₅, fun p hp q hq => ?_, hJ⟩
  rcases List.mem_cons.mp hq with rfl | hq
  · exact off p hp _ List.mem_cons_self
  · rcases List.mem_cons.mp hq with rfl | hq
    · exact off p hp (D, LCg.lst ys) (List.mem_cons_of_mem _ List.mem_cons_self)
    · exact off p hp _ (List.mem_cons_of_mem _ (List.mem_cons_of_mem _ hq))
end
end
section
open PySem PySem.W PySem.Calls PyProof.Rows
section
variable {prog : Program} {w : World} {A : Around} {E : Value → Shared → Prop} {s : Shared} {R : Result → Shared → Prop}
theorem start_two {elt : Expr} {g0 : Comprehension} {target iter : Expr} {scope : Scope} {pos : Pos} {it acc : Value} {env : Env}
    (h0 : codeAny (model prog w) A (.compLoop (.ListComp elt [g0, ⟨target, iter, [], 0⟩] scope pos) 1 it acc env) R s)
    (h : wpAny (model prog w) A (pyIter it) (fun it' s' => codeAny (model prog w) A (.compLoop (.ListComp elt [g0, ⟨target, iter, [], 0⟩] scope pos) 1 it' acc env) R s') (fun _ _ => False) s) :
    codeAny (model prog w) A (.compStart (.ListComp elt [g0, ⟨target, iter, [], 0⟩] scope pos) 1 it acc env) R s := by
  refine codeAny_of_tree ?_
  show wpAny _ _ ((compStart (.ListComp elt [g0, ⟨target, iter, [], 0⟩] scope pos) 1 it acc env).onRaise (fun x => do noteFrame x env; standAt theWindowsPlace)) _ _ s
  refine wpAny_notedAt ?_
  unfold compStart
  show wpAny _ _ (ask >>= _) _ _ s
  refine wpAny_bind (wpAny_askSetting (wpAny_ite ?_))
  split
  · first
      | exact wpAny_bind (wpAny_pure (wpAny_pure (And.intro rfl h0)))
      | exact wpAny_pure (And.intro rfl h0)
  · first
      | exact wpAny_bind (wpAny_rule (wpAny_bind (wpAny_standAt (wpAny_bind (wpAny_mono h (fun it' s' h' => wpAny_pure (And.intro rfl h')) fun _ _ x => x.elim)))))
      | (refine wpAny_bind (wpAny_rule ?_); show wpAny _ _ (standAt iter.pos >>= _) _ _ s; exact wpAny_bind (wpAny_standAt (wpAny_bind (wpAny_mono h (fun it' s' h' => wpAny_pure (And.intro rfl h')) fun _ _ x => x.elim))))
noncomputable abbrev turnI (e target : Expr) (p : Pos) (body : Sem Unit) (it acc : Value) (env : Env) : Sem Fin :=
  standAt p >>= fun _ => pyNext it >>= fun r => match r with
    | none => pure (.done .next)
    | some v => letOwnedTupleGo target it v >>= fun _ => assign target env v >>= fun _ => body >>= fun _ => again (.compLoop e 1 it acc env)
theorem eq_inner (elt : Expr) (g0 : Comprehension) (target iter : Expr) (scope : Scope) (pos : Pos) (it acc : Value) (env : Env) :
    compTurn (.ListComp elt [g0, ⟨target, iter, [], 0⟩] scope pos) 1 it acc env = turnI (.ListComp elt [g0, ⟨target, iter, [], 0⟩] scope pos) target iter.pos (bodyL elt env acc) it acc env := by rfl
variable {h₀ : Heap} {L C D : Addr} {oC : Obj} {m m₂ : Str → Option Value} {ys : List Value} {new rest : List (Addr × Obj)} {env : Env} {scope : Scope} {cl : List (Str × Addr)}
theorem inner_loop {g0 : Comprehension} {sy : Str} {ps p2 : Pos} {iter : Expr} {pos : Pos} {I ax : Addr} {ws : List Value} {k : Nat}
    (hh : A.handled = none) (hx : scope.names.lookup sy = some .local) (hkind : scope.kind = .function) (hd : (sy == ("__debug__" : Str)) = false)
    (F : Fr h₀ L s.heap m) (N : News h₀ L s.heap (new ++ (C, oC) :: (D, LCg.lst ys) :: rest)) (hoC : LCg.NsObj oC m₂) (hCD : C ≠ D) (ho : ∀ p ∈ new ++ rest, p.1 ≠ C ∧ p.1 ≠ D) (hsz : ys.length + ws.length ≤ sizeLine)
    (hit : s.heap.IsListIter I ax 0) (hax : (ax, listOf ws.toArray k) ∈ new ++ rest) (hI : ∀ p ∈ new ++ (C, oC) :: (D, LCg.lst ys) :: rest, p.1 ≠ I) (hIL : I ≠ L) (hI₀ : h₀.get? I = none) (h0k : @LT.lt Nat _ 0 s.toks)
    (hR : ∀ h' tk oC' m', @LT.lt Nat _ 0 tk → Fr h₀ L h' m → LCg.NsObj oC' m' → News h₀ L h' (new ++ (C, oC') :: (D, LCg.lst (ys ++ ws)) :: rest) → R (.ok .next) { s with heap := h', toks := tk }) :
    codeAny (model prog w) A (.compStart (.ListComp (.Name sy ps) [g0, ⟨.Name sy p2, iter, [], 0⟩] scope pos) 1 (.ref I) (.ref D) (compEnvC scope cl C env)) R s := by
  have hCN := N (C, oC) (List.mem_append.mpr (.inr List.mem_cons_self))
  have hDN := N (D, LCg.lst ys) (List.mem_append.mpr (.inr (List.mem_cons_of_mem _ List.mem_cons_self)))
  have hIC : C ≠ I := hI _ (List.mem_append.mpr (.inr List.mem_cons_self))
  have hID : D ≠ I := hI _ (List.mem_append.mpr (.inr (List.mem_cons_of_mem _ List.mem_cons_self)))
  have hIr : ∀ p ∈ new ++ rest, p.1 ≠ I := fun p hp => hI p ((List.mem_append.mp hp).elim (fun hp => List.mem_append.mpr (.inl hp)) fun hp => List.mem_append.mpr (.inr (List.mem_cons_of_mem _ (List.mem_cons_of_mem _ hp))))
  have hNr : News h₀ L s.heap (new ++ rest) := fun p hp => N p ((List.mem_append.mp hp).elim (fun hp => List.mem_append.mpr (.inl hp)) fun hp => List.mem_append.mpr (.inr (List.mem_cons_of_mem _ (List.mem_cons_of_mem _ hp))))
  have loop : codeAny (model prog w) A (.compLoop (.ListComp (.Name sy ps) [g0, ⟨.Name sy p2, iter, [], 0⟩] scope pos) 1 (.ref I) (.ref D) (compEnvC scope cl C env)) R s := by
    refine codeAny_loop rfl (fun n s' => ∃ h' tk i m', s' = { s with heap := h', toks := tk } ∧ @LT.lt Nat _ 0 tk ∧ i ≤ ws.length ∧ n = ws.length + 1 - i ∧ h'.IsListIter I ax i ∧ Fr h₀ L h' m ∧ h'.Ns C m' ∧ h'.get? D = some (LCg.lst (ys ++ ws.take i)) ∧ News h₀ L h' (new ++ rest)) ?_
      (ws.length + 1) ⟨s.heap, s.toks, 0, m₂, rfl, h0k, Nat.zero_le _, rfl, hit, F, hoC.ns hCN.1, by rw [List.take_zero, List.append_nil]; exact hDN.1, hNr⟩
    rintro n s' ⟨h', tk, i, m', rfl, hk0, hi, rfl, hit', F', hn', hD', N'⟩
    show wpAny _ A ((compTurn (.ListComp (.Name sy ps) [g0, ⟨.Name sy p2, iter, [], 0⟩] scope pos) 1 (.ref I) (.ref D) (compEnvC scope cl C env)).onRaise (fun x => do noteFrame x (compEnvC scope cl C env); theTreesLotGoes x)) _ _ _
    refine wpAny_noted ?_
    rw [eq_inner]
    have hl' : h'.IsList ax ws.toArray := ⟨_, (N' _ hax).1, rfl, k, rfl⟩
    refine wpAny_bind (wpAny_standAt (wpAny_bind ?_))
    by_cases hlt : i < ws.length
    · refine wpAny_pyNext_list_item hit' hl' (x := ws[i]) (by simp [hlt]) fun h₁ hit₁ hs₁ => ?_
      refine wpAny_bind (wpAny_pure (wpAny_bind ?_))
      refine wpAny_assign_Name (wpAny_storeName_local (lookup_relabel_local hx) (hn'.at' fun o e => hs₁.extBut _ o hIC e) (fun h₂ hn₂ hs₂ => ?_) (by simp [compEnvC, relabel, hkind]))
      refine wpAny_bind (wpAny_bind ?_)
      refine wpAny_Name (wpAny_loadName_local (by simp [compEnvC, relabel, hkind]) (lookup_relabel_local hx) hn₂ (v := ws[i]) (by simp) ?_) hd
      have up : ∀ b o, b ≠ I → b ≠ C → h'.get? b = some o → h₂.get? b = some o := fun b o h1 h2 e => hs₂.extBut b o h2 (hs₁.extBut b o h1 e)
      have F₂ : Fr h₀ L h₂ m := (F'.change hs₁ hIL hI₀).change hs₂ hCN.2.1 hCN.2.2
      have hD₂ := up D _ hID (Ne.symm hCD) hD'
      have hit₂ : h₂.IsListIter I ax (i + 1) := hit₁.extBut hs₂.extBut (Ne.symm hIC)
      refine wpAny_bind (append_at (hsz := by show (ys ++ ws.take i).toArray.size ≤ sizeLine; rw [List.size_toArray, List.length_append, List.length_take]; omega) hD₂ fun h₅ hs₅ hD₅ => wpAny_pure (wpAny_pure ⟨rfl, ws.length + 1 - (i + 1), by omega, ?_⟩))
      refine ⟨h₅, _, i + 1, _, rfl, Nat.succ_pos _, hlt, rfl, hit₂.extBut hs₅.extBut (Ne.symm hID), F₂.change hs₅ hDN.2.1 hDN.2.2, hn₂.sameBut hs₅ hCD, ?_, fun p hp => ⟨hs₅.extBut _ _ (ho p hp).2 (up _ _ (hIr p hp) (ho p hp).1 (N' p hp).1), (N' p hp).2⟩⟩
      rw [hD₅]
      refine congrArg some ((LCg.lst_snoc (ys ++ ws.take i) ws[i]).trans ?_)
      rw [List.append_assoc, ← List.take_append_getElem hlt]
    · obtain rfl : i = ws.length := Nat.le_antisymm hi (Nat.not_lt.mp hlt)
      refine wpAny_pyNext_list_end hh hit' hl' (by simp) fun h₁ he₁ => wpAny_pure ?_
      obtain ⟨oC', heC, hoC'⟩ := LCg.ns_obj (hn'.at' fun o e => he₁ _ o hIC e)
      rw [List.take_length] at hD'
      refine hR h₁ tk oC' m' hk0 ⟨F'.ns.extBut he₁ (Ne.symm hIL), fun b o e => he₁ b o (fun q => by rw [q, hI₀] at e; cases e) (F'.keep b o e), F'.above⟩ hoC' fun p hp => ?_
      have kr : ∀ p ∈ new ++ rest, h₁.get? p.1 = some p.2 ∧ p.1 ≠ L ∧ h₀.get? p.1 = none := fun p hp => ⟨he₁ _ _ (hIr p hp) (N' p hp).1, (N' p hp).2⟩
      rcases List.mem_append.mp hp with hp | hp
      · exact kr p (List.mem_append.mpr (.inl hp))
      · rcases List.mem_cons.mp hp with rfl | hp
        · exact ⟨heC, hCN.2⟩
        · rcases List.mem_cons.mp hp with rfl | hp
          · exact ⟨he₁ _ _ hID hD', hDN.2⟩
          · exact kr p (List.mem_append.mpr (.inr hp))
  exact start_two loop (wpAny_pyIter_listiter hit loop)
/-- what the inner iterable's run leaves -/
noncomputable def IterEnd (h₀ : Heap) (L : Addr) (m : Str → Option Value) (C : Addr) (oC : Obj) (D : Addr) (ys : List Value) (rest made : List (Addr × Obj)) (J : List Value → List (Addr × Obj) → Prop) (s₀ : Shared) (x : Value) (s₂ : Shared) : Prop :=
  ∃ ax ws k h' tk new, x = .ref ax ∧ s₂ = { s₀ with heap := h', toks := tk } ∧ @LT.lt Nat _ 0 tk ∧ Fr h₀ L h' m ∧ News h₀ L h' (new ++ (C, oC) :: (D, LCg.lst ys) :: rest) ∧ (∀ p ∈ new, ∀ q ∈ (C, oC) :: (D, LCg.lst ys) :: rest, p.1 ≠ q.1) ∧
    (ax, listOf (List.toArray ws) k) ∈ new ++ rest ∧ ys.length + ws.length ≤ sizeLine ∧ J (ys ++ ws) (new ++ made)
theorem body_nest {g0 : Comprehension} {sy : Str} {ps p2 : Pos} {iter : Expr} {pos : Pos} {made : List (Addr × Obj)} {J : List Value → List (Addr × Obj) → Prop} {s₀ : Shared}
    (hh : A.handled = none) (hx : scope.names.lookup sy = some .local) (hkind : scope.kind = .function) (hd : (sy == ("__debug__" : Str)) = false) (hs : ∀ x, foldedSetIterable iter (compEnvC scope cl C env) x = pure x)
    (hoC : LCg.NsObj oC m₂) (hCD : C ≠ D) (ho : ∀ p ∈ rest, p.1 ≠ C ∧ p.1 ≠ D)
    (h : wpAny (model prog w) A (eval iter (compEnvC scope cl C env)) (IterEnd h₀ L m C oC D ys rest made J s₀) (fun _ _ => False) s) :
    wpAny (model prog w) A (bodyN (.ListComp (.Name sy ps) [g0, ⟨.Name sy p2, iter, [], 0⟩] scope pos) (.Name sy ps) iter (compEnvC scope cl C env) (.ref D)) (CEnd h₀ L m C D LCg.lst rest made J s₀) (fun _ _ => False) s := by
  refine wpAny_bind (wpAny_mono h (fun x s₂ h₂ => ?_) fun _ _ x => x)
  obtain ⟨ax, ws, k, h', tk, new, rfl, rfl, hk, F, N, off, hax, hsz, hJ⟩ := h₂
  refine wpAny_bind (wpAny_standAt (wpAny_bind (wpAny_of_eq (hs _) (wpAny_bind (wpAny_holding ?_)))))
  have hNr : ∀ p ∈ new ++ rest, p ∈ new ++ (C, oC) :: (D, LCg.lst ys) :: rest := fun p hp => (List.mem_append.mp hp).elim (fun hp => List.mem_append.mpr (.inl hp)) fun hp => List.mem_append.mpr (.inr (List.mem_cons_of_mem _ (List.mem_cons_of_mem _ hp)))
  have hl : h'.IsList ax ws.toArray := ⟨_, (N _ (hNr _ hax)).1, rfl, k, rfl⟩
  refine wpAny_pyIter_list hl (wpAny_bind (wpAny_runOwn ?_))
  have up : ∀ b o, h'.get? b = some o → (h'.push { cls := .type "list_iterator", data := .fields #[.ref ax, .int 0 0] }).get? b = some o := fun b o e => Heap.get?_push_of_some _ e
  refine inner_loop (A := A.mark none) (s := { s₀ with heap := _, toks := tk }) (ax := ax) (ws := ws) (k := k) hh hx hkind hd (Fr.mk' F up) (News.mk' N up) hoC hCD (fun p hp => ?_) hsz ⟨_, Heap.get?_push_size _ rfl, rfl, rfl⟩ hax (fun p hp => Nat.ne_of_lt (Heap.lt_size (N p hp).1)) (Ne.symm (Nat.ne_of_lt F.ns.lt)) (next_is_new F) hk ?_
  · rcases List.mem_append.mp hp with hp | hp
    · exact ⟨off p hp _ List.mem_cons_self, off p hp _ (List.mem_cons_of_mem _ List.mem_cons_self)⟩
    · exact ho p hp
  · intro h₅ tk₅ oC' m' hk₅ F₅ hoC' N₅
    refine wpAny_pure ⟨h₅, tk₅, new, ys ++ ws, oC', m', rfl, hk₅, F₅, hoC', N₅, fun p hp q hq => ?_, hJ⟩
    rcases List.mem_cons.mp hq with rfl | hq
    · exact off p hp (C, oC) List.mem_cons_self
    · rcases List.mem_cons.mp hq with rfl | hq
      · exact off p hp (D, LCg.lst ys) (List.mem_cons_of_mem _ List.mem_cons_self)
      · exact off p hp _ (List.mem_cons_of_mem _ (List.mem_cons_of_mem _ hq))
/-- where a comprehension's source stands, and what its turns do -/
noncomputable def CAt {σ : Type} (prog : Program) (w : World) (A : Around) (h₀ : Heap) (L : Addr) (m : Str → Option Value) (env : Env) (scope : Scope) (cl : List (Str × Addr)) (target : Expr) (body : Env → Value → Sem Unit) (oD : σ → Obj) (c₀ : σ) (Fin : Shared → σ → List (Addr × Obj) → Prop) (it : Value) (s₂ : Shared) : Prop :=
  ∃ I fp wr n P St Mid made J V, it = .ref I ∧ Wk prog w A target I fp wr n P St Mid ∧ @LT.lt Nat _ 0 s₂.toks ∧ St 0 s₂.heap ∧ (∀ b ∈ fp, b < s₂.heap.objs.size) ∧ Fr h₀ L s₂.heap m ∧ News h₀ L s₂.heap made ∧ (∀ i h, St i h → ∀ b ∈ wr, ∃ o, h.get? b = some o) ∧ L ∉ fp ∧ (∀ b ∈ wr, h₀.get? b = none) ∧ (∀ p ∈ made, p.1 ∉ wr) ∧
    J 0 c₀ made ∧ Turns prog w A h₀ L m env scope cl target body oD n P V J s₂ ∧ ∀ c made', J n c made' → Fin s₂ c made'
theorem comp_E {σ : Type} {e target iter : Expr} {ifs : List Expr} {gs : List Comprehension} {pos : Pos} {body : Env → Value → Sem Unit} {oD : σ → Obj} {c₀ : σ} {newAcc : Sem Value} {Q : Value → Shared → Prop} (_F₀ : Fr h₀ L s.heap m)
    (hL : LoopOk prog w A e target body) (hS : StartOk prog w A e) (hcl : clausesOf e = ⟨target, iter, ifs, 0⟩ :: gs)
    (hnew : ∀ (Q' : Value → Shared → Prop) (E' : Value → Shared → Prop) (s : Shared), Q' (.ref s.heap.objs.size) { s with heap := s.heap.push (oD c₀) } → wpAny (model prog w) A newAcc Q' E' s) (hfree : ∀ c, (oD c).isFreed = false)
    (hclos : closureFor scope env = pure cl) (hcell : ∀ y ∈ scope.names, y.2 ≠ .cell) (hkind : scope.kind = .function) (hnames : ∀ y ∈ scope.names, y.2 = .local → scope.names.lookup y.1 = some .local) (hs : ∀ x, foldedSetIterable iter env x = pure x)
    (h : wpAny (model prog w) A (eval iter env) (fun x s₁ => wpAny (model prog w) A (pyIter x) (CAt prog w A h₀ L m env scope cl target body oD c₀ (fun s₂ c made' => ∀ D' h' tk, @LT.lt Nat _ 0 tk → Fr h₀ L h' m → News h₀ L h' ((D', oD c) :: made') → (∀ p ∈ made', p.1 ≠ D') → Q (.ref D') { s₂ with heap := h', toks := tk })) E s₁) E s) :
    wpAny (model prog w) A (comprehension e scope env pos newAcc false (eval iter env)) Q E s := by
  refine wpAny_comprehension_free (use := none) hcl hs hclos hkind hnames (wpAny_mono h (fun xv s₁ h₁ => wpAny_mono h₁ (fun it s₂ h₂ => ?_) fun _ _ x => x) fun _ _ x => x)
  obtain ⟨I, fp, wr, n, P, St, Mid, made, J, V, rfl, W, h0k, hst, hfp, F, N, hob, hLw, hw₀, off, hJ, T, fin⟩ := h₂
  refine comp_block hL hS W hnew hfree hcell hkind h0k hst hfp F N hob hLw hw₀ off hJ T ?_
  intro D' C' h' tk m' c made' hk F' N' hn hC₀ hCL hCD offC offD hJ'
  refine ⟨m', hn, fun h'' hs'' => fin c made' hJ' D' h'' tk hk (F'.change hs'' hCL hC₀) (fun p hp => ⟨hs''.extBut _ _ ?_ (N' p hp).1, (N' p hp).2⟩) offD⟩
  rcases List.mem_cons.mp hp with rfl | hp
  · exact Ne.symm hCD
  · exact offC p hp
theorem comp_A {σ : Type} {e target iter : Expr} {ifs : List Expr} {gs : List Comprehension} {pos : Pos} {body : Env → Value → Sem Unit} {oD : σ → Obj} {c₀ : σ} {newAcc : Sem Value} {Q : Flow → Shared → Prop} {y : Str} {py spos : Pos} (_F₀ : Fr h₀ L s.heap m)
    (hL : LoopOk prog w A e target body) (hS : StartOk prog w A e) (hcl : clausesOf e = ⟨target, iter, ifs, 0⟩ :: gs)
    (hnew : ∀ (Q' : Value → Shared → Prop) (E' : Value → Shared → Prop) (s : Shared), Q' (.ref s.heap.objs.size) { s with heap := s.heap.push (oD c₀) } → wpAny (model prog w) A newAcc Q' E' s) (hfree : ∀ c, (oD c).isFreed = false)
    (hclos : closureFor scope env = pure cl) (hcell : ∀ y ∈ scope.names, y.2 ≠ .cell) (hkind : scope.kind = .function) (hnames : ∀ y ∈ scope.names, y.2 = .local → scope.names.lookup y.1 = some .local) (hs : ∀ x, foldedSetIterable iter env x = pure x)
    (hLe : env.locals = L) (hsw : swapsWith e (some (.Name y py)) spos.line env = pure true) (heq : exec (.Assign [.Name y py] e spos) env = (standAt spos >>= fun _ => (comprehension e scope env pos newAcc false (eval iter env) (some (assign (.Name y py) env)) >>= fun _ => pure ()) >>= fun _ => pure .next))
    (hy : env.kindOf y = some .local) (hp : (env.scope.kind == .class || (env.scope.kind == .module && env.locals != env.globals)) = false)
    (h : wpAny (model prog w) A (eval iter env) (fun x s₁ => wpAny (model prog w) A (pyIter x) (CAt prog w A h₀ L m env scope cl target body oD c₀ (fun s₂ c made' => ∀ D' h' tk, @LT.lt Nat _ 0 tk → Fr h₀ L h' (fun z => if z = y then some (.ref D') else m z) → News h₀ L h' ((D', oD c) :: made') → (∀ p ∈ made', p.1 ≠ D') → Q .next { s₂ with heap := h', toks := tk })) E s₁) E s) :
    wpAny (model prog w) A (exec (.Assign [.Name y py] e spos) env) Q E s := by
  subst hLe
  rw [heq]
  refine wpAny_bind (wpAny_standAt (wpAny_bind (wpAny_bind ?_)))
  refine wpAny_mono (wpAny_comprehension_free (use := some (assign (.Name y py) env)) (Q := fun _ s' => Q .next s') hcl hs hclos hkind hnames (wpAny_mono h (fun xv s₁ h₁ => wpAny_mono h₁ (fun it s₂ h₂ => ?_) fun _ _ x => x) fun _ _ x => x)) (fun _ s' hq => wpAny_pure (wpAny_pure hq)) fun _ _ x => x
  obtain ⟨I, fp, wr, n, P, St, Mid, made, J, V, rfl, W, h0k, hst, hfp, F, N, hob, hLw, hw₀, off, hJ, T, fin⟩ := h₂
  refine comp_block hL hS W hnew hfree hcell hkind h0k hst hfp F N hob hLw hw₀ off hJ T ?_
  intro D' C' h' tk m' c made' hk F' N' hn hC₀ hCL hCD offC offD hJ'
  show wpAny _ A (assign (.Name y py) env (.ref D')) _ _ _
  refine wpAny_assign_Name (wpAny_storeName_local hy F'.ns (fun h₂ hn₂ hs₂ => ?_) hp)
  have F₂ : Fr h₀ env.locals h₂ (fun z => if z = y then some (.ref D') else m z) := F'.set hn₂ hs₂
  refine ⟨m', hn.sameBut hs₂ hCL, fun h'' hs'' => fin c made' hJ' D' h'' _ (Nat.succ_pos _) (F₂.change hs'' hCL hC₀) (fun p hp => ⟨hs''.extBut _ _ ?_ (hs₂.extBut _ _ (N' p hp).2.1 (N' p hp).1), (N' p hp).2⟩) offD⟩
  rcases List.mem_cons.mp hp with rfl | hp
  · exact Ne.symm hCD
  · exact offC p hp
end
end
section
open PySem PySem.W PySem.Calls PyProof.Rows
noncomputable abbrev AG (d u : Nat) : Around := { handled := none, depth := d, frames := none, guards := some [], units := u }
section
variable {w : World} {A : Around} {s : Shared} {K : Frag} {f : Addr} {mean : ExcName → Option Value} {mg mb : Str → Option Value}
  {Q E : Value → Shared → Prop} {name qual : Str} {params : Arguments} {body : List Stmt} {scope : Scope} {dV kV doc pm cdv ct oc : Value} {an od : Option Addr} {osl : Array (Option Value)} {args : List Value} {binds : List (Str × Value)}
theorem enterC2 (X : K.In s.heap) (T : TT mean mg mb s.heap) (ho : K.lookup f = some ⟨oc, od, .func (fnOf name qual params body scope dV kV doc pm an cdv ct), osl⟩) (hcd : codeIn K cdv qual = true)
    (hroom : A.depth < recursionLimit) (h0k : @LT.lt Nat _ 0 s.toks) (hbind : BindsTo s (fnOf name qual params body scope dV kV doc pm an cdv ct) ⟨args, []⟩ binds)
    (hkind : (binds.all fun y => scope.names.lookup y.1 == some .local || scope.names.lookup y.1 == some .cell) = true)
    (hnd : ((cellsFrom 0 scope.names []).map (·.1)).Nodup)
    (h : ∀ L' h₁ tk cells, @LT.lt Nat _ 0 tk → Fr s.heap L' h₁ (bindL (envOfC qual scope L' f cdv).kindOf binds fun _ => none) → News s.heap L' h₁ cells →
      CellsAre (bindC (envOfC qual scope L' f cdv).kindOf binds fun _ => none) (cellsFrom (L' + 1) scope.names []) cells →
      wpAny (model PP w) (A.deeper (envOfC qual scope L' f cdv)) (execs body (envOfC qual scope L' f cdv))
        (fun fl s' => Q (match fl with | .ret v => v | _ => .none) s') (fun _ _ => False)
        { s with heap := h₁, toks := tk })
    (hco : scope.isCoroutine = false) (hgen : scope.isGenerator = false) (hk : scope.kind = .function) : wpAny (model PP w) A (call (.ref f) args) Q E s := by
  refine wpAny_call ?_
  refine codeAny_call_function (fd := fnOf name qual params body scope dV kV doc pm an cdv ct) hroom (X _ _ ho) rfl hco hgen rfl (codeRec_of X hcd) (hbind _ _ _ _ ?_)
  refine wpAny_with_toks (n := 1) h0k (wpAny_newFunctionEnv_cells hk (kindsX hkind _) fun env' he s' x => fun hpos => ?_)
  subst he
  refine ⟨T.nolimit.keeps x.toInCall.keep, codeAny_func ?_⟩
  obtain ⟨h₁, tk, rfl, _⟩ := x.done
  have hk₁ := x.toInCall.keep
  obtain ⟨cells, NC, Y⟩ := Cl.news (h₀ := s.heap) (Nat.le_refl _) fun n c hm => ⟨x.cell n c (lookup_of_mem_nodup (cellsFrom_names scope.names 0 (s.heap.objs.size + 1) [] [] rfl ▸ hnd) hm), x.above n c hm⟩
  exact wpAny_mono (h _ h₁ tk cells hpos ⟨x.toInCall.ns, hk₁, Nat.le_refl _⟩ NC Y) (fun _ _ x => x) (fun _ _ x => x.elim)
end
section
variable {prog : Program} {w : World} {A : Around} {E : Value → Shared → Prop} {s : Shared} {Q : Value → Shared → Prop} {h₀ : Heap} {L : Addr} {m : Str → Option Value}
theorem mapKeeps {K : Type} [DecidableEq K] {knd : KeyKind prog w K} {h h' : Heap} {a : Addr} {f : K → Option Value} (x : h.MapOf knd a f) (k : ∀ b o, h.get? b = some o → h'.get? b = some o) : h'.MapOf knd a f :=
  let ⟨o, es, ep, ho, r⟩ := x; ⟨o, es, ep, k _ _ ho, r⟩
theorem strItem {value slice : Expr} {d : Addr} {x : Str} {t : Tok} {v : Value} {f : Str → Option Value} (hm : s.heap.MapOf (strKind prog w) d f) (hv : f x = some v) (h : Q v { s with toks := s.toks + 1 })
    (hs : subscripted slice false (.ref d) (.str x t) = operate [.ref d, .str x t] (getItem (.ref d) (.str x t))) (hg : ∀ r, letTemporaryGo value (.ref d) r = pure ()) :
    wpAny (model prog w) A (subscriptTail value slice (.ref d) (.str x t)) Q E s :=
  subscriptTail_builtin hm.typeIs slot_dict_getitem.lookup (wpAny_getItem_of (strKind_is prog w x t) hm hv h) hs hg
end
end
section
open PySem PySem.W PySem.Calls PyProof.Rows
mutual
noncomputable def D.ht : D → Nat
  | .int _ => 0
  | .str _ => 0
  | .list ds => htL ds + 1
noncomputable def htL : List D → Nat
  | [] => 0
  | d :: ds => max d.ht (htL ds)
end
noncomputable def hdI : List D → List Int
  | .int n :: _ => [n]
  | _ => []
mutual
/-- the row of symbols of a tree -/
noncomputable def rowF (num : Nat → Int) (e : Int) : D → List Int
  | .int _ => []
  | .str i => [num i]
  | .list ds => hdI ds ++ rowT num e ds ++ [e]
/-- the rows of all but the first -/
noncomputable def rowT (num : Nat → Int) (e : Int) : List D → List Int
  | [] => []
  | _ :: ds => rowL num e ds
noncomputable def rowL (num : Nat → Int) (e : Int) : List D → List Int
  | [] => []
  | d :: ds => rowF num e d ++ rowL num e ds
end
mutual
/-- a tree: an operator, or a node's number and trees -/
noncomputable def wfT : D → Bool
  | .int _ => false
  | .str i => i < 48
  | .list ds => wfN ds
noncomputable def wfN : List D → Bool
  | .int n :: ds => decide (256 ≤ n) && decide (n < 512) && wfL ds
  | _ => false
noncomputable def wfL : List D → Bool
  | [] => true
  | d :: ds => wfT d && wfL ds
end
theorem rowL_append (num : Nat → Int) (e : Int) (a b : List D) : rowL num e (a ++ b) = rowL num e a ++ rowL num e b := by
  induction a with
  | nil => simp [rowL]
  | cons d a ih => simp [rowL, ih]
theorem rowL_succ {num : Nat → Int} {e : Int} {ks : List D} {i : Nat} {k : D} (h : ks[i]? = some k) : rowL num e (ks.take (i + 1)) = rowL num e (ks.take i) ++ rowF num e k := by
  rw [List.take_add_one, h, rowL_append]; simp [rowL]
theorem rowL_take_len {num : Nat → Int} {e : Int} {ks : List D} {i : Nat} : (rowL num e (ks.take i)).length ≤ (rowL num e ks).length := by
  have : rowL num e ks = rowL num e (ks.take i) ++ rowL num e (ks.drop i) := by rw [← rowL_append, List.take_append_drop]
  rw [this, List.length_append]; omega
theorem htL_get {ks : List D} {i : Nat} {k : D} (h : ks[i]? = some k) : k.ht ≤ htL ks := by
  induction ks generalizing i with
  | nil => simp at h
  | cons d ks ih =>
    cases i with
    | zero => simp at h; subst h; simp [htL]; omega
    | succ i => have := ih (i := i) (by simpa using h); simp [htL]; omega
theorem wfL_get {ks : List D} {i : Nat} {k : D} (w : wfL ks = true) (h : ks[i]? = some k) : wfT k = true := by
  induction ks generalizing i with
  | nil => simp at h
  | cons d ks ih =>
    simp [wfL] at w
    cases i with
    | zero => simp at h; subst h; exact w.1
    | succ i => exact ih w.2 (i := i) (by simpa using h)
mutual
/-- no list is long -/
noncomputable def lenOk : D → Bool
  | .int _ => true
  | .str _ => true
  | .list ds => decide (ds.length ≤ 1000) && lenOkL ds
noncomputable def lenOkL : List D → Bool
  | [] => true
  | d :: ds => lenOk d && lenOkL ds
end
theorem lenOkL_get {ks : List D} {i : Nat} {k : D} (w : lenOkL ks = true) (h : ks[i]? = some k) : lenOk k = true := by
  induction ks generalizing i with
  | nil => simp at h
  | cons d ks ih =>
    simp [lenOkL] at w
    cases i with
    | zero => simp at h; subst h; exact w.1
    | succ i => exact ih w.2 (i := i) (by simpa using h)
structure RowOk (w : World) (num : Nat → Int) (e : Int) (t : D) : Prop where
  ok : ∀ {s : Shared} {mean : ExcName → Option Value} {mg mb : Str → Option Value} {Q E : Value → Shared → Prop} {d u dn : Nat} {te : Tok} {tv : Value} {f : Str → Option Value} {G : Good},
    (KK w).In s.heap → TT mean mg mb s.heap → @LT.lt Nat _ 0 s.toks → d + t.ht < recursionLimit → s.heap.MapOf (strKind PP w) dn f → (∀ i x, opsL[i]? = some x → ∃ t, f x = some (.int (num i) t)) →
    (∀ a o, G a o → s.heap.get? a = some o) → DG G tv t →
    (∀ x h' tk' ws, @LT.lt Nat _ 0 tk' → Keeps s.heap h' → s.heap.get? x = none → h'.get? x = some (listOf (List.toArray ws) 0) → IntsAre ws (rowF num e t) → Q (.ref x) { s with heap := h', toks := tk' }) →
    wpAny (model PP w) (AG d u) (call (.ref 106) [tv, .ref dn, .int e te]) Q E s
section
variable {w : World} {num : Nat → Int} {e : Int} {s : Shared} {mean : ExcName → Option Value} {mg mb : Str → Option Value} {Q E : Value → Shared → Prop} {d u dn : Nat} {te : Tok} {tv : Value} {f : Str → Option Value} {G : Good} {h₀ : Heap} {L : Addr} {m : Str → Option Value} {news : List (Addr × Obj)}
theorem rowP {t : D} (hr : RowOk w num e t) (F : Fr h₀ L s.heap m) (N : News h₀ L s.heap news) (X : (KK w).In h₀) (T : TT mean mg mb h₀) (h0k : @LT.lt Nat _ 0 s.toks) (hd : d + t.ht < recursionLimit)
    (hm : h₀.MapOf (strKind PP w) dn f) (hf : ∀ i x, opsL[i]? = some x → ∃ t, f x = some (.int (num i) t)) (hG : ∀ a o, G a o → h₀.get? a = some o) (hv : DG G tv t)
    (h : ∀ x h' tk' ws, @LT.lt Nat _ 0 tk' → Fr h₀ L h' m → News h₀ L h' ((x, listOf (List.toArray ws) 0) :: news) → (∀ p ∈ news, x ≠ p.1) → IntsAre ws (rowF num e t) → Q (.ref x) { s with heap := h', toks := tk' }) :
    wpAny (model PP w) (AG d u) (call (.ref 106) [tv, .ref dn, .int e te]) Q E s :=
  hr.ok (X.keeps F.keep) (Top.keeps T F.keep) h0k hd (mapKeeps hm F.keep) hf (fun a o x => F.keep a o (hG a o x)) hv fun x h' tk' ws k0 kk fr ex hi =>
    h x h' tk' ws k0 (Fr.mk' F kk) (News.add F N kk ex fr) (fun p hp q => by rw [q, (N p hp).1] at fr; cases fr) hi
theorem typeList {prog : Program} {A : Around} {a : Addr} {its : Array Value} (hl : s.heap.IsList a its) (hq : Q (.type "list") s) : wpAny (model prog w) A (call (.type "type") [.ref a]) Q E s := by
  obtain ⟨o, ho, hc, _⟩ := hl
  exact kto_cont ⟨o, ho, hc⟩ (by decide) hq
theorem newListOk {prog : Program} {A : Around} (Q' : Value → Shared → Prop) (E' : Value → Shared → Prop) (s : Shared) (h : Q' (.ref s.heap.objs.size) { s with heap := s.heap.push (LCg.lst []) }) : wpAny (model prog w) A (newList []) Q' E' s := wpAny_newObj_type h
end
end
section
open PySem PySem.W PySem.Calls PyProof.Rows
section
variable {prog : Program} {w : World} {A : Around} {E : Value → Shared → Prop} {s : Shared} {h₀ : Heap} {L : Addr} {m : Str → Option Value} {env : Env} {scope : Scope} {cl : List (Str × Addr)} {made : List (Addr × Obj)}
theorem list_ne {h : Heap} {a : Addr} {its : Array Value} (F : Fr h₀ L h m) (hl : h.IsList a its) : L ≠ a := by
  rintro rfl
  obtain ⟨o, ho, _, n, hd⟩ := hl
  obtain ⟨o', es, ep, ho', hd', _⟩ := F.ns
  rw [ho] at ho'
  obtain rfl := Option.some.inj ho'
  rw [hd] at hd'
  cases hd'
/-- what a turn of a comprehension must do, the source a list -/
noncomputable def StepL {σ : Type} (prog : Program) (w : World) (A : Around) (h₀ : Heap) (L : Addr) (m : Str → Option Value) (env : Env) (scope : Scope) (cl : List (Str × Addr)) (body : Env → Value → Sem Unit) (oD : σ → Obj) (n : Nat) (V : Nat → (Str → Option Value) → Prop) (J : Nat → σ → List (Addr × Obj) → Prop) (s : Shared) : Prop :=
  ∀ i c made rest C oC D m₂ h tk, i < n → V i m₂ → J i c made → (∀ p ∈ made, p ∈ rest) → LCg.NsObj oC m₂ → @LT.lt Nat _ 0 tk → Fr h₀ L h m → News h₀ L h ((C, oC) :: (D, oD c) :: rest) → C ≠ D → (∀ p ∈ rest, p.1 ≠ C ∧ p.1 ≠ D) →
    wpAny (model prog w) A (body (compEnvC scope cl C env) (.ref D)) (CEnd h₀ L m C D oD rest made (J (i + 1)) s) (fun _ _ => False) { s with heap := h, toks := tk }
theorem cat_list {σ : Type} {x : Str} {px : Pos} {body : Env → Value → Sem Unit} {oD : σ → Obj} {c₀ : σ} {Fin : Shared → σ → List (Addr × Obj) → Prop} {ax : Addr} {its : Array Value} {J : Nat → σ → List (Addr × Obj) → Prop}
    (hh : A.handled = none) (hkind : scope.kind = .function) (hx : scope.names.lookup x = some .local) (F : Fr h₀ L s.heap m) (N : News h₀ L s.heap made) (h0k : @LT.lt Nat _ 0 s.toks) (hsrc : LCg.SrcAt h₀ ax its made) (hJ : J 0 c₀ made)
    (T : ∀ g, StepL prog w A h₀ L m env scope cl body oD its.size (fun i m₂ => ∃ v, its[i]? = some v ∧ m₂ x = some v) J { s with heap := g }) (fin : ∀ g c made', J its.size c made' → Fin { s with heap := g } c made') :
    wpAny (model prog w) A (pyIter (.ref ax)) (CAt prog w A h₀ L m env scope cl (.Name x px) body oD c₀ Fin) E s := by
  have hl : s.heap.IsList ax its := hsrc.list F.keep N
  have hlt : ax < s.heap.objs.size := by obtain ⟨_, e, _⟩ := hl; exact Heap.lt_size e
  refine wpAny_pyIter_list hl ?_
  have up : ∀ b o, s.heap.get? b = some o → (s.heap.push { cls := .type "list_iterator", data := .fields #[.ref ax, .int 0 0] }).get? b = some o := fun b o e => Heap.get?_push_of_some _ e
  refine ⟨s.heap.objs.size, [s.heap.objs.size, ax], [s.heap.objs.size], its.size, _, _, _, made, J, fun i m₂ => ∃ v, its[i]? = some v ∧ m₂ x = some v, rfl, Wk.name (Walks.list hh s.heap.objs.size ax (Nat.ne_of_lt hlt) its), h0k, ⟨⟨_, Heap.get?_push_size _ rfl, rfl, rfl⟩, hl.push _⟩, ?_, Fr.mk' F up, News.mk' N up, ?_, ?_, ?_, ?_, hJ, ⟨?_, T _⟩, fun c made' => fin _ c made'⟩
  · intro b hb
    show b < (s.heap.push _).objs.size
    rw [Heap.size_push]
    rcases List.mem_cons.mp hb with rfl | hb
    · exact Nat.lt_succ_self _
    · rw [List.mem_singleton.mp hb]; exact Nat.lt_succ_of_lt hlt
  · intro i h st b hb
    rw [List.mem_singleton.mp hb]
    obtain ⟨o, e, _⟩ := st.1
    exact ⟨o, e⟩
  · intro hm
    rcases List.mem_cons.mp hm with e | hm
    · exact absurd F.ns.lt (e ▸ Nat.lt_irrefl _)
    · exact list_ne F hl (List.mem_singleton.mp hm)
  · intro b hb
    rw [List.mem_singleton.mp hb]
    exact next_is_new F
  · intro p hp hm
    exact absurd (Heap.lt_size (N p hp).1) ((List.mem_singleton.mp hm) ▸ Nat.lt_irrefl _)
  · intro i v s' C m' Q E' hP hn hQ
    refine wpAny_assign_Name (wpAny_storeName_local (lookup_relabel_local hx) hn (fun h₃ hn₃ hs₃ => hQ h₃ _ _ hn₃ ⟨v, hP, by simp⟩ fun b o hb e => hs₃.extBut b o hb e) (by simp [compEnvC, relabel, hkind]))
end
end
section
open PySem PySem.W PySem.Calls PyProof.Rows
end
local macro_rules | `(tactic| k_mem) => `(tactic| assumption)
section
open PySem PySem.W PySem.Calls PyProof.Rows
theorem rules_c : True := by
  k_with_none
  k_with "call builtin:max" => ((with_reducible show wpAny _ _ (call _ [Value.float _ _, Value.float _ _, Value.float _ _]) _ _ _); (rename News _ _ _ _ => N'); (rename Fr _ _ _ _ => F'); refine max3L (by assumption) (by first | exact Nat.succ_pos _ | with_reducible assumption | omega | (dsimp only; first | exact Nat.succ_pos _ | with_reducible assumption | omega)) (by first | exact Nat.succ_pos _ | with_reducible assumption | omega | (dsimp only; first | exact Nat.succ_pos _ | with_reducible assumption | omega)) F' N' ?_; clear F' N'; intro h' tk' tt' htk' htt' F' N')
  k_with "call builtin:min" => ((with_reducible show wpAny _ _ (call _ [Value.float _ _, Value.float _ _, Value.float _ _]) _ _ _); (rename News _ _ _ _ => N'); (rename Fr _ _ _ _ => F'); refine min3L (by assumption) (by first | exact Nat.succ_pos _ | with_reducible assumption | omega | (dsimp only; first | exact Nat.succ_pos _ | with_reducible assumption | omega)) (by first | exact Nat.succ_pos _ | with_reducible assumption | omega | (dsimp only; first | exact Nat.succ_pos _ | with_reducible assumption | omega)) F' N' ?_; clear F' N'; intro h' tk' tt' htk' htt' F' N')
  k_with "binaryOp Div float float" => (refine divL (by first | assumption | decide +kernel) ?_)
  k_with "binaryOp Mod float float" => (refine modL (by first | assumption | decide +kernel) ?_)
  k_with "exec If" => ((with_reducible show wpAny _ _ (exec (Stmt.If (Expr.Compare (Expr.Name _ _) [_] [Expr.Constant _ _ _] _) [Stmt.Assign _ _ _] [] _) _) _ _ _); (rename News _ _ _ _ => N'); (rename Fr _ _ _ _ => F'); (with_reducible (first | refine' clampLt F' N' ?k1 ?k5 ?_ ?k2 ?k3 ?k4 | refine' clampGt F' N' ?k1 ?k5 ?_ ?k2 ?k3 ?k4)); (case k1 => k_dflt exact rfl); (case k5 => first | exact Nat.succ_pos _ | with_reducible assumption | omega | (dsimp only; first | exact Nat.succ_pos _ | with_reducible assumption | omega)); (case k2 => k_dflt exact rfl); (case k3 => k_dflt exact rfl); (case k4 => k_dflt decide); clear F' N'; intro h' tk' tt' htk' htt' F' N')
  k_with "execs cons" => (refine execs_toks (by first | exact Nat.succ_pos _ | with_reducible assumption | omega | (dsimp only; first | exact Nat.succ_pos _ | with_reducible assumption | omega)) ?_; intro tk' htk'; try dsimp only)
  k_with "TokPos" => (unfold TokPos; intro htk'; try dsimp only)
  k_with "mine_enter" => (k_dflt (refine' enter0 ?kX ?kT ?k6 ?k7 ?kr ?k9 ?kB ?_ ?c2 ?c3 ?c4 ?c5; (case kX => assumption); (case kT => assumption); (case kr => (first | assumption | decide | (k_dflt omega))); (case k6 => k_is); (case k7 => k_is); (case k9 => exact BindsTo.of_eq rfl); (case c5 => decide); (case kB => exact locs rfl); (case c2 => exact rfl); (case c3 => exact rfl); (case c4 => exact rfl); k_whole); intro L' h' F' N'; (try dsimp only); (try k_fold))
  k_with "mine_end3" => ((rename Fr _ _ _ _ => F9); (rename News _ _ _ _ => N9); (rename (∀ (_ : Addr), _) => ret9); refine ret9 _ _ _ (by first | exact Nat.succ_pos _ | with_reducible assumption | omega | (dsimp only; first | exact Nat.succ_pos _ | with_reducible assumption | omega)) (Fr.keep F9) (N9 _ (List.Mem.head _)).2.2 ?_; have q9 := (N9 _ (List.Mem.head _)).1; clear F9 N9 ret9; (first | (refine ⟨_, _, _, ?_, q9⟩; exact ⟨(by first | exact Nat.succ_pos _ | with_reducible assumption | omega | (dsimp only; first | exact Nat.succ_pos _ | with_reducible assumption | omega)), (by first | exact Nat.succ_pos _ | with_reducible assumption | omega | (dsimp only; first | exact Nat.succ_pos _ | with_reducible assumption | omega)), (by first | exact Nat.succ_pos _ | with_reducible assumption | omega | (dsimp only; first | exact Nat.succ_pos _ | with_reducible assumption | omega))⟩) | (simp only [hueH, if_true, if_false, Bool.false_eq_true, *]; (refine ⟨_, _, _, ?_, q9⟩; exact ⟨(by first | exact Nat.succ_pos _ | with_reducible assumption | omega | (dsimp only; first | exact Nat.succ_pos _ | with_reducible assumption | omega)), (by first | exact Nat.succ_pos _ | with_reducible assumption | omega | (dsimp only; first | exact Nat.succ_pos _ | with_reducible assumption | omega)), (by first | exact Nat.succ_pos _ | with_reducible assumption | omega | (dsimp only; first | exact Nat.succ_pos _ | with_reducible assumption | omega))⟩))))
  k_with "mine_end1" => ((rename Fr _ _ _ _ => F9); (rename News _ _ _ _ => N9); (rename (∀ (_ : Heap), _) => ret9); refine ret9 _ _ _ _ (by first | exact Nat.succ_pos _ | with_reducible assumption | omega | (dsimp only; first | exact Nat.succ_pos _ | with_reducible assumption | omega)) (by first | exact Nat.succ_pos _ | with_reducible assumption | omega | (dsimp only; first | exact Nat.succ_pos _ | with_reducible assumption | omega)) (Fr.keep F9) ?_; clear F9 N9 ret9; (first | rfl | (simp only [vF, hueF, if_true, if_false, Bool.false_eq_true, *]; done)))
  k_with "my mem" => (first | exact List.mem_cons_self | assumption | (refine List.mem_cons_of_mem _ ?_; walk_at "my mem"))
  k_with "my list" => (first | exact News.isList (by with_reducible assumption) (by walk_at "my mem") | exact Fr.lst (by with_reducible assumption) (by assumption))
  k_with "my len" => (first | (simp only [List.length_append, List.length_cons, List.length_nil, List.length_take, List.length_drop]; omega) | omega)
  k_with "binaryOp Add ref ref" => ((rename News _ _ _ _ => N'); (rename Fr _ _ _ _ => F'); (refine addL F' N' (by walk_at "my list") (by walk_at "my list") (by walk_at "my len") ?_); clear F' N'; intro D' h' F' N'; (try dsimp only))
  k_with "subscriptTail Name Slice ref ref" => ((rename News _ _ _ _ => N'); (rename Fr _ _ _ _ => F'); (k_dflt (refine' sliceL F' N' ?zl ?zp ?zq ?ze ?zz ?_ ?zs ?zt; (case zl => walk_at "my list"); (case zp => kmk_part); (case zq => kmk_part); (case ze => first | exact pickTo (by omega) | exact pickFrom (by omega) | exact pickToNeg (by omega)); (case zz => walk_at "my len"); (case zs => with_unfolding_all rfl); (case zt => kmk_pure))); clear F' N'; intro D' h' F' N'; (try dsimp only))
  k_with "call builtin:len" => ((rename News _ _ _ _ => N'); (rename Fr _ _ _ _ => F'); refine lenL (by walk_at "my list") (by walk_at "my len") ?_)
  k_with "newList" => ((rename News _ _ _ _ => N'); (rename Fr _ _ _ _ => F'); refine newList_K F' N' ?_; clear F' N'; intro D' h' F' N' l1; clear l1; (try dsimp only))
  k_with "mine_enterC2" => (k_dflt (refine' enterC2 ?kX ?kT ?k6 ?k7 ?kr ?kt ?k9 ?kB ?kD ?_ ?c2 ?c3 ?c4; (case kX => assumption); (case kT => assumption); (case kr => first | assumption | decide | (show _ < recursionLimit; omega)); (case kt => assumption); (case k6 => k_is); (case k7 => k_is); (case k9 => exact BindsTo.of_eq rfl); (case kB => exact rfl); (case kD => decide +kernel); (case c2 => exact rfl); (case c3 => exact rfl); (case c4 => exact rfl); k_whole); intro L' h' tk' cells' htk' F' N' Y'; k_cells Y'; (try simp only [List.cons_append, List.nil_append] at N'); (try dsimp only); (try k_fold))
  k_with "subscriptTail Name Name ref str" => ((rename News _ _ _ _ => N'); (rename Fr _ _ _ _ => F'); (k_dflt (refine' strItem (mapKeeps (by assumption) (Fr.keep F')) (by assumption) ?_ ?zs ?zt; (case zs => with_unfolding_all rfl); (case zt => kmk_pure))))
  k_with "eval ListComp" => (refine stop_i ?_)
  k_with "pyIter ref" => (refine stop_i ?_)
  k_with "call type:type" => ((with_reducible show wpAny _ _ (call _ [Value.ref _]) _ _ _); (rename Fr _ _ _ _ => F'); refine typeList (Fr.lst F' (by assumption)) ?_)
  k_with "call ref" => ((with_reducible show wpAny _ _ (call (Value.ref 106) _) _ _ _); (rename News _ _ _ _ => N'); (rename Fr _ _ _ _ => F'); (k_dflt (refine rowP (by assumption) F' N' (by assumption) (by assumption) (by first | exact Nat.succ_pos _ | with_reducible assumption | omega | (dsimp only; first | exact Nat.succ_pos _ | with_reducible assumption | omega)) (by first | omega | (show d + 1 + _ < recursionLimit; omega)) (by assumption) (by assumption) (by assumption) (by assumption) ?_)); clear F' N'; intro x' h' tk' ws' htk' F' N' hfr' hws')
  trivial
noncomputable abbrev AllIn9 (base nw : List (Addr × Obj)) : Prop := ∀ p ∈ base, p ∈ nw
theorem row_leaf : ∀ {w : World} {s : Shared} {mean : ExcName → Option Value} {mg mb : Str → Option Value} {Q E : Value → Shared → Prop} {d u dn : Nat} {x : Str} {t te : Tok} {e : Int} {f : Str → Option Value} {k : Int} {tv : Tok},
    (KK w).In s.heap → TT mean mg mb s.heap → @LT.lt Nat _ 0 s.toks → d < recursionLimit → s.heap.MapOf (strKind PP w) dn f → f x = some (.int k tv) →
    (∀ x h' tk', @LT.lt Nat _ 0 tk' → Keeps s.heap h' → s.heap.get? x = none → h'.get? x = some (listOf #[.int k tv] 0) → Q (.ref x) { s with heap := h', toks := tk' }) →
    wpAny (model PP w) (AG d u) (call (.ref 106) [.str x t, .ref dn, .int e te]) Q E s := by
  unfold KK TT PP
  k_fill
  intro w s mean mg mb Q E d u dn x t te e f k tv X T h0k hroom hm hf ret
  walk_at "mine_enterC2"
  k_steps
  (rename News _ _ _ _ => N9); (rename Fr _ _ _ _ => F9)
  exact ret _ _ _ (by first | exact Nat.succ_pos _ | with_reducible assumption | omega | (dsimp only; first | exact Nat.succ_pos _ | with_reducible assumption | omega)) (Fr.keep F9) (N9 _ (List.Mem.head _)).2.2 (N9 _ (List.Mem.head _)).1
theorem row_node : ∀ {w : World} {s : Shared} {mean : ExcName → Option Value} {mg mb : Str → Option Value} {Q E : Value → Shared → Prop} {d u dn a : Nat} {te tn : Tok} {e n : Int} {vs : List Value} {f : Str → Option Value} {num : Nat → Int} {ks : List D} {G : Good},
    (KK w).In s.heap → TT mean mg mb s.heap → @LT.lt Nat _ 0 s.toks → d + htL ks + 1 < recursionLimit → s.heap.MapOf (strKind PP w) dn f → (∀ i x, opsL[i]? = some x → ∃ t, f x = some (.int (num i) t)) → (∀ a o, G a o → s.heap.get? a = some o) →
    vs.length ≤ 1000 → (rowL num e ks).length ≤ 1000 →
    s.heap.IsList a (.int n tn :: vs).toArray → DGs G vs ks → (∀ (i : Nat) k, ks[i]? = some k → RowOk w num e k) →
    (∀ x h' tk' ws, @LT.lt Nat _ 0 tk' → Keeps s.heap h' → s.heap.get? x = none → h'.get? x = some (listOf (List.toArray ws) 0) → IntsAre ws (n :: rowL num e ks ++ [e]) → Q (.ref x) { s with heap := h', toks := tk' }) →
    wpAny (model PP w) (AG d u) (call (.ref 106) [.ref a, .ref dn, .int e te]) Q E s := by
  unfold KK TT PP
  k_fill
  intro w s mean mg mb Q E d u dn a te tn e n vs f num ks G X T h0k hroom hm hf hG hlen hlen2 hl hD hIH ret
  have hroom' : d < recursionLimit := by omega
  have hlen1 : (Value.int n tn :: vs).length ≤ 1001 := by rw [List.length_cons]; omega
  walk_at "mine_enterC2"
  k_steps
  (rename News _ _ _ _ => N9); (rename Fr _ _ _ _ => F9)
  unfold Stop
  rw [eval_ListComp]
  refine comp_E (h₀ := s.heap) (L := L') (iter := _) (target := _) (ifs := _) (gs := _) (cl := _) (oD := LCg.lst) (c₀ := []) F9 (loop_list (eq_nest _ _ _ _ _ _ _)) start_list rfl newListOk (fun _ => rfl) (by with_unfolding_all rfl) (by decide) rfl (by decide) (fun _ => rfl) ?_
  k_steps
  (rename News _ _ _ _ => N9); (rename Fr _ _ _ _ => F9)
  unfold Stop
  refine cat_list (its := vs.toArray) (J := fun i ys nw => IntsAre ys (rowL num e (ks.take i)) ∧ AllIn9 _ nw) rfl rfl (by decide) F9 N9 (by first | exact Nat.succ_pos _ | with_reducible assumption | omega | (dsimp only; first | exact Nat.succ_pos _ | with_reducible assumption | omega)) (.inr ⟨_, List.mem_cons_self, rfl, 0, rfl⟩) ⟨.nil, fun _ hp => hp⟩ ?step ?fin
  case step =>
    intro g i ys made rest C oC D m₂ h tk hi hV hJ hsub hoC htk F N hCD hoff
    obtain ⟨hints, hbase⟩ := hJ
    obtain ⟨v, hv, hm₂⟩ := hV
    have hv' : vs[i]? = some v := by simpa using hv
    have hik : i < ks.length := by rw [← hD.length]; exact (List.getElem?_eq_some_iff.mp hv').1
    obtain ⟨v2, hv2, hdg⟩ := hD.get (List.getElem?_eq_getElem hik)
    obtain rfl : v = v2 := Option.some.inj (hv'.symm.trans hv2)
    have hrow := hIH i _ (List.getElem?_eq_getElem hik)
    have hht := htL_get (List.getElem?_eq_getElem hik)
    have hc1 := hsub _ (hbase _ (List.mem_cons_of_mem _ (List.mem_cons_of_mem _ List.mem_cons_self)))
    have hc2 := hsub _ (hbase _ (List.mem_cons_of_mem _ (List.mem_cons_of_mem _ (List.mem_cons_of_mem _ List.mem_cons_self))))
    clear N9 F9
    refine body_nest (ys := ys) rfl (by decide) rfl (by decide) (fun _ => rfl) hoC hCD hoff ?_
    k_steps
    (rename News _ _ _ _ => N9); (rename Fr _ _ _ _ => F9)
    have e1 := hints.length
    have e2 := hws'.length
    have e3 := rowL_take_len (num := num) (e := e) (ks := ks) (i := i + 1)
    rw [rowL_succ (List.getElem?_eq_getElem hik), List.length_append] at e3
    refine ⟨x', ws', 0, _, _, [_], rfl, rfl, (by first | exact Nat.succ_pos _ | with_reducible assumption | omega | (dsimp only; first | exact Nat.succ_pos _ | with_reducible assumption | omega)), F9, N9, fun p hp => by rw [List.mem_singleton.mp hp]; exact hfr', List.mem_cons_self, by rw [sizeLine_eq]; omega, ?_, fun p hp => List.mem_append.mpr (.inr (hbase p hp))⟩
    rw [rowL_succ (List.getElem?_eq_getElem hik)]
    exact hints.append hws'
  case fin =>
    intro g ys made' hJ D2 h2 tk2 htk2 F2 N2 hne2
    obtain ⟨hints, hbase⟩ := hJ
    have hlist := hbase _ (List.mem_cons_of_mem _ List.mem_cons_self)
    have hc1 := hbase _ (List.mem_cons_of_mem _ (List.mem_cons_of_mem _ List.mem_cons_self))
    have hc2 := hbase _ (List.mem_cons_of_mem _ (List.mem_cons_of_mem _ (List.mem_cons_of_mem _ List.mem_cons_self)))
    have e1 := hints.length
    rw [List.size_toArray, hD.length, List.take_length] at hints e1
    have e4 : (List.take (Int.toNat 1) (Value.int n tn :: vs)).length ≤ 1 := by simp
    clear N9 F9
    dsimp only
    k_steps
    (rename News _ _ _ _ => N9); (rename Fr _ _ _ _ => F9)
    exact ret _ _ _ _ (by first | exact Nat.succ_pos _ | with_reducible assumption | omega | (dsimp only; first | exact Nat.succ_pos _ | with_reducible assumption | omega)) (Fr.keep F9) (N9 _ (List.Mem.head _)).2.2 (N9 _ (List.Mem.head _)).1 (.cons n tn (hints.append (.cons e te .nil)))
theorem row_ok {w : World} {num : Nat → Int} {e : Int} : ∀ (k : Nat) (t : D), t.ht ≤ k → wfT t = true → (rowF num e t).length ≤ 1000 → lenOk t = true → RowOk w num e t
  | _, .int _, _, hw, _, _ => by simp [wfT] at hw
  | _, .str i, _, hw, _, _ => ⟨fun X T h0k hd hm hf hG hv ret => by
      cases hv with
      | str t h =>
        obtain ⟨tv, he⟩ := hf _ _ h
        exact row_leaf X T h0k (by omega) hm he fun x h' tk' k0 kk fr ex => ret x h' tk' [_] k0 kk fr ex (.cons _ _ .nil)⟩
  | 0, .list ds, h, _, _, _ => by simp [D.ht] at h
  | k + 1, .list ds, h, hw, hl, ho => ⟨fun X T h0k hd hm hf hG hv ret => by
      match ds, hw, hv with
      | .int n :: ks, hw, .list (vs := .int _ tn :: vs) hg (.cons (.int _ _) hk) =>
        simp only [wfT, wfN, Bool.and_eq_true] at hw
        simp only [D.ht, htL, Nat.zero_max] at h hd
        simp only [rowF, hdI, rowT, List.length_append, List.length_cons, List.length_nil] at hl
        simp only [lenOk, Bool.and_eq_true, decide_eq_true_eq] at ho
        refine row_node (num := num) (ks := ks) X T h0k (by omega) hm hf hG ?_ (by omega) ⟨_, hG _ _ hg, rfl, _, rfl⟩ hk (fun i c hc => ?_) fun x h' tk' ws k0 kk fr ex hi => ret x h' tk' ws k0 kk fr ex ?_
        · rw [hk.length]; have := ho.1; rw [List.length_cons] at this; omega
        · have h1 := htL_get hc
          have h2 := rowL_take_len (num := num) (e := e) (ks := ks) (i := i + 1)
          rw [rowL_succ hc, List.length_append] at h2
          exact row_ok k c (by omega) (wfL_get hw.2 hc) (by omega) (lenOkL_get ho.2 (i := i + 1) (by simpa using hc))
        · simpa [rowF, hdI, rowT] using hi⟩
end
section
open PySem PySem.W PySem.Calls PyProof.Rows
/-- a tuple of three -/
noncomputable abbrev IsTri (h : Heap) (T : Addr) (a b c : Value) : Prop := h.get? T = some { cls := .type "tuple", data := .seq #[a, b, c] }
section
variable {prog : Program} {w : World} {A : Around} {E : Value → Shared → Prop} {s : Shared}
theorem updTri {T : Addr} {a b c x : Value} {k : Nat} {Q : Unit → Shared → Prop} (hT : IsTri s.heap T a b c)
    (h : ∀ h', h'.get? T = some { cls := .type "tuple", data := .seq ((#[a, b, c] : Array Value).setIfInBounds k x) } → Heap.SameBut T s.heap h' → Q () { s with heap := h' }) :
    wpAny (model prog w) A (updateSeq T (·.setIfInBounds k x)) Q E s := by
  refine wpAny_updateSeq hT rfl (h _ ?_ (Heap.SameBut.update ..))
  rw [Heap.get?_update_self _ hT rfl]
  simp [Obj.mapSeq]
/-- three iterators at b, b + 1, b + 2, the two tuples behind them, the zip at b + 5 -/
structure Z3 (b : Nat) (l1 l2 l3 : Nat) : Prop where
  p1 : l1 < b
  p2 : l2 < b
  p3 : l3 < b
theorem neA {a b : Nat} (h : @Ne Nat a b) : (a : Addr) ≠ b := h
theorem zip3_item {b l1 l2 l3 : Nat} {i : Nat} {xs ys zs : Array Value} {x y u a1 a2 a3 : Value} {Q : Value → Shared → Prop} (D : Z3 b l1 l2 l3)
    (hz : IsZip s.heap (b + 5) (b + 3) (b + 4) .none) (hTI : IsTri s.heap (b + 3) (.ref b) (.ref (b + 1)) (.ref (b + 2))) (hTO : IsTri s.heap (b + 4) a1 a2 a3)
    (h1 : s.heap.IsListIter b l1 i) (h2 : s.heap.IsListIter (b + 1) l2 i) (h3 : s.heap.IsListIter (b + 2) l3 i) (hl1 : s.heap.IsList l1 xs) (hl2 : s.heap.IsList l2 ys) (hl3 : s.heap.IsList l3 zs)
    (hx : xs[i]? = some x) (hy : ys[i]? = some y) (hu : zs[i]? = some u)
    (hQ : ∀ h', IsZip h' (b + 5) (b + 3) (b + 4) (rawInt s.heap.objs.size) → IsTri h' (b + 4) x y u → h'.IsListIter b l1 (i + 1) → h'.IsListIter (b + 1) l2 (i + 1) → h'.IsListIter (b + 2) l3 (i + 1) → IsTri h' s.heap.objs.size x y u →
      (∀ c o, @Ne Nat c (b + 5) → @Ne Nat c (b + 4) → @Ne Nat c b → @Ne Nat c (b + 1) → @Ne Nat c (b + 2) → s.heap.get? c = some o → h'.get? c = some o) → Q (.ref s.heap.objs.size) { s with heap := h' }) :
    wpAny (model prog w) A (Builtin.«zip.__next__» ⟨[.ref (b + 5)], []⟩) (fun fin s' => ∃ v, fin = .done (.ret v) ∧ Q v s') E s := by
  obtain ⟨p1, p2, p3⟩ := D
  show wpAny _ _ (field (.ref (b + 5)) 2 >>= _) _ _ _
  refine wpAny_bind (wpAny_field hz rfl (x := .bool false) rfl ?_)
  show wpAny _ _ (field (.ref (b + 5)) 3 >>= _) _ _ _
  refine wpAny_bind (wpAny_field hz rfl (x := .ref (b + 3)) rfl ?_)
  refine wpAny_bind (wpAny_seqItems hTI rfl ?_)
  show wpAny _ _ (Builtin.SmallTypes.ownedTupleIsFree (.ref (b + 5)) >>= _) _ _ _
  refine wpAny_bind ?_
  unfold Builtin.SmallTypes.ownedTupleIsFree
  refine wpAny_bind (wpAny_field hz rfl (x := .none) rfl (wpAny_pure ?_))
  simp only [if_true]
  refine wpAny_bind (wpAny_rule ?_)
  refine wpAny_bind (wpAny_field hz rfl (x := .ref (b + 4)) rfl ?_)
  refine wpAny_bind (wpAny_setField_rec hz (by simp) fun h₁ hz₁ hs₁ => ?_)
  replace hz₁ : IsZip h₁ (b + 5) (b + 3) (b + 4) .ellipsis := hz₁
  refine wpAny_bind ?_
  simp only [List.zipIdx_cons, List.zipIdx_nil, List.forIn_cons, List.forIn_nil]
  -- the first list
  refine wpAny_bind (wpAny_bind (wpAny_onRaise ?_))
  show wpAny _ _ (Builtin.SmallTypes.nextOf (.ref b) >>= _) _ _ _
  refine wpAny_bind (wpAny_nextOf_list_item (h1.extBut hs₁.extBut (neA (by omega))) (hl1.extBut hs₁.extBut (neA (by omega))) hx fun h₂ h1₂ hs₂ => wpAny_pure ?_)
  have hTO₂ : IsTri h₂ (b + 4) a1 a2 a3 := hs₂.extBut _ _ (neA (by omega)) (hs₁.extBut _ _ (neA (by omega)) hTO)
  refine wpAny_bind (wpAny_seqItems hTO₂ rfl ?_)
  refine wpAny_bind (updTri hTO₂ fun h₃ hTO₃ hs₃ => ?_)
  replace hTO₃ : IsTri h₃ (b + 4) x a2 a3 := hTO₃
  refine wpAny_bind (wpAny_letGo (wpAny_pure ?_))
  -- the second
  refine wpAny_bind (wpAny_bind (wpAny_onRaise ?_))
  show wpAny _ _ (Builtin.SmallTypes.nextOf (.ref (b + 1)) >>= _) _ _ _
  refine wpAny_bind (wpAny_nextOf_list_item (((h2.extBut hs₁.extBut (neA (by omega))).extBut hs₂.extBut (neA (by omega))).extBut hs₃.extBut (neA (by omega)))
    (((hl2.extBut hs₁.extBut (neA (by omega))).extBut hs₂.extBut (neA (by omega))).extBut hs₃.extBut (neA (by omega))) hy fun h₄ h2₄ hs₄ => wpAny_pure ?_)
  have hTO₄ : IsTri h₄ (b + 4) x a2 a3 := hs₄.extBut _ _ (neA (by omega)) hTO₃
  refine wpAny_bind (wpAny_seqItems hTO₄ rfl ?_)
  refine wpAny_bind (updTri hTO₄ fun h₅ hTO₅ hs₅ => ?_)
  replace hTO₅ : IsTri h₅ (b + 4) x y a3 := hTO₅
  refine wpAny_bind (wpAny_letGo (wpAny_pure ?_))
  -- the third
  refine wpAny_bind (wpAny_bind (wpAny_onRaise ?_))
  show wpAny _ _ (Builtin.SmallTypes.nextOf (.ref (b + 2)) >>= _) _ _ _
  refine wpAny_bind (wpAny_nextOf_list_item (((((h3.extBut hs₁.extBut (neA (by omega))).extBut hs₂.extBut (neA (by omega))).extBut hs₃.extBut (neA (by omega))).extBut hs₄.extBut (neA (by omega))).extBut hs₅.extBut (neA (by omega)))
    (((((hl3.extBut hs₁.extBut (neA (by omega))).extBut hs₂.extBut (neA (by omega))).extBut hs₃.extBut (neA (by omega))).extBut hs₄.extBut (neA (by omega))).extBut hs₅.extBut (neA (by omega))) hu fun h₆ h3₆ hs₆ => wpAny_pure ?_)
  have hTO₆ : IsTri h₆ (b + 4) x y a3 := hs₆.extBut _ _ (neA (by omega)) hTO₅
  refine wpAny_bind (wpAny_seqItems hTO₆ rfl ?_)
  refine wpAny_bind (updTri hTO₆ fun h₇ hTO₇ hs₇ => ?_)
  replace hTO₇ : IsTri h₇ (b + 4) x y u := hTO₇
  refine wpAny_bind (wpAny_letGo (wpAny_pure (wpAny_pure ?_)))
  refine wpAny_bind (wpAny_seqItems hTO₇ rfl ?_)
  refine wpAny_bind (wpAny_newTuple ?_)
  have hsz : h₇.objs.size = s.heap.objs.size := by rw [hs₇.1, hs₆.1, hs₅.1, hs₄.1, hs₃.1, hs₂.1, hs₁.1]
  have k7 : ∀ c o, @Ne Nat c (b + 4) → @Ne Nat c b → @Ne Nat c (b + 1) → @Ne Nat c (b + 2) → h₁.get? c = some o → h₇.get? c = some o := fun c o c2 c3 c4 c5 e =>
    hs₇.extBut _ _ c2 (hs₆.extBut _ _ c5 (hs₅.extBut _ _ c2 (hs₄.extBut _ _ c4 (hs₃.extBut _ _ c2 (hs₂.extBut _ _ c3 e)))))
  have hz₅ : IsZip h₇ (b + 5) (b + 3) (b + 4) .ellipsis := k7 _ _ (by omega) (by omega) (by omega) (by omega) hz₁
  have h1₅ : h₇.IsListIter b l1 (i + 1) := ((((h1₂.extBut hs₃.extBut (neA (by omega))).extBut hs₄.extBut (neA (by omega))).extBut hs₅.extBut (neA (by omega))).extBut hs₆.extBut (neA (by omega))).extBut hs₇.extBut (neA (by omega))
  have h2₅ : h₇.IsListIter (b + 1) l2 (i + 1) := ((h2₄.extBut hs₅.extBut (neA (by omega))).extBut hs₆.extBut (neA (by omega))).extBut hs₇.extBut (neA (by omega))
  have h3₅ : h₇.IsListIter (b + 2) l3 (i + 1) := h3₆.extBut hs₇.extBut (neA (by omega))
  have hzlt : b + 5 < h₇.objs.size := Heap.lt_size hz₅
  show wpAny _ _ (Builtin.SmallTypes.ownedTupleHandOut (.ref (b + 5)) (.ref h₇.objs.size) >>= _) _ _ _
  refine wpAny_bind ?_
  unfold Builtin.SmallTypes.ownedTupleHandOut
  have hz₆ : IsZip (h₇.push { cls := .type "tuple", data := .seq #[x, y, u] }) (b + 5) (b + 3) (b + 4) .ellipsis := Heap.get?_push_of_some _ hz₅
  refine wpAny_bind (wpAny_setField_rec hz₆ (by simp) fun h₈ hz₈ hs₈ => ?_)
  replace hz₈ : IsZip h₈ (b + 5) (b + 3) (b + 4) (rawInt h₇.objs.size) := hz₈
  refine wpAny_setField_rec hz₈ (by simp) fun h₉ hz₉ hs₉ => ?_
  replace hz₉ : IsZip h₉ (b + 5) (b + 3) (b + 4) (rawInt h₇.objs.size) := hz₉
  have up : ∀ c o, @Ne Nat c (b + 5) → h₇.get? c = some o → h₉.get? c = some o := fun c o c1 e => hs₉.extBut _ _ c1 (hs₈.extBut _ _ c1 (Heap.get?_push_of_some _ e))
  have hT₈ : IsTri h₉ h₇.objs.size x y u := hs₉.extBut _ _ (Nat.ne_of_gt hzlt) (hs₈.extBut _ _ (Nat.ne_of_gt hzlt) (Heap.get?_push_size _ rfl))
  rw [hsz] at hz₉ hT₈
  refine wpAny_pure ⟨_, rfl, ?_⟩
  show Q (.ref h₇.objs.size) _
  rw [hsz]
  exact hQ h₉ hz₉ (up _ _ (by omega) hTO₇) (h1₅.at fun o e => up _ o (by omega) e) (h2₅.at fun o e => up _ o (by omega) e) (h3₅.at fun o e => up _ o (by omega) e) hT₈ fun c o c1 c2 c3 c4 c5 e => up c o c1 (k7 c o c2 c3 c4 c5 (hs₁.extBut _ _ c1 e))
theorem zip3_end {b l1 l2 l3 : Nat} {i : Nat} {xs : Array Value} {Q : Fin → Shared → Prop} (hh : A.handled = none) (D : Z3 b l1 l2 l3)
    (hz : IsZip s.heap (b + 5) (b + 3) (b + 4) .none) (hTI : IsTri s.heap (b + 3) (.ref b) (.ref (b + 1)) (.ref (b + 2))) (h1 : s.heap.IsListIter b l1 i) (hl1 : s.heap.IsList l1 xs) (hx : xs[i]? = none)
    (hE : ∀ h' e, (∀ c o, @Ne Nat c (b + 5) → @Ne Nat c b → s.heap.get? c = some o → h'.get? c = some o) → (∃ o, h'.get? e = some o ∧ o.cls = .type "StopIteration") → E (.ref e) { s with heap := h' }) :
    wpAny (model prog w) A (Builtin.«zip.__next__» ⟨[.ref (b + 5)], []⟩) Q E s := by
  obtain ⟨p1, p2, p3⟩ := D
  show wpAny _ _ (field (.ref (b + 5)) 2 >>= _) _ _ _
  refine wpAny_bind (wpAny_field hz rfl (x := .bool false) rfl ?_)
  show wpAny _ _ (field (.ref (b + 5)) 3 >>= _) _ _ _
  refine wpAny_bind (wpAny_field hz rfl (x := .ref (b + 3)) rfl ?_)
  refine wpAny_bind (wpAny_seqItems hTI rfl ?_)
  show wpAny _ _ (Builtin.SmallTypes.ownedTupleIsFree (.ref (b + 5)) >>= _) _ _ _
  refine wpAny_bind ?_
  unfold Builtin.SmallTypes.ownedTupleIsFree
  refine wpAny_bind (wpAny_field hz rfl (x := .none) rfl (wpAny_pure ?_))
  simp only [if_true]
  refine wpAny_bind (wpAny_rule ?_)
  refine wpAny_bind (wpAny_field hz rfl (x := .ref (b + 4)) rfl ?_)
  refine wpAny_bind (wpAny_setField_rec hz (by simp) fun h₁ hz₁ hs₁ => ?_)
  replace hz₁ : IsZip h₁ (b + 5) (b + 3) (b + 4) .ellipsis := hz₁
  refine wpAny_bind ?_
  simp only [List.zipIdx_cons, List.zipIdx_nil, List.forIn_cons, List.forIn_nil]
  refine wpAny_bind (wpAny_bind (wpAny_onRaise ?_))
  show wpAny _ _ (Builtin.SmallTypes.nextOf (.ref b) >>= _) _ _ _
  refine wpAny_bind (wpAny_nextOf_list_end hh (h1.extBut hs₁.extBut (neA (by omega))) (hl1.extBut hs₁.extBut (neA (by omega))) hx fun h₂ e hs₂ he => ?_)
  obtain ⟨oe, hoe, hce⟩ := he
  have hz₂ : IsZip h₂ (b + 5) (b + 3) (b + 4) .ellipsis := hs₂ _ _ (neA (by omega)) hz₁
  have hez : e ≠ b + 5 := fun x => by subst x; rw [hz₂] at hoe; cases hoe; simp at hce
  exact wpAny_setField_rec hz₂ (by simp) fun h₃ _ hs₃ => hE h₃ e (fun c o c1 c3 x => hs₃.extBut _ _ c1 (hs₂ _ _ c3 (hs₁.extBut _ _ c1 x))) ⟨oe, hs₃.extBut _ _ hez hoe, hce⟩
theorem zip3_typeCall (a b c : Value) : checkTypeCall "zip" ⟨[a, b, c], []⟩ = pure () := by kernel_rfl
theorem zip3_newCall (a b c : Value) : checkBuiltinCall "zip.__new__" ⟨[.type "zip", a, b, c], []⟩ = pure () := by kernel_rfl
theorem zip3_init (obj a b c : Value) : argsOk "object.__init__" ⟨[obj, a, b, c], []⟩ := by
  unfold argsOk; rw [signature?_of (id := "object.__init__") (n := ['_', '_', 't', 'i', 'n', 'i', '_', '_']) (o := ['t', 'c', 'e', 'j', 'b', 'o']) (by kernel_rfl) F.owner_object]; kernel_rfl
noncomputable abbrev z3it (h : Heap) (l : Addr) : Heap := h.push { cls := .type "list_iterator", data := .fields #[.ref l, .int 0 0] }
noncomputable abbrev z3H4 (h : Heap) (l1 l2 l3 : Addr) : Heap := (z3it (z3it (z3it h l1) l2) l3).push { cls := .type "tuple", data := .seq #[.ref h.objs.size, .ref (z3it h l1).objs.size, .ref (z3it (z3it h l1) l2).objs.size] }
noncomputable abbrev z3H5 (h : Heap) (l1 l2 l3 : Addr) : Heap := (z3H4 h l1 l2 l3).push { cls := .type "tuple", data := .seq #[.none, .none, .none] }
noncomputable abbrev z3H6 (h : Heap) (l1 l2 l3 : Addr) : Heap := (z3H5 h l1 l2 l3).push { cls := .type "zip", data := .fields #[.none, .bool false, .bool false, .ref (z3it (z3it (z3it h l1) l2) l3).objs.size, .ref (z3H4 h l1 l2 l3).objs.size] }
set_option maxHeartbeats 4000000 in
theorem zip3_new (l1 l2 l3 : Addr) (xs ys zs : Array Value) :
    Meets (Builtin.«zip.__new__» ⟨[.type "zip", .ref l1, .ref l2, .ref l3], []⟩) (fun _ R s => s.heap.IsList l1 xs ∧ s.heap.IsList l2 ys ∧ s.heap.IsList l3 zs ∧
      R (.ok (.ret (.ref (z3H5 s.heap l1 l2 l3).objs.size))) { s with heap := z3H6 s.heap l1 l2 l3 }) :=
  .of_wp fun prog w A R s h => by
    obtain ⟨hp, g, d, tk, os⟩ := s; obtain ⟨hl1, hl2, hl3, h⟩ := h
    have hsub := sub_zip
    have hL1 : Heap.IsList (Shared.heap ⟨hp, g, d, tk, os⟩) l1 xs := hl1
    have hL2 : Heap.IsList (Shared.heap ⟨hp.push { cls := .type "list_iterator", data := .fields #[.ref l1, .int 0 0] }, g, d, tk, os⟩) l2 ys := Heap.IsList.push hl2 _
    have hL3 : Heap.IsList (Shared.heap ⟨(hp.push { cls := .type "list_iterator", data := .fields #[.ref l1, .int 0 0] }).push { cls := .type "list_iterator", data := .fields #[.ref l2, .int 0 0] }, g, d, tk, os⟩) l3 zs := Heap.IsList.push (Heap.IsList.push hl3 _) _
    wp_walk using wpAny_pyIter_list hL1, wpAny_pyIter_list hL2, wpAny_pyIter_list hL3
    exact ⟨_, rfl, h⟩
theorem call_zip3 {l1 l2 l3 : Addr} {xs ys zs : Array Value} {Q : Value → Shared → Prop} (hl1 : s.heap.IsList l1 xs) (hl2 : s.heap.IsList l2 ys) (hl3 : s.heap.IsList l3 zs)
    (h : ∀ h' b, b = s.heap.objs.size → IsZip h' (b + 5) (b + 3) (b + 4) .none → IsTri h' (b + 3) (.ref b) (.ref (b + 1)) (.ref (b + 2)) → IsTri h' (b + 4) .none .none .none → h'.IsListIter b l1 0 → h'.IsListIter (b + 1) l2 0 → h'.IsListIter (b + 2) l3 0 → h'.objs.size = b + 6 →
      (∀ c o, s.heap.get? c = some o → h'.get? c = some o) → Q (.ref (b + 5)) { s with heap := h' }) :
    wpAny (model prog w) A (call (.type "zip") [.ref l1, .ref l2, .ref l3]) Q E s := by
  refine callType_new F.called_zip (by decide) (zip3_typeCall _ _ _) (zip3_newCall _ _ _) (fun obj => zip3_init obj _ _ _) F.entry_zip_new (zip3_new l1 l2 l3 xs ys zs) ⟨hl1, hl2, hl3, ?_⟩
  have z1 : (z3it s.heap l1).objs.size = s.heap.objs.size + 1 := Heap.size_push ..
  have z2 : (z3it (z3it s.heap l1) l2).objs.size = s.heap.objs.size + 2 := by rw [Heap.size_push, z1]
  have z3 : (z3it (z3it (z3it s.heap l1) l2) l3).objs.size = s.heap.objs.size + 3 := by rw [Heap.size_push, z2]
  have z4 : (z3H4 s.heap l1 l2 l3).objs.size = s.heap.objs.size + 4 := by rw [Heap.size_push, z3]
  have z5 : (z3H5 s.heap l1 l2 l3).objs.size = s.heap.objs.size + 5 := by rw [Heap.size_push, z4]
  have z6 : (z3H6 s.heap l1 l2 l3).objs.size = s.heap.objs.size + 6 := by rw [Heap.size_push, z5]
  have g6 : (z3H6 s.heap l1 l2 l3).get? (z3H5 s.heap l1 l2 l3).objs.size = some _ := Heap.get?_push_size _ rfl
  have g5 : (z3H6 s.heap l1 l2 l3).get? (z3H4 s.heap l1 l2 l3).objs.size = some _ := Heap.get?_push_of_some _ (Heap.get?_push_size _ rfl)
  have g4 : (z3H6 s.heap l1 l2 l3).get? (z3it (z3it (z3it s.heap l1) l2) l3).objs.size = some _ := Heap.get?_push_of_some _ (Heap.get?_push_of_some _ (Heap.get?_push_size _ rfl))
  have g3 : (z3H6 s.heap l1 l2 l3).get? (z3it (z3it s.heap l1) l2).objs.size = some _ := Heap.get?_push_of_some _ (Heap.get?_push_of_some _ (Heap.get?_push_of_some _ (Heap.get?_push_size _ rfl)))
  have g2 : (z3H6 s.heap l1 l2 l3).get? (z3it s.heap l1).objs.size = some _ := Heap.get?_push_of_some _ (Heap.get?_push_of_some _ (Heap.get?_push_of_some _ (Heap.get?_push_of_some _ (Heap.get?_push_size _ rfl))))
  have g1 : (z3H6 s.heap l1 l2 l3).get? s.heap.objs.size = some _ := Heap.get?_push_of_some _ (Heap.get?_push_of_some _ (Heap.get?_push_of_some _ (Heap.get?_push_of_some _ (Heap.get?_push_of_some _ (Heap.get?_push_size _ rfl)))))
  show _ ∧ _
  rw [z3, z4, z5] at g6
  rw [z1, z2, z3] at g4
  rw [z4] at g5
  rw [z2] at g3
  rw [z1] at g2
  rw [z5]
  exact ⟨⟨_, g6, rfl⟩, h _ _ rfl g6 g4 g5 ⟨_, g1, rfl, rfl⟩ ⟨_, g2, rfl, rfl⟩ ⟨_, g3, rfl, rfl⟩ z6 fun c o x =>
    Heap.get?_push_of_some _ (Heap.get?_push_of_some _ (Heap.get?_push_of_some _ (Heap.get?_push_of_some _ (Heap.get?_push_of_some _ (Heap.get?_push_of_some _ x)))))⟩
theorem walks_zip3 (hh : A.handled = none) {b l1 l2 l3 : Nat} (D : Z3 b l1 l2 l3) (xs ys zs : Array Value) (hy : xs.size ≤ ys.size) (hu : xs.size ≤ zs.size) :
    WalksU prog w A (b + 5) [b + 5, b + 3, b + 4, b, b + 1, b + 2, l1, l2, l3] [b + 5, b + 4, b, b + 1, b + 2] xs.size
      (fun i vals => ∃ x y u, xs[i]? = some x ∧ ys[i]? = some y ∧ zs[i]? = some u ∧ vals = #[x, y, u])
      (fun i h => IsZip h (b + 5) (b + 3) (b + 4) .none ∧ IsTri h (b + 3) (.ref b) (.ref (b + 1)) (.ref (b + 2)) ∧ (∃ a1 a2 a3, IsTri h (b + 4) a1 a2 a3) ∧ h.IsListIter b l1 i ∧ h.IsListIter (b + 1) l2 i ∧ h.IsListIter (b + 2) l3 i ∧ h.IsList l1 xs ∧ h.IsList l2 ys ∧ h.IsList l3 zs)
      (fun i T h => IsZip h (b + 5) (b + 3) (b + 4) (rawInt T) ∧ IsTri h (b + 3) (.ref b) (.ref (b + 1)) (.ref (b + 2)) ∧ (∃ a1 a2 a3, IsTri h (b + 4) a1 a2 a3) ∧ h.IsListIter b l1 (i + 1) ∧ h.IsListIter (b + 1) l2 (i + 1) ∧ h.IsListIter (b + 2) l3 (i + 1) ∧ h.IsList l1 xs ∧ h.IsList l2 ys ∧ h.IsList l3 zs ∧ b + 5 < T) where
  sub := fun c hc => by simp at hc ⊢; rcases hc with rfl | rfl | rfl | rfl | rfl <;> simp
  frame := fun i h h' hst hk => by
    obtain ⟨hz, hTI, ⟨a1, a2, a3, hTO⟩, h1, h2, h3, hl1, hl2, hl3⟩ := hst
    exact ⟨hk _ (by simp) _ hz, hk _ (by simp) _ hTI, ⟨a1, a2, a3, hk _ (by simp) _ hTO⟩, h1.at fun o e => hk _ (by simp) o e, h2.at fun o e => hk _ (by simp) o e, h3.at fun o e => hk _ (by simp) o e,
      hl1.at fun o e => hk _ (by simp) o e, hl2.at fun o e => hk _ (by simp) o e, hl3.at fun o e => hk _ (by simp) o e⟩
  item := fun i s Q E hi hst hQ => by
    obtain ⟨hz, hTI, ⟨a1, a2, a3, hTO⟩, h1, h2, h3, hl1, hl2, hl3⟩ := hst
    obtain ⟨p1, p2, p3⟩ := id D
    have hT : s.TypeIs (.ref (b + 5)) "zip" := ⟨_, hz, rfl⟩
    unfold pyNext
    refine wpAny_bind (wpAny_attempt (wpAny_callSpecial?_slot (name := Str.ofString "__next__") hT F.slot_zip_next (wpAny_call_entry F.slot_zip_next hT F.entry_zip_next
      (zip3_item D hz hTI hTO h1 h2 h3 hl1 hl2 hl3 (Array.getElem?_eq_getElem hi) (Array.getElem?_eq_getElem (Nat.lt_of_lt_of_le hi hy)) (Array.getElem?_eq_getElem (Nat.lt_of_lt_of_le hi hu)) fun h' q1 q2 q3 q4 q5 q6 hk => wpAny_pure ?_) (F.args_zip_next_1 _))))
    exact hQ s.heap.objs.size _ h' s.toks ⟨_, _, _, Array.getElem?_eq_getElem hi, Array.getElem?_eq_getElem (Nat.lt_of_lt_of_le hi hy), Array.getElem?_eq_getElem (Nat.lt_of_lt_of_le hi hu), rfl⟩ ⟨_, q6, rfl, _, rfl⟩
      ⟨q1, hk _ _ (by omega) (by omega) (by omega) (by omega) (by omega) hTI, ⟨_, _, _, q2⟩, q3, q4, q5, hl1.at fun o e => hk _ o (by omega) (by omega) (by omega) (by omega) (by omega) e, hl2.at fun o e => hk _ o (by omega) (by omega) (by omega) (by omega) (by omega) e, hl3.at fun o e => hk _ o (by omega) (by omega) (by omega) (by omega) (by omega) e, Heap.lt_size hz⟩
      fun c o hc e => hk c o (fun x => hc (by simp [x])) (fun x => hc (by simp [x])) (fun x => hc (by simp [x])) (fun x => hc (by simp [x])) (fun x => hc (by simp [x])) e
  go := fun elts k pos i T s Q E hm hQ => by
    obtain ⟨hz, hTI, ⟨a1, a2, a3, hTO⟩, h1, h2, h3, hl1, hl2, hl3, _⟩ := hm
    obtain ⟨p1, p2, p3⟩ := id D
    refine wpAny_letOwnedTupleGo_zip hz fun h' hz' hs' => hQ h' ⟨hz', hs'.extBut _ _ (neA (by omega)) hTI, ⟨a1, a2, a3, hs'.extBut _ _ (neA (by omega)) hTO⟩, h1.extBut hs'.extBut (neA (by omega)), h2.extBut hs'.extBut (neA (by omega)), h3.extBut hs'.extBut (neA (by omega)),
      hl1.extBut hs'.extBut (neA (by omega)), hl2.extBut hs'.extBut (neA (by omega)), hl3.extBut hs'.extBut (neA (by omega))⟩ fun c o hc e => hs'.extBut _ _ (fun x => hc (by simp [x])) e
  apart := fun i T h hm hT => by
    obtain ⟨_, _, _, _, _, _, _, _, _, t1⟩ := hm
    have t1' : @LT.lt Nat _ (b + 5) T := t1
    simp only [List.mem_cons, List.not_mem_nil, or_false] at hT
    rcases hT with e | e | e | e | e <;> (have e' : @Eq Nat T _ := e; omega)
  done := fun s Q E hst hQ => by
    obtain ⟨hz, hTI, ⟨a1, a2, a3, hTO⟩, h1, h2, h3, hl1, hl2, hl3⟩ := hst
    have hT : s.TypeIs (.ref (b + 5)) "zip" := ⟨_, hz, rfl⟩
    unfold pyNext
    refine wpAny_bind (wpAny_attempt (wpAny_callSpecial?_slot (name := Str.ofString "__next__") hT F.slot_zip_next
      (wpAny_call_entry F.slot_zip_next hT F.entry_zip_next (zip3_end hh D hz hTI h1 hl1 (Array.getElem?_eq_none (Nat.le_refl _)) fun h' e hk he => ?_) (F.args_zip_next_1 _))))
    obtain ⟨o, ho, hc⟩ := he
    refine wpAny_bind (wpAny_isInstance (T := "StopIteration") (b := true) ⟨o, ho, hc⟩ isSubtype_stop ?_)
    exact wpAny_pure (hQ _ s.toks fun c o hc e => hk c o (fun x => hc (by simp [x])) (fun x => hc (by simp [x])) e)
  self := fun i s Q E hst hQ => wpAny_pyIter_zip hst.1 hQ
end
end
section
open PySem PySem.W PySem.Calls PyProof.Rows
section
variable {prog : Program} {w : World} {A : Around} {E : Value → Shared → Prop} {s : Shared} {h₀ : Heap} {L : Addr} {m : Str → Option Value} {env : Env} {scope : Scope} {cl : List (Str × Addr)} {made : List (Addr × Obj)}
theorem asg3 {env : Env} {a b c : Str} {pa pb pc tp : Pos} {kk : Nat} {T : Addr} {x y u : Value} {m : Str → Option Value} {Q : Unit → Shared → Prop} (hh : A.handled = none) (ht : s.heap.IsTuple T #[x, y, u])
    (ha : env.kindOf a = some .local) (hb : env.kindOf b = some .local) (hc : env.kindOf c = some .local) (hp : (env.scope.kind == .class || (env.scope.kind == .module && env.locals != env.globals)) = false) (hn : s.heap.Ns env.locals m)
    (h : ∀ (h' : Heap) (tk : Nat), h'.Ns env.locals (fun z => if z = c then some u else if z = b then some y else if z = a then some x else m z) → (∀ c o, c ≠ env.locals → s.heap.get? c = some o → h'.get? c = some o) → Q () { s with heap := h', toks := tk }) :
    wpAny (model prog w) A (assign (.Tuple [.Name a pa, .Name b pb, .Name c pc] kk tp) env (.ref T)) Q E s := by
  refine wpAny_assign_Tuple hh ht rfl rfl fun h₁ he₁ => ?_
  have hL : env.locals ≠ s.heap.objs.size := Nat.ne_of_lt hn.lt
  have hn₁ : h₁.Ns env.locals m := hn.at' fun o e => he₁ _ o hL e
  have up₁ : ∀ c o, s.heap.get? c = some o → h₁.get? c = some o := fun c o e => he₁ c o (Nat.ne_of_lt (Heap.lt_size e)) e
  show wpAny _ _ (assignInOrder [assign (.Name a pa) env, assign (.Name b pb) env, assign (.Name c pc) env] [x, y, u]) _ _ _
  refine assignInOrder_cons ?_
  refine wpAny_assign_Name (wpAny_storeName_local ha hn₁ (fun h₂ hn₂ hs₂ => ?_) hp)
  refine assignInOrder_cons ?_
  refine wpAny_assign_Name (wpAny_storeName_local hb hn₂ (fun h₃ hn₃ hs₃ => ?_) hp)
  refine assignInOrder_cons ?_
  refine wpAny_assign_Name (wpAny_storeName_local hc hn₃ (fun h₄ hn₄ hs₄ => ?_) hp)
  refine assignInOrder_nil ?_
  exact h h₄ _ hn₄ fun c o hc e => hs₄.extBut c o hc (hs₃.extBut c o hc (hs₂.extBut c o hc (up₁ c o e)))
/-- where a comprehension's source stands -/
structure SrcU (prog : Program) (w : World) (A : Around) (h₀ : Heap) (L : Addr) (m : Str → Option Value) (made : List (Addr × Obj)) (I : Addr) (fp wr : List Addr) (n : Nat) (Pt : Nat → Array Value → Prop) (St : Nat → Heap → Prop) (Mid : Nat → Addr → Heap → Prop) (s : Shared) : Prop where
  walk : WalksU prog w A I fp wr n Pt St Mid
  tok : @LT.lt Nat _ 0 s.toks
  st : St 0 s.heap
  low : ∀ b ∈ fp, b < s.heap.objs.size
  fr : Fr h₀ L s.heap m
  news : News h₀ L s.heap made
  obj : ∀ i h, St i h → ∀ b ∈ wr, ∃ o, h.get? b = some o
  loc : L ∉ fp
  new : ∀ b ∈ wr, h₀.get? b = none
  off : ∀ p ∈ made, p.1 ∉ wr
theorem cat2 {σ : Type} {a b : Str} {pa pb tp : Pos} {kk : Nat} {body : Env → Value → Sem Unit} {oD : σ → Obj} {c₀ : σ} {Fin : Shared → σ → List (Addr × Obj) → Prop} {J : Nat → σ → List (Addr × Obj) → Prop}
    {I : Addr} {fp wr : List Addr} {n : Nat} {Pt : Nat → Array Value → Prop} {St : Nat → Heap → Prop} {Mid : Nat → Addr → Heap → Prop} {P2 : Nat → Value → Value → Prop}
    (S : SrcU prog w A h₀ L m made I fp wr n Pt St Mid s) (h2 : ∀ i vals, Pt i vals → ∃ x y, vals = #[x, y] ∧ P2 i x y) (hab : a ≠ b)
    (hh : A.handled = none) (hkind : scope.kind = .function) (ha : scope.names.lookup a = some .local) (hb : scope.names.lookup b = some .local) (hJ : J 0 c₀ made)
    (T : StepL prog w A h₀ L m env scope cl body oD n (fun i m₂ => ∃ x y, P2 i x y ∧ m₂ a = some x ∧ m₂ b = some y) J s) (fin : ∀ c made', J n c made' → Fin s c made') :
    CAt prog w A h₀ L m env scope cl (.Tuple [.Name a pa, .Name b pb] kk tp) body oD c₀ Fin (.ref I) s := by
  refine ⟨I, fp, wr, n, _, St, _, made, J, fun i m₂ => ∃ x y, P2 i x y ∧ m₂ a = some x ∧ m₂ b = some y, rfl, Wk.tup S.walk, S.tok, S.st, S.low, S.fr, S.news, S.obj, S.loc, S.new, S.off, hJ, ⟨?_, T⟩, fin⟩
  intro i v s' C m' Q E' hP hn hQ
  obtain ⟨T', vals, rfl, hPt, hT⟩ := hP
  obtain ⟨x, y, rfl, h2'⟩ := h2 i vals hPt
  refine kcp_assign hh hT (lookup_relabel_local ha) (lookup_relabel_local hb) (by simp [compEnvC, relabel, hkind]) hn fun h' tk hn' hk => hQ h' tk _ hn' ⟨x, y, h2', ?_, by simp⟩ hk
  simp [hab]
theorem cat3 {σ : Type} {a b c : Str} {pa pb pc tp : Pos} {kk : Nat} {body : Env → Value → Sem Unit} {oD : σ → Obj} {c₀ : σ} {Fin : Shared → σ → List (Addr × Obj) → Prop} {J : Nat → σ → List (Addr × Obj) → Prop}
    {I : Addr} {fp wr : List Addr} {n : Nat} {Pt : Nat → Array Value → Prop} {St : Nat → Heap → Prop} {Mid : Nat → Addr → Heap → Prop} {P3 : Nat → Value → Value → Value → Prop}
    (S : SrcU prog w A h₀ L m made I fp wr n Pt St Mid s) (h3 : ∀ i vals, Pt i vals → ∃ x y u, vals = #[x, y, u] ∧ P3 i x y u) (hab : a ≠ b) (hac : a ≠ c) (hbc : b ≠ c)
    (hh : A.handled = none) (hkind : scope.kind = .function) (ha : scope.names.lookup a = some .local) (hb : scope.names.lookup b = some .local) (hc : scope.names.lookup c = some .local) (hJ : J 0 c₀ made)
    (T : StepL prog w A h₀ L m env scope cl body oD n (fun i m₂ => ∃ x y u, P3 i x y u ∧ m₂ a = some x ∧ m₂ b = some y ∧ m₂ c = some u) J s) (fin : ∀ c made', J n c made' → Fin s c made') :
    CAt prog w A h₀ L m env scope cl (.Tuple [.Name a pa, .Name b pb, .Name c pc] kk tp) body oD c₀ Fin (.ref I) s := by
  refine ⟨I, fp, wr, n, _, St, _, made, J, fun i m₂ => ∃ x y u, P3 i x y u ∧ m₂ a = some x ∧ m₂ b = some y ∧ m₂ c = some u, rfl, Wk.tup S.walk, S.tok, S.st, S.low, S.fr, S.news, S.obj, S.loc, S.new, S.off, hJ, ⟨?_, T⟩, fin⟩
  intro i v s' C m' Q E' hP hn hQ
  obtain ⟨T', vals, rfl, hPt, hT⟩ := hP
  obtain ⟨x, y, u, rfl, h3'⟩ := h3 i vals hPt
  refine asg3 hh hT (lookup_relabel_local ha) (lookup_relabel_local hb) (lookup_relabel_local hc) (by simp [compEnvC, relabel, hkind]) hn fun h' tk hn' hk => hQ h' tk _ hn' ⟨x, y, u, h3', ?_, ?_, by simp⟩ hk
  · simp [hab, hac]
  · simp [hbc]
theorem none_of {h : Heap} {b : Nat} (F : Fr h₀ L h m) (hb : h.objs.size ≤ b) : h₀.get? b = none := by
  cases e : h₀.get? b with
  | none => rfl
  | some o => exact absurd (Heap.lt_size (F.keep _ _ e)) (Nat.not_lt.mpr hb)
/-- zip of two lists -/
theorem src_zip2 {l1 l2 : Addr} {xs ys : Array Value} {Q : Value → Shared → Prop} (hh : A.handled = none) (F : Fr h₀ L s.heap m) (N : News h₀ L s.heap made) (h0k : @LT.lt Nat _ 0 s.toks) (hl1 : s.heap.IsList l1 xs) (hl2 : s.heap.IsList l2 ys)
    (h : ∀ I fp wr St Mid h', SrcU prog w A h₀ L m made I fp wr (min xs.size ys.size) (fun i vals => ∃ x y, xs[i]? = some x ∧ ys[i]? = some y ∧ vals = #[x, y]) St Mid { s with heap := h' } →
      wpAny (model prog w) A (pyIter (.ref I)) (fun v s' => v = .ref I ∧ s' = { s with heap := h' }) E { s with heap := h' } → Q (.ref I) { s with heap := h' }) :
    wpAny (model prog w) A (call (.type "zip") [.ref l1, .ref l2]) Q E s := by
  refine call_zip_2 hl1 hl2 fun h' q1 q2 q3 q4 q5 hsz up => ?_
  obtain ⟨b, hb⟩ : ∃ b, b = s.heap.objs.size := ⟨_, rfl⟩
  rw [← hb] at q1 q2 q3 q4 q5 hsz ⊢
  have p1 : @LT.lt Nat _ l1 b := by obtain ⟨_, e, _⟩ := hl1; rw [hb]; exact Heap.lt_size e
  have p2 : @LT.lt Nat _ l2 b := by obtain ⟨_, e, _⟩ := hl2; rw [hb]; exact Heap.lt_size e
  have hLb : @LT.lt Nat _ L b := by rw [hb]; exact F.ns.lt
  refine h (b + 4) _ _ _ _ h' ⟨(WalksT.zip2 (prog := prog) (w := w) hh (b + 4) (b + 2) (b + 3) b (b + 1) l1 l2 ⟨neA (by omega), neA (by omega), neA (by omega), neA (by omega), neA (by omega), neA (by omega), neA (by omega), neA (by omega), neA (by omega), neA (by omega), neA (by omega), neA (by omega), neA (by omega), neA (by omega), neA (by omega), neA (by omega), neA (by omega), neA (by omega)⟩ xs ys).toU,
    h0k, ⟨q1, q2, ⟨_, _, q3⟩, q4, q5, hl1.at fun o e => up _ o e, hl2.at fun o e => up _ o e⟩, ?_, Fr.mk' F up, News.mk' N up, ?_, ?_, ?_, ?_⟩ (wpAny_pyIter_zip q1 ⟨rfl, rfl⟩)
  · intro c hc
    show c < h'.objs.size
    rw [hsz]
    have : @LT.lt Nat _ c (b + 5) := by
      simp only [List.mem_cons, List.not_mem_nil, or_false] at hc
      rcases hc with e | e | e | e | e | e | e <;> (have e' : @Eq Nat c _ := e; omega)
    exact this
  · rintro i g ⟨a1, a2, ⟨_, _, a3⟩, ⟨o4, a4, _⟩, ⟨o5, a5, _⟩, _⟩ c hc
    simp only [List.mem_cons, List.not_mem_nil, or_false] at hc
    rcases hc with rfl | rfl | rfl | rfl
    · exact ⟨_, a1⟩
    · exact ⟨_, a3⟩
    · exact ⟨_, a4⟩
    · exact ⟨_, a5⟩
  · intro hm
    simp only [List.mem_cons, List.not_mem_nil, or_false] at hm
    rcases hm with e | e | e | e | e | e | e
    · have e' : @Eq Nat L _ := e; omega
    · have e' : @Eq Nat L _ := e; omega
    · have e' : @Eq Nat L _ := e; omega
    · have e' : @Eq Nat L _ := e; omega
    · have e' : @Eq Nat L _ := e; omega
    · exact list_ne F hl1 e
    · exact list_ne F hl2 e
  · intro c hc
    refine none_of F ?_
    rw [← hb]
    simp only [List.mem_cons, List.not_mem_nil, or_false] at hc
    rcases hc with e | e | e | e <;> (have e' : @Eq Nat c _ := e; show b ≤ c; omega)
  · intro p hp hc
    have hlt : @LT.lt Nat _ p.1 b := by rw [hb]; exact Heap.lt_size (N p hp).1
    simp only [List.mem_cons, List.not_mem_nil, or_false] at hc
    rcases hc with e | e | e | e <;> (have e' : @Eq Nat p.1 _ := e; omega)
theorem src_zip3 {l1 l2 l3 : Addr} {xs ys zs : Array Value} {Q : Value → Shared → Prop} (hh : A.handled = none) (F : Fr h₀ L s.heap m) (N : News h₀ L s.heap made) (h0k : @LT.lt Nat _ 0 s.toks) (hl1 : s.heap.IsList l1 xs) (hl2 : s.heap.IsList l2 ys) (hl3 : s.heap.IsList l3 zs) (hy : xs.size ≤ ys.size) (hu : xs.size ≤ zs.size)
    (h : ∀ I fp wr St Mid h', SrcU prog w A h₀ L m made I fp wr xs.size (fun i vals => ∃ x y u, xs[i]? = some x ∧ ys[i]? = some y ∧ zs[i]? = some u ∧ vals = #[x, y, u]) St Mid { s with heap := h' } →
      wpAny (model prog w) A (pyIter (.ref I)) (fun v s' => v = .ref I ∧ s' = { s with heap := h' }) E { s with heap := h' } → Q (.ref I) { s with heap := h' }) :
    wpAny (model prog w) A (call (.type "zip") [.ref l1, .ref l2, .ref l3]) Q E s := by
  refine call_zip3 hl1 hl2 hl3 fun h' b hb q1 q2 q3 q4 q5 q6 hsz up => ?_
  have p1 : @LT.lt Nat _ l1 b := by obtain ⟨_, e, _⟩ := hl1; rw [hb]; exact Heap.lt_size e
  have p2 : @LT.lt Nat _ l2 b := by obtain ⟨_, e, _⟩ := hl2; rw [hb]; exact Heap.lt_size e
  have p3 : @LT.lt Nat _ l3 b := by obtain ⟨_, e, _⟩ := hl3; rw [hb]; exact Heap.lt_size e
  have hLb : @LT.lt Nat _ L b := by rw [hb]; exact F.ns.lt
  refine h (b + 5) _ _ _ _ h' ⟨walks_zip3 (prog := prog) (w := w) hh ⟨p1, p2, p3⟩ xs ys zs hy hu,
    h0k, ⟨q1, q2, ⟨_, _, _, q3⟩, q4, q5, q6, hl1.at fun o e => up _ o e, hl2.at fun o e => up _ o e, hl3.at fun o e => up _ o e⟩, ?_, Fr.mk' F up, News.mk' N up, ?_, ?_, ?_, ?_⟩ (wpAny_pyIter_zip q1 ⟨rfl, rfl⟩)
  · intro c hc
    show c < h'.objs.size
    rw [hsz]
    have : @LT.lt Nat _ c (b + 6) := by
      simp only [List.mem_cons, List.not_mem_nil, or_false] at hc
      rcases hc with e | e | e | e | e | e | e | e | e <;> (have e' : @Eq Nat c _ := e; omega)
    exact this
  · rintro i g ⟨a1, a2, ⟨_, _, _, a3⟩, ⟨o4, a4, _⟩, ⟨o5, a5, _⟩, ⟨o6, a6, _⟩, _⟩ c hc
    simp only [List.mem_cons, List.not_mem_nil, or_false] at hc
    rcases hc with rfl | rfl | rfl | rfl | rfl
    · exact ⟨_, a1⟩
    · exact ⟨_, a3⟩
    · exact ⟨_, a4⟩
    · exact ⟨_, a5⟩
    · exact ⟨_, a6⟩
  · intro hm
    simp only [List.mem_cons, List.not_mem_nil, or_false] at hm
    rcases hm with e | e | e | e | e | e | e | e | e
    · have e' : @Eq Nat L _ := e; omega
    · have e' : @Eq Nat L _ := e; omega
    · have e' : @Eq Nat L _ := e; omega
    · have e' : @Eq Nat L _ := e; omega
    · have e' : @Eq Nat L _ := e; omega
    · have e' : @Eq Nat L _ := e; omega
    · exact list_ne F hl1 e
    · exact list_ne F hl2 e
    · exact list_ne F hl3 e
  · intro c hc
    refine none_of F ?_
    rw [← hb]
    simp only [List.mem_cons, List.not_mem_nil, or_false] at hc
    rcases hc with e | e | e | e | e <;> (have e' : @Eq Nat c _ := e; show b ≤ c; omega)
  · intro p hp hc
    have hlt : @LT.lt Nat _ p.1 b := by rw [hb]; exact Heap.lt_size (N p hp).1
    simp only [List.mem_cons, List.not_mem_nil, or_false] at hc
    rcases hc with e | e | e | e | e <;> (have e' : @Eq Nat p.1 _ := e; omega)
end
end
section
open PySem PySem.W PySem.Calls PyProof.Rows
section
variable {prog : Program} {w : World} {A : Around} {E : Value → Shared → Prop} {s : Shared} {h₀ : Heap} {L C D : Addr} {oC : Obj} {m m₂ : Str → Option Value} {made new rest : List (Addr × Obj)} {K : Type} [DecidableEq K] {knd : KeyKind prog w K} {s₀ : Shared}
noncomputable abbrev oDict (c : Array DictEntry × Nat) : Obj := { cls := .type "dict", data := .dict c.1 c.2 }
structure DC (knd : KeyKind prog w K) (c : Array DictEntry × Nat) (kvs : List (K × Value)) : Prop where
  keys : KeysOf knd c.1
  pairs : Pairs knd c.1.toList kvs
  nodup : (kvs.map (·.1)).Nodup
theorem DC.dictOf {c : Array DictEntry × Nat} {kvs : List (K × Value)} (x : DC knd c kvs) {h : Heap} {d : Addr} (e : h.get? d = some (oDict c)) : h.DictOf knd d kvs := ⟨_, c.1, c.2, e, ⟨rfl, rfl, rfl⟩, rfl, x.keys, x.pairs, x.nodup⟩
theorem DC.nil : DC knd (#[], 0) [] := ⟨fun _ h => by simp at h, .nil, List.nodup_nil⟩
theorem dc_of {h : Heap} {d : Addr} {kvs : List (K × Value)} (x : h.DictOf knd d kvs) : ∃ c, h.get? d = some (oDict c) ∧ DC knd c kvs := by
  obtain ⟨⟨cls, dct, dt, sl⟩, es, ep, ho, ⟨h1, h2, h3⟩, hd, hk, hp, hn⟩ := x
  simp only at h1 h2 h3 hd
  subst h1 h2 h3 hd
  exact ⟨(es, ep), ho, hk, hp, hn⟩
/-- the first n keys are stored -/
noncomputable def DJ (knd : KeyKind prog w K) (key : Nat → K) (Val : Nat → Value → Prop) (i : Nat) (c : Array DictEntry × Nat) : Prop := ∃ kvs, DC knd c kvs ∧ kvs.length = i ∧ ∀ j, j < i → ∃ v, kvs[j]? = some (key j, v) ∧ Val j v
theorem DJ.nil {key : Nat → K} {Val : Nat → Value → Prop} : DJ knd key Val 0 (#[], 0) := ⟨[], .nil, rfl, fun _ h => absurd h (Nat.not_lt_zero _)⟩
theorem valueAt_nodup {kvs : List (K × Value)} (hn : (kvs.map (·.1)).Nodup) {j : Nat} {k : K} {v : Value} (h : kvs[j]? = some (k, v)) : valueAt kvs k = some v := by
  induction kvs generalizing j with
  | nil => simp at h
  | cons p kvs ih =>
    rw [List.map_cons, List.nodup_cons] at hn
    unfold valueAt
    cases j with
    | zero =>
      simp at h
      subst h
      simp
    | succ j =>
      have h' : kvs[j]? = some (k, v) := by simpa using h
      have hne : ¬ p.1 = k := fun e => hn.1 (by rw [e]; exact List.mem_map.mpr ⟨(k, v), List.mem_of_getElem? h', rfl⟩)
      rw [List.find?_cons_of_neg (by simpa using hne)]
      exact ih hn.2 h'
theorem DJ.get {key : Nat → K} {Val : Nat → Value → Prop} {i : Nat} {c : Array DictEntry × Nat} (x : DJ knd key Val i c) {h : Heap} {d : Addr} (e : h.get? d = some (oDict c)) : ∃ f, h.MapOf knd d f ∧ ∀ j, j < i → ∃ v, f (key j) = some v ∧ Val j v := by
  obtain ⟨kvs, hd, _, hv⟩ := x
  refine ⟨_, (hd.dictOf e).mapOf, fun j hj => ?_⟩
  obtain ⟨v, h1, h2⟩ := hv j hj
  exact ⟨v, valueAt_nodup hd.nodup h1, h2⟩
/-- what the key's and the value's run leaves -/
noncomputable def KvEnd (h₀ : Heap) (L : Addr) (m : Str → Option Value) (C : Addr) (oC : Obj) (D : Addr) (oD : Obj) (rest made : List (Addr × Obj)) (Ok : Value → Value → List (Addr × Obj) → Prop) (s₀ : Shared) (kv vv : Value) (s₂ : Shared) : Prop :=
  ∃ h' tk new, s₂ = { s₀ with heap := h', toks := tk } ∧ @LT.lt Nat _ 0 tk ∧ Fr h₀ L h' m ∧ News h₀ L h' (new ++ (C, oC) :: (D, oD) :: rest) ∧ (∀ p ∈ new, ∀ q ∈ (C, oC) :: (D, oD) :: rest, p.1 ≠ q.1) ∧ Ok kv vv (new ++ made)
theorem body_dict {kx vx : Expr} {cenv : Env} {c : Array DictEntry × Nat} {key : Nat → K} {Val : Nat → Value → Prop} {i : Nat} {B : List (Addr × Obj) → Prop} (hx : DJ knd key Val i c) (hi : i < 1000) (hinj : ∀ j, j < i → key j ≠ key i)
    (hCD : C ≠ D) (ho : ∀ p ∈ rest, p.1 ≠ C ∧ p.1 ≠ D) (hoC : LCg.NsObj oC m₂)
    (h : wpAny (model prog w) A (eval kx cenv) (fun kv s₁ => wpAny (model prog w) A (eval vx cenv) (KvEnd h₀ L m C oC D (oDict c) rest made (fun kv vv nw => knd.is (key i) kv = true ∧ Val i vv ∧ B nw) s₀ kv) (fun _ _ => False) s₁) (fun _ _ => False) s) :
    wpAny (model prog w) A (bodyD kx vx cenv (.ref D)) (CEnd h₀ L m C D oDict rest made (fun c nw => DJ knd key Val (i + 1) c ∧ B nw) s₀) (fun _ _ => False) s := by
  refine wpAny_bind (wpAny_mono h (fun kv s₁ h₁ => wpAny_bind (wpAny_holding (wpAny_mono h₁ (fun vv s₂ h₂ => ?_) fun _ _ x => x))) fun _ _ x => x)
  obtain ⟨h', tk, new, rfl, hk, F, N, off, hkey, hval, hB⟩ := h₂
  obtain ⟨kvs, hd, hlen, hv⟩ := hx
  have zD := N (D, oDict c) (List.mem_append.mpr (.inr (List.mem_cons_of_mem _ List.mem_cons_self)))
  refine wpAny_bind (wpAny_standAt (wpAny_holding (wpAny_dictSet_pairs hkey (hd.dictOf zD.1) (fun h₅ hd₅ hs₅ => ?_) (by rw [hlen, sizeLine_eq]; omega))))
  have habs : valueAt kvs (key i) = none := by
    unfold valueAt
    rw [List.find?_eq_none.mpr]; rfl
    intro p hp
    obtain ⟨j, hj, rfl⟩ := List.mem_iff_getElem.mp hp
    obtain ⟨v, h1, _⟩ := hv j (by omega)
    rw [List.getElem?_eq_getElem hj] at h1
    have := Option.some.inj h1
    rw [this]
    simpa using hinj j (by omega)
  rw [stored_absent habs] at hd₅
  obtain ⟨c', hc', hdc⟩ := dc_of hd₅
  have keep : ∀ p ∈ new ++ (C, oC) :: (D, oDict c) :: rest, p.1 ≠ D → h₅.get? p.1 = some p.2 ∧ p.1 ≠ L ∧ h₀.get? p.1 = none := fun p hp hne => ⟨hs₅.extBut _ _ hne (N p hp).1, (N p hp).2⟩
  refine ⟨h₅, _, new, c', oC, m₂, rfl, Nat.succ_pos _, F.change hs₅ zD.2.1 zD.2.2, hoC, fun p hp => ?_, fun p hp q hq => ?_, ⟨kvs ++ [(key i, vv)], hdc, by rw [List.length_append, hlen]; rfl, fun j hj => ?_⟩, hB⟩
  · rcases List.mem_append.mp hp with hp | hp
    · exact keep p (List.mem_append.mpr (.inl hp)) (off p hp _ (List.mem_cons_of_mem _ List.mem_cons_self))
    · rcases List.mem_cons.mp hp with rfl | hp
      · exact keep _ (List.mem_append.mpr (.inr List.mem_cons_self)) hCD
      · rcases List.mem_cons.mp hp with rfl | hp
        · exact ⟨hc', zD.2⟩
        · exact keep p (List.mem_append.mpr (.inr (List.mem_cons_of_mem _ (List.mem_cons_of_mem _ hp)))) (ho p hp).2
  · rcases List.mem_cons.mp hq with rfl | hq
    · exact off p hp (C, oC) List.mem_cons_self
    · rcases List.mem_cons.mp hq with rfl | hq
      · exact off p hp (D, oDict c) (List.mem_cons_of_mem _ List.mem_cons_self)
      · exact off p hp _ (List.mem_cons_of_mem _ (List.mem_cons_of_mem _ hq))
  · by_cases hji : j < i
    · obtain ⟨v, h1, h2⟩ := hv j hji
      exact ⟨v, by rw [List.getElem?_append_left (by omega)]; exact h1, h2⟩
    · obtain rfl : j = i := by omega
      exact ⟨vv, by rw [List.getElem?_append_right (by omega), hlen]; simp, hval⟩
theorem newDictOk (Q' : Value → Shared → Prop) (E' : Value → Shared → Prop) (s : Shared) (h : Q' (.ref s.heap.objs.size) { s with heap := s.heap.push (oDict (#[], 0)) }) : wpAny (model prog w) A newDict Q' E' s := wpAny_newObj_type h
/-- enumerate of a list -/
theorem src_enum {l : Addr} {xs : Array Value} {Q : Value → Shared → Prop} (hh : A.handled = none) (F : Fr h₀ L s.heap m) (N : News h₀ L s.heap made) (h0k : @LT.lt Nat _ 0 s.toks) (hl : s.heap.IsList l xs)
    (h : ∀ I fp wr St Mid h', SrcU prog w A h₀ L m made I fp wr xs.size (fun i vals => ∃ t x, xs[i]? = some x ∧ vals = #[.int i t, x]) St Mid { s with heap := h' } →
      wpAny (model prog w) A (pyIter (.ref I)) (fun v s' => v = .ref I ∧ s' = { s with heap := h' }) E { s with heap := h' } → Q (.ref I) { s with heap := h' }) :
    wpAny (model prog w) A (call (.type "enumerate") [.ref l]) Q E s := by
  refine call_enumerate_list hl fun h' q1 q2 hsz up => ?_
  obtain ⟨b, hb⟩ : ∃ b, b = s.heap.objs.size := ⟨_, rfl⟩
  rw [← hb] at q1 q2 hsz ⊢
  have p1 : @LT.lt Nat _ l b := by obtain ⟨_, e, _⟩ := hl; rw [hb]; exact Heap.lt_size e
  have hLb : @LT.lt Nat _ L b := by rw [hb]; exact F.ns.lt
  have W := WalksT.enumerate (prog := prog) (w := w) hh (b + 1) b l (neA (by omega)) (neA (by omega)) (neA (by omega)) xs
  have st : (∃ old, IsEnum h' (b + 1) b (0 : Nat) old) ∧ h'.IsListIter b l 0 ∧ h'.IsList l xs := ⟨⟨_, q1⟩, q2, hl.at fun o e => up _ o e⟩
  refine h (b + 1) _ _ _ _ h' ⟨W.toU, h0k, st, ?_, Fr.mk' F up, News.mk' N up, ?_, ?_, ?_, ?_⟩ (W.self 0 _ _ _ st ⟨rfl, rfl⟩)
  · intro c hc
    show c < h'.objs.size
    rw [hsz]
    have : @LT.lt Nat _ c (b + 2) := by
      simp only [List.mem_cons, List.not_mem_nil, or_false] at hc
      rcases hc with e | e | e <;> (have e' : @Eq Nat c _ := e; omega)
    exact this
  · rintro i g ⟨⟨_, a1⟩, ⟨o4, a4, _⟩, _⟩ c hc
    simp only [List.mem_cons, List.not_mem_nil, or_false] at hc
    rcases hc with rfl | rfl
    · exact ⟨_, a1⟩
    · exact ⟨_, a4⟩
  · intro hm
    simp only [List.mem_cons, List.not_mem_nil, or_false] at hm
    rcases hm with e | e | e
    · have e' : @Eq Nat L _ := e; omega
    · have e' : @Eq Nat L _ := e; omega
    · exact list_ne F hl e
  · intro c hc
    refine none_of F ?_
    rw [← hb]
    simp only [List.mem_cons, List.not_mem_nil, or_false] at hc
    rcases hc with e | e <;> (have e' : @Eq Nat c _ := e; show b ≤ c; omega)
  · intro p hp hc
    have hlt : @LT.lt Nat _ p.1 b := by rw [hb]; exact Heap.lt_size (N p hp).1
    simp only [List.mem_cons, List.not_mem_nil, or_false] at hc
    rcases hc with e | e <;> (have e' : @Eq Nat p.1 _ := e; omega)
theorem dictAt_keeps {h h' : Heap} {d : Addr} {kvs : List (K × Value)} {ep : Nat} (x : h.DictAt knd d kvs ep) (k : ∀ o, h.get? d = some o → h'.get? d = some o) : h'.DictAt knd d kvs ep :=
  let ⟨o, es, e, r⟩ := x; ⟨o, es, k _ e, r⟩
theorem walks_items (hh : A.handled = none) {it d : Addr} (hne : d ≠ it) (kvs : List (K × Value)) (ep : Nat) :
    WalksU prog w A it [it, d] [it] kvs.length (fun i vals => ∃ k v key, kvs[i]? = some (k, v) ∧ knd.is k key = true ∧ vals = #[key, v])
      (fun i h => (∃ ok ov, IsItemIter h it d i kvs.length ep ok ov) ∧ h.DictAt knd d kvs ep)
      (fun i T h => (∃ ok ov, IsItemIterOut h it d (i + 1) kvs.length ep ok ov T) ∧ h.DictAt knd d kvs ep ∧ T ≠ it) where
  sub := fun b hb => by simp at hb; simp [hb]
  frame := fun i h h' hst hk => by
    obtain ⟨⟨ok, ov, h1⟩, h2⟩ := hst
    exact ⟨⟨ok, ov, hk it (by simp) _ h1⟩, dictAt_keeps h2 fun o e => hk d (by simp) o e⟩
  item := fun i s Q E hi hst hQ => by
    obtain ⟨⟨ok, ov, h1⟩, h2⟩ := hst
    refine wpAny_pyNext_items_item h1 h2 (k := kvs[i].1) (v := kvs[i].2) (List.getElem?_eq_getElem hi) fun key h' q1 q2 q3 q4 q5 => ?_
    exact hQ s.heap.objs.size _ h' s.toks ⟨_, _, key, List.getElem?_eq_getElem hi, q1, rfl⟩ ⟨_, q3, rfl, _, rfl⟩ ⟨⟨_, _, q2⟩, dictAt_keeps h2 fun o e => q5 d o hne e, Nat.ne_of_gt (Heap.lt_size h1)⟩ fun b o hb e => q5 b o (fun x => hb (by simp [x])) e
  go := fun elts k pos i T s Q E hm hQ => by
    obtain ⟨⟨ok, ov, h1⟩, h2, h3⟩ := hm
    exact wpAny_letOwnedTupleGo_items h1 fun h' h1' hs' => hQ h' ⟨⟨ok, ov, h1'⟩, dictAt_keeps h2 fun o e => hs'.extBut d o hne e⟩ fun b o hb e => hs'.extBut b o (fun x => hb (by simp [x])) e
  apart := fun i T h hm hT => hm.2.2 (List.mem_singleton.mp hT)
  done := fun s Q E hst hQ => by
    obtain ⟨⟨ok, ov, h1⟩, h2⟩ := hst
    exact wpAny_pyNext_items_end hh h1 h2 (by simp) fun h' he' => hQ h' s.toks fun b o hb e => he' b o (fun x => hb (by simp [x])) e
  self := fun i s Q E hst hQ => by
    obtain ⟨⟨ok, ov, h1⟩, h2⟩ := hst
    exact kcp_self h1 hQ
/-- a dict's items -/
theorem src_items {v d : Addr} {kvs : List (K × Value)} {ep : Nat} {Q : Value → Shared → Prop} (hh : A.handled = none) (F : Fr h₀ L s.heap m) (N : News h₀ L s.heap made) (h0k : @LT.lt Nat _ 0 s.toks) (hv : s.heap.IsItemsView v d) (hd : s.heap.DictAt knd d kvs ep) (hdL : L ≠ d)
    (h : ∀ I fp wr St Mid h', SrcU prog w A h₀ L m made I fp wr kvs.length (fun i vals => ∃ k v key, kvs[i]? = some (k, v) ∧ knd.is k key = true ∧ vals = #[key, v]) St Mid { s with heap := h' } → Q (.ref I) { s with heap := h' }) :
    wpAny (model prog w) A (pyIter (.ref v)) Q E s := by
  refine wpAny_pyIter_items hv hd ?_
  have up : ∀ b o, s.heap.get? b = some o → (s.heap.push { cls := .type "dict_itemiterator", data := .fields #[.none, .bool false, .ref d, .int 0 0, .int kvs.length 0, .int ep 0, .none, .none] }).get? b = some o := fun b o e => Heap.get?_push_of_some _ e
  have hlt : d < s.heap.objs.size := by obtain ⟨_, _, e, _⟩ := hd; exact Heap.lt_size e
  refine h s.heap.objs.size _ _ _ _ _ ⟨walks_items (knd := knd) hh (Nat.ne_of_lt hlt) kvs ep, h0k, ⟨⟨_, _, Heap.get?_push_size _ rfl⟩, dictAt_keeps hd fun o e => up _ o e⟩, ?_, Fr.mk' F up, News.mk' N up, ?_, ?_, ?_, ?_⟩
  · intro b hb
    show b < (s.heap.push _).objs.size
    rw [Heap.size_push]
    rcases List.mem_cons.mp hb with rfl | hb
    · exact Nat.lt_succ_self _
    · rw [List.mem_singleton.mp hb]; exact Nat.lt_succ_of_lt hlt
  · rintro i g ⟨⟨_, _, a1⟩, _⟩ b hb
    rw [List.mem_singleton.mp hb]
    exact ⟨_, a1⟩
  · intro hm
    rcases List.mem_cons.mp hm with e | hm
    · exact absurd F.ns.lt (e ▸ Nat.lt_irrefl _)
    · exact hdL (List.mem_singleton.mp hm)
  · intro b hb
    rw [List.mem_singleton.mp hb]
    exact next_is_new F
  · intro p hp hm
    exact absurd (Heap.lt_size (N p hp).1) ((List.mem_singleton.mp hm) ▸ Nat.lt_irrefl _)
end
end
section
open PySem PySem.W PySem.Calls PyProof.Rows
/-- the operators' table as it stands: the operator's place, its key's token, its number's token -/
noncomputable def exL : List (Nat × Nat × Nat) := [(47, 398, 394), (21, 400, 342), (17, 402, 334), (33, 404, 366), (12, 406, 324), (34, 408, 368), (0, 410, 300), (1, 412, 302), (9, 414, 318), (28, 416, 356), (39, 418, 378), (31, 420, 362), (7, 422, 314), (29, 424, 358), (5, 426, 310), (8, 428, 316), (30, 430, 360), (44, 432, 388), (16, 434, 332), (45, 436, 390), (10, 438, 320), (40, 440, 380), (41, 442, 382), (32, 444, 364), (4, 446, 308), (46, 448, 392), (6, 450, 312), (13, 452, 326), (26, 454, 352), (37, 456, 374), (22, 458, 344), (15, 460, 330), (20, 462, 340), (14, 464, 328), (23, 466, 346), (27, 467, 354), (38, 468, 376), (42, 469, 384), (43, 470, 386), (2, 471, 304), (3, 472, 306), (25, 473, 350), (36, 474, 372), (18, 475, 336), (11, 476, 322), (35, 477, 370), (19, 478, 338), (24, 479, 348)]
noncomputable def opAt (i : Nat) : Str := opsL.getD i (Str.ofString "")
noncomputable def numI (i : Nat) : Int := 7 + (i : Int)
noncomputable def exEs (P : Params) : List DictEntry := exL.map fun p => ⟨PyData.keyHash P (opAt p.1), .str (opAt p.1) p.2.1, .int (numI p.1) p.2.2⟩
noncomputable def exKvs : List (Str × Value) := exL.map fun p => (opAt p.1, .int (numI p.1) p.2.2)
theorem opAt_get {i : Nat} {x : Str} (h : opsL[i]? = some x) : opAt i = x := by unfold opAt; rw [List.getD_eq_getElem?_getD, h]; rfl
theorem get_opAt {i : Nat} (h : i < 48) : opsL[i]? = some (opAt i) := by unfold opAt; rw [List.getD_eq_getElem?_getD, List.getElem?_eq_getElem (by rw [opsL_len]; exact h)]; rfl
theorem ex_nodup : (exKvs.map (·.1)).Nodup := by
  have : exKvs.map (·.1) = exL.map fun p => opAt p.1 := by unfold exKvs; rw [List.map_map]; rfl
  rw [this]
  decide +kernel
theorem ex_all : ∀ i, i < 48 → ∃ j, j < 48 ∧ (exL.getD j (0, 0, 0)).1 = i := by decide +kernel
theorem ex_inj : ∀ i, i < 48 → ∀ j, j < i → (exL.getD j (0, 0, 0)).1 ≠ (exL.getD i (0, 0, 0)).1 := by decide +kernel
theorem exL_len : exL.length = 48 := rfl
theorem exL_get {j : Nat} (h : j < 48) : exL[j]? = some (exL.getD j (0, 0, 0)) := by rw [List.getD_eq_getElem?_getD, List.getElem?_eq_getElem (by rw [exL_len]; exact h)]; rfl
theorem exKvs_get {j : Nat} (h : j < 48) : exKvs[j]? = some (opAt (exL.getD j (0, 0, 0)).1, .int (numI (exL.getD j (0, 0, 0)).1) (exL.getD j (0, 0, 0)).2.2) := by
  unfold exKvs; rw [List.getElem?_map, exL_get h]; rfl
theorem exKvs_len : exKvs.length = 48 := rfl
theorem ex_val {i : Nat} {x : Str} (h : opsL[i]? = some x) : ∃ t, valueAt exKvs x = some (.int (numI i) t) := by
  have hi : i < 48 := by have := (List.getElem?_eq_some_iff.mp h).1; rw [opsL_len] at this; exact this
  obtain ⟨j, hj, e⟩ := ex_all i hi
  have := exKvs_get hj
  rw [e] at this
  rw [← opAt_get h]
  exact ⟨_, valueAt_nodup ex_nodup this⟩
theorem ex_pairs {prog : Program} {w : World} {P : Params} : ∀ l : List (Nat × Nat × Nat), Pairs (strKind prog w) (l.map fun p => ⟨PyData.keyHash P (opAt p.1), .str (opAt p.1) p.2.1, .int (numI p.1) p.2.2⟩) (l.map fun p => (opAt p.1, .int (numI p.1) p.2.2))
  | [] => .nil
  | _ :: l => .cons (strKind_is _ _ _ _) rfl (ex_pairs l)
theorem ex_obj : ∀ {w : World} {s : Shared} {mean : ExcName → Option Value} {mg mb : Str → Option Value}, (KK w).In s.heap → TT mean mg mb s.heap → PP = PP → s.heap.get? 64 = some ⟨.type "dict", none, .dict (exEs w.params).toArray 48, #[]⟩ := by
  unfold KK TT PP
  k_fill
  intro w s mean mg mb X T _
  have e := X 64 _ (by k_is)
  exact e
theorem ex_at {w : World} {s : Shared} {mean : ExcName → Option Value} {mg mb : Str → Option Value} (X : (KK w).In s.heap) (T : TT mean mg mb s.heap) : s.heap.DictAt (strKind PP w) 64 exKvs 48 := by
  refine ⟨_, (exEs w.params).toArray, ex_obj X T rfl, ⟨rfl, rfl, rfl⟩, rfl, fun e he => ?_, ?_, ex_nodup⟩
  · have he' : e ∈ exEs w.params := by simpa using he
    obtain ⟨p, _, rfl⟩ := List.mem_map.mp he'
    exact ⟨_, strKind_is _ _ _ _, rfl⟩
  · exact ex_pairs exL
end
section
open PySem PySem.W PySem.Calls PyProof.Rows
/-- one symbol read -/
noncomputable def readStep (rows : List (List D)) (n : Nat) : List (List D) :=
  if n = 0 then rows.take (rows.length - 2) ++ [rows.getD (rows.length - 2) [] ++ [.list (rows.getD (rows.length - 1) [])]]
  else if n < 256 then rows.take (rows.length - 1) ++ [rows.getD (rows.length - 1) [] ++ [.str (n - 7)]]
  else rows ++ [[.int (n : Int)]]
structure OkStep (rows : List (List D)) (n : Nat) : Prop where
  two : n = 0 → 2 ≤ rows.length
  one : n ≠ 0 → n < 256 → 1 ≤ rows.length ∧ 7 ≤ n ∧ n < 55
  low : n < 512
noncomputable def OkRun : List (List D) → List Nat → Prop
  | _, [] => True
  | rows, n :: ns => OkStep rows n ∧ OkRun (readStep rows n) ns
noncomputable def rowN (t : D) : List Nat := (rowF numI 0 t).map Int.toNat
noncomputable def rowNL (ks : List D) : List Nat := (rowL numI 0 ks).map Int.toNat
theorem step_end (rs : List (List D)) (r q : List D) : readStep (rs ++ [r] ++ [q]) 0 = rs ++ [r ++ [.list q]] := by
  unfold readStep
  have e1 : (rs ++ [r] ++ [q]).length = rs.length + 2 := by simp
  rw [if_pos rfl, e1]
  simp [List.getD_eq_getElem?_getD]
theorem step_leaf (rs : List (List D)) (r : List D) (i : Nat) (h : i < 48) : readStep (rs ++ [r]) (7 + i) = rs ++ [r ++ [.str i]] := by
  unfold readStep
  rw [if_neg (by omega), if_pos (by omega)]
  simp [List.getD_eq_getElem?_getD]
theorem step_node (rows : List (List D)) (n : Nat) (h : 256 ≤ n) : readStep rows n = rows ++ [[.int (n : Int)]] := by
  unfold readStep
  rw [if_neg (by omega), if_neg (by omega)]
mutual
theorem run_tree : ∀ (t : D), wfT t = true → ∀ (rs : List (List D)) (r : List D) (rest : List Nat), (OkRun (rs ++ [r ++ [t]]) rest → OkRun (rs ++ [r]) (rowN t ++ rest)) ∧ (rowN t ++ rest).foldl readStep (rs ++ [r]) = rest.foldl readStep (rs ++ [r ++ [t]])
  | .int _, hw, _, _, _ => by simp [wfT] at hw
  | .str i, hw, rs, r, rest => by
    simp [wfT] at hw
    have e : rowN (.str i) = [7 + i] := by unfold rowN rowF numI; simp; omega
    rw [e, List.cons_append, List.nil_append, List.foldl_cons, step_leaf rs r i hw]
    refine ⟨fun h => ⟨⟨fun h0 => by omega, fun _ _ => ⟨by simp, by omega, by omega⟩, by omega⟩, ?_⟩, rfl⟩
    rw [step_leaf rs r i hw]; exact h
  | .list (.int n :: ks), hw, rs, r, rest => by
    simp only [wfT, wfN, Bool.and_eq_true, decide_eq_true_eq] at hw
    obtain ⟨⟨h1, h2⟩, h3⟩ := hw
    obtain ⟨k, rfl⟩ : ∃ k : Nat, n = (k : Int) := ⟨n.toNat, by omega⟩
    have e : rowN (.list (.int (k : Int) :: ks)) ++ rest = k :: (rowNL ks ++ (0 :: rest)) := by
      unfold rowN rowNL rowF hdI rowT; simp
    obtain ⟨a, b⟩ := run_list ks h3 (rs ++ [r]) [.int (k : Int)] (0 :: rest)
    rw [e, List.foldl_cons, step_node _ k (by omega), b, List.foldl_cons, step_end]
    refine ⟨fun h => ⟨⟨fun h0 => by omega, fun _ h0 => by omega, by omega⟩, ?_⟩, rfl⟩
    rw [step_node _ k (by omega)]
    refine a ⟨⟨fun _ => by simp, fun h0 => absurd rfl h0, by omega⟩, ?_⟩
    rw [step_end]; exact h
  | .list [], hw, _, _, _ => by simp [wfT, wfN] at hw
  | .list (.str _ :: _), hw, _, _, _ => by simp [wfT, wfN] at hw
  | .list (.list _ :: _), hw, _, _, _ => by simp [wfT, wfN] at hw
theorem run_list : ∀ (ks : List D), wfL ks = true → ∀ (rs : List (List D)) (r : List D) (rest : List Nat), (OkRun (rs ++ [r ++ ks]) rest → OkRun (rs ++ [r]) (rowNL ks ++ rest)) ∧ (rowNL ks ++ rest).foldl readStep (rs ++ [r]) = rest.foldl readStep (rs ++ [r ++ ks])
  | [], _, rs, r, rest => by simp [rowNL, rowL]
  | d :: ks, hw, rs, r, rest => by
    simp only [wfL, Bool.and_eq_true] at hw
    have e : rowNL (d :: ks) ++ rest = rowN d ++ (rowNL ks ++ rest) := by unfold rowNL rowN; rw [rowL]; simp
    obtain ⟨a, b⟩ := run_tree d hw.1 rs r (rowNL ks ++ rest)
    obtain ⟨a', b'⟩ := run_list ks hw.2 rs (r ++ [d]) rest
    rw [e, b, b', List.append_assoc]
    exact ⟨fun h => a (a' (by rw [List.append_assoc]; exact h)), rfl⟩
end
theorem read_tree {t : D} (h : wfT t = true) : OkRun [[]] (rowN t) ∧ (rowN t).foldl readStep [[]] = [[t]] := by
  obtain ⟨a, b⟩ := run_tree t h [] [] []
  rw [List.append_nil] at a b
  exact ⟨a trivial, b⟩
theorem OkRun.get {rows : List (List D)} {ns : List Nat} (h : OkRun rows ns) {i n : Nat} (hn : ns[i]? = some n) : OkStep ((ns.take i).foldl readStep rows) n := by
  induction ns generalizing rows i with
  | nil => simp at hn
  | cons k ns ih =>
    cases i with
    | zero => simp at hn; subst hn; exact h.1
    | succ i => exact ih h.2 (by simpa using hn)
theorem read_succ {rows : List (List D)} {ns : List Nat} {i n : Nat} (hn : ns[i]? = some n) : (ns.take (i + 1)).foldl readStep rows = readStep ((ns.take i).foldl readStep rows) n := by
  rw [List.take_add_one, hn, List.foldl_append]; rfl
/-- no row is long -/
noncomputable def LowRows (b : Nat) (rows : List (List D)) : Prop := rows.length ≤ b ∧ ∀ r ∈ rows, r.length ≤ b
theorem low_step {b n : Nat} {rows : List (List D)} (h : LowRows b rows) : LowRows (b + 1) (readStep rows n) := by
  obtain ⟨h1, h2⟩ := h
  have hg : ∀ k, (rows.getD k []).length ≤ b := fun k => by
    rw [List.getD_eq_getElem?_getD]
    cases e : rows[k]? with
    | none => simp
    | some r => exact h2 r (List.mem_of_getElem? e)
  unfold readStep
  split
  · refine ⟨by simp; omega, fun r hr => ?_⟩
    rcases List.mem_append.mp hr with hr | hr
    · have := h2 r (List.mem_of_mem_take hr); omega
    · rw [List.mem_singleton.mp hr, List.length_append]; have := hg (rows.length - 2); rw [List.length_singleton]; omega
  · split
    · refine ⟨by simp; omega, fun r hr => ?_⟩
      rcases List.mem_append.mp hr with hr | hr
      · have := h2 r (List.mem_of_mem_take hr); omega
      · rw [List.mem_singleton.mp hr, List.length_append]; have := hg (rows.length - 1); rw [List.length_singleton]; omega
    · refine ⟨by simp; omega, fun r hr => ?_⟩
      rcases List.mem_append.mp hr with hr | hr
      · have := h2 r hr; omega
      · rw [List.mem_singleton.mp hr]; simp
theorem low_run {ns : List Nat} : ∀ {b : Nat} {rows : List (List D)}, LowRows b rows → LowRows (b + ns.length) (ns.foldl readStep rows) := by
  induction ns with
  | nil => intro b rows h; exact h
  | cons n ns ih => intro b rows h; have := ih (low_step (n := n) h); rw [List.length_cons, List.foldl_cons, show b + (ns.length + 1) = b + 1 + ns.length by omega]; exact this
theorem hue512 : ∀ d, d < 512 → Float64.isFinite (Float64.mul (FR d 512) (Float64.ofInt 512)) = true ∧ PySem.Flt.toInt Float64.truncOf (Float64.mul (FR d 512) (Float64.ofInt 512)) = (d : Int) := by decide +kernel
end
section
open PySem PySem.W PySem.Calls PyProof.Rows
section
variable {prog : Program} {w : World} {A : Around} {E : Value → Shared → Prop} {s : Shared} {h₀ : Heap} {L a b l : Addr} {m : Str → Option Value} {news : List (Addr × Obj)} {vs : List Value} {Q : Value → Shared → Prop}
theorem neB3 {b1 b2 b3 c1 c2 c3 : Bool} (ha : s.heap.IsList a #[.bool b1, .bool b2, .bool b3]) (hb : s.heap.IsList b #[.bool c1, .bool c2, .bool c3]) (e1 : b1 = c1) (e2 : b2 = c2) (e3 : b3 = c3) (hu : A.units + 64 < cLine) (h : Q (.bool false) s) :
    wpAny (model prog w) A (compareOp .NotEq (.ref a) (.ref b)) Q E s := by
  subst e1 e2 e3
  obtain ⟨o, ho, hc, n, hd⟩ := ha
  obtain ⟨o', ho', hc', n', hd'⟩ := hb
  refine ne_dataH (.list ho hc hd (.cons (.bool b1) (.cons (.bool b2) (.cons (.bool b3) .nil)))) (.list ho' hc' hd' (.cons (.bool b1) (.cons (.bool b2) (.cons (.bool b3) .nil)))) rfl rfl hu ?_
  have e : PyData.eqv (.list [.bool b1, .bool b2, .bool b3]) (.list [.bool b1, .bool b2, .bool b3]) = true := by simp [PyData.eqv, PyData.eqvAll]
  rw [e]; exact h
theorem negAt {value slice : Expr} {k : Int} {u : Tok} {x : Value} (hl : s.heap.IsList a vs.toArray) (h0 : k < 0) (h1 : -(vs.length : Int) ≤ k) (h2 : -1000 ≤ k) (hx : vs[(k + vs.length).toNat]? = some x) (h : Q x s)
    (hs : subscripted slice false (.ref a) (.int k u) = operate [.ref a, .int k u] (getItem (.ref a) (.int k u))) (hg : ∀ r, letTemporaryGo value (.ref a) r = pure ()) :
    wpAny (model prog w) A (subscriptTail value slice (.ref a) (.int k u)) Q E s :=
  subscriptTail_builtin hl.typeIs slot_list_getitem.lookup (wpAny_getItem_list_neg hl h0 (by rw [List.size_toArray]; exact h1) (by omega) (by rw [List.size_toArray]; simpa using hx) h) hs hg
theorem intItem {value slice : Expr} {d : Addr} {n : Int} {t : Tok} {v : Value} {f : Int → Option Value} (hm : s.heap.MapOf (intKind prog w) d f) (hv : f n = some v) (h : Q v { s with toks := s.toks + 1 })
    (hs : subscripted slice false (.ref d) (.int n t) = operate [.ref d, .int n t] (getItem (.ref d) (.int n t))) (hg : ∀ r, letTemporaryGo value (.ref d) r = pure ()) :
    wpAny (model prog w) A (subscriptTail value slice (.ref d) (.int n t)) Q E s :=
  subscriptTail_builtin hm.typeIs slot_dict_getitem.lookup (wpAny_getItem_of (intKind_is prog w n t) hm hv h) hs hg
theorem itemsL {d : Addr} {K : Type} [DecidableEq K] {knd : KeyKind prog w K} {kvs : List (K × Value)} {ep : Nat} (F : Fr h₀ L s.heap m) (N : News h₀ L s.heap news) (hd : s.heap.DictAt knd d kvs ep) (hs : (d == sysModules) = false)
    (h : ∀ v h', Fr h₀ L h' m → News h₀ L h' ((v, { cls := .type "dict_items", data := .fields #[.ref d] }) :: news) → Q (.ref v) { s with heap := h' }) : wpAny (model prog w) A (call (.builtin "dict.items") [.ref d]) Q E s := by
  have hm := hd.dictOf
  exact call_meetsIn PySem.F.slot_dict_items hm.typeIs PySem.F.entry_dict_items (PySem.F.args_dict_items_1 _) (meets_dict_items knd d hs) ⟨⟨kvs, hm⟩, h _ _ (F.push _) (News.push F N _)⟩
theorem itemsM {d : Addr} {K : Type} [DecidableEq K] {knd : KeyKind prog w K} {kvs : List (K × Value)} {ep : Nat} {pl : Sem Bool} {Q : Value × List Value → Shared → Prop} (hd : s.heap.DictAt knd d kvs ep) (h : Q (.builtin "dict.items", [.ref d]) s) :
    wpAny (model prog w) A (getMethod (.ref d) (Str.ofString "items") pl) Q E s :=
  getMethod_builtin hd.dictOf.typeIs PySem.F.plainAttrs_dict PySem.F.slot_dict_items PySem.F.type_dict_items hd.dictOf.mapOf.noDict h
end
/-- the colours of the symbols -/
structure Cols (h : Heap) (vs : List Value) (ns : List Nat) : Prop where
  len : vs.length = ns.length
  at_ : ∀ (i n : Nat), ns[i]? = some n → n < 512 ∧ ∃ (x : Addr) (paint : Int), vs[i]? = some (Value.ref x) ∧ FTup h x (colF (1 + paint.fmod 1024).toNat (1 + (paint.fdiv 1024).fmod 1048576).toNat (11 * n % 512) 0) (colF (1 + paint.fmod 1024).toNat (1 + (paint.fdiv 1024).fmod 1048576).toNat (11 * n % 512) 512) (colF (1 + paint.fmod 1024).toNat (1 + (paint.fdiv 1024).fmod 1048576).toNat (11 * n % 512) 1024)
end
section
open PySem PySem.W PySem.Calls PyProof.Rows
section
variable {prog : Program} {w : World} {A : Around} {E : Value → Shared → Prop} {s : Shared} {h₀ : Heap} {L : Addr} {m : Str → Option Value} {env : Env} {scope : Scope} {cl : List (Str × Addr)}
theorem comp_AD {kx vx target iter : Expr} {pos : Pos} {Q : Flow → Shared → Prop} {y : Str} {py spos : Pos} (F₀ : Fr h₀ L s.heap m)
    (hclos : closureFor scope env = pure cl) (hcell : ∀ y ∈ scope.names, y.2 ≠ .cell) (hkind : scope.kind = .function) (hnames : ∀ y ∈ scope.names, y.2 = .local → scope.names.lookup y.1 = some .local) (hs : ∀ x, foldedSetIterable iter env x = pure x)
    (hLe : env.locals = L) (hsw : swapsWith (.DictComp kx vx [⟨target, iter, [], 0⟩] scope pos) (some (.Name y py)) spos.line env = pure true)
    (hy : env.kindOf y = some .local) (hp : (env.scope.kind == .class || (env.scope.kind == .module && env.locals != env.globals)) = false)
    (h : wpAny (model prog w) A (eval iter env) (fun x s₁ => wpAny (model prog w) A (pyIter x) (CAt prog w A h₀ L m env scope cl target (bodyD kx vx) oDict (#[], 0) (fun s₂ c made' => ∀ D' h' tk, @LT.lt Nat _ 0 tk → Fr h₀ L h' (fun z => if z = y then some (.ref D') else m z) → News h₀ L h' ((D', oDict c) :: made') → (∀ p ∈ made', p.1 ≠ D') → Q .next { s₂ with heap := h', toks := tk })) E s₁) E s) :
    wpAny (model prog w) A (exec (.Assign [.Name y py] (.DictComp kx vx [⟨target, iter, [], 0⟩] scope pos) spos) env) Q E s :=
  comp_A (pos := firstIterPos [⟨target, iter, [], 0⟩] pos) F₀ (loop_dict (eq_dict kx vx target iter scope pos)) start_dict rfl newDictOk (fun _ => rfl) hclos hcell hkind hnames hs hLe hsw (by rw [exec_Assign_Name_used _ _ _ _ hsw]; rfl) hy hp h
theorem comp_AL {elt target iter : Expr} {pos : Pos} {Q : Flow → Shared → Prop} {y : Str} {py spos : Pos} (F₀ : Fr h₀ L s.heap m)
    (hclos : closureFor scope env = pure cl) (hcell : ∀ y ∈ scope.names, y.2 ≠ .cell) (hkind : scope.kind = .function) (hnames : ∀ y ∈ scope.names, y.2 = .local → scope.names.lookup y.1 = some .local) (hs : ∀ x, foldedSetIterable iter env x = pure x)
    (hLe : env.locals = L) (hsw : swapsWith (.ListComp elt [⟨target, iter, [], 0⟩] scope pos) (some (.Name y py)) spos.line env = pure true)
    (hy : env.kindOf y = some .local) (hp : (env.scope.kind == .class || (env.scope.kind == .module && env.locals != env.globals)) = false)
    (h : wpAny (model prog w) A (eval iter env) (fun x s₁ => wpAny (model prog w) A (pyIter x) (CAt prog w A h₀ L m env scope cl target (bodyL elt) LCg.lst [] (fun s₂ c made' => ∀ D' h' tk, @LT.lt Nat _ 0 tk → Fr h₀ L h' (fun z => if z = y then some (.ref D') else m z) → News h₀ L h' ((D', LCg.lst c) :: made') → (∀ p ∈ made', p.1 ≠ D') → Q .next { s₂ with heap := h', toks := tk })) E s₁) E s) :
    wpAny (model prog w) A (exec (.Assign [.Name y py] (.ListComp elt [⟨target, iter, [], 0⟩] scope pos) spos) env) Q E s :=
  comp_A (pos := firstIterPos [⟨target, iter, [], 0⟩] pos) F₀ (loop_list (eq_list elt target iter scope pos)) start_list rfl newListOk (fun _ => rfl) hclos hcell hkind hnames hs hLe hsw (by rw [exec_Assign_Name_used _ _ _ _ hsw]; rfl) hy hp h
theorem comp_AT {ct elt target iter : Expr} {pos : Pos} {Q : Flow → Shared → Prop} {y : Str} {py spos : Pos} (F₀ : Fr h₀ L s.heap m)
    (hclos : closureFor scope env = pure cl) (hcell : ∀ y ∈ scope.names, y.2 ≠ .cell) (hkind : scope.kind = .function) (hnames : ∀ y ∈ scope.names, y.2 = .local → scope.names.lookup y.1 = some .local) (hs : ∀ x, foldedSetIterable iter env x = pure x)
    (hLe : env.locals = L) (hsw : swapsWith (.ListComp elt [⟨target, iter, [ct], 0⟩] scope pos) (some (.Name y py)) spos.line env = pure true)
    (hy : env.kindOf y = some .local) (hp : (env.scope.kind == .class || (env.scope.kind == .module && env.locals != env.globals)) = false)
    (h : wpAny (model prog w) A (eval iter env) (fun x s₁ => wpAny (model prog w) A (pyIter x) (CAt prog w A h₀ L m env scope cl target (bodyT ct elt) LCg.lst [] (fun s₂ c made' => ∀ D' h' tk, @LT.lt Nat _ 0 tk → Fr h₀ L h' (fun z => if z = y then some (.ref D') else m z) → News h₀ L h' ((D', LCg.lst c) :: made') → (∀ p ∈ made', p.1 ≠ D') → Q .next { s₂ with heap := h', toks := tk })) E s₁) E s) :
    wpAny (model prog w) A (exec (.Assign [.Name y py] (.ListComp elt [⟨target, iter, [ct], 0⟩] scope pos) spos) env) Q E s :=
  comp_A (pos := firstIterPos [⟨target, iter, [ct], 0⟩] pos) F₀ (loop_list (eq_test ct elt target iter scope pos)) start_list rfl newListOk (fun _ => rfl) hclos hcell hkind hnames hs hLe hsw (by rw [exec_Assign_Name_used _ _ _ _ hsw]; rfl) hy hp h
theorem comp_ED {kx vx target iter : Expr} {pos : Pos} {Q : Value → Shared → Prop} (F₀ : Fr h₀ L s.heap m)
    (hclos : closureFor scope env = pure cl) (hcell : ∀ y ∈ scope.names, y.2 ≠ .cell) (hkind : scope.kind = .function) (hnames : ∀ y ∈ scope.names, y.2 = .local → scope.names.lookup y.1 = some .local) (hs : ∀ x, foldedSetIterable iter env x = pure x)
    (h : wpAny (model prog w) A (eval iter env) (fun x s₁ => wpAny (model prog w) A (pyIter x) (CAt prog w A h₀ L m env scope cl target (bodyD kx vx) oDict (#[], 0) (fun s₂ c made' => ∀ D' h' tk, @LT.lt Nat _ 0 tk → Fr h₀ L h' m → News h₀ L h' ((D', oDict c) :: made') → (∀ p ∈ made', p.1 ≠ D') → Q (.ref D') { s₂ with heap := h', toks := tk })) E s₁) E s) :
    wpAny (model prog w) A (eval (.DictComp kx vx [⟨target, iter, [], 0⟩] scope pos) env) Q E s := by
  show wpAny _ _ (comprehension (.DictComp kx vx [⟨target, iter, [], 0⟩] scope pos) scope env (firstIterPos [⟨target, iter, [], 0⟩] pos) newDict false (eval iter env)) _ _ _
  exact comp_E F₀ (loop_dict (eq_dict kx vx target iter scope pos)) start_dict rfl newDictOk (fun _ => rfl) hclos hcell hkind hnames hs h
end
end
section
open PySem PySem.W PySem.Calls PyProof.Rows
theorem namesAt {w : World} {A : Around} {E Q : Value → Shared → Prop} {s : Shared} {value slice : Expr} {d : Addr} {c : Array DictEntry × Nat} {n : Nat} {u : Tok}
    (hJ : DJ (intKind PP w) (fun j => numI (exL.getD j (0, 0, 0)).1) (fun j v => ∃ t, v = .str (opAt (exL.getD j (0, 0, 0)).1) t) 48 c) (e : s.heap.get? d = some (oDict c)) (h7 : 7 ≤ n ∧ n < 55) (h : ∀ t, Q (.str (opAt (n - 7)) t) { s with toks := s.toks + 1 })
    (hs : subscripted slice false (.ref d) (.int (n : Int) u) = operate [.ref d, .int (n : Int) u] (getItem (.ref d) (.int (n : Int) u))) (hg : ∀ r, letTemporaryGo value (.ref d) r = pure ()) :
    wpAny (model PP w) A (subscriptTail value slice (.ref d) (.int (n : Int) u)) Q E s := by
  obtain ⟨f, hm, hf⟩ := hJ.get e
  obtain ⟨j, hj, ej⟩ := ex_all (n - 7) (by omega)
  obtain ⟨v, hv, t, rfl⟩ := hf j hj
  rw [ej] at hv
  have en : numI (n - 7) = (n : Int) := by unfold numI; omega
  rw [en] at hv
  exact intItem hm hv (h t) hs hg
section
variable {G G' : Good} {rvs ws1 ws2 : List Value} {R : List (List D)} {a x1 : Addr} {k k1 : Nat}
theorem read_end (hD : DGs G rvs (R.map D.list)) (hs : ∀ a o, G a o → G' a o) (hd2 : DGs G ws2 (R.getD (R.length - 2) [])) (hg1 : G x1 (listOf ws1.toArray k1)) (hd1 : DGs G ws1 (R.getD (R.length - 1) [])) (ha : G' a (listOf (List.toArray (ws2 ++ [Value.ref x1])) k)) (hl : rvs.length = R.length) :
    DGs G' (rvs.take (rvs.length - 2) ++ [.ref a]) ((readStep R 0).map D.list) := by
  unfold readStep
  rw [if_pos rfl, List.map_append, hl, List.map_take]
  exact ((hD.mono hs).take _).append (.one (.list ha ((hd2.mono hs).append (.one (.list (hs _ _ hg1) (hd1.mono hs))))))
theorem read_leaf {n : Nat} {t : Tok} (hD : DGs G rvs (R.map D.list)) (hs : ∀ a o, G a o → G' a o) (hd1 : DGs G ws1 (R.getD (R.length - 1) [])) (ha : G' a (listOf (List.toArray (ws1 ++ [Value.str (opAt (n - 7)) t])) k)) (hl : rvs.length = R.length) (h0 : 7 ≤ n) (h1 : n < 55) :
    DGs G' (rvs.take (rvs.length - 1) ++ [.ref a]) ((readStep R n).map D.list) := by
  unfold readStep
  rw [if_neg (by omega), if_pos (by omega), List.map_append, hl, List.map_take]
  exact ((hD.mono hs).take _).append (.one (.list ha ((hd1.mono hs).append (.one (.str t (get_opAt (by omega)))))))
theorem read_node {n : Nat} {t : Tok} (hD : DGs G rvs (R.map D.list)) (hs : ∀ a o, G a o → G' a o) (ha : G' a (listOf #[Value.int (n : Int) t] k)) (h0 : 256 ≤ n) : DGs G' (rvs ++ [.ref a]) ((readStep R n).map D.list) := by
  rw [step_node _ _ h0, List.map_append]
  exact (hD.mono hs).append (.one (.list (vs := [.int (n : Int) t]) ha (.one (.int _ t))))
end
end
section
open PySem PySem.W PySem.Calls PyProof.Rows
theorem rules_d : True := by
  k_with_none
  k_with "call builtin:max" => ((with_reducible show wpAny _ _ (call _ [Value.float _ _, Value.float _ _, Value.float _ _]) _ _ _); (rename News _ _ _ _ => N'); (rename Fr _ _ _ _ => F'); refine max3L (by assumption) (by first | exact Nat.succ_pos _ | with_reducible assumption | omega | (dsimp only; first | exact Nat.succ_pos _ | with_reducible assumption | omega)) (by first | exact Nat.succ_pos _ | with_reducible assumption | omega | (dsimp only; first | exact Nat.succ_pos _ | with_reducible assumption | omega)) F' N' ?_; clear F' N'; intro h' tk' tt' htk' htt' F' N')
  k_with "call builtin:min" => ((with_reducible show wpAny _ _ (call _ [Value.float _ _, Value.float _ _, Value.float _ _]) _ _ _); (rename News _ _ _ _ => N'); (rename Fr _ _ _ _ => F'); refine min3L (by assumption) (by first | exact Nat.succ_pos _ | with_reducible assumption | omega | (dsimp only; first | exact Nat.succ_pos _ | with_reducible assumption | omega)) (by first | exact Nat.succ_pos _ | with_reducible assumption | omega | (dsimp only; first | exact Nat.succ_pos _ | with_reducible assumption | omega)) F' N' ?_; clear F' N'; intro h' tk' tt' htk' htt' F' N')
  k_with "binaryOp Div float float" => (refine divL (by first | assumption | decide +kernel) ?_)
  k_with "binaryOp Mod float float" => (refine modL (by first | assumption | decide +kernel) ?_)
  k_with "exec If" => ((with_reducible show wpAny _ _ (exec (Stmt.If (Expr.Compare (Expr.Name _ _) [_] [Expr.Constant _ _ _] _) [Stmt.Assign _ _ _] [] _) _) _ _ _); (rename News _ _ _ _ => N'); (rename Fr _ _ _ _ => F'); (with_reducible (first | refine' clampLt F' N' ?k1 ?k5 ?_ ?k2 ?k3 ?k4 | refine' clampGt F' N' ?k1 ?k5 ?_ ?k2 ?k3 ?k4)); (case k1 => k_dflt exact rfl); (case k5 => first | exact Nat.succ_pos _ | with_reducible assumption | omega | (dsimp only; first | exact Nat.succ_pos _ | with_reducible assumption | omega)); (case k2 => k_dflt exact rfl); (case k3 => k_dflt exact rfl); (case k4 => k_dflt decide); clear F' N'; intro h' tk' tt' htk' htt' F' N')
  k_with "execs cons" => (refine execs_toks (by first | exact Nat.succ_pos _ | with_reducible assumption | omega | (dsimp only; first | exact Nat.succ_pos _ | with_reducible assumption | omega)) ?_; intro tk' htk'; try dsimp only)
  k_with "TokPos" => (unfold TokPos; intro htk'; try dsimp only)
  k_with "mine_enter" => (k_dflt (refine' enter0 ?kX ?kT ?k6 ?k7 ?kr ?k9 ?kB ?_ ?c2 ?c3 ?c4 ?c5; (case kX => assumption); (case kT => assumption); (case kr => (first | assumption | decide | (k_dflt omega))); (case k6 => k_is); (case k7 => k_is); (case k9 => exact BindsTo.of_eq rfl); (case c5 => decide); (case kB => exact locs rfl); (case c2 => exact rfl); (case c3 => exact rfl); (case c4 => exact rfl); k_whole); intro L' h' F' N'; (try dsimp only); (try k_fold))
  k_with "mine_end3" => ((rename Fr _ _ _ _ => F9); (rename News _ _ _ _ => N9); (rename (∀ (_ : Addr), _) => ret9); refine ret9 _ _ _ (by first | exact Nat.succ_pos _ | with_reducible assumption | omega | (dsimp only; first | exact Nat.succ_pos _ | with_reducible assumption | omega)) (Fr.keep F9) (N9 _ (List.Mem.head _)).2.2 ?_; have q9 := (N9 _ (List.Mem.head _)).1; clear F9 N9 ret9; (first | (refine ⟨_, _, _, ?_, q9⟩; exact ⟨(by first | exact Nat.succ_pos _ | with_reducible assumption | omega | (dsimp only; first | exact Nat.succ_pos _ | with_reducible assumption | omega)), (by first | exact Nat.succ_pos _ | with_reducible assumption | omega | (dsimp only; first | exact Nat.succ_pos _ | with_reducible assumption | omega)), (by first | exact Nat.succ_pos _ | with_reducible assumption | omega | (dsimp only; first | exact Nat.succ_pos _ | with_reducible assumption | omega))⟩) | (simp only [hueH, if_true, if_false, Bool.false_eq_true, *]; (refine ⟨_, _, _, ?_, q9⟩; exact ⟨(by first | exact Nat.succ_pos _ | with_reducible assumption | omega | (dsimp only; first | exact Nat.succ_pos _ | with_reducible assumption | omega)), (by first | exact Nat.succ_pos _ | with_reducible assumption | omega | (dsimp only; first | exact Nat.succ_pos _ | with_reducible assumption | omega)), (by first | exact Nat.succ_pos _ | with_reducible assumption | omega | (dsimp only; first | exact Nat.succ_pos _ | with_reducible assumption | omega))⟩))))
  k_with "mine_end1" => ((rename Fr _ _ _ _ => F9); (rename News _ _ _ _ => N9); (rename (∀ (_ : Heap), _) => ret9); refine ret9 _ _ _ _ (by first | exact Nat.succ_pos _ | with_reducible assumption | omega | (dsimp only; first | exact Nat.succ_pos _ | with_reducible assumption | omega)) (by first | exact Nat.succ_pos _ | with_reducible assumption | omega | (dsimp only; first | exact Nat.succ_pos _ | with_reducible assumption | omega)) (Fr.keep F9) ?_; clear F9 N9 ret9; (first | rfl | (simp only [vF, hueF, if_true, if_false, Bool.false_eq_true, *]; done)))
  k_with "my mem" => (first | exact List.mem_cons_self | assumption | (refine List.mem_cons_of_mem _ ?_; walk_at "my mem"))
  k_with "my list" => (first | exact News.isList (by with_reducible assumption) (by walk_at "my mem") | exact Fr.lst (by with_reducible assumption) (by assumption))
  k_with "my len" => (first | (simp only [List.length_append, List.length_cons, List.length_nil, List.length_take, List.length_drop]; omega) | omega)
  k_with "binaryOp Add ref ref" => ((rename News _ _ _ _ => N'); (rename Fr _ _ _ _ => F'); (refine addL F' N' (by walk_at "my list") (by walk_at "my list") (by walk_at "my len") ?_); clear F' N'; intro D' h' F' N'; (try dsimp only))
  k_with "subscriptTail Name Slice ref ref" => ((rename News _ _ _ _ => N'); (rename Fr _ _ _ _ => F'); (k_dflt (refine' sliceL F' N' ?zl ?zp ?zq ?ze ?zz ?_ ?zs ?zt; (case zl => walk_at "my list"); (case zp => kmk_part); (case zq => kmk_part); (case ze => first | exact pickTo (by omega) | exact pickFrom (by omega) | exact pickToNeg (by omega)); (case zz => walk_at "my len"); (case zs => with_unfolding_all rfl); (case zt => kmk_pure))); clear F' N'; intro D' h' F' N'; (try dsimp only))
  k_with "call builtin:len" => ((rename News _ _ _ _ => N'); (rename Fr _ _ _ _ => F'); refine lenL (by walk_at "my list") (by walk_at "my len") ?_)
  k_with "newList" => ((rename News _ _ _ _ => N'); (rename Fr _ _ _ _ => F'); refine newList_K F' N' ?_; clear F' N'; intro D' h' F' N' l1; clear l1; (try dsimp only))
  k_with "execs cons" => first | ((with_reducible show wpAny _ _ (execs (Stmt.For _ _ _ _ _ :: _) _) _ _ _); refine stop_i ?_) | ((with_reducible show wpAny _ _ (execs (Stmt.Assign _ (Expr.DictComp _ _ _ _ _) _ :: _) _) _ _ _); refine stop_i ?_) | ((with_reducible show wpAny _ _ (execs (Stmt.Assign _ (Expr.ListComp _ _ _ _) _ :: _) _) _ _ _); refine stop_i ?_) | ((with_reducible show wpAny _ _ (execs (Stmt.If _ _ _ _ :: _) _) _ _ _); refine stop_i ?_) | (refine execs_toks (by first | exact Nat.succ_pos _ | with_reducible assumption | omega | (dsimp only; first | exact Nat.succ_pos _ | with_reducible assumption | omega)) ?_; intro tk' htk'; try dsimp only)
  k_with "pyIter ref" => (refine stop_i ?_)
  k_with "getMethod ref" => ((with_reducible show wpAny _ _ (getMethod (Value.ref 64) _ _) _ _ _); (rename Fr _ _ _ _ => F'); (k_dflt (refine itemsM (dictAt_keeps hex9 (fun o e => Fr.keep F' _ o e)) ?_)))
  k_with "call builtin:dict.items" => ((rename News _ _ _ _ => N'); (rename Fr _ _ _ _ => F'); (k_dflt (refine itemsL F' N' (dictAt_keeps hex9 (fun o e => Fr.keep F' _ o e)) (by decide) ?_)); clear F' N'; intro v' h' F' N')
  k_with "subscriptTail Name UnaryOp ref int" => ((rename News _ _ _ _ => N'); (k_dflt (refine' negAt (News.isList N' (by walk_at "my mem")) (by decide) (by first | assumption | omega) (by decide) (by first | assumption) ?_ ?zs ?zt; (case zs => with_unfolding_all rfl); (case zt => kmk_pure))))
  k_with "subscriptTail Name Name ref int" => ((rename News _ _ _ _ => N'); (k_dflt (refine' namesAt hDJ9 (News.get N' (by walk_at "my mem")) ⟨by omega, by omega⟩ ?_ ?zs ?zt; (case zs => with_unfolding_all rfl); (case zt => kmk_pure))); intro ot')
  k_with "my noit" => (first | exact NoIt.nil | (refine NoIt.list ?_; walk_at "my noit") | (refine NoIt.tup ?_; walk_at "my noit"))
  k_with "assign Tuple" => ((with_reducible show wpAny _ _ (assign (Expr.Tuple _ _ _) _ (Value.ref _)) _ _ _); (rename News _ _ _ _ => N'); (rename Fr _ _ _ _ => F'); (k_dflt (refine unpackN_ F' N' (Fr.tup F' (by with_reducible assumption)) rfl rfl rfl ?_)); clear F' N'; intro h' F' N')
  k_with "binaryOp Mod int int" => (with_reducible (refine modEqL (by assumption) (by decide) ?_))
  k_with "binaryOp Mult float int" => (refine mulfiL (by decide +kernel) ?_)
  k_with "call type:int" => (refine intL (by k_dflt exact rfl) (by assumption) (by assumption) ?_)
  k_with "compareOp NotEq ref ref" => ((rename News _ _ _ _ => N'); (refine neB3 (News.isList N' (by walk_at "my mem")) (News.isList N' (by walk_at "my mem")) (by first | rfl | (apply Bool.eq_iff_iff.mpr; simp; omega)) (by first | rfl | (apply Bool.eq_iff_iff.mpr; simp; omega)) (by first | rfl | (apply Bool.eq_iff_iff.mpr; simp; omega)) (Nat.le_of_ble_eq_true rfl) ?_))
  k_with "call ref" => ((with_reducible show wpAny _ _ (call (Value.ref 56) _) _ _ _); (rename News _ _ _ _ => N'); (rename Fr _ _ _ _ => F'); (k_dflt (refine hsvP (by with_reducible assumption) F' N' (by assumption) (by assumption) (Nat.le_of_ble_eq_true rfl) rfl (by first | exact Nat.succ_pos _ | with_reducible assumption | omega | (dsimp only; first | exact Nat.succ_pos _ | with_reducible assumption | omega)) ⟨by omega, by omega, by omega⟩ ?_)); clear F' N'; intro x' h' tk' u1' u2' u3' htk' hu' F' N' l1'; clear l1'; obtain ⟨hu1', hu2', hu3'⟩ := hu')
  k_with "call ref" => ((with_reducible show wpAny _ _ (call (Value.ref 73) _) _ _ _); (rename News _ _ _ _ => N'); (rename Fr _ _ _ _ => F'); (k_dflt (refine ist_call (Frag.In.keeps (by assumption) (Fr.keep F')) (Top.keeps (by assumption) (Fr.keep F')) (Nat.le_of_ble_eq_true rfl) rfl (by first | exact Nat.succ_pos _ | with_reducible assumption | omega | (dsimp only; first | exact Nat.succ_pos _ | with_reducible assumption | omega)) ?_)); intro h' tk' v' htk' k' e'; subst e'; replace F' := Fr.mk' F' k'; replace N' := News.mk' N' k'; clear k')
  k_with "call ref" => ((with_reducible show wpAny _ _ (call (Value.ref 80) _) _ _ _); (rename News _ _ _ _ => N'); (rename Fr _ _ _ _ => F'); (k_dflt (refine isn_call (Frag.In.keeps (by assumption) (Fr.keep F')) (Top.keeps (by assumption) (Fr.keep F')) (Nat.le_of_ble_eq_true rfl) rfl (by first | exact Nat.succ_pos _ | with_reducible assumption | omega | (dsimp only; first | exact Nat.succ_pos _ | with_reducible assumption | omega)) ?_)); intro h' tk' v' htk' k' e'; subst e'; replace F' := Fr.mk' F' k'; replace N' := News.mk' N' k'; clear k')
  k_with "call ref" => ((with_reducible show wpAny _ _ (call (Value.ref 87) _) _ _ _); (rename News _ _ _ _ => N'); (rename Fr _ _ _ _ => F'); (k_dflt (refine iseof_call (Frag.In.keeps (by assumption) (Fr.keep F')) (Top.keeps (by assumption) (Fr.keep F')) (Nat.le_of_ble_eq_true rfl) rfl (by first | exact Nat.succ_pos _ | with_reducible assumption | omega | (dsimp only; first | exact Nat.succ_pos _ | with_reducible assumption | omega)) ?_)); intro h' tk' v' htk' k' e'; subst e'; replace F' := Fr.mk' F' k'; replace N' := News.mk' N' k'; clear k')
  trivial
theorem is_str {prog : Program} {w : World} {k : Str} {v : Value} (h : (strKind prog w).is k v = true) : ∃ t, v = .str k t := by
  cases v <;> simp [PySem.strKind, Value.isStrOf] at h
  subst h; exact ⟨_, rfl⟩
theorem rowAt {G : Good} {rvs : List Value} {R : List (List D)} (hD : DGs G rvs (R.map D.list)) {j : Nat} (hj : j < R.length) : ∃ x ws k, rvs[j]? = some (.ref x) ∧ G x (listOf (List.toArray ws) k) ∧ DGs G ws (R.getD j []) := by
  have e : (R.map D.list)[j]? = some (.list (R.getD j [])) := by rw [List.getElem?_map, List.getD_eq_getElem?_getD, List.getElem?_eq_getElem hj]; rfl
  obtain ⟨v, h1, h2⟩ := hD.get e
  cases h2 with
  | list hg hr => exact ⟨_, _, _, h1, hg, hr⟩
theorem low_getD {b j : Nat} {R : List (List D)} (h : LowRows b R) : (R.getD j []).length ≤ b := by
  rw [List.getD_eq_getElem?_getD]
  cases e : R[j]? with
  | none => simp
  | some r => exact h.2 r (List.mem_of_getElem? e)
theorem read_call : ∀ {w : World} {s : Shared} {mean : ExcName → Option Value} {mg mb : Str → Option Value} {Q E : Value → Shared → Prop} {cx : Addr} {vs : List Value} {ns : List Nat},
    (KK w).In s.heap → TT mean mg mb s.heap → @LT.lt Nat _ 0 s.toks → s.heap.IsList cx vs.toArray → Cols s.heap vs ns → OkRun [[]] ns → ns.length ≤ 1000 →
    (∀ x h' tk' ws n (made : List (Addr × Obj)), @LT.lt Nat _ 0 tk' → Keeps s.heap h' → (∀ p ∈ made, h'.get? p.1 = some p.2 ∧ s.heap.get? p.1 = none) → (x, listOf (List.toArray ws) n) ∈ made → DGs (fun a o => (a, o) ∈ made) ws ((ns.foldl readStep [[]]).map D.list) → Q (.ref x) { s with heap := h', toks := tk' }) →
    wpAny (model PP w) AR (call (.ref 123) [.ref cx]) Q E s := by
  intro w s mean mg mb Q E cx vs ns X₀ T₀
  have hex9 := ex_at X₀ T₀
  revert X₀ T₀
  unfold KK TT PP at *
  k_fill
  intro X T h0k hl hcol hok hlen ret
  walk_at "mine_enter"
  k_steps
  (rename News _ _ _ _ => N9); (rename Fr _ _ _ _ => F9)
  unfold Stop
  refine wpAny_execs_cons ?_
  refine comp_AD (h₀ := s.heap) (L := L') (cl := _) F9 (by with_unfolding_all rfl) (by decide) rfl (by decide) (fun _ => rfl) rfl (by with_unfolding_all rfl) (by with_unfolding_all rfl) rfl ?_
  k_steps
  (rename News _ _ _ _ => N9); (rename Fr _ _ _ _ => F9)
  unfold Stop
  refine src_items (knd := PySem.strKind PP w) rfl F9 N9 (by first | exact Nat.succ_pos _ | with_reducible assumption | omega | (dsimp only; first | exact Nat.succ_pos _ | with_reducible assumption | omega)) ⟨_, (N9 _ List.mem_cons_self).1, rfl, rfl⟩ (dictAt_keeps hex9 (fun o e => Fr.keep F9 _ o e)) (fun e => absurd (Fr.above F9) (by rw [e]; exact Nat.not_le.mpr (Heap.lt_size hex9.choose_spec.choose_spec.1))) ?_
  intro I fp wr St Mid h'' S
  clear F9 N9
  refine cat2 S (P2 := fun i x y => ∃ t1 t2, x = .str (opAt (exL.getD i (0, 0, 0)).1) t1 ∧ y = .int (numI (exL.getD i (0, 0, 0)).1) t2) (J := fun i c nw => DJ (intKind PP w) (fun j => numI (exL.getD j (0, 0, 0)).1) (fun j v => ∃ t, v = .str (opAt (exL.getD j (0, 0, 0)).1) t) i c ∧ NoIt nw) ?h2 (by decide) rfl rfl (by decide) (by decide) ⟨DJ.nil, NoIt.nil.cons (by simp)⟩ ?step ?fin
  case h2 =>
    rintro i vals ⟨k, v, key, h1, h2, rfl⟩
    have hi : i < 48 := by have := (List.getElem?_eq_some_iff.mp h1).1; rw [exKvs_len] at this; exact this
    rw [exKvs_get hi] at h1
    obtain ⟨t, rfl⟩ := is_str h2
    obtain ⟨rfl, rfl⟩ := Prod.mk.inj (Option.some.inj h1)
    exact ⟨_, _, rfl, _, _, rfl, rfl⟩
  case step =>
    intro i c made rest C oC D m₂ h tk hi hV hJ hsub hoC htk F N hCD hoff
    obtain ⟨x, y, ⟨t1, t2, rfl, rfl⟩, hm1, hm2⟩ := hV
    rw [exKvs_len] at hi
    refine body_dict hJ.1 (by omega) (fun j hj e => ex_inj i hi j hj (by unfold numI at e; omega)) hCD hoff hoC ?_
    k_steps
    (rename News _ _ _ _ => N9); (rename Fr _ _ _ _ => F9)
    exact ⟨_, _, [], rfl, (by first | exact Nat.succ_pos _ | with_reducible assumption | omega | (dsimp only; first | exact Nat.succ_pos _ | with_reducible assumption | omega)), F9, N9, (fun _ hp => nomatch hp), intKind_is _ _ _ _, ⟨_, rfl⟩, hJ.2⟩
  case fin =>
    intro c made' hJ D2 h2 tk2 htk2 F2 N2 hne2
    dsimp only
    k_steps
    (rename News _ _ _ _ => N9); (rename Fr _ _ _ _ => F9)
    unfold Stop
    refine wpAny_execs_cons ?_
    refine for_grow (ax := cx) (items := vs.toArray) rfl F9 N9 (by first | exact Nat.succ_pos _ | with_reducible assumption | omega | (dsimp only; first | exact Nat.succ_pos _ | with_reducible assumption | omega)) (.inl hl) (NoIt.list (NoIt.list (NoIt.cons hJ.2 (by simp)))) (fun Q' hq => ld F9 rfl hq rfl rfl (by decide)) ?hgo
      (fun i m nw => ∃ ra rvs rn, m (Str.ofString "rows") = some (.ref ra) ∧ m (Str.ofString "names") = some (.ref D2) ∧ (ra, listOf (List.toArray rvs) rn) ∈ nw ∧ DGs (fun a o => (a, o) ∈ nw) rvs (((ns.take i).foldl readStep [[]]).map D.list))
      ⟨_, _, 0, rfl, rfl, List.mem_cons_self, .cons (.list (vs := []) (List.mem_cons_of_mem _ List.mem_cons_self) .nil) .nil⟩ ?step ?hQ
    case hgo =>
      intro I i v s' Q' E' hv hit hq
      have hi : i < ns.length := by rw [← hcol.len]; simpa using (Array.getElem?_eq_some_iff.mp hv).1
      obtain ⟨_, x, _, hx, _⟩ := hcol.at_ i _ (List.getElem?_eq_getElem hi)
      have hv' : vs[i]? = some v := by simpa using hv
      rw [hx] at hv'
      obtain rfl := Option.some.inj hv'
      exact wpAny_letOwnedTupleGo_listiter hit hq
    case step =>
      intro I i v m₁ news₁ h tk oI hv hJ1 hsub hno1 htk F1 N1
      obtain ⟨ra, rvs, rn, hm1, hm2, hra, hD⟩ := hJ1
      have hi : i < ns.length := by rw [← hcol.len]; simpa using (Array.getElem?_eq_some_iff.mp hv).1
      obtain ⟨hn512, x, paint, hx, u1, u2, u3, hu, hft⟩ := hcol.at_ i _ (List.getElem?_eq_getElem hi)
      have hv' : vs[i]? = some v := by simpa using hv
      rw [hx] at hv'
      obtain rfl := Option.some.inj hv'
      have hstep := hok.get (List.getElem?_eq_getElem hi)
      have hnext := read_succ (rows := [[]]) (List.getElem?_eq_getElem hi)
      obtain ⟨n, hn⟩ : ∃ n, n = ns[i] := ⟨_, rfl⟩
      rw [← hn] at hn512 hft hstep hnext
      have hhsv := hsvC (d := 11 * n % 512) (nums_of paint) (Nat.mod_lt _ (by decide))
      obtain ⟨hfin, htr⟩ := hue512 (11 * n % 512) (Nat.mod_lt _ (by decide))
      have hsym : EqI ((((11 * n % 512 : Nat) : Int) * 419).fmod 512) (n : Int) := ⟨by rw [Int.fmod_eq_emod_of_nonneg _ (by decide)]; omega⟩
      have hlow := low_run (ns := ns.take i) (b := 1) (rows := [[]]) ⟨by simp, by simp⟩
      have hti : (ns.take i).length ≤ 1000 := by rw [List.length_take]; omega
      have hl1 := hD.length
      have hdict := hsub _ (List.mem_cons_of_mem _ (List.mem_cons_of_mem _ List.mem_cons_self))
      have htup : IsTup s.heap x #[.float _ u1, .float _ u2, .float _ u3] := ⟨_, hft, rfl, _, rfl⟩
      obtain ⟨m9, rfl⟩ := same_map2 hm1 hm2
      obtain ⟨hu1, hu2, hu3⟩ := hu
      obtain ⟨R, hR⟩ : ∃ R, R = (ns.take i).foldl readStep [[]] := ⟨_, rfl⟩
      rw [← hR] at hstep hnext hlow hD hl1
      have hlr : rvs.length = R.length := by rw [hl1, List.length_map]
      have hlr2 : rvs.length ≤ 1001 := by have := hlow.1; omega
      have hDJ9 := hJ.1
      rw [exKvs_len] at hDJ9
      clear hm1 hm2 F9 N9 hsub hv hx hcol hok hl1
      k_steps
      unfold Stop
      refine execs_toks (by first | exact Nat.succ_pos _ | with_reducible assumption | omega | (dsimp only; first | exact Nat.succ_pos _ | with_reducible assumption | omega)) ?_
      intro tkz htkz
      try dsimp only
      k_steps
      unfold Stop
      refine execs_toks (by first | exact Nat.succ_pos _ | with_reducible assumption | omega | (dsimp only; first | exact Nat.succ_pos _ | with_reducible assumption | omega)) ?_
      intro tky htky
      try dsimp only
      rcases Nat.eq_zero_or_pos n with hn0 | hn0
      · have hz : ((n : Int) == 0) = true := by rw [hn0]; rfl
        have h2 := hstep.two hn0
        obtain ⟨x2, ws2, k2, hx2, hg2, hd2⟩ := rowAt hD (j := R.length - 2) (by omega)
        obtain ⟨x1, ws1, k1, hx1, hg1, hd1⟩ := rowAt hD (j := R.length - 1) (by omega)
        rw [show R.length - 2 = (-2 + (rvs.length : Int)).toNat by omega] at hx2
        rw [show R.length - 1 = (-1 + (rvs.length : Int)).toNat by omega] at hx1
        have hw2 := hd2.length
        have hw2' := low_getD (j := R.length - 2) hlow
        have hlen2 : -(rvs.length : Int) ≤ -2 := by omega
        have hlen1 : -(rvs.length : Int) ≤ -1 := by omega
        k_steps
        all_goals (try (exfalso; omega))
        · (rename News _ _ _ _ => N9); (rename Fr _ _ _ _ => F9)
          refine turn_end (new := [_, _, _, _, _, _, _, _]) F9 N9 (by first | exact Nat.succ_pos _ | with_reducible assumption | omega | (dsimp only; first | exact Nat.succ_pos _ | with_reducible assumption | omega)) (by walk_at "my noit") hno1 ⟨_, _, _, rfl, rfl, List.mem_cons_self, ?_⟩
          rw [hnext]
          rw [hn0]; exact read_end hD (fun _ _ hp => List.mem_append.mpr (.inr hp)) hd2 hg1 hd1 (List.mem_cons_of_mem _ (List.mem_cons_of_mem _ List.mem_cons_self)) hlr
      · have hz : ((n : Int) == 0) = false := by rw [beq_eq_false_iff_ne]; omega
        k_steps
        unfold Stop
        refine execs_toks (by first | exact Nat.succ_pos _ | with_reducible assumption | omega | (dsimp only; first | exact Nat.succ_pos _ | with_reducible assumption | omega)) ?_
        intro tkx htkx
        try dsimp only
        by_cases hn1 : n < 256
        · obtain ⟨h1, h7, h55⟩ := hstep.one (by omega) hn1
          obtain ⟨x1, ws1, k1, hx1, hg1, hd1⟩ := rowAt hD (j := R.length - 1) (by omega)
          rw [show R.length - 1 = (-1 + (rvs.length : Int)).toNat by omega] at hx1
          have hw1 := hd1.length
          have hw1' := low_getD (j := R.length - 1) hlow
          have hlen1 : -(rvs.length : Int) ≤ -1 := by omega
          k_steps
          all_goals (try (exfalso; omega))
          · (rename News _ _ _ _ => N9); (rename Fr _ _ _ _ => F9)
            refine turn_end (new := [_, _, _, _, _, _, _, _]) F9 N9 (by first | exact Nat.succ_pos _ | with_reducible assumption | omega | (dsimp only; first | exact Nat.succ_pos _ | with_reducible assumption | omega)) (by walk_at "my noit") hno1 ⟨_, _, _, rfl, rfl, List.mem_cons_self, ?_⟩
            rw [hnext]
            exact read_leaf hD (fun _ _ hp => List.mem_append.mpr (.inr hp)) hd1 (List.mem_cons_of_mem _ (List.mem_cons_of_mem _ List.mem_cons_self)) hlr h7 h55
        · k_steps
          all_goals (try (exfalso; omega))
          · (rename News _ _ _ _ => N9); (rename Fr _ _ _ _ => F9)
            refine turn_end (new := [_, _, _, _, _, _]) F9 N9 (by first | exact Nat.succ_pos _ | with_reducible assumption | omega | (dsimp only; first | exact Nat.succ_pos _ | with_reducible assumption | omega)) (by walk_at "my noit") hno1 ⟨_, _, _, rfl, rfl, List.mem_cons_self, ?_⟩
            rw [hnext]
            exact read_node hD (fun _ _ hp => List.mem_append.mpr (.inr hp)) (List.mem_cons_of_mem _ (List.mem_cons_of_mem _ List.mem_cons_self)) (by omega)
    case hQ =>
      intro h' tk m' news' htk F1 N1 hno1 hsub hJ1
      obtain ⟨ra, rvs, rn, hm1, hm2, hra, hD⟩ := hJ1
      obtain ⟨m9, rfl⟩ := same_map2 hm1 hm2
      rw [List.size_toArray, hcol.len, List.take_length] at hD
      clear hm1 hm2 F9 N9
      k_steps
      (rename News _ _ _ _ => N9); (rename Fr _ _ _ _ => F9)
      exact ret _ _ _ rvs rn news' (by first | exact Nat.succ_pos _ | with_reducible assumption | omega | (dsimp only; first | exact Nat.succ_pos _ | with_reducible assumption | omega)) (Fr.keep F9) (fun p hp => ⟨(N9 p hp).1, (N9 p hp).2.2⟩) hra hD
end
section
open PySem PySem.W PySem.Calls PyProof.Rows
theorem wfL_append (a b : List D) : wfL (a ++ b) = (wfL a && wfL b) := by
  induction a with
  | nil => simp [wfL]
  | cons d a ih => simp [wfL, ih, Bool.and_assoc]
theorem lenOkL_append (a b : List D) : lenOkL (a ++ b) = (lenOkL a && lenOkL b) := by
  induction a with
  | nil => simp [lenOkL]
  | cons d a ih => simp [lenOkL, ih, Bool.and_assoc]
theorem htL_append (a b : List D) : htL (a ++ b) = max (htL a) (htL b) := by
  induction a with
  | nil => simp [htL]
  | cons d a ih => simp [htL, ih]
/-- what holds of the trees behind k numbers -/
structure FOk (k : Nat) (f : List D) : Prop where
  wf : wfL f = true
  ok : lenOkL f = true
  len : f.length ≤ k
  ht : htL f ≤ k
  row : ∀ num e, (rowL num e f).length ≤ 2 * k
theorem FOk.nil : FOk 0 [] := ⟨rfl, rfl, Nat.le_refl _, Nat.le_refl _, fun _ _ => Nat.le_refl _⟩
theorem FOk.step {k : Nat} {f : List D} (h : FOk k f) (hk : k < 900) (x : Int) : FOk (k + 1) (forestStep f x) := by
  obtain ⟨h1, h2, h3, h4, h5⟩ := h
  unfold forestStep
  split
  · have hm := fmod_range (x.fdiv 4) (b := 48) (by decide)
    refine ⟨?_, ?_, ?_, ?_, fun num e => ?_⟩
    · rw [wfL_append, h1]; simp [wfL, wfT]; omega
    · rw [lenOkL_append, h2]; simp [lenOkL, lenOk]
    · simp; omega
    · rw [htL_append]; simp [htL, D.ht]; omega
    · rw [rowL_append, List.length_append]; have := h5 num e; simp [rowL, rowF]; omega
  · obtain ⟨c, hc⟩ : ∃ c, c = f.length - ((x.fdiv 4).fmod 4).toNat := ⟨_, rfl⟩
    rw [← hc]
    have hm := fmod_range (x.fdiv 16) (b := 256) (by decide)
    have e : f = f.take c ++ f.drop c := (List.take_append_drop c f).symm
    have w := h1; rw [e, wfL_append, Bool.and_eq_true] at w
    have o := h2; rw [e, lenOkL_append, Bool.and_eq_true] at o
    have t := h4; rw [e, htL_append] at t
    have l1 : (f.take c).length ≤ k := by rw [List.length_take]; omega
    have l2 : (f.drop c).length ≤ k := by rw [List.length_drop]; omega
    refine ⟨?_, ?_, ?_, ?_, fun num e' => ?_⟩
    · rw [wfL_append, w.1]; simp [wfL, wfT, wfN, w.2]; omega
    · rw [lenOkL_append, o.1]; simp [lenOkL, lenOk, o.2]; omega
    · rw [List.length_append, List.length_take]; simp; omega
    · rw [htL_append]; simp [htL, D.ht]; omega
    · have r := h5 num e'; rw [e, rowL_append, List.length_append] at r
      rw [rowL_append, List.length_append]; simp [rowL, rowF, hdI, rowT]; omega
theorem forest_ok {ns : List Int} (h : ns.length ≤ 900) : FOk ns.length (forestF ns) := by
  have : ∀ (ns : List Int) (k : Nat) (f : List D), k + ns.length ≤ 900 → FOk k f → FOk (k + ns.length) (ns.foldl forestStep f) := by
    intro ns
    induction ns with
    | nil => intro k f _ hf; exact hf
    | cons n ns ih =>
      intro k f hk hf
      rw [List.length_cons] at hk
      have := ih (k + 1) (forestStep f n) (by omega) (hf.step (by omega) n)
      rw [List.length_cons, List.foldl_cons, show k + (ns.length + 1) = k + 1 + ns.length by omega]
      exact this
  have := this ns 0 [] (by omega) FOk.nil
  rw [Nat.zero_add] at this
  exact this
end
section
open PySem PySem.W PySem.Calls PyProof.Rows
/-- a ground that the contracts' grounds cover -/
structure Gr (A : Around) : Prop where
  h : A.handled = none
  d : A.depth ≤ 800
  g : A.guards = some []
  u : A.units ≤ 5000
theorem Gr.ar {α : Type} {M : Model} {A : Around} (G : Gr A) {t : Sem α} {Q : α → Shared → Prop} {E : Value → Shared → Prop} {s : Shared} (h : wpAny M AR t Q E s) : wpAny M A t Q E s :=
  wpAny_AR h G.h (Nat.le_trans G.d (by decide)) G.g G.u
theorem Gr.ag {α : Type} {M : Model} {A : Around} (G : Gr A) {t : Sem α} {Q : α → Shared → Prop} {E : Value → Shared → Prop} {s : Shared} (h : wpAny M (AG 800 5000) t Q E s) : wpAny M A t Q E s :=
  wpAny_around h G.h G.d (.inl rfl) (.inr G.g) G.u
theorem News.addAll {h₀ h h' : Heap} {L : Addr} {m : Str → Option Value} {news made : List (Addr × Obj)} (F : Fr h₀ L h m) (N : News h₀ L h news) (k : Keeps h h') (e : ∀ p ∈ made, h'.get? p.1 = some p.2 ∧ h.get? p.1 = none) : News h₀ L h' (made ++ news) := by
  intro p hp
  rcases List.mem_append.mp hp with hp | hp
  · obtain ⟨e1, e2⟩ := e p hp
    exact News.add F N k (a := p.1) (o := p.2) e1 e2 p List.mem_cons_self
  · exact News.mk' N k p hp
theorem off_new {h₀ h : Heap} {L : Addr} {news : List (Addr × Obj)} (N : News h₀ L h news) {x : Addr} (n : h.get? x = none) : ∀ p ∈ news, x ≠ p.1 := fun p hp q => by rw [q, (N p hp).1] at n; cases n
section
variable {w : World} {A : Around} {s : Shared} {mean : ExcName → Option Value} {mg mb : Str → Option Value} {Q E : Value → Shared → Prop} {h₀ : Heap} {L : Addr} {m : Str → Option Value} {news : List (Addr × Obj)}
theorem forestP (G : Gr A) (F : Fr h₀ L s.heap m) (N : News h₀ L s.heap news) (X : (KK w).In h₀) (T : TT mean mg mb h₀) (h0k : @LT.lt Nat _ 0 s.toks) {ax : Addr} {vs : List Value} {ns : List Int} (hl : s.heap.IsList ax vs.toArray) (hi : IntsAre vs ns) (hn : ns.length ≤ 100)
    (h : ∀ x h' tk' ws n made, @LT.lt Nat _ 0 tk' → Fr h₀ L h' m → News h₀ L h' (made ++ news) → (x, listOf (List.toArray ws) n) ∈ made → DGs (fun a o => (a, o) ∈ made) ws (forestF ns) → Q (.ref x) { s with heap := h', toks := tk' }) :
    wpAny (model PP w) A (call (.ref 101) [.ref ax]) Q E s :=
  G.ar (forest_call (X.keeps F.keep) (Top.keeps T F.keep) h0k hl hi hn fun x h' tk' ws n made k0 kk fr _ hx hd => h x h' tk' ws n made k0 (Fr.mk' F kk) (News.addAll F N kk fr) hx hd)
theorem paintP (G : Gr A) (F : Fr h₀ L s.heap m) (N : News h₀ L s.heap news) (X : (KK w).In h₀) (T : TT mean mg mb h₀) (h0k : @LT.lt Nat _ 0 s.toks) {n : Nat} {paint : Int} {t0 t1 : Tok} (hn : n < 512)
    (h : ∀ x h' tk' u1 u2 u3, @LT.lt Nat _ 0 tk' → (@LT.lt Nat _ 0 u1 ∧ @LT.lt Nat _ 0 u2 ∧ @LT.lt Nat _ 0 u3) → Fr h₀ L h' m →
      News h₀ L h' ((x, FT3 (.float (colF (1 + paint.fmod 1024).toNat (1 + (paint.fdiv 1024).fmod 1048576).toNat (11 * n % 512) 0) u1) (.float (colF (1 + paint.fmod 1024).toNat (1 + (paint.fdiv 1024).fmod 1048576).toNat (11 * n % 512) 512) u2) (.float (colF (1 + paint.fmod 1024).toNat (1 + (paint.fdiv 1024).fmod 1048576).toNat (11 * n % 512) 1024) u3)) :: news) →
      (∀ p ∈ news, x ≠ p.1) → Q (.ref x) { s with heap := h', toks := tk' }) :
    wpAny (model PP w) A (call (.ref 113) [.int (n : Int) t0, .int paint t1]) Q E s := by
  refine G.ar (painted_call (X.keeps F.keep) (Top.keeps T F.keep) (by decide) rfl h0k (by decide) hn fun x h' tk' k0 kk fr ft => ?_)
  obtain ⟨u1, u2, u3, hu, e⟩ := ft
  exact h x h' tk' u1 u2 u3 k0 hu (Fr.mk' F kk) (News.add F N kk e fr) (off_new N fr)
theorem rightP (G : Gr A) (F : Fr h₀ L s.heap m) (N : News h₀ L s.heap news) (X : (KK w).In h₀) (T : TT mean mg mb h₀) (h0k : @LT.lt Nat _ 0 s.toks) {n : Nat} {paint : Int} {t0 t1 : Tok} {cx : Addr} (hn : n < 512)
    (hc : FTup s.heap cx (colF (1 + paint.fmod 1024).toNat (1 + (paint.fdiv 1024).fmod 1048576).toNat (11 * n % 512) 0) (colF (1 + paint.fmod 1024).toNat (1 + (paint.fdiv 1024).fmod 1048576).toNat (11 * n % 512) 512) (colF (1 + paint.fmod 1024).toNat (1 + (paint.fdiv 1024).fmod 1048576).toNat (11 * n % 512) 1024))
    (h : ∀ h' tk', @LT.lt Nat _ 0 tk' → Fr h₀ L h' m → News h₀ L h' news → Q (.bool true) { s with heap := h', toks := tk' }) :
    wpAny (model PP w) A (call (.ref 118) [.int (n : Int) t0, .int paint t1, .ref cx]) Q E s :=
  G.ar (right_ok (X.keeps F.keep) (Top.keeps T F.keep) h0k hn hc fun h' tk' k0 kk => h h' tk' k0 (Fr.mk' F kk) (News.mk' N kk))
theorem readP (G : Gr A) (F : Fr h₀ L s.heap m) (N : News h₀ L s.heap news) (X : (KK w).In h₀) (T : TT mean mg mb h₀) (h0k : @LT.lt Nat _ 0 s.toks) {cx : Addr} {vs : List Value} {ns : List Nat} (hl : s.heap.IsList cx vs.toArray) (hc : Cols s.heap vs ns) (ho : OkRun [[]] ns) (hn : ns.length ≤ 1000)
    (h : ∀ x h' tk' ws n made, @LT.lt Nat _ 0 tk' → Fr h₀ L h' m → News h₀ L h' (made ++ news) → (x, listOf (List.toArray ws) n) ∈ made → DGs (fun a o => (a, o) ∈ made) ws ((ns.foldl readStep [[]]).map D.list) → Q (.ref x) { s with heap := h', toks := tk' }) :
    wpAny (model PP w) A (call (.ref 123) [.ref cx]) Q E s :=
  G.ar (read_call (X.keeps F.keep) (Top.keeps T F.keep) h0k hl hc ho hn fun x h' tk' ws n made k0 kk fr hx hd => h x h' tk' ws n made k0 (Fr.mk' F kk) (News.addAll F N kk fr) hx hd)
end
end
section
open PySem PySem.W PySem.Calls PyProof.Rows
theorem op_inj : ∀ i, i < 48 → ∀ j, j < i → opAt j ≠ opAt i := by decide +kernel
/-- the law's tree -/
noncomputable def treeOf (S : Int) (ms : List Int) : D := .list (.int (256 + (S + 100).fmod 256) :: forestF ms)
theorem tree_wf (S : Int) {ms : List Int} (h : ms.length ≤ 15) : wfT (treeOf S ms) = true := by
  have f := forest_ok (ns := ms) (by omega)
  have hm := fmod_range (S + 100) (b := 256) (by decide)
  unfold treeOf
  simp [wfT, wfN, f.wf]; omega
theorem tree_ht (S : Int) {ms : List Int} (h : ms.length ≤ 15) : (treeOf S ms).ht ≤ 16 := by
  have f := (forest_ok (ns := ms) (by omega)).ht
  unfold treeOf
  simp [D.ht, htL]; omega
theorem tree_len (S : Int) {ms : List Int} (h : ms.length ≤ 15) (num : Nat → Int) (e : Int) : (rowF num e (treeOf S ms)).length ≤ 32 := by
  have f := (forest_ok (ns := ms) (by omega)).row num e
  unfold treeOf
  simp [rowF, hdI, rowT]; omega
theorem tree_row {w : World} (S : Int) {ms : List Int} (h : ms.length ≤ 15) (num : Nat → Int) (e : Int) : RowOk w num e (treeOf S ms) := by
  have f := forest_ok (ns := ms) (by omega)
  refine row_ok 16 _ (tree_ht S h) (tree_wf S h) (Nat.le_trans (tree_len S h num e) (by decide)) ?_
  have := f.len
  unfold treeOf
  simp [lenOk, lenOkL, f.ok]; omega
section
variable {prog : Program} {w : World} {A : Around} {s : Shared} {Q E : Value → Shared → Prop} {h₀ : Heap} {L : Addr} {m : Str → Option Value} {news : List (Addr × Obj)}
/-- some sum -/
theorem sumP {l : Addr} {vs : List Value} {ns : List Int} (hh : A.handled = none) (F : Fr h₀ L s.heap m) (N : News h₀ L s.heap news) (h0k : @LT.lt Nat _ 0 s.toks) (hl : s.heap.IsList l vs.toArray) (hi : IntsAre vs ns)
    (h : ∀ S t h' tk, @LT.lt Nat _ 0 tk → Fr h₀ L h' m → News h₀ L h' news → Q (.int S t) { s with heap := h', toks := tk }) : wpAny (model prog w) A (call (.builtin "sum") [.ref l]) Q E s := by
  refine wpAny_with_toks (n := 1) h0k (call_sum_walkG (wpAny_pyIter_list hl ?_))
  have hlt : l < s.heap.objs.size := by obtain ⟨_, e, _⟩ := hl; exact Heap.lt_size e
  have up : ∀ b o, s.heap.get? b = some o → (s.heap.push { cls := .type "list_iterator", data := .fields #[.ref l, .int 0 0] }).get? b = some o := fun b o e => Heap.get?_push_of_some _ e
  refine ⟨s.heap.objs.size, _, _, _, _, _, fun i => ns.getD i 0, rfl, Walks.list (A := A.in1) hh s.heap.objs.size l (Nat.ne_of_lt hlt) vs.toArray, ⟨⟨_, Heap.get?_push_size _ rfl, rfl, rfl⟩, hl.push _⟩, ?_, fun i v hv => hi.int_at i v (by simpa using hv), ?_⟩
  · intro b hb
    show b < (s.heap.push _).objs.size
    rw [Heap.size_push]
    rcases List.mem_cons.mp hb with rfl | hb
    · exact Nat.lt_succ_self _
    · rw [List.mem_singleton.mp hb]; exact Nat.lt_succ_of_lt hlt
  · intro h' tk t' hk h0
    have kk : Keeps s.heap h' := fun b o e => hk b o (fun hm => Nat.lt_irrefl _ ((List.mem_singleton.mp hm) ▸ Heap.lt_size e)) (up b o e)
    exact h _ t' h' tk h0 (Fr.mk' F kk) (News.mk' N kk)
theorem rowQ {mean : ExcName → Option Value} {mg mb : Str → Option Value} {num : Nat → Int} {e : Int} {t : D} {dn : Nat} {te : Tok} {tv : Value} {f : Str → Option Value} (hr : RowOk w num e t) (G : Gr A) (F : Fr h₀ L s.heap m) (N : News h₀ L s.heap news) (X : (KK w).In h₀) (T : TT mean mg mb h₀) (h0k : @LT.lt Nat _ 0 s.toks) (hd : t.ht ≤ 100)
    (hm : s.heap.MapOf (PySem.strKind PP w) dn f) (hf : ∀ i x, opsL[i]? = some x → ∃ t, f x = some (.int (num i) t)) (hv : DG (fun a o => (a, o) ∈ news) tv t)
    (h : ∀ x h' tk' ws, @LT.lt Nat _ 0 tk' → Fr h₀ L h' m → News h₀ L h' ((x, listOf (List.toArray ws) 0) :: news) → IntsAre ws (rowF num e t) → Q (.ref x) { s with heap := h', toks := tk' }) :
    wpAny (model PP w) A (call (.ref 106) [tv, .ref dn, .int e te]) Q E s :=
  G.ag (hr.ok (X.keeps F.keep) (Top.keeps T F.keep) h0k (Nat.lt_of_le_of_lt (Nat.add_le_add_left hd 800) (by decide)) hm hf (fun a o x => (N _ x).1) hv fun x h' tk' ws k0 kk fr ex hi => h x h' tk' ws k0 (Fr.mk' F kk) (News.add F N kk ex fr) hi)
end
end
section
open PySem PySem.W PySem.Calls PyProof.Rows
mutual
noncomputable def pyD : D → PyData
  | .int i => .int i
  | .str i => .str (opAt i)
  | .list ds => .list (pyL ds)
noncomputable def pyL : List D → List PyData
  | [] => []
  | d :: ds => pyD d :: pyL ds
end
theorem op_ok48 : ∀ i, i < 48 → PyData.canLay0 (.str (opAt i)) = true := by decide +kernel
theorem op_ok (i : Nat) : PyData.canLay0 (.str (opAt i)) = true := by
  by_cases h : i < 48
  · exact op_ok48 i h
  · have e : opAt i = Str.ofString "" := by
      unfold opAt
      rw [List.getD_eq_getElem?_getD, List.getElem?_eq_none (by rw [opsL_len]; omega)]; rfl
    rw [e]; decide +kernel
mutual
theorem pyD_lay : ∀ d : D, (pyD d).canLay0 = true
  | .int _ => by simp [pyD, PyData.canLay0]
  | .str i => by rw [pyD]; exact op_ok i
  | .list ds => by rw [pyD, PyData.canLay0]; exact pyL_lay ds
theorem pyL_lay : ∀ ds : List D, PyData.canLayAll0 (pyL ds) = true
  | [] => by simp [pyL, PyData.canLayAll0]
  | d :: ds => by simp [pyL, PyData.canLayAll0, pyD_lay d, pyL_lay ds]
end
mutual
theorem pyD_depth : ∀ d : D, (pyD d).depth ≤ d.ht
  | .int _ => by simp [pyD, PyData.depth]
  | .str i => by simp [pyD, PyData.depth]
  | .list ds => by have := pyL_depth ds; simp [pyD, PyData.depth, D.ht]; omega
theorem pyL_depth : ∀ ds : List D, PyData.depthAll (pyL ds) ≤ htL ds
  | [] => by simp [pyL, PyData.depthAll]
  | d :: ds => by have := pyD_depth d; have := pyL_depth ds; simp [pyL, PyData.depthAll, htL]; omega
end
mutual
theorem DG.reads {G : Good} {h : Heap} (hG : ∀ a o, G a o → h.get? a = some o) : ∀ {v : Value} {d : D}, DG G v d → ∃ as, Reads h v (pyD d) as
  | _, _, .int i t => ⟨_, by rw [pyD]; exact .int i t⟩
  | _, _, .str t e => ⟨_, by rw [pyD, opAt_get e]; exact .str _ t⟩
  | _, _, .list g r => by
    obtain ⟨as, q⟩ := DGs.reads hG r
    exact ⟨_, by rw [pyD]; exact .list (hG _ _ g) rfl rfl q⟩
theorem DGs.reads {G : Good} {h : Heap} (hG : ∀ a o, G a o → h.get? a = some o) : ∀ {vs : List Value} {ds : List D}, DGs G vs ds → ∃ as, ReadsAll h vs (pyL ds) as
  | _, _, .nil => ⟨_, by rw [pyL]; exact .nil⟩
  | _, _, .cons e r => by
    obtain ⟨as, q⟩ := DG.reads hG e
    obtain ⟨bs, q'⟩ := DGs.reads hG r
    exact ⟨_, by rw [pyL]; exact .cons q q'⟩
end
theorem eqTree {prog : Program} {w : World} {A : Around} {s : Shared} {Q E : Value → Shared → Prop} {G : Good} {va vb : Value} {d : D} (ha : DG G va d) (hb : DG G vb d) (hG : ∀ a o, G a o → s.heap.get? a = some o) (hd : d.ht ≤ 64) (hu : A.units + 64 < cLine) (h : Q (.bool true) s) :
    wpAny (model prog w) A (compareOp .Eq va vb) Q E s := by
  obtain ⟨as, ra⟩ := ha.reads hG
  obtain ⟨bs, rb⟩ := hb.reads hG
  have sh : SeqAt.shaped (pyD d) = true := by
    have := pyD_depth d
    simp [SeqAt.shaped, pyD_lay]; omega
  exact eq_dataH ra rb sh sh hu (by rw [SeqAt.eqv_refl _ (pyD_lay d)]; exact h)
mutual
theorem row_pos : ∀ t : D, wfT t = true → ∀ x ∈ rowF numI 0 t, 0 ≤ x
  | .int _, hw => by simp [wfT] at hw
  | .str i, _ => by intro x hx; simp [rowF, numI] at hx; omega
  | .list (.int n :: ks), hw => by
    simp only [wfT, wfN, Bool.and_eq_true, decide_eq_true_eq] at hw
    intro x hx
    simp [rowF, hdI, rowT] at hx
    rcases hx with rfl | hx | rfl
    · omega
    · exact rowL_pos ks hw.2 x hx
    · omega
  | .list [], hw => by simp [wfT, wfN] at hw
  | .list (.str _ :: _), hw => by simp [wfT, wfN] at hw
  | .list (.list _ :: _), hw => by simp [wfT, wfN] at hw
theorem rowL_pos : ∀ ks : List D, wfL ks = true → ∀ x ∈ rowL numI 0 ks, 0 ≤ x
  | [], _ => by intro x hx; simp [rowL] at hx
  | d :: ks, hw => by
    simp only [wfL, Bool.and_eq_true] at hw
    intro x hx
    rw [rowL] at hx
    rcases List.mem_append.mp hx with hx | hx
    · exact row_pos d hw.1 x hx
    · exact rowL_pos ks hw.2 x hx
end
/-- the row's symbols -/
theorem row_at {t : D} (hw : wfT t = true) {vs : List Value} (hi : IntsAre vs (rowF numI 0 t)) {i : Nat} {x : Value} (h : vs[i]? = some x) : ∃ (n : Nat) (u : Tok), (rowN t)[i]? = some n ∧ n < 512 ∧ x = .int (n : Int) u := by
  obtain ⟨u, e⟩ := hi.int_at i x h
  have hl : i < (rowF numI 0 t).length := by rw [← hi.length]; exact (List.getElem?_eq_some_iff.mp h).1
  have e' : (rowF numI 0 t).getD i 0 = (rowF numI 0 t)[i] := by rw [List.getD_eq_getElem?_getD, List.getElem?_eq_getElem hl]; rfl
  have hp := row_pos t hw _ (List.getElem_mem hl)
  have hn : (rowN t)[i]? = some ((rowF numI 0 t)[i]).toNat := by unfold rowN; rw [List.getElem?_map, List.getElem?_eq_getElem hl]; rfl
  refine ⟨_, u, hn, ((read_tree hw).1.get hn).low, ?_⟩
  rw [e, e', Int.toNat_of_nonneg hp]
theorem ints_at {vs : List Value} {ns : List Int} (hi : IntsAre vs ns) {i : Nat} {x : Value} (h : vs[i]? = some x) : ∃ (n : Int) (u : Tok), ns[i]? = some n ∧ x = .int n u := by
  obtain ⟨u, e⟩ := hi.int_at i x h
  have hl : i < ns.length := by rw [← hi.length]; exact (List.getElem?_eq_some_iff.mp h).1
  exact ⟨ns[i], u, List.getElem?_eq_getElem hl, by rw [e, List.getD_eq_getElem?_getD, List.getElem?_eq_getElem hl]; rfl⟩
/-- the colours, each of its symbol and paint -/
noncomputable def ColJ (pn : List Int) (ns : List Nat) (i : Nat) (ys : List Value) (nw : List (Addr × Obj)) : Prop :=
  ys.length = i ∧ ∀ (j : Nat) (n : Nat) (p : Int), j < i → ns[j]? = some n → pn[j]? = some p → ∃ x u1 u2 u3, ys[j]? = some (Value.ref x) ∧ (@LT.lt Nat _ 0 u1 ∧ @LT.lt Nat _ 0 u2 ∧ @LT.lt Nat _ 0 u3) ∧
    (x, FT3 (.float (colF (1 + p.fmod 1024).toNat (1 + (p.fdiv 1024).fmod 1048576).toNat (11 * n % 512) 0) u1) (.float (colF (1 + p.fmod 1024).toNat (1 + (p.fdiv 1024).fmod 1048576).toNat (11 * n % 512) 512) u2) (.float (colF (1 + p.fmod 1024).toNat (1 + (p.fdiv 1024).fmod 1048576).toNat (11 * n % 512) 1024) u3)) ∈ nw
theorem ColJ.nil {pn : List Int} {ns : List Nat} {nw : List (Addr × Obj)} : ColJ pn ns 0 [] nw := ⟨rfl, fun _ _ _ h => absurd h (Nat.not_lt_zero _)⟩
theorem ColJ.mono {pn : List Int} {ns : List Nat} {i : Nat} {ys : List Value} {nw nw' : List (Addr × Obj)} (h : ColJ pn ns i ys nw) (hs : ∀ p ∈ nw, p ∈ nw') : ColJ pn ns i ys nw' :=
  ⟨h.1, fun j n p hj hn hp => let ⟨x, u1, u2, u3, e, hu, hm⟩ := h.2 j n p hj hn hp; ⟨x, u1, u2, u3, e, hu, hs _ hm⟩⟩
theorem ColJ.snoc {pn : List Int} {ns : List Nat} {i n : Nat} {p : Int} {ys : List Value} {nw : List (Addr × Obj)} {x : Addr} {u1 u2 u3 : Tok} (h : ColJ pn ns i ys nw) (hn : ns[i]? = some n) (hp : pn[i]? = some p) (hu : @LT.lt Nat _ 0 u1 ∧ @LT.lt Nat _ 0 u2 ∧ @LT.lt Nat _ 0 u3) :
    ColJ pn ns (i + 1) (ys ++ [.ref x]) ((x, FT3 (.float (colF (1 + p.fmod 1024).toNat (1 + (p.fdiv 1024).fmod 1048576).toNat (11 * n % 512) 0) u1) (.float (colF (1 + p.fmod 1024).toNat (1 + (p.fdiv 1024).fmod 1048576).toNat (11 * n % 512) 512) u2) (.float (colF (1 + p.fmod 1024).toNat (1 + (p.fdiv 1024).fmod 1048576).toNat (11 * n % 512) 1024) u3)) :: nw) := by
  refine ⟨by rw [List.length_append, h.1]; rfl, fun j n' p' hj hn' hp' => ?_⟩
  by_cases hji : j < i
  · obtain ⟨x', v1, v2, v3, e, hv, hm⟩ := h.2 j n' p' hji hn' hp'
    exact ⟨x', v1, v2, v3, by rw [List.getElem?_append_left (by rw [h.1]; exact hji)]; exact e, hv, List.mem_cons_of_mem _ hm⟩
  · obtain rfl : j = i := by omega
    rw [hn] at hn'; rw [hp] at hp'
    obtain rfl := Option.some.inj hn'
    obtain rfl := Option.some.inj hp'
    exact ⟨x, u1, u2, u3, by rw [List.getElem?_append_right (by rw [h.1]; exact Nat.le_refl _), h.1]; simp, hu, List.mem_cons_self⟩
theorem ColJ.ftup {pn : List Int} {ns : List Nat} {i n j : Nat} {p : Int} {ys : List Value} {nw : List (Addr × Obj)} {h : Heap} {v : Value} (hc : ColJ pn ns i ys nw) (hG : ∀ q ∈ nw, h.get? q.1 = some q.2) (hj : j < i) (hn : ns[j]? = some n) (hp : pn[j]? = some p) (hv : ys[j]? = some v) :
    ∃ x, v = .ref x ∧ FTup h x (colF (1 + p.fmod 1024).toNat (1 + (p.fdiv 1024).fmod 1048576).toNat (11 * n % 512) 0) (colF (1 + p.fmod 1024).toNat (1 + (p.fdiv 1024).fmod 1048576).toNat (11 * n % 512) 512) (colF (1 + p.fmod 1024).toNat (1 + (p.fdiv 1024).fmod 1048576).toNat (11 * n % 512) 1024) := by
  obtain ⟨x, u1, u2, u3, e, hu, hm⟩ := hc.2 j n p hj hn hp
  rw [hv] at e
  obtain rfl := Option.some.inj e
  exact ⟨x, rfl, u1, u2, u3, hu, hG _ hm⟩
theorem ColJ.cols {pn : List Int} {ns : List Nat} {ys : List Value} {nw : List (Addr × Obj)} {h : Heap} (hc : ColJ pn ns ns.length ys nw) (hG : ∀ q ∈ nw, h.get? q.1 = some q.2) (hl : ns.length ≤ pn.length) (hlow : ∀ i n : Nat, ns[i]? = some n → n < 512) : Cols h ys ns := by
  refine ⟨hc.1, fun i n hn => ⟨hlow i n hn, ?_⟩⟩
  have hi : i < ns.length := (List.getElem?_eq_some_iff.mp hn).1
  obtain ⟨x, u1, u2, u3, e, hu, hm⟩ := hc.2 i n _ hi hn (List.getElem?_eq_getElem (Nat.lt_of_lt_of_le hi hl))
  exact ⟨x, _, e, u1, u2, u3, hu, hG _ hm⟩
/-- what the walk asks of the tree -/
structure TreeOk (w : World) (t : D) : Prop where
  wf : wfT t = true
  ht : t.ht ≤ 16
  len : (rowF numI 0 t).length ≤ 32
  row : RowOk w numI 0 t
theorem treeOk {w : World} (S : Int) {ms : List Int} (h : ms.length ≤ 15) : TreeOk w (treeOf S ms) := ⟨tree_wf S h, tree_ht S h, tree_len S h _ _, tree_row S h _ _⟩
theorem mulP {prog : Program} {w : World} {A : Around} {E : Value → Shared → Prop} {s : Shared} {h₀ : Heap} {L : Addr} {m : Str → Option Value} {news : List (Addr × Obj)} {l : Addr} {vs : List Value} {ns : List Int} {u : Tok} {Q : Value → Shared → Prop} (F : Fr h₀ L s.heap m) (N : News h₀ L s.heap news) (hl : s.heap.IsList l vs.toArray) (hi : IntsAre vs ns) (h6 : 6 ≤ ns.length) (hn : ns.length ≤ 100)
    (h : ∀ D h' ps pn, Fr h₀ L h' m → News h₀ L h' ((D, listOf (List.toArray ps) 0) :: news) → IntsAre ps pn → 32 ≤ pn.length → Q (.ref D) { s with heap := h' }) : wpAny (model prog w) A (binaryOp .Mult (.ref l) (.int 9 u)) Q E s := by
  have hlv := hi.length
  refine KM.mul F N hl hi (by decide) (by decide) (by rw [hlv]; show _ * 9 ≤ _; omega) fun D h' F' N' _ hi' n _ h2 _ h4 => ?_
  have := h4 (by decide)
  exact h D h' _ _ F' N' hi' (by rw [h2]; omega)
section
variable {prog : Program} {w : World} {A : Around} {s s₀ : Shared} {h₀ : Heap} {L C D : Addr} {oC : Obj} {m m₂ : Str → Option Value} {rest made : List (Addr × Obj)} {ys : List Value} {J : List Value → List (Addr × Obj) → Prop}
/-- what a test that says no leaves -/
noncomputable def NoEnd (h₀ : Heap) (L : Addr) (m : Str → Option Value) (news : List (Addr × Obj)) (s₀ : Shared) (b : Bool) (s₂ : Shared) : Prop := b = false ∧ ∃ h' tk, s₂ = { s₀ with heap := h', toks := tk } ∧ @LT.lt Nat _ 0 tk ∧ Fr h₀ L h' m ∧ News h₀ L h' news
theorem body_no {ct elt : Expr} {cenv : Env} (h : wpAny (model prog w) A (isTrue ct cenv (eval ct cenv)) (NoEnd h₀ L m ((C, oC) :: (D, LCg.lst ys) :: rest) s₀) (fun _ _ => False) s) (hoC : LCg.NsObj oC m₂) (hJ : J ys made) :
    wpAny (model prog w) A (bodyT ct elt cenv (.ref D)) (CEnd h₀ L m C D LCg.lst rest made J s₀) (fun _ _ => False) s := by
  refine wpAny_bind (wpAny_mono h (fun b s₂ h₂ => ?_) fun _ _ x => x)
  obtain ⟨rfl, h', tk, rfl, hk, F, N⟩ := h₂
  rw [if_neg (by decide)]
  exact wpAny_pure ⟨h', tk, [], ys, oC, m₂, rfl, hk, F, hoC, N, (fun _ hp => nomatch hp), hJ⟩
end
end
section
open PySem PySem.W PySem.Calls PyProof.Rows
theorem rules_e : True := by
  k_with_none
  k_with "call builtin:max" => ((with_reducible show wpAny _ _ (call _ [Value.float _ _, Value.float _ _, Value.float _ _]) _ _ _); (rename News _ _ _ _ => N'); (rename Fr _ _ _ _ => F'); refine max3L (by assumption) (by first | exact Nat.succ_pos _ | with_reducible assumption | omega | (dsimp only; first | exact Nat.succ_pos _ | with_reducible assumption | omega)) (by first | exact Nat.succ_pos _ | with_reducible assumption | omega | (dsimp only; first | exact Nat.succ_pos _ | with_reducible assumption | omega)) F' N' ?_; clear F' N'; intro h' tk' tt' htk' htt' F' N')
  k_with "call builtin:min" => ((with_reducible show wpAny _ _ (call _ [Value.float _ _, Value.float _ _, Value.float _ _]) _ _ _); (rename News _ _ _ _ => N'); (rename Fr _ _ _ _ => F'); refine min3L (by assumption) (by first | exact Nat.succ_pos _ | with_reducible assumption | omega | (dsimp only; first | exact Nat.succ_pos _ | with_reducible assumption | omega)) (by first | exact Nat.succ_pos _ | with_reducible assumption | omega | (dsimp only; first | exact Nat.succ_pos _ | with_reducible assumption | omega)) F' N' ?_; clear F' N'; intro h' tk' tt' htk' htt' F' N')
  k_with "binaryOp Div float float" => (refine divL (by first | assumption | decide +kernel) ?_)
  k_with "binaryOp Mod float float" => (refine modL (by first | assumption | decide +kernel) ?_)
  k_with "exec If" => ((with_reducible show wpAny _ _ (exec (Stmt.If (Expr.Compare (Expr.Name _ _) [_] [Expr.Constant _ _ _] _) [Stmt.Assign _ _ _] [] _) _) _ _ _); (rename News _ _ _ _ => N'); (rename Fr _ _ _ _ => F'); (with_reducible (first | refine' clampLt F' N' ?k1 ?k5 ?_ ?k2 ?k3 ?k4 | refine' clampGt F' N' ?k1 ?k5 ?_ ?k2 ?k3 ?k4)); (case k1 => k_dflt exact rfl); (case k5 => first | exact Nat.succ_pos _ | with_reducible assumption | omega | (dsimp only; first | exact Nat.succ_pos _ | with_reducible assumption | omega)); (case k2 => k_dflt exact rfl); (case k3 => k_dflt exact rfl); (case k4 => k_dflt decide); clear F' N'; intro h' tk' tt' htk' htt' F' N')
  k_with "execs cons" => (refine execs_toks (by first | exact Nat.succ_pos _ | with_reducible assumption | omega | (dsimp only; first | exact Nat.succ_pos _ | with_reducible assumption | omega)) ?_; intro tk' htk'; try dsimp only)
  k_with "TokPos" => (unfold TokPos; intro htk'; try dsimp only)
  k_with "mine_enter" => (k_dflt (refine' enter0 ?kX ?kT ?k6 ?k7 ?kr ?k9 ?kB ?_ ?c2 ?c3 ?c4 ?c5; (case kX => assumption); (case kT => assumption); (case kr => (first | assumption | decide | (k_dflt omega))); (case k6 => k_is); (case k7 => k_is); (case k9 => exact BindsTo.of_eq rfl); (case c5 => decide); (case kB => exact locs rfl); (case c2 => exact rfl); (case c3 => exact rfl); (case c4 => exact rfl); k_whole); intro L' h' F' N'; (try dsimp only); (try k_fold))
  k_with "mine_end3" => ((rename Fr _ _ _ _ => F9); (rename News _ _ _ _ => N9); (rename (∀ (_ : Addr), _) => ret9); refine ret9 _ _ _ (by first | exact Nat.succ_pos _ | with_reducible assumption | omega | (dsimp only; first | exact Nat.succ_pos _ | with_reducible assumption | omega)) (Fr.keep F9) (N9 _ (List.Mem.head _)).2.2 ?_; have q9 := (N9 _ (List.Mem.head _)).1; clear F9 N9 ret9; (first | (refine ⟨_, _, _, ?_, q9⟩; exact ⟨(by first | exact Nat.succ_pos _ | with_reducible assumption | omega | (dsimp only; first | exact Nat.succ_pos _ | with_reducible assumption | omega)), (by first | exact Nat.succ_pos _ | with_reducible assumption | omega | (dsimp only; first | exact Nat.succ_pos _ | with_reducible assumption | omega)), (by first | exact Nat.succ_pos _ | with_reducible assumption | omega | (dsimp only; first | exact Nat.succ_pos _ | with_reducible assumption | omega))⟩) | (simp only [hueH, if_true, if_false, Bool.false_eq_true, *]; (refine ⟨_, _, _, ?_, q9⟩; exact ⟨(by first | exact Nat.succ_pos _ | with_reducible assumption | omega | (dsimp only; first | exact Nat.succ_pos _ | with_reducible assumption | omega)), (by first | exact Nat.succ_pos _ | with_reducible assumption | omega | (dsimp only; first | exact Nat.succ_pos _ | with_reducible assumption | omega)), (by first | exact Nat.succ_pos _ | with_reducible assumption | omega | (dsimp only; first | exact Nat.succ_pos _ | with_reducible assumption | omega))⟩))))
  k_with "mine_end1" => ((rename Fr _ _ _ _ => F9); (rename News _ _ _ _ => N9); (rename (∀ (_ : Heap), _) => ret9); refine ret9 _ _ _ _ (by first | exact Nat.succ_pos _ | with_reducible assumption | omega | (dsimp only; first | exact Nat.succ_pos _ | with_reducible assumption | omega)) (by first | exact Nat.succ_pos _ | with_reducible assumption | omega | (dsimp only; first | exact Nat.succ_pos _ | with_reducible assumption | omega)) (Fr.keep F9) ?_; clear F9 N9 ret9; (first | rfl | (simp only [vF, hueF, if_true, if_false, Bool.false_eq_true, *]; done)))
  k_with "my mem" => (first | exact List.mem_cons_self | assumption | (refine List.mem_cons_of_mem _ ?_; walk_at "my mem"))
  k_with "my list" => (first | exact News.isList (by with_reducible assumption) (by walk_at "my mem") | exact Fr.lst (by with_reducible assumption) (by assumption))
  k_with "my len" => (first | (simp only [List.length_append, List.length_cons, List.length_nil, List.length_take, List.length_drop]; omega) | omega)
  k_with "binaryOp Add ref ref" => ((rename News _ _ _ _ => N'); (rename Fr _ _ _ _ => F'); (refine addL F' N' (by walk_at "my list") (by walk_at "my list") (by walk_at "my len") ?_); clear F' N'; intro D' h' F' N'; (try dsimp only))
  k_with "subscriptTail Name Slice ref ref" => ((rename News _ _ _ _ => N'); (rename Fr _ _ _ _ => F'); (k_dflt (refine' sliceL F' N' ?zl ?zp ?zq ?ze ?zz ?_ ?zs ?zt; (case zl => walk_at "my list"); (case zp => kmk_part); (case zq => kmk_part); (case ze => first | exact pickTo (by omega) | exact pickFrom (by omega) | exact pickToNeg (by omega)); (case zz => walk_at "my len"); (case zs => with_unfolding_all rfl); (case zt => kmk_pure))); clear F' N'; intro D' h' F' N'; (try dsimp only))
  k_with "call builtin:len" => ((rename News _ _ _ _ => N'); (rename Fr _ _ _ _ => F'); refine lenL (by walk_at "my list") (by walk_at "my len") ?_)
  k_with "newList" => ((rename News _ _ _ _ => N'); (rename Fr _ _ _ _ => F'); refine newList_K F' N' ?_; clear F' N'; intro D' h' F' N' l1; clear l1; (try dsimp only))
  k_with "execs cons" => first | ((with_reducible show wpAny _ _ (execs (Stmt.For _ _ _ _ _ :: _) _) _ _ _); refine stop_i ?_) | ((with_reducible show wpAny _ _ (execs (Stmt.Assign _ (Expr.ListComp _ _ _ _) _ :: _) _) _ _ _); refine stop_i ?_) | (refine execs_toks (by first | exact Nat.succ_pos _ | with_reducible assumption | omega | (dsimp only; first | exact Nat.succ_pos _ | with_reducible assumption | omega)) ?_; intro tk' htk'; try dsimp only)
  k_with "pyIter ref" => (refine stop_i ?_)
  k_with "eval DictComp" => (refine stop_i ?_)
  k_with "call ref" => ((with_reducible show wpAny _ _ (call (Value.ref 101) _) _ _ _); (rename News _ _ _ _ => N'); (rename Fr _ _ _ _ => F'); (k_dflt (refine forestP (by walk_at "my gr") F' N' (by assumption) (by assumption) (by first | exact Nat.succ_pos _ | with_reducible assumption | omega | (dsimp only; first | exact Nat.succ_pos _ | with_reducible assumption | omega)) (by walk_at "my list") (by walk_at "my ints") (by walk_at "my len2") ?_)); clear F' N'; intro x' h' tk' ws' n' made' htk' F' N' hx' hd'; have hwl' := hd'.length; have hwf' := forestF_len (List.take (Int.toNat 8) ns ++ [8, 52, 11, 124, 4087, 3, 181]); (simp only [List.length_append, List.length_cons, List.length_nil, List.length_take] at hwf'))
  k_with "call builtin:sum" => ((rename News _ _ _ _ => N'); (rename Fr _ _ _ _ => F'); (k_dflt (refine sumP rfl F' N' (by first | exact Nat.succ_pos _ | with_reducible assumption | omega | (dsimp only; first | exact Nat.succ_pos _ | with_reducible assumption | omega)) (by walk_at "my list") (by walk_at "my ints") ?_)); clear F' N'; intro S' st' h' tk' htk' F' N')
  k_with "my ints" => (first | assumption | exact IntsAre.take (by assumption) _ | exact IntsAre.append (IntsAre.take (by assumption) _) (by repeat constructor))
  k_with "my len2" => (first | (simp only [List.length_append, List.length_cons, List.length_nil, List.length_take]; omega) | omega)
  k_with "my mem" => (first | exact List.mem_cons_self | assumption | (refine List.mem_cons_of_mem _ ?_; walk_at "my mem") | (refine List.mem_append_left _ ?_; assumption) | (refine List.mem_append_right _ ?_; walk_at "my mem"))
  k_with "call ref" => ((with_reducible show wpAny _ _ (call (Value.ref 106) _) _ _ _); (rename News _ _ _ _ => N'); (rename Fr _ _ _ _ => F'); (k_dflt (refine rowQ (t := treeOf S' (List.take (Int.toNat 8) ns ++ [8, 52, 11, 124, 4087, 3, 181])) (num := numI) (tree_row _ (by walk_at "my len2") _ _) (by walk_at "my gr") F' N' (by assumption) (by assumption) (by first | exact Nat.succ_pos _ | with_reducible assumption | omega | (dsimp only; first | exact Nat.succ_pos _ | with_reducible assumption | omega)) (Nat.le_trans (tree_ht _ (by walk_at "my len2")) (by decide)) (dictAt_keeps hex9 (fun o e => Fr.keep F' _ o e)).dictOf.mapOf (fun _ _ h => ex_val h) (.list (by walk_at "my mem") (.cons (.int _ _) (DGs.mono (fun _ _ hp => by walk_at "my mem") hd'))) ?_)); clear F' N'; intro y' h' tk' rs' htk' F' N' hrs')
  k_with "call ref" => ((with_reducible show wpAny _ _ (call (Value.ref 94) _) _ _ _); (rename News _ _ _ _ => N'); (rename Fr _ _ _ _ => F'); (k_dflt (refine opsP F' N' (by assumption) (by assumption) (Nat.le_of_ble_eq_true rfl) rfl (by first | exact Nat.succ_pos _ | with_reducible assumption | omega | (dsimp only; first | exact Nat.succ_pos _ | with_reducible assumption | omega)) ?_)); clear F' N'; intro xo' h' tk' vo' htk' F' N' hops')
  k_with "call type:enumerate" => (refine stop_i ?_)
  k_with "call ref" => ((with_reducible show wpAny _ _ (call (Value.ref 106) _) _ _ _); (rename News _ _ _ _ => N'); (rename Fr _ _ _ _ => F'); (k_dflt (refine rowQ tok9.row (by walk_at "my gr") F' N' (by assumption) (by assumption) (by first | exact Nat.succ_pos _ | with_reducible assumption | omega | (dsimp only; first | exact Nat.succ_pos _ | with_reducible assumption | omega)) (Nat.le_trans tok9.ht (by decide)) hm9 hf9 (htree9.mono (fun _ _ hp => by walk_at "my mem")) ?_)); clear F' N' hm9 hf9; intro z' h' tk' ds' htk' F' N' hds')
  k_with "binaryOp Mult ref int" => ((rename News _ _ _ _ => N'); (rename Fr _ _ _ _ => F'); (k_dflt (refine mulP F' N' (by walk_at "my list") (IntsAre.append (IntsAre.append (by repeat constructor) (IntsAre.take (by assumption) _)) (by repeat constructor)) (by walk_at "my len2") (by walk_at "my len2") ?_)); clear F' N'; intro pa' h' ps' pn' F' N' hps' hpn')
  k_with "call type:zip" => (refine stop_i ?_)
  k_with "call ref" => ((with_reducible show wpAny _ _ (call (Value.ref 113) _) _ _ _); (rename News _ _ _ _ => N'); (rename Fr _ _ _ _ => F'); (k_dflt (refine paintP (by walk_at "my gr") F' N' (by assumption) (by assumption) (by first | exact Nat.succ_pos _ | with_reducible assumption | omega | (dsimp only; first | exact Nat.succ_pos _ | with_reducible assumption | omega)) (by assumption) ?_)); clear F' N'; intro xc' h' tk' v1' v2' v3' htk' hv' F' N' hoff')
  k_with "call ref" => ((with_reducible show wpAny _ _ (call (Value.ref 118) _) _ _ _); (rename News _ _ _ _ => N'); (rename Fr _ _ _ _ => F'); (k_dflt (refine rightP (by walk_at "my gr") F' N' (by assumption) (by assumption) (by first | exact Nat.succ_pos _ | with_reducible assumption | omega | (dsimp only; first | exact Nat.succ_pos _ | with_reducible assumption | omega)) (by assumption) (by assumption) ?_)); clear F' N'; intro h' tk' htk' F' N')
  k_with "call ref" => ((with_reducible show wpAny _ _ (call (Value.ref 123) _) _ _ _); (rename News _ _ _ _ => N'); (rename Fr _ _ _ _ => F'); (k_dflt (refine readP (by walk_at "my gr") F' N' (by assumption) (by assumption) (by first | exact Nat.succ_pos _ | with_reducible assumption | omega | (dsimp only; first | exact Nat.succ_pos _ | with_reducible assumption | omega)) (vs := c) (News.isList N' (by walk_at "my mem")) (hcol9.cols (fun q hq => (N' q (by walk_at "my mem")).1) (by omega) (fun i n hn => ((read_tree tok9.wf).1.get hn).low)) (read_tree tok9.wf).1 (by omega) ?_)); clear F' N'; intro xr' h' tk' wr' nr' mr' htk' F' N' hxr' hdr'; rw [(read_tree tok9.wf).2] at hdr')
  k_with "compareOp Eq ref ref" => (refine stop_i ?_)
  k_with "my gr" => exact ⟨rfl, Nat.le_of_ble_eq_true rfl, rfl, Nat.le_of_ble_eq_true rfl⟩
  trivial
theorem law_call : ∀ {w : World} {s : Shared} {mean : ExcName → Option Value} {mg mb : Str → Option Value} {Q E : Value → Shared → Prop} {l : Addr} {vs : List Value} {ns : List Int},
    (KK w).In s.heap → TT mean mg mb s.heap → s.heap.IsList l vs.toArray → IntsAre vs ns → ns.length ≤ 63 →
    (∀ h' tk', @LT.lt Nat _ 0 tk' → Keeps s.heap h' → Q (.bool true) { s with heap := h', toks := tk' }) →
    wpAny (model PP w) (AG 400 100) (call (.ref 128) [.ref l]) Q E s := by
  intro w s mean mg mb Q E l vs ns X₀ T₀
  have hex9 := ex_at X₀ T₀
  revert X₀ T₀
  unfold KK TT PP at *
  k_fill
  intro X T hl hi hlen ret
  have hvl := hi.length
  walk_at "mine_enter"
  k_steps
  (rename News _ _ _ _ => N9); (rename Fr _ _ _ _ => F9)
  unfold Stop
  refine comp_ED (h₀ := s.heap) (L := L') (cl := _) F9 (by with_unfolding_all rfl) (by decide) rfl (by decide) (fun _ => rfl) ?_
  k_steps
  (rename News _ _ _ _ => N9); (rename Fr _ _ _ _ => F9)
  unfold Stop
  refine src_enum rfl F9 N9 (by first | exact Nat.succ_pos _ | with_reducible assumption | omega | (dsimp only; first | exact Nat.succ_pos _ | with_reducible assumption | omega)) (News.isList N9 (by walk_at "my mem")) ?_
  intro I fp wr St Mid h'' S hpy
  refine wpAny_mono hpy ?_ (fun _ _ x => x)
  rintro _ _ ⟨rfl, rfl⟩
  refine cat2 S (P2 := fun i x y => ∃ t u, x = .int (i : Int) t ∧ y = .str (opAt i) u) (J := fun i c nw => DJ (PySem.strKind PP w) opAt (fun j v => ∃ t, v = .int (numI j) t) i c ∧ AllIn9 _ nw) ?h2 (by decide) rfl rfl (by decide) (by decide) ⟨DJ.nil, fun _ hp => hp⟩ ?step ?fin
  case h2 =>
    rintro i vals ⟨t, x, h1, rfl⟩
    have h1' : (strValues vo')[i]? = some x := by simpa using h1
    have hi : i < 48 := by
      have := (List.getElem?_eq_some_iff.mp h1').1
      have e := congrArg List.length hops'
      rw [List.length_map, opsL_len] at e
      unfold strValues at this
      rw [List.length_map] at this; omega
    obtain ⟨y, u, h2, h3⟩ := opItem hops' hi
    rw [h1'] at h2
    obtain rfl := Option.some.inj h2
    exact ⟨_, _, rfl, t, u, rfl, by rw [opAt_get h3]⟩
  case step =>
    intro i c made rest C oC D m₂ h tk hi hV hJ hsub hoC htk F N hCD hoff
    obtain ⟨x, y, ⟨t1, t2, rfl, rfl⟩, hm1, hm2⟩ := hV
    have hi : i < 48 := by
      have e := congrArg List.length hops'
      rw [List.length_map, opsL_len] at e
      unfold strValues at hi
      simp at hi; omega
    refine body_dict (B := fun nw => AllIn9 _ nw) hJ.1 (by omega) (fun j hj => op_inj i hi j hj) hCD hoff hoC ?_
    k_steps
    (rename News _ _ _ _ => N9); (rename Fr _ _ _ _ => F9)
    exact ⟨_, _, [], rfl, (by first | exact Nat.succ_pos _ | with_reducible assumption | omega | (dsimp only; first | exact Nat.succ_pos _ | with_reducible assumption | omega)), F9, N9, (fun _ hp => nomatch hp), strKind_is _ _ _ _, ⟨_, rfl⟩, hJ.2⟩
  case fin =>
    intro c made2 hJ D2 h2 tk2 htk2 F2 N2 hne2
    have hcut9 := hJ.2 (_, listOf (List.take (Int.toNat 8) vs).toArray 0) (by walk_at "my mem")
    have hrow9 := hJ.2 (_, listOf rs'.toArray 0) (by walk_at "my mem")
    have htree9 : DG (fun a o => (a, o) ∈ made2) (.ref D') (treeOf S' (List.take (Int.toNat 8) ns ++ [8, 52, 11, 124, 4087, 3, 181])) := .list (hJ.2 _ (by walk_at "my mem")) (.cons (.int _ _) (DGs.mono (fun _ _ hp => hJ.2 _ (by walk_at "my mem")) hd'))
    have tok9 : TreeOk w (treeOf S' (List.take (Int.toNat 8) ns ++ [8, 52, 11, 124, 4087, 3, 181])) := treeOk S' (by walk_at "my len2")
    have hsz9 : (strValues vo').toArray.size = 48 := by
      have e := congrArg List.length hops'
      rw [List.length_map, opsL_len] at e
      simp [strValues, e]
    rw [hsz9] at hJ
    obtain ⟨f9, hm9, hf9'⟩ := hJ.1.get (N2 _ List.mem_cons_self).1
    have hf9 : ∀ i x, opsL[i]? = some x → ∃ t, f9 x = some (.int (numI i) t) := fun i x hx => by
      have hi : i < 48 := by rw [← opsL_len]; exact (List.getElem?_eq_some_iff.mp hx).1
      obtain ⟨v, h1, t, rfl⟩ := hf9' i hi
      rw [opAt_get hx] at h1
      exact ⟨t, h1⟩
    generalize treeOf S' (List.take (Int.toNat 8) ns ++ [8, 52, 11, 124, 4087, 3, 181]) = TR at htree9 tok9 hrs'
    clear hf9' hJ S hpy hsz9 hops' hne2 F9 N9 hd' hx'
    dsimp only
    k_steps
    (rename News _ _ _ _ => N9); (rename Fr _ _ _ _ => F9)
    unfold Stop
    refine execs_toks (by first | exact Nat.succ_pos _ | with_reducible assumption | omega | (dsimp only; first | exact Nat.succ_pos _ | with_reducible assumption | omega)) ?_
    intro tk9 htk9
    dsimp only
    refine comp_AL (h₀ := s.heap) (L := L') (cl := _) F9 (by with_unfolding_all rfl) (by decide) rfl (by decide) (fun _ => rfl) rfl (by with_unfolding_all rfl) rfl rfl ?_
    k_steps
    (rename News _ _ _ _ => N9); (rename Fr _ _ _ _ => F9)
    unfold Stop
    refine src_zip2 rfl F9 N9 (by first | exact Nat.succ_pos _ | with_reducible assumption | omega | (dsimp only; first | exact Nat.succ_pos _ | with_reducible assumption | omega)) (News.isList N9 (by walk_at "my mem")) (News.isList N9 (by walk_at "my mem")) ?_
    intro I fp wr St Mid h'' S hpy
    refine wpAny_mono hpy ?_ (fun _ _ x => x)
    rintro _ _ ⟨rfl, rfl⟩
    have hnl9 : (rowN TR).length = (rowF numI 0 TR).length := by unfold rowN; rw [List.length_map]
    have hrl9 := hrs'.length
    have hpl9 := hps'.length
    have htl9 := tok9.len
    have hmin9 : min rs'.toArray.size ps'.toArray.size = (rowN TR).length := by rw [List.size_toArray, List.size_toArray]; omega
    rw [hmin9] at S
    refine cat2 S (P2 := fun i x y => ∃ (n : Nat) (p : Int) (t u : Tok), (rowN TR)[i]? = some n ∧ n < 512 ∧ pn'[i]? = some p ∧ x = .int (n : Int) t ∧ y = .int p u) (J := fun i ys nw => ColJ pn' (rowN TR) i ys nw ∧ AllIn9 _ nw) ?h3 (by decide) rfl rfl (by decide) (by decide) ⟨ColJ.nil, fun _ hp => hp⟩ ?stepc ?finc
    case h3 =>
      rintro i vals ⟨x, y, h1, h2, rfl⟩
      obtain ⟨n, t, h3, h4, rfl⟩ := row_at tok9.wf hrs' (by simpa using h1)
      obtain ⟨p, u, h5, rfl⟩ := ints_at hps' (by simpa using h2)
      exact ⟨_, _, rfl, n, p, t, u, h3, h4, h5, rfl, rfl⟩
    case stepc =>
      intro i c made rest C oC D m₂ h tk hi hV hJ hsub hoC htk F N hCD hoff
      obtain ⟨x, y, ⟨n, p, t1, t2, hn1, hn2, hp1, rfl, rfl⟩, hm1, hm2⟩ := hV
      refine body_list (by rw [hJ.1.1, sizeLine_eq]; omega) hCD hoff hoC ?_
      k_steps
      (rename News _ _ _ _ => N9); (rename Fr _ _ _ _ => F9)
      exact ⟨_, _, [_], rfl, (by first | exact Nat.succ_pos _ | with_reducible assumption | omega | (dsimp only; first | exact Nat.succ_pos _ | with_reducible assumption | omega)), F9, N9, (fun q hq r hr => by rw [List.mem_singleton.mp hq]; exact hoff' _ hr), hJ.1.snoc hn1 hp1 hv', fun q hq => List.mem_cons_of_mem _ (hJ.2 q hq)⟩
    case finc =>
      intro c made3 hJ D3 h3 tk3 htk3 F3 N3 hne3
      have hdue9 := hJ.2 (_, listOf ds'.toArray 0) (by walk_at "my mem")
      have hpa9 := hJ.2 (_, listOf ps'.toArray 0) (by walk_at "my mem")
      have htree3 : DG (fun a o => (a, o) ∈ made3) _ TR := htree9.mono (fun _ _ hp => hJ.2 _ (by walk_at "my mem"))
      have hcl9 : c.length = (rowN TR).length := hJ.1.1
      have hcol9 := hJ.1
      have hdl9 := hds'.length
      clear hJ S hpy F9 N9 htree9 hcut9 hrow9 hne3
      dsimp only
      k_steps
      (rename News _ _ _ _ => N9); (rename Fr _ _ _ _ => F9)
      unfold Stop
      refine execs_toks (by first | exact Nat.succ_pos _ | with_reducible assumption | omega | (dsimp only; first | exact Nat.succ_pos _ | with_reducible assumption | omega)) ?_
      intro tk9 htk9
      dsimp only
      refine comp_AT (h₀ := s.heap) (L := L') (cl := _) F9 (by with_unfolding_all rfl) (by decide) rfl (by decide) (fun _ => rfl) rfl (by with_unfolding_all rfl) rfl rfl ?_
      k_steps
      (rename News _ _ _ _ => N9); (rename Fr _ _ _ _ => F9)
      unfold Stop
      refine src_zip3 rfl F9 N9 (by first | exact Nat.succ_pos _ | with_reducible assumption | omega | (dsimp only; first | exact Nat.succ_pos _ | with_reducible assumption | omega)) (News.isList N9 (by walk_at "my mem")) (News.isList N9 (by walk_at "my mem")) (xs := ds'.toArray) (ys := ps'.toArray) (zs := c.toArray) (News.isList N9 (by walk_at "my mem")) (by rw [List.size_toArray, List.size_toArray]; omega) (by rw [List.size_toArray, List.size_toArray]; omega) ?_
      intro I fp wr St Mid h'' S hpy
      refine wpAny_mono hpy ?_ (fun _ _ x => x)
      rintro _ _ ⟨rfl, rfl⟩
      have hds9 : ds'.toArray.size = (rowN TR).length := by rw [List.size_toArray]; omega
      rw [hds9] at S
      refine cat3 S (P3 := fun i x y u => ∃ (n : Nat) (p : Int) (t1 t2 : Tok), (rowN TR)[i]? = some n ∧ n < 512 ∧ pn'[i]? = some p ∧ x = .int (n : Int) t1 ∧ y = .int p t2 ∧ c[i]? = some u) (J := fun i ys nw => ys = [] ∧ AllIn9 _ nw) ?h3 (by decide) (by decide) (by decide) rfl rfl (by decide) (by decide) (by decide) ⟨rfl, fun _ hp => hp⟩ ?stepw ?finw
      case h3 =>
        rintro i vals ⟨x, y, u, h1, h2, h3, rfl⟩
        obtain ⟨n, t, h4, h5, rfl⟩ := row_at tok9.wf hds' (by simpa using h1)
        obtain ⟨p, t2, h6, rfl⟩ := ints_at hps' (by simpa using h2)
        exact ⟨_, _, _, rfl, n, p, t, t2, h4, h5, h6, rfl, rfl, by simpa using h3⟩
      case stepw =>
        intro i c' made rest C oC D m₂ h tk hi hV hJ hsub hoC htk F N hCD hoff
        obtain ⟨x, y, u, ⟨n, p, t1, t2, hn1, hn2, hp1, rfl, rfl, hc1⟩, hm1, hm2, hm3⟩ := hV
        obtain ⟨rfl, hJ2⟩ := hJ
        obtain ⟨cx, rfl, hft⟩ := hcol9.ftup (h := h) (fun q hq => (N q (List.mem_cons_of_mem _ (List.mem_cons_of_mem _ (hsub q (hJ2 q (by walk_at "my mem")))))).1) hi hn1 hp1 hc1
        refine body_no ?_ hoC ⟨rfl, hJ2⟩
        k_steps
        (rename News _ _ _ _ => N9); (rename Fr _ _ _ _ => F9)
        exact ⟨rfl, _, _, rfl, (by first | exact Nat.succ_pos _ | with_reducible assumption | omega | (dsimp only; first | exact Nat.succ_pos _ | with_reducible assumption | omega)), F9, N9⟩
      case finw =>
        intro c' made4 hJ D4 h4 tk4 htk4 F4 N4 hne4
        obtain ⟨rfl, hJ2⟩ := hJ
        have hcolm := hJ2 (_, LCg.lst c) (by walk_at "my mem")
        have htree4 : DG (fun a o => (a, o) ∈ made4) _ TR := htree3.mono (fun _ _ hp => hJ2 _ (by walk_at "my mem"))
        replace hcol9 := hcol9.mono (nw' := made4) (fun q hq => hJ2 q (by walk_at "my mem"))
        clear hJ2 S hpy F9 N9 htree3 hdue9 hpa9 hne4
        dsimp only
        k_steps
        unfold Stop
        (rename News _ _ _ _ => N9)
        refine eqTree (G := fun a o => (a, o) ∈ _) (d := .list []) (.list (vs := []) (by walk_at "my mem") .nil) (.list (vs := []) (by walk_at "my mem") .nil) (fun a o hp => (N9 _ hp).1) (by decide) (Nat.le_of_ble_eq_true rfl) ?_
        k_steps
        unfold Stop
        (rename News _ _ _ _ => N9); (rename Fr _ _ _ _ => F9)
        refine eqTree (G := fun a o => (a, o) ∈ _) (d := .list [.list [TR]]) (.list (by walk_at "my mem") (hdr'.mono (fun _ _ hp => by walk_at "my mem"))) (.list (vs := [_]) (by walk_at "my mem") (.one (.list (vs := [_]) (by walk_at "my mem") (.one (htree4.mono (fun _ _ hp => by walk_at "my mem")))))) (fun a o hp => (N9 _ hp).1) (by have := tok9.ht; simp [D.ht, htL]; omega) (Nat.le_of_ble_eq_true rfl) ?_
        k_steps
        (rename Fr _ _ _ _ => F9)
        exact ret _ _ (by first | exact Nat.succ_pos _ | with_reducible assumption | omega | (dsimp only; first | exact Nat.succ_pos _ | with_reducible assumption | omega)) (Fr.keep F9)
end
section
open PySem PySem.W PySem.Calls PyProof.Rows PySem.W.X
/- The names below are kept taken on purpose. For each written constant of the text the head's tool (o_head) lays a second copy, with strings spelt out,
   and a proof that both are equal; these proofs are 19 MB, too much beside the lid of a compiled file. Where the copy's name is taken the tool goes on
   without the copy, and the kernel checks the same equations over the constants themselves. The names stand under the theorem's own name (whole). -/
theorem whole.tw5699625675697174247 : True := trivial
theorem whole.tw6416634858453334624 : True := trivial
theorem whole.tw14031613983174702221 : True := trivial
theorem whole.tw13285438998962464343 : True := trivial
theorem whole.tw11876454138822706389 : True := trivial
theorem whole.tw6266228650988000492 : True := trivial
theorem whole.tw7509650053966640704 : True := trivial
theorem whole.tw1640677438868554593 : True := trivial
theorem whole.tw11836910150536664915 : True := trivial
theorem whole.tw2349701861695252166 : True := trivial
theorem whole.tw7856580471358416282 : True := trivial
theorem whole.tw10887019763833697050 : True := trivial
theorem whole.tw11401351377558187561 : True := trivial
theorem whole.tw9121730484126507938 : True := trivial
theorem whole.tw8289003193492261950 : True := trivial
theorem whole.tw12179455670472476543 : True := trivial
theorem whole.tw2168223474955763204 : True := trivial
theorem whole.tw7276013540153241084 : True := trivial
theorem whole.tw14381574177426341226 : True := trivial
theorem whole.tw8615399842404961663 : True := trivial
theorem whole.tw7466904020207815869 : True := trivial
theorem whole.tw14756447051001558117 : True := trivial
theorem whole.tw14573859528127573579 : True := trivial
theorem whole.tw17395194986337826024 : True := trivial
theorem whole.tw14654356449610600485 : True := trivial
theorem whole.tw1765076044715932963 : True := trivial
theorem whole.tw1393339623888494026 : True := trivial
theorem whole.tw9951143050096045611 : True := trivial
theorem whole.tw3166543957339863982 : True := trivial
theorem whole.tw16741440440132755172 : True := trivial
theorem whole.tw15835130817642446534 : True := trivial
theorem whole.tw13760198194640045919 : True := trivial
theorem whole.tw13974613887430780637 : True := trivial
theorem whole.tw14138553856905868755 : True := trivial
theorem whole.tw5438831827131416888 : True := trivial
theorem whole.tw285988719286631819 : True := trivial
theorem whole.tw3798757254938238448 : True := trivial
theorem whole.tw14011127081917711036 : True := trivial
theorem whole.tw21144270241317603 : True := trivial
theorem whole.tw17221409760620009834 : True := trivial
theorem whole.tw6888942637506950926 : True := trivial
theorem whole.tw9654072969724333583 : True := trivial
theorem whole.tw17700112632457955127 : True := trivial
theorem whole.tw17075553230084287909 : True := trivial
theorem whole.tw9291207489156913572 : True := trivial
theorem whole.tw5942346508108547180 : True := trivial
theorem whole.tw6356627984389668255 : True := trivial
theorem whole.tw9501391760213346845 : True := trivial
theorem whole.tw16833342545340116652 : True := trivial
theorem whole.tw3085902745639715626 : True := trivial
theorem whole.tw7525632177321363660 : True := trivial
theorem whole.tw6525215580464160042 : True := trivial
theorem whole.tw7056001396292377188 : True := trivial
theorem whole.tw14661705875561194100 : True := trivial
theorem whole.tw18174217711786252908 : True := trivial
theorem whole.tw8444963059077079450 : True := trivial
theorem whole.tw7868544009499267292 : True := trivial
theorem whole.tw10499325594661192776 : True := trivial
theorem whole.tw9406530864695525851 : True := trivial
theorem whole.tw5233578499609466721 : True := trivial
theorem whole.tw4772658413541480157 : True := trivial
theorem whole.tw7689902935678670512 : True := trivial
theorem whole.tw1469139166737108290 : True := trivial
theorem whole.tw8109663874093803249 : True := trivial
theorem whole.tw6290923202673413122 : True := trivial
theorem whole.tw6772379921613518395 : True := trivial
theorem whole.tw10301362462094837657 : True := trivial
theorem whole.tw4357746044423742650 : True := trivial
theorem whole.tw8243020233432551205 : True := trivial
theorem whole.tw10339747121181971505 : True := trivial
theorem whole.tw10025635815308576066 : True := trivial
theorem whole.tw1902754551582867561 : True := trivial
theorem whole.tw11116944545036436439 : True := trivial
theorem whole.tw10590843552420965350 : True := trivial
theorem whole.tw17169624498616045403 : True := trivial
theorem whole.tw3687826684616867901 : True := trivial
theorem whole.tw14492196311604417308 : True := trivial
theorem whole.tw5277582801102665213 : True := trivial
theorem whole.tw4918820536221260690 : True := trivial
theorem whole.tw5833760311655045577 : True := trivial
theorem whole.tw10379991877525085312 : True := trivial
theorem whole.tw15604012148470656138 : True := trivial
theorem whole.tw5938623499991607928 : True := trivial
theorem whole.tw8181180424491326830 : True := trivial
theorem whole.tw17781206938751360472 : True := trivial
theorem whole.tw6150244297128479101 : True := trivial
theorem whole.tw12442016628978143412 : True := trivial
theorem whole.tw14395644662136614805 : True := trivial
theorem whole.tw16731332320388202666 : True := trivial
theorem whole.tw7101197657001211085 : True := trivial
theorem whole.tw2290268214366725154 : True := trivial
theorem whole.tw12562849145585476731 : True := trivial
theorem whole.tw1266484639899004939 : True := trivial
theorem whole.tw4479364801722962140 : True := trivial
theorem whole.tw6891315699540082446 : True := trivial
theorem whole.tw1488662743745869538 : True := trivial
theorem whole.tw9081442686682602634 : True := trivial
theorem whole.tw8398797258006769423 : True := trivial
theorem whole.tw2912573282932879776 : True := trivial
theorem whole.tw842793390314483620 : True := trivial
theorem whole.tw13334927893685096626 : True := trivial
theorem whole.tw11985420754881014295 : True := trivial
theorem whole.tw15089273742334493110 : True := trivial
theorem whole.tw9733464779038806419 : True := trivial
theorem whole.tw1363506702145506021 : True := trivial
theorem whole.tw13468923340822585488 : True := trivial
theorem whole.tw17469375360275711045 : True := trivial
theorem whole.tw10798131782317453341 : True := trivial
theorem whole.tw4337987958061720545 : True := trivial
theorem whole.tw9775085227918541326 : True := trivial
theorem whole.tw10007520593648235073 : True := trivial
theorem whole.tw1182916100746360932 : True := trivial
theorem whole.tw9235561108164731721 : True := trivial
theorem whole.tw5477020428343274486 : True := trivial
theorem whole.tw18135788421098096370 : True := trivial
theorem whole.tw17529894129228449367 : True := trivial
theorem whole.tw17092094596097150618 : True := trivial
theorem whole.tw4672207989499910625 : True := trivial
theorem whole.tw9707250908836423824 : True := trivial
set_option Elab.async true in
theorem whole : PySem.Challenge.rw_oc0151_02.Holds := by
  (w_on; o_law; o_head (kHook heapK heapAs (fun _ => by kernel_rfl)); (case hw => w_witness2))
  k_fill
  intro w s₀ s₁ mg mb G Y fa o pm cd doc dV kV ho hd hcd hD hmg hg args vals as hpre hlay hrd hwl hlo
  have KX := kIn_of Y
  refine Ground.open G ?_
  intro T B D TE TW
  wrow_args hpre hlay hrd hwl hlo
  x_fa T KX hmg
  (rename IntsAre _ _ => hi); (rename ¬ _ => hc)
  clear hd hcd ho hmg
  have T' : TT _ _ _ _ := T
  refine wpAny_around (A := AG 400 100) (law_call KX T' (by assumption) hi (by omega) fun h' tk' _ kk => ?_) rfl (by decide) (.inl rfl) (.inr rfl) (by decide)
  exact GoodW.toG ⟨.inl ⟨.bool true, .bool true, [], rfl, (fun _ => rfl), .bool true, (by first | rfl | wrow_post), (fun _ => ⟨List.nodup_nil, (fun _ hp => nomatch hp)⟩)⟩, kk, rfl, hg⟩
end
end Mine
theorem PySem.Challenge.cw_oc0151_02_holds : PySem.Challenge.rw_oc0151_02.Holds := by
  exact Mine.whole
#print axioms PySem.Challenge.cw_oc0151_02_holds
