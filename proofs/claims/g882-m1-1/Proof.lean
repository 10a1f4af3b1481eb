import JvmDerived
import JvmDerived.Pilot.@@N@@Statement
import JvmDerived.Pilot.@@N@@Code
set_option linter.unusedVariables false
set_option linter.unusedSimpArgs false
namespace Jvm.RoadKit
open Sem ClassFile Op Lib Jvm.Stand Jvm.Free Jvm.LawKit
section New
variable {p : Program} {l : Launch} {e : Env} {R : Room} {s : State} {m : MethodId} {args : Array Value} {below : List Frame} {meth : Method} {c : Code} {T : State} {locs : List Loc} {cells slots : Nat}
theorem retI (X : Stand p l e R s m args below meth c T locs cells slots) (hx : p.tables.exec = Jvm.exec) {pc : Nat} {Ls : Array Slot} {z : Int32} {rest : List Value} (hret : meth.sig.returnType = some .int) (hd : decode c.code pc = .ok (.ireturn, 1)) {fs : List Frame}
    (hl : ∀ (f : JFrame) (acts : List Action), f.method = m → f.locked = none → f.entered = [] → (doReturn e (T.setTop f) acts (some (.int z))).1 = T.setFrames fs) : Steps p.tables e below (T.setTop (mkF m pc Ls (.int z :: rest))) (T.setFrames fs) := by
  have hm' : T.vm.method? m = some meth := X.method'
  have hn : narrow .int (.int z) = .int z := rfl
  show Steps p.tables e below (T.setTop { method := m, pc := pc, locals := Ls, stack := _ :: rest, locked := none }) _
  jvm_step X.here [X.here.top, hx, hd, hm', hret, hn]
  first | (intro acts; rw [hl _ acts rfl rfl rfl]) | rw [hl _ _ rfl rfl rfl]
  exact Steps.refl _
end New
end Jvm.RoadKit
namespace Jvm.FP.Core
theorem own_nearest (x d : Nat) (h : 0 < d) : nearest (x * d) d = x := by
  unfold nearest
  rw [Nat.mul_mod_left, if_pos (by omega), Nat.mul_div_cancel _ h]
theorem own_log2_mul (c m : Nat) (h : c ≠ 0) : (c * 2 ^ m).log2 = c.log2 + m := by
  have hp : 0 < 2 ^ m := Nat.pow_pos (by decide)
  rw [Nat.log2_eq_iff (Nat.mul_ne_zero h (Nat.ne_of_gt hp))]
  have h1 : 2 ^ c.log2 ≤ c := Nat.log2_self_le h
  have h2 : c < 2 ^ (c.log2 + 1) := Nat.lt_log2_self
  constructor
  · rw [Nat.pow_add]; exact Nat.mul_le_mul_right _ h1
  · calc c * 2 ^ m < 2 ^ (c.log2 + 1) * 2 ^ m := Nat.mul_lt_mul_of_pos_right h2 hp
      _ = 2 ^ (c.log2 + m + 1) := by rw [← Nat.pow_add]; congr 1; omega
theorem own_log2_le (c : Nat) (h : c < 2 ^ 53) : c.log2 ≤ 52 := by
  by_cases h0 : c = 0
  · subst h0; decide
  · have := (Nat.log2_lt h0 (k := 53)).mpr h; omega
def own_NF (s : Bool) (c : Nat) (q : Int) : Datum := .fin s (c * 2 ^ (52 - c.log2)) ((c.log2 : Int) + q - 52)
theorem own_n_lo (c : Nat) (h0 : c ≠ 0) (h : c < 2 ^ 53) : 2 ^ 52 ≤ c * 2 ^ (52 - c.log2) ∧ c * 2 ^ (52 - c.log2) < 2 ^ 53 := by
  have hl := own_log2_le c h
  have h1 : 2 ^ c.log2 ≤ c := Nat.log2_self_le h0
  have h2 : c < 2 ^ (c.log2 + 1) := Nat.lt_log2_self
  constructor
  · calc 2 ^ 52 = 2 ^ c.log2 * 2 ^ (52 - c.log2) := by rw [← Nat.pow_add]; congr 1; omega
      _ ≤ c * 2 ^ (52 - c.log2) := Nat.mul_le_mul_right _ h1
  · calc c * 2 ^ (52 - c.log2) < 2 ^ (c.log2 + 1) * 2 ^ (52 - c.log2) := Nat.mul_lt_mul_of_pos_right h2 (Nat.pow_pos (by decide))
      _ = 2 ^ 53 := by rw [← Nat.pow_add]; congr 1; omega
theorem own_round (s : Bool) (c m : Nat) (q : Int) (h0 : c ≠ 0) (h : c < 2 ^ 53) (h1 : -1022 ≤ (c.log2 : Int) + m + q) (h2 : (c.log2 : Int) + m + q ≤ 1023) : round b64 (.fin s (c * 2 ^ m) q) = own_NF s c (q + m) := by
  have hl := own_log2_le c h
  have hn := own_n_lo c h0 h
  have hc0 : c * 2 ^ m ≠ 0 := Nat.mul_ne_zero h0 (Nat.ne_of_gt (Nat.pow_pos (by decide)))
  have hlead : leading (c * 2 ^ m) 1 = (c.log2 : Int) + m := by
    unfold leading
    rw [own_log2_mul c m h0, show Nat.log2 1 = 0 from by decide]
    have hk : ((((c.log2 + m : Nat) : Int)) - ((0 : Nat) : Int)).toNat = c.log2 + m := by omega
    have hk2 : (-(((((c.log2 + m : Nat) : Int)) - ((0 : Nat) : Int)))).toNat = 0 := by omega
    simp only [hk, hk2]
    rw [if_pos]
    · omega
    · rw [Nat.one_mul, Nat.pow_zero, Nat.mul_one, Nat.pow_add]
      exact Nat.mul_le_mul_right _ (Nat.log2_self_le h0)
  have hq : quantum b64 (c * 2 ^ m) 1 q = (c.log2 : Int) + m + q - 52 := by
    unfold quantum
    rw [hlead]
    have e1 : b64.qmin = -1074 := by decide
    have e2 : ((b64.p : Nat) : Int) = 53 := by decide
    rw [e1, e2]
    omega
  show roundRatio b64 s (c * 2 ^ m) 1 q = _
  unfold roundRatio
  rw [if_neg hc0, hq]
  unfold roundAt
  have hnear : nearest (unitsNum (c * 2 ^ m) q ((c.log2 : Int) + m + q - 52)) (unitsDen 1 q ((c.log2 : Int) + m + q - 52)) = c * 2 ^ (52 - c.log2) := by
    unfold unitsNum unitsDen
    by_cases hm : c.log2 + m ≤ 52
    · have e1 : (q - ((c.log2 : Int) + m + q - 52)).toNat = 52 - (c.log2 + m) := by omega
      have e2 : (((c.log2 : Int) + m + q - 52) - q).toNat = 0 := by omega
      rw [e1, e2]
      have := own_nearest (c * 2 ^ m * 2 ^ (52 - (c.log2 + m))) 1 (by decide)
      rw [Nat.mul_one] at this
      rw [Nat.pow_zero, Nat.mul_one, this, Nat.mul_assoc, ← Nat.pow_add]
      congr 2; omega
    · have e1 : (q - ((c.log2 : Int) + m + q - 52)).toNat = 0 := by omega
      have e2 : (((c.log2 : Int) + m + q - 52) - q).toNat = c.log2 + m - 52 := by omega
      rw [e1, e2, Nat.pow_zero, Nat.mul_one, Nat.one_mul]
      have : c * 2 ^ m = (c * 2 ^ (52 - c.log2)) * 2 ^ (c.log2 + m - 52) := by
        rw [Nat.mul_assoc, ← Nat.pow_add]; congr 2; omega
      rw [this]
      exact own_nearest _ _ (Nat.pow_pos (by decide))
  rw [hnear]
  unfold settle
  rw [if_pos (show c * 2 ^ (52 - c.log2) < 2 ^ b64.p from hn.2)]
  unfold bound
  rw [if_pos (show (c.log2 : Int) + m + q - 52 ≤ b64.qmax from by rw [show b64.qmax = 971 from by decide]; omega)]
  unfold own_NF
  congr 1
  omega
theorem own_round0 (s : Bool) (q : Int) : round b64 (.fin s 0 q) = .fin s 0 (-1074) := by
  show roundRatio b64 s 0 1 q = _
  unfold roundRatio
  rw [if_pos rfl]; rfl
theorem own_dec (n : Nat) (Q : Int) (h1 : 2 ^ 52 ≤ n) (h2 : n < 2 ^ 53) (h3 : -1074 ≤ Q) (h4 : Q ≤ 971) : encode b64 (.fin false n Q) < 2 ^ 63 ∧ decode b64 (encode b64 (.fin false n Q)) = .fin false n Q := by
  have e1 : b64.qmin = -1074 := by decide
  have e2 : b64.tails = 4503599627370496 := by decide
  have hE : encode b64 (.fin false n Q) = ((Q + 1074).toNat + 1) * 4503599627370496 + (n - 4503599627370496) := by
    show (if n < b64.tails then assemble b64 false 0 n else assemble b64 false ((Q - b64.qmin).toNat + 1) (n - b64.tails)) = _
    rw [e1, e2, if_neg (by omega)]
    show (0 * b64.exps + ((Q - -1074).toNat + 1)) * b64.tails + (n - 4503599627370496) = _
    rw [e2, Nat.zero_mul, Nat.zero_add, show Q - -1074 = Q + 1074 from by omega]
  have hb : ((Q + 1074).toNat + 1) ≤ 2046 := by omega
  have hT : fieldT b64 (((Q + 1074).toNat + 1) * 4503599627370496 + (n - 4503599627370496)) = n - 4503599627370496 := by
    unfold fieldT
    rw [show b64.tails = 4503599627370496 from by decide]
    omega
  have hF : fieldE b64 (((Q + 1074).toNat + 1) * 4503599627370496 + (n - 4503599627370496)) = (Q + 1074).toNat + 1 := by
    unfold fieldE
    rw [show b64.tails = 4503599627370496 from by decide, show b64.exps = 2048 from by decide]
    omega
  have hS : fieldS b64 (((Q + 1074).toNat + 1) * 4503599627370496 + (n - 4503599627370496)) = false := by
    unfold fieldS
    rw [show b64.tails = 4503599627370496 from by decide, show b64.exps = 2048 from by decide]
    have : (((Q + 1074).toNat + 1) * 4503599627370496 + (n - 4503599627370496)) / 4503599627370496 / 2048 % 2 = 0 := by omega
    rw [this]; rfl
  rw [hE]
  refine ⟨by omega, ?_⟩
  show (if fieldE b64 _ = b64.exps - 1 then (if fieldT b64 _ = 0 then Datum.inf (fieldS b64 _) else Datum.nan) else if fieldE b64 _ = 0 then Datum.fin (fieldS b64 _) (fieldT b64 _) b64.qmin else Datum.fin (fieldS b64 _) (b64.tails + fieldT b64 _) (b64.qmin + ((fieldE b64 _ : Int) - 1))) = _
  rw [hT, hF, hS, show b64.exps = 2048 from by decide, if_neg (by omega), if_neg (by omega), e2, e1]
  have x1 : 4503599627370496 + (n - 4503599627370496) = n := by omega
  have x2 : (-1074 : Int) + ((((Q + 1074).toNat + 1 : Nat) : Int) - 1) = Q := by omega
  rw [x1, x2]

def own_V (k : Nat) (q : Int) : Datum := if k = 0 then .fin false 0 (-1074) else own_NF false k q
theorem own_Vdec (k : Nat) (q : Int) (h : k < 2 ^ 53) (h1 : -1022 ≤ q) (h2 : q ≤ 971) : encode b64 (own_V k q) < 2 ^ 63 ∧ decode b64 (encode b64 (own_V k q)) = own_V k q := by
  unfold own_V
  by_cases h0 : k = 0
  · rw [if_pos h0]; decide
  · rw [if_neg h0]
    have hn := own_n_lo k h0 h
    have hl := own_log2_le k h
    exact own_dec _ _ hn.1 hn.2 (by omega) (by omega)
theorem own_Vround (k m : Nat) (q : Int) (h : k < 2 ^ 53) (h1 : -1022 ≤ q + m) (h2 : q + m ≤ 971) : round b64 (.fin false (k * 2 ^ m) q) = own_V k (q + m) := by
  unfold own_V
  by_cases h0 : k = 0
  · subst h0; rw [if_pos rfl, Nat.zero_mul]; exact own_round0 _ _
  · rw [if_neg h0]
    have hl := own_log2_le k h
    exact own_round false k m q h0 h (by omega) (by omega)
theorem own_toNat (n : Nat) (h : n < 2 ^ 63) : (UInt64.ofNat n).toNat = n := by
  rw [UInt64.toNat_ofNat']; exact Nat.mod_eq_of_lt (by omega)
theorem own_l2d (K : Int64) (h1 : 0 ≤ K.toInt) (h2 : K.toInt < 2 ^ 53) : l2d K = UInt64.ofNat (encode b64 (own_V K.toInt.toNat 0)) := by
  show UInt64.ofNat (encode b64 (round b64 (.fin (decide (K.toInt < 0)) K.toInt.natAbs 0))) = _
  have e1 : decide (K.toInt < 0) = false := by simp; omega
  have e2 : K.toInt.natAbs = K.toInt.toNat * 2 ^ 0 := by omega
  rw [e1, e2, own_Vround _ 0 0 (by omega) (by decide) (by decide)]
  rfl
theorem own_mulV (k : Nat) (q : Int) (c : UInt64) (r : Int) (hc : decode b64 c.toNat = .fin false (2 ^ 52) r) (h : k < 2 ^ 53) (h1 : -1022 ≤ q) (h2 : q ≤ 971) (h3 : -1022 ≤ q + r + 52) (h4 : q + r + 52 ≤ 971) : dmul (UInt64.ofNat (encode b64 (own_V k q))) c = UInt64.ofNat (encode b64 (own_V k (q + r + 52))) := by
  have hd := own_Vdec k q h h1 h2
  show UInt64.ofNat (encode b64 (round b64 (exactProduct (decode b64 (UInt64.ofNat (encode b64 (own_V k q))).toNat) (decode b64 c.toNat)))) = _
  rw [own_toNat _ hd.1, hd.2, hc]
  congr 2
  by_cases h0 : k = 0
  · have e : ∀ q', own_V k q' = .fin false 0 (-1074) := fun q' => by unfold own_V; rw [if_pos h0]
    rw [e, e]
    show round b64 (.fin false (0 * 2 ^ 52) _) = _
    rw [Nat.zero_mul]; exact own_round0 _ _
  · have e : ∀ q', own_V k q' = own_NF false k q' := fun q' => by unfold own_V; rw [if_neg h0]
    rw [e]
    show round b64 (.fin false (k * 2 ^ (52 - k.log2) * 2 ^ 52) ((k.log2 : Int) + q - 52 + r)) = _
    have hl := own_log2_le k h
    rw [Nat.mul_assoc, ← Nat.pow_add, own_Vround k (52 - k.log2 + 52) _ h (by omega) (by omega)]
    congr 1
    omega
theorem own_c1 : decode b64 (0x3CA0000000000000 : UInt64).toNat = .fin false (2 ^ 52) (-105) := by decide +kernel
theorem own_c2 : decode b64 (0x4340000000000000 : UInt64).toNat = .fin false (2 ^ 52) 1 := by decide +kernel
theorem own_cone : decode b64 (0x3FF0000000000000 : UInt64).toNat = .fin false (2 ^ 52) (-52) := by decide +kernel
theorem own_czero : decode b64 (0 : UInt64).toNat = .fin false 0 (-1074) := by decide +kernel
theorem own_ge0 (k : Nat) (h : k < 2 ^ 53) : dcmp (UInt64.ofNat (encode b64 (own_V k (-53)))) 0 = some .gt ∨ dcmp (UInt64.ofNat (encode b64 (own_V k (-53)))) 0 = some .eq := by
  have hd := own_Vdec k (-53) h (by decide) (by decide)
  have e0 : dcmp (UInt64.ofNat (encode b64 (own_V k (-53)))) 0 = order (own_V k (-53)) (.fin false 0 (-1074)) := by
    show order (decode b64 (UInt64.ofNat (encode b64 (own_V k (-53)))).toNat) (decode b64 (0 : UInt64).toNat) = _
    rw [own_toNat _ hd.1, hd.2, own_czero]
  rw [e0]
  unfold own_V
  by_cases h0 : k = 0
  · rw [if_pos h0]; right; decide
  · rw [if_neg h0]; left
    show some (compare (signed false (inUnits (k * 2 ^ (52 - k.log2)) ((k.log2 : Int) + -53 - 52) _)) (signed false (inUnits 0 (-1074) _))) = _
    congr 1
    have hz : signed false (inUnits 0 (-1074) (min ((k.log2 : Int) + -53 - 52) (-1074))) = 0 := by
      show ((0 * 2 ^ _ : Nat) : Int) = 0
      rw [Nat.zero_mul]; rfl
    rw [hz]
    have hp : (0 : Int) < signed false (inUnits (k * 2 ^ (52 - k.log2)) ((k.log2 : Int) + -53 - 52) (min ((k.log2 : Int) + -53 - 52) (-1074))) := by
      show (0 : Int) < ((k * 2 ^ (52 - k.log2) * 2 ^ _ : Nat) : Int)
      have : 0 < k * 2 ^ (52 - k.log2) * 2 ^ (((k.log2 : Int) + -53 - 52) - (min ((k.log2 : Int) + -53 - 52) (-1074))).toNat := Nat.mul_pos (Nat.mul_pos (Nat.pos_of_ne_zero h0) (Nat.pow_pos (by decide))) (Nat.pow_pos (by decide))
      omega
    exact Int.compare_eq_gt.mpr hp
theorem own_lt1 (k : Nat) (h : k < 2 ^ 53) : dcmp (UInt64.ofNat (encode b64 (own_V k (-53)))) 0x3FF0000000000000 = some .lt := by
  have hd := own_Vdec k (-53) h (by decide) (by decide)
  have e0 : dcmp (UInt64.ofNat (encode b64 (own_V k (-53)))) 0x3FF0000000000000 = order (own_V k (-53)) (.fin false (2 ^ 52) (-52)) := by
    show order (decode b64 (UInt64.ofNat (encode b64 (own_V k (-53)))).toNat) (decode b64 (0x3FF0000000000000 : UInt64).toNat) = _
    rw [own_toNat _ hd.1, hd.2, own_cone]
  rw [e0]
  unfold own_V
  by_cases h0 : k = 0
  · rw [if_pos h0]; decide +kernel
  · rw [if_neg h0]
    have hl := own_log2_le k h
    have hn := own_n_lo k h0 h
    show some (compare (signed false (inUnits (k * 2 ^ (52 - k.log2)) ((k.log2 : Int) + -53 - 52) (min ((k.log2 : Int) + -53 - 52) (-52)))) (signed false (inUnits (2 ^ 52) (-52) (min ((k.log2 : Int) + -53 - 52) (-52))))) = _
    have hm : min ((k.log2 : Int) + -53 - 52) (-52) = (k.log2 : Int) + -53 - 52 := by omega
    rw [hm]
    have u1 : inUnits (k * 2 ^ (52 - k.log2)) ((k.log2 : Int) + -53 - 52) ((k.log2 : Int) + -53 - 52) = k * 2 ^ (52 - k.log2) := by
      unfold inUnits; rw [Int.sub_self]; simp
    have u2 : 2 ^ 53 ≤ inUnits (2 ^ 52) (-52) ((k.log2 : Int) + -53 - 52) := by
      unfold inUnits
      have : (-52 - ((k.log2 : Int) + -53 - 52)).toNat = 53 - k.log2 := by omega
      rw [this, ← Nat.pow_add]
      exact Nat.pow_le_pow_right (by decide) (by omega)
    rw [u1]
    congr 1
    apply Int.compare_eq_lt.mpr
    show ((k * 2 ^ (52 - k.log2) : Nat) : Int) < ((inUnits (2 ^ 52) (-52) ((k.log2 : Int) + -53 - 52) : Nat) : Int)
    omega

-- HALVES
theorem own_near_scale (a b f : Nat) (hf : 0 < f) : nearest (a * f) (b * f) = nearest a b := by
  unfold nearest
  rw [Nat.mul_mod_mul_right, Nat.mul_div_mul_right _ _ hf]
  have e1 : (2 * (a % b * f) < b * f) ↔ (2 * (a % b) < b) := by
    rw [← Nat.mul_assoc]; exact Nat.mul_lt_mul_right hf
  have e2 : (b * f < 2 * (a % b * f)) ↔ (b < 2 * (a % b)) := by
    rw [← Nat.mul_assoc]; exact Nat.mul_lt_mul_right hf
  simp only [e1, e2]
theorem own_lead1 (n : Nat) (h : n ≠ 0) : leading n 1 = (n.log2 : Int) := by
  unfold leading
  rw [show Nat.log2 1 = 0 from by decide]
  have hk : (((n.log2 : Int)) - ((0 : Nat) : Int)).toNat = n.log2 := by omega
  have hk2 : (-((((n.log2 : Int)) - ((0 : Nat) : Int)))).toNat = 0 := by omega
  simp only [hk, hk2]
  rw [if_pos]
  · omega
  · rw [Nat.one_mul, Nat.pow_zero, Nat.mul_one]; exact Nat.log2_self_le h
theorem own_lead2 (n i : Nat) (h : n ≠ 0) : leading n (2 ^ i) = (n.log2 : Int) - i := by
  unfold leading
  rw [Nat.log2_two_pow]
  have hl := Nat.log2_self_le h
  show (if 2 ^ i * 2 ^ (((n.log2 : Int)) - (i : Int)).toNat ≤ n * 2 ^ (-(((n.log2 : Int)) - (i : Int))).toNat then ((n.log2 : Int)) - (i : Int) else _) = _
  rw [if_pos]
  by_cases hi : i ≤ n.log2
  · have e1 : (((n.log2 : Int)) - (i : Int)).toNat = n.log2 - i := by omega
    have e2 : (-(((n.log2 : Int)) - (i : Int))).toNat = 0 := by omega
    rw [e1, e2, ← Nat.pow_add, Nat.pow_zero, Nat.mul_one, show i + (n.log2 - i) = n.log2 from by omega]; exact hl
  · have e1 : (((n.log2 : Int)) - (i : Int)).toNat = 0 := by omega
    have e2 : (-(((n.log2 : Int)) - (i : Int))).toNat = i - n.log2 := by omega
    rw [e1, e2, Nat.pow_zero, Nat.mul_one]
    calc 2 ^ i = 2 ^ n.log2 * 2 ^ (i - n.log2) := by rw [← Nat.pow_add]; congr 1; omega
      _ ≤ n * 2 ^ (i - n.log2) := Nat.mul_le_mul_right _ hl
/-- the magnitude n * 2^e, written with the exponent j less -/
theorem own_shift (s : Bool) (n j : Nat) (e : Int) : roundRatio b64 s (n * 2 ^ j) 1 (e - j) = roundRatio b64 s n 1 e := by
  unfold roundRatio
  by_cases h0 : n = 0
  · subst h0; rw [Nat.zero_mul, if_pos rfl, if_pos rfl]
  · have h1 : n * 2 ^ j ≠ 0 := Nat.mul_ne_zero h0 (Nat.ne_of_gt (Nat.pow_pos (by decide)))
    rw [if_neg h0, if_neg h1]
    have hq : quantum b64 (n * 2 ^ j) 1 (e - j) = quantum b64 n 1 e := by
      unfold quantum
      rw [own_lead1 _ h1, own_lead1 _ h0, own_log2_mul _ _ h0]
      congr 1
      omega
    rw [hq]
    generalize quantum b64 n 1 e = q
    unfold roundAt
    congr 1
    unfold unitsNum unitsDen
    by_cases c1 : q ≤ e - j
    · have a1 : (e - j - q).toNat + j = (e - q).toNat := by omega
      have a2 : (q - (e - j)).toNat = 0 := by omega
      have a3 : (q - e).toNat = 0 := by omega
      rw [a2, a3, Nat.mul_assoc, ← Nat.pow_add, Nat.add_comm j, a1]
    · by_cases c2 : q ≤ e
      · have a1 : (e - j - q).toNat = 0 := by omega
        have a3 : (q - e).toNat = 0 := by omega
        have a4 : (e - q).toNat + (q - (e - j)).toNat = j := by omega
        rw [a1, a3, Nat.pow_zero, Nat.mul_one, Nat.one_mul, Nat.mul_one, ← a4, Nat.pow_add, ← Nat.mul_assoc]
        have := own_near_scale (n * 2 ^ (e - q).toNat) 1 (2 ^ (q - (e - ((e - q).toNat + (q - (e - j)).toNat : Nat))).toNat) (Nat.pow_pos (by decide))
        rw [Nat.one_mul] at this
        rw [a4] at this ⊢
        exact this
      · have a1 : (e - j - q).toNat = 0 := by omega
        have a2 : (e - q).toNat = 0 := by omega
        have a3 : (q - (e - j)).toNat = (q - e).toNat + j := by omega
        rw [a1, a2, a3, Nat.pow_zero, Nat.mul_one, Nat.mul_one, Nat.pow_add, ← Nat.mul_assoc]
        exact own_near_scale _ _ _ (Nat.pow_pos (by decide))
/-- a denominator that is a power of two -/
theorem own_den2 (s : Bool) (n i : Nat) (e : Int) : roundRatio b64 s n (2 ^ i) e = roundRatio b64 s n 1 (e - i) := by
  unfold roundRatio
  by_cases h0 : n = 0
  · rw [if_pos h0, if_pos h0]
  · rw [if_neg h0, if_neg h0]
    have hq : quantum b64 n (2 ^ i) e = quantum b64 n 1 (e - i) := by
      unfold quantum
      rw [own_lead1 _ h0, own_lead2 _ _ h0]
      congr 1
      omega
    rw [hq]
    generalize quantum b64 n 1 (e - i) = q
    unfold roundAt
    congr 1
    unfold unitsNum unitsDen
    by_cases c1 : q ≤ e - i
    · have a1 : (e - q).toNat = (e - i - q).toNat + i := by omega
      have a2 : (q - e).toNat = 0 := by omega
      have a3 : (q - (e - i)).toNat = 0 := by omega
      rw [a1, a2, a3, Nat.pow_add, ← Nat.mul_assoc, Nat.pow_zero, Nat.mul_one]
      have := own_near_scale (n * 2 ^ (e - i - q).toNat) 1 (2 ^ i) (Nat.pow_pos (by decide))
      rw [Nat.one_mul] at this
      exact this
    · by_cases c2 : q ≤ e
      · have a1 : (q - e).toNat = 0 := by omega
        have a2 : (e - i - q).toNat = 0 := by omega
        have a3 : i = (q - (e - i)).toNat + (e - q).toNat := by omega
        rw [a1, a2, Nat.pow_zero, Nat.mul_one, Nat.mul_one, Nat.one_mul]
        have e3 : 2 ^ i = 2 ^ (q - (e - i)).toNat * 2 ^ (e - q).toNat := by rw [← Nat.pow_add, ← a3]
        rw [e3]
        exact own_near_scale _ _ _ (Nat.pow_pos (by decide))
      · have a1 : (e - q).toNat = 0 := by omega
        have a2 : (e - i - q).toNat = 0 := by omega
        have a3 : (q - (e - i)).toNat = i + (q - e).toNat := by omega
        rw [a1, a2, a3, Nat.pow_add, Nat.one_mul]
theorem own_lead3 (x i : Nat) (h : x ≠ 0) : leading (3 * x) (3 * 2 ^ i) = (x.log2 : Int) - i := by
  unfold leading
  have hd : (3 * 2 ^ i).log2 = i + 1 := by rw [own_log2_mul 3 i (by decide), show Nat.log2 3 = 1 from by decide]; omega
  have h1 := Nat.log2_self_le h
  have h2 : x < 2 ^ (x.log2 + 1) := Nat.lt_log2_self
  have hc : (3 * x).log2 = x.log2 + 1 ∨ (3 * x).log2 = x.log2 + 2 := by
    by_cases q : 3 * x < 2 ^ (x.log2 + 2)
    · left; rw [Nat.log2_eq_iff (by omega)]
      refine ⟨?_, q⟩
      rw [Nat.pow_succ]; omega
    · right; rw [Nat.log2_eq_iff (by omega)]
      refine ⟨by omega, ?_⟩
      rw [show x.log2 + 2 + 1 = (x.log2 + 1) + 2 from by omega, Nat.pow_add]; omega
  rw [hd]
  rcases hc with hc | hc
  · rw [hc]
    have hk : ((x.log2 + 1 : Nat) : Int) - ((i + 1 : Nat) : Int) = (x.log2 : Int) - i := by omega
    rw [hk]
    show (if 3 * 2 ^ i * 2 ^ ((x.log2 : Int) - i).toNat ≤ 3 * x * 2 ^ (-((x.log2 : Int) - i)).toNat then (x.log2 : Int) - i else _) = _
    rw [if_pos]
    by_cases hi : i ≤ x.log2
    · have e1 : (((x.log2 : Int)) - (i : Int)).toNat = x.log2 - i := by omega
      have e2 : (-(((x.log2 : Int)) - (i : Int))).toNat = 0 := by omega
      rw [e1, e2, Nat.mul_assoc, ← Nat.pow_add, Nat.pow_zero, Nat.mul_one, show i + (x.log2 - i) = x.log2 from by omega]
      omega
    · have e1 : (((x.log2 : Int)) - (i : Int)).toNat = 0 := by omega
      have e2 : (-(((x.log2 : Int)) - (i : Int))).toNat = i - x.log2 := by omega
      rw [e1, e2, Nat.pow_zero, Nat.mul_one, Nat.mul_assoc]
      apply Nat.mul_le_mul_left
      calc 2 ^ i = 2 ^ x.log2 * 2 ^ (i - x.log2) := by rw [← Nat.pow_add]; congr 1; omega
        _ ≤ x * 2 ^ (i - x.log2) := Nat.mul_le_mul_right _ h1
  · rw [hc]
    have hk : ((x.log2 + 2 : Nat) : Int) - ((i + 1 : Nat) : Int) = (x.log2 : Int) - i + 1 := by omega
    rw [hk]
    show (if 3 * 2 ^ i * 2 ^ ((x.log2 : Int) - i + 1).toNat ≤ 3 * x * 2 ^ (-((x.log2 : Int) - i + 1)).toNat then (x.log2 : Int) - i + 1 else (x.log2 : Int) - i + 1 - 1) = _
    rw [if_neg]
    · omega
    · intro q
      by_cases hi : i ≤ x.log2 + 1
      · have e1 : ((x.log2 : Int) - i + 1).toNat = x.log2 + 1 - i := by omega
        have e2 : (-((x.log2 : Int) - i + 1)).toNat = 0 := by omega
        rw [e1, e2, Nat.mul_assoc, ← Nat.pow_add, Nat.pow_zero, Nat.mul_one, show i + (x.log2 + 1 - i) = x.log2 + 1 from by omega] at q
        omega
      · have e1 : ((x.log2 : Int) - i + 1).toNat = 0 := by omega
        have e2 : (-((x.log2 : Int) - i + 1)).toNat = i - (x.log2 + 1) := by omega
        rw [e1, e2, Nat.pow_zero, Nat.mul_one, Nat.mul_assoc] at q
        have q2 : 2 ^ i ≤ x * 2 ^ (i - (x.log2 + 1)) := Nat.le_of_mul_le_mul_left q (by decide)
        have q3 : x * 2 ^ (i - (x.log2 + 1)) < 2 ^ (x.log2 + 1) * 2 ^ (i - (x.log2 + 1)) := Nat.mul_lt_mul_of_pos_right h2 (Nat.pow_pos (by decide))
        rw [← Nat.pow_add, show x.log2 + 1 + (i - (x.log2 + 1)) = i from by omega] at q3
        omega
theorem own_den3 (s : Bool) (x i : Nat) (e : Int) : roundRatio b64 s (3 * x) (3 * 2 ^ i) e = roundRatio b64 s x (2 ^ i) e := by
  unfold roundRatio
  by_cases h0 : x = 0
  · rw [if_pos (by omega), if_pos h0]
  · rw [if_neg (by omega), if_neg h0]
    have hq : quantum b64 (3 * x) (3 * 2 ^ i) e = quantum b64 x (2 ^ i) e := by
      unfold quantum
      rw [own_lead3 _ _ h0, own_lead2 _ _ h0]
    rw [hq]
    generalize quantum b64 x (2 ^ i) e = q
    unfold roundAt
    congr 1
    unfold unitsNum unitsDen
    rw [Nat.mul_assoc, Nat.mul_assoc, Nat.mul_comm 3, Nat.mul_comm 3]
    exact own_near_scale _ _ _ (by decide)
/-- the double nearest to v / 2 -/
def own_G (v : Int) : Datum := roundRatio b64 (decide (v < 0)) v.natAbs 1 (-1)
def own_g (v : Int) : UInt64 := .ofNat (encode b64 (own_G v))
def own_R (v : Int) : Prop := v.natAbs < 2 ^ 53 ∨ (v % 2 = 0 ∧ v.natAbs < 2 ^ 54)
theorem own_sdec (s : Bool) (n : Nat) (Q : Int) (h1 : 2 ^ 52 ≤ n) (h2 : n < 2 ^ 53) (h3 : -1074 ≤ Q) (h4 : Q ≤ 971) : encode b64 (.fin s n Q) < 2 ^ 64 ∧ decode b64 (encode b64 (.fin s n Q)) = .fin s n Q := by
  have e1 : b64.qmin = -1074 := by decide
  have e2 : b64.tails = 4503599627370496 := by decide
  have hsn : s.toNat ≤ 1 := by cases s <;> decide
  have hE : encode b64 (.fin s n Q) = (s.toNat * 2048 + ((Q + 1074).toNat + 1)) * 4503599627370496 + (n - 4503599627370496) := by
    show (if n < b64.tails then assemble b64 s 0 n else assemble b64 s ((Q - b64.qmin).toNat + 1) (n - b64.tails)) = _
    rw [e1, e2, if_neg (by omega)]
    show (s.toNat * b64.exps + ((Q - -1074).toNat + 1)) * b64.tails + (n - 4503599627370496) = _
    rw [e2, show b64.exps = 2048 from by decide, show Q - -1074 = Q + 1074 from by omega]
  have hb : ((Q + 1074).toNat + 1) ≤ 2046 := by omega
  have hT : fieldT b64 ((s.toNat * 2048 + ((Q + 1074).toNat + 1)) * 4503599627370496 + (n - 4503599627370496)) = n - 4503599627370496 := by
    unfold fieldT
    rw [e2]
    omega
  have hF : fieldE b64 ((s.toNat * 2048 + ((Q + 1074).toNat + 1)) * 4503599627370496 + (n - 4503599627370496)) = (Q + 1074).toNat + 1 := by
    unfold fieldE
    rw [e2, show b64.exps = 2048 from by decide]
    omega
  have hS : fieldS b64 ((s.toNat * 2048 + ((Q + 1074).toNat + 1)) * 4503599627370496 + (n - 4503599627370496)) = s := by
    unfold fieldS
    rw [e2, show b64.exps = 2048 from by decide]
    have : ((s.toNat * 2048 + ((Q + 1074).toNat + 1)) * 4503599627370496 + (n - 4503599627370496)) / 4503599627370496 / 2048 % 2 = s.toNat := by omega
    rw [this]; cases s <;> rfl
  rw [hE]
  refine ⟨by omega, ?_⟩
  show (if fieldE b64 _ = b64.exps - 1 then (if fieldT b64 _ = 0 then Datum.inf (fieldS b64 _) else Datum.nan) else if fieldE b64 _ = 0 then Datum.fin (fieldS b64 _) (fieldT b64 _) b64.qmin else Datum.fin (fieldS b64 _) (b64.tails + fieldT b64 _) (b64.qmin + ((fieldE b64 _ : Int) - 1))) = _
  rw [hT, hF, hS, show b64.exps = 2048 from by decide, if_neg (by omega), if_neg (by omega), e2, e1]
  have x1 : 4503599627370496 + (n - 4503599627370496) = n := by omega
  have x2 : (-1074 : Int) + ((((Q + 1074).toNat + 1 : Nat) : Int) - 1) = Q := by omega
  rw [x1, x2]
theorem own_toNat64 (n : Nat) (h : n < 2 ^ 64) : (UInt64.ofNat n).toNat = n := by
  rw [UInt64.toNat_ofNat']; exact Nat.mod_eq_of_lt h
/-- what the bits of own_g v say: the number v / 2, in its own digits -/
theorem own_gdec (v : Int) (h : own_R v) : ∃ (n : Nat) (Q : Int), own_G v = .fin (decide (v < 0)) n Q ∧ decode b64 (own_g v).toNat = .fin (decide (v < 0)) n Q ∧ Q ≤ 0 ∧ (∀ e : Int, e ≤ Q → e ≤ -1 → n * 2 ^ (Q - e).toNat = v.natAbs * 2 ^ (-1 - e).toNat) ∧ (Q = 0 → n * 2 = v.natAbs) := by
  by_cases h0 : v = 0
  · subst h0
    refine ⟨0, -1074, rfl, by decide +kernel, by decide, fun e _ _ => by rw [Nat.zero_mul]; show 0 = (0 : Int).natAbs * _; rw [Int.natAbs_zero, Nat.zero_mul], by decide⟩
  · have key : ∃ (c : Nat) (q : Int), c ≠ 0 ∧ c < 2 ^ 53 ∧ (q = -1 ∨ q = 0) ∧ v.natAbs = c * 2 ^ (q + 1).toNat ∧ own_G v = own_NF (decide (v < 0)) c q := by
      by_cases hc : v.natAbs < 2 ^ 53
      · refine ⟨v.natAbs, -1, by omega, hc, Or.inl rfl, by simp, ?_⟩
        have := own_round (decide (v < 0)) v.natAbs 0 (-1) (by omega) hc (by have := own_log2_le v.natAbs hc; omega) (by have := own_log2_le v.natAbs hc; omega)
        rw [Nat.pow_zero, Nat.mul_one] at this
        exact this
      · rcases h with h | ⟨h, h'⟩
        · exact absurd h hc
        · have hv : v.natAbs = v.natAbs / 2 * 2 ^ 1 := by omega
          have hl : v.natAbs / 2 < 2 ^ 53 := by omega
          refine ⟨v.natAbs / 2, 0, by omega, hl, Or.inr rfl, hv, ?_⟩
          have := own_round (decide (v < 0)) (v.natAbs / 2) 1 (-1) (by omega) hl (by have := own_log2_le _ hl; omega) (by have := own_log2_le _ hl; omega)
          rw [← hv] at this
          exact this
    obtain ⟨c, q, c0, c1, hq, hv, hG⟩ := key
    have hn := own_n_lo c c0 c1
    have hl := own_log2_le c c1
    have hd := own_sdec (decide (v < 0)) (c * 2 ^ (52 - c.log2)) ((c.log2 : Int) + q - 52) hn.1 hn.2 (by omega) (by omega)
    refine ⟨c * 2 ^ (52 - c.log2), (c.log2 : Int) + q - 52, hG, ?_, by omega, fun e he he1 => ?_, fun hQ => ?_⟩
    · show decode b64 (UInt64.ofNat (encode b64 (own_G v))).toNat = _
      rw [hG]
      unfold own_NF
      rw [own_toNat64 _ hd.1]
      exact hd.2
    · rw [hv, Nat.mul_assoc, Nat.mul_assoc, ← Nat.pow_add, ← Nat.pow_add]
      congr 2
      omega
    · rw [hv]
      have : c.log2 = 52 ∧ q = 0 := by omega
      rw [this.1, this.2]; simp
theorem own_signed (v : Int) (t : Bool) (k : Nat) (h : v ≠ 0 → t = decide (v < 0)) : signed t (v.natAbs * 2 ^ k) = v * 2 ^ k := by
  by_cases h0 : v = 0
  · subst h0
    rw [Int.natAbs_zero, Nat.zero_mul, Int.zero_mul]
    cases t <;> rfl
  · rw [h h0]
    unfold signed
    by_cases hv : v < 0
    · rw [decide_eq_true hv, if_pos rfl]
      have : ((v.natAbs : Nat) : Int) = -v := by omega
      rw [Int.natCast_mul, this, Int.neg_mul, Int.neg_neg, Int.natCast_pow]; rfl
    · rw [decide_eq_false hv, if_neg (by decide)]
      have : ((v.natAbs : Nat) : Int) = v := by omega
      rw [Int.natCast_mul, this, Int.natCast_pow]; rfl
theorem own_sum (x y : Int) (n m : Nat) (Q R : Int) (t : Bool) (ht : y ≠ 0 → t = decide (y < 0)) (hQ : Q ≤ 0) (hR : R ≤ 0)
    (hx : ∀ e : Int, e ≤ Q → e ≤ -1 → n * 2 ^ (Q - e).toNat = x.natAbs * 2 ^ (-1 - e).toNat) (hx0 : Q = 0 → n * 2 = x.natAbs)
    (hy : ∀ e : Int, e ≤ R → e ≤ -1 → m * 2 ^ (R - e).toNat = y.natAbs * 2 ^ (-1 - e).toNat) (hy0 : R = 0 → m * 2 = y.natAbs) :
    round b64 (exactSum (.fin (decide (x < 0)) n Q) (.fin t m R)) = own_G (x + y) := by
  have hz : x + y = 0 → (decide (x < 0) && t) = false := by
    intro q
    by_cases h0 : y = 0
    · have : x = 0 := by omega
      subst this; rfl
    · rw [ht h0]
      by_cases h1 : x < 0
      · rw [decide_eq_false (show ¬ y < 0 from by omega)]; simp
      · rw [decide_eq_false h1]; rfl
  show roundRatio b64 (sumSign (decide (x < 0)) t (sumUnits (decide (x < 0)) n Q t m R (min Q R))) (sumUnits (decide (x < 0)) n Q t m R (min Q R)).natAbs 1 (min Q R) = roundRatio b64 (decide (x + y < 0)) (x + y).natAbs 1 (-1)
  by_cases he : min Q R ≤ -1
  · have hU : sumUnits (decide (x < 0)) n Q t m R (min Q R) = (x + y) * 2 ^ (-1 - min Q R).toNat := by
      show signed (decide (x < 0)) (n * 2 ^ (Q - min Q R).toNat) + signed t (m * 2 ^ (R - min Q R).toNat) = _
      rw [hx _ (by omega) he, hy _ (by omega) he, own_signed x _ _ (fun _ => rfl), own_signed y t _ ht, Int.add_mul]
    rw [hU]
    have hp : (0 : Int) < 2 ^ (-1 - min Q R).toNat := Int.pow_pos (by decide)
    have hs : sumSign (decide (x < 0)) t ((x + y) * 2 ^ (-1 - min Q R).toNat) = decide (x + y < 0) := by
      unfold sumSign
      by_cases h0 : x + y = 0
      · rw [h0, Int.zero_mul, if_pos rfl, hz h0]; rfl
      · rw [if_neg (Int.mul_ne_zero h0 (Int.ne_of_gt hp))]
        congr 1
        apply propext
        constructor
        · intro q
          by_cases h : x + y < 0
          · exact h
          · have := Int.mul_nonneg (show 0 ≤ x + y from by omega) (Int.le_of_lt hp); omega
        · intro q; exact Int.mul_neg_of_neg_of_pos q hp
    rw [hs]
    have hn : ((x + y) * 2 ^ (-1 - min Q R).toNat).natAbs = (x + y).natAbs * 2 ^ (-1 - min Q R).toNat := by
      rw [Int.natAbs_mul, Int.natAbs_pow]; rfl
    rw [hn]
    have := own_shift (decide (x + y < 0)) (x + y).natAbs (-1 - min Q R).toNat (-1)
    rw [show (-1 : Int) - ((-1 - min Q R).toNat : Int) = min Q R from by omega] at this
    exact this
  · have q0 : Q = 0 := by omega
    have r0 : R = 0 := by omega
    subst q0; subst r0
    have a1 := hx0 rfl
    have a2 := hy0 rfl
    have hU : sumUnits (decide (x < 0)) n 0 t m 0 (min 0 0) * 2 = x + y := by
      show (signed (decide (x < 0)) (n * 2 ^ ((0 : Int) - min 0 0).toNat) + signed t (m * 2 ^ ((0 : Int) - min 0 0).toNat)) * 2 = _
      have e1 := own_signed x (decide (x < 0)) 0 (fun _ => rfl)
      have e2 := own_signed y t 0 ht
      rw [Nat.pow_zero, Nat.mul_one, Int.pow_zero, Int.mul_one] at e1 e2
      rw [← a1] at e1; rw [← a2] at e2
      have d1 : ∀ (b : Bool) (z : Nat), signed b (z * 2) = signed b z * 2 := fun b z => by cases b <;> simp [signed] <;> omega
      rw [d1] at e1 e2
      show (signed (decide (x < 0)) (n * 1) + signed t (m * 1)) * 2 = _
      rw [Nat.mul_one, Nat.mul_one, Int.add_mul, e1, e2]
    generalize sumUnits (decide (x < 0)) n 0 t m 0 (min 0 0) = U at hU
    have hs : sumSign (decide (x < 0)) t U = decide (x + y < 0) := by
      unfold sumSign
      by_cases h0 : U = 0
      · rw [if_pos h0, hz (by omega)]
        exact (decide_eq_false (by omega)).symm
      · rw [if_neg h0]
        congr 1
        apply propext
        constructor <;> intro q <;> omega
    rw [hs]
    have := own_shift (decide (x + y < 0)) U.natAbs 1 0
    rw [show U.natAbs * 2 ^ 1 = (x + y).natAbs from by omega] at this
    exact this.symm
theorem own_gadd (x y : Int) (hx : own_R x) (hy : own_R y) : dadd (own_g x) (own_g y) = own_g (x + y) := by
  obtain ⟨n, Q, -, a2, a3, a4, a5⟩ := own_gdec x hx
  obtain ⟨m, R, -, b2, b3, b4, b5⟩ := own_gdec y hy
  show UInt64.ofNat (encode b64 (round b64 (exactSum (decode b64 (own_g x).toNat) (decode b64 (own_g y).toNat)))) = _
  rw [a2, b2, own_sum x y n m Q R _ (fun _ => rfl) a3 b3 a4 a5 b4 b5]
  rfl
theorem own_gsub (x y : Int) (hx : own_R x) (hy : own_R y) : dsub (own_g x) (own_g y) = own_g (x - y) := by
  obtain ⟨n, Q, -, a2, a3, a4, a5⟩ := own_gdec x hx
  obtain ⟨m, R, -, b2, b3, b4, b5⟩ := own_gdec y hy
  show UInt64.ofNat (encode b64 (round b64 (exactSum (decode b64 (own_g x).toNat) (negate (decode b64 (own_g y).toNat))))) = _
  rw [a2, b2]
  show UInt64.ofNat (encode b64 (round b64 (exactSum (.fin (decide (x < 0)) n Q) (.fin (!decide (y < 0)) m R)))) = _
  have hs := own_sum x (-y) n m Q R (!decide (y < 0)) (fun h => by
    by_cases q : y < 0
    · rw [decide_eq_true q, decide_eq_false (by omega)]; rfl
    · rw [decide_eq_false q, decide_eq_true (by omega)]; rfl) a3 b3 a4 a5 (fun e h1 h2 => by rw [Int.natAbs_neg]; exact b4 e h1 h2) (fun h => by rw [Int.natAbs_neg]; exact b5 h)
  rw [hs]
  rfl
/-- the digits of own_g v, moved by k places -/
theorem own_val (v : Int) (s : Bool) (n : Nat) (Q k : Int) (hx : ∀ e : Int, e ≤ Q → e ≤ -1 → n * 2 ^ (Q - e).toNat = v.natAbs * 2 ^ (-1 - e).toNat) : roundRatio b64 s n 1 (Q + k) = roundRatio b64 s v.natAbs 1 (-1 + k) := by
  have h1 := own_shift s n (Q - min Q (-1)).toNat (Q + k)
  have h2 := own_shift s v.natAbs (-1 - min Q (-1)).toNat (-1 + k)
  rw [hx (min Q (-1)) (by omega) (by omega)] at h1
  rw [show Q + k - ((Q - min Q (-1)).toNat : Int) = min Q (-1) + k from by omega] at h1
  rw [show -1 + k - ((-1 - min Q (-1)).toNat : Int) = min Q (-1) + k from by omega] at h2
  rw [← h1, h2]
theorem own_gl2d (a : Int64) : l2d a = own_g (2 * a.toInt) := by
  show UInt64.ofNat (encode b64 (roundRatio b64 (decide (a.toInt < 0)) a.toInt.natAbs 1 0)) = UInt64.ofNat (encode b64 (roundRatio b64 (decide (2 * a.toInt < 0)) (2 * a.toInt).natAbs 1 (-1)))
  have h := own_shift (decide (a.toInt < 0)) a.toInt.natAbs 1 0
  rw [show a.toInt.natAbs * 2 ^ 1 = (2 * a.toInt).natAbs from by omega] at h
  have hs : decide (2 * a.toInt < 0) = decide (a.toInt < 0) := by congr 1; apply propext; constructor <;> intro q <;> omega
  rw [hs, ← h]
  rfl
theorem own_two : decode b64 (4611686018427387904 : UInt64).toNat = .fin false (2 ^ 52) (-51) := by decide +kernel
theorem own_three : decode b64 (4613937818241073152 : UInt64).toNat = .fin false (3 * 2 ^ 51) (-51) := by decide +kernel
theorem own_gx2 (v : Int) (hv : own_R v) : dmul (own_g v) 4611686018427387904 = own_g (2 * v) := by
  obtain ⟨n, Q, -, a2, a3, a4, a5⟩ := own_gdec v hv
  show UInt64.ofNat (encode b64 (round b64 (exactProduct (decode b64 (own_g v).toNat) (decode b64 (4611686018427387904 : UInt64).toNat)))) = _
  rw [a2, own_two]
  show UInt64.ofNat (encode b64 (roundRatio b64 (decide (v < 0) != false) (n * 2 ^ 52) 1 (Q + -51))) = UInt64.ofNat (encode b64 (roundRatio b64 (decide (2 * v < 0)) (2 * v).natAbs 1 (-1)))
  have h := own_shift (decide (v < 0)) n 52 (Q + 1)
  rw [show Q + 1 - ((52 : Nat) : Int) = Q + -51 from by omega] at h
  have hs : decide (2 * v < 0) = decide (v < 0) := by congr 1; apply propext; constructor <;> intro q <;> omega
  have h2 := own_shift (decide (v < 0)) v.natAbs 1 0
  rw [show v.natAbs * 2 ^ 1 = (2 * v).natAbs from by omega] at h2
  rw [Bool.bne_false, h, own_val v _ n Q 1 a4, hs]
  exact congrArg (fun z => UInt64.ofNat (encode b64 z)) h2.symm
theorem own_quot (s : Bool) (n d : Nat) (Q r : Int) (h : d ≠ 0) : quotient b64 (.fin s n Q) (.fin false d r) = roundRatio b64 s n d (Q - r) := by
  show (if d = 0 then (if n = 0 then Datum.nan else Datum.inf (s != false)) else roundRatio b64 (s != false) n d (Q - r)) = _
  rw [if_neg h, Bool.bne_false]
theorem own_gdiv1 (v : Int) (hv : own_R v) : ddiv (own_g v) 4607182418800017408 = own_g v := by
  obtain ⟨n, Q, -, a2, a3, a4, a5⟩ := own_gdec v hv
  show UInt64.ofNat (encode b64 (quotient b64 (decode b64 (own_g v).toNat) (decode b64 (4607182418800017408 : UInt64).toNat))) = _
  rw [a2, show decode b64 (4607182418800017408 : UInt64).toNat = .fin false (2 ^ 52) (-52) from by decide +kernel]
  rw [own_quot _ _ _ _ _ (by decide), own_den2, show Q - -52 - ((52 : Nat) : Int) = Q + 0 from by omega, own_val v _ n Q 0 a4]
  rfl
theorem own_gdiv2 (d : Int) (hd : own_R (2 * d)) : ddiv (own_g (2 * d)) 4611686018427387904 = own_g d := by
  obtain ⟨n, Q, -, a2, a3, a4, a5⟩ := own_gdec (2 * d) hd
  show UInt64.ofNat (encode b64 (quotient b64 (decode b64 (own_g (2 * d)).toNat) (decode b64 (4611686018427387904 : UInt64).toNat))) = _
  rw [a2, own_two]
  have hs : decide (2 * d < 0) = decide (d < 0) := by congr 1; apply propext; constructor <;> intro q <;> omega
  have h2 := own_shift (decide (d < 0)) d.natAbs 1 (-1)
  rw [show d.natAbs * 2 ^ 1 = (2 * d).natAbs from by omega] at h2
  rw [own_quot _ _ _ _ _ (by decide), own_den2, show Q - -51 - ((52 : Nat) : Int) = Q + -1 from by omega, own_val (2 * d) _ n Q (-1) a4, hs]
  exact congrArg (fun z => UInt64.ofNat (encode b64 z)) h2
theorem own_gdiv3 (k : Int) (hk : (3 * k).natAbs < 2 ^ 53) : ddiv (own_g (3 * k)) 4613937818241073152 = own_g k := by
  obtain ⟨n, Q, a1, a2, a3, a4, a5⟩ := own_gdec (3 * k) (Or.inl hk)
  have hs : decide (3 * k < 0) = decide (k < 0) := by congr 1; apply propext; constructor <;> intro q <;> omega
  have hQ : Q ≤ -1 := by
    by_cases h : -1 < Q
    · have q0 : Q = 0 := by omega
      have b := a5 q0
      subst q0
      by_cases k0 : k = 0
      · subst k0
        have : own_G (3 * 0) = .fin false 0 (-1074) := rfl
        rw [this] at a1
        injection a1 with _ _ a1
        exact absurd a1 (by decide)
      · have hr := own_round (decide (3 * k < 0)) (3 * k).natAbs 0 (-1) (by omega) hk (by have := own_log2_le _ hk; omega) (by have := own_log2_le _ hk; omega)
        rw [Nat.pow_zero, Nat.mul_one] at hr
        have hr2 : own_G (3 * k) = own_NF (decide (3 * k < 0)) (3 * k).natAbs (-1 + ((0 : Nat) : Int)) := hr
        rw [hr2] at a1
        unfold own_NF at a1
        injection a1 with _ _ a1
        have := own_log2_le _ hk
        omega
    · omega
  have hn := a4 Q (Int.le_refl _) hQ
  rw [Int.sub_self] at hn
  have hn3 : n = 3 * (k.natAbs * 2 ^ (-1 - Q).toNat) := by
    have e : (3 * k).natAbs = 3 * k.natAbs := by omega
    rw [e, Nat.mul_assoc] at hn
    simpa using hn
  show UInt64.ofNat (encode b64 (quotient b64 (decode b64 (own_g (3 * k)).toNat) (decode b64 (4613937818241073152 : UInt64).toNat))) = _
  rw [a2, own_three]
  have h2 := own_shift (decide (k < 0)) k.natAbs (-1 - Q).toNat (-1)
  rw [show (-1 : Int) - ((-1 - Q).toNat : Int) = Q from by omega] at h2
  rw [own_quot _ _ _ _ _ (by decide), hn3, own_den3, own_den2, hs, show Q - -51 - ((51 : Nat) : Int) = Q from by omega, h2]
  rfl
theorem own_gmul (x y w : Int) (hx : own_R x) (hy : own_R y) (hw : x * y = 2 * w) : dmul (own_g x) (own_g y) = UInt64.ofNat (encode b64 (roundRatio b64 (decide (x < 0) != decide (y < 0)) w.natAbs 1 (-1))) := by
  obtain ⟨n, Q, -, a2, a3, a4, a5⟩ := own_gdec x hx
  obtain ⟨m, R, -, b2, b3, b4, b5⟩ := own_gdec y hy
  show UInt64.ofNat (encode b64 (round b64 (exactProduct (decode b64 (own_g x).toNat) (decode b64 (own_g y).toNat)))) = _
  rw [a2, b2]
  show UInt64.ofNat (encode b64 (roundRatio b64 (decide (x < 0) != decide (y < 0)) (n * m) 1 (Q + R))) = _
  congr 2
  generalize (decide (x < 0) != decide (y < 0)) = sg
  have e1 := a4 (min Q (-1)) (by omega) (by omega)
  have e2 := b4 (min R (-1)) (by omega) (by omega)
  have h1 := own_shift sg (n * m) ((Q - min Q (-1)).toNat + (R - min R (-1)).toNat) (Q + R)
  have hprod : n * m * 2 ^ ((Q - min Q (-1)).toNat + (R - min R (-1)).toNat) = w.natAbs * 2 ^ (1 + (-1 - min Q (-1)).toNat + (-1 - min R (-1)).toNat) := by
    have : n * m * 2 ^ ((Q - min Q (-1)).toNat + (R - min R (-1)).toNat) = (n * 2 ^ (Q - min Q (-1)).toNat) * (m * 2 ^ (R - min R (-1)).toNat) := by
      rw [Nat.pow_add]; ac_rfl
    rw [this, e1, e2]
    have hxy : x.natAbs * y.natAbs = w.natAbs * 2 := by rw [← Int.natAbs_mul, hw, Int.natAbs_mul]; show 2 * w.natAbs = _; omega
    rw [Nat.pow_add, Nat.pow_add, Nat.pow_one]
    calc x.natAbs * 2 ^ (-1 - min Q (-1)).toNat * (y.natAbs * 2 ^ (-1 - min R (-1)).toNat) = (x.natAbs * y.natAbs) * (2 ^ (-1 - min Q (-1)).toNat * 2 ^ (-1 - min R (-1)).toNat) := by ac_rfl
      _ = w.natAbs * 2 * (2 ^ (-1 - min Q (-1)).toNat * 2 ^ (-1 - min R (-1)).toNat) := by rw [hxy]
      _ = _ := by ac_rfl
  rw [hprod] at h1
  have h2 := own_shift sg w.natAbs (1 + (-1 - min Q (-1)).toNat + (-1 - min R (-1)).toNat) (-1)
  rw [show (-1 : Int) - ((1 + (-1 - min Q (-1)).toNat + (-1 - min R (-1)).toNat : Nat) : Int) = Q + R - (((Q - min Q (-1)).toNat + (R - min R (-1)).toNat : Nat) : Int) from by omega] at h2
  rw [← h1, h2]
theorem own_Grnd (v : Int) (h : v.natAbs ≤ 2 ^ 54 - 4) : ∃ M, own_R M ∧ own_g v = own_g M ∧ v - 1 ≤ M ∧ M ≤ v + 1 := by
  by_cases hR : own_R v
  · exact ⟨v, hR, rfl, by omega, by omega⟩
  · have h1 : 2 ^ 53 ≤ v.natAbs := by
      by_cases q : v.natAbs < 2 ^ 53
      · exact absurd (Or.inl q) hR
      · omega
    have h2 : v.natAbs % 2 = 1 := by
      by_cases q : v % 2 = 0
      · exact absurd (Or.inr ⟨q, by omega⟩) hR
      · omega
    have hc1 : 2 ^ 52 ≤ v.natAbs / 2 + v.natAbs / 2 % 2 := by omega
    have hc2 : v.natAbs / 2 + v.natAbs / 2 % 2 < 2 ^ 53 := by omega
    have hl : v.natAbs.log2 = 53 := (Nat.log2_eq_iff (by omega)).mpr ⟨h1, by omega⟩
    have hq : quantum b64 v.natAbs 1 (-1) = 0 := by
      unfold quantum
      rw [own_lead1 _ (by omega), hl]
      decide
    have hv : own_G v = .fin (decide (v < 0)) (v.natAbs / 2 + v.natAbs / 2 % 2) 0 := by
      unfold own_G roundRatio
      rw [if_neg (by omega), hq]
      unfold roundAt
      have hn : nearest (unitsNum v.natAbs (-1) 0) (unitsDen 1 (-1) 0) = v.natAbs / 2 + v.natAbs / 2 % 2 := by
        show nearest (v.natAbs * 1) 2 = _
        rw [Nat.mul_one]
        unfold nearest
        rw [h2, if_neg (by decide), if_neg (by decide)]
      rw [hn]
      unfold settle
      rw [if_pos (show _ < 2 ^ b64.p from hc2)]
      unfold bound
      rw [if_pos (by decide)]
    have hM : ∀ M : Int, M.natAbs = (v.natAbs / 2 + v.natAbs / 2 % 2) * 2 → (M < 0 ↔ v < 0) → own_G M = own_G v := by
      intro M hm hs
      rw [hv]
      unfold own_G
      rw [hm]
      have e := own_shift (decide (M < 0)) (v.natAbs / 2 + v.natAbs / 2 % 2) 1 0
      rw [Nat.pow_one, show (0 : Int) - ((1 : Nat) : Int) = -1 from by decide] at e
      rw [e]
      have r := own_round (decide (M < 0)) (v.natAbs / 2 + v.natAbs / 2 % 2) 0 0 (by omega) hc2 (by omega) (by have := own_log2_le _ hc2; omega)
      rw [Nat.pow_zero, Nat.mul_one] at r
      have r2 : roundRatio b64 (decide (M < 0)) (v.natAbs / 2 + v.natAbs / 2 % 2) 1 0 = own_NF (decide (M < 0)) (v.natAbs / 2 + v.natAbs / 2 % 2) (0 + ((0 : Nat) : Int)) := r
      rw [r2]
      have hlog : (v.natAbs / 2 + v.natAbs / 2 % 2).log2 = 52 := (Nat.log2_eq_iff (by omega)).mpr ⟨hc1, hc2⟩
      unfold own_NF
      rw [hlog]
      have : decide (M < 0) = decide (v < 0) := by congr 1; exact propext hs
      rw [this]
      congr 1
      simp
    by_cases hs : v < 0
    · refine ⟨-(((v.natAbs / 2 + v.natAbs / 2 % 2) * 2 : Nat) : Int), Or.inr ⟨by omega, by omega⟩, ?_, by omega, by omega⟩
      exact congrArg (fun z => UInt64.ofNat (encode b64 z)) (hM (-(((v.natAbs / 2 + v.natAbs / 2 % 2) * 2 : Nat) : Int)) (by omega) ⟨fun _ => hs, fun _ => by omega⟩).symm
    · refine ⟨(((v.natAbs / 2 + v.natAbs / 2 % 2) * 2 : Nat) : Int), Or.inr ⟨by omega, by omega⟩, ?_, by omega, by omega⟩
      exact congrArg (fun z => UInt64.ofNat (encode b64 z)) (hM (((v.natAbs / 2 + v.natAbs / 2 % 2) * 2 : Nat) : Int) (by omega) ⟨fun q => by omega, fun q => absurd q hs⟩).symm
theorem own_g0 : own_g 0 = 0 := by decide +kernel
theorem own_addz (sg : Bool) : dadd (own_g 0) (UInt64.ofNat (encode b64 (roundRatio b64 sg (0 : Int).natAbs 1 (-1)))) = own_g 0 := by cases sg <;> decide +kernel
theorem own_gmulp (x y w : Int) (hx : own_R x) (hy : own_R y) (hw : x * y = 2 * w) (hs : decide (x < 0) = decide (y < 0)) (hw0 : 0 ≤ w) : dmul (own_g x) (own_g y) = own_g w := by
  rw [own_gmul x y w hx hy hw, hs]
  show UInt64.ofNat (encode b64 (roundRatio b64 (decide (y < 0) != decide (y < 0)) w.natAbs 1 (-1))) = UInt64.ofNat (encode b64 (roundRatio b64 (decide (w < 0)) w.natAbs 1 (-1)))
  rw [bne_self_eq_false, decide_eq_false (show ¬ w < 0 from by omega)]
end Jvm.FP.Core
namespace Jvm.Pilot.@@N@@
open Jvm Jvm.ClassFile Sem Op Lib Jvm.Free Jvm.Stand Jvm.LawKit Jvm.RoadKit Bundle Jvm.Pilot.@@N@@.Jvm.D
theorem own_nm {a b : Addr} {l : List Addr} (h : a ≠ b) (r : a ∉ l) : a ∉ b :: l := fun q => (List.mem_cons.mp q).elim h r
theorem own_n0 {a : Addr} : a ∉ ([] : List Addr) := fun q => nomatch q
theorem own_nst {Z : State} {h : Heap} {a : Addr} {C : String} (F : Exa Z h a C) : ∃ c : Cell, h[a]? = some c ∧ c.vm.isStatics = false := by obtain ⟨c, k, h1, -, -, h4, -⟩ := F; exact ⟨c, h1, h4⟩
theorem own_nstV {Z : State} {h : Heap} {a : Addr} {k : ClassId} {ty : FieldType} {z : Int32} {vs : List Value} {dv : Value} (F : Arv Z h a k ty z vs dv) : ∃ c : Cell, h[a]? = some c ∧ c.vm.isStatics = false := by
  obtain ⟨c, A, -⟩ := F
  refine ⟨c, A.1, ?_⟩
  have q := A.2.1.1
  cases e : c.vm <;> first | rfl | exact absurd e (q _)
theorem own_q0 {h : Heap} : ∀ x ∈ ([] : List Addr), ∃ c : Cell, h[x]? = some c ∧ c.vm.isStatics = false := fun _ q => nomatch q
theorem own_qc {h : Heap} {a : Addr} {l : List Addr} (p : ∃ c : Cell, h[a]? = some c ∧ c.vm.isStatics = false) (r : ∀ x ∈ l, ∃ c : Cell, h[x]? = some c ∧ c.vm.isStatics = false) : ∀ x ∈ a :: l, ∃ c : Cell, h[x]? = some c ∧ c.vm.isStatics = false := fun x q => (List.mem_cons.mp q).elim (fun e => e ▸ p) (r x)
theorem own_sta_keep {Z : State} {h h' : Heap} {ws : List Addr} {C n d : String} {v : Value} (F : Sta Z h C n d v) (K : Keep h h' ws) (q : ∀ x ∈ ws, ∃ c : Cell, h[x]? = some c ∧ c.vm.isStatics = false) : Sta Z h' C n d v := by
  obtain ⟨cf, i, k, f, st, cell, h1, h2, h3, h4, h5, h6, h7⟩ := F
  refine ⟨cf, i, k, f, st, cell, h1, h2, h3, h4, K.2.1 _ _ h5 fun z => ?_, h6, h7⟩
  obtain ⟨c, g1, g2⟩ := q _ z
  cases h5.symm.trans g1; rw [h6] at g2; cases g2
theorem own_eqI {a b : Term} {args : Array Value} {first s : State} {o : Option Outcome} {idx : List Nat} {k : Int32} (h : (Jvm.Cond.eq a b).value args first o s idx = some true) (hb : b.eval args first o idx s = some (.int k)) : a.eval args first o idx s = some (.int k) := by
  obtain ⟨x, y, ha, hb', K, K'⟩ := cmp_v (Or.inl h)
  cases hb.symm.trans hb'
  obtain ⟨z, rfl⟩ := K'
  simp [Cond.value, ha, hb] at h
  rw [ha, h]
theorem own_eqR {a b : Term} {args : Array Value} {first s : State} {o : Option Outcome} {idx : List Nat} {k : Addr} (h : (Jvm.Cond.eq a b).value args first o s idx = some true) (hb : b.eval args first o idx s = some (.ref k)) : a.eval args first o idx s = some (.ref k) := by
  obtain ⟨x, y, ha, hb', K, K'⟩ := cmp_v (Or.inl h)
  cases hb.symm.trans hb'
  have q := gotT (eq_R ha hb K'.2 rfl) h
  rw [ha, q]
theorem own_i32 (x : Int32) : x.toInt = if x.toUInt32.toNat < 2^31 then (x.toUInt32.toNat : Int) else (x.toUInt32.toNat : Int) - 2^32 := by
  have h : x.toInt = x.toBitVec.toInt := rfl
  have h2 : x.toUInt32.toNat = x.toBitVec.toNat := rfl
  rw [h, h2, BitVec.toInt_eq_toNat_cond]
  split <;> split <;> omega
theorem own_mask (x m : Int32) (k : Nat) (hk : k ≤ 31) (hm : m.toUInt32.toNat = 2 ^ k - 1) : (x &&& m).toInt = x.toInt % 2 ^ k := by
  have e : (x &&& m).toUInt32.toNat = x.toUInt32.toNat % 2 ^ k := by
    rw [Int32.toUInt32_and, UInt32.toNat_and, hm, Nat.and_two_pow_sub_one_eq_mod]
  have hp : (2 ^ k : Nat) ≤ 2 ^ 31 := Nat.pow_le_pow_right (by decide) hk
  have hd : (2 ^ k : Nat) ∣ 2 ^ 32 := Nat.pow_dvd_pow 2 (by omega)
  have hpos : 0 < (2 ^ k : Nat) := Nat.pow_pos (by decide)
  have hlt : x.toUInt32.toNat % 2 ^ k < 2 ^ k := Nat.mod_lt _ hpos
  rw [own_i32 (x &&& m), e, if_pos (by omega), own_i32 x]
  have hc : ((2 : Int) ^ k) = ((2 ^ k : Nat) : Int) := by simp
  rw [hc]
  split
  · exact (Int.natCast_emod _ _)
  · obtain ⟨c, hc2⟩ := hd
    have : ((x.toUInt32.toNat : Int) - 2 ^ 32) = (x.toUInt32.toNat : Int) + ((2 ^ k : Nat) : Int) * (-(c : Int)) := by
      have : ((2 : Int) ^ 32) = ((2 ^ k : Nat) : Int) * (c : Int) := by exact_mod_cast hc2
      rw [this, Int.mul_neg]; rfl
    rw [this, Int.add_mul_emod_self_left]
    exact (Int.natCast_emod _ _)
theorem own_mod (y n : Int32) (hy : 0 ≤ y.toInt) (hn : 0 < n.toInt) : (y - y / n * n).toInt = y.toInt % n.toInt := by
  have b1 := y.toInt_lt; have b2 := n.toInt_lt
  have hd : (y / n).toInt = y.toInt / n.toInt := by
    rw [Int32.toInt_div_of_ne_right y n (by intro h; rw [h] at hn; exact absurd hn (by decide)), Int.tdiv_eq_ediv_of_nonneg hy]
  have h1 : 0 ≤ y.toInt / n.toInt := Int.ediv_nonneg hy (by omega)
  have h2 : y.toInt / n.toInt * n.toInt ≤ y.toInt := Int.ediv_mul_le _ (by omega)
  have h3 : 0 ≤ y.toInt / n.toInt * n.toInt := Int.mul_nonneg h1 (by omega)
  have hmul : (y / n * n).toInt = y.toInt / n.toInt * n.toInt := by
    rw [Int32.toInt_mul, hd]; apply Int.bmod_eq_of_le <;> omega
  rw [Int32.toInt_sub, hmul]
  have h4 := Int.emod_def y.toInt n.toInt
  rw [Int.mul_comm] at h4
  rw [h4]; apply Int.bmod_eq_of_le <;> omega
theorem own_pos (x : Int32) : 0 ≤ (x &&& 2147483647).toInt := by
  rw [own_mask x 2147483647 31 (by decide) (by decide)]; exact Int.emod_nonneg _ (by decide)
theorem own_add (x y : Int32) (h1 : -2147483648 ≤ x.toInt + y.toInt) (h2 : x.toInt + y.toInt < 2147483648) : (x + y).toInt = x.toInt + y.toInt := by
  rw [Int32.toInt_add]; apply Int.bmod_eq_of_le <;> omega
theorem own_and3 (x : Int32) : x &&& 3 = 0 ∨ x &&& 3 = 1 ∨ x &&& 3 = 2 ∨ x &&& 3 = 3 := by
  have h := own_mask x 3 2 (by decide) (by decide)
  have h2 : x.toInt % 2 ^ 2 = 0 ∨ x.toInt % 2 ^ 2 = 1 ∨ x.toInt % 2 ^ 2 = 2 ∨ x.toInt % 2 ^ 2 = 3 := by omega
  rcases h2 with q | q | q | q
  · exact Or.inl (Int32.toInt_inj.mp (by rw [h, q]; rfl))
  · exact Or.inr (Or.inl (Int32.toInt_inj.mp (by rw [h, q]; rfl)))
  · exact Or.inr (Or.inr (Or.inl (Int32.toInt_inj.mp (by rw [h, q]; rfl))))
  · exact Or.inr (Or.inr (Or.inr (Int32.toInt_inj.mp (by rw [h, q]; rfl))))
open Jvm.FP.Core (own_g own_R own_gadd own_gsub own_gmul own_gmulp own_gx2 own_gdiv1 own_gdiv2 own_gdiv3 own_gl2d own_Grnd own_g0 own_addz own_gdec)
theorem own_sub {x' y' : UInt64} {x y z : Int} (ex : x' = own_g x) (ey : y' = own_g y) (hx : own_R x) (hy : own_R y) (h : x - y = z) : FP.dsub x' y' = own_g z := by
  subst ex; subst ey; exact (own_gsub x y hx hy).trans (congrArg own_g h)
theorem own_ad {x' y' : UInt64} {x y z : Int} (ex : x' = own_g x) (ey : y' = own_g y) (hx : own_R x) (hy : own_R y) (h : x + y = z) : FP.dadd x' y' = own_g z := by
  subst ex; subst ey; exact (own_gadd x y hx hy).trans (congrArg own_g h)
theorem own_nn {v : Int} (h : own_R v) : Jvm.Free.Fl.NoNaN64 (own_g v) := by
  obtain ⟨n, Q, -, h2, -⟩ := own_gdec v h
  rw [Jvm.Free.Fl.noNaN64_no]
  show decide (FP.Core.decode FP.Core.b64 (own_g v).toNat = .nan) = false
  rw [h2]; rfl
abbrev own_Z (sg : Bool) : UInt64 := UInt64.ofNat (FP.Core.encode FP.Core.b64 (FP.Core.roundRatio FP.Core.b64 sg (0 : Int).natAbs 1 (-1)))
theorem own_nz (sg : Bool) : Jvm.Free.Fl.NoNaN64 (own_Z sg) := by cases sg <;> (rw [Jvm.Free.Fl.noNaN64_no]; decide +kernel)
theorem own_sg (x : Int) (c : Int) (hc : 0 < c) : decide (c * x < 0) = decide (x < 0) := by
  congr 1; apply propext
  constructor
  · intro q
    by_cases h : x < 0
    · exact h
    · have := Int.mul_nonneg (Int.le_of_lt hc) (show 0 ≤ x from by omega); omega
  · intro q; exact Int.mul_neg_of_pos_of_neg hc q
theorem own_tm (y n : Int64) (hn : 0 < n.toInt) : (y - y / n * n).toInt = y.toInt.tmod n.toInt := by
  have b1 := y.toInt_lt; have b2 := y.le_toInt
  have hd : (y / n).toInt = y.toInt.tdiv n.toInt := Int64.toInt_div_of_ne_right y n (by intro h; rw [h] at hn; exact absurd hn (by decide))
  have hm := Int.tmod_def y.toInt n.toInt
  have hl : y.toInt.tmod n.toInt < n.toInt := Int.tmod_lt_of_pos _ hn
  have key : n.toInt * y.toInt.tdiv n.toInt = y.toInt - y.toInt.tmod n.toInt := by omega
  have hs : (0 ≤ y.toInt → 0 ≤ y.toInt.tmod n.toInt ∧ y.toInt.tmod n.toInt ≤ y.toInt) ∧ (y.toInt ≤ 0 → y.toInt.tmod n.toInt ≤ 0 ∧ y.toInt ≤ y.toInt.tmod n.toInt) := by
    constructor
    · intro h
      have h1 := Int.tmod_nonneg n.toInt h
      have h2 : 0 ≤ n.toInt * y.toInt.tdiv n.toInt := Int.mul_nonneg (by omega) (Int.tdiv_nonneg h (by omega))
      omega
    · intro h
      have e : y.toInt.tmod n.toInt = -((-y.toInt).tmod n.toInt) := by rw [Int.neg_tmod, Int.neg_neg]
      have h1 := Int.tmod_nonneg (a := -y.toInt) n.toInt (by omega)
      have e2 := Int.tmod_def (-y.toInt) n.toInt
      have h2 : 0 ≤ n.toInt * (-y.toInt).tdiv n.toInt := Int.mul_nonneg (by omega) (Int.tdiv_nonneg (by omega) (by omega))
      omega
  have hb : -9223372036854775808 ≤ y.toInt - y.toInt.tmod n.toInt ∧ y.toInt - y.toInt.tmod n.toInt < 9223372036854775808 := by
    by_cases h : 0 ≤ y.toInt
    · have := hs.1 h; omega
    · have := hs.2 (by omega); omega
  have hmul : (y / n * n).toInt = y.toInt - y.toInt.tmod n.toInt := by
    rw [Int64.toInt_mul, hd, Int.mul_comm, key]; apply Int.bmod_eq_of_le <;> omega
  rw [Int64.toInt_sub, hmul]
  have : y.toInt - (y.toInt - y.toInt.tmod n.toInt) = y.toInt.tmod n.toInt := by omega
  rw [this]
  by_cases h : 0 ≤ y.toInt
  · have := hs.1 h; apply Int.bmod_eq_of_le <;> omega
  · have := hs.2 (by omega); apply Int.bmod_eq_of_le <;> omega
theorem own_tm2 (y n : Int64) (hn : 0 < n.toInt) : -n.toInt < (y - y / n * n).toInt ∧ (y - y / n * n).toInt < n.toInt := by
  rw [own_tm y n hn]
  refine ⟨?_, Int.tmod_lt_of_pos _ hn⟩
  have e : y.toInt.tmod n.toInt = -((-y.toInt).tmod n.toInt) := by rw [Int.neg_tmod, Int.neg_neg]
  have := Int.tmod_lt_of_pos (-y.toInt) hn
  omega
theorem own_bit (x : Int64) : (x &&& 1).toInt = x.toInt % 2 := by
  have e : (x &&& 1).toUInt64.toNat = x.toUInt64.toNat % 2 := by
    rw [Int64.toUInt64_and, UInt64.toNat_and, show (1 : Int64).toUInt64.toNat = 2 ^ 1 - 1 from by decide, Nat.and_two_pow_sub_one_eq_mod]
  have f : ∀ z : Int64, z.toInt = if z.toUInt64.toNat < 2 ^ 63 then (z.toUInt64.toNat : Int) else (z.toUInt64.toNat : Int) - 2 ^ 64 := fun z => by
    have h : z.toInt = z.toBitVec.toInt := rfl
    have h2 : z.toUInt64.toNat = z.toBitVec.toNat := rfl
    rw [h, h2, BitVec.toInt_eq_toNat_cond]
    split <;> split <;> omega
  rw [f (x &&& 1), e, f x]
  split <;> split <;> omega
theorem own_a64 (x y : Int64) (h1 : -9223372036854775808 ≤ x.toInt + y.toInt) (h2 : x.toInt + y.toInt < 9223372036854775808) : (x + y).toInt = x.toInt + y.toInt := by
  rw [Int64.toInt_add]; apply Int.bmod_eq_of_le <;> omega
theorem own_m64 (x y : Int64) (h1 : -9223372036854775808 ≤ x.toInt * y.toInt) (h2 : x.toInt * y.toInt < 9223372036854775808) : (x * y).toInt = x.toInt * y.toInt := by
  rw [Int64.toInt_mul]; apply Int.bmod_eq_of_le <;> omega
theorem own_sq (x b : Int) (h1 : -b ≤ x) (h2 : x ≤ b) : 0 ≤ x * x ∧ x * x ≤ b * b := by
  have hn : (x.natAbs : Int) ≤ b := by omega
  have e : x * x = (x.natAbs : Int) * (x.natAbs : Int) := Int.natAbs_mul_self.symm
  rw [e]
  exact ⟨Int.mul_nonneg (by omega) (by omega), Int.mul_le_mul hn hn (by omega) (by omega)⟩
theorem d1_0 : decode prog_34_method_1_code 0 = .ok (.aload_n 0, 1) := by decide +kernel
theorem d1_1 : decode prog_34_method_1_code 1 = .ok (.invokespecial 1, 3) := by decide +kernel
theorem d1_4 : decode prog_34_method_1_code 4 = .ok (.return_, 1) := by decide +kernel
theorem pn_1 : plainName "dev/driftline/Sample$Squares" = true := by first | (simp [plainName, overriddenIn]; done) | decide +kernel
theorem ef_1 (m : MethodId) (x0 : Addr) : entryFrame m #[(.ref x0)] 1 = mkF m 0 #[.val (.ref x0)] [] := by first | (simp [entryFrame, mkF, argsToLocals, Value.category]; done) | rfl
def Q_rm1 (Z : State) (a1 : Addr) (h0 : Heap) (n0 : Nat) (v : Option Value) (h : Heap) (L : List Loc) : Prop := v = none ∧ Fr n0 L ∧ h = h0
set_option maxRecDepth 65536 in
set_option maxHeartbeats 40000000 in
theorem rm1 (l : Launch) (Z : State) (a0 : Array Value) (hw : ∀ d ∈ tables_1, d.before a0 Z = true) (ws : List Jvm.Cond) (a1 : Addr) (h0 : Heap) (n0 : Nat) (Z0 : n0 ≤ h0.size) :
    MetFree l (⟨"dev/driftline/Sample$Squares", "<init>", "()V"⟩ : MethodName) (head1 (Jvm.Cond.code (⟨"dev/driftline/Sample$Squares", "<init>", "()V"⟩ : MethodName) prog_34_method_1_code 1 none :: ws) ({ frames := 1, cells := 0, slots := 0, locals := 12 } : Room)) (fun a U => a = #[(.ref a1)] ∧ Z.Warmed39 U.vm ∧ U.heap = h0) (fun _ _ _ _ _ => True) (fun _ U o U' => ∃ v L, o = .returned v ∧ Q_rm1 Z a1 h0 n0 v U'.heap L ∧ FrameEnd U o U' L ({ frames := 1, cells := 0, slots := 0, locals := 12 } : Room).cells ({ frames := 1, cells := 0, slots := 0, locals := 12 } : Room).slots) := by
  refine MetFree.of_bodySF (plainFor_of_name pn_1) hisR ?_
  intro p e s m args below meth c s₁ Bd hml0 hP hK
  obtain ⟨rfl, hZ, hh⟩ := hP
  have hx := Bd.exec
  have hby := Bd.bytes
  have hml : c.maxLocals = 1 := hml0
  have hown : s.vm.findClass "dev/driftline/Sample$Squares" = some m.cls := findClass_of_methodNamed Bd.named
  have hnm := (name_of_methodNamed Bd.named Bd.method).1
  have X0 : Stand p l e ({ frames := 1, cells := 0, slots := 0, locals := 12 } : Room) s m #[(.ref a1)] below meth c s₁ [] 0 0 := Stand.of_body Bd
  have e0 : s₁.heap = h0 := by rw [← hh, Bd.state]; rfl
  have N0 := Fr.nil n0
  have pre0 : ∀ t, Steps p.tables e below (s₁.setTop (mkF m 0 #[.val (.ref a1)] [])) t → Steps p.tables e below (s₁.setTop (entryFrame m #[(.ref a1)] 1)) t := fun t k => castTop (ef_1 m a1) k
  obtain ⟨T2, X2, e2, st2⟩ := initO X0 hx hZ hown (hw _ (List.mem_of_getElem? (i := 13) rfl)) (hw _ (List.mem_of_getElem? (i := 14) rfl)) (hw _ (List.mem_of_getElem? (i := 15) rfl)) e0 (g := (mkF m 1 #[.val (.ref a1)] [(.ref a1)])) rfl (by rw [hml]; rfl) rfl (hb hby d1_1) (by decide) (W := 0) (by show 2 * 0 + _ ≤ _; exact Nat.le_of_eq rfl) (by decide)
  obtain ⟨fs, hr, hrun, hended, hW, hsame⟩ := X2.leave (v := none) (fun _ => rfl)
  refine ⟨_, _, pre0 _ ?_, hrun, hended, _, _, rfl, ?_, ⟨_, rfl⟩, hW, hsame.mono (by decide) (by decide)⟩
  · show Steps p.tables e below (s₁.setTop (mkF m 0 #[.val (.ref a1)] [])) _
    refine XS.aloadN X0.here hx rfl (hb hby d1_0) rfl rfl ?_
    show Steps p.tables e below (s₁.setTop (mkF m 1 #[.val (.ref a1)] [(.ref a1)])) _
    refine st2 _ ?_
    show Steps p.tables e below (T2.setTop (mkF m 4 #[.val (.ref a1)] [])) _
    exact X2.returnOut hx Bd.returns (hb hby d1_4) hr
  · show Q_rm1 Z a1 h0 n0 _ T2.heap _
    exact ⟨rfl, N0, e2⟩
theorem d3_0 : decode prog_34_method_2_code 0 = .ok (.aload_n 0, 1) := by decide +kernel
theorem d3_1 : decode prog_34_method_2_code 1 = .ok (.dup, 1) := by decide +kernel
theorem d3_2 : decode prog_34_method_2_code 2 = .ok (.getfield 7, 3) := by decide +kernel
theorem d3_5 : decode prog_34_method_2_code 5 = .ok (.lconst 1, 1) := by decide +kernel
theorem d3_6 : decode prog_34_method_2_code 6 = .ok (.ladd, 1) := by decide +kernel
theorem d3_7 : decode prog_34_method_2_code 7 = .ok (.putfield 7, 3) := by decide +kernel
theorem d3_10 : decode prog_34_method_2_code 10 = .ok (.dload_n 1, 1) := by decide +kernel
theorem d3_11 : decode prog_34_method_2_code 11 = .ok (.aload_n 0, 1) := by decide +kernel
theorem d3_12 : decode prog_34_method_2_code 12 = .ok (.getfield 13, 3) := by decide +kernel
theorem d3_15 : decode prog_34_method_2_code 15 = .ok (.dsub, 1) := by decide +kernel
theorem d3_16 : decode prog_34_method_2_code 16 = .ok (.aload_n 0, 1) := by decide +kernel
theorem d3_17 : decode prog_34_method_2_code 17 = .ok (.getfield 17, 3) := by decide +kernel
theorem d3_20 : decode prog_34_method_2_code 20 = .ok (.dsub, 1) := by decide +kernel
theorem d3_21 : decode prog_34_method_2_code 21 = .ok (.dstore_n 3, 1) := by decide +kernel
theorem d3_22 : decode prog_34_method_2_code 22 = .ok (.dload_n 3, 1) := by decide +kernel
theorem d3_23 : decode prog_34_method_2_code 23 = .ok (.aload_n 0, 1) := by decide +kernel
theorem d3_24 : decode prog_34_method_2_code 24 = .ok (.getfield 7, 3) := by decide +kernel
theorem d3_27 : decode prog_34_method_2_code 27 = .ok (.l2d, 1) := by decide +kernel
theorem d3_28 : decode prog_34_method_2_code 28 = .ok (.ddiv, 1) := by decide +kernel
theorem d3_29 : decode prog_34_method_2_code 29 = .ok (.dstore 5, 2) := by decide +kernel
theorem d3_31 : decode prog_34_method_2_code 31 = .ok (.aload_n 0, 1) := by decide +kernel
theorem d3_32 : decode prog_34_method_2_code 32 = .ok (.getfield 13, 3) := by decide +kernel
theorem d3_35 : decode prog_34_method_2_code 35 = .ok (.dload 5, 2) := by decide +kernel
theorem d3_37 : decode prog_34_method_2_code 37 = .ok (.dadd, 1) := by decide +kernel
theorem d3_38 : decode prog_34_method_2_code 38 = .ok (.dstore 7, 2) := by decide +kernel
theorem d3_40 : decode prog_34_method_2_code 40 = .ok (.dload 7, 2) := by decide +kernel
theorem d3_42 : decode prog_34_method_2_code 42 = .ok (.aload_n 0, 1) := by decide +kernel
theorem d3_43 : decode prog_34_method_2_code 43 = .ok (.getfield 13, 3) := by decide +kernel
theorem d3_46 : decode prog_34_method_2_code 46 = .ok (.dsub, 1) := by decide +kernel
theorem d3_47 : decode prog_34_method_2_code 47 = .ok (.dstore 9, 2) := by decide +kernel
theorem d3_49 : decode prog_34_method_2_code 49 = .ok (.aload_n 0, 1) := by decide +kernel
theorem d3_50 : decode prog_34_method_2_code 50 = .ok (.dup, 1) := by decide +kernel
theorem d3_51 : decode prog_34_method_2_code 51 = .ok (.getfield 17, 3) := by decide +kernel
theorem d3_54 : decode prog_34_method_2_code 54 = .ok (.aload_n 0, 1) := by decide +kernel
theorem d3_55 : decode prog_34_method_2_code 55 = .ok (.getfield 13, 3) := by decide +kernel
theorem d3_58 : decode prog_34_method_2_code 58 = .ok (.dload 7, 2) := by decide +kernel
theorem d3_60 : decode prog_34_method_2_code 60 = .ok (.dload 9, 2) := by decide +kernel
theorem d3_62 : decode prog_34_method_2_code 62 = .ok (.dsub, 1) := by decide +kernel
theorem d3_63 : decode prog_34_method_2_code 63 = .ok (.dsub, 1) := by decide +kernel
theorem d3_64 : decode prog_34_method_2_code 64 = .ok (.dload 5, 2) := by decide +kernel
theorem d3_66 : decode prog_34_method_2_code 66 = .ok (.dload 9, 2) := by decide +kernel
theorem d3_68 : decode prog_34_method_2_code 68 = .ok (.dsub, 1) := by decide +kernel
theorem d3_69 : decode prog_34_method_2_code 69 = .ok (.dadd, 1) := by decide +kernel
theorem d3_70 : decode prog_34_method_2_code 70 = .ok (.dadd, 1) := by decide +kernel
theorem d3_71 : decode prog_34_method_2_code 71 = .ok (.putfield 17, 3) := by decide +kernel
theorem d3_74 : decode prog_34_method_2_code 74 = .ok (.aload_n 0, 1) := by decide +kernel
theorem d3_75 : decode prog_34_method_2_code 75 = .ok (.dload 7, 2) := by decide +kernel
theorem d3_77 : decode prog_34_method_2_code 77 = .ok (.putfield 13, 3) := by decide +kernel
theorem d3_80 : decode prog_34_method_2_code 80 = .ok (.aload_n 0, 1) := by decide +kernel
theorem d3_81 : decode prog_34_method_2_code 81 = .ok (.dup, 1) := by decide +kernel
theorem d3_82 : decode prog_34_method_2_code 82 = .ok (.getfield 20, 3) := by decide +kernel
theorem d3_85 : decode prog_34_method_2_code 85 = .ok (.dload_n 3, 1) := by decide +kernel
theorem d3_86 : decode prog_34_method_2_code 86 = .ok (.dload_n 1, 1) := by decide +kernel
theorem d3_87 : decode prog_34_method_2_code 87 = .ok (.aload_n 0, 1) := by decide +kernel
theorem d3_88 : decode prog_34_method_2_code 88 = .ok (.getfield 13, 3) := by decide +kernel
theorem d3_91 : decode prog_34_method_2_code 91 = .ok (.dsub, 1) := by decide +kernel
theorem d3_92 : decode prog_34_method_2_code 92 = .ok (.aload_n 0, 1) := by decide +kernel
theorem d3_93 : decode prog_34_method_2_code 93 = .ok (.getfield 17, 3) := by decide +kernel
theorem d3_96 : decode prog_34_method_2_code 96 = .ok (.dsub, 1) := by decide +kernel
theorem d3_97 : decode prog_34_method_2_code 97 = .ok (.dmul, 1) := by decide +kernel
theorem d3_98 : decode prog_34_method_2_code 98 = .ok (.dadd, 1) := by decide +kernel
theorem d3_99 : decode prog_34_method_2_code 99 = .ok (.putfield 20, 3) := by decide +kernel
theorem d3_102 : decode prog_34_method_2_code 102 = .ok (.return_, 1) := by decide +kernel
theorem pn_3 : plainName "dev/driftline/Sample$Squares" = true := by first | (simp [plainName, overriddenIn]; done) | decide +kernel
theorem ef_3 (m : MethodId) (x0 : Addr) (x1 : UInt64) : entryFrame m #[(.ref x0), (.double x1)] 11 = mkF m 0 #[.val (.ref x0), .val (.double x1), .second, .unset, .unset, .unset, .unset, .unset, .unset, .unset, .unset] [] := by first | (simp [entryFrame, mkF, argsToLocals, Value.category]; done) | rfl
def Q_rm3 (Z : State) (a1 : Addr) (d2 : UInt64) (w_count_a1 : Int64) (w_mean_a1 : UInt64) (w_rest_a1 : UInt64) (w_sum_a1 : UInt64) (v15 : UInt64) (v20 : UInt64) (v28 : UInt64) (v37 : UInt64) (v46 : UInt64) (v62 : UInt64) (v63 : UInt64) (v68 : UInt64) (v69 : UInt64) (v70 : UInt64) (v91 : UInt64) (v96 : UInt64) (v97 : UInt64) (v98 : UInt64) (h0 : Heap) (n0 : Nat) (v : Option Value) (h : Heap) (L : List Loc) : Prop := v = none ∧ Fr n0 L ∧ Keep h0 h [a1] ∧ Exa Z h a1 "dev/driftline/Sample$Squares" ∧ Fld Z h a1 "dev/driftline/Sample$Squares" "count" "J" (.long (w_count_a1 + (1 : Int64))) ∧ Fld Z h a1 "dev/driftline/Sample$Squares" "mean" "D" (.double v37) ∧ Fld Z h a1 "dev/driftline/Sample$Squares" "rest" "D" (.double v70) ∧ Fld Z h a1 "dev/driftline/Sample$Squares" "sum" "D" (.double v98)
set_option maxRecDepth 65536 in
set_option maxHeartbeats 40000000 in
theorem rm3 (l : Launch) (Z : State) (a0 : Array Value) (hw : ∀ d ∈ tables_1, d.before a0 Z = true) (ws : List Jvm.Cond) (a1 : Addr) (d2 : UInt64) (w_count_a1 : Int64) (w_mean_a1 : UInt64) (w_rest_a1 : UInt64) (w_sum_a1 : UInt64) (v15 : UInt64) (v20 : UInt64) (v28 : UInt64) (v37 : UInt64) (v46 : UInt64) (v62 : UInt64) (v63 : UInt64) (v68 : UInt64) (v69 : UInt64) (v70 : UInt64) (v91 : UInt64) (v96 : UInt64) (v97 : UInt64) (v98 : UInt64) (h0 : Heap) (n0 : Nat) (Z0 : n0 ≤ h0.size) (F_count_a1 : Fld Z h0 a1 "dev/driftline/Sample$Squares" "count" "J" (.long w_count_a1)) (E_a1 : Exa Z h0 a1 "dev/driftline/Sample$Squares") (g_a1 : n0 ≤ a1) (F_mean_a1 : Fld Z h0 a1 "dev/driftline/Sample$Squares" "mean" "D" (.double w_mean_a1)) (F_rest_a1 : Fld Z h0 a1 "dev/driftline/Sample$Squares" "rest" "D" (.double w_rest_a1)) (F_sum_a1 : Fld Z h0 a1 "dev/driftline/Sample$Squares" "sum" "D" (.double w_sum_a1)) (ep15 : FP.dsub d2 w_mean_a1 = v15) (np15 : Jvm.Free.Fl.NoNaN64 v15) (ep20 : FP.dsub v15 w_rest_a1 = v20) (np20 : Jvm.Free.Fl.NoNaN64 v20) (ep28 : FP.ddiv v20 (FP.l2d (w_count_a1 + (1 : Int64))) = v28) (np28 : Jvm.Free.Fl.NoNaN64 v28) (ep37 : FP.dadd w_mean_a1 v28 = v37) (np37 : Jvm.Free.Fl.NoNaN64 v37) (ep46 : FP.dsub v37 w_mean_a1 = v46) (np46 : Jvm.Free.Fl.NoNaN64 v46) (ep62 : FP.dsub v37 v46 = v62) (np62 : Jvm.Free.Fl.NoNaN64 v62) (ep63 : FP.dsub w_mean_a1 v62 = v63) (np63 : Jvm.Free.Fl.NoNaN64 v63) (ep68 : FP.dsub v28 v46 = v68) (np68 : Jvm.Free.Fl.NoNaN64 v68) (ep69 : FP.dadd v63 v68 = v69) (np69 : Jvm.Free.Fl.NoNaN64 v69) (ep70 : FP.dadd w_rest_a1 v69 = v70) (np70 : Jvm.Free.Fl.NoNaN64 v70) (ep91 : FP.dsub d2 v37 = v91) (np91 : Jvm.Free.Fl.NoNaN64 v91) (ep96 : FP.dsub v91 v70 = v96) (np96 : Jvm.Free.Fl.NoNaN64 v96) (ep97 : FP.dmul v20 v96 = v97) (np97 : Jvm.Free.Fl.NoNaN64 v97) (ep98 : FP.dadd w_sum_a1 v97 = v98) (np98 : Jvm.Free.Fl.NoNaN64 v98) :
    MetFree l (⟨"dev/driftline/Sample$Squares", "add", "(D)V"⟩ : MethodName) (head1 (Jvm.Cond.code (⟨"dev/driftline/Sample$Squares", "add", "(D)V"⟩ : MethodName) prog_34_method_2_code 11 none :: ws) ({ frames := 0, cells := 0, slots := 0, locals := 0 } : Room)) (fun a U => a = #[(.ref a1), (.double d2)] ∧ Z.Warmed39 U.vm ∧ U.heap = h0) (fun _ _ _ _ _ => True) (fun _ U o U' => ∃ v L, o = .returned v ∧ Q_rm3 Z a1 d2 w_count_a1 w_mean_a1 w_rest_a1 w_sum_a1 v15 v20 v28 v37 v46 v62 v63 v68 v69 v70 v91 v96 v97 v98 h0 n0 v U'.heap L ∧ FrameEnd U o U' L ({ frames := 0, cells := 0, slots := 0, locals := 0 } : Room).cells ({ frames := 0, cells := 0, slots := 0, locals := 0 } : Room).slots) := by
  refine MetFree.of_bodySF (plainFor_of_name pn_3) hisR ?_
  intro p e s m args below meth c s₁ Bd hml0 hP hK
  obtain ⟨rfl, hZ, hh⟩ := hP
  have hx := Bd.exec
  have hby := Bd.bytes
  have hml : c.maxLocals = 11 := hml0
  have hown : s.vm.findClass "dev/driftline/Sample$Squares" = some m.cls := findClass_of_methodNamed Bd.named
  have hnm := (name_of_methodNamed Bd.named Bd.method).1
  have X0 : Stand p l e ({ frames := 0, cells := 0, slots := 0, locals := 0 } : Room) s m #[(.ref a1), (.double d2)] below meth c s₁ [] 0 0 := Stand.of_body Bd
  have e0 : s₁.heap = h0 := by rw [← hh, Bd.state]; rfl
  have N0 := Fr.nil n0
  have pre0 : ∀ t, Steps p.tables e below (s₁.setTop (mkF m 0 #[.val (.ref a1), .val (.double d2), .second, .unset, .unset, .unset, .unset, .unset, .unset, .unset, .unset] [])) t → Steps p.tables e below (s₁.setTop (entryFrame m #[(.ref a1), (.double d2)] 11)) t := fun t k => castTop (ef_3 m a1 d2) k
  obtain ⟨T3, X3, e3, st3⟩ := getF X0 hx hZ hown (host := "") (Or.inl (hw _ (List.mem_of_getElem? (i := 21) rfl))) Via.refl e0 F_count_a1 (g := (mkF m 2 #[.val (.ref a1), .val (.double d2), .second, .unset, .unset, .unset, .unset, .unset, .unset, .unset, .unset] [(.ref a1), (.ref a1)])) rfl rfl (hb hby d3_2)
  obtain ⟨T4, h4, X4, e4, W4, st4⟩ := putF X3 hx hZ hown (host := "") (Or.inl (hw _ (List.mem_of_getElem? (i := 21) rfl))) Via.refl e3 F_count_a1 E_a1 (Or.inl (hw _ (List.mem_of_getElem? (i := 22) rfl))) (hw _ (List.mem_of_getElem? (i := 8) rfl)) (ty := .long) (by decide) rfl rfl (g := (mkF m 7 #[.val (.ref a1), .val (.double d2), .second, .unset, .unset, .unset, .unset, .unset, .unset, .unset, .unset] [(.long (w_count_a1 + (1 : Int64))), (.ref a1)])) rfl rfl (hb hby d3_7)
  have Fw4 := F_count_a1.same W4
  have N4 := Fr.snoc X4 N0 g_a1
  have f0 := (F_mean_a1.other W4 (Or.inr (slot_ne (Or.inl (hw _ (List.mem_of_getElem? (i := 24) rfl))) (Or.inl (hw _ (List.mem_of_getElem? (i := 22) rfl))) (by decide) (t := .double) (t' := .long) (by decide) (by decide))))
  obtain ⟨T5, X5, e5, st5⟩ := getF X4 hx hZ hown (host := "") (Or.inl (hw _ (List.mem_of_getElem? (i := 23) rfl))) Via.refl e4 f0 (g := (mkF m 12 #[.val (.ref a1), .val (.double d2), .second, .unset, .unset, .unset, .unset, .unset, .unset, .unset, .unset] [(.ref a1), (.double d2)])) rfl rfl (hb hby d3_12)
  have f1 := (F_rest_a1.other W4 (Or.inr (slot_ne (Or.inl (hw _ (List.mem_of_getElem? (i := 26) rfl))) (Or.inl (hw _ (List.mem_of_getElem? (i := 22) rfl))) (by decide) (t := .double) (t' := .long) (by decide) (by decide))))
  obtain ⟨T6, X6, e6, st6⟩ := getF X5 hx hZ hown (host := "") (Or.inl (hw _ (List.mem_of_getElem? (i := 25) rfl))) Via.refl e5 f1 (g := (mkF m 17 #[.val (.ref a1), .val (.double d2), .second, .unset, .unset, .unset, .unset, .unset, .unset, .unset, .unset] [(.ref a1), (.double v15)])) rfl rfl (hb hby d3_17)
  obtain ⟨T7, X7, e7, st7⟩ := getF X6 hx hZ hown (host := "") (Or.inl (hw _ (List.mem_of_getElem? (i := 21) rfl))) Via.refl e6 Fw4 (g := (mkF m 24 #[.val (.ref a1), .val (.double d2), .second, .val (.double v20), .second, .unset, .unset, .unset, .unset, .unset, .unset] [(.ref a1), (.double v20)])) rfl rfl (hb hby d3_24)
  obtain ⟨T8, X8, e8, st8⟩ := getF X7 hx hZ hown (host := "") (Or.inl (hw _ (List.mem_of_getElem? (i := 23) rfl))) Via.refl e7 f0 (g := (mkF m 32 #[.val (.ref a1), .val (.double d2), .second, .val (.double v20), .second, .val (.double v28), .second, .unset, .unset, .unset, .unset] [(.ref a1)])) rfl rfl (hb hby d3_32)
  obtain ⟨T9, X9, e9, st9⟩ := getF X8 hx hZ hown (host := "") (Or.inl (hw _ (List.mem_of_getElem? (i := 23) rfl))) Via.refl e8 f0 (g := (mkF m 43 #[.val (.ref a1), .val (.double d2), .second, .val (.double v20), .second, .val (.double v28), .second, .val (.double v37), .second, .unset, .unset] [(.ref a1), (.double v37)])) rfl rfl (hb hby d3_43)
  obtain ⟨T10, X10, e10, st10⟩ := getF X9 hx hZ hown (host := "") (Or.inl (hw _ (List.mem_of_getElem? (i := 25) rfl))) Via.refl e9 f1 (g := (mkF m 51 #[.val (.ref a1), .val (.double d2), .second, .val (.double v20), .second, .val (.double v28), .second, .val (.double v37), .second, .val (.double v46), .second] [(.ref a1), (.ref a1)])) rfl rfl (hb hby d3_51)
  obtain ⟨T11, X11, e11, st11⟩ := getF X10 hx hZ hown (host := "") (Or.inl (hw _ (List.mem_of_getElem? (i := 23) rfl))) Via.refl e10 f0 (g := (mkF m 55 #[.val (.ref a1), .val (.double d2), .second, .val (.double v20), .second, .val (.double v28), .second, .val (.double v37), .second, .val (.double v46), .second] [(.ref a1), (.double w_rest_a1), (.ref a1)])) rfl rfl (hb hby d3_55)
  have f2 := (E_a1.wr W4)
  obtain ⟨T12, h12, X12, e12, W12, st12⟩ := putF X11 hx hZ hown (host := "") (Or.inl (hw _ (List.mem_of_getElem? (i := 25) rfl))) Via.refl e11 f1 f2 (Or.inl (hw _ (List.mem_of_getElem? (i := 26) rfl))) (hw _ (List.mem_of_getElem? (i := 8) rfl)) (ty := .double) (by decide) rfl rfl (g := (mkF m 71 #[.val (.ref a1), .val (.double d2), .second, .val (.double v20), .second, .val (.double v28), .second, .val (.double v37), .second, .val (.double v46), .second] [(.double v70), (.ref a1)])) rfl rfl (hb hby d3_71)
  have Fw12 := f1.same W12
  have N12 := Fr.snoc X12 N4 g_a1
  have f3 := (f2.wr W12)
  have f4 := (f0.other W12 (Or.inr (slot_ne (Or.inl (hw _ (List.mem_of_getElem? (i := 24) rfl))) (Or.inl (hw _ (List.mem_of_getElem? (i := 26) rfl))) (by decide) (t := .double) (t' := .double) (by decide) (by decide))))
  obtain ⟨T13, h13, X13, e13, W13, st13⟩ := putF X12 hx hZ hown (host := "") (Or.inl (hw _ (List.mem_of_getElem? (i := 23) rfl))) Via.refl e12 f4 f3 (Or.inl (hw _ (List.mem_of_getElem? (i := 24) rfl))) (hw _ (List.mem_of_getElem? (i := 8) rfl)) (ty := .double) (by decide) rfl rfl (g := (mkF m 77 #[.val (.ref a1), .val (.double d2), .second, .val (.double v20), .second, .val (.double v28), .second, .val (.double v37), .second, .val (.double v46), .second] [(.double v37), (.ref a1)])) rfl rfl (hb hby d3_77)
  have Fw13 := f4.same W13
  have N13 := Fr.snoc X13 N12 g_a1
  have f5 := (((F_sum_a1.other W4 (Or.inr (slot_ne (Or.inl (hw _ (List.mem_of_getElem? (i := 28) rfl))) (Or.inl (hw _ (List.mem_of_getElem? (i := 22) rfl))) (by decide) (t := .double) (t' := .long) (by decide) (by decide)))).other W12 (Or.inr (slot_ne (Or.inl (hw _ (List.mem_of_getElem? (i := 28) rfl))) (Or.inl (hw _ (List.mem_of_getElem? (i := 26) rfl))) (by decide) (t := .double) (t' := .double) (by decide) (by decide)))).other W13 (Or.inr (slot_ne (Or.inl (hw _ (List.mem_of_getElem? (i := 28) rfl))) (Or.inl (hw _ (List.mem_of_getElem? (i := 24) rfl))) (by decide) (t := .double) (t' := .double) (by decide) (by decide))))
  obtain ⟨T14, X14, e14, st14⟩ := getF X13 hx hZ hown (host := "") (Or.inl (hw _ (List.mem_of_getElem? (i := 27) rfl))) Via.refl e13 f5 (g := (mkF m 82 #[.val (.ref a1), .val (.double d2), .second, .val (.double v20), .second, .val (.double v28), .second, .val (.double v37), .second, .val (.double v46), .second] [(.ref a1), (.ref a1)])) rfl rfl (hb hby d3_82)
  obtain ⟨T15, X15, e15, st15⟩ := getF X14 hx hZ hown (host := "") (Or.inl (hw _ (List.mem_of_getElem? (i := 23) rfl))) Via.refl e14 Fw13 (g := (mkF m 88 #[.val (.ref a1), .val (.double d2), .second, .val (.double v20), .second, .val (.double v28), .second, .val (.double v37), .second, .val (.double v46), .second] [(.ref a1), (.double d2), (.double v20), (.double w_sum_a1), (.ref a1)])) rfl rfl (hb hby d3_88)
  have f6 := (Fw12.other W13 (Or.inr (slot_ne (Or.inl (hw _ (List.mem_of_getElem? (i := 26) rfl))) (Or.inl (hw _ (List.mem_of_getElem? (i := 24) rfl))) (by decide) (t := .double) (t' := .double) (by decide) (by decide))))
  obtain ⟨T16, X16, e16, st16⟩ := getF X15 hx hZ hown (host := "") (Or.inl (hw _ (List.mem_of_getElem? (i := 25) rfl))) Via.refl e15 f6 (g := (mkF m 93 #[.val (.ref a1), .val (.double d2), .second, .val (.double v20), .second, .val (.double v28), .second, .val (.double v37), .second, .val (.double v46), .second] [(.ref a1), (.double v91), (.double v20), (.double w_sum_a1), (.ref a1)])) rfl rfl (hb hby d3_93)
  have f7 := (f3.wr W13)
  obtain ⟨T17, h17, X17, e17, W17, st17⟩ := putF X16 hx hZ hown (host := "") (Or.inl (hw _ (List.mem_of_getElem? (i := 27) rfl))) Via.refl e16 f5 f7 (Or.inl (hw _ (List.mem_of_getElem? (i := 28) rfl))) (hw _ (List.mem_of_getElem? (i := 8) rfl)) (ty := .double) (by decide) rfl rfl (g := (mkF m 99 #[.val (.ref a1), .val (.double d2), .second, .val (.double v20), .second, .val (.double v28), .second, .val (.double v37), .second, .val (.double v46), .second] [(.double v98), (.ref a1)])) rfl rfl (hb hby d3_99)
  have Fw17 := f5.same W17
  have N17 := Fr.snoc X17 N13 g_a1
  have f8 := (f7.wr W17)
  have f9 := (((Fw4.other W12 (Or.inr (slot_ne (Or.inl (hw _ (List.mem_of_getElem? (i := 22) rfl))) (Or.inl (hw _ (List.mem_of_getElem? (i := 26) rfl))) (by decide) (t := .long) (t' := .double) (by decide) (by decide)))).other W13 (Or.inr (slot_ne (Or.inl (hw _ (List.mem_of_getElem? (i := 22) rfl))) (Or.inl (hw _ (List.mem_of_getElem? (i := 24) rfl))) (by decide) (t := .long) (t' := .double) (by decide) (by decide)))).other W17 (Or.inr (slot_ne (Or.inl (hw _ (List.mem_of_getElem? (i := 22) rfl))) (Or.inl (hw _ (List.mem_of_getElem? (i := 28) rfl))) (by decide) (t := .long) (t' := .double) (by decide) (by decide))))
  have f10 := (Fw13.other W17 (Or.inr (slot_ne (Or.inl (hw _ (List.mem_of_getElem? (i := 24) rfl))) (Or.inl (hw _ (List.mem_of_getElem? (i := 28) rfl))) (by decide) (t := .double) (t' := .double) (by decide) (by decide))))
  have f11 := (f6.other W17 (Or.inr (slot_ne (Or.inl (hw _ (List.mem_of_getElem? (i := 26) rfl))) (Or.inl (hw _ (List.mem_of_getElem? (i := 28) rfl))) (by decide) (t := .double) (t' := .double) (by decide) (by decide))))
  obtain ⟨fs, hr, hrun, hended, hW, hsame⟩ := X17.leave (v := none) (fun _ => rfl)
  refine ⟨_, _, pre0 _ ?_, hrun, hended, _, _, rfl, ?_, ⟨_, rfl⟩, hW, hsame.mono (by decide) (by decide)⟩
  · show Steps p.tables e below (s₁.setTop (mkF m 0 #[.val (.ref a1), .val (.double d2), .second, .unset, .unset, .unset, .unset, .unset, .unset, .unset, .unset] [])) _
    refine XS.aloadN X0.here hx rfl (hb hby d3_0) rfl rfl ?_
    show Steps p.tables e below (s₁.setTop (mkF m 1 #[.val (.ref a1), .val (.double d2), .second, .unset, .unset, .unset, .unset, .unset, .unset, .unset, .unset] [(.ref a1)])) _
    refine XS.dup X0.here hx rfl (hb hby d3_1) rfl rfl ?_
    show Steps p.tables e below (s₁.setTop (mkF m 2 #[.val (.ref a1), .val (.double d2), .second, .unset, .unset, .unset, .unset, .unset, .unset, .unset, .unset] [(.ref a1), (.ref a1)])) _
    refine st3 _ ?_
    show Steps p.tables e below (T3.setTop (mkF m 5 #[.val (.ref a1), .val (.double d2), .second, .unset, .unset, .unset, .unset, .unset, .unset, .unset, .unset] [(.long w_count_a1), (.ref a1)])) _
    refine XS.lconst X3.here hx rfl (hb hby d3_5) ?_
    show Steps p.tables e below (T3.setTop (mkF m 6 #[.val (.ref a1), .val (.double d2), .second, .unset, .unset, .unset, .unset, .unset, .unset, .unset, .unset] [(.long (1 : Int64)), (.long w_count_a1), (.ref a1)])) _
    refine XS.ladd X3.here hx rfl (hb hby d3_6) rfl ?_
    show Steps p.tables e below (T3.setTop (mkF m 7 #[.val (.ref a1), .val (.double d2), .second, .unset, .unset, .unset, .unset, .unset, .unset, .unset, .unset] [(.long (w_count_a1 + (1 : Int64))), (.ref a1)])) _
    refine st4 _ ?_
    show Steps p.tables e below (T4.setTop (mkF m 10 #[.val (.ref a1), .val (.double d2), .second, .unset, .unset, .unset, .unset, .unset, .unset, .unset, .unset] [])) _
    refine XS.dloadN X4.here hx rfl (hb hby d3_10) rfl ?_
    show Steps p.tables e below (T4.setTop (mkF m 11 #[.val (.ref a1), .val (.double d2), .second, .unset, .unset, .unset, .unset, .unset, .unset, .unset, .unset] [(.double d2)])) _
    refine XS.aloadN X4.here hx rfl (hb hby d3_11) rfl rfl ?_
    show Steps p.tables e below (T4.setTop (mkF m 12 #[.val (.ref a1), .val (.double d2), .second, .unset, .unset, .unset, .unset, .unset, .unset, .unset, .unset] [(.ref a1), (.double d2)])) _
    refine st5 _ ?_
    show Steps p.tables e below (T5.setTop (mkF m 15 #[.val (.ref a1), .val (.double d2), .second, .unset, .unset, .unset, .unset, .unset, .unset, .unset, .unset] [(.double w_mean_a1), (.double d2)])) _
    refine XS.dsubS X5.here hx rfl (hb hby d3_15) rfl (by rw [ep15]; exact np15) (v := v15) ep15 ?_
    show Steps p.tables e below (T5.setTop (mkF m 16 #[.val (.ref a1), .val (.double d2), .second, .unset, .unset, .unset, .unset, .unset, .unset, .unset, .unset] [(.double v15)])) _
    refine XS.aloadN X5.here hx rfl (hb hby d3_16) rfl rfl ?_
    show Steps p.tables e below (T5.setTop (mkF m 17 #[.val (.ref a1), .val (.double d2), .second, .unset, .unset, .unset, .unset, .unset, .unset, .unset, .unset] [(.ref a1), (.double v15)])) _
    refine st6 _ ?_
    show Steps p.tables e below (T6.setTop (mkF m 20 #[.val (.ref a1), .val (.double d2), .second, .unset, .unset, .unset, .unset, .unset, .unset, .unset, .unset] [(.double w_rest_a1), (.double v15)])) _
    refine XS.dsubS X6.here hx rfl (hb hby d3_20) rfl (by rw [ep20]; exact np20) (v := v20) ep20 ?_
    show Steps p.tables e below (T6.setTop (mkF m 21 #[.val (.ref a1), .val (.double d2), .second, .unset, .unset, .unset, .unset, .unset, .unset, .unset, .unset] [(.double v20)])) _
    refine XS.dstoreN X6.here hx rfl (hb hby d3_21) rfl (l' := #[.val (.ref a1), .val (.double d2), .second, .val (.double v20), .second, .unset, .unset, .unset, .unset, .unset, .unset]) rfl ?_
    show Steps p.tables e below (T6.setTop (mkF m 22 #[.val (.ref a1), .val (.double d2), .second, .val (.double v20), .second, .unset, .unset, .unset, .unset, .unset, .unset] [])) _
    refine XS.dloadN X6.here hx rfl (hb hby d3_22) rfl ?_
    show Steps p.tables e below (T6.setTop (mkF m 23 #[.val (.ref a1), .val (.double d2), .second, .val (.double v20), .second, .unset, .unset, .unset, .unset, .unset, .unset] [(.double v20)])) _
    refine XS.aloadN X6.here hx rfl (hb hby d3_23) rfl rfl ?_
    show Steps p.tables e below (T6.setTop (mkF m 24 #[.val (.ref a1), .val (.double d2), .second, .val (.double v20), .second, .unset, .unset, .unset, .unset, .unset, .unset] [(.ref a1), (.double v20)])) _
    refine st7 _ ?_
    show Steps p.tables e below (T7.setTop (mkF m 27 #[.val (.ref a1), .val (.double d2), .second, .val (.double v20), .second, .unset, .unset, .unset, .unset, .unset, .unset] [(.long (w_count_a1 + (1 : Int64))), (.double v20)])) _
    refine XS.l2dS X7.here hx rfl (hb hby d3_27) rfl (v := (FP.l2d (w_count_a1 + (1 : Int64)))) rfl ?_
    show Steps p.tables e below (T7.setTop (mkF m 28 #[.val (.ref a1), .val (.double d2), .second, .val (.double v20), .second, .unset, .unset, .unset, .unset, .unset, .unset] [(.double (FP.l2d (w_count_a1 + (1 : Int64)))), (.double v20)])) _
    refine XS.ddivS X7.here hx rfl (hb hby d3_28) rfl (by rw [ep28]; exact np28) (v := v28) ep28 ?_
    show Steps p.tables e below (T7.setTop (mkF m 29 #[.val (.ref a1), .val (.double d2), .second, .val (.double v20), .second, .unset, .unset, .unset, .unset, .unset, .unset] [(.double v28)])) _
    refine XS.dstore X7.here hx rfl (hb hby d3_29) rfl (l' := #[.val (.ref a1), .val (.double d2), .second, .val (.double v20), .second, .val (.double v28), .second, .unset, .unset, .unset, .unset]) rfl ?_
    show Steps p.tables e below (T7.setTop (mkF m 31 #[.val (.ref a1), .val (.double d2), .second, .val (.double v20), .second, .val (.double v28), .second, .unset, .unset, .unset, .unset] [])) _
    refine XS.aloadN X7.here hx rfl (hb hby d3_31) rfl rfl ?_
    show Steps p.tables e below (T7.setTop (mkF m 32 #[.val (.ref a1), .val (.double d2), .second, .val (.double v20), .second, .val (.double v28), .second, .unset, .unset, .unset, .unset] [(.ref a1)])) _
    refine st8 _ ?_
    show Steps p.tables e below (T8.setTop (mkF m 35 #[.val (.ref a1), .val (.double d2), .second, .val (.double v20), .second, .val (.double v28), .second, .unset, .unset, .unset, .unset] [(.double w_mean_a1)])) _
    refine XS.dload X8.here hx rfl (hb hby d3_35) rfl ?_
    show Steps p.tables e below (T8.setTop (mkF m 37 #[.val (.ref a1), .val (.double d2), .second, .val (.double v20), .second, .val (.double v28), .second, .unset, .unset, .unset, .unset] [(.double v28), (.double w_mean_a1)])) _
    refine XS.daddS X8.here hx rfl (hb hby d3_37) rfl (by rw [ep37]; exact np37) (v := v37) ep37 ?_
    show Steps p.tables e below (T8.setTop (mkF m 38 #[.val (.ref a1), .val (.double d2), .second, .val (.double v20), .second, .val (.double v28), .second, .unset, .unset, .unset, .unset] [(.double v37)])) _
    refine XS.dstore X8.here hx rfl (hb hby d3_38) rfl (l' := #[.val (.ref a1), .val (.double d2), .second, .val (.double v20), .second, .val (.double v28), .second, .val (.double v37), .second, .unset, .unset]) rfl ?_
    show Steps p.tables e below (T8.setTop (mkF m 40 #[.val (.ref a1), .val (.double d2), .second, .val (.double v20), .second, .val (.double v28), .second, .val (.double v37), .second, .unset, .unset] [])) _
    refine XS.dload X8.here hx rfl (hb hby d3_40) rfl ?_
    show Steps p.tables e below (T8.setTop (mkF m 42 #[.val (.ref a1), .val (.double d2), .second, .val (.double v20), .second, .val (.double v28), .second, .val (.double v37), .second, .unset, .unset] [(.double v37)])) _
    refine XS.aloadN X8.here hx rfl (hb hby d3_42) rfl rfl ?_
    show Steps p.tables e below (T8.setTop (mkF m 43 #[.val (.ref a1), .val (.double d2), .second, .val (.double v20), .second, .val (.double v28), .second, .val (.double v37), .second, .unset, .unset] [(.ref a1), (.double v37)])) _
    refine st9 _ ?_
    show Steps p.tables e below (T9.setTop (mkF m 46 #[.val (.ref a1), .val (.double d2), .second, .val (.double v20), .second, .val (.double v28), .second, .val (.double v37), .second, .unset, .unset] [(.double w_mean_a1), (.double v37)])) _
    refine XS.dsubS X9.here hx rfl (hb hby d3_46) rfl (by rw [ep46]; exact np46) (v := v46) ep46 ?_
    show Steps p.tables e below (T9.setTop (mkF m 47 #[.val (.ref a1), .val (.double d2), .second, .val (.double v20), .second, .val (.double v28), .second, .val (.double v37), .second, .unset, .unset] [(.double v46)])) _
    refine XS.dstore X9.here hx rfl (hb hby d3_47) rfl (l' := #[.val (.ref a1), .val (.double d2), .second, .val (.double v20), .second, .val (.double v28), .second, .val (.double v37), .second, .val (.double v46), .second]) rfl ?_
    show Steps p.tables e below (T9.setTop (mkF m 49 #[.val (.ref a1), .val (.double d2), .second, .val (.double v20), .second, .val (.double v28), .second, .val (.double v37), .second, .val (.double v46), .second] [])) _
    refine XS.aloadN X9.here hx rfl (hb hby d3_49) rfl rfl ?_
    show Steps p.tables e below (T9.setTop (mkF m 50 #[.val (.ref a1), .val (.double d2), .second, .val (.double v20), .second, .val (.double v28), .second, .val (.double v37), .second, .val (.double v46), .second] [(.ref a1)])) _
    refine XS.dup X9.here hx rfl (hb hby d3_50) rfl rfl ?_
    show Steps p.tables e below (T9.setTop (mkF m 51 #[.val (.ref a1), .val (.double d2), .second, .val (.double v20), .second, .val (.double v28), .second, .val (.double v37), .second, .val (.double v46), .second] [(.ref a1), (.ref a1)])) _
    refine st10 _ ?_
    show Steps p.tables e below (T10.setTop (mkF m 54 #[.val (.ref a1), .val (.double d2), .second, .val (.double v20), .second, .val (.double v28), .second, .val (.double v37), .second, .val (.double v46), .second] [(.double w_rest_a1), (.ref a1)])) _
    refine XS.aloadN X10.here hx rfl (hb hby d3_54) rfl rfl ?_
    show Steps p.tables e below (T10.setTop (mkF m 55 #[.val (.ref a1), .val (.double d2), .second, .val (.double v20), .second, .val (.double v28), .second, .val (.double v37), .second, .val (.double v46), .second] [(.ref a1), (.double w_rest_a1), (.ref a1)])) _
    refine st11 _ ?_
    show Steps p.tables e below (T11.setTop (mkF m 58 #[.val (.ref a1), .val (.double d2), .second, .val (.double v20), .second, .val (.double v28), .second, .val (.double v37), .second, .val (.double v46), .second] [(.double w_mean_a1), (.double w_rest_a1), (.ref a1)])) _
    refine XS.dload X11.here hx rfl (hb hby d3_58) rfl ?_
    show Steps p.tables e below (T11.setTop (mkF m 60 #[.val (.ref a1), .val (.double d2), .second, .val (.double v20), .second, .val (.double v28), .second, .val (.double v37), .second, .val (.double v46), .second] [(.double v37), (.double w_mean_a1), (.double w_rest_a1), (.ref a1)])) _
    refine XS.dload X11.here hx rfl (hb hby d3_60) rfl ?_
    show Steps p.tables e below (T11.setTop (mkF m 62 #[.val (.ref a1), .val (.double d2), .second, .val (.double v20), .second, .val (.double v28), .second, .val (.double v37), .second, .val (.double v46), .second] [(.double v46), (.double v37), (.double w_mean_a1), (.double w_rest_a1), (.ref a1)])) _
    refine XS.dsubS X11.here hx rfl (hb hby d3_62) rfl (by rw [ep62]; exact np62) (v := v62) ep62 ?_
    show Steps p.tables e below (T11.setTop (mkF m 63 #[.val (.ref a1), .val (.double d2), .second, .val (.double v20), .second, .val (.double v28), .second, .val (.double v37), .second, .val (.double v46), .second] [(.double v62), (.double w_mean_a1), (.double w_rest_a1), (.ref a1)])) _
    refine XS.dsubS X11.here hx rfl (hb hby d3_63) rfl (by rw [ep63]; exact np63) (v := v63) ep63 ?_
    show Steps p.tables e below (T11.setTop (mkF m 64 #[.val (.ref a1), .val (.double d2), .second, .val (.double v20), .second, .val (.double v28), .second, .val (.double v37), .second, .val (.double v46), .second] [(.double v63), (.double w_rest_a1), (.ref a1)])) _
    refine XS.dload X11.here hx rfl (hb hby d3_64) rfl ?_
    show Steps p.tables e below (T11.setTop (mkF m 66 #[.val (.ref a1), .val (.double d2), .second, .val (.double v20), .second, .val (.double v28), .second, .val (.double v37), .second, .val (.double v46), .second] [(.double v28), (.double v63), (.double w_rest_a1), (.ref a1)])) _
    refine XS.dload X11.here hx rfl (hb hby d3_66) rfl ?_
    show Steps p.tables e below (T11.setTop (mkF m 68 #[.val (.ref a1), .val (.double d2), .second, .val (.double v20), .second, .val (.double v28), .second, .val (.double v37), .second, .val (.double v46), .second] [(.double v46), (.double v28), (.double v63), (.double w_rest_a1), (.ref a1)])) _
    refine XS.dsubS X11.here hx rfl (hb hby d3_68) rfl (by rw [ep68]; exact np68) (v := v68) ep68 ?_
    show Steps p.tables e below (T11.setTop (mkF m 69 #[.val (.ref a1), .val (.double d2), .second, .val (.double v20), .second, .val (.double v28), .second, .val (.double v37), .second, .val (.double v46), .second] [(.double v68), (.double v63), (.double w_rest_a1), (.ref a1)])) _
    refine XS.daddS X11.here hx rfl (hb hby d3_69) rfl (by rw [ep69]; exact np69) (v := v69) ep69 ?_
    show Steps p.tables e below (T11.setTop (mkF m 70 #[.val (.ref a1), .val (.double d2), .second, .val (.double v20), .second, .val (.double v28), .second, .val (.double v37), .second, .val (.double v46), .second] [(.double v69), (.double w_rest_a1), (.ref a1)])) _
    refine XS.daddS X11.here hx rfl (hb hby d3_70) rfl (by rw [ep70]; exact np70) (v := v70) ep70 ?_
    show Steps p.tables e below (T11.setTop (mkF m 71 #[.val (.ref a1), .val (.double d2), .second, .val (.double v20), .second, .val (.double v28), .second, .val (.double v37), .second, .val (.double v46), .second] [(.double v70), (.ref a1)])) _
    refine st12 _ ?_
    show Steps p.tables e below (T12.setTop (mkF m 74 #[.val (.ref a1), .val (.double d2), .second, .val (.double v20), .second, .val (.double v28), .second, .val (.double v37), .second, .val (.double v46), .second] [])) _
    refine XS.aloadN X12.here hx rfl (hb hby d3_74) rfl rfl ?_
    show Steps p.tables e below (T12.setTop (mkF m 75 #[.val (.ref a1), .val (.double d2), .second, .val (.double v20), .second, .val (.double v28), .second, .val (.double v37), .second, .val (.double v46), .second] [(.ref a1)])) _
    refine XS.dload X12.here hx rfl (hb hby d3_75) rfl ?_
    show Steps p.tables e below (T12.setTop (mkF m 77 #[.val (.ref a1), .val (.double d2), .second, .val (.double v20), .second, .val (.double v28), .second, .val (.double v37), .second, .val (.double v46), .second] [(.double v37), (.ref a1)])) _
    refine st13 _ ?_
    show Steps p.tables e below (T13.setTop (mkF m 80 #[.val (.ref a1), .val (.double d2), .second, .val (.double v20), .second, .val (.double v28), .second, .val (.double v37), .second, .val (.double v46), .second] [])) _
    refine XS.aloadN X13.here hx rfl (hb hby d3_80) rfl rfl ?_
    show Steps p.tables e below (T13.setTop (mkF m 81 #[.val (.ref a1), .val (.double d2), .second, .val (.double v20), .second, .val (.double v28), .second, .val (.double v37), .second, .val (.double v46), .second] [(.ref a1)])) _
    refine XS.dup X13.here hx rfl (hb hby d3_81) rfl rfl ?_
    show Steps p.tables e below (T13.setTop (mkF m 82 #[.val (.ref a1), .val (.double d2), .second, .val (.double v20), .second, .val (.double v28), .second, .val (.double v37), .second, .val (.double v46), .second] [(.ref a1), (.ref a1)])) _
    refine st14 _ ?_
    show Steps p.tables e below (T14.setTop (mkF m 85 #[.val (.ref a1), .val (.double d2), .second, .val (.double v20), .second, .val (.double v28), .second, .val (.double v37), .second, .val (.double v46), .second] [(.double w_sum_a1), (.ref a1)])) _
    refine XS.dloadN X14.here hx rfl (hb hby d3_85) rfl ?_
    show Steps p.tables e below (T14.setTop (mkF m 86 #[.val (.ref a1), .val (.double d2), .second, .val (.double v20), .second, .val (.double v28), .second, .val (.double v37), .second, .val (.double v46), .second] [(.double v20), (.double w_sum_a1), (.ref a1)])) _
    refine XS.dloadN X14.here hx rfl (hb hby d3_86) rfl ?_
    show Steps p.tables e below (T14.setTop (mkF m 87 #[.val (.ref a1), .val (.double d2), .second, .val (.double v20), .second, .val (.double v28), .second, .val (.double v37), .second, .val (.double v46), .second] [(.double d2), (.double v20), (.double w_sum_a1), (.ref a1)])) _
    refine XS.aloadN X14.here hx rfl (hb hby d3_87) rfl rfl ?_
    show Steps p.tables e below (T14.setTop (mkF m 88 #[.val (.ref a1), .val (.double d2), .second, .val (.double v20), .second, .val (.double v28), .second, .val (.double v37), .second, .val (.double v46), .second] [(.ref a1), (.double d2), (.double v20), (.double w_sum_a1), (.ref a1)])) _
    refine st15 _ ?_
    show Steps p.tables e below (T15.setTop (mkF m 91 #[.val (.ref a1), .val (.double d2), .second, .val (.double v20), .second, .val (.double v28), .second, .val (.double v37), .second, .val (.double v46), .second] [(.double v37), (.double d2), (.double v20), (.double w_sum_a1), (.ref a1)])) _
    refine XS.dsubS X15.here hx rfl (hb hby d3_91) rfl (by rw [ep91]; exact np91) (v := v91) ep91 ?_
    show Steps p.tables e below (T15.setTop (mkF m 92 #[.val (.ref a1), .val (.double d2), .second, .val (.double v20), .second, .val (.double v28), .second, .val (.double v37), .second, .val (.double v46), .second] [(.double v91), (.double v20), (.double w_sum_a1), (.ref a1)])) _
    refine XS.aloadN X15.here hx rfl (hb hby d3_92) rfl rfl ?_
    show Steps p.tables e below (T15.setTop (mkF m 93 #[.val (.ref a1), .val (.double d2), .second, .val (.double v20), .second, .val (.double v28), .second, .val (.double v37), .second, .val (.double v46), .second] [(.ref a1), (.double v91), (.double v20), (.double w_sum_a1), (.ref a1)])) _
    refine st16 _ ?_
    show Steps p.tables e below (T16.setTop (mkF m 96 #[.val (.ref a1), .val (.double d2), .second, .val (.double v20), .second, .val (.double v28), .second, .val (.double v37), .second, .val (.double v46), .second] [(.double v70), (.double v91), (.double v20), (.double w_sum_a1), (.ref a1)])) _
    refine XS.dsubS X16.here hx rfl (hb hby d3_96) rfl (by rw [ep96]; exact np96) (v := v96) ep96 ?_
    show Steps p.tables e below (T16.setTop (mkF m 97 #[.val (.ref a1), .val (.double d2), .second, .val (.double v20), .second, .val (.double v28), .second, .val (.double v37), .second, .val (.double v46), .second] [(.double v96), (.double v20), (.double w_sum_a1), (.ref a1)])) _
    refine XS.dmulS X16.here hx rfl (hb hby d3_97) rfl (by rw [ep97]; exact np97) (v := v97) ep97 ?_
    show Steps p.tables e below (T16.setTop (mkF m 98 #[.val (.ref a1), .val (.double d2), .second, .val (.double v20), .second, .val (.double v28), .second, .val (.double v37), .second, .val (.double v46), .second] [(.double v97), (.double w_sum_a1), (.ref a1)])) _
    refine XS.daddS X16.here hx rfl (hb hby d3_98) rfl (by rw [ep98]; exact np98) (v := v98) ep98 ?_
    show Steps p.tables e below (T16.setTop (mkF m 99 #[.val (.ref a1), .val (.double d2), .second, .val (.double v20), .second, .val (.double v28), .second, .val (.double v37), .second, .val (.double v46), .second] [(.double v98), (.ref a1)])) _
    refine st17 _ ?_
    show Steps p.tables e below (T17.setTop (mkF m 102 #[.val (.ref a1), .val (.double d2), .second, .val (.double v20), .second, .val (.double v28), .second, .val (.double v37), .second, .val (.double v46), .second] [])) _
    exact X17.returnOut hx Bd.returns (hb hby d3_102) hr
  · show Q_rm3 Z a1 d2 w_count_a1 w_mean_a1 w_rest_a1 w_sum_a1 v15 v20 v28 v37 v46 v62 v63 v68 v69 v70 v91 v96 v97 v98 h0 n0 _ T17.heap _
    rw [e17]
    exact ⟨rfl, N17, (((((Keep.refl h0 [a1]).wr W4 (Or.inl (List.mem_of_getElem? (i := 0) rfl))).wr W12 (Or.inl (List.mem_of_getElem? (i := 0) rfl))).wr W13 (Or.inl (List.mem_of_getElem? (i := 0) rfl))).wr W17 (Or.inl (List.mem_of_getElem? (i := 0) rfl))), f8, f9, f10, f11, Fw17⟩
theorem d4_0 : decode prog_34_method_3_code 0 = .ok (.aload_n 0, 1) := by decide +kernel
theorem d4_1 : decode prog_34_method_3_code 1 = .ok (.getfield 7, 3) := by decide +kernel
theorem d4_4 : decode prog_34_method_3_code 4 = .ok (.lreturn, 1) := by decide +kernel
theorem pn_4 : plainName "dev/driftline/Sample$Squares" = true := by first | (simp [plainName, overriddenIn]; done) | decide +kernel
theorem ef_4 (m : MethodId) (x0 : Addr) : entryFrame m #[(.ref x0)] 1 = mkF m 0 #[.val (.ref x0)] [] := by first | (simp [entryFrame, mkF, argsToLocals, Value.category]; done) | rfl
def Q_rm4 (Z : State) (a1 : Addr) (w_count_a1 : Int64) (h0 : Heap) (n0 : Nat) (v : Option Value) (h : Heap) (L : List Loc) : Prop := v = some (.long w_count_a1) ∧ Fr n0 L ∧ h = h0
set_option maxRecDepth 65536 in
set_option maxHeartbeats 40000000 in
theorem rm4 (l : Launch) (Z : State) (a0 : Array Value) (hw : ∀ d ∈ tables_1, d.before a0 Z = true) (ws : List Jvm.Cond) (a1 : Addr) (w_count_a1 : Int64) (h0 : Heap) (n0 : Nat) (Z0 : n0 ≤ h0.size) (F_count_a1 : Fld Z h0 a1 "dev/driftline/Sample$Squares" "count" "J" (.long w_count_a1)) :
    MetFree l (⟨"dev/driftline/Sample$Squares", "count", "()J"⟩ : MethodName) (head1 (Jvm.Cond.code (⟨"dev/driftline/Sample$Squares", "count", "()J"⟩ : MethodName) prog_34_method_3_code 1 (some .long) :: ws) ({ frames := 0, cells := 0, slots := 0, locals := 0 } : Room)) (fun a U => a = #[(.ref a1)] ∧ Z.Warmed39 U.vm ∧ U.heap = h0) (fun _ _ _ _ _ => True) (fun _ U o U' => ∃ v L, o = .returned v ∧ Q_rm4 Z a1 w_count_a1 h0 n0 v U'.heap L ∧ FrameEnd U o U' L ({ frames := 0, cells := 0, slots := 0, locals := 0 } : Room).cells ({ frames := 0, cells := 0, slots := 0, locals := 0 } : Room).slots) := by
  refine MetFree.of_bodySF (plainFor_of_name pn_4) hisR ?_
  intro p e s m args below meth c s₁ Bd hml0 hP hK
  obtain ⟨rfl, hZ, hh⟩ := hP
  have hx := Bd.exec
  have hby := Bd.bytes
  have hml : c.maxLocals = 1 := hml0
  have hown : s.vm.findClass "dev/driftline/Sample$Squares" = some m.cls := findClass_of_methodNamed Bd.named
  have hnm := (name_of_methodNamed Bd.named Bd.method).1
  have X0 : Stand p l e ({ frames := 0, cells := 0, slots := 0, locals := 0 } : Room) s m #[(.ref a1)] below meth c s₁ [] 0 0 := Stand.of_body Bd
  have e0 : s₁.heap = h0 := by rw [← hh, Bd.state]; rfl
  have N0 := Fr.nil n0
  have pre0 : ∀ t, Steps p.tables e below (s₁.setTop (mkF m 0 #[.val (.ref a1)] [])) t → Steps p.tables e below (s₁.setTop (entryFrame m #[(.ref a1)] 1)) t := fun t k => castTop (ef_4 m a1) k
  obtain ⟨T2, X2, e2, st2⟩ := getF X0 hx hZ hown (host := "") (Or.inl (hw _ (List.mem_of_getElem? (i := 21) rfl))) Via.refl e0 F_count_a1 (g := (mkF m 1 #[.val (.ref a1)] [(.ref a1)])) rfl rfl (hb hby d4_1)
  obtain ⟨fs, hr, hrun, hended, hW, hsame⟩ := X2.leave (v := some (.long w_count_a1)) (fun h => by rw [Bd.returns] at h; cases h)
  refine ⟨_, _, pre0 _ ?_, hrun, hended, _, _, rfl, ?_, ⟨_, rfl⟩, hW, hsame.mono (by decide) (by decide)⟩
  · show Steps p.tables e below (s₁.setTop (mkF m 0 #[.val (.ref a1)] [])) _
    refine XS.aloadN X0.here hx rfl (hb hby d4_0) rfl rfl ?_
    show Steps p.tables e below (s₁.setTop (mkF m 1 #[.val (.ref a1)] [(.ref a1)])) _
    refine st2 _ ?_
    show Steps p.tables e below (T2.setTop (mkF m 4 #[.val (.ref a1)] [(.long w_count_a1)])) _
    jvm_step X2.here [X2.here.top, hx, (hb hby d4_4), X2.method', Bd.returns, narrow]
    first | (intro acts; rw [hr _ acts rfl rfl rfl]) | rw [hr _ _ rfl rfl rfl]
    exact Steps.refl _
  · show Q_rm4 Z a1 w_count_a1 h0 n0 _ T2.heap _
    exact ⟨rfl, N0, e2⟩
theorem d5_0 : decode prog_34_method_4_code 0 = .ok (.aload_n 0, 1) := by decide +kernel
theorem d5_1 : decode prog_34_method_4_code 1 = .ok (.getfield 20, 3) := by decide +kernel
theorem d5_4 : decode prog_34_method_4_code 4 = .ok (.dreturn, 1) := by decide +kernel
theorem pn_5 : plainName "dev/driftline/Sample$Squares" = true := by first | (simp [plainName, overriddenIn]; done) | decide +kernel
theorem ef_5 (m : MethodId) (x0 : Addr) : entryFrame m #[(.ref x0)] 1 = mkF m 0 #[.val (.ref x0)] [] := by first | (simp [entryFrame, mkF, argsToLocals, Value.category]; done) | rfl
def Q_rm5 (Z : State) (a1 : Addr) (w_sum_a1 : UInt64) (h0 : Heap) (n0 : Nat) (v : Option Value) (h : Heap) (L : List Loc) : Prop := v = some (.double w_sum_a1) ∧ Fr n0 L ∧ h = h0
set_option maxRecDepth 65536 in
set_option maxHeartbeats 40000000 in
theorem rm5 (l : Launch) (Z : State) (a0 : Array Value) (hw : ∀ d ∈ tables_1, d.before a0 Z = true) (ws : List Jvm.Cond) (a1 : Addr) (w_sum_a1 : UInt64) (h0 : Heap) (n0 : Nat) (Z0 : n0 ≤ h0.size) (F_sum_a1 : Fld Z h0 a1 "dev/driftline/Sample$Squares" "sum" "D" (.double w_sum_a1)) :
    MetFree l (⟨"dev/driftline/Sample$Squares", "sum", "()D"⟩ : MethodName) (head1 (Jvm.Cond.code (⟨"dev/driftline/Sample$Squares", "sum", "()D"⟩ : MethodName) prog_34_method_4_code 1 (some .double) :: ws) ({ frames := 0, cells := 0, slots := 0, locals := 0 } : Room)) (fun a U => a = #[(.ref a1)] ∧ Z.Warmed39 U.vm ∧ U.heap = h0) (fun _ _ _ _ _ => True) (fun _ U o U' => ∃ v L, o = .returned v ∧ Q_rm5 Z a1 w_sum_a1 h0 n0 v U'.heap L ∧ FrameEnd U o U' L ({ frames := 0, cells := 0, slots := 0, locals := 0 } : Room).cells ({ frames := 0, cells := 0, slots := 0, locals := 0 } : Room).slots) := by
  refine MetFree.of_bodySF (plainFor_of_name pn_5) hisR ?_
  intro p e s m args below meth c s₁ Bd hml0 hP hK
  obtain ⟨rfl, hZ, hh⟩ := hP
  have hx := Bd.exec
  have hby := Bd.bytes
  have hml : c.maxLocals = 1 := hml0
  have hown : s.vm.findClass "dev/driftline/Sample$Squares" = some m.cls := findClass_of_methodNamed Bd.named
  have hnm := (name_of_methodNamed Bd.named Bd.method).1
  have X0 : Stand p l e ({ frames := 0, cells := 0, slots := 0, locals := 0 } : Room) s m #[(.ref a1)] below meth c s₁ [] 0 0 := Stand.of_body Bd
  have e0 : s₁.heap = h0 := by rw [← hh, Bd.state]; rfl
  have N0 := Fr.nil n0
  have pre0 : ∀ t, Steps p.tables e below (s₁.setTop (mkF m 0 #[.val (.ref a1)] [])) t → Steps p.tables e below (s₁.setTop (entryFrame m #[(.ref a1)] 1)) t := fun t k => castTop (ef_5 m a1) k
  obtain ⟨T2, X2, e2, st2⟩ := getF X0 hx hZ hown (host := "") (Or.inl (hw _ (List.mem_of_getElem? (i := 27) rfl))) Via.refl e0 F_sum_a1 (g := (mkF m 1 #[.val (.ref a1)] [(.ref a1)])) rfl rfl (hb hby d5_1)
  obtain ⟨fs, hr, hrun, hended, hW, hsame⟩ := X2.leave (v := some (.double w_sum_a1)) (fun h => by rw [Bd.returns] at h; cases h)
  refine ⟨_, _, pre0 _ ?_, hrun, hended, _, _, rfl, ?_, ⟨_, rfl⟩, hW, hsame.mono (by decide) (by decide)⟩
  · show Steps p.tables e below (s₁.setTop (mkF m 0 #[.val (.ref a1)] [])) _
    refine XS.aloadN X0.here hx rfl (hb hby d5_0) rfl rfl ?_
    show Steps p.tables e below (s₁.setTop (mkF m 1 #[.val (.ref a1)] [(.ref a1)])) _
    refine st2 _ ?_
    show Steps p.tables e below (T2.setTop (mkF m 4 #[.val (.ref a1)] [(.double w_sum_a1)])) _
    jvm_step X2.here [X2.here.top, hx, (hb hby d5_4), X2.method', Bd.returns, narrow]
    first | (intro acts; rw [hr _ acts rfl rfl rfl]) | rw [hr _ _ rfl rfl rfl]
    exact Steps.refl _
  · show Q_rm5 Z a1 w_sum_a1 h0 n0 _ T2.heap _
    exact ⟨rfl, N0, e2⟩
theorem pd__28_29V : parseMethodDescriptor "()V" = some ⟨[], none⟩ := by decide +kernel
theorem pd__28D_29V : parseMethodDescriptor "(D)V" = some ⟨[.double], none⟩ := by decide +kernel
theorem pd__28_29J : parseMethodDescriptor "()J" = some ⟨[], some .long⟩ := by decide +kernel
theorem pd__28_29D : parseMethodDescriptor "()D" = some ⟨[], some .double⟩ := by decide +kernel
def t0_0 (q1 : Int64) : Int64 := (q1 - (q1 / (9007199187632128 : Int64)) * (9007199187632128 : Int64))
def t0_1 (p2 : Int32) (p3 : Int32) : Int64 := (((2 : Int64) * (((p3 &&& (8388607 : Int32)) - (4194304 : Int32)).toInt64)) + ((((p2 &&& (33554431 : Int32)) - (16777216 : Int32)).toInt64) &&& (1 : Int64)))
def t0_2 (p2 : Int32) (p3 : Int32) : Int64 := ((((p2 &&& (33554431 : Int32)) - (16777216 : Int32)).toInt64) + ((3 : Int64) * (t0_1 p2 p3)))
def t0_3 (q1 : Int64) (p2 : Int32) : Int64 := ((t0_0 q1) + (((p2 &&& (33554431 : Int32)) - (16777216 : Int32)).toInt64))
def t0_4 (p2 : Int32) : Int64 := ((((p2 &&& (33554431 : Int32)) - (16777216 : Int32)).toInt64) * (((p2 &&& (33554431 : Int32)) - (16777216 : Int32)).toInt64))
def t0_5 (p2 : Int32) (v98_119 : UInt64) : Int32 := (cmpValue (FP.dcmp (FP.dmul v98_119 (4611686018427387904 : UInt64)) (FP.l2d (t0_4 p2))) .l)
def t0_6 (p2 : Int32) (p3 : Int32) : Int64 := (((((p2 &&& (33554431 : Int32)) - (16777216 : Int32)).toInt64) * (((p2 &&& (33554431 : Int32)) - (16777216 : Int32)).toInt64)) + (((3 : Int64) * (t0_1 p2 p3)) * (t0_1 p2 p3)))
def t0_7 (p2 : Int32) (p3 : Int32) (v98_164 : UInt64) : Int32 := (cmpValue (FP.dcmp (FP.dmul v98_164 (4611686018427387904 : UInt64)) (FP.l2d (t0_6 p2 p3))) .l)
theorem pn_0 : plainName "dev/driftline/SquaresAddPinLaw" = true := by first | (simp [plainName, overriddenIn]; done) | decide +kernel
theorem ef_0 (m : MethodId) (x0 : Int64) (x1 : Int32) (x2 : Int32) : entryFrame m #[(.long x0), (.int x1), (.int x2)] maxLocals = mkF m 0 #[.val (.long x0), .second, .val (.int x1), .val (.int x2), .unset, .unset, .unset, .unset, .unset, .unset, .unset, .unset, .unset, .unset, .unset, .unset, .unset, .unset, .unset, .unset, .unset, .unset] [] := by first | (simp [entryFrame, mkF, argsToLocals, Value.category, maxLocals]; done) | rfl
def Q_rm0 (Z : State) (q1 : Int64) (p2 : Int32) (p3 : Int32) (v15_85 : UInt64) (v20_85 : UInt64) (v28_85 : UInt64) (v37_85 : UInt64) (v46_85 : UInt64) (v62_85 : UInt64) (v63_85 : UInt64) (v68_85 : UInt64) (v69_85 : UInt64) (v70_85 : UInt64) (v91_85 : UInt64) (v96_85 : UInt64) (v97_85 : UInt64) (v98_85 : UInt64) (v15_119 : UInt64) (v20_119 : UInt64) (v28_119 : UInt64) (v37_119 : UInt64) (v46_119 : UInt64) (v62_119 : UInt64) (v63_119 : UInt64) (v68_119 : UInt64) (v69_119 : UInt64) (v70_119 : UInt64) (v91_119 : UInt64) (v96_119 : UInt64) (v97_119 : UInt64) (v98_119 : UInt64) (v15_164 : UInt64) (v20_164 : UInt64) (v28_164 : UInt64) (v37_164 : UInt64) (v46_164 : UInt64) (v62_164 : UInt64) (v63_164 : UInt64) (v68_164 : UInt64) (v69_164 : UInt64) (v70_164 : UInt64) (v91_164 : UInt64) (v96_164 : UInt64) (v97_164 : UInt64) (v98_164 : UInt64) (h0 : Heap) (n0 : Nat) (v : Option Value) (h : Heap) (L : List Loc) : Prop := v = some (.int (1 : Int32)) ∧ Fr n0 L
set_option maxRecDepth 65536 in
set_option maxHeartbeats 40000000 in
theorem rm0 (l : Launch) (Z : State) (a0 : Array Value) (hw : ∀ d ∈ tables_1, d.before a0 Z = true) (ws : List Jvm.Cond) (q1 : Int64) (p2 : Int32) (p3 : Int32) (v15_85 : UInt64) (v20_85 : UInt64) (v28_85 : UInt64) (v37_85 : UInt64) (v46_85 : UInt64) (v62_85 : UInt64) (v63_85 : UInt64) (v68_85 : UInt64) (v69_85 : UInt64) (v70_85 : UInt64) (v91_85 : UInt64) (v96_85 : UInt64) (v97_85 : UInt64) (v98_85 : UInt64) (v15_119 : UInt64) (v20_119 : UInt64) (v28_119 : UInt64) (v37_119 : UInt64) (v46_119 : UInt64) (v62_119 : UInt64) (v63_119 : UInt64) (v68_119 : UInt64) (v69_119 : UInt64) (v70_119 : UInt64) (v91_119 : UInt64) (v96_119 : UInt64) (v97_119 : UInt64) (v98_119 : UInt64) (v15_164 : UInt64) (v20_164 : UInt64) (v28_164 : UInt64) (v37_164 : UInt64) (v46_164 : UInt64) (v62_164 : UInt64) (v63_164 : UInt64) (v68_164 : UInt64) (v69_164 : UInt64) (v70_164 : UInt64) (v91_164 : UInt64) (v96_164 : UInt64) (v97_164 : UInt64) (v98_164 : UInt64) (h0 : Heap) (n0 : Nat) (Z0 : n0 ≤ h0.size) (hep15_85 : FP.dsub (FP.l2d (t0_0 q1)) (0 : UInt64) = v15_85) (hnp15_85 : Jvm.Free.Fl.NoNaN64 v15_85) (hep20_85 : FP.dsub v15_85 (0 : UInt64) = v20_85) (hnp20_85 : Jvm.Free.Fl.NoNaN64 v20_85) (hep28_85 : FP.ddiv v20_85 (FP.l2d ((0 : Int64) + (1 : Int64))) = v28_85) (hnp28_85 : Jvm.Free.Fl.NoNaN64 v28_85) (hep37_85 : FP.dadd (0 : UInt64) v28_85 = v37_85) (hnp37_85 : Jvm.Free.Fl.NoNaN64 v37_85) (hep46_85 : FP.dsub v37_85 (0 : UInt64) = v46_85) (hnp46_85 : Jvm.Free.Fl.NoNaN64 v46_85) (hep62_85 : FP.dsub v37_85 v46_85 = v62_85) (hnp62_85 : Jvm.Free.Fl.NoNaN64 v62_85) (hep63_85 : FP.dsub (0 : UInt64) v62_85 = v63_85) (hnp63_85 : Jvm.Free.Fl.NoNaN64 v63_85) (hep68_85 : FP.dsub v28_85 v46_85 = v68_85) (hnp68_85 : Jvm.Free.Fl.NoNaN64 v68_85) (hep69_85 : FP.dadd v63_85 v68_85 = v69_85) (hnp69_85 : Jvm.Free.Fl.NoNaN64 v69_85) (hep70_85 : FP.dadd (0 : UInt64) v69_85 = v70_85) (hnp70_85 : Jvm.Free.Fl.NoNaN64 v70_85) (hep91_85 : FP.dsub (FP.l2d (t0_0 q1)) v37_85 = v91_85) (hnp91_85 : Jvm.Free.Fl.NoNaN64 v91_85) (hep96_85 : FP.dsub v91_85 v70_85 = v96_85) (hnp96_85 : Jvm.Free.Fl.NoNaN64 v96_85) (hep97_85 : FP.dmul v20_85 v96_85 = v97_85) (hnp97_85 : Jvm.Free.Fl.NoNaN64 v97_85) (hep98_85 : FP.dadd (0 : UInt64) v97_85 = v98_85) (hnp98_85 : Jvm.Free.Fl.NoNaN64 v98_85) (hc105 : (cmpValue (FP.dcmp v98_85 (0 : UInt64)) .l) = (0 : Int32)) (hep15_119 : FP.dsub (FP.l2d (t0_3 q1 p2)) v37_85 = v15_119) (hnp15_119 : Jvm.Free.Fl.NoNaN64 v15_119) (hep20_119 : FP.dsub v15_119 v70_85 = v20_119) (hnp20_119 : Jvm.Free.Fl.NoNaN64 v20_119) (hep28_119 : FP.ddiv v20_119 (FP.l2d (((0 : Int64) + (1 : Int64)) + (1 : Int64))) = v28_119) (hnp28_119 : Jvm.Free.Fl.NoNaN64 v28_119) (hep37_119 : FP.dadd v37_85 v28_119 = v37_119) (hnp37_119 : Jvm.Free.Fl.NoNaN64 v37_119) (hep46_119 : FP.dsub v37_119 v37_85 = v46_119) (hnp46_119 : Jvm.Free.Fl.NoNaN64 v46_119) (hep62_119 : FP.dsub v37_119 v46_119 = v62_119) (hnp62_119 : Jvm.Free.Fl.NoNaN64 v62_119) (hep63_119 : FP.dsub v37_85 v62_119 = v63_119) (hnp63_119 : Jvm.Free.Fl.NoNaN64 v63_119) (hep68_119 : FP.dsub v28_119 v46_119 = v68_119) (hnp68_119 : Jvm.Free.Fl.NoNaN64 v68_119) (hep69_119 : FP.dadd v63_119 v68_119 = v69_119) (hnp69_119 : Jvm.Free.Fl.NoNaN64 v69_119) (hep70_119 : FP.dadd v70_85 v69_119 = v70_119) (hnp70_119 : Jvm.Free.Fl.NoNaN64 v70_119) (hep91_119 : FP.dsub (FP.l2d (t0_3 q1 p2)) v37_119 = v91_119) (hnp91_119 : Jvm.Free.Fl.NoNaN64 v91_119) (hep96_119 : FP.dsub v91_119 v70_119 = v96_119) (hnp96_119 : Jvm.Free.Fl.NoNaN64 v96_119) (hep97_119 : FP.dmul v20_119 v96_119 = v97_119) (hnp97_119 : Jvm.Free.Fl.NoNaN64 v97_119) (hep98_119 : FP.dadd v98_85 v97_119 = v98_119) (hnp98_119 : Jvm.Free.Fl.NoNaN64 v98_119) (hn142 : Jvm.Free.Fl.NoNaN64 (FP.dmul v98_119 (4611686018427387904 : UInt64))) (hc150 : (t0_5 p2 v98_119) = (0 : Int32)) (hep15_164 : FP.dsub (FP.l2d ((t0_0 q1) + ((t0_2 p2 p3) / (2 : Int64)))) v37_119 = v15_164) (hnp15_164 : Jvm.Free.Fl.NoNaN64 v15_164) (hep20_164 : FP.dsub v15_164 v70_119 = v20_164) (hnp20_164 : Jvm.Free.Fl.NoNaN64 v20_164) (hep28_164 : FP.ddiv v20_164 (FP.l2d ((((0 : Int64) + (1 : Int64)) + (1 : Int64)) + (1 : Int64))) = v28_164) (hnp28_164 : Jvm.Free.Fl.NoNaN64 v28_164) (hep37_164 : FP.dadd v37_119 v28_164 = v37_164) (hnp37_164 : Jvm.Free.Fl.NoNaN64 v37_164) (hep46_164 : FP.dsub v37_164 v37_119 = v46_164) (hnp46_164 : Jvm.Free.Fl.NoNaN64 v46_164) (hep62_164 : FP.dsub v37_164 v46_164 = v62_164) (hnp62_164 : Jvm.Free.Fl.NoNaN64 v62_164) (hep63_164 : FP.dsub v37_119 v62_164 = v63_164) (hnp63_164 : Jvm.Free.Fl.NoNaN64 v63_164) (hep68_164 : FP.dsub v28_164 v46_164 = v68_164) (hnp68_164 : Jvm.Free.Fl.NoNaN64 v68_164) (hep69_164 : FP.dadd v63_164 v68_164 = v69_164) (hnp69_164 : Jvm.Free.Fl.NoNaN64 v69_164) (hep70_164 : FP.dadd v70_119 v69_164 = v70_164) (hnp70_164 : Jvm.Free.Fl.NoNaN64 v70_164) (hep91_164 : FP.dsub (FP.l2d ((t0_0 q1) + ((t0_2 p2 p3) / (2 : Int64)))) v37_164 = v91_164) (hnp91_164 : Jvm.Free.Fl.NoNaN64 v91_164) (hep96_164 : FP.dsub v91_164 v70_164 = v96_164) (hnp96_164 : Jvm.Free.Fl.NoNaN64 v96_164) (hep97_164 : FP.dmul v20_164 v96_164 = v97_164) (hnp97_164 : Jvm.Free.Fl.NoNaN64 v97_164) (hep98_164 : FP.dadd v98_119 v97_164 = v98_164) (hnp98_164 : Jvm.Free.Fl.NoNaN64 v98_164) (hn187 : Jvm.Free.Fl.NoNaN64 (FP.dmul v98_164 (4611686018427387904 : UInt64))) (hc205 : (t0_7 p2 p3 v98_164) = (0 : Int32)) :
    MetFree l x (head1 (Jvm.Cond.code x code maxLocals ret :: ws) room_1) (fun a U => a = #[(.long q1), (.int p2), (.int p3)] ∧ Z.Warmed39 U.vm ∧ U.heap = h0) (fun _ _ _ _ _ => True) (fun _ U o U' => ∃ v L, o = .returned v ∧ Q_rm0 Z q1 p2 p3 v15_85 v20_85 v28_85 v37_85 v46_85 v62_85 v63_85 v68_85 v69_85 v70_85 v91_85 v96_85 v97_85 v98_85 v15_119 v20_119 v28_119 v37_119 v46_119 v62_119 v63_119 v68_119 v69_119 v70_119 v91_119 v96_119 v97_119 v98_119 v15_164 v20_164 v28_164 v37_164 v46_164 v62_164 v63_164 v68_164 v69_164 v70_164 v91_164 v96_164 v97_164 v98_164 h0 n0 v U'.heap L ∧ FrameEnd U o U' L room_1.cells room_1.slots) := by
  refine MetFree.of_bodySF (plainFor_of_name pn_0) hisR ?_
  intro p e s m args below meth c s₁ Bd hml0 hP hK
  obtain ⟨rfl, hZ, hh⟩ := hP
  have hx := Bd.exec
  have hby := Bd.bytes
  have hml : c.maxLocals = 22 := hml0
  have hown : s.vm.findClass "dev/driftline/SquaresAddPinLaw" = some m.cls := findClass_of_methodNamed Bd.named
  have hnm := (name_of_methodNamed Bd.named Bd.method).1
  have X0 : Stand p l e room_1 s m #[(.long q1), (.int p2), (.int p3)] below meth c s₁ [] 0 0 := Stand.of_body Bd
  have e0 : s₁.heap = h0 := by rw [← hh, Bd.state]; rfl
  have N0 := Fr.nil n0
  have pre0 : ∀ t, Steps p.tables e below (s₁.setTop (mkF m 0 #[.val (.long q1), .second, .val (.int p2), .val (.int p3), .unset, .unset, .unset, .unset, .unset, .unset, .unset, .unset, .unset, .unset, .unset, .unset, .unset, .unset, .unset, .unset, .unset, .unset] [])) t → Steps p.tables e below (s₁.setTop (entryFrame m #[(.long q1), (.int p2), (.int p3)] maxLocals)) t := fun t k => castTop (ef_0 m q1 p2 p3) k
  obtain ⟨T4, h4, X4, e4, E4, A4, D4, -, st4⟩ := newO X0 hx hZ hown (hw _ (List.mem_of_getElem? (i := 7) rfl)) (hw _ (List.mem_of_getElem? (i := 8) rfl)) (hw _ (List.mem_of_getElem? (i := 9) rfl)) e0 (g := (mkF m 72 #[.val (.long q1), .second, .val (.int p2), .val (.int p3), .val (.long (t0_0 q1)), .second, .val (.long (((p2 &&& (33554431 : Int32)) - (16777216 : Int32)).toInt64)), .second, .val (.long (t0_1 p2 p3)), .second, .val (.long ((t0_2 p2 p3) / (2 : Int64))), .second, .val (.double (FP.l2d (t0_0 q1))), .second, .val (.double (FP.l2d (t0_3 q1 p2))), .second, .val (.double (FP.l2d ((t0_0 q1) + ((t0_2 p2 p3) / (2 : Int64))))), .second, .unset, .unset, .unset, .unset] [])) rfl (hb hby at_72) (by decide) (by decide)
  obtain ⟨b4, g4⟩ : ∃ z, z = h0.size := ⟨_, rfl⟩
  rw [← g4] at A4 D4 st4
  have g_b4 : n0 ≤ b4 := Nat.le_trans Z0 (Nat.le_of_eq g4.symm)
  have sz_b4 : h0.size ≤ b4 := Nat.le_trans (Nat.le_refl h0.size) (Nat.le_of_eq g4.symm)
  have F_count_b4 : Fld Z h4 b4 "dev/driftline/Sample$Squares" "count" "J" (.long (0 : Int64)) := D4 (Or.inl (hw _ (List.mem_of_getElem? (i := 22) rfl))) (ty := .long) (by decide)
  have F_mean_b4 : Fld Z h4 b4 "dev/driftline/Sample$Squares" "mean" "D" (.double (0 : UInt64)) := D4 (Or.inl (hw _ (List.mem_of_getElem? (i := 24) rfl))) (ty := .double) (by decide)
  have F_rest_b4 : Fld Z h4 b4 "dev/driftline/Sample$Squares" "rest" "D" (.double (0 : UInt64)) := D4 (Or.inl (hw _ (List.mem_of_getElem? (i := 26) rfl))) (ty := .double) (by decide)
  have F_sum_b4 : Fld Z h4 b4 "dev/driftline/Sample$Squares" "sum" "D" (.double (0 : UInt64)) := D4 (Or.inl (hw _ (List.mem_of_getElem? (i := 28) rfl))) (ty := .double) (by decide)
  obtain ⟨_, _, ⟨T5, L5, k5, n5⟩, -, X5, ⟨Lc5, hQ5, l5, y5, z5⟩, st5⟩ := X4.specialBack hx (y := (⟨"dev/driftline/Sample$Squares", "<init>", "()V"⟩ : MethodName)) rfl hown (mvT hZ (hw _ (List.mem_of_getElem? (i := 10) rfl))) (mvT hZ (hw _ (List.mem_of_getElem? (i := 11) rfl))) (mvT hZ (hw _ (List.mem_of_getElem? (i := 12) rfl))) (by decide) (backOf (W := 1) (rm1 l Z a0 hw [] b4 h4 n0 (Nat.le_trans Z0 E4.1) ) hZ (hw _ (List.mem_of_getElem? (i := 12) rfl)) (hw _ (List.mem_of_getElem? (i := 9) rfl)) (by decide) (by decide)) (g := (mkF m 76 #[.val (.long q1), .second, .val (.int p2), .val (.int p3), .val (.long (t0_0 q1)), .second, .val (.long (((p2 &&& (33554431 : Int32)) - (16777216 : Int32)).toInt64)), .second, .val (.long (t0_1 p2 p3)), .second, .val (.long ((t0_2 p2 p3) / (2 : Int64))), .second, .val (.double (FP.l2d (t0_0 q1))), .second, .val (.double (FP.l2d (t0_3 q1 p2))), .second, .val (.double (FP.l2d ((t0_0 q1) + ((t0_2 p2 p3) / (2 : Int64))))), .second, .unset, .unset, .unset, .unset] [(.ref b4), (.ref b4)])) rfl (by rw [hml]; rfl) (Steps.refl _) (a := b4) (argsL := []) (rest := [(.ref b4)]) (lenOf pd__28_29V rfl) rfl (by show 2 * 0 + _ ≤ _; exact Nat.le_of_eq rfl) (hb hby at_76) (fun _ _ => ⟨rfl, e4, (by decide : 1 + 0 ≤ _), (by decide : 4 + 0 ≤ _)⟩)
  dsimp only [Pt.U, Pt.locs, Pt.cells, Pt.slots] at X5 l5 y5 z5 st5 hQ5
  subst l5 y5 z5
  obtain ⟨rfl, N5q, e5⟩ := hQ5
  have N5 := Fr.app N0 N5q
  obtain ⟨cq6, kq6, q6a, q6b, q6c⟩ := isOf hZ e5 A4
  obtain ⟨_, _, ⟨T6, L6, k6, n6⟩, -, X6, ⟨Lc6, hQ6, l6, y6, z6⟩, st6⟩ := X5.virtualBack hx (y := (⟨"dev/driftline/Sample$Squares", "add", "(D)V"⟩ : MethodName)) (z := (⟨"dev/driftline/Sample$Squares", "add", "(D)V"⟩ : MethodName)) hown (mvT hZ (hw _ (List.mem_of_getElem? (i := 16) rfl))) (mvT hZ (hw _ (List.mem_of_getElem? (i := 17) rfl))) (notFace_of_selects (args := #[]) (mvT hZ (hw _ (List.mem_of_getElem? (i := 19) rfl)))) (mvT hZ (hw _ (List.mem_of_getElem? (i := 19) rfl))) (mvT hZ (hw _ (List.mem_of_getElem? (i := 18) rfl))) (by decide) (backOf (W := 0) (rm3 l Z a0 hw [] b4 (FP.l2d (t0_0 q1)) (0 : Int64) (0 : UInt64) (0 : UInt64) (0 : UInt64) v15_85 v20_85 v28_85 v37_85 v46_85 v62_85 v63_85 v68_85 v69_85 v70_85 v91_85 v96_85 v97_85 v98_85 h4 n0 (Nat.le_trans Z0 E4.1) F_count_b4 A4 g_b4 F_mean_b4 F_rest_b4 F_sum_b4 hep15_85 hnp15_85 hep20_85 hnp20_85 hep28_85 hnp28_85 hep37_85 hnp37_85 hep46_85 hnp46_85 hep62_85 hnp62_85 hep63_85 hnp63_85 hep68_85 hnp68_85 hep69_85 hnp69_85 hep70_85 hnp70_85 hep91_85 hnp91_85 hep96_85 hnp96_85 hep97_85 hnp97_85 hep98_85 hnp98_85) hZ (hw _ (List.mem_of_getElem? (i := 20) rfl)) (hw _ (List.mem_of_getElem? (i := 9) rfl)) (by decide) (by decide)) q6a q6c (g := (mkF m 85 #[.val (.long q1), .second, .val (.int p2), .val (.int p3), .val (.long (t0_0 q1)), .second, .val (.long (((p2 &&& (33554431 : Int32)) - (16777216 : Int32)).toInt64)), .second, .val (.long (t0_1 p2 p3)), .second, .val (.long ((t0_2 p2 p3) / (2 : Int64))), .second, .val (.double (FP.l2d (t0_0 q1))), .second, .val (.double (FP.l2d (t0_3 q1 p2))), .second, .val (.double (FP.l2d ((t0_0 q1) + ((t0_2 p2 p3) / (2 : Int64))))), .second, .val (.ref b4), .unset, .unset, .unset] [(.double (FP.l2d (t0_0 q1))), (.ref b4)])) rfl (by rw [hml]; rfl) (Steps.refl _) (argsL := [(.double (FP.l2d (t0_0 q1)))]) (rest := []) (lenOf pd__28D_29V rfl) rfl (by show 2 * 0 + _ ≤ _; exact Nat.le_of_eq rfl) (hb hby at_85) (fun _ _ => ⟨rfl, e5, (by decide : 1 + 0 ≤ _), (by decide : 4 + 0 ≤ _)⟩)
  dsimp only [Pt.U, Pt.locs, Pt.cells, Pt.slots] at X6 l6 y6 z6 st6 hQ6
  subst l6 y6 z6
  obtain ⟨rfl, N6q, K6, i6_0, i6_1, i6_2, i6_3, i6_4⟩ := hQ6
  have N6 := Fr.app N5 N6q
  obtain ⟨cq7, kq7, q7a, q7b, q7c⟩ := isOf hZ rfl i6_0
  obtain ⟨_, _, ⟨T7, L7, k7, n7⟩, -, X7, ⟨Lc7, hQ7, l7, y7, z7⟩, st7⟩ := X6.virtualBack hx (y := (⟨"dev/driftline/Sample$Squares", "count", "()J"⟩ : MethodName)) (z := (⟨"dev/driftline/Sample$Squares", "count", "()J"⟩ : MethodName)) hown (mvT hZ (hw _ (List.mem_of_getElem? (i := 29) rfl))) (mvT hZ (hw _ (List.mem_of_getElem? (i := 30) rfl))) (notFace_of_selects (args := #[]) (mvT hZ (hw _ (List.mem_of_getElem? (i := 32) rfl)))) (mvT hZ (hw _ (List.mem_of_getElem? (i := 32) rfl))) (mvT hZ (hw _ (List.mem_of_getElem? (i := 31) rfl))) (by decide) (backOf (W := 0) (rm4 l Z a0 hw [] b4 ((0 : Int64) + (1 : Int64)) T6.heap n0 (Nat.le_trans (Nat.le_trans Z0 E4.1) K6.1) i6_1) hZ (hw _ (List.mem_of_getElem? (i := 33) rfl)) (hw _ (List.mem_of_getElem? (i := 9) rfl)) (by decide) (by decide)) q7a q7c (g := (mkF m 90 #[.val (.long q1), .second, .val (.int p2), .val (.int p3), .val (.long (t0_0 q1)), .second, .val (.long (((p2 &&& (33554431 : Int32)) - (16777216 : Int32)).toInt64)), .second, .val (.long (t0_1 p2 p3)), .second, .val (.long ((t0_2 p2 p3) / (2 : Int64))), .second, .val (.double (FP.l2d (t0_0 q1))), .second, .val (.double (FP.l2d (t0_3 q1 p2))), .second, .val (.double (FP.l2d ((t0_0 q1) + ((t0_2 p2 p3) / (2 : Int64))))), .second, .val (.ref b4), .unset, .unset, .unset] [(.ref b4)])) rfl (by rw [hml]; rfl) (Steps.refl _) (argsL := []) (rest := []) (lenOf pd__28_29J rfl) rfl (by show 2 * 0 + _ ≤ _; exact Nat.le_of_eq rfl) (hb hby at_90) (fun _ _ => ⟨rfl, rfl, (by decide : 1 + 0 ≤ _), (by decide : 4 + 0 ≤ _)⟩)
  dsimp only [Pt.U, Pt.locs, Pt.cells, Pt.slots] at X7 l7 y7 z7 st7 hQ7
  subst l7 y7 z7
  obtain ⟨rfl, N7q, e7⟩ := hQ7
  have N7 := Fr.app N6 N7q
  obtain ⟨cq8, kq8, q8a, q8b, q8c⟩ := isOf hZ e7 i6_0
  obtain ⟨_, _, ⟨T8, L8, k8, n8⟩, -, X8, ⟨Lc8, hQ8, l8, y8, z8⟩, st8⟩ := X7.virtualBack hx (y := (⟨"dev/driftline/Sample$Squares", "sum", "()D"⟩ : MethodName)) (z := (⟨"dev/driftline/Sample$Squares", "sum", "()D"⟩ : MethodName)) hown (mvT hZ (hw _ (List.mem_of_getElem? (i := 34) rfl))) (mvT hZ (hw _ (List.mem_of_getElem? (i := 35) rfl))) (notFace_of_selects (args := #[]) (mvT hZ (hw _ (List.mem_of_getElem? (i := 37) rfl)))) (mvT hZ (hw _ (List.mem_of_getElem? (i := 37) rfl))) (mvT hZ (hw _ (List.mem_of_getElem? (i := 36) rfl))) (by decide) (backOf (W := 0) (rm5 l Z a0 hw [] b4 v98_85 T6.heap n0 (Nat.le_trans (Nat.le_trans Z0 E4.1) K6.1) i6_4) hZ (hw _ (List.mem_of_getElem? (i := 38) rfl)) (hw _ (List.mem_of_getElem? (i := 9) rfl)) (by decide) (by decide)) q8a q8c (g := (mkF m 100 #[.val (.long q1), .second, .val (.int p2), .val (.int p3), .val (.long (t0_0 q1)), .second, .val (.long (((p2 &&& (33554431 : Int32)) - (16777216 : Int32)).toInt64)), .second, .val (.long (t0_1 p2 p3)), .second, .val (.long ((t0_2 p2 p3) / (2 : Int64))), .second, .val (.double (FP.l2d (t0_0 q1))), .second, .val (.double (FP.l2d (t0_3 q1 p2))), .second, .val (.double (FP.l2d ((t0_0 q1) + ((t0_2 p2 p3) / (2 : Int64))))), .second, .val (.ref b4), .unset, .unset, .unset] [(.ref b4)])) rfl (by rw [hml]; rfl) (Steps.refl _) (argsL := []) (rest := []) (lenOf pd__28_29D rfl) rfl (by show 2 * 0 + _ ≤ _; exact Nat.le_of_eq rfl) (hb hby at_100) (fun _ _ => ⟨rfl, e7, (by decide : 1 + 0 ≤ _), (by decide : 4 + 0 ≤ _)⟩)
  dsimp only [Pt.U, Pt.locs, Pt.cells, Pt.slots] at X8 l8 y8 z8 st8 hQ8
  subst l8 y8 z8
  obtain ⟨rfl, N8q, e8⟩ := hQ8
  have N8 := Fr.app N7 N8q
  obtain ⟨cq9, kq9, q9a, q9b, q9c⟩ := isOf hZ e8 i6_0
  obtain ⟨_, _, ⟨T9, L9, k9, n9⟩, -, X9, ⟨Lc9, hQ9, l9, y9, z9⟩, st9⟩ := X8.virtualBack hx (y := (⟨"dev/driftline/Sample$Squares", "add", "(D)V"⟩ : MethodName)) (z := (⟨"dev/driftline/Sample$Squares", "add", "(D)V"⟩ : MethodName)) hown (mvT hZ (hw _ (List.mem_of_getElem? (i := 16) rfl))) (mvT hZ (hw _ (List.mem_of_getElem? (i := 17) rfl))) (notFace_of_selects (args := #[]) (mvT hZ (hw _ (List.mem_of_getElem? (i := 19) rfl)))) (mvT hZ (hw _ (List.mem_of_getElem? (i := 19) rfl))) (mvT hZ (hw _ (List.mem_of_getElem? (i := 18) rfl))) (by decide) (backOf (W := 0) (rm3 l Z a0 hw [] b4 (FP.l2d (t0_3 q1 p2)) ((0 : Int64) + (1 : Int64)) v37_85 v70_85 v98_85 v15_119 v20_119 v28_119 v37_119 v46_119 v62_119 v63_119 v68_119 v69_119 v70_119 v91_119 v96_119 v97_119 v98_119 T6.heap n0 (Nat.le_trans (Nat.le_trans Z0 E4.1) K6.1) i6_1 i6_0 g_b4 i6_2 i6_3 i6_4 hep15_119 hnp15_119 hep20_119 hnp20_119 hep28_119 hnp28_119 hep37_119 hnp37_119 hep46_119 hnp46_119 hep62_119 hnp62_119 hep63_119 hnp63_119 hep68_119 hnp68_119 hep69_119 hnp69_119 hep70_119 hnp70_119 hep91_119 hnp91_119 hep96_119 hnp96_119 hep97_119 hnp97_119 hep98_119 hnp98_119) hZ (hw _ (List.mem_of_getElem? (i := 20) rfl)) (hw _ (List.mem_of_getElem? (i := 9) rfl)) (by decide) (by decide)) q9a q9c (g := (mkF m 119 #[.val (.long q1), .second, .val (.int p2), .val (.int p3), .val (.long (t0_0 q1)), .second, .val (.long (((p2 &&& (33554431 : Int32)) - (16777216 : Int32)).toInt64)), .second, .val (.long (t0_1 p2 p3)), .second, .val (.long ((t0_2 p2 p3) / (2 : Int64))), .second, .val (.double (FP.l2d (t0_0 q1))), .second, .val (.double (FP.l2d (t0_3 q1 p2))), .second, .val (.double (FP.l2d ((t0_0 q1) + ((t0_2 p2 p3) / (2 : Int64))))), .second, .val (.ref b4), .val (.int (1 : Int32)), .unset, .unset] [(.double (FP.l2d (t0_3 q1 p2))), (.ref b4)])) rfl (by rw [hml]; rfl) (Steps.refl _) (argsL := [(.double (FP.l2d (t0_3 q1 p2)))]) (rest := []) (lenOf pd__28D_29V rfl) rfl (by show 2 * 0 + _ ≤ _; exact Nat.le_of_eq rfl) (hb hby at_119) (fun _ _ => ⟨rfl, e8, (by decide : 1 + 0 ≤ _), (by decide : 4 + 0 ≤ _)⟩)
  dsimp only [Pt.U, Pt.locs, Pt.cells, Pt.slots] at X9 l9 y9 z9 st9 hQ9
  subst l9 y9 z9
  obtain ⟨rfl, N9q, K9, i9_0, i9_1, i9_2, i9_3, i9_4⟩ := hQ9
  have N9 := Fr.app N8 N9q
  obtain ⟨cq10, kq10, q10a, q10b, q10c⟩ := isOf hZ rfl i9_0
  obtain ⟨_, _, ⟨T10, L10, k10, n10⟩, -, X10, ⟨Lc10, hQ10, l10, y10, z10⟩, st10⟩ := X9.virtualBack hx (y := (⟨"dev/driftline/Sample$Squares", "count", "()J"⟩ : MethodName)) (z := (⟨"dev/driftline/Sample$Squares", "count", "()J"⟩ : MethodName)) hown (mvT hZ (hw _ (List.mem_of_getElem? (i := 29) rfl))) (mvT hZ (hw _ (List.mem_of_getElem? (i := 30) rfl))) (notFace_of_selects (args := #[]) (mvT hZ (hw _ (List.mem_of_getElem? (i := 32) rfl)))) (mvT hZ (hw _ (List.mem_of_getElem? (i := 32) rfl))) (mvT hZ (hw _ (List.mem_of_getElem? (i := 31) rfl))) (by decide) (backOf (W := 0) (rm4 l Z a0 hw [] b4 (((0 : Int64) + (1 : Int64)) + (1 : Int64)) T9.heap n0 (Nat.le_trans (Nat.le_trans (Nat.le_trans Z0 E4.1) K6.1) K9.1) i9_1) hZ (hw _ (List.mem_of_getElem? (i := 33) rfl)) (hw _ (List.mem_of_getElem? (i := 9) rfl)) (by decide) (by decide)) q10a q10c (g := (mkF m 124 #[.val (.long q1), .second, .val (.int p2), .val (.int p3), .val (.long (t0_0 q1)), .second, .val (.long (((p2 &&& (33554431 : Int32)) - (16777216 : Int32)).toInt64)), .second, .val (.long (t0_1 p2 p3)), .second, .val (.long ((t0_2 p2 p3) / (2 : Int64))), .second, .val (.double (FP.l2d (t0_0 q1))), .second, .val (.double (FP.l2d (t0_3 q1 p2))), .second, .val (.double (FP.l2d ((t0_0 q1) + ((t0_2 p2 p3) / (2 : Int64))))), .second, .val (.ref b4), .val (.int (1 : Int32)), .unset, .unset] [(.ref b4)])) rfl (by rw [hml]; rfl) (Steps.refl _) (argsL := []) (rest := []) (lenOf pd__28_29J rfl) rfl (by show 2 * 0 + _ ≤ _; exact Nat.le_of_eq rfl) (hb hby at_124) (fun _ _ => ⟨rfl, rfl, (by decide : 1 + 0 ≤ _), (by decide : 4 + 0 ≤ _)⟩)
  dsimp only [Pt.U, Pt.locs, Pt.cells, Pt.slots] at X10 l10 y10 z10 st10 hQ10
  subst l10 y10 z10
  obtain ⟨rfl, N10q, e10⟩ := hQ10
  have N10 := Fr.app N9 N10q
  obtain ⟨cq11, kq11, q11a, q11b, q11c⟩ := isOf hZ e10 i9_0
  obtain ⟨_, _, ⟨T11, L11, k11, n11⟩, -, X11, ⟨Lc11, hQ11, l11, y11, z11⟩, st11⟩ := X10.virtualBack hx (y := (⟨"dev/driftline/Sample$Squares", "sum", "()D"⟩ : MethodName)) (z := (⟨"dev/driftline/Sample$Squares", "sum", "()D"⟩ : MethodName)) hown (mvT hZ (hw _ (List.mem_of_getElem? (i := 34) rfl))) (mvT hZ (hw _ (List.mem_of_getElem? (i := 35) rfl))) (notFace_of_selects (args := #[]) (mvT hZ (hw _ (List.mem_of_getElem? (i := 37) rfl)))) (mvT hZ (hw _ (List.mem_of_getElem? (i := 37) rfl))) (mvT hZ (hw _ (List.mem_of_getElem? (i := 36) rfl))) (by decide) (backOf (W := 0) (rm5 l Z a0 hw [] b4 v98_119 T9.heap n0 (Nat.le_trans (Nat.le_trans (Nat.le_trans Z0 E4.1) K6.1) K9.1) i9_4) hZ (hw _ (List.mem_of_getElem? (i := 38) rfl)) (hw _ (List.mem_of_getElem? (i := 9) rfl)) (by decide) (by decide)) q11a q11c (g := (mkF m 136 #[.val (.long q1), .second, .val (.int p2), .val (.int p3), .val (.long (t0_0 q1)), .second, .val (.long (((p2 &&& (33554431 : Int32)) - (16777216 : Int32)).toInt64)), .second, .val (.long (t0_1 p2 p3)), .second, .val (.long ((t0_2 p2 p3) / (2 : Int64))), .second, .val (.double (FP.l2d (t0_0 q1))), .second, .val (.double (FP.l2d (t0_3 q1 p2))), .second, .val (.double (FP.l2d ((t0_0 q1) + ((t0_2 p2 p3) / (2 : Int64))))), .second, .val (.ref b4), .val (.int (1 : Int32)), .unset, .unset] [(.ref b4)])) rfl (by rw [hml]; rfl) (Steps.refl _) (argsL := []) (rest := []) (lenOf pd__28_29D rfl) rfl (by show 2 * 0 + _ ≤ _; exact Nat.le_of_eq rfl) (hb hby at_136) (fun _ _ => ⟨rfl, e10, (by decide : 1 + 0 ≤ _), (by decide : 4 + 0 ≤ _)⟩)
  dsimp only [Pt.U, Pt.locs, Pt.cells, Pt.slots] at X11 l11 y11 z11 st11 hQ11
  subst l11 y11 z11
  obtain ⟨rfl, N11q, e11⟩ := hQ11
  have N11 := Fr.app N10 N11q
  obtain ⟨cq12, kq12, q12a, q12b, q12c⟩ := isOf hZ e11 i9_0
  obtain ⟨_, _, ⟨T12, L12, k12, n12⟩, -, X12, ⟨Lc12, hQ12, l12, y12, z12⟩, st12⟩ := X11.virtualBack hx (y := (⟨"dev/driftline/Sample$Squares", "add", "(D)V"⟩ : MethodName)) (z := (⟨"dev/driftline/Sample$Squares", "add", "(D)V"⟩ : MethodName)) hown (mvT hZ (hw _ (List.mem_of_getElem? (i := 16) rfl))) (mvT hZ (hw _ (List.mem_of_getElem? (i := 17) rfl))) (notFace_of_selects (args := #[]) (mvT hZ (hw _ (List.mem_of_getElem? (i := 19) rfl)))) (mvT hZ (hw _ (List.mem_of_getElem? (i := 19) rfl))) (mvT hZ (hw _ (List.mem_of_getElem? (i := 18) rfl))) (by decide) (backOf (W := 0) (rm3 l Z a0 hw [] b4 (FP.l2d ((t0_0 q1) + ((t0_2 p2 p3) / (2 : Int64)))) (((0 : Int64) + (1 : Int64)) + (1 : Int64)) v37_119 v70_119 v98_119 v15_164 v20_164 v28_164 v37_164 v46_164 v62_164 v63_164 v68_164 v69_164 v70_164 v91_164 v96_164 v97_164 v98_164 T9.heap n0 (Nat.le_trans (Nat.le_trans (Nat.le_trans Z0 E4.1) K6.1) K9.1) i9_1 i9_0 g_b4 i9_2 i9_3 i9_4 hep15_164 hnp15_164 hep20_164 hnp20_164 hep28_164 hnp28_164 hep37_164 hnp37_164 hep46_164 hnp46_164 hep62_164 hnp62_164 hep63_164 hnp63_164 hep68_164 hnp68_164 hep69_164 hnp69_164 hep70_164 hnp70_164 hep91_164 hnp91_164 hep96_164 hnp96_164 hep97_164 hnp97_164 hep98_164 hnp98_164) hZ (hw _ (List.mem_of_getElem? (i := 20) rfl)) (hw _ (List.mem_of_getElem? (i := 9) rfl)) (by decide) (by decide)) q12a q12c (g := (mkF m 164 #[.val (.long q1), .second, .val (.int p2), .val (.int p3), .val (.long (t0_0 q1)), .second, .val (.long (((p2 &&& (33554431 : Int32)) - (16777216 : Int32)).toInt64)), .second, .val (.long (t0_1 p2 p3)), .second, .val (.long ((t0_2 p2 p3) / (2 : Int64))), .second, .val (.double (FP.l2d (t0_0 q1))), .second, .val (.double (FP.l2d (t0_3 q1 p2))), .second, .val (.double (FP.l2d ((t0_0 q1) + ((t0_2 p2 p3) / (2 : Int64))))), .second, .val (.ref b4), .val (.int (1 : Int32)), .val (.int (1 : Int32)), .unset] [(.double (FP.l2d ((t0_0 q1) + ((t0_2 p2 p3) / (2 : Int64))))), (.ref b4)])) rfl (by rw [hml]; rfl) (Steps.refl _) (argsL := [(.double (FP.l2d ((t0_0 q1) + ((t0_2 p2 p3) / (2 : Int64)))))]) (rest := []) (lenOf pd__28D_29V rfl) rfl (by show 2 * 0 + _ ≤ _; exact Nat.le_of_eq rfl) (hb hby at_164) (fun _ _ => ⟨rfl, e11, (by decide : 1 + 0 ≤ _), (by decide : 4 + 0 ≤ _)⟩)
  dsimp only [Pt.U, Pt.locs, Pt.cells, Pt.slots] at X12 l12 y12 z12 st12 hQ12
  subst l12 y12 z12
  obtain ⟨rfl, N12q, K12, i12_0, i12_1, i12_2, i12_3, i12_4⟩ := hQ12
  have N12 := Fr.app N11 N12q
  obtain ⟨cq13, kq13, q13a, q13b, q13c⟩ := isOf hZ rfl i12_0
  obtain ⟨_, _, ⟨T13, L13, k13, n13⟩, -, X13, ⟨Lc13, hQ13, l13, y13, z13⟩, st13⟩ := X12.virtualBack hx (y := (⟨"dev/driftline/Sample$Squares", "count", "()J"⟩ : MethodName)) (z := (⟨"dev/driftline/Sample$Squares", "count", "()J"⟩ : MethodName)) hown (mvT hZ (hw _ (List.mem_of_getElem? (i := 29) rfl))) (mvT hZ (hw _ (List.mem_of_getElem? (i := 30) rfl))) (notFace_of_selects (args := #[]) (mvT hZ (hw _ (List.mem_of_getElem? (i := 32) rfl)))) (mvT hZ (hw _ (List.mem_of_getElem? (i := 32) rfl))) (mvT hZ (hw _ (List.mem_of_getElem? (i := 31) rfl))) (by decide) (backOf (W := 0) (rm4 l Z a0 hw [] b4 ((((0 : Int64) + (1 : Int64)) + (1 : Int64)) + (1 : Int64)) T12.heap n0 (Nat.le_trans (Nat.le_trans (Nat.le_trans (Nat.le_trans Z0 E4.1) K6.1) K9.1) K12.1) i12_1) hZ (hw _ (List.mem_of_getElem? (i := 33) rfl)) (hw _ (List.mem_of_getElem? (i := 9) rfl)) (by decide) (by decide)) q13a q13c (g := (mkF m 169 #[.val (.long q1), .second, .val (.int p2), .val (.int p3), .val (.long (t0_0 q1)), .second, .val (.long (((p2 &&& (33554431 : Int32)) - (16777216 : Int32)).toInt64)), .second, .val (.long (t0_1 p2 p3)), .second, .val (.long ((t0_2 p2 p3) / (2 : Int64))), .second, .val (.double (FP.l2d (t0_0 q1))), .second, .val (.double (FP.l2d (t0_3 q1 p2))), .second, .val (.double (FP.l2d ((t0_0 q1) + ((t0_2 p2 p3) / (2 : Int64))))), .second, .val (.ref b4), .val (.int (1 : Int32)), .val (.int (1 : Int32)), .unset] [(.ref b4)])) rfl (by rw [hml]; rfl) (Steps.refl _) (argsL := []) (rest := []) (lenOf pd__28_29J rfl) rfl (by show 2 * 0 + _ ≤ _; exact Nat.le_of_eq rfl) (hb hby at_169) (fun _ _ => ⟨rfl, rfl, (by decide : 1 + 0 ≤ _), (by decide : 4 + 0 ≤ _)⟩)
  dsimp only [Pt.U, Pt.locs, Pt.cells, Pt.slots] at X13 l13 y13 z13 st13 hQ13
  subst l13 y13 z13
  obtain ⟨rfl, N13q, e13⟩ := hQ13
  have N13 := Fr.app N12 N13q
  obtain ⟨cq14, kq14, q14a, q14b, q14c⟩ := isOf hZ e13 i12_0
  obtain ⟨_, _, ⟨T14, L14, k14, n14⟩, -, X14, ⟨Lc14, hQ14, l14, y14, z14⟩, st14⟩ := X13.virtualBack hx (y := (⟨"dev/driftline/Sample$Squares", "sum", "()D"⟩ : MethodName)) (z := (⟨"dev/driftline/Sample$Squares", "sum", "()D"⟩ : MethodName)) hown (mvT hZ (hw _ (List.mem_of_getElem? (i := 34) rfl))) (mvT hZ (hw _ (List.mem_of_getElem? (i := 35) rfl))) (notFace_of_selects (args := #[]) (mvT hZ (hw _ (List.mem_of_getElem? (i := 37) rfl)))) (mvT hZ (hw _ (List.mem_of_getElem? (i := 37) rfl))) (mvT hZ (hw _ (List.mem_of_getElem? (i := 36) rfl))) (by decide) (backOf (W := 0) (rm5 l Z a0 hw [] b4 v98_164 T12.heap n0 (Nat.le_trans (Nat.le_trans (Nat.le_trans (Nat.le_trans Z0 E4.1) K6.1) K9.1) K12.1) i12_4) hZ (hw _ (List.mem_of_getElem? (i := 38) rfl)) (hw _ (List.mem_of_getElem? (i := 9) rfl)) (by decide) (by decide)) q14a q14c (g := (mkF m 181 #[.val (.long q1), .second, .val (.int p2), .val (.int p3), .val (.long (t0_0 q1)), .second, .val (.long (((p2 &&& (33554431 : Int32)) - (16777216 : Int32)).toInt64)), .second, .val (.long (t0_1 p2 p3)), .second, .val (.long ((t0_2 p2 p3) / (2 : Int64))), .second, .val (.double (FP.l2d (t0_0 q1))), .second, .val (.double (FP.l2d (t0_3 q1 p2))), .second, .val (.double (FP.l2d ((t0_0 q1) + ((t0_2 p2 p3) / (2 : Int64))))), .second, .val (.ref b4), .val (.int (1 : Int32)), .val (.int (1 : Int32)), .unset] [(.ref b4)])) rfl (by rw [hml]; rfl) (Steps.refl _) (argsL := []) (rest := []) (lenOf pd__28_29D rfl) rfl (by show 2 * 0 + _ ≤ _; exact Nat.le_of_eq rfl) (hb hby at_181) (fun _ _ => ⟨rfl, e13, (by decide : 1 + 0 ≤ _), (by decide : 4 + 0 ≤ _)⟩)
  dsimp only [Pt.U, Pt.locs, Pt.cells, Pt.slots] at X14 l14 y14 z14 st14 hQ14
  subst l14 y14 z14
  obtain ⟨rfl, N14q, e14⟩ := hQ14
  have N14 := Fr.app N13 N14q
  obtain ⟨fs, hr, hrun, hended, hW, hsame⟩ := X14.leave (v := some (.int (1 : Int32))) (fun h => by rw [Bd.returns] at h; cases h)
  refine ⟨_, _, pre0 _ ?_, hrun, hended, _, _, rfl, ?_, ⟨_, rfl⟩, hW, hsame.mono (by decide) (by decide)⟩
  · show Steps p.tables e below (s₁.setTop (mkF m 0 #[.val (.long q1), .second, .val (.int p2), .val (.int p3), .unset, .unset, .unset, .unset, .unset, .unset, .unset, .unset, .unset, .unset, .unset, .unset, .unset, .unset, .unset, .unset, .unset, .unset] [])) _
    refine XS.lloadN X0.here hx rfl (hb hby at_0) rfl ?_
    show Steps p.tables e below (s₁.setTop (mkF m 1 #[.val (.long q1), .second, .val (.int p2), .val (.int p3), .unset, .unset, .unset, .unset, .unset, .unset, .unset, .unset, .unset, .unset, .unset, .unset, .unset, .unset, .unset, .unset, .unset, .unset] [(.long q1)])) _
    refine X0.ldc2Long hx hown (mvT hZ (hw _ (List.mem_of_getElem? (i := 0) rfl))) (g := (mkF m 1 #[.val (.long q1), .second, .val (.int p2), .val (.int p3), .unset, .unset, .unset, .unset, .unset, .unset, .unset, .unset, .unset, .unset, .unset, .unset, .unset, .unset, .unset, .unset, .unset, .unset] [(.long q1)])) rfl (hb hby at_1) _ ?_
    show Steps p.tables e below (s₁.setTop (mkF m 4 #[.val (.long q1), .second, .val (.int p2), .val (.int p3), .unset, .unset, .unset, .unset, .unset, .unset, .unset, .unset, .unset, .unset, .unset, .unset, .unset, .unset, .unset, .unset, .unset, .unset] [(.long (9007199187632128 : Int64)), (.long q1)])) _
    refine XS.lrem X0.here hx rfl (hb hby at_4) rfl (by decide) ?_
    show Steps p.tables e below (s₁.setTop (mkF m 5 #[.val (.long q1), .second, .val (.int p2), .val (.int p3), .unset, .unset, .unset, .unset, .unset, .unset, .unset, .unset, .unset, .unset, .unset, .unset, .unset, .unset, .unset, .unset, .unset, .unset] [(.long (q1 - (q1 / (9007199187632128 : Int64)) * (9007199187632128 : Int64)))])) _
    refine XS.lstore X0.here hx rfl (hb hby at_5) rfl (l' := #[.val (.long q1), .second, .val (.int p2), .val (.int p3), .val (.long (t0_0 q1)), .second, .unset, .unset, .unset, .unset, .unset, .unset, .unset, .unset, .unset, .unset, .unset, .unset, .unset, .unset, .unset, .unset]) rfl ?_
    show Steps p.tables e below (s₁.setTop (mkF m 7 #[.val (.long q1), .second, .val (.int p2), .val (.int p3), .val (.long (t0_0 q1)), .second, .unset, .unset, .unset, .unset, .unset, .unset, .unset, .unset, .unset, .unset, .unset, .unset, .unset, .unset, .unset, .unset] [])) _
    refine XS.iloadN X0.here hx rfl (hb hby at_7) rfl ?_
    show Steps p.tables e below (s₁.setTop (mkF m 8 #[.val (.long q1), .second, .val (.int p2), .val (.int p3), .val (.long (t0_0 q1)), .second, .unset, .unset, .unset, .unset, .unset, .unset, .unset, .unset, .unset, .unset, .unset, .unset, .unset, .unset, .unset, .unset] [(.int p2)])) _
    refine X0.ldcInt hx hown (mvT hZ (hw _ (List.mem_of_getElem? (i := 1) rfl))) (g := (mkF m 8 #[.val (.long q1), .second, .val (.int p2), .val (.int p3), .val (.long (t0_0 q1)), .second, .unset, .unset, .unset, .unset, .unset, .unset, .unset, .unset, .unset, .unset, .unset, .unset, .unset, .unset, .unset, .unset] [(.int p2)])) rfl (hb hby at_8) _ ?_
    show Steps p.tables e below (s₁.setTop (mkF m 10 #[.val (.long q1), .second, .val (.int p2), .val (.int p3), .val (.long (t0_0 q1)), .second, .unset, .unset, .unset, .unset, .unset, .unset, .unset, .unset, .unset, .unset, .unset, .unset, .unset, .unset, .unset, .unset] [(.int (33554431 : Int32)), (.int p2)])) _
    refine XS.iand X0.here hx rfl (hb hby at_10) rfl ?_
    show Steps p.tables e below (s₁.setTop (mkF m 11 #[.val (.long q1), .second, .val (.int p2), .val (.int p3), .val (.long (t0_0 q1)), .second, .unset, .unset, .unset, .unset, .unset, .unset, .unset, .unset, .unset, .unset, .unset, .unset, .unset, .unset, .unset, .unset] [(.int (p2 &&& (33554431 : Int32)))])) _
    refine X0.ldcInt hx hown (mvT hZ (hw _ (List.mem_of_getElem? (i := 2) rfl))) (g := (mkF m 11 #[.val (.long q1), .second, .val (.int p2), .val (.int p3), .val (.long (t0_0 q1)), .second, .unset, .unset, .unset, .unset, .unset, .unset, .unset, .unset, .unset, .unset, .unset, .unset, .unset, .unset, .unset, .unset] [(.int (p2 &&& (33554431 : Int32)))])) rfl (hb hby at_11) _ ?_
    show Steps p.tables e below (s₁.setTop (mkF m 13 #[.val (.long q1), .second, .val (.int p2), .val (.int p3), .val (.long (t0_0 q1)), .second, .unset, .unset, .unset, .unset, .unset, .unset, .unset, .unset, .unset, .unset, .unset, .unset, .unset, .unset, .unset, .unset] [(.int (16777216 : Int32)), (.int (p2 &&& (33554431 : Int32)))])) _
    refine XS.isub X0.here hx rfl (hb hby at_13) rfl ?_
    show Steps p.tables e below (s₁.setTop (mkF m 14 #[.val (.long q1), .second, .val (.int p2), .val (.int p3), .val (.long (t0_0 q1)), .second, .unset, .unset, .unset, .unset, .unset, .unset, .unset, .unset, .unset, .unset, .unset, .unset, .unset, .unset, .unset, .unset] [(.int ((p2 &&& (33554431 : Int32)) - (16777216 : Int32)))])) _
    refine XS.i2l X0.here hx rfl (hb hby at_14) rfl ?_
    show Steps p.tables e below (s₁.setTop (mkF m 15 #[.val (.long q1), .second, .val (.int p2), .val (.int p3), .val (.long (t0_0 q1)), .second, .unset, .unset, .unset, .unset, .unset, .unset, .unset, .unset, .unset, .unset, .unset, .unset, .unset, .unset, .unset, .unset] [(.long (((p2 &&& (33554431 : Int32)) - (16777216 : Int32)).toInt64))])) _
    refine XS.lstore X0.here hx rfl (hb hby at_15) rfl (l' := #[.val (.long q1), .second, .val (.int p2), .val (.int p3), .val (.long (t0_0 q1)), .second, .val (.long (((p2 &&& (33554431 : Int32)) - (16777216 : Int32)).toInt64)), .second, .unset, .unset, .unset, .unset, .unset, .unset, .unset, .unset, .unset, .unset, .unset, .unset, .unset, .unset]) rfl ?_
    show Steps p.tables e below (s₁.setTop (mkF m 17 #[.val (.long q1), .second, .val (.int p2), .val (.int p3), .val (.long (t0_0 q1)), .second, .val (.long (((p2 &&& (33554431 : Int32)) - (16777216 : Int32)).toInt64)), .second, .unset, .unset, .unset, .unset, .unset, .unset, .unset, .unset, .unset, .unset, .unset, .unset, .unset, .unset] [])) _
    refine X0.ldc2Long hx hown (mvT hZ (hw _ (List.mem_of_getElem? (i := 3) rfl))) (g := (mkF m 17 #[.val (.long q1), .second, .val (.int p2), .val (.int p3), .val (.long (t0_0 q1)), .second, .val (.long (((p2 &&& (33554431 : Int32)) - (16777216 : Int32)).toInt64)), .second, .unset, .unset, .unset, .unset, .unset, .unset, .unset, .unset, .unset, .unset, .unset, .unset, .unset, .unset] [])) rfl (hb hby at_17) _ ?_
    show Steps p.tables e below (s₁.setTop (mkF m 20 #[.val (.long q1), .second, .val (.int p2), .val (.int p3), .val (.long (t0_0 q1)), .second, .val (.long (((p2 &&& (33554431 : Int32)) - (16777216 : Int32)).toInt64)), .second, .unset, .unset, .unset, .unset, .unset, .unset, .unset, .unset, .unset, .unset, .unset, .unset, .unset, .unset] [(.long (2 : Int64))])) _
    refine XS.iloadN X0.here hx rfl (hb hby at_20) rfl ?_
    show Steps p.tables e below (s₁.setTop (mkF m 21 #[.val (.long q1), .second, .val (.int p2), .val (.int p3), .val (.long (t0_0 q1)), .second, .val (.long (((p2 &&& (33554431 : Int32)) - (16777216 : Int32)).toInt64)), .second, .unset, .unset, .unset, .unset, .unset, .unset, .unset, .unset, .unset, .unset, .unset, .unset, .unset, .unset] [(.int p3), (.long (2 : Int64))])) _
    refine X0.ldcInt hx hown (mvT hZ (hw _ (List.mem_of_getElem? (i := 4) rfl))) (g := (mkF m 21 #[.val (.long q1), .second, .val (.int p2), .val (.int p3), .val (.long (t0_0 q1)), .second, .val (.long (((p2 &&& (33554431 : Int32)) - (16777216 : Int32)).toInt64)), .second, .unset, .unset, .unset, .unset, .unset, .unset, .unset, .unset, .unset, .unset, .unset, .unset, .unset, .unset] [(.int p3), (.long (2 : Int64))])) rfl (hb hby at_21) _ ?_
    show Steps p.tables e below (s₁.setTop (mkF m 23 #[.val (.long q1), .second, .val (.int p2), .val (.int p3), .val (.long (t0_0 q1)), .second, .val (.long (((p2 &&& (33554431 : Int32)) - (16777216 : Int32)).toInt64)), .second, .unset, .unset, .unset, .unset, .unset, .unset, .unset, .unset, .unset, .unset, .unset, .unset, .unset, .unset] [(.int (8388607 : Int32)), (.int p3), (.long (2 : Int64))])) _
    refine XS.iand X0.here hx rfl (hb hby at_23) rfl ?_
    show Steps p.tables e below (s₁.setTop (mkF m 24 #[.val (.long q1), .second, .val (.int p2), .val (.int p3), .val (.long (t0_0 q1)), .second, .val (.long (((p2 &&& (33554431 : Int32)) - (16777216 : Int32)).toInt64)), .second, .unset, .unset, .unset, .unset, .unset, .unset, .unset, .unset, .unset, .unset, .unset, .unset, .unset, .unset] [(.int (p3 &&& (8388607 : Int32))), (.long (2 : Int64))])) _
    refine X0.ldcInt hx hown (mvT hZ (hw _ (List.mem_of_getElem? (i := 5) rfl))) (g := (mkF m 24 #[.val (.long q1), .second, .val (.int p2), .val (.int p3), .val (.long (t0_0 q1)), .second, .val (.long (((p2 &&& (33554431 : Int32)) - (16777216 : Int32)).toInt64)), .second, .unset, .unset, .unset, .unset, .unset, .unset, .unset, .unset, .unset, .unset, .unset, .unset, .unset, .unset] [(.int (p3 &&& (8388607 : Int32))), (.long (2 : Int64))])) rfl (hb hby at_24) _ ?_
    show Steps p.tables e below (s₁.setTop (mkF m 26 #[.val (.long q1), .second, .val (.int p2), .val (.int p3), .val (.long (t0_0 q1)), .second, .val (.long (((p2 &&& (33554431 : Int32)) - (16777216 : Int32)).toInt64)), .second, .unset, .unset, .unset, .unset, .unset, .unset, .unset, .unset, .unset, .unset, .unset, .unset, .unset, .unset] [(.int (4194304 : Int32)), (.int (p3 &&& (8388607 : Int32))), (.long (2 : Int64))])) _
    refine XS.isub X0.here hx rfl (hb hby at_26) rfl ?_
    show Steps p.tables e below (s₁.setTop (mkF m 27 #[.val (.long q1), .second, .val (.int p2), .val (.int p3), .val (.long (t0_0 q1)), .second, .val (.long (((p2 &&& (33554431 : Int32)) - (16777216 : Int32)).toInt64)), .second, .unset, .unset, .unset, .unset, .unset, .unset, .unset, .unset, .unset, .unset, .unset, .unset, .unset, .unset] [(.int ((p3 &&& (8388607 : Int32)) - (4194304 : Int32))), (.long (2 : Int64))])) _
    refine XS.i2l X0.here hx rfl (hb hby at_27) rfl ?_
    show Steps p.tables e below (s₁.setTop (mkF m 28 #[.val (.long q1), .second, .val (.int p2), .val (.int p3), .val (.long (t0_0 q1)), .second, .val (.long (((p2 &&& (33554431 : Int32)) - (16777216 : Int32)).toInt64)), .second, .unset, .unset, .unset, .unset, .unset, .unset, .unset, .unset, .unset, .unset, .unset, .unset, .unset, .unset] [(.long (((p3 &&& (8388607 : Int32)) - (4194304 : Int32)).toInt64)), (.long (2 : Int64))])) _
    refine XS.lmul X0.here hx rfl (hb hby at_28) rfl ?_
    show Steps p.tables e below (s₁.setTop (mkF m 29 #[.val (.long q1), .second, .val (.int p2), .val (.int p3), .val (.long (t0_0 q1)), .second, .val (.long (((p2 &&& (33554431 : Int32)) - (16777216 : Int32)).toInt64)), .second, .unset, .unset, .unset, .unset, .unset, .unset, .unset, .unset, .unset, .unset, .unset, .unset, .unset, .unset] [(.long ((2 : Int64) * (((p3 &&& (8388607 : Int32)) - (4194304 : Int32)).toInt64)))])) _
    refine XS.lload X0.here hx rfl (hb hby at_29) rfl ?_
    show Steps p.tables e below (s₁.setTop (mkF m 31 #[.val (.long q1), .second, .val (.int p2), .val (.int p3), .val (.long (t0_0 q1)), .second, .val (.long (((p2 &&& (33554431 : Int32)) - (16777216 : Int32)).toInt64)), .second, .unset, .unset, .unset, .unset, .unset, .unset, .unset, .unset, .unset, .unset, .unset, .unset, .unset, .unset] [(.long (((p2 &&& (33554431 : Int32)) - (16777216 : Int32)).toInt64)), (.long ((2 : Int64) * (((p3 &&& (8388607 : Int32)) - (4194304 : Int32)).toInt64)))])) _
    refine XS.lconst X0.here hx rfl (hb hby at_31) ?_
    show Steps p.tables e below (s₁.setTop (mkF m 32 #[.val (.long q1), .second, .val (.int p2), .val (.int p3), .val (.long (t0_0 q1)), .second, .val (.long (((p2 &&& (33554431 : Int32)) - (16777216 : Int32)).toInt64)), .second, .unset, .unset, .unset, .unset, .unset, .unset, .unset, .unset, .unset, .unset, .unset, .unset, .unset, .unset] [(.long (1 : Int64)), (.long (((p2 &&& (33554431 : Int32)) - (16777216 : Int32)).toInt64)), (.long ((2 : Int64) * (((p3 &&& (8388607 : Int32)) - (4194304 : Int32)).toInt64)))])) _
    refine XS.land X0.here hx rfl (hb hby at_32) rfl ?_
    show Steps p.tables e below (s₁.setTop (mkF m 33 #[.val (.long q1), .second, .val (.int p2), .val (.int p3), .val (.long (t0_0 q1)), .second, .val (.long (((p2 &&& (33554431 : Int32)) - (16777216 : Int32)).toInt64)), .second, .unset, .unset, .unset, .unset, .unset, .unset, .unset, .unset, .unset, .unset, .unset, .unset, .unset, .unset] [(.long ((((p2 &&& (33554431 : Int32)) - (16777216 : Int32)).toInt64) &&& (1 : Int64))), (.long ((2 : Int64) * (((p3 &&& (8388607 : Int32)) - (4194304 : Int32)).toInt64)))])) _
    refine XS.ladd X0.here hx rfl (hb hby at_33) rfl ?_
    show Steps p.tables e below (s₁.setTop (mkF m 34 #[.val (.long q1), .second, .val (.int p2), .val (.int p3), .val (.long (t0_0 q1)), .second, .val (.long (((p2 &&& (33554431 : Int32)) - (16777216 : Int32)).toInt64)), .second, .unset, .unset, .unset, .unset, .unset, .unset, .unset, .unset, .unset, .unset, .unset, .unset, .unset, .unset] [(.long (((2 : Int64) * (((p3 &&& (8388607 : Int32)) - (4194304 : Int32)).toInt64)) + ((((p2 &&& (33554431 : Int32)) - (16777216 : Int32)).toInt64) &&& (1 : Int64))))])) _
    refine XS.lstore X0.here hx rfl (hb hby at_34) rfl (l' := #[.val (.long q1), .second, .val (.int p2), .val (.int p3), .val (.long (t0_0 q1)), .second, .val (.long (((p2 &&& (33554431 : Int32)) - (16777216 : Int32)).toInt64)), .second, .val (.long (t0_1 p2 p3)), .second, .unset, .unset, .unset, .unset, .unset, .unset, .unset, .unset, .unset, .unset, .unset, .unset]) rfl ?_
    show Steps p.tables e below (s₁.setTop (mkF m 36 #[.val (.long q1), .second, .val (.int p2), .val (.int p3), .val (.long (t0_0 q1)), .second, .val (.long (((p2 &&& (33554431 : Int32)) - (16777216 : Int32)).toInt64)), .second, .val (.long (t0_1 p2 p3)), .second, .unset, .unset, .unset, .unset, .unset, .unset, .unset, .unset, .unset, .unset, .unset, .unset] [])) _
    refine XS.lload X0.here hx rfl (hb hby at_36) rfl ?_
    show Steps p.tables e below (s₁.setTop (mkF m 38 #[.val (.long q1), .second, .val (.int p2), .val (.int p3), .val (.long (t0_0 q1)), .second, .val (.long (((p2 &&& (33554431 : Int32)) - (16777216 : Int32)).toInt64)), .second, .val (.long (t0_1 p2 p3)), .second, .unset, .unset, .unset, .unset, .unset, .unset, .unset, .unset, .unset, .unset, .unset, .unset] [(.long (((p2 &&& (33554431 : Int32)) - (16777216 : Int32)).toInt64))])) _
    refine X0.ldc2Long hx hown (mvT hZ (hw _ (List.mem_of_getElem? (i := 6) rfl))) (g := (mkF m 38 #[.val (.long q1), .second, .val (.int p2), .val (.int p3), .val (.long (t0_0 q1)), .second, .val (.long (((p2 &&& (33554431 : Int32)) - (16777216 : Int32)).toInt64)), .second, .val (.long (t0_1 p2 p3)), .second, .unset, .unset, .unset, .unset, .unset, .unset, .unset, .unset, .unset, .unset, .unset, .unset] [(.long (((p2 &&& (33554431 : Int32)) - (16777216 : Int32)).toInt64))])) rfl (hb hby at_38) _ ?_
    show Steps p.tables e below (s₁.setTop (mkF m 41 #[.val (.long q1), .second, .val (.int p2), .val (.int p3), .val (.long (t0_0 q1)), .second, .val (.long (((p2 &&& (33554431 : Int32)) - (16777216 : Int32)).toInt64)), .second, .val (.long (t0_1 p2 p3)), .second, .unset, .unset, .unset, .unset, .unset, .unset, .unset, .unset, .unset, .unset, .unset, .unset] [(.long (3 : Int64)), (.long (((p2 &&& (33554431 : Int32)) - (16777216 : Int32)).toInt64))])) _
    refine XS.lload X0.here hx rfl (hb hby at_41) rfl ?_
    show Steps p.tables e below (s₁.setTop (mkF m 43 #[.val (.long q1), .second, .val (.int p2), .val (.int p3), .val (.long (t0_0 q1)), .second, .val (.long (((p2 &&& (33554431 : Int32)) - (16777216 : Int32)).toInt64)), .second, .val (.long (t0_1 p2 p3)), .second, .unset, .unset, .unset, .unset, .unset, .unset, .unset, .unset, .unset, .unset, .unset, .unset] [(.long (t0_1 p2 p3)), (.long (3 : Int64)), (.long (((p2 &&& (33554431 : Int32)) - (16777216 : Int32)).toInt64))])) _
    refine XS.lmul X0.here hx rfl (hb hby at_43) rfl ?_
    show Steps p.tables e below (s₁.setTop (mkF m 44 #[.val (.long q1), .second, .val (.int p2), .val (.int p3), .val (.long (t0_0 q1)), .second, .val (.long (((p2 &&& (33554431 : Int32)) - (16777216 : Int32)).toInt64)), .second, .val (.long (t0_1 p2 p3)), .second, .unset, .unset, .unset, .unset, .unset, .unset, .unset, .unset, .unset, .unset, .unset, .unset] [(.long ((3 : Int64) * (t0_1 p2 p3))), (.long (((p2 &&& (33554431 : Int32)) - (16777216 : Int32)).toInt64))])) _
    refine XS.ladd X0.here hx rfl (hb hby at_44) rfl ?_
    show Steps p.tables e below (s₁.setTop (mkF m 45 #[.val (.long q1), .second, .val (.int p2), .val (.int p3), .val (.long (t0_0 q1)), .second, .val (.long (((p2 &&& (33554431 : Int32)) - (16777216 : Int32)).toInt64)), .second, .val (.long (t0_1 p2 p3)), .second, .unset, .unset, .unset, .unset, .unset, .unset, .unset, .unset, .unset, .unset, .unset, .unset] [(.long ((((p2 &&& (33554431 : Int32)) - (16777216 : Int32)).toInt64) + ((3 : Int64) * (t0_1 p2 p3))))])) _
    refine X0.ldc2Long hx hown (mvT hZ (hw _ (List.mem_of_getElem? (i := 3) rfl))) (g := (mkF m 45 #[.val (.long q1), .second, .val (.int p2), .val (.int p3), .val (.long (t0_0 q1)), .second, .val (.long (((p2 &&& (33554431 : Int32)) - (16777216 : Int32)).toInt64)), .second, .val (.long (t0_1 p2 p3)), .second, .unset, .unset, .unset, .unset, .unset, .unset, .unset, .unset, .unset, .unset, .unset, .unset] [(.long ((((p2 &&& (33554431 : Int32)) - (16777216 : Int32)).toInt64) + ((3 : Int64) * (t0_1 p2 p3))))])) rfl (hb hby at_45) _ ?_
    show Steps p.tables e below (s₁.setTop (mkF m 48 #[.val (.long q1), .second, .val (.int p2), .val (.int p3), .val (.long (t0_0 q1)), .second, .val (.long (((p2 &&& (33554431 : Int32)) - (16777216 : Int32)).toInt64)), .second, .val (.long (t0_1 p2 p3)), .second, .unset, .unset, .unset, .unset, .unset, .unset, .unset, .unset, .unset, .unset, .unset, .unset] [(.long (2 : Int64)), (.long ((((p2 &&& (33554431 : Int32)) - (16777216 : Int32)).toInt64) + ((3 : Int64) * (t0_1 p2 p3))))])) _
    refine XS.ldiv X0.here hx rfl (hb hby at_48) rfl (by decide) ?_
    show Steps p.tables e below (s₁.setTop (mkF m 49 #[.val (.long q1), .second, .val (.int p2), .val (.int p3), .val (.long (t0_0 q1)), .second, .val (.long (((p2 &&& (33554431 : Int32)) - (16777216 : Int32)).toInt64)), .second, .val (.long (t0_1 p2 p3)), .second, .unset, .unset, .unset, .unset, .unset, .unset, .unset, .unset, .unset, .unset, .unset, .unset] [(.long ((t0_2 p2 p3) / (2 : Int64)))])) _
    refine XS.lstore X0.here hx rfl (hb hby at_49) rfl (l' := #[.val (.long q1), .second, .val (.int p2), .val (.int p3), .val (.long (t0_0 q1)), .second, .val (.long (((p2 &&& (33554431 : Int32)) - (16777216 : Int32)).toInt64)), .second, .val (.long (t0_1 p2 p3)), .second, .val (.long ((t0_2 p2 p3) / (2 : Int64))), .second, .unset, .unset, .unset, .unset, .unset, .unset, .unset, .unset, .unset, .unset]) rfl ?_
    show Steps p.tables e below (s₁.setTop (mkF m 51 #[.val (.long q1), .second, .val (.int p2), .val (.int p3), .val (.long (t0_0 q1)), .second, .val (.long (((p2 &&& (33554431 : Int32)) - (16777216 : Int32)).toInt64)), .second, .val (.long (t0_1 p2 p3)), .second, .val (.long ((t0_2 p2 p3) / (2 : Int64))), .second, .unset, .unset, .unset, .unset, .unset, .unset, .unset, .unset, .unset, .unset] [])) _
    refine XS.lload X0.here hx rfl (hb hby at_51) rfl ?_
    show Steps p.tables e below (s₁.setTop (mkF m 53 #[.val (.long q1), .second, .val (.int p2), .val (.int p3), .val (.long (t0_0 q1)), .second, .val (.long (((p2 &&& (33554431 : Int32)) - (16777216 : Int32)).toInt64)), .second, .val (.long (t0_1 p2 p3)), .second, .val (.long ((t0_2 p2 p3) / (2 : Int64))), .second, .unset, .unset, .unset, .unset, .unset, .unset, .unset, .unset, .unset, .unset] [(.long (t0_0 q1))])) _
    refine XS.l2dS X0.here hx rfl (hb hby at_53) rfl (v := (FP.l2d (t0_0 q1))) rfl ?_
    show Steps p.tables e below (s₁.setTop (mkF m 54 #[.val (.long q1), .second, .val (.int p2), .val (.int p3), .val (.long (t0_0 q1)), .second, .val (.long (((p2 &&& (33554431 : Int32)) - (16777216 : Int32)).toInt64)), .second, .val (.long (t0_1 p2 p3)), .second, .val (.long ((t0_2 p2 p3) / (2 : Int64))), .second, .unset, .unset, .unset, .unset, .unset, .unset, .unset, .unset, .unset, .unset] [(.double (FP.l2d (t0_0 q1)))])) _
    refine XS.dstore X0.here hx rfl (hb hby at_54) rfl (l' := #[.val (.long q1), .second, .val (.int p2), .val (.int p3), .val (.long (t0_0 q1)), .second, .val (.long (((p2 &&& (33554431 : Int32)) - (16777216 : Int32)).toInt64)), .second, .val (.long (t0_1 p2 p3)), .second, .val (.long ((t0_2 p2 p3) / (2 : Int64))), .second, .val (.double (FP.l2d (t0_0 q1))), .second, .unset, .unset, .unset, .unset, .unset, .unset, .unset, .unset]) rfl ?_
    show Steps p.tables e below (s₁.setTop (mkF m 56 #[.val (.long q1), .second, .val (.int p2), .val (.int p3), .val (.long (t0_0 q1)), .second, .val (.long (((p2 &&& (33554431 : Int32)) - (16777216 : Int32)).toInt64)), .second, .val (.long (t0_1 p2 p3)), .second, .val (.long ((t0_2 p2 p3) / (2 : Int64))), .second, .val (.double (FP.l2d (t0_0 q1))), .second, .unset, .unset, .unset, .unset, .unset, .unset, .unset, .unset] [])) _
    refine XS.lload X0.here hx rfl (hb hby at_56) rfl ?_
    show Steps p.tables e below (s₁.setTop (mkF m 58 #[.val (.long q1), .second, .val (.int p2), .val (.int p3), .val (.long (t0_0 q1)), .second, .val (.long (((p2 &&& (33554431 : Int32)) - (16777216 : Int32)).toInt64)), .second, .val (.long (t0_1 p2 p3)), .second, .val (.long ((t0_2 p2 p3) / (2 : Int64))), .second, .val (.double (FP.l2d (t0_0 q1))), .second, .unset, .unset, .unset, .unset, .unset, .unset, .unset, .unset] [(.long (t0_0 q1))])) _
    refine XS.lload X0.here hx rfl (hb hby at_58) rfl ?_
    show Steps p.tables e below (s₁.setTop (mkF m 60 #[.val (.long q1), .second, .val (.int p2), .val (.int p3), .val (.long (t0_0 q1)), .second, .val (.long (((p2 &&& (33554431 : Int32)) - (16777216 : Int32)).toInt64)), .second, .val (.long (t0_1 p2 p3)), .second, .val (.long ((t0_2 p2 p3) / (2 : Int64))), .second, .val (.double (FP.l2d (t0_0 q1))), .second, .unset, .unset, .unset, .unset, .unset, .unset, .unset, .unset] [(.long (((p2 &&& (33554431 : Int32)) - (16777216 : Int32)).toInt64)), (.long (t0_0 q1))])) _
    refine XS.ladd X0.here hx rfl (hb hby at_60) rfl ?_
    show Steps p.tables e below (s₁.setTop (mkF m 61 #[.val (.long q1), .second, .val (.int p2), .val (.int p3), .val (.long (t0_0 q1)), .second, .val (.long (((p2 &&& (33554431 : Int32)) - (16777216 : Int32)).toInt64)), .second, .val (.long (t0_1 p2 p3)), .second, .val (.long ((t0_2 p2 p3) / (2 : Int64))), .second, .val (.double (FP.l2d (t0_0 q1))), .second, .unset, .unset, .unset, .unset, .unset, .unset, .unset, .unset] [(.long ((t0_0 q1) + (((p2 &&& (33554431 : Int32)) - (16777216 : Int32)).toInt64)))])) _
    refine XS.l2dS X0.here hx rfl (hb hby at_61) rfl (v := (FP.l2d (t0_3 q1 p2))) rfl ?_
    show Steps p.tables e below (s₁.setTop (mkF m 62 #[.val (.long q1), .second, .val (.int p2), .val (.int p3), .val (.long (t0_0 q1)), .second, .val (.long (((p2 &&& (33554431 : Int32)) - (16777216 : Int32)).toInt64)), .second, .val (.long (t0_1 p2 p3)), .second, .val (.long ((t0_2 p2 p3) / (2 : Int64))), .second, .val (.double (FP.l2d (t0_0 q1))), .second, .unset, .unset, .unset, .unset, .unset, .unset, .unset, .unset] [(.double (FP.l2d (t0_3 q1 p2)))])) _
    refine XS.dstore X0.here hx rfl (hb hby at_62) rfl (l' := #[.val (.long q1), .second, .val (.int p2), .val (.int p3), .val (.long (t0_0 q1)), .second, .val (.long (((p2 &&& (33554431 : Int32)) - (16777216 : Int32)).toInt64)), .second, .val (.long (t0_1 p2 p3)), .second, .val (.long ((t0_2 p2 p3) / (2 : Int64))), .second, .val (.double (FP.l2d (t0_0 q1))), .second, .val (.double (FP.l2d (t0_3 q1 p2))), .second, .unset, .unset, .unset, .unset, .unset, .unset]) rfl ?_
    show Steps p.tables e below (s₁.setTop (mkF m 64 #[.val (.long q1), .second, .val (.int p2), .val (.int p3), .val (.long (t0_0 q1)), .second, .val (.long (((p2 &&& (33554431 : Int32)) - (16777216 : Int32)).toInt64)), .second, .val (.long (t0_1 p2 p3)), .second, .val (.long ((t0_2 p2 p3) / (2 : Int64))), .second, .val (.double (FP.l2d (t0_0 q1))), .second, .val (.double (FP.l2d (t0_3 q1 p2))), .second, .unset, .unset, .unset, .unset, .unset, .unset] [])) _
    refine XS.lload X0.here hx rfl (hb hby at_64) rfl ?_
    show Steps p.tables e below (s₁.setTop (mkF m 66 #[.val (.long q1), .second, .val (.int p2), .val (.int p3), .val (.long (t0_0 q1)), .second, .val (.long (((p2 &&& (33554431 : Int32)) - (16777216 : Int32)).toInt64)), .second, .val (.long (t0_1 p2 p3)), .second, .val (.long ((t0_2 p2 p3) / (2 : Int64))), .second, .val (.double (FP.l2d (t0_0 q1))), .second, .val (.double (FP.l2d (t0_3 q1 p2))), .second, .unset, .unset, .unset, .unset, .unset, .unset] [(.long (t0_0 q1))])) _
    refine XS.lload X0.here hx rfl (hb hby at_66) rfl ?_
    show Steps p.tables e below (s₁.setTop (mkF m 68 #[.val (.long q1), .second, .val (.int p2), .val (.int p3), .val (.long (t0_0 q1)), .second, .val (.long (((p2 &&& (33554431 : Int32)) - (16777216 : Int32)).toInt64)), .second, .val (.long (t0_1 p2 p3)), .second, .val (.long ((t0_2 p2 p3) / (2 : Int64))), .second, .val (.double (FP.l2d (t0_0 q1))), .second, .val (.double (FP.l2d (t0_3 q1 p2))), .second, .unset, .unset, .unset, .unset, .unset, .unset] [(.long ((t0_2 p2 p3) / (2 : Int64))), (.long (t0_0 q1))])) _
    refine XS.ladd X0.here hx rfl (hb hby at_68) rfl ?_
    show Steps p.tables e below (s₁.setTop (mkF m 69 #[.val (.long q1), .second, .val (.int p2), .val (.int p3), .val (.long (t0_0 q1)), .second, .val (.long (((p2 &&& (33554431 : Int32)) - (16777216 : Int32)).toInt64)), .second, .val (.long (t0_1 p2 p3)), .second, .val (.long ((t0_2 p2 p3) / (2 : Int64))), .second, .val (.double (FP.l2d (t0_0 q1))), .second, .val (.double (FP.l2d (t0_3 q1 p2))), .second, .unset, .unset, .unset, .unset, .unset, .unset] [(.long ((t0_0 q1) + ((t0_2 p2 p3) / (2 : Int64))))])) _
    refine XS.l2dS X0.here hx rfl (hb hby at_69) rfl (v := (FP.l2d ((t0_0 q1) + ((t0_2 p2 p3) / (2 : Int64))))) rfl ?_
    show Steps p.tables e below (s₁.setTop (mkF m 70 #[.val (.long q1), .second, .val (.int p2), .val (.int p3), .val (.long (t0_0 q1)), .second, .val (.long (((p2 &&& (33554431 : Int32)) - (16777216 : Int32)).toInt64)), .second, .val (.long (t0_1 p2 p3)), .second, .val (.long ((t0_2 p2 p3) / (2 : Int64))), .second, .val (.double (FP.l2d (t0_0 q1))), .second, .val (.double (FP.l2d (t0_3 q1 p2))), .second, .unset, .unset, .unset, .unset, .unset, .unset] [(.double (FP.l2d ((t0_0 q1) + ((t0_2 p2 p3) / (2 : Int64)))))])) _
    refine XS.dstore X0.here hx rfl (hb hby at_70) rfl (l' := #[.val (.long q1), .second, .val (.int p2), .val (.int p3), .val (.long (t0_0 q1)), .second, .val (.long (((p2 &&& (33554431 : Int32)) - (16777216 : Int32)).toInt64)), .second, .val (.long (t0_1 p2 p3)), .second, .val (.long ((t0_2 p2 p3) / (2 : Int64))), .second, .val (.double (FP.l2d (t0_0 q1))), .second, .val (.double (FP.l2d (t0_3 q1 p2))), .second, .val (.double (FP.l2d ((t0_0 q1) + ((t0_2 p2 p3) / (2 : Int64))))), .second, .unset, .unset, .unset, .unset]) rfl ?_
    show Steps p.tables e below (s₁.setTop (mkF m 72 #[.val (.long q1), .second, .val (.int p2), .val (.int p3), .val (.long (t0_0 q1)), .second, .val (.long (((p2 &&& (33554431 : Int32)) - (16777216 : Int32)).toInt64)), .second, .val (.long (t0_1 p2 p3)), .second, .val (.long ((t0_2 p2 p3) / (2 : Int64))), .second, .val (.double (FP.l2d (t0_0 q1))), .second, .val (.double (FP.l2d (t0_3 q1 p2))), .second, .val (.double (FP.l2d ((t0_0 q1) + ((t0_2 p2 p3) / (2 : Int64))))), .second, .unset, .unset, .unset, .unset] [])) _
    refine st4 _ ?_
    show Steps p.tables e below (T4.setTop (mkF m 75 #[.val (.long q1), .second, .val (.int p2), .val (.int p3), .val (.long (t0_0 q1)), .second, .val (.long (((p2 &&& (33554431 : Int32)) - (16777216 : Int32)).toInt64)), .second, .val (.long (t0_1 p2 p3)), .second, .val (.long ((t0_2 p2 p3) / (2 : Int64))), .second, .val (.double (FP.l2d (t0_0 q1))), .second, .val (.double (FP.l2d (t0_3 q1 p2))), .second, .val (.double (FP.l2d ((t0_0 q1) + ((t0_2 p2 p3) / (2 : Int64))))), .second, .unset, .unset, .unset, .unset] [(.ref b4)])) _
    refine XS.dup X4.here hx rfl (hb hby at_75) rfl rfl ?_
    show Steps p.tables e below (T4.setTop (mkF m 76 #[.val (.long q1), .second, .val (.int p2), .val (.int p3), .val (.long (t0_0 q1)), .second, .val (.long (((p2 &&& (33554431 : Int32)) - (16777216 : Int32)).toInt64)), .second, .val (.long (t0_1 p2 p3)), .second, .val (.long ((t0_2 p2 p3) / (2 : Int64))), .second, .val (.double (FP.l2d (t0_0 q1))), .second, .val (.double (FP.l2d (t0_3 q1 p2))), .second, .val (.double (FP.l2d ((t0_0 q1) + ((t0_2 p2 p3) / (2 : Int64))))), .second, .unset, .unset, .unset, .unset] [(.ref b4), (.ref b4)])) _
    refine st5.trans ?_
    show Steps p.tables e below (T5.setTop (mkF m 79 #[.val (.long q1), .second, .val (.int p2), .val (.int p3), .val (.long (t0_0 q1)), .second, .val (.long (((p2 &&& (33554431 : Int32)) - (16777216 : Int32)).toInt64)), .second, .val (.long (t0_1 p2 p3)), .second, .val (.long ((t0_2 p2 p3) / (2 : Int64))), .second, .val (.double (FP.l2d (t0_0 q1))), .second, .val (.double (FP.l2d (t0_3 q1 p2))), .second, .val (.double (FP.l2d ((t0_0 q1) + ((t0_2 p2 p3) / (2 : Int64))))), .second, .unset, .unset, .unset, .unset] [(.ref b4)])) _
    refine XS.astore X5.here hx rfl (hb hby at_79) rfl rfl (l' := #[.val (.long q1), .second, .val (.int p2), .val (.int p3), .val (.long (t0_0 q1)), .second, .val (.long (((p2 &&& (33554431 : Int32)) - (16777216 : Int32)).toInt64)), .second, .val (.long (t0_1 p2 p3)), .second, .val (.long ((t0_2 p2 p3) / (2 : Int64))), .second, .val (.double (FP.l2d (t0_0 q1))), .second, .val (.double (FP.l2d (t0_3 q1 p2))), .second, .val (.double (FP.l2d ((t0_0 q1) + ((t0_2 p2 p3) / (2 : Int64))))), .second, .val (.ref b4), .unset, .unset, .unset]) rfl ?_
    show Steps p.tables e below (T5.setTop (mkF m 81 #[.val (.long q1), .second, .val (.int p2), .val (.int p3), .val (.long (t0_0 q1)), .second, .val (.long (((p2 &&& (33554431 : Int32)) - (16777216 : Int32)).toInt64)), .second, .val (.long (t0_1 p2 p3)), .second, .val (.long ((t0_2 p2 p3) / (2 : Int64))), .second, .val (.double (FP.l2d (t0_0 q1))), .second, .val (.double (FP.l2d (t0_3 q1 p2))), .second, .val (.double (FP.l2d ((t0_0 q1) + ((t0_2 p2 p3) / (2 : Int64))))), .second, .val (.ref b4), .unset, .unset, .unset] [])) _
    refine XS.aload X5.here hx rfl (hb hby at_81) rfl rfl ?_
    show Steps p.tables e below (T5.setTop (mkF m 83 #[.val (.long q1), .second, .val (.int p2), .val (.int p3), .val (.long (t0_0 q1)), .second, .val (.long (((p2 &&& (33554431 : Int32)) - (16777216 : Int32)).toInt64)), .second, .val (.long (t0_1 p2 p3)), .second, .val (.long ((t0_2 p2 p3) / (2 : Int64))), .second, .val (.double (FP.l2d (t0_0 q1))), .second, .val (.double (FP.l2d (t0_3 q1 p2))), .second, .val (.double (FP.l2d ((t0_0 q1) + ((t0_2 p2 p3) / (2 : Int64))))), .second, .val (.ref b4), .unset, .unset, .unset] [(.ref b4)])) _
    refine XS.dload X5.here hx rfl (hb hby at_83) rfl ?_
    show Steps p.tables e below (T5.setTop (mkF m 85 #[.val (.long q1), .second, .val (.int p2), .val (.int p3), .val (.long (t0_0 q1)), .second, .val (.long (((p2 &&& (33554431 : Int32)) - (16777216 : Int32)).toInt64)), .second, .val (.long (t0_1 p2 p3)), .second, .val (.long ((t0_2 p2 p3) / (2 : Int64))), .second, .val (.double (FP.l2d (t0_0 q1))), .second, .val (.double (FP.l2d (t0_3 q1 p2))), .second, .val (.double (FP.l2d ((t0_0 q1) + ((t0_2 p2 p3) / (2 : Int64))))), .second, .val (.ref b4), .unset, .unset, .unset] [(.double (FP.l2d (t0_0 q1))), (.ref b4)])) _
    refine st6.trans ?_
    show Steps p.tables e below (T6.setTop (mkF m 88 #[.val (.long q1), .second, .val (.int p2), .val (.int p3), .val (.long (t0_0 q1)), .second, .val (.long (((p2 &&& (33554431 : Int32)) - (16777216 : Int32)).toInt64)), .second, .val (.long (t0_1 p2 p3)), .second, .val (.long ((t0_2 p2 p3) / (2 : Int64))), .second, .val (.double (FP.l2d (t0_0 q1))), .second, .val (.double (FP.l2d (t0_3 q1 p2))), .second, .val (.double (FP.l2d ((t0_0 q1) + ((t0_2 p2 p3) / (2 : Int64))))), .second, .val (.ref b4), .unset, .unset, .unset] [])) _
    refine XS.aload X6.here hx rfl (hb hby at_88) rfl rfl ?_
    show Steps p.tables e below (T6.setTop (mkF m 90 #[.val (.long q1), .second, .val (.int p2), .val (.int p3), .val (.long (t0_0 q1)), .second, .val (.long (((p2 &&& (33554431 : Int32)) - (16777216 : Int32)).toInt64)), .second, .val (.long (t0_1 p2 p3)), .second, .val (.long ((t0_2 p2 p3) / (2 : Int64))), .second, .val (.double (FP.l2d (t0_0 q1))), .second, .val (.double (FP.l2d (t0_3 q1 p2))), .second, .val (.double (FP.l2d ((t0_0 q1) + ((t0_2 p2 p3) / (2 : Int64))))), .second, .val (.ref b4), .unset, .unset, .unset] [(.ref b4)])) _
    refine st7.trans ?_
    show Steps p.tables e below (T7.setTop (mkF m 93 #[.val (.long q1), .second, .val (.int p2), .val (.int p3), .val (.long (t0_0 q1)), .second, .val (.long (((p2 &&& (33554431 : Int32)) - (16777216 : Int32)).toInt64)), .second, .val (.long (t0_1 p2 p3)), .second, .val (.long ((t0_2 p2 p3) / (2 : Int64))), .second, .val (.double (FP.l2d (t0_0 q1))), .second, .val (.double (FP.l2d (t0_3 q1 p2))), .second, .val (.double (FP.l2d ((t0_0 q1) + ((t0_2 p2 p3) / (2 : Int64))))), .second, .val (.ref b4), .unset, .unset, .unset] [(.long ((0 : Int64) + (1 : Int64)))])) _
    refine XS.lconst X7.here hx rfl (hb hby at_93) ?_
    show Steps p.tables e below (T7.setTop (mkF m 94 #[.val (.long q1), .second, .val (.int p2), .val (.int p3), .val (.long (t0_0 q1)), .second, .val (.long (((p2 &&& (33554431 : Int32)) - (16777216 : Int32)).toInt64)), .second, .val (.long (t0_1 p2 p3)), .second, .val (.long ((t0_2 p2 p3) / (2 : Int64))), .second, .val (.double (FP.l2d (t0_0 q1))), .second, .val (.double (FP.l2d (t0_3 q1 p2))), .second, .val (.double (FP.l2d ((t0_0 q1) + ((t0_2 p2 p3) / (2 : Int64))))), .second, .val (.ref b4), .unset, .unset, .unset] [(.long (1 : Int64)), (.long ((0 : Int64) + (1 : Int64)))])) _
    refine XS.lcmp X7.here hx rfl (hb hby at_94) rfl ?_
    show Steps p.tables e below (T7.setTop (mkF m 95 #[.val (.long q1), .second, .val (.int p2), .val (.int p3), .val (.long (t0_0 q1)), .second, .val (.long (((p2 &&& (33554431 : Int32)) - (16777216 : Int32)).toInt64)), .second, .val (.long (t0_1 p2 p3)), .second, .val (.long ((t0_2 p2 p3) / (2 : Int64))), .second, .val (.double (FP.l2d (t0_0 q1))), .second, .val (.double (FP.l2d (t0_3 q1 p2))), .second, .val (.double (FP.l2d ((t0_0 q1) + ((t0_2 p2 p3) / (2 : Int64))))), .second, .val (.ref b4), .unset, .unset, .unset] [(.int (lcmpW ((0 : Int64) + (1 : Int64)) (1 : Int64)))])) _
    refine XS.ifNo X7.here hx rfl (hb hby at_95) rfl ((if0 _ _).trans (teq (show (lcmpW ((0 : Int64) + (1 : Int64)) (1 : Int64)) = (0 : Int32) from by decide)).2) ?_
    show Steps p.tables e below (T7.setTop (mkF m 98 #[.val (.long q1), .second, .val (.int p2), .val (.int p3), .val (.long (t0_0 q1)), .second, .val (.long (((p2 &&& (33554431 : Int32)) - (16777216 : Int32)).toInt64)), .second, .val (.long (t0_1 p2 p3)), .second, .val (.long ((t0_2 p2 p3) / (2 : Int64))), .second, .val (.double (FP.l2d (t0_0 q1))), .second, .val (.double (FP.l2d (t0_3 q1 p2))), .second, .val (.double (FP.l2d ((t0_0 q1) + ((t0_2 p2 p3) / (2 : Int64))))), .second, .val (.ref b4), .unset, .unset, .unset] [])) _
    refine XS.aload X7.here hx rfl (hb hby at_98) rfl rfl ?_
    show Steps p.tables e below (T7.setTop (mkF m 100 #[.val (.long q1), .second, .val (.int p2), .val (.int p3), .val (.long (t0_0 q1)), .second, .val (.long (((p2 &&& (33554431 : Int32)) - (16777216 : Int32)).toInt64)), .second, .val (.long (t0_1 p2 p3)), .second, .val (.long ((t0_2 p2 p3) / (2 : Int64))), .second, .val (.double (FP.l2d (t0_0 q1))), .second, .val (.double (FP.l2d (t0_3 q1 p2))), .second, .val (.double (FP.l2d ((t0_0 q1) + ((t0_2 p2 p3) / (2 : Int64))))), .second, .val (.ref b4), .unset, .unset, .unset] [(.ref b4)])) _
    refine st8.trans ?_
    show Steps p.tables e below (T8.setTop (mkF m 103 #[.val (.long q1), .second, .val (.int p2), .val (.int p3), .val (.long (t0_0 q1)), .second, .val (.long (((p2 &&& (33554431 : Int32)) - (16777216 : Int32)).toInt64)), .second, .val (.long (t0_1 p2 p3)), .second, .val (.long ((t0_2 p2 p3) / (2 : Int64))), .second, .val (.double (FP.l2d (t0_0 q1))), .second, .val (.double (FP.l2d (t0_3 q1 p2))), .second, .val (.double (FP.l2d ((t0_0 q1) + ((t0_2 p2 p3) / (2 : Int64))))), .second, .val (.ref b4), .unset, .unset, .unset] [(.double v98_85)])) _
    refine XS.dconst0 X8.here hx rfl (hb hby at_103) (v := (0 : UInt64)) rfl ?_
    show Steps p.tables e below (T8.setTop (mkF m 104 #[.val (.long q1), .second, .val (.int p2), .val (.int p3), .val (.long (t0_0 q1)), .second, .val (.long (((p2 &&& (33554431 : Int32)) - (16777216 : Int32)).toInt64)), .second, .val (.long (t0_1 p2 p3)), .second, .val (.long ((t0_2 p2 p3) / (2 : Int64))), .second, .val (.double (FP.l2d (t0_0 q1))), .second, .val (.double (FP.l2d (t0_3 q1 p2))), .second, .val (.double (FP.l2d ((t0_0 q1) + ((t0_2 p2 p3) / (2 : Int64))))), .second, .val (.ref b4), .unset, .unset, .unset] [(.double (0 : UInt64)), (.double v98_85)])) _
    refine XS.dcmpS X8.here hx rfl (hb hby at_104) rfl (v := (cmpValue (FP.dcmp v98_85 (0 : UInt64)) .l)) rfl ?_
    show Steps p.tables e below (T8.setTop (mkF m 105 #[.val (.long q1), .second, .val (.int p2), .val (.int p3), .val (.long (t0_0 q1)), .second, .val (.long (((p2 &&& (33554431 : Int32)) - (16777216 : Int32)).toInt64)), .second, .val (.long (t0_1 p2 p3)), .second, .val (.long ((t0_2 p2 p3) / (2 : Int64))), .second, .val (.double (FP.l2d (t0_0 q1))), .second, .val (.double (FP.l2d (t0_3 q1 p2))), .second, .val (.double (FP.l2d ((t0_0 q1) + ((t0_2 p2 p3) / (2 : Int64))))), .second, .val (.ref b4), .unset, .unset, .unset] [(.int (cmpValue (FP.dcmp v98_85 (0 : UInt64)) .l))])) _
    refine XS.ifNo X8.here hx rfl (hb hby at_105) rfl ((if0 _ _).trans (teq hc105).2) ?_
    show Steps p.tables e below (T8.setTop (mkF m 108 #[.val (.long q1), .second, .val (.int p2), .val (.int p3), .val (.long (t0_0 q1)), .second, .val (.long (((p2 &&& (33554431 : Int32)) - (16777216 : Int32)).toInt64)), .second, .val (.long (t0_1 p2 p3)), .second, .val (.long ((t0_2 p2 p3) / (2 : Int64))), .second, .val (.double (FP.l2d (t0_0 q1))), .second, .val (.double (FP.l2d (t0_3 q1 p2))), .second, .val (.double (FP.l2d ((t0_0 q1) + ((t0_2 p2 p3) / (2 : Int64))))), .second, .val (.ref b4), .unset, .unset, .unset] [])) _
    refine XS.iconst X8.here hx rfl (hb hby at_108) ?_
    show Steps p.tables e below (T8.setTop (mkF m 109 #[.val (.long q1), .second, .val (.int p2), .val (.int p3), .val (.long (t0_0 q1)), .second, .val (.long (((p2 &&& (33554431 : Int32)) - (16777216 : Int32)).toInt64)), .second, .val (.long (t0_1 p2 p3)), .second, .val (.long ((t0_2 p2 p3) / (2 : Int64))), .second, .val (.double (FP.l2d (t0_0 q1))), .second, .val (.double (FP.l2d (t0_3 q1 p2))), .second, .val (.double (FP.l2d ((t0_0 q1) + ((t0_2 p2 p3) / (2 : Int64))))), .second, .val (.ref b4), .unset, .unset, .unset] [(.int (1 : Int32))])) _
    refine XS.goto X8.here hx rfl (pc0 := 109) (pc' := 113) rfl (hb hby at_109) (by decide) (by decide) ?_
    show Steps p.tables e below (T8.setTop (mkF m 113 #[.val (.long q1), .second, .val (.int p2), .val (.int p3), .val (.long (t0_0 q1)), .second, .val (.long (((p2 &&& (33554431 : Int32)) - (16777216 : Int32)).toInt64)), .second, .val (.long (t0_1 p2 p3)), .second, .val (.long ((t0_2 p2 p3) / (2 : Int64))), .second, .val (.double (FP.l2d (t0_0 q1))), .second, .val (.double (FP.l2d (t0_3 q1 p2))), .second, .val (.double (FP.l2d ((t0_0 q1) + ((t0_2 p2 p3) / (2 : Int64))))), .second, .val (.ref b4), .unset, .unset, .unset] [(.int (1 : Int32))])) _
    refine XS.istore X8.here hx rfl (hb hby at_113) rfl (l' := #[.val (.long q1), .second, .val (.int p2), .val (.int p3), .val (.long (t0_0 q1)), .second, .val (.long (((p2 &&& (33554431 : Int32)) - (16777216 : Int32)).toInt64)), .second, .val (.long (t0_1 p2 p3)), .second, .val (.long ((t0_2 p2 p3) / (2 : Int64))), .second, .val (.double (FP.l2d (t0_0 q1))), .second, .val (.double (FP.l2d (t0_3 q1 p2))), .second, .val (.double (FP.l2d ((t0_0 q1) + ((t0_2 p2 p3) / (2 : Int64))))), .second, .val (.ref b4), .val (.int (1 : Int32)), .unset, .unset]) rfl ?_
    show Steps p.tables e below (T8.setTop (mkF m 115 #[.val (.long q1), .second, .val (.int p2), .val (.int p3), .val (.long (t0_0 q1)), .second, .val (.long (((p2 &&& (33554431 : Int32)) - (16777216 : Int32)).toInt64)), .second, .val (.long (t0_1 p2 p3)), .second, .val (.long ((t0_2 p2 p3) / (2 : Int64))), .second, .val (.double (FP.l2d (t0_0 q1))), .second, .val (.double (FP.l2d (t0_3 q1 p2))), .second, .val (.double (FP.l2d ((t0_0 q1) + ((t0_2 p2 p3) / (2 : Int64))))), .second, .val (.ref b4), .val (.int (1 : Int32)), .unset, .unset] [])) _
    refine XS.aload X8.here hx rfl (hb hby at_115) rfl rfl ?_
    show Steps p.tables e below (T8.setTop (mkF m 117 #[.val (.long q1), .second, .val (.int p2), .val (.int p3), .val (.long (t0_0 q1)), .second, .val (.long (((p2 &&& (33554431 : Int32)) - (16777216 : Int32)).toInt64)), .second, .val (.long (t0_1 p2 p3)), .second, .val (.long ((t0_2 p2 p3) / (2 : Int64))), .second, .val (.double (FP.l2d (t0_0 q1))), .second, .val (.double (FP.l2d (t0_3 q1 p2))), .second, .val (.double (FP.l2d ((t0_0 q1) + ((t0_2 p2 p3) / (2 : Int64))))), .second, .val (.ref b4), .val (.int (1 : Int32)), .unset, .unset] [(.ref b4)])) _
    refine XS.dload X8.here hx rfl (hb hby at_117) rfl ?_
    show Steps p.tables e below (T8.setTop (mkF m 119 #[.val (.long q1), .second, .val (.int p2), .val (.int p3), .val (.long (t0_0 q1)), .second, .val (.long (((p2 &&& (33554431 : Int32)) - (16777216 : Int32)).toInt64)), .second, .val (.long (t0_1 p2 p3)), .second, .val (.long ((t0_2 p2 p3) / (2 : Int64))), .second, .val (.double (FP.l2d (t0_0 q1))), .second, .val (.double (FP.l2d (t0_3 q1 p2))), .second, .val (.double (FP.l2d ((t0_0 q1) + ((t0_2 p2 p3) / (2 : Int64))))), .second, .val (.ref b4), .val (.int (1 : Int32)), .unset, .unset] [(.double (FP.l2d (t0_3 q1 p2))), (.ref b4)])) _
    refine st9.trans ?_
    show Steps p.tables e below (T9.setTop (mkF m 122 #[.val (.long q1), .second, .val (.int p2), .val (.int p3), .val (.long (t0_0 q1)), .second, .val (.long (((p2 &&& (33554431 : Int32)) - (16777216 : Int32)).toInt64)), .second, .val (.long (t0_1 p2 p3)), .second, .val (.long ((t0_2 p2 p3) / (2 : Int64))), .second, .val (.double (FP.l2d (t0_0 q1))), .second, .val (.double (FP.l2d (t0_3 q1 p2))), .second, .val (.double (FP.l2d ((t0_0 q1) + ((t0_2 p2 p3) / (2 : Int64))))), .second, .val (.ref b4), .val (.int (1 : Int32)), .unset, .unset] [])) _
    refine XS.aload X9.here hx rfl (hb hby at_122) rfl rfl ?_
    show Steps p.tables e below (T9.setTop (mkF m 124 #[.val (.long q1), .second, .val (.int p2), .val (.int p3), .val (.long (t0_0 q1)), .second, .val (.long (((p2 &&& (33554431 : Int32)) - (16777216 : Int32)).toInt64)), .second, .val (.long (t0_1 p2 p3)), .second, .val (.long ((t0_2 p2 p3) / (2 : Int64))), .second, .val (.double (FP.l2d (t0_0 q1))), .second, .val (.double (FP.l2d (t0_3 q1 p2))), .second, .val (.double (FP.l2d ((t0_0 q1) + ((t0_2 p2 p3) / (2 : Int64))))), .second, .val (.ref b4), .val (.int (1 : Int32)), .unset, .unset] [(.ref b4)])) _
    refine st10.trans ?_
    show Steps p.tables e below (T10.setTop (mkF m 127 #[.val (.long q1), .second, .val (.int p2), .val (.int p3), .val (.long (t0_0 q1)), .second, .val (.long (((p2 &&& (33554431 : Int32)) - (16777216 : Int32)).toInt64)), .second, .val (.long (t0_1 p2 p3)), .second, .val (.long ((t0_2 p2 p3) / (2 : Int64))), .second, .val (.double (FP.l2d (t0_0 q1))), .second, .val (.double (FP.l2d (t0_3 q1 p2))), .second, .val (.double (FP.l2d ((t0_0 q1) + ((t0_2 p2 p3) / (2 : Int64))))), .second, .val (.ref b4), .val (.int (1 : Int32)), .unset, .unset] [(.long (((0 : Int64) + (1 : Int64)) + (1 : Int64)))])) _
    refine X10.ldc2Long hx hown (mvT hZ (hw _ (List.mem_of_getElem? (i := 3) rfl))) (g := (mkF m 127 #[.val (.long q1), .second, .val (.int p2), .val (.int p3), .val (.long (t0_0 q1)), .second, .val (.long (((p2 &&& (33554431 : Int32)) - (16777216 : Int32)).toInt64)), .second, .val (.long (t0_1 p2 p3)), .second, .val (.long ((t0_2 p2 p3) / (2 : Int64))), .second, .val (.double (FP.l2d (t0_0 q1))), .second, .val (.double (FP.l2d (t0_3 q1 p2))), .second, .val (.double (FP.l2d ((t0_0 q1) + ((t0_2 p2 p3) / (2 : Int64))))), .second, .val (.ref b4), .val (.int (1 : Int32)), .unset, .unset] [(.long (((0 : Int64) + (1 : Int64)) + (1 : Int64)))])) rfl (hb hby at_127) _ ?_
    show Steps p.tables e below (T10.setTop (mkF m 130 #[.val (.long q1), .second, .val (.int p2), .val (.int p3), .val (.long (t0_0 q1)), .second, .val (.long (((p2 &&& (33554431 : Int32)) - (16777216 : Int32)).toInt64)), .second, .val (.long (t0_1 p2 p3)), .second, .val (.long ((t0_2 p2 p3) / (2 : Int64))), .second, .val (.double (FP.l2d (t0_0 q1))), .second, .val (.double (FP.l2d (t0_3 q1 p2))), .second, .val (.double (FP.l2d ((t0_0 q1) + ((t0_2 p2 p3) / (2 : Int64))))), .second, .val (.ref b4), .val (.int (1 : Int32)), .unset, .unset] [(.long (2 : Int64)), (.long (((0 : Int64) + (1 : Int64)) + (1 : Int64)))])) _
    refine XS.lcmp X10.here hx rfl (hb hby at_130) rfl ?_
    show Steps p.tables e below (T10.setTop (mkF m 131 #[.val (.long q1), .second, .val (.int p2), .val (.int p3), .val (.long (t0_0 q1)), .second, .val (.long (((p2 &&& (33554431 : Int32)) - (16777216 : Int32)).toInt64)), .second, .val (.long (t0_1 p2 p3)), .second, .val (.long ((t0_2 p2 p3) / (2 : Int64))), .second, .val (.double (FP.l2d (t0_0 q1))), .second, .val (.double (FP.l2d (t0_3 q1 p2))), .second, .val (.double (FP.l2d ((t0_0 q1) + ((t0_2 p2 p3) / (2 : Int64))))), .second, .val (.ref b4), .val (.int (1 : Int32)), .unset, .unset] [(.int (lcmpW (((0 : Int64) + (1 : Int64)) + (1 : Int64)) (2 : Int64)))])) _
    refine XS.ifNo X10.here hx rfl (hb hby at_131) rfl ((if0 _ _).trans (teq (show (lcmpW (((0 : Int64) + (1 : Int64)) + (1 : Int64)) (2 : Int64)) = (0 : Int32) from by decide)).2) ?_
    show Steps p.tables e below (T10.setTop (mkF m 134 #[.val (.long q1), .second, .val (.int p2), .val (.int p3), .val (.long (t0_0 q1)), .second, .val (.long (((p2 &&& (33554431 : Int32)) - (16777216 : Int32)).toInt64)), .second, .val (.long (t0_1 p2 p3)), .second, .val (.long ((t0_2 p2 p3) / (2 : Int64))), .second, .val (.double (FP.l2d (t0_0 q1))), .second, .val (.double (FP.l2d (t0_3 q1 p2))), .second, .val (.double (FP.l2d ((t0_0 q1) + ((t0_2 p2 p3) / (2 : Int64))))), .second, .val (.ref b4), .val (.int (1 : Int32)), .unset, .unset] [])) _
    refine XS.aload X10.here hx rfl (hb hby at_134) rfl rfl ?_
    show Steps p.tables e below (T10.setTop (mkF m 136 #[.val (.long q1), .second, .val (.int p2), .val (.int p3), .val (.long (t0_0 q1)), .second, .val (.long (((p2 &&& (33554431 : Int32)) - (16777216 : Int32)).toInt64)), .second, .val (.long (t0_1 p2 p3)), .second, .val (.long ((t0_2 p2 p3) / (2 : Int64))), .second, .val (.double (FP.l2d (t0_0 q1))), .second, .val (.double (FP.l2d (t0_3 q1 p2))), .second, .val (.double (FP.l2d ((t0_0 q1) + ((t0_2 p2 p3) / (2 : Int64))))), .second, .val (.ref b4), .val (.int (1 : Int32)), .unset, .unset] [(.ref b4)])) _
    refine st11.trans ?_
    show Steps p.tables e below (T11.setTop (mkF m 139 #[.val (.long q1), .second, .val (.int p2), .val (.int p3), .val (.long (t0_0 q1)), .second, .val (.long (((p2 &&& (33554431 : Int32)) - (16777216 : Int32)).toInt64)), .second, .val (.long (t0_1 p2 p3)), .second, .val (.long ((t0_2 p2 p3) / (2 : Int64))), .second, .val (.double (FP.l2d (t0_0 q1))), .second, .val (.double (FP.l2d (t0_3 q1 p2))), .second, .val (.double (FP.l2d ((t0_0 q1) + ((t0_2 p2 p3) / (2 : Int64))))), .second, .val (.ref b4), .val (.int (1 : Int32)), .unset, .unset] [(.double v98_119)])) _
    refine X11.ldc2DoubleC hx hown (mvT hZ (hw _ (List.mem_of_getElem? (i := 39) rfl))) (g := (mkF m 139 #[.val (.long q1), .second, .val (.int p2), .val (.int p3), .val (.long (t0_0 q1)), .second, .val (.long (((p2 &&& (33554431 : Int32)) - (16777216 : Int32)).toInt64)), .second, .val (.long (t0_1 p2 p3)), .second, .val (.long ((t0_2 p2 p3) / (2 : Int64))), .second, .val (.double (FP.l2d (t0_0 q1))), .second, .val (.double (FP.l2d (t0_3 q1 p2))), .second, .val (.double (FP.l2d ((t0_0 q1) + ((t0_2 p2 p3) / (2 : Int64))))), .second, .val (.ref b4), .val (.int (1 : Int32)), .unset, .unset] [(.double v98_119)])) rfl (hb hby at_139) _ ?_
    show Steps p.tables e below (T11.setTop (mkF m 142 #[.val (.long q1), .second, .val (.int p2), .val (.int p3), .val (.long (t0_0 q1)), .second, .val (.long (((p2 &&& (33554431 : Int32)) - (16777216 : Int32)).toInt64)), .second, .val (.long (t0_1 p2 p3)), .second, .val (.long ((t0_2 p2 p3) / (2 : Int64))), .second, .val (.double (FP.l2d (t0_0 q1))), .second, .val (.double (FP.l2d (t0_3 q1 p2))), .second, .val (.double (FP.l2d ((t0_0 q1) + ((t0_2 p2 p3) / (2 : Int64))))), .second, .val (.ref b4), .val (.int (1 : Int32)), .unset, .unset] [(.double (4611686018427387904 : UInt64)), (.double v98_119)])) _
    refine XS.dmulS X11.here hx rfl (hb hby at_142) rfl hn142 (v := (FP.dmul v98_119 (4611686018427387904 : UInt64))) rfl ?_
    show Steps p.tables e below (T11.setTop (mkF m 143 #[.val (.long q1), .second, .val (.int p2), .val (.int p3), .val (.long (t0_0 q1)), .second, .val (.long (((p2 &&& (33554431 : Int32)) - (16777216 : Int32)).toInt64)), .second, .val (.long (t0_1 p2 p3)), .second, .val (.long ((t0_2 p2 p3) / (2 : Int64))), .second, .val (.double (FP.l2d (t0_0 q1))), .second, .val (.double (FP.l2d (t0_3 q1 p2))), .second, .val (.double (FP.l2d ((t0_0 q1) + ((t0_2 p2 p3) / (2 : Int64))))), .second, .val (.ref b4), .val (.int (1 : Int32)), .unset, .unset] [(.double (FP.dmul v98_119 (4611686018427387904 : UInt64)))])) _
    refine XS.lload X11.here hx rfl (hb hby at_143) rfl ?_
    show Steps p.tables e below (T11.setTop (mkF m 145 #[.val (.long q1), .second, .val (.int p2), .val (.int p3), .val (.long (t0_0 q1)), .second, .val (.long (((p2 &&& (33554431 : Int32)) - (16777216 : Int32)).toInt64)), .second, .val (.long (t0_1 p2 p3)), .second, .val (.long ((t0_2 p2 p3) / (2 : Int64))), .second, .val (.double (FP.l2d (t0_0 q1))), .second, .val (.double (FP.l2d (t0_3 q1 p2))), .second, .val (.double (FP.l2d ((t0_0 q1) + ((t0_2 p2 p3) / (2 : Int64))))), .second, .val (.ref b4), .val (.int (1 : Int32)), .unset, .unset] [(.long (((p2 &&& (33554431 : Int32)) - (16777216 : Int32)).toInt64)), (.double (FP.dmul v98_119 (4611686018427387904 : UInt64)))])) _
    refine XS.lload X11.here hx rfl (hb hby at_145) rfl ?_
    show Steps p.tables e below (T11.setTop (mkF m 147 #[.val (.long q1), .second, .val (.int p2), .val (.int p3), .val (.long (t0_0 q1)), .second, .val (.long (((p2 &&& (33554431 : Int32)) - (16777216 : Int32)).toInt64)), .second, .val (.long (t0_1 p2 p3)), .second, .val (.long ((t0_2 p2 p3) / (2 : Int64))), .second, .val (.double (FP.l2d (t0_0 q1))), .second, .val (.double (FP.l2d (t0_3 q1 p2))), .second, .val (.double (FP.l2d ((t0_0 q1) + ((t0_2 p2 p3) / (2 : Int64))))), .second, .val (.ref b4), .val (.int (1 : Int32)), .unset, .unset] [(.long (((p2 &&& (33554431 : Int32)) - (16777216 : Int32)).toInt64)), (.long (((p2 &&& (33554431 : Int32)) - (16777216 : Int32)).toInt64)), (.double (FP.dmul v98_119 (4611686018427387904 : UInt64)))])) _
    refine XS.lmul X11.here hx rfl (hb hby at_147) rfl ?_
    show Steps p.tables e below (T11.setTop (mkF m 148 #[.val (.long q1), .second, .val (.int p2), .val (.int p3), .val (.long (t0_0 q1)), .second, .val (.long (((p2 &&& (33554431 : Int32)) - (16777216 : Int32)).toInt64)), .second, .val (.long (t0_1 p2 p3)), .second, .val (.long ((t0_2 p2 p3) / (2 : Int64))), .second, .val (.double (FP.l2d (t0_0 q1))), .second, .val (.double (FP.l2d (t0_3 q1 p2))), .second, .val (.double (FP.l2d ((t0_0 q1) + ((t0_2 p2 p3) / (2 : Int64))))), .second, .val (.ref b4), .val (.int (1 : Int32)), .unset, .unset] [(.long ((((p2 &&& (33554431 : Int32)) - (16777216 : Int32)).toInt64) * (((p2 &&& (33554431 : Int32)) - (16777216 : Int32)).toInt64))), (.double (FP.dmul v98_119 (4611686018427387904 : UInt64)))])) _
    refine XS.l2dS X11.here hx rfl (hb hby at_148) rfl (v := (FP.l2d (t0_4 p2))) rfl ?_
    show Steps p.tables e below (T11.setTop (mkF m 149 #[.val (.long q1), .second, .val (.int p2), .val (.int p3), .val (.long (t0_0 q1)), .second, .val (.long (((p2 &&& (33554431 : Int32)) - (16777216 : Int32)).toInt64)), .second, .val (.long (t0_1 p2 p3)), .second, .val (.long ((t0_2 p2 p3) / (2 : Int64))), .second, .val (.double (FP.l2d (t0_0 q1))), .second, .val (.double (FP.l2d (t0_3 q1 p2))), .second, .val (.double (FP.l2d ((t0_0 q1) + ((t0_2 p2 p3) / (2 : Int64))))), .second, .val (.ref b4), .val (.int (1 : Int32)), .unset, .unset] [(.double (FP.l2d (t0_4 p2))), (.double (FP.dmul v98_119 (4611686018427387904 : UInt64)))])) _
    refine XS.dcmpS X11.here hx rfl (hb hby at_149) rfl (v := (cmpValue (FP.dcmp (FP.dmul v98_119 (4611686018427387904 : UInt64)) (FP.l2d (t0_4 p2))) .l)) rfl ?_
    show Steps p.tables e below (T11.setTop (mkF m 150 #[.val (.long q1), .second, .val (.int p2), .val (.int p3), .val (.long (t0_0 q1)), .second, .val (.long (((p2 &&& (33554431 : Int32)) - (16777216 : Int32)).toInt64)), .second, .val (.long (t0_1 p2 p3)), .second, .val (.long ((t0_2 p2 p3) / (2 : Int64))), .second, .val (.double (FP.l2d (t0_0 q1))), .second, .val (.double (FP.l2d (t0_3 q1 p2))), .second, .val (.double (FP.l2d ((t0_0 q1) + ((t0_2 p2 p3) / (2 : Int64))))), .second, .val (.ref b4), .val (.int (1 : Int32)), .unset, .unset] [(.int (cmpValue (FP.dcmp (FP.dmul v98_119 (4611686018427387904 : UInt64)) (FP.l2d (t0_4 p2))) .l))])) _
    refine XS.ifNo X11.here hx rfl (hb hby at_150) rfl ((if0 _ _).trans (teq hc150).2) ?_
    show Steps p.tables e below (T11.setTop (mkF m 153 #[.val (.long q1), .second, .val (.int p2), .val (.int p3), .val (.long (t0_0 q1)), .second, .val (.long (((p2 &&& (33554431 : Int32)) - (16777216 : Int32)).toInt64)), .second, .val (.long (t0_1 p2 p3)), .second, .val (.long ((t0_2 p2 p3) / (2 : Int64))), .second, .val (.double (FP.l2d (t0_0 q1))), .second, .val (.double (FP.l2d (t0_3 q1 p2))), .second, .val (.double (FP.l2d ((t0_0 q1) + ((t0_2 p2 p3) / (2 : Int64))))), .second, .val (.ref b4), .val (.int (1 : Int32)), .unset, .unset] [])) _
    refine XS.iconst X11.here hx rfl (hb hby at_153) ?_
    show Steps p.tables e below (T11.setTop (mkF m 154 #[.val (.long q1), .second, .val (.int p2), .val (.int p3), .val (.long (t0_0 q1)), .second, .val (.long (((p2 &&& (33554431 : Int32)) - (16777216 : Int32)).toInt64)), .second, .val (.long (t0_1 p2 p3)), .second, .val (.long ((t0_2 p2 p3) / (2 : Int64))), .second, .val (.double (FP.l2d (t0_0 q1))), .second, .val (.double (FP.l2d (t0_3 q1 p2))), .second, .val (.double (FP.l2d ((t0_0 q1) + ((t0_2 p2 p3) / (2 : Int64))))), .second, .val (.ref b4), .val (.int (1 : Int32)), .unset, .unset] [(.int (1 : Int32))])) _
    refine XS.goto X11.here hx rfl (pc0 := 154) (pc' := 158) rfl (hb hby at_154) (by decide) (by decide) ?_
    show Steps p.tables e below (T11.setTop (mkF m 158 #[.val (.long q1), .second, .val (.int p2), .val (.int p3), .val (.long (t0_0 q1)), .second, .val (.long (((p2 &&& (33554431 : Int32)) - (16777216 : Int32)).toInt64)), .second, .val (.long (t0_1 p2 p3)), .second, .val (.long ((t0_2 p2 p3) / (2 : Int64))), .second, .val (.double (FP.l2d (t0_0 q1))), .second, .val (.double (FP.l2d (t0_3 q1 p2))), .second, .val (.double (FP.l2d ((t0_0 q1) + ((t0_2 p2 p3) / (2 : Int64))))), .second, .val (.ref b4), .val (.int (1 : Int32)), .unset, .unset] [(.int (1 : Int32))])) _
    refine XS.istore X11.here hx rfl (hb hby at_158) rfl (l' := #[.val (.long q1), .second, .val (.int p2), .val (.int p3), .val (.long (t0_0 q1)), .second, .val (.long (((p2 &&& (33554431 : Int32)) - (16777216 : Int32)).toInt64)), .second, .val (.long (t0_1 p2 p3)), .second, .val (.long ((t0_2 p2 p3) / (2 : Int64))), .second, .val (.double (FP.l2d (t0_0 q1))), .second, .val (.double (FP.l2d (t0_3 q1 p2))), .second, .val (.double (FP.l2d ((t0_0 q1) + ((t0_2 p2 p3) / (2 : Int64))))), .second, .val (.ref b4), .val (.int (1 : Int32)), .val (.int (1 : Int32)), .unset]) rfl ?_
    show Steps p.tables e below (T11.setTop (mkF m 160 #[.val (.long q1), .second, .val (.int p2), .val (.int p3), .val (.long (t0_0 q1)), .second, .val (.long (((p2 &&& (33554431 : Int32)) - (16777216 : Int32)).toInt64)), .second, .val (.long (t0_1 p2 p3)), .second, .val (.long ((t0_2 p2 p3) / (2 : Int64))), .second, .val (.double (FP.l2d (t0_0 q1))), .second, .val (.double (FP.l2d (t0_3 q1 p2))), .second, .val (.double (FP.l2d ((t0_0 q1) + ((t0_2 p2 p3) / (2 : Int64))))), .second, .val (.ref b4), .val (.int (1 : Int32)), .val (.int (1 : Int32)), .unset] [])) _
    refine XS.aload X11.here hx rfl (hb hby at_160) rfl rfl ?_
    show Steps p.tables e below (T11.setTop (mkF m 162 #[.val (.long q1), .second, .val (.int p2), .val (.int p3), .val (.long (t0_0 q1)), .second, .val (.long (((p2 &&& (33554431 : Int32)) - (16777216 : Int32)).toInt64)), .second, .val (.long (t0_1 p2 p3)), .second, .val (.long ((t0_2 p2 p3) / (2 : Int64))), .second, .val (.double (FP.l2d (t0_0 q1))), .second, .val (.double (FP.l2d (t0_3 q1 p2))), .second, .val (.double (FP.l2d ((t0_0 q1) + ((t0_2 p2 p3) / (2 : Int64))))), .second, .val (.ref b4), .val (.int (1 : Int32)), .val (.int (1 : Int32)), .unset] [(.ref b4)])) _
    refine XS.dload X11.here hx rfl (hb hby at_162) rfl ?_
    show Steps p.tables e below (T11.setTop (mkF m 164 #[.val (.long q1), .second, .val (.int p2), .val (.int p3), .val (.long (t0_0 q1)), .second, .val (.long (((p2 &&& (33554431 : Int32)) - (16777216 : Int32)).toInt64)), .second, .val (.long (t0_1 p2 p3)), .second, .val (.long ((t0_2 p2 p3) / (2 : Int64))), .second, .val (.double (FP.l2d (t0_0 q1))), .second, .val (.double (FP.l2d (t0_3 q1 p2))), .second, .val (.double (FP.l2d ((t0_0 q1) + ((t0_2 p2 p3) / (2 : Int64))))), .second, .val (.ref b4), .val (.int (1 : Int32)), .val (.int (1 : Int32)), .unset] [(.double (FP.l2d ((t0_0 q1) + ((t0_2 p2 p3) / (2 : Int64))))), (.ref b4)])) _
    refine st12.trans ?_
    show Steps p.tables e below (T12.setTop (mkF m 167 #[.val (.long q1), .second, .val (.int p2), .val (.int p3), .val (.long (t0_0 q1)), .second, .val (.long (((p2 &&& (33554431 : Int32)) - (16777216 : Int32)).toInt64)), .second, .val (.long (t0_1 p2 p3)), .second, .val (.long ((t0_2 p2 p3) / (2 : Int64))), .second, .val (.double (FP.l2d (t0_0 q1))), .second, .val (.double (FP.l2d (t0_3 q1 p2))), .second, .val (.double (FP.l2d ((t0_0 q1) + ((t0_2 p2 p3) / (2 : Int64))))), .second, .val (.ref b4), .val (.int (1 : Int32)), .val (.int (1 : Int32)), .unset] [])) _
    refine XS.aload X12.here hx rfl (hb hby at_167) rfl rfl ?_
    show Steps p.tables e below (T12.setTop (mkF m 169 #[.val (.long q1), .second, .val (.int p2), .val (.int p3), .val (.long (t0_0 q1)), .second, .val (.long (((p2 &&& (33554431 : Int32)) - (16777216 : Int32)).toInt64)), .second, .val (.long (t0_1 p2 p3)), .second, .val (.long ((t0_2 p2 p3) / (2 : Int64))), .second, .val (.double (FP.l2d (t0_0 q1))), .second, .val (.double (FP.l2d (t0_3 q1 p2))), .second, .val (.double (FP.l2d ((t0_0 q1) + ((t0_2 p2 p3) / (2 : Int64))))), .second, .val (.ref b4), .val (.int (1 : Int32)), .val (.int (1 : Int32)), .unset] [(.ref b4)])) _
    refine st13.trans ?_
    show Steps p.tables e below (T13.setTop (mkF m 172 #[.val (.long q1), .second, .val (.int p2), .val (.int p3), .val (.long (t0_0 q1)), .second, .val (.long (((p2 &&& (33554431 : Int32)) - (16777216 : Int32)).toInt64)), .second, .val (.long (t0_1 p2 p3)), .second, .val (.long ((t0_2 p2 p3) / (2 : Int64))), .second, .val (.double (FP.l2d (t0_0 q1))), .second, .val (.double (FP.l2d (t0_3 q1 p2))), .second, .val (.double (FP.l2d ((t0_0 q1) + ((t0_2 p2 p3) / (2 : Int64))))), .second, .val (.ref b4), .val (.int (1 : Int32)), .val (.int (1 : Int32)), .unset] [(.long ((((0 : Int64) + (1 : Int64)) + (1 : Int64)) + (1 : Int64)))])) _
    refine X13.ldc2Long hx hown (mvT hZ (hw _ (List.mem_of_getElem? (i := 6) rfl))) (g := (mkF m 172 #[.val (.long q1), .second, .val (.int p2), .val (.int p3), .val (.long (t0_0 q1)), .second, .val (.long (((p2 &&& (33554431 : Int32)) - (16777216 : Int32)).toInt64)), .second, .val (.long (t0_1 p2 p3)), .second, .val (.long ((t0_2 p2 p3) / (2 : Int64))), .second, .val (.double (FP.l2d (t0_0 q1))), .second, .val (.double (FP.l2d (t0_3 q1 p2))), .second, .val (.double (FP.l2d ((t0_0 q1) + ((t0_2 p2 p3) / (2 : Int64))))), .second, .val (.ref b4), .val (.int (1 : Int32)), .val (.int (1 : Int32)), .unset] [(.long ((((0 : Int64) + (1 : Int64)) + (1 : Int64)) + (1 : Int64)))])) rfl (hb hby at_172) _ ?_
    show Steps p.tables e below (T13.setTop (mkF m 175 #[.val (.long q1), .second, .val (.int p2), .val (.int p3), .val (.long (t0_0 q1)), .second, .val (.long (((p2 &&& (33554431 : Int32)) - (16777216 : Int32)).toInt64)), .second, .val (.long (t0_1 p2 p3)), .second, .val (.long ((t0_2 p2 p3) / (2 : Int64))), .second, .val (.double (FP.l2d (t0_0 q1))), .second, .val (.double (FP.l2d (t0_3 q1 p2))), .second, .val (.double (FP.l2d ((t0_0 q1) + ((t0_2 p2 p3) / (2 : Int64))))), .second, .val (.ref b4), .val (.int (1 : Int32)), .val (.int (1 : Int32)), .unset] [(.long (3 : Int64)), (.long ((((0 : Int64) + (1 : Int64)) + (1 : Int64)) + (1 : Int64)))])) _
    refine XS.lcmp X13.here hx rfl (hb hby at_175) rfl ?_
    show Steps p.tables e below (T13.setTop (mkF m 176 #[.val (.long q1), .second, .val (.int p2), .val (.int p3), .val (.long (t0_0 q1)), .second, .val (.long (((p2 &&& (33554431 : Int32)) - (16777216 : Int32)).toInt64)), .second, .val (.long (t0_1 p2 p3)), .second, .val (.long ((t0_2 p2 p3) / (2 : Int64))), .second, .val (.double (FP.l2d (t0_0 q1))), .second, .val (.double (FP.l2d (t0_3 q1 p2))), .second, .val (.double (FP.l2d ((t0_0 q1) + ((t0_2 p2 p3) / (2 : Int64))))), .second, .val (.ref b4), .val (.int (1 : Int32)), .val (.int (1 : Int32)), .unset] [(.int (lcmpW ((((0 : Int64) + (1 : Int64)) + (1 : Int64)) + (1 : Int64)) (3 : Int64)))])) _
    refine XS.ifNo X13.here hx rfl (hb hby at_176) rfl ((if0 _ _).trans (teq (show (lcmpW ((((0 : Int64) + (1 : Int64)) + (1 : Int64)) + (1 : Int64)) (3 : Int64)) = (0 : Int32) from by decide)).2) ?_
    show Steps p.tables e below (T13.setTop (mkF m 179 #[.val (.long q1), .second, .val (.int p2), .val (.int p3), .val (.long (t0_0 q1)), .second, .val (.long (((p2 &&& (33554431 : Int32)) - (16777216 : Int32)).toInt64)), .second, .val (.long (t0_1 p2 p3)), .second, .val (.long ((t0_2 p2 p3) / (2 : Int64))), .second, .val (.double (FP.l2d (t0_0 q1))), .second, .val (.double (FP.l2d (t0_3 q1 p2))), .second, .val (.double (FP.l2d ((t0_0 q1) + ((t0_2 p2 p3) / (2 : Int64))))), .second, .val (.ref b4), .val (.int (1 : Int32)), .val (.int (1 : Int32)), .unset] [])) _
    refine XS.aload X13.here hx rfl (hb hby at_179) rfl rfl ?_
    show Steps p.tables e below (T13.setTop (mkF m 181 #[.val (.long q1), .second, .val (.int p2), .val (.int p3), .val (.long (t0_0 q1)), .second, .val (.long (((p2 &&& (33554431 : Int32)) - (16777216 : Int32)).toInt64)), .second, .val (.long (t0_1 p2 p3)), .second, .val (.long ((t0_2 p2 p3) / (2 : Int64))), .second, .val (.double (FP.l2d (t0_0 q1))), .second, .val (.double (FP.l2d (t0_3 q1 p2))), .second, .val (.double (FP.l2d ((t0_0 q1) + ((t0_2 p2 p3) / (2 : Int64))))), .second, .val (.ref b4), .val (.int (1 : Int32)), .val (.int (1 : Int32)), .unset] [(.ref b4)])) _
    refine st14.trans ?_
    show Steps p.tables e below (T14.setTop (mkF m 184 #[.val (.long q1), .second, .val (.int p2), .val (.int p3), .val (.long (t0_0 q1)), .second, .val (.long (((p2 &&& (33554431 : Int32)) - (16777216 : Int32)).toInt64)), .second, .val (.long (t0_1 p2 p3)), .second, .val (.long ((t0_2 p2 p3) / (2 : Int64))), .second, .val (.double (FP.l2d (t0_0 q1))), .second, .val (.double (FP.l2d (t0_3 q1 p2))), .second, .val (.double (FP.l2d ((t0_0 q1) + ((t0_2 p2 p3) / (2 : Int64))))), .second, .val (.ref b4), .val (.int (1 : Int32)), .val (.int (1 : Int32)), .unset] [(.double v98_164)])) _
    refine X14.ldc2DoubleC hx hown (mvT hZ (hw _ (List.mem_of_getElem? (i := 39) rfl))) (g := (mkF m 184 #[.val (.long q1), .second, .val (.int p2), .val (.int p3), .val (.long (t0_0 q1)), .second, .val (.long (((p2 &&& (33554431 : Int32)) - (16777216 : Int32)).toInt64)), .second, .val (.long (t0_1 p2 p3)), .second, .val (.long ((t0_2 p2 p3) / (2 : Int64))), .second, .val (.double (FP.l2d (t0_0 q1))), .second, .val (.double (FP.l2d (t0_3 q1 p2))), .second, .val (.double (FP.l2d ((t0_0 q1) + ((t0_2 p2 p3) / (2 : Int64))))), .second, .val (.ref b4), .val (.int (1 : Int32)), .val (.int (1 : Int32)), .unset] [(.double v98_164)])) rfl (hb hby at_184) _ ?_
    show Steps p.tables e below (T14.setTop (mkF m 187 #[.val (.long q1), .second, .val (.int p2), .val (.int p3), .val (.long (t0_0 q1)), .second, .val (.long (((p2 &&& (33554431 : Int32)) - (16777216 : Int32)).toInt64)), .second, .val (.long (t0_1 p2 p3)), .second, .val (.long ((t0_2 p2 p3) / (2 : Int64))), .second, .val (.double (FP.l2d (t0_0 q1))), .second, .val (.double (FP.l2d (t0_3 q1 p2))), .second, .val (.double (FP.l2d ((t0_0 q1) + ((t0_2 p2 p3) / (2 : Int64))))), .second, .val (.ref b4), .val (.int (1 : Int32)), .val (.int (1 : Int32)), .unset] [(.double (4611686018427387904 : UInt64)), (.double v98_164)])) _
    refine XS.dmulS X14.here hx rfl (hb hby at_187) rfl hn187 (v := (FP.dmul v98_164 (4611686018427387904 : UInt64))) rfl ?_
    show Steps p.tables e below (T14.setTop (mkF m 188 #[.val (.long q1), .second, .val (.int p2), .val (.int p3), .val (.long (t0_0 q1)), .second, .val (.long (((p2 &&& (33554431 : Int32)) - (16777216 : Int32)).toInt64)), .second, .val (.long (t0_1 p2 p3)), .second, .val (.long ((t0_2 p2 p3) / (2 : Int64))), .second, .val (.double (FP.l2d (t0_0 q1))), .second, .val (.double (FP.l2d (t0_3 q1 p2))), .second, .val (.double (FP.l2d ((t0_0 q1) + ((t0_2 p2 p3) / (2 : Int64))))), .second, .val (.ref b4), .val (.int (1 : Int32)), .val (.int (1 : Int32)), .unset] [(.double (FP.dmul v98_164 (4611686018427387904 : UInt64)))])) _
    refine XS.lload X14.here hx rfl (hb hby at_188) rfl ?_
    show Steps p.tables e below (T14.setTop (mkF m 190 #[.val (.long q1), .second, .val (.int p2), .val (.int p3), .val (.long (t0_0 q1)), .second, .val (.long (((p2 &&& (33554431 : Int32)) - (16777216 : Int32)).toInt64)), .second, .val (.long (t0_1 p2 p3)), .second, .val (.long ((t0_2 p2 p3) / (2 : Int64))), .second, .val (.double (FP.l2d (t0_0 q1))), .second, .val (.double (FP.l2d (t0_3 q1 p2))), .second, .val (.double (FP.l2d ((t0_0 q1) + ((t0_2 p2 p3) / (2 : Int64))))), .second, .val (.ref b4), .val (.int (1 : Int32)), .val (.int (1 : Int32)), .unset] [(.long (((p2 &&& (33554431 : Int32)) - (16777216 : Int32)).toInt64)), (.double (FP.dmul v98_164 (4611686018427387904 : UInt64)))])) _
    refine XS.lload X14.here hx rfl (hb hby at_190) rfl ?_
    show Steps p.tables e below (T14.setTop (mkF m 192 #[.val (.long q1), .second, .val (.int p2), .val (.int p3), .val (.long (t0_0 q1)), .second, .val (.long (((p2 &&& (33554431 : Int32)) - (16777216 : Int32)).toInt64)), .second, .val (.long (t0_1 p2 p3)), .second, .val (.long ((t0_2 p2 p3) / (2 : Int64))), .second, .val (.double (FP.l2d (t0_0 q1))), .second, .val (.double (FP.l2d (t0_3 q1 p2))), .second, .val (.double (FP.l2d ((t0_0 q1) + ((t0_2 p2 p3) / (2 : Int64))))), .second, .val (.ref b4), .val (.int (1 : Int32)), .val (.int (1 : Int32)), .unset] [(.long (((p2 &&& (33554431 : Int32)) - (16777216 : Int32)).toInt64)), (.long (((p2 &&& (33554431 : Int32)) - (16777216 : Int32)).toInt64)), (.double (FP.dmul v98_164 (4611686018427387904 : UInt64)))])) _
    refine XS.lmul X14.here hx rfl (hb hby at_192) rfl ?_
    show Steps p.tables e below (T14.setTop (mkF m 193 #[.val (.long q1), .second, .val (.int p2), .val (.int p3), .val (.long (t0_0 q1)), .second, .val (.long (((p2 &&& (33554431 : Int32)) - (16777216 : Int32)).toInt64)), .second, .val (.long (t0_1 p2 p3)), .second, .val (.long ((t0_2 p2 p3) / (2 : Int64))), .second, .val (.double (FP.l2d (t0_0 q1))), .second, .val (.double (FP.l2d (t0_3 q1 p2))), .second, .val (.double (FP.l2d ((t0_0 q1) + ((t0_2 p2 p3) / (2 : Int64))))), .second, .val (.ref b4), .val (.int (1 : Int32)), .val (.int (1 : Int32)), .unset] [(.long ((((p2 &&& (33554431 : Int32)) - (16777216 : Int32)).toInt64) * (((p2 &&& (33554431 : Int32)) - (16777216 : Int32)).toInt64))), (.double (FP.dmul v98_164 (4611686018427387904 : UInt64)))])) _
    refine X14.ldc2Long hx hown (mvT hZ (hw _ (List.mem_of_getElem? (i := 6) rfl))) (g := (mkF m 193 #[.val (.long q1), .second, .val (.int p2), .val (.int p3), .val (.long (t0_0 q1)), .second, .val (.long (((p2 &&& (33554431 : Int32)) - (16777216 : Int32)).toInt64)), .second, .val (.long (t0_1 p2 p3)), .second, .val (.long ((t0_2 p2 p3) / (2 : Int64))), .second, .val (.double (FP.l2d (t0_0 q1))), .second, .val (.double (FP.l2d (t0_3 q1 p2))), .second, .val (.double (FP.l2d ((t0_0 q1) + ((t0_2 p2 p3) / (2 : Int64))))), .second, .val (.ref b4), .val (.int (1 : Int32)), .val (.int (1 : Int32)), .unset] [(.long ((((p2 &&& (33554431 : Int32)) - (16777216 : Int32)).toInt64) * (((p2 &&& (33554431 : Int32)) - (16777216 : Int32)).toInt64))), (.double (FP.dmul v98_164 (4611686018427387904 : UInt64)))])) rfl (hb hby at_193) _ ?_
    show Steps p.tables e below (T14.setTop (mkF m 196 #[.val (.long q1), .second, .val (.int p2), .val (.int p3), .val (.long (t0_0 q1)), .second, .val (.long (((p2 &&& (33554431 : Int32)) - (16777216 : Int32)).toInt64)), .second, .val (.long (t0_1 p2 p3)), .second, .val (.long ((t0_2 p2 p3) / (2 : Int64))), .second, .val (.double (FP.l2d (t0_0 q1))), .second, .val (.double (FP.l2d (t0_3 q1 p2))), .second, .val (.double (FP.l2d ((t0_0 q1) + ((t0_2 p2 p3) / (2 : Int64))))), .second, .val (.ref b4), .val (.int (1 : Int32)), .val (.int (1 : Int32)), .unset] [(.long (3 : Int64)), (.long ((((p2 &&& (33554431 : Int32)) - (16777216 : Int32)).toInt64) * (((p2 &&& (33554431 : Int32)) - (16777216 : Int32)).toInt64))), (.double (FP.dmul v98_164 (4611686018427387904 : UInt64)))])) _
    refine XS.lload X14.here hx rfl (hb hby at_196) rfl ?_
    show Steps p.tables e below (T14.setTop (mkF m 198 #[.val (.long q1), .second, .val (.int p2), .val (.int p3), .val (.long (t0_0 q1)), .second, .val (.long (((p2 &&& (33554431 : Int32)) - (16777216 : Int32)).toInt64)), .second, .val (.long (t0_1 p2 p3)), .second, .val (.long ((t0_2 p2 p3) / (2 : Int64))), .second, .val (.double (FP.l2d (t0_0 q1))), .second, .val (.double (FP.l2d (t0_3 q1 p2))), .second, .val (.double (FP.l2d ((t0_0 q1) + ((t0_2 p2 p3) / (2 : Int64))))), .second, .val (.ref b4), .val (.int (1 : Int32)), .val (.int (1 : Int32)), .unset] [(.long (t0_1 p2 p3)), (.long (3 : Int64)), (.long ((((p2 &&& (33554431 : Int32)) - (16777216 : Int32)).toInt64) * (((p2 &&& (33554431 : Int32)) - (16777216 : Int32)).toInt64))), (.double (FP.dmul v98_164 (4611686018427387904 : UInt64)))])) _
    refine XS.lmul X14.here hx rfl (hb hby at_198) rfl ?_
    show Steps p.tables e below (T14.setTop (mkF m 199 #[.val (.long q1), .second, .val (.int p2), .val (.int p3), .val (.long (t0_0 q1)), .second, .val (.long (((p2 &&& (33554431 : Int32)) - (16777216 : Int32)).toInt64)), .second, .val (.long (t0_1 p2 p3)), .second, .val (.long ((t0_2 p2 p3) / (2 : Int64))), .second, .val (.double (FP.l2d (t0_0 q1))), .second, .val (.double (FP.l2d (t0_3 q1 p2))), .second, .val (.double (FP.l2d ((t0_0 q1) + ((t0_2 p2 p3) / (2 : Int64))))), .second, .val (.ref b4), .val (.int (1 : Int32)), .val (.int (1 : Int32)), .unset] [(.long ((3 : Int64) * (t0_1 p2 p3))), (.long ((((p2 &&& (33554431 : Int32)) - (16777216 : Int32)).toInt64) * (((p2 &&& (33554431 : Int32)) - (16777216 : Int32)).toInt64))), (.double (FP.dmul v98_164 (4611686018427387904 : UInt64)))])) _
    refine XS.lload X14.here hx rfl (hb hby at_199) rfl ?_
    show Steps p.tables e below (T14.setTop (mkF m 201 #[.val (.long q1), .second, .val (.int p2), .val (.int p3), .val (.long (t0_0 q1)), .second, .val (.long (((p2 &&& (33554431 : Int32)) - (16777216 : Int32)).toInt64)), .second, .val (.long (t0_1 p2 p3)), .second, .val (.long ((t0_2 p2 p3) / (2 : Int64))), .second, .val (.double (FP.l2d (t0_0 q1))), .second, .val (.double (FP.l2d (t0_3 q1 p2))), .second, .val (.double (FP.l2d ((t0_0 q1) + ((t0_2 p2 p3) / (2 : Int64))))), .second, .val (.ref b4), .val (.int (1 : Int32)), .val (.int (1 : Int32)), .unset] [(.long (t0_1 p2 p3)), (.long ((3 : Int64) * (t0_1 p2 p3))), (.long ((((p2 &&& (33554431 : Int32)) - (16777216 : Int32)).toInt64) * (((p2 &&& (33554431 : Int32)) - (16777216 : Int32)).toInt64))), (.double (FP.dmul v98_164 (4611686018427387904 : UInt64)))])) _
    refine XS.lmul X14.here hx rfl (hb hby at_201) rfl ?_
    show Steps p.tables e below (T14.setTop (mkF m 202 #[.val (.long q1), .second, .val (.int p2), .val (.int p3), .val (.long (t0_0 q1)), .second, .val (.long (((p2 &&& (33554431 : Int32)) - (16777216 : Int32)).toInt64)), .second, .val (.long (t0_1 p2 p3)), .second, .val (.long ((t0_2 p2 p3) / (2 : Int64))), .second, .val (.double (FP.l2d (t0_0 q1))), .second, .val (.double (FP.l2d (t0_3 q1 p2))), .second, .val (.double (FP.l2d ((t0_0 q1) + ((t0_2 p2 p3) / (2 : Int64))))), .second, .val (.ref b4), .val (.int (1 : Int32)), .val (.int (1 : Int32)), .unset] [(.long (((3 : Int64) * (t0_1 p2 p3)) * (t0_1 p2 p3))), (.long ((((p2 &&& (33554431 : Int32)) - (16777216 : Int32)).toInt64) * (((p2 &&& (33554431 : Int32)) - (16777216 : Int32)).toInt64))), (.double (FP.dmul v98_164 (4611686018427387904 : UInt64)))])) _
    refine XS.ladd X14.here hx rfl (hb hby at_202) rfl ?_
    show Steps p.tables e below (T14.setTop (mkF m 203 #[.val (.long q1), .second, .val (.int p2), .val (.int p3), .val (.long (t0_0 q1)), .second, .val (.long (((p2 &&& (33554431 : Int32)) - (16777216 : Int32)).toInt64)), .second, .val (.long (t0_1 p2 p3)), .second, .val (.long ((t0_2 p2 p3) / (2 : Int64))), .second, .val (.double (FP.l2d (t0_0 q1))), .second, .val (.double (FP.l2d (t0_3 q1 p2))), .second, .val (.double (FP.l2d ((t0_0 q1) + ((t0_2 p2 p3) / (2 : Int64))))), .second, .val (.ref b4), .val (.int (1 : Int32)), .val (.int (1 : Int32)), .unset] [(.long (((((p2 &&& (33554431 : Int32)) - (16777216 : Int32)).toInt64) * (((p2 &&& (33554431 : Int32)) - (16777216 : Int32)).toInt64)) + (((3 : Int64) * (t0_1 p2 p3)) * (t0_1 p2 p3)))), (.double (FP.dmul v98_164 (4611686018427387904 : UInt64)))])) _
    refine XS.l2dS X14.here hx rfl (hb hby at_203) rfl (v := (FP.l2d (t0_6 p2 p3))) rfl ?_
    show Steps p.tables e below (T14.setTop (mkF m 204 #[.val (.long q1), .second, .val (.int p2), .val (.int p3), .val (.long (t0_0 q1)), .second, .val (.long (((p2 &&& (33554431 : Int32)) - (16777216 : Int32)).toInt64)), .second, .val (.long (t0_1 p2 p3)), .second, .val (.long ((t0_2 p2 p3) / (2 : Int64))), .second, .val (.double (FP.l2d (t0_0 q1))), .second, .val (.double (FP.l2d (t0_3 q1 p2))), .second, .val (.double (FP.l2d ((t0_0 q1) + ((t0_2 p2 p3) / (2 : Int64))))), .second, .val (.ref b4), .val (.int (1 : Int32)), .val (.int (1 : Int32)), .unset] [(.double (FP.l2d (t0_6 p2 p3))), (.double (FP.dmul v98_164 (4611686018427387904 : UInt64)))])) _
    refine XS.dcmpS X14.here hx rfl (hb hby at_204) rfl (v := (cmpValue (FP.dcmp (FP.dmul v98_164 (4611686018427387904 : UInt64)) (FP.l2d (t0_6 p2 p3))) .l)) rfl ?_
    show Steps p.tables e below (T14.setTop (mkF m 205 #[.val (.long q1), .second, .val (.int p2), .val (.int p3), .val (.long (t0_0 q1)), .second, .val (.long (((p2 &&& (33554431 : Int32)) - (16777216 : Int32)).toInt64)), .second, .val (.long (t0_1 p2 p3)), .second, .val (.long ((t0_2 p2 p3) / (2 : Int64))), .second, .val (.double (FP.l2d (t0_0 q1))), .second, .val (.double (FP.l2d (t0_3 q1 p2))), .second, .val (.double (FP.l2d ((t0_0 q1) + ((t0_2 p2 p3) / (2 : Int64))))), .second, .val (.ref b4), .val (.int (1 : Int32)), .val (.int (1 : Int32)), .unset] [(.int (cmpValue (FP.dcmp (FP.dmul v98_164 (4611686018427387904 : UInt64)) (FP.l2d (t0_6 p2 p3))) .l))])) _
    refine XS.ifNo X14.here hx rfl (hb hby at_205) rfl ((if0 _ _).trans (teq hc205).2) ?_
    show Steps p.tables e below (T14.setTop (mkF m 208 #[.val (.long q1), .second, .val (.int p2), .val (.int p3), .val (.long (t0_0 q1)), .second, .val (.long (((p2 &&& (33554431 : Int32)) - (16777216 : Int32)).toInt64)), .second, .val (.long (t0_1 p2 p3)), .second, .val (.long ((t0_2 p2 p3) / (2 : Int64))), .second, .val (.double (FP.l2d (t0_0 q1))), .second, .val (.double (FP.l2d (t0_3 q1 p2))), .second, .val (.double (FP.l2d ((t0_0 q1) + ((t0_2 p2 p3) / (2 : Int64))))), .second, .val (.ref b4), .val (.int (1 : Int32)), .val (.int (1 : Int32)), .unset] [])) _
    refine XS.iconst X14.here hx rfl (hb hby at_208) ?_
    show Steps p.tables e below (T14.setTop (mkF m 209 #[.val (.long q1), .second, .val (.int p2), .val (.int p3), .val (.long (t0_0 q1)), .second, .val (.long (((p2 &&& (33554431 : Int32)) - (16777216 : Int32)).toInt64)), .second, .val (.long (t0_1 p2 p3)), .second, .val (.long ((t0_2 p2 p3) / (2 : Int64))), .second, .val (.double (FP.l2d (t0_0 q1))), .second, .val (.double (FP.l2d (t0_3 q1 p2))), .second, .val (.double (FP.l2d ((t0_0 q1) + ((t0_2 p2 p3) / (2 : Int64))))), .second, .val (.ref b4), .val (.int (1 : Int32)), .val (.int (1 : Int32)), .unset] [(.int (1 : Int32))])) _
    refine XS.goto X14.here hx rfl (pc0 := 209) (pc' := 213) rfl (hb hby at_209) (by decide) (by decide) ?_
    show Steps p.tables e below (T14.setTop (mkF m 213 #[.val (.long q1), .second, .val (.int p2), .val (.int p3), .val (.long (t0_0 q1)), .second, .val (.long (((p2 &&& (33554431 : Int32)) - (16777216 : Int32)).toInt64)), .second, .val (.long (t0_1 p2 p3)), .second, .val (.long ((t0_2 p2 p3) / (2 : Int64))), .second, .val (.double (FP.l2d (t0_0 q1))), .second, .val (.double (FP.l2d (t0_3 q1 p2))), .second, .val (.double (FP.l2d ((t0_0 q1) + ((t0_2 p2 p3) / (2 : Int64))))), .second, .val (.ref b4), .val (.int (1 : Int32)), .val (.int (1 : Int32)), .unset] [(.int (1 : Int32))])) _
    refine XS.istore X14.here hx rfl (hb hby at_213) rfl (l' := #[.val (.long q1), .second, .val (.int p2), .val (.int p3), .val (.long (t0_0 q1)), .second, .val (.long (((p2 &&& (33554431 : Int32)) - (16777216 : Int32)).toInt64)), .second, .val (.long (t0_1 p2 p3)), .second, .val (.long ((t0_2 p2 p3) / (2 : Int64))), .second, .val (.double (FP.l2d (t0_0 q1))), .second, .val (.double (FP.l2d (t0_3 q1 p2))), .second, .val (.double (FP.l2d ((t0_0 q1) + ((t0_2 p2 p3) / (2 : Int64))))), .second, .val (.ref b4), .val (.int (1 : Int32)), .val (.int (1 : Int32)), .val (.int (1 : Int32))]) rfl ?_
    show Steps p.tables e below (T14.setTop (mkF m 215 #[.val (.long q1), .second, .val (.int p2), .val (.int p3), .val (.long (t0_0 q1)), .second, .val (.long (((p2 &&& (33554431 : Int32)) - (16777216 : Int32)).toInt64)), .second, .val (.long (t0_1 p2 p3)), .second, .val (.long ((t0_2 p2 p3) / (2 : Int64))), .second, .val (.double (FP.l2d (t0_0 q1))), .second, .val (.double (FP.l2d (t0_3 q1 p2))), .second, .val (.double (FP.l2d ((t0_0 q1) + ((t0_2 p2 p3) / (2 : Int64))))), .second, .val (.ref b4), .val (.int (1 : Int32)), .val (.int (1 : Int32)), .val (.int (1 : Int32))] [])) _
    refine XS.iload X14.here hx rfl (hb hby at_215) rfl ?_
    show Steps p.tables e below (T14.setTop (mkF m 217 #[.val (.long q1), .second, .val (.int p2), .val (.int p3), .val (.long (t0_0 q1)), .second, .val (.long (((p2 &&& (33554431 : Int32)) - (16777216 : Int32)).toInt64)), .second, .val (.long (t0_1 p2 p3)), .second, .val (.long ((t0_2 p2 p3) / (2 : Int64))), .second, .val (.double (FP.l2d (t0_0 q1))), .second, .val (.double (FP.l2d (t0_3 q1 p2))), .second, .val (.double (FP.l2d ((t0_0 q1) + ((t0_2 p2 p3) / (2 : Int64))))), .second, .val (.ref b4), .val (.int (1 : Int32)), .val (.int (1 : Int32)), .val (.int (1 : Int32))] [(.int (1 : Int32))])) _
    refine XS.ifNo X14.here hx rfl (hb hby at_217) rfl ((if0 _ _).trans (feq (by decide : ¬ ((1 : Int32) = (0 : Int32)))).1) ?_
    show Steps p.tables e below (T14.setTop (mkF m 220 #[.val (.long q1), .second, .val (.int p2), .val (.int p3), .val (.long (t0_0 q1)), .second, .val (.long (((p2 &&& (33554431 : Int32)) - (16777216 : Int32)).toInt64)), .second, .val (.long (t0_1 p2 p3)), .second, .val (.long ((t0_2 p2 p3) / (2 : Int64))), .second, .val (.double (FP.l2d (t0_0 q1))), .second, .val (.double (FP.l2d (t0_3 q1 p2))), .second, .val (.double (FP.l2d ((t0_0 q1) + ((t0_2 p2 p3) / (2 : Int64))))), .second, .val (.ref b4), .val (.int (1 : Int32)), .val (.int (1 : Int32)), .val (.int (1 : Int32))] [])) _
    refine XS.iload X14.here hx rfl (hb hby at_220) rfl ?_
    show Steps p.tables e below (T14.setTop (mkF m 222 #[.val (.long q1), .second, .val (.int p2), .val (.int p3), .val (.long (t0_0 q1)), .second, .val (.long (((p2 &&& (33554431 : Int32)) - (16777216 : Int32)).toInt64)), .second, .val (.long (t0_1 p2 p3)), .second, .val (.long ((t0_2 p2 p3) / (2 : Int64))), .second, .val (.double (FP.l2d (t0_0 q1))), .second, .val (.double (FP.l2d (t0_3 q1 p2))), .second, .val (.double (FP.l2d ((t0_0 q1) + ((t0_2 p2 p3) / (2 : Int64))))), .second, .val (.ref b4), .val (.int (1 : Int32)), .val (.int (1 : Int32)), .val (.int (1 : Int32))] [(.int (1 : Int32))])) _
    refine XS.ifNo X14.here hx rfl (hb hby at_222) rfl ((if0 _ _).trans (feq (by decide : ¬ ((1 : Int32) = (0 : Int32)))).1) ?_
    show Steps p.tables e below (T14.setTop (mkF m 225 #[.val (.long q1), .second, .val (.int p2), .val (.int p3), .val (.long (t0_0 q1)), .second, .val (.long (((p2 &&& (33554431 : Int32)) - (16777216 : Int32)).toInt64)), .second, .val (.long (t0_1 p2 p3)), .second, .val (.long ((t0_2 p2 p3) / (2 : Int64))), .second, .val (.double (FP.l2d (t0_0 q1))), .second, .val (.double (FP.l2d (t0_3 q1 p2))), .second, .val (.double (FP.l2d ((t0_0 q1) + ((t0_2 p2 p3) / (2 : Int64))))), .second, .val (.ref b4), .val (.int (1 : Int32)), .val (.int (1 : Int32)), .val (.int (1 : Int32))] [])) _
    refine XS.iload X14.here hx rfl (hb hby at_225) rfl ?_
    show Steps p.tables e below (T14.setTop (mkF m 227 #[.val (.long q1), .second, .val (.int p2), .val (.int p3), .val (.long (t0_0 q1)), .second, .val (.long (((p2 &&& (33554431 : Int32)) - (16777216 : Int32)).toInt64)), .second, .val (.long (t0_1 p2 p3)), .second, .val (.long ((t0_2 p2 p3) / (2 : Int64))), .second, .val (.double (FP.l2d (t0_0 q1))), .second, .val (.double (FP.l2d (t0_3 q1 p2))), .second, .val (.double (FP.l2d ((t0_0 q1) + ((t0_2 p2 p3) / (2 : Int64))))), .second, .val (.ref b4), .val (.int (1 : Int32)), .val (.int (1 : Int32)), .val (.int (1 : Int32))] [(.int (1 : Int32))])) _
    refine XS.ifNo X14.here hx rfl (hb hby at_227) rfl ((if0 _ _).trans (feq (by decide : ¬ ((1 : Int32) = (0 : Int32)))).1) ?_
    show Steps p.tables e below (T14.setTop (mkF m 230 #[.val (.long q1), .second, .val (.int p2), .val (.int p3), .val (.long (t0_0 q1)), .second, .val (.long (((p2 &&& (33554431 : Int32)) - (16777216 : Int32)).toInt64)), .second, .val (.long (t0_1 p2 p3)), .second, .val (.long ((t0_2 p2 p3) / (2 : Int64))), .second, .val (.double (FP.l2d (t0_0 q1))), .second, .val (.double (FP.l2d (t0_3 q1 p2))), .second, .val (.double (FP.l2d ((t0_0 q1) + ((t0_2 p2 p3) / (2 : Int64))))), .second, .val (.ref b4), .val (.int (1 : Int32)), .val (.int (1 : Int32)), .val (.int (1 : Int32))] [])) _
    refine XS.iconst X14.here hx rfl (hb hby at_230) ?_
    show Steps p.tables e below (T14.setTop (mkF m 231 #[.val (.long q1), .second, .val (.int p2), .val (.int p3), .val (.long (t0_0 q1)), .second, .val (.long (((p2 &&& (33554431 : Int32)) - (16777216 : Int32)).toInt64)), .second, .val (.long (t0_1 p2 p3)), .second, .val (.long ((t0_2 p2 p3) / (2 : Int64))), .second, .val (.double (FP.l2d (t0_0 q1))), .second, .val (.double (FP.l2d (t0_3 q1 p2))), .second, .val (.double (FP.l2d ((t0_0 q1) + ((t0_2 p2 p3) / (2 : Int64))))), .second, .val (.ref b4), .val (.int (1 : Int32)), .val (.int (1 : Int32)), .val (.int (1 : Int32))] [(.int (1 : Int32))])) _
    refine XS.goto X14.here hx rfl (pc0 := 231) (pc' := 235) rfl (hb hby at_231) (by decide) (by decide) ?_
    show Steps p.tables e below (T14.setTop (mkF m 235 #[.val (.long q1), .second, .val (.int p2), .val (.int p3), .val (.long (t0_0 q1)), .second, .val (.long (((p2 &&& (33554431 : Int32)) - (16777216 : Int32)).toInt64)), .second, .val (.long (t0_1 p2 p3)), .second, .val (.long ((t0_2 p2 p3) / (2 : Int64))), .second, .val (.double (FP.l2d (t0_0 q1))), .second, .val (.double (FP.l2d (t0_3 q1 p2))), .second, .val (.double (FP.l2d ((t0_0 q1) + ((t0_2 p2 p3) / (2 : Int64))))), .second, .val (.ref b4), .val (.int (1 : Int32)), .val (.int (1 : Int32)), .val (.int (1 : Int32))] [(.int (1 : Int32))])) _
    exact retN X14 hx (t := .boolean) Bd.returns (by simp) (hb hby at_235) hr
  · show Q_rm0 Z q1 p2 p3 v15_85 v20_85 v28_85 v37_85 v46_85 v62_85 v63_85 v68_85 v69_85 v70_85 v91_85 v96_85 v97_85 v98_85 v15_119 v20_119 v28_119 v37_119 v46_119 v62_119 v63_119 v68_119 v69_119 v70_119 v91_119 v96_119 v97_119 v98_119 v15_164 v20_164 v28_164 v37_164 v46_164 v62_164 v63_164 v68_164 v69_164 v70_164 v91_164 v96_164 v97_164 v98_164 h0 n0 _ T14.heap _
    exact ⟨rfl, N14⟩
def own_dd (p2 : Int32) : Int64 := ((p2 &&& (33554431 : Int32)) - (16777216 : Int32)).toInt64
theorem own_D (p2 : Int32) : -16777216 ≤ (own_dd p2).toInt ∧ (own_dd p2).toInt < 16777216 := by
  have h := own_mask p2 33554431 25 (by decide) (by decide)
  have hs : ((p2 &&& (33554431 : Int32)) - (16777216 : Int32)).toInt = p2.toInt % 2 ^ 25 - 16777216 := by
    rw [Int32.toInt_sub, h, show (16777216 : Int32).toInt = 16777216 from by decide]; apply Int.bmod_eq_of_le <;> omega
  unfold own_dd
  rw [Int32.toInt_toInt64, hs]
  omega
theorem own_E (p3 : Int32) : -4194304 ≤ (((p3 &&& (8388607 : Int32)) - (4194304 : Int32)).toInt64).toInt ∧ (((p3 &&& (8388607 : Int32)) - (4194304 : Int32)).toInt64).toInt < 4194304 := by
  have h := own_mask p3 8388607 23 (by decide) (by decide)
  have hs : ((p3 &&& (8388607 : Int32)) - (4194304 : Int32)).toInt = p3.toInt % 2 ^ 23 - 4194304 := by
    rw [Int32.toInt_sub, h, show (4194304 : Int32).toInt = 4194304 from by decide]; apply Int.bmod_eq_of_le <;> omega
  rw [Int32.toInt_toInt64, hs]
  omega
theorem own_K (p2 p3 : Int32) : -8388608 ≤ (t0_1 p2 p3).toInt ∧ (t0_1 p2 p3).toInt < 8388608 ∧ (t0_1 p2 p3).toInt % 2 = (own_dd p2).toInt % 2 := by
  have hE := own_E p3
  have hb : ((own_dd p2) &&& 1).toInt = (own_dd p2).toInt % 2 := own_bit _
  have e2 : (2 : Int64).toInt = 2 := by decide
  have hm : ((2 : Int64) * (((p3 &&& (8388607 : Int32)) - (4194304 : Int32)).toInt64)).toInt = 2 * (((p3 &&& (8388607 : Int32)) - (4194304 : Int32)).toInt64).toInt := by
    rw [own_m64 _ _ (by rw [e2]; omega) (by rw [e2]; omega), e2]
  have hk : (t0_1 p2 p3).toInt = 2 * (((p3 &&& (8388607 : Int32)) - (4194304 : Int32)).toInt64).toInt + (own_dd p2).toInt % 2 := by
    show ((2 : Int64) * (((p3 &&& (8388607 : Int32)) - (4194304 : Int32)).toInt64) + ((own_dd p2) &&& 1)).toInt = _
    rw [own_a64 _ _ (by rw [hm, hb]; omega) (by rw [hm, hb]; omega), hm, hb]
  rw [hk]
  omega
theorem own_t2 (p2 p3 : Int32) : (t0_2 p2 p3).toInt = (own_dd p2).toInt + 3 * (t0_1 p2 p3).toInt := by
  have hD := own_D p2; have hK := own_K p2 p3
  have e3 : (3 : Int64).toInt = 3 := by decide
  have hm : ((3 : Int64) * (t0_1 p2 p3)).toInt = 3 * (t0_1 p2 p3).toInt := by
    rw [own_m64 _ _ (by rw [e3]; omega) (by rw [e3]; omega), e3]
  show ((own_dd p2) + (3 : Int64) * (t0_1 p2 p3)).toInt = _
  rw [own_a64 _ _ (by rw [hm]; omega) (by rw [hm]; omega), hm]
theorem own_Q (p2 p3 : Int32) : 2 * ((t0_2 p2 p3) / (2 : Int64)).toInt = (own_dd p2).toInt + 3 * (t0_1 p2 p3).toInt := by
  have hK := own_K p2 p3
  have h := Int64.toInt_div_of_ne_right (t0_2 p2 p3) 2 (by decide)
  rw [own_t2, show (2 : Int64).toInt = 2 from by decide] at h
  rw [h]
  have hd : (2 : Int) ∣ (own_dd p2).toInt + 3 * (t0_1 p2 p3).toInt := by omega
  exact Int.mul_tdiv_cancel' hd
theorem own_A (q1 : Int64) : -9007199187632128 < (t0_0 q1).toInt ∧ (t0_0 q1).toInt < 9007199187632128 := own_tm2 q1 9007199187632128 (by decide)
theorem own_l (X : Int64) (x : Int) (h : X.toInt = x) : FP.l2d X = own_g (2 * x) := h ▸ own_gl2d X
set_option maxRecDepth 65536 in
set_option maxHeartbeats 40000000 in
theorem comes_1 {Post : Tables → Env → Array Value → State → Outcome → State → Prop} (hpost : ∀ tb e args s v u, (limb_1_1.after args s (.returned v) u = true ∧ limb_1_2.after args s (.returned v) u = true ∧ True) → FrameEnd s (.returned v) u (Jvm.fieldLocs frame_1_writes args s ++ Jvm.arrayLocs frame_1_arrays args s ++ Jvm.staticLocs frame_1_statics s) 16 128 → Post tb e args s (.returned v) u) :
    ArmFor flags0 classFile x code maxLocals ret World_1 tables_1 room_1 Calls_1 rest_1 Pre_1 Post := by
  intro l hfl _ _ p e ha hc hk s m args below hf hA hF happ hP
  obtain ⟨hcalls, hrest, hpre⟩ := hP
  obtain ⟨-, -, -, hnamed, -, -, -, hat⟩ := (Spec.applies_iff hf).mp happ
  obtain ⟨hg, hn⟩ := and_e (Cond.before_iff.mp (show (Jvm.Cond.and given_1 narrow_1).before args s = true from hpre))
  obtain ⟨g1, g2⟩ := and_e hg
  obtain ⟨g3, g4⟩ := and_e g2
  obtain ⟨g5, g6⟩ := and_e g4
  obtain ⟨w0, w1, w2, rfl⟩ : ∃ w0 w1 w2 : Value, args = #[w0, w1, w2] := by
    have hs : args.size = 3 := by simpa [Cond.value, given_1] using g1
    obtain ⟨L⟩ := args
    match L, hs with
    | [w0, w1, w2], _ => exact ⟨w0, w1, w2, rfl⟩
  have hw := fun d (hd : d ∈ tables_1) => atoms_spec (ws := Jvm.Cond.code x code maxLocals ret :: tables_1) hat d (List.mem_cons_of_mem _ hd)
  have hfit : Fit s := fun {y c} hc i hi => by
    obtain ⟨ha, rfl⟩ := Array.getElem?_eq_some_iff.mp hc
    have q := List.all_eq_true.mp ((Array.all_eq_true_iff_forall_mem.mp hF) _ (Array.getElem_mem ha)) i (List.mem_range.mpr hi)
    simpa [Array.getElem?_eq_getElem hi] using q
  obtain ⟨i0, ei0⟩ := isL_v g3
  obtain rfl : w0 = (.long i0) := Option.some.inj ei0
  obtain ⟨i1, ei1⟩ := is_v g5
  obtain rfl : w1 = (.int i1) := Option.some.inj ei1
  obtain ⟨i2, ei2⟩ := is_v g6
  obtain rfl : w2 = (.int i2) := Option.some.inj ei2
  have hA0 := own_A i0
  have hD0 := own_D i1
  have hK0 := own_K i1 i2
  have hQ0 := own_Q i1 i2
  have hDD := own_sq (own_dd i1).toInt 16777216 (by omega) (by omega)
  have hKK := own_sq (t0_1 i1 i2).toInt 8388608 (by omega) (by omega)
  have hdd0 : (t0_4 i1).toInt = (own_dd i1).toInt * (own_dd i1).toInt := own_m64 (own_dd i1) (own_dd i1) (by have := own_sq (own_dd i1).toInt 16777216 (by omega) (by omega); omega) (by have := own_sq (own_dd i1).toInt 16777216 (by omega) (by omega); omega)
  have hkk0 : (((3 : Int64) * (t0_1 i1 i2)) * (t0_1 i1 i2)).toInt = 3 * ((t0_1 i1 i2).toInt * (t0_1 i1 i2).toInt) := by
    have hm : ((3 : Int64) * (t0_1 i1 i2)).toInt = 3 * (t0_1 i1 i2).toInt := by
      rw [own_m64 _ _ (by rw [show (3 : Int64).toInt = 3 from by decide]; omega) (by rw [show (3 : Int64).toInt = 3 from by decide]; omega), show (3 : Int64).toInt = 3 from by decide]
    have hk2 := own_sq (t0_1 i1 i2).toInt 8388608 (by omega) (by omega)
    have e : 3 * (t0_1 i1 i2).toInt * (t0_1 i1 i2).toInt = 3 * ((t0_1 i1 i2).toInt * (t0_1 i1 i2).toInt) := Int.mul_assoc ..
    rw [own_m64 _ _ (by rw [hm, e]; omega) (by rw [hm, e]; omega), hm, e]
  have hdk0 : (t0_6 i1 i2).toInt = (own_dd i1).toInt * (own_dd i1).toInt + 3 * ((t0_1 i1 i2).toInt * (t0_1 i1 i2).toInt) := by
    have hk2 := own_sq (t0_1 i1 i2).toInt 8388608 (by omega) (by omega)
    have hd2 := own_sq (own_dd i1).toInt 16777216 (by omega) (by omega)
    show ((t0_4 i1) + (((3 : Int64) * (t0_1 i1 i2)) * (t0_1 i1 i2))).toInt = _
    rw [own_a64 _ _ (by rw [hdd0, hkk0]; omega) (by rw [hdd0, hkk0]; omega), hdd0, hkk0]
  have hb0 : (t0_3 i0 i1).toInt = (t0_0 i0).toInt + (own_dd i1).toInt := own_a64 (t0_0 i0) (own_dd i1) (by omega) (by omega)
  have hc0 : ((t0_0 i0) + ((t0_2 i1 i2) / (2 : Int64))).toInt = (t0_0 i0).toInt + ((t0_2 i1 i2) / (2 : Int64)).toInt := by
    clear hdd0 hkk0 hdk0
    exact own_a64 _ _ (by omega) (by omega)
  have hva := own_l (t0_0 i0) _ rfl
  have hvb := own_l (t0_3 i0 i1) _ hb0
  have hvc := own_l ((t0_0 i0) + ((t0_2 i1 i2) / (2 : Int64))) _ hc0
  have hdd := own_l (t0_4 i1) _ hdd0
  have hdk := own_l (t0_6 i1 i2) _ hdk0
  clear hdd0 hkk0 hdk0 hb0 hc0
  generalize (t0_0 i0).toInt = A at *
  generalize (own_dd i1).toInt = D at *
  generalize (t0_1 i1 i2).toInt = K at *
  generalize ((t0_2 i1 i2) / (2 : Int64)).toInt = Q at *
  obtain ⟨M2, hM2⟩ := own_Grnd (2 * A + D) (by omega)
  obtain ⟨M3, hM3⟩ := own_Grnd (M2 + K) (by omega)
  have hM2b := hM2.2.2
  have hM3b := hM3.2.2
  have r0 : own_R (2 * A) := by unfold own_R; omega
  have r1 : own_R (0) := by unfold own_R; omega
  have r2 : own_R (2 * (A + D)) := by unfold own_R; omega
  have r3 : own_R (2 * D) := by unfold own_R; omega
  have r4 : own_R (D) := by unfold own_R; omega
  have r5 : own_R (M2 - 2 * A) := by unfold own_R; omega
  have r6 : own_R (2 * A + D - M2) := by unfold own_R; omega
  have r7 : own_R (2 * (A + D) - M2) := by unfold own_R; omega
  have r8 : own_R (D * D) := by unfold own_R; omega
  have r9 : own_R (2 * (A + Q)) := by unfold own_R; omega
  have r10 : own_R (2 * (A + Q) - M2) := by unfold own_R; omega
  have r11 : own_R (3 * K) := by unfold own_R; omega
  have r12 : own_R (K) := by unfold own_R; omega
  have r13 : own_R (M3 - M2) := by unfold own_R; omega
  have r14 : own_R (K - (M3 - M2)) := by unfold own_R; omega
  have r15 : own_R (2 * A + D - M2 + (K - (M3 - M2))) := by unfold own_R; omega
  have r16 : own_R (2 * (A + Q) - M3) := by unfold own_R; omega
  have r17 : own_R (2 * K) := by unfold own_R; omega
  have r18 : own_R (3 * (K * K)) := by unfold own_R; omega
  have r19 : own_R (D * D + 3 * (K * K)) := by unfold own_R; omega
  have r20 : own_R (2 * (D * D)) := by unfold own_R; omega
  have r21 : own_R (2 * (D * D + 3 * (K * K))) := by unfold own_R; omega
  have pr_hep15_85 : FP.dsub (FP.l2d (t0_0 i0)) (0 : UInt64) = (own_g (2 * A)) := (own_sub hva own_g0.symm r0 r1 (by omega))
  have pr_hnp15_85 : Jvm.Free.Fl.NoNaN64 (own_g (2 * A)) := (own_nn r0)
  have pr_hep20_85 : FP.dsub (own_g (2 * A)) (0 : UInt64) = (own_g (2 * A)) := (own_sub rfl own_g0.symm r0 r1 (by omega))
  have pr_hnp20_85 : Jvm.Free.Fl.NoNaN64 (own_g (2 * A)) := (own_nn r0)
  have pr_hep28_85 : FP.ddiv (own_g (2 * A)) (FP.l2d ((0 : Int64) + (1 : Int64))) = (own_g (2 * A)) := ((congrArg (FP.ddiv (own_g (2 * A))) (show FP.l2d ((0 : Int64) + (1 : Int64)) = 4607182418800017408 from by decide +kernel)).trans (own_gdiv1 (2 * A) r0))
  have pr_hnp28_85 : Jvm.Free.Fl.NoNaN64 (own_g (2 * A)) := (own_nn r0)
  have pr_hep37_85 : FP.dadd (0 : UInt64) (own_g (2 * A)) = (own_g (2 * A)) := (own_ad own_g0.symm rfl r1 r0 (by omega))
  have pr_hnp37_85 : Jvm.Free.Fl.NoNaN64 (own_g (2 * A)) := (own_nn r0)
  have pr_hep46_85 : FP.dsub (own_g (2 * A)) (0 : UInt64) = (own_g (2 * A)) := (own_sub rfl own_g0.symm r0 r1 (by omega))
  have pr_hnp46_85 : Jvm.Free.Fl.NoNaN64 (own_g (2 * A)) := (own_nn r0)
  have pr_hep62_85 : FP.dsub (own_g (2 * A)) (own_g (2 * A)) = (own_g (0)) := (own_sub rfl rfl r0 r0 (by omega))
  have pr_hnp62_85 : Jvm.Free.Fl.NoNaN64 (own_g (0)) := (own_nn r1)
  have pr_hep63_85 : FP.dsub (0 : UInt64) (own_g (0)) = (own_g (0)) := (own_sub own_g0.symm rfl r1 r1 (by omega))
  have pr_hnp63_85 : Jvm.Free.Fl.NoNaN64 (own_g (0)) := (own_nn r1)
  have pr_hep68_85 : FP.dsub (own_g (2 * A)) (own_g (2 * A)) = (own_g (0)) := (own_sub rfl rfl r0 r0 (by omega))
  have pr_hnp68_85 : Jvm.Free.Fl.NoNaN64 (own_g (0)) := (own_nn r1)
  have pr_hep69_85 : FP.dadd (own_g (0)) (own_g (0)) = (own_g (0)) := (own_ad rfl rfl r1 r1 (by omega))
  have pr_hnp69_85 : Jvm.Free.Fl.NoNaN64 (own_g (0)) := (own_nn r1)
  have pr_hep70_85 : FP.dadd (0 : UInt64) (own_g (0)) = (own_g (0)) := (own_ad own_g0.symm rfl r1 r1 (by omega))
  have pr_hnp70_85 : Jvm.Free.Fl.NoNaN64 (own_g (0)) := (own_nn r1)
  have pr_hep91_85 : FP.dsub (FP.l2d (t0_0 i0)) (own_g (2 * A)) = (own_g (0)) := (own_sub hva rfl r0 r0 (by omega))
  have pr_hnp91_85 : Jvm.Free.Fl.NoNaN64 (own_g (0)) := (own_nn r1)
  have pr_hep96_85 : FP.dsub (own_g (0)) (own_g (0)) = (own_g (0)) := (own_sub rfl rfl r1 r1 (by omega))
  have pr_hnp96_85 : Jvm.Free.Fl.NoNaN64 (own_g (0)) := (own_nn r1)
  have pr_hep97_85 : FP.dmul (own_g (2 * A)) (own_g (0)) = (own_Z (decide (2 * A < 0) != decide ((0 : Int) < 0))) := (own_gmul (2 * A) 0 0 r0 r1 (by omega))
  have pr_hnp97_85 : Jvm.Free.Fl.NoNaN64 (own_Z (decide (2 * A < 0) != decide ((0 : Int) < 0))) := (own_nz _)
  have pr_hep98_85 : FP.dadd (0 : UInt64) (own_Z (decide (2 * A < 0) != decide ((0 : Int) < 0))) = (own_g (0)) := ((congrArg (fun z => FP.dadd z _) own_g0.symm).trans (own_addz _))
  have pr_hnp98_85 : Jvm.Free.Fl.NoNaN64 (own_g (0)) := (own_nn r1)
  have pr_hc105 : (cmpValue (FP.dcmp (own_g (0)) (0 : UInt64)) .l) = (0 : Int32) := (by rw [own_g0]; decide +kernel)
  have pr_hep15_119 : FP.dsub (FP.l2d (t0_3 i0 i1)) (own_g (2 * A)) = (own_g (2 * D)) := (own_sub hvb rfl r2 r0 (by omega))
  have pr_hnp15_119 : Jvm.Free.Fl.NoNaN64 (own_g (2 * D)) := (own_nn r3)
  have pr_hep20_119 : FP.dsub (own_g (2 * D)) (own_g (0)) = (own_g (2 * D)) := (own_sub rfl rfl r3 r1 (by omega))
  have pr_hnp20_119 : Jvm.Free.Fl.NoNaN64 (own_g (2 * D)) := (own_nn r3)
  have pr_hep28_119 : FP.ddiv (own_g (2 * D)) (FP.l2d (((0 : Int64) + (1 : Int64)) + (1 : Int64))) = (own_g (D)) := ((congrArg (FP.ddiv (own_g (2 * D))) (show FP.l2d (((0 : Int64) + (1 : Int64)) + (1 : Int64)) = 4611686018427387904 from by decide +kernel)).trans (own_gdiv2 D r3))
  have pr_hnp28_119 : Jvm.Free.Fl.NoNaN64 (own_g (D)) := (own_nn r4)
  have pr_hep37_119 : FP.dadd (own_g (2 * A)) (own_g (D)) = (own_g (M2)) := ((own_gadd (2 * A) D r0 r4).trans hM2.2.1)
  have pr_hnp37_119 : Jvm.Free.Fl.NoNaN64 (own_g (M2)) := (own_nn hM2.1)
  have pr_hep46_119 : FP.dsub (own_g (M2)) (own_g (2 * A)) = (own_g (M2 - 2 * A)) := (own_sub rfl rfl hM2.1 r0 (by omega))
  have pr_hnp46_119 : Jvm.Free.Fl.NoNaN64 (own_g (M2 - 2 * A)) := (own_nn r5)
  have pr_hep62_119 : FP.dsub (own_g (M2)) (own_g (M2 - 2 * A)) = (own_g (2 * A)) := (own_sub rfl rfl hM2.1 r5 (by omega))
  have pr_hnp62_119 : Jvm.Free.Fl.NoNaN64 (own_g (2 * A)) := (own_nn r0)
  have pr_hep63_119 : FP.dsub (own_g (2 * A)) (own_g (2 * A)) = (own_g (0)) := (own_sub rfl rfl r0 r0 (by omega))
  have pr_hnp63_119 : Jvm.Free.Fl.NoNaN64 (own_g (0)) := (own_nn r1)
  have pr_hep68_119 : FP.dsub (own_g (D)) (own_g (M2 - 2 * A)) = (own_g (2 * A + D - M2)) := (own_sub rfl rfl r4 r5 (by omega))
  have pr_hnp68_119 : Jvm.Free.Fl.NoNaN64 (own_g (2 * A + D - M2)) := (own_nn r6)
  have pr_hep69_119 : FP.dadd (own_g (0)) (own_g (2 * A + D - M2)) = (own_g (2 * A + D - M2)) := (own_ad rfl rfl r1 r6 (by omega))
  have pr_hnp69_119 : Jvm.Free.Fl.NoNaN64 (own_g (2 * A + D - M2)) := (own_nn r6)
  have pr_hep70_119 : FP.dadd (own_g (0)) (own_g (2 * A + D - M2)) = (own_g (2 * A + D - M2)) := (own_ad rfl rfl r1 r6 (by omega))
  have pr_hnp70_119 : Jvm.Free.Fl.NoNaN64 (own_g (2 * A + D - M2)) := (own_nn r6)
  have pr_hep91_119 : FP.dsub (FP.l2d (t0_3 i0 i1)) (own_g (M2)) = (own_g (2 * (A + D) - M2)) := (own_sub hvb rfl r2 hM2.1 (by omega))
  have pr_hnp91_119 : Jvm.Free.Fl.NoNaN64 (own_g (2 * (A + D) - M2)) := (own_nn r7)
  have pr_hep96_119 : FP.dsub (own_g (2 * (A + D) - M2)) (own_g (2 * A + D - M2)) = (own_g (D)) := (own_sub rfl rfl r7 r6 (by omega))
  have pr_hnp96_119 : Jvm.Free.Fl.NoNaN64 (own_g (D)) := (own_nn r4)
  have pr_hep97_119 : FP.dmul (own_g (2 * D)) (own_g (D)) = (own_g (D * D)) := (own_gmulp (2 * D) D (D * D) r3 r4 (Int.mul_assoc 2 D D) (own_sg D 2 (by decide)) hDD.1)
  have pr_hnp97_119 : Jvm.Free.Fl.NoNaN64 (own_g (D * D)) := (own_nn r8)
  have pr_hep98_119 : FP.dadd (own_g (0)) (own_g (D * D)) = (own_g (D * D)) := (own_ad rfl rfl r1 r8 (by omega))
  have pr_hnp98_119 : Jvm.Free.Fl.NoNaN64 (own_g (D * D)) := (own_nn r8)
  have pr_hn142 : Jvm.Free.Fl.NoNaN64 (FP.dmul (own_g (D * D)) (4611686018427387904 : UInt64)) := (by rw [show FP.dmul (own_g (D * D)) (4611686018427387904 : UInt64) = own_g (2 * (D * D)) from own_gx2 _ r8]; exact own_nn r20)
  have pr_hc150 : (t0_5 i1 (own_g (D * D))) = (0 : Int32) := (by show (cmpValue (FP.dcmp (FP.dmul (own_g (D * D)) (4611686018427387904 : UInt64)) (FP.l2d (t0_4 i1))) .l) = (0 : Int32); rw [show FP.dmul (own_g (D * D)) (4611686018427387904 : UInt64) = own_g (2 * (D * D)) from own_gx2 _ r8, hdd]; exact dcmpV_self (own_nn r20) .l)
  have pr_hep15_164 : FP.dsub (FP.l2d ((t0_0 i0) + ((t0_2 i1 i2) / (2 : Int64)))) (own_g (M2)) = (own_g (2 * (A + Q) - M2)) := (own_sub hvc rfl r9 hM2.1 (by omega))
  have pr_hnp15_164 : Jvm.Free.Fl.NoNaN64 (own_g (2 * (A + Q) - M2)) := (own_nn r10)
  have pr_hep20_164 : FP.dsub (own_g (2 * (A + Q) - M2)) (own_g (2 * A + D - M2)) = (own_g (3 * K)) := (own_sub rfl rfl r10 r6 (by omega))
  have pr_hnp20_164 : Jvm.Free.Fl.NoNaN64 (own_g (3 * K)) := (own_nn r11)
  have pr_hep28_164 : FP.ddiv (own_g (3 * K)) (FP.l2d ((((0 : Int64) + (1 : Int64)) + (1 : Int64)) + (1 : Int64))) = (own_g (K)) := ((congrArg (FP.ddiv (own_g (3 * K))) (show FP.l2d ((((0 : Int64) + (1 : Int64)) + (1 : Int64)) + (1 : Int64)) = 4613937818241073152 from by decide +kernel)).trans (own_gdiv3 K (by omega)))
  have pr_hnp28_164 : Jvm.Free.Fl.NoNaN64 (own_g (K)) := (own_nn r12)
  have pr_hep37_164 : FP.dadd (own_g (M2)) (own_g (K)) = (own_g (M3)) := ((own_gadd M2 K hM2.1 r12).trans hM3.2.1)
  have pr_hnp37_164 : Jvm.Free.Fl.NoNaN64 (own_g (M3)) := (own_nn hM3.1)
  have pr_hep46_164 : FP.dsub (own_g (M3)) (own_g (M2)) = (own_g (M3 - M2)) := (own_sub rfl rfl hM3.1 hM2.1 (by omega))
  have pr_hnp46_164 : Jvm.Free.Fl.NoNaN64 (own_g (M3 - M2)) := (own_nn r13)
  have pr_hep62_164 : FP.dsub (own_g (M3)) (own_g (M3 - M2)) = (own_g (M2)) := (own_sub rfl rfl hM3.1 r13 (by omega))
  have pr_hnp62_164 : Jvm.Free.Fl.NoNaN64 (own_g (M2)) := (own_nn hM2.1)
  have pr_hep63_164 : FP.dsub (own_g (M2)) (own_g (M2)) = (own_g (0)) := (own_sub rfl rfl hM2.1 hM2.1 (by omega))
  have pr_hnp63_164 : Jvm.Free.Fl.NoNaN64 (own_g (0)) := (own_nn r1)
  have pr_hep68_164 : FP.dsub (own_g (K)) (own_g (M3 - M2)) = (own_g (K - (M3 - M2))) := (own_sub rfl rfl r12 r13 (by omega))
  have pr_hnp68_164 : Jvm.Free.Fl.NoNaN64 (own_g (K - (M3 - M2))) := (own_nn r14)
  have pr_hep69_164 : FP.dadd (own_g (0)) (own_g (K - (M3 - M2))) = (own_g (K - (M3 - M2))) := (own_ad rfl rfl r1 r14 (by omega))
  have pr_hnp69_164 : Jvm.Free.Fl.NoNaN64 (own_g (K - (M3 - M2))) := (own_nn r14)
  have pr_hep70_164 : FP.dadd (own_g (2 * A + D - M2)) (own_g (K - (M3 - M2))) = (own_g (2 * A + D - M2 + (K - (M3 - M2)))) := (own_ad rfl rfl r6 r14 (by omega))
  have pr_hnp70_164 : Jvm.Free.Fl.NoNaN64 (own_g (2 * A + D - M2 + (K - (M3 - M2)))) := (own_nn r15)
  have pr_hep91_164 : FP.dsub (FP.l2d ((t0_0 i0) + ((t0_2 i1 i2) / (2 : Int64)))) (own_g (M3)) = (own_g (2 * (A + Q) - M3)) := (own_sub hvc rfl r9 hM3.1 (by omega))
  have pr_hnp91_164 : Jvm.Free.Fl.NoNaN64 (own_g (2 * (A + Q) - M3)) := (own_nn r16)
  have pr_hep96_164 : FP.dsub (own_g (2 * (A + Q) - M3)) (own_g (2 * A + D - M2 + (K - (M3 - M2)))) = (own_g (2 * K)) := (own_sub rfl rfl r16 r15 (by omega))
  have pr_hnp96_164 : Jvm.Free.Fl.NoNaN64 (own_g (2 * K)) := (own_nn r17)
  have pr_hep97_164 : FP.dmul (own_g (3 * K)) (own_g (2 * K)) = (own_g (3 * (K * K))) := (own_gmulp (3 * K) (2 * K) (3 * (K * K)) r11 r17 (by ac_rfl) ((own_sg K 3 (by decide)).trans (own_sg K 2 (by decide)).symm) (by omega))
  have pr_hnp97_164 : Jvm.Free.Fl.NoNaN64 (own_g (3 * (K * K))) := (own_nn r18)
  have pr_hep98_164 : FP.dadd (own_g (D * D)) (own_g (3 * (K * K))) = (own_g (D * D + 3 * (K * K))) := (own_ad rfl rfl r8 r18 (by omega))
  have pr_hnp98_164 : Jvm.Free.Fl.NoNaN64 (own_g (D * D + 3 * (K * K))) := (own_nn r19)
  have pr_hn187 : Jvm.Free.Fl.NoNaN64 (FP.dmul (own_g (D * D + 3 * (K * K))) (4611686018427387904 : UInt64)) := (by rw [show FP.dmul (own_g (D * D + 3 * (K * K))) (4611686018427387904 : UInt64) = own_g (2 * (D * D + 3 * (K * K))) from own_gx2 _ r19]; exact own_nn r21)
  have pr_hc205 : (t0_7 i1 i2 (own_g (D * D + 3 * (K * K)))) = (0 : Int32) := (by show (cmpValue (FP.dcmp (FP.dmul (own_g (D * D + 3 * (K * K))) (4611686018427387904 : UInt64)) (FP.l2d (t0_6 i1 i2))) .l) = (0 : Int32); rw [show FP.dmul (own_g (D * D + 3 * (K * K))) (4611686018427387904 : UInt64) = own_g (2 * (D * D + 3 * (K * K))) from own_gx2 _ r19, hdk]; exact dcmpV_self (own_nn r21) .l)
  obtain ⟨n, o, h1, h2, h3, _, L, rfl, ⟨rfl, N⟩, hq⟩ := rm0 l s _ hw tables_1 i0 i1 i2 (own_g (2 * A)) (own_g (2 * A)) (own_g (2 * A)) (own_g (2 * A)) (own_g (2 * A)) (own_g (0)) (own_g (0)) (own_g (0)) (own_g (0)) (own_g (0)) (own_g (0)) (own_g (0)) (own_Z (decide (2 * A < 0) != decide ((0 : Int) < 0))) (own_g (0)) (own_g (2 * D)) (own_g (2 * D)) (own_g (D)) (own_g (M2)) (own_g (M2 - 2 * A)) (own_g (2 * A)) (own_g (0)) (own_g (2 * A + D - M2)) (own_g (2 * A + D - M2)) (own_g (2 * A + D - M2)) (own_g (2 * (A + D) - M2)) (own_g (D)) (own_g (D * D)) (own_g (D * D)) (own_g (2 * (A + Q) - M2)) (own_g (3 * K)) (own_g (K)) (own_g (M3)) (own_g (M3 - M2)) (own_g (M2)) (own_g (0)) (own_g (K - (M3 - M2))) (own_g (K - (M3 - M2))) (own_g (2 * A + D - M2 + (K - (M3 - M2)))) (own_g (2 * (A + Q) - M3)) (own_g (2 * K)) (own_g (3 * (K * K))) (own_g (D * D + 3 * (K * K))) s.heap s.heap.size (Nat.le_refl _) pr_hep15_85 pr_hnp15_85 pr_hep20_85 pr_hnp20_85 pr_hep28_85 pr_hnp28_85 pr_hep37_85 pr_hnp37_85 pr_hep46_85 pr_hnp46_85 pr_hep62_85 pr_hnp62_85 pr_hep63_85 pr_hnp63_85 pr_hep68_85 pr_hnp68_85 pr_hep69_85 pr_hnp69_85 pr_hep70_85 pr_hnp70_85 pr_hep91_85 pr_hnp91_85 pr_hep96_85 pr_hnp96_85 pr_hep97_85 pr_hnp97_85 pr_hep98_85 pr_hnp98_85 pr_hc105 pr_hep15_119 pr_hnp15_119 pr_hep20_119 pr_hnp20_119 pr_hep28_119 pr_hnp28_119 pr_hep37_119 pr_hnp37_119 pr_hep46_119 pr_hnp46_119 pr_hep62_119 pr_hnp62_119 pr_hep63_119 pr_hnp63_119 pr_hep68_119 pr_hnp68_119 pr_hep69_119 pr_hnp69_119 pr_hep70_119 pr_hnp70_119 pr_hep91_119 pr_hnp91_119 pr_hep96_119 pr_hnp96_119 pr_hep97_119 pr_hnp97_119 pr_hep98_119 pr_hnp98_119 pr_hn142 pr_hc150 pr_hep15_164 pr_hnp15_164 pr_hep20_164 pr_hnp20_164 pr_hep28_164 pr_hnp28_164 pr_hep37_164 pr_hnp37_164 pr_hep46_164 pr_hnp46_164 pr_hep62_164 pr_hnp62_164 pr_hep63_164 pr_hnp63_164 pr_hep68_164 pr_hnp68_164 pr_hep69_164 pr_hnp69_164 pr_hep70_164 pr_hnp70_164 pr_hep91_164 pr_hnp91_164 pr_hep96_164 pr_hnp96_164 pr_hep97_164 pr_hnp97_164 pr_hep98_164 pr_hnp98_164 pr_hn187 pr_hc205 p e ha hc hk s m _ below hf ((Spec.applies_iff_loose hf).mp happ).1 ⟨rfl, State.Warmed39.refl s, rfl⟩ trivial
  refine ⟨n, _, h1, h2, h3, hpost _ _ _ _ _ _ ⟨Cond.after_iff.mpr rfl, Cond.after_iff.mpr (eq_i res_at (Term.int_eval (1)) rfl), trivial⟩ ⟨hq.1, hq.2.1, (hq.2.2.sift fun y hy => Or.inr (N y hy)).mono (by decide) (by decide)⟩⟩
theorem main_1_1 : Claimed_1_1 := comes_1 fun _ _ _ _ _ _ h hF => ⟨h.1, hF⟩
theorem main_1_2 : Claimed_1_2 := comes_1 fun _ _ _ _ _ _ h hF => ⟨h.2.1, hF⟩
end Jvm.Pilot.@@N@@
namespace Jvm.Pilot.@@N@@
open Jvm Jvm.ClassFile Sem Op Lib Jvm.Free Jvm.Stand Jvm.Pilot.@@N@@.Jvm.D
/-! MADE BY PROGRAM (witnessworld.py) out of the Statement's table words and the real class files: 9 classes; the members and pool entries that the words name. The judged class is class 1, her method 1. -/
namespace start1
open Jvm.ClassFile
def u (s : String) : CpInfo := .utf8 (stringToUtf16 s)
/-- a pool by its gaps: so many unusable entries, then the entry; so many at the end -/
def gap : Nat → List CpInfo → List CpInfo
  | 0, r => r
  | n + 1, r => .unusable :: gap n r
def poolList (es : List (Nat × CpInfo)) (last : Nat) : List CpInfo := es.foldr (fun e r => gap e.1 (e.2 :: r)) (gap last [])
def pool (es : List (Nat × CpInfo)) (last : Nat) : Array CpInfo := ⟨poolList es last⟩
def fileOf (pool : Array CpInfo) (this : Nat) (attrs : Array Attribute := #[]) (ms : Array MethodInfo := #[]) (fl : Nat := 33) (sup : Nat := 0) (ifs : Array Nat := #[]) (fds : Array FieldInfo := #[]) : ClassFile where
  minorVersion := 0
  majorVersion := 65
  constantPool := pool
  accessFlags := fl
  thisClass := this
  superClass := sup
  interfaces := ifs
  fields := fds
  methods := ms
  attributes := attrs
def plain (name : String) (sup : Option ClassId) : Class where
  name := name
  kind := .ordinary
  loader := none
  accessFlags := 33
  super := sup
  interfaces := #[]
  cf := none
  fields := #[]
  methods := #[]
  instanceTypes := #[]
  staticTypes := #[]
  resolved := #[]
  callSites := []
  init := .initialized
  statics := none
  mirror := none

def pool0 : Array CpInfo := pool [(5, u "<init>"), (0, u "()V"), (1, .class_ 10), (1, u "java/lang/Object")] 113

def k0c0 : Code := { maxStack := 0, maxLocals := 1, code := object_method_1_code, exceptionTable := #[], attributes := #[] }
def k0m0 : Method := { name := "<init>", desc := "()V", sig := { parameters := [], returnType := none }, accessFlags := 1, code := some k0c0 }
/-- java/lang/Object -/
def k0 : Class := { plain "java/lang/Object" none with
  accessFlags := 33
  interfaces := #[]
  cf := some (fileOf pool0 8 #[] #[{ accessFlags := 1, nameIndex := 5, descriptorIndex := 6, attributes := #[] }] 33 0 #[] #[])
  fields := #[]
  methods := #[k0m0]
  instanceTypes := #[]
  staticTypes := #[]
  resolved := Array.replicate 124 none
  statics := none }

def pool1 : Array CpInfo := pool [(2, .class_ 4), (0, .nameAndType 5 6), (0, u "java/lang/Object"), (0, u "<init>"), (0, u "()V"), (0, .long 9007199187632128), (1, .integer 33554431), (0, .integer 16777216), (0, .long 2), (1, .integer 8388607), (0, .integer 4194304), (0, .long 3), (1, .class_ 18), (0, u "dev/driftline/Sample$Squares"), (0, .methodref 17 3), (0, .methodref 17 21), (0, .nameAndType 22 23), (0, u "add"), (0, u "(D)V"), (0, .methodref 17 25), (0, .nameAndType 26 27), (0, u "count"), (0, u "()J"), (0, .methodref 17 29), (0, .nameAndType 30 31), (0, u "sum"), (0, u "()D"), (0, .double 4611686018427387904), (1, .class_ 35), (0, u "dev/driftline/SquaresAddPinLaw"), (2, u "law"), (0, u "(JII)Z")] 7

def k1m0 : Method := { name := "<init>", desc := "()V", sig := { parameters := [], returnType := none }, accessFlags := 1, code := none }
def k1c1 : Code := { maxStack := 8, maxLocals := 22, code := code, exceptionTable := #[], attributes := #[] }
def k1m1 : Method := { name := "law", desc := "(JII)Z", sig := { parameters := [.long, .int, .int], returnType := some .boolean }, accessFlags := 9, code := some k1c1 }
/-- dev/driftline/SquaresAddPinLaw -/
def k1 : Class := { plain "dev/driftline/SquaresAddPinLaw" (some 0) with
  accessFlags := 49
  interfaces := #[]
  cf := some (fileOf pool1 34 #[] #[{ accessFlags := 1, nameIndex := 5, descriptorIndex := 6, attributes := #[] }, { accessFlags := 9, nameIndex := 38, descriptorIndex := 39, attributes := #[] }] 49 2 #[] #[])
  fields := #[]
  methods := #[k1m0, k1m1]
  instanceTypes := #[]
  staticTypes := #[]
  resolved := Array.replicate 47 none
  statics := none }

def pool2 : Array CpInfo := pool [(1, .methodref 2 3), (0, .class_ 4), (0, .nameAndType 5 6), (0, u "java/lang/Object"), (0, u "<init>"), (0, u "()V"), (0, .fieldref 8 9), (0, .class_ 10), (0, .nameAndType 11 12), (0, u "dev/driftline/Sample$Squares"), (0, u "count"), (0, u "J"), (0, .fieldref 8 14), (0, .nameAndType 15 16), (0, u "mean"), (0, u "D"), (0, .fieldref 8 18), (0, .nameAndType 19 16), (0, u "rest"), (0, .fieldref 8 21), (0, .nameAndType 22 16), (0, u "sum"), (2, u "add"), (0, u "(D)V"), (0, u "()J"), (0, u "()D"), (3, .class_ 33), (0, u "dev/driftline/Sample")] 2

def k2c0 : Code := { maxStack := 1, maxLocals := 1, code := prog_34_method_1_code, exceptionTable := #[], attributes := #[] }
def k2m0 : Method := { name := "<init>", desc := "()V", sig := { parameters := [], returnType := none }, accessFlags := 0, code := some k2c0 }
def k2c1 : Code := { maxStack := 9, maxLocals := 11, code := prog_34_method_2_code, exceptionTable := #[], attributes := #[] }
def k2m1 : Method := { name := "add", desc := "(D)V", sig := { parameters := [.double], returnType := none }, accessFlags := 0, code := some k2c1 }
def k2c2 : Code := { maxStack := 2, maxLocals := 1, code := prog_34_method_3_code, exceptionTable := #[], attributes := #[] }
def k2m2 : Method := { name := "count", desc := "()J", sig := { parameters := [], returnType := some .long }, accessFlags := 0, code := some k2c2 }
def k2c3 : Code := { maxStack := 2, maxLocals := 1, code := prog_34_method_4_code, exceptionTable := #[], attributes := #[] }
def k2m3 : Method := { name := "sum", desc := "()D", sig := { parameters := [], returnType := some .double }, accessFlags := 0, code := some k2c3 }
/-- dev/driftline/Sample$Squares -/
def k2 : Class := { plain "dev/driftline/Sample$Squares" (some 0) with
  accessFlags := 48
  interfaces := #[]
  cf := some (fileOf pool2 8 #[.nestHost 32] #[{ accessFlags := 0, nameIndex := 5, descriptorIndex := 6, attributes := #[] }, { accessFlags := 0, nameIndex := 25, descriptorIndex := 26, attributes := #[] }, { accessFlags := 0, nameIndex := 11, descriptorIndex := 27, attributes := #[] }, { accessFlags := 0, nameIndex := 22, descriptorIndex := 28, attributes := #[] }] 48 2 #[] #[{ accessFlags := 2, nameIndex := 11, descriptorIndex := 12, attributes := #[] }, { accessFlags := 2, nameIndex := 15, descriptorIndex := 16, attributes := #[] }, { accessFlags := 2, nameIndex := 19, descriptorIndex := 16, attributes := #[] }, { accessFlags := 2, nameIndex := 22, descriptorIndex := 16, attributes := #[] }])
  fields := #[{ name := "count", type := .long, accessFlags := 2, slot := 0, constantValue := 0 }, { name := "mean", type := .double, accessFlags := 2, slot := 1, constantValue := 0 }, { name := "rest", type := .double, accessFlags := 2, slot := 2, constantValue := 0 }, { name := "sum", type := .double, accessFlags := 2, slot := 3, constantValue := 0 }]
  methods := #[k2m0, k2m1, k2m2, k2m3]
  instanceTypes := #[.long, .double, .double, .double]
  staticTypes := #[]
  resolved := Array.replicate 36 none
  statics := none }

def pool3 : Array CpInfo := pool [(1, u "java/lang/Cloneable"), (0, .class_ 1), (0, u "java/lang/Object"), (0, .class_ 3)] 3

/-- java/lang/Cloneable -/
def k3 : Class := { plain "java/lang/Cloneable" (some 0) with
  accessFlags := 1537
  interfaces := #[]
  cf := some (fileOf pool3 2 #[] #[] 1537 4 #[] #[])
  fields := #[]
  methods := #[]
  instanceTypes := #[]
  staticTypes := #[]
  resolved := Array.replicate 8 none
  statics := none }

def pool4 : Array CpInfo := pool [(1, u "java/io/Serializable"), (0, .class_ 1), (0, u "java/lang/Object"), (0, .class_ 3)] 3

/-- java/io/Serializable -/
def k4 : Class := { plain "java/io/Serializable" (some 0) with
  accessFlags := 1537
  interfaces := #[]
  cf := some (fileOf pool4 2 #[] #[] 1537 4 #[] #[])
  fields := #[]
  methods := #[]
  instanceTypes := #[]
  staticTypes := #[]
  resolved := Array.replicate 8 none
  statics := none }

/-- the primitive byte -/
def k5 : Class := { plain "byte" none with kind := .primitive 'B', accessFlags := 0x411 }
/-- [B -/
def k6 : Class := { plain "[B" (some 0) with kind := .array 5 .byte, interfaces := #[3, 4], accessFlags := 1041 }

/-- the primitive int -/
def k7 : Class := { plain "int" none with kind := .primitive 'I', accessFlags := 0x411 }
/-- [I -/
def k8 : Class := { plain "[I" (some 0) with kind := .array 7 .int, interfaces := #[3, 4], accessFlags := 1041 }

def heap : Heap := #[]
def classes : Array Class := #[k0, k1, k2, k3, k4, k5, k6, k7, k8]
def interned : List (Array UInt16 × Addr) := []
def slotsUsed : Nat := 0
def theMethod : MethodId := ⟨1, 1⟩
def args0 : Array Value := #[.long 5, .int 3, .int 2]
def aboutOver (below : List Frame) : State where
  vm := { classes := classes, interned := interned.toArray }
  heap := heap
  slotsUsed := slotsUsed
  threads := #[{ frames := .invoking theMethod args0 :: below }]
def below0 : List Frame := [.native { method := ⟨0, 0⟩, args := #[] }]
def about1 : State := aboutOver below0
def p0 : Program := .bare "" "" ""
def e0 : Env := launch0.env 0 0 0
theorem w_frames : about1.frames = Frame.invoking theMethod args0 :: below0 := rfl
set_option maxRecDepth 65536 in
theorem w_args : argsFit about1.vm theMethod args0 = true := by decide +kernel
set_option maxRecDepth 65536 in
theorem w_heap : heapFits about1 = true := by decide +kernel
set_option maxRecDepth 65536 in
theorem w_runnable : about1.curStatus? = some .runnable := by decide +kernel
set_option maxRecDepth 65536 in
theorem w_alone : about1.alone = true := by decide +kernel
set_option maxRecDepth 65536 in
theorem w_named : about1.methodNamed? x = some theMethod := by decide +kernel
set_option maxRecDepth 65536 in
theorem w_hears : about1.hears theMethod below0 = true := by decide +kernel
set_option maxRecDepth 65536 in
theorem w_ripe : about1.ripe theMethod args0 below0 = true := by decide +kernel
theorem w_running : about1.status = .running := rfl
set_option maxRecDepth 65536 in
theorem w_room : about1.hasRoom e0.platform room_1 = true :=
  launch0.hasRoom_least _ room_1 (by decide +kernel) (by decide +kernel) (by decide +kernel) (by decide +kernel) (by decide +kernel) (by decide +kernel)
theorem allAtoms_all (ts : List Jvm.Cond) (a : Array Jvm.Value) (st : Jvm.State) : (allAtoms ts).before a st = ts.all (fun c => c.before a st) := by
  induction ts with
  | nil => rfl
  | cons c t ih =>
    show (Jvm.Cond.and c (allAtoms t)).before a st = _
    rw [Jvm.Cond.before_and, ih, List.all_cons]
def words1 : List Jvm.Cond := Jvm.Cond.code x code maxLocals ret :: tables_1
/-- a 'code' word, met by the world's own term for the bytes: nothing is compared byte by byte -/
theorem code_word {y : MethodName} {bytes : ByteArray} {mx : Nat} {rt : Option FieldType} {a : Array Value} {s : State} {m : MethodId} {meth : Method} {c : Code} (h1 : s.methodNamed? y = some m) (h2 : s.vm.method? m = some meth) (h3 : meth.code = some c) (h4 : c.code = bytes)
    (h5 : (c.maxLocals == mx && c.exceptionTable.isEmpty && decide (c.maxStack ≤ mostOperands) && decide (meth.sig.returnType = rt) && !meth.locks && decide (parseMethodDescriptor y.desc = some meth.sig)) = true) : (Jvm.Cond.code y bytes mx rt).before a s = true := by
  simp only [Bool.and_eq_true, beq_iff_eq, Bool.not_eq_true', decide_eq_true_eq] at h5
  obtain ⟨⟨⟨⟨⟨g1, g2⟩, g3⟩, g4⟩, g5⟩, g6⟩ := h5
  simp [Cond.before, Cond.holds, Cond.value, h1, h2, h3, h4, g1, g2, g3, g4, g5, g6]
def isCode : Jvm.Cond → Bool
  | .code _ _ _ _ => true
  | _ => false
theorem all_split {L : List Jvm.Cond} {P : Jvm.Cond → Bool} (h1 : L.all (fun c => isCode c || P c) = true) (h2 : ∀ c ∈ L.filter isCode, P c = true) : L.all P = true := by
  refine List.all_eq_true.mpr fun c hc => ?_
  have h := List.all_eq_true.mp h1 c hc
  rcases Bool.eq_false_or_eq_true (isCode c) with hi | hi
  · exact h2 c (List.mem_filter.mpr ⟨hc, hi⟩)
  · simpa [hi] using h
set_option maxRecDepth 65536 in
theorem w_c0 : (Jvm.Cond.code x code maxLocals ret).before args0 about1 = true := code_word (m := ⟨1, 1⟩) (meth := k1m1) (c := k1c1) (by decide +kernel) rfl rfl rfl (by decide +kernel)
set_option maxRecDepth 65536 in
theorem w_c1 : (Jvm.Cond.code ({ cls := "dev/driftline/Sample$Squares", name := "<init>", desc := "()V" } : Jvm.MethodName) prog_34_method_1_code (1 : Nat) (Option.none : Option Jvm.ClassFile.FieldType)).before args0 about1 = true := code_word (m := ⟨2, 0⟩) (meth := k2m0) (c := k2c0) (by decide +kernel) rfl rfl rfl (by decide +kernel)
set_option maxRecDepth 65536 in
theorem w_c2 : (Jvm.Cond.code ({ cls := "java/lang/Object", name := "<init>", desc := "()V" } : Jvm.MethodName) object_method_1_code (1 : Nat) (Option.none : Option Jvm.ClassFile.FieldType)).before args0 about1 = true := code_word (m := ⟨0, 0⟩) (meth := k0m0) (c := k0c0) (by decide +kernel) rfl rfl rfl (by decide +kernel)
set_option maxRecDepth 65536 in
theorem w_c3 : (Jvm.Cond.code ({ cls := "dev/driftline/Sample$Squares", name := "add", desc := "(D)V" } : Jvm.MethodName) prog_34_method_2_code (11 : Nat) (Option.none : Option Jvm.ClassFile.FieldType)).before args0 about1 = true := code_word (m := ⟨2, 1⟩) (meth := k2m1) (c := k2c1) (by decide +kernel) rfl rfl rfl (by decide +kernel)
set_option maxRecDepth 65536 in
theorem w_c4 : (Jvm.Cond.code ({ cls := "dev/driftline/Sample$Squares", name := "count", desc := "()J" } : Jvm.MethodName) prog_34_method_3_code (1 : Nat) (Option.some Jvm.ClassFile.FieldType.long)).before args0 about1 = true := code_word (m := ⟨2, 2⟩) (meth := k2m2) (c := k2c2) (by decide +kernel) rfl rfl rfl (by decide +kernel)
set_option maxRecDepth 65536 in
theorem w_c5 : (Jvm.Cond.code ({ cls := "dev/driftline/Sample$Squares", name := "sum", desc := "()D" } : Jvm.MethodName) prog_34_method_4_code (1 : Nat) (Option.some Jvm.ClassFile.FieldType.double)).before args0 about1 = true := code_word (m := ⟨2, 3⟩) (meth := k2m3) (c := k2c3) (by decide +kernel) rfl rfl rfl (by decide +kernel)
def codes1 : List Jvm.Cond := [Jvm.Cond.code x code maxLocals ret, Jvm.Cond.code ({ cls := "dev/driftline/Sample$Squares", name := "<init>", desc := "()V" } : Jvm.MethodName) prog_34_method_1_code (1 : Nat) (Option.none : Option Jvm.ClassFile.FieldType), Jvm.Cond.code ({ cls := "java/lang/Object", name := "<init>", desc := "()V" } : Jvm.MethodName) object_method_1_code (1 : Nat) (Option.none : Option Jvm.ClassFile.FieldType), Jvm.Cond.code ({ cls := "dev/driftline/Sample$Squares", name := "add", desc := "(D)V" } : Jvm.MethodName) prog_34_method_2_code (11 : Nat) (Option.none : Option Jvm.ClassFile.FieldType), Jvm.Cond.code ({ cls := "dev/driftline/Sample$Squares", name := "count", desc := "()J" } : Jvm.MethodName) prog_34_method_3_code (1 : Nat) (Option.some Jvm.ClassFile.FieldType.long), Jvm.Cond.code ({ cls := "dev/driftline/Sample$Squares", name := "sum", desc := "()D" } : Jvm.MethodName) prog_34_method_4_code (1 : Nat) (Option.some Jvm.ClassFile.FieldType.double)]
set_option maxRecDepth 65536 in
theorem codes_eq : words1.filter isCode = codes1 := rfl
theorem w_codes : ∀ c ∈ words1.filter isCode, c.before args0 about1 = true := by
  rw [codes_eq]
  intro c hc
  simp only [codes1, List.mem_cons, List.not_mem_nil, or_false] at hc
  rcases hc with rfl | rfl | rfl | rfl | rfl | rfl
  · exact w_c0
  · exact w_c1
  · exact w_c2
  · exact w_c3
  · exact w_c4
  · exact w_c5
set_option maxRecDepth 65536 in
theorem w_t1 : (words1.take 24).all (fun c => isCode c || c.before args0 about1) = true := by decide +kernel
set_option maxRecDepth 65536 in
theorem w_t2 : (words1.drop 24).all (fun c => isCode c || c.before args0 about1) = true := by decide +kernel
theorem w_tables : (allAtoms (Jvm.Cond.code x code maxLocals ret :: tables_1)).before args0 about1 = true := by
  rw [allAtoms_all]
  show words1.all (fun c => c.before args0 about1) = true
  refine all_split ?_ w_codes
  rw [← List.take_append_drop 24 words1, List.all_append, w_t1, w_t2]
  rfl
set_option maxRecDepth 65536 in
theorem w_case : (Jvm.Cond.and given_1 narrow_1).before args0 about1 = true := by decide +kernel
theorem w_applies : (headSpec (Jvm.Cond.code x code maxLocals ret :: tables_1) room_1).applies x e0.platform about1 = true :=
  (Spec.applies_iff w_frames).mpr ⟨w_running, w_runnable, w_alone, w_named, w_hears, w_ripe, w_room, w_tables⟩
theorem atStart : AtStart classFile x code maxLocals ret World_1 tables_1 room_1 Calls_1 rest_1 Pre_1 launch0 p0 e0 about1 theMethod args0 below0 :=
  ⟨lists_1, trivial, launch0.admits_env _ _ _, launch0.least_env, fairChoices_fair.cas, fairChoices_fair.clock, w_frames, w_args, w_heap, w_applies, trivial, trivial, w_case⟩
end start1
theorem witness_1 : WitnessClaimed_1 := ⟨start1.p0, start1.e0, start1.about1, start1.theMethod, start1.args0, start1.below0, start1.atStart⟩
end Jvm.Pilot.@@N@@
