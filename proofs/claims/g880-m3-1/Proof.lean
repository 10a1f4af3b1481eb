import JvmDerived
import JvmDerived.Pilot.@@N@@Statement
import JvmDerived.Pilot.@@N@@Code
set_option linter.unusedVariables false
set_option linter.unusedSimpArgs false
namespace Jvm.RoadKit
open Sem ClassFile Op Lib Jvm.Stand Jvm.Free Jvm.LawKit
section New
variable {p : Program} {l : Launch} {e : Env} {R : Room} {s : State} {m : MethodId} {args : Array Value} {below : List Frame} {meth : Method} {c : Code} {T : State} {locs : List Loc} {cells slots : Nat}
theorem retI (X : Stand p l e R s m args below meth c T locs cells slots) (hx : p.tables.exec = Jvm.exec) {pc : Nat} {Ls : Array Slot} {z : Int32} {rest : List Value} (hret : meth.sig.returnType = some .int) (hd : decode c.code pc = .ok (.ireturn, 1)) {fs : List Frame}
    (hl : ∀ (f : JFrame) (acts : List Action), f.method = m → f.locked = none → f.entered = [] → (doReturn e (T.setTop f) acts (some (.int z))).1 = T.setFrames fs) : Steps p.tables e below (T.setTop (mkF m pc Ls (.int z :: rest))) (T.setFrames fs) := by
  have hm' : T.vm.method? m = some meth := X.method'
  have hn : narrow .int (.int z) = .int z := rfl
  show Steps p.tables e below (T.setTop { method := m, pc := pc, locals := Ls, stack := _ :: rest, locked := none }) _
  jvm_step X.here [X.here.top, hx, hd, hm', hret, hn]
  first | (intro acts; rw [hl _ acts rfl rfl rfl]) | rw [hl _ _ rfl rfl rfl]
  exact Steps.refl _
end New
end Jvm.RoadKit
namespace Jvm.FP.Core
theorem own_nearest (x d : Nat) (h : 0 < d) : nearest (x * d) d = x := by
  unfold nearest
  rw [Nat.mul_mod_left, if_pos (by omega), Nat.mul_div_cancel _ h]
theorem own_log2_mul (c m : Nat) (h : c ≠ 0) : (c * 2 ^ m).log2 = c.log2 + m := by
  have hp : 0 < 2 ^ m := Nat.pow_pos (by decide)
  rw [Nat.log2_eq_iff (Nat.mul_ne_zero h (Nat.ne_of_gt hp))]
  have h1 : 2 ^ c.log2 ≤ c := Nat.log2_self_le h
  have h2 : c < 2 ^ (c.log2 + 1) := Nat.lt_log2_self
  constructor
  · rw [Nat.pow_add]; exact Nat.mul_le_mul_right _ h1
  · calc c * 2 ^ m < 2 ^ (c.log2 + 1) * 2 ^ m := Nat.mul_lt_mul_of_pos_right h2 hp
      _ = 2 ^ (c.log2 + m + 1) := by rw [← Nat.pow_add]; congr 1; omega
theorem own_log2_le (c : Nat) (h : c < 2 ^ 53) : c.log2 ≤ 52 := by
  by_cases h0 : c = 0
  · subst h0; decide
  · have := (Nat.log2_lt h0 (k := 53)).mpr h; omega
def own_NF (s : Bool) (c : Nat) (q : Int) : Datum := .fin s (c * 2 ^ (52 - c.log2)) ((c.log2 : Int) + q - 52)
theorem own_n_lo (c : Nat) (h0 : c ≠ 0) (h : c < 2 ^ 53) : 2 ^ 52 ≤ c * 2 ^ (52 - c.log2) ∧ c * 2 ^ (52 - c.log2) < 2 ^ 53 := by
  have hl := own_log2_le c h
  have h1 : 2 ^ c.log2 ≤ c := Nat.log2_self_le h0
  have h2 : c < 2 ^ (c.log2 + 1) := Nat.lt_log2_self
  constructor
  · calc 2 ^ 52 = 2 ^ c.log2 * 2 ^ (52 - c.log2) := by rw [← Nat.pow_add]; congr 1; omega
      _ ≤ c * 2 ^ (52 - c.log2) := Nat.mul_le_mul_right _ h1
  · calc c * 2 ^ (52 - c.log2) < 2 ^ (c.log2 + 1) * 2 ^ (52 - c.log2) := Nat.mul_lt_mul_of_pos_right h2 (Nat.pow_pos (by decide))
      _ = 2 ^ 53 := by rw [← Nat.pow_add]; congr 1; omega
theorem own_round (s : Bool) (c m : Nat) (q : Int) (h0 : c ≠ 0) (h : c < 2 ^ 53) (h1 : -1022 ≤ (c.log2 : Int) + m + q) (h2 : (c.log2 : Int) + m + q ≤ 1023) : round b64 (.fin s (c * 2 ^ m) q) = own_NF s c (q + m) := by
  have hl := own_log2_le c h
  have hn := own_n_lo c h0 h
  have hc0 : c * 2 ^ m ≠ 0 := Nat.mul_ne_zero h0 (Nat.ne_of_gt (Nat.pow_pos (by decide)))
  have hlead : leading (c * 2 ^ m) 1 = (c.log2 : Int) + m := by
    unfold leading
    rw [own_log2_mul c m h0, show Nat.log2 1 = 0 from by decide]
    have hk : ((((c.log2 + m : Nat) : Int)) - ((0 : Nat) : Int)).toNat = c.log2 + m := by omega
    have hk2 : (-(((((c.log2 + m : Nat) : Int)) - ((0 : Nat) : Int)))).toNat = 0 := by omega
    simp only [hk, hk2]
    rw [if_pos]
    · omega
    · rw [Nat.one_mul, Nat.pow_zero, Nat.mul_one, Nat.pow_add]
      exact Nat.mul_le_mul_right _ (Nat.log2_self_le h0)
  have hq : quantum b64 (c * 2 ^ m) 1 q = (c.log2 : Int) + m + q - 52 := by
    unfold quantum
    rw [hlead]
    have e1 : b64.qmin = -1074 := by decide
    have e2 : ((b64.p : Nat) : Int) = 53 := by decide
    rw [e1, e2]
    omega
  show roundRatio b64 s (c * 2 ^ m) 1 q = _
  unfold roundRatio
  rw [if_neg hc0, hq]
  unfold roundAt
  have hnear : nearest (unitsNum (c * 2 ^ m) q ((c.log2 : Int) + m + q - 52)) (unitsDen 1 q ((c.log2 : Int) + m + q - 52)) = c * 2 ^ (52 - c.log2) := by
    unfold unitsNum unitsDen
    by_cases hm : c.log2 + m ≤ 52
    · have e1 : (q - ((c.log2 : Int) + m + q - 52)).toNat = 52 - (c.log2 + m) := by omega
      have e2 : (((c.log2 : Int) + m + q - 52) - q).toNat = 0 := by omega
      rw [e1, e2]
      have := own_nearest (c * 2 ^ m * 2 ^ (52 - (c.log2 + m))) 1 (by decide)
      rw [Nat.mul_one] at this
      rw [Nat.pow_zero, Nat.mul_one, this, Nat.mul_assoc, ← Nat.pow_add]
      congr 2; omega
    · have e1 : (q - ((c.log2 : Int) + m + q - 52)).toNat = 0 := by omega
      have e2 : (((c.log2 : Int) + m + q - 52) - q).toNat = c.log2 + m - 52 := by omega
      rw [e1, e2, Nat.pow_zero, Nat.mul_one, Nat.one_mul]
      have : c * 2 ^ m = (c * 2 ^ (52 - c.log2)) * 2 ^ (c.log2 + m - 52) := by
        rw [Nat.mul_assoc, ← Nat.pow_add]; congr 2; omega
      rw [this]
      exact own_nearest _ _ (Nat.pow_pos (by decide))
  rw [hnear]
  unfold settle
  rw [if_pos (show c * 2 ^ (52 - c.log2) < 2 ^ b64.p from hn.2)]
  unfold bound
  rw [if_pos (show (c.log2 : Int) + m + q - 52 ≤ b64.qmax from by rw [show b64.qmax = 971 from by decide]; omega)]
  unfold own_NF
  congr 1
  omega
theorem own_round0 (s : Bool) (q : Int) : round b64 (.fin s 0 q) = .fin s 0 (-1074) := by
  show roundRatio b64 s 0 1 q = _
  unfold roundRatio
  rw [if_pos rfl]; rfl
theorem own_dec (n : Nat) (Q : Int) (h1 : 2 ^ 52 ≤ n) (h2 : n < 2 ^ 53) (h3 : -1074 ≤ Q) (h4 : Q ≤ 971) : encode b64 (.fin false n Q) < 2 ^ 63 ∧ decode b64 (encode b64 (.fin false n Q)) = .fin false n Q := by
  have e1 : b64.qmin = -1074 := by decide
  have e2 : b64.tails = 4503599627370496 := by decide
  have hE : encode b64 (.fin false n Q) = ((Q + 1074).toNat + 1) * 4503599627370496 + (n - 4503599627370496) := by
    show (if n < b64.tails then assemble b64 false 0 n else assemble b64 false ((Q - b64.qmin).toNat + 1) (n - b64.tails)) = _
    rw [e1, e2, if_neg (by omega)]
    show (0 * b64.exps + ((Q - -1074).toNat + 1)) * b64.tails + (n - 4503599627370496) = _
    rw [e2, Nat.zero_mul, Nat.zero_add, show Q - -1074 = Q + 1074 from by omega]
  have hb : ((Q + 1074).toNat + 1) ≤ 2046 := by omega
  have hT : fieldT b64 (((Q + 1074).toNat + 1) * 4503599627370496 + (n - 4503599627370496)) = n - 4503599627370496 := by
    unfold fieldT
    rw [show b64.tails = 4503599627370496 from by decide]
    omega
  have hF : fieldE b64 (((Q + 1074).toNat + 1) * 4503599627370496 + (n - 4503599627370496)) = (Q + 1074).toNat + 1 := by
    unfold fieldE
    rw [show b64.tails = 4503599627370496 from by decide, show b64.exps = 2048 from by decide]
    omega
  have hS : fieldS b64 (((Q + 1074).toNat + 1) * 4503599627370496 + (n - 4503599627370496)) = false := by
    unfold fieldS
    rw [show b64.tails = 4503599627370496 from by decide, show b64.exps = 2048 from by decide]
    have : (((Q + 1074).toNat + 1) * 4503599627370496 + (n - 4503599627370496)) / 4503599627370496 / 2048 % 2 = 0 := by omega
    rw [this]; rfl
  rw [hE]
  refine ⟨by omega, ?_⟩
  show (if fieldE b64 _ = b64.exps - 1 then (if fieldT b64 _ = 0 then Datum.inf (fieldS b64 _) else Datum.nan) else if fieldE b64 _ = 0 then Datum.fin (fieldS b64 _) (fieldT b64 _) b64.qmin else Datum.fin (fieldS b64 _) (b64.tails + fieldT b64 _) (b64.qmin + ((fieldE b64 _ : Int) - 1))) = _
  rw [hT, hF, hS, show b64.exps = 2048 from by decide, if_neg (by omega), if_neg (by omega), e2, e1]
  have x1 : 4503599627370496 + (n - 4503599627370496) = n := by omega
  have x2 : (-1074 : Int) + ((((Q + 1074).toNat + 1 : Nat) : Int) - 1) = Q := by omega
  rw [x1, x2]

def own_V (k : Nat) (q : Int) : Datum := if k = 0 then .fin false 0 (-1074) else own_NF false k q
theorem own_Vdec (k : Nat) (q : Int) (h : k < 2 ^ 53) (h1 : -1022 ≤ q) (h2 : q ≤ 971) : encode b64 (own_V k q) < 2 ^ 63 ∧ decode b64 (encode b64 (own_V k q)) = own_V k q := by
  unfold own_V
  by_cases h0 : k = 0
  · rw [if_pos h0]; decide
  · rw [if_neg h0]
    have hn := own_n_lo k h0 h
    have hl := own_log2_le k h
    exact own_dec _ _ hn.1 hn.2 (by omega) (by omega)
theorem own_Vround (k m : Nat) (q : Int) (h : k < 2 ^ 53) (h1 : -1022 ≤ q + m) (h2 : q + m ≤ 971) : round b64 (.fin false (k * 2 ^ m) q) = own_V k (q + m) := by
  unfold own_V
  by_cases h0 : k = 0
  · subst h0; rw [if_pos rfl, Nat.zero_mul]; exact own_round0 _ _
  · rw [if_neg h0]
    have hl := own_log2_le k h
    exact own_round false k m q h0 h (by omega) (by omega)
theorem own_toNat (n : Nat) (h : n < 2 ^ 63) : (UInt64.ofNat n).toNat = n := by
  rw [UInt64.toNat_ofNat']; exact Nat.mod_eq_of_lt (by omega)
theorem own_l2d (K : Int64) (h1 : 0 ≤ K.toInt) (h2 : K.toInt < 2 ^ 53) : l2d K = UInt64.ofNat (encode b64 (own_V K.toInt.toNat 0)) := by
  show UInt64.ofNat (encode b64 (round b64 (.fin (decide (K.toInt < 0)) K.toInt.natAbs 0))) = _
  have e1 : decide (K.toInt < 0) = false := by simp; omega
  have e2 : K.toInt.natAbs = K.toInt.toNat * 2 ^ 0 := by omega
  rw [e1, e2, own_Vround _ 0 0 (by omega) (by decide) (by decide)]
  rfl
theorem own_mulV (k : Nat) (q : Int) (c : UInt64) (r : Int) (hc : decode b64 c.toNat = .fin false (2 ^ 52) r) (h : k < 2 ^ 53) (h1 : -1022 ≤ q) (h2 : q ≤ 971) (h3 : -1022 ≤ q + r + 52) (h4 : q + r + 52 ≤ 971) : dmul (UInt64.ofNat (encode b64 (own_V k q))) c = UInt64.ofNat (encode b64 (own_V k (q + r + 52))) := by
  have hd := own_Vdec k q h h1 h2
  show UInt64.ofNat (encode b64 (round b64 (exactProduct (decode b64 (UInt64.ofNat (encode b64 (own_V k q))).toNat) (decode b64 c.toNat)))) = _
  rw [own_toNat _ hd.1, hd.2, hc]
  congr 2
  by_cases h0 : k = 0
  · have e : ∀ q', own_V k q' = .fin false 0 (-1074) := fun q' => by unfold own_V; rw [if_pos h0]
    rw [e, e]
    show round b64 (.fin false (0 * 2 ^ 52) _) = _
    rw [Nat.zero_mul]; exact own_round0 _ _
  · have e : ∀ q', own_V k q' = own_NF false k q' := fun q' => by unfold own_V; rw [if_neg h0]
    rw [e]
    show round b64 (.fin false (k * 2 ^ (52 - k.log2) * 2 ^ 52) ((k.log2 : Int) + q - 52 + r)) = _
    have hl := own_log2_le k h
    rw [Nat.mul_assoc, ← Nat.pow_add, own_Vround k (52 - k.log2 + 52) _ h (by omega) (by omega)]
    congr 1
    omega
theorem own_c1 : decode b64 (0x3CA0000000000000 : UInt64).toNat = .fin false (2 ^ 52) (-105) := by decide +kernel
theorem own_c2 : decode b64 (0x4340000000000000 : UInt64).toNat = .fin false (2 ^ 52) 1 := by decide +kernel
theorem own_cone : decode b64 (0x3FF0000000000000 : UInt64).toNat = .fin false (2 ^ 52) (-52) := by decide +kernel
theorem own_czero : decode b64 (0 : UInt64).toNat = .fin false 0 (-1074) := by decide +kernel
theorem own_ge0 (k : Nat) (h : k < 2 ^ 53) : dcmp (UInt64.ofNat (encode b64 (own_V k (-53)))) 0 = some .gt ∨ dcmp (UInt64.ofNat (encode b64 (own_V k (-53)))) 0 = some .eq := by
  have hd := own_Vdec k (-53) h (by decide) (by decide)
  have e0 : dcmp (UInt64.ofNat (encode b64 (own_V k (-53)))) 0 = order (own_V k (-53)) (.fin false 0 (-1074)) := by
    show order (decode b64 (UInt64.ofNat (encode b64 (own_V k (-53)))).toNat) (decode b64 (0 : UInt64).toNat) = _
    rw [own_toNat _ hd.1, hd.2, own_czero]
  rw [e0]
  unfold own_V
  by_cases h0 : k = 0
  · rw [if_pos h0]; right; decide
  · rw [if_neg h0]; left
    show some (compare (signed false (inUnits (k * 2 ^ (52 - k.log2)) ((k.log2 : Int) + -53 - 52) _)) (signed false (inUnits 0 (-1074) _))) = _
    congr 1
    have hz : signed false (inUnits 0 (-1074) (min ((k.log2 : Int) + -53 - 52) (-1074))) = 0 := by
      show ((0 * 2 ^ _ : Nat) : Int) = 0
      rw [Nat.zero_mul]; rfl
    rw [hz]
    have hp : (0 : Int) < signed false (inUnits (k * 2 ^ (52 - k.log2)) ((k.log2 : Int) + -53 - 52) (min ((k.log2 : Int) + -53 - 52) (-1074))) := by
      show (0 : Int) < ((k * 2 ^ (52 - k.log2) * 2 ^ _ : Nat) : Int)
      have : 0 < k * 2 ^ (52 - k.log2) * 2 ^ (((k.log2 : Int) + -53 - 52) - (min ((k.log2 : Int) + -53 - 52) (-1074))).toNat := Nat.mul_pos (Nat.mul_pos (Nat.pos_of_ne_zero h0) (Nat.pow_pos (by decide))) (Nat.pow_pos (by decide))
      omega
    exact Int.compare_eq_gt.mpr hp
theorem own_lt1 (k : Nat) (h : k < 2 ^ 53) : dcmp (UInt64.ofNat (encode b64 (own_V k (-53)))) 0x3FF0000000000000 = some .lt := by
  have hd := own_Vdec k (-53) h (by decide) (by decide)
  have e0 : dcmp (UInt64.ofNat (encode b64 (own_V k (-53)))) 0x3FF0000000000000 = order (own_V k (-53)) (.fin false (2 ^ 52) (-52)) := by
    show order (decode b64 (UInt64.ofNat (encode b64 (own_V k (-53)))).toNat) (decode b64 (0x3FF0000000000000 : UInt64).toNat) = _
    rw [own_toNat _ hd.1, hd.2, own_cone]
  rw [e0]
  unfold own_V
  by_cases h0 : k = 0
  · rw [if_pos h0]; decide +kernel
  · rw [if_neg h0]
    have hl := own_log2_le k h
    have hn := own_n_lo k h0 h
    show some (compare (signed false (inUnits (k * 2 ^ (52 - k.log2)) ((k.log2 : Int) + -53 - 52) (min ((k.log2 : Int) + -53 - 52) (-52)))) (signed false (inUnits (2 ^ 52) (-52) (min ((k.log2 : Int) + -53 - 52) (-52))))) = _
    have hm : min ((k.log2 : Int) + -53 - 52) (-52) = (k.log2 : Int) + -53 - 52 := by omega
    rw [hm]
    have u1 : inUnits (k * 2 ^ (52 - k.log2)) ((k.log2 : Int) + -53 - 52) ((k.log2 : Int) + -53 - 52) = k * 2 ^ (52 - k.log2) := by
      unfold inUnits; rw [Int.sub_self]; simp
    have u2 : 2 ^ 53 ≤ inUnits (2 ^ 52) (-52) ((k.log2 : Int) + -53 - 52) := by
      unfold inUnits
      have : (-52 - ((k.log2 : Int) + -53 - 52)).toNat = 53 - k.log2 := by omega
      rw [this, ← Nat.pow_add]
      exact Nat.pow_le_pow_right (by decide) (by omega)
    rw [u1]
    congr 1
    apply Int.compare_eq_lt.mpr
    show ((k * 2 ^ (52 - k.log2) : Nat) : Int) < ((inUnits (2 ^ 52) (-52) ((k.log2 : Int) + -53 - 52) : Nat) : Int)
    omega

end Jvm.FP.Core
namespace Jvm.Pilot.@@N@@
open Jvm Jvm.ClassFile Sem Op Lib Jvm.Free Jvm.Stand Jvm.LawKit Jvm.RoadKit Bundle Jvm.Pilot.@@N@@.Jvm.D
theorem own_nm {a b : Addr} {l : List Addr} (h : a ≠ b) (r : a ∉ l) : a ∉ b :: l := fun q => (List.mem_cons.mp q).elim h r
theorem own_n0 {a : Addr} : a ∉ ([] : List Addr) := fun q => nomatch q
theorem own_nst {Z : State} {h : Heap} {a : Addr} {C : String} (F : Exa Z h a C) : ∃ c : Cell, h[a]? = some c ∧ c.vm.isStatics = false := by obtain ⟨c, k, h1, -, -, h4, -⟩ := F; exact ⟨c, h1, h4⟩
theorem own_nstV {Z : State} {h : Heap} {a : Addr} {k : ClassId} {ty : FieldType} {z : Int32} {vs : List Value} {dv : Value} (F : Arv Z h a k ty z vs dv) : ∃ c : Cell, h[a]? = some c ∧ c.vm.isStatics = false := by
  obtain ⟨c, A, -⟩ := F
  refine ⟨c, A.1, ?_⟩
  have q := A.2.1.1
  cases e : c.vm <;> first | rfl | exact absurd e (q _)
theorem own_q0 {h : Heap} : ∀ x ∈ ([] : List Addr), ∃ c : Cell, h[x]? = some c ∧ c.vm.isStatics = false := fun _ q => nomatch q
theorem own_qc {h : Heap} {a : Addr} {l : List Addr} (p : ∃ c : Cell, h[a]? = some c ∧ c.vm.isStatics = false) (r : ∀ x ∈ l, ∃ c : Cell, h[x]? = some c ∧ c.vm.isStatics = false) : ∀ x ∈ a :: l, ∃ c : Cell, h[x]? = some c ∧ c.vm.isStatics = false := fun x q => (List.mem_cons.mp q).elim (fun e => e ▸ p) (r x)
theorem own_sta_keep {Z : State} {h h' : Heap} {ws : List Addr} {C n d : String} {v : Value} (F : Sta Z h C n d v) (K : Keep h h' ws) (q : ∀ x ∈ ws, ∃ c : Cell, h[x]? = some c ∧ c.vm.isStatics = false) : Sta Z h' C n d v := by
  obtain ⟨cf, i, k, f, st, cell, h1, h2, h3, h4, h5, h6, h7⟩ := F
  refine ⟨cf, i, k, f, st, cell, h1, h2, h3, h4, K.2.1 _ _ h5 fun z => ?_, h6, h7⟩
  obtain ⟨c, g1, g2⟩ := q _ z
  cases h5.symm.trans g1; rw [h6] at g2; cases g2
theorem own_eqI {a b : Term} {args : Array Value} {first s : State} {o : Option Outcome} {idx : List Nat} {k : Int32} (h : (Jvm.Cond.eq a b).value args first o s idx = some true) (hb : b.eval args first o idx s = some (.int k)) : a.eval args first o idx s = some (.int k) := by
  obtain ⟨x, y, ha, hb', K, K'⟩ := cmp_v (Or.inl h)
  cases hb.symm.trans hb'
  obtain ⟨z, rfl⟩ := K'
  simp [Cond.value, ha, hb] at h
  rw [ha, h]
theorem own_eqR {a b : Term} {args : Array Value} {first s : State} {o : Option Outcome} {idx : List Nat} {k : Addr} (h : (Jvm.Cond.eq a b).value args first o s idx = some true) (hb : b.eval args first o idx s = some (.ref k)) : a.eval args first o idx s = some (.ref k) := by
  obtain ⟨x, y, ha, hb', K, K'⟩ := cmp_v (Or.inl h)
  cases hb.symm.trans hb'
  have q := gotT (eq_R ha hb K'.2 rfl) h
  rw [ha, q]
theorem d1_0 : decode prog_11_method_1_code 0 = .ok (.aload_n 0, 1) := by decide +kernel
theorem d1_1 : decode prog_11_method_1_code 1 = .ok (.invokespecial 1, 3) := by decide +kernel
theorem d1_4 : decode prog_11_method_1_code 4 = .ok (.aload_n 0, 1) := by decide +kernel
theorem d1_5 : decode prog_11_method_1_code 5 = .ok (.lload_n 1, 1) := by decide +kernel
theorem d1_6 : decode prog_11_method_1_code 6 = .ok (.putfield 7, 3) := by decide +kernel
theorem d1_9 : decode prog_11_method_1_code 9 = .ok (.return_, 1) := by decide +kernel
theorem pn_1 : plainName "com/example/switchyard/switchyard/model/SeededRandom" = true := by first | (simp [plainName, overriddenIn]; done) | decide +kernel
theorem ef_1 (m : MethodId) (x0 : Addr) (x1 : Int64) : entryFrame m #[(.ref x0), (.long x1)] 3 = mkF m 0 #[.val (.ref x0), .val (.long x1), .second] [] := by first | (simp [entryFrame, mkF, argsToLocals, Value.category]; done) | rfl
def Q_rm1 (Z : State) (a1 : Addr) (q2 : Int64) (w_state_a1 : Int64) (h0 : Heap) (n0 : Nat) (v : Option Value) (h : Heap) (L : List Loc) : Prop := v = none ∧ Fr n0 L ∧ Keep h0 h [a1] ∧ Exa Z h a1 "com/example/switchyard/switchyard/model/SeededRandom" ∧ Fld Z h a1 "com/example/switchyard/switchyard/model/SeededRandom" "state" "J" (.long q2)
set_option maxRecDepth 65536 in
set_option maxHeartbeats 40000000 in
theorem rm1 (l : Launch) (Z : State) (a0 : Array Value) (hw : ∀ d ∈ tables_1, d.before a0 Z = true) (ws : List Jvm.Cond) (a1 : Addr) (q2 : Int64) (w_state_a1 : Int64) (h0 : Heap) (n0 : Nat) (Z0 : n0 ≤ h0.size) (E_a1 : Exa Z h0 a1 "com/example/switchyard/switchyard/model/SeededRandom") (F_state_a1 : Fld Z h0 a1 "com/example/switchyard/switchyard/model/SeededRandom" "state" "J" (.long w_state_a1)) (g_a1 : n0 ≤ a1) :
    MetFree l (⟨"com/example/switchyard/switchyard/model/SeededRandom", "<init>", "(J)V"⟩ : MethodName) (head1 (Jvm.Cond.code (⟨"com/example/switchyard/switchyard/model/SeededRandom", "<init>", "(J)V"⟩ : MethodName) prog_11_method_1_code 3 none :: ws) ({ frames := 1, cells := 0, slots := 0, locals := 12 } : Room)) (fun a U => a = #[(.ref a1), (.long q2)] ∧ Z.Warmed39 U.vm ∧ U.heap = h0) (fun _ _ _ _ _ => True) (fun _ U o U' => ∃ v L, o = .returned v ∧ Q_rm1 Z a1 q2 w_state_a1 h0 n0 v U'.heap L ∧ FrameEnd U o U' L ({ frames := 1, cells := 0, slots := 0, locals := 12 } : Room).cells ({ frames := 1, cells := 0, slots := 0, locals := 12 } : Room).slots) := by
  refine MetFree.of_bodySF (plainFor_of_name pn_1) hisR ?_
  intro p e s m args below meth c s₁ Bd hml0 hP hK
  obtain ⟨rfl, hZ, hh⟩ := hP
  have hx := Bd.exec
  have hby := Bd.bytes
  have hml : c.maxLocals = 3 := hml0
  have hown : s.vm.findClass "com/example/switchyard/switchyard/model/SeededRandom" = some m.cls := findClass_of_methodNamed Bd.named
  have hnm := (name_of_methodNamed Bd.named Bd.method).1
  have X0 : Stand p l e ({ frames := 1, cells := 0, slots := 0, locals := 12 } : Room) s m #[(.ref a1), (.long q2)] below meth c s₁ [] 0 0 := Stand.of_body Bd
  have e0 : s₁.heap = h0 := by rw [← hh, Bd.state]; rfl
  have N0 := Fr.nil n0
  have pre0 : ∀ t, Steps p.tables e below (s₁.setTop (mkF m 0 #[.val (.ref a1), .val (.long q2), .second] [])) t → Steps p.tables e below (s₁.setTop (entryFrame m #[(.ref a1), (.long q2)] 3)) t := fun t k => castTop (ef_1 m a1 q2) k
  obtain ⟨T3, X3, e3, st3⟩ := initO X0 hx hZ hown (hw _ (List.mem_of_getElem? (i := 6) rfl)) (hw _ (List.mem_of_getElem? (i := 7) rfl)) (hw _ (List.mem_of_getElem? (i := 8) rfl)) e0 (g := (mkF m 1 #[.val (.ref a1), .val (.long q2), .second] [(.ref a1)])) rfl (by rw [hml]; rfl) rfl (hb hby d1_1) (by decide) (W := 0) (by show 2 * 0 + _ ≤ _; exact Nat.le_of_eq rfl) (by decide)
  obtain ⟨T4, h4, X4, e4, W4, st4⟩ := putF X3 hx hZ hown (host := "") (Or.inl (hw _ (List.mem_of_getElem? (i := 9) rfl))) Via.refl e3 F_state_a1 E_a1 (Or.inl (hw _ (List.mem_of_getElem? (i := 10) rfl))) (hw _ (List.mem_of_getElem? (i := 1) rfl)) (ty := .long) (by decide) rfl rfl (g := (mkF m 6 #[.val (.ref a1), .val (.long q2), .second] [(.long q2), (.ref a1)])) rfl rfl (hb hby d1_6)
  have Fw4 := F_state_a1.same W4
  have N4 := Fr.snoc X4 N0 g_a1
  have f0 := (E_a1.wr W4)
  obtain ⟨fs, hr, hrun, hended, hW, hsame⟩ := X4.leave (v := none) (fun _ => rfl)
  refine ⟨_, _, pre0 _ ?_, hrun, hended, _, _, rfl, ?_, ⟨_, rfl⟩, hW, hsame.mono (by decide) (by decide)⟩
  · show Steps p.tables e below (s₁.setTop (mkF m 0 #[.val (.ref a1), .val (.long q2), .second] [])) _
    refine XS.aloadN X0.here hx rfl (hb hby d1_0) rfl rfl ?_
    show Steps p.tables e below (s₁.setTop (mkF m 1 #[.val (.ref a1), .val (.long q2), .second] [(.ref a1)])) _
    refine st3 _ ?_
    show Steps p.tables e below (T3.setTop (mkF m 4 #[.val (.ref a1), .val (.long q2), .second] [])) _
    refine XS.aloadN X3.here hx rfl (hb hby d1_4) rfl rfl ?_
    show Steps p.tables e below (T3.setTop (mkF m 5 #[.val (.ref a1), .val (.long q2), .second] [(.ref a1)])) _
    refine XS.lloadN X3.here hx rfl (hb hby d1_5) rfl ?_
    show Steps p.tables e below (T3.setTop (mkF m 6 #[.val (.ref a1), .val (.long q2), .second] [(.long q2), (.ref a1)])) _
    refine st4 _ ?_
    show Steps p.tables e below (T4.setTop (mkF m 9 #[.val (.ref a1), .val (.long q2), .second] [])) _
    exact X4.returnOut hx Bd.returns (hb hby d1_9) hr
  · show Q_rm1 Z a1 q2 w_state_a1 h0 n0 _ T4.heap _
    rw [e4]
    exact ⟨rfl, N4, ((Keep.refl h0 [a1]).wr W4 (Or.inl (List.mem_of_getElem? (i := 0) rfl))), f0, Fw4⟩
def t4_0 (w_state_a1 : Int64) : Int64 := (((w_state_a1 + (-7046029254386353131 : Int64)) ^^^ (((w_state_a1 + (-7046029254386353131 : Int64)).toUInt64 >>> ((30 : Int32) &&& 0x3f).toInt64.toUInt64).toInt64)) * (-4658895280553007687 : Int64))
def t4_1 (w_state_a1 : Int64) : Int64 := (((t4_0 w_state_a1) ^^^ (((t4_0 w_state_a1).toUInt64 >>> ((27 : Int32) &&& 0x3f).toInt64.toUInt64).toInt64)) * (-7723592293110705685 : Int64))
def t4_2 (w_state_a1 : Int64) : Int64 := ((t4_1 w_state_a1) ^^^ (((t4_1 w_state_a1).toUInt64 >>> ((31 : Int32) &&& 0x3f).toInt64.toUInt64).toInt64))
theorem d4_0 : decode prog_11_method_2_code 0 = .ok (.aload_n 0, 1) := by decide +kernel
theorem d4_1 : decode prog_11_method_2_code 1 = .ok (.dup, 1) := by decide +kernel
theorem d4_2 : decode prog_11_method_2_code 2 = .ok (.getfield 7, 3) := by decide +kernel
theorem d4_5 : decode prog_11_method_2_code 5 = .ok (.ldc2_w 13, 3) := by decide +kernel
theorem d4_8 : decode prog_11_method_2_code 8 = .ok (.ladd, 1) := by decide +kernel
theorem d4_9 : decode prog_11_method_2_code 9 = .ok (.putfield 7, 3) := by decide +kernel
theorem d4_12 : decode prog_11_method_2_code 12 = .ok (.aload_n 0, 1) := by decide +kernel
theorem d4_13 : decode prog_11_method_2_code 13 = .ok (.getfield 7, 3) := by decide +kernel
theorem d4_16 : decode prog_11_method_2_code 16 = .ok (.lstore_n 1, 1) := by decide +kernel
theorem d4_17 : decode prog_11_method_2_code 17 = .ok (.lload_n 1, 1) := by decide +kernel
theorem d4_18 : decode prog_11_method_2_code 18 = .ok (.lload_n 1, 1) := by decide +kernel
theorem d4_19 : decode prog_11_method_2_code 19 = .ok (.bipush 30, 2) := by decide +kernel
theorem d4_21 : decode prog_11_method_2_code 21 = .ok (.lushr, 1) := by decide +kernel
theorem d4_22 : decode prog_11_method_2_code 22 = .ok (.lxor, 1) := by decide +kernel
theorem d4_23 : decode prog_11_method_2_code 23 = .ok (.ldc2_w 15, 3) := by decide +kernel
theorem d4_26 : decode prog_11_method_2_code 26 = .ok (.lmul, 1) := by decide +kernel
theorem d4_27 : decode prog_11_method_2_code 27 = .ok (.lstore_n 1, 1) := by decide +kernel
theorem d4_28 : decode prog_11_method_2_code 28 = .ok (.lload_n 1, 1) := by decide +kernel
theorem d4_29 : decode prog_11_method_2_code 29 = .ok (.lload_n 1, 1) := by decide +kernel
theorem d4_30 : decode prog_11_method_2_code 30 = .ok (.bipush 27, 2) := by decide +kernel
theorem d4_32 : decode prog_11_method_2_code 32 = .ok (.lushr, 1) := by decide +kernel
theorem d4_33 : decode prog_11_method_2_code 33 = .ok (.lxor, 1) := by decide +kernel
theorem d4_34 : decode prog_11_method_2_code 34 = .ok (.ldc2_w 17, 3) := by decide +kernel
theorem d4_37 : decode prog_11_method_2_code 37 = .ok (.lmul, 1) := by decide +kernel
theorem d4_38 : decode prog_11_method_2_code 38 = .ok (.lstore_n 1, 1) := by decide +kernel
theorem d4_39 : decode prog_11_method_2_code 39 = .ok (.lload_n 1, 1) := by decide +kernel
theorem d4_40 : decode prog_11_method_2_code 40 = .ok (.lload_n 1, 1) := by decide +kernel
theorem d4_41 : decode prog_11_method_2_code 41 = .ok (.bipush 31, 2) := by decide +kernel
theorem d4_43 : decode prog_11_method_2_code 43 = .ok (.lushr, 1) := by decide +kernel
theorem d4_44 : decode prog_11_method_2_code 44 = .ok (.lxor, 1) := by decide +kernel
theorem d4_45 : decode prog_11_method_2_code 45 = .ok (.lreturn, 1) := by decide +kernel
theorem pn_4 : plainName "com/example/switchyard/switchyard/model/SeededRandom" = true := by first | (simp [plainName, overriddenIn]; done) | decide +kernel
theorem ef_4 (m : MethodId) (x0 : Addr) : entryFrame m #[(.ref x0)] 3 = mkF m 0 #[.val (.ref x0), .unset, .unset] [] := by first | (simp [entryFrame, mkF, argsToLocals, Value.category]; done) | rfl
def Q_rm4 (Z : State) (a1 : Addr) (w_state_a1 : Int64) (h0 : Heap) (n0 : Nat) (v : Option Value) (h : Heap) (L : List Loc) : Prop := v = some (.long (t4_2 w_state_a1)) ∧ Fr n0 L ∧ Keep h0 h [a1] ∧ Exa Z h a1 "com/example/switchyard/switchyard/model/SeededRandom" ∧ Fld Z h a1 "com/example/switchyard/switchyard/model/SeededRandom" "state" "J" (.long (w_state_a1 + (-7046029254386353131 : Int64)))
set_option maxRecDepth 65536 in
set_option maxHeartbeats 40000000 in
theorem rm4 (l : Launch) (Z : State) (a0 : Array Value) (hw : ∀ d ∈ tables_1, d.before a0 Z = true) (ws : List Jvm.Cond) (a1 : Addr) (w_state_a1 : Int64) (h0 : Heap) (n0 : Nat) (Z0 : n0 ≤ h0.size) (F_state_a1 : Fld Z h0 a1 "com/example/switchyard/switchyard/model/SeededRandom" "state" "J" (.long w_state_a1)) (E_a1 : Exa Z h0 a1 "com/example/switchyard/switchyard/model/SeededRandom") (g_a1 : n0 ≤ a1) :
    MetFree l (⟨"com/example/switchyard/switchyard/model/SeededRandom", "nextLong", "()J"⟩ : MethodName) (head1 (Jvm.Cond.code (⟨"com/example/switchyard/switchyard/model/SeededRandom", "nextLong", "()J"⟩ : MethodName) prog_11_method_2_code 3 (some .long) :: ws) ({ frames := 0, cells := 0, slots := 0, locals := 0 } : Room)) (fun a U => a = #[(.ref a1)] ∧ Z.Warmed39 U.vm ∧ U.heap = h0) (fun _ _ _ _ _ => True) (fun _ U o U' => ∃ v L, o = .returned v ∧ Q_rm4 Z a1 w_state_a1 h0 n0 v U'.heap L ∧ FrameEnd U o U' L ({ frames := 0, cells := 0, slots := 0, locals := 0 } : Room).cells ({ frames := 0, cells := 0, slots := 0, locals := 0 } : Room).slots) := by
  refine MetFree.of_bodySF (plainFor_of_name pn_4) hisR ?_
  intro p e s m args below meth c s₁ Bd hml0 hP hK
  obtain ⟨rfl, hZ, hh⟩ := hP
  have hx := Bd.exec
  have hby := Bd.bytes
  have hml : c.maxLocals = 3 := hml0
  have hown : s.vm.findClass "com/example/switchyard/switchyard/model/SeededRandom" = some m.cls := findClass_of_methodNamed Bd.named
  have hnm := (name_of_methodNamed Bd.named Bd.method).1
  have X0 : Stand p l e ({ frames := 0, cells := 0, slots := 0, locals := 0 } : Room) s m #[(.ref a1)] below meth c s₁ [] 0 0 := Stand.of_body Bd
  have e0 : s₁.heap = h0 := by rw [← hh, Bd.state]; rfl
  have N0 := Fr.nil n0
  have pre0 : ∀ t, Steps p.tables e below (s₁.setTop (mkF m 0 #[.val (.ref a1), .unset, .unset] [])) t → Steps p.tables e below (s₁.setTop (entryFrame m #[(.ref a1)] 3)) t := fun t k => castTop (ef_4 m a1) k
  obtain ⟨T2, X2, e2, st2⟩ := getF X0 hx hZ hown (host := "") (Or.inl (hw _ (List.mem_of_getElem? (i := 9) rfl))) Via.refl e0 F_state_a1 (g := (mkF m 2 #[.val (.ref a1), .unset, .unset] [(.ref a1), (.ref a1)])) rfl rfl (hb hby d4_2)
  obtain ⟨T3, h3, X3, e3, W3, st3⟩ := putF X2 hx hZ hown (host := "") (Or.inl (hw _ (List.mem_of_getElem? (i := 9) rfl))) Via.refl e2 F_state_a1 E_a1 (Or.inl (hw _ (List.mem_of_getElem? (i := 10) rfl))) (hw _ (List.mem_of_getElem? (i := 1) rfl)) (ty := .long) (by decide) rfl rfl (g := (mkF m 9 #[.val (.ref a1), .unset, .unset] [(.long (w_state_a1 + (-7046029254386353131 : Int64))), (.ref a1)])) rfl rfl (hb hby d4_9)
  have Fw3 := F_state_a1.same W3
  have N3 := Fr.snoc X3 N0 g_a1
  obtain ⟨T4, X4, e4, st4⟩ := getF X3 hx hZ hown (host := "") (Or.inl (hw _ (List.mem_of_getElem? (i := 9) rfl))) Via.refl e3 Fw3 (g := (mkF m 13 #[.val (.ref a1), .unset, .unset] [(.ref a1)])) rfl rfl (hb hby d4_13)
  have f0 := (E_a1.wr W3)
  obtain ⟨fs, hr, hrun, hended, hW, hsame⟩ := X4.leave (v := some (.long (t4_2 w_state_a1))) (fun h => by rw [Bd.returns] at h; cases h)
  refine ⟨_, _, pre0 _ ?_, hrun, hended, _, _, rfl, ?_, ⟨_, rfl⟩, hW, hsame.mono (by decide) (by decide)⟩
  · show Steps p.tables e below (s₁.setTop (mkF m 0 #[.val (.ref a1), .unset, .unset] [])) _
    refine XS.aloadN X0.here hx rfl (hb hby d4_0) rfl rfl ?_
    show Steps p.tables e below (s₁.setTop (mkF m 1 #[.val (.ref a1), .unset, .unset] [(.ref a1)])) _
    refine XS.dup X0.here hx rfl (hb hby d4_1) rfl rfl ?_
    show Steps p.tables e below (s₁.setTop (mkF m 2 #[.val (.ref a1), .unset, .unset] [(.ref a1), (.ref a1)])) _
    refine st2 _ ?_
    show Steps p.tables e below (T2.setTop (mkF m 5 #[.val (.ref a1), .unset, .unset] [(.long w_state_a1), (.ref a1)])) _
    refine X2.ldc2Long hx hown (mvT hZ (hw _ (List.mem_of_getElem? (i := 21) rfl))) (g := (mkF m 5 #[.val (.ref a1), .unset, .unset] [(.long w_state_a1), (.ref a1)])) rfl (hb hby d4_5) _ ?_
    show Steps p.tables e below (T2.setTop (mkF m 8 #[.val (.ref a1), .unset, .unset] [(.long (-7046029254386353131 : Int64)), (.long w_state_a1), (.ref a1)])) _
    refine XS.ladd X2.here hx rfl (hb hby d4_8) rfl ?_
    show Steps p.tables e below (T2.setTop (mkF m 9 #[.val (.ref a1), .unset, .unset] [(.long (w_state_a1 + (-7046029254386353131 : Int64))), (.ref a1)])) _
    refine st3 _ ?_
    show Steps p.tables e below (T3.setTop (mkF m 12 #[.val (.ref a1), .unset, .unset] [])) _
    refine XS.aloadN X3.here hx rfl (hb hby d4_12) rfl rfl ?_
    show Steps p.tables e below (T3.setTop (mkF m 13 #[.val (.ref a1), .unset, .unset] [(.ref a1)])) _
    refine st4 _ ?_
    show Steps p.tables e below (T4.setTop (mkF m 16 #[.val (.ref a1), .unset, .unset] [(.long (w_state_a1 + (-7046029254386353131 : Int64)))])) _
    refine XS.lstoreN X4.here hx rfl (hb hby d4_16) rfl (l' := #[.val (.ref a1), .val (.long (w_state_a1 + (-7046029254386353131 : Int64))), .second]) rfl ?_
    show Steps p.tables e below (T4.setTop (mkF m 17 #[.val (.ref a1), .val (.long (w_state_a1 + (-7046029254386353131 : Int64))), .second] [])) _
    refine XS.lloadN X4.here hx rfl (hb hby d4_17) rfl ?_
    show Steps p.tables e below (T4.setTop (mkF m 18 #[.val (.ref a1), .val (.long (w_state_a1 + (-7046029254386353131 : Int64))), .second] [(.long (w_state_a1 + (-7046029254386353131 : Int64)))])) _
    refine XS.lloadN X4.here hx rfl (hb hby d4_18) rfl ?_
    show Steps p.tables e below (T4.setTop (mkF m 19 #[.val (.ref a1), .val (.long (w_state_a1 + (-7046029254386353131 : Int64))), .second] [(.long (w_state_a1 + (-7046029254386353131 : Int64))), (.long (w_state_a1 + (-7046029254386353131 : Int64)))])) _
    refine XS.bipush X4.here hx rfl (hb hby d4_19) ?_
    show Steps p.tables e below (T4.setTop (mkF m 21 #[.val (.ref a1), .val (.long (w_state_a1 + (-7046029254386353131 : Int64))), .second] [(.int (30 : Int32)), (.long (w_state_a1 + (-7046029254386353131 : Int64))), (.long (w_state_a1 + (-7046029254386353131 : Int64)))])) _
    refine XS.lushr X4.here hx rfl (hb hby d4_21) rfl ?_
    show Steps p.tables e below (T4.setTop (mkF m 22 #[.val (.ref a1), .val (.long (w_state_a1 + (-7046029254386353131 : Int64))), .second] [(.long (((w_state_a1 + (-7046029254386353131 : Int64)).toUInt64 >>> ((30 : Int32) &&& 0x3f).toInt64.toUInt64).toInt64)), (.long (w_state_a1 + (-7046029254386353131 : Int64)))])) _
    refine XS.lxor X4.here hx rfl (hb hby d4_22) rfl ?_
    show Steps p.tables e below (T4.setTop (mkF m 23 #[.val (.ref a1), .val (.long (w_state_a1 + (-7046029254386353131 : Int64))), .second] [(.long ((w_state_a1 + (-7046029254386353131 : Int64)) ^^^ (((w_state_a1 + (-7046029254386353131 : Int64)).toUInt64 >>> ((30 : Int32) &&& 0x3f).toInt64.toUInt64).toInt64)))])) _
    refine X4.ldc2Long hx hown (mvT hZ (hw _ (List.mem_of_getElem? (i := 22) rfl))) (g := (mkF m 23 #[.val (.ref a1), .val (.long (w_state_a1 + (-7046029254386353131 : Int64))), .second] [(.long ((w_state_a1 + (-7046029254386353131 : Int64)) ^^^ (((w_state_a1 + (-7046029254386353131 : Int64)).toUInt64 >>> ((30 : Int32) &&& 0x3f).toInt64.toUInt64).toInt64)))])) rfl (hb hby d4_23) _ ?_
    show Steps p.tables e below (T4.setTop (mkF m 26 #[.val (.ref a1), .val (.long (w_state_a1 + (-7046029254386353131 : Int64))), .second] [(.long (-4658895280553007687 : Int64)), (.long ((w_state_a1 + (-7046029254386353131 : Int64)) ^^^ (((w_state_a1 + (-7046029254386353131 : Int64)).toUInt64 >>> ((30 : Int32) &&& 0x3f).toInt64.toUInt64).toInt64)))])) _
    refine XS.lmul X4.here hx rfl (hb hby d4_26) rfl ?_
    show Steps p.tables e below (T4.setTop (mkF m 27 #[.val (.ref a1), .val (.long (w_state_a1 + (-7046029254386353131 : Int64))), .second] [(.long (((w_state_a1 + (-7046029254386353131 : Int64)) ^^^ (((w_state_a1 + (-7046029254386353131 : Int64)).toUInt64 >>> ((30 : Int32) &&& 0x3f).toInt64.toUInt64).toInt64)) * (-4658895280553007687 : Int64)))])) _
    refine XS.lstoreN X4.here hx rfl (hb hby d4_27) rfl (l' := #[.val (.ref a1), .val (.long (t4_0 w_state_a1)), .second]) rfl ?_
    show Steps p.tables e below (T4.setTop (mkF m 28 #[.val (.ref a1), .val (.long (t4_0 w_state_a1)), .second] [])) _
    refine XS.lloadN X4.here hx rfl (hb hby d4_28) rfl ?_
    show Steps p.tables e below (T4.setTop (mkF m 29 #[.val (.ref a1), .val (.long (t4_0 w_state_a1)), .second] [(.long (t4_0 w_state_a1))])) _
    refine XS.lloadN X4.here hx rfl (hb hby d4_29) rfl ?_
    show Steps p.tables e below (T4.setTop (mkF m 30 #[.val (.ref a1), .val (.long (t4_0 w_state_a1)), .second] [(.long (t4_0 w_state_a1)), (.long (t4_0 w_state_a1))])) _
    refine XS.bipush X4.here hx rfl (hb hby d4_30) ?_
    show Steps p.tables e below (T4.setTop (mkF m 32 #[.val (.ref a1), .val (.long (t4_0 w_state_a1)), .second] [(.int (27 : Int32)), (.long (t4_0 w_state_a1)), (.long (t4_0 w_state_a1))])) _
    refine XS.lushr X4.here hx rfl (hb hby d4_32) rfl ?_
    show Steps p.tables e below (T4.setTop (mkF m 33 #[.val (.ref a1), .val (.long (t4_0 w_state_a1)), .second] [(.long (((t4_0 w_state_a1).toUInt64 >>> ((27 : Int32) &&& 0x3f).toInt64.toUInt64).toInt64)), (.long (t4_0 w_state_a1))])) _
    refine XS.lxor X4.here hx rfl (hb hby d4_33) rfl ?_
    show Steps p.tables e below (T4.setTop (mkF m 34 #[.val (.ref a1), .val (.long (t4_0 w_state_a1)), .second] [(.long ((t4_0 w_state_a1) ^^^ (((t4_0 w_state_a1).toUInt64 >>> ((27 : Int32) &&& 0x3f).toInt64.toUInt64).toInt64)))])) _
    refine X4.ldc2Long hx hown (mvT hZ (hw _ (List.mem_of_getElem? (i := 23) rfl))) (g := (mkF m 34 #[.val (.ref a1), .val (.long (t4_0 w_state_a1)), .second] [(.long ((t4_0 w_state_a1) ^^^ (((t4_0 w_state_a1).toUInt64 >>> ((27 : Int32) &&& 0x3f).toInt64.toUInt64).toInt64)))])) rfl (hb hby d4_34) _ ?_
    show Steps p.tables e below (T4.setTop (mkF m 37 #[.val (.ref a1), .val (.long (t4_0 w_state_a1)), .second] [(.long (-7723592293110705685 : Int64)), (.long ((t4_0 w_state_a1) ^^^ (((t4_0 w_state_a1).toUInt64 >>> ((27 : Int32) &&& 0x3f).toInt64.toUInt64).toInt64)))])) _
    refine XS.lmul X4.here hx rfl (hb hby d4_37) rfl ?_
    show Steps p.tables e below (T4.setTop (mkF m 38 #[.val (.ref a1), .val (.long (t4_0 w_state_a1)), .second] [(.long (((t4_0 w_state_a1) ^^^ (((t4_0 w_state_a1).toUInt64 >>> ((27 : Int32) &&& 0x3f).toInt64.toUInt64).toInt64)) * (-7723592293110705685 : Int64)))])) _
    refine XS.lstoreN X4.here hx rfl (hb hby d4_38) rfl (l' := #[.val (.ref a1), .val (.long (t4_1 w_state_a1)), .second]) rfl ?_
    show Steps p.tables e below (T4.setTop (mkF m 39 #[.val (.ref a1), .val (.long (t4_1 w_state_a1)), .second] [])) _
    refine XS.lloadN X4.here hx rfl (hb hby d4_39) rfl ?_
    show Steps p.tables e below (T4.setTop (mkF m 40 #[.val (.ref a1), .val (.long (t4_1 w_state_a1)), .second] [(.long (t4_1 w_state_a1))])) _
    refine XS.lloadN X4.here hx rfl (hb hby d4_40) rfl ?_
    show Steps p.tables e below (T4.setTop (mkF m 41 #[.val (.ref a1), .val (.long (t4_1 w_state_a1)), .second] [(.long (t4_1 w_state_a1)), (.long (t4_1 w_state_a1))])) _
    refine XS.bipush X4.here hx rfl (hb hby d4_41) ?_
    show Steps p.tables e below (T4.setTop (mkF m 43 #[.val (.ref a1), .val (.long (t4_1 w_state_a1)), .second] [(.int (31 : Int32)), (.long (t4_1 w_state_a1)), (.long (t4_1 w_state_a1))])) _
    refine XS.lushr X4.here hx rfl (hb hby d4_43) rfl ?_
    show Steps p.tables e below (T4.setTop (mkF m 44 #[.val (.ref a1), .val (.long (t4_1 w_state_a1)), .second] [(.long (((t4_1 w_state_a1).toUInt64 >>> ((31 : Int32) &&& 0x3f).toInt64.toUInt64).toInt64)), (.long (t4_1 w_state_a1))])) _
    refine XS.lxor X4.here hx rfl (hb hby d4_44) rfl ?_
    show Steps p.tables e below (T4.setTop (mkF m 45 #[.val (.ref a1), .val (.long (t4_1 w_state_a1)), .second] [(.long (t4_2 w_state_a1))])) _
    jvm_step X4.here [X4.here.top, hx, (hb hby d4_45), X4.method', Bd.returns, narrow]
    first | (intro acts; rw [hr _ acts rfl rfl rfl]) | rw [hr _ _ rfl rfl rfl]
    exact Steps.refl _
  · show Q_rm4 Z a1 w_state_a1 h0 n0 _ T4.heap _
    rw [e4]
    exact ⟨rfl, N3, ((Keep.refl h0 [a1]).wr W3 (Or.inl (List.mem_of_getElem? (i := 0) rfl))), f0, Fw3⟩
theorem pd__28_29J : parseMethodDescriptor "()J" = some ⟨[], some .long⟩ := by decide +kernel
def t3_0 (w_state_a1 : Int64) : Int64 := (((t4_2 w_state_a1).toUInt64 >>> ((11 : Int32) &&& 0x3f).toInt64.toUInt64).toInt64)
def t3_1 (w_state_a1 : Int64) : UInt64 := (FP.dmul (FP.l2d (t3_0 w_state_a1)) (4368491638549381120 : UInt64))
theorem d3_0 : decode prog_11_method_3_code 0 = .ok (.aload_n 0, 1) := by decide +kernel
theorem d3_1 : decode prog_11_method_3_code 1 = .ok (.invokevirtual 19, 3) := by decide +kernel
theorem d3_4 : decode prog_11_method_3_code 4 = .ok (.bipush 11, 2) := by decide +kernel
theorem d3_6 : decode prog_11_method_3_code 6 = .ok (.lushr, 1) := by decide +kernel
theorem d3_7 : decode prog_11_method_3_code 7 = .ok (.l2d, 1) := by decide +kernel
theorem d3_8 : decode prog_11_method_3_code 8 = .ok (.ldc2_w 23, 3) := by decide +kernel
theorem d3_11 : decode prog_11_method_3_code 11 = .ok (.dmul, 1) := by decide +kernel
theorem d3_12 : decode prog_11_method_3_code 12 = .ok (.dreturn, 1) := by decide +kernel
theorem pn_3 : plainName "com/example/switchyard/switchyard/model/SeededRandom" = true := by first | (simp [plainName, overriddenIn]; done) | decide +kernel
theorem ef_3 (m : MethodId) (x0 : Addr) : entryFrame m #[(.ref x0)] 1 = mkF m 0 #[.val (.ref x0)] [] := by first | (simp [entryFrame, mkF, argsToLocals, Value.category]; done) | rfl
def Q_rm3 (Z : State) (a1 : Addr) (w_state_a1 : Int64) (h0 : Heap) (n0 : Nat) (v : Option Value) (h : Heap) (L : List Loc) : Prop := v = some (.double (t3_1 w_state_a1)) ∧ Fr n0 L ∧ Keep h0 h [a1] ∧ Exa Z h a1 "com/example/switchyard/switchyard/model/SeededRandom" ∧ Fld Z h a1 "com/example/switchyard/switchyard/model/SeededRandom" "state" "J" (.long (w_state_a1 + (-7046029254386353131 : Int64)))
set_option maxRecDepth 65536 in
set_option maxHeartbeats 40000000 in
theorem rm3 (l : Launch) (Z : State) (a0 : Array Value) (hw : ∀ d ∈ tables_1, d.before a0 Z = true) (ws : List Jvm.Cond) (a1 : Addr) (w_state_a1 : Int64) (h0 : Heap) (n0 : Nat) (Z0 : n0 ≤ h0.size) (F_state_a1 : Fld Z h0 a1 "com/example/switchyard/switchyard/model/SeededRandom" "state" "J" (.long w_state_a1)) (E_a1 : Exa Z h0 a1 "com/example/switchyard/switchyard/model/SeededRandom") (g_a1 : n0 ≤ a1) (hn11 : Jvm.Free.Fl.NoNaN64 (FP.dmul (FP.l2d (t3_0 w_state_a1)) (4368491638549381120 : UInt64))) :
    MetFree l (⟨"com/example/switchyard/switchyard/model/SeededRandom", "nextDouble", "()D"⟩ : MethodName) (head1 (Jvm.Cond.code (⟨"com/example/switchyard/switchyard/model/SeededRandom", "nextDouble", "()D"⟩ : MethodName) prog_11_method_3_code 1 (some .double) :: ws) ({ frames := 1, cells := 0, slots := 0, locals := 14 } : Room)) (fun a U => a = #[(.ref a1)] ∧ Z.Warmed39 U.vm ∧ U.heap = h0) (fun _ _ _ _ _ => True) (fun _ U o U' => ∃ v L, o = .returned v ∧ Q_rm3 Z a1 w_state_a1 h0 n0 v U'.heap L ∧ FrameEnd U o U' L ({ frames := 1, cells := 0, slots := 0, locals := 14 } : Room).cells ({ frames := 1, cells := 0, slots := 0, locals := 14 } : Room).slots) := by
  refine MetFree.of_bodySF (plainFor_of_name pn_3) hisR ?_
  intro p e s m args below meth c s₁ Bd hml0 hP hK
  obtain ⟨rfl, hZ, hh⟩ := hP
  have hx := Bd.exec
  have hby := Bd.bytes
  have hml : c.maxLocals = 1 := hml0
  have hown : s.vm.findClass "com/example/switchyard/switchyard/model/SeededRandom" = some m.cls := findClass_of_methodNamed Bd.named
  have hnm := (name_of_methodNamed Bd.named Bd.method).1
  have X0 : Stand p l e ({ frames := 1, cells := 0, slots := 0, locals := 14 } : Room) s m #[(.ref a1)] below meth c s₁ [] 0 0 := Stand.of_body Bd
  have e0 : s₁.heap = h0 := by rw [← hh, Bd.state]; rfl
  have N0 := Fr.nil n0
  have pre0 : ∀ t, Steps p.tables e below (s₁.setTop (mkF m 0 #[.val (.ref a1)] [])) t → Steps p.tables e below (s₁.setTop (entryFrame m #[(.ref a1)] 1)) t := fun t k => castTop (ef_3 m a1) k
  obtain ⟨cq2, kq2, q2a, q2b, q2c⟩ := isOf hZ e0 E_a1
  obtain ⟨_, _, ⟨T2, L2, k2, n2⟩, -, X2, ⟨Lc2, hQ2, l2, y2, z2⟩, st2⟩ := X0.virtualBack hx (y := (⟨"com/example/switchyard/switchyard/model/SeededRandom", "nextLong", "()J"⟩ : MethodName)) (z := (⟨"com/example/switchyard/switchyard/model/SeededRandom", "nextLong", "()J"⟩ : MethodName)) hown (mvT hZ (hw _ (List.mem_of_getElem? (i := 16) rfl))) (mvT hZ (hw _ (List.mem_of_getElem? (i := 17) rfl))) (notFace_of_selects (args := #[]) (mvT hZ (hw _ (List.mem_of_getElem? (i := 19) rfl)))) (mvT hZ (hw _ (List.mem_of_getElem? (i := 19) rfl))) (mvT hZ (hw _ (List.mem_of_getElem? (i := 18) rfl))) (by decide) (backOf (W := 0) (rm4 l Z a0 hw [] a1 w_state_a1 h0 n0 Z0 F_state_a1 E_a1 g_a1) hZ (hw _ (List.mem_of_getElem? (i := 20) rfl)) (hw _ (List.mem_of_getElem? (i := 2) rfl)) (by decide) (by decide)) q2a q2c (g := (mkF m 1 #[.val (.ref a1)] [(.ref a1)])) rfl (by rw [hml]; rfl) (Steps.refl _) (argsL := []) (rest := []) (lenOf pd__28_29J rfl) rfl (by show 2 * 0 + _ ≤ _; exact Nat.le_of_eq rfl) (hb hby d3_1) (fun _ _ => ⟨rfl, e0, (by decide : 0 + 0 ≤ _), (by decide : 0 + 0 ≤ _)⟩)
  dsimp only [Pt.U, Pt.locs, Pt.cells, Pt.slots] at X2 l2 y2 z2 st2 hQ2
  subst l2 y2 z2
  obtain ⟨rfl, N2q, K2, i2_0, i2_1⟩ := hQ2
  have N2 := Fr.app N0 N2q
  obtain ⟨fs, hr, hrun, hended, hW, hsame⟩ := X2.leave (v := some (.double (t3_1 w_state_a1))) (fun h => by rw [Bd.returns] at h; cases h)
  refine ⟨_, _, pre0 _ ?_, hrun, hended, _, _, rfl, ?_, ⟨_, rfl⟩, hW, hsame.mono (by decide) (by decide)⟩
  · show Steps p.tables e below (s₁.setTop (mkF m 0 #[.val (.ref a1)] [])) _
    refine XS.aloadN X0.here hx rfl (hb hby d3_0) rfl rfl ?_
    show Steps p.tables e below (s₁.setTop (mkF m 1 #[.val (.ref a1)] [(.ref a1)])) _
    refine st2.trans ?_
    show Steps p.tables e below (T2.setTop (mkF m 4 #[.val (.ref a1)] [(.long (t4_2 w_state_a1))])) _
    refine XS.bipush X2.here hx rfl (hb hby d3_4) ?_
    show Steps p.tables e below (T2.setTop (mkF m 6 #[.val (.ref a1)] [(.int (11 : Int32)), (.long (t4_2 w_state_a1))])) _
    refine XS.lushr X2.here hx rfl (hb hby d3_6) rfl ?_
    show Steps p.tables e below (T2.setTop (mkF m 7 #[.val (.ref a1)] [(.long (((t4_2 w_state_a1).toUInt64 >>> ((11 : Int32) &&& 0x3f).toInt64.toUInt64).toInt64))])) _
    refine XS.l2dS X2.here hx rfl (hb hby d3_7) rfl (v := (FP.l2d (t3_0 w_state_a1))) rfl ?_
    show Steps p.tables e below (T2.setTop (mkF m 8 #[.val (.ref a1)] [(.double (FP.l2d (t3_0 w_state_a1)))])) _
    refine X2.ldc2DoubleC hx hown (mvT hZ (hw _ (List.mem_of_getElem? (i := 24) rfl))) (g := (mkF m 8 #[.val (.ref a1)] [(.double (FP.l2d (t3_0 w_state_a1)))])) rfl (hb hby d3_8) _ ?_
    show Steps p.tables e below (T2.setTop (mkF m 11 #[.val (.ref a1)] [(.double (4368491638549381120 : UInt64)), (.double (FP.l2d (t3_0 w_state_a1)))])) _
    refine XS.dmulS X2.here hx rfl (hb hby d3_11) rfl hn11 (v := (FP.dmul (FP.l2d (t3_0 w_state_a1)) (4368491638549381120 : UInt64))) rfl ?_
    show Steps p.tables e below (T2.setTop (mkF m 12 #[.val (.ref a1)] [(.double (t3_1 w_state_a1))])) _
    jvm_step X2.here [X2.here.top, hx, (hb hby d3_12), X2.method', Bd.returns, narrow]
    first | (intro acts; rw [hr _ acts rfl rfl rfl]) | rw [hr _ _ rfl rfl rfl]
    exact Steps.refl _
  · show Q_rm3 Z a1 w_state_a1 h0 n0 _ T2.heap _
    exact ⟨rfl, N2, ((Keep.refl h0 [a1]).trans K2 (fun x q => (List.mem_cons.mp q).elim (fun r => r ▸ (Or.inl (List.mem_of_getElem? (i := 0) rfl))) ((fun _ q => nomatch q) x))), i2_0, i2_1⟩
def t5_0 (d1 : UInt64) : UInt64 := (FP.l2d (FP.d2l (FP.dmul d1 (4845873199050653696 : UInt64))))
def t5_1 (d1 : UInt64) : Int32 := (cmpValue (FP.dcmp (t5_0 d1) (FP.dmul d1 (4845873199050653696 : UInt64))) .l)
theorem d5_0 : decode method_3_code 0 = .ok (.dload_n 0, 1) := by decide +kernel
theorem d5_1 : decode method_3_code 1 = .ok (.dconst 0, 1) := by decide +kernel
theorem d5_2 : decode method_3_code 2 = .ok (.dcmp .l, 1) := by decide +kernel
theorem d5_3 : decode method_3_code 3 = .ok (.ifCond .lt 9, 3) := by decide +kernel
theorem d5_6 : decode method_3_code 6 = .ok (.dload_n 0, 1) := by decide +kernel
theorem d5_7 : decode method_3_code 7 = .ok (.dconst 1, 1) := by decide +kernel
theorem d5_8 : decode method_3_code 8 = .ok (.dcmp .g, 1) := by decide +kernel
theorem d5_9 : decode method_3_code 9 = .ok (.ifCond .lt 5, 3) := by decide +kernel
theorem d5_14 : decode method_3_code 14 = .ok (.dload_n 0, 1) := by decide +kernel
theorem d5_15 : decode method_3_code 15 = .ok (.ldc2_w 26, 3) := by decide +kernel
theorem d5_18 : decode method_3_code 18 = .ok (.dmul, 1) := by decide +kernel
theorem d5_19 : decode method_3_code 19 = .ok (.dstore 4, 2) := by decide +kernel
theorem d5_21 : decode method_3_code 21 = .ok (.dload 4, 2) := by decide +kernel
theorem d5_23 : decode method_3_code 23 = .ok (.d2l, 1) := by decide +kernel
theorem d5_24 : decode method_3_code 24 = .ok (.lstore 6, 2) := by decide +kernel
theorem d5_26 : decode method_3_code 26 = .ok (.lload 6, 2) := by decide +kernel
theorem d5_28 : decode method_3_code 28 = .ok (.lload_n 2, 1) := by decide +kernel
theorem d5_29 : decode method_3_code 29 = .ok (.lcmp, 1) := by decide +kernel
theorem d5_30 : decode method_3_code 30 = .ok (.ifCond .ne 16, 3) := by decide +kernel
theorem d5_33 : decode method_3_code 33 = .ok (.lload 6, 2) := by decide +kernel
theorem d5_35 : decode method_3_code 35 = .ok (.l2d, 1) := by decide +kernel
theorem d5_36 : decode method_3_code 36 = .ok (.dload 4, 2) := by decide +kernel
theorem d5_38 : decode method_3_code 38 = .ok (.dcmp .l, 1) := by decide +kernel
theorem d5_39 : decode method_3_code 39 = .ok (.ifCond .ne 7, 3) := by decide +kernel
theorem d5_42 : decode method_3_code 42 = .ok (.iconst 1, 1) := by decide +kernel
theorem d5_43 : decode method_3_code 43 = .ok (.goto 4, 3) := by decide +kernel
theorem d5_47 : decode method_3_code 47 = .ok (.ireturn, 1) := by decide +kernel
theorem pn_5 : plainName "com/example/switchyard/switchyard/model/SeededRandomNextDoublePinLaw" = true := by first | (simp [plainName, overriddenIn]; done) | decide +kernel
theorem ef_5 (m : MethodId) (x0 : UInt64) (x1 : Int64) : entryFrame m #[(.double x0), (.long x1)] 8 = mkF m 0 #[.val (.double x0), .second, .val (.long x1), .second, .unset, .unset, .unset, .unset] [] := by first | (simp [entryFrame, mkF, argsToLocals, Value.category]; done) | rfl
def Q_rm5 (Z : State) (d1 : UInt64) (q2 : Int64) (h0 : Heap) (n0 : Nat) (v : Option Value) (h : Heap) (L : List Loc) : Prop := v = some (.int (1 : Int32)) ∧ Fr n0 L ∧ h = h0
set_option maxRecDepth 65536 in
set_option maxHeartbeats 40000000 in
theorem rm5 (l : Launch) (Z : State) (a0 : Array Value) (hw : ∀ d ∈ tables_1, d.before a0 Z = true) (ws : List Jvm.Cond) (d1 : UInt64) (q2 : Int64) (h0 : Heap) (n0 : Nat) (Z0 : n0 ≤ h0.size) (hc3 : ¬ ((cmpValue (FP.dcmp d1 (0 : UInt64)) .l) < (0 : Int32))) (hc9 : (cmpValue (FP.dcmp d1 (4607182418800017408 : UInt64)) .g) < (0 : Int32)) (hn18 : Jvm.Free.Fl.NoNaN64 (FP.dmul d1 (4845873199050653696 : UInt64))) (hc30 : (lcmpW (FP.d2l (FP.dmul d1 (4845873199050653696 : UInt64))) q2) = (0 : Int32)) (hc39 : (t5_1 d1) = (0 : Int32)) :
    MetFree l (⟨"com/example/switchyard/switchyard/model/SeededRandomNextDoublePinLaw", "matches", "(DJ)Z"⟩ : MethodName) (head1 (Jvm.Cond.code (⟨"com/example/switchyard/switchyard/model/SeededRandomNextDoublePinLaw", "matches", "(DJ)Z"⟩ : MethodName) method_3_code 8 (some .boolean) :: ws) ({ frames := 0, cells := 0, slots := 0, locals := 0 } : Room)) (fun a U => a = #[(.double d1), (.long q2)] ∧ Z.Warmed39 U.vm ∧ U.heap = h0) (fun _ _ _ _ _ => True) (fun _ U o U' => ∃ v L, o = .returned v ∧ Q_rm5 Z d1 q2 h0 n0 v U'.heap L ∧ FrameEnd U o U' L ({ frames := 0, cells := 0, slots := 0, locals := 0 } : Room).cells ({ frames := 0, cells := 0, slots := 0, locals := 0 } : Room).slots) := by
  refine MetFree.of_bodySF (plainFor_of_name pn_5) hisR ?_
  intro p e s m args below meth c s₁ Bd hml0 hP hK
  obtain ⟨rfl, hZ, hh⟩ := hP
  have hx := Bd.exec
  have hby := Bd.bytes
  have hml : c.maxLocals = 8 := hml0
  have hown : s.vm.findClass "com/example/switchyard/switchyard/model/SeededRandomNextDoublePinLaw" = some m.cls := findClass_of_methodNamed Bd.named
  have hnm := (name_of_methodNamed Bd.named Bd.method).1
  have X0 : Stand p l e ({ frames := 0, cells := 0, slots := 0, locals := 0 } : Room) s m #[(.double d1), (.long q2)] below meth c s₁ [] 0 0 := Stand.of_body Bd
  have e0 : s₁.heap = h0 := by rw [← hh, Bd.state]; rfl
  have N0 := Fr.nil n0
  have pre0 : ∀ t, Steps p.tables e below (s₁.setTop (mkF m 0 #[.val (.double d1), .second, .val (.long q2), .second, .unset, .unset, .unset, .unset] [])) t → Steps p.tables e below (s₁.setTop (entryFrame m #[(.double d1), (.long q2)] 8)) t := fun t k => castTop (ef_5 m d1 q2) k
  obtain ⟨fs, hr, hrun, hended, hW, hsame⟩ := X0.leave (v := some (.int (1 : Int32))) (fun h => by rw [Bd.returns] at h; cases h)
  refine ⟨_, _, pre0 _ ?_, hrun, hended, _, _, rfl, ?_, ⟨_, rfl⟩, hW, hsame.mono (by decide) (by decide)⟩
  · show Steps p.tables e below (s₁.setTop (mkF m 0 #[.val (.double d1), .second, .val (.long q2), .second, .unset, .unset, .unset, .unset] [])) _
    refine XS.dloadN X0.here hx rfl (hb hby d5_0) rfl ?_
    show Steps p.tables e below (s₁.setTop (mkF m 1 #[.val (.double d1), .second, .val (.long q2), .second, .unset, .unset, .unset, .unset] [(.double d1)])) _
    refine XS.dconst0 X0.here hx rfl (hb hby d5_1) (v := (0 : UInt64)) rfl ?_
    show Steps p.tables e below (s₁.setTop (mkF m 2 #[.val (.double d1), .second, .val (.long q2), .second, .unset, .unset, .unset, .unset] [(.double (0 : UInt64)), (.double d1)])) _
    refine XS.dcmpS X0.here hx rfl (hb hby d5_2) rfl (v := (cmpValue (FP.dcmp d1 (0 : UInt64)) .l)) rfl ?_
    show Steps p.tables e below (s₁.setTop (mkF m 3 #[.val (.double d1), .second, .val (.long q2), .second, .unset, .unset, .unset, .unset] [(.int (cmpValue (FP.dcmp d1 (0 : UInt64)) .l))])) _
    refine XS.ifNo X0.here hx rfl (hb hby d5_3) rfl ((if0 _ _).trans (flt hc3).1) ?_
    show Steps p.tables e below (s₁.setTop (mkF m 6 #[.val (.double d1), .second, .val (.long q2), .second, .unset, .unset, .unset, .unset] [])) _
    refine XS.dloadN X0.here hx rfl (hb hby d5_6) rfl ?_
    show Steps p.tables e below (s₁.setTop (mkF m 7 #[.val (.double d1), .second, .val (.long q2), .second, .unset, .unset, .unset, .unset] [(.double d1)])) _
    refine XS.dconst1 X0.here hx rfl (hb hby d5_7) (v := (4607182418800017408 : UInt64)) rfl ?_
    show Steps p.tables e below (s₁.setTop (mkF m 8 #[.val (.double d1), .second, .val (.long q2), .second, .unset, .unset, .unset, .unset] [(.double (4607182418800017408 : UInt64)), (.double d1)])) _
    refine XS.dcmpS X0.here hx rfl (hb hby d5_8) rfl (v := (cmpValue (FP.dcmp d1 (4607182418800017408 : UInt64)) .g)) rfl ?_
    show Steps p.tables e below (s₁.setTop (mkF m 9 #[.val (.double d1), .second, .val (.long q2), .second, .unset, .unset, .unset, .unset] [(.int (cmpValue (FP.dcmp d1 (4607182418800017408 : UInt64)) .g))])) _
    refine XS.ifYes X0.here hx rfl (pc0 := 9) (pc' := 14) rfl (hb hby d5_9) rfl ((if0 _ _).trans (tlt hc9).1) (by decide) (by decide) ?_
    show Steps p.tables e below (s₁.setTop (mkF m 14 #[.val (.double d1), .second, .val (.long q2), .second, .unset, .unset, .unset, .unset] [])) _
    refine XS.dloadN X0.here hx rfl (hb hby d5_14) rfl ?_
    show Steps p.tables e below (s₁.setTop (mkF m 15 #[.val (.double d1), .second, .val (.long q2), .second, .unset, .unset, .unset, .unset] [(.double d1)])) _
    refine X0.ldc2DoubleC hx hown (mvT hZ (hw _ (List.mem_of_getElem? (i := 30) rfl))) (g := (mkF m 15 #[.val (.double d1), .second, .val (.long q2), .second, .unset, .unset, .unset, .unset] [(.double d1)])) rfl (hb hby d5_15) _ ?_
    show Steps p.tables e below (s₁.setTop (mkF m 18 #[.val (.double d1), .second, .val (.long q2), .second, .unset, .unset, .unset, .unset] [(.double (4845873199050653696 : UInt64)), (.double d1)])) _
    refine XS.dmulS X0.here hx rfl (hb hby d5_18) rfl hn18 (v := (FP.dmul d1 (4845873199050653696 : UInt64))) rfl ?_
    show Steps p.tables e below (s₁.setTop (mkF m 19 #[.val (.double d1), .second, .val (.long q2), .second, .unset, .unset, .unset, .unset] [(.double (FP.dmul d1 (4845873199050653696 : UInt64)))])) _
    refine XS.dstore X0.here hx rfl (hb hby d5_19) rfl (l' := #[.val (.double d1), .second, .val (.long q2), .second, .val (.double (FP.dmul d1 (4845873199050653696 : UInt64))), .second, .unset, .unset]) rfl ?_
    show Steps p.tables e below (s₁.setTop (mkF m 21 #[.val (.double d1), .second, .val (.long q2), .second, .val (.double (FP.dmul d1 (4845873199050653696 : UInt64))), .second, .unset, .unset] [])) _
    refine XS.dload X0.here hx rfl (hb hby d5_21) rfl ?_
    show Steps p.tables e below (s₁.setTop (mkF m 23 #[.val (.double d1), .second, .val (.long q2), .second, .val (.double (FP.dmul d1 (4845873199050653696 : UInt64))), .second, .unset, .unset] [(.double (FP.dmul d1 (4845873199050653696 : UInt64)))])) _
    refine XS.d2lS X0.here hx rfl (hb hby d5_23) rfl (v := (FP.d2l (FP.dmul d1 (4845873199050653696 : UInt64)))) rfl ?_
    show Steps p.tables e below (s₁.setTop (mkF m 24 #[.val (.double d1), .second, .val (.long q2), .second, .val (.double (FP.dmul d1 (4845873199050653696 : UInt64))), .second, .unset, .unset] [(.long (FP.d2l (FP.dmul d1 (4845873199050653696 : UInt64))))])) _
    refine XS.lstore X0.here hx rfl (hb hby d5_24) rfl (l' := #[.val (.double d1), .second, .val (.long q2), .second, .val (.double (FP.dmul d1 (4845873199050653696 : UInt64))), .second, .val (.long (FP.d2l (FP.dmul d1 (4845873199050653696 : UInt64)))), .second]) rfl ?_
    show Steps p.tables e below (s₁.setTop (mkF m 26 #[.val (.double d1), .second, .val (.long q2), .second, .val (.double (FP.dmul d1 (4845873199050653696 : UInt64))), .second, .val (.long (FP.d2l (FP.dmul d1 (4845873199050653696 : UInt64)))), .second] [])) _
    refine XS.lload X0.here hx rfl (hb hby d5_26) rfl ?_
    show Steps p.tables e below (s₁.setTop (mkF m 28 #[.val (.double d1), .second, .val (.long q2), .second, .val (.double (FP.dmul d1 (4845873199050653696 : UInt64))), .second, .val (.long (FP.d2l (FP.dmul d1 (4845873199050653696 : UInt64)))), .second] [(.long (FP.d2l (FP.dmul d1 (4845873199050653696 : UInt64))))])) _
    refine XS.lloadN X0.here hx rfl (hb hby d5_28) rfl ?_
    show Steps p.tables e below (s₁.setTop (mkF m 29 #[.val (.double d1), .second, .val (.long q2), .second, .val (.double (FP.dmul d1 (4845873199050653696 : UInt64))), .second, .val (.long (FP.d2l (FP.dmul d1 (4845873199050653696 : UInt64)))), .second] [(.long q2), (.long (FP.d2l (FP.dmul d1 (4845873199050653696 : UInt64))))])) _
    refine XS.lcmp X0.here hx rfl (hb hby d5_29) rfl ?_
    show Steps p.tables e below (s₁.setTop (mkF m 30 #[.val (.double d1), .second, .val (.long q2), .second, .val (.double (FP.dmul d1 (4845873199050653696 : UInt64))), .second, .val (.long (FP.d2l (FP.dmul d1 (4845873199050653696 : UInt64)))), .second] [(.int (lcmpW (FP.d2l (FP.dmul d1 (4845873199050653696 : UInt64))) q2))])) _
    refine XS.ifNo X0.here hx rfl (hb hby d5_30) rfl ((if0 _ _).trans (teq hc30).2) ?_
    show Steps p.tables e below (s₁.setTop (mkF m 33 #[.val (.double d1), .second, .val (.long q2), .second, .val (.double (FP.dmul d1 (4845873199050653696 : UInt64))), .second, .val (.long (FP.d2l (FP.dmul d1 (4845873199050653696 : UInt64)))), .second] [])) _
    refine XS.lload X0.here hx rfl (hb hby d5_33) rfl ?_
    show Steps p.tables e below (s₁.setTop (mkF m 35 #[.val (.double d1), .second, .val (.long q2), .second, .val (.double (FP.dmul d1 (4845873199050653696 : UInt64))), .second, .val (.long (FP.d2l (FP.dmul d1 (4845873199050653696 : UInt64)))), .second] [(.long (FP.d2l (FP.dmul d1 (4845873199050653696 : UInt64))))])) _
    refine XS.l2dS X0.here hx rfl (hb hby d5_35) rfl (v := (FP.l2d (FP.d2l (FP.dmul d1 (4845873199050653696 : UInt64))))) rfl ?_
    show Steps p.tables e below (s₁.setTop (mkF m 36 #[.val (.double d1), .second, .val (.long q2), .second, .val (.double (FP.dmul d1 (4845873199050653696 : UInt64))), .second, .val (.long (FP.d2l (FP.dmul d1 (4845873199050653696 : UInt64)))), .second] [(.double (FP.l2d (FP.d2l (FP.dmul d1 (4845873199050653696 : UInt64)))))])) _
    refine XS.dload X0.here hx rfl (hb hby d5_36) rfl ?_
    show Steps p.tables e below (s₁.setTop (mkF m 38 #[.val (.double d1), .second, .val (.long q2), .second, .val (.double (FP.dmul d1 (4845873199050653696 : UInt64))), .second, .val (.long (FP.d2l (FP.dmul d1 (4845873199050653696 : UInt64)))), .second] [(.double (FP.dmul d1 (4845873199050653696 : UInt64))), (.double (FP.l2d (FP.d2l (FP.dmul d1 (4845873199050653696 : UInt64)))))])) _
    refine XS.dcmpS X0.here hx rfl (hb hby d5_38) rfl (v := (cmpValue (FP.dcmp (t5_0 d1) (FP.dmul d1 (4845873199050653696 : UInt64))) .l)) rfl ?_
    show Steps p.tables e below (s₁.setTop (mkF m 39 #[.val (.double d1), .second, .val (.long q2), .second, .val (.double (FP.dmul d1 (4845873199050653696 : UInt64))), .second, .val (.long (FP.d2l (FP.dmul d1 (4845873199050653696 : UInt64)))), .second] [(.int (cmpValue (FP.dcmp (t5_0 d1) (FP.dmul d1 (4845873199050653696 : UInt64))) .l))])) _
    refine XS.ifNo X0.here hx rfl (hb hby d5_39) rfl ((if0 _ _).trans (teq hc39).2) ?_
    show Steps p.tables e below (s₁.setTop (mkF m 42 #[.val (.double d1), .second, .val (.long q2), .second, .val (.double (FP.dmul d1 (4845873199050653696 : UInt64))), .second, .val (.long (FP.d2l (FP.dmul d1 (4845873199050653696 : UInt64)))), .second] [])) _
    refine XS.iconst X0.here hx rfl (hb hby d5_42) ?_
    show Steps p.tables e below (s₁.setTop (mkF m 43 #[.val (.double d1), .second, .val (.long q2), .second, .val (.double (FP.dmul d1 (4845873199050653696 : UInt64))), .second, .val (.long (FP.d2l (FP.dmul d1 (4845873199050653696 : UInt64)))), .second] [(.int (1 : Int32))])) _
    refine XS.goto X0.here hx rfl (pc0 := 43) (pc' := 47) rfl (hb hby d5_43) (by decide) (by decide) ?_
    show Steps p.tables e below (s₁.setTop (mkF m 47 #[.val (.double d1), .second, .val (.long q2), .second, .val (.double (FP.dmul d1 (4845873199050653696 : UInt64))), .second, .val (.long (FP.d2l (FP.dmul d1 (4845873199050653696 : UInt64)))), .second] [(.int (1 : Int32))])) _
    exact retN X0 hx (t := .boolean) Bd.returns (by simp) (hb hby d5_47) hr
  · show Q_rm5 Z d1 q2 h0 n0 _ s₁.heap _
    exact ⟨rfl, N0, e0⟩
theorem own_sh11 (x : Int64) : 0 ≤ ((x.toUInt64 >>> ((11 : Int32) &&& 0x3f).toInt64.toUInt64).toInt64).toInt ∧ ((x.toUInt64 >>> ((11 : Int32) &&& 0x3f).toInt64.toUInt64).toInt64).toInt < 2 ^ 53 := by
  have hk : ((11 : Int32) &&& 0x3f).toInt64.toUInt64 = 11 := by decide
  rw [hk]
  have h : (x.toUInt64 >>> 11).toInt64.toInt = ((x.toUInt64 >>> 11).toInt64).toBitVec.toInt := rfl
  have h2 : ((x.toUInt64 >>> 11).toInt64).toBitVec.toNat = (x.toUInt64 >>> 11).toNat := rfl
  have h3 : (x.toUInt64 >>> 11).toNat < 2 ^ 53 := by
    rw [UInt64.toNat_shiftRight, Nat.shiftRight_eq_div_pow, show (11 : UInt64).toNat % 64 = 11 from by decide]
    have := x.toUInt64.toNat_lt
    omega
  rw [h, BitVec.toInt_eq_toNat_cond, h2, if_pos (by omega)]
  omega
abbrev own_K1 : UInt64 := 4368491638549381120
abbrev own_K2 : UInt64 := 4845873199050653696
theorem own_m1 (K : Int64) (h1 : 0 ≤ K.toInt) (h2 : K.toInt < 2 ^ 53) : FP.dmul (FP.l2d K) own_K1 = UInt64.ofNat (FP.Core.encode FP.Core.b64 (FP.Core.own_V K.toInt.toNat (-53))) := by
  have e : FP.l2d K = _ := FP.Core.own_l2d K h1 h2
  rw [e]
  exact FP.Core.own_mulV K.toInt.toNat 0 own_K1 (-105) (by decide +kernel) (by omega) (by decide) (by decide) (by decide) (by decide)
theorem own_m2 (K : Int64) (h1 : 0 ≤ K.toInt) (h2 : K.toInt < 2 ^ 53) : FP.dmul (FP.dmul (FP.l2d K) own_K1) own_K2 = FP.l2d K := by
  rw [own_m1 K h1 h2]
  have e : FP.l2d K = _ := FP.Core.own_l2d K h1 h2
  rw [e]
  exact FP.Core.own_mulV K.toInt.toNat (-53) own_K2 1 (by decide +kernel) (by omega) (by decide) (by decide) (by decide) (by decide)
theorem own_nn (k : Nat) (q : Int) (h : k < 2 ^ 53) (h1 : -1022 ≤ q) (h2 : q ≤ 971) : Jvm.Free.Fl.NoNaN64 (UInt64.ofNat (FP.Core.encode FP.Core.b64 (FP.Core.own_V k q))) := by
  have hd := FP.Core.own_Vdec k q h h1 h2
  rw [Jvm.Free.Fl.noNaN64_no]
  show decide (FP.Core.decode FP.Core.b64 (UInt64.ofNat (FP.Core.encode FP.Core.b64 (FP.Core.own_V k q))).toNat = .nan) = false
  rw [FP.Core.own_toNat _ hd.1, hd.2]
  unfold FP.Core.own_V FP.Core.own_NF
  split <;> rfl
theorem own_a1 (K : Int64) (h1 : 0 ≤ K.toInt) (h2 : K.toInt < 2 ^ 53) : Jvm.Free.Fl.NoNaN64 (FP.dmul (FP.l2d K) own_K1) := by
  rw [own_m1 K h1 h2]; exact own_nn _ _ (by omega) (by decide) (by decide)
theorem own_nl (K : Int64) (h1 : 0 ≤ K.toInt) (h2 : K.toInt < 2 ^ 53) : Jvm.Free.Fl.NoNaN64 (FP.l2d K) := (Jvm.Free.Fl.l2d_fin K).noNaN
theorem own_a2 (K : Int64) (h1 : 0 ≤ K.toInt) (h2 : K.toInt < 2 ^ 53) : ¬ ((cmpValue (FP.dcmp (FP.dmul (FP.l2d K) own_K1) (0 : UInt64)) .l) < (0 : Int32)) := by
  rw [own_m1 K h1 h2]
  have h : FP.dcmp _ (0 : UInt64) = some .gt ∨ FP.dcmp _ (0 : UInt64) = some .eq := FP.Core.own_ge0 K.toInt.toNat (by omega)
  rcases h with h | h <;> rw [h] <;> decide
theorem own_a3 (K : Int64) (h1 : 0 ≤ K.toInt) (h2 : K.toInt < 2 ^ 53) : (cmpValue (FP.dcmp (FP.dmul (FP.l2d K) own_K1) (4607182418800017408 : UInt64)) .g) < (0 : Int32) := by
  rw [own_m1 K h1 h2]
  have h : FP.dcmp _ (4607182418800017408 : UInt64) = some .lt := FP.Core.own_lt1 K.toInt.toNat (by omega)
  rw [h]; decide
theorem own_a4 (K : Int64) (h1 : 0 ≤ K.toInt) (h2 : K.toInt < 2 ^ 53) : Jvm.Free.Fl.NoNaN64 (FP.dmul (FP.dmul (FP.l2d K) own_K1) own_K2) := by
  rw [own_m2 K h1 h2]; exact own_nl K h1 h2
theorem own_b53 (K : Int64) (h1 : 0 ≤ K.toInt) (h2 : K.toInt < 2 ^ 53) : B53 K := ⟨by omega, by omega⟩
theorem own_a5 (K : Int64) (h1 : 0 ≤ K.toInt) (h2 : K.toInt < 2 ^ 53) : (lcmpW (FP.d2l (FP.dmul (FP.dmul (FP.l2d K) own_K1) own_K2)) K) = (0 : Int32) := by
  rw [own_m2 K h1 h2, d2l_w (own_b53 K h1 h2), lw_eq]
theorem own_a6 (K : Int64) (h1 : 0 ≤ K.toInt) (h2 : K.toInt < 2 ^ 53) : (cmpValue (FP.dcmp (FP.l2d (FP.d2l (FP.dmul (FP.dmul (FP.l2d K) own_K1) own_K2))) (FP.dmul (FP.dmul (FP.l2d K) own_K1) own_K2)) .l) = (0 : Int32) := by
  rw [own_m2 K h1 h2, d2l_w (own_b53 K h1 h2)]
  exact dcmpV_self (own_nl K h1 h2) .l
theorem pd__28J_29V : parseMethodDescriptor "(J)V" = some ⟨[.long], none⟩ := by decide +kernel
theorem pd__28_29D : parseMethodDescriptor "()D" = some ⟨[], some .double⟩ := by decide +kernel
theorem pd__28DJ_29Z : parseMethodDescriptor "(DJ)Z" = some ⟨[.double, .long], some .boolean⟩ := by decide +kernel
def t0_0 (q1 : Int64) : Int64 := (((t4_2 q1).toUInt64 >>> ((11 : Int32) &&& 0x3f).toInt64.toUInt64).toInt64)
def t0_1 (q1 : Int64) : Int64 := (((t4_2 (q1 + (-7046029254386353131 : Int64))).toUInt64 >>> ((11 : Int32) &&& 0x3f).toInt64.toUInt64).toInt64)
def t0_2 (q1 : Int64) : Int64 := (t4_2 ((q1 + (-7046029254386353131 : Int64)) + (-7046029254386353131 : Int64)))
theorem pn_0 : plainName "com/example/switchyard/switchyard/model/SeededRandomNextDoublePinLaw" = true := by first | (simp [plainName, overriddenIn]; done) | decide +kernel
theorem ef_0 (m : MethodId) (x0 : Int64) : entryFrame m #[(.long x0)] maxLocals = mkF m 0 #[.val (.long x0), .second, .unset, .unset, .unset, .unset, .unset, .unset, .unset, .unset, .unset, .unset, .unset, .unset, .unset, .unset, .unset, .unset] [] := by first | (simp [entryFrame, mkF, argsToLocals, Value.category, maxLocals]; done) | rfl
def Q_rm0 (Z : State) (q1 : Int64) (h0 : Heap) (n0 : Nat) (v : Option Value) (h : Heap) (L : List Loc) : Prop := v = some (.int (1 : Int32)) ∧ Fr n0 L
set_option maxRecDepth 65536 in
set_option maxHeartbeats 40000000 in
theorem rm0 (l : Launch) (Z : State) (a0 : Array Value) (hw : ∀ d ∈ tables_1, d.before a0 Z = true) (ws : List Jvm.Cond) (q1 : Int64) (h0 : Heap) (n0 : Nat) (Z0 : n0 ≤ h0.size) :
    MetFree l x (head1 (Jvm.Cond.code x code maxLocals ret :: ws) room_1) (fun a U => a = #[(.long q1)] ∧ Z.Warmed39 U.vm ∧ U.heap = h0) (fun _ _ _ _ _ => True) (fun _ U o U' => ∃ v L, o = .returned v ∧ Q_rm0 Z q1 h0 n0 v U'.heap L ∧ FrameEnd U o U' L room_1.cells room_1.slots) := by
  refine MetFree.of_bodySF (plainFor_of_name pn_0) hisR ?_
  intro p e s m args below meth c s₁ Bd hml0 hP hK
  obtain ⟨rfl, hZ, hh⟩ := hP
  have hx := Bd.exec
  have hby := Bd.bytes
  have hml : c.maxLocals = 18 := hml0
  have hown : s.vm.findClass "com/example/switchyard/switchyard/model/SeededRandomNextDoublePinLaw" = some m.cls := findClass_of_methodNamed Bd.named
  have hnm := (name_of_methodNamed Bd.named Bd.method).1
  have X0 : Stand p l e room_1 s m #[(.long q1)] below meth c s₁ [] 0 0 := Stand.of_body Bd
  have e0 : s₁.heap = h0 := by rw [← hh, Bd.state]; rfl
  have N0 := Fr.nil n0
  have pre0 : ∀ t, Steps p.tables e below (s₁.setTop (mkF m 0 #[.val (.long q1), .second, .unset, .unset, .unset, .unset, .unset, .unset, .unset, .unset, .unset, .unset, .unset, .unset, .unset, .unset, .unset, .unset] [])) t → Steps p.tables e below (s₁.setTop (entryFrame m #[(.long q1)] maxLocals)) t := fun t k => castTop (ef_0 m q1) k
  obtain ⟨T2, h2, X2, e2, E2, A2, D2, -, st2⟩ := newO X0 hx hZ hown (hw _ (List.mem_of_getElem? (i := 0) rfl)) (hw _ (List.mem_of_getElem? (i := 1) rfl)) (hw _ (List.mem_of_getElem? (i := 2) rfl)) e0 (g := (mkF m 0 #[.val (.long q1), .second, .unset, .unset, .unset, .unset, .unset, .unset, .unset, .unset, .unset, .unset, .unset, .unset, .unset, .unset, .unset, .unset] [])) rfl (hb hby at_0) (by decide) (by decide)
  obtain ⟨b2, g2⟩ : ∃ z, z = h0.size := ⟨_, rfl⟩
  rw [← g2] at A2 D2 st2
  have g_b2 : n0 ≤ b2 := Nat.le_trans Z0 (Nat.le_of_eq g2.symm)
  have sz_b2 : h0.size ≤ b2 := Nat.le_trans (Nat.le_refl h0.size) (Nat.le_of_eq g2.symm)
  have F_state_b2 : Fld Z h2 b2 "com/example/switchyard/switchyard/model/SeededRandom" "state" "J" (.long (0 : Int64)) := D2 (Or.inl (hw _ (List.mem_of_getElem? (i := 10) rfl))) (ty := .long) (by decide)
  obtain ⟨_, _, ⟨T3, L3, k3, n3⟩, -, X3, ⟨Lc3, hQ3, l3, y3, z3⟩, st3⟩ := X2.specialBack hx (y := (⟨"com/example/switchyard/switchyard/model/SeededRandom", "<init>", "(J)V"⟩ : MethodName)) rfl hown (mvT hZ (hw _ (List.mem_of_getElem? (i := 3) rfl))) (mvT hZ (hw _ (List.mem_of_getElem? (i := 4) rfl))) (mvT hZ (hw _ (List.mem_of_getElem? (i := 5) rfl))) (by decide) (backOf (W := 1) (rm1 l Z a0 hw [] b2 q1 (0 : Int64) h2 n0 (Nat.le_trans Z0 E2.1) A2 F_state_b2 g_b2) hZ (hw _ (List.mem_of_getElem? (i := 5) rfl)) (hw _ (List.mem_of_getElem? (i := 2) rfl)) (by decide) (by decide)) (g := (mkF m 5 #[.val (.long q1), .second, .unset, .unset, .unset, .unset, .unset, .unset, .unset, .unset, .unset, .unset, .unset, .unset, .unset, .unset, .unset, .unset] [(.long q1), (.ref b2), (.ref b2)])) rfl (by rw [hml]; rfl) (Steps.refl _) (a := b2) (argsL := [(.long q1)]) (rest := [(.ref b2)]) (lenOf pd__28J_29V rfl) rfl (by show 2 * 0 + _ ≤ _; exact Nat.le_of_eq rfl) (hb hby at_5) (fun _ _ => ⟨rfl, e2, (by decide : 1 + 0 ≤ _), (by decide : 1 + 0 ≤ _)⟩)
  dsimp only [Pt.U, Pt.locs, Pt.cells, Pt.slots] at X3 l3 y3 z3 st3 hQ3
  subst l3 y3 z3
  obtain ⟨rfl, N3q, K3, i3_0, i3_1⟩ := hQ3
  have N3 := Fr.app N0 N3q
  obtain ⟨T4, h4, X4, e4, E4, A4, D4, -, st4⟩ := newO X3 hx hZ hown (hw _ (List.mem_of_getElem? (i := 0) rfl)) (hw _ (List.mem_of_getElem? (i := 1) rfl)) (hw _ (List.mem_of_getElem? (i := 2) rfl)) rfl (g := (mkF m 9 #[.val (.long q1), .second, .val (.ref b2), .unset, .unset, .unset, .unset, .unset, .unset, .unset, .unset, .unset, .unset, .unset, .unset, .unset, .unset, .unset] [])) rfl (hb hby at_9) (by decide) (by decide)
  obtain ⟨b4, g4⟩ : ∃ z, z = T3.heap.size := ⟨_, rfl⟩
  rw [← g4] at A4 D4 st4
  have g_b4 : n0 ≤ b4 := Nat.le_trans (Nat.le_trans (Nat.le_trans Z0 E2.1) K3.1) (Nat.le_of_eq g4.symm)
  have sz_b4 : h0.size ≤ b4 := Nat.le_trans (Nat.le_trans (Nat.le_trans (Nat.le_refl h0.size) E2.1) K3.1) (Nat.le_of_eq g4.symm)
  have F_state_b4 : Fld Z h4 b4 "com/example/switchyard/switchyard/model/SeededRandom" "state" "J" (.long (0 : Int64)) := D4 (Or.inl (hw _ (List.mem_of_getElem? (i := 10) rfl))) (ty := .long) (by decide)
  obtain ⟨_, _, ⟨T5, L5, k5, n5⟩, -, X5, ⟨Lc5, hQ5, l5, y5, z5⟩, st5⟩ := X4.specialBack hx (y := (⟨"com/example/switchyard/switchyard/model/SeededRandom", "<init>", "(J)V"⟩ : MethodName)) rfl hown (mvT hZ (hw _ (List.mem_of_getElem? (i := 3) rfl))) (mvT hZ (hw _ (List.mem_of_getElem? (i := 4) rfl))) (mvT hZ (hw _ (List.mem_of_getElem? (i := 5) rfl))) (by decide) (backOf (W := 1) (rm1 l Z a0 hw [] b4 q1 (0 : Int64) h4 n0 (Nat.le_trans (Nat.le_trans (Nat.le_trans Z0 E2.1) K3.1) E4.1) A4 F_state_b4 g_b4) hZ (hw _ (List.mem_of_getElem? (i := 5) rfl)) (hw _ (List.mem_of_getElem? (i := 2) rfl)) (by decide) (by decide)) (g := (mkF m 14 #[.val (.long q1), .second, .val (.ref b2), .unset, .unset, .unset, .unset, .unset, .unset, .unset, .unset, .unset, .unset, .unset, .unset, .unset, .unset, .unset] [(.long q1), (.ref b4), (.ref b4)])) rfl (by rw [hml]; rfl) (Steps.refl _) (a := b4) (argsL := [(.long q1)]) (rest := [(.ref b4)]) (lenOf pd__28J_29V rfl) rfl (by show 2 * 0 + _ ≤ _; exact Nat.le_of_eq rfl) (hb hby at_14) (fun _ _ => ⟨rfl, e4, (by decide : 2 + 0 ≤ _), (by decide : 2 + 0 ≤ _)⟩)
  dsimp only [Pt.U, Pt.locs, Pt.cells, Pt.slots] at X5 l5 y5 z5 st5 hQ5
  subst l5 y5 z5
  obtain ⟨rfl, N5q, K5, i5_0, i5_1⟩ := hQ5
  have N5 := Fr.app N3 N5q
  have f0 := ((i3_1.ext E4).keep K5 (own_nm (Nat.ne_of_lt (Nat.lt_of_lt_of_le i3_0.lt (Nat.le_of_eq g4.symm))) own_n0))
  have f1 := ((i3_0.ext E4).keep K5)
  obtain ⟨cq6, kq6, q6a, q6b, q6c⟩ := isOf hZ rfl f1
  obtain ⟨_, _, ⟨T6, L6, k6, n6⟩, -, X6, ⟨Lc6, hQ6, l6, y6, z6⟩, st6⟩ := X5.virtualBack hx (y := (⟨"com/example/switchyard/switchyard/model/SeededRandom", "nextDouble", "()D"⟩ : MethodName)) (z := (⟨"com/example/switchyard/switchyard/model/SeededRandom", "nextDouble", "()D"⟩ : MethodName)) hown (mvT hZ (hw _ (List.mem_of_getElem? (i := 11) rfl))) (mvT hZ (hw _ (List.mem_of_getElem? (i := 12) rfl))) (notFace_of_selects (args := #[]) (mvT hZ (hw _ (List.mem_of_getElem? (i := 14) rfl)))) (mvT hZ (hw _ (List.mem_of_getElem? (i := 14) rfl))) (mvT hZ (hw _ (List.mem_of_getElem? (i := 13) rfl))) (by decide) (backOf (W := 0) (rm3 l Z a0 hw [] b2 q1 T5.heap n0 (Nat.le_trans (Nat.le_trans (Nat.le_trans (Nat.le_trans Z0 E2.1) K3.1) E4.1) K5.1) f0 f1 g_b2 (own_a1 _ (own_sh11 _).1 (own_sh11 _).2)) hZ (hw _ (List.mem_of_getElem? (i := 15) rfl)) (hw _ (List.mem_of_getElem? (i := 2) rfl)) (by decide) (by decide)) q6a q6c (g := (mkF m 19 #[.val (.long q1), .second, .val (.ref b2), .val (.ref b4), .unset, .unset, .unset, .unset, .unset, .unset, .unset, .unset, .unset, .unset, .unset, .unset, .unset, .unset] [(.ref b2)])) rfl (by rw [hml]; rfl) (Steps.refl _) (argsL := []) (rest := []) (lenOf pd__28_29D rfl) rfl (by show 2 * 0 + _ ≤ _; exact Nat.le_of_eq rfl) (hb hby at_19) (fun _ _ => ⟨rfl, rfl, (by decide : 2 + 0 ≤ _), (by decide : 2 + 0 ≤ _)⟩)
  dsimp only [Pt.U, Pt.locs, Pt.cells, Pt.slots] at X6 l6 y6 z6 st6 hQ6
  subst l6 y6 z6
  obtain ⟨rfl, N6q, K6, i6_0, i6_1⟩ := hQ6
  have N6 := Fr.app N5 N6q
  have f2 := (i5_1.keep K6 (own_nm (Ne.symm (Nat.ne_of_lt (Nat.lt_of_lt_of_le i3_0.lt (Nat.le_of_eq g4.symm)))) own_n0))
  have f3 := (i5_0.keep K6)
  obtain ⟨cq7, kq7, q7a, q7b, q7c⟩ := isOf hZ rfl f3
  obtain ⟨_, _, ⟨T7, L7, k7, n7⟩, -, X7, ⟨Lc7, hQ7, l7, y7, z7⟩, st7⟩ := X6.virtualBack hx (y := (⟨"com/example/switchyard/switchyard/model/SeededRandom", "nextLong", "()J"⟩ : MethodName)) (z := (⟨"com/example/switchyard/switchyard/model/SeededRandom", "nextLong", "()J"⟩ : MethodName)) hown (mvT hZ (hw _ (List.mem_of_getElem? (i := 25) rfl))) (mvT hZ (hw _ (List.mem_of_getElem? (i := 17) rfl))) (notFace_of_selects (args := #[]) (mvT hZ (hw _ (List.mem_of_getElem? (i := 19) rfl)))) (mvT hZ (hw _ (List.mem_of_getElem? (i := 19) rfl))) (mvT hZ (hw _ (List.mem_of_getElem? (i := 18) rfl))) (by decide) (backOf (W := 0) (rm4 l Z a0 hw [] b4 q1 T6.heap n0 (Nat.le_trans (Nat.le_trans (Nat.le_trans (Nat.le_trans (Nat.le_trans Z0 E2.1) K3.1) E4.1) K5.1) K6.1) f2 f3 g_b4) hZ (hw _ (List.mem_of_getElem? (i := 20) rfl)) (hw _ (List.mem_of_getElem? (i := 2) rfl)) (by decide) (by decide)) q7a q7c (g := (mkF m 25 #[.val (.long q1), .second, .val (.ref b2), .val (.ref b4), .val (.double (t3_1 q1)), .second, .unset, .unset, .unset, .unset, .unset, .unset, .unset, .unset, .unset, .unset, .unset, .unset] [(.ref b4)])) rfl (by rw [hml]; rfl) (Steps.refl _) (argsL := []) (rest := []) (lenOf pd__28_29J rfl) rfl (by show 2 * 0 + _ ≤ _; exact Nat.le_of_eq rfl) (hb hby at_25) (fun _ _ => ⟨rfl, rfl, (by decide : 2 + 0 ≤ _), (by decide : 2 + 0 ≤ _)⟩)
  dsimp only [Pt.U, Pt.locs, Pt.cells, Pt.slots] at X7 l7 y7 z7 st7 hQ7
  subst l7 y7 z7
  obtain ⟨rfl, N7q, K7, i7_0, i7_1⟩ := hQ7
  have N7 := Fr.app N6 N7q
  have f4 := (i6_1.keep K7 (own_nm (Nat.ne_of_lt (Nat.lt_of_lt_of_le i3_0.lt (Nat.le_of_eq g4.symm))) own_n0))
  have f5 := (i6_0.keep K7)
  obtain ⟨cq8, kq8, q8a, q8b, q8c⟩ := isOf hZ rfl f5
  obtain ⟨_, _, ⟨T8, L8, k8, n8⟩, -, X8, ⟨Lc8, hQ8, l8, y8, z8⟩, st8⟩ := X7.virtualBack hx (y := (⟨"com/example/switchyard/switchyard/model/SeededRandom", "nextDouble", "()D"⟩ : MethodName)) (z := (⟨"com/example/switchyard/switchyard/model/SeededRandom", "nextDouble", "()D"⟩ : MethodName)) hown (mvT hZ (hw _ (List.mem_of_getElem? (i := 11) rfl))) (mvT hZ (hw _ (List.mem_of_getElem? (i := 12) rfl))) (notFace_of_selects (args := #[]) (mvT hZ (hw _ (List.mem_of_getElem? (i := 14) rfl)))) (mvT hZ (hw _ (List.mem_of_getElem? (i := 14) rfl))) (mvT hZ (hw _ (List.mem_of_getElem? (i := 13) rfl))) (by decide) (backOf (W := 0) (rm3 l Z a0 hw [] b2 (q1 + (-7046029254386353131 : Int64)) T7.heap n0 (Nat.le_trans (Nat.le_trans (Nat.le_trans (Nat.le_trans (Nat.le_trans (Nat.le_trans Z0 E2.1) K3.1) E4.1) K5.1) K6.1) K7.1) f4 f5 g_b2 (own_a1 _ (own_sh11 _).1 (own_sh11 _).2)) hZ (hw _ (List.mem_of_getElem? (i := 15) rfl)) (hw _ (List.mem_of_getElem? (i := 2) rfl)) (by decide) (by decide)) q8a q8c (g := (mkF m 34 #[.val (.long q1), .second, .val (.ref b2), .val (.ref b4), .val (.double (t3_1 q1)), .second, .val (.long (t0_0 q1)), .second, .unset, .unset, .unset, .unset, .unset, .unset, .unset, .unset, .unset, .unset] [(.ref b2)])) rfl (by rw [hml]; rfl) (Steps.refl _) (argsL := []) (rest := []) (lenOf pd__28_29D rfl) rfl (by show 2 * 0 + _ ≤ _; exact Nat.le_of_eq rfl) (hb hby at_34) (fun _ _ => ⟨rfl, rfl, (by decide : 2 + 0 ≤ _), (by decide : 2 + 0 ≤ _)⟩)
  dsimp only [Pt.U, Pt.locs, Pt.cells, Pt.slots] at X8 l8 y8 z8 st8 hQ8
  subst l8 y8 z8
  obtain ⟨rfl, N8q, K8, i8_0, i8_1⟩ := hQ8
  have N8 := Fr.app N7 N8q
  have f6 := (i7_1.keep K8 (own_nm (Ne.symm (Nat.ne_of_lt (Nat.lt_of_lt_of_le i3_0.lt (Nat.le_of_eq g4.symm)))) own_n0))
  have f7 := (i7_0.keep K8)
  obtain ⟨cq9, kq9, q9a, q9b, q9c⟩ := isOf hZ rfl f7
  obtain ⟨_, _, ⟨T9, L9, k9, n9⟩, -, X9, ⟨Lc9, hQ9, l9, y9, z9⟩, st9⟩ := X8.virtualBack hx (y := (⟨"com/example/switchyard/switchyard/model/SeededRandom", "nextLong", "()J"⟩ : MethodName)) (z := (⟨"com/example/switchyard/switchyard/model/SeededRandom", "nextLong", "()J"⟩ : MethodName)) hown (mvT hZ (hw _ (List.mem_of_getElem? (i := 25) rfl))) (mvT hZ (hw _ (List.mem_of_getElem? (i := 17) rfl))) (notFace_of_selects (args := #[]) (mvT hZ (hw _ (List.mem_of_getElem? (i := 19) rfl)))) (mvT hZ (hw _ (List.mem_of_getElem? (i := 19) rfl))) (mvT hZ (hw _ (List.mem_of_getElem? (i := 18) rfl))) (by decide) (backOf (W := 0) (rm4 l Z a0 hw [] b4 (q1 + (-7046029254386353131 : Int64)) T8.heap n0 (Nat.le_trans (Nat.le_trans (Nat.le_trans (Nat.le_trans (Nat.le_trans (Nat.le_trans (Nat.le_trans Z0 E2.1) K3.1) E4.1) K5.1) K6.1) K7.1) K8.1) f6 f7 g_b4) hZ (hw _ (List.mem_of_getElem? (i := 20) rfl)) (hw _ (List.mem_of_getElem? (i := 2) rfl)) (by decide) (by decide)) q9a q9c (g := (mkF m 40 #[.val (.long q1), .second, .val (.ref b2), .val (.ref b4), .val (.double (t3_1 q1)), .second, .val (.long (t0_0 q1)), .second, .val (.double (t3_1 (q1 + (-7046029254386353131 : Int64)))), .second, .unset, .unset, .unset, .unset, .unset, .unset, .unset, .unset] [(.ref b4)])) rfl (by rw [hml]; rfl) (Steps.refl _) (argsL := []) (rest := []) (lenOf pd__28_29J rfl) rfl (by show 2 * 0 + _ ≤ _; exact Nat.le_of_eq rfl) (hb hby at_40) (fun _ _ => ⟨rfl, rfl, (by decide : 2 + 0 ≤ _), (by decide : 2 + 0 ≤ _)⟩)
  dsimp only [Pt.U, Pt.locs, Pt.cells, Pt.slots] at X9 l9 y9 z9 st9 hQ9
  subst l9 y9 z9
  obtain ⟨rfl, N9q, K9, i9_0, i9_1⟩ := hQ9
  have N9 := Fr.app N8 N9q
  have f8 := (i8_1.keep K9 (own_nm (Nat.ne_of_lt (Nat.lt_of_lt_of_le i3_0.lt (Nat.le_of_eq g4.symm))) own_n0))
  have f9 := (i8_0.keep K9)
  obtain ⟨cq10, kq10, q10a, q10b, q10c⟩ := isOf hZ rfl f9
  obtain ⟨_, _, ⟨T10, L10, k10, n10⟩, -, X10, ⟨Lc10, hQ10, l10, y10, z10⟩, st10⟩ := X9.virtualBack hx (y := (⟨"com/example/switchyard/switchyard/model/SeededRandom", "nextLong", "()J"⟩ : MethodName)) (z := (⟨"com/example/switchyard/switchyard/model/SeededRandom", "nextLong", "()J"⟩ : MethodName)) hown (mvT hZ (hw _ (List.mem_of_getElem? (i := 25) rfl))) (mvT hZ (hw _ (List.mem_of_getElem? (i := 17) rfl))) (notFace_of_selects (args := #[]) (mvT hZ (hw _ (List.mem_of_getElem? (i := 19) rfl)))) (mvT hZ (hw _ (List.mem_of_getElem? (i := 19) rfl))) (mvT hZ (hw _ (List.mem_of_getElem? (i := 18) rfl))) (by decide) (backOf (W := 0) (rm4 l Z a0 hw [] b2 ((q1 + (-7046029254386353131 : Int64)) + (-7046029254386353131 : Int64)) T9.heap n0 (Nat.le_trans (Nat.le_trans (Nat.le_trans (Nat.le_trans (Nat.le_trans (Nat.le_trans (Nat.le_trans (Nat.le_trans Z0 E2.1) K3.1) E4.1) K5.1) K6.1) K7.1) K8.1) K9.1) f8 f9 g_b2) hZ (hw _ (List.mem_of_getElem? (i := 20) rfl)) (hw _ (List.mem_of_getElem? (i := 2) rfl)) (by decide) (by decide)) q10a q10c (g := (mkF m 49 #[.val (.long q1), .second, .val (.ref b2), .val (.ref b4), .val (.double (t3_1 q1)), .second, .val (.long (t0_0 q1)), .second, .val (.double (t3_1 (q1 + (-7046029254386353131 : Int64)))), .second, .val (.long (t0_1 q1)), .second, .unset, .unset, .unset, .unset, .unset, .unset] [(.ref b2)])) rfl (by rw [hml]; rfl) (Steps.refl _) (argsL := []) (rest := []) (lenOf pd__28_29J rfl) rfl (by show 2 * 0 + _ ≤ _; exact Nat.le_of_eq rfl) (hb hby at_49) (fun _ _ => ⟨rfl, rfl, (by decide : 2 + 0 ≤ _), (by decide : 2 + 0 ≤ _)⟩)
  dsimp only [Pt.U, Pt.locs, Pt.cells, Pt.slots] at X10 l10 y10 z10 st10 hQ10
  subst l10 y10 z10
  obtain ⟨rfl, N10q, K10, i10_0, i10_1⟩ := hQ10
  have N10 := Fr.app N9 N10q
  have f10 := (i9_1.keep K10 (own_nm (Ne.symm (Nat.ne_of_lt (Nat.lt_of_lt_of_le i3_0.lt (Nat.le_of_eq g4.symm)))) own_n0))
  have f11 := (i9_0.keep K10)
  obtain ⟨cq11, kq11, q11a, q11b, q11c⟩ := isOf hZ rfl f11
  obtain ⟨_, _, ⟨T11, L11, k11, n11⟩, -, X11, ⟨Lc11, hQ11, l11, y11, z11⟩, st11⟩ := X10.virtualBack hx (y := (⟨"com/example/switchyard/switchyard/model/SeededRandom", "nextLong", "()J"⟩ : MethodName)) (z := (⟨"com/example/switchyard/switchyard/model/SeededRandom", "nextLong", "()J"⟩ : MethodName)) hown (mvT hZ (hw _ (List.mem_of_getElem? (i := 25) rfl))) (mvT hZ (hw _ (List.mem_of_getElem? (i := 17) rfl))) (notFace_of_selects (args := #[]) (mvT hZ (hw _ (List.mem_of_getElem? (i := 19) rfl)))) (mvT hZ (hw _ (List.mem_of_getElem? (i := 19) rfl))) (mvT hZ (hw _ (List.mem_of_getElem? (i := 18) rfl))) (by decide) (backOf (W := 0) (rm4 l Z a0 hw [] b4 ((q1 + (-7046029254386353131 : Int64)) + (-7046029254386353131 : Int64)) T10.heap n0 (Nat.le_trans (Nat.le_trans (Nat.le_trans (Nat.le_trans (Nat.le_trans (Nat.le_trans (Nat.le_trans (Nat.le_trans (Nat.le_trans Z0 E2.1) K3.1) E4.1) K5.1) K6.1) K7.1) K8.1) K9.1) K10.1) f10 f11 g_b4) hZ (hw _ (List.mem_of_getElem? (i := 20) rfl)) (hw _ (List.mem_of_getElem? (i := 2) rfl)) (by decide) (by decide)) q11a q11c (g := (mkF m 55 #[.val (.long q1), .second, .val (.ref b2), .val (.ref b4), .val (.double (t3_1 q1)), .second, .val (.long (t0_0 q1)), .second, .val (.double (t3_1 (q1 + (-7046029254386353131 : Int64)))), .second, .val (.long (t0_1 q1)), .second, .val (.long (t0_2 q1)), .second, .unset, .unset, .unset, .unset] [(.ref b4)])) rfl (by rw [hml]; rfl) (Steps.refl _) (argsL := []) (rest := []) (lenOf pd__28_29J rfl) rfl (by show 2 * 0 + _ ≤ _; exact Nat.le_of_eq rfl) (hb hby at_55) (fun _ _ => ⟨rfl, rfl, (by decide : 2 + 0 ≤ _), (by decide : 2 + 0 ≤ _)⟩)
  dsimp only [Pt.U, Pt.locs, Pt.cells, Pt.slots] at X11 l11 y11 z11 st11 hQ11
  subst l11 y11 z11
  obtain ⟨rfl, N11q, K11, i11_0, i11_1⟩ := hQ11
  have N11 := Fr.app N10 N11q
  obtain ⟨_, _, ⟨T12, L12, k12, n12⟩, -, X12, ⟨Lc12, hQ12, l12, y12, z12⟩, st12⟩ := Jvm.LawKit.callS X11 hx (y := (⟨"com/example/switchyard/switchyard/model/SeededRandomNextDoublePinLaw", "matches", "(DJ)Z"⟩ : MethodName)) hown (mvT hZ (hw _ (List.mem_of_getElem? (i := 26) rfl))) (mvT hZ (hw _ (List.mem_of_getElem? (i := 27) rfl))) (mvT hZ (hw _ (List.mem_of_getElem? (i := 28) rfl))) (mvT hZ (hw _ (List.mem_of_getElem? (i := 29) rfl))) (by decide) (backOf (W := 0) (rm5 l Z a0 hw [] (t3_1 q1) (t0_0 q1) T11.heap n0 (Nat.le_trans (Nat.le_trans (Nat.le_trans (Nat.le_trans (Nat.le_trans (Nat.le_trans (Nat.le_trans (Nat.le_trans (Nat.le_trans (Nat.le_trans Z0 E2.1) K3.1) E4.1) K5.1) K6.1) K7.1) K8.1) K9.1) K10.1) K11.1) (own_a2 _ (own_sh11 _).1 (own_sh11 _).2) (own_a3 _ (own_sh11 _).1 (own_sh11 _).2) (own_a4 _ (own_sh11 _).1 (own_sh11 _).2) (own_a5 _ (own_sh11 _).1 (own_sh11 _).2) (own_a6 _ (own_sh11 _).1 (own_sh11 _).2)) hZ (hw _ (List.mem_of_getElem? (i := 29) rfl)) (hw _ (List.mem_of_getElem? (i := 28) rfl)) (by decide) (by decide)) (g := (mkF m 64 #[.val (.long q1), .second, .val (.ref b2), .val (.ref b4), .val (.double (t3_1 q1)), .second, .val (.long (t0_0 q1)), .second, .val (.double (t3_1 (q1 + (-7046029254386353131 : Int64)))), .second, .val (.long (t0_1 q1)), .second, .val (.long (t0_2 q1)), .second, .val (.long (t0_2 q1)), .second, .unset, .unset] [(.long (t0_0 q1)), (.double (t3_1 q1))])) rfl (by rw [hml]; rfl) (argsL := [(.double (t3_1 q1)), (.long (t0_0 q1))]) (rest := []) (lenOf pd__28DJ_29Z rfl) rfl (by show 2 * 0 + _ ≤ _; exact Nat.le_of_eq rfl) (hb hby at_64) (fun _ _ => ⟨rfl, rfl, (by decide : 2 + 0 ≤ _), (by decide : 2 + 0 ≤ _)⟩)
  dsimp only [Pt.U, Pt.locs, Pt.cells, Pt.slots] at X12 l12 y12 z12 st12 hQ12
  subst l12 y12 z12
  obtain ⟨rfl, N12q, e12⟩ := hQ12
  have N12 := Fr.app N11 N12q
  obtain ⟨_, _, ⟨T13, L13, k13, n13⟩, -, X13, ⟨Lc13, hQ13, l13, y13, z13⟩, st13⟩ := Jvm.LawKit.callS X12 hx (y := (⟨"com/example/switchyard/switchyard/model/SeededRandomNextDoublePinLaw", "matches", "(DJ)Z"⟩ : MethodName)) hown (mvT hZ (hw _ (List.mem_of_getElem? (i := 26) rfl))) (mvT hZ (hw _ (List.mem_of_getElem? (i := 27) rfl))) (mvT hZ (hw _ (List.mem_of_getElem? (i := 28) rfl))) (mvT hZ (hw _ (List.mem_of_getElem? (i := 29) rfl))) (by decide) (backOf (W := 0) (rm5 l Z a0 hw [] (t3_1 (q1 + (-7046029254386353131 : Int64))) (t0_1 q1) T11.heap n0 (Nat.le_trans (Nat.le_trans (Nat.le_trans (Nat.le_trans (Nat.le_trans (Nat.le_trans (Nat.le_trans (Nat.le_trans (Nat.le_trans (Nat.le_trans Z0 E2.1) K3.1) E4.1) K5.1) K6.1) K7.1) K8.1) K9.1) K10.1) K11.1) (own_a2 _ (own_sh11 _).1 (own_sh11 _).2) (own_a3 _ (own_sh11 _).1 (own_sh11 _).2) (own_a4 _ (own_sh11 _).1 (own_sh11 _).2) (own_a5 _ (own_sh11 _).1 (own_sh11 _).2) (own_a6 _ (own_sh11 _).1 (own_sh11 _).2)) hZ (hw _ (List.mem_of_getElem? (i := 29) rfl)) (hw _ (List.mem_of_getElem? (i := 28) rfl)) (by decide) (by decide)) (g := (mkF m 73 #[.val (.long q1), .second, .val (.ref b2), .val (.ref b4), .val (.double (t3_1 q1)), .second, .val (.long (t0_0 q1)), .second, .val (.double (t3_1 (q1 + (-7046029254386353131 : Int64)))), .second, .val (.long (t0_1 q1)), .second, .val (.long (t0_2 q1)), .second, .val (.long (t0_2 q1)), .second, .val (.int (1 : Int32)), .unset] [(.long (t0_1 q1)), (.double (t3_1 (q1 + (-7046029254386353131 : Int64))))])) rfl (by rw [hml]; rfl) (argsL := [(.double (t3_1 (q1 + (-7046029254386353131 : Int64)))), (.long (t0_1 q1))]) (rest := []) (lenOf pd__28DJ_29Z rfl) rfl (by show 2 * 0 + _ ≤ _; exact Nat.le_of_eq rfl) (hb hby at_73) (fun _ _ => ⟨rfl, e12, (by decide : 2 + 0 ≤ _), (by decide : 2 + 0 ≤ _)⟩)
  dsimp only [Pt.U, Pt.locs, Pt.cells, Pt.slots] at X13 l13 y13 z13 st13 hQ13
  subst l13 y13 z13
  obtain ⟨rfl, N13q, e13⟩ := hQ13
  have N13 := Fr.app N12 N13q
  obtain ⟨fs, hr, hrun, hended, hW, hsame⟩ := X13.leave (v := some (.int (1 : Int32))) (fun h => by rw [Bd.returns] at h; cases h)
  refine ⟨_, _, pre0 _ ?_, hrun, hended, _, _, rfl, ?_, ⟨_, rfl⟩, hW, hsame.mono (by decide) (by decide)⟩
  · show Steps p.tables e below (s₁.setTop (mkF m 0 #[.val (.long q1), .second, .unset, .unset, .unset, .unset, .unset, .unset, .unset, .unset, .unset, .unset, .unset, .unset, .unset, .unset, .unset, .unset] [])) _
    refine st2 _ ?_
    show Steps p.tables e below (T2.setTop (mkF m 3 #[.val (.long q1), .second, .unset, .unset, .unset, .unset, .unset, .unset, .unset, .unset, .unset, .unset, .unset, .unset, .unset, .unset, .unset, .unset] [(.ref b2)])) _
    refine XS.dup X2.here hx rfl (hb hby at_3) rfl rfl ?_
    show Steps p.tables e below (T2.setTop (mkF m 4 #[.val (.long q1), .second, .unset, .unset, .unset, .unset, .unset, .unset, .unset, .unset, .unset, .unset, .unset, .unset, .unset, .unset, .unset, .unset] [(.ref b2), (.ref b2)])) _
    refine XS.lloadN X2.here hx rfl (hb hby at_4) rfl ?_
    show Steps p.tables e below (T2.setTop (mkF m 5 #[.val (.long q1), .second, .unset, .unset, .unset, .unset, .unset, .unset, .unset, .unset, .unset, .unset, .unset, .unset, .unset, .unset, .unset, .unset] [(.long q1), (.ref b2), (.ref b2)])) _
    refine st3.trans ?_
    show Steps p.tables e below (T3.setTop (mkF m 8 #[.val (.long q1), .second, .unset, .unset, .unset, .unset, .unset, .unset, .unset, .unset, .unset, .unset, .unset, .unset, .unset, .unset, .unset, .unset] [(.ref b2)])) _
    refine XS.astoreN X3.here hx rfl (hb hby at_8) rfl rfl (l' := #[.val (.long q1), .second, .val (.ref b2), .unset, .unset, .unset, .unset, .unset, .unset, .unset, .unset, .unset, .unset, .unset, .unset, .unset, .unset, .unset]) rfl ?_
    show Steps p.tables e below (T3.setTop (mkF m 9 #[.val (.long q1), .second, .val (.ref b2), .unset, .unset, .unset, .unset, .unset, .unset, .unset, .unset, .unset, .unset, .unset, .unset, .unset, .unset, .unset] [])) _
    refine st4 _ ?_
    show Steps p.tables e below (T4.setTop (mkF m 12 #[.val (.long q1), .second, .val (.ref b2), .unset, .unset, .unset, .unset, .unset, .unset, .unset, .unset, .unset, .unset, .unset, .unset, .unset, .unset, .unset] [(.ref b4)])) _
    refine XS.dup X4.here hx rfl (hb hby at_12) rfl rfl ?_
    show Steps p.tables e below (T4.setTop (mkF m 13 #[.val (.long q1), .second, .val (.ref b2), .unset, .unset, .unset, .unset, .unset, .unset, .unset, .unset, .unset, .unset, .unset, .unset, .unset, .unset, .unset] [(.ref b4), (.ref b4)])) _
    refine XS.lloadN X4.here hx rfl (hb hby at_13) rfl ?_
    show Steps p.tables e below (T4.setTop (mkF m 14 #[.val (.long q1), .second, .val (.ref b2), .unset, .unset, .unset, .unset, .unset, .unset, .unset, .unset, .unset, .unset, .unset, .unset, .unset, .unset, .unset] [(.long q1), (.ref b4), (.ref b4)])) _
    refine st5.trans ?_
    show Steps p.tables e below (T5.setTop (mkF m 17 #[.val (.long q1), .second, .val (.ref b2), .unset, .unset, .unset, .unset, .unset, .unset, .unset, .unset, .unset, .unset, .unset, .unset, .unset, .unset, .unset] [(.ref b4)])) _
    refine XS.astoreN X5.here hx rfl (hb hby at_17) rfl rfl (l' := #[.val (.long q1), .second, .val (.ref b2), .val (.ref b4), .unset, .unset, .unset, .unset, .unset, .unset, .unset, .unset, .unset, .unset, .unset, .unset, .unset, .unset]) rfl ?_
    show Steps p.tables e below (T5.setTop (mkF m 18 #[.val (.long q1), .second, .val (.ref b2), .val (.ref b4), .unset, .unset, .unset, .unset, .unset, .unset, .unset, .unset, .unset, .unset, .unset, .unset, .unset, .unset] [])) _
    refine XS.aloadN X5.here hx rfl (hb hby at_18) rfl rfl ?_
    show Steps p.tables e below (T5.setTop (mkF m 19 #[.val (.long q1), .second, .val (.ref b2), .val (.ref b4), .unset, .unset, .unset, .unset, .unset, .unset, .unset, .unset, .unset, .unset, .unset, .unset, .unset, .unset] [(.ref b2)])) _
    refine st6.trans ?_
    show Steps p.tables e below (T6.setTop (mkF m 22 #[.val (.long q1), .second, .val (.ref b2), .val (.ref b4), .unset, .unset, .unset, .unset, .unset, .unset, .unset, .unset, .unset, .unset, .unset, .unset, .unset, .unset] [(.double (t3_1 q1))])) _
    refine XS.dstore X6.here hx rfl (hb hby at_22) rfl (l' := #[.val (.long q1), .second, .val (.ref b2), .val (.ref b4), .val (.double (t3_1 q1)), .second, .unset, .unset, .unset, .unset, .unset, .unset, .unset, .unset, .unset, .unset, .unset, .unset]) rfl ?_
    show Steps p.tables e below (T6.setTop (mkF m 24 #[.val (.long q1), .second, .val (.ref b2), .val (.ref b4), .val (.double (t3_1 q1)), .second, .unset, .unset, .unset, .unset, .unset, .unset, .unset, .unset, .unset, .unset, .unset, .unset] [])) _
    refine XS.aloadN X6.here hx rfl (hb hby at_24) rfl rfl ?_
    show Steps p.tables e below (T6.setTop (mkF m 25 #[.val (.long q1), .second, .val (.ref b2), .val (.ref b4), .val (.double (t3_1 q1)), .second, .unset, .unset, .unset, .unset, .unset, .unset, .unset, .unset, .unset, .unset, .unset, .unset] [(.ref b4)])) _
    refine st7.trans ?_
    show Steps p.tables e below (T7.setTop (mkF m 28 #[.val (.long q1), .second, .val (.ref b2), .val (.ref b4), .val (.double (t3_1 q1)), .second, .unset, .unset, .unset, .unset, .unset, .unset, .unset, .unset, .unset, .unset, .unset, .unset] [(.long (t4_2 q1))])) _
    refine XS.bipush X7.here hx rfl (hb hby at_28) ?_
    show Steps p.tables e below (T7.setTop (mkF m 30 #[.val (.long q1), .second, .val (.ref b2), .val (.ref b4), .val (.double (t3_1 q1)), .second, .unset, .unset, .unset, .unset, .unset, .unset, .unset, .unset, .unset, .unset, .unset, .unset] [(.int (11 : Int32)), (.long (t4_2 q1))])) _
    refine XS.lushr X7.here hx rfl (hb hby at_30) rfl ?_
    show Steps p.tables e below (T7.setTop (mkF m 31 #[.val (.long q1), .second, .val (.ref b2), .val (.ref b4), .val (.double (t3_1 q1)), .second, .unset, .unset, .unset, .unset, .unset, .unset, .unset, .unset, .unset, .unset, .unset, .unset] [(.long (((t4_2 q1).toUInt64 >>> ((11 : Int32) &&& 0x3f).toInt64.toUInt64).toInt64))])) _
    refine XS.lstore X7.here hx rfl (hb hby at_31) rfl (l' := #[.val (.long q1), .second, .val (.ref b2), .val (.ref b4), .val (.double (t3_1 q1)), .second, .val (.long (t0_0 q1)), .second, .unset, .unset, .unset, .unset, .unset, .unset, .unset, .unset, .unset, .unset]) rfl ?_
    show Steps p.tables e below (T7.setTop (mkF m 33 #[.val (.long q1), .second, .val (.ref b2), .val (.ref b4), .val (.double (t3_1 q1)), .second, .val (.long (t0_0 q1)), .second, .unset, .unset, .unset, .unset, .unset, .unset, .unset, .unset, .unset, .unset] [])) _
    refine XS.aloadN X7.here hx rfl (hb hby at_33) rfl rfl ?_
    show Steps p.tables e below (T7.setTop (mkF m 34 #[.val (.long q1), .second, .val (.ref b2), .val (.ref b4), .val (.double (t3_1 q1)), .second, .val (.long (t0_0 q1)), .second, .unset, .unset, .unset, .unset, .unset, .unset, .unset, .unset, .unset, .unset] [(.ref b2)])) _
    refine st8.trans ?_
    show Steps p.tables e below (T8.setTop (mkF m 37 #[.val (.long q1), .second, .val (.ref b2), .val (.ref b4), .val (.double (t3_1 q1)), .second, .val (.long (t0_0 q1)), .second, .unset, .unset, .unset, .unset, .unset, .unset, .unset, .unset, .unset, .unset] [(.double (t3_1 (q1 + (-7046029254386353131 : Int64))))])) _
    refine XS.dstore X8.here hx rfl (hb hby at_37) rfl (l' := #[.val (.long q1), .second, .val (.ref b2), .val (.ref b4), .val (.double (t3_1 q1)), .second, .val (.long (t0_0 q1)), .second, .val (.double (t3_1 (q1 + (-7046029254386353131 : Int64)))), .second, .unset, .unset, .unset, .unset, .unset, .unset, .unset, .unset]) rfl ?_
    show Steps p.tables e below (T8.setTop (mkF m 39 #[.val (.long q1), .second, .val (.ref b2), .val (.ref b4), .val (.double (t3_1 q1)), .second, .val (.long (t0_0 q1)), .second, .val (.double (t3_1 (q1 + (-7046029254386353131 : Int64)))), .second, .unset, .unset, .unset, .unset, .unset, .unset, .unset, .unset] [])) _
    refine XS.aloadN X8.here hx rfl (hb hby at_39) rfl rfl ?_
    show Steps p.tables e below (T8.setTop (mkF m 40 #[.val (.long q1), .second, .val (.ref b2), .val (.ref b4), .val (.double (t3_1 q1)), .second, .val (.long (t0_0 q1)), .second, .val (.double (t3_1 (q1 + (-7046029254386353131 : Int64)))), .second, .unset, .unset, .unset, .unset, .unset, .unset, .unset, .unset] [(.ref b4)])) _
    refine st9.trans ?_
    show Steps p.tables e below (T9.setTop (mkF m 43 #[.val (.long q1), .second, .val (.ref b2), .val (.ref b4), .val (.double (t3_1 q1)), .second, .val (.long (t0_0 q1)), .second, .val (.double (t3_1 (q1 + (-7046029254386353131 : Int64)))), .second, .unset, .unset, .unset, .unset, .unset, .unset, .unset, .unset] [(.long (t4_2 (q1 + (-7046029254386353131 : Int64))))])) _
    refine XS.bipush X9.here hx rfl (hb hby at_43) ?_
    show Steps p.tables e below (T9.setTop (mkF m 45 #[.val (.long q1), .second, .val (.ref b2), .val (.ref b4), .val (.double (t3_1 q1)), .second, .val (.long (t0_0 q1)), .second, .val (.double (t3_1 (q1 + (-7046029254386353131 : Int64)))), .second, .unset, .unset, .unset, .unset, .unset, .unset, .unset, .unset] [(.int (11 : Int32)), (.long (t4_2 (q1 + (-7046029254386353131 : Int64))))])) _
    refine XS.lushr X9.here hx rfl (hb hby at_45) rfl ?_
    show Steps p.tables e below (T9.setTop (mkF m 46 #[.val (.long q1), .second, .val (.ref b2), .val (.ref b4), .val (.double (t3_1 q1)), .second, .val (.long (t0_0 q1)), .second, .val (.double (t3_1 (q1 + (-7046029254386353131 : Int64)))), .second, .unset, .unset, .unset, .unset, .unset, .unset, .unset, .unset] [(.long (((t4_2 (q1 + (-7046029254386353131 : Int64))).toUInt64 >>> ((11 : Int32) &&& 0x3f).toInt64.toUInt64).toInt64))])) _
    refine XS.lstore X9.here hx rfl (hb hby at_46) rfl (l' := #[.val (.long q1), .second, .val (.ref b2), .val (.ref b4), .val (.double (t3_1 q1)), .second, .val (.long (t0_0 q1)), .second, .val (.double (t3_1 (q1 + (-7046029254386353131 : Int64)))), .second, .val (.long (t0_1 q1)), .second, .unset, .unset, .unset, .unset, .unset, .unset]) rfl ?_
    show Steps p.tables e below (T9.setTop (mkF m 48 #[.val (.long q1), .second, .val (.ref b2), .val (.ref b4), .val (.double (t3_1 q1)), .second, .val (.long (t0_0 q1)), .second, .val (.double (t3_1 (q1 + (-7046029254386353131 : Int64)))), .second, .val (.long (t0_1 q1)), .second, .unset, .unset, .unset, .unset, .unset, .unset] [])) _
    refine XS.aloadN X9.here hx rfl (hb hby at_48) rfl rfl ?_
    show Steps p.tables e below (T9.setTop (mkF m 49 #[.val (.long q1), .second, .val (.ref b2), .val (.ref b4), .val (.double (t3_1 q1)), .second, .val (.long (t0_0 q1)), .second, .val (.double (t3_1 (q1 + (-7046029254386353131 : Int64)))), .second, .val (.long (t0_1 q1)), .second, .unset, .unset, .unset, .unset, .unset, .unset] [(.ref b2)])) _
    refine st10.trans ?_
    show Steps p.tables e below (T10.setTop (mkF m 52 #[.val (.long q1), .second, .val (.ref b2), .val (.ref b4), .val (.double (t3_1 q1)), .second, .val (.long (t0_0 q1)), .second, .val (.double (t3_1 (q1 + (-7046029254386353131 : Int64)))), .second, .val (.long (t0_1 q1)), .second, .unset, .unset, .unset, .unset, .unset, .unset] [(.long (t4_2 ((q1 + (-7046029254386353131 : Int64)) + (-7046029254386353131 : Int64))))])) _
    refine XS.lstore X10.here hx rfl (hb hby at_52) rfl (l' := #[.val (.long q1), .second, .val (.ref b2), .val (.ref b4), .val (.double (t3_1 q1)), .second, .val (.long (t0_0 q1)), .second, .val (.double (t3_1 (q1 + (-7046029254386353131 : Int64)))), .second, .val (.long (t0_1 q1)), .second, .val (.long (t0_2 q1)), .second, .unset, .unset, .unset, .unset]) rfl ?_
    show Steps p.tables e below (T10.setTop (mkF m 54 #[.val (.long q1), .second, .val (.ref b2), .val (.ref b4), .val (.double (t3_1 q1)), .second, .val (.long (t0_0 q1)), .second, .val (.double (t3_1 (q1 + (-7046029254386353131 : Int64)))), .second, .val (.long (t0_1 q1)), .second, .val (.long (t0_2 q1)), .second, .unset, .unset, .unset, .unset] [])) _
    refine XS.aloadN X10.here hx rfl (hb hby at_54) rfl rfl ?_
    show Steps p.tables e below (T10.setTop (mkF m 55 #[.val (.long q1), .second, .val (.ref b2), .val (.ref b4), .val (.double (t3_1 q1)), .second, .val (.long (t0_0 q1)), .second, .val (.double (t3_1 (q1 + (-7046029254386353131 : Int64)))), .second, .val (.long (t0_1 q1)), .second, .val (.long (t0_2 q1)), .second, .unset, .unset, .unset, .unset] [(.ref b4)])) _
    refine st11.trans ?_
    show Steps p.tables e below (T11.setTop (mkF m 58 #[.val (.long q1), .second, .val (.ref b2), .val (.ref b4), .val (.double (t3_1 q1)), .second, .val (.long (t0_0 q1)), .second, .val (.double (t3_1 (q1 + (-7046029254386353131 : Int64)))), .second, .val (.long (t0_1 q1)), .second, .val (.long (t0_2 q1)), .second, .unset, .unset, .unset, .unset] [(.long (t4_2 ((q1 + (-7046029254386353131 : Int64)) + (-7046029254386353131 : Int64))))])) _
    refine XS.lstore X11.here hx rfl (hb hby at_58) rfl (l' := #[.val (.long q1), .second, .val (.ref b2), .val (.ref b4), .val (.double (t3_1 q1)), .second, .val (.long (t0_0 q1)), .second, .val (.double (t3_1 (q1 + (-7046029254386353131 : Int64)))), .second, .val (.long (t0_1 q1)), .second, .val (.long (t0_2 q1)), .second, .val (.long (t0_2 q1)), .second, .unset, .unset]) rfl ?_
    show Steps p.tables e below (T11.setTop (mkF m 60 #[.val (.long q1), .second, .val (.ref b2), .val (.ref b4), .val (.double (t3_1 q1)), .second, .val (.long (t0_0 q1)), .second, .val (.double (t3_1 (q1 + (-7046029254386353131 : Int64)))), .second, .val (.long (t0_1 q1)), .second, .val (.long (t0_2 q1)), .second, .val (.long (t0_2 q1)), .second, .unset, .unset] [])) _
    refine XS.dload X11.here hx rfl (hb hby at_60) rfl ?_
    show Steps p.tables e below (T11.setTop (mkF m 62 #[.val (.long q1), .second, .val (.ref b2), .val (.ref b4), .val (.double (t3_1 q1)), .second, .val (.long (t0_0 q1)), .second, .val (.double (t3_1 (q1 + (-7046029254386353131 : Int64)))), .second, .val (.long (t0_1 q1)), .second, .val (.long (t0_2 q1)), .second, .val (.long (t0_2 q1)), .second, .unset, .unset] [(.double (t3_1 q1))])) _
    refine XS.lload X11.here hx rfl (hb hby at_62) rfl ?_
    show Steps p.tables e below (T11.setTop (mkF m 64 #[.val (.long q1), .second, .val (.ref b2), .val (.ref b4), .val (.double (t3_1 q1)), .second, .val (.long (t0_0 q1)), .second, .val (.double (t3_1 (q1 + (-7046029254386353131 : Int64)))), .second, .val (.long (t0_1 q1)), .second, .val (.long (t0_2 q1)), .second, .val (.long (t0_2 q1)), .second, .unset, .unset] [(.long (t0_0 q1)), (.double (t3_1 q1))])) _
    refine st12 _ ?_
    show Steps p.tables e below (T12.setTop (mkF m 67 #[.val (.long q1), .second, .val (.ref b2), .val (.ref b4), .val (.double (t3_1 q1)), .second, .val (.long (t0_0 q1)), .second, .val (.double (t3_1 (q1 + (-7046029254386353131 : Int64)))), .second, .val (.long (t0_1 q1)), .second, .val (.long (t0_2 q1)), .second, .val (.long (t0_2 q1)), .second, .unset, .unset] [(.int (1 : Int32))])) _
    refine XS.istore X12.here hx rfl (hb hby at_67) rfl (l' := #[.val (.long q1), .second, .val (.ref b2), .val (.ref b4), .val (.double (t3_1 q1)), .second, .val (.long (t0_0 q1)), .second, .val (.double (t3_1 (q1 + (-7046029254386353131 : Int64)))), .second, .val (.long (t0_1 q1)), .second, .val (.long (t0_2 q1)), .second, .val (.long (t0_2 q1)), .second, .val (.int (1 : Int32)), .unset]) rfl ?_
    show Steps p.tables e below (T12.setTop (mkF m 69 #[.val (.long q1), .second, .val (.ref b2), .val (.ref b4), .val (.double (t3_1 q1)), .second, .val (.long (t0_0 q1)), .second, .val (.double (t3_1 (q1 + (-7046029254386353131 : Int64)))), .second, .val (.long (t0_1 q1)), .second, .val (.long (t0_2 q1)), .second, .val (.long (t0_2 q1)), .second, .val (.int (1 : Int32)), .unset] [])) _
    refine XS.dload X12.here hx rfl (hb hby at_69) rfl ?_
    show Steps p.tables e below (T12.setTop (mkF m 71 #[.val (.long q1), .second, .val (.ref b2), .val (.ref b4), .val (.double (t3_1 q1)), .second, .val (.long (t0_0 q1)), .second, .val (.double (t3_1 (q1 + (-7046029254386353131 : Int64)))), .second, .val (.long (t0_1 q1)), .second, .val (.long (t0_2 q1)), .second, .val (.long (t0_2 q1)), .second, .val (.int (1 : Int32)), .unset] [(.double (t3_1 (q1 + (-7046029254386353131 : Int64))))])) _
    refine XS.lload X12.here hx rfl (hb hby at_71) rfl ?_
    show Steps p.tables e below (T12.setTop (mkF m 73 #[.val (.long q1), .second, .val (.ref b2), .val (.ref b4), .val (.double (t3_1 q1)), .second, .val (.long (t0_0 q1)), .second, .val (.double (t3_1 (q1 + (-7046029254386353131 : Int64)))), .second, .val (.long (t0_1 q1)), .second, .val (.long (t0_2 q1)), .second, .val (.long (t0_2 q1)), .second, .val (.int (1 : Int32)), .unset] [(.long (t0_1 q1)), (.double (t3_1 (q1 + (-7046029254386353131 : Int64))))])) _
    refine st13 _ ?_
    show Steps p.tables e below (T13.setTop (mkF m 76 #[.val (.long q1), .second, .val (.ref b2), .val (.ref b4), .val (.double (t3_1 q1)), .second, .val (.long (t0_0 q1)), .second, .val (.double (t3_1 (q1 + (-7046029254386353131 : Int64)))), .second, .val (.long (t0_1 q1)), .second, .val (.long (t0_2 q1)), .second, .val (.long (t0_2 q1)), .second, .val (.int (1 : Int32)), .unset] [(.int (1 : Int32))])) _
    refine XS.istore X13.here hx rfl (hb hby at_76) rfl (l' := #[.val (.long q1), .second, .val (.ref b2), .val (.ref b4), .val (.double (t3_1 q1)), .second, .val (.long (t0_0 q1)), .second, .val (.double (t3_1 (q1 + (-7046029254386353131 : Int64)))), .second, .val (.long (t0_1 q1)), .second, .val (.long (t0_2 q1)), .second, .val (.long (t0_2 q1)), .second, .val (.int (1 : Int32)), .val (.int (1 : Int32))]) rfl ?_
    show Steps p.tables e below (T13.setTop (mkF m 78 #[.val (.long q1), .second, .val (.ref b2), .val (.ref b4), .val (.double (t3_1 q1)), .second, .val (.long (t0_0 q1)), .second, .val (.double (t3_1 (q1 + (-7046029254386353131 : Int64)))), .second, .val (.long (t0_1 q1)), .second, .val (.long (t0_2 q1)), .second, .val (.long (t0_2 q1)), .second, .val (.int (1 : Int32)), .val (.int (1 : Int32))] [])) _
    refine XS.iload X13.here hx rfl (hb hby at_78) rfl ?_
    show Steps p.tables e below (T13.setTop (mkF m 80 #[.val (.long q1), .second, .val (.ref b2), .val (.ref b4), .val (.double (t3_1 q1)), .second, .val (.long (t0_0 q1)), .second, .val (.double (t3_1 (q1 + (-7046029254386353131 : Int64)))), .second, .val (.long (t0_1 q1)), .second, .val (.long (t0_2 q1)), .second, .val (.long (t0_2 q1)), .second, .val (.int (1 : Int32)), .val (.int (1 : Int32))] [(.int (1 : Int32))])) _
    refine XS.ifNo X13.here hx rfl (hb hby at_80) rfl ((if0 _ _).trans (feq (by decide : ¬ ((1 : Int32) = (0 : Int32)))).1) ?_
    show Steps p.tables e below (T13.setTop (mkF m 83 #[.val (.long q1), .second, .val (.ref b2), .val (.ref b4), .val (.double (t3_1 q1)), .second, .val (.long (t0_0 q1)), .second, .val (.double (t3_1 (q1 + (-7046029254386353131 : Int64)))), .second, .val (.long (t0_1 q1)), .second, .val (.long (t0_2 q1)), .second, .val (.long (t0_2 q1)), .second, .val (.int (1 : Int32)), .val (.int (1 : Int32))] [])) _
    refine XS.iload X13.here hx rfl (hb hby at_83) rfl ?_
    show Steps p.tables e below (T13.setTop (mkF m 85 #[.val (.long q1), .second, .val (.ref b2), .val (.ref b4), .val (.double (t3_1 q1)), .second, .val (.long (t0_0 q1)), .second, .val (.double (t3_1 (q1 + (-7046029254386353131 : Int64)))), .second, .val (.long (t0_1 q1)), .second, .val (.long (t0_2 q1)), .second, .val (.long (t0_2 q1)), .second, .val (.int (1 : Int32)), .val (.int (1 : Int32))] [(.int (1 : Int32))])) _
    refine XS.ifNo X13.here hx rfl (hb hby at_85) rfl ((if0 _ _).trans (feq (by decide : ¬ ((1 : Int32) = (0 : Int32)))).1) ?_
    show Steps p.tables e below (T13.setTop (mkF m 88 #[.val (.long q1), .second, .val (.ref b2), .val (.ref b4), .val (.double (t3_1 q1)), .second, .val (.long (t0_0 q1)), .second, .val (.double (t3_1 (q1 + (-7046029254386353131 : Int64)))), .second, .val (.long (t0_1 q1)), .second, .val (.long (t0_2 q1)), .second, .val (.long (t0_2 q1)), .second, .val (.int (1 : Int32)), .val (.int (1 : Int32))] [])) _
    refine XS.lload X13.here hx rfl (hb hby at_88) rfl ?_
    show Steps p.tables e below (T13.setTop (mkF m 90 #[.val (.long q1), .second, .val (.ref b2), .val (.ref b4), .val (.double (t3_1 q1)), .second, .val (.long (t0_0 q1)), .second, .val (.double (t3_1 (q1 + (-7046029254386353131 : Int64)))), .second, .val (.long (t0_1 q1)), .second, .val (.long (t0_2 q1)), .second, .val (.long (t0_2 q1)), .second, .val (.int (1 : Int32)), .val (.int (1 : Int32))] [(.long (t0_2 q1))])) _
    refine XS.lload X13.here hx rfl (hb hby at_90) rfl ?_
    show Steps p.tables e below (T13.setTop (mkF m 92 #[.val (.long q1), .second, .val (.ref b2), .val (.ref b4), .val (.double (t3_1 q1)), .second, .val (.long (t0_0 q1)), .second, .val (.double (t3_1 (q1 + (-7046029254386353131 : Int64)))), .second, .val (.long (t0_1 q1)), .second, .val (.long (t0_2 q1)), .second, .val (.long (t0_2 q1)), .second, .val (.int (1 : Int32)), .val (.int (1 : Int32))] [(.long (t0_2 q1)), (.long (t0_2 q1))])) _
    refine XS.lcmp X13.here hx rfl (hb hby at_92) rfl ?_
    show Steps p.tables e below (T13.setTop (mkF m 93 #[.val (.long q1), .second, .val (.ref b2), .val (.ref b4), .val (.double (t3_1 q1)), .second, .val (.long (t0_0 q1)), .second, .val (.double (t3_1 (q1 + (-7046029254386353131 : Int64)))), .second, .val (.long (t0_1 q1)), .second, .val (.long (t0_2 q1)), .second, .val (.long (t0_2 q1)), .second, .val (.int (1 : Int32)), .val (.int (1 : Int32))] [(.int (lcmpW (t0_2 q1) (t0_2 q1)))])) _
    refine XS.ifNo X13.here hx rfl (hb hby at_93) rfl ((if0 _ _).trans (teq (show (lcmpW (t0_2 q1) (t0_2 q1)) = (0 : Int32) from (lw_eq _ _).mpr rfl)).2) ?_
    show Steps p.tables e below (T13.setTop (mkF m 96 #[.val (.long q1), .second, .val (.ref b2), .val (.ref b4), .val (.double (t3_1 q1)), .second, .val (.long (t0_0 q1)), .second, .val (.double (t3_1 (q1 + (-7046029254386353131 : Int64)))), .second, .val (.long (t0_1 q1)), .second, .val (.long (t0_2 q1)), .second, .val (.long (t0_2 q1)), .second, .val (.int (1 : Int32)), .val (.int (1 : Int32))] [])) _
    refine XS.iconst X13.here hx rfl (hb hby at_96) ?_
    show Steps p.tables e below (T13.setTop (mkF m 97 #[.val (.long q1), .second, .val (.ref b2), .val (.ref b4), .val (.double (t3_1 q1)), .second, .val (.long (t0_0 q1)), .second, .val (.double (t3_1 (q1 + (-7046029254386353131 : Int64)))), .second, .val (.long (t0_1 q1)), .second, .val (.long (t0_2 q1)), .second, .val (.long (t0_2 q1)), .second, .val (.int (1 : Int32)), .val (.int (1 : Int32))] [(.int (1 : Int32))])) _
    refine XS.goto X13.here hx rfl (pc0 := 97) (pc' := 101) rfl (hb hby at_97) (by decide) (by decide) ?_
    show Steps p.tables e below (T13.setTop (mkF m 101 #[.val (.long q1), .second, .val (.ref b2), .val (.ref b4), .val (.double (t3_1 q1)), .second, .val (.long (t0_0 q1)), .second, .val (.double (t3_1 (q1 + (-7046029254386353131 : Int64)))), .second, .val (.long (t0_1 q1)), .second, .val (.long (t0_2 q1)), .second, .val (.long (t0_2 q1)), .second, .val (.int (1 : Int32)), .val (.int (1 : Int32))] [(.int (1 : Int32))])) _
    exact retN X13 hx (t := .boolean) Bd.returns (by simp) (hb hby at_101) hr
  · show Q_rm0 Z q1 h0 n0 _ T13.heap _
    exact ⟨rfl, N13⟩
set_option maxRecDepth 65536 in
set_option maxHeartbeats 40000000 in
theorem comes_1 {Post : Tables → Env → Array Value → State → Outcome → State → Prop} (hpost : ∀ tb e args s v u, (limb_1_1.after args s (.returned v) u = true ∧ limb_1_2.after args s (.returned v) u = true ∧ True) → FrameEnd s (.returned v) u (Jvm.fieldLocs frame_1_writes args s ++ Jvm.arrayLocs frame_1_arrays args s ++ Jvm.staticLocs frame_1_statics s) 16 128 → Post tb e args s (.returned v) u) :
    ArmFor flags0 classFile x code maxLocals ret World_1 tables_1 room_1 Calls_1 rest_1 Pre_1 Post := by
  intro l hfl _ _ p e ha hc hk s m args below hf hA hF happ hP
  obtain ⟨hcalls, hrest, hpre⟩ := hP
  obtain ⟨-, -, -, hnamed, -, -, -, hat⟩ := (Spec.applies_iff hf).mp happ
  obtain ⟨hg, hn⟩ := and_e (Cond.before_iff.mp (show (Jvm.Cond.and given_1 narrow_1).before args s = true from hpre))
  obtain ⟨g1, g2⟩ := and_e hg
  obtain ⟨w0, rfl⟩ : ∃ w0 : Value, args = #[w0] := by
    have hs : args.size = 1 := by simpa [Cond.value, given_1] using g1
    obtain ⟨L⟩ := args
    match L, hs with
    | [w0], _ => exact ⟨w0, rfl⟩
  have hw := fun d (hd : d ∈ tables_1) => atoms_spec (ws := Jvm.Cond.code x code maxLocals ret :: tables_1) hat d (List.mem_cons_of_mem _ hd)
  have hfit : Fit s := fun {y c} hc i hi => by
    obtain ⟨ha, rfl⟩ := Array.getElem?_eq_some_iff.mp hc
    have q := List.all_eq_true.mp ((Array.all_eq_true_iff_forall_mem.mp hF) _ (Array.getElem_mem ha)) i (List.mem_range.mpr hi)
    simpa [Array.getElem?_eq_getElem hi] using q
  obtain ⟨i0, ei0⟩ := isL_v g2
  obtain rfl : w0 = (.long i0) := Option.some.inj ei0
  obtain ⟨n, o, h1, h2, h3, _, L, rfl, ⟨rfl, N⟩, hq⟩ := rm0 l s _ hw tables_1 i0 s.heap s.heap.size (Nat.le_refl _)  p e ha hc hk s m _ below hf ((Spec.applies_iff_loose hf).mp happ).1 ⟨rfl, State.Warmed39.refl s, rfl⟩ trivial
  refine ⟨n, _, h1, h2, h3, hpost _ _ _ _ _ _ ⟨Cond.after_iff.mpr rfl, Cond.after_iff.mpr (eq_i res_at (Term.int_eval (1)) rfl), trivial⟩ ⟨hq.1, hq.2.1, (hq.2.2.sift fun y hy => Or.inr (N y hy)).mono (by decide) (by decide)⟩⟩
theorem main_1_1 : Claimed_1_1 := comes_1 fun _ _ _ _ _ _ h hF => ⟨h.1, hF⟩
theorem main_1_2 : Claimed_1_2 := comes_1 fun _ _ _ _ _ _ h hF => ⟨h.2.1, hF⟩
end Jvm.Pilot.@@N@@
namespace Jvm.Pilot.@@N@@
open Jvm Jvm.ClassFile Sem Op Lib Jvm.Free Jvm.Stand Jvm.Pilot.@@N@@.Jvm.D
/-! MADE BY PROGRAM (witnessworld.py) out of the Statement's table words and the real class files: 9 classes; the members and pool entries that the words name. The judged class is class 1, her method 1. -/
namespace start1
open Jvm.ClassFile
def u (s : String) : CpInfo := .utf8 (stringToUtf16 s)
/-- a pool by its gaps: so many unusable entries, then the entry; so many at the end -/
def gap : Nat → List CpInfo → List CpInfo
  | 0, r => r
  | n + 1, r => .unusable :: gap n r
def poolList (es : List (Nat × CpInfo)) (last : Nat) : List CpInfo := es.foldr (fun e r => gap e.1 (e.2 :: r)) (gap last [])
def pool (es : List (Nat × CpInfo)) (last : Nat) : Array CpInfo := ⟨poolList es last⟩
def fileOf (pool : Array CpInfo) (this : Nat) (attrs : Array Attribute := #[]) (ms : Array MethodInfo := #[]) (fl : Nat := 33) (sup : Nat := 0) (ifs : Array Nat := #[]) (fds : Array FieldInfo := #[]) : ClassFile where
  minorVersion := 0
  majorVersion := 65
  constantPool := pool
  accessFlags := fl
  thisClass := this
  superClass := sup
  interfaces := ifs
  fields := fds
  methods := ms
  attributes := attrs
def plain (name : String) (sup : Option ClassId) : Class where
  name := name
  kind := .ordinary
  loader := none
  accessFlags := 33
  super := sup
  interfaces := #[]
  cf := none
  fields := #[]
  methods := #[]
  instanceTypes := #[]
  staticTypes := #[]
  resolved := #[]
  callSites := []
  init := .initialized
  statics := none
  mirror := none

def pool0 : Array CpInfo := pool [(5, u "<init>"), (0, u "()V"), (1, .class_ 10), (1, u "java/lang/Object")] 113

def k0c0 : Code := { maxStack := 0, maxLocals := 1, code := object_method_1_code, exceptionTable := #[], attributes := #[] }
def k0m0 : Method := { name := "<init>", desc := "()V", sig := { parameters := [], returnType := none }, accessFlags := 1, code := some k0c0 }
/-- java/lang/Object -/
def k0 : Class := { plain "java/lang/Object" none with
  accessFlags := 33
  interfaces := #[]
  cf := some (fileOf pool0 8 #[] #[{ accessFlags := 1, nameIndex := 5, descriptorIndex := 6, attributes := #[] }] 33 0 #[] #[])
  fields := #[]
  methods := #[k0m0]
  instanceTypes := #[]
  staticTypes := #[]
  resolved := Array.replicate 124 none
  statics := none }

def pool1 : Array CpInfo := pool [(2, .class_ 4), (1, u "java/lang/Object"), (0, u "<init>"), (0, u "()V"), (0, .class_ 8), (0, u "com/example/switchyard/switchyard/model/SeededRandom"), (0, .methodref 7 10), (0, .nameAndType 5 11), (0, u "(J)V"), (0, .methodref 7 13), (0, .nameAndType 14 15), (0, u "nextDouble"), (0, u "()D"), (0, .methodref 7 17), (0, .nameAndType 18 19), (0, u "nextLong"), (0, u "()J"), (0, .methodref 21 22), (0, .class_ 23), (0, .nameAndType 24 25), (0, u "com/example/switchyard/switchyard/model/SeededRandomNextDoublePinLaw"), (0, u "matches"), (0, u "(DJ)Z"), (0, .double 4845873199050653696), (3, u "law"), (0, u "(J)Z")] 3

def k1m0 : Method := { name := "<init>", desc := "()V", sig := { parameters := [], returnType := none }, accessFlags := 1, code := none }
def k1c1 : Code := { maxStack := 4, maxLocals := 18, code := code, exceptionTable := #[], attributes := #[] }
def k1m1 : Method := { name := "law", desc := "(J)Z", sig := { parameters := [.long], returnType := some .boolean }, accessFlags := 9, code := some k1c1 }
def k1c2 : Code := { maxStack := 4, maxLocals := 8, code := method_3_code, exceptionTable := #[], attributes := #[] }
def k1m2 : Method := { name := "matches", desc := "(DJ)Z", sig := { parameters := [.double, .long], returnType := some .boolean }, accessFlags := 10, code := some k1c2 }
/-- com/example/switchyard/switchyard/model/SeededRandomNextDoublePinLaw -/
def k1 : Class := { plain "com/example/switchyard/switchyard/model/SeededRandomNextDoublePinLaw" (some 0) with
  accessFlags := 49
  interfaces := #[]
  cf := some (fileOf pool1 21 #[] #[{ accessFlags := 1, nameIndex := 5, descriptorIndex := 6, attributes := #[] }, { accessFlags := 9, nameIndex := 30, descriptorIndex := 31, attributes := #[] }, { accessFlags := 10, nameIndex := 24, descriptorIndex := 25, attributes := #[] }] 49 2 #[] #[])
  fields := #[]
  methods := #[k1m0, k1m1, k1m2]
  instanceTypes := #[]
  staticTypes := #[]
  resolved := Array.replicate 35 none
  statics := none }

def pool2 : Array CpInfo := pool [(1, .methodref 2 3), (0, .class_ 4), (0, .nameAndType 5 6), (0, u "java/lang/Object"), (0, u "<init>"), (0, u "()V"), (0, .fieldref 8 9), (0, .class_ 10), (0, .nameAndType 11 12), (0, u "com/example/switchyard/switchyard/model/SeededRandom"), (0, u "state"), (0, u "J"), (0, .long 11400714819323198485), (1, .long 13787848793156543929), (1, .long 10723151780598845931), (1, .methodref 8 20), (0, .nameAndType 21 22), (0, u "nextLong"), (0, u "()J"), (0, .double 4368491638549381120), (3, u "nextDouble"), (0, u "()D"), (16, u "GAMMA"), (1, u "(J)V")] 10

def k2c0 : Code := { maxStack := 3, maxLocals := 3, code := prog_11_method_1_code, exceptionTable := #[], attributes := #[] }
def k2m0 : Method := { name := "<init>", desc := "(J)V", sig := { parameters := [.long], returnType := none }, accessFlags := 0, code := some k2c0 }
def k2c1 : Code := { maxStack := 5, maxLocals := 3, code := prog_11_method_2_code, exceptionTable := #[], attributes := #[] }
def k2m1 : Method := { name := "nextLong", desc := "()J", sig := { parameters := [], returnType := some .long }, accessFlags := 0, code := some k2c1 }
def k2c2 : Code := { maxStack := 4, maxLocals := 1, code := prog_11_method_3_code, exceptionTable := #[], attributes := #[] }
def k2m2 : Method := { name := "nextDouble", desc := "()D", sig := { parameters := [], returnType := some .double }, accessFlags := 0, code := some k2c2 }
/-- com/example/switchyard/switchyard/model/SeededRandom -/
def k2 : Class := { plain "com/example/switchyard/switchyard/model/SeededRandom" (some 0) with
  accessFlags := 48
  interfaces := #[]
  cf := some (fileOf pool2 8 #[] #[{ accessFlags := 0, nameIndex := 5, descriptorIndex := 47, attributes := #[] }, { accessFlags := 0, nameIndex := 21, descriptorIndex := 22, attributes := #[] }, { accessFlags := 0, nameIndex := 27, descriptorIndex := 28, attributes := #[] }] 48 2 #[] #[{ accessFlags := 26, nameIndex := 45, descriptorIndex := 12, attributes := #[] }, { accessFlags := 2, nameIndex := 11, descriptorIndex := 12, attributes := #[] }])
  fields := #[{ name := "GAMMA", type := .long, accessFlags := 26, slot := 0, constantValue := 0 }, { name := "state", type := .long, accessFlags := 2, slot := 0, constantValue := 0 }]
  methods := #[k2m0, k2m1, k2m2]
  instanceTypes := #[.long]
  staticTypes := #[.long]
  resolved := Array.replicate 58 none
  statics := none }

def pool3 : Array CpInfo := pool [(1, u "java/lang/Cloneable"), (0, .class_ 1), (0, u "java/lang/Object"), (0, .class_ 3)] 3

/-- java/lang/Cloneable -/
def k3 : Class := { plain "java/lang/Cloneable" (some 0) with
  accessFlags := 1537
  interfaces := #[]
  cf := some (fileOf pool3 2 #[] #[] 1537 4 #[] #[])
  fields := #[]
  methods := #[]
  instanceTypes := #[]
  staticTypes := #[]
  resolved := Array.replicate 8 none
  statics := none }

def pool4 : Array CpInfo := pool [(1, u "java/io/Serializable"), (0, .class_ 1), (0, u "java/lang/Object"), (0, .class_ 3)] 3

/-- java/io/Serializable -/
def k4 : Class := { plain "java/io/Serializable" (some 0) with
  accessFlags := 1537
  interfaces := #[]
  cf := some (fileOf pool4 2 #[] #[] 1537 4 #[] #[])
  fields := #[]
  methods := #[]
  instanceTypes := #[]
  staticTypes := #[]
  resolved := Array.replicate 8 none
  statics := none }

/-- the primitive byte -/
def k5 : Class := { plain "byte" none with kind := .primitive 'B', accessFlags := 0x411 }
/-- [B -/
def k6 : Class := { plain "[B" (some 0) with kind := .array 5 .byte, interfaces := #[3, 4], accessFlags := 1041 }

/-- the primitive int -/
def k7 : Class := { plain "int" none with kind := .primitive 'I', accessFlags := 0x411 }
/-- [I -/
def k8 : Class := { plain "[I" (some 0) with kind := .array 7 .int, interfaces := #[3, 4], accessFlags := 1041 }

def heap : Heap := #[]
def classes : Array Class := #[k0, k1, k2, k3, k4, k5, k6, k7, k8]
def interned : List (Array UInt16 × Addr) := []
def slotsUsed : Nat := 0
def theMethod : MethodId := ⟨1, 1⟩
def args0 : Array Value := #[.long 5]
def aboutOver (below : List Frame) : State where
  vm := { classes := classes, interned := interned.toArray }
  heap := heap
  slotsUsed := slotsUsed
  threads := #[{ frames := .invoking theMethod args0 :: below }]
def below0 : List Frame := [.native { method := ⟨0, 0⟩, args := #[] }]
def about1 : State := aboutOver below0
def p0 : Program := .bare "" "" ""
def e0 : Env := launch0.env 0 0 0
theorem w_frames : about1.frames = Frame.invoking theMethod args0 :: below0 := rfl
set_option maxRecDepth 65536 in
theorem w_args : argsFit about1.vm theMethod args0 = true := by decide +kernel
set_option maxRecDepth 65536 in
theorem w_heap : heapFits about1 = true := by decide +kernel
set_option maxRecDepth 65536 in
theorem w_runnable : about1.curStatus? = some .runnable := by decide +kernel
set_option maxRecDepth 65536 in
theorem w_alone : about1.alone = true := by decide +kernel
set_option maxRecDepth 65536 in
theorem w_named : about1.methodNamed? x = some theMethod := by decide +kernel
set_option maxRecDepth 65536 in
theorem w_hears : about1.hears theMethod below0 = true := by decide +kernel
set_option maxRecDepth 65536 in
theorem w_ripe : about1.ripe theMethod args0 below0 = true := by decide +kernel
theorem w_running : about1.status = .running := rfl
set_option maxRecDepth 65536 in
theorem w_room : about1.hasRoom e0.platform room_1 = true :=
  launch0.hasRoom_least _ room_1 (by decide +kernel) (by decide +kernel) (by decide +kernel) (by decide +kernel) (by decide +kernel) (by decide +kernel)
theorem allAtoms_all (ts : List Jvm.Cond) (a : Array Jvm.Value) (st : Jvm.State) : (allAtoms ts).before a st = ts.all (fun c => c.before a st) := by
  induction ts with
  | nil => rfl
  | cons c t ih =>
    show (Jvm.Cond.and c (allAtoms t)).before a st = _
    rw [Jvm.Cond.before_and, ih, List.all_cons]
def words1 : List Jvm.Cond := Jvm.Cond.code x code maxLocals ret :: tables_1
/-- a 'code' word, met by the world's own term for the bytes: nothing is compared byte by byte -/
theorem code_word {y : MethodName} {bytes : ByteArray} {mx : Nat} {rt : Option FieldType} {a : Array Value} {s : State} {m : MethodId} {meth : Method} {c : Code} (h1 : s.methodNamed? y = some m) (h2 : s.vm.method? m = some meth) (h3 : meth.code = some c) (h4 : c.code = bytes)
    (h5 : (c.maxLocals == mx && c.exceptionTable.isEmpty && decide (c.maxStack ≤ mostOperands) && decide (meth.sig.returnType = rt) && !meth.locks && decide (parseMethodDescriptor y.desc = some meth.sig)) = true) : (Jvm.Cond.code y bytes mx rt).before a s = true := by
  simp only [Bool.and_eq_true, beq_iff_eq, Bool.not_eq_true', decide_eq_true_eq] at h5
  obtain ⟨⟨⟨⟨⟨g1, g2⟩, g3⟩, g4⟩, g5⟩, g6⟩ := h5
  simp [Cond.before, Cond.holds, Cond.value, h1, h2, h3, h4, g1, g2, g3, g4, g5, g6]
def isCode : Jvm.Cond → Bool
  | .code _ _ _ _ => true
  | _ => false
theorem all_split {L : List Jvm.Cond} {P : Jvm.Cond → Bool} (h1 : L.all (fun c => isCode c || P c) = true) (h2 : ∀ c ∈ L.filter isCode, P c = true) : L.all P = true := by
  refine List.all_eq_true.mpr fun c hc => ?_
  have h := List.all_eq_true.mp h1 c hc
  rcases Bool.eq_false_or_eq_true (isCode c) with hi | hi
  · exact h2 c (List.mem_filter.mpr ⟨hc, hi⟩)
  · simpa [hi] using h
set_option maxRecDepth 65536 in
theorem w_c0 : (Jvm.Cond.code x code maxLocals ret).before args0 about1 = true := code_word (m := ⟨1, 1⟩) (meth := k1m1) (c := k1c1) (by decide +kernel) rfl rfl rfl (by decide +kernel)
set_option maxRecDepth 65536 in
theorem w_c1 : (Jvm.Cond.code ({ cls := "com/example/switchyard/switchyard/model/SeededRandom", name := "<init>", desc := "(J)V" } : Jvm.MethodName) prog_11_method_1_code (3 : Nat) (Option.none : Option Jvm.ClassFile.FieldType)).before args0 about1 = true := code_word (m := ⟨2, 0⟩) (meth := k2m0) (c := k2c0) (by decide +kernel) rfl rfl rfl (by decide +kernel)
set_option maxRecDepth 65536 in
theorem w_c2 : (Jvm.Cond.code ({ cls := "java/lang/Object", name := "<init>", desc := "()V" } : Jvm.MethodName) object_method_1_code (1 : Nat) (Option.none : Option Jvm.ClassFile.FieldType)).before args0 about1 = true := code_word (m := ⟨0, 0⟩) (meth := k0m0) (c := k0c0) (by decide +kernel) rfl rfl rfl (by decide +kernel)
set_option maxRecDepth 65536 in
theorem w_c3 : (Jvm.Cond.code ({ cls := "com/example/switchyard/switchyard/model/SeededRandom", name := "nextDouble", desc := "()D" } : Jvm.MethodName) prog_11_method_3_code (1 : Nat) (Option.some Jvm.ClassFile.FieldType.double)).before args0 about1 = true := code_word (m := ⟨2, 2⟩) (meth := k2m2) (c := k2c2) (by decide +kernel) rfl rfl rfl (by decide +kernel)
set_option maxRecDepth 65536 in
theorem w_c4 : (Jvm.Cond.code ({ cls := "com/example/switchyard/switchyard/model/SeededRandom", name := "nextLong", desc := "()J" } : Jvm.MethodName) prog_11_method_2_code (3 : Nat) (Option.some Jvm.ClassFile.FieldType.long)).before args0 about1 = true := code_word (m := ⟨2, 1⟩) (meth := k2m1) (c := k2c1) (by decide +kernel) rfl rfl rfl (by decide +kernel)
set_option maxRecDepth 65536 in
theorem w_c5 : (Jvm.Cond.code ({ cls := "com/example/switchyard/switchyard/model/SeededRandomNextDoublePinLaw", name := "matches", desc := "(DJ)Z" } : Jvm.MethodName) method_3_code (8 : Nat) (Option.some Jvm.ClassFile.FieldType.boolean)).before args0 about1 = true := code_word (m := ⟨1, 2⟩) (meth := k1m2) (c := k1c2) (by decide +kernel) rfl rfl rfl (by decide +kernel)
def codes1 : List Jvm.Cond := [Jvm.Cond.code x code maxLocals ret, Jvm.Cond.code ({ cls := "com/example/switchyard/switchyard/model/SeededRandom", name := "<init>", desc := "(J)V" } : Jvm.MethodName) prog_11_method_1_code (3 : Nat) (Option.none : Option Jvm.ClassFile.FieldType), Jvm.Cond.code ({ cls := "java/lang/Object", name := "<init>", desc := "()V" } : Jvm.MethodName) object_method_1_code (1 : Nat) (Option.none : Option Jvm.ClassFile.FieldType), Jvm.Cond.code ({ cls := "com/example/switchyard/switchyard/model/SeededRandom", name := "nextDouble", desc := "()D" } : Jvm.MethodName) prog_11_method_3_code (1 : Nat) (Option.some Jvm.ClassFile.FieldType.double), Jvm.Cond.code ({ cls := "com/example/switchyard/switchyard/model/SeededRandom", name := "nextLong", desc := "()J" } : Jvm.MethodName) prog_11_method_2_code (3 : Nat) (Option.some Jvm.ClassFile.FieldType.long), Jvm.Cond.code ({ cls := "com/example/switchyard/switchyard/model/SeededRandomNextDoublePinLaw", name := "matches", desc := "(DJ)Z" } : Jvm.MethodName) method_3_code (8 : Nat) (Option.some Jvm.ClassFile.FieldType.boolean)]
set_option maxRecDepth 65536 in
theorem codes_eq : words1.filter isCode = codes1 := rfl
theorem w_codes : ∀ c ∈ words1.filter isCode, c.before args0 about1 = true := by
  rw [codes_eq]
  intro c hc
  simp only [codes1, List.mem_cons, List.not_mem_nil, or_false] at hc
  rcases hc with rfl | rfl | rfl | rfl | rfl | rfl
  · exact w_c0
  · exact w_c1
  · exact w_c2
  · exact w_c3
  · exact w_c4
  · exact w_c5
set_option maxRecDepth 65536 in
theorem w_t1 : (words1.take 24).all (fun c => isCode c || c.before args0 about1) = true := by decide +kernel
set_option maxRecDepth 65536 in
theorem w_t2 : (words1.drop 24).all (fun c => isCode c || c.before args0 about1) = true := by decide +kernel
theorem w_tables : (allAtoms (Jvm.Cond.code x code maxLocals ret :: tables_1)).before args0 about1 = true := by
  rw [allAtoms_all]
  show words1.all (fun c => c.before args0 about1) = true
  refine all_split ?_ w_codes
  rw [← List.take_append_drop 24 words1, List.all_append, w_t1, w_t2]
  rfl
set_option maxRecDepth 65536 in
theorem w_case : (Jvm.Cond.and given_1 narrow_1).before args0 about1 = true := by decide +kernel
theorem w_applies : (headSpec (Jvm.Cond.code x code maxLocals ret :: tables_1) room_1).applies x e0.platform about1 = true :=
  (Spec.applies_iff w_frames).mpr ⟨w_running, w_runnable, w_alone, w_named, w_hears, w_ripe, w_room, w_tables⟩
theorem atStart : AtStart classFile x code maxLocals ret World_1 tables_1 room_1 Calls_1 rest_1 Pre_1 launch0 p0 e0 about1 theMethod args0 below0 :=
  ⟨lists_1, trivial, launch0.admits_env _ _ _, launch0.least_env, fairChoices_fair.cas, fairChoices_fair.clock, w_frames, w_args, w_heap, w_applies, trivial, trivial, w_case⟩
end start1
theorem witness_1 : WitnessClaimed_1 := ⟨start1.p0, start1.e0, start1.about1, start1.theMethod, start1.args0, start1.below0, start1.atStart⟩
end Jvm.Pilot.@@N@@
